import JvmDerived
import JvmDerived.Pilot.@@N@@Statement
import JvmDerived.Pilot.@@N@@Code
set_option linter.unusedVariables false
set_option linter.unusedSimpArgs false
namespace Jvm.RoadKit
open Sem ClassFile Op Lib Jvm.Stand Jvm.Free Jvm.LawKit
section New
variable {p : Program} {l : Launch} {e : Env} {R : Room} {s : State} {m : MethodId} {args : Array Value} {below : List Frame} {meth : Method} {c : Code} {T : State} {locs : List Loc} {cells slots : Nat} {K : Outcome → State → Prop}
theorem retI (X : Stand p l e R s m args below meth c T locs cells slots) (hx : p.tables.exec = Jvm.exec) {pc : Nat} {Ls : Array Slot} {z : Int32} {rest : List Value} (hret : meth.sig.returnType = some .int) (hd : decode c.code pc = .ok (.ireturn, 1)) {fs : List Frame}
    (hl : ∀ (f : JFrame) (acts : List Action), f.method = m → f.locked = none → f.entered = [] → (doReturn e (T.setTop f) acts (some (.int z))).1 = T.setFrames fs) : Steps p.tables e below (T.setTop (mkF m pc Ls (.int z :: rest))) (T.setFrames fs) := by
  have hm' : T.vm.method? m = some meth := X.method'
  have hn : narrow .int (.int z) = .int z := rfl
  show Steps p.tables e below (T.setTop { method := m, pc := pc, locals := Ls, stack := _ :: rest, locked := none }) _
  jvm_step X.here [X.here.top, hx, hd, hm', hret, hn]
  first | (intro acts; rw [hl _ acts rfl rfl rfl]) | rw [hl _ _ rfl rfl rfl]
  exact Steps.refl _
/-- from here the run comes to an end that K holds of -/
def Rch (p : Program) (e : Env) (below : List Frame) (K : Outcome → State → Prop) (T : State) (g : JFrame) : Prop := ∃ s₂ o, Steps p.tables e below (T.setTop g) s₂ ∧ s₂.status = .running ∧ Ended s₂ below o ∧ K o s₂
theorem Rch.of {T T' : State} {g g' : JFrame} (h : ∀ t, Steps p.tables e below (T'.setTop g') t → Steps p.tables e below (T.setTop g) t) (k : Rch p e below K T' g') : Rch p e below K T g := by
  obtain ⟨s₂, o, h1, h2⟩ := k
  exact ⟨s₂, o, h _ h1, h2⟩
theorem Rch.via {T T' : State} {g g' : JFrame} (h : Steps p.tables e below (T.setTop g) (T'.setTop g')) (k : Rch p e below K T' g') : Rch p e below K T g := Rch.of (fun _ kt => h.trans kt) k
theorem Rch.cast {T : State} {g g' : JFrame} (q : g = g') (k : Rch p e below K T g') : Rch p e below K T g := q ▸ k
theorem Rch.retN (X : Stand p l e R s m args below meth c T locs cells slots) (hx : p.tables.exec = Jvm.exec) {pc : Nat} {Ls : Array Slot} {z : Int32} {t : FieldType} {rest : List Value} (hret : meth.sig.returnType = some t) (ht : t = .boolean ∨ t = .byte ∨ t = .char ∨ t = .short) (hlk : meth.locks = false) (hd : decode c.code pc = .ok (.ireturn, 1))
    (k : ∀ U : State, U.heap = T.heap → FrameEnd s (.returned (some (.int (nar t z)))) U locs cells slots → K (.returned (some (.int (nar t z)))) U) : Rch p e below K T (mkF m pc Ls (.int z :: rest)) := by
  obtain ⟨fs, hr, hrun, hended, hW, hsame⟩ := X.leave (v := some (.int (nar t z))) (fun h => by rw [hret] at h; cases h) hlk
  exact ⟨_, _, Jvm.RoadKit.retN X hx hret ht hd hr, hrun, hended, k _ rfl ⟨⟨_, rfl⟩, hW, hsame⟩⟩
theorem Rch.retI (X : Stand p l e R s m args below meth c T locs cells slots) (hx : p.tables.exec = Jvm.exec) {pc : Nat} {Ls : Array Slot} {z : Int32} {rest : List Value} (hret : meth.sig.returnType = some .int) (hlk : meth.locks = false) (hd : decode c.code pc = .ok (.ireturn, 1))
    (k : ∀ U : State, U.heap = T.heap → FrameEnd s (.returned (some (.int z))) U locs cells slots → K (.returned (some (.int z))) U) : Rch p e below K T (mkF m pc Ls (.int z :: rest)) := by
  obtain ⟨fs, hr, hrun, hended, hW, hsame⟩ := X.leave (v := some (.int z)) (fun h => by rw [hret] at h; cases h) hlk
  exact ⟨_, _, Jvm.RoadKit.retI X hx hret hd hr, hrun, hended, k _ rfl ⟨⟨_, rfl⟩, hW, hsame⟩⟩
theorem Rch.retJ (X : Stand p l e R s m args below meth c T locs cells slots) (hx : p.tables.exec = Jvm.exec) {pc : Nat} {Ls : Array Slot} {z : Int64} {rest : List Value} (hret : meth.sig.returnType = some .long) (hlk : meth.locks = false) (hd : decode c.code pc = .ok (.lreturn, 1))
    (k : ∀ U : State, U.heap = T.heap → FrameEnd s (.returned (some (.long z))) U locs cells slots → K (.returned (some (.long z))) U) : Rch p e below K T (mkF m pc Ls (.long z :: rest)) := by
  obtain ⟨fs, hr, hrun, hended, hW, hsame⟩ := X.leave (v := some (.long z)) (fun h => by rw [hret] at h; cases h) hlk
  exact ⟨_, _, retOut X hx hret rfl (Or.inr (Or.inl ⟨rfl, rfl, z, rfl⟩)) hd hr, hrun, hended, k _ rfl ⟨⟨_, rfl⟩, hW, hsame⟩⟩
theorem Rch.retA (X : Stand p l e R s m args below meth c T locs cells slots) (hx : p.tables.exec = Jvm.exec) {pc : Nat} {Ls : Array Slot} {w : Value} {t : FieldType} {rest : List Value} (hret : meth.sig.returnType = some t) (ht : t.isReference = true) (hw : w.isRef = true) (hlk : meth.locks = false) (hd : decode c.code pc = .ok (.areturn, 1))
    (k : ∀ U : State, U.heap = T.heap → FrameEnd s (.returned (some w)) U locs cells slots → K (.returned (some w)) U) : Rch p e below K T (mkF m pc Ls (w :: rest)) := by
  obtain ⟨fs, hr, hrun, hended, hW, hsame⟩ := X.leave (v := some w) (fun h => by rw [hret] at h; cases h) hlk
  have hn : narrow t w = w := by
    rcases ref_cases hw with rfl | ⟨a, rfl⟩ <;> cases t <;> first | rfl | (simp [FieldType.isReference] at ht)
  exact ⟨_, _, retOut X hx hret hn (Or.inr (Or.inr (Or.inr (Or.inr ⟨rfl, ht, hw⟩)))) hd hr, hrun, hended, k _ rfl ⟨⟨_, rfl⟩, hW, hsame⟩⟩
theorem Rch.retV (X : Stand p l e R s m args below meth c T locs cells slots) (hx : p.tables.exec = Jvm.exec) {pc : Nat} {Ls : Array Slot} (hret : meth.sig.returnType = none) (hlk : meth.locks = false) (hd : decode c.code pc = .ok (.return_, 1))
    (k : ∀ U : State, U.heap = T.heap → FrameEnd s (.returned none) U locs cells slots → K (.returned none) U) : Rch p e below K T (mkF m pc Ls []) := by
  obtain ⟨fs, hr, hrun, hended, hW, hsame⟩ := X.leave (v := none) (fun _ => rfl) hlk
  exact ⟨_, _, X.returnOut hx hret hd hr, hrun, hended, k _ rfl ⟨⟨_, rfl⟩, hW, hsame⟩⟩
theorem own_met {y : MethodName} {bytes : ByteArray} {maxL : Nat} {ret : Option FieldType} {ws : List Cond} {rm : Room} {as' : Array Value} {Z : State} {h0 : Heap} {Q : Option Value → Heap → List Loc → Prop} {ck sk : Nat} (hn : plainFor y = true)
    (body : ∀ (p : Program) (e : Env) (s : State) (m : MethodId) (below : List Frame) (meth : Method) (c : Code) (T : State) (K : Outcome → State → Prop), p.tables.exec = Jvm.exec → c.code = bytes → c.maxLocals = maxL → meth.sig.returnType = ret → meth.locks = false → s.vm.findClass y.cls = some m.cls → meth.name = y.name → Z.Warmed39 s.vm → Stand p l e rm s m as' below meth c T [] 0 0 → T.heap = h0 →
      (∀ (v : Option Value) (U : State) (L : List Loc) (k n : Nat), Q v U.heap L → FrameEnd s (.returned v) U L k n → k ≤ ck → n ≤ sk → K (.returned v) U) → Rch p e below K T (entryFrame m as' maxL)) :
    MetFree l y (head1 (Cond.code y bytes maxL ret :: ws) rm) (fun a U => a = as' ∧ Z.Warmed39 U.vm ∧ U.heap = h0) (fun _ _ _ _ _ => True) (fun _ U o U' => ∃ v L, o = .returned v ∧ Q v U'.heap L ∧ FrameEnd U o U' L ck sk) := by
  refine MetFree.of_bodySF hn hisR ?_
  intro p e s m args below meth c s₁ Bd hml0 hP hK
  obtain ⟨rfl, hZ, hh⟩ := hP
  show Rch p e below (fun o U' => ∃ v L, o = .returned v ∧ Q v U'.heap L ∧ FrameEnd s o U' L ck sk) s₁ (entryFrame m args maxL)
  refine body p e s m below meth c s₁ _ Bd.exec Bd.bytes hml0 Bd.returns Bd.notSynchronized (findClass_of_methodNamed Bd.named) (name_of_methodNamed Bd.named Bd.method).1 hZ (Stand.of_body Bd) (by rw [← hh, Bd.state]; rfl) ?_
  intro v U L k n hQ hF hk hs
  exact ⟨v, L, rfl, hQ, hF.1, hF.2.1, hF.2.2.mono hk hs⟩
theorem own_metS {y : MethodName} {bytes : ByteArray} {maxL : Nat} {ret : Option FieldType} {ws : List Cond} {rm : Room} {as' : Array Value} {Z : State} {h0 : Heap} {Q : Option Value → Heap → List Loc → Prop} {ck sk : Nat} (hn : plainFor y = true)
    (body : ∀ (p : Program) (e : Env) (s : State) (m : MethodId) (below : List Frame) (meth : Method) (c : Code) (T : State) (K : Outcome → State → Prop), p.tables.exec = Jvm.exec → c.code = bytes → c.maxLocals = maxL → meth.sig.returnType = ret → meth.locks = false → s.vm.findClass y.cls = some m.cls → meth.name = y.name → Z.Warmed39 s.vm → Stand p l e rm s m as' below meth c T [] 0 0 → T.heap = h0 →
      (∀ (v : Option Value) (U : State) (L : List Loc) (k n : Nat), Q v U.heap L → ReturnedEndW s (.returned v) U L k n → k ≤ ck → n ≤ sk → K (.returned v) U) → Rch p e below K T (entryFrame m as' maxL)) :
    MetFree l y (head1 (Cond.code y bytes maxL ret :: ws) rm) (fun a U => a = as' ∧ Z.Warmed39 U.vm ∧ U.heap = h0) (fun _ _ _ _ _ => True) (fun _ U o U' => ∃ v L, o = .returned v ∧ Q v U'.heap L ∧ ReturnedEndW U o U' L ck sk) := by
  refine MetFree.of_bodySF hn hisR ?_
  intro p e s m args below meth c s₁ Bd hml0 hP hK
  obtain ⟨rfl, hZ, hh⟩ := hP
  show Rch p e below (fun o U' => ∃ v L, o = .returned v ∧ Q v U'.heap L ∧ ReturnedEndW s o U' L ck sk) s₁ (entryFrame m args maxL)
  refine body p e s m below meth c s₁ _ Bd.exec Bd.bytes hml0 Bd.returns Bd.notSynchronized (findClass_of_methodNamed Bd.named) (name_of_methodNamed Bd.named Bd.method).1 hZ (Stand.of_body Bd) (by rw [← hh, Bd.state]; rfl) ?_
  intro v U L k n hQ hF hk hs
  exact ⟨v, L, rfl, hQ, hF.1, hF.2.1, hF.2.2.1, hF.2.2.2.mono hk hs⟩
theorem own_end {vm1 : Vm} {n : Nat} (h : s.Since vm1 n) {U : State} {o : Outcome} {L : List Loc} {k c : Nat} (hn : n ≤ U.heap.size) (F : FrameEnd (s.setVm vm1) o U L k c) : ReturnedEndW s o U L k c := by
  obtain ⟨h1, h2, h3⟩ := F
  obtain ⟨g1, g2, g3⟩ := h.ended h2 hn h3
  exact ⟨h1, g1, g2, g3⟩
theorem own_narrowZ {z : Int32} (h : z = 0 ∨ z = 1) : narrow .boolean (.int z) = .int z := by rcases h with rfl | rfl <;> rfl
theorem own_fitZ {z : Int32} (h : z = 0 ∨ z = 1) : fits .boolean (.int z) = true := by rcases h with rfl | rfl <;> rfl
theorem own_narZ {z : Int32} (h : z = 0 ∨ z = 1) : nar .boolean z = z := by rcases h with rfl | rfl <;> rfl
/-- a truth as an int -/
def ob (P : Prop) [Decidable P] : Int32 := if P then 1 else 0
theorem ob_cases (P : Prop) [Decidable P] : (ob P = 1 ∧ P) ∨ (ob P = 0 ∧ ¬ P) := by
  by_cases h : P
  · exact Or.inl ⟨if_pos h, h⟩
  · exact Or.inr ⟨if_neg h, h⟩
theorem ob01 (P : Prop) [Decidable P] : ob P = 0 ∨ ob P = 1 := (ob_cases P).elim (fun h => Or.inr h.1) (fun h => Or.inl h.1)
theorem ob_pos {P : Prop} [Decidable P] (h : P) : ob P = 1 := if_pos h
theorem ob_neg {P : Prop} [Decidable P] (h : ¬ P) : ob P = 0 := if_neg h
theorem own_selP {args : Array Value} {y : MethodName} {n : Nat} (wi : (Cond.instantiable y.cls n).before args s = true) (hp : (Cond.privateMethod y).before args s = true) (hinst : (Cond.instanceMethod y).before args s = true) (hy : y.cls ≠ "java/lang/invoke/MethodHandle" ∧ y.cls ≠ "java/lang/invoke/VarHandle") : (Cond.selects y.cls y y).before args s = true := by
  obtain ⟨c, k, h1, h2, -, h4, -⟩ := Cond.instantiable_spec wi
  exact Jvm.Stand.selects_self_of_private h1 h2 (by cases hq : k.isInterface <;> simp [hq] at h4 ⊢) (Cond.privateMethod_at hp) hinst hy
end New
section Arrays
variable {Z : State} {h h' : Heap} {a b : Addr} {ty : FieldType} {n i : Nat} {f f' : Nat → Value} {sl : Nat} {v : Value} {ws : List Addr} {j : Int32} {c : Cell}
/-- the array at a has n places; place q holds f q -/
def Av (Z : State) (h : Heap) (a : Addr) (ty : FieldType) (n : Nat) (f : Nat → Value) : Prop := ∃ cl : Cell, Arr Z h a cl ty ∧ cl.slots.size = n ∧ ∀ j, j < n → cl.slots[j]? = some (f j)
theorem Av.ext (V : Av Z h a ty n f) (E : Ext h h') : Av Z h' a ty n f := by obtain ⟨c, A, r⟩ := V; exact ⟨c, A.ext E, r⟩
theorem Av.other (V : Av Z h b ty n f) (W : Wr h h' a sl v) (q : b ≠ a) : Av Z h' b ty n f := by obtain ⟨c, A, r⟩ := V; exact ⟨c, A.other W q, r⟩
theorem Av.keep (V : Av Z h a ty n f) (K : Keep h h' ws) (q : a ∉ ws) : Av Z h' a ty n f := by obtain ⟨c, A, r⟩ := V; exact ⟨c, ⟨K.2.1 a c A.1 q, A.2⟩, r⟩
theorem Av.lt (V : Av Z h a ty n f) : a < h.size := by obtain ⟨c, A, -⟩ := V; exact A.lt
theorem Av.congr (V : Av Z h a ty n f) (q : ∀ j, j < n → f j = f' j) : Av Z h a ty n f' := by obtain ⟨c, A, S, H⟩ := V; exact ⟨c, A, S, fun j hj => by rw [H j hj, q j hj]⟩
theorem Av.nostat (V : Av Z h a ty n f) : ∀ cell : Cell, h[a]? = some cell → cell.vm.isStatics = false := by
  obtain ⟨c, A, -⟩ := V
  exact Arr.nostat A
theorem own_sta {C nm d : String} (F : Sta Z h C nm d v) (K : Keep h h' ws) (hn : ∀ x ∈ ws, ∀ cell : Cell, h[x]? = some cell → cell.vm.isStatics = false) : Sta Z h' C nm d v := by
  obtain ⟨cf, i, k, f, st, cell, h1, h2, h3, h4, h5, h6, h7⟩ := F
  refine ⟨cf, i, k, f, st, cell, h1, h2, h3, h4, K.2.1 st cell h5 fun q => ?_, h6, h7⟩
  rw [hn st q cell h5] at h6
  cases h6
theorem oNat (e : j.toInt = (i : Int)) : j.toNatClampNeg = i := by simp only [Int32.toNatClampNeg]; omega
theorem oNn (e : j.toInt = (i : Int)) : ¬ j < 0 := by
  rw [Int32.lt_iff_toInt_lt]; have : (0 : Int32).toInt = 0 := rfl
  omega
theorem oIn (S : c.slots.size = n) (e : j.toInt = (i : Int)) (hi : i < n) : ¬ (j < 0 ∨ c.slots.size ≤ j.toNatClampNeg) := by
  rw [oNat e, S]; intro q
  rcases q with q | q
  · exact oNn e q
  · omega
theorem oAt (H : ∀ j, j < n → c.slots[j]? = some (f j)) (e : j.toInt = (i : Int)) (hi : i < n) : c.slots[j.toNatClampNeg]? = some (f i) := by rw [oNat e]; exact H i hi
theorem Av.set (V : Av Z h a ty n f) (e : j.toInt = (i : Int)) (hi : i < n) (W : Wr h h' a j.toNatClampNeg v) : Av Z h' a ty n (fun q => if q = i then v else f q) := by
  obtain ⟨c, A, S, H⟩ := V
  rw [oNat e] at W
  refine ⟨_, A.same W, by rw [sz_set]; exact S, fun k hk => ?_⟩
  by_cases u : k = i
  · subst u; simp [Cell.setSlot, S, hk]
  · simp only [u, if_false, Cell.setSlot]; rw [Array.getElem?_setIfInBounds_ne (Ne.symm u)]; exact H k hk
theorem Av.setI {y : Nat → Int32} {x : Int32} (V : Av Z h a ty n (fun q => .int (y q))) (e : j.toInt = (i : Int)) (hi : i < n) (W : Wr h h' a j.toNatClampNeg (.int x)) : Av Z h' a ty n (fun q => .int (if q = i then x else y q)) := (V.set e hi W).congr fun k _ => by
  by_cases u : k = i <;> simp [u]
theorem Av.setJ {y : Nat → Int64} {x : Int64} (V : Av Z h a ty n (fun q => .long (y q))) (e : j.toInt = (i : Int)) (hi : i < n) (W : Wr h h' a j.toNatClampNeg (.long x)) : Av Z h' a ty n (fun q => .long (if q = i then x else y q)) := (V.set e hi W).congr fun k _ => by
  by_cases u : k = i <;> simp [u]
theorem oLen (S : c.slots.size = n) : c.slots.size.toInt32 = Int32.ofNat n := by rw [S]
theorem Av.new {k : ClassId} {z : Int32} (A : Arr Z h a (newA k ty z) ty) (e : z.toInt = (n : Int)) : Av Z h a ty n (fun _ => defaultValue ty) :=
  ⟨_, A, by rw [sz_new]; exact oNat e, fun j hj => by have := oNat e; simp [newA, this, hj]⟩
/-- the array at a takes what is a C -/
def OvA (Z : State) (h : Heap) (a : Addr) (C : String) : Prop := ∃ cl : Cell, h[a]? = some cl ∧ Ovr Z cl.cls C
theorem OvA.ext {C : String} (F : OvA Z h a C) (E : Ext h h') : OvA Z h' a C := by obtain ⟨c, h1, h2⟩ := F; exact ⟨c, E.2 _ _ h1, h2⟩
theorem OvA.wr {C : String} (F : OvA Z h a C) (W : Wr h h' b sl v) : OvA Z h' a C := by
  obtain ⟨c, h1, h2⟩ := F
  obtain ⟨c', e1, e2, -⟩ := wr_at W h1
  exact ⟨c', e1, by rw [e2]; exact h2⟩
theorem OvA.keep {C : String} (F : OvA Z h a C) (K : Keep h h' ws) : OvA Z h' a C := by
  obtain ⟨c, h1, h2⟩ := F
  obtain ⟨c', e1, e2, -⟩ := K.2.2 a c h1
  exact ⟨c', e1, by rw [e2]; exact h2⟩
theorem OvA.at {C : String} (F : OvA Z h a C) (A : Arr Z h a c ty) : Ovr Z c.cls C := by
  obtain ⟨c', h1, h2⟩ := F
  cases h1.symm.trans A.1; exact h2
theorem oTo {n : Nat} (h : n < 2 ^ 31) : (Int32.ofNat n).toInt = (n : Int) := len_toInt h
end Arrays
end Jvm.RoadKit
namespace Jvm.RoadKit
open Sem ClassFile Op Lib Bundle Jvm.Stand Jvm.Free Jvm.LawKit Jvm.Free.SB Jvm.Free.SBG
section HeldOwn
variable {p : Program} {l : Launch} {e : Env} {R : Room} {s : State} {m : MethodId} {args : Array Value} {below : List Frame} {meth : Method} {c : Code} {T : State} {locs : List Loc} {cells slots : Nat} {Z : State} {EL : List (String × Nat)} {h h' h1 : Heap} {vm vm1 : Vm} {a b : Addr}
theorem own_metH {y : MethodName} {bytes : ByteArray} {maxL : Nat} {ret : Option FieldType} {ws : List Cond} {rm : Room} {as' : Array Value} {h0 : Heap} {Q : Option Value → Heap → List Loc → Prop} {ck sk : Nat} (hn : plainFor y = true)
    (body : ∀ (p : Program) (e : Env) (s : State) (m : MethodId) (below : List Frame) (meth : Method) (c : Code) (T : State) (K : Outcome → State → Prop), p.tables.exec = Jvm.exec → c.code = bytes → c.maxLocals = maxL → meth.sig.returnType = ret → meth.locks = false → s.vm.findClass y.cls = some m.cls → meth.name = y.name → Z.Warmed39 s.vm → Stand p l e rm s m as' below meth c T [] 0 0 → T.heap = h0 → CHv Z EL s.vm h0 →
      (∀ (v : Option Value) (U : State) (L : List Loc) (k n : Nat), Q v U.heap L → CHr Z EL s.vm h0 U.vm U.heap → ReturnedEndW s (.returned v) U L k n → k ≤ ck → n ≤ sk → K (.returned v) U) → Rch p e below K T (entryFrame m as' maxL)) :
    MetFree l y (head1 (Cond.code y bytes maxL ret :: ws) rm) (fun a U => a = as' ∧ Z.Warmed39 U.vm ∧ U.heap = h0 ∧ CHv Z EL U.vm h0) (fun _ _ _ _ _ => True) (fun _ U o U' => ∃ v L, o = .returned v ∧ Q v U'.heap L ∧ CHr Z EL U.vm U.heap U'.vm U'.heap ∧ ReturnedEndW U o U' L ck sk) := by
  refine MetFree.of_bodySF hn hisR ?_
  intro p e s m args below meth c s₁ Bd hml0 hP hK
  obtain ⟨rfl, hZ, hh, hC⟩ := hP
  show Rch p e below (fun o U' => ∃ v L, o = .returned v ∧ Q v U'.heap L ∧ CHr Z EL s.vm s.heap U'.vm U'.heap ∧ ReturnedEndW s o U' L ck sk) s₁ (entryFrame m args maxL)
  refine body p e s m below meth c s₁ _ Bd.exec Bd.bytes hml0 Bd.returns Bd.notSynchronized (findClass_of_methodNamed Bd.named) (name_of_methodNamed Bd.named Bd.method).1 hZ (Stand.of_body Bd) (by rw [← hh, Bd.state]; rfl) hC ?_
  intro v U L k n hQ hR hF hk hs
  exact ⟨v, L, rfl, hQ, by rw [hh]; exact hR, hF.1, hF.2.1, hF.2.2.1, hF.2.2.2.mono hk hs⟩
theorem own_endH {a0 : Array Value} (hZ : Z.Warmed39 (s.setVm vm1).vm) (hEL : EW Z a0 EL) (C : CHr Z EL vm h vm1 h1) {U : State} {o : Outcome} {L : List Loc} {k n : Nat} (hU : U.heap = h1) (F : FrameEnd (s.setVm vm1) o U L k n) : CHr Z EL vm h U.vm U.heap := by
  rw [hU]
  have q := CHv.later (h' := h1) (vm := vm1) hZ (hW := (show (Wst Z vm1 h1).Warmed39 U.vm from F.2.1.wide)) hEL ⟨Nat.le_refl _, fun _ _ q => q⟩ (Or.inl F.2.1.interned_eq) C.1
  exact C.trans ⟨q.1, Nat.le_refl _, q.2⟩
/-- a String whose value is null yet is no booked one -/
theorem own_safeNull (hal : Z.vm.Alike vm) (E : Exa Z h a "java/lang/String") (F : Fld Z h a "java/lang/String" "value" "[B" .null) : Safe Z EL vm h a := fun B => by
  obtain ⟨cell, k, e1, e2, e3, -, -⟩ := E
  obtain ⟨p, -, u, x, -, q, -, G, rfl | rfl⟩ := B
  · have hc := G.ha
    obtain ⟨cS, ⟨⟨-, -, -, ⟨c2, k2, i2, f2, -⟩, -, -, -, v2, -⟩, -⟩, -⟩ := G
    obtain ⟨c1, cf, k1, i1, f1, g1, g2, -, -, -, -, g7⟩ := F
    cases (show h[q.sa]? = some q.sC from hc).symm.trans g1
    obtain ⟨k3, e3', -⟩ := State.fieldFound?_setVm (s := Z) hal g2
    have e4 := (show (Wst Z vm h).fieldFound? _ _ _ = _ from e3').symm.trans f2
    simp only [Option.some.injEq, Prod.mk.injEq] at e4
    rw [← e4.2.2.2, g7] at v2
    cases v2
  · cases (show h[q.sd]? = some q.SA from G.hd).symm.trans e1
    obtain ⟨cS, -, -, f, -⟩ := G
    have f' : vm.findClass "[B" = some q.SA.cls := f
    rw [hal.findClass] at f'
    obtain ⟨k1, q1, q2⟩ := Vm.findClass_spec f'
    obtain ⟨k2, q3, q4⟩ := Vm.findClass_spec e2
    cases q1.symm.trans q3
    have := q2.symm.trans q4
    exact absurd this (by decide)
variable {ty : FieldType} {n : Nat} {f f' : Nat → Value} {k : ClassId} {z : Int32} {vs : List Value} {dv : Value}
theorem Av.safe (hal : Z.vm.Alike vm) (V : Av Z h a ty n f) (ht : ty ≠ .byte) : Safe Z EL vm h a := by
  obtain ⟨c, A, -⟩ := V
  exact Safe.arr hal A ht
theorem Av.arv (V : Av Z h a ty n f) (hn : n < 2 ^ 31) (G : ∀ q, q < n → fits ty (f q) = true) : ∃ k, Arv Z h a k ty (Int32.ofNat n) ((List.range n).map f) .null := by
  obtain ⟨c, A, S, H⟩ := V
  have e := oNat (oTo hn)
  refine ⟨c.cls, c, A, rfl, by rw [e]; exact S, oNn (oTo hn), fun j hj => ?_, fun j hj => ?_⟩
  · rw [S] at hj; rw [H j hj]; simp [hj]
  · rw [S] at hj; simpa [hj] using G j hj
theorem Arv.av (V : Arv Z h a k ty z vs dv) (e : z.toInt = (n : Int)) : Av Z h a ty n (fun j => vs.getD j dv) := by
  obtain ⟨c, A, -, S, -, H, -⟩ := V
  have S' : c.slots.size = n := by rw [S]; exact oNat e
  exact ⟨c, A, S', fun j hj => H j (by rw [S']; exact hj)⟩
theorem own_cp (X : Stand p l e R s m args below meth c T locs cells slots) (hx : p.tables.exec = Jvm.exec) (hZ : Z.Warmed39 s.vm) {a0 : Array Value} {own : String} {index : Nat} (hown : s.vm.findClass own = some m.cls)
    (w1 : (Cond.methodLink own index Jvm.Stand.acN).before a0 Z = true) (w2 : (Cond.native Jvm.Stand.acN).before a0 Z = true) (w3 : (Cond.static Jvm.Stand.acN).before a0 Z = true) (w4 : (Cond.initialized "java/lang/System").before a0 Z = true) (eT : T.heap = h)
    {n' i j k : Nat} {sp dp nn : Int32} (A : Av Z h a ty n f) (B : Av Z h b ty n' f') (hty : refKind ty = false) (hn : n < 2 ^ 31) (hn' : n' < 2 ^ 31) (Ga : ∀ q, q < n → fits ty (f q) = true) (Gb : ∀ q, q < n' → fits ty (f' q) = true)
    (es : sp.toInt = (i : Int)) (ed : dp.toInt = (j : Int)) (en : nn.toInt = (k : Int)) (h4 : i + k ≤ n) (h5 : j + k ≤ n') {n0 : Nat} (N : Fr n0 locs) (ge : n0 ≤ b)
    {g : JFrame} (hg : g.method = m) (hsize : g.locals.size = c.maxLocals) {rest : List Value} (hs : g.stack = .int nn :: .int dp :: .ref b :: .int sp :: .ref a :: rest) (hd : decode c.code g.pc = .ok (.invokestatic index, 3))
    (hf : 1 ≤ R.frames) {W : Nat} (hW : 2 * g.monitorRoom + (rest.map fun v => v.category).sum ≤ W) (hlo : W + (nativeFrameWords "java/lang/System" "arraycopy" 5 + 11) ≤ R.locals) :
    ∃ T' h' L, Stand p l e R s m args below meth c T' L cells slots ∧ T'.heap = h' ∧ Fr n0 L ∧ Keep h h' [b] ∧ Av Z h' b ty n' (fun q => if j ≤ q ∧ q < j + k then f (i + (q - j)) else f' q) ∧
      ∀ target, Steps p.tables e below (T'.setTop { g with pc := g.pc + 3, stack := rest }) target → Steps p.tables e below (T.setTop g) target := by
  obtain ⟨kA, A'⟩ := A.arv hn Ga
  obtain ⟨kB, B'⟩ := B.arv hn' Gb
  obtain ⟨T', h', L, r1, r2, r3, r4, r5, r6⟩ := cpA X hx hZ hown w1 w2 w3 w4 eT A' B' (Or.inl ⟨rfl, hty⟩) (oNn es) (oNn ed) (oNn en) (by rw [oNat es, oNat en, oNat (oTo hn)]; exact h4) (by rw [oNat ed, oNat en, oNat (oTo hn')]; exact h5) rfl (by rw [oNat ed, oNat en]; simpa using h5) N ge hg hsize hs hd hf hW hlo
  refine ⟨T', h', L, r1, r2, r3, r4, (Arv.av r5 (oTo hn')).congr (fun q hq => ?_), r6⟩
  rw [oNat es, oNat ed, oNat en]
  simp only [List.getD_eq_getElem?_getD]
  have l1 : (List.take j ((List.range n').map f')).length = j := by simp; omega
  by_cases c1 : q < j
  · rw [List.append_assoc, List.getElem?_append_left (by omega), List.getElem?_take_of_lt c1, if_neg (by omega)]
    simp [hq]
  · by_cases c2 : q < j + k
    · rw [List.getElem?_append_left (by rw [List.length_append, l1]; simp; omega), List.getElem?_append_right (by omega), l1, if_pos ⟨by omega, c2⟩]
      simp [show q - j < k by omega, show i + (q - j) < n by omega]
    · rw [List.getElem?_append_right (by rw [List.length_append, l1]; simp; omega), List.length_append, l1, List.getElem?_drop, if_neg (by omega)]
      simp [show j + k + (q - (j + k)) = q by omega, hq]
/-- a copy of no component -/
theorem own_cp0 (X : Stand p l e R s m args below meth c T locs cells slots) (hx : p.tables.exec = Jvm.exec) (hZ : Z.Warmed39 s.vm) {a0 : Array Value} {own : String} {index : Nat} (hown : s.vm.findClass own = some m.cls)
    (w1 : (Cond.methodLink own index Jvm.Stand.acN).before a0 Z = true) (w2 : (Cond.native Jvm.Stand.acN).before a0 Z = true) (w3 : (Cond.static Jvm.Stand.acN).before a0 Z = true) (w4 : (Cond.initialized "java/lang/System").before a0 Z = true) (eT : T.heap = h)
    {n' i j : Nat} {sp dp : Int32} (A : Av Z h a ty n f) (B : Av Z h b ty n' f') (hn : n < 2 ^ 31) (hn' : n' < 2 ^ 31) (Ga : ∀ q, q < n → fits ty (f q) = true) (Gb : ∀ q, q < n' → fits ty (f' q) = true)
    (es : sp.toInt = (i : Int)) (ed : dp.toInt = (j : Int)) (h4 : i ≤ n) (h5 : j ≤ n') {n0 : Nat} (N : Fr n0 locs) (ge : n0 ≤ b)
    {g : JFrame} (hg : g.method = m) (hsize : g.locals.size = c.maxLocals) {rest : List Value} (hs : g.stack = .int (0 : Int32) :: .int dp :: .ref b :: .int sp :: .ref a :: rest) (hd : decode c.code g.pc = .ok (.invokestatic index, 3))
    (hf : 1 ≤ R.frames) {W : Nat} (hW : 2 * g.monitorRoom + (rest.map fun v => v.category).sum ≤ W) (hlo : W + (nativeFrameWords "java/lang/System" "arraycopy" 5 + 11) ≤ R.locals) :
    ∃ T' h' L, Stand p l e R s m args below meth c T' L cells slots ∧ T'.heap = h' ∧ Fr n0 L ∧ Keep h h' [b] ∧ Av Z h' b ty n' f' ∧
      ∀ target, Steps p.tables e below (T'.setTop { g with pc := g.pc + 3, stack := rest }) target → Steps p.tables e below (T.setTop g) target := by
  obtain ⟨kA, A'⟩ := A.arv hn Ga
  obtain ⟨kB, B'⟩ := B.arv hn' Gb
  have en : (0 : Int32).toInt = ((0 : Nat) : Int) := rfl
  have hty : (ty = ty ∧ refKind ty = false) ∨ (refKind ty = true ∧ refKind ty = true ∧ StoL Z h b []) := by
    cases hk : refKind ty
    · exact Or.inl ⟨rfl, rfl⟩
    · exact Or.inr ⟨rfl, rfl, trivial⟩
  obtain ⟨T', h', L, r1, r2, r3, r4, r5, r6⟩ := cpA (us := []) X hx hZ hown w1 w2 w3 w4 eT A' B' hty (oNn es) (oNn ed) (oNn en) (by rw [oNat es, oNat en, oNat (oTo hn)]; omega) (by rw [oNat ed, oNat en, oNat (oTo hn')]; omega) rfl (by rw [oNat ed, oNat en]; simpa using h5) N ge hg hsize hs hd hf hW hlo
  refine ⟨T', h', L, r1, r2, r3, r4, (Arv.av r5 (oTo hn')).congr (fun q hq => ?_), r6⟩
  rw [oNat ed, oNat en]
  simp [hq]
theorem own_cpI (X : Stand p l e R s m args below meth c T locs cells slots) (hx : p.tables.exec = Jvm.exec) (hZ : Z.Warmed39 s.vm) {a0 : Array Value} {own : String} {index : Nat} (hown : s.vm.findClass own = some m.cls)
    (w1 : (Cond.methodLink own index Jvm.Stand.acN).before a0 Z = true) (w2 : (Cond.native Jvm.Stand.acN).before a0 Z = true) (w3 : (Cond.static Jvm.Stand.acN).before a0 Z = true) (w4 : (Cond.initialized "java/lang/System").before a0 Z = true) (eT : T.heap = h)
    {n' i j k : Nat} {sp dp nn : Int32} {y y' : Nat → Int32} (A : Av Z h a ty n (fun q => .int (y q))) (B : Av Z h b ty n' (fun q => .int (y' q))) (hty : refKind ty = false) (hn : n < 2 ^ 31) (hn' : n' < 2 ^ 31) (Ga : ∀ q, q < n → fits ty (.int (y q)) = true) (Gb : ∀ q, q < n' → fits ty (.int (y' q)) = true)
    (es : sp.toInt = (i : Int)) (ed : dp.toInt = (j : Int)) (en : nn.toInt = (k : Int)) (h4 : i + k ≤ n) (h5 : j + k ≤ n') {n0 : Nat} (N : Fr n0 locs) (ge : n0 ≤ b)
    {g : JFrame} (hg : g.method = m) (hsize : g.locals.size = c.maxLocals) {rest : List Value} (hs : g.stack = .int nn :: .int dp :: .ref b :: .int sp :: .ref a :: rest) (hd : decode c.code g.pc = .ok (.invokestatic index, 3))
    (hf : 1 ≤ R.frames) {W : Nat} (hW : 2 * g.monitorRoom + (rest.map fun v => v.category).sum ≤ W) (hlo : W + (nativeFrameWords "java/lang/System" "arraycopy" 5 + 11) ≤ R.locals) :
    ∃ T' h' L, Stand p l e R s m args below meth c T' L cells slots ∧ T'.heap = h' ∧ Fr n0 L ∧ Keep h h' [b] ∧ Av Z h' b ty n' (fun q => .int (if j ≤ q ∧ q < j + k then y (i + (q - j)) else y' q)) ∧
      ∀ target, Steps p.tables e below (T'.setTop { g with pc := g.pc + 3, stack := rest }) target → Steps p.tables e below (T.setTop g) target := by
  obtain ⟨T', h', L, r1, r2, r3, r4, r5, r6⟩ := own_cp X hx hZ hown w1 w2 w3 w4 eT A B hty hn hn' Ga Gb es ed en h4 h5 N ge hg hsize hs hd hf hW hlo
  refine ⟨T', h', L, r1, r2, r3, r4, r5.congr (fun q hq => ?_), r6⟩
  by_cases c1 : j ≤ q ∧ q < j + k
  · simp only [c1, and_self, if_true]
  · simp only [c1, if_false]
theorem own_clone (X : Stand p l e R s m args below meth c T locs cells slots) (hx : p.tables.exec = Jvm.exec) (hZ : Z.Warmed39 s.vm) {a0 : Array Value} {own ad : String} {index : Nat} (hown : s.vm.findClass own = some m.cls)
    (w1 : (Cond.methodLink own index ⟨ad, "clone", "()Ljava/lang/Object;"⟩).before a0 Z = true) (w2 : (Cond.sameMethod ad "java/lang/Object" "clone" "()Ljava/lang/Object;").before a0 Z = true) (w3 : (Cond.native ⟨"java/lang/Object", "clone", "()Ljava/lang/Object;"⟩).before a0 Z = true)
    (w4 : (Cond.instanceMethod ⟨"java/lang/Object", "clone", "()Ljava/lang/Object;"⟩).before a0 Z = true) (w5 : (Cond.selects ad ⟨ad, "clone", "()Ljava/lang/Object;"⟩ ⟨"java/lang/Object", "clone", "()Ljava/lang/Object;"⟩).before a0 Z = true) (w6 : (Cond.castable ad "java/lang/Cloneable").before a0 Z = true)
    (eT : T.heap = h) (V : Av Z h a ty n f) (G : ∀ q, q < n → fits ty (f q) = true) (E : Exa Z h a ad) {g : JFrame} (hg : g.method = m) (hsize : g.locals.size = c.maxLocals) {rest : List Value} (hs : g.stack = .ref a :: rest) (hd : decode c.code g.pc = .ok (.invokevirtual index, 3))
    (hf : 1 ≤ R.frames) {W cap : Nat} (hW : 2 * g.monitorRoom + (rest.map fun v => v.category).sum ≤ W) (hl : W + 14 ≤ R.locals) (hcap : n ≤ cap) (hc : cells + 1 ≤ R.cells) (hsl : slots + cap ≤ R.slots) :
    ∃ T' h', Stand p l e R s m args below meth c T' locs (cells + 1) (slots + cap) ∧ T'.heap = h' ∧ Ext h h' ∧ Av Z h' h.size ty n f ∧ Exa Z h' h.size ad ∧
      ∀ target, Steps p.tables e below (T'.setTop { g with pc := g.pc + 3, stack := .ref h.size :: rest }) target → Steps p.tables e below (T.setTop g) target := by
  obtain ⟨cl, A, S, H⟩ := V
  have FC : FitC Z cl := fitC_of A fun i hi v hv => by
    rw [S] at hi
    rw [H i hi] at hv
    cases hv
    exact G i hi
  obtain ⟨T', h', X', e', ex, A', E', st⟩ := cloneA X hx hZ hown w1 w2 w3 w4 w5 w6 eT A E FC hg hsize hs hd hf hW hl (by rw [S]; exact hcap) hc hsl
  exact ⟨T', h', X', e', ex, ⟨cloneOf cl, A', S, H⟩, E', st⟩
theorem own_sameF {C nm d : String} {v w : Value} (F : Fld Z h a C nm d v) (G : Fld Z h b C nm d w) (e : a = b) : v = w := Classical.byContradiction fun q => Fld.ne F G q e
theorem Av.same {ty' : FieldType} {n' : Nat} (V : Av Z h a ty n f) (W : Av Z h a ty' n' f') : n = n' ∧ ∀ q, q < n → f q = f' q := by
  obtain ⟨c, A, S, H⟩ := V
  obtain ⟨c', A', S', H'⟩ := W
  cases A.1.symm.trans A'.1
  have e : n = n' := S.symm.trans S'
  exact ⟨e, fun q hq => Option.some.inj ((H q hq).symm.trans (H' q (e ▸ hq)))⟩
theorem own_eqref {args : Array Value} {X F : Term} {r : Addr} (hF : F.eval args Z none [] Z = some (.ref r)) (h : (Cond.eq X F).value args Z none Z [] = some true) : X.eval args Z none [] Z = some (.ref r) := by
  simp only [Cond.value, hF] at h
  cases hx : X.eval args Z none [] Z with
  | none => simp [hx] at h
  | some x => cases x <;> simp [hx] at h ⊢ <;> first | exact h | exact h.symm
theorem own_startAv {args : Array Value} {t : Term} {k : Int32} (ev : t.eval args Z none [] Z = some (.ref a)) (ha : (Cond.arrayOf t ty).value args Z none Z [] = some true) (hl : (Cond.eq (.length t) (.int k)).value args Z none Z [] = some true) (ek : k.toInt = (n : Int))
    (he : ∀ j, j < n → (Term.elem t (.int (Int32.ofNat j))).eval args Z none [] Z = some (f j)) : Av Z Z.heap a ty n f := by
  obtain ⟨c, A⟩ := Arr.start ev ha
  have hlen := eqv_i (F := .int k) rfl hl
  obtain ⟨x, SA, e1, e2, -⟩ := Term.length_spec hlen
  cases ev.symm.trans e1
  have h31 := SBG.length_lt e1 e2 hlen
  cases A.1.symm.trans (Jvm.Joins.arrayAt_spec e2).1
  have e3 := Option.some.inj ((len_f e1 e2 h31).symm.trans hlen)
  have S : c.slots.size = n := by
    injection e3 with e3
    have e4 := congrArg Int32.toInt e3
    rw [len_toInt h31, ek] at e4
    omega
  refine ⟨c, A, S, fun j hj => ?_⟩
  have q := (elem_in (he j hj) ev rfl A.1).2
  rw [oNat (oTo (by omega))] at q
  exact q
theorem own_exane {C D : String} (E : Exa Z h a C) (F : Exa Z h b D) (q : C ≠ D) : a ≠ b := fun e => by
  subst e
  obtain ⟨c1, k1, e1, e2, -⟩ := E
  obtain ⟨c2, k2, f1, f2, -⟩ := F
  cases e1.symm.trans f1
  exact ids_ne e2 f2 q rfl
theorem own_nf {args : Array Value} {C : String} {y y' : MethodName} (hsel : (Cond.selects C y' y').before args s = true) (hc : y.cls = y'.cls) : NotFace s y := fun r0 h0 => by
  obtain ⟨c2, r2, m2, q1, q2, q3, q4, kP, hkP, hkPi⟩ := Cond.selects_spec hsel
  have a1 := findClass_of_methodNamed h0
  have a2 := findClass_of_methodNamed q3
  rw [hc, a2] at a1
  injection a1 with a1
  exact ⟨kP, by rw [← a1]; exact hkP, hkPi⟩
theorem own_selP2 {args : Array Value} {C : String} {y : MethodName} (hsel : (Cond.selects C y y).before args s = true) (hp : (Cond.privateMethod y).before args s = true) (hinst : (Cond.instanceMethod y).before args s = true) (hy : y.cls ≠ "java/lang/invoke/MethodHandle" ∧ y.cls ≠ "java/lang/invoke/VarHandle") : (Cond.selects y.cls y y).before args s = true := by
  obtain ⟨c2, r2, m2, q1, q2, q3, q4, kP, hkP, hkPi⟩ := Cond.selects_spec hsel
  exact Jvm.Stand.selects_self_of_private (findClass_of_methodNamed q3) hkP hkPi (Cond.privateMethod_at hp) hinst hy
theorem own_sameM {args : Array Value} {y : MethodName} (hinst : (Cond.instanceMethod y).before args s = true) (nf : NotFace s y) (hy : y.cls ≠ "java/lang/invoke/MethodHandle" ∧ y.cls ≠ "java/lang/invoke/VarHandle") : (Cond.sameMethod y.cls y.cls y.name y.desc).before args s = true := by
  obtain ⟨mk, methM, hnamed, hmethM, -, -⟩ := Cond.instanceMethod_spec hinst
  have hfound : s.methodFound? y.cls y.name y.desc = some mk := State.methodFound?_of_named hnamed hy
  obtain ⟨k, hk, hni⟩ := nf mk hnamed
  have hc := findClass_of_methodNamed hnamed
  have hn2 : s.methodNamed? ⟨y.cls, y.name, y.desc⟩ = some mk := hnamed
  simp only [Cond.before, Cond.holds, Cond.value, hc, hfound, hn2, hk]
  simp [hni]
theorem own_nsroot {a0 : Array Value} {O K : String} {nK : Nat} (w : (Cond.noSuperclass O).before a0 Z = true) (wk : (Cond.instantiable K nK).before a0 Z = true) (hn : O ≠ K) : NS Z O K := by
  obtain ⟨c, k, h1, h2, h3, -, -⟩ := Cond.noSuperclass_spec w
  obtain ⟨t, kI, g1, -⟩ := Cond.instantiable_spec wk
  have ne := ids_ne h1 g1 hn
  refine ⟨c, t, h1, g1, fun fuel => ?_⟩
  cases fuel with
  | zero => rfl
  | succ f => simp [Vm.isSubclassAux, ne, h2, h3]
theorem own_nsno {a0 : Array Value} {C S K : String} {nK : Nat} (w : (Cond.superclass C S).before a0 Z = true) (wk : (Cond.instantiable K nK).before a0 Z = true) (n : NS Z C K) (hn : C ≠ K) : ∃ c t, Z.vm.findClass C = some c ∧ Z.vm.findClass K = some t ∧ Z.vm.assignable c t = false := by
  obtain ⟨c, t, h0, g0, n3⟩ := n
  obtain ⟨p, k, kp, h1, h2, h3, h4, h5, -, h7⟩ := Cond.superclass_spec h0 w
  obtain ⟨cI, kI, hfI, hkI, hkindI, r4, -⟩ := Cond.instantiable_spec wk
  cases g0.symm.trans hfI
  have ne := ids_ne h0 g0 hn
  have hni : kI.isInterface = false := by cases hq : kI.isInterface <;> simp [hq] at r4 ⊢
  refine ⟨c, t, h0, g0, ?_⟩
  show Z.vm.assignableAux (255 + 1) c t = false
  simp [Vm.assignableAux, ne, h2, hkI, h5, hkindI, hni, Vm.isSubclass, n3]
end HeldOwn
end Jvm.RoadKit
namespace Jvm.Pilot.@@N@@
open Jvm Jvm.ClassFile Sem Op Lib Jvm.Free Jvm.Stand Jvm.LawKit Jvm.RoadKit Bundle Jvm.Pilot.@@N@@.Jvm.D
theorem own_one (i : Nat) : Int32.ofNat i + (1 : Int32) = Int32.ofNat (i + 1) := (Int32.ofNat_add i 1).symm
theorem own_olt2 {i n : Nat} (hi : i < 2 ^ 31) (hn : n < 2 ^ 31) : Int32.ofNat i < Int32.ofNat n ↔ i < n := by
  rw [Int32.lt_iff_toInt_lt, oTo hn, oTo hi]; omega
theorem own_neN {i j : Nat} (hi : i < 2 ^ 31) (hj : j < 2 ^ 31) : Int32.ofNat i = Int32.ofNat j ↔ i = j := by
  rw [← Int32.toInt_inj, oTo hi, oTo hj]; omega
theorem own_ne0 {n : Nat} (h1 : 1 ≤ n) (h : n < 2 ^ 31) : ¬ Int32.ofNat n = (0 : Int32) := fun q => by
  have := (own_neN (j := 0) h (by decide)).mp q
  omega
theorem own_b8 (x : Int32) : x.toInt8.toInt32.toInt8.toInt32 = x.toInt8.toInt32 := by simp
theorem own_put {α : Type} (i j : Nat) (p v : α) (f : Nat → α) (hj : j = i → p = f j) : (if j = i then p else if j < i then f j else v) = if j < i + 1 then f j else v := by
  by_cases h : j = i
  · subst h; simp [hj rfl]
  · by_cases h2 : j < i
    · simp [h, h2, show j < i + 1 by omega]
    · simp [h, h2, show ¬ j < i + 1 by omega]
theorem own_cod (n : Nat) : (((Int32.ofNat n - Int32.ofNat n).toUInt32 >>> ((31 : Int32) &&& 31).toUInt32).toInt32.toInt8.toInt32) = (0 : Int32) := by
  rw [Int32.sub_self]; decide
theorem own_sh0 (x : Int32) : x >>> ((0 : Int32) &&& 31) = x := by
  apply Int32.toInt_inj.mp
  rw [c_ishr x 0 0 (by decide)]
  simp
theorem own_le255 {x : Int32} (h : x.toInt ≤ 255) : ¬ (255 : Int32) < x := by
  rw [Int32.lt_iff_toInt_lt]
  have e : (255 : Int32).toInt = 255 := by decide
  omega
def own_ch (n : Nat) (y : Nat → Int32) : Prop := ∀ q, q < n → 0 ≤ (y q).toInt ∧ (y q).toInt ≤ 255
theorem own_antis {a b : Int32} (h1 : ¬ a < b) (h2 : ¬ b < a) : a = b := by
  rw [Int32.lt_iff_toInt_lt] at h1 h2
  apply Int32.toInt_inj.mp
  omega
theorem own_irr (a : Int32) : ¬ a < a := Int32.lt_irrefl
theorem own_nneg {i : Nat} (h : i < 2 ^ 31) : ¬ Int32.ofNat i < (0 : Int32) := oNn (oTo h)
theorem own_nlt {i j : Nat} (h : j ≤ i) (hi : i < 2 ^ 31) : ¬ Int32.ofNat i < Int32.ofNat j := fun q => by
  have := (own_olt2 hi (by omega)).mp q
  omega
theorem own_lt3 {i j : Nat} (h : i < j) (hj : j < 2 ^ 31) : Int32.ofNat i < Int32.ofNat j := (own_olt2 (by omega) hj).mpr h
theorem own_addN (i j : Nat) : Int32.ofNat i + Int32.ofNat j = Int32.ofNat (i + j) := (Int32.ofNat_add i j).symm
theorem own_subN {i j : Nat} (h : i ≤ j) : Int32.ofNat j - Int32.ofNat i = Int32.ofNat (j - i) := (Int32.ofNat_sub j i h).symm
theorem own_pred (k : Nat) : Int32.ofNat (k + 1) - (1 : Int32) = Int32.ofNat k := by
  rw [← own_one]; exact Int32.add_sub_cancel _ _
theorem own_m1 (k : Nat) : Int32.ofNat k + (-1 : Int32) = Int32.ofNat k - (1 : Int32) := Int32.add_neg_eq_sub
theorem own_pm (k : Nat) : Int32.ofNat k - (1 : Int32) + (1 : Int32) = Int32.ofNat k := Int32.sub_add_cancel _ _
def own_c1 (x : Int32) : Prop := 0 ≤ x.toInt ∧ x.toInt ≤ 255
theorem own_c1n {x : Int32} (h : own_c1 x) : ¬ x < (0 : Int32) := by
  rw [Int32.lt_iff_toInt_lt]
  have e : (0 : Int32).toInt = 0 := rfl
  have := h.1
  omega
theorem own_c1l {x : Int32} (h : own_c1 x) : ¬ (255 : Int32) < x := own_le255 h.2
theorem own_b8v (x : Int32) : x.toInt8.toInt32.toInt = x.toInt.bmod 256 := by
  rw [Int8.toInt_toInt32, Int32.toInt_toInt8]
theorem own_b8i {x y : Int32} (hx : own_c1 x) (hy : own_c1 y) (h : x.toInt8.toInt32 = y.toInt8.toInt32) : x = y := by
  have e := congrArg Int32.toInt h
  rw [own_b8v, own_b8v] at e
  have e1 := Int.bmod_emod (x := x.toInt) (m := 256)
  have e2 := Int.bmod_emod (x := y.toInt) (m := 256)
  rw [e, e2] at e1
  obtain ⟨h1, h2⟩ := hx
  obtain ⟨h3, h4⟩ := hy
  apply Int32.toInt_inj.mp
  omega
theorem own_chr {x : Int32} (h : own_c1 x) : nar .char ((x.toInt8.toInt32 &&& (255 : Int32)).toUInt32.toUInt16.toUInt32.toInt32) = x := by
  show (((x.toInt8.toInt32 &&& (255 : Int32)).toUInt32.toUInt16.toUInt32.toInt32).toUInt32.toUInt16.toUInt32.toInt32) = x
  rw [i2c_mask, i2c_mask]
  apply Int32.toInt_inj.mp
  rw [c_mask _ 255 8 (by decide) (by decide), own_b8v]
  have e1 := Int.bmod_emod (x := x.toInt) (m := 256)
  obtain ⟨h1, h2⟩ := h
  have e2 : ((2 ^ 8 : Nat) : Int) = ((256 : Nat) : Int) := rfl
  rw [e2, e1]
  omega
theorem own_i2c {x : Int32} (h : own_c1 x) : x.toUInt32.toUInt16.toUInt32.toInt32 = x := by
  have e : x &&& (255 : Int32) = x := by
    apply Int32.toInt_inj.mp
    rw [c_mask _ 255 8 (by decide) (by decide)]
    obtain ⟨h1, h2⟩ := h
    have e2 : ((2 ^ 8 : Nat) : Int) = 256 := rfl
    rw [e2]
    omega
  rw [← e]; exact i2c_mask x
theorem own_ch.at {n : Nat} {y : Nat → Int32} (h : own_ch n y) {i : Nat} (hi : i < n) : own_c1 (y i) := h i hi
/-- the last place below n (and one) that holds c, or 0 -/
def own_ls (y : Nat → Int32) (c : Int32) : Nat → Nat
  | 0 => 0
  | n + 1 => if y n = c then n + 1 else own_ls y c n
theorem own_ls_le (y : Nat → Int32) (c : Int32) (n : Nat) : own_ls y c n ≤ n := by
  induction n with
  | zero => exact Nat.le_refl _
  | succ n ih =>
    by_cases h : y n = c
    · simp [own_ls, h]
    · simp only [own_ls, h, if_false]; omega
theorem own_ls_none {y : Nat → Int32} {c : Int32} : ∀ {n : Nat}, (∀ q, q < n → y q ≠ c) → own_ls y c n = 0
  | 0, _ => rfl
  | n + 1, h => by
    simp only [own_ls, h n (by omega), if_false]
    exact own_ls_none fun q hq => h q (by omega)
theorem own_ls_at {y : Nat → Int32} {c : Int32} {k : Nat} (e : y k = c) : ∀ {n : Nat}, k < n → (∀ q, k + 1 ≤ q → q < n → y q ≠ c) → own_ls y c n = k + 1
  | 0, h, _ => by omega
  | n + 1, h, hn => by
    by_cases u : k = n
    · subst u; simp [own_ls, e]
    · simp only [own_ls, hn n (by omega) (by omega), if_false]
      exact own_ls_at e (by omega) fun q h1 h2 => hn q h1 (by omega)
/-- the first place below n that holds c, or n -/
def own_fN (y : Nat → Int32) (c : Int32) : Nat → Nat
  | 0 => 0
  | n + 1 => if own_fN y c n < n then own_fN y c n else if y n = c then n else n + 1
theorem own_fN_spec (y : Nat → Int32) (c : Int32) (n : Nat) : own_fN y c n ≤ n ∧ (own_fN y c n < n → y (own_fN y c n) = c) ∧ ∀ q, q < own_fN y c n → y q ≠ c := by
  induction n with
  | zero => exact ⟨Nat.le_refl _, fun h => absurd h (by simp [own_fN]), fun q h => absurd h (by simp [own_fN])⟩
  | succ n ih =>
    obtain ⟨h1, h2, h3⟩ := ih
    by_cases u : own_fN y c n < n
    · have e : own_fN y c (n + 1) = own_fN y c n := by simp [own_fN, u]
      rw [e]; exact ⟨by omega, fun _ => h2 u, h3⟩
    · have e0 : own_fN y c n = n := by omega
      rw [e0] at h3
      by_cases v : y n = c
      · have e : own_fN y c (n + 1) = n := by simp [own_fN, u, v]
        rw [e]; exact ⟨by omega, fun _ => v, h3⟩
      · have e : own_fN y c (n + 1) = n + 1 := by simp [own_fN, u, v]
        rw [e]
        refine ⟨Nat.le_refl _, fun h => absurd h (by omega), fun q hq => ?_⟩
        by_cases w : q = n
        · rw [w]; exact v
        · exact h3 q (by omega)
theorem own_fN_le (y : Nat → Int32) (c : Int32) (n : Nat) : own_fN y c n ≤ n := (own_fN_spec y c n).1
theorem own_fN_eq {y : Nat → Int32} {c : Int32} {n j : Nat} (hj : j ≤ n) (h1 : j < n → y j = c) (h2 : ∀ q, q < j → y q ≠ c) : own_fN y c n = j := by
  obtain ⟨a1, a2, a3⟩ := own_fN_spec y c n
  by_cases u : own_fN y c n < j
  · exact absurd (a2 (by omega)) (h2 _ u)
  · by_cases v : j < own_fN y c n
    · exact absurd (h1 (by omega)) (a3 _ v)
    · omega
theorem own_fN_congr {y z : Nat → Int32} {c : Int32} {n : Nat} (h : ∀ q, q < n → y q = z q) : own_fN y c n = own_fN z c n := by
  obtain ⟨a1, a2, a3⟩ := own_fN_spec z c n
  refine own_fN_eq a1 (fun q => ?_) (fun q hq => ?_)
  · rw [h _ q]; exact a2 q
  · rw [h q (by omega)]; exact a3 q hq
def own_ix (y : Nat → Int32) (c : Int32) (n : Nat) : Int32 := if own_fN y c n < n then Int32.ofNat (own_fN y c n) else (-1 : Int32)
theorem own_ix_at {y : Nat → Int32} {c : Int32} {n i : Nat} (hi : i < n) (h1 : y i = c) (h2 : ∀ q, q < i → y q ≠ c) : own_ix y c n = Int32.ofNat i := by
  have e := own_fN_eq (n := n) (Nat.le_of_lt hi) (fun _ => h1) h2
  simp [own_ix, e, hi]
theorem own_ix_no {y : Nat → Int32} {c : Int32} {n : Nat} (h2 : ∀ q, q < n → y q ≠ c) : own_ix y c n = (-1 : Int32) := by
  have e := own_fN_eq (n := n) (Nat.le_refl _) (fun h => absurd h (Nat.lt_irrefl _)) h2
  simp [own_ix, e]
theorem own_ix_neg {y : Nat → Int32} {c : Int32} {n : Nat} (hn : n < 2 ^ 31) (h : own_ix y c n < (0 : Int32)) : own_fN y c n = n := by
  have l := own_fN_le y c n
  by_cases u : own_fN y c n < n
  · simp only [own_ix, u, if_true] at h
    exact absurd h (own_nneg (by omega))
  · omega
theorem own_ix_pos {y : Nat → Int32} {c : Int32} {n : Nat} (h : ¬ own_ix y c n < (0 : Int32)) : own_ix y c n = Int32.ofNat (own_fN y c n) := by
  by_cases u : own_fN y c n < n
  · simp [own_ix, u]
  · simp only [own_ix, u, if_false] at h
    exact absurd (by decide : (-1 : Int32) < (0 : Int32)) h
/-- one behind the first place of c, or 0 -/
def own_kc (y : Nat → Int32) (c : Int32) (n : Nat) : Nat := if own_fN y c n < n then own_fN y c n + 1 else 0
theorem own_kc_le (y : Nat → Int32) (c : Int32) (n : Nat) : own_kc y c n ≤ n := by
  unfold own_kc
  by_cases u : own_fN y c n < n
  · simp only [u, if_true]; omega
  · simp [u]
theorem own_ix_kc (y : Nat → Int32) (c : Int32) (n : Nat) : own_ix y c n + (1 : Int32) = Int32.ofNat (own_kc y c n) := by
  by_cases u : own_fN y c n < n
  · simp only [own_ix, own_kc, u, if_true]; exact own_one _
  · simp only [own_ix, own_kc, u, if_false]; decide
theorem own_EW {a0 : Array Value} {Z : State} (hw : ∀ d ∈ tables_1, d.before a0 Z = true) : EW Z a0 consts_1 := EW.cons (hw _ (List.mem_of_getElem? (i := 57) rfl)) (by decide) (EW.cons (hw _ (List.mem_of_getElem? (i := 134) rfl)) (by decide) (EW.cons (hw _ (List.mem_of_getElem? (i := 268) rfl)) (by decide) (EW.cons (hw _ (List.mem_of_getElem? (i := 183) rfl)) (by decide) (EW.cons (hw _ (List.mem_of_getElem? (i := 229) rfl)) (by decide) (EW.cons (hw _ (List.mem_of_getElem? (i := 30) rfl)) (by decide) (EW.nil))))))
def own_t0 (q : Nat) : Int32 := ([118, 97, 108, 117, 101] : List Int32).getD q 0
theorem own_t0_ok : ((∀ c ∈ ("value" : String).toList, c.toNat < 256) ∧ ("value" : String).toList.map (fun c => Value.int (Jvm.Lit.byteI c.toNat.toUInt16)) = ([.int 118, .int 97, .int 108, .int 117, .int 101] : List Value)) ∧ ∀ j, j < 5 → ([.int 118, .int 97, .int 108, .int 117, .int 101] : List Value).getD j (.int 0) = .int ((own_t0 j).toInt8.toInt32) := ⟨⟨by decide, rfl⟩, fun j hj => by
  rcases (show j = 0 ∨ j = 1 ∨ j = 2 ∨ j = 3 ∨ j = 4 by omega) with rfl | rfl | rfl | rfl | rfl <;> rfl⟩
def own_t1 (q : Nat) : Int32 := ([91] : List Int32).getD q 0
theorem own_t1_ok : ((∀ c ∈ ("[" : String).toList, c.toNat < 256) ∧ ("[" : String).toList.map (fun c => Value.int (Jvm.Lit.byteI c.toNat.toUInt16)) = ([.int 91] : List Value)) ∧ ∀ j, j < 1 → ([.int 91] : List Value).getD j (.int 0) = .int ((own_t1 j).toInt8.toInt32) := ⟨⟨by decide, rfl⟩, fun j hj => by
  rcases (show j = 0 by omega) with rfl <;> rfl⟩
def own_t2 (q : Nat) : Int32 := ([] : List Int32).getD q 0
theorem own_t2_ok : ((∀ c ∈ ("" : String).toList, c.toNat < 256) ∧ ("" : String).toList.map (fun c => Value.int (Jvm.Lit.byteI c.toNat.toUInt16)) = ([] : List Value)) ∧ ∀ j, j < 0 → ([] : List Value).getD j (.int 0) = .int ((own_t2 j).toInt8.toInt32) := ⟨⟨by decide, rfl⟩, fun j hj => absurd hj (Nat.not_lt_zero j)⟩
def own_t3 (q : Nat) : Int32 := ([32] : List Int32).getD q 0
theorem own_t3_ok : ((∀ c ∈ (" " : String).toList, c.toNat < 256) ∧ (" " : String).toList.map (fun c => Value.int (Jvm.Lit.byteI c.toNat.toUInt16)) = ([.int 32] : List Value)) ∧ ∀ j, j < 1 → ([.int 32] : List Value).getD j (.int 0) = .int ((own_t3 j).toInt8.toInt32) := ⟨⟨by decide, rfl⟩, fun j hj => by
  rcases (show j = 0 by omega) with rfl <;> rfl⟩
def own_t4 (q : Nat) : Int32 := ([93] : List Int32).getD q 0
theorem own_t4_ok : ((∀ c ∈ ("]" : String).toList, c.toNat < 256) ∧ ("]" : String).toList.map (fun c => Value.int (Jvm.Lit.byteI c.toNat.toUInt16)) = ([.int 93] : List Value)) ∧ ∀ j, j < 1 → ([.int 93] : List Value).getD j (.int 0) = .int ((own_t4 j).toInt8.toInt32) := ⟨⟨by decide, rfl⟩, fun j hj => by
  rcases (show j = 0 by omega) with rfl <;> rfl⟩
theorem own_c1i {x : Int32} (h : own_c1 x) : own_c1 x.toUInt32.toUInt16.toUInt32.toInt32 := by rw [own_i2c h]; exact h
theorem own_and255 (x : Int32) : own_c1 (x &&& (255 : Int32)) := by
  have h := c_and x (255 : Int32) (by decide)
  have e : (255 : Int32).toInt = 255 := by decide
  rw [e] at h
  exact h
theorem own_lat (x : Int32) : ¬ (255 : Int32) < (x &&& (255 : Int32)).toUInt32.toUInt16.toUInt32.toInt32 := own_c1l (own_c1i (own_and255 x))
def own_z0 (q : Nat) : Int32 := 0
theorem own_ncap : ∀ k, k < 17 → ¬ (0 : Int32) < Int32.ofNat k - Int32.ofNat 16 := by decide
theorem own_sl0 (x : Int32) : x <<< ((0 : Int32) &&& 31) = x := by
  apply Int32.toBitVec_inj.mp
  simp
theorem own_apch {k n : Nat} {z y t : Nat → Int32} (hz : own_ch k z) (hy : own_ch n y) (h1 : ∀ q, q < k → t q = z q) (h2 : ∀ j, j < n → t (k + j) = y j) : own_ch (k + n) t := fun q hq => by
  by_cases u : q < k
  · rw [h1 q u]; exact hz q u
  · have e := h2 (q - k) (by omega)
    rw [show k + (q - k) = q by omega] at e
    rw [e]; exact hy _ (by omega)
theorem own_ch_own_t1 : own_ch 1 own_t1 := fun q hq => by
  obtain rfl : q = 0 := by omega
  exact ⟨by decide, by decide⟩
theorem own_ch_own_t4 : own_ch 1 own_t4 := fun q hq => by
  obtain rfl : q = 0 := by omega
  exact ⟨by decide, by decide⟩
theorem own_ch_own_t3 : own_ch 1 own_t3 := fun q hq => by
  obtain rfl : q = 0 := by omega
  exact ⟨by decide, by decide⟩
theorem own_ch_own_t2 : own_ch 0 own_t2 := fun q hq => absurd hq (Nat.not_lt_zero q)
theorem pn_0 : plainName "java/lang/StringUTF16" = true := by first | (simp [plainName, overriddenIn]; done) | decide +kernel
theorem pd_0 : parseMethodDescriptor "([C)V" = some ⟨[(.array .char)], none⟩ := by decide +kernel
theorem pd_1 : parseMethodDescriptor "([CIILjava/lang/Void;)V" = some ⟨[(.array .char), .int, .int, (.object "java/lang/Void")], none⟩ := by decide +kernel
theorem pd_2 : parseMethodDescriptor "()V" = some ⟨[], none⟩ := by decide +kernel
theorem pd_3 : parseMethodDescriptor "([CII)[B" = some ⟨[(.array .char), .int, .int], some (.array .byte)⟩ := by decide +kernel
theorem pd_4 : parseMethodDescriptor "([CI[BII)I" = some ⟨[(.array .char), .int, (.array .byte), .int, .int], some .int⟩ := by decide +kernel
theorem pd_5 : parseMethodDescriptor "([BI)B" = some ⟨[(.array .byte), .int], some .byte⟩ := by decide +kernel
theorem pd_6 : parseMethodDescriptor "(C)Ljava/lang/String;" = some ⟨[.char], some (.object "java/lang/String")⟩ := by decide +kernel
theorem pd_7 : parseMethodDescriptor "(C)Z" = some ⟨[.char], some .boolean⟩ := by decide +kernel
theorem pd_8 : parseMethodDescriptor "(C)[B" = some ⟨[.char], some (.array .byte)⟩ := by decide +kernel
theorem pd_9 : parseMethodDescriptor "([BB)V" = some ⟨[(.array .byte), .byte], none⟩ := by decide +kernel
theorem pd_10 : parseMethodDescriptor "(Ljava/lang/String;Ljava/lang/String;[Ljava/lang/String;)V" = some ⟨[(.object "java/lang/String"), (.object "java/lang/String"), (.array (.object "java/lang/String"))], none⟩ := by decide +kernel
theorem pd_11 : parseMethodDescriptor "(Ljava/lang/Object;Ljava/lang/String;)Ljava/lang/Object;" = some ⟨[(.object "java/lang/Object"), (.object "java/lang/String")], some (.object "java/lang/Object")⟩ := by decide +kernel
theorem pd_12 : parseMethodDescriptor "([Ljava/lang/Object;)Ljava/util/List;" = some ⟨[(.array (.object "java/lang/Object"))], some (.object "java/util/List")⟩ := by decide +kernel
theorem pd_13 : parseMethodDescriptor "(Ljava/lang/Object;)V" = some ⟨[(.object "java/lang/Object")], none⟩ := by decide +kernel
theorem pd_14 : parseMethodDescriptor "(Ljava/lang/Object;)Ljava/lang/Object;" = some ⟨[(.object "java/lang/Object")], some (.object "java/lang/Object")⟩ := by decide +kernel
theorem pd_15 : parseMethodDescriptor "()Z" = some ⟨[], some .boolean⟩ := by decide +kernel
theorem pd_16 : parseMethodDescriptor "()Ljava/lang/String;" = some ⟨[], some (.object "java/lang/String")⟩ := by decide +kernel
theorem pd_17 : parseMethodDescriptor "(I)V" = some ⟨[.int], none⟩ := by decide +kernel
theorem pd_18 : parseMethodDescriptor "(Ljava/lang/String;)Ljava/lang/StringBuilder;" = some ⟨[(.object "java/lang/String")], some (.object "java/lang/StringBuilder")⟩ := by decide +kernel
theorem pd_19 : parseMethodDescriptor "(Ljava/lang/String;)Ljava/lang/AbstractStringBuilder;" = some ⟨[(.object "java/lang/String")], some (.object "java/lang/AbstractStringBuilder")⟩ := by decide +kernel
theorem pd_20 : parseMethodDescriptor "()I" = some ⟨[], some .int⟩ := by decide +kernel
theorem pd_21 : parseMethodDescriptor "()B" = some ⟨[], some .byte⟩ := by decide +kernel
theorem pd_22 : parseMethodDescriptor "(ILjava/lang/String;)V" = some ⟨[.int, (.object "java/lang/String")], none⟩ := by decide +kernel
theorem pd_23 : parseMethodDescriptor "(Ljava/lang/String;)V" = some ⟨[(.object "java/lang/String")], none⟩ := by decide +kernel
theorem pd_24 : parseMethodDescriptor "([BIB)V" = some ⟨[(.array .byte), .int, .byte], none⟩ := by decide +kernel
theorem pd_25 : parseMethodDescriptor "(Ljava/lang/Object;ILjava/lang/Object;II)V" = some ⟨[(.object "java/lang/Object"), .int, (.object "java/lang/Object"), .int, .int], none⟩ := by decide +kernel
theorem pd_26 : parseMethodDescriptor "(Ljava/lang/StringBuilder;)V" = some ⟨[(.object "java/lang/StringBuilder")], none⟩ := by decide +kernel
theorem pd_27 : parseMethodDescriptor "(Ljava/lang/AbstractStringBuilder;Ljava/lang/Void;)V" = some ⟨[(.object "java/lang/AbstractStringBuilder"), (.object "java/lang/Void")], none⟩ := by decide +kernel
theorem pd_28 : parseMethodDescriptor "()[B" = some ⟨[], some (.array .byte)⟩ := by decide +kernel
theorem pd_29 : parseMethodDescriptor "([BII)[B" = some ⟨[(.array .byte), .int, .int], some (.array .byte)⟩ := by decide +kernel
theorem pd_30 : parseMethodDescriptor "(II)V" = some ⟨[.int, .int], none⟩ := by decide +kernel
theorem pd_31 : parseMethodDescriptor "(II)I" = some ⟨[.int, .int], some .int⟩ := by decide +kernel
theorem pd_32 : parseMethodDescriptor "(I)C" = some ⟨[.int], some .char⟩ := by decide +kernel
theorem pd_33 : parseMethodDescriptor "([BI)C" = some ⟨[(.array .byte), .int], some .char⟩ := by decide +kernel
theorem pd_34 : parseMethodDescriptor "(IILjava/util/function/BiFunction;)I" = some ⟨[.int, .int, (.object "java/util/function/BiFunction")], some .int⟩ := by decide +kernel
theorem pd_35 : parseMethodDescriptor "(Ljava/lang/String;[Ljava/lang/String;)Lcom/example/ampliar/ampliar/command/Parameter;" = some ⟨[(.object "java/lang/String"), (.array (.object "java/lang/String"))], some (.object "com/example/ampliar/ampliar/command/Parameter")⟩ := by decide +kernel
theorem pd_36 : parseMethodDescriptor "(Ljava/lang/String;Ljava/util/List;)V" = some ⟨[(.object "java/lang/String"), (.object "java/util/List")], none⟩ := by decide +kernel
theorem pd_37 : parseMethodDescriptor "(Ljava/util/Collection;)Ljava/util/List;" = some ⟨[(.object "java/util/Collection")], some (.object "java/util/List")⟩ := by decide +kernel
theorem ef_rmC5 (m : MethodId) (a1 : Addr) (a3 : Addr) : entryFrame m #[(.ref a1), (.int (0 : Int32)), (.ref a3), (.int (0 : Int32)), (.int (Int32.ofNat n))] 7 = mkF m 0 #[.val (.ref a1), .val (.int (0 : Int32)), .val (.ref a3), .val (.int (0 : Int32)), .val (.int (Int32.ofNat n)), .unset, .unset] [] := by first | (simp [entryFrame, mkF, argsToLocals, Value.category]; done) | rfl
def Q_rmC5 (Z : State) (a1 : Addr) (a3 : Addr) (n : Nat) (y : Nat → Int32) (z : Nat → Int32) (h0 : Heap) (n0 : Nat) (vv_ : Option Value) (h : Heap) (LL_ : List Loc) : Prop := vv_ = some (.int (Int32.ofNat n)) ∧ Fr n0 LL_ ∧ (Keep h0 h [a3] ∧ Av Z h a3 .byte n (fun q => .int ((y q).toInt8.toInt32)))
theorem d_jdk_52_method_21_code_0 : decode jdk_52_method_21_code 0 = .ok (.iconst 0, 1) := by decide +kernel
theorem d_jdk_52_method_21_code_1 : decode jdk_52_method_21_code 1 = .ok (.istore 5, 2) := by decide +kernel
theorem d_jdk_52_method_21_code_3 : decode jdk_52_method_21_code 3 = .ok (.iload 5, 2) := by decide +kernel
theorem d_jdk_52_method_21_code_5 : decode jdk_52_method_21_code 5 = .ok (.iload 4, 2) := by decide +kernel
theorem d_jdk_52_method_21_code_7 : decode jdk_52_method_21_code 7 = .ok (.if_icmp .ge 37, 3) := by decide +kernel
theorem d_jdk_52_method_21_code_10 : decode jdk_52_method_21_code 10 = .ok (.aload_n 0, 1) := by decide +kernel
theorem d_jdk_52_method_21_code_11 : decode jdk_52_method_21_code 11 = .ok (.iload_n 1, 1) := by decide +kernel
theorem d_jdk_52_method_21_code_12 : decode jdk_52_method_21_code 12 = .ok (.caload, 1) := by decide +kernel
theorem d_jdk_52_method_21_code_13 : decode jdk_52_method_21_code 13 = .ok (.istore 6, 2) := by decide +kernel
theorem d_jdk_52_method_21_code_15 : decode jdk_52_method_21_code 15 = .ok (.iload 6, 2) := by decide +kernel
theorem d_jdk_52_method_21_code_17 : decode jdk_52_method_21_code 17 = .ok (.sipush 255, 3) := by decide +kernel
theorem d_jdk_52_method_21_code_20 : decode jdk_52_method_21_code 20 = .ok (.if_icmp .le 6, 3) := by decide +kernel
theorem d_jdk_52_method_21_code_26 : decode jdk_52_method_21_code 26 = .ok (.aload_n 2, 1) := by decide +kernel
theorem d_jdk_52_method_21_code_27 : decode jdk_52_method_21_code 27 = .ok (.iload_n 3, 1) := by decide +kernel
theorem d_jdk_52_method_21_code_28 : decode jdk_52_method_21_code 28 = .ok (.iload 6, 2) := by decide +kernel
theorem d_jdk_52_method_21_code_30 : decode jdk_52_method_21_code 30 = .ok (.i2b, 1) := by decide +kernel
theorem d_jdk_52_method_21_code_31 : decode jdk_52_method_21_code 31 = .ok (.bastore, 1) := by decide +kernel
theorem d_jdk_52_method_21_code_32 : decode jdk_52_method_21_code 32 = .ok (.iinc 1 1, 3) := by decide +kernel
theorem d_jdk_52_method_21_code_35 : decode jdk_52_method_21_code 35 = .ok (.iinc 3 1, 3) := by decide +kernel
theorem d_jdk_52_method_21_code_38 : decode jdk_52_method_21_code 38 = .ok (.iinc 5 1, 3) := by decide +kernel
theorem d_jdk_52_method_21_code_41 : decode jdk_52_method_21_code 41 = .ok (.goto (-38), 3) := by decide +kernel
theorem d_jdk_52_method_21_code_44 : decode jdk_52_method_21_code 44 = .ok (.iload 4, 2) := by decide +kernel
theorem d_jdk_52_method_21_code_46 : decode jdk_52_method_21_code 46 = .ok (.ireturn, 1) := by decide +kernel
set_option maxRecDepth 65536 in
set_option maxHeartbeats 40000000 in
theorem rmC5 (l : Launch) (Z : State) (a0 : Array Value) (hw : ∀ d ∈ tables_1, d.before a0 Z = true) (ws : List Jvm.Cond) (a1 : Addr) (a3 : Addr) (n : Nat) (y : Nat → Int32) (z : Nat → Int32) (h0 : Heap) (n0 : Nat) (Z0 : n0 ≤ h0.size) (V1 : Av Z h0 a1 .char n (fun q => .int (y q))) (V2 : Av Z h0 a3 .byte n (fun q => .int (z q))) (g1 : n0 ≤ a3) (n1 : a1 ≠ a3) (hn : n ≤ 2) (hy : own_ch n y) :
    MetFree l (⟨"java/lang/StringUTF16", "compress", "([CI[BII)I"⟩ : MethodName) (head1 (Jvm.Cond.code (⟨"java/lang/StringUTF16", "compress", "([CI[BII)I"⟩ : MethodName) jdk_52_method_21_code 7 (some .int) :: ws) ({ frames := 0, cells := 0, slots := 0, locals := 0 } : Room)) (fun aa_ UU_ => aa_ = #[(.ref a1), (.int (0 : Int32)), (.ref a3), (.int (0 : Int32)), (.int (Int32.ofNat n))] ∧ Z.Warmed39 UU_.vm ∧ UU_.heap = h0) (fun _ _ _ _ _ => True) (fun _ UU_ oo_ VV_ => ∃ vv_ LL_, oo_ = .returned vv_ ∧ Q_rmC5 Z a1 a3 n y z h0 n0 vv_ VV_.heap LL_ ∧ FrameEnd UU_ oo_ VV_ LL_ ({ frames := 0, cells := 0, slots := 0, locals := 0 } : Room).cells ({ frames := 0, cells := 0, slots := 0, locals := 0 } : Room).slots) := by
  refine own_met (y := (⟨"java/lang/StringUTF16", "compress", "([CI[BII)I"⟩ : MethodName)) (plainFor_of_name pn_0) ?_
  intro p e s m below meth c T0 K hx hby hml hret hlk hown hnm hZ X0 e0 hK
  have N0 := Fr.nil n0
  refine Rch.cast (ef_rmC5 m a1 a3) ?_
  have loop : ∀ (k i : Nat) (hk : i + k = n) (T : State) (h : Heap) (locs : List Loc) (X : Stand p l e ({ frames := 0, cells := 0, slots := 0, locals := 0 } : Room) s m #[(.ref a1), (.int (0 : Int32)), (.ref a3), (.int (0 : Int32)), (.int (Int32.ofNat n))] below meth c T locs 0 0) (eT : T.heap = h) (N : Fr n0 locs) (Zh : n0 ≤ h.size) (Kh : Keep h0 h [a3]) (V : Av Z h a3 .byte n (fun q => .int (if q < i then (y q).toInt8.toInt32 else z q))) (s6 : Slot) (hs6 : One s6), Rch p e below K T (mkF m 3 #[.val (.ref a1), .val (.int (Int32.ofNat i)), .val (.ref a3), .val (.int (Int32.ofNat i)), .val (.int (Int32.ofNat n)), .val (.int (Int32.ofNat i)), s6] []) := by
    intro k
    induction k with
    | zero =>
      intro i hk T h locs X eT N Zh Kh V s6 hs6
      have hin : ¬ i < n := by omega
      refine Rch.of (T' := T) (g' := (mkF m 5 #[.val (.ref a1), .val (.int (Int32.ofNat i)), .val (.ref a3), .val (.int (Int32.ofNat i)), .val (.int (Int32.ofNat n)), .val (.int (Int32.ofNat i)), s6] [(.int (Int32.ofNat i))])) (fun _ kt => XS.iload X.here hx rfl (hb hby d_jdk_52_method_21_code_3) rfl  kt) ?_
      refine Rch.of (T' := T) (g' := (mkF m 7 #[.val (.ref a1), .val (.int (Int32.ofNat i)), .val (.ref a3), .val (.int (Int32.ofNat i)), .val (.int (Int32.ofNat n)), .val (.int (Int32.ofNat i)), s6] [(.int (Int32.ofNat n)), (.int (Int32.ofNat i))])) (fun _ kt => XS.iload X.here hx rfl (hb hby d_jdk_52_method_21_code_5) rfl  kt) ?_
      refine Rch.of (T' := T) (g' := (mkF m 44 #[.val (.ref a1), .val (.int (Int32.ofNat i)), .val (.ref a3), .val (.int (Int32.ofNat i)), .val (.int (Int32.ofNat n)), .val (.int (Int32.ofNat i)), s6] [])) (fun _ kt => XS.icmpYes X.here hx rfl (pc0 := 7) (pc' := 44) rfl (hb hby d_jdk_52_method_21_code_7) rfl (flt (fun q => hin ((own_olt2 (by omega) (by omega)).mp q))).2.1 (by decide) (by decide) kt) ?_
      refine Rch.of (T' := T) (g' := (mkF m 46 #[.val (.ref a1), .val (.int (Int32.ofNat i)), .val (.ref a3), .val (.int (Int32.ofNat i)), .val (.int (Int32.ofNat n)), .val (.int (Int32.ofNat i)), s6] [(.int (Int32.ofNat n))])) (fun _ kt => XS.iload X.here hx rfl (hb hby d_jdk_52_method_21_code_44) rfl  kt) ?_
      exact Rch.retI X hx hret hlk (hb hby d_jdk_52_method_21_code_46) (fun U hU hF => hK _ U _ _ _ (by show Q_rmC5 Z a1 a3 n y z h0 n0 _ U.heap _; rw [hU, eT]; exact ⟨rfl, N, Kh, V.congr (fun j hj => by simp [show j < i by omega])⟩) hF (by decide) (by decide))
    | succ k ih =>
      intro i hk T h locs X eT N Zh Kh V s6 hs6
      have hin : i < n := by omega
      refine Rch.of (T' := T) (g' := (mkF m 5 #[.val (.ref a1), .val (.int (Int32.ofNat i)), .val (.ref a3), .val (.int (Int32.ofNat i)), .val (.int (Int32.ofNat n)), .val (.int (Int32.ofNat i)), s6] [(.int (Int32.ofNat i))])) (fun _ kt => XS.iload X.here hx rfl (hb hby d_jdk_52_method_21_code_3) rfl  kt) ?_
      refine Rch.of (T' := T) (g' := (mkF m 7 #[.val (.ref a1), .val (.int (Int32.ofNat i)), .val (.ref a3), .val (.int (Int32.ofNat i)), .val (.int (Int32.ofNat n)), .val (.int (Int32.ofNat i)), s6] [(.int (Int32.ofNat n)), (.int (Int32.ofNat i))])) (fun _ kt => XS.iload X.here hx rfl (hb hby d_jdk_52_method_21_code_5) rfl  kt) ?_
      refine Rch.of (T' := T) (g' := (mkF m 10 #[.val (.ref a1), .val (.int (Int32.ofNat i)), .val (.ref a3), .val (.int (Int32.ofNat i)), .val (.int (Int32.ofNat n)), .val (.int (Int32.ofNat i)), s6] [])) (fun _ kt => XS.icmpNo X.here hx rfl (hb hby d_jdk_52_method_21_code_7) rfl (tlt ((own_olt2 (by omega) (by omega)).mpr hin)).2.1 kt) ?_
      refine Rch.of (T' := T) (g' := (mkF m 11 #[.val (.ref a1), .val (.int (Int32.ofNat i)), .val (.ref a3), .val (.int (Int32.ofNat i)), .val (.int (Int32.ofNat n)), .val (.int (Int32.ofNat i)), s6] [(.ref a1)])) (fun _ kt => XS.aloadN X.here hx rfl (hb hby d_jdk_52_method_21_code_10) rfl rfl kt) ?_
      refine Rch.of (T' := T) (g' := (mkF m 12 #[.val (.ref a1), .val (.int (Int32.ofNat i)), .val (.ref a3), .val (.int (Int32.ofNat i)), .val (.int (Int32.ofNat n)), .val (.int (Int32.ofNat i)), s6] [(.int (Int32.ofNat i)), (.ref a1)])) (fun _ kt => XS.iloadN X.here hx rfl (hb hby d_jdk_52_method_21_code_11) rfl  kt) ?_
      obtain ⟨cl101, Ar101, Sz101, Ha101⟩ := id (Av.keep V1 Kh (ninS n1 nin0))
      refine Rch.of (T' := T) (g' := (mkF m 13 #[.val (.ref a1), .val (.int (Int32.ofNat i)), .val (.ref a3), .val (.int (Int32.ofNat i)), .val (.int (Int32.ofNat n)), .val (.int (Int32.ofNat i)), s6] [(.int (y i))])) (X.caload hx (j := (Int32.ofNat i)) (v := (.int (y i))) (by rw [eT]; exact Ar101.1) (State.isArrayOf_alike hZ.alike Ar101.2.1) Ar101.2.2 (oIn (i := i) Sz101 (oTo (by omega)) hin) (oAt (i := i) Ha101 (oTo (by omega)) hin) (g := (mkF m 12 #[.val (.ref a1), .val (.int (Int32.ofNat i)), .val (.ref a3), .val (.int (Int32.ofNat i)), .val (.int (Int32.ofNat n)), .val (.int (Int32.ofNat i)), s6] [(.int (Int32.ofNat i)), (.ref a1)])) rfl rfl (hb hby d_jdk_52_method_21_code_12)) ?_
      refine Rch.of (T' := T) (g' := (mkF m 15 #[.val (.ref a1), .val (.int (Int32.ofNat i)), .val (.ref a3), .val (.int (Int32.ofNat i)), .val (.int (Int32.ofNat n)), .val (.int (Int32.ofNat i)), .val (.int (y i))] [])) (fun _ kt => XS.istore X.here hx rfl (hb hby d_jdk_52_method_21_code_13) rfl (l' := #[.val (.ref a1), .val (.int (Int32.ofNat i)), .val (.ref a3), .val (.int (Int32.ofNat i)), .val (.int (Int32.ofNat n)), .val (.int (Int32.ofNat i)), .val (.int (y i))]) (by rcases hs6 with rfl | ⟨w', rfl, hw'⟩ <;> first | rfl | (cases w' <;> first | rfl | (simp [Value.category] at hw'))) kt) ?_
      refine Rch.of (T' := T) (g' := (mkF m 17 #[.val (.ref a1), .val (.int (Int32.ofNat i)), .val (.ref a3), .val (.int (Int32.ofNat i)), .val (.int (Int32.ofNat n)), .val (.int (Int32.ofNat i)), .val (.int (y i))] [(.int (y i))])) (fun _ kt => XS.iload X.here hx rfl (hb hby d_jdk_52_method_21_code_15) rfl  kt) ?_
      refine Rch.of (T' := T) (g' := (mkF m 20 #[.val (.ref a1), .val (.int (Int32.ofNat i)), .val (.ref a3), .val (.int (Int32.ofNat i)), .val (.int (Int32.ofNat n)), .val (.int (Int32.ofNat i)), .val (.int (y i))] [(.int (255 : Int32)), (.int (y i))])) (fun _ kt => XS.sipush X.here hx rfl (hb hby d_jdk_52_method_21_code_17) kt) ?_
      refine Rch.of (T' := T) (g' := (mkF m 26 #[.val (.ref a1), .val (.int (Int32.ofNat i)), .val (.ref a3), .val (.int (Int32.ofNat i)), .val (.int (Int32.ofNat n)), .val (.int (Int32.ofNat i)), .val (.int (y i))] [])) (fun _ kt => XS.icmpYes X.here hx rfl (pc0 := 20) (pc' := 26) rfl (hb hby d_jdk_52_method_21_code_20) rfl (flt (own_le255 (hy i hin).2)).2.2.2 (by decide) (by decide) kt) ?_
      refine Rch.of (T' := T) (g' := (mkF m 27 #[.val (.ref a1), .val (.int (Int32.ofNat i)), .val (.ref a3), .val (.int (Int32.ofNat i)), .val (.int (Int32.ofNat n)), .val (.int (Int32.ofNat i)), .val (.int (y i))] [(.ref a3)])) (fun _ kt => XS.aloadN X.here hx rfl (hb hby d_jdk_52_method_21_code_26) rfl rfl kt) ?_
      refine Rch.of (T' := T) (g' := (mkF m 28 #[.val (.ref a1), .val (.int (Int32.ofNat i)), .val (.ref a3), .val (.int (Int32.ofNat i)), .val (.int (Int32.ofNat n)), .val (.int (Int32.ofNat i)), .val (.int (y i))] [(.int (Int32.ofNat i)), (.ref a3)])) (fun _ kt => XS.iloadN X.here hx rfl (hb hby d_jdk_52_method_21_code_27) rfl  kt) ?_
      refine Rch.of (T' := T) (g' := (mkF m 30 #[.val (.ref a1), .val (.int (Int32.ofNat i)), .val (.ref a3), .val (.int (Int32.ofNat i)), .val (.int (Int32.ofNat n)), .val (.int (Int32.ofNat i)), .val (.int (y i))] [(.int (y i)), (.int (Int32.ofNat i)), (.ref a3)])) (fun _ kt => XS.iload X.here hx rfl (hb hby d_jdk_52_method_21_code_28) rfl  kt) ?_
      refine Rch.of (T' := T) (g' := (mkF m 31 #[.val (.ref a1), .val (.int (Int32.ofNat i)), .val (.ref a3), .val (.int (Int32.ofNat i)), .val (.int (Int32.ofNat n)), .val (.int (Int32.ofNat i)), .val (.int (y i))] [(.int ((y i).toInt8.toInt32)), (.int (Int32.ofNat i)), (.ref a3)])) (fun _ kt => XS.i2b X.here hx rfl (hb hby d_jdk_52_method_21_code_30) rfl kt) ?_
      obtain ⟨cl102, Ar102, Sz102, Ha102⟩ := id V
      obtain ⟨T102, h102, X102, e102, W102, st102⟩ := stB X hx hZ eT Ar102 (j := (Int32.ofNat i)) (oIn (i := i) Sz102 (oTo (by omega)) hin) (g := (mkF m 31 #[.val (.ref a1), .val (.int (Int32.ofNat i)), .val (.ref a3), .val (.int (Int32.ofNat i)), .val (.int (Int32.ofNat n)), .val (.int (Int32.ofNat i)), .val (.int (y i))] [(.int ((y i).toInt8.toInt32)), (.int (Int32.ofNat i)), (.ref a3)])) rfl rfl (hb hby d_jdk_52_method_21_code_31)
      have V102 := Av.setI (i := i) V (oTo (by omega)) hin W102
      obtain ⟨y102, hy102⟩ : ∃ zz_ : Nat → Int32, zz_ = fun q => if q = i then ((y i).toInt8.toInt32).toInt8.toInt32 else (fun q => if q < i then (y q).toInt8.toInt32 else z q) q := ⟨_, rfl⟩
      have V102 : Av Z h102 a3 .byte n (fun q => .int (y102 q)) := by rw [hy102]; exact V102
      have N102 := Fr.snoc X102 N g1
      refine Rch.of (T' := T102) (g' := (mkF m 32 #[.val (.ref a1), .val (.int (Int32.ofNat i)), .val (.ref a3), .val (.int (Int32.ofNat i)), .val (.int (Int32.ofNat n)), .val (.int (Int32.ofNat i)), .val (.int (y i))] [])) st102 ?_
      refine Rch.of (T' := T102) (g' := (mkF m 35 #[.val (.ref a1), .val (.int ((Int32.ofNat i) + (1 : Int32))), .val (.ref a3), .val (.int (Int32.ofNat i)), .val (.int (Int32.ofNat n)), .val (.int (Int32.ofNat i)), .val (.int (y i))] [])) (fun _ kt => XS.iinc X102.here hx rfl (hb hby d_jdk_52_method_21_code_32) rfl (l' := #[.val (.ref a1), .val (.int ((Int32.ofNat i) + (1 : Int32))), .val (.ref a3), .val (.int (Int32.ofNat i)), .val (.int (Int32.ofNat n)), .val (.int (Int32.ofNat i)), .val (.int (y i))]) rfl kt) ?_
      refine Rch.of (T' := T102) (g' := (mkF m 38 #[.val (.ref a1), .val (.int ((Int32.ofNat i) + (1 : Int32))), .val (.ref a3), .val (.int ((Int32.ofNat i) + (1 : Int32))), .val (.int (Int32.ofNat n)), .val (.int (Int32.ofNat i)), .val (.int (y i))] [])) (fun _ kt => XS.iinc X102.here hx rfl (hb hby d_jdk_52_method_21_code_35) rfl (l' := #[.val (.ref a1), .val (.int ((Int32.ofNat i) + (1 : Int32))), .val (.ref a3), .val (.int ((Int32.ofNat i) + (1 : Int32))), .val (.int (Int32.ofNat n)), .val (.int (Int32.ofNat i)), .val (.int (y i))]) rfl kt) ?_
      refine Rch.of (T' := T102) (g' := (mkF m 41 #[.val (.ref a1), .val (.int ((Int32.ofNat i) + (1 : Int32))), .val (.ref a3), .val (.int ((Int32.ofNat i) + (1 : Int32))), .val (.int (Int32.ofNat n)), .val (.int ((Int32.ofNat i) + (1 : Int32))), .val (.int (y i))] [])) (fun _ kt => XS.iinc X102.here hx rfl (hb hby d_jdk_52_method_21_code_38) rfl (l' := #[.val (.ref a1), .val (.int ((Int32.ofNat i) + (1 : Int32))), .val (.ref a3), .val (.int ((Int32.ofNat i) + (1 : Int32))), .val (.int (Int32.ofNat n)), .val (.int ((Int32.ofNat i) + (1 : Int32))), .val (.int (y i))]) rfl kt) ?_
      refine Rch.of (T' := T102) (g' := (mkF m 3 #[.val (.ref a1), .val (.int ((Int32.ofNat i) + (1 : Int32))), .val (.ref a3), .val (.int ((Int32.ofNat i) + (1 : Int32))), .val (.int (Int32.ofNat n)), .val (.int ((Int32.ofNat i) + (1 : Int32))), .val (.int (y i))] [])) (fun _ kt => XS.goto X102.here hx rfl (pc0 := 41) (pc' := 3) rfl (hb hby d_jdk_52_method_21_code_41) (by decide) (by decide) kt) ?_
      rw [own_one i]
      exact ih (i + 1) (by omega) T102 _ _ X102 e102 N102 (Nat.le_trans Zh (Keep.of_wr W102).1) (Kh.wr W102 (Or.inl (List.mem_of_getElem? (i := 0) rfl))) (Av.congr V102 (fun j hj => by rw [hy102]; exact congrArg Value.int (own_put i j _ _ (fun q => (y q).toInt8.toInt32) (fun q => by rw [q]; exact own_b8 _)))) _ (One.val rfl)
  refine Rch.of (T' := T0) (g' := (mkF m 1 #[.val (.ref a1), .val (.int (0 : Int32)), .val (.ref a3), .val (.int (0 : Int32)), .val (.int (Int32.ofNat n)), .unset, .unset] [(.int (0 : Int32))])) (fun _ kt => XS.iconst X0.here hx rfl (hb hby d_jdk_52_method_21_code_0) kt) ?_
  refine Rch.of (T' := T0) (g' := (mkF m 3 #[.val (.ref a1), .val (.int (0 : Int32)), .val (.ref a3), .val (.int (0 : Int32)), .val (.int (Int32.ofNat n)), .val (.int (0 : Int32)), .unset] [])) (fun _ kt => XS.istore X0.here hx rfl (hb hby d_jdk_52_method_21_code_1) rfl (l' := #[.val (.ref a1), .val (.int (0 : Int32)), .val (.ref a3), .val (.int (0 : Int32)), .val (.int (Int32.ofNat n)), .val (.int (0 : Int32)), .unset]) rfl kt) ?_
  exact loop n 0 (by omega) T0 _ _ X0 e0 N0 Z0 (Keep.refl h0 [a3]) (V2.congr (fun j hj => by simp)) _ One.u
theorem ef_rmC3 (m : MethodId) (a1 : Addr) : entryFrame m #[(.ref a1), (.int (0 : Int32)), (.int (Int32.ofNat n))] 6 = mkF m 0 #[.val (.ref a1), .val (.int (0 : Int32)), .val (.int (Int32.ofNat n)), .unset, .unset, .unset] [] := by first | (simp [entryFrame, mkF, argsToLocals, Value.category]; done) | rfl
def Q_rmC3 (Z : State) (a1 : Addr) (n : Nat) (y : Nat → Int32) (h0 : Heap) (n0 : Nat) (vv_ : Option Value) (h : Heap) (LL_ : List Loc) : Prop := vv_ = some (.ref h0.size) ∧ Fr n0 LL_ ∧ (Keep h0 h [] ∧ Av Z h h0.size .byte n (fun q => .int ((y q).toInt8.toInt32)))
theorem d_jdk_52_method_16_code_0 : decode jdk_52_method_16_code 0 = .ok (.iload_n 2, 1) := by decide +kernel
theorem d_jdk_52_method_16_code_1 : decode jdk_52_method_16_code 1 = .ok (.newarray .byte, 2) := by decide +kernel
theorem d_jdk_52_method_16_code_3 : decode jdk_52_method_16_code 3 = .ok (.astore_n 3, 1) := by decide +kernel
theorem d_jdk_52_method_16_code_4 : decode jdk_52_method_16_code 4 = .ok (.aload_n 0, 1) := by decide +kernel
theorem d_jdk_52_method_16_code_5 : decode jdk_52_method_16_code 5 = .ok (.iload_n 1, 1) := by decide +kernel
theorem d_jdk_52_method_16_code_6 : decode jdk_52_method_16_code 6 = .ok (.aload_n 3, 1) := by decide +kernel
theorem d_jdk_52_method_16_code_7 : decode jdk_52_method_16_code 7 = .ok (.iconst 0, 1) := by decide +kernel
theorem d_jdk_52_method_16_code_8 : decode jdk_52_method_16_code 8 = .ok (.iload_n 2, 1) := by decide +kernel
theorem d_jdk_52_method_16_code_9 : decode jdk_52_method_16_code 9 = .ok (.invokestatic 115, 3) := by decide +kernel
theorem d_jdk_52_method_16_code_12 : decode jdk_52_method_16_code 12 = .ok (.istore 4, 2) := by decide +kernel
theorem d_jdk_52_method_16_code_14 : decode jdk_52_method_16_code 14 = .ok (.iload 4, 2) := by decide +kernel
theorem d_jdk_52_method_16_code_16 : decode jdk_52_method_16_code 16 = .ok (.iload_n 2, 1) := by decide +kernel
theorem d_jdk_52_method_16_code_17 : decode jdk_52_method_16_code 17 = .ok (.if_icmp .eq 40, 3) := by decide +kernel
theorem d_jdk_52_method_16_code_57 : decode jdk_52_method_16_code 57 = .ok (.aload_n 3, 1) := by decide +kernel
theorem d_jdk_52_method_16_code_58 : decode jdk_52_method_16_code 58 = .ok (.areturn, 1) := by decide +kernel
set_option maxRecDepth 65536 in
set_option maxHeartbeats 40000000 in
theorem rmC3 (l : Launch) (Z : State) (a0 : Array Value) (hw : ∀ d ∈ tables_1, d.before a0 Z = true) (ws : List Jvm.Cond) (a1 : Addr) (n : Nat) (y : Nat → Int32) (h0 : Heap) (n0 : Nat) (Z0 : n0 ≤ h0.size) (V1 : Av Z h0 a1 .char n (fun q => .int (y q))) (hn : n ≤ 2) (hy : own_ch n y) :
    MetFree l (⟨"java/lang/StringUTF16", "compress", "([CII)[B"⟩ : MethodName) (head1 (Jvm.Cond.code (⟨"java/lang/StringUTF16", "compress", "([CII)[B"⟩ : MethodName) jdk_52_method_16_code 6 (some (.array .byte)) :: ws) ({ frames := 1, cells := 1, slots := 2, locals := 18 } : Room)) (fun aa_ UU_ => aa_ = #[(.ref a1), (.int (0 : Int32)), (.int (Int32.ofNat n))] ∧ Z.Warmed39 UU_.vm ∧ UU_.heap = h0) (fun _ _ _ _ _ => True) (fun _ UU_ oo_ VV_ => ∃ vv_ LL_, oo_ = .returned vv_ ∧ Q_rmC3 Z a1 n y h0 n0 vv_ VV_.heap LL_ ∧ FrameEnd UU_ oo_ VV_ LL_ ({ frames := 1, cells := 1, slots := 2, locals := 18 } : Room).cells ({ frames := 1, cells := 1, slots := 2, locals := 18 } : Room).slots) := by
  refine own_met (y := (⟨"java/lang/StringUTF16", "compress", "([CII)[B"⟩ : MethodName)) (plainFor_of_name pn_0) ?_
  intro p e s m below meth c T0 K hx hby hml hret hlk hown hnm hZ X0 e0 hK
  have N0 := Fr.nil n0
  refine Rch.cast (ef_rmC3 m a1) ?_
  refine Rch.of (T' := T0) (g' := (mkF m 1 #[.val (.ref a1), .val (.int (0 : Int32)), .val (.int (Int32.ofNat n)), .unset, .unset, .unset] [(.int (Int32.ofNat n))])) (fun _ kt => XS.iloadN X0.here hx rfl (hb hby d_jdk_52_method_16_code_0) rfl  kt) ?_
  obtain ⟨T103, h103, k103, X103, e103, E103, A103, Q103, st103⟩ := newPE X0 hx hZ (hw _ (List.mem_of_getElem? (i := 19) rfl)) e0 (g := (mkF m 1 #[.val (.ref a1), .val (.int (0 : Int32)), .val (.int (Int32.ofNat n)), .unset, .unset, .unset] [(.int (Int32.ofNat n))])) rfl (hb hby d_jdk_52_method_16_code_1) rfl (oNn (oTo (by omega))) (cap := 2) (by rw [oNat (oTo (by omega))]; omega) (by decide) (by decide) (by decide) (ad := "[B") rfl
  obtain ⟨b103, g103⟩ : ∃ zz_, zz_ = h0.size := ⟨_, rfl⟩
  have ne_a1_b103 : a1 ≠ b103 := Nat.ne_of_lt (Nat.lt_of_lt_of_le V1.lt (Nat.le_of_eq g103.symm))
  have ge_b103 : n0 ≤ b103 := Nat.le_trans Z0 (Nat.le_of_eq g103.symm)
  have sz_b103 : h0.size ≤ b103 := Nat.le_trans (Keep.refl h0 []).1 (Nat.le_of_eq g103.symm)
  rw [← g103] at A103 Q103 st103
  have V103 : Av Z h103 b103 .byte n (fun _ => (.int (0 : Int32))) := Av.new A103 (oTo (by omega))
  refine Rch.of (T' := T103) (g' := (mkF m 3 #[.val (.ref a1), .val (.int (0 : Int32)), .val (.int (Int32.ofNat n)), .unset, .unset, .unset] [(.ref b103)])) st103 ?_
  refine Rch.of (T' := T103) (g' := (mkF m 4 #[.val (.ref a1), .val (.int (0 : Int32)), .val (.int (Int32.ofNat n)), .val (.ref b103), .unset, .unset] [])) (fun _ kt => XS.astoreN X103.here hx rfl (hb hby d_jdk_52_method_16_code_3) rfl rfl (l' := #[.val (.ref a1), .val (.int (0 : Int32)), .val (.int (Int32.ofNat n)), .val (.ref b103), .unset, .unset]) rfl kt) ?_
  refine Rch.of (T' := T103) (g' := (mkF m 5 #[.val (.ref a1), .val (.int (0 : Int32)), .val (.int (Int32.ofNat n)), .val (.ref b103), .unset, .unset] [(.ref a1)])) (fun _ kt => XS.aloadN X103.here hx rfl (hb hby d_jdk_52_method_16_code_4) rfl rfl kt) ?_
  refine Rch.of (T' := T103) (g' := (mkF m 6 #[.val (.ref a1), .val (.int (0 : Int32)), .val (.int (Int32.ofNat n)), .val (.ref b103), .unset, .unset] [(.int (0 : Int32)), (.ref a1)])) (fun _ kt => XS.iloadN X103.here hx rfl (hb hby d_jdk_52_method_16_code_5) rfl  kt) ?_
  refine Rch.of (T' := T103) (g' := (mkF m 7 #[.val (.ref a1), .val (.int (0 : Int32)), .val (.int (Int32.ofNat n)), .val (.ref b103), .unset, .unset] [(.ref b103), (.int (0 : Int32)), (.ref a1)])) (fun _ kt => XS.aloadN X103.here hx rfl (hb hby d_jdk_52_method_16_code_6) rfl rfl kt) ?_
  refine Rch.of (T' := T103) (g' := (mkF m 8 #[.val (.ref a1), .val (.int (0 : Int32)), .val (.int (Int32.ofNat n)), .val (.ref b103), .unset, .unset] [(.int (0 : Int32)), (.ref b103), (.int (0 : Int32)), (.ref a1)])) (fun _ kt => XS.iconst X103.here hx rfl (hb hby d_jdk_52_method_16_code_7) kt) ?_
  refine Rch.of (T' := T103) (g' := (mkF m 9 #[.val (.ref a1), .val (.int (0 : Int32)), .val (.int (Int32.ofNat n)), .val (.ref b103), .unset, .unset] [(.int (Int32.ofNat n)), (.int (0 : Int32)), (.ref b103), (.int (0 : Int32)), (.ref a1)])) (fun _ kt => XS.iloadN X103.here hx rfl (hb hby d_jdk_52_method_16_code_8) rfl  kt) ?_
  obtain ⟨_, _, ⟨T104, L104, k104, n104⟩, -, X104, ⟨Lc104, hQ104, l104, y104, z104⟩, st104⟩ := Jvm.LawKit.callS X103 hx (y := (⟨"java/lang/StringUTF16", "compress", "([CI[BII)I"⟩ : MethodName)) hown (mvT hZ (hw _ (List.mem_of_getElem? (i := 20) rfl))) (mvT hZ (hw _ (List.mem_of_getElem? (i := 21) rfl))) (mvT hZ (hw _ (List.mem_of_getElem? (i := 17) rfl))) (mvT hZ (hw _ (List.mem_of_getElem? (i := 22) rfl))) (by decide) (backOf (W := 0) (rmC5 l Z a0 hw [] a1 b103 n y (fun _ => (0 : Int32)) h103 n0 (Nat.le_trans Z0 E103.1) (V1.ext E103) V103 ge_b103 ne_a1_b103 hn hy) hZ (hw _ (List.mem_of_getElem? (i := 22) rfl)) (hw _ (List.mem_of_getElem? (i := 17) rfl)) (by decide) (by decide)) (g := (mkF m 9 #[.val (.ref a1), .val (.int (0 : Int32)), .val (.int (Int32.ofNat n)), .val (.ref b103), .unset, .unset] [(.int (Int32.ofNat n)), (.int (0 : Int32)), (.ref b103), (.int (0 : Int32)), (.ref a1)])) rfl (by rw [hml]; rfl) (argsL := [(.ref a1), (.int (0 : Int32)), (.ref b103), (.int (0 : Int32)), (.int (Int32.ofNat n))]) (rest := []) (lenOf pd_4 rfl) rfl (by show 2 * 0 + _ ≤ _; exact Nat.le_of_eq rfl) (hb hby d_jdk_52_method_16_code_9) (fun _ _ => ⟨rfl, e103, (by decide : 1 + 0 ≤ _), (by decide : 2 + 0 ≤ _)⟩)
  dsimp only [Pt.U, Pt.locs, Pt.cells, Pt.slots] at X104 l104 y104 z104 st104 hQ104
  subst l104 y104 z104
  obtain ⟨rfl, N104q, hQ104⟩ := hQ104
  have N104 := Fr.app N0 N104q
  obtain ⟨K104, V104⟩ := hQ104
  refine Rch.of (T' := T104) (g' := (mkF m 12 #[.val (.ref a1), .val (.int (0 : Int32)), .val (.int (Int32.ofNat n)), .val (.ref b103), .unset, .unset] [(.int (Int32.ofNat n))])) st104 ?_
  refine Rch.of (T' := T104) (g' := (mkF m 14 #[.val (.ref a1), .val (.int (0 : Int32)), .val (.int (Int32.ofNat n)), .val (.ref b103), .val (.int (Int32.ofNat n)), .unset] [])) (fun _ kt => XS.istore X104.here hx rfl (hb hby d_jdk_52_method_16_code_12) rfl (l' := #[.val (.ref a1), .val (.int (0 : Int32)), .val (.int (Int32.ofNat n)), .val (.ref b103), .val (.int (Int32.ofNat n)), .unset]) rfl kt) ?_
  refine Rch.of (T' := T104) (g' := (mkF m 16 #[.val (.ref a1), .val (.int (0 : Int32)), .val (.int (Int32.ofNat n)), .val (.ref b103), .val (.int (Int32.ofNat n)), .unset] [(.int (Int32.ofNat n))])) (fun _ kt => XS.iload X104.here hx rfl (hb hby d_jdk_52_method_16_code_14) rfl  kt) ?_
  refine Rch.of (T' := T104) (g' := (mkF m 17 #[.val (.ref a1), .val (.int (0 : Int32)), .val (.int (Int32.ofNat n)), .val (.ref b103), .val (.int (Int32.ofNat n)), .unset] [(.int (Int32.ofNat n)), (.int (Int32.ofNat n))])) (fun _ kt => XS.iloadN X104.here hx rfl (hb hby d_jdk_52_method_16_code_16) rfl  kt) ?_
  refine Rch.of (T' := T104) (g' := (mkF m 57 #[.val (.ref a1), .val (.int (0 : Int32)), .val (.int (Int32.ofNat n)), .val (.ref b103), .val (.int (Int32.ofNat n)), .unset] [])) (fun _ kt => XS.icmpYes X104.here hx rfl (pc0 := 17) (pc' := 57) rfl (hb hby d_jdk_52_method_16_code_17) rfl (teq (rfl : (Int32.ofNat n) = (Int32.ofNat n))).1 (by decide) (by decide) kt) ?_
  refine Rch.of (T' := T104) (g' := (mkF m 58 #[.val (.ref a1), .val (.int (0 : Int32)), .val (.int (Int32.ofNat n)), .val (.ref b103), .val (.int (Int32.ofNat n)), .unset] [(.ref b103)])) (fun _ kt => XS.aloadN X104.here hx rfl (hb hby d_jdk_52_method_16_code_57) rfl rfl kt) ?_
  exact Rch.retA X104 hx (w := (.ref b103)) hret rfl rfl hlk (hb hby d_jdk_52_method_16_code_58) (fun U hU hF => hK _ U _ _ _ (by show Q_rmC3 Z a1 n y h0 n0 _ U.heap _; rw [hU]; exact ⟨by rw [g103], N104, by rw [← g103]; exact ⟨(((Keep.refl h0 []).ext E103).trans K104 (allS (Or.inr sz_b103) all0)), V104⟩⟩) hF (by decide) (by decide))
theorem ef_rmCL (m : MethodId) (a1 : Addr) : entryFrame m #[(.ref a1), (.int (Int32.ofNat n))] 2 = mkF m 0 #[.val (.ref a1), .val (.int (Int32.ofNat n))] [] := by first | (simp [entryFrame, mkF, argsToLocals, Value.category]; done) | rfl
def Q_rmCL (Z : State) (a1 : Addr) (n : Nat) (y : Nat → Int32) (h0 : Heap) (n0 : Nat) (vv_ : Option Value) (h : Heap) (LL_ : List Loc) : Prop := vv_ = some (.int (0 : Int32)) ∧ Fr n0 LL_ ∧ (h = h0)
theorem d_jdk_52_method_15_code_0 : decode jdk_52_method_15_code 0 = .ok (.iload_n 1, 1) := by decide +kernel
theorem d_jdk_52_method_15_code_1 : decode jdk_52_method_15_code 1 = .ok (.aload_n 0, 1) := by decide +kernel
theorem d_jdk_52_method_15_code_2 : decode jdk_52_method_15_code 2 = .ok (.arraylength, 1) := by decide +kernel
theorem d_jdk_52_method_15_code_3 : decode jdk_52_method_15_code 3 = .ok (.isub, 1) := by decide +kernel
theorem d_jdk_52_method_15_code_4 : decode jdk_52_method_15_code 4 = .ok (.bipush 31, 2) := by decide +kernel
theorem d_jdk_52_method_15_code_6 : decode jdk_52_method_15_code 6 = .ok (.iushr, 1) := by decide +kernel
theorem d_jdk_52_method_15_code_7 : decode jdk_52_method_15_code 7 = .ok (.i2b, 1) := by decide +kernel
theorem d_jdk_52_method_15_code_8 : decode jdk_52_method_15_code 8 = .ok (.ireturn, 1) := by decide +kernel
set_option maxRecDepth 65536 in
set_option maxHeartbeats 40000000 in
theorem rmCL (l : Launch) (Z : State) (a0 : Array Value) (hw : ∀ d ∈ tables_1, d.before a0 Z = true) (ws : List Jvm.Cond) (a1 : Addr) (n : Nat) (y : Nat → Int32) (h0 : Heap) (n0 : Nat) (Z0 : n0 ≤ h0.size) (V1 : Av Z h0 a1 .byte n (fun q => .int (y q))) :
    MetFree l (⟨"java/lang/StringUTF16", "coderFromArrayLen", "([BI)B"⟩ : MethodName) (head1 (Jvm.Cond.code (⟨"java/lang/StringUTF16", "coderFromArrayLen", "([BI)B"⟩ : MethodName) jdk_52_method_15_code 2 (some .byte) :: ws) ({ frames := 0, cells := 0, slots := 0, locals := 0 } : Room)) (fun aa_ UU_ => aa_ = #[(.ref a1), (.int (Int32.ofNat n))] ∧ Z.Warmed39 UU_.vm ∧ UU_.heap = h0) (fun _ _ _ _ _ => True) (fun _ UU_ oo_ VV_ => ∃ vv_ LL_, oo_ = .returned vv_ ∧ Q_rmCL Z a1 n y h0 n0 vv_ VV_.heap LL_ ∧ FrameEnd UU_ oo_ VV_ LL_ ({ frames := 0, cells := 0, slots := 0, locals := 0 } : Room).cells ({ frames := 0, cells := 0, slots := 0, locals := 0 } : Room).slots) := by
  refine own_met (y := (⟨"java/lang/StringUTF16", "coderFromArrayLen", "([BI)B"⟩ : MethodName)) (plainFor_of_name pn_0) ?_
  intro p e s m below meth c T0 K hx hby hml hret hlk hown hnm hZ X0 e0 hK
  have N0 := Fr.nil n0
  refine Rch.cast (ef_rmCL m a1) ?_
  refine Rch.of (T' := T0) (g' := (mkF m 1 #[.val (.ref a1), .val (.int (Int32.ofNat n))] [(.int (Int32.ofNat n))])) (fun _ kt => XS.iloadN X0.here hx rfl (hb hby d_jdk_52_method_15_code_0) rfl  kt) ?_
  refine Rch.of (T' := T0) (g' := (mkF m 2 #[.val (.ref a1), .val (.int (Int32.ofNat n))] [(.ref a1), (.int (Int32.ofNat n))])) (fun _ kt => XS.aloadN X0.here hx rfl (hb hby d_jdk_52_method_15_code_1) rfl rfl kt) ?_
  obtain ⟨cl105, Ar105, Sz105, Ha105⟩ := id V1
  refine Rch.of (T' := T0) (g' := (mkF m 3 #[.val (.ref a1), .val (.int (Int32.ofNat n))] [(.int cl105.slots.size.toInt32), (.int (Int32.ofNat n))])) (X0.arraylength hx (by rw [e0]; exact Ar105.1) (State.isArrayOf_alike hZ.alike Ar105.2.1) (g := (mkF m 2 #[.val (.ref a1), .val (.int (Int32.ofNat n))] [(.ref a1), (.int (Int32.ofNat n))])) rfl rfl (hb hby d_jdk_52_method_15_code_2)) ?_
  rw [oLen Sz105]
  show Rch p e below K T0 (mkF m 3 #[.val (.ref a1), .val (.int (Int32.ofNat n))] [(.int (Int32.ofNat n)), (.int (Int32.ofNat n))])
  refine Rch.of (T' := T0) (g' := (mkF m 4 #[.val (.ref a1), .val (.int (Int32.ofNat n))] [(.int ((Int32.ofNat n) - (Int32.ofNat n)))])) (fun _ kt => XS.isub X0.here hx rfl (hb hby d_jdk_52_method_15_code_3) rfl kt) ?_
  refine Rch.of (T' := T0) (g' := (mkF m 6 #[.val (.ref a1), .val (.int (Int32.ofNat n))] [(.int (31 : Int32)), (.int ((Int32.ofNat n) - (Int32.ofNat n)))])) (fun _ kt => XS.bipush X0.here hx rfl (hb hby d_jdk_52_method_15_code_4) kt) ?_
  refine Rch.of (T' := T0) (g' := (mkF m 7 #[.val (.ref a1), .val (.int (Int32.ofNat n))] [(.int ((((Int32.ofNat n) - (Int32.ofNat n)).toUInt32 >>> ((31 : Int32) &&& 31).toUInt32).toInt32))])) (fun _ kt => XS.iushr X0.here hx rfl (hb hby d_jdk_52_method_15_code_6) rfl kt) ?_
  refine Rch.of (T' := T0) (g' := (mkF m 8 #[.val (.ref a1), .val (.int (Int32.ofNat n))] [(.int (((((Int32.ofNat n) - (Int32.ofNat n)).toUInt32 >>> ((31 : Int32) &&& 31).toUInt32).toInt32).toInt8.toInt32))])) (fun _ kt => XS.i2b X0.here hx rfl (hb hby d_jdk_52_method_15_code_7) rfl kt) ?_
  exact Rch.retN X0 hx (t := .byte) hret (by simp) hlk (hb hby d_jdk_52_method_15_code_8) (fun U hU hF => hK _ U _ _ _ (by show Q_rmCL Z a1 n y h0 n0 _ U.heap _; rw [hU, e0]; exact ⟨congrArg (fun q => some (Value.int q)) (show nar .byte _ = _ from (own_b8 _).trans (own_cod n)), N0, rfl⟩) hF (by decide) (by decide))
theorem pn_1 : plainName "java/lang/String" = true := by first | (simp [plainName, overriddenIn]; done) | decide +kernel
theorem ef_rmS4 (m : MethodId) (a1 : Addr) (a2 : Addr) : entryFrame m #[(.ref a1), (.ref a2), (.int (0 : Int32)), (.int (Int32.ofNat n)), .null] 6 = mkF m 0 #[.val (.ref a1), .val (.ref a2), .val (.int (0 : Int32)), .val (.int (Int32.ofNat n)), .val .null, .unset] [] := by first | (simp [entryFrame, mkF, argsToLocals, Value.category]; done) | rfl
def Q_rmS4 (Z : State) (a1 : Addr) (a2 : Addr) (n : Nat) (y : Nat → Int32) (u1 : Value) (u2 : Value) (cs : Int32) (h0 : Heap) (n0 : Nat) (vv_ : Option Value) (h : Heap) (LL_ : List Loc) : Prop := vv_ = none ∧ Fr n0 LL_ ∧ (Keep h0 h [a1] ∧ Exa Z h a1 "java/lang/String" ∧ Fld Z h a1 "java/lang/String" "coder" "B" (.int (0 : Int32)) ∧ Fld Z h a1 "java/lang/String" "value" "[B" (.ref h0.size) ∧ Av Z h h0.size .byte n (fun q => .int ((y q).toInt8.toInt32)))
theorem d_jdk_42_method_149_code_0 : decode jdk_42_method_149_code 0 = .ok (.aload_n 0, 1) := by decide +kernel
theorem d_jdk_42_method_149_code_1 : decode jdk_42_method_149_code 1 = .ok (.invokespecial 1, 3) := by decide +kernel
theorem d_jdk_42_method_149_code_4 : decode jdk_42_method_149_code 4 = .ok (.iload_n 3, 1) := by decide +kernel
theorem d_jdk_42_method_149_code_5 : decode jdk_42_method_149_code 5 = .ok (.ifCond .ne 22, 3) := by decide +kernel
theorem d_jdk_42_method_149_code_27 : decode jdk_42_method_149_code 27 = .ok (.getstatic 38, 3) := by decide +kernel
theorem d_jdk_42_method_149_code_30 : decode jdk_42_method_149_code 30 = .ok (.ifCond .eq 28, 3) := by decide +kernel
theorem d_jdk_42_method_149_code_33 : decode jdk_42_method_149_code 33 = .ok (.aload_n 1, 1) := by decide +kernel
theorem d_jdk_42_method_149_code_34 : decode jdk_42_method_149_code 34 = .ok (.iload_n 2, 1) := by decide +kernel
theorem d_jdk_42_method_149_code_35 : decode jdk_42_method_149_code 35 = .ok (.iload_n 3, 1) := by decide +kernel
theorem d_jdk_42_method_149_code_36 : decode jdk_42_method_149_code 36 = .ok (.invokestatic 177, 3) := by decide +kernel
theorem d_jdk_42_method_149_code_39 : decode jdk_42_method_149_code 39 = .ok (.astore 5, 2) := by decide +kernel
theorem d_jdk_42_method_149_code_41 : decode jdk_42_method_149_code 41 = .ok (.aload_n 0, 1) := by decide +kernel
theorem d_jdk_42_method_149_code_42 : decode jdk_42_method_149_code 42 = .ok (.aload 5, 2) := by decide +kernel
theorem d_jdk_42_method_149_code_44 : decode jdk_42_method_149_code 44 = .ok (.iload_n 3, 1) := by decide +kernel
theorem d_jdk_42_method_149_code_45 : decode jdk_42_method_149_code 45 = .ok (.invokestatic 47, 3) := by decide +kernel
theorem d_jdk_42_method_149_code_48 : decode jdk_42_method_149_code 48 = .ok (.putfield 15, 3) := by decide +kernel
theorem d_jdk_42_method_149_code_51 : decode jdk_42_method_149_code 51 = .ok (.aload_n 0, 1) := by decide +kernel
theorem d_jdk_42_method_149_code_52 : decode jdk_42_method_149_code 52 = .ok (.aload 5, 2) := by decide +kernel
theorem d_jdk_42_method_149_code_54 : decode jdk_42_method_149_code 54 = .ok (.putfield 9, 3) := by decide +kernel
theorem d_jdk_42_method_149_code_57 : decode jdk_42_method_149_code 57 = .ok (.return_, 1) := by decide +kernel
set_option maxRecDepth 65536 in
set_option maxHeartbeats 40000000 in
theorem rmS4 (l : Launch) (Z : State) (a0 : Array Value) (hw : ∀ d ∈ tables_1, d.before a0 Z = true) (ws : List Jvm.Cond) (a1 : Addr) (a2 : Addr) (n : Nat) (y : Nat → Int32) (u1 : Value) (u2 : Value) (cs : Int32) (h0 : Heap) (n0 : Nat) (Z0 : n0 ≤ h0.size) (E1 : Exa Z h0 a1 "java/lang/String") (F1 : Fld Z h0 a1 "java/lang/String" "coder" "B" u1) (F2 : Fld Z h0 a1 "java/lang/String" "value" "[B" u2) (g1 : n0 ≤ a1) (V1 : Av Z h0 a2 .char n (fun q => .int (y q))) (SC : Sta Z h0 "java/lang/String" "COMPACT_STRINGS" "Z" (.int cs)) (hcs : ¬ cs = (0 : Int32)) (hn : n ≤ 2) (h1 : 1 ≤ n) (hy : own_ch n y) :
    MetFree l (⟨"java/lang/String", "<init>", "([CIILjava/lang/Void;)V"⟩ : MethodName) (head1 (Jvm.Cond.code (⟨"java/lang/String", "<init>", "([CIILjava/lang/Void;)V"⟩ : MethodName) jdk_42_method_149_code 6 none :: ws) ({ frames := 2, cells := 1, slots := 2, locals := 35 } : Room)) (fun aa_ UU_ => aa_ = #[(.ref a1), (.ref a2), (.int (0 : Int32)), (.int (Int32.ofNat n)), .null] ∧ Z.Warmed39 UU_.vm ∧ UU_.heap = h0) (fun _ _ _ _ _ => True) (fun _ UU_ oo_ VV_ => ∃ vv_ LL_, oo_ = .returned vv_ ∧ Q_rmS4 Z a1 a2 n y u1 u2 cs h0 n0 vv_ VV_.heap LL_ ∧ FrameEnd UU_ oo_ VV_ LL_ ({ frames := 2, cells := 1, slots := 2, locals := 35 } : Room).cells ({ frames := 2, cells := 1, slots := 2, locals := 35 } : Room).slots) := by
  refine own_met (y := (⟨"java/lang/String", "<init>", "([CIILjava/lang/Void;)V"⟩ : MethodName)) (plainFor_of_name pn_1) ?_
  intro p e s m below meth c T0 K hx hby hml hret hlk hown hnm hZ X0 e0 hK
  have N0 := Fr.nil n0
  refine Rch.cast (ef_rmS4 m a1 a2) ?_
  refine Rch.of (T' := T0) (g' := (mkF m 1 #[.val (.ref a1), .val (.ref a2), .val (.int (0 : Int32)), .val (.int (Int32.ofNat n)), .val .null, .unset] [(.ref a1)])) (fun _ kt => XS.aloadN X0.here hx rfl (hb hby d_jdk_42_method_149_code_0) rfl rfl kt) ?_
  obtain ⟨T106, X106, e106, st106⟩ := initO X0 hx hZ hown (hw _ (List.mem_of_getElem? (i := 11) rfl)) (hw _ (List.mem_of_getElem? (i := 12) rfl)) (hw _ (List.mem_of_getElem? (i := 13) rfl)) e0 (g := (mkF m 1 #[.val (.ref a1), .val (.ref a2), .val (.int (0 : Int32)), .val (.int (Int32.ofNat n)), .val .null, .unset] [(.ref a1)])) rfl (by rw [hml]; rfl) rfl (hb hby d_jdk_42_method_149_code_1) (by decide) (W := 0) (by show 2 * 0 + _ ≤ _; exact Nat.le_of_eq rfl) (by decide)
  refine Rch.of (T' := T106) (g' := (mkF m 4 #[.val (.ref a1), .val (.ref a2), .val (.int (0 : Int32)), .val (.int (Int32.ofNat n)), .val .null, .unset] [])) st106 ?_
  refine Rch.of (T' := T106) (g' := (mkF m 5 #[.val (.ref a1), .val (.ref a2), .val (.int (0 : Int32)), .val (.int (Int32.ofNat n)), .val .null, .unset] [(.int (Int32.ofNat n))])) (fun _ kt => XS.iloadN X106.here hx rfl (hb hby d_jdk_42_method_149_code_4) rfl  kt) ?_
  refine Rch.of (T' := T106) (g' := (mkF m 27 #[.val (.ref a1), .val (.ref a2), .val (.int (0 : Int32)), .val (.int (Int32.ofNat n)), .val .null, .unset] [])) (fun _ kt => XS.ifYes X106.here hx rfl (pc0 := 5) (pc' := 27) rfl (hb hby d_jdk_42_method_149_code_5) rfl ((if0 _ _).trans (feq (own_ne0 h1 (by omega))).2) (by decide) (by decide) kt) ?_
  obtain ⟨T107, X107, e107, st107⟩ := getS2 X106 hx hZ hown (host := "") (Or.inl (hw _ (List.mem_of_getElem? (i := 14) rfl))) Via.refl e106 SC (g := (mkF m 27 #[.val (.ref a1), .val (.ref a2), .val (.int (0 : Int32)), .val (.int (Int32.ofNat n)), .val .null, .unset] [])) rfl (hb hby d_jdk_42_method_149_code_27)
  refine Rch.of (T' := T107) (g' := (mkF m 30 #[.val (.ref a1), .val (.ref a2), .val (.int (0 : Int32)), .val (.int (Int32.ofNat n)), .val .null, .unset] [(.int cs)])) st107 ?_
  refine Rch.of (T' := T107) (g' := (mkF m 33 #[.val (.ref a1), .val (.ref a2), .val (.int (0 : Int32)), .val (.int (Int32.ofNat n)), .val .null, .unset] [])) (fun _ kt => XS.ifNo X107.here hx rfl (hb hby d_jdk_42_method_149_code_30) rfl ((if0 _ _).trans (feq hcs).1) kt) ?_
  refine Rch.of (T' := T107) (g' := (mkF m 34 #[.val (.ref a1), .val (.ref a2), .val (.int (0 : Int32)), .val (.int (Int32.ofNat n)), .val .null, .unset] [(.ref a2)])) (fun _ kt => XS.aloadN X107.here hx rfl (hb hby d_jdk_42_method_149_code_33) rfl rfl kt) ?_
  refine Rch.of (T' := T107) (g' := (mkF m 35 #[.val (.ref a1), .val (.ref a2), .val (.int (0 : Int32)), .val (.int (Int32.ofNat n)), .val .null, .unset] [(.int (0 : Int32)), (.ref a2)])) (fun _ kt => XS.iloadN X107.here hx rfl (hb hby d_jdk_42_method_149_code_34) rfl  kt) ?_
  refine Rch.of (T' := T107) (g' := (mkF m 36 #[.val (.ref a1), .val (.ref a2), .val (.int (0 : Int32)), .val (.int (Int32.ofNat n)), .val .null, .unset] [(.int (Int32.ofNat n)), (.int (0 : Int32)), (.ref a2)])) (fun _ kt => XS.iloadN X107.here hx rfl (hb hby d_jdk_42_method_149_code_35) rfl  kt) ?_
  obtain ⟨_, _, ⟨T108, L108, k108, n108⟩, -, X108, ⟨Lc108, hQ108, l108, y108, z108⟩, st108⟩ := Jvm.LawKit.callS X107 hx (y := (⟨"java/lang/StringUTF16", "compress", "([CII)[B"⟩ : MethodName)) hown (mvT hZ (hw _ (List.mem_of_getElem? (i := 15) rfl))) (mvT hZ (hw _ (List.mem_of_getElem? (i := 16) rfl))) (mvT hZ (hw _ (List.mem_of_getElem? (i := 17) rfl))) (mvT hZ (hw _ (List.mem_of_getElem? (i := 18) rfl))) (by decide) (backOf (W := 0) (rmC3 l Z a0 hw [] a2 n y h0 n0 Z0 V1 hn hy) hZ (hw _ (List.mem_of_getElem? (i := 18) rfl)) (hw _ (List.mem_of_getElem? (i := 17) rfl)) (by decide) (by decide)) (g := (mkF m 36 #[.val (.ref a1), .val (.ref a2), .val (.int (0 : Int32)), .val (.int (Int32.ofNat n)), .val .null, .unset] [(.int (Int32.ofNat n)), (.int (0 : Int32)), (.ref a2)])) rfl (by rw [hml]; rfl) (argsL := [(.ref a2), (.int (0 : Int32)), (.int (Int32.ofNat n))]) (rest := []) (lenOf pd_3 rfl) rfl (by show 2 * 0 + _ ≤ _; exact Nat.le_of_eq rfl) (hb hby d_jdk_42_method_149_code_36) (fun _ _ => ⟨rfl, e107, (by decide : 0 + 1 ≤ _), (by decide : 0 + 2 ≤ _)⟩)
  dsimp only [Pt.U, Pt.locs, Pt.cells, Pt.slots] at X108 l108 y108 z108 st108 hQ108
  subst l108 y108 z108
  obtain ⟨rfl, N108q, hQ108⟩ := hQ108
  have N108 := Fr.app N0 N108q
  obtain ⟨K108, V108⟩ := hQ108
  obtain ⟨b108, g108⟩ : ∃ zz_, zz_ = h0.size := ⟨_, rfl⟩
  have ne_a1_b108 : a1 ≠ b108 := Nat.ne_of_lt (Nat.lt_of_lt_of_le E1.lt (Nat.le_of_eq g108.symm))
  have ne_a2_b108 : a2 ≠ b108 := Nat.ne_of_lt (Nat.lt_of_lt_of_le V1.lt (Nat.le_of_eq g108.symm))
  have ge_b108 : n0 ≤ b108 := Nat.le_trans Z0 (Nat.le_of_eq g108.symm)
  have sz_b108 : h0.size ≤ b108 := Nat.le_trans (Keep.refl h0 [a1]).1 (Nat.le_of_eq g108.symm)
  rw [← g108] at V108 st108
  refine Rch.of (T' := T108) (g' := (mkF m 39 #[.val (.ref a1), .val (.ref a2), .val (.int (0 : Int32)), .val (.int (Int32.ofNat n)), .val .null, .unset] [(.ref b108)])) st108 ?_
  refine Rch.of (T' := T108) (g' := (mkF m 41 #[.val (.ref a1), .val (.ref a2), .val (.int (0 : Int32)), .val (.int (Int32.ofNat n)), .val .null, .val (.ref b108)] [])) (fun _ kt => XS.astore X108.here hx rfl (hb hby d_jdk_42_method_149_code_39) rfl rfl (l' := #[.val (.ref a1), .val (.ref a2), .val (.int (0 : Int32)), .val (.int (Int32.ofNat n)), .val .null, .val (.ref b108)]) rfl kt) ?_
  refine Rch.of (T' := T108) (g' := (mkF m 42 #[.val (.ref a1), .val (.ref a2), .val (.int (0 : Int32)), .val (.int (Int32.ofNat n)), .val .null, .val (.ref b108)] [(.ref a1)])) (fun _ kt => XS.aloadN X108.here hx rfl (hb hby d_jdk_42_method_149_code_41) rfl rfl kt) ?_
  refine Rch.of (T' := T108) (g' := (mkF m 44 #[.val (.ref a1), .val (.ref a2), .val (.int (0 : Int32)), .val (.int (Int32.ofNat n)), .val .null, .val (.ref b108)] [(.ref b108), (.ref a1)])) (fun _ kt => XS.aload X108.here hx rfl (hb hby d_jdk_42_method_149_code_42) rfl rfl kt) ?_
  refine Rch.of (T' := T108) (g' := (mkF m 45 #[.val (.ref a1), .val (.ref a2), .val (.int (0 : Int32)), .val (.int (Int32.ofNat n)), .val .null, .val (.ref b108)] [(.int (Int32.ofNat n)), (.ref b108), (.ref a1)])) (fun _ kt => XS.iloadN X108.here hx rfl (hb hby d_jdk_42_method_149_code_44) rfl  kt) ?_
  obtain ⟨_, _, ⟨T109, L109, k109, n109⟩, -, X109, ⟨Lc109, hQ109, l109, y109, z109⟩, st109⟩ := Jvm.LawKit.callS X108 hx (y := (⟨"java/lang/StringUTF16", "coderFromArrayLen", "([BI)B"⟩ : MethodName)) hown (mvT hZ (hw _ (List.mem_of_getElem? (i := 23) rfl))) (mvT hZ (hw _ (List.mem_of_getElem? (i := 24) rfl))) (mvT hZ (hw _ (List.mem_of_getElem? (i := 17) rfl))) (mvT hZ (hw _ (List.mem_of_getElem? (i := 25) rfl))) (by decide) (backOf (W := 1) (rmCL l Z a0 hw [] b108 n (fun q => (y q).toInt8.toInt32) T108.heap n0 (Nat.le_trans Z0 K108.1) V108) hZ (hw _ (List.mem_of_getElem? (i := 25) rfl)) (hw _ (List.mem_of_getElem? (i := 17) rfl)) (by decide) (by decide)) (g := (mkF m 45 #[.val (.ref a1), .val (.ref a2), .val (.int (0 : Int32)), .val (.int (Int32.ofNat n)), .val .null, .val (.ref b108)] [(.int (Int32.ofNat n)), (.ref b108), (.ref a1)])) rfl (by rw [hml]; rfl) (argsL := [(.ref b108), (.int (Int32.ofNat n))]) (rest := [(.ref a1)]) (lenOf pd_5 rfl) rfl (by show 2 * 0 + _ ≤ _; exact Nat.le_of_eq rfl) (hb hby d_jdk_42_method_149_code_45) (fun _ _ => ⟨rfl, rfl, (by decide : 1 + 0 ≤ _), (by decide : 2 + 0 ≤ _)⟩)
  dsimp only [Pt.U, Pt.locs, Pt.cells, Pt.slots] at X109 l109 y109 z109 st109 hQ109
  subst l109 y109 z109
  obtain ⟨rfl, N109q, hQ109⟩ := hQ109
  have N109 := Fr.app N108 N109q
  refine Rch.of (T' := T109) (g' := (mkF m 48 #[.val (.ref a1), .val (.ref a2), .val (.int (0 : Int32)), .val (.int (Int32.ofNat n)), .val .null, .val (.ref b108)] [(.int (0 : Int32)), (.ref a1)])) st109 ?_
  obtain ⟨T110, h110, X110, e110, W110, st110⟩ := putFN X109 hx hZ hown (hw _ (List.mem_of_getElem? (i := 26) rfl)) Via.refl hQ109 (F1.keep K108 nin0) (E1.keep K108) (Or.inr ⟨(hw _ (List.mem_of_getElem? (i := 27) rfl)), rfl, hnm⟩) (hw _ (List.mem_of_getElem? (i := 2) rfl)) (ty := .byte) (v' := (.int (nar .byte (0 : Int32)))) (by decide) rfl (fits_nar_byte _) (g := (mkF m 48 #[.val (.ref a1), .val (.ref a2), .val (.int (0 : Int32)), .val (.int (Int32.ofNat n)), .val .null, .val (.ref b108)] [(.int (0 : Int32)), (.ref a1)])) rfl rfl (hb hby d_jdk_42_method_149_code_48)
  have N110 := Fr.snoc X110 N109 g1
  have Fw110 := Fld.same W110 (F1.keep K108 nin0)
  have Fb111 := ((F2.keep K108 nin0).other W110 (Or.inr (slot_ne (Or.inr (hw _ (List.mem_of_getElem? (i := 29) rfl))) (Or.inr (hw _ (List.mem_of_getElem? (i := 27) rfl))) (by decide) (t := (.array .byte)) (t' := .byte) (by decide) (by decide))))
  refine Rch.of (T' := T110) (g' := (mkF m 51 #[.val (.ref a1), .val (.ref a2), .val (.int (0 : Int32)), .val (.int (Int32.ofNat n)), .val .null, .val (.ref b108)] [])) st110 ?_
  refine Rch.of (T' := T110) (g' := (mkF m 52 #[.val (.ref a1), .val (.ref a2), .val (.int (0 : Int32)), .val (.int (Int32.ofNat n)), .val .null, .val (.ref b108)] [(.ref a1)])) (fun _ kt => XS.aloadN X110.here hx rfl (hb hby d_jdk_42_method_149_code_51) rfl rfl kt) ?_
  refine Rch.of (T' := T110) (g' := (mkF m 54 #[.val (.ref a1), .val (.ref a2), .val (.int (0 : Int32)), .val (.int (Int32.ofNat n)), .val .null, .val (.ref b108)] [(.ref b108), (.ref a1)])) (fun _ kt => XS.aload X110.here hx rfl (hb hby d_jdk_42_method_149_code_52) rfl rfl kt) ?_
  obtain ⟨T112, h112, X112, e112, W112, st112⟩ := putF X110 hx hZ hown (host := "") (Or.inl (hw _ (List.mem_of_getElem? (i := 28) rfl))) Via.refl e110 Fb111 ((E1.keep K108).wr W110) (Or.inr ⟨(hw _ (List.mem_of_getElem? (i := 29) rfl)), rfl, hnm⟩) (hw _ (List.mem_of_getElem? (i := 2) rfl)) (ty := (.array .byte)) (by decide) rfl rfl (g := (mkF m 54 #[.val (.ref a1), .val (.ref a2), .val (.int (0 : Int32)), .val (.int (Int32.ofNat n)), .val .null, .val (.ref b108)] [(.ref b108), (.ref a1)])) rfl rfl (hb hby d_jdk_42_method_149_code_54)
  have N112 := Fr.snoc X112 N110 g1
  have Fw112 := Fld.same W112 Fb111
  have Fb113 := (Fw110.other W112 (Or.inr (slot_ne (Or.inr (hw _ (List.mem_of_getElem? (i := 27) rfl))) (Or.inr (hw _ (List.mem_of_getElem? (i := 29) rfl))) (by decide) (t := .byte) (t' := (.array .byte)) (by decide) (by decide))))
  refine Rch.of (T' := T112) (g' := (mkF m 57 #[.val (.ref a1), .val (.ref a2), .val (.int (0 : Int32)), .val (.int (Int32.ofNat n)), .val .null, .val (.ref b108)] [])) st112 ?_
  exact Rch.retV X112 hx hret hlk (hb hby d_jdk_42_method_149_code_57) (fun U hU hF => hK _ U _ _ _ (by show Q_rmS4 Z a1 a2 n y u1 u2 cs h0 n0 _ U.heap _; rw [hU, e112]; exact ⟨rfl, N112, by rw [← g108]; exact ⟨((((Keep.refl h0 [a1]).trans K108 all0).wr W110 (Or.inl (List.mem_of_getElem? (i := 0) rfl))).wr W112 (Or.inl (List.mem_of_getElem? (i := 0) rfl))), (((E1.keep K108).wr W110).wr W112), Fb113, Fw112, ((V108.other W110 (Ne.symm ne_a1_b108)).other W112 (Ne.symm ne_a1_b108))⟩⟩) hF (by decide) (by decide))
theorem ef_rmS1 (m : MethodId) (a1 : Addr) (a2 : Addr) : entryFrame m #[(.ref a1), (.ref a2)] 2 = mkF m 0 #[.val (.ref a1), .val (.ref a2)] [] := by first | (simp [entryFrame, mkF, argsToLocals, Value.category]; done) | rfl
def Q_rmS1 (Z : State) (a1 : Addr) (a2 : Addr) (n : Nat) (y : Nat → Int32) (u1 : Value) (u2 : Value) (cs : Int32) (h0 : Heap) (n0 : Nat) (vv_ : Option Value) (h : Heap) (LL_ : List Loc) : Prop := vv_ = none ∧ Fr n0 LL_ ∧ (Keep h0 h [a1] ∧ Exa Z h a1 "java/lang/String" ∧ Fld Z h a1 "java/lang/String" "coder" "B" (.int (0 : Int32)) ∧ Fld Z h a1 "java/lang/String" "value" "[B" (.ref h0.size) ∧ Av Z h h0.size .byte n (fun q => .int ((y q).toInt8.toInt32)))
theorem d_jdk_42_method_3_code_0 : decode jdk_42_method_3_code 0 = .ok (.aload_n 0, 1) := by decide +kernel
theorem d_jdk_42_method_3_code_1 : decode jdk_42_method_3_code 1 = .ok (.aload_n 1, 1) := by decide +kernel
theorem d_jdk_42_method_3_code_2 : decode jdk_42_method_3_code 2 = .ok (.iconst 0, 1) := by decide +kernel
theorem d_jdk_42_method_3_code_3 : decode jdk_42_method_3_code 3 = .ok (.aload_n 1, 1) := by decide +kernel
theorem d_jdk_42_method_3_code_4 : decode jdk_42_method_3_code 4 = .ok (.arraylength, 1) := by decide +kernel
theorem d_jdk_42_method_3_code_5 : decode jdk_42_method_3_code 5 = .ok (.aconst_null, 1) := by decide +kernel
theorem d_jdk_42_method_3_code_6 : decode jdk_42_method_3_code 6 = .ok (.invokespecial 27, 3) := by decide +kernel
theorem d_jdk_42_method_3_code_9 : decode jdk_42_method_3_code 9 = .ok (.return_, 1) := by decide +kernel
set_option maxRecDepth 65536 in
set_option maxHeartbeats 40000000 in
theorem rmS1 (l : Launch) (Z : State) (a0 : Array Value) (hw : ∀ d ∈ tables_1, d.before a0 Z = true) (ws : List Jvm.Cond) (a1 : Addr) (a2 : Addr) (n : Nat) (y : Nat → Int32) (u1 : Value) (u2 : Value) (cs : Int32) (h0 : Heap) (n0 : Nat) (Z0 : n0 ≤ h0.size) (E1 : Exa Z h0 a1 "java/lang/String") (F1 : Fld Z h0 a1 "java/lang/String" "coder" "B" u1) (F2 : Fld Z h0 a1 "java/lang/String" "value" "[B" u2) (g1 : n0 ≤ a1) (V1 : Av Z h0 a2 .char n (fun q => .int (y q))) (SC : Sta Z h0 "java/lang/String" "COMPACT_STRINGS" "Z" (.int cs)) (hcs : ¬ cs = (0 : Int32)) (hn : n ≤ 2) (h1 : 1 ≤ n) (hy : own_ch n y) :
    MetFree l (⟨"java/lang/String", "<init>", "([C)V"⟩ : MethodName) (head1 (Jvm.Cond.code (⟨"java/lang/String", "<init>", "([C)V"⟩ : MethodName) jdk_42_method_3_code 2 none :: ws) ({ frames := 3, cells := 1, slots := 2, locals := 52 } : Room)) (fun aa_ UU_ => aa_ = #[(.ref a1), (.ref a2)] ∧ Z.Warmed39 UU_.vm ∧ UU_.heap = h0) (fun _ _ _ _ _ => True) (fun _ UU_ oo_ VV_ => ∃ vv_ LL_, oo_ = .returned vv_ ∧ Q_rmS1 Z a1 a2 n y u1 u2 cs h0 n0 vv_ VV_.heap LL_ ∧ FrameEnd UU_ oo_ VV_ LL_ ({ frames := 3, cells := 1, slots := 2, locals := 52 } : Room).cells ({ frames := 3, cells := 1, slots := 2, locals := 52 } : Room).slots) := by
  refine own_met (y := (⟨"java/lang/String", "<init>", "([C)V"⟩ : MethodName)) (plainFor_of_name pn_1) ?_
  intro p e s m below meth c T0 K hx hby hml hret hlk hown hnm hZ X0 e0 hK
  have N0 := Fr.nil n0
  refine Rch.cast (ef_rmS1 m a1 a2) ?_
  refine Rch.of (T' := T0) (g' := (mkF m 1 #[.val (.ref a1), .val (.ref a2)] [(.ref a1)])) (fun _ kt => XS.aloadN X0.here hx rfl (hb hby d_jdk_42_method_3_code_0) rfl rfl kt) ?_
  refine Rch.of (T' := T0) (g' := (mkF m 2 #[.val (.ref a1), .val (.ref a2)] [(.ref a2), (.ref a1)])) (fun _ kt => XS.aloadN X0.here hx rfl (hb hby d_jdk_42_method_3_code_1) rfl rfl kt) ?_
  refine Rch.of (T' := T0) (g' := (mkF m 3 #[.val (.ref a1), .val (.ref a2)] [(.int (0 : Int32)), (.ref a2), (.ref a1)])) (fun _ kt => XS.iconst X0.here hx rfl (hb hby d_jdk_42_method_3_code_2) kt) ?_
  refine Rch.of (T' := T0) (g' := (mkF m 4 #[.val (.ref a1), .val (.ref a2)] [(.ref a2), (.int (0 : Int32)), (.ref a2), (.ref a1)])) (fun _ kt => XS.aloadN X0.here hx rfl (hb hby d_jdk_42_method_3_code_3) rfl rfl kt) ?_
  obtain ⟨cl114, Ar114, Sz114, Ha114⟩ := id V1
  refine Rch.of (T' := T0) (g' := (mkF m 5 #[.val (.ref a1), .val (.ref a2)] [(.int cl114.slots.size.toInt32), (.int (0 : Int32)), (.ref a2), (.ref a1)])) (X0.arraylength hx (by rw [e0]; exact Ar114.1) (State.isArrayOf_alike hZ.alike Ar114.2.1) (g := (mkF m 4 #[.val (.ref a1), .val (.ref a2)] [(.ref a2), (.int (0 : Int32)), (.ref a2), (.ref a1)])) rfl rfl (hb hby d_jdk_42_method_3_code_4)) ?_
  rw [oLen Sz114]
  show Rch p e below K T0 (mkF m 5 #[.val (.ref a1), .val (.ref a2)] [(.int (Int32.ofNat n)), (.int (0 : Int32)), (.ref a2), (.ref a1)])
  refine Rch.of (T' := T0) (g' := (mkF m 6 #[.val (.ref a1), .val (.ref a2)] [.null, (.int (Int32.ofNat n)), (.int (0 : Int32)), (.ref a2), (.ref a1)])) (fun _ kt => XS.aconstNull X0.here hx rfl (hb hby d_jdk_42_method_3_code_5) kt) ?_
  obtain ⟨_, _, ⟨T115, L115, k115, n115⟩, -, X115, ⟨Lc115, hQ115, l115, y115, z115⟩, st115⟩ := X0.specialBack hx (y := (⟨"java/lang/String", "<init>", "([CIILjava/lang/Void;)V"⟩ : MethodName)) rfl hown (mvT hZ (hw _ (List.mem_of_getElem? (i := 7) rfl))) (mvT hZ (hw _ (List.mem_of_getElem? (i := 8) rfl))) (mvT hZ (hw _ (List.mem_of_getElem? (i := 10) rfl))) (by decide) (backOf (W := 0) (rmS4 l Z a0 hw [] a1 a2 n y u1 u2 cs h0 n0 Z0 E1 F1 F2 g1 V1 SC hcs hn h1 hy) hZ (hw _ (List.mem_of_getElem? (i := 10) rfl)) (hw _ (List.mem_of_getElem? (i := 3) rfl)) (by decide) (by decide)) (g := (mkF m 6 #[.val (.ref a1), .val (.ref a2)] [.null, (.int (Int32.ofNat n)), (.int (0 : Int32)), (.ref a2), (.ref a1)])) rfl (by rw [hml]; rfl) (Steps.refl _) (a := a1) (argsL := [(.ref a2), (.int (0 : Int32)), (.int (Int32.ofNat n)), .null]) (rest := []) (lenOf pd_1 rfl) rfl (by show 2 * 0 + _ ≤ _; exact Nat.le_of_eq rfl) (hb hby d_jdk_42_method_3_code_6) (fun _ _ => ⟨rfl, e0, (by decide : 0 + 1 ≤ _), (by decide : 0 + 2 ≤ _)⟩)
  dsimp only [Pt.U, Pt.locs, Pt.cells, Pt.slots] at X115 l115 y115 z115 st115 hQ115
  subst l115 y115 z115
  obtain ⟨rfl, N115q, hQ115⟩ := hQ115
  have N115 := Fr.app N0 N115q
  obtain ⟨K115, Ex115, Fa115, Fb115, V115⟩ := hQ115
  obtain ⟨b115, g115⟩ : ∃ zz_, zz_ = h0.size := ⟨_, rfl⟩
  have ne_a1_b115 : a1 ≠ b115 := Nat.ne_of_lt (Nat.lt_of_lt_of_le E1.lt (Nat.le_of_eq g115.symm))
  have ne_a2_b115 : a2 ≠ b115 := Nat.ne_of_lt (Nat.lt_of_lt_of_le V1.lt (Nat.le_of_eq g115.symm))
  have ge_b115 : n0 ≤ b115 := Nat.le_trans Z0 (Nat.le_of_eq g115.symm)
  have sz_b115 : h0.size ≤ b115 := Nat.le_trans (Keep.refl h0 [a1]).1 (Nat.le_of_eq g115.symm)
  rw [← g115] at V115 Fb115
  refine Rch.via (T' := T115) (g' := (mkF m 9 #[.val (.ref a1), .val (.ref a2)] [])) st115 ?_
  exact Rch.retV X115 hx hret hlk (hb hby d_jdk_42_method_3_code_9) (fun U hU hF => hK _ U _ _ _ (by show Q_rmS1 Z a1 a2 n y u1 u2 cs h0 n0 _ U.heap _; rw [hU]; exact ⟨rfl, N115, by rw [← g115]; exact ⟨((Keep.refl h0 [a1]).trans K115 (allS (Or.inl (List.mem_of_getElem? (i := 0) rfl)) all0)), Ex115, Fa115, Fb115, V115⟩⟩) hF (by decide) (by decide))
theorem pn_2 : plainName "java/lang/StringLatin1" = true := by first | (simp [plainName, overriddenIn]; done) | decide +kernel
theorem ef_rmCE (m : MethodId) (p1 : Int32) : entryFrame m #[(.int p1)] 1 = mkF m 0 #[.val (.int p1)] [] := by first | (simp [entryFrame, mkF, argsToLocals, Value.category]; done) | rfl
def Q_rmCE (Z : State) (p1 : Int32) (h0 : Heap) (n0 : Nat) (vv_ : Option Value) (h : Heap) (LL_ : List Loc) : Prop := vv_ = some (.int (1 : Int32)) ∧ Fr n0 LL_ ∧ (h = h0)
theorem d_jdk_43_method_3_code_0 : decode jdk_43_method_3_code 0 = .ok (.iload_n 0, 1) := by decide +kernel
theorem d_jdk_43_method_3_code_1 : decode jdk_43_method_3_code 1 = .ok (.sipush 255, 3) := by decide +kernel
theorem d_jdk_43_method_3_code_4 : decode jdk_43_method_3_code 4 = .ok (.if_icmp .gt 7, 3) := by decide +kernel
theorem d_jdk_43_method_3_code_7 : decode jdk_43_method_3_code 7 = .ok (.iconst 1, 1) := by decide +kernel
theorem d_jdk_43_method_3_code_8 : decode jdk_43_method_3_code 8 = .ok (.goto 4, 3) := by decide +kernel
theorem d_jdk_43_method_3_code_12 : decode jdk_43_method_3_code 12 = .ok (.ireturn, 1) := by decide +kernel
set_option maxRecDepth 65536 in
set_option maxHeartbeats 40000000 in
theorem rmCE (l : Launch) (Z : State) (a0 : Array Value) (hw : ∀ d ∈ tables_1, d.before a0 Z = true) (ws : List Jvm.Cond) (p1 : Int32) (h0 : Heap) (n0 : Nat) (Z0 : n0 ≤ h0.size) (hp : ¬ (255 : Int32) < p1) :
    MetFree l (⟨"java/lang/StringLatin1", "canEncode", "(C)Z"⟩ : MethodName) (head1 (Jvm.Cond.code (⟨"java/lang/StringLatin1", "canEncode", "(C)Z"⟩ : MethodName) jdk_43_method_3_code 1 (some .boolean) :: ws) ({ frames := 0, cells := 0, slots := 0, locals := 0 } : Room)) (fun aa_ UU_ => aa_ = #[(.int p1)] ∧ Z.Warmed39 UU_.vm ∧ UU_.heap = h0) (fun _ _ _ _ _ => True) (fun _ UU_ oo_ VV_ => ∃ vv_ LL_, oo_ = .returned vv_ ∧ Q_rmCE Z p1 h0 n0 vv_ VV_.heap LL_ ∧ FrameEnd UU_ oo_ VV_ LL_ ({ frames := 0, cells := 0, slots := 0, locals := 0 } : Room).cells ({ frames := 0, cells := 0, slots := 0, locals := 0 } : Room).slots) := by
  refine own_met (y := (⟨"java/lang/StringLatin1", "canEncode", "(C)Z"⟩ : MethodName)) (plainFor_of_name pn_2) ?_
  intro p e s m below meth c T0 K hx hby hml hret hlk hown hnm hZ X0 e0 hK
  have N0 := Fr.nil n0
  refine Rch.cast (ef_rmCE m p1) ?_
  refine Rch.of (T' := T0) (g' := (mkF m 1 #[.val (.int p1)] [(.int p1)])) (fun _ kt => XS.iloadN X0.here hx rfl (hb hby d_jdk_43_method_3_code_0) rfl  kt) ?_
  refine Rch.of (T' := T0) (g' := (mkF m 4 #[.val (.int p1)] [(.int (255 : Int32)), (.int p1)])) (fun _ kt => XS.sipush X0.here hx rfl (hb hby d_jdk_43_method_3_code_1) kt) ?_
  refine Rch.of (T' := T0) (g' := (mkF m 7 #[.val (.int p1)] [])) (fun _ kt => XS.icmpNo X0.here hx rfl (hb hby d_jdk_43_method_3_code_4) rfl (flt hp).2.2.1 kt) ?_
  refine Rch.of (T' := T0) (g' := (mkF m 8 #[.val (.int p1)] [(.int (1 : Int32))])) (fun _ kt => XS.iconst X0.here hx rfl (hb hby d_jdk_43_method_3_code_7) kt) ?_
  refine Rch.of (T' := T0) (g' := (mkF m 12 #[.val (.int p1)] [(.int (1 : Int32))])) (fun _ kt => XS.goto X0.here hx rfl (pc0 := 8) (pc' := 12) rfl (hb hby d_jdk_43_method_3_code_8) (by decide) (by decide) kt) ?_
  exact Rch.retN X0 hx (t := .boolean) hret (by simp) hlk (hb hby d_jdk_43_method_3_code_12) (fun U hU hF => hK _ U _ _ _ (by show Q_rmCE Z p1 h0 n0 _ U.heap _; rw [hU, e0]; exact ⟨rfl, N0, rfl⟩) hF (by decide) (by decide))
theorem ef_rmTB (m : MethodId) (p1 : Int32) : entryFrame m #[(.int p1)] 1 = mkF m 0 #[.val (.int p1)] [] := by first | (simp [entryFrame, mkF, argsToLocals, Value.category]; done) | rfl
def Q_rmTB (Z : State) (p1 : Int32) (h0 : Heap) (n0 : Nat) (vv_ : Option Value) (h : Heap) (LL_ : List Loc) : Prop := vv_ = some (.ref h0.size) ∧ Fr n0 LL_ ∧ (Keep h0 h [] ∧ Av Z h h0.size .byte 1 (fun _ => .int (p1.toInt8.toInt32)))
theorem d_jdk_43_method_46_code_0 : decode jdk_43_method_46_code 0 = .ok (.iconst 1, 1) := by decide +kernel
theorem d_jdk_43_method_46_code_1 : decode jdk_43_method_46_code 1 = .ok (.newarray .byte, 2) := by decide +kernel
theorem d_jdk_43_method_46_code_3 : decode jdk_43_method_46_code 3 = .ok (.dup, 1) := by decide +kernel
theorem d_jdk_43_method_46_code_4 : decode jdk_43_method_46_code 4 = .ok (.iconst 0, 1) := by decide +kernel
theorem d_jdk_43_method_46_code_5 : decode jdk_43_method_46_code 5 = .ok (.iload_n 0, 1) := by decide +kernel
theorem d_jdk_43_method_46_code_6 : decode jdk_43_method_46_code 6 = .ok (.i2b, 1) := by decide +kernel
theorem d_jdk_43_method_46_code_7 : decode jdk_43_method_46_code 7 = .ok (.bastore, 1) := by decide +kernel
theorem d_jdk_43_method_46_code_8 : decode jdk_43_method_46_code 8 = .ok (.areturn, 1) := by decide +kernel
set_option maxRecDepth 65536 in
set_option maxHeartbeats 40000000 in
theorem rmTB (l : Launch) (Z : State) (a0 : Array Value) (hw : ∀ d ∈ tables_1, d.before a0 Z = true) (ws : List Jvm.Cond) (p1 : Int32) (h0 : Heap) (n0 : Nat) (Z0 : n0 ≤ h0.size)  :
    MetFree l (⟨"java/lang/StringLatin1", "toBytes", "(C)[B"⟩ : MethodName) (head1 (Jvm.Cond.code (⟨"java/lang/StringLatin1", "toBytes", "(C)[B"⟩ : MethodName) jdk_43_method_46_code 1 (some (.array .byte)) :: ws) ({ frames := 0, cells := 1, slots := 1, locals := 0 } : Room)) (fun aa_ UU_ => aa_ = #[(.int p1)] ∧ Z.Warmed39 UU_.vm ∧ UU_.heap = h0) (fun _ _ _ _ _ => True) (fun _ UU_ oo_ VV_ => ∃ vv_ LL_, oo_ = .returned vv_ ∧ Q_rmTB Z p1 h0 n0 vv_ VV_.heap LL_ ∧ FrameEnd UU_ oo_ VV_ LL_ ({ frames := 0, cells := 1, slots := 1, locals := 0 } : Room).cells ({ frames := 0, cells := 1, slots := 1, locals := 0 } : Room).slots) := by
  refine own_met (y := (⟨"java/lang/StringLatin1", "toBytes", "(C)[B"⟩ : MethodName)) (plainFor_of_name pn_2) ?_
  intro p e s m below meth c T0 K hx hby hml hret hlk hown hnm hZ X0 e0 hK
  have N0 := Fr.nil n0
  refine Rch.cast (ef_rmTB m p1) ?_
  refine Rch.of (T' := T0) (g' := (mkF m 1 #[.val (.int p1)] [(.int (1 : Int32))])) (fun _ kt => XS.iconst X0.here hx rfl (hb hby d_jdk_43_method_46_code_0) kt) ?_
  obtain ⟨T116, h116, k116, X116, e116, E116, A116, Q116, st116⟩ := newPE X0 hx hZ (hw _ (List.mem_of_getElem? (i := 19) rfl)) e0 (g := (mkF m 1 #[.val (.int p1)] [(.int (1 : Int32))])) rfl (hb hby d_jdk_43_method_46_code_1) rfl (by decide) (cap := 1) (by decide) (by decide) (by decide) (by decide) (ad := "[B") rfl
  obtain ⟨b116, g116⟩ : ∃ zz_, zz_ = h0.size := ⟨_, rfl⟩
  have ge_b116 : n0 ≤ b116 := Nat.le_trans Z0 (Nat.le_of_eq g116.symm)
  have sz_b116 : h0.size ≤ b116 := Nat.le_trans (Keep.refl h0 []).1 (Nat.le_of_eq g116.symm)
  rw [← g116] at A116 Q116 st116
  have V116 : Av Z h116 b116 .byte 1 (fun _ => (.int (0 : Int32))) := Av.new A116 (by decide)
  refine Rch.of (T' := T116) (g' := (mkF m 3 #[.val (.int p1)] [(.ref b116)])) st116 ?_
  refine Rch.of (T' := T116) (g' := (mkF m 4 #[.val (.int p1)] [(.ref b116), (.ref b116)])) (fun _ kt => XS.dup X116.here hx rfl (hb hby d_jdk_43_method_46_code_3) rfl rfl kt) ?_
  refine Rch.of (T' := T116) (g' := (mkF m 5 #[.val (.int p1)] [(.int (0 : Int32)), (.ref b116), (.ref b116)])) (fun _ kt => XS.iconst X116.here hx rfl (hb hby d_jdk_43_method_46_code_4) kt) ?_
  refine Rch.of (T' := T116) (g' := (mkF m 6 #[.val (.int p1)] [(.int p1), (.int (0 : Int32)), (.ref b116), (.ref b116)])) (fun _ kt => XS.iloadN X116.here hx rfl (hb hby d_jdk_43_method_46_code_5) rfl  kt) ?_
  refine Rch.of (T' := T116) (g' := (mkF m 7 #[.val (.int p1)] [(.int (p1.toInt8.toInt32)), (.int (0 : Int32)), (.ref b116), (.ref b116)])) (fun _ kt => XS.i2b X116.here hx rfl (hb hby d_jdk_43_method_46_code_6) rfl kt) ?_
  obtain ⟨cl117, Ar117, Sz117, Ha117⟩ := id V116
  obtain ⟨T117, h117, X117, e117, W117, st117⟩ := stB X116 hx hZ e116 Ar117 (j := (0 : Int32)) (oIn (i := 0) Sz117 (by decide) (by decide)) (g := (mkF m 7 #[.val (.int p1)] [(.int (p1.toInt8.toInt32)), (.int (0 : Int32)), (.ref b116), (.ref b116)])) rfl rfl (hb hby d_jdk_43_method_46_code_7)
  have V117 := Av.setI (i := 0) V116 (by decide) (by decide) W117
  obtain ⟨y117, hy117⟩ : ∃ zz_ : Nat → Int32, zz_ = fun q => if q = 0 then (p1.toInt8.toInt32).toInt8.toInt32 else (fun _ => (0 : Int32)) q := ⟨_, rfl⟩
  have V117 : Av Z h117 b116 .byte 1 (fun q => .int (y117 q)) := by rw [hy117]; exact V117
  have N117 := Fr.snoc X117 N0 ge_b116
  refine Rch.of (T' := T117) (g' := (mkF m 8 #[.val (.int p1)] [(.ref b116)])) st117 ?_
  exact Rch.retA X117 hx (w := (.ref b116)) hret rfl rfl hlk (hb hby d_jdk_43_method_46_code_8) (fun U hU hF => hK _ U _ _ _ (by show Q_rmTB Z p1 h0 n0 _ U.heap _; rw [hU, e117]; exact ⟨by rw [g116], N117, by rw [← g116]; exact ⟨(((Keep.refl h0 []).ext E116).wr W117 (Or.inr sz_b116)), Av.congr V117 (fun j hj => by rw [hy117]; simp [show j = 0 by omega])⟩⟩) hF (by decide) (by decide))
theorem ef_rmBB (m : MethodId) (a1 : Addr) (a2 : Addr) : entryFrame m #[(.ref a1), (.ref a2), (.int (0 : Int32))] 3 = mkF m 0 #[.val (.ref a1), .val (.ref a2), .val (.int (0 : Int32))] [] := by first | (simp [entryFrame, mkF, argsToLocals, Value.category]; done) | rfl
def Q_rmBB (Z : State) (a1 : Addr) (a2 : Addr) (u1 : Value) (u2 : Value) (h0 : Heap) (n0 : Nat) (vv_ : Option Value) (h : Heap) (LL_ : List Loc) : Prop := vv_ = none ∧ Fr n0 LL_ ∧ (Keep h0 h [a1] ∧ Exa Z h a1 "java/lang/String" ∧ Fld Z h a1 "java/lang/String" "coder" "B" (.int (0 : Int32)) ∧ Fld Z h a1 "java/lang/String" "value" "[B" (.ref a2))
theorem d_jdk_42_method_151_code_0 : decode jdk_42_method_151_code 0 = .ok (.aload_n 0, 1) := by decide +kernel
theorem d_jdk_42_method_151_code_1 : decode jdk_42_method_151_code 1 = .ok (.invokespecial 1, 3) := by decide +kernel
theorem d_jdk_42_method_151_code_4 : decode jdk_42_method_151_code 4 = .ok (.aload_n 0, 1) := by decide +kernel
theorem d_jdk_42_method_151_code_5 : decode jdk_42_method_151_code 5 = .ok (.aload_n 1, 1) := by decide +kernel
theorem d_jdk_42_method_151_code_6 : decode jdk_42_method_151_code 6 = .ok (.putfield 9, 3) := by decide +kernel
theorem d_jdk_42_method_151_code_9 : decode jdk_42_method_151_code 9 = .ok (.aload_n 0, 1) := by decide +kernel
theorem d_jdk_42_method_151_code_10 : decode jdk_42_method_151_code 10 = .ok (.iload_n 2, 1) := by decide +kernel
theorem d_jdk_42_method_151_code_11 : decode jdk_42_method_151_code 11 = .ok (.putfield 15, 3) := by decide +kernel
theorem d_jdk_42_method_151_code_14 : decode jdk_42_method_151_code 14 = .ok (.return_, 1) := by decide +kernel
set_option maxRecDepth 65536 in
set_option maxHeartbeats 40000000 in
theorem rmBB (l : Launch) (Z : State) (a0 : Array Value) (hw : ∀ d ∈ tables_1, d.before a0 Z = true) (ws : List Jvm.Cond) (a1 : Addr) (a2 : Addr) (u1 : Value) (u2 : Value) (h0 : Heap) (n0 : Nat) (Z0 : n0 ≤ h0.size) (E1 : Exa Z h0 a1 "java/lang/String") (F1 : Fld Z h0 a1 "java/lang/String" "coder" "B" u1) (F2 : Fld Z h0 a1 "java/lang/String" "value" "[B" u2) (g1 : n0 ≤ a1) :
    MetFree l (⟨"java/lang/String", "<init>", "([BB)V"⟩ : MethodName) (head1 (Jvm.Cond.code (⟨"java/lang/String", "<init>", "([BB)V"⟩ : MethodName) jdk_42_method_151_code 3 none :: ws) ({ frames := 1, cells := 0, slots := 0, locals := 12 } : Room)) (fun aa_ UU_ => aa_ = #[(.ref a1), (.ref a2), (.int (0 : Int32))] ∧ Z.Warmed39 UU_.vm ∧ UU_.heap = h0) (fun _ _ _ _ _ => True) (fun _ UU_ oo_ VV_ => ∃ vv_ LL_, oo_ = .returned vv_ ∧ Q_rmBB Z a1 a2 u1 u2 h0 n0 vv_ VV_.heap LL_ ∧ FrameEnd UU_ oo_ VV_ LL_ ({ frames := 1, cells := 0, slots := 0, locals := 12 } : Room).cells ({ frames := 1, cells := 0, slots := 0, locals := 12 } : Room).slots) := by
  refine own_met (y := (⟨"java/lang/String", "<init>", "([BB)V"⟩ : MethodName)) (plainFor_of_name pn_1) ?_
  intro p e s m below meth c T0 K hx hby hml hret hlk hown hnm hZ X0 e0 hK
  have N0 := Fr.nil n0
  refine Rch.cast (ef_rmBB m a1 a2) ?_
  refine Rch.of (T' := T0) (g' := (mkF m 1 #[.val (.ref a1), .val (.ref a2), .val (.int (0 : Int32))] [(.ref a1)])) (fun _ kt => XS.aloadN X0.here hx rfl (hb hby d_jdk_42_method_151_code_0) rfl rfl kt) ?_
  obtain ⟨T118, X118, e118, st118⟩ := initO X0 hx hZ hown (hw _ (List.mem_of_getElem? (i := 11) rfl)) (hw _ (List.mem_of_getElem? (i := 12) rfl)) (hw _ (List.mem_of_getElem? (i := 13) rfl)) e0 (g := (mkF m 1 #[.val (.ref a1), .val (.ref a2), .val (.int (0 : Int32))] [(.ref a1)])) rfl (by rw [hml]; rfl) rfl (hb hby d_jdk_42_method_151_code_1) (by decide) (W := 0) (by show 2 * 0 + _ ≤ _; exact Nat.le_of_eq rfl) (by decide)
  refine Rch.of (T' := T118) (g' := (mkF m 4 #[.val (.ref a1), .val (.ref a2), .val (.int (0 : Int32))] [])) st118 ?_
  refine Rch.of (T' := T118) (g' := (mkF m 5 #[.val (.ref a1), .val (.ref a2), .val (.int (0 : Int32))] [(.ref a1)])) (fun _ kt => XS.aloadN X118.here hx rfl (hb hby d_jdk_42_method_151_code_4) rfl rfl kt) ?_
  refine Rch.of (T' := T118) (g' := (mkF m 6 #[.val (.ref a1), .val (.ref a2), .val (.int (0 : Int32))] [(.ref a2), (.ref a1)])) (fun _ kt => XS.aloadN X118.here hx rfl (hb hby d_jdk_42_method_151_code_5) rfl rfl kt) ?_
  obtain ⟨T119, h119, X119, e119, W119, st119⟩ := putF X118 hx hZ hown (host := "") (Or.inl (hw _ (List.mem_of_getElem? (i := 28) rfl))) Via.refl e118 F2 E1 (Or.inr ⟨(hw _ (List.mem_of_getElem? (i := 29) rfl)), rfl, hnm⟩) (hw _ (List.mem_of_getElem? (i := 2) rfl)) (ty := (.array .byte)) (by decide) rfl rfl (g := (mkF m 6 #[.val (.ref a1), .val (.ref a2), .val (.int (0 : Int32))] [(.ref a2), (.ref a1)])) rfl rfl (hb hby d_jdk_42_method_151_code_6)
  have N119 := Fr.snoc X119 N0 g1
  have Fw119 := Fld.same W119 F2
  have Fb120 := (F1.other W119 (Or.inr (slot_ne (Or.inr (hw _ (List.mem_of_getElem? (i := 27) rfl))) (Or.inr (hw _ (List.mem_of_getElem? (i := 29) rfl))) (by decide) (t := .byte) (t' := (.array .byte)) (by decide) (by decide))))
  refine Rch.of (T' := T119) (g' := (mkF m 9 #[.val (.ref a1), .val (.ref a2), .val (.int (0 : Int32))] [])) st119 ?_
  refine Rch.of (T' := T119) (g' := (mkF m 10 #[.val (.ref a1), .val (.ref a2), .val (.int (0 : Int32))] [(.ref a1)])) (fun _ kt => XS.aloadN X119.here hx rfl (hb hby d_jdk_42_method_151_code_9) rfl rfl kt) ?_
  refine Rch.of (T' := T119) (g' := (mkF m 11 #[.val (.ref a1), .val (.ref a2), .val (.int (0 : Int32))] [(.int (0 : Int32)), (.ref a1)])) (fun _ kt => XS.iloadN X119.here hx rfl (hb hby d_jdk_42_method_151_code_10) rfl  kt) ?_
  obtain ⟨T121, h121, X121, e121, W121, st121⟩ := putFN X119 hx hZ hown (hw _ (List.mem_of_getElem? (i := 26) rfl)) Via.refl e119 Fb120 (E1.wr W119) (Or.inr ⟨(hw _ (List.mem_of_getElem? (i := 27) rfl)), rfl, hnm⟩) (hw _ (List.mem_of_getElem? (i := 2) rfl)) (ty := .byte) (v' := (.int (nar .byte (0 : Int32)))) (by decide) rfl (fits_nar_byte _) (g := (mkF m 11 #[.val (.ref a1), .val (.ref a2), .val (.int (0 : Int32))] [(.int (0 : Int32)), (.ref a1)])) rfl rfl (hb hby d_jdk_42_method_151_code_11)
  have N121 := Fr.snoc X121 N119 g1
  have Fw121 := Fld.same W121 Fb120
  have Fb122 := (Fw119.other W121 (Or.inr (slot_ne (Or.inr (hw _ (List.mem_of_getElem? (i := 29) rfl))) (Or.inr (hw _ (List.mem_of_getElem? (i := 27) rfl))) (by decide) (t := (.array .byte)) (t' := .byte) (by decide) (by decide))))
  refine Rch.of (T' := T121) (g' := (mkF m 14 #[.val (.ref a1), .val (.ref a2), .val (.int (0 : Int32))] [])) st121 ?_
  exact Rch.retV X121 hx hret hlk (hb hby d_jdk_42_method_151_code_14) (fun U hU hF => hK _ U _ _ _ (by show Q_rmBB Z a1 a2 u1 u2 h0 n0 _ U.heap _; rw [hU, e121]; exact ⟨rfl, N121, (((Keep.refl h0 [a1]).wr W119 (Or.inl (List.mem_of_getElem? (i := 0) rfl))).wr W121 (Or.inl (List.mem_of_getElem? (i := 0) rfl))), ((E1.wr W119).wr W121), Fw121, Fb122⟩) hF (by decide) (by decide))
theorem ef_rmVO (m : MethodId) (p1 : Int32) : entryFrame m #[(.int p1)] 1 = mkF m 0 #[.val (.int p1)] [] := by first | (simp [entryFrame, mkF, argsToLocals, Value.category]; done) | rfl
def Q_rmVO (Z : State) (p1 : Int32) (cs : Int32) (h0 : Heap) (n0 : Nat) (vv_ : Option Value) (h : Heap) (LL_ : List Loc) : Prop := vv_ = some (.ref h0.size) ∧ Fr n0 LL_ ∧ (Keep h0 h [] ∧ Exa Z h h0.size "java/lang/String" ∧ Fld Z h h0.size "java/lang/String" "coder" "B" (.int (0 : Int32)) ∧ ∃ v, h0.size ≤ v ∧ h0.size ≠ v ∧ Fld Z h h0.size "java/lang/String" "value" "[B" (.ref v) ∧ Av Z h v .byte 1 (fun _ => .int (p1.toInt8.toInt32)))
theorem d_jdk_42_method_139_code_0 : decode jdk_42_method_139_code 0 = .ok (.getstatic 38, 3) := by decide +kernel
theorem d_jdk_42_method_139_code_3 : decode jdk_42_method_139_code 3 = .ok (.ifCond .eq 23, 3) := by decide +kernel
theorem d_jdk_42_method_139_code_6 : decode jdk_42_method_139_code 6 = .ok (.iload_n 0, 1) := by decide +kernel
theorem d_jdk_42_method_139_code_7 : decode jdk_42_method_139_code 7 = .ok (.invokestatic 1015, 3) := by decide +kernel
theorem d_jdk_42_method_139_code_10 : decode jdk_42_method_139_code 10 = .ok (.ifCond .eq 16, 3) := by decide +kernel
theorem d_jdk_42_method_139_code_13 : decode jdk_42_method_139_code 13 = .ok (.new 10, 3) := by decide +kernel
theorem d_jdk_42_method_139_code_16 : decode jdk_42_method_139_code 16 = .ok (.dup, 1) := by decide +kernel
theorem d_jdk_42_method_139_code_17 : decode jdk_42_method_139_code 17 = .ok (.iload_n 0, 1) := by decide +kernel
theorem d_jdk_42_method_139_code_18 : decode jdk_42_method_139_code 18 = .ok (.invokestatic 1018, 3) := by decide +kernel
theorem d_jdk_42_method_139_code_21 : decode jdk_42_method_139_code 21 = .ok (.iconst 0, 1) := by decide +kernel
theorem d_jdk_42_method_139_code_22 : decode jdk_42_method_139_code 22 = .ok (.invokespecial 209, 3) := by decide +kernel
theorem d_jdk_42_method_139_code_25 : decode jdk_42_method_139_code 25 = .ok (.areturn, 1) := by decide +kernel
set_option maxRecDepth 65536 in
set_option maxHeartbeats 40000000 in
theorem rmVO (l : Launch) (Z : State) (a0 : Array Value) (hw : ∀ d ∈ tables_1, d.before a0 Z = true) (ws : List Jvm.Cond) (p1 : Int32) (cs : Int32) (h0 : Heap) (n0 : Nat) (Z0 : n0 ≤ h0.size) (SC : Sta Z h0 "java/lang/String" "COMPACT_STRINGS" "Z" (.int cs)) (hcs : ¬ cs = (0 : Int32)) (hp : ¬ (255 : Int32) < p1) :
    MetFree l (⟨"java/lang/String", "valueOf", "(C)Ljava/lang/String;"⟩ : MethodName) (head1 (Jvm.Cond.code (⟨"java/lang/String", "valueOf", "(C)Ljava/lang/String;"⟩ : MethodName) jdk_42_method_139_code 1 (some (.object "java/lang/String")) :: ws) ({ frames := 2, cells := 2, slots := 5, locals := 27 } : Room)) (fun aa_ UU_ => aa_ = #[(.int p1)] ∧ Z.Warmed39 UU_.vm ∧ UU_.heap = h0) (fun _ _ _ _ _ => True) (fun _ UU_ oo_ VV_ => ∃ vv_ LL_, oo_ = .returned vv_ ∧ Q_rmVO Z p1 cs h0 n0 vv_ VV_.heap LL_ ∧ FrameEnd UU_ oo_ VV_ LL_ ({ frames := 2, cells := 2, slots := 5, locals := 27 } : Room).cells ({ frames := 2, cells := 2, slots := 5, locals := 27 } : Room).slots) := by
  refine own_met (y := (⟨"java/lang/String", "valueOf", "(C)Ljava/lang/String;"⟩ : MethodName)) (plainFor_of_name pn_1) ?_
  intro p e s m below meth c T0 K hx hby hml hret hlk hown hnm hZ X0 e0 hK
  have N0 := Fr.nil n0
  refine Rch.cast (ef_rmVO m p1) ?_
  obtain ⟨T123, X123, e123, st123⟩ := getS2 X0 hx hZ hown (host := "") (Or.inl (hw _ (List.mem_of_getElem? (i := 14) rfl))) Via.refl e0 SC (g := (mkF m 0 #[.val (.int p1)] [])) rfl (hb hby d_jdk_42_method_139_code_0)
  refine Rch.of (T' := T123) (g' := (mkF m 3 #[.val (.int p1)] [(.int cs)])) st123 ?_
  refine Rch.of (T' := T123) (g' := (mkF m 6 #[.val (.int p1)] [])) (fun _ kt => XS.ifNo X123.here hx rfl (hb hby d_jdk_42_method_139_code_3) rfl ((if0 _ _).trans (feq hcs).1) kt) ?_
  refine Rch.of (T' := T123) (g' := (mkF m 7 #[.val (.int p1)] [(.int p1)])) (fun _ kt => XS.iloadN X123.here hx rfl (hb hby d_jdk_42_method_139_code_6) rfl  kt) ?_
  obtain ⟨_, _, ⟨T124, L124, k124, n124⟩, -, X124, ⟨Lc124, hQ124, l124, y124, z124⟩, st124⟩ := Jvm.LawKit.callS X123 hx (y := (⟨"java/lang/StringLatin1", "canEncode", "(C)Z"⟩ : MethodName)) hown (mvT hZ (hw _ (List.mem_of_getElem? (i := 37) rfl))) (mvT hZ (hw _ (List.mem_of_getElem? (i := 38) rfl))) (mvT hZ (hw _ (List.mem_of_getElem? (i := 39) rfl))) (mvT hZ (hw _ (List.mem_of_getElem? (i := 40) rfl))) (by decide) (backOf (W := 0) (rmCE l Z a0 hw [] p1 h0 n0 Z0 hp) hZ (hw _ (List.mem_of_getElem? (i := 40) rfl)) (hw _ (List.mem_of_getElem? (i := 39) rfl)) (by decide) (by decide)) (g := (mkF m 7 #[.val (.int p1)] [(.int p1)])) rfl (by rw [hml]; rfl) (argsL := [(.int p1)]) (rest := []) (lenOf pd_7 rfl) rfl (by show 2 * 0 + _ ≤ _; exact Nat.le_of_eq rfl) (hb hby d_jdk_42_method_139_code_7) (fun _ _ => ⟨rfl, e123, (by decide : 0 + 0 ≤ _), (by decide : 0 + 0 ≤ _)⟩)
  dsimp only [Pt.U, Pt.locs, Pt.cells, Pt.slots] at X124 l124 y124 z124 st124 hQ124
  subst l124 y124 z124
  obtain ⟨rfl, N124q, hQ124⟩ := hQ124
  have N124 := Fr.app N0 N124q
  refine Rch.of (T' := T124) (g' := (mkF m 10 #[.val (.int p1)] [(.int (1 : Int32))])) st124 ?_
  refine Rch.of (T' := T124) (g' := (mkF m 13 #[.val (.int p1)] [])) (fun _ kt => XS.ifNo X124.here hx rfl (hb hby d_jdk_42_method_139_code_10) rfl ((if0 _ _).trans (feq ((by decide) : ¬ ((1 : Int32) = (0 : Int32)))).1) kt) ?_
  obtain ⟨T125, h125, X125, e125, E125, A125, D125, -, st125⟩ := newO X124 hx hZ hown (hw _ (List.mem_of_getElem? (i := 41) rfl)) (hw _ (List.mem_of_getElem? (i := 2) rfl)) (hw _ (List.mem_of_getElem? (i := 3) rfl)) hQ124 (g := (mkF m 13 #[.val (.int p1)] [])) rfl (hb hby d_jdk_42_method_139_code_13) (by decide) (by decide)
  obtain ⟨b125, g125⟩ : ∃ zz_, zz_ = h0.size := ⟨_, rfl⟩
  have ge_b125 : n0 ≤ b125 := Nat.le_trans Z0 (Nat.le_of_eq g125.symm)
  have sz_b125 : h0.size ≤ b125 := Nat.le_trans (Keep.refl h0 []).1 (Nat.le_of_eq g125.symm)
  rw [← g125] at A125 D125 st125
  have F125_coder : Fld Z h125 b125 "java/lang/String" "coder" "B" (.int (0 : Int32)) := D125 (Or.inr (hw _ (List.mem_of_getElem? (i := 27) rfl))) (ty := .byte) (by decide)
  have F125_value : Fld Z h125 b125 "java/lang/String" "value" "[B" .null := D125 (Or.inr (hw _ (List.mem_of_getElem? (i := 29) rfl))) (ty := (.array .byte)) (by decide)
  refine Rch.of (T' := T125) (g' := (mkF m 16 #[.val (.int p1)] [(.ref b125)])) st125 ?_
  refine Rch.of (T' := T125) (g' := (mkF m 17 #[.val (.int p1)] [(.ref b125), (.ref b125)])) (fun _ kt => XS.dup X125.here hx rfl (hb hby d_jdk_42_method_139_code_16) rfl rfl kt) ?_
  refine Rch.of (T' := T125) (g' := (mkF m 18 #[.val (.int p1)] [(.int p1), (.ref b125), (.ref b125)])) (fun _ kt => XS.iloadN X125.here hx rfl (hb hby d_jdk_42_method_139_code_17) rfl  kt) ?_
  obtain ⟨_, _, ⟨T126, L126, k126, n126⟩, -, X126, ⟨Lc126, hQ126, l126, y126, z126⟩, st126⟩ := Jvm.LawKit.callS X125 hx (y := (⟨"java/lang/StringLatin1", "toBytes", "(C)[B"⟩ : MethodName)) hown (mvT hZ (hw _ (List.mem_of_getElem? (i := 42) rfl))) (mvT hZ (hw _ (List.mem_of_getElem? (i := 43) rfl))) (mvT hZ (hw _ (List.mem_of_getElem? (i := 39) rfl))) (mvT hZ (hw _ (List.mem_of_getElem? (i := 44) rfl))) (by decide) (backOf (W := 2) (rmTB l Z a0 hw [] p1 h125 n0 (Nat.le_trans Z0 E125.1) ) hZ (hw _ (List.mem_of_getElem? (i := 44) rfl)) (hw _ (List.mem_of_getElem? (i := 39) rfl)) (by decide) (by decide)) (g := (mkF m 18 #[.val (.int p1)] [(.int p1), (.ref b125), (.ref b125)])) rfl (by rw [hml]; rfl) (argsL := [(.int p1)]) (rest := [(.ref b125), (.ref b125)]) (lenOf pd_8 rfl) rfl (by show 2 * 0 + _ ≤ _; exact Nat.le_of_eq rfl) (hb hby d_jdk_42_method_139_code_18) (fun _ _ => ⟨rfl, e125, (by decide : 1 + 1 ≤ _), (by decide : 4 + 1 ≤ _)⟩)
  dsimp only [Pt.U, Pt.locs, Pt.cells, Pt.slots] at X126 l126 y126 z126 st126 hQ126
  subst l126 y126 z126
  obtain ⟨rfl, N126q, hQ126⟩ := hQ126
  have N126 := Fr.app N124 N126q
  obtain ⟨K126, V126⟩ := hQ126
  obtain ⟨b126, g126⟩ : ∃ zz_, zz_ = h125.size := ⟨_, rfl⟩
  have ne_b125_b126 : b125 ≠ b126 := Nat.ne_of_lt (Nat.lt_of_lt_of_le A125.lt (Nat.le_of_eq g126.symm))
  have ge_b126 : n0 ≤ b126 := Nat.le_trans (Nat.le_trans Z0 E125.1) (Nat.le_of_eq g126.symm)
  have sz_b126 : h0.size ≤ b126 := Nat.le_trans ((Keep.refl h0 []).ext E125).1 (Nat.le_of_eq g126.symm)
  rw [← g126] at V126 st126
  refine Rch.of (T' := T126) (g' := (mkF m 21 #[.val (.int p1)] [(.ref b126), (.ref b125), (.ref b125)])) st126 ?_
  refine Rch.of (T' := T126) (g' := (mkF m 22 #[.val (.int p1)] [(.int (0 : Int32)), (.ref b126), (.ref b125), (.ref b125)])) (fun _ kt => XS.iconst X126.here hx rfl (hb hby d_jdk_42_method_139_code_21) kt) ?_
  obtain ⟨_, _, ⟨T127, L127, k127, n127⟩, -, X127, ⟨Lc127, hQ127, l127, y127, z127⟩, st127⟩ := X126.specialBack hx (y := (⟨"java/lang/String", "<init>", "([BB)V"⟩ : MethodName)) rfl hown (mvT hZ (hw _ (List.mem_of_getElem? (i := 45) rfl))) (mvT hZ (hw _ (List.mem_of_getElem? (i := 46) rfl))) (mvT hZ (hw _ (List.mem_of_getElem? (i := 47) rfl))) (by decide) (backOf (W := 1) (rmBB l Z a0 hw [] b125 b126 (.int (0 : Int32)) .null T126.heap n0 (Nat.le_trans (Nat.le_trans Z0 E125.1) K126.1) (A125.keep K126) (F125_coder.keep K126 nin0) (F125_value.keep K126 nin0) ge_b125) hZ (hw _ (List.mem_of_getElem? (i := 47) rfl)) (hw _ (List.mem_of_getElem? (i := 3) rfl)) (by decide) (by decide)) (g := (mkF m 22 #[.val (.int p1)] [(.int (0 : Int32)), (.ref b126), (.ref b125), (.ref b125)])) rfl (by rw [hml]; rfl) (Steps.refl _) (a := b125) (argsL := [(.ref b126), (.int (0 : Int32))]) (rest := [(.ref b125)]) (lenOf pd_9 rfl) rfl (by show 2 * 0 + _ ≤ _; exact Nat.le_of_eq rfl) (hb hby d_jdk_42_method_139_code_22) (fun _ _ => ⟨rfl, rfl, (by decide : 2 + 0 ≤ _), (by decide : 5 + 0 ≤ _)⟩)
  dsimp only [Pt.U, Pt.locs, Pt.cells, Pt.slots] at X127 l127 y127 z127 st127 hQ127
  subst l127 y127 z127
  obtain ⟨rfl, N127q, hQ127⟩ := hQ127
  have N127 := Fr.app N126 N127q
  obtain ⟨K127, Ex127, Fa127, Fb127⟩ := hQ127
  refine Rch.via (T' := T127) (g' := (mkF m 25 #[.val (.int p1)] [(.ref b125)])) st127 ?_
  exact Rch.retA X127 hx (w := (.ref b125)) hret rfl rfl hlk (hb hby d_jdk_42_method_139_code_25) (fun U hU hF => hK _ U _ _ _ (by show Q_rmVO Z p1 cs h0 n0 _ U.heap _; rw [hU]; exact ⟨by rw [g125], N127, by rw [← g125]; exact ⟨((((Keep.refl h0 []).ext E125).trans K126 all0).trans K127 (allS (Or.inr sz_b125) all0)), Ex127, Fa127, b126, (by rw [g125]; exact sz_b126), ne_b125_b126, Fb127, (V126.keep K127 (ninS (Ne.symm ne_b125_b126) nin0))⟩⟩) hF (by decide) (by decide))
theorem ef_rqCD (m : MethodId) (a1 : Addr) : entryFrame m #[(.ref a1)] 1 = mkF m 0 #[.val (.ref a1)] [] := by first | (simp [entryFrame, mkF, argsToLocals, Value.category]; done) | rfl
def Q_rqCD (Z : State) (a1 : Addr) (cs : Int32) (h0 : Heap) (n0 : Nat) (vv_ : Option Value) (h : Heap) (LL_ : List Loc) : Prop := vv_ = some (.int (0 : Int32)) ∧ Fr n0 LL_ ∧ (h = h0)
theorem d_jdk_42_method_152_code_0 : decode jdk_42_method_152_code 0 = .ok (.getstatic 38, 3) := by decide +kernel
theorem d_jdk_42_method_152_code_3 : decode jdk_42_method_152_code 3 = .ok (.ifCond .eq 10, 3) := by decide +kernel
theorem d_jdk_42_method_152_code_6 : decode jdk_42_method_152_code 6 = .ok (.aload_n 0, 1) := by decide +kernel
theorem d_jdk_42_method_152_code_7 : decode jdk_42_method_152_code 7 = .ok (.getfield 15, 3) := by decide +kernel
theorem d_jdk_42_method_152_code_10 : decode jdk_42_method_152_code 10 = .ok (.goto 4, 3) := by decide +kernel
theorem d_jdk_42_method_152_code_14 : decode jdk_42_method_152_code 14 = .ok (.ireturn, 1) := by decide +kernel
set_option maxRecDepth 65536 in
set_option maxHeartbeats 40000000 in
theorem rqCD (l : Launch) (Z : State) (a0 : Array Value) (hw : ∀ d ∈ tables_1, d.before a0 Z = true) (ws : List Jvm.Cond) (a1 : Addr) (cs : Int32) (h0 : Heap) (n0 : Nat) (Z0 : n0 ≤ h0.size) (F1 : Fld Z h0 a1 "java/lang/String" "coder" "B" (.int (0 : Int32))) (SC : Sta Z h0 "java/lang/String" "COMPACT_STRINGS" "Z" (.int cs)) (hcs : ¬ cs = (0 : Int32)) :
    MetFree l (⟨"java/lang/String", "coder", "()B"⟩ : MethodName) (head1 (Jvm.Cond.code (⟨"java/lang/String", "coder", "()B"⟩ : MethodName) jdk_42_method_152_code 1 (some .byte) :: ws) ({ frames := 0, cells := 0, slots := 0, locals := 0 } : Room)) (fun aa_ UU_ => aa_ = #[(.ref a1)] ∧ Z.Warmed39 UU_.vm ∧ UU_.heap = h0) (fun _ _ _ _ _ => True) (fun _ UU_ oo_ VV_ => ∃ vv_ LL_, oo_ = .returned vv_ ∧ Q_rqCD Z a1 cs h0 n0 vv_ VV_.heap LL_ ∧ FrameEnd UU_ oo_ VV_ LL_ ({ frames := 0, cells := 0, slots := 0, locals := 0 } : Room).cells ({ frames := 0, cells := 0, slots := 0, locals := 0 } : Room).slots) := by
  refine own_met (y := (⟨"java/lang/String", "coder", "()B"⟩ : MethodName)) (plainFor_of_name pn_1) ?_
  intro p e s m below meth c T0 K hx hby hml hret hlk hown hnm hZ X0 e0 hK
  have N0 := Fr.nil n0
  refine Rch.cast (ef_rqCD m a1) ?_
  obtain ⟨T128, X128, e128, st128⟩ := getS2 X0 hx hZ hown (host := "") (Or.inl (hw _ (List.mem_of_getElem? (i := 14) rfl))) Via.refl e0 SC (g := (mkF m 0 #[.val (.ref a1)] [])) rfl (hb hby d_jdk_42_method_152_code_0)
  refine Rch.of (T' := T128) (g' := (mkF m 3 #[.val (.ref a1)] [(.int cs)])) st128 ?_
  refine Rch.of (T' := T128) (g' := (mkF m 6 #[.val (.ref a1)] [])) (fun _ kt => XS.ifNo X128.here hx rfl (hb hby d_jdk_42_method_152_code_3) rfl ((if0 _ _).trans (feq hcs).1) kt) ?_
  refine Rch.of (T' := T128) (g' := (mkF m 7 #[.val (.ref a1)] [(.ref a1)])) (fun _ kt => XS.aloadN X128.here hx rfl (hb hby d_jdk_42_method_152_code_6) rfl rfl kt) ?_
  obtain ⟨T129, X129, e129, st129⟩ := getF X128 hx hZ hown (host := "") (Or.inl (hw _ (List.mem_of_getElem? (i := 26) rfl))) Via.refl e128 F1 (g := (mkF m 7 #[.val (.ref a1)] [(.ref a1)])) rfl rfl (hb hby d_jdk_42_method_152_code_7)
  refine Rch.of (T' := T129) (g' := (mkF m 10 #[.val (.ref a1)] [(.int (0 : Int32))])) st129 ?_
  refine Rch.of (T' := T129) (g' := (mkF m 14 #[.val (.ref a1)] [(.int (0 : Int32))])) (fun _ kt => XS.goto X129.here hx rfl (pc0 := 10) (pc' := 14) rfl (hb hby d_jdk_42_method_152_code_10) (by decide) (by decide) kt) ?_
  exact Rch.retN X129 hx (t := .byte) hret (by simp) hlk (hb hby d_jdk_42_method_152_code_14) (fun U hU hF => hK _ U _ _ _ (by show Q_rqCD Z a1 cs h0 n0 _ U.heap _; rw [hU, e129]; exact ⟨rfl, N0, rfl⟩) hF (by decide) (by decide))
theorem ef_rqLT (m : MethodId) (a1 : Addr) : entryFrame m #[(.ref a1)] 1 = mkF m 0 #[.val (.ref a1)] [] := by first | (simp [entryFrame, mkF, argsToLocals, Value.category]; done) | rfl
def Q_rqLT (Z : State) (a1 : Addr) (cs : Int32) (h0 : Heap) (n0 : Nat) (vv_ : Option Value) (h : Heap) (LL_ : List Loc) : Prop := vv_ = some (.int (1 : Int32)) ∧ Fr n0 LL_ ∧ (h = h0)
theorem d_jdk_42_method_154_code_0 : decode jdk_42_method_154_code 0 = .ok (.getstatic 38, 3) := by decide +kernel
theorem d_jdk_42_method_154_code_3 : decode jdk_42_method_154_code 3 = .ok (.ifCond .eq 14, 3) := by decide +kernel
theorem d_jdk_42_method_154_code_6 : decode jdk_42_method_154_code 6 = .ok (.aload_n 0, 1) := by decide +kernel
theorem d_jdk_42_method_154_code_7 : decode jdk_42_method_154_code 7 = .ok (.getfield 15, 3) := by decide +kernel
theorem d_jdk_42_method_154_code_10 : decode jdk_42_method_154_code 10 = .ok (.ifCond .ne 7, 3) := by decide +kernel
theorem d_jdk_42_method_154_code_13 : decode jdk_42_method_154_code 13 = .ok (.iconst 1, 1) := by decide +kernel
theorem d_jdk_42_method_154_code_14 : decode jdk_42_method_154_code 14 = .ok (.goto 4, 3) := by decide +kernel
theorem d_jdk_42_method_154_code_18 : decode jdk_42_method_154_code 18 = .ok (.ireturn, 1) := by decide +kernel
set_option maxRecDepth 65536 in
set_option maxHeartbeats 40000000 in
theorem rqLT (l : Launch) (Z : State) (a0 : Array Value) (hw : ∀ d ∈ tables_1, d.before a0 Z = true) (ws : List Jvm.Cond) (a1 : Addr) (cs : Int32) (h0 : Heap) (n0 : Nat) (Z0 : n0 ≤ h0.size) (F1 : Fld Z h0 a1 "java/lang/String" "coder" "B" (.int (0 : Int32))) (SC : Sta Z h0 "java/lang/String" "COMPACT_STRINGS" "Z" (.int cs)) (hcs : ¬ cs = (0 : Int32)) :
    MetFree l (⟨"java/lang/String", "isLatin1", "()Z"⟩ : MethodName) (head1 (Jvm.Cond.code (⟨"java/lang/String", "isLatin1", "()Z"⟩ : MethodName) jdk_42_method_154_code 1 (some .boolean) :: ws) ({ frames := 0, cells := 0, slots := 0, locals := 0 } : Room)) (fun aa_ UU_ => aa_ = #[(.ref a1)] ∧ Z.Warmed39 UU_.vm ∧ UU_.heap = h0) (fun _ _ _ _ _ => True) (fun _ UU_ oo_ VV_ => ∃ vv_ LL_, oo_ = .returned vv_ ∧ Q_rqLT Z a1 cs h0 n0 vv_ VV_.heap LL_ ∧ FrameEnd UU_ oo_ VV_ LL_ ({ frames := 0, cells := 0, slots := 0, locals := 0 } : Room).cells ({ frames := 0, cells := 0, slots := 0, locals := 0 } : Room).slots) := by
  refine own_met (y := (⟨"java/lang/String", "isLatin1", "()Z"⟩ : MethodName)) (plainFor_of_name pn_1) ?_
  intro p e s m below meth c T0 K hx hby hml hret hlk hown hnm hZ X0 e0 hK
  have N0 := Fr.nil n0
  refine Rch.cast (ef_rqLT m a1) ?_
  obtain ⟨T130, X130, e130, st130⟩ := getS2 X0 hx hZ hown (host := "") (Or.inl (hw _ (List.mem_of_getElem? (i := 14) rfl))) Via.refl e0 SC (g := (mkF m 0 #[.val (.ref a1)] [])) rfl (hb hby d_jdk_42_method_154_code_0)
  refine Rch.of (T' := T130) (g' := (mkF m 3 #[.val (.ref a1)] [(.int cs)])) st130 ?_
  refine Rch.of (T' := T130) (g' := (mkF m 6 #[.val (.ref a1)] [])) (fun _ kt => XS.ifNo X130.here hx rfl (hb hby d_jdk_42_method_154_code_3) rfl ((if0 _ _).trans (feq hcs).1) kt) ?_
  refine Rch.of (T' := T130) (g' := (mkF m 7 #[.val (.ref a1)] [(.ref a1)])) (fun _ kt => XS.aloadN X130.here hx rfl (hb hby d_jdk_42_method_154_code_6) rfl rfl kt) ?_
  obtain ⟨T131, X131, e131, st131⟩ := getF X130 hx hZ hown (host := "") (Or.inl (hw _ (List.mem_of_getElem? (i := 26) rfl))) Via.refl e130 F1 (g := (mkF m 7 #[.val (.ref a1)] [(.ref a1)])) rfl rfl (hb hby d_jdk_42_method_154_code_7)
  refine Rch.of (T' := T131) (g' := (mkF m 10 #[.val (.ref a1)] [(.int (0 : Int32))])) st131 ?_
  refine Rch.of (T' := T131) (g' := (mkF m 13 #[.val (.ref a1)] [])) (fun _ kt => XS.ifNo X131.here hx rfl (hb hby d_jdk_42_method_154_code_10) rfl ((if0 _ _).trans (teq ((by decide) : (0 : Int32) = (0 : Int32))).2) kt) ?_
  refine Rch.of (T' := T131) (g' := (mkF m 14 #[.val (.ref a1)] [(.int (1 : Int32))])) (fun _ kt => XS.iconst X131.here hx rfl (hb hby d_jdk_42_method_154_code_13) kt) ?_
  refine Rch.of (T' := T131) (g' := (mkF m 18 #[.val (.ref a1)] [(.int (1 : Int32))])) (fun _ kt => XS.goto X131.here hx rfl (pc0 := 14) (pc' := 18) rfl (hb hby d_jdk_42_method_154_code_14) (by decide) (by decide) kt) ?_
  exact Rch.retN X131 hx (t := .boolean) hret (by simp) hlk (hb hby d_jdk_42_method_154_code_18) (fun U hU hF => hK _ U _ _ _ (by show Q_rqLT Z a1 cs h0 n0 _ U.heap _; rw [hU, e131]; exact ⟨rfl, N0, rfl⟩) hF (by decide) (by decide))
theorem ef_rqLE (m : MethodId) (a1 : Addr) : entryFrame m #[(.ref a1)] 1 = mkF m 0 #[.val (.ref a1)] [] := by first | (simp [entryFrame, mkF, argsToLocals, Value.category]; done) | rfl
def Q_rqLE (Z : State) (a1 : Addr) (b1 : Addr) (n : Nat) (y : Nat → Int32) (cs : Int32) (h0 : Heap) (n0 : Nat) (vv_ : Option Value) (h : Heap) (LL_ : List Loc) : Prop := vv_ = some (.int (Int32.ofNat n)) ∧ Fr n0 LL_ ∧ (h = h0)
theorem d_jdk_42_method_54_code_0 : decode jdk_42_method_54_code 0 = .ok (.aload_n 0, 1) := by decide +kernel
theorem d_jdk_42_method_54_code_1 : decode jdk_42_method_54_code 1 = .ok (.getfield 9, 3) := by decide +kernel
theorem d_jdk_42_method_54_code_4 : decode jdk_42_method_54_code 4 = .ok (.arraylength, 1) := by decide +kernel
theorem d_jdk_42_method_54_code_5 : decode jdk_42_method_54_code 5 = .ok (.aload_n 0, 1) := by decide +kernel
theorem d_jdk_42_method_54_code_6 : decode jdk_42_method_54_code 6 = .ok (.invokevirtual 335, 3) := by decide +kernel
theorem d_jdk_42_method_54_code_9 : decode jdk_42_method_54_code 9 = .ok (.ishr, 1) := by decide +kernel
theorem d_jdk_42_method_54_code_10 : decode jdk_42_method_54_code 10 = .ok (.ireturn, 1) := by decide +kernel
set_option maxRecDepth 65536 in
set_option maxHeartbeats 40000000 in
theorem rqLE (l : Launch) (Z : State) (a0 : Array Value) (hw : ∀ d ∈ tables_1, d.before a0 Z = true) (ws : List Jvm.Cond) (a1 : Addr) (b1 : Addr) (n : Nat) (y : Nat → Int32) (cs : Int32) (h0 : Heap) (n0 : Nat) (Z0 : n0 ≤ h0.size) (E1 : Exa Z h0 a1 "java/lang/String") (F1 : Fld Z h0 a1 "java/lang/String" "coder" "B" (.int (0 : Int32))) (F2 : Fld Z h0 a1 "java/lang/String" "value" "[B" (.ref b1)) (V1 : Av Z h0 b1 .byte n (fun q => .int ((y q).toInt8.toInt32))) (SC : Sta Z h0 "java/lang/String" "COMPACT_STRINGS" "Z" (.int cs)) (hcs : ¬ cs = (0 : Int32)) :
    MetFree l (⟨"java/lang/String", "length", "()I"⟩ : MethodName) (head1 (Jvm.Cond.code (⟨"java/lang/String", "length", "()I"⟩ : MethodName) jdk_42_method_54_code 1 (some .int) :: ws) ({ frames := 1, cells := 0, slots := 0, locals := 13 } : Room)) (fun aa_ UU_ => aa_ = #[(.ref a1)] ∧ Z.Warmed39 UU_.vm ∧ UU_.heap = h0) (fun _ _ _ _ _ => True) (fun _ UU_ oo_ VV_ => ∃ vv_ LL_, oo_ = .returned vv_ ∧ Q_rqLE Z a1 b1 n y cs h0 n0 vv_ VV_.heap LL_ ∧ FrameEnd UU_ oo_ VV_ LL_ ({ frames := 1, cells := 0, slots := 0, locals := 13 } : Room).cells ({ frames := 1, cells := 0, slots := 0, locals := 13 } : Room).slots) := by
  refine own_met (y := (⟨"java/lang/String", "length", "()I"⟩ : MethodName)) (plainFor_of_name pn_1) ?_
  intro p e s m below meth c T0 K hx hby hml hret hlk hown hnm hZ X0 e0 hK
  have N0 := Fr.nil n0
  refine Rch.cast (ef_rqLE m a1) ?_
  refine Rch.of (T' := T0) (g' := (mkF m 1 #[.val (.ref a1)] [(.ref a1)])) (fun _ kt => XS.aloadN X0.here hx rfl (hb hby d_jdk_42_method_54_code_0) rfl rfl kt) ?_
  obtain ⟨T132, X132, e132, st132⟩ := getF X0 hx hZ hown (host := "") (Or.inl (hw _ (List.mem_of_getElem? (i := 28) rfl))) Via.refl e0 F2 (g := (mkF m 1 #[.val (.ref a1)] [(.ref a1)])) rfl rfl (hb hby d_jdk_42_method_54_code_1)
  refine Rch.of (T' := T132) (g' := (mkF m 4 #[.val (.ref a1)] [(.ref b1)])) st132 ?_
  obtain ⟨cl133, Ar133, Sz133, Ha133⟩ := id V1
  refine Rch.of (T' := T132) (g' := (mkF m 5 #[.val (.ref a1)] [(.int cl133.slots.size.toInt32)])) (X132.arraylength hx (by rw [e132]; exact Ar133.1) (State.isArrayOf_alike hZ.alike Ar133.2.1) (g := (mkF m 4 #[.val (.ref a1)] [(.ref b1)])) rfl rfl (hb hby d_jdk_42_method_54_code_4)) ?_
  rw [oLen Sz133]
  show Rch p e below K T132 (mkF m 5 #[.val (.ref a1)] [(.int (Int32.ofNat n))])
  refine Rch.of (T' := T132) (g' := (mkF m 6 #[.val (.ref a1)] [(.ref a1), (.int (Int32.ofNat n))])) (fun _ kt => XS.aloadN X132.here hx rfl (hb hby d_jdk_42_method_54_code_5) rfl rfl kt) ?_
  obtain ⟨cq134, kq134, q134a, q134b, q134c⟩ := isOf hZ e132 E1
  obtain ⟨_, _, ⟨T134, L134, k134, n134⟩, -, X134, ⟨Lc134, hQ134, l134, y134, z134⟩, st134⟩ := X132.virtualBack hx (y := (⟨"java/lang/String", "coder", "()B"⟩ : MethodName)) (z := (⟨"java/lang/String", "coder", "()B"⟩ : MethodName)) hown (mvT hZ (hw _ (List.mem_of_getElem? (i := 150) rfl))) (mvT hZ (hw _ (List.mem_of_getElem? (i := 151) rfl))) (notFace_of_selects (args := #[]) (mvT hZ (hw _ (List.mem_of_getElem? (i := 153) rfl)))) (mvT hZ (hw _ (List.mem_of_getElem? (i := 153) rfl))) (mvT hZ (hw _ (List.mem_of_getElem? (i := 152) rfl))) (by decide) (backOf (W := 1) (rqCD l Z a0 hw [] a1 cs h0 n0 Z0 F1 SC hcs) hZ (hw _ (List.mem_of_getElem? (i := 154) rfl)) (hw _ (List.mem_of_getElem? (i := 3) rfl)) (by decide) (by decide)) q134a q134c (g := (mkF m 6 #[.val (.ref a1)] [(.ref a1), (.int (Int32.ofNat n))])) rfl (by rw [hml]; rfl) (Steps.refl _) (argsL := []) (rest := [(.int (Int32.ofNat n))]) (lenOf pd_21 rfl) rfl (by show 2 * 0 + _ ≤ _; exact Nat.le_of_eq rfl) (hb hby d_jdk_42_method_54_code_6) (fun _ _ => ⟨rfl, e132, (by decide : 0 + 0 ≤ _), (by decide : 0 + 0 ≤ _)⟩)
  dsimp only [Pt.U, Pt.locs, Pt.cells, Pt.slots] at X134 l134 y134 z134 st134 hQ134
  subst l134 y134 z134
  obtain ⟨rfl, N134q, hQ134⟩ := hQ134
  have N134 := Fr.app N0 N134q
  refine Rch.via (T' := T134) (g' := (mkF m 9 #[.val (.ref a1)] [(.int (0 : Int32)), (.int (Int32.ofNat n))])) st134 ?_
  refine Rch.of (T' := T134) (g' := (mkF m 10 #[.val (.ref a1)] [(.int ((Int32.ofNat n) >>> ((0 : Int32) &&& 31)))])) (fun _ kt => XS.ishr X134.here hx rfl (hb hby d_jdk_42_method_54_code_9) rfl kt) ?_
  exact Rch.retI X134 hx hret hlk (hb hby d_jdk_42_method_54_code_10) (fun U hU hF => hK _ U _ _ _ (by show Q_rqLE Z a1 b1 n y cs h0 n0 _ U.heap _; rw [hU, hQ134]; exact ⟨congrArg (fun q => some (Value.int q)) (own_sh0 _), N134, rfl⟩) hF (by decide) (by decide))
theorem pn_3 : plainName "jdk/internal/util/Preconditions" = true := by first | (simp [plainName, overriddenIn]; done) | decide +kernel
theorem ef_rqK2n (m : MethodId)  : entryFrame m #[(.int (Int32.ofNat i)), (.int (Int32.ofNat n)), .null] 3 = mkF m 0 #[.val (.int (Int32.ofNat i)), .val (.int (Int32.ofNat n)), .val .null] [] := by first | (simp [entryFrame, mkF, argsToLocals, Value.category]; done) | rfl
def Q_rqK2n (Z : State) (i : Nat) (n : Nat) (h0 : Heap) (n0 : Nat) (vv_ : Option Value) (h : Heap) (LL_ : List Loc) : Prop := vv_ = some (.int (Int32.ofNat i)) ∧ Fr n0 LL_ ∧ (h = h0)
theorem d_jdk_41_method_11_code_0 : decode jdk_41_method_11_code 0 = .ok (.iload_n 0, 1) := by decide +kernel
theorem d_jdk_41_method_11_code_1 : decode jdk_41_method_11_code 1 = .ok (.ifCond .lt 8, 3) := by decide +kernel
theorem d_jdk_41_method_11_code_4 : decode jdk_41_method_11_code 4 = .ok (.iload_n 0, 1) := by decide +kernel
theorem d_jdk_41_method_11_code_5 : decode jdk_41_method_11_code 5 = .ok (.iload_n 1, 1) := by decide +kernel
theorem d_jdk_41_method_11_code_6 : decode jdk_41_method_11_code 6 = .ok (.if_icmp .lt 10, 3) := by decide +kernel
theorem d_jdk_41_method_11_code_16 : decode jdk_41_method_11_code 16 = .ok (.iload_n 0, 1) := by decide +kernel
theorem d_jdk_41_method_11_code_17 : decode jdk_41_method_11_code 17 = .ok (.ireturn, 1) := by decide +kernel
set_option maxRecDepth 65536 in
set_option maxHeartbeats 40000000 in
theorem rqK2n (l : Launch) (Z : State) (a0 : Array Value) (hw : ∀ d ∈ tables_1, d.before a0 Z = true) (ws : List Jvm.Cond) (i : Nat) (n : Nat) (h0 : Heap) (n0 : Nat) (Z0 : n0 ≤ h0.size) (hi : i < n) (hn : n ≤ 16) :
    MetFree l (⟨"jdk/internal/util/Preconditions", "checkIndex", "(IILjava/util/function/BiFunction;)I"⟩ : MethodName) (head1 (Jvm.Cond.code (⟨"jdk/internal/util/Preconditions", "checkIndex", "(IILjava/util/function/BiFunction;)I"⟩ : MethodName) jdk_41_method_11_code 3 (some .int) :: ws) ({ frames := 0, cells := 0, slots := 0, locals := 0 } : Room)) (fun aa_ UU_ => aa_ = #[(.int (Int32.ofNat i)), (.int (Int32.ofNat n)), .null] ∧ Z.Warmed39 UU_.vm ∧ UU_.heap = h0) (fun _ _ _ _ _ => True) (fun _ UU_ oo_ VV_ => ∃ vv_ LL_, oo_ = .returned vv_ ∧ Q_rqK2n Z i n h0 n0 vv_ VV_.heap LL_ ∧ FrameEnd UU_ oo_ VV_ LL_ ({ frames := 0, cells := 0, slots := 0, locals := 0 } : Room).cells ({ frames := 0, cells := 0, slots := 0, locals := 0 } : Room).slots) := by
  refine own_met (y := (⟨"jdk/internal/util/Preconditions", "checkIndex", "(IILjava/util/function/BiFunction;)I"⟩ : MethodName)) (plainFor_of_name pn_3) ?_
  intro p e s m below meth c T0 K hx hby hml hret hlk hown hnm hZ X0 e0 hK
  have N0 := Fr.nil n0
  refine Rch.cast (ef_rqK2n m ) ?_
  have kn135 : ¬ ((Int32.ofNat i) < (0 : Int32)) := own_nneg (by omega)
  have kn136 : (Int32.ofNat i) < (Int32.ofNat n) := own_lt3 hi (by omega)
  refine Rch.of (T' := T0) (g' := (mkF m 1 #[.val (.int (Int32.ofNat i)), .val (.int (Int32.ofNat n)), .val .null] [(.int (Int32.ofNat i))])) (fun _ kt => XS.iloadN X0.here hx rfl (hb hby d_jdk_41_method_11_code_0) rfl  kt) ?_
  refine Rch.of (T' := T0) (g' := (mkF m 4 #[.val (.int (Int32.ofNat i)), .val (.int (Int32.ofNat n)), .val .null] [])) (fun _ kt => XS.ifNo X0.here hx rfl (hb hby d_jdk_41_method_11_code_1) rfl ((if0 _ _).trans (flt kn135).1) kt) ?_
  refine Rch.of (T' := T0) (g' := (mkF m 5 #[.val (.int (Int32.ofNat i)), .val (.int (Int32.ofNat n)), .val .null] [(.int (Int32.ofNat i))])) (fun _ kt => XS.iloadN X0.here hx rfl (hb hby d_jdk_41_method_11_code_4) rfl  kt) ?_
  refine Rch.of (T' := T0) (g' := (mkF m 6 #[.val (.int (Int32.ofNat i)), .val (.int (Int32.ofNat n)), .val .null] [(.int (Int32.ofNat n)), (.int (Int32.ofNat i))])) (fun _ kt => XS.iloadN X0.here hx rfl (hb hby d_jdk_41_method_11_code_5) rfl  kt) ?_
  refine Rch.of (T' := T0) (g' := (mkF m 16 #[.val (.int (Int32.ofNat i)), .val (.int (Int32.ofNat n)), .val .null] [])) (fun _ kt => XS.icmpYes X0.here hx rfl (pc0 := 6) (pc' := 16) rfl (hb hby d_jdk_41_method_11_code_6) rfl (tlt kn136).1 (by decide) (by decide) kt) ?_
  refine Rch.of (T' := T0) (g' := (mkF m 17 #[.val (.int (Int32.ofNat i)), .val (.int (Int32.ofNat n)), .val .null] [(.int (Int32.ofNat i))])) (fun _ kt => XS.iloadN X0.here hx rfl (hb hby d_jdk_41_method_11_code_16) rfl  kt) ?_
  exact Rch.retI X0 hx hret hlk (hb hby d_jdk_41_method_11_code_17) (fun U hU hF => hK _ U _ _ _ (by show Q_rqK2n Z i n h0 n0 _ U.heap _; rw [hU, e0]; exact ⟨rfl, N0, rfl⟩) hF (by decide) (by decide))
theorem ef_rqK2r (m : MethodId) (a3 : Addr) : entryFrame m #[(.int (Int32.ofNat i)), (.int (Int32.ofNat n)), (.ref a3)] 3 = mkF m 0 #[.val (.int (Int32.ofNat i)), .val (.int (Int32.ofNat n)), .val (.ref a3)] [] := by first | (simp [entryFrame, mkF, argsToLocals, Value.category]; done) | rfl
def Q_rqK2r (Z : State) (i : Nat) (n : Nat) (a3 : Addr) (h0 : Heap) (n0 : Nat) (vv_ : Option Value) (h : Heap) (LL_ : List Loc) : Prop := vv_ = some (.int (Int32.ofNat i)) ∧ Fr n0 LL_ ∧ (h = h0)
set_option maxRecDepth 65536 in
set_option maxHeartbeats 40000000 in
theorem rqK2r (l : Launch) (Z : State) (a0 : Array Value) (hw : ∀ d ∈ tables_1, d.before a0 Z = true) (ws : List Jvm.Cond) (i : Nat) (n : Nat) (a3 : Addr) (h0 : Heap) (n0 : Nat) (Z0 : n0 ≤ h0.size) (hi : i < n) (hn : n ≤ 16) :
    MetFree l (⟨"jdk/internal/util/Preconditions", "checkIndex", "(IILjava/util/function/BiFunction;)I"⟩ : MethodName) (head1 (Jvm.Cond.code (⟨"jdk/internal/util/Preconditions", "checkIndex", "(IILjava/util/function/BiFunction;)I"⟩ : MethodName) jdk_41_method_11_code 3 (some .int) :: ws) ({ frames := 0, cells := 0, slots := 0, locals := 0 } : Room)) (fun aa_ UU_ => aa_ = #[(.int (Int32.ofNat i)), (.int (Int32.ofNat n)), (.ref a3)] ∧ Z.Warmed39 UU_.vm ∧ UU_.heap = h0) (fun _ _ _ _ _ => True) (fun _ UU_ oo_ VV_ => ∃ vv_ LL_, oo_ = .returned vv_ ∧ Q_rqK2r Z i n a3 h0 n0 vv_ VV_.heap LL_ ∧ FrameEnd UU_ oo_ VV_ LL_ ({ frames := 0, cells := 0, slots := 0, locals := 0 } : Room).cells ({ frames := 0, cells := 0, slots := 0, locals := 0 } : Room).slots) := by
  refine own_met (y := (⟨"jdk/internal/util/Preconditions", "checkIndex", "(IILjava/util/function/BiFunction;)I"⟩ : MethodName)) (plainFor_of_name pn_3) ?_
  intro p e s m below meth c T0 K hx hby hml hret hlk hown hnm hZ X0 e0 hK
  have N0 := Fr.nil n0
  refine Rch.cast (ef_rqK2r m a3) ?_
  have kn137 : ¬ ((Int32.ofNat i) < (0 : Int32)) := own_nneg (by omega)
  have kn138 : (Int32.ofNat i) < (Int32.ofNat n) := own_lt3 hi (by omega)
  refine Rch.of (T' := T0) (g' := (mkF m 1 #[.val (.int (Int32.ofNat i)), .val (.int (Int32.ofNat n)), .val (.ref a3)] [(.int (Int32.ofNat i))])) (fun _ kt => XS.iloadN X0.here hx rfl (hb hby d_jdk_41_method_11_code_0) rfl  kt) ?_
  refine Rch.of (T' := T0) (g' := (mkF m 4 #[.val (.int (Int32.ofNat i)), .val (.int (Int32.ofNat n)), .val (.ref a3)] [])) (fun _ kt => XS.ifNo X0.here hx rfl (hb hby d_jdk_41_method_11_code_1) rfl ((if0 _ _).trans (flt kn137).1) kt) ?_
  refine Rch.of (T' := T0) (g' := (mkF m 5 #[.val (.int (Int32.ofNat i)), .val (.int (Int32.ofNat n)), .val (.ref a3)] [(.int (Int32.ofNat i))])) (fun _ kt => XS.iloadN X0.here hx rfl (hb hby d_jdk_41_method_11_code_4) rfl  kt) ?_
  refine Rch.of (T' := T0) (g' := (mkF m 6 #[.val (.int (Int32.ofNat i)), .val (.int (Int32.ofNat n)), .val (.ref a3)] [(.int (Int32.ofNat n)), (.int (Int32.ofNat i))])) (fun _ kt => XS.iloadN X0.here hx rfl (hb hby d_jdk_41_method_11_code_5) rfl  kt) ?_
  refine Rch.of (T' := T0) (g' := (mkF m 16 #[.val (.int (Int32.ofNat i)), .val (.int (Int32.ofNat n)), .val (.ref a3)] [])) (fun _ kt => XS.icmpYes X0.here hx rfl (pc0 := 6) (pc' := 16) rfl (hb hby d_jdk_41_method_11_code_6) rfl (tlt kn138).1 (by decide) (by decide) kt) ?_
  refine Rch.of (T' := T0) (g' := (mkF m 17 #[.val (.int (Int32.ofNat i)), .val (.int (Int32.ofNat n)), .val (.ref a3)] [(.int (Int32.ofNat i))])) (fun _ kt => XS.iloadN X0.here hx rfl (hb hby d_jdk_41_method_11_code_16) rfl  kt) ?_
  exact Rch.retI X0 hx hret hlk (hb hby d_jdk_41_method_11_code_17) (fun U hU hF => hK _ U _ _ _ (by show Q_rqK2r Z i n a3 h0 n0 _ U.heap _; rw [hU, e0]; exact ⟨rfl, N0, rfl⟩) hF (by decide) (by decide))
theorem ef_rqK1 (m : MethodId)  : entryFrame m #[(.int (Int32.ofNat i)), (.int (Int32.ofNat n))] 2 = mkF m 0 #[.val (.int (Int32.ofNat i)), .val (.int (Int32.ofNat n))] [] := by first | (simp [entryFrame, mkF, argsToLocals, Value.category]; done) | rfl
def Q_rqK1 (Z : State) (i : Nat) (n : Nat) (sv : Value) (h0 : Heap) (n0 : Nat) (vv_ : Option Value) (h : Heap) (LL_ : List Loc) : Prop := vv_ = none ∧ Fr n0 LL_ ∧ (h = h0)
theorem d_jdk_42_method_155_code_0 : decode jdk_42_method_155_code 0 = .ok (.iload_n 0, 1) := by decide +kernel
theorem d_jdk_42_method_155_code_1 : decode jdk_42_method_155_code 1 = .ok (.iload_n 1, 1) := by decide +kernel
theorem d_jdk_42_method_155_code_2 : decode jdk_42_method_155_code 2 = .ok (.getstatic 1053, 3) := by decide +kernel
theorem d_jdk_42_method_155_code_5 : decode jdk_42_method_155_code 5 = .ok (.invokestatic 1059, 3) := by decide +kernel
theorem d_jdk_42_method_155_code_8 : decode jdk_42_method_155_code 8 = .ok (.pop, 1) := by decide +kernel
theorem d_jdk_42_method_155_code_9 : decode jdk_42_method_155_code 9 = .ok (.return_, 1) := by decide +kernel
set_option maxRecDepth 65536 in
set_option maxHeartbeats 40000000 in
theorem rqK1 (l : Launch) (Z : State) (a0 : Array Value) (hw : ∀ d ∈ tables_1, d.before a0 Z = true) (ws : List Jvm.Cond) (i : Nat) (n : Nat) (sv : Value) (h0 : Heap) (n0 : Nat) (Z0 : n0 ≤ h0.size) (hi : i < n) (hn : n ≤ 16) (SI : Sta Z h0 "jdk/internal/util/Preconditions" "SIOOBE_FORMATTER" "Ljava/util/function/BiFunction;" sv) (hsv : sv.isRef = true) :
    MetFree l (⟨"java/lang/String", "checkIndex", "(II)V"⟩ : MethodName) (head1 (Jvm.Cond.code (⟨"java/lang/String", "checkIndex", "(II)V"⟩ : MethodName) jdk_42_method_155_code 2 none :: ws) ({ frames := 1, cells := 0, slots := 0, locals := 14 } : Room)) (fun aa_ UU_ => aa_ = #[(.int (Int32.ofNat i)), (.int (Int32.ofNat n))] ∧ Z.Warmed39 UU_.vm ∧ UU_.heap = h0) (fun _ _ _ _ _ => True) (fun _ UU_ oo_ VV_ => ∃ vv_ LL_, oo_ = .returned vv_ ∧ Q_rqK1 Z i n sv h0 n0 vv_ VV_.heap LL_ ∧ FrameEnd UU_ oo_ VV_ LL_ ({ frames := 1, cells := 0, slots := 0, locals := 14 } : Room).cells ({ frames := 1, cells := 0, slots := 0, locals := 14 } : Room).slots) := by
  refine own_met (y := (⟨"java/lang/String", "checkIndex", "(II)V"⟩ : MethodName)) (plainFor_of_name pn_1) ?_
  intro p e s m below meth c T0 K hx hby hml hret hlk hown hnm hZ X0 e0 hK
  have N0 := Fr.nil n0
  refine Rch.cast (ef_rqK1 m ) ?_
  rcases ref_cases hsv with es_ | ⟨q1_, es_⟩
  · skip
    have SI2 : Sta Z h0 "jdk/internal/util/Preconditions" "SIOOBE_FORMATTER" "Ljava/util/function/BiFunction;" .null := by rw [← es_]; exact SI
    refine Rch.of (T' := T0) (g' := (mkF m 1 #[.val (.int (Int32.ofNat i)), .val (.int (Int32.ofNat n))] [(.int (Int32.ofNat i))])) (fun _ kt => XS.iloadN X0.here hx rfl (hb hby d_jdk_42_method_155_code_0) rfl  kt) ?_
    refine Rch.of (T' := T0) (g' := (mkF m 2 #[.val (.int (Int32.ofNat i)), .val (.int (Int32.ofNat n))] [(.int (Int32.ofNat n)), (.int (Int32.ofNat i))])) (fun _ kt => XS.iloadN X0.here hx rfl (hb hby d_jdk_42_method_155_code_1) rfl  kt) ?_
    obtain ⟨T139, X139, e139, st139⟩ := getS2 X0 hx hZ hown (host := "") (Or.inl (hw _ (List.mem_of_getElem? (i := 247) rfl))) Via.refl e0 SI2 (g := (mkF m 2 #[.val (.int (Int32.ofNat i)), .val (.int (Int32.ofNat n))] [(.int (Int32.ofNat n)), (.int (Int32.ofNat i))])) rfl (hb hby d_jdk_42_method_155_code_2)
    refine Rch.of (T' := T139) (g' := (mkF m 5 #[.val (.int (Int32.ofNat i)), .val (.int (Int32.ofNat n))] [.null, (.int (Int32.ofNat n)), (.int (Int32.ofNat i))])) st139 ?_
    have pr141 : i < n := by omega
    have pr142 : n ≤ 16 := by omega
    obtain ⟨_, _, ⟨T140, L140, k140, n140⟩, -, X140, ⟨Lc140, hQ140, l140, y140, z140⟩, st140⟩ := Jvm.LawKit.callS X139 hx (y := (⟨"jdk/internal/util/Preconditions", "checkIndex", "(IILjava/util/function/BiFunction;)I"⟩ : MethodName)) hown (mvT hZ (hw _ (List.mem_of_getElem? (i := 249) rfl))) (mvT hZ (hw _ (List.mem_of_getElem? (i := 250) rfl))) (mvT hZ (hw _ (List.mem_of_getElem? (i := 248) rfl))) (mvT hZ (hw _ (List.mem_of_getElem? (i := 251) rfl))) (by decide) (backOf (W := 0) (rqK2n l Z a0 hw [] i n h0 n0 Z0 pr141 pr142) hZ (hw _ (List.mem_of_getElem? (i := 251) rfl)) (hw _ (List.mem_of_getElem? (i := 248) rfl)) (by decide) (by decide)) (g := (mkF m 5 #[.val (.int (Int32.ofNat i)), .val (.int (Int32.ofNat n))] [.null, (.int (Int32.ofNat n)), (.int (Int32.ofNat i))])) rfl (by rw [hml]; rfl) (argsL := [(.int (Int32.ofNat i)), (.int (Int32.ofNat n)), .null]) (rest := []) (lenOf pd_34 rfl) rfl (by show 2 * 0 + _ ≤ _; exact Nat.le_of_eq rfl) (hb hby d_jdk_42_method_155_code_5) (fun _ _ => ⟨rfl, e139, (by decide : 0 + 0 ≤ _), (by decide : 0 + 0 ≤ _)⟩)
    dsimp only [Pt.U, Pt.locs, Pt.cells, Pt.slots] at X140 l140 y140 z140 st140 hQ140
    subst l140 y140 z140
    obtain ⟨rfl, N140q, hQ140⟩ := hQ140
    have N140 := Fr.app N0 N140q
    refine Rch.of (T' := T140) (g' := (mkF m 8 #[.val (.int (Int32.ofNat i)), .val (.int (Int32.ofNat n))] [(.int (Int32.ofNat i))])) st140 ?_
    refine Rch.of (T' := T140) (g' := (mkF m 9 #[.val (.int (Int32.ofNat i)), .val (.int (Int32.ofNat n))] [])) (fun _ kt => XS.pop X140.here hx rfl (hb hby d_jdk_42_method_155_code_8) rfl rfl kt) ?_
    exact Rch.retV X140 hx hret hlk (hb hby d_jdk_42_method_155_code_9) (fun U hU hF => hK _ U _ _ _ (by show Q_rqK1 Z i n sv h0 n0 _ U.heap _; rw [hU, hQ140]; exact ⟨rfl, N140, rfl⟩) hF (by decide) (by decide))
  · skip
    have SI2 : Sta Z h0 "jdk/internal/util/Preconditions" "SIOOBE_FORMATTER" "Ljava/util/function/BiFunction;" (.ref q1_) := by rw [← es_]; exact SI
    refine Rch.of (T' := T0) (g' := (mkF m 1 #[.val (.int (Int32.ofNat i)), .val (.int (Int32.ofNat n))] [(.int (Int32.ofNat i))])) (fun _ kt => XS.iloadN X0.here hx rfl (hb hby d_jdk_42_method_155_code_0) rfl  kt) ?_
    refine Rch.of (T' := T0) (g' := (mkF m 2 #[.val (.int (Int32.ofNat i)), .val (.int (Int32.ofNat n))] [(.int (Int32.ofNat n)), (.int (Int32.ofNat i))])) (fun _ kt => XS.iloadN X0.here hx rfl (hb hby d_jdk_42_method_155_code_1) rfl  kt) ?_
    obtain ⟨T143, X143, e143, st143⟩ := getS2 X0 hx hZ hown (host := "") (Or.inl (hw _ (List.mem_of_getElem? (i := 247) rfl))) Via.refl e0 SI2 (g := (mkF m 2 #[.val (.int (Int32.ofNat i)), .val (.int (Int32.ofNat n))] [(.int (Int32.ofNat n)), (.int (Int32.ofNat i))])) rfl (hb hby d_jdk_42_method_155_code_2)
    refine Rch.of (T' := T143) (g' := (mkF m 5 #[.val (.int (Int32.ofNat i)), .val (.int (Int32.ofNat n))] [(.ref q1_), (.int (Int32.ofNat n)), (.int (Int32.ofNat i))])) st143 ?_
    have pr145 : i < n := by omega
    have pr146 : n ≤ 16 := by omega
    obtain ⟨_, _, ⟨T144, L144, k144, n144⟩, -, X144, ⟨Lc144, hQ144, l144, y144, z144⟩, st144⟩ := Jvm.LawKit.callS X143 hx (y := (⟨"jdk/internal/util/Preconditions", "checkIndex", "(IILjava/util/function/BiFunction;)I"⟩ : MethodName)) hown (mvT hZ (hw _ (List.mem_of_getElem? (i := 249) rfl))) (mvT hZ (hw _ (List.mem_of_getElem? (i := 250) rfl))) (mvT hZ (hw _ (List.mem_of_getElem? (i := 248) rfl))) (mvT hZ (hw _ (List.mem_of_getElem? (i := 251) rfl))) (by decide) (backOf (W := 0) (rqK2r l Z a0 hw [] i n q1_ h0 n0 Z0 pr145 pr146) hZ (hw _ (List.mem_of_getElem? (i := 251) rfl)) (hw _ (List.mem_of_getElem? (i := 248) rfl)) (by decide) (by decide)) (g := (mkF m 5 #[.val (.int (Int32.ofNat i)), .val (.int (Int32.ofNat n))] [(.ref q1_), (.int (Int32.ofNat n)), (.int (Int32.ofNat i))])) rfl (by rw [hml]; rfl) (argsL := [(.int (Int32.ofNat i)), (.int (Int32.ofNat n)), (.ref q1_)]) (rest := []) (lenOf pd_34 rfl) rfl (by show 2 * 0 + _ ≤ _; exact Nat.le_of_eq rfl) (hb hby d_jdk_42_method_155_code_5) (fun _ _ => ⟨rfl, e143, (by decide : 0 + 0 ≤ _), (by decide : 0 + 0 ≤ _)⟩)
    dsimp only [Pt.U, Pt.locs, Pt.cells, Pt.slots] at X144 l144 y144 z144 st144 hQ144
    subst l144 y144 z144
    obtain ⟨rfl, N144q, hQ144⟩ := hQ144
    have N144 := Fr.app N0 N144q
    refine Rch.of (T' := T144) (g' := (mkF m 8 #[.val (.int (Int32.ofNat i)), .val (.int (Int32.ofNat n))] [(.int (Int32.ofNat i))])) st144 ?_
    refine Rch.of (T' := T144) (g' := (mkF m 9 #[.val (.int (Int32.ofNat i)), .val (.int (Int32.ofNat n))] [])) (fun _ kt => XS.pop X144.here hx rfl (hb hby d_jdk_42_method_155_code_8) rfl rfl kt) ?_
    exact Rch.retV X144 hx hret hlk (hb hby d_jdk_42_method_155_code_9) (fun U hU hF => hK _ U _ _ _ (by show Q_rqK1 Z i n sv h0 n0 _ U.heap _; rw [hU, hQ144]; exact ⟨rfl, N144, rfl⟩) hF (by decide) (by decide))
theorem ef_rqC1 (m : MethodId) (b1 : Addr) : entryFrame m #[(.ref b1), (.int (Int32.ofNat i))] 2 = mkF m 0 #[.val (.ref b1), .val (.int (Int32.ofNat i))] [] := by first | (simp [entryFrame, mkF, argsToLocals, Value.category]; done) | rfl
def Q_rqC1 (Z : State) (b1 : Addr) (n : Nat) (y : Nat → Int32) (i : Nat) (sv : Value) (h0 : Heap) (n0 : Nat) (vv_ : Option Value) (h : Heap) (LL_ : List Loc) : Prop := vv_ = some (.int (y i)) ∧ Fr n0 LL_ ∧ (h = h0)
theorem d_jdk_43_method_2_code_0 : decode jdk_43_method_2_code 0 = .ok (.iload_n 1, 1) := by decide +kernel
theorem d_jdk_43_method_2_code_1 : decode jdk_43_method_2_code 1 = .ok (.aload_n 0, 1) := by decide +kernel
theorem d_jdk_43_method_2_code_2 : decode jdk_43_method_2_code 2 = .ok (.arraylength, 1) := by decide +kernel
theorem d_jdk_43_method_2_code_3 : decode jdk_43_method_2_code 3 = .ok (.invokestatic 9, 3) := by decide +kernel
theorem d_jdk_43_method_2_code_6 : decode jdk_43_method_2_code 6 = .ok (.aload_n 0, 1) := by decide +kernel
theorem d_jdk_43_method_2_code_7 : decode jdk_43_method_2_code 7 = .ok (.iload_n 1, 1) := by decide +kernel
theorem d_jdk_43_method_2_code_8 : decode jdk_43_method_2_code 8 = .ok (.baload, 1) := by decide +kernel
theorem d_jdk_43_method_2_code_9 : decode jdk_43_method_2_code 9 = .ok (.sipush 255, 3) := by decide +kernel
theorem d_jdk_43_method_2_code_12 : decode jdk_43_method_2_code 12 = .ok (.iand, 1) := by decide +kernel
theorem d_jdk_43_method_2_code_13 : decode jdk_43_method_2_code 13 = .ok (.i2c, 1) := by decide +kernel
theorem d_jdk_43_method_2_code_14 : decode jdk_43_method_2_code 14 = .ok (.ireturn, 1) := by decide +kernel
set_option maxRecDepth 65536 in
set_option maxHeartbeats 40000000 in
theorem rqC1 (l : Launch) (Z : State) (a0 : Array Value) (hw : ∀ d ∈ tables_1, d.before a0 Z = true) (ws : List Jvm.Cond) (b1 : Addr) (n : Nat) (y : Nat → Int32) (i : Nat) (sv : Value) (h0 : Heap) (n0 : Nat) (Z0 : n0 ≤ h0.size) (V1 : Av Z h0 b1 .byte n (fun q => .int ((y q).toInt8.toInt32))) (hi : i < n) (hn : n ≤ 16) (hy : own_ch n y) (SI : Sta Z h0 "jdk/internal/util/Preconditions" "SIOOBE_FORMATTER" "Ljava/util/function/BiFunction;" sv) (hsv : sv.isRef = true) :
    MetFree l (⟨"java/lang/StringLatin1", "charAt", "([BI)C"⟩ : MethodName) (head1 (Jvm.Cond.code (⟨"java/lang/StringLatin1", "charAt", "([BI)C"⟩ : MethodName) jdk_43_method_2_code 2 (some .char) :: ws) ({ frames := 2, cells := 0, slots := 0, locals := 27 } : Room)) (fun aa_ UU_ => aa_ = #[(.ref b1), (.int (Int32.ofNat i))] ∧ Z.Warmed39 UU_.vm ∧ UU_.heap = h0) (fun _ _ _ _ _ => True) (fun _ UU_ oo_ VV_ => ∃ vv_ LL_, oo_ = .returned vv_ ∧ Q_rqC1 Z b1 n y i sv h0 n0 vv_ VV_.heap LL_ ∧ FrameEnd UU_ oo_ VV_ LL_ ({ frames := 2, cells := 0, slots := 0, locals := 27 } : Room).cells ({ frames := 2, cells := 0, slots := 0, locals := 27 } : Room).slots) := by
  refine own_met (y := (⟨"java/lang/StringLatin1", "charAt", "([BI)C"⟩ : MethodName)) (plainFor_of_name pn_2) ?_
  intro p e s m below meth c T0 K hx hby hml hret hlk hown hnm hZ X0 e0 hK
  have N0 := Fr.nil n0
  refine Rch.cast (ef_rqC1 m b1) ?_
  have ti : (Int32.ofNat i).toInt = (i : Int) := oTo (by omega)
  refine Rch.of (T' := T0) (g' := (mkF m 1 #[.val (.ref b1), .val (.int (Int32.ofNat i))] [(.int (Int32.ofNat i))])) (fun _ kt => XS.iloadN X0.here hx rfl (hb hby d_jdk_43_method_2_code_0) rfl  kt) ?_
  refine Rch.of (T' := T0) (g' := (mkF m 2 #[.val (.ref b1), .val (.int (Int32.ofNat i))] [(.ref b1), (.int (Int32.ofNat i))])) (fun _ kt => XS.aloadN X0.here hx rfl (hb hby d_jdk_43_method_2_code_1) rfl rfl kt) ?_
  obtain ⟨cl147, Ar147, Sz147, Ha147⟩ := id V1
  refine Rch.of (T' := T0) (g' := (mkF m 3 #[.val (.ref b1), .val (.int (Int32.ofNat i))] [(.int cl147.slots.size.toInt32), (.int (Int32.ofNat i))])) (X0.arraylength hx (by rw [e0]; exact Ar147.1) (State.isArrayOf_alike hZ.alike Ar147.2.1) (g := (mkF m 2 #[.val (.ref b1), .val (.int (Int32.ofNat i))] [(.ref b1), (.int (Int32.ofNat i))])) rfl rfl (hb hby d_jdk_43_method_2_code_2)) ?_
  rw [oLen Sz147]
  show Rch p e below K T0 (mkF m 3 #[.val (.ref b1), .val (.int (Int32.ofNat i))] [(.int (Int32.ofNat n)), (.int (Int32.ofNat i))])
  have pr149 : i < n := by omega
  have pr150 : n ≤ 16 := by omega
  obtain ⟨_, _, ⟨T148, L148, k148, n148⟩, -, X148, ⟨Lc148, hQ148, l148, y148, z148⟩, st148⟩ := Jvm.LawKit.callS X0 hx (y := (⟨"java/lang/String", "checkIndex", "(II)V"⟩ : MethodName)) hown (mvT hZ (hw _ (List.mem_of_getElem? (i := 244) rfl))) (mvT hZ (hw _ (List.mem_of_getElem? (i := 245) rfl))) (mvT hZ (hw _ (List.mem_of_getElem? (i := 3) rfl))) (mvT hZ (hw _ (List.mem_of_getElem? (i := 246) rfl))) (by decide) (backOf (W := 0) (rqK1 l Z a0 hw [] i n sv h0 n0 Z0 pr149 pr150 SI hsv) hZ (hw _ (List.mem_of_getElem? (i := 246) rfl)) (hw _ (List.mem_of_getElem? (i := 3) rfl)) (by decide) (by decide)) (g := (mkF m 3 #[.val (.ref b1), .val (.int (Int32.ofNat i))] [(.int (Int32.ofNat n)), (.int (Int32.ofNat i))])) rfl (by rw [hml]; rfl) (argsL := [(.int (Int32.ofNat i)), (.int (Int32.ofNat n))]) (rest := []) (lenOf pd_30 rfl) rfl (by show 2 * 0 + _ ≤ _; exact Nat.le_of_eq rfl) (hb hby d_jdk_43_method_2_code_3) (fun _ _ => ⟨rfl, e0, (by decide : 0 + 0 ≤ _), (by decide : 0 + 0 ≤ _)⟩)
  dsimp only [Pt.U, Pt.locs, Pt.cells, Pt.slots] at X148 l148 y148 z148 st148 hQ148
  subst l148 y148 z148
  obtain ⟨rfl, N148q, hQ148⟩ := hQ148
  have N148 := Fr.app N0 N148q
  refine Rch.of (T' := T148) (g' := (mkF m 6 #[.val (.ref b1), .val (.int (Int32.ofNat i))] [])) st148 ?_
  refine Rch.of (T' := T148) (g' := (mkF m 7 #[.val (.ref b1), .val (.int (Int32.ofNat i))] [(.ref b1)])) (fun _ kt => XS.aloadN X148.here hx rfl (hb hby d_jdk_43_method_2_code_6) rfl rfl kt) ?_
  refine Rch.of (T' := T148) (g' := (mkF m 8 #[.val (.ref b1), .val (.int (Int32.ofNat i))] [(.int (Int32.ofNat i)), (.ref b1)])) (fun _ kt => XS.iloadN X148.here hx rfl (hb hby d_jdk_43_method_2_code_7) rfl  kt) ?_
  obtain ⟨cl151, Ar151, Sz151, Ha151⟩ := id V1
  refine Rch.of (T' := T148) (g' := (mkF m 9 #[.val (.ref b1), .val (.int (Int32.ofNat i))] [(.int ((fun q => (y q).toInt8.toInt32) i))])) (X148.baloadBytes hx (j := (Int32.ofNat i)) (v := (.int ((fun q => (y q).toInt8.toInt32) i))) (by rw [hQ148]; exact Ar151.1) (State.isArrayOf_alike hZ.alike Ar151.2.1) Ar151.2.2 (oIn (i := i) Sz151 ti hi) (oAt (i := i) Ha151 ti hi) (g := (mkF m 8 #[.val (.ref b1), .val (.int (Int32.ofNat i))] [(.int (Int32.ofNat i)), (.ref b1)])) rfl rfl (hb hby d_jdk_43_method_2_code_8)) ?_
  refine Rch.of (T' := T148) (g' := (mkF m 12 #[.val (.ref b1), .val (.int (Int32.ofNat i))] [(.int (255 : Int32)), (.int ((fun q => (y q).toInt8.toInt32) i))])) (fun _ kt => XS.sipush X148.here hx rfl (hb hby d_jdk_43_method_2_code_9) kt) ?_
  refine Rch.of (T' := T148) (g' := (mkF m 13 #[.val (.ref b1), .val (.int (Int32.ofNat i))] [(.int (((fun q => (y q).toInt8.toInt32) i) &&& (255 : Int32)))])) (fun _ kt => XS.iand X148.here hx rfl (hb hby d_jdk_43_method_2_code_12) rfl kt) ?_
  refine Rch.of (T' := T148) (g' := (mkF m 14 #[.val (.ref b1), .val (.int (Int32.ofNat i))] [(.int ((((fun q => (y q).toInt8.toInt32) i) &&& (255 : Int32)).toUInt32.toUInt16.toUInt32.toInt32))])) (fun _ kt => XS.i2c X148.here hx rfl (hb hby d_jdk_43_method_2_code_13) rfl kt) ?_
  exact Rch.retN X148 hx (t := .char) hret (by simp) hlk (hb hby d_jdk_43_method_2_code_14) (fun U hU hF => hK _ U _ _ _ (by show Q_rqC1 Z b1 n y i sv h0 n0 _ U.heap _; rw [hU, hQ148]; exact ⟨congrArg (fun q => some (Value.int q)) (own_chr (hy.at hi)), N148, rfl⟩) hF (by decide) (by decide))
theorem ef_rqCA (m : MethodId) (a1 : Addr) : entryFrame m #[(.ref a1), (.int (Int32.ofNat i))] 2 = mkF m 0 #[.val (.ref a1), .val (.int (Int32.ofNat i))] [] := by first | (simp [entryFrame, mkF, argsToLocals, Value.category]; done) | rfl
def Q_rqCA (Z : State) (a1 : Addr) (b1 : Addr) (n : Nat) (y : Nat → Int32) (i : Nat) (cs : Int32) (sv : Value) (h0 : Heap) (n0 : Nat) (vv_ : Option Value) (h : Heap) (LL_ : List Loc) : Prop := vv_ = some (.int (y i)) ∧ Fr n0 LL_ ∧ (h = h0)
theorem d_jdk_42_method_56_code_0 : decode jdk_42_method_56_code 0 = .ok (.aload_n 0, 1) := by decide +kernel
theorem d_jdk_42_method_56_code_1 : decode jdk_42_method_56_code 1 = .ok (.invokevirtual 492, 3) := by decide +kernel
theorem d_jdk_42_method_56_code_4 : decode jdk_42_method_56_code 4 = .ok (.ifCond .eq 12, 3) := by decide +kernel
theorem d_jdk_42_method_56_code_7 : decode jdk_42_method_56_code 7 = .ok (.aload_n 0, 1) := by decide +kernel
theorem d_jdk_42_method_56_code_8 : decode jdk_42_method_56_code 8 = .ok (.getfield 9, 3) := by decide +kernel
theorem d_jdk_42_method_56_code_11 : decode jdk_42_method_56_code 11 = .ok (.iload_n 1, 1) := by decide +kernel
theorem d_jdk_42_method_56_code_12 : decode jdk_42_method_56_code 12 = .ok (.invokestatic 495, 3) := by decide +kernel
theorem d_jdk_42_method_56_code_15 : decode jdk_42_method_56_code 15 = .ok (.ireturn, 1) := by decide +kernel
set_option maxRecDepth 65536 in
set_option maxHeartbeats 40000000 in
theorem rqCA (l : Launch) (Z : State) (a0 : Array Value) (hw : ∀ d ∈ tables_1, d.before a0 Z = true) (ws : List Jvm.Cond) (a1 : Addr) (b1 : Addr) (n : Nat) (y : Nat → Int32) (i : Nat) (cs : Int32) (sv : Value) (h0 : Heap) (n0 : Nat) (Z0 : n0 ≤ h0.size) (E1 : Exa Z h0 a1 "java/lang/String") (F1 : Fld Z h0 a1 "java/lang/String" "coder" "B" (.int (0 : Int32))) (F2 : Fld Z h0 a1 "java/lang/String" "value" "[B" (.ref b1)) (V1 : Av Z h0 b1 .byte n (fun q => .int ((y q).toInt8.toInt32))) (hi : i < n) (hn : n ≤ 16) (hy : own_ch n y) (SC : Sta Z h0 "java/lang/String" "COMPACT_STRINGS" "Z" (.int cs)) (hcs : ¬ cs = (0 : Int32)) (SI : Sta Z h0 "jdk/internal/util/Preconditions" "SIOOBE_FORMATTER" "Ljava/util/function/BiFunction;" sv) (hsv : sv.isRef = true) :
    MetFree l (⟨"java/lang/String", "charAt", "(I)C"⟩ : MethodName) (head1 (Jvm.Cond.code (⟨"java/lang/String", "charAt", "(I)C"⟩ : MethodName) jdk_42_method_56_code 2 (some .char) :: ws) ({ frames := 3, cells := 0, slots := 0, locals := 40 } : Room)) (fun aa_ UU_ => aa_ = #[(.ref a1), (.int (Int32.ofNat i))] ∧ Z.Warmed39 UU_.vm ∧ UU_.heap = h0) (fun _ _ _ _ _ => True) (fun _ UU_ oo_ VV_ => ∃ vv_ LL_, oo_ = .returned vv_ ∧ Q_rqCA Z a1 b1 n y i cs sv h0 n0 vv_ VV_.heap LL_ ∧ FrameEnd UU_ oo_ VV_ LL_ ({ frames := 3, cells := 0, slots := 0, locals := 40 } : Room).cells ({ frames := 3, cells := 0, slots := 0, locals := 40 } : Room).slots) := by
  refine own_met (y := (⟨"java/lang/String", "charAt", "(I)C"⟩ : MethodName)) (plainFor_of_name pn_1) ?_
  intro p e s m below meth c T0 K hx hby hml hret hlk hown hnm hZ X0 e0 hK
  have N0 := Fr.nil n0
  refine Rch.cast (ef_rqCA m a1) ?_
  refine Rch.of (T' := T0) (g' := (mkF m 1 #[.val (.ref a1), .val (.int (Int32.ofNat i))] [(.ref a1)])) (fun _ kt => XS.aloadN X0.here hx rfl (hb hby d_jdk_42_method_56_code_0) rfl rfl kt) ?_
  obtain ⟨cq152, kq152, q152a, q152b, q152c⟩ := isOf hZ e0 E1
  obtain ⟨_, _, ⟨T152, L152, k152, n152⟩, -, X152, ⟨Lc152, hQ152, l152, y152, z152⟩, st152⟩ := X0.virtualBack hx (y := (⟨"java/lang/String", "isLatin1", "()Z"⟩ : MethodName)) (z := (⟨"java/lang/String", "isLatin1", "()Z"⟩ : MethodName)) hown (mvT hZ (hw _ (List.mem_of_getElem? (i := 236) rfl))) (mvT hZ (hw _ (List.mem_of_getElem? (i := 237) rfl))) (notFace_of_selects (args := #[]) (mvT hZ (hw _ (List.mem_of_getElem? (i := 239) rfl)))) (mvT hZ (hw _ (List.mem_of_getElem? (i := 239) rfl))) (mvT hZ (hw _ (List.mem_of_getElem? (i := 238) rfl))) (by decide) (backOf (W := 0) (rqLT l Z a0 hw [] a1 cs h0 n0 Z0 F1 SC hcs) hZ (hw _ (List.mem_of_getElem? (i := 240) rfl)) (hw _ (List.mem_of_getElem? (i := 3) rfl)) (by decide) (by decide)) q152a q152c (g := (mkF m 1 #[.val (.ref a1), .val (.int (Int32.ofNat i))] [(.ref a1)])) rfl (by rw [hml]; rfl) (Steps.refl _) (argsL := []) (rest := []) (lenOf pd_15 rfl) rfl (by show 2 * 0 + _ ≤ _; exact Nat.le_of_eq rfl) (hb hby d_jdk_42_method_56_code_1) (fun _ _ => ⟨rfl, e0, (by decide : 0 + 0 ≤ _), (by decide : 0 + 0 ≤ _)⟩)
  dsimp only [Pt.U, Pt.locs, Pt.cells, Pt.slots] at X152 l152 y152 z152 st152 hQ152
  subst l152 y152 z152
  obtain ⟨rfl, N152q, hQ152⟩ := hQ152
  have N152 := Fr.app N0 N152q
  refine Rch.via (T' := T152) (g' := (mkF m 4 #[.val (.ref a1), .val (.int (Int32.ofNat i))] [(.int (1 : Int32))])) st152 ?_
  refine Rch.of (T' := T152) (g' := (mkF m 7 #[.val (.ref a1), .val (.int (Int32.ofNat i))] [])) (fun _ kt => XS.ifNo X152.here hx rfl (hb hby d_jdk_42_method_56_code_4) rfl ((if0 _ _).trans (feq ((by decide) : ¬ ((1 : Int32) = (0 : Int32)))).1) kt) ?_
  refine Rch.of (T' := T152) (g' := (mkF m 8 #[.val (.ref a1), .val (.int (Int32.ofNat i))] [(.ref a1)])) (fun _ kt => XS.aloadN X152.here hx rfl (hb hby d_jdk_42_method_56_code_7) rfl rfl kt) ?_
  obtain ⟨T153, X153, e153, st153⟩ := getF X152 hx hZ hown (host := "") (Or.inl (hw _ (List.mem_of_getElem? (i := 28) rfl))) Via.refl hQ152 F2 (g := (mkF m 8 #[.val (.ref a1), .val (.int (Int32.ofNat i))] [(.ref a1)])) rfl rfl (hb hby d_jdk_42_method_56_code_8)
  refine Rch.of (T' := T153) (g' := (mkF m 11 #[.val (.ref a1), .val (.int (Int32.ofNat i))] [(.ref b1)])) st153 ?_
  refine Rch.of (T' := T153) (g' := (mkF m 12 #[.val (.ref a1), .val (.int (Int32.ofNat i))] [(.int (Int32.ofNat i)), (.ref b1)])) (fun _ kt => XS.iloadN X153.here hx rfl (hb hby d_jdk_42_method_56_code_11) rfl  kt) ?_
  have pr155 : i < n := by omega
  have pr156 : n ≤ 16 := by omega
  obtain ⟨_, _, ⟨T154, L154, k154, n154⟩, -, X154, ⟨Lc154, hQ154, l154, y154, z154⟩, st154⟩ := Jvm.LawKit.callS X153 hx (y := (⟨"java/lang/StringLatin1", "charAt", "([BI)C"⟩ : MethodName)) hown (mvT hZ (hw _ (List.mem_of_getElem? (i := 241) rfl))) (mvT hZ (hw _ (List.mem_of_getElem? (i := 242) rfl))) (mvT hZ (hw _ (List.mem_of_getElem? (i := 39) rfl))) (mvT hZ (hw _ (List.mem_of_getElem? (i := 243) rfl))) (by decide) (backOf (W := 0) (rqC1 l Z a0 hw [] b1 n y i sv h0 n0 Z0 V1 pr155 pr156 hy SI hsv) hZ (hw _ (List.mem_of_getElem? (i := 243) rfl)) (hw _ (List.mem_of_getElem? (i := 39) rfl)) (by decide) (by decide)) (g := (mkF m 12 #[.val (.ref a1), .val (.int (Int32.ofNat i))] [(.int (Int32.ofNat i)), (.ref b1)])) rfl (by rw [hml]; rfl) (argsL := [(.ref b1), (.int (Int32.ofNat i))]) (rest := []) (lenOf pd_33 rfl) rfl (by show 2 * 0 + _ ≤ _; exact Nat.le_of_eq rfl) (hb hby d_jdk_42_method_56_code_12) (fun _ _ => ⟨rfl, e153, (by decide : 0 + 0 ≤ _), (by decide : 0 + 0 ≤ _)⟩)
  dsimp only [Pt.U, Pt.locs, Pt.cells, Pt.slots] at X154 l154 y154 z154 st154 hQ154
  subst l154 y154 z154
  obtain ⟨rfl, N154q, hQ154⟩ := hQ154
  have N154 := Fr.app N152 N154q
  refine Rch.of (T' := T154) (g' := (mkF m 15 #[.val (.ref a1), .val (.int (Int32.ofNat i))] [(.int (y i))])) st154 ?_
  exact Rch.retN X154 hx (t := .char) hret (by simp) hlk (hb hby d_jdk_42_method_56_code_15) (fun U hU hF => hK _ U _ _ _ (by show Q_rqCA Z a1 b1 n y i cs sv h0 n0 _ U.heap _; rw [hU, hQ154]; exact ⟨congrArg (fun q => some (Value.int q)) (own_i2c (hy.at hi)), N154, rfl⟩) hF (by decide) (by decide))
theorem ef_rqMN (m : MethodId) (p1 : Int32) (p2 : Int32) : entryFrame m #[(.int p1), (.int p2)] 2 = mkF m 0 #[.val (.int p1), .val (.int p2)] [] := by first | (simp [entryFrame, mkF, argsToLocals, Value.category]; done) | rfl
def Q_rqMN (Z : State) (p1 : Int32) (p2 : Int32) (h0 : Heap) (n0 : Nat) (vv_ : Option Value) (h : Heap) (LL_ : List Loc) : Prop := vv_ = some (.int p2) ∧ Fr n0 LL_ ∧ (h = h0)
theorem d_jdk_29_method_69_code_0 : decode jdk_29_method_69_code 0 = .ok (.iload_n 0, 1) := by decide +kernel
theorem d_jdk_29_method_69_code_1 : decode jdk_29_method_69_code 1 = .ok (.iload_n 1, 1) := by decide +kernel
theorem d_jdk_29_method_69_code_2 : decode jdk_29_method_69_code 2 = .ok (.if_icmp .gt 7, 3) := by decide +kernel
theorem d_jdk_29_method_69_code_5 : decode jdk_29_method_69_code 5 = .ok (.iload_n 0, 1) := by decide +kernel
theorem d_jdk_29_method_69_code_6 : decode jdk_29_method_69_code 6 = .ok (.goto 4, 3) := by decide +kernel
theorem d_jdk_29_method_69_code_9 : decode jdk_29_method_69_code 9 = .ok (.iload_n 1, 1) := by decide +kernel
theorem d_jdk_29_method_69_code_10 : decode jdk_29_method_69_code 10 = .ok (.ireturn, 1) := by decide +kernel
set_option maxRecDepth 65536 in
set_option maxHeartbeats 40000000 in
theorem rqMN (l : Launch) (Z : State) (a0 : Array Value) (hw : ∀ d ∈ tables_1, d.before a0 Z = true) (ws : List Jvm.Cond) (p1 : Int32) (p2 : Int32) (h0 : Heap) (n0 : Nat) (Z0 : n0 ≤ h0.size) (hle : ¬ p1 < p2) :
    MetFree l (⟨"java/lang/Math", "min", "(II)I"⟩ : MethodName) (head1 (Jvm.Cond.code (⟨"java/lang/Math", "min", "(II)I"⟩ : MethodName) jdk_29_method_69_code 2 (some .int) :: ws) ({ frames := 0, cells := 0, slots := 0, locals := 0 } : Room)) (fun aa_ UU_ => aa_ = #[(.int p1), (.int p2)] ∧ Z.Warmed39 UU_.vm ∧ UU_.heap = h0) (fun _ _ _ _ _ => True) (fun _ UU_ oo_ VV_ => ∃ vv_ LL_, oo_ = .returned vv_ ∧ Q_rqMN Z p1 p2 h0 n0 vv_ VV_.heap LL_ ∧ FrameEnd UU_ oo_ VV_ LL_ ({ frames := 0, cells := 0, slots := 0, locals := 0 } : Room).cells ({ frames := 0, cells := 0, slots := 0, locals := 0 } : Room).slots) := by
  refine own_met (y := (⟨"java/lang/Math", "min", "(II)I"⟩ : MethodName)) (Jvm.Free.JP.mathPlain rfl (by decide +kernel)) ?_
  intro p e s m below meth c T0 K hx hby hml hret hlk hown hnm hZ X0 e0 hK
  have N0 := Fr.nil n0
  refine Rch.cast (ef_rqMN m p1 p2) ?_
  refine Rch.of (T' := T0) (g' := (mkF m 1 #[.val (.int p1), .val (.int p2)] [(.int p1)])) (fun _ kt => XS.iloadN X0.here hx rfl (hb hby d_jdk_29_method_69_code_0) rfl  kt) ?_
  refine Rch.of (T' := T0) (g' := (mkF m 2 #[.val (.int p1), .val (.int p2)] [(.int p2), (.int p1)])) (fun _ kt => XS.iloadN X0.here hx rfl (hb hby d_jdk_29_method_69_code_1) rfl  kt) ?_
  by_cases c157 : p2 < p1
  · skip
    refine Rch.of (T' := T0) (g' := (mkF m 9 #[.val (.int p1), .val (.int p2)] [])) (fun _ kt => XS.icmpYes X0.here hx rfl (pc0 := 2) (pc' := 9) rfl (hb hby d_jdk_29_method_69_code_2) rfl (tlt c157).2.2.1 (by decide) (by decide) kt) ?_
    refine Rch.of (T' := T0) (g' := (mkF m 10 #[.val (.int p1), .val (.int p2)] [(.int p2)])) (fun _ kt => XS.iloadN X0.here hx rfl (hb hby d_jdk_29_method_69_code_9) rfl  kt) ?_
    exact Rch.retI X0 hx hret hlk (hb hby d_jdk_29_method_69_code_10) (fun U hU hF => hK _ U _ _ _ (by show Q_rqMN Z p1 p2 h0 n0 _ U.heap _; rw [hU, e0]; exact ⟨rfl, N0, rfl⟩) hF (by decide) (by decide))
  · skip
    refine Rch.of (T' := T0) (g' := (mkF m 5 #[.val (.int p1), .val (.int p2)] [])) (fun _ kt => XS.icmpNo X0.here hx rfl (hb hby d_jdk_29_method_69_code_2) rfl (flt c157).2.2.1 kt) ?_
    refine Rch.of (T' := T0) (g' := (mkF m 6 #[.val (.int p1), .val (.int p2)] [(.int p1)])) (fun _ kt => XS.iloadN X0.here hx rfl (hb hby d_jdk_29_method_69_code_5) rfl  kt) ?_
    refine Rch.of (T' := T0) (g' := (mkF m 10 #[.val (.int p1), .val (.int p2)] [(.int p1)])) (fun _ kt => XS.goto X0.here hx rfl (pc0 := 6) (pc' := 10) rfl (hb hby d_jdk_29_method_69_code_6) (by decide) (by decide) kt) ?_
    exact Rch.retI X0 hx hret hlk (hb hby d_jdk_29_method_69_code_10) (fun U hU hF => hK _ U _ _ _ (by show Q_rqMN Z p1 p2 h0 n0 _ U.heap _; rw [hU, e0]; exact ⟨congrArg (fun q => some (Value.int q)) (own_antis hle c157), N0, rfl⟩) hF (by decide) (by decide))
theorem pn_4 : plainName "java/util/Arrays" = true := by first | (simp [plainName, overriddenIn]; done) | decide +kernel
theorem ef_rqCL (m : MethodId)  : entryFrame m #[(.int (Int32.ofNat i)), (.int (Int32.ofNat j))] 2 = mkF m 0 #[.val (.int (Int32.ofNat i)), .val (.int (Int32.ofNat j))] [] := by first | (simp [entryFrame, mkF, argsToLocals, Value.category]; done) | rfl
def Q_rqCL (Z : State) (i : Nat) (j : Nat) (h0 : Heap) (n0 : Nat) (vv_ : Option Value) (h : Heap) (LL_ : List Loc) : Prop := vv_ = none ∧ Fr n0 LL_ ∧ (h = h0)
theorem d_jdk_65_method_131_code_0 : decode jdk_65_method_131_code 0 = .ok (.iload_n 1, 1) := by decide +kernel
theorem d_jdk_65_method_131_code_1 : decode jdk_65_method_131_code 1 = .ok (.iload_n 0, 1) := by decide +kernel
theorem d_jdk_65_method_131_code_2 : decode jdk_65_method_131_code 2 = .ok (.if_icmp .ge 35, 3) := by decide +kernel
theorem d_jdk_65_method_131_code_37 : decode jdk_65_method_131_code 37 = .ok (.return_, 1) := by decide +kernel
set_option maxRecDepth 65536 in
set_option maxHeartbeats 40000000 in
theorem rqCL (l : Launch) (Z : State) (a0 : Array Value) (hw : ∀ d ∈ tables_1, d.before a0 Z = true) (ws : List Jvm.Cond) (i : Nat) (j : Nat) (h0 : Heap) (n0 : Nat) (Z0 : n0 ≤ h0.size) (hij : i ≤ j) (hj : j ≤ 16) :
    MetFree l (⟨"java/util/Arrays", "checkLength", "(II)V"⟩ : MethodName) (head1 (Jvm.Cond.code (⟨"java/util/Arrays", "checkLength", "(II)V"⟩ : MethodName) jdk_65_method_131_code 2 none :: ws) ({ frames := 0, cells := 0, slots := 0, locals := 0 } : Room)) (fun aa_ UU_ => aa_ = #[(.int (Int32.ofNat i)), (.int (Int32.ofNat j))] ∧ Z.Warmed39 UU_.vm ∧ UU_.heap = h0) (fun _ _ _ _ _ => True) (fun _ UU_ oo_ VV_ => ∃ vv_ LL_, oo_ = .returned vv_ ∧ Q_rqCL Z i j h0 n0 vv_ VV_.heap LL_ ∧ FrameEnd UU_ oo_ VV_ LL_ ({ frames := 0, cells := 0, slots := 0, locals := 0 } : Room).cells ({ frames := 0, cells := 0, slots := 0, locals := 0 } : Room).slots) := by
  refine own_met (y := (⟨"java/util/Arrays", "checkLength", "(II)V"⟩ : MethodName)) (plainFor_of_name pn_4) ?_
  intro p e s m below meth c T0 K hx hby hml hret hlk hown hnm hZ X0 e0 hK
  have N0 := Fr.nil n0
  refine Rch.cast (ef_rqCL m ) ?_
  have kn158 : ¬ ((Int32.ofNat j) < (Int32.ofNat i)) := own_nlt hij (by omega)
  refine Rch.of (T' := T0) (g' := (mkF m 1 #[.val (.int (Int32.ofNat i)), .val (.int (Int32.ofNat j))] [(.int (Int32.ofNat j))])) (fun _ kt => XS.iloadN X0.here hx rfl (hb hby d_jdk_65_method_131_code_0) rfl  kt) ?_
  refine Rch.of (T' := T0) (g' := (mkF m 2 #[.val (.int (Int32.ofNat i)), .val (.int (Int32.ofNat j))] [(.int (Int32.ofNat i)), (.int (Int32.ofNat j))])) (fun _ kt => XS.iloadN X0.here hx rfl (hb hby d_jdk_65_method_131_code_1) rfl  kt) ?_
  refine Rch.of (T' := T0) (g' := (mkF m 37 #[.val (.int (Int32.ofNat i)), .val (.int (Int32.ofNat j))] [])) (fun _ kt => XS.icmpYes X0.here hx rfl (pc0 := 2) (pc' := 37) rfl (hb hby d_jdk_65_method_131_code_2) rfl (flt kn158).2.1 (by decide) (by decide) kt) ?_
  exact Rch.retV X0 hx hret hlk (hb hby d_jdk_65_method_131_code_37) (fun U hU hF => hK _ U _ _ _ (by show Q_rqCL Z i j h0 n0 _ U.heap _; rw [hU, e0]; exact ⟨rfl, N0, rfl⟩) hF (by decide) (by decide))
theorem ef_rqCB (m : MethodId) (b1 : Addr) : entryFrame m #[(.ref b1), (.int (Int32.ofNat i)), (.int (Int32.ofNat j))] 5 = mkF m 0 #[.val (.ref b1), .val (.int (Int32.ofNat i)), .val (.int (Int32.ofNat j)), .unset, .unset] [] := by first | (simp [entryFrame, mkF, argsToLocals, Value.category]; done) | rfl
def Q_rqCB (Z : State) (b1 : Addr) (n : Nat) (y : Nat → Int32) (i : Nat) (j : Nat) (h0 : Heap) (n0 : Nat) (vv_ : Option Value) (h : Heap) (LL_ : List Loc) : Prop := vv_ = some (.ref h0.size) ∧ Fr n0 LL_ ∧ (Keep h0 h [] ∧ Av Z h h0.size .byte (j - i) (fun q => .int ((y (i + q)).toInt8.toInt32)))
theorem d_jdk_65_method_133_code_0 : decode jdk_65_method_133_code 0 = .ok (.iload_n 1, 1) := by decide +kernel
theorem d_jdk_65_method_133_code_1 : decode jdk_65_method_133_code 1 = .ok (.iload_n 2, 1) := by decide +kernel
theorem d_jdk_65_method_133_code_2 : decode jdk_65_method_133_code 2 = .ok (.invokestatic 343, 3) := by decide +kernel
theorem d_jdk_65_method_133_code_5 : decode jdk_65_method_133_code 5 = .ok (.iload_n 2, 1) := by decide +kernel
theorem d_jdk_65_method_133_code_6 : decode jdk_65_method_133_code 6 = .ok (.iload_n 1, 1) := by decide +kernel
theorem d_jdk_65_method_133_code_7 : decode jdk_65_method_133_code 7 = .ok (.isub, 1) := by decide +kernel
theorem d_jdk_65_method_133_code_8 : decode jdk_65_method_133_code 8 = .ok (.istore_n 3, 1) := by decide +kernel
theorem d_jdk_65_method_133_code_9 : decode jdk_65_method_133_code 9 = .ok (.iload_n 3, 1) := by decide +kernel
theorem d_jdk_65_method_133_code_10 : decode jdk_65_method_133_code 10 = .ok (.newarray .byte, 2) := by decide +kernel
theorem d_jdk_65_method_133_code_12 : decode jdk_65_method_133_code 12 = .ok (.astore 4, 2) := by decide +kernel
theorem d_jdk_65_method_133_code_14 : decode jdk_65_method_133_code 14 = .ok (.aload_n 0, 1) := by decide +kernel
theorem d_jdk_65_method_133_code_15 : decode jdk_65_method_133_code 15 = .ok (.iload_n 1, 1) := by decide +kernel
theorem d_jdk_65_method_133_code_16 : decode jdk_65_method_133_code 16 = .ok (.aload 4, 2) := by decide +kernel
theorem d_jdk_65_method_133_code_18 : decode jdk_65_method_133_code 18 = .ok (.iconst 0, 1) := by decide +kernel
theorem d_jdk_65_method_133_code_19 : decode jdk_65_method_133_code 19 = .ok (.aload_n 0, 1) := by decide +kernel
theorem d_jdk_65_method_133_code_20 : decode jdk_65_method_133_code 20 = .ok (.arraylength, 1) := by decide +kernel
theorem d_jdk_65_method_133_code_21 : decode jdk_65_method_133_code 21 = .ok (.iload_n 1, 1) := by decide +kernel
theorem d_jdk_65_method_133_code_22 : decode jdk_65_method_133_code 22 = .ok (.isub, 1) := by decide +kernel
theorem d_jdk_65_method_133_code_23 : decode jdk_65_method_133_code 23 = .ok (.iload_n 3, 1) := by decide +kernel
theorem d_jdk_65_method_133_code_24 : decode jdk_65_method_133_code 24 = .ok (.invokestatic 304, 3) := by decide +kernel
theorem d_jdk_65_method_133_code_27 : decode jdk_65_method_133_code 27 = .ok (.invokestatic 150, 3) := by decide +kernel
theorem d_jdk_65_method_133_code_30 : decode jdk_65_method_133_code 30 = .ok (.aload 4, 2) := by decide +kernel
theorem d_jdk_65_method_133_code_32 : decode jdk_65_method_133_code 32 = .ok (.areturn, 1) := by decide +kernel
set_option maxRecDepth 65536 in
set_option maxHeartbeats 40000000 in
theorem rqCB (l : Launch) (Z : State) (a0 : Array Value) (hw : ∀ d ∈ tables_1, d.before a0 Z = true) (ws : List Jvm.Cond) (b1 : Addr) (n : Nat) (y : Nat → Int32) (i : Nat) (j : Nat) (h0 : Heap) (n0 : Nat) (Z0 : n0 ≤ h0.size) (V1 : Av Z h0 b1 .byte n (fun q => .int ((y q).toInt8.toInt32))) (hij : i ≤ j) (hjn : j ≤ n) (hn : n ≤ 16) :
    MetFree l (⟨"java/util/Arrays", "copyOfRangeByte", "([BII)[B"⟩ : MethodName) (head1 (Jvm.Cond.code (⟨"java/util/Arrays", "copyOfRangeByte", "([BII)[B"⟩ : MethodName) jdk_65_method_133_code 5 (some (.array .byte)) :: ws) ({ frames := 1, cells := 1, slots := 16, locals := 18 } : Room)) (fun aa_ UU_ => aa_ = #[(.ref b1), (.int (Int32.ofNat i)), (.int (Int32.ofNat j))] ∧ Z.Warmed39 UU_.vm ∧ UU_.heap = h0) (fun _ _ _ _ _ => True) (fun _ UU_ oo_ VV_ => ∃ vv_ LL_, oo_ = .returned vv_ ∧ Q_rqCB Z b1 n y i j h0 n0 vv_ VV_.heap LL_ ∧ FrameEnd UU_ oo_ VV_ LL_ ({ frames := 1, cells := 1, slots := 16, locals := 18 } : Room).cells ({ frames := 1, cells := 1, slots := 16, locals := 18 } : Room).slots) := by
  refine own_met (y := (⟨"java/util/Arrays", "copyOfRangeByte", "([BII)[B"⟩ : MethodName)) (plainFor_of_name pn_4) ?_
  intro p e s m below meth c T0 K hx hby hml hret hlk hown hnm hZ X0 e0 hK
  have N0 := Fr.nil n0
  refine Rch.cast (ef_rqCB m b1) ?_
  refine Rch.of (T' := T0) (g' := (mkF m 1 #[.val (.ref b1), .val (.int (Int32.ofNat i)), .val (.int (Int32.ofNat j)), .unset, .unset] [(.int (Int32.ofNat i))])) (fun _ kt => XS.iloadN X0.here hx rfl (hb hby d_jdk_65_method_133_code_0) rfl  kt) ?_
  refine Rch.of (T' := T0) (g' := (mkF m 2 #[.val (.ref b1), .val (.int (Int32.ofNat i)), .val (.int (Int32.ofNat j)), .unset, .unset] [(.int (Int32.ofNat j)), (.int (Int32.ofNat i))])) (fun _ kt => XS.iloadN X0.here hx rfl (hb hby d_jdk_65_method_133_code_1) rfl  kt) ?_
  have pr160 : i ≤ j := by omega
  have pr161 : j ≤ 16 := by omega
  obtain ⟨_, _, ⟨T159, L159, k159, n159⟩, -, X159, ⟨Lc159, hQ159, l159, y159, z159⟩, st159⟩ := Jvm.LawKit.callS X0 hx (y := (⟨"java/util/Arrays", "checkLength", "(II)V"⟩ : MethodName)) hown (mvT hZ (hw _ (List.mem_of_getElem? (i := 221) rfl))) (mvT hZ (hw _ (List.mem_of_getElem? (i := 222) rfl))) (mvT hZ (hw _ (List.mem_of_getElem? (i := 216) rfl))) (mvT hZ (hw _ (List.mem_of_getElem? (i := 223) rfl))) (by decide) (backOf (W := 0) (rqCL l Z a0 hw [] i j h0 n0 Z0 pr160 pr161) hZ (hw _ (List.mem_of_getElem? (i := 223) rfl)) (hw _ (List.mem_of_getElem? (i := 216) rfl)) (by decide) (by decide)) (g := (mkF m 2 #[.val (.ref b1), .val (.int (Int32.ofNat i)), .val (.int (Int32.ofNat j)), .unset, .unset] [(.int (Int32.ofNat j)), (.int (Int32.ofNat i))])) rfl (by rw [hml]; rfl) (argsL := [(.int (Int32.ofNat i)), (.int (Int32.ofNat j))]) (rest := []) (lenOf pd_30 rfl) rfl (by show 2 * 0 + _ ≤ _; exact Nat.le_of_eq rfl) (hb hby d_jdk_65_method_133_code_2) (fun _ _ => ⟨rfl, e0, (by decide : 0 + 0 ≤ _), (by decide : 0 + 0 ≤ _)⟩)
  dsimp only [Pt.U, Pt.locs, Pt.cells, Pt.slots] at X159 l159 y159 z159 st159 hQ159
  subst l159 y159 z159
  obtain ⟨rfl, N159q, hQ159⟩ := hQ159
  have N159 := Fr.app N0 N159q
  refine Rch.of (T' := T159) (g' := (mkF m 5 #[.val (.ref b1), .val (.int (Int32.ofNat i)), .val (.int (Int32.ofNat j)), .unset, .unset] [])) st159 ?_
  refine Rch.of (T' := T159) (g' := (mkF m 6 #[.val (.ref b1), .val (.int (Int32.ofNat i)), .val (.int (Int32.ofNat j)), .unset, .unset] [(.int (Int32.ofNat j))])) (fun _ kt => XS.iloadN X159.here hx rfl (hb hby d_jdk_65_method_133_code_5) rfl  kt) ?_
  refine Rch.of (T' := T159) (g' := (mkF m 7 #[.val (.ref b1), .val (.int (Int32.ofNat i)), .val (.int (Int32.ofNat j)), .unset, .unset] [(.int (Int32.ofNat i)), (.int (Int32.ofNat j))])) (fun _ kt => XS.iloadN X159.here hx rfl (hb hby d_jdk_65_method_133_code_6) rfl  kt) ?_
  refine Rch.of (T' := T159) (g' := (mkF m 8 #[.val (.ref b1), .val (.int (Int32.ofNat i)), .val (.int (Int32.ofNat j)), .unset, .unset] [(.int ((Int32.ofNat j) - (Int32.ofNat i)))])) (fun _ kt => XS.isub X159.here hx rfl (hb hby d_jdk_65_method_133_code_7) rfl kt) ?_
  have sw162 : ((Int32.ofNat j) - (Int32.ofNat i)) = (Int32.ofNat (j - i)) := own_subN hij
  rw [sw162]
  show Rch p e below K T159 (mkF m 8 #[.val (.ref b1), .val (.int (Int32.ofNat i)), .val (.int (Int32.ofNat j)), .unset, .unset] [(.int (Int32.ofNat (j - i)))])
  have tl : (Int32.ofNat (j - i)).toInt = ((j - i : Nat) : Int) := oTo (by omega)
  refine Rch.of (T' := T159) (g' := (mkF m 9 #[.val (.ref b1), .val (.int (Int32.ofNat i)), .val (.int (Int32.ofNat j)), .val (.int (Int32.ofNat (j - i))), .unset] [])) (fun _ kt => XS.istoreN X159.here hx rfl (hb hby d_jdk_65_method_133_code_8) rfl (l' := #[.val (.ref b1), .val (.int (Int32.ofNat i)), .val (.int (Int32.ofNat j)), .val (.int (Int32.ofNat (j - i))), .unset]) rfl kt) ?_
  refine Rch.of (T' := T159) (g' := (mkF m 10 #[.val (.ref b1), .val (.int (Int32.ofNat i)), .val (.int (Int32.ofNat j)), .val (.int (Int32.ofNat (j - i))), .unset] [(.int (Int32.ofNat (j - i)))])) (fun _ kt => XS.iloadN X159.here hx rfl (hb hby d_jdk_65_method_133_code_9) rfl  kt) ?_
  obtain ⟨T163, h163, k163, X163, e163, E163, A163, Q163, st163⟩ := newPE X159 hx hZ (hw _ (List.mem_of_getElem? (i := 19) rfl)) hQ159 (g := (mkF m 10 #[.val (.ref b1), .val (.int (Int32.ofNat i)), .val (.int (Int32.ofNat j)), .val (.int (Int32.ofNat (j - i))), .unset] [(.int (Int32.ofNat (j - i)))])) rfl (hb hby d_jdk_65_method_133_code_10) rfl (oNn tl) (cap := 16) (by rw [oNat tl]; omega) (by decide) (by decide) (by decide) (ad := "[B") rfl
  obtain ⟨b163, g163⟩ : ∃ zz_, zz_ = h0.size := ⟨_, rfl⟩
  have ne_b1_b163 : b1 ≠ b163 := Nat.ne_of_lt (Nat.lt_of_lt_of_le V1.lt (Nat.le_of_eq g163.symm))
  have ge_b163 : n0 ≤ b163 := Nat.le_trans Z0 (Nat.le_of_eq g163.symm)
  have sz_b163 : h0.size ≤ b163 := Nat.le_trans (Keep.refl h0 []).1 (Nat.le_of_eq g163.symm)
  rw [← g163] at A163 Q163 st163
  have V163 : Av Z h163 b163 .byte (j - i) (fun _ => (.int (0 : Int32))) := Av.new A163 tl
  refine Rch.of (T' := T163) (g' := (mkF m 12 #[.val (.ref b1), .val (.int (Int32.ofNat i)), .val (.int (Int32.ofNat j)), .val (.int (Int32.ofNat (j - i))), .unset] [(.ref b163)])) st163 ?_
  refine Rch.of (T' := T163) (g' := (mkF m 14 #[.val (.ref b1), .val (.int (Int32.ofNat i)), .val (.int (Int32.ofNat j)), .val (.int (Int32.ofNat (j - i))), .val (.ref b163)] [])) (fun _ kt => XS.astore X163.here hx rfl (hb hby d_jdk_65_method_133_code_12) rfl rfl (l' := #[.val (.ref b1), .val (.int (Int32.ofNat i)), .val (.int (Int32.ofNat j)), .val (.int (Int32.ofNat (j - i))), .val (.ref b163)]) rfl kt) ?_
  refine Rch.of (T' := T163) (g' := (mkF m 15 #[.val (.ref b1), .val (.int (Int32.ofNat i)), .val (.int (Int32.ofNat j)), .val (.int (Int32.ofNat (j - i))), .val (.ref b163)] [(.ref b1)])) (fun _ kt => XS.aloadN X163.here hx rfl (hb hby d_jdk_65_method_133_code_14) rfl rfl kt) ?_
  refine Rch.of (T' := T163) (g' := (mkF m 16 #[.val (.ref b1), .val (.int (Int32.ofNat i)), .val (.int (Int32.ofNat j)), .val (.int (Int32.ofNat (j - i))), .val (.ref b163)] [(.int (Int32.ofNat i)), (.ref b1)])) (fun _ kt => XS.iloadN X163.here hx rfl (hb hby d_jdk_65_method_133_code_15) rfl  kt) ?_
  refine Rch.of (T' := T163) (g' := (mkF m 18 #[.val (.ref b1), .val (.int (Int32.ofNat i)), .val (.int (Int32.ofNat j)), .val (.int (Int32.ofNat (j - i))), .val (.ref b163)] [(.ref b163), (.int (Int32.ofNat i)), (.ref b1)])) (fun _ kt => XS.aload X163.here hx rfl (hb hby d_jdk_65_method_133_code_16) rfl rfl kt) ?_
  refine Rch.of (T' := T163) (g' := (mkF m 19 #[.val (.ref b1), .val (.int (Int32.ofNat i)), .val (.int (Int32.ofNat j)), .val (.int (Int32.ofNat (j - i))), .val (.ref b163)] [(.int (0 : Int32)), (.ref b163), (.int (Int32.ofNat i)), (.ref b1)])) (fun _ kt => XS.iconst X163.here hx rfl (hb hby d_jdk_65_method_133_code_18) kt) ?_
  refine Rch.of (T' := T163) (g' := (mkF m 20 #[.val (.ref b1), .val (.int (Int32.ofNat i)), .val (.int (Int32.ofNat j)), .val (.int (Int32.ofNat (j - i))), .val (.ref b163)] [(.ref b1), (.int (0 : Int32)), (.ref b163), (.int (Int32.ofNat i)), (.ref b1)])) (fun _ kt => XS.aloadN X163.here hx rfl (hb hby d_jdk_65_method_133_code_19) rfl rfl kt) ?_
  obtain ⟨cl164, Ar164, Sz164, Ha164⟩ := id (V1.ext E163)
  refine Rch.of (T' := T163) (g' := (mkF m 21 #[.val (.ref b1), .val (.int (Int32.ofNat i)), .val (.int (Int32.ofNat j)), .val (.int (Int32.ofNat (j - i))), .val (.ref b163)] [(.int cl164.slots.size.toInt32), (.int (0 : Int32)), (.ref b163), (.int (Int32.ofNat i)), (.ref b1)])) (X163.arraylength hx (by rw [e163]; exact Ar164.1) (State.isArrayOf_alike hZ.alike Ar164.2.1) (g := (mkF m 20 #[.val (.ref b1), .val (.int (Int32.ofNat i)), .val (.int (Int32.ofNat j)), .val (.int (Int32.ofNat (j - i))), .val (.ref b163)] [(.ref b1), (.int (0 : Int32)), (.ref b163), (.int (Int32.ofNat i)), (.ref b1)])) rfl rfl (hb hby d_jdk_65_method_133_code_20)) ?_
  rw [oLen Sz164]
  show Rch p e below K T163 (mkF m 21 #[.val (.ref b1), .val (.int (Int32.ofNat i)), .val (.int (Int32.ofNat j)), .val (.int (Int32.ofNat (j - i))), .val (.ref b163)] [(.int (Int32.ofNat n)), (.int (0 : Int32)), (.ref b163), (.int (Int32.ofNat i)), (.ref b1)])
  refine Rch.of (T' := T163) (g' := (mkF m 22 #[.val (.ref b1), .val (.int (Int32.ofNat i)), .val (.int (Int32.ofNat j)), .val (.int (Int32.ofNat (j - i))), .val (.ref b163)] [(.int (Int32.ofNat i)), (.int (Int32.ofNat n)), (.int (0 : Int32)), (.ref b163), (.int (Int32.ofNat i)), (.ref b1)])) (fun _ kt => XS.iloadN X163.here hx rfl (hb hby d_jdk_65_method_133_code_21) rfl  kt) ?_
  refine Rch.of (T' := T163) (g' := (mkF m 23 #[.val (.ref b1), .val (.int (Int32.ofNat i)), .val (.int (Int32.ofNat j)), .val (.int (Int32.ofNat (j - i))), .val (.ref b163)] [(.int ((Int32.ofNat n) - (Int32.ofNat i))), (.int (0 : Int32)), (.ref b163), (.int (Int32.ofNat i)), (.ref b1)])) (fun _ kt => XS.isub X163.here hx rfl (hb hby d_jdk_65_method_133_code_22) rfl kt) ?_
  have hin : i ≤ n := by omega
  have sw165 : ((Int32.ofNat n) - (Int32.ofNat i)) = (Int32.ofNat (n - i)) := own_subN hin
  rw [sw165]
  show Rch p e below K T163 (mkF m 23 #[.val (.ref b1), .val (.int (Int32.ofNat i)), .val (.int (Int32.ofNat j)), .val (.int (Int32.ofNat (j - i))), .val (.ref b163)] [(.int (Int32.ofNat (n - i))), (.int (0 : Int32)), (.ref b163), (.int (Int32.ofNat i)), (.ref b1)])
  have hmn : ¬ (Int32.ofNat (n - i)) < (Int32.ofNat (j - i)) := own_nlt (by omega) (by omega)
  refine Rch.of (T' := T163) (g' := (mkF m 24 #[.val (.ref b1), .val (.int (Int32.ofNat i)), .val (.int (Int32.ofNat j)), .val (.int (Int32.ofNat (j - i))), .val (.ref b163)] [(.int (Int32.ofNat (j - i))), (.int (Int32.ofNat (n - i))), (.int (0 : Int32)), (.ref b163), (.int (Int32.ofNat i)), (.ref b1)])) (fun _ kt => XS.iloadN X163.here hx rfl (hb hby d_jdk_65_method_133_code_23) rfl  kt) ?_
  obtain ⟨_, _, ⟨T166, L166, k166, n166⟩, -, X166, ⟨Lc166, hQ166, l166, y166, z166⟩, st166⟩ := Jvm.LawKit.callS X163 hx (y := (⟨"java/lang/Math", "min", "(II)I"⟩ : MethodName)) hown (mvT hZ (hw _ (List.mem_of_getElem? (i := 224) rfl))) (mvT hZ (hw _ (List.mem_of_getElem? (i := 225) rfl))) (mvT hZ (hw _ (List.mem_of_getElem? (i := 226) rfl))) (mvT hZ (hw _ (List.mem_of_getElem? (i := 227) rfl))) (by decide) (backOf (W := 4) (rqMN l Z a0 hw [] (Int32.ofNat (n - i)) (Int32.ofNat (j - i)) h163 n0 (Nat.le_trans Z0 E163.1) hmn) hZ (hw _ (List.mem_of_getElem? (i := 227) rfl)) (hw _ (List.mem_of_getElem? (i := 226) rfl)) (by decide) (by decide)) (g := (mkF m 24 #[.val (.ref b1), .val (.int (Int32.ofNat i)), .val (.int (Int32.ofNat j)), .val (.int (Int32.ofNat (j - i))), .val (.ref b163)] [(.int (Int32.ofNat (j - i))), (.int (Int32.ofNat (n - i))), (.int (0 : Int32)), (.ref b163), (.int (Int32.ofNat i)), (.ref b1)])) rfl (by rw [hml]; rfl) (argsL := [(.int (Int32.ofNat (n - i))), (.int (Int32.ofNat (j - i)))]) (rest := [(.int (0 : Int32)), (.ref b163), (.int (Int32.ofNat i)), (.ref b1)]) (lenOf pd_31 rfl) rfl (by show 2 * 0 + _ ≤ _; exact Nat.le_of_eq rfl) (hb hby d_jdk_65_method_133_code_24) (fun _ _ => ⟨rfl, e163, (by decide : 1 + 0 ≤ _), (by decide : 16 + 0 ≤ _)⟩)
  dsimp only [Pt.U, Pt.locs, Pt.cells, Pt.slots] at X166 l166 y166 z166 st166 hQ166
  subst l166 y166 z166
  obtain ⟨rfl, N166q, hQ166⟩ := hQ166
  have N166 := Fr.app N159 N166q
  refine Rch.of (T' := T166) (g' := (mkF m 27 #[.val (.ref b1), .val (.int (Int32.ofNat i)), .val (.int (Int32.ofNat j)), .val (.int (Int32.ofNat (j - i))), .val (.ref b163)] [(.int (Int32.ofNat (j - i))), (.int (0 : Int32)), (.ref b163), (.int (Int32.ofNat i)), (.ref b1)])) st166 ?_
  have to168 : (Int32.ofNat i).toInt = ((i : Nat) : Int) := oTo (by omega)
  have to169 : (Int32.ofNat (j - i)).toInt = (((j - i) : Nat) : Int) := oTo (by omega)
  have hc4_167 : i + (j - i) ≤ n := by omega
  have hc5_167 : 0 + (j - i) ≤ (j - i) := by omega
  have hn1_167 : n < 2 ^ 31 := by omega
  have hn2_167 : (j - i) < 2 ^ 31 := by omega
  obtain ⟨T167, h167, L167, X167, e167, N167, K167, V167, st167⟩ := own_cpI X166 hx hZ hown (hw _ (List.mem_of_getElem? (i := 228) rfl)) (hw _ (List.mem_of_getElem? (i := 181) rfl)) (hw _ (List.mem_of_getElem? (i := 179) rfl)) (hw _ (List.mem_of_getElem? (i := 180) rfl)) hQ166 (y := (fun q => (y q).toInt8.toInt32)) (y' := (fun _ => (0 : Int32))) (i := i) (j := 0) (k := (j - i)) (V1.ext E163) V163 (by decide) hn1_167 hn2_167 (fun q _ => fits_nar_byte _) (fun q _ => rfl) to168 (by decide) to169 hc4_167 hc5_167 N166 ge_b163 (g := (mkF m 27 #[.val (.ref b1), .val (.int (Int32.ofNat i)), .val (.int (Int32.ofNat j)), .val (.int (Int32.ofNat (j - i))), .val (.ref b163)] [(.int (Int32.ofNat (j - i))), (.int (0 : Int32)), (.ref b163), (.int (Int32.ofNat i)), (.ref b1)])) rfl (by rw [hml]; rfl) rfl (hb hby d_jdk_65_method_133_code_27) (by decide) (W := 0) (by show 2 * 0 + _ ≤ _; exact Nat.le_of_eq rfl) (by decide)
  obtain ⟨y167, hy167⟩ : ∃ zz_ : Nat → Int32, zz_ = fun q => if 0 ≤ q ∧ q < 0 + (j - i) then (fun q => (y q).toInt8.toInt32) (i + (q - 0)) else (fun _ => (0 : Int32)) q := ⟨_, rfl⟩
  have V167 : Av Z h167 b163 .byte (j - i) (fun q => .int (y167 q)) := by rw [hy167]; exact V167
  refine Rch.of (T' := T167) (g' := (mkF m 30 #[.val (.ref b1), .val (.int (Int32.ofNat i)), .val (.int (Int32.ofNat j)), .val (.int (Int32.ofNat (j - i))), .val (.ref b163)] [])) st167 ?_
  refine Rch.of (T' := T167) (g' := (mkF m 32 #[.val (.ref b1), .val (.int (Int32.ofNat i)), .val (.int (Int32.ofNat j)), .val (.int (Int32.ofNat (j - i))), .val (.ref b163)] [(.ref b163)])) (fun _ kt => XS.aload X167.here hx rfl (hb hby d_jdk_65_method_133_code_30) rfl rfl kt) ?_
  exact Rch.retA X167 hx (w := (.ref b163)) hret rfl rfl hlk (hb hby d_jdk_65_method_133_code_32) (fun U hU hF => hK _ U _ _ _ (by show Q_rqCB Z b1 n y i j h0 n0 _ U.heap _; rw [hU, e167]; exact ⟨by rw [g163], N167, by rw [← g163]; exact ⟨(((Keep.refl h0 []).ext E163).trans K167 (allS (Or.inr sz_b163) all0)), Av.congr V167 (fun q hq => by rw [hy167]; simp [hq])⟩⟩) hF (by decide) (by decide))
theorem ef_rqCR (m : MethodId) (b1 : Addr) : entryFrame m #[(.ref b1), (.int (Int32.ofNat i)), (.int (Int32.ofNat j))] 3 = mkF m 0 #[.val (.ref b1), .val (.int (Int32.ofNat i)), .val (.int (Int32.ofNat j))] [] := by first | (simp [entryFrame, mkF, argsToLocals, Value.category]; done) | rfl
def Q_rqCR (Z : State) (b1 : Addr) (n : Nat) (y : Nat → Int32) (i : Nat) (j : Nat) (h0 : Heap) (n0 : Nat) (vv_ : Option Value) (h : Heap) (LL_ : List Loc) : Prop := vv_ = some (.ref h0.size) ∧ Fr n0 LL_ ∧ (Keep h0 h [] ∧ Av Z h h0.size .byte (j - i) (fun q => .int ((y (i + q)).toInt8.toInt32)))
theorem d_jdk_65_method_132_code_0 : decode jdk_65_method_132_code 0 = .ok (.iload_n 1, 1) := by decide +kernel
theorem d_jdk_65_method_132_code_1 : decode jdk_65_method_132_code 1 = .ok (.ifCond .ne 9, 3) := by decide +kernel
theorem d_jdk_65_method_132_code_4 : decode jdk_65_method_132_code 4 = .ok (.iload_n 2, 1) := by decide +kernel
theorem d_jdk_65_method_132_code_5 : decode jdk_65_method_132_code 5 = .ok (.aload_n 0, 1) := by decide +kernel
theorem d_jdk_65_method_132_code_6 : decode jdk_65_method_132_code 6 = .ok (.arraylength, 1) := by decide +kernel
theorem d_jdk_65_method_132_code_7 : decode jdk_65_method_132_code 7 = .ok (.if_icmp .eq 10, 3) := by decide +kernel
theorem d_jdk_65_method_132_code_10 : decode jdk_65_method_132_code 10 = .ok (.aload_n 0, 1) := by decide +kernel
theorem d_jdk_65_method_132_code_11 : decode jdk_65_method_132_code 11 = .ok (.iload_n 1, 1) := by decide +kernel
theorem d_jdk_65_method_132_code_12 : decode jdk_65_method_132_code 12 = .ok (.iload_n 2, 1) := by decide +kernel
theorem d_jdk_65_method_132_code_13 : decode jdk_65_method_132_code 13 = .ok (.invokestatic 339, 3) := by decide +kernel
theorem d_jdk_65_method_132_code_16 : decode jdk_65_method_132_code 16 = .ok (.areturn, 1) := by decide +kernel
set_option maxRecDepth 65536 in
set_option maxHeartbeats 40000000 in
theorem rqCR (l : Launch) (Z : State) (a0 : Array Value) (hw : ∀ d ∈ tables_1, d.before a0 Z = true) (ws : List Jvm.Cond) (b1 : Addr) (n : Nat) (y : Nat → Int32) (i : Nat) (j : Nat) (h0 : Heap) (n0 : Nat) (Z0 : n0 ≤ h0.size) (V1 : Av Z h0 b1 .byte n (fun q => .int ((y q).toInt8.toInt32))) (hij : i ≤ j) (hjn : j ≤ n) (hn : n ≤ 16) (hni : ¬ (i = 0 ∧ j = n)) :
    MetFree l (⟨"java/util/Arrays", "copyOfRange", "([BII)[B"⟩ : MethodName) (head1 (Jvm.Cond.code (⟨"java/util/Arrays", "copyOfRange", "([BII)[B"⟩ : MethodName) jdk_65_method_132_code 3 (some (.array .byte)) :: ws) ({ frames := 2, cells := 1, slots := 16, locals := 34 } : Room)) (fun aa_ UU_ => aa_ = #[(.ref b1), (.int (Int32.ofNat i)), (.int (Int32.ofNat j))] ∧ Z.Warmed39 UU_.vm ∧ UU_.heap = h0) (fun _ _ _ _ _ => True) (fun _ UU_ oo_ VV_ => ∃ vv_ LL_, oo_ = .returned vv_ ∧ Q_rqCR Z b1 n y i j h0 n0 vv_ VV_.heap LL_ ∧ FrameEnd UU_ oo_ VV_ LL_ ({ frames := 2, cells := 1, slots := 16, locals := 34 } : Room).cells ({ frames := 2, cells := 1, slots := 16, locals := 34 } : Room).slots) := by
  refine own_met (y := (⟨"java/util/Arrays", "copyOfRange", "([BII)[B"⟩ : MethodName)) (plainFor_of_name pn_4) ?_
  intro p e s m below meth c T0 K hx hby hml hret hlk hown hnm hZ X0 e0 hK
  have N0 := Fr.nil n0
  refine Rch.cast (ef_rqCR m b1) ?_
  refine Rch.of (T' := T0) (g' := (mkF m 1 #[.val (.ref b1), .val (.int (Int32.ofNat i)), .val (.int (Int32.ofNat j))] [(.int (Int32.ofNat i))])) (fun _ kt => XS.iloadN X0.here hx rfl (hb hby d_jdk_65_method_132_code_0) rfl  kt) ?_
  by_cases c170 : (Int32.ofNat i) = (0 : Int32)
  · skip
    refine Rch.of (T' := T0) (g' := (mkF m 4 #[.val (.ref b1), .val (.int (Int32.ofNat i)), .val (.int (Int32.ofNat j))] [])) (fun _ kt => XS.ifNo X0.here hx rfl (hb hby d_jdk_65_method_132_code_1) rfl ((if0 _ _).trans (teq c170).2) kt) ?_
    have hi0 : i = 0 := (own_neN (j := 0) (by omega) (by decide)).mp c170
    have kn171 : ¬ ((Int32.ofNat j) = (Int32.ofNat n)) := fun q => hni ⟨hi0, (own_neN (by omega) (by omega)).mp q⟩
    refine Rch.of (T' := T0) (g' := (mkF m 5 #[.val (.ref b1), .val (.int (Int32.ofNat i)), .val (.int (Int32.ofNat j))] [(.int (Int32.ofNat j))])) (fun _ kt => XS.iloadN X0.here hx rfl (hb hby d_jdk_65_method_132_code_4) rfl  kt) ?_
    refine Rch.of (T' := T0) (g' := (mkF m 6 #[.val (.ref b1), .val (.int (Int32.ofNat i)), .val (.int (Int32.ofNat j))] [(.ref b1), (.int (Int32.ofNat j))])) (fun _ kt => XS.aloadN X0.here hx rfl (hb hby d_jdk_65_method_132_code_5) rfl rfl kt) ?_
    obtain ⟨cl172, Ar172, Sz172, Ha172⟩ := id V1
    refine Rch.of (T' := T0) (g' := (mkF m 7 #[.val (.ref b1), .val (.int (Int32.ofNat i)), .val (.int (Int32.ofNat j))] [(.int cl172.slots.size.toInt32), (.int (Int32.ofNat j))])) (X0.arraylength hx (by rw [e0]; exact Ar172.1) (State.isArrayOf_alike hZ.alike Ar172.2.1) (g := (mkF m 6 #[.val (.ref b1), .val (.int (Int32.ofNat i)), .val (.int (Int32.ofNat j))] [(.ref b1), (.int (Int32.ofNat j))])) rfl rfl (hb hby d_jdk_65_method_132_code_6)) ?_
    rw [oLen Sz172]
    show Rch p e below K T0 (mkF m 7 #[.val (.ref b1), .val (.int (Int32.ofNat i)), .val (.int (Int32.ofNat j))] [(.int (Int32.ofNat n)), (.int (Int32.ofNat j))])
    refine Rch.of (T' := T0) (g' := (mkF m 10 #[.val (.ref b1), .val (.int (Int32.ofNat i)), .val (.int (Int32.ofNat j))] [])) (fun _ kt => XS.icmpNo X0.here hx rfl (hb hby d_jdk_65_method_132_code_7) rfl (feq kn171).1 kt) ?_
    refine Rch.of (T' := T0) (g' := (mkF m 11 #[.val (.ref b1), .val (.int (Int32.ofNat i)), .val (.int (Int32.ofNat j))] [(.ref b1)])) (fun _ kt => XS.aloadN X0.here hx rfl (hb hby d_jdk_65_method_132_code_10) rfl rfl kt) ?_
    refine Rch.of (T' := T0) (g' := (mkF m 12 #[.val (.ref b1), .val (.int (Int32.ofNat i)), .val (.int (Int32.ofNat j))] [(.int (Int32.ofNat i)), (.ref b1)])) (fun _ kt => XS.iloadN X0.here hx rfl (hb hby d_jdk_65_method_132_code_11) rfl  kt) ?_
    refine Rch.of (T' := T0) (g' := (mkF m 13 #[.val (.ref b1), .val (.int (Int32.ofNat i)), .val (.int (Int32.ofNat j))] [(.int (Int32.ofNat j)), (.int (Int32.ofNat i)), (.ref b1)])) (fun _ kt => XS.iloadN X0.here hx rfl (hb hby d_jdk_65_method_132_code_12) rfl  kt) ?_
    have pr174 : i ≤ j := by omega
    have pr175 : j ≤ n := by omega
    have pr176 : n ≤ 16 := by omega
    obtain ⟨_, _, ⟨T173, L173, k173, n173⟩, -, X173, ⟨Lc173, hQ173, l173, y173, z173⟩, st173⟩ := Jvm.LawKit.callS X0 hx (y := (⟨"java/util/Arrays", "copyOfRangeByte", "([BII)[B"⟩ : MethodName)) hown (mvT hZ (hw _ (List.mem_of_getElem? (i := 218) rfl))) (mvT hZ (hw _ (List.mem_of_getElem? (i := 219) rfl))) (mvT hZ (hw _ (List.mem_of_getElem? (i := 216) rfl))) (mvT hZ (hw _ (List.mem_of_getElem? (i := 220) rfl))) (by decide) (backOf (W := 0) (rqCB l Z a0 hw [] b1 n y i j h0 n0 Z0 V1 pr174 pr175 pr176) hZ (hw _ (List.mem_of_getElem? (i := 220) rfl)) (hw _ (List.mem_of_getElem? (i := 216) rfl)) (by decide) (by decide)) (g := (mkF m 13 #[.val (.ref b1), .val (.int (Int32.ofNat i)), .val (.int (Int32.ofNat j))] [(.int (Int32.ofNat j)), (.int (Int32.ofNat i)), (.ref b1)])) rfl (by rw [hml]; rfl) (argsL := [(.ref b1), (.int (Int32.ofNat i)), (.int (Int32.ofNat j))]) (rest := []) (lenOf pd_29 rfl) rfl (by show 2 * 0 + _ ≤ _; exact Nat.le_of_eq rfl) (hb hby d_jdk_65_method_132_code_13) (fun _ _ => ⟨rfl, e0, (by decide : 0 + 1 ≤ _), (by decide : 0 + 16 ≤ _)⟩)
    dsimp only [Pt.U, Pt.locs, Pt.cells, Pt.slots] at X173 l173 y173 z173 st173 hQ173
    subst l173 y173 z173
    obtain ⟨rfl, N173q, hQ173⟩ := hQ173
    have N173 := Fr.app N0 N173q
    obtain ⟨K173, V173⟩ := hQ173
    obtain ⟨b173, g173⟩ : ∃ zz_, zz_ = h0.size := ⟨_, rfl⟩
    have ne_b1_b173 : b1 ≠ b173 := Nat.ne_of_lt (Nat.lt_of_lt_of_le V1.lt (Nat.le_of_eq g173.symm))
    have ge_b173 : n0 ≤ b173 := Nat.le_trans Z0 (Nat.le_of_eq g173.symm)
    have sz_b173 : h0.size ≤ b173 := Nat.le_trans (Keep.refl h0 []).1 (Nat.le_of_eq g173.symm)
    rw [← g173] at V173 st173
    refine Rch.of (T' := T173) (g' := (mkF m 16 #[.val (.ref b1), .val (.int (Int32.ofNat i)), .val (.int (Int32.ofNat j))] [(.ref b173)])) st173 ?_
    exact Rch.retA X173 hx (w := (.ref b173)) hret rfl rfl hlk (hb hby d_jdk_65_method_132_code_16) (fun U hU hF => hK _ U _ _ _ (by show Q_rqCR Z b1 n y i j h0 n0 _ U.heap _; rw [hU]; exact ⟨by rw [g173], N173, by rw [← g173]; exact ⟨((Keep.refl h0 []).trans K173 all0), V173⟩⟩) hF (by decide) (by decide))
  · skip
    refine Rch.of (T' := T0) (g' := (mkF m 10 #[.val (.ref b1), .val (.int (Int32.ofNat i)), .val (.int (Int32.ofNat j))] [])) (fun _ kt => XS.ifYes X0.here hx rfl (pc0 := 1) (pc' := 10) rfl (hb hby d_jdk_65_method_132_code_1) rfl ((if0 _ _).trans (feq c170).2) (by decide) (by decide) kt) ?_
    refine Rch.of (T' := T0) (g' := (mkF m 11 #[.val (.ref b1), .val (.int (Int32.ofNat i)), .val (.int (Int32.ofNat j))] [(.ref b1)])) (fun _ kt => XS.aloadN X0.here hx rfl (hb hby d_jdk_65_method_132_code_10) rfl rfl kt) ?_
    refine Rch.of (T' := T0) (g' := (mkF m 12 #[.val (.ref b1), .val (.int (Int32.ofNat i)), .val (.int (Int32.ofNat j))] [(.int (Int32.ofNat i)), (.ref b1)])) (fun _ kt => XS.iloadN X0.here hx rfl (hb hby d_jdk_65_method_132_code_11) rfl  kt) ?_
    refine Rch.of (T' := T0) (g' := (mkF m 13 #[.val (.ref b1), .val (.int (Int32.ofNat i)), .val (.int (Int32.ofNat j))] [(.int (Int32.ofNat j)), (.int (Int32.ofNat i)), (.ref b1)])) (fun _ kt => XS.iloadN X0.here hx rfl (hb hby d_jdk_65_method_132_code_12) rfl  kt) ?_
    have pr178 : i ≤ j := by omega
    have pr179 : j ≤ n := by omega
    have pr180 : n ≤ 16 := by omega
    obtain ⟨_, _, ⟨T177, L177, k177, n177⟩, -, X177, ⟨Lc177, hQ177, l177, y177, z177⟩, st177⟩ := Jvm.LawKit.callS X0 hx (y := (⟨"java/util/Arrays", "copyOfRangeByte", "([BII)[B"⟩ : MethodName)) hown (mvT hZ (hw _ (List.mem_of_getElem? (i := 218) rfl))) (mvT hZ (hw _ (List.mem_of_getElem? (i := 219) rfl))) (mvT hZ (hw _ (List.mem_of_getElem? (i := 216) rfl))) (mvT hZ (hw _ (List.mem_of_getElem? (i := 220) rfl))) (by decide) (backOf (W := 0) (rqCB l Z a0 hw [] b1 n y i j h0 n0 Z0 V1 pr178 pr179 pr180) hZ (hw _ (List.mem_of_getElem? (i := 220) rfl)) (hw _ (List.mem_of_getElem? (i := 216) rfl)) (by decide) (by decide)) (g := (mkF m 13 #[.val (.ref b1), .val (.int (Int32.ofNat i)), .val (.int (Int32.ofNat j))] [(.int (Int32.ofNat j)), (.int (Int32.ofNat i)), (.ref b1)])) rfl (by rw [hml]; rfl) (argsL := [(.ref b1), (.int (Int32.ofNat i)), (.int (Int32.ofNat j))]) (rest := []) (lenOf pd_29 rfl) rfl (by show 2 * 0 + _ ≤ _; exact Nat.le_of_eq rfl) (hb hby d_jdk_65_method_132_code_13) (fun _ _ => ⟨rfl, e0, (by decide : 0 + 1 ≤ _), (by decide : 0 + 16 ≤ _)⟩)
    dsimp only [Pt.U, Pt.locs, Pt.cells, Pt.slots] at X177 l177 y177 z177 st177 hQ177
    subst l177 y177 z177
    obtain ⟨rfl, N177q, hQ177⟩ := hQ177
    have N177 := Fr.app N0 N177q
    obtain ⟨K177, V177⟩ := hQ177
    obtain ⟨b177, g177⟩ : ∃ zz_, zz_ = h0.size := ⟨_, rfl⟩
    have ne_b1_b177 : b1 ≠ b177 := Nat.ne_of_lt (Nat.lt_of_lt_of_le V1.lt (Nat.le_of_eq g177.symm))
    have ge_b177 : n0 ≤ b177 := Nat.le_trans Z0 (Nat.le_of_eq g177.symm)
    have sz_b177 : h0.size ≤ b177 := Nat.le_trans (Keep.refl h0 []).1 (Nat.le_of_eq g177.symm)
    rw [← g177] at V177 st177
    refine Rch.of (T' := T177) (g' := (mkF m 16 #[.val (.ref b1), .val (.int (Int32.ofNat i)), .val (.int (Int32.ofNat j))] [(.ref b177)])) st177 ?_
    exact Rch.retA X177 hx (w := (.ref b177)) hret rfl rfl hlk (hb hby d_jdk_65_method_132_code_16) (fun U hU hF => hK _ U _ _ _ (by show Q_rqCR Z b1 n y i j h0 n0 _ U.heap _; rw [hU]; exact ⟨by rw [g177], N177, by rw [← g177]; exact ⟨((Keep.refl h0 []).trans K177 all0), V177⟩⟩) hF (by decide) (by decide))
theorem pn_5 : plainName "java/util/Objects" = true := by first | (simp [plainName, overriddenIn]; done) | decide +kernel
theorem ef_rkR2 (m : MethodId) (a1 : Addr) (a2 : Addr) : entryFrame m #[(.ref a1), (.ref a2)] 2 = mkF m 0 #[.val (.ref a1), .val (.ref a2)] [] := by first | (simp [entryFrame, mkF, argsToLocals, Value.category]; done) | rfl
def Q_rkR2 (Z : State) (a1 : Addr) (a2 : Addr) (h0 : Heap) (n0 : Nat) (vv_ : Option Value) (h : Heap) (LL_ : List Loc) : Prop := vv_ = some (.ref a1) ∧ Fr n0 LL_ ∧ (h = h0)
theorem d_jdk_31_method_11_code_0 : decode jdk_31_method_11_code 0 = .ok (.aload_n 0, 1) := by decide +kernel
theorem d_jdk_31_method_11_code_1 : decode jdk_31_method_11_code 1 = .ok (.ifnonnull 12, 3) := by decide +kernel
theorem d_jdk_31_method_11_code_13 : decode jdk_31_method_11_code 13 = .ok (.aload_n 0, 1) := by decide +kernel
theorem d_jdk_31_method_11_code_14 : decode jdk_31_method_11_code 14 = .ok (.areturn, 1) := by decide +kernel
set_option maxRecDepth 65536 in
set_option maxHeartbeats 40000000 in
theorem rkR2 (l : Launch) (Z : State) (a0 : Array Value) (hw : ∀ d ∈ tables_1, d.before a0 Z = true) (ws : List Jvm.Cond) (a1 : Addr) (a2 : Addr) (h0 : Heap) (n0 : Nat) (Z0 : n0 ≤ h0.size)  :
    MetFree l (⟨"java/util/Objects", "requireNonNull", "(Ljava/lang/Object;Ljava/lang/String;)Ljava/lang/Object;"⟩ : MethodName) (head1 (Jvm.Cond.code (⟨"java/util/Objects", "requireNonNull", "(Ljava/lang/Object;Ljava/lang/String;)Ljava/lang/Object;"⟩ : MethodName) jdk_31_method_11_code 2 (some (.object "java/lang/Object")) :: ws) ({ frames := 0, cells := 0, slots := 0, locals := 0 } : Room)) (fun aa_ UU_ => aa_ = #[(.ref a1), (.ref a2)] ∧ Z.Warmed39 UU_.vm ∧ UU_.heap = h0) (fun _ _ _ _ _ => True) (fun _ UU_ oo_ VV_ => ∃ vv_ LL_, oo_ = .returned vv_ ∧ Q_rkR2 Z a1 a2 h0 n0 vv_ VV_.heap LL_ ∧ FrameEnd UU_ oo_ VV_ LL_ ({ frames := 0, cells := 0, slots := 0, locals := 0 } : Room).cells ({ frames := 0, cells := 0, slots := 0, locals := 0 } : Room).slots) := by
  refine own_met (y := (⟨"java/util/Objects", "requireNonNull", "(Ljava/lang/Object;Ljava/lang/String;)Ljava/lang/Object;"⟩ : MethodName)) (plainFor_of_name pn_5) ?_
  intro p e s m below meth c T0 K hx hby hml hret hlk hown hnm hZ X0 e0 hK
  have N0 := Fr.nil n0
  refine Rch.cast (ef_rkR2 m a1 a2) ?_
  refine Rch.of (T' := T0) (g' := (mkF m 1 #[.val (.ref a1), .val (.ref a2)] [(.ref a1)])) (fun _ kt => XS.aloadN X0.here hx rfl (hb hby d_jdk_31_method_11_code_0) rfl rfl kt) ?_
  refine Rch.of (T' := T0) (g' := (mkF m 13 #[.val (.ref a1), .val (.ref a2)] [])) (fun _ kt => XS.ifnonnullYes X0.here hx rfl (pc0 := 1) (pc' := 13) rfl (hb hby d_jdk_31_method_11_code_1) rfl (by decide) (by decide) kt) ?_
  refine Rch.of (T' := T0) (g' := (mkF m 14 #[.val (.ref a1), .val (.ref a2)] [(.ref a1)])) (fun _ kt => XS.aloadN X0.here hx rfl (hb hby d_jdk_31_method_11_code_13) rfl rfl kt) ?_
  exact Rch.retA X0 hx (w := (.ref a1)) hret rfl rfl hlk (hb hby d_jdk_31_method_11_code_14) (fun U hU hF => hK _ U _ _ _ (by show Q_rkR2 Z a1 a2 h0 n0 _ U.heap _; rw [hU, e0]; exact ⟨rfl, N0, rfl⟩) hF (by decide) (by decide))
theorem ef_rkR1 (m : MethodId) (a1 : Addr) : entryFrame m #[(.ref a1)] 1 = mkF m 0 #[.val (.ref a1)] [] := by first | (simp [entryFrame, mkF, argsToLocals, Value.category]; done) | rfl
def Q_rkR1 (Z : State) (a1 : Addr) (h0 : Heap) (n0 : Nat) (vv_ : Option Value) (h : Heap) (LL_ : List Loc) : Prop := vv_ = some (.ref a1) ∧ Fr n0 LL_ ∧ (h = h0)
theorem d_jdk_31_method_10_code_0 : decode jdk_31_method_10_code 0 = .ok (.aload_n 0, 1) := by decide +kernel
theorem d_jdk_31_method_10_code_1 : decode jdk_31_method_10_code 1 = .ok (.ifnonnull 11, 3) := by decide +kernel
theorem d_jdk_31_method_10_code_12 : decode jdk_31_method_10_code 12 = .ok (.aload_n 0, 1) := by decide +kernel
theorem d_jdk_31_method_10_code_13 : decode jdk_31_method_10_code 13 = .ok (.areturn, 1) := by decide +kernel
set_option maxRecDepth 65536 in
set_option maxHeartbeats 40000000 in
theorem rkR1 (l : Launch) (Z : State) (a0 : Array Value) (hw : ∀ d ∈ tables_1, d.before a0 Z = true) (ws : List Jvm.Cond) (a1 : Addr) (h0 : Heap) (n0 : Nat) (Z0 : n0 ≤ h0.size)  :
    MetFree l (⟨"java/util/Objects", "requireNonNull", "(Ljava/lang/Object;)Ljava/lang/Object;"⟩ : MethodName) (head1 (Jvm.Cond.code (⟨"java/util/Objects", "requireNonNull", "(Ljava/lang/Object;)Ljava/lang/Object;"⟩ : MethodName) jdk_31_method_10_code 1 (some (.object "java/lang/Object")) :: ws) ({ frames := 0, cells := 0, slots := 0, locals := 0 } : Room)) (fun aa_ UU_ => aa_ = #[(.ref a1)] ∧ Z.Warmed39 UU_.vm ∧ UU_.heap = h0) (fun _ _ _ _ _ => True) (fun _ UU_ oo_ VV_ => ∃ vv_ LL_, oo_ = .returned vv_ ∧ Q_rkR1 Z a1 h0 n0 vv_ VV_.heap LL_ ∧ FrameEnd UU_ oo_ VV_ LL_ ({ frames := 0, cells := 0, slots := 0, locals := 0 } : Room).cells ({ frames := 0, cells := 0, slots := 0, locals := 0 } : Room).slots) := by
  refine own_met (y := (⟨"java/util/Objects", "requireNonNull", "(Ljava/lang/Object;)Ljava/lang/Object;"⟩ : MethodName)) (plainFor_of_name pn_5) ?_
  intro p e s m below meth c T0 K hx hby hml hret hlk hown hnm hZ X0 e0 hK
  have N0 := Fr.nil n0
  refine Rch.cast (ef_rkR1 m a1) ?_
  refine Rch.of (T' := T0) (g' := (mkF m 1 #[.val (.ref a1)] [(.ref a1)])) (fun _ kt => XS.aloadN X0.here hx rfl (hb hby d_jdk_31_method_10_code_0) rfl rfl kt) ?_
  refine Rch.of (T' := T0) (g' := (mkF m 12 #[.val (.ref a1)] [])) (fun _ kt => XS.ifnonnullYes X0.here hx rfl (pc0 := 1) (pc' := 12) rfl (hb hby d_jdk_31_method_10_code_1) rfl (by decide) (by decide) kt) ?_
  refine Rch.of (T' := T0) (g' := (mkF m 13 #[.val (.ref a1)] [(.ref a1)])) (fun _ kt => XS.aloadN X0.here hx rfl (hb hby d_jdk_31_method_10_code_12) rfl rfl kt) ?_
  exact Rch.retA X0 hx (w := (.ref a1)) hret rfl rfl hlk (hb hby d_jdk_31_method_10_code_13) (fun U hU hF => hK _ U _ _ _ (by show Q_rkR1 Z a1 h0 n0 _ U.heap _; rw [hU, e0]; exact ⟨rfl, N0, rfl⟩) hF (by decide) (by decide))
theorem pn_6 : plainName "java/util/AbstractCollection" = true := by first | (simp [plainName, overriddenIn]; done) | decide +kernel
theorem ef_rkV0 (m : MethodId) (a1 : Addr) : entryFrame m #[(.ref a1)] 1 = mkF m 0 #[.val (.ref a1)] [] := by first | (simp [entryFrame, mkF, argsToLocals, Value.category]; done) | rfl
def Q_rkV0 (Z : State) (a1 : Addr) (h0 : Heap) (n0 : Nat) (vv_ : Option Value) (h : Heap) (LL_ : List Loc) : Prop := vv_ = none ∧ Fr n0 LL_ ∧ (h = h0)
theorem d_jdk_22_method_1_code_0 : decode jdk_22_method_1_code 0 = .ok (.aload_n 0, 1) := by decide +kernel
theorem d_jdk_22_method_1_code_1 : decode jdk_22_method_1_code 1 = .ok (.invokespecial 1, 3) := by decide +kernel
theorem d_jdk_22_method_1_code_4 : decode jdk_22_method_1_code 4 = .ok (.return_, 1) := by decide +kernel
set_option maxRecDepth 65536 in
set_option maxHeartbeats 40000000 in
theorem rkV0 (l : Launch) (Z : State) (a0 : Array Value) (hw : ∀ d ∈ tables_1, d.before a0 Z = true) (ws : List Jvm.Cond) (a1 : Addr) (h0 : Heap) (n0 : Nat) (Z0 : n0 ≤ h0.size)  :
    MetFree l (⟨"java/util/AbstractCollection", "<init>", "()V"⟩ : MethodName) (head1 (Jvm.Cond.code (⟨"java/util/AbstractCollection", "<init>", "()V"⟩ : MethodName) jdk_22_method_1_code 1 none :: ws) ({ frames := 1, cells := 0, slots := 0, locals := 12 } : Room)) (fun aa_ UU_ => aa_ = #[(.ref a1)] ∧ Z.Warmed39 UU_.vm ∧ UU_.heap = h0) (fun _ _ _ _ _ => True) (fun _ UU_ oo_ VV_ => ∃ vv_ LL_, oo_ = .returned vv_ ∧ Q_rkV0 Z a1 h0 n0 vv_ VV_.heap LL_ ∧ FrameEnd UU_ oo_ VV_ LL_ ({ frames := 1, cells := 0, slots := 0, locals := 12 } : Room).cells ({ frames := 1, cells := 0, slots := 0, locals := 12 } : Room).slots) := by
  refine own_met (y := (⟨"java/util/AbstractCollection", "<init>", "()V"⟩ : MethodName)) (plainFor_of_name pn_6) ?_
  intro p e s m below meth c T0 K hx hby hml hret hlk hown hnm hZ X0 e0 hK
  have N0 := Fr.nil n0
  refine Rch.cast (ef_rkV0 m a1) ?_
  refine Rch.of (T' := T0) (g' := (mkF m 1 #[.val (.ref a1)] [(.ref a1)])) (fun _ kt => XS.aloadN X0.here hx rfl (hb hby d_jdk_22_method_1_code_0) rfl rfl kt) ?_
  obtain ⟨T181, X181, e181, st181⟩ := initO X0 hx hZ hown (hw _ (List.mem_of_getElem? (i := 94) rfl)) (hw _ (List.mem_of_getElem? (i := 12) rfl)) (hw _ (List.mem_of_getElem? (i := 13) rfl)) e0 (g := (mkF m 1 #[.val (.ref a1)] [(.ref a1)])) rfl (by rw [hml]; rfl) rfl (hb hby d_jdk_22_method_1_code_1) (by decide) (W := 0) (by show 2 * 0 + _ ≤ _; exact Nat.le_of_eq rfl) (by decide)
  refine Rch.of (T' := T181) (g' := (mkF m 4 #[.val (.ref a1)] [])) st181 ?_
  exact Rch.retV X181 hx hret hlk (hb hby d_jdk_22_method_1_code_4) (fun U hU hF => hK _ U _ _ _ (by show Q_rkV0 Z a1 h0 n0 _ U.heap _; rw [hU, e181]; exact ⟨rfl, N0, rfl⟩) hF (by decide) (by decide))
theorem pn_7 : plainName "java/util/ImmutableCollections$AbstractImmutableCollection" = true := by first | (simp [plainName, overriddenIn]; done) | decide +kernel
theorem ef_rkV1 (m : MethodId) (a1 : Addr) : entryFrame m #[(.ref a1)] 1 = mkF m 0 #[.val (.ref a1)] [] := by first | (simp [entryFrame, mkF, argsToLocals, Value.category]; done) | rfl
def Q_rkV1 (Z : State) (a1 : Addr) (h0 : Heap) (n0 : Nat) (vv_ : Option Value) (h : Heap) (LL_ : List Loc) : Prop := vv_ = none ∧ Fr n0 LL_ ∧ (h = h0)
theorem d_jdk_47_method_1_code_0 : decode jdk_47_method_1_code 0 = .ok (.aload_n 0, 1) := by decide +kernel
theorem d_jdk_47_method_1_code_1 : decode jdk_47_method_1_code 1 = .ok (.invokespecial 1, 3) := by decide +kernel
theorem d_jdk_47_method_1_code_4 : decode jdk_47_method_1_code 4 = .ok (.return_, 1) := by decide +kernel
set_option maxRecDepth 65536 in
set_option maxHeartbeats 40000000 in
theorem rkV1 (l : Launch) (Z : State) (a0 : Array Value) (hw : ∀ d ∈ tables_1, d.before a0 Z = true) (ws : List Jvm.Cond) (a1 : Addr) (h0 : Heap) (n0 : Nat) (Z0 : n0 ≤ h0.size)  :
    MetFree l (⟨"java/util/ImmutableCollections$AbstractImmutableCollection", "<init>", "()V"⟩ : MethodName) (head1 (Jvm.Cond.code (⟨"java/util/ImmutableCollections$AbstractImmutableCollection", "<init>", "()V"⟩ : MethodName) jdk_47_method_1_code 1 none :: ws) ({ frames := 2, cells := 0, slots := 0, locals := 24 } : Room)) (fun aa_ UU_ => aa_ = #[(.ref a1)] ∧ Z.Warmed39 UU_.vm ∧ UU_.heap = h0) (fun _ _ _ _ _ => True) (fun _ UU_ oo_ VV_ => ∃ vv_ LL_, oo_ = .returned vv_ ∧ Q_rkV1 Z a1 h0 n0 vv_ VV_.heap LL_ ∧ FrameEnd UU_ oo_ VV_ LL_ ({ frames := 2, cells := 0, slots := 0, locals := 24 } : Room).cells ({ frames := 2, cells := 0, slots := 0, locals := 24 } : Room).slots) := by
  refine own_met (y := (⟨"java/util/ImmutableCollections$AbstractImmutableCollection", "<init>", "()V"⟩ : MethodName)) (plainFor_of_name pn_7) ?_
  intro p e s m below meth c T0 K hx hby hml hret hlk hown hnm hZ X0 e0 hK
  have N0 := Fr.nil n0
  refine Rch.cast (ef_rkV1 m a1) ?_
  refine Rch.of (T' := T0) (g' := (mkF m 1 #[.val (.ref a1)] [(.ref a1)])) (fun _ kt => XS.aloadN X0.here hx rfl (hb hby d_jdk_47_method_1_code_0) rfl rfl kt) ?_
  obtain ⟨_, _, ⟨T182, L182, k182, n182⟩, -, X182, ⟨Lc182, hQ182, l182, y182, z182⟩, st182⟩ := X0.specialBack hx (y := (⟨"java/util/AbstractCollection", "<init>", "()V"⟩ : MethodName)) rfl hown (mvT hZ (hw _ (List.mem_of_getElem? (i := 88) rfl))) (mvT hZ (hw _ (List.mem_of_getElem? (i := 89) rfl))) (mvT hZ (hw _ (List.mem_of_getElem? (i := 93) rfl))) (by decide) (backOf (W := 0) (rkV0 l Z a0 hw [] a1 h0 n0 Z0 ) hZ (hw _ (List.mem_of_getElem? (i := 93) rfl)) (hw _ (List.mem_of_getElem? (i := 92) rfl)) (by decide) (by decide)) (g := (mkF m 1 #[.val (.ref a1)] [(.ref a1)])) rfl (by rw [hml]; rfl) (Steps.refl _) (a := a1) (argsL := []) (rest := []) (lenOf pd_2 rfl) rfl (by show 2 * 0 + _ ≤ _; exact Nat.le_of_eq rfl) (hb hby d_jdk_47_method_1_code_1) (fun _ _ => ⟨rfl, e0, (by decide : 0 + 0 ≤ _), (by decide : 0 + 0 ≤ _)⟩)
  dsimp only [Pt.U, Pt.locs, Pt.cells, Pt.slots] at X182 l182 y182 z182 st182 hQ182
  subst l182 y182 z182
  obtain ⟨rfl, N182q, hQ182⟩ := hQ182
  have N182 := Fr.app N0 N182q
  refine Rch.via (T' := T182) (g' := (mkF m 4 #[.val (.ref a1)] [])) st182 ?_
  exact Rch.retV X182 hx hret hlk (hb hby d_jdk_47_method_1_code_4) (fun U hU hF => hK _ U _ _ _ (by show Q_rkV1 Z a1 h0 n0 _ U.heap _; rw [hU, hQ182]; exact ⟨rfl, N182, rfl⟩) hF (by decide) (by decide))
theorem pn_8 : plainName "java/util/ImmutableCollections$AbstractImmutableList" = true := by first | (simp [plainName, overriddenIn]; done) | decide +kernel
theorem ef_rkV2 (m : MethodId) (a1 : Addr) : entryFrame m #[(.ref a1)] 1 = mkF m 0 #[.val (.ref a1)] [] := by first | (simp [entryFrame, mkF, argsToLocals, Value.category]; done) | rfl
def Q_rkV2 (Z : State) (a1 : Addr) (h0 : Heap) (n0 : Nat) (vv_ : Option Value) (h : Heap) (LL_ : List Loc) : Prop := vv_ = none ∧ Fr n0 LL_ ∧ (h = h0)
theorem d_jdk_46_method_1_code_0 : decode jdk_46_method_1_code 0 = .ok (.aload_n 0, 1) := by decide +kernel
theorem d_jdk_46_method_1_code_1 : decode jdk_46_method_1_code 1 = .ok (.invokespecial 1, 3) := by decide +kernel
theorem d_jdk_46_method_1_code_4 : decode jdk_46_method_1_code 4 = .ok (.return_, 1) := by decide +kernel
set_option maxRecDepth 65536 in
set_option maxHeartbeats 40000000 in
theorem rkV2 (l : Launch) (Z : State) (a0 : Array Value) (hw : ∀ d ∈ tables_1, d.before a0 Z = true) (ws : List Jvm.Cond) (a1 : Addr) (h0 : Heap) (n0 : Nat) (Z0 : n0 ≤ h0.size)  :
    MetFree l (⟨"java/util/ImmutableCollections$AbstractImmutableList", "<init>", "()V"⟩ : MethodName) (head1 (Jvm.Cond.code (⟨"java/util/ImmutableCollections$AbstractImmutableList", "<init>", "()V"⟩ : MethodName) jdk_46_method_1_code 1 none :: ws) ({ frames := 3, cells := 0, slots := 0, locals := 36 } : Room)) (fun aa_ UU_ => aa_ = #[(.ref a1)] ∧ Z.Warmed39 UU_.vm ∧ UU_.heap = h0) (fun _ _ _ _ _ => True) (fun _ UU_ oo_ VV_ => ∃ vv_ LL_, oo_ = .returned vv_ ∧ Q_rkV2 Z a1 h0 n0 vv_ VV_.heap LL_ ∧ FrameEnd UU_ oo_ VV_ LL_ ({ frames := 3, cells := 0, slots := 0, locals := 36 } : Room).cells ({ frames := 3, cells := 0, slots := 0, locals := 36 } : Room).slots) := by
  refine own_met (y := (⟨"java/util/ImmutableCollections$AbstractImmutableList", "<init>", "()V"⟩ : MethodName)) (plainFor_of_name pn_8) ?_
  intro p e s m below meth c T0 K hx hby hml hret hlk hown hnm hZ X0 e0 hK
  have N0 := Fr.nil n0
  refine Rch.cast (ef_rkV2 m a1) ?_
  refine Rch.of (T' := T0) (g' := (mkF m 1 #[.val (.ref a1)] [(.ref a1)])) (fun _ kt => XS.aloadN X0.here hx rfl (hb hby d_jdk_46_method_1_code_0) rfl rfl kt) ?_
  obtain ⟨_, _, ⟨T183, L183, k183, n183⟩, -, X183, ⟨Lc183, hQ183, l183, y183, z183⟩, st183⟩ := X0.specialBack hx (y := (⟨"java/util/ImmutableCollections$AbstractImmutableCollection", "<init>", "()V"⟩ : MethodName)) rfl hown (mvT hZ (hw _ (List.mem_of_getElem? (i := 82) rfl))) (mvT hZ (hw _ (List.mem_of_getElem? (i := 83) rfl))) (mvT hZ (hw _ (List.mem_of_getElem? (i := 87) rfl))) (by decide) (backOf (W := 0) (rkV1 l Z a0 hw [] a1 h0 n0 Z0 ) hZ (hw _ (List.mem_of_getElem? (i := 87) rfl)) (hw _ (List.mem_of_getElem? (i := 86) rfl)) (by decide) (by decide)) (g := (mkF m 1 #[.val (.ref a1)] [(.ref a1)])) rfl (by rw [hml]; rfl) (Steps.refl _) (a := a1) (argsL := []) (rest := []) (lenOf pd_2 rfl) rfl (by show 2 * 0 + _ ≤ _; exact Nat.le_of_eq rfl) (hb hby d_jdk_46_method_1_code_1) (fun _ _ => ⟨rfl, e0, (by decide : 0 + 0 ≤ _), (by decide : 0 + 0 ≤ _)⟩)
  dsimp only [Pt.U, Pt.locs, Pt.cells, Pt.slots] at X183 l183 y183 z183 st183 hQ183
  subst l183 y183 z183
  obtain ⟨rfl, N183q, hQ183⟩ := hQ183
  have N183 := Fr.app N0 N183q
  refine Rch.via (T' := T183) (g' := (mkF m 4 #[.val (.ref a1)] [])) st183 ?_
  exact Rch.retV X183 hx hret hlk (hb hby d_jdk_46_method_1_code_4) (fun U hU hF => hK _ U _ _ _ (by show Q_rkV2 Z a1 h0 n0 _ U.heap _; rw [hU, hQ183]; exact ⟨rfl, N183, rfl⟩) hF (by decide) (by decide))
theorem pn_9 : plainName "java/util/ImmutableCollections$List12" = true := by first | (simp [plainName, overriddenIn]; done) | decide +kernel
theorem ef_rkLI (m : MethodId) (a1 : Addr) (a2 : Addr) : entryFrame m #[(.ref a1), (.ref a2)] 2 = mkF m 0 #[.val (.ref a1), .val (.ref a2)] [] := by first | (simp [entryFrame, mkF, argsToLocals, Value.category]; done) | rfl
def Q_rkLI (Z : State) (a1 : Addr) (a2 : Addr) (eo : Addr) (u1 : Value) (u2 : Value) (h0 : Heap) (n0 : Nat) (vv_ : Option Value) (h : Heap) (LL_ : List Loc) : Prop := vv_ = none ∧ Fr n0 LL_ ∧ (Keep h0 h [a1] ∧ Exa Z h a1 "java/util/ImmutableCollections$List12")
theorem d_jdk_44_method_1_code_0 : decode jdk_44_method_1_code 0 = .ok (.aload_n 0, 1) := by decide +kernel
theorem d_jdk_44_method_1_code_1 : decode jdk_44_method_1_code 1 = .ok (.invokespecial 1, 3) := by decide +kernel
theorem d_jdk_44_method_1_code_4 : decode jdk_44_method_1_code 4 = .ok (.aload_n 0, 1) := by decide +kernel
theorem d_jdk_44_method_1_code_5 : decode jdk_44_method_1_code 5 = .ok (.aload_n 1, 1) := by decide +kernel
theorem d_jdk_44_method_1_code_6 : decode jdk_44_method_1_code 6 = .ok (.invokestatic 7, 3) := by decide +kernel
theorem d_jdk_44_method_1_code_9 : decode jdk_44_method_1_code 9 = .ok (.putfield 13, 3) := by decide +kernel
theorem d_jdk_44_method_1_code_12 : decode jdk_44_method_1_code 12 = .ok (.aload_n 0, 1) := by decide +kernel
theorem d_jdk_44_method_1_code_13 : decode jdk_44_method_1_code 13 = .ok (.getstatic 19, 3) := by decide +kernel
theorem d_jdk_44_method_1_code_16 : decode jdk_44_method_1_code 16 = .ok (.putfield 24, 3) := by decide +kernel
theorem d_jdk_44_method_1_code_19 : decode jdk_44_method_1_code 19 = .ok (.return_, 1) := by decide +kernel
set_option maxRecDepth 65536 in
set_option maxHeartbeats 40000000 in
theorem rkLI (l : Launch) (Z : State) (a0 : Array Value) (hw : ∀ d ∈ tables_1, d.before a0 Z = true) (ws : List Jvm.Cond) (a1 : Addr) (a2 : Addr) (eo : Addr) (u1 : Value) (u2 : Value) (h0 : Heap) (n0 : Nat) (Z0 : n0 ≤ h0.size) (E1 : Exa Z h0 a1 "java/util/ImmutableCollections$List12") (F1 : Fld Z h0 a1 "java/util/ImmutableCollections$List12" "e0" "Ljava/lang/Object;" u1) (F2 : Fld Z h0 a1 "java/util/ImmutableCollections$List12" "e1" "Ljava/lang/Object;" u2) (g1 : n0 ≤ a1) (SE : Sta Z h0 "java/util/ImmutableCollections" "EMPTY" "Ljava/lang/Object;" (.ref eo)) :
    MetFree l (⟨"java/util/ImmutableCollections$List12", "<init>", "(Ljava/lang/Object;)V"⟩ : MethodName) (head1 (Jvm.Cond.code (⟨"java/util/ImmutableCollections$List12", "<init>", "(Ljava/lang/Object;)V"⟩ : MethodName) jdk_44_method_1_code 2 none :: ws) ({ frames := 4, cells := 0, slots := 0, locals := 48 } : Room)) (fun aa_ UU_ => aa_ = #[(.ref a1), (.ref a2)] ∧ Z.Warmed39 UU_.vm ∧ UU_.heap = h0) (fun _ _ _ _ _ => True) (fun _ UU_ oo_ VV_ => ∃ vv_ LL_, oo_ = .returned vv_ ∧ Q_rkLI Z a1 a2 eo u1 u2 h0 n0 vv_ VV_.heap LL_ ∧ FrameEnd UU_ oo_ VV_ LL_ ({ frames := 4, cells := 0, slots := 0, locals := 48 } : Room).cells ({ frames := 4, cells := 0, slots := 0, locals := 48 } : Room).slots) := by
  refine own_met (y := (⟨"java/util/ImmutableCollections$List12", "<init>", "(Ljava/lang/Object;)V"⟩ : MethodName)) (plainFor_of_name pn_9) ?_
  intro p e s m below meth c T0 K hx hby hml hret hlk hown hnm hZ X0 e0 hK
  have N0 := Fr.nil n0
  refine Rch.cast (ef_rkLI m a1 a2) ?_
  refine Rch.of (T' := T0) (g' := (mkF m 1 #[.val (.ref a1), .val (.ref a2)] [(.ref a1)])) (fun _ kt => XS.aloadN X0.here hx rfl (hb hby d_jdk_44_method_1_code_0) rfl rfl kt) ?_
  obtain ⟨_, _, ⟨T184, L184, k184, n184⟩, -, X184, ⟨Lc184, hQ184, l184, y184, z184⟩, st184⟩ := X0.specialBack hx (y := (⟨"java/util/ImmutableCollections$AbstractImmutableList", "<init>", "()V"⟩ : MethodName)) rfl hown (mvT hZ (hw _ (List.mem_of_getElem? (i := 76) rfl))) (mvT hZ (hw _ (List.mem_of_getElem? (i := 77) rfl))) (mvT hZ (hw _ (List.mem_of_getElem? (i := 81) rfl))) (by decide) (backOf (W := 0) (rkV2 l Z a0 hw [] a1 h0 n0 Z0 ) hZ (hw _ (List.mem_of_getElem? (i := 81) rfl)) (hw _ (List.mem_of_getElem? (i := 80) rfl)) (by decide) (by decide)) (g := (mkF m 1 #[.val (.ref a1), .val (.ref a2)] [(.ref a1)])) rfl (by rw [hml]; rfl) (Steps.refl _) (a := a1) (argsL := []) (rest := []) (lenOf pd_2 rfl) rfl (by show 2 * 0 + _ ≤ _; exact Nat.le_of_eq rfl) (hb hby d_jdk_44_method_1_code_1) (fun _ _ => ⟨rfl, e0, (by decide : 0 + 0 ≤ _), (by decide : 0 + 0 ≤ _)⟩)
  dsimp only [Pt.U, Pt.locs, Pt.cells, Pt.slots] at X184 l184 y184 z184 st184 hQ184
  subst l184 y184 z184
  obtain ⟨rfl, N184q, hQ184⟩ := hQ184
  have N184 := Fr.app N0 N184q
  refine Rch.via (T' := T184) (g' := (mkF m 4 #[.val (.ref a1), .val (.ref a2)] [])) st184 ?_
  refine Rch.of (T' := T184) (g' := (mkF m 5 #[.val (.ref a1), .val (.ref a2)] [(.ref a1)])) (fun _ kt => XS.aloadN X184.here hx rfl (hb hby d_jdk_44_method_1_code_4) rfl rfl kt) ?_
  refine Rch.of (T' := T184) (g' := (mkF m 6 #[.val (.ref a1), .val (.ref a2)] [(.ref a2), (.ref a1)])) (fun _ kt => XS.aloadN X184.here hx rfl (hb hby d_jdk_44_method_1_code_5) rfl rfl kt) ?_
  obtain ⟨_, _, ⟨T185, L185, k185, n185⟩, -, X185, ⟨Lc185, hQ185, l185, y185, z185⟩, st185⟩ := Jvm.LawKit.callS X184 hx (y := (⟨"java/util/Objects", "requireNonNull", "(Ljava/lang/Object;)Ljava/lang/Object;"⟩ : MethodName)) hown (mvT hZ (hw _ (List.mem_of_getElem? (i := 95) rfl))) (mvT hZ (hw _ (List.mem_of_getElem? (i := 96) rfl))) (mvT hZ (hw _ (List.mem_of_getElem? (i := 60) rfl))) (mvT hZ (hw _ (List.mem_of_getElem? (i := 97) rfl))) (by decide) (backOf (W := 1) (rkR1 l Z a0 hw [] a2 h0 n0 Z0 ) hZ (hw _ (List.mem_of_getElem? (i := 97) rfl)) (hw _ (List.mem_of_getElem? (i := 60) rfl)) (by decide) (by decide)) (g := (mkF m 6 #[.val (.ref a1), .val (.ref a2)] [(.ref a2), (.ref a1)])) rfl (by rw [hml]; rfl) (argsL := [(.ref a2)]) (rest := [(.ref a1)]) (lenOf pd_14 rfl) rfl (by show 2 * 0 + _ ≤ _; exact Nat.le_of_eq rfl) (hb hby d_jdk_44_method_1_code_6) (fun _ _ => ⟨rfl, hQ184, (by decide : 0 + 0 ≤ _), (by decide : 0 + 0 ≤ _)⟩)
  dsimp only [Pt.U, Pt.locs, Pt.cells, Pt.slots] at X185 l185 y185 z185 st185 hQ185
  subst l185 y185 z185
  obtain ⟨rfl, N185q, hQ185⟩ := hQ185
  have N185 := Fr.app N184 N185q
  refine Rch.of (T' := T185) (g' := (mkF m 9 #[.val (.ref a1), .val (.ref a2)] [(.ref a2), (.ref a1)])) st185 ?_
  obtain ⟨T186, h186, X186, e186, W186, st186⟩ := putF X185 hx hZ hown (host := "") (Or.inl (hw _ (List.mem_of_getElem? (i := 98) rfl))) Via.refl hQ185 F1 E1 (Or.inr ⟨(hw _ (List.mem_of_getElem? (i := 99) rfl)), rfl, hnm⟩) (hw _ (List.mem_of_getElem? (i := 70) rfl)) (ty := (.object "java/lang/Object")) (by decide) rfl rfl (g := (mkF m 9 #[.val (.ref a1), .val (.ref a2)] [(.ref a2), (.ref a1)])) rfl rfl (hb hby d_jdk_44_method_1_code_9)
  have N186 := Fr.snoc X186 N185 g1
  have Fw186 := Fld.same W186 F1
  have Fb187 := (F2.other W186 (Or.inr (slot_ne (Or.inr (hw _ (List.mem_of_getElem? (i := 103) rfl))) (Or.inr (hw _ (List.mem_of_getElem? (i := 99) rfl))) (by decide) (t := (.object "java/lang/Object")) (t' := (.object "java/lang/Object")) (by decide) (by decide))))
  refine Rch.of (T' := T186) (g' := (mkF m 12 #[.val (.ref a1), .val (.ref a2)] [])) st186 ?_
  refine Rch.of (T' := T186) (g' := (mkF m 13 #[.val (.ref a1), .val (.ref a2)] [(.ref a1)])) (fun _ kt => XS.aloadN X186.here hx rfl (hb hby d_jdk_44_method_1_code_12) rfl rfl kt) ?_
  obtain ⟨T188, X188, e188, st188⟩ := getS2 X186 hx hZ hown (Or.inr (hw _ (List.mem_of_getElem? (i := 100) rfl))) Via.refl e186 (SE.wr W186) (g := (mkF m 13 #[.val (.ref a1), .val (.ref a2)] [(.ref a1)])) rfl (hb hby d_jdk_44_method_1_code_13)
  refine Rch.of (T' := T188) (g' := (mkF m 16 #[.val (.ref a1), .val (.ref a2)] [(.ref eo), (.ref a1)])) st188 ?_
  obtain ⟨T189, h189, X189, e189, W189, st189⟩ := putF X188 hx hZ hown (host := "") (Or.inl (hw _ (List.mem_of_getElem? (i := 102) rfl))) Via.refl e188 Fb187 (E1.wr W186) (Or.inr ⟨(hw _ (List.mem_of_getElem? (i := 103) rfl)), rfl, hnm⟩) (hw _ (List.mem_of_getElem? (i := 70) rfl)) (ty := (.object "java/lang/Object")) (by decide) rfl rfl (g := (mkF m 16 #[.val (.ref a1), .val (.ref a2)] [(.ref eo), (.ref a1)])) rfl rfl (hb hby d_jdk_44_method_1_code_16)
  have N189 := Fr.snoc X189 N186 g1
  have Fw189 := Fld.same W189 Fb187
  have Fb190 := (Fw186.other W189 (Or.inr (slot_ne (Or.inr (hw _ (List.mem_of_getElem? (i := 99) rfl))) (Or.inr (hw _ (List.mem_of_getElem? (i := 103) rfl))) (by decide) (t := (.object "java/lang/Object")) (t' := (.object "java/lang/Object")) (by decide) (by decide))))
  refine Rch.of (T' := T189) (g' := (mkF m 19 #[.val (.ref a1), .val (.ref a2)] [])) st189 ?_
  exact Rch.retV X189 hx hret hlk (hb hby d_jdk_44_method_1_code_19) (fun U hU hF => hK _ U _ _ _ (by show Q_rkLI Z a1 a2 eo u1 u2 h0 n0 _ U.heap _; rw [hU, e189]; exact ⟨rfl, N189, (((Keep.refl h0 [a1]).wr W186 (Or.inl (List.mem_of_getElem? (i := 0) rfl))).wr W189 (Or.inl (List.mem_of_getElem? (i := 0) rfl))), ((E1.wr W186).wr W189)⟩) hF (by decide) (by decide))
theorem pn_10 : plainName "java/util/List" = true := by first | (simp [plainName, overriddenIn]; done) | decide +kernel
theorem ef_rkL0 (m : MethodId) (a1 : Addr) : entryFrame m #[(.ref a1)] 2 = mkF m 0 #[.val (.ref a1), .unset] [] := by first | (simp [entryFrame, mkF, argsToLocals, Value.category]; done) | rfl
def Q_rkL0 (Z : State) (a1 : Addr) (el : Addr) (h0 : Heap) (n0 : Nat) (vv_ : Option Value) (h : Heap) (LL_ : List Loc) : Prop := vv_ = some (.ref el) ∧ Fr n0 LL_ ∧ (h = h0)
theorem d_jdk_40_method_47_code_0 : decode jdk_40_method_47_code 0 = .ok (.aload_n 0, 1) := by decide +kernel
theorem d_jdk_40_method_47_code_1 : decode jdk_40_method_47_code 1 = .ok (.arraylength, 1) := by decide +kernel
theorem d_jdk_40_method_47_code_2 : decode jdk_40_method_47_code 2 = .ok (.tableswitch 57 0 2 #[26, 32, 43], 26) := by decide +kernel
theorem d_jdk_40_method_47_code_28 : decode jdk_40_method_47_code 28 = .ok (.getstatic 90, 3) := by decide +kernel
theorem d_jdk_40_method_47_code_31 : decode jdk_40_method_47_code 31 = .ok (.astore_n 1, 1) := by decide +kernel
theorem d_jdk_40_method_47_code_32 : decode jdk_40_method_47_code 32 = .ok (.aload_n 1, 1) := by decide +kernel
theorem d_jdk_40_method_47_code_33 : decode jdk_40_method_47_code 33 = .ok (.areturn, 1) := by decide +kernel
set_option maxRecDepth 65536 in
set_option maxHeartbeats 40000000 in
theorem rkL0 (l : Launch) (Z : State) (a0 : Array Value) (hw : ∀ d ∈ tables_1, d.before a0 Z = true) (ws : List Jvm.Cond) (a1 : Addr) (el : Addr) (h0 : Heap) (n0 : Nat) (Z0 : n0 ≤ h0.size) (V1 : Av Z h0 a1 (.object "java/lang/String") 0 (fun q => (fun _ => Value.null) q)) (SL : Sta Z h0 "java/util/ImmutableCollections" "EMPTY_LIST" "Ljava/util/ImmutableCollections$ListN;" (.ref el)) :
    MetFree l (⟨"java/util/List", "of", "([Ljava/lang/Object;)Ljava/util/List;"⟩ : MethodName) (head1 (Jvm.Cond.code (⟨"java/util/List", "of", "([Ljava/lang/Object;)Ljava/util/List;"⟩ : MethodName) jdk_40_method_47_code 2 (some (.object "java/util/List")) :: ws) ({ frames := 0, cells := 0, slots := 0, locals := 0 } : Room)) (fun aa_ UU_ => aa_ = #[(.ref a1)] ∧ Z.Warmed39 UU_.vm ∧ UU_.heap = h0) (fun _ _ _ _ _ => True) (fun _ UU_ oo_ VV_ => ∃ vv_ LL_, oo_ = .returned vv_ ∧ Q_rkL0 Z a1 el h0 n0 vv_ VV_.heap LL_ ∧ FrameEnd UU_ oo_ VV_ LL_ ({ frames := 0, cells := 0, slots := 0, locals := 0 } : Room).cells ({ frames := 0, cells := 0, slots := 0, locals := 0 } : Room).slots) := by
  refine own_met (y := (⟨"java/util/List", "of", "([Ljava/lang/Object;)Ljava/util/List;"⟩ : MethodName)) (plainFor_of_name pn_10) ?_
  intro p e s m below meth c T0 K hx hby hml hret hlk hown hnm hZ X0 e0 hK
  have N0 := Fr.nil n0
  refine Rch.cast (ef_rkL0 m a1) ?_
  refine Rch.of (T' := T0) (g' := (mkF m 1 #[.val (.ref a1), .unset] [(.ref a1)])) (fun _ kt => XS.aloadN X0.here hx rfl (hb hby d_jdk_40_method_47_code_0) rfl rfl kt) ?_
  obtain ⟨cl191, Ar191, Sz191, Ha191⟩ := id V1
  refine Rch.of (T' := T0) (g' := (mkF m 2 #[.val (.ref a1), .unset] [(.int cl191.slots.size.toInt32)])) (X0.arraylength hx (by rw [e0]; exact Ar191.1) (State.isArrayOf_alike hZ.alike Ar191.2.1) (g := (mkF m 1 #[.val (.ref a1), .unset] [(.ref a1)])) rfl rfl (hb hby d_jdk_40_method_47_code_1)) ?_
  rw [oLen Sz191]
  show Rch p e below K T0 (mkF m 2 #[.val (.ref a1), .unset] [(.int (Int32.ofNat 0))])
  have sw192 : (Int32.ofNat 0) = (0 : Int32) := rfl
  rw [sw192]
  show Rch p e below K T0 (mkF m 2 #[.val (.ref a1), .unset] [(.int (0 : Int32))])
  refine Rch.of (T' := T0) (g' := (mkF m 28 #[.val (.ref a1), .unset] [])) (fun _ kt => X0.tableswitchIn hx (g := (mkF m 2 #[.val (.ref a1), .unset] [(.int (0 : Int32))])) rfl rfl (hb hby d_jdk_40_method_47_code_2) (by decide) (off := 26) (by rfl) (by show (0 : Int) ≤ ((2 : Nat) : Int) + 26; decide) _ kt) ?_
  obtain ⟨T193, X193, e193, st193⟩ := getS2 X0 hx hZ hown (host := "") (Or.inl (hw _ (List.mem_of_getElem? (i := 269) rfl))) Via.refl e0 SL (g := (mkF m 28 #[.val (.ref a1), .unset] [])) rfl (hb hby d_jdk_40_method_47_code_28)
  refine Rch.of (T' := T193) (g' := (mkF m 31 #[.val (.ref a1), .unset] [(.ref el)])) st193 ?_
  refine Rch.of (T' := T193) (g' := (mkF m 32 #[.val (.ref a1), .val (.ref el)] [])) (fun _ kt => XS.astoreN X193.here hx rfl (hb hby d_jdk_40_method_47_code_31) rfl rfl (l' := #[.val (.ref a1), .val (.ref el)]) rfl kt) ?_
  refine Rch.of (T' := T193) (g' := (mkF m 33 #[.val (.ref a1), .val (.ref el)] [(.ref el)])) (fun _ kt => XS.aloadN X193.here hx rfl (hb hby d_jdk_40_method_47_code_32) rfl rfl kt) ?_
  exact Rch.retA X193 hx (w := (.ref el)) hret rfl rfl hlk (hb hby d_jdk_40_method_47_code_33) (fun U hU hF => hK _ U _ _ _ (by show Q_rkL0 Z a1 el h0 n0 _ U.heap _; rw [hU, e193]; exact ⟨rfl, N0, rfl⟩) hF (by decide) (by decide))
theorem ef_rkL1 (m : MethodId) (a1 : Addr) : entryFrame m #[(.ref a1)] 2 = mkF m 0 #[.val (.ref a1), .unset] [] := by first | (simp [entryFrame, mkF, argsToLocals, Value.category]; done) | rfl
def Q_rkL1 (Z : State) (a1 : Addr) (e1 : Addr) (eo : Addr) (h0 : Heap) (n0 : Nat) (vv_ : Option Value) (h : Heap) (LL_ : List Loc) : Prop := vv_ = some (.ref h0.size) ∧ Fr n0 LL_ ∧ (Keep h0 h [] ∧ Exa Z h h0.size "java/util/ImmutableCollections$List12")
theorem d_jdk_40_method_47_code_34 : decode jdk_40_method_47_code 34 = .ok (.new 96, 3) := by decide +kernel
theorem d_jdk_40_method_47_code_37 : decode jdk_40_method_47_code 37 = .ok (.dup, 1) := by decide +kernel
theorem d_jdk_40_method_47_code_38 : decode jdk_40_method_47_code 38 = .ok (.aload_n 0, 1) := by decide +kernel
theorem d_jdk_40_method_47_code_39 : decode jdk_40_method_47_code 39 = .ok (.iconst 0, 1) := by decide +kernel
theorem d_jdk_40_method_47_code_40 : decode jdk_40_method_47_code 40 = .ok (.aaload, 1) := by decide +kernel
theorem d_jdk_40_method_47_code_41 : decode jdk_40_method_47_code 41 = .ok (.invokespecial 98, 3) := by decide +kernel
theorem d_jdk_40_method_47_code_44 : decode jdk_40_method_47_code 44 = .ok (.areturn, 1) := by decide +kernel
set_option maxRecDepth 65536 in
set_option maxHeartbeats 40000000 in
theorem rkL1 (l : Launch) (Z : State) (a0 : Array Value) (hw : ∀ d ∈ tables_1, d.before a0 Z = true) (ws : List Jvm.Cond) (a1 : Addr) (e1 : Addr) (eo : Addr) (h0 : Heap) (n0 : Nat) (Z0 : n0 ≤ h0.size) (V1 : Av Z h0 a1 (.object "java/lang/String") 1 (fun q => (fun _ => Value.ref e1) q)) (SE : Sta Z h0 "java/util/ImmutableCollections" "EMPTY" "Ljava/lang/Object;" (.ref eo)) :
    MetFree l (⟨"java/util/List", "of", "([Ljava/lang/Object;)Ljava/util/List;"⟩ : MethodName) (head1 (Jvm.Cond.code (⟨"java/util/List", "of", "([Ljava/lang/Object;)Ljava/util/List;"⟩ : MethodName) jdk_40_method_47_code 2 (some (.object "java/util/List")) :: ws) ({ frames := 5, cells := 1, slots := 2, locals := 62 } : Room)) (fun aa_ UU_ => aa_ = #[(.ref a1)] ∧ Z.Warmed39 UU_.vm ∧ UU_.heap = h0) (fun _ _ _ _ _ => True) (fun _ UU_ oo_ VV_ => ∃ vv_ LL_, oo_ = .returned vv_ ∧ Q_rkL1 Z a1 e1 eo h0 n0 vv_ VV_.heap LL_ ∧ FrameEnd UU_ oo_ VV_ LL_ ({ frames := 5, cells := 1, slots := 2, locals := 62 } : Room).cells ({ frames := 5, cells := 1, slots := 2, locals := 62 } : Room).slots) := by
  refine own_met (y := (⟨"java/util/List", "of", "([Ljava/lang/Object;)Ljava/util/List;"⟩ : MethodName)) (plainFor_of_name pn_10) ?_
  intro p e s m below meth c T0 K hx hby hml hret hlk hown hnm hZ X0 e0 hK
  have N0 := Fr.nil n0
  refine Rch.cast (ef_rkL1 m a1) ?_
  refine Rch.of (T' := T0) (g' := (mkF m 1 #[.val (.ref a1), .unset] [(.ref a1)])) (fun _ kt => XS.aloadN X0.here hx rfl (hb hby d_jdk_40_method_47_code_0) rfl rfl kt) ?_
  obtain ⟨cl194, Ar194, Sz194, Ha194⟩ := id V1
  refine Rch.of (T' := T0) (g' := (mkF m 2 #[.val (.ref a1), .unset] [(.int cl194.slots.size.toInt32)])) (X0.arraylength hx (by rw [e0]; exact Ar194.1) (State.isArrayOf_alike hZ.alike Ar194.2.1) (g := (mkF m 1 #[.val (.ref a1), .unset] [(.ref a1)])) rfl rfl (hb hby d_jdk_40_method_47_code_1)) ?_
  rw [oLen Sz194]
  show Rch p e below K T0 (mkF m 2 #[.val (.ref a1), .unset] [(.int (Int32.ofNat 1))])
  have sw195 : (Int32.ofNat 1) = (1 : Int32) := rfl
  rw [sw195]
  show Rch p e below K T0 (mkF m 2 #[.val (.ref a1), .unset] [(.int (1 : Int32))])
  refine Rch.of (T' := T0) (g' := (mkF m 34 #[.val (.ref a1), .unset] [])) (fun _ kt => X0.tableswitchIn hx (g := (mkF m 2 #[.val (.ref a1), .unset] [(.int (1 : Int32))])) rfl rfl (hb hby d_jdk_40_method_47_code_2) (by decide) (off := 32) (by rfl) (by show (0 : Int) ≤ ((2 : Nat) : Int) + 32; decide) _ kt) ?_
  obtain ⟨T196, h196, X196, e196, E196, A196, D196, -, st196⟩ := newO X0 hx hZ hown (hw _ (List.mem_of_getElem? (i := 69) rfl)) (hw _ (List.mem_of_getElem? (i := 70) rfl)) (hw _ (List.mem_of_getElem? (i := 71) rfl)) e0 (g := (mkF m 34 #[.val (.ref a1), .unset] [])) rfl (hb hby d_jdk_40_method_47_code_34) (by decide) (by decide)
  obtain ⟨b196, g196⟩ : ∃ zz_, zz_ = h0.size := ⟨_, rfl⟩
  have ne_a1_b196 : a1 ≠ b196 := Nat.ne_of_lt (Nat.lt_of_lt_of_le V1.lt (Nat.le_of_eq g196.symm))
  have ge_b196 : n0 ≤ b196 := Nat.le_trans Z0 (Nat.le_of_eq g196.symm)
  have sz_b196 : h0.size ≤ b196 := Nat.le_trans (Keep.refl h0 []).1 (Nat.le_of_eq g196.symm)
  rw [← g196] at A196 D196 st196
  have F196_e0 : Fld Z h196 b196 "java/util/ImmutableCollections$List12" "e0" "Ljava/lang/Object;" .null := D196 (Or.inr (hw _ (List.mem_of_getElem? (i := 99) rfl))) (ty := (.object "java/lang/Object")) (by decide)
  have F196_e1 : Fld Z h196 b196 "java/util/ImmutableCollections$List12" "e1" "Ljava/lang/Object;" .null := D196 (Or.inr (hw _ (List.mem_of_getElem? (i := 103) rfl))) (ty := (.object "java/lang/Object")) (by decide)
  refine Rch.of (T' := T196) (g' := (mkF m 37 #[.val (.ref a1), .unset] [(.ref b196)])) st196 ?_
  refine Rch.of (T' := T196) (g' := (mkF m 38 #[.val (.ref a1), .unset] [(.ref b196), (.ref b196)])) (fun _ kt => XS.dup X196.here hx rfl (hb hby d_jdk_40_method_47_code_37) rfl rfl kt) ?_
  refine Rch.of (T' := T196) (g' := (mkF m 39 #[.val (.ref a1), .unset] [(.ref a1), (.ref b196), (.ref b196)])) (fun _ kt => XS.aloadN X196.here hx rfl (hb hby d_jdk_40_method_47_code_38) rfl rfl kt) ?_
  refine Rch.of (T' := T196) (g' := (mkF m 40 #[.val (.ref a1), .unset] [(.int (0 : Int32)), (.ref a1), (.ref b196), (.ref b196)])) (fun _ kt => XS.iconst X196.here hx rfl (hb hby d_jdk_40_method_47_code_39) kt) ?_
  obtain ⟨cl197, Ar197, Sz197, Ha197⟩ := id (V1.ext E196)
  have hval197 : ((fun _ => Value.ref e1)) 0 = (.ref e1) := rfl
  refine Rch.of (T' := T196) (g' := (mkF m 41 #[.val (.ref a1), .unset] [(.ref e1), (.ref b196), (.ref b196)])) (X196.aaload hx (j := (0 : Int32)) (v := (.ref e1)) (by rw [e196]; exact Ar197.1) (State.isArrayOf_alike hZ.alike Ar197.2.1) rfl Ar197.2.2 (oIn (i := 0) Sz197 (by decide) (by decide)) (by rw [← hval197]; exact oAt (i := 0) Ha197 (by decide) (by decide)) (g := (mkF m 40 #[.val (.ref a1), .unset] [(.int (0 : Int32)), (.ref a1), (.ref b196), (.ref b196)])) rfl rfl (hb hby d_jdk_40_method_47_code_40)) ?_
  obtain ⟨_, _, ⟨T198, L198, k198, n198⟩, -, X198, ⟨Lc198, hQ198, l198, y198, z198⟩, st198⟩ := X196.specialBack hx (y := (⟨"java/util/ImmutableCollections$List12", "<init>", "(Ljava/lang/Object;)V"⟩ : MethodName)) rfl hown (mvT hZ (hw _ (List.mem_of_getElem? (i := 72) rfl))) (mvT hZ (hw _ (List.mem_of_getElem? (i := 73) rfl))) (mvT hZ (hw _ (List.mem_of_getElem? (i := 75) rfl))) (by decide) (backOf (W := 1) (rkLI l Z a0 hw [] b196 e1 eo .null .null h196 n0 (Nat.le_trans Z0 E196.1) A196 F196_e0 F196_e1 ge_b196 (SE.ext E196)) hZ (hw _ (List.mem_of_getElem? (i := 75) rfl)) (hw _ (List.mem_of_getElem? (i := 71) rfl)) (by decide) (by decide)) (g := (mkF m 41 #[.val (.ref a1), .unset] [(.ref e1), (.ref b196), (.ref b196)])) rfl (by rw [hml]; rfl) (Steps.refl _) (a := b196) (argsL := [(.ref e1)]) (rest := [(.ref b196)]) (lenOf pd_13 rfl) rfl (by show 2 * 0 + _ ≤ _; exact Nat.le_of_eq rfl) (hb hby d_jdk_40_method_47_code_41) (fun _ _ => ⟨rfl, e196, (by decide : 1 + 0 ≤ _), (by decide : 2 + 0 ≤ _)⟩)
  dsimp only [Pt.U, Pt.locs, Pt.cells, Pt.slots] at X198 l198 y198 z198 st198 hQ198
  subst l198 y198 z198
  obtain ⟨rfl, N198q, hQ198⟩ := hQ198
  have N198 := Fr.app N0 N198q
  obtain ⟨K198, Ex198⟩ := hQ198
  refine Rch.via (T' := T198) (g' := (mkF m 44 #[.val (.ref a1), .unset] [(.ref b196)])) st198 ?_
  exact Rch.retA X198 hx (w := (.ref b196)) hret rfl rfl hlk (hb hby d_jdk_40_method_47_code_44) (fun U hU hF => hK _ U _ _ _ (by show Q_rkL1 Z a1 e1 eo h0 n0 _ U.heap _; rw [hU]; exact ⟨by rw [g196], N198, by rw [← g196]; exact ⟨(((Keep.refl h0 []).ext E196).trans K198 (allS (Or.inr sz_b196) all0)), Ex198⟩⟩) hF (by decide) (by decide))
theorem pn_11 : plainName "java/util/ImmutableCollections" = true := by first | (simp [plainName, overriddenIn]; done) | decide +kernel
theorem ef_rkLCa (m : MethodId) (a1 : Addr) : entryFrame m #[(.ref a1)] 2 = mkF m 0 #[.val (.ref a1), .unset] [] := by first | (simp [entryFrame, mkF, argsToLocals, Value.category]; done) | rfl
def Q_rkLCa (Z : State) (a1 : Addr) (h0 : Heap) (n0 : Nat) (vv_ : Option Value) (h : Heap) (LL_ : List Loc) : Prop := vv_ = some (.ref a1) ∧ Fr n0 LL_ ∧ (h = h0)
theorem d_jdk_56_method_3_code_0 : decode jdk_56_method_3_code 0 = .ok (.aload_n 0, 1) := by decide +kernel
theorem d_jdk_56_method_3_code_1 : decode jdk_56_method_3_code 1 = .ok (.instanceof 10, 3) := by decide +kernel
theorem d_jdk_56_method_3_code_4 : decode jdk_56_method_3_code 4 = .ok (.ifCond .ne 22, 3) := by decide +kernel
theorem d_jdk_56_method_3_code_26 : decode jdk_56_method_3_code 26 = .ok (.aload_n 0, 1) := by decide +kernel
theorem d_jdk_56_method_3_code_27 : decode jdk_56_method_3_code 27 = .ok (.checkcast 18, 3) := by decide +kernel
theorem d_jdk_56_method_3_code_30 : decode jdk_56_method_3_code 30 = .ok (.areturn, 1) := by decide +kernel
set_option maxRecDepth 65536 in
set_option maxHeartbeats 40000000 in
theorem rkLCa (l : Launch) (Z : State) (a0 : Array Value) (hw : ∀ d ∈ tables_1, d.before a0 Z = true) (ws : List Jvm.Cond) (a1 : Addr) (h0 : Heap) (n0 : Nat) (Z0 : n0 ≤ h0.size) (E1 : Exa Z h0 a1 "java/util/ImmutableCollections$List12") :
    MetFree l (⟨"java/util/ImmutableCollections", "listCopy", "(Ljava/util/Collection;)Ljava/util/List;"⟩ : MethodName) (head1 (Jvm.Cond.code (⟨"java/util/ImmutableCollections", "listCopy", "(Ljava/util/Collection;)Ljava/util/List;"⟩ : MethodName) jdk_56_method_3_code 2 (some (.object "java/util/List")) :: ws) ({ frames := 0, cells := 0, slots := 0, locals := 0 } : Room)) (fun aa_ UU_ => aa_ = #[(.ref a1)] ∧ Z.Warmed39 UU_.vm ∧ UU_.heap = h0) (fun _ _ _ _ _ => True) (fun _ UU_ oo_ VV_ => ∃ vv_ LL_, oo_ = .returned vv_ ∧ Q_rkLCa Z a1 h0 n0 vv_ VV_.heap LL_ ∧ FrameEnd UU_ oo_ VV_ LL_ ({ frames := 0, cells := 0, slots := 0, locals := 0 } : Room).cells ({ frames := 0, cells := 0, slots := 0, locals := 0 } : Room).slots) := by
  refine own_met (y := (⟨"java/util/ImmutableCollections", "listCopy", "(Ljava/util/Collection;)Ljava/util/List;"⟩ : MethodName)) (plainFor_of_name pn_11) ?_
  intro p e s m below meth c T0 K hx hby hml hret hlk hown hnm hZ X0 e0 hK
  have N0 := Fr.nil n0
  refine Rch.cast (ef_rkLCa m a1) ?_
  refine Rch.of (T' := T0) (g' := (mkF m 1 #[.val (.ref a1), .unset] [(.ref a1)])) (fun _ kt => XS.aloadN X0.here hx rfl (hb hby d_jdk_56_method_3_code_0) rfl rfl kt) ?_
  obtain ⟨T199, X199, e199, st199⟩ := instY X0 hx hZ hown (hw _ (List.mem_of_getElem? (i := 265) rfl)) e0 (Ins.of_exa E1 (hw _ (List.mem_of_getElem? (i := 74) rfl))) (g := (mkF m 1 #[.val (.ref a1), .unset] [(.ref a1)])) rfl rfl (hb hby d_jdk_56_method_3_code_1)
  refine Rch.of (T' := T199) (g' := (mkF m 4 #[.val (.ref a1), .unset] [(.int (1 : Int32))])) st199 ?_
  refine Rch.of (T' := T199) (g' := (mkF m 26 #[.val (.ref a1), .unset] [])) (fun _ kt => XS.ifYes X199.here hx rfl (pc0 := 4) (pc' := 26) rfl (hb hby d_jdk_56_method_3_code_4) rfl ((if0 _ _).trans (feq ((by decide) : ¬ ((1 : Int32) = (0 : Int32)))).2) (by decide) (by decide) kt) ?_
  refine Rch.of (T' := T199) (g' := (mkF m 27 #[.val (.ref a1), .unset] [(.ref a1)])) (fun _ kt => XS.aloadN X199.here hx rfl (hb hby d_jdk_56_method_3_code_26) rfl rfl kt) ?_
  obtain ⟨T200, X200, e200, st200⟩ := castY X199 hx hZ hown (hw _ (List.mem_of_getElem? (i := 266) rfl)) e199 (Ins.of_exa E1 (hw _ (List.mem_of_getElem? (i := 267) rfl))) (g := (mkF m 27 #[.val (.ref a1), .unset] [(.ref a1)])) rfl rfl (hb hby d_jdk_56_method_3_code_27)
  refine Rch.of (T' := T200) (g' := (mkF m 30 #[.val (.ref a1), .unset] [(.ref a1)])) st200 ?_
  exact Rch.retA X200 hx (w := (.ref a1)) hret rfl rfl hlk (hb hby d_jdk_56_method_3_code_30) (fun U hU hF => hK _ U _ _ _ (by show Q_rkLCa Z a1 h0 n0 _ U.heap _; rw [hU, e200]; exact ⟨rfl, N0, rfl⟩) hF (by decide) (by decide))
theorem ef_rkLCb (m : MethodId) (a1 : Addr) : entryFrame m #[(.ref a1)] 2 = mkF m 0 #[.val (.ref a1), .unset] [] := by first | (simp [entryFrame, mkF, argsToLocals, Value.category]; done) | rfl
def Q_rkLCb (Z : State) (a1 : Addr) (h0 : Heap) (n0 : Nat) (vv_ : Option Value) (h : Heap) (LL_ : List Loc) : Prop := vv_ = some (.ref a1) ∧ Fr n0 LL_ ∧ (h = h0)
theorem d_jdk_56_method_3_code_7 : decode jdk_56_method_3_code 7 = .ok (.aload_n 0, 1) := by decide +kernel
theorem d_jdk_56_method_3_code_8 : decode jdk_56_method_3_code 8 = .ok (.instanceof 12, 3) := by decide +kernel
theorem d_jdk_56_method_3_code_11 : decode jdk_56_method_3_code 11 = .ok (.ifCond .eq 20, 3) := by decide +kernel
theorem d_jdk_56_method_3_code_14 : decode jdk_56_method_3_code 14 = .ok (.aload_n 0, 1) := by decide +kernel
theorem d_jdk_56_method_3_code_15 : decode jdk_56_method_3_code 15 = .ok (.checkcast 12, 3) := by decide +kernel
theorem d_jdk_56_method_3_code_18 : decode jdk_56_method_3_code 18 = .ok (.astore_n 1, 1) := by decide +kernel
theorem d_jdk_56_method_3_code_19 : decode jdk_56_method_3_code 19 = .ok (.aload_n 1, 1) := by decide +kernel
theorem d_jdk_56_method_3_code_20 : decode jdk_56_method_3_code 20 = .ok (.getfield 14, 3) := by decide +kernel
theorem d_jdk_56_method_3_code_23 : decode jdk_56_method_3_code 23 = .ok (.ifCond .ne 8, 3) := by decide +kernel
set_option maxRecDepth 65536 in
set_option maxHeartbeats 40000000 in
theorem rkLCb (l : Launch) (Z : State) (a0 : Array Value) (hw : ∀ d ∈ tables_1, d.before a0 Z = true) (ws : List Jvm.Cond) (a1 : Addr) (h0 : Heap) (n0 : Nat) (Z0 : n0 ≤ h0.size) (E1 : Exa Z h0 a1 "java/util/ImmutableCollections$ListN") (Fn : Fld Z h0 a1 "java/util/ImmutableCollections$ListN" "allowNulls" "Z" (.int (0 : Int32))) :
    MetFree l (⟨"java/util/ImmutableCollections", "listCopy", "(Ljava/util/Collection;)Ljava/util/List;"⟩ : MethodName) (head1 (Jvm.Cond.code (⟨"java/util/ImmutableCollections", "listCopy", "(Ljava/util/Collection;)Ljava/util/List;"⟩ : MethodName) jdk_56_method_3_code 2 (some (.object "java/util/List")) :: ws) ({ frames := 0, cells := 0, slots := 0, locals := 0 } : Room)) (fun aa_ UU_ => aa_ = #[(.ref a1)] ∧ Z.Warmed39 UU_.vm ∧ UU_.heap = h0) (fun _ _ _ _ _ => True) (fun _ UU_ oo_ VV_ => ∃ vv_ LL_, oo_ = .returned vv_ ∧ Q_rkLCb Z a1 h0 n0 vv_ VV_.heap LL_ ∧ FrameEnd UU_ oo_ VV_ LL_ ({ frames := 0, cells := 0, slots := 0, locals := 0 } : Room).cells ({ frames := 0, cells := 0, slots := 0, locals := 0 } : Room).slots) := by
  refine own_met (y := (⟨"java/util/ImmutableCollections", "listCopy", "(Ljava/util/Collection;)Ljava/util/List;"⟩ : MethodName)) (plainFor_of_name pn_11) ?_
  intro p e s m below meth c T0 K hx hby hml hret hlk hown hnm hZ X0 e0 hK
  have N0 := Fr.nil n0
  refine Rch.cast (ef_rkLCb m a1) ?_
  refine Rch.of (T' := T0) (g' := (mkF m 1 #[.val (.ref a1), .unset] [(.ref a1)])) (fun _ kt => XS.aloadN X0.here hx rfl (hb hby d_jdk_56_method_3_code_0) rfl rfl kt) ?_
  obtain ⟨T201, X201, e201, st201⟩ := instNo X0 hx hZ hown (hw _ (List.mem_of_getElem? (i := 265) rfl)) e0 E1 (own_nsno (hw _ (List.mem_of_getElem? (i := 270) rfl)) (hw _ (List.mem_of_getElem? (i := 70) rfl)) (NS.step (hw _ (List.mem_of_getElem? (i := 270) rfl)) (NS.step (hw _ (List.mem_of_getElem? (i := 271) rfl)) (NS.step (hw _ (List.mem_of_getElem? (i := 272) rfl)) (NS.step (hw _ (List.mem_of_getElem? (i := 273) rfl)) (own_nsroot (hw _ (List.mem_of_getElem? (i := 274) rfl)) (hw _ (List.mem_of_getElem? (i := 70) rfl)) (by decide)) (by decide)) (by decide)) (by decide)) (by decide)) (by decide)) (g := (mkF m 1 #[.val (.ref a1), .unset] [(.ref a1)])) rfl rfl (hb hby d_jdk_56_method_3_code_1)
  refine Rch.of (T' := T201) (g' := (mkF m 4 #[.val (.ref a1), .unset] [(.int (0 : Int32))])) st201 ?_
  refine Rch.of (T' := T201) (g' := (mkF m 7 #[.val (.ref a1), .unset] [])) (fun _ kt => XS.ifNo X201.here hx rfl (hb hby d_jdk_56_method_3_code_4) rfl ((if0 _ _).trans (teq ((by decide) : (0 : Int32) = (0 : Int32))).2) kt) ?_
  refine Rch.of (T' := T201) (g' := (mkF m 8 #[.val (.ref a1), .unset] [(.ref a1)])) (fun _ kt => XS.aloadN X201.here hx rfl (hb hby d_jdk_56_method_3_code_7) rfl rfl kt) ?_
  obtain ⟨T202, X202, e202, st202⟩ := instY X201 hx hZ hown (hw _ (List.mem_of_getElem? (i := 275) rfl)) e201 (Ins.of_exa E1 (hw _ (List.mem_of_getElem? (i := 276) rfl))) (g := (mkF m 8 #[.val (.ref a1), .unset] [(.ref a1)])) rfl rfl (hb hby d_jdk_56_method_3_code_8)
  refine Rch.of (T' := T202) (g' := (mkF m 11 #[.val (.ref a1), .unset] [(.int (1 : Int32))])) st202 ?_
  refine Rch.of (T' := T202) (g' := (mkF m 14 #[.val (.ref a1), .unset] [])) (fun _ kt => XS.ifNo X202.here hx rfl (hb hby d_jdk_56_method_3_code_11) rfl ((if0 _ _).trans (feq ((by decide) : ¬ ((1 : Int32) = (0 : Int32)))).1) kt) ?_
  refine Rch.of (T' := T202) (g' := (mkF m 15 #[.val (.ref a1), .unset] [(.ref a1)])) (fun _ kt => XS.aloadN X202.here hx rfl (hb hby d_jdk_56_method_3_code_14) rfl rfl kt) ?_
  obtain ⟨T203, X203, e203, st203⟩ := castY X202 hx hZ hown (hw _ (List.mem_of_getElem? (i := 275) rfl)) e202 (Ins.of_exa E1 (hw _ (List.mem_of_getElem? (i := 276) rfl))) (g := (mkF m 15 #[.val (.ref a1), .unset] [(.ref a1)])) rfl rfl (hb hby d_jdk_56_method_3_code_15)
  refine Rch.of (T' := T203) (g' := (mkF m 18 #[.val (.ref a1), .unset] [(.ref a1)])) st203 ?_
  refine Rch.of (T' := T203) (g' := (mkF m 19 #[.val (.ref a1), .val (.ref a1)] [])) (fun _ kt => XS.astoreN X203.here hx rfl (hb hby d_jdk_56_method_3_code_18) rfl rfl (l' := #[.val (.ref a1), .val (.ref a1)]) rfl kt) ?_
  refine Rch.of (T' := T203) (g' := (mkF m 20 #[.val (.ref a1), .val (.ref a1)] [(.ref a1)])) (fun _ kt => XS.aloadN X203.here hx rfl (hb hby d_jdk_56_method_3_code_19) rfl rfl kt) ?_
  obtain ⟨T204, X204, e204, st204⟩ := getF X203 hx hZ hown (Or.inr (hw _ (List.mem_of_getElem? (i := 277) rfl))) Via.refl e203 Fn (g := (mkF m 20 #[.val (.ref a1), .val (.ref a1)] [(.ref a1)])) rfl rfl (hb hby d_jdk_56_method_3_code_20)
  refine Rch.of (T' := T204) (g' := (mkF m 23 #[.val (.ref a1), .val (.ref a1)] [(.int (0 : Int32))])) st204 ?_
  refine Rch.of (T' := T204) (g' := (mkF m 26 #[.val (.ref a1), .val (.ref a1)] [])) (fun _ kt => XS.ifNo X204.here hx rfl (hb hby d_jdk_56_method_3_code_23) rfl ((if0 _ _).trans (teq ((by decide) : (0 : Int32) = (0 : Int32))).2) kt) ?_
  refine Rch.of (T' := T204) (g' := (mkF m 27 #[.val (.ref a1), .val (.ref a1)] [(.ref a1)])) (fun _ kt => XS.aloadN X204.here hx rfl (hb hby d_jdk_56_method_3_code_26) rfl rfl kt) ?_
  obtain ⟨T205, X205, e205, st205⟩ := castY X204 hx hZ hown (hw _ (List.mem_of_getElem? (i := 266) rfl)) e204 (Ins.of_exa E1 (hw _ (List.mem_of_getElem? (i := 279) rfl))) (g := (mkF m 27 #[.val (.ref a1), .val (.ref a1)] [(.ref a1)])) rfl rfl (hb hby d_jdk_56_method_3_code_27)
  refine Rch.of (T' := T205) (g' := (mkF m 30 #[.val (.ref a1), .val (.ref a1)] [(.ref a1)])) st205 ?_
  exact Rch.retA X205 hx (w := (.ref a1)) hret rfl rfl hlk (hb hby d_jdk_56_method_3_code_30) (fun U hU hF => hK _ U _ _ _ (by show Q_rkLCb Z a1 h0 n0 _ U.heap _; rw [hU, e205]; exact ⟨rfl, N0, rfl⟩) hF (by decide) (by decide))
theorem ef_rkCOa (m : MethodId) (a1 : Addr) : entryFrame m #[(.ref a1)] 1 = mkF m 0 #[.val (.ref a1)] [] := by first | (simp [entryFrame, mkF, argsToLocals, Value.category]; done) | rfl
def Q_rkCOa (Z : State) (a1 : Addr) (h0 : Heap) (n0 : Nat) (vv_ : Option Value) (h : Heap) (LL_ : List Loc) : Prop := vv_ = some (.ref a1) ∧ Fr n0 LL_ ∧ (h = h0)
theorem d_jdk_40_method_48_code_0 : decode jdk_40_method_48_code 0 = .ok (.aload_n 0, 1) := by decide +kernel
theorem d_jdk_40_method_48_code_1 : decode jdk_40_method_48_code 1 = .ok (.invokestatic 112, 3) := by decide +kernel
theorem d_jdk_40_method_48_code_4 : decode jdk_40_method_48_code 4 = .ok (.areturn, 1) := by decide +kernel
set_option maxRecDepth 65536 in
set_option maxHeartbeats 40000000 in
theorem rkCOa (l : Launch) (Z : State) (a0 : Array Value) (hw : ∀ d ∈ tables_1, d.before a0 Z = true) (ws : List Jvm.Cond) (a1 : Addr) (h0 : Heap) (n0 : Nat) (Z0 : n0 ≤ h0.size) (E1 : Exa Z h0 a1 "java/util/ImmutableCollections$List12") :
    MetFree l (⟨"java/util/List", "copyOf", "(Ljava/util/Collection;)Ljava/util/List;"⟩ : MethodName) (head1 (Jvm.Cond.code (⟨"java/util/List", "copyOf", "(Ljava/util/Collection;)Ljava/util/List;"⟩ : MethodName) jdk_40_method_48_code 1 (some (.object "java/util/List")) :: ws) ({ frames := 1, cells := 0, slots := 0, locals := 13 } : Room)) (fun aa_ UU_ => aa_ = #[(.ref a1)] ∧ Z.Warmed39 UU_.vm ∧ UU_.heap = h0) (fun _ _ _ _ _ => True) (fun _ UU_ oo_ VV_ => ∃ vv_ LL_, oo_ = .returned vv_ ∧ Q_rkCOa Z a1 h0 n0 vv_ VV_.heap LL_ ∧ FrameEnd UU_ oo_ VV_ LL_ ({ frames := 1, cells := 0, slots := 0, locals := 13 } : Room).cells ({ frames := 1, cells := 0, slots := 0, locals := 13 } : Room).slots) := by
  refine own_met (y := (⟨"java/util/List", "copyOf", "(Ljava/util/Collection;)Ljava/util/List;"⟩ : MethodName)) (plainFor_of_name pn_10) ?_
  intro p e s m below meth c T0 K hx hby hml hret hlk hown hnm hZ X0 e0 hK
  have N0 := Fr.nil n0
  refine Rch.cast (ef_rkCOa m a1) ?_
  refine Rch.of (T' := T0) (g' := (mkF m 1 #[.val (.ref a1)] [(.ref a1)])) (fun _ kt => XS.aloadN X0.here hx rfl (hb hby d_jdk_40_method_48_code_0) rfl rfl kt) ?_
  obtain ⟨_, _, ⟨T206, L206, k206, n206⟩, -, X206, ⟨Lc206, hQ206, l206, y206, z206⟩, st206⟩ := Jvm.LawKit.callS X0 hx (y := (⟨"java/util/ImmutableCollections", "listCopy", "(Ljava/util/Collection;)Ljava/util/List;"⟩ : MethodName)) hown (mvT hZ (hw _ (List.mem_of_getElem? (i := 262) rfl))) (mvT hZ (hw _ (List.mem_of_getElem? (i := 263) rfl))) (mvT hZ (hw _ (List.mem_of_getElem? (i := 101) rfl))) (mvT hZ (hw _ (List.mem_of_getElem? (i := 264) rfl))) (by decide) (backOf (W := 0) (rkLCa l Z a0 hw [] a1 h0 n0 Z0 E1) hZ (hw _ (List.mem_of_getElem? (i := 264) rfl)) (hw _ (List.mem_of_getElem? (i := 101) rfl)) (by decide) (by decide)) (g := (mkF m 1 #[.val (.ref a1)] [(.ref a1)])) rfl (by rw [hml]; rfl) (argsL := [(.ref a1)]) (rest := []) (lenOf pd_37 rfl) rfl (by show 2 * 0 + _ ≤ _; exact Nat.le_of_eq rfl) (hb hby d_jdk_40_method_48_code_1) (fun _ _ => ⟨rfl, e0, (by decide : 0 + 0 ≤ _), (by decide : 0 + 0 ≤ _)⟩)
  dsimp only [Pt.U, Pt.locs, Pt.cells, Pt.slots] at X206 l206 y206 z206 st206 hQ206
  subst l206 y206 z206
  obtain ⟨rfl, N206q, hQ206⟩ := hQ206
  have N206 := Fr.app N0 N206q
  refine Rch.of (T' := T206) (g' := (mkF m 4 #[.val (.ref a1)] [(.ref a1)])) st206 ?_
  exact Rch.retA X206 hx (w := (.ref a1)) hret rfl rfl hlk (hb hby d_jdk_40_method_48_code_4) (fun U hU hF => hK _ U _ _ _ (by show Q_rkCOa Z a1 h0 n0 _ U.heap _; rw [hU, hQ206]; exact ⟨rfl, N206, rfl⟩) hF (by decide) (by decide))
theorem ef_rkCOb (m : MethodId) (a1 : Addr) : entryFrame m #[(.ref a1)] 1 = mkF m 0 #[.val (.ref a1)] [] := by first | (simp [entryFrame, mkF, argsToLocals, Value.category]; done) | rfl
def Q_rkCOb (Z : State) (a1 : Addr) (h0 : Heap) (n0 : Nat) (vv_ : Option Value) (h : Heap) (LL_ : List Loc) : Prop := vv_ = some (.ref a1) ∧ Fr n0 LL_ ∧ (h = h0)
set_option maxRecDepth 65536 in
set_option maxHeartbeats 40000000 in
theorem rkCOb (l : Launch) (Z : State) (a0 : Array Value) (hw : ∀ d ∈ tables_1, d.before a0 Z = true) (ws : List Jvm.Cond) (a1 : Addr) (h0 : Heap) (n0 : Nat) (Z0 : n0 ≤ h0.size) (E1 : Exa Z h0 a1 "java/util/ImmutableCollections$ListN") (Fn : Fld Z h0 a1 "java/util/ImmutableCollections$ListN" "allowNulls" "Z" (.int (0 : Int32))) :
    MetFree l (⟨"java/util/List", "copyOf", "(Ljava/util/Collection;)Ljava/util/List;"⟩ : MethodName) (head1 (Jvm.Cond.code (⟨"java/util/List", "copyOf", "(Ljava/util/Collection;)Ljava/util/List;"⟩ : MethodName) jdk_40_method_48_code 1 (some (.object "java/util/List")) :: ws) ({ frames := 1, cells := 0, slots := 0, locals := 13 } : Room)) (fun aa_ UU_ => aa_ = #[(.ref a1)] ∧ Z.Warmed39 UU_.vm ∧ UU_.heap = h0) (fun _ _ _ _ _ => True) (fun _ UU_ oo_ VV_ => ∃ vv_ LL_, oo_ = .returned vv_ ∧ Q_rkCOb Z a1 h0 n0 vv_ VV_.heap LL_ ∧ FrameEnd UU_ oo_ VV_ LL_ ({ frames := 1, cells := 0, slots := 0, locals := 13 } : Room).cells ({ frames := 1, cells := 0, slots := 0, locals := 13 } : Room).slots) := by
  refine own_met (y := (⟨"java/util/List", "copyOf", "(Ljava/util/Collection;)Ljava/util/List;"⟩ : MethodName)) (plainFor_of_name pn_10) ?_
  intro p e s m below meth c T0 K hx hby hml hret hlk hown hnm hZ X0 e0 hK
  have N0 := Fr.nil n0
  refine Rch.cast (ef_rkCOb m a1) ?_
  refine Rch.of (T' := T0) (g' := (mkF m 1 #[.val (.ref a1)] [(.ref a1)])) (fun _ kt => XS.aloadN X0.here hx rfl (hb hby d_jdk_40_method_48_code_0) rfl rfl kt) ?_
  obtain ⟨_, _, ⟨T207, L207, k207, n207⟩, -, X207, ⟨Lc207, hQ207, l207, y207, z207⟩, st207⟩ := Jvm.LawKit.callS X0 hx (y := (⟨"java/util/ImmutableCollections", "listCopy", "(Ljava/util/Collection;)Ljava/util/List;"⟩ : MethodName)) hown (mvT hZ (hw _ (List.mem_of_getElem? (i := 262) rfl))) (mvT hZ (hw _ (List.mem_of_getElem? (i := 263) rfl))) (mvT hZ (hw _ (List.mem_of_getElem? (i := 101) rfl))) (mvT hZ (hw _ (List.mem_of_getElem? (i := 264) rfl))) (by decide) (backOf (W := 0) (rkLCb l Z a0 hw [] a1 h0 n0 Z0 E1 Fn) hZ (hw _ (List.mem_of_getElem? (i := 264) rfl)) (hw _ (List.mem_of_getElem? (i := 101) rfl)) (by decide) (by decide)) (g := (mkF m 1 #[.val (.ref a1)] [(.ref a1)])) rfl (by rw [hml]; rfl) (argsL := [(.ref a1)]) (rest := []) (lenOf pd_37 rfl) rfl (by show 2 * 0 + _ ≤ _; exact Nat.le_of_eq rfl) (hb hby d_jdk_40_method_48_code_1) (fun _ _ => ⟨rfl, e0, (by decide : 0 + 0 ≤ _), (by decide : 0 + 0 ≤ _)⟩)
  dsimp only [Pt.U, Pt.locs, Pt.cells, Pt.slots] at X207 l207 y207 z207 st207 hQ207
  subst l207 y207 z207
  obtain ⟨rfl, N207q, hQ207⟩ := hQ207
  have N207 := Fr.app N0 N207q
  refine Rch.of (T' := T207) (g' := (mkF m 4 #[.val (.ref a1)] [(.ref a1)])) st207 ?_
  exact Rch.retA X207 hx (w := (.ref a1)) hret rfl rfl hlk (hb hby d_jdk_40_method_48_code_4) (fun U hU hF => hK _ U _ _ _ (by show Q_rkCOb Z a1 h0 n0 _ U.heap _; rw [hU, hQ207]; exact ⟨rfl, N207, rfl⟩) hF (by decide) (by decide))
theorem pn_12 : plainName "java/lang/AbstractStringBuilder" = true := by first | (simp [plainName, overriddenIn]; done) | decide +kernel
theorem ef_rkB1 (m : MethodId) (a1 : Addr) : entryFrame m #[(.ref a1), (.int (16 : Int32))] 2 = mkF m 0 #[.val (.ref a1), .val (.int (16 : Int32))] [] := by first | (simp [entryFrame, mkF, argsToLocals, Value.category]; done) | rfl
def Q_rkB1 (Z : State) (a1 : Addr) (u1 : Value) (u2 : Value) (cs : Int32) (h0 : Heap) (n0 : Nat) (vv_ : Option Value) (h : Heap) (LL_ : List Loc) : Prop := vv_ = none ∧ Fr n0 LL_ ∧ (Keep h0 h [a1] ∧ Exa Z h a1 "java/lang/StringBuilder" ∧ Fld Z h a1 "java/lang/AbstractStringBuilder" "value" "[B" (.ref h0.size) ∧ Fld Z h a1 "java/lang/AbstractStringBuilder" "coder" "B" (.int (0 : Int32)) ∧ Fld Z h a1 "java/lang/AbstractStringBuilder" "count" "I" (.int (0 : Int32)) ∧ Av Z h h0.size .byte 16 (fun q => .int ((own_z0 q).toInt8.toInt32)))
theorem d_jdk_68_method_2_code_0 : decode jdk_68_method_2_code 0 = .ok (.aload_n 0, 1) := by decide +kernel
theorem d_jdk_68_method_2_code_1 : decode jdk_68_method_2_code 1 = .ok (.invokespecial 3, 3) := by decide +kernel
theorem d_jdk_68_method_2_code_4 : decode jdk_68_method_2_code 4 = .ok (.getstatic 18, 3) := by decide +kernel
theorem d_jdk_68_method_2_code_7 : decode jdk_68_method_2_code 7 = .ok (.ifCond .eq 18, 3) := by decide +kernel
theorem d_jdk_68_method_2_code_10 : decode jdk_68_method_2_code 10 = .ok (.aload_n 0, 1) := by decide +kernel
theorem d_jdk_68_method_2_code_11 : decode jdk_68_method_2_code 11 = .ok (.iload_n 1, 1) := by decide +kernel
theorem d_jdk_68_method_2_code_12 : decode jdk_68_method_2_code 12 = .ok (.newarray .byte, 2) := by decide +kernel
theorem d_jdk_68_method_2_code_14 : decode jdk_68_method_2_code 14 = .ok (.putfield 15, 3) := by decide +kernel
theorem d_jdk_68_method_2_code_17 : decode jdk_68_method_2_code 17 = .ok (.aload_n 0, 1) := by decide +kernel
theorem d_jdk_68_method_2_code_18 : decode jdk_68_method_2_code 18 = .ok (.iconst 0, 1) := by decide +kernel
theorem d_jdk_68_method_2_code_19 : decode jdk_68_method_2_code 19 = .ok (.putfield 22, 3) := by decide +kernel
theorem d_jdk_68_method_2_code_22 : decode jdk_68_method_2_code 22 = .ok (.goto 16, 3) := by decide +kernel
theorem d_jdk_68_method_2_code_38 : decode jdk_68_method_2_code 38 = .ok (.return_, 1) := by decide +kernel
set_option maxRecDepth 65536 in
set_option maxHeartbeats 40000000 in
theorem rkB1 (l : Launch) (Z : State) (a0 : Array Value) (hw : ∀ d ∈ tables_1, d.before a0 Z = true) (ws : List Jvm.Cond) (a1 : Addr) (u1 : Value) (u2 : Value) (cs : Int32) (h0 : Heap) (n0 : Nat) (Z0 : n0 ≤ h0.size) (E1 : Exa Z h0 a1 "java/lang/StringBuilder") (F1 : Fld Z h0 a1 "java/lang/AbstractStringBuilder" "value" "[B" u1) (F2 : Fld Z h0 a1 "java/lang/AbstractStringBuilder" "coder" "B" u2) (F3 : Fld Z h0 a1 "java/lang/AbstractStringBuilder" "count" "I" (.int (0 : Int32))) (g1 : n0 ≤ a1) (SC : Sta Z h0 "java/lang/String" "COMPACT_STRINGS" "Z" (.int cs)) (hcs : ¬ cs = (0 : Int32)) :
    MetFree l (⟨"java/lang/AbstractStringBuilder", "<init>", "(I)V"⟩ : MethodName) (head1 (Jvm.Cond.code (⟨"java/lang/AbstractStringBuilder", "<init>", "(I)V"⟩ : MethodName) jdk_68_method_2_code 2 none :: ws) ({ frames := 1, cells := 1, slots := 16, locals := 12 } : Room)) (fun aa_ UU_ => aa_ = #[(.ref a1), (.int (16 : Int32))] ∧ Z.Warmed39 UU_.vm ∧ UU_.heap = h0) (fun _ _ _ _ _ => True) (fun _ UU_ oo_ VV_ => ∃ vv_ LL_, oo_ = .returned vv_ ∧ Q_rkB1 Z a1 u1 u2 cs h0 n0 vv_ VV_.heap LL_ ∧ FrameEnd UU_ oo_ VV_ LL_ ({ frames := 1, cells := 1, slots := 16, locals := 12 } : Room).cells ({ frames := 1, cells := 1, slots := 16, locals := 12 } : Room).slots) := by
  refine own_met (y := (⟨"java/lang/AbstractStringBuilder", "<init>", "(I)V"⟩ : MethodName)) (plainFor_of_name pn_12) ?_
  intro p e s m below meth c T0 K hx hby hml hret hlk hown hnm hZ X0 e0 hK
  have N0 := Fr.nil n0
  refine Rch.cast (ef_rkB1 m a1) ?_
  refine Rch.of (T' := T0) (g' := (mkF m 1 #[.val (.ref a1), .val (.int (16 : Int32))] [(.ref a1)])) (fun _ kt => XS.aloadN X0.here hx rfl (hb hby d_jdk_68_method_2_code_0) rfl rfl kt) ?_
  obtain ⟨T208, X208, e208, st208⟩ := initO X0 hx hZ hown (hw _ (List.mem_of_getElem? (i := 128) rfl)) (hw _ (List.mem_of_getElem? (i := 12) rfl)) (hw _ (List.mem_of_getElem? (i := 13) rfl)) e0 (g := (mkF m 1 #[.val (.ref a1), .val (.int (16 : Int32))] [(.ref a1)])) rfl (by rw [hml]; rfl) rfl (hb hby d_jdk_68_method_2_code_1) (by decide) (W := 0) (by show 2 * 0 + _ ≤ _; exact Nat.le_of_eq rfl) (by decide)
  refine Rch.of (T' := T208) (g' := (mkF m 4 #[.val (.ref a1), .val (.int (16 : Int32))] [])) st208 ?_
  obtain ⟨T209, X209, e209, st209⟩ := getS2 X208 hx hZ hown (host := "") (Or.inl (hw _ (List.mem_of_getElem? (i := 129) rfl))) Via.refl e208 SC (g := (mkF m 4 #[.val (.ref a1), .val (.int (16 : Int32))] [])) rfl (hb hby d_jdk_68_method_2_code_4)
  refine Rch.of (T' := T209) (g' := (mkF m 7 #[.val (.ref a1), .val (.int (16 : Int32))] [(.int cs)])) st209 ?_
  refine Rch.of (T' := T209) (g' := (mkF m 10 #[.val (.ref a1), .val (.int (16 : Int32))] [])) (fun _ kt => XS.ifNo X209.here hx rfl (hb hby d_jdk_68_method_2_code_7) rfl ((if0 _ _).trans (feq hcs).1) kt) ?_
  refine Rch.of (T' := T209) (g' := (mkF m 11 #[.val (.ref a1), .val (.int (16 : Int32))] [(.ref a1)])) (fun _ kt => XS.aloadN X209.here hx rfl (hb hby d_jdk_68_method_2_code_10) rfl rfl kt) ?_
  refine Rch.of (T' := T209) (g' := (mkF m 12 #[.val (.ref a1), .val (.int (16 : Int32))] [(.int (16 : Int32)), (.ref a1)])) (fun _ kt => XS.iloadN X209.here hx rfl (hb hby d_jdk_68_method_2_code_11) rfl  kt) ?_
  obtain ⟨T210, h210, k210, X210, e210, E210, A210, Q210, st210⟩ := newPE X209 hx hZ (hw _ (List.mem_of_getElem? (i := 19) rfl)) e209 (g := (mkF m 12 #[.val (.ref a1), .val (.int (16 : Int32))] [(.int (16 : Int32)), (.ref a1)])) rfl (hb hby d_jdk_68_method_2_code_12) rfl (by decide) (cap := 16) (by decide) (by decide) (by decide) (by decide) (ad := "[B") rfl
  obtain ⟨b210, g210⟩ : ∃ zz_, zz_ = h0.size := ⟨_, rfl⟩
  have ne_a1_b210 : a1 ≠ b210 := Nat.ne_of_lt (Nat.lt_of_lt_of_le E1.lt (Nat.le_of_eq g210.symm))
  have ge_b210 : n0 ≤ b210 := Nat.le_trans Z0 (Nat.le_of_eq g210.symm)
  have sz_b210 : h0.size ≤ b210 := Nat.le_trans (Keep.refl h0 [a1]).1 (Nat.le_of_eq g210.symm)
  rw [← g210] at A210 Q210 st210
  have V210 : Av Z h210 b210 .byte 16 (fun _ => (.int (0 : Int32))) := Av.new A210 (by decide)
  refine Rch.of (T' := T210) (g' := (mkF m 14 #[.val (.ref a1), .val (.int (16 : Int32))] [(.ref b210), (.ref a1)])) st210 ?_
  obtain ⟨T211, h211, X211, e211, W211, st211⟩ := putF X210 hx hZ hown (host := "") (Or.inl (hw _ (List.mem_of_getElem? (i := 130) rfl))) Via.refl e210 (F1.ext E210) (E1.ext E210) (Or.inl (hw _ (List.mem_of_getElem? (i := 131) rfl))) (hw _ (List.mem_of_getElem? (i := 117) rfl)) (ty := (.array .byte)) (by decide) rfl rfl (g := (mkF m 14 #[.val (.ref a1), .val (.int (16 : Int32))] [(.ref b210), (.ref a1)])) rfl rfl (hb hby d_jdk_68_method_2_code_14)
  have N211 := Fr.snoc X211 N0 g1
  have Fw211 := Fld.same W211 (F1.ext E210)
  have Fb212 := ((F2.ext E210).other W211 (Or.inr (slot_ne (Or.inl (hw _ (List.mem_of_getElem? (i := 133) rfl))) (Or.inl (hw _ (List.mem_of_getElem? (i := 131) rfl))) (by decide) (t := .byte) (t' := (.array .byte)) (by decide) (by decide))))
  have Fb213 := ((F3.ext E210).other W211 (Or.inr (slot_ne (Or.inl (hw _ (List.mem_of_getElem? (i := 156) rfl))) (Or.inl (hw _ (List.mem_of_getElem? (i := 131) rfl))) (by decide) (t := .int) (t' := (.array .byte)) (by decide) (by decide))))
  refine Rch.of (T' := T211) (g' := (mkF m 17 #[.val (.ref a1), .val (.int (16 : Int32))] [])) st211 ?_
  refine Rch.of (T' := T211) (g' := (mkF m 18 #[.val (.ref a1), .val (.int (16 : Int32))] [(.ref a1)])) (fun _ kt => XS.aloadN X211.here hx rfl (hb hby d_jdk_68_method_2_code_17) rfl rfl kt) ?_
  refine Rch.of (T' := T211) (g' := (mkF m 19 #[.val (.ref a1), .val (.int (16 : Int32))] [(.int (0 : Int32)), (.ref a1)])) (fun _ kt => XS.iconst X211.here hx rfl (hb hby d_jdk_68_method_2_code_18) kt) ?_
  obtain ⟨T214, h214, X214, e214, W214, st214⟩ := putFN X211 hx hZ hown (hw _ (List.mem_of_getElem? (i := 132) rfl)) Via.refl e211 Fb212 ((E1.ext E210).wr W211) (Or.inl (hw _ (List.mem_of_getElem? (i := 133) rfl))) (hw _ (List.mem_of_getElem? (i := 117) rfl)) (ty := .byte) (v' := (.int (nar .byte (0 : Int32)))) (by decide) rfl (fits_nar_byte _) (g := (mkF m 19 #[.val (.ref a1), .val (.int (16 : Int32))] [(.int (0 : Int32)), (.ref a1)])) rfl rfl (hb hby d_jdk_68_method_2_code_19)
  have N214 := Fr.snoc X214 N211 g1
  have Fw214 := Fld.same W214 Fb212
  have Fb215 := (Fw211.other W214 (Or.inr (slot_ne (Or.inl (hw _ (List.mem_of_getElem? (i := 131) rfl))) (Or.inl (hw _ (List.mem_of_getElem? (i := 133) rfl))) (by decide) (t := (.array .byte)) (t' := .byte) (by decide) (by decide))))
  have Fb216 := (Fb213.other W214 (Or.inr (slot_ne (Or.inl (hw _ (List.mem_of_getElem? (i := 156) rfl))) (Or.inl (hw _ (List.mem_of_getElem? (i := 133) rfl))) (by decide) (t := .int) (t' := .byte) (by decide) (by decide))))
  refine Rch.of (T' := T214) (g' := (mkF m 22 #[.val (.ref a1), .val (.int (16 : Int32))] [])) st214 ?_
  refine Rch.of (T' := T214) (g' := (mkF m 38 #[.val (.ref a1), .val (.int (16 : Int32))] [])) (fun _ kt => XS.goto X214.here hx rfl (pc0 := 22) (pc' := 38) rfl (hb hby d_jdk_68_method_2_code_22) (by decide) (by decide) kt) ?_
  exact Rch.retV X214 hx hret hlk (hb hby d_jdk_68_method_2_code_38) (fun U hU hF => hK _ U _ _ _ (by show Q_rkB1 Z a1 u1 u2 cs h0 n0 _ U.heap _; rw [hU, e214]; exact ⟨rfl, N214, by rw [← g210]; exact ⟨((((Keep.refl h0 [a1]).ext E210).wr W211 (Or.inl (List.mem_of_getElem? (i := 0) rfl))).wr W214 (Or.inl (List.mem_of_getElem? (i := 0) rfl))), (((E1.ext E210).wr W211).wr W214), Fb215, Fw214, Fb216, (Av.congr ((V210.other W211 (Ne.symm ne_a1_b210)).other W214 (Ne.symm ne_a1_b210)) (fun _ _ => rfl))⟩⟩) hF (by decide) (by decide))
theorem pn_13 : plainName "java/lang/StringBuilder" = true := by first | (simp [plainName, overriddenIn]; done) | decide +kernel
theorem ef_rkB2 (m : MethodId) (a1 : Addr) : entryFrame m #[(.ref a1)] 1 = mkF m 0 #[.val (.ref a1)] [] := by first | (simp [entryFrame, mkF, argsToLocals, Value.category]; done) | rfl
def Q_rkB2 (Z : State) (a1 : Addr) (u1 : Value) (u2 : Value) (cs : Int32) (h0 : Heap) (n0 : Nat) (vv_ : Option Value) (h : Heap) (LL_ : List Loc) : Prop := vv_ = none ∧ Fr n0 LL_ ∧ (Keep h0 h [a1] ∧ Exa Z h a1 "java/lang/StringBuilder" ∧ Fld Z h a1 "java/lang/AbstractStringBuilder" "value" "[B" (.ref h0.size) ∧ Fld Z h a1 "java/lang/AbstractStringBuilder" "coder" "B" (.int (0 : Int32)) ∧ Fld Z h a1 "java/lang/AbstractStringBuilder" "count" "I" (.int (0 : Int32)) ∧ Av Z h h0.size .byte 16 (fun q => .int ((own_z0 q).toInt8.toInt32)))
theorem d_jdk_67_method_1_code_0 : decode jdk_67_method_1_code 0 = .ok (.aload_n 0, 1) := by decide +kernel
theorem d_jdk_67_method_1_code_1 : decode jdk_67_method_1_code 1 = .ok (.bipush 16, 2) := by decide +kernel
theorem d_jdk_67_method_1_code_3 : decode jdk_67_method_1_code 3 = .ok (.invokespecial 1, 3) := by decide +kernel
theorem d_jdk_67_method_1_code_6 : decode jdk_67_method_1_code 6 = .ok (.return_, 1) := by decide +kernel
set_option maxRecDepth 65536 in
set_option maxHeartbeats 40000000 in
theorem rkB2 (l : Launch) (Z : State) (a0 : Array Value) (hw : ∀ d ∈ tables_1, d.before a0 Z = true) (ws : List Jvm.Cond) (a1 : Addr) (u1 : Value) (u2 : Value) (cs : Int32) (h0 : Heap) (n0 : Nat) (Z0 : n0 ≤ h0.size) (E1 : Exa Z h0 a1 "java/lang/StringBuilder") (F1 : Fld Z h0 a1 "java/lang/AbstractStringBuilder" "value" "[B" u1) (F2 : Fld Z h0 a1 "java/lang/AbstractStringBuilder" "coder" "B" u2) (F3 : Fld Z h0 a1 "java/lang/AbstractStringBuilder" "count" "I" (.int (0 : Int32))) (g1 : n0 ≤ a1) (SC : Sta Z h0 "java/lang/String" "COMPACT_STRINGS" "Z" (.int cs)) (hcs : ¬ cs = (0 : Int32)) :
    MetFree l (⟨"java/lang/StringBuilder", "<init>", "()V"⟩ : MethodName) (head1 (Jvm.Cond.code (⟨"java/lang/StringBuilder", "<init>", "()V"⟩ : MethodName) jdk_67_method_1_code 1 none :: ws) ({ frames := 2, cells := 1, slots := 16, locals := 25 } : Room)) (fun aa_ UU_ => aa_ = #[(.ref a1)] ∧ Z.Warmed39 UU_.vm ∧ UU_.heap = h0) (fun _ _ _ _ _ => True) (fun _ UU_ oo_ VV_ => ∃ vv_ LL_, oo_ = .returned vv_ ∧ Q_rkB2 Z a1 u1 u2 cs h0 n0 vv_ VV_.heap LL_ ∧ FrameEnd UU_ oo_ VV_ LL_ ({ frames := 2, cells := 1, slots := 16, locals := 25 } : Room).cells ({ frames := 2, cells := 1, slots := 16, locals := 25 } : Room).slots) := by
  refine own_met (y := (⟨"java/lang/StringBuilder", "<init>", "()V"⟩ : MethodName)) (plainFor_of_name pn_13) ?_
  intro p e s m below meth c T0 K hx hby hml hret hlk hown hnm hZ X0 e0 hK
  have N0 := Fr.nil n0
  refine Rch.cast (ef_rkB2 m a1) ?_
  refine Rch.of (T' := T0) (g' := (mkF m 1 #[.val (.ref a1)] [(.ref a1)])) (fun _ kt => XS.aloadN X0.here hx rfl (hb hby d_jdk_67_method_1_code_0) rfl rfl kt) ?_
  refine Rch.of (T' := T0) (g' := (mkF m 3 #[.val (.ref a1)] [(.int (16 : Int32)), (.ref a1)])) (fun _ kt => XS.bipush X0.here hx rfl (hb hby d_jdk_67_method_1_code_1) kt) ?_
  obtain ⟨_, _, ⟨T217, L217, k217, n217⟩, -, X217, ⟨Lc217, hQ217, l217, y217, z217⟩, st217⟩ := X0.specialBack hx (y := (⟨"java/lang/AbstractStringBuilder", "<init>", "(I)V"⟩ : MethodName)) rfl hown (mvT hZ (hw _ (List.mem_of_getElem? (i := 122) rfl))) (mvT hZ (hw _ (List.mem_of_getElem? (i := 123) rfl))) (mvT hZ (hw _ (List.mem_of_getElem? (i := 127) rfl))) (by decide) (backOf (W := 0) (rkB1 l Z a0 hw [] a1 u1 u2 cs h0 n0 Z0 E1 F1 F2 F3 g1 SC hcs) hZ (hw _ (List.mem_of_getElem? (i := 127) rfl)) (hw _ (List.mem_of_getElem? (i := 126) rfl)) (by decide) (by decide)) (g := (mkF m 3 #[.val (.ref a1)] [(.int (16 : Int32)), (.ref a1)])) rfl (by rw [hml]; rfl) (Steps.refl _) (a := a1) (argsL := [(.int (16 : Int32))]) (rest := []) (lenOf pd_17 rfl) rfl (by show 2 * 0 + _ ≤ _; exact Nat.le_of_eq rfl) (hb hby d_jdk_67_method_1_code_3) (fun _ _ => ⟨rfl, e0, (by decide : 0 + 1 ≤ _), (by decide : 0 + 16 ≤ _)⟩)
  dsimp only [Pt.U, Pt.locs, Pt.cells, Pt.slots] at X217 l217 y217 z217 st217 hQ217
  subst l217 y217 z217
  obtain ⟨rfl, N217q, hQ217⟩ := hQ217
  have N217 := Fr.app N0 N217q
  obtain ⟨K217, Ex217, Fa217, Fb217, Fc217, V217⟩ := hQ217
  obtain ⟨b217, g217⟩ : ∃ zz_, zz_ = h0.size := ⟨_, rfl⟩
  have ne_a1_b217 : a1 ≠ b217 := Nat.ne_of_lt (Nat.lt_of_lt_of_le E1.lt (Nat.le_of_eq g217.symm))
  have ge_b217 : n0 ≤ b217 := Nat.le_trans Z0 (Nat.le_of_eq g217.symm)
  have sz_b217 : h0.size ≤ b217 := Nat.le_trans (Keep.refl h0 [a1]).1 (Nat.le_of_eq g217.symm)
  rw [← g217] at Fa217 V217
  refine Rch.via (T' := T217) (g' := (mkF m 6 #[.val (.ref a1)] [])) st217 ?_
  exact Rch.retV X217 hx hret hlk (hb hby d_jdk_67_method_1_code_6) (fun U hU hF => hK _ U _ _ _ (by show Q_rkB2 Z a1 u1 u2 cs h0 n0 _ U.heap _; rw [hU]; exact ⟨rfl, N217, by rw [← g217]; exact ⟨((Keep.refl h0 [a1]).trans K217 (allS (Or.inl (List.mem_of_getElem? (i := 0) rfl)) all0)), Ex217, Fa217, Fb217, Fc217, V217⟩⟩) hF (by decide) (by decide))
theorem ef_rkEC (m : MethodId) (a1 : Addr) : entryFrame m #[(.ref a1), (.int (Int32.ofNat k))] 3 = mkF m 0 #[.val (.ref a1), .val (.int (Int32.ofNat k)), .unset] [] := by first | (simp [entryFrame, mkF, argsToLocals, Value.category]; done) | rfl
def Q_rkEC (Z : State) (a1 : Addr) (b1 : Addr) (k : Nat) (z : Nat → Int32) (h0 : Heap) (n0 : Nat) (vv_ : Option Value) (h : Heap) (LL_ : List Loc) : Prop := vv_ = none ∧ Fr n0 LL_ ∧ (h = h0)
theorem d_jdk_68_method_9_code_0 : decode jdk_68_method_9_code 0 = .ok (.aload_n 0, 1) := by decide +kernel
theorem d_jdk_68_method_9_code_1 : decode jdk_68_method_9_code 1 = .ok (.getfield 15, 3) := by decide +kernel
theorem d_jdk_68_method_9_code_4 : decode jdk_68_method_9_code 4 = .ok (.arraylength, 1) := by decide +kernel
theorem d_jdk_68_method_9_code_5 : decode jdk_68_method_9_code 5 = .ok (.aload_n 0, 1) := by decide +kernel
theorem d_jdk_68_method_9_code_6 : decode jdk_68_method_9_code 6 = .ok (.getfield 22, 3) := by decide +kernel
theorem d_jdk_68_method_9_code_9 : decode jdk_68_method_9_code 9 = .ok (.ishr, 1) := by decide +kernel
theorem d_jdk_68_method_9_code_10 : decode jdk_68_method_9_code 10 = .ok (.istore_n 2, 1) := by decide +kernel
theorem d_jdk_68_method_9_code_11 : decode jdk_68_method_9_code 11 = .ok (.iload_n 1, 1) := by decide +kernel
theorem d_jdk_68_method_9_code_12 : decode jdk_68_method_9_code 12 = .ok (.iload_n 2, 1) := by decide +kernel
theorem d_jdk_68_method_9_code_13 : decode jdk_68_method_9_code 13 = .ok (.isub, 1) := by decide +kernel
theorem d_jdk_68_method_9_code_14 : decode jdk_68_method_9_code 14 = .ok (.ifCond .le 24, 3) := by decide +kernel
theorem d_jdk_68_method_9_code_38 : decode jdk_68_method_9_code 38 = .ok (.return_, 1) := by decide +kernel
set_option maxRecDepth 65536 in
set_option maxHeartbeats 40000000 in
theorem rkEC (l : Launch) (Z : State) (a0 : Array Value) (hw : ∀ d ∈ tables_1, d.before a0 Z = true) (ws : List Jvm.Cond) (a1 : Addr) (b1 : Addr) (k : Nat) (z : Nat → Int32) (h0 : Heap) (n0 : Nat) (Z0 : n0 ≤ h0.size) (F1 : Fld Z h0 a1 "java/lang/AbstractStringBuilder" "value" "[B" (.ref b1)) (F2 : Fld Z h0 a1 "java/lang/AbstractStringBuilder" "coder" "B" (.int (0 : Int32))) (V1 : Av Z h0 b1 .byte 16 (fun q => .int ((z q).toInt8.toInt32))) (hk : k ≤ 16) :
    MetFree l (⟨"java/lang/AbstractStringBuilder", "ensureCapacityInternal", "(I)V"⟩ : MethodName) (head1 (Jvm.Cond.code (⟨"java/lang/AbstractStringBuilder", "ensureCapacityInternal", "(I)V"⟩ : MethodName) jdk_68_method_9_code 3 none :: ws) ({ frames := 0, cells := 0, slots := 0, locals := 0 } : Room)) (fun aa_ UU_ => aa_ = #[(.ref a1), (.int (Int32.ofNat k))] ∧ Z.Warmed39 UU_.vm ∧ UU_.heap = h0) (fun _ _ _ _ _ => True) (fun _ UU_ oo_ VV_ => ∃ vv_ LL_, oo_ = .returned vv_ ∧ Q_rkEC Z a1 b1 k z h0 n0 vv_ VV_.heap LL_ ∧ FrameEnd UU_ oo_ VV_ LL_ ({ frames := 0, cells := 0, slots := 0, locals := 0 } : Room).cells ({ frames := 0, cells := 0, slots := 0, locals := 0 } : Room).slots) := by
  refine own_met (y := (⟨"java/lang/AbstractStringBuilder", "ensureCapacityInternal", "(I)V"⟩ : MethodName)) (plainFor_of_name pn_12) ?_
  intro p e s m below meth c T0 K hx hby hml hret hlk hown hnm hZ X0 e0 hK
  have N0 := Fr.nil n0
  refine Rch.cast (ef_rkEC m a1) ?_
  have kn218 : ¬ ((0 : Int32) < ((Int32.ofNat k) - (Int32.ofNat 16))) := own_ncap k (by omega)
  refine Rch.of (T' := T0) (g' := (mkF m 1 #[.val (.ref a1), .val (.int (Int32.ofNat k)), .unset] [(.ref a1)])) (fun _ kt => XS.aloadN X0.here hx rfl (hb hby d_jdk_68_method_9_code_0) rfl rfl kt) ?_
  obtain ⟨T219, X219, e219, st219⟩ := getF X0 hx hZ hown (host := "") (Or.inl (hw _ (List.mem_of_getElem? (i := 130) rfl))) Via.refl e0 F1 (g := (mkF m 1 #[.val (.ref a1), .val (.int (Int32.ofNat k)), .unset] [(.ref a1)])) rfl rfl (hb hby d_jdk_68_method_9_code_1)
  refine Rch.of (T' := T219) (g' := (mkF m 4 #[.val (.ref a1), .val (.int (Int32.ofNat k)), .unset] [(.ref b1)])) st219 ?_
  obtain ⟨cl220, Ar220, Sz220, Ha220⟩ := id V1
  refine Rch.of (T' := T219) (g' := (mkF m 5 #[.val (.ref a1), .val (.int (Int32.ofNat k)), .unset] [(.int cl220.slots.size.toInt32)])) (X219.arraylength hx (by rw [e219]; exact Ar220.1) (State.isArrayOf_alike hZ.alike Ar220.2.1) (g := (mkF m 4 #[.val (.ref a1), .val (.int (Int32.ofNat k)), .unset] [(.ref b1)])) rfl rfl (hb hby d_jdk_68_method_9_code_4)) ?_
  rw [oLen Sz220]
  show Rch p e below K T219 (mkF m 5 #[.val (.ref a1), .val (.int (Int32.ofNat k)), .unset] [(.int (Int32.ofNat 16))])
  refine Rch.of (T' := T219) (g' := (mkF m 6 #[.val (.ref a1), .val (.int (Int32.ofNat k)), .unset] [(.ref a1), (.int (Int32.ofNat 16))])) (fun _ kt => XS.aloadN X219.here hx rfl (hb hby d_jdk_68_method_9_code_5) rfl rfl kt) ?_
  obtain ⟨T221, X221, e221, st221⟩ := getF X219 hx hZ hown (host := "") (Or.inl (hw _ (List.mem_of_getElem? (i := 132) rfl))) Via.refl e219 F2 (g := (mkF m 6 #[.val (.ref a1), .val (.int (Int32.ofNat k)), .unset] [(.ref a1), (.int (Int32.ofNat 16))])) rfl rfl (hb hby d_jdk_68_method_9_code_6)
  refine Rch.of (T' := T221) (g' := (mkF m 9 #[.val (.ref a1), .val (.int (Int32.ofNat k)), .unset] [(.int (0 : Int32)), (.int (Int32.ofNat 16))])) st221 ?_
  refine Rch.of (T' := T221) (g' := (mkF m 10 #[.val (.ref a1), .val (.int (Int32.ofNat k)), .unset] [(.int ((Int32.ofNat 16) >>> ((0 : Int32) &&& 31)))])) (fun _ kt => XS.ishr X221.here hx rfl (hb hby d_jdk_68_method_9_code_9) rfl kt) ?_
  have sw222 : ((Int32.ofNat 16) >>> ((0 : Int32) &&& 31)) = (Int32.ofNat 16) := own_sh0 _
  rw [sw222]
  show Rch p e below K T221 (mkF m 10 #[.val (.ref a1), .val (.int (Int32.ofNat k)), .unset] [(.int (Int32.ofNat 16))])
  refine Rch.of (T' := T221) (g' := (mkF m 11 #[.val (.ref a1), .val (.int (Int32.ofNat k)), .val (.int (Int32.ofNat 16))] [])) (fun _ kt => XS.istoreN X221.here hx rfl (hb hby d_jdk_68_method_9_code_10) rfl (l' := #[.val (.ref a1), .val (.int (Int32.ofNat k)), .val (.int (Int32.ofNat 16))]) rfl kt) ?_
  refine Rch.of (T' := T221) (g' := (mkF m 12 #[.val (.ref a1), .val (.int (Int32.ofNat k)), .val (.int (Int32.ofNat 16))] [(.int (Int32.ofNat k))])) (fun _ kt => XS.iloadN X221.here hx rfl (hb hby d_jdk_68_method_9_code_11) rfl  kt) ?_
  refine Rch.of (T' := T221) (g' := (mkF m 13 #[.val (.ref a1), .val (.int (Int32.ofNat k)), .val (.int (Int32.ofNat 16))] [(.int (Int32.ofNat 16)), (.int (Int32.ofNat k))])) (fun _ kt => XS.iloadN X221.here hx rfl (hb hby d_jdk_68_method_9_code_12) rfl  kt) ?_
  refine Rch.of (T' := T221) (g' := (mkF m 14 #[.val (.ref a1), .val (.int (Int32.ofNat k)), .val (.int (Int32.ofNat 16))] [(.int ((Int32.ofNat k) - (Int32.ofNat 16)))])) (fun _ kt => XS.isub X221.here hx rfl (hb hby d_jdk_68_method_9_code_13) rfl kt) ?_
  refine Rch.of (T' := T221) (g' := (mkF m 38 #[.val (.ref a1), .val (.int (Int32.ofNat k)), .val (.int (Int32.ofNat 16))] [])) (fun _ kt => XS.ifYes X221.here hx rfl (pc0 := 14) (pc' := 38) rfl (hb hby d_jdk_68_method_9_code_14) rfl ((if0 _ _).trans (flt kn218).2.2.2) (by decide) (by decide) kt) ?_
  exact Rch.retV X221 hx hret hlk (hb hby d_jdk_68_method_9_code_38) (fun U hU hF => hK _ U _ _ _ (by show Q_rkEC Z a1 b1 k z h0 n0 _ U.heap _; rw [hU, e221]; exact ⟨rfl, N0, rfl⟩) hF (by decide) (by decide))
theorem ef_rkIN (m : MethodId) (a1 : Addr) (a2 : Addr) : entryFrame m #[(.ref a1), (.ref a2)] 2 = mkF m 0 #[.val (.ref a1), .val (.ref a2)] [] := by first | (simp [entryFrame, mkF, argsToLocals, Value.category]; done) | rfl
def Q_rkIN (Z : State) (a1 : Addr) (a2 : Addr) (cs : Int32) (h0 : Heap) (n0 : Nat) (vv_ : Option Value) (h : Heap) (LL_ : List Loc) : Prop := vv_ = none ∧ Fr n0 LL_ ∧ (h = h0)
theorem d_jdk_68_method_71_code_0 : decode jdk_68_method_71_code 0 = .ok (.getstatic 18, 3) := by decide +kernel
theorem d_jdk_68_method_71_code_3 : decode jdk_68_method_71_code 3 = .ok (.ifCond .eq 18, 3) := by decide +kernel
theorem d_jdk_68_method_71_code_6 : decode jdk_68_method_71_code 6 = .ok (.aload_n 0, 1) := by decide +kernel
theorem d_jdk_68_method_71_code_7 : decode jdk_68_method_71_code 7 = .ok (.getfield 22, 3) := by decide +kernel
theorem d_jdk_68_method_71_code_10 : decode jdk_68_method_71_code 10 = .ok (.aload_n 1, 1) := by decide +kernel
theorem d_jdk_68_method_71_code_11 : decode jdk_68_method_71_code 11 = .ok (.invokevirtual 40, 3) := by decide +kernel
theorem d_jdk_68_method_71_code_14 : decode jdk_68_method_71_code 14 = .ok (.if_icmp .eq 7, 3) := by decide +kernel
theorem d_jdk_68_method_71_code_21 : decode jdk_68_method_71_code 21 = .ok (.return_, 1) := by decide +kernel
set_option maxRecDepth 65536 in
set_option maxHeartbeats 40000000 in
theorem rkIN (l : Launch) (Z : State) (a0 : Array Value) (hw : ∀ d ∈ tables_1, d.before a0 Z = true) (ws : List Jvm.Cond) (a1 : Addr) (a2 : Addr) (cs : Int32) (h0 : Heap) (n0 : Nat) (Z0 : n0 ≤ h0.size) (F2 : Fld Z h0 a1 "java/lang/AbstractStringBuilder" "coder" "B" (.int (0 : Int32))) (E2 : Exa Z h0 a2 "java/lang/String") (F4 : Fld Z h0 a2 "java/lang/String" "coder" "B" (.int (0 : Int32))) (SC : Sta Z h0 "java/lang/String" "COMPACT_STRINGS" "Z" (.int cs)) (hcs : ¬ cs = (0 : Int32)) :
    MetFree l (⟨"java/lang/AbstractStringBuilder", "inflateIfNeededFor", "(Ljava/lang/String;)V"⟩ : MethodName) (head1 (Jvm.Cond.code (⟨"java/lang/AbstractStringBuilder", "inflateIfNeededFor", "(Ljava/lang/String;)V"⟩ : MethodName) jdk_68_method_71_code 2 none :: ws) ({ frames := 1, cells := 0, slots := 0, locals := 13 } : Room)) (fun aa_ UU_ => aa_ = #[(.ref a1), (.ref a2)] ∧ Z.Warmed39 UU_.vm ∧ UU_.heap = h0) (fun _ _ _ _ _ => True) (fun _ UU_ oo_ VV_ => ∃ vv_ LL_, oo_ = .returned vv_ ∧ Q_rkIN Z a1 a2 cs h0 n0 vv_ VV_.heap LL_ ∧ FrameEnd UU_ oo_ VV_ LL_ ({ frames := 1, cells := 0, slots := 0, locals := 13 } : Room).cells ({ frames := 1, cells := 0, slots := 0, locals := 13 } : Room).slots) := by
  refine own_met (y := (⟨"java/lang/AbstractStringBuilder", "inflateIfNeededFor", "(Ljava/lang/String;)V"⟩ : MethodName)) (plainFor_of_name pn_12) ?_
  intro p e s m below meth c T0 K hx hby hml hret hlk hown hnm hZ X0 e0 hK
  have N0 := Fr.nil n0
  refine Rch.cast (ef_rkIN m a1 a2) ?_
  obtain ⟨T223, X223, e223, st223⟩ := getS2 X0 hx hZ hown (host := "") (Or.inl (hw _ (List.mem_of_getElem? (i := 129) rfl))) Via.refl e0 SC (g := (mkF m 0 #[.val (.ref a1), .val (.ref a2)] [])) rfl (hb hby d_jdk_68_method_71_code_0)
  refine Rch.of (T' := T223) (g' := (mkF m 3 #[.val (.ref a1), .val (.ref a2)] [(.int cs)])) st223 ?_
  refine Rch.of (T' := T223) (g' := (mkF m 6 #[.val (.ref a1), .val (.ref a2)] [])) (fun _ kt => XS.ifNo X223.here hx rfl (hb hby d_jdk_68_method_71_code_3) rfl ((if0 _ _).trans (feq hcs).1) kt) ?_
  refine Rch.of (T' := T223) (g' := (mkF m 7 #[.val (.ref a1), .val (.ref a2)] [(.ref a1)])) (fun _ kt => XS.aloadN X223.here hx rfl (hb hby d_jdk_68_method_71_code_6) rfl rfl kt) ?_
  obtain ⟨T224, X224, e224, st224⟩ := getF X223 hx hZ hown (host := "") (Or.inl (hw _ (List.mem_of_getElem? (i := 132) rfl))) Via.refl e223 F2 (g := (mkF m 7 #[.val (.ref a1), .val (.ref a2)] [(.ref a1)])) rfl rfl (hb hby d_jdk_68_method_71_code_7)
  refine Rch.of (T' := T224) (g' := (mkF m 10 #[.val (.ref a1), .val (.ref a2)] [(.int (0 : Int32))])) st224 ?_
  refine Rch.of (T' := T224) (g' := (mkF m 11 #[.val (.ref a1), .val (.ref a2)] [(.ref a2), (.int (0 : Int32))])) (fun _ kt => XS.aloadN X224.here hx rfl (hb hby d_jdk_68_method_71_code_10) rfl rfl kt) ?_
  obtain ⟨cq225, kq225, q225a, q225b, q225c⟩ := isOf hZ e224 E2
  obtain ⟨_, _, ⟨T225, L225, k225, n225⟩, -, X225, ⟨Lc225, hQ225, l225, y225, z225⟩, st225⟩ := X224.virtualBack hx (y := (⟨"java/lang/String", "coder", "()B"⟩ : MethodName)) (z := (⟨"java/lang/String", "coder", "()B"⟩ : MethodName)) hown (mvT hZ (hw _ (List.mem_of_getElem? (i := 172) rfl))) (mvT hZ (hw _ (List.mem_of_getElem? (i := 151) rfl))) (notFace_of_selects (args := #[]) (mvT hZ (hw _ (List.mem_of_getElem? (i := 153) rfl)))) (mvT hZ (hw _ (List.mem_of_getElem? (i := 153) rfl))) (mvT hZ (hw _ (List.mem_of_getElem? (i := 152) rfl))) (by decide) (backOf (W := 1) (rqCD l Z a0 hw [] a2 cs h0 n0 Z0 F4 SC hcs) hZ (hw _ (List.mem_of_getElem? (i := 154) rfl)) (hw _ (List.mem_of_getElem? (i := 3) rfl)) (by decide) (by decide)) q225a q225c (g := (mkF m 11 #[.val (.ref a1), .val (.ref a2)] [(.ref a2), (.int (0 : Int32))])) rfl (by rw [hml]; rfl) (Steps.refl _) (argsL := []) (rest := [(.int (0 : Int32))]) (lenOf pd_21 rfl) rfl (by show 2 * 0 + _ ≤ _; exact Nat.le_of_eq rfl) (hb hby d_jdk_68_method_71_code_11) (fun _ _ => ⟨rfl, e224, (by decide : 0 + 0 ≤ _), (by decide : 0 + 0 ≤ _)⟩)
  dsimp only [Pt.U, Pt.locs, Pt.cells, Pt.slots] at X225 l225 y225 z225 st225 hQ225
  subst l225 y225 z225
  obtain ⟨rfl, N225q, hQ225⟩ := hQ225
  have N225 := Fr.app N0 N225q
  refine Rch.via (T' := T225) (g' := (mkF m 14 #[.val (.ref a1), .val (.ref a2)] [(.int (0 : Int32)), (.int (0 : Int32))])) st225 ?_
  refine Rch.of (T' := T225) (g' := (mkF m 21 #[.val (.ref a1), .val (.ref a2)] [])) (fun _ kt => XS.icmpYes X225.here hx rfl (pc0 := 14) (pc' := 21) rfl (hb hby d_jdk_68_method_71_code_14) rfl (teq ((by decide) : (0 : Int32) = (0 : Int32))).1 (by decide) (by decide) kt) ?_
  exact Rch.retV X225 hx hret hlk (hb hby d_jdk_68_method_71_code_21) (fun U hU hF => hK _ U _ _ _ (by show Q_rkIN Z a1 a2 cs h0 n0 _ U.heap _; rw [hU, hQ225]; exact ⟨rfl, N225, rfl⟩) hF (by decide) (by decide))
theorem ef_rkGB (m : MethodId) (a1 : Addr) (b2 : Addr) : entryFrame m #[(.ref a1), (.ref b2), (.int (Int32.ofNat k)), (.int (0 : Int32))] 4 = mkF m 0 #[.val (.ref a1), .val (.ref b2), .val (.int (Int32.ofNat k)), .val (.int (0 : Int32))] [] := by first | (simp [entryFrame, mkF, argsToLocals, Value.category]; done) | rfl
def Q_rkGB (Z : State) (a1 : Addr) (b1 : Addr) (n : Nat) (y : Nat → Int32) (b2 : Addr) (k : Nat) (z : Nat → Int32) (cs : Int32) (h0 : Heap) (n0 : Nat) (vv_ : Option Value) (h : Heap) (LL_ : List Loc) : Prop := ∃ t : Nat → Int32, vv_ = none ∧ Fr n0 LL_ ∧ (Keep h0 h [b2] ∧ Av Z h b2 .byte 16 (fun q => .int ((t q).toInt8.toInt32)) ∧ (∀ q, q < k → t q = z q) ∧ (∀ j, j < n → t (k + j) = y j))
theorem d_jdk_42_method_147_code_0 : decode jdk_42_method_147_code 0 = .ok (.aload_n 0, 1) := by decide +kernel
theorem d_jdk_42_method_147_code_1 : decode jdk_42_method_147_code 1 = .ok (.invokevirtual 335, 3) := by decide +kernel
theorem d_jdk_42_method_147_code_4 : decode jdk_42_method_147_code 4 = .ok (.iload_n 3, 1) := by decide +kernel
theorem d_jdk_42_method_147_code_5 : decode jdk_42_method_147_code 5 = .ok (.if_icmp .ne 23, 3) := by decide +kernel
theorem d_jdk_42_method_147_code_8 : decode jdk_42_method_147_code 8 = .ok (.aload_n 0, 1) := by decide +kernel
theorem d_jdk_42_method_147_code_9 : decode jdk_42_method_147_code 9 = .ok (.getfield 9, 3) := by decide +kernel
theorem d_jdk_42_method_147_code_12 : decode jdk_42_method_147_code 12 = .ok (.iconst 0, 1) := by decide +kernel
theorem d_jdk_42_method_147_code_13 : decode jdk_42_method_147_code 13 = .ok (.aload_n 1, 1) := by decide +kernel
theorem d_jdk_42_method_147_code_14 : decode jdk_42_method_147_code 14 = .ok (.iload_n 2, 1) := by decide +kernel
theorem d_jdk_42_method_147_code_15 : decode jdk_42_method_147_code 15 = .ok (.iload_n 3, 1) := by decide +kernel
theorem d_jdk_42_method_147_code_16 : decode jdk_42_method_147_code 16 = .ok (.ishl, 1) := by decide +kernel
theorem d_jdk_42_method_147_code_17 : decode jdk_42_method_147_code 17 = .ok (.aload_n 0, 1) := by decide +kernel
theorem d_jdk_42_method_147_code_18 : decode jdk_42_method_147_code 18 = .ok (.getfield 9, 3) := by decide +kernel
theorem d_jdk_42_method_147_code_21 : decode jdk_42_method_147_code 21 = .ok (.arraylength, 1) := by decide +kernel
theorem d_jdk_42_method_147_code_22 : decode jdk_42_method_147_code 22 = .ok (.invokestatic 212, 3) := by decide +kernel
theorem d_jdk_42_method_147_code_25 : decode jdk_42_method_147_code 25 = .ok (.goto 18, 3) := by decide +kernel
theorem d_jdk_42_method_147_code_43 : decode jdk_42_method_147_code 43 = .ok (.return_, 1) := by decide +kernel
set_option maxRecDepth 65536 in
set_option maxHeartbeats 40000000 in
theorem rkGB (l : Launch) (Z : State) (a0 : Array Value) (hw : ∀ d ∈ tables_1, d.before a0 Z = true) (ws : List Jvm.Cond) (a1 : Addr) (b1 : Addr) (n : Nat) (y : Nat → Int32) (b2 : Addr) (k : Nat) (z : Nat → Int32) (cs : Int32) (h0 : Heap) (n0 : Nat) (Z0 : n0 ≤ h0.size) (E1 : Exa Z h0 a1 "java/lang/String") (F1 : Fld Z h0 a1 "java/lang/String" "coder" "B" (.int (0 : Int32))) (F2 : Fld Z h0 a1 "java/lang/String" "value" "[B" (.ref b1)) (V1 : Av Z h0 b1 .byte n (fun q => .int ((y q).toInt8.toInt32))) (V3 : Av Z h0 b2 .byte 16 (fun q => .int ((z q).toInt8.toInt32))) (g2 : n0 ≤ b2) (hkn : k + n ≤ 16) (SC : Sta Z h0 "java/lang/String" "COMPACT_STRINGS" "Z" (.int cs)) (hcs : ¬ cs = (0 : Int32)) :
    MetFree l (⟨"java/lang/String", "getBytes", "([BIB)V"⟩ : MethodName) (head1 (Jvm.Cond.code (⟨"java/lang/String", "getBytes", "([BIB)V"⟩ : MethodName) jdk_42_method_147_code 4 none :: ws) ({ frames := 1, cells := 0, slots := 0, locals := 18 } : Room)) (fun aa_ UU_ => aa_ = #[(.ref a1), (.ref b2), (.int (Int32.ofNat k)), (.int (0 : Int32))] ∧ Z.Warmed39 UU_.vm ∧ UU_.heap = h0) (fun _ _ _ _ _ => True) (fun _ UU_ oo_ VV_ => ∃ vv_ LL_, oo_ = .returned vv_ ∧ Q_rkGB Z a1 b1 n y b2 k z cs h0 n0 vv_ VV_.heap LL_ ∧ FrameEnd UU_ oo_ VV_ LL_ ({ frames := 1, cells := 0, slots := 0, locals := 18 } : Room).cells ({ frames := 1, cells := 0, slots := 0, locals := 18 } : Room).slots) := by
  refine own_met (y := (⟨"java/lang/String", "getBytes", "([BIB)V"⟩ : MethodName)) (plainFor_of_name pn_1) ?_
  intro p e s m below meth c T0 K hx hby hml hret hlk hown hnm hZ X0 e0 hK
  have N0 := Fr.nil n0
  refine Rch.cast (ef_rkGB m a1 b2) ?_
  refine Rch.of (T' := T0) (g' := (mkF m 1 #[.val (.ref a1), .val (.ref b2), .val (.int (Int32.ofNat k)), .val (.int (0 : Int32))] [(.ref a1)])) (fun _ kt => XS.aloadN X0.here hx rfl (hb hby d_jdk_42_method_147_code_0) rfl rfl kt) ?_
  obtain ⟨cq226, kq226, q226a, q226b, q226c⟩ := isOf hZ e0 E1
  obtain ⟨_, _, ⟨T226, L226, k226, n226⟩, -, X226, ⟨Lc226, hQ226, l226, y226, z226⟩, st226⟩ := X0.virtualBack hx (y := (⟨"java/lang/String", "coder", "()B"⟩ : MethodName)) (z := (⟨"java/lang/String", "coder", "()B"⟩ : MethodName)) hown (mvT hZ (hw _ (List.mem_of_getElem? (i := 150) rfl))) (mvT hZ (hw _ (List.mem_of_getElem? (i := 151) rfl))) (notFace_of_selects (args := #[]) (mvT hZ (hw _ (List.mem_of_getElem? (i := 153) rfl)))) (mvT hZ (hw _ (List.mem_of_getElem? (i := 153) rfl))) (mvT hZ (hw _ (List.mem_of_getElem? (i := 152) rfl))) (by decide) (backOf (W := 0) (rqCD l Z a0 hw [] a1 cs h0 n0 Z0 F1 SC hcs) hZ (hw _ (List.mem_of_getElem? (i := 154) rfl)) (hw _ (List.mem_of_getElem? (i := 3) rfl)) (by decide) (by decide)) q226a q226c (g := (mkF m 1 #[.val (.ref a1), .val (.ref b2), .val (.int (Int32.ofNat k)), .val (.int (0 : Int32))] [(.ref a1)])) rfl (by rw [hml]; rfl) (Steps.refl _) (argsL := []) (rest := []) (lenOf pd_21 rfl) rfl (by show 2 * 0 + _ ≤ _; exact Nat.le_of_eq rfl) (hb hby d_jdk_42_method_147_code_1) (fun _ _ => ⟨rfl, e0, (by decide : 0 + 0 ≤ _), (by decide : 0 + 0 ≤ _)⟩)
  dsimp only [Pt.U, Pt.locs, Pt.cells, Pt.slots] at X226 l226 y226 z226 st226 hQ226
  subst l226 y226 z226
  obtain ⟨rfl, N226q, hQ226⟩ := hQ226
  have N226 := Fr.app N0 N226q
  refine Rch.via (T' := T226) (g' := (mkF m 4 #[.val (.ref a1), .val (.ref b2), .val (.int (Int32.ofNat k)), .val (.int (0 : Int32))] [(.int (0 : Int32))])) st226 ?_
  refine Rch.of (T' := T226) (g' := (mkF m 5 #[.val (.ref a1), .val (.ref b2), .val (.int (Int32.ofNat k)), .val (.int (0 : Int32))] [(.int (0 : Int32)), (.int (0 : Int32))])) (fun _ kt => XS.iloadN X226.here hx rfl (hb hby d_jdk_42_method_147_code_4) rfl  kt) ?_
  refine Rch.of (T' := T226) (g' := (mkF m 8 #[.val (.ref a1), .val (.ref b2), .val (.int (Int32.ofNat k)), .val (.int (0 : Int32))] [])) (fun _ kt => XS.icmpNo X226.here hx rfl (hb hby d_jdk_42_method_147_code_5) rfl (teq ((by decide) : (0 : Int32) = (0 : Int32))).2 kt) ?_
  refine Rch.of (T' := T226) (g' := (mkF m 9 #[.val (.ref a1), .val (.ref b2), .val (.int (Int32.ofNat k)), .val (.int (0 : Int32))] [(.ref a1)])) (fun _ kt => XS.aloadN X226.here hx rfl (hb hby d_jdk_42_method_147_code_8) rfl rfl kt) ?_
  obtain ⟨T227, X227, e227, st227⟩ := getF X226 hx hZ hown (host := "") (Or.inl (hw _ (List.mem_of_getElem? (i := 28) rfl))) Via.refl hQ226 F2 (g := (mkF m 9 #[.val (.ref a1), .val (.ref b2), .val (.int (Int32.ofNat k)), .val (.int (0 : Int32))] [(.ref a1)])) rfl rfl (hb hby d_jdk_42_method_147_code_9)
  refine Rch.of (T' := T227) (g' := (mkF m 12 #[.val (.ref a1), .val (.ref b2), .val (.int (Int32.ofNat k)), .val (.int (0 : Int32))] [(.ref b1)])) st227 ?_
  refine Rch.of (T' := T227) (g' := (mkF m 13 #[.val (.ref a1), .val (.ref b2), .val (.int (Int32.ofNat k)), .val (.int (0 : Int32))] [(.int (0 : Int32)), (.ref b1)])) (fun _ kt => XS.iconst X227.here hx rfl (hb hby d_jdk_42_method_147_code_12) kt) ?_
  refine Rch.of (T' := T227) (g' := (mkF m 14 #[.val (.ref a1), .val (.ref b2), .val (.int (Int32.ofNat k)), .val (.int (0 : Int32))] [(.ref b2), (.int (0 : Int32)), (.ref b1)])) (fun _ kt => XS.aloadN X227.here hx rfl (hb hby d_jdk_42_method_147_code_13) rfl rfl kt) ?_
  refine Rch.of (T' := T227) (g' := (mkF m 15 #[.val (.ref a1), .val (.ref b2), .val (.int (Int32.ofNat k)), .val (.int (0 : Int32))] [(.int (Int32.ofNat k)), (.ref b2), (.int (0 : Int32)), (.ref b1)])) (fun _ kt => XS.iloadN X227.here hx rfl (hb hby d_jdk_42_method_147_code_14) rfl  kt) ?_
  refine Rch.of (T' := T227) (g' := (mkF m 16 #[.val (.ref a1), .val (.ref b2), .val (.int (Int32.ofNat k)), .val (.int (0 : Int32))] [(.int (0 : Int32)), (.int (Int32.ofNat k)), (.ref b2), (.int (0 : Int32)), (.ref b1)])) (fun _ kt => XS.iloadN X227.here hx rfl (hb hby d_jdk_42_method_147_code_15) rfl  kt) ?_
  refine Rch.of (T' := T227) (g' := (mkF m 17 #[.val (.ref a1), .val (.ref b2), .val (.int (Int32.ofNat k)), .val (.int (0 : Int32))] [(.int ((Int32.ofNat k) <<< ((0 : Int32) &&& 31))), (.ref b2), (.int (0 : Int32)), (.ref b1)])) (fun _ kt => XS.ishl X227.here hx rfl (hb hby d_jdk_42_method_147_code_16) rfl kt) ?_
  have sw228 : ((Int32.ofNat k) <<< ((0 : Int32) &&& 31)) = (Int32.ofNat k) := own_sl0 _
  rw [sw228]
  show Rch p e below K T227 (mkF m 17 #[.val (.ref a1), .val (.ref b2), .val (.int (Int32.ofNat k)), .val (.int (0 : Int32))] [(.int (Int32.ofNat k)), (.ref b2), (.int (0 : Int32)), (.ref b1)])
  refine Rch.of (T' := T227) (g' := (mkF m 18 #[.val (.ref a1), .val (.ref b2), .val (.int (Int32.ofNat k)), .val (.int (0 : Int32))] [(.ref a1), (.int (Int32.ofNat k)), (.ref b2), (.int (0 : Int32)), (.ref b1)])) (fun _ kt => XS.aloadN X227.here hx rfl (hb hby d_jdk_42_method_147_code_17) rfl rfl kt) ?_
  obtain ⟨T229, X229, e229, st229⟩ := getF X227 hx hZ hown (host := "") (Or.inl (hw _ (List.mem_of_getElem? (i := 28) rfl))) Via.refl e227 F2 (g := (mkF m 18 #[.val (.ref a1), .val (.ref b2), .val (.int (Int32.ofNat k)), .val (.int (0 : Int32))] [(.ref a1), (.int (Int32.ofNat k)), (.ref b2), (.int (0 : Int32)), (.ref b1)])) rfl rfl (hb hby d_jdk_42_method_147_code_18)
  refine Rch.of (T' := T229) (g' := (mkF m 21 #[.val (.ref a1), .val (.ref b2), .val (.int (Int32.ofNat k)), .val (.int (0 : Int32))] [(.ref b1), (.int (Int32.ofNat k)), (.ref b2), (.int (0 : Int32)), (.ref b1)])) st229 ?_
  obtain ⟨cl230, Ar230, Sz230, Ha230⟩ := id V1
  refine Rch.of (T' := T229) (g' := (mkF m 22 #[.val (.ref a1), .val (.ref b2), .val (.int (Int32.ofNat k)), .val (.int (0 : Int32))] [(.int cl230.slots.size.toInt32), (.int (Int32.ofNat k)), (.ref b2), (.int (0 : Int32)), (.ref b1)])) (X229.arraylength hx (by rw [e229]; exact Ar230.1) (State.isArrayOf_alike hZ.alike Ar230.2.1) (g := (mkF m 21 #[.val (.ref a1), .val (.ref b2), .val (.int (Int32.ofNat k)), .val (.int (0 : Int32))] [(.ref b1), (.int (Int32.ofNat k)), (.ref b2), (.int (0 : Int32)), (.ref b1)])) rfl rfl (hb hby d_jdk_42_method_147_code_21)) ?_
  rw [oLen Sz230]
  show Rch p e below K T229 (mkF m 22 #[.val (.ref a1), .val (.ref b2), .val (.int (Int32.ofNat k)), .val (.int (0 : Int32))] [(.int (Int32.ofNat n)), (.int (Int32.ofNat k)), (.ref b2), (.int (0 : Int32)), (.ref b1)])
  have to232 : (Int32.ofNat k).toInt = ((k : Nat) : Int) := oTo (by omega)
  have to233 : (Int32.ofNat n).toInt = ((n : Nat) : Int) := oTo (by omega)
  have hc4_231 : 0 + n ≤ n := by omega
  have hc5_231 : k + n ≤ 16 := by omega
  have hn1_231 : n < 2 ^ 31 := by omega
  have hn2_231 : 16 < 2 ^ 31 := by omega
  obtain ⟨T231, h231, L231, X231, e231, N231, K231, V231, st231⟩ := own_cpI X229 hx hZ hown (hw _ (List.mem_of_getElem? (i := 178) rfl)) (hw _ (List.mem_of_getElem? (i := 181) rfl)) (hw _ (List.mem_of_getElem? (i := 179) rfl)) (hw _ (List.mem_of_getElem? (i := 180) rfl)) e229 (y := (fun q => (y q).toInt8.toInt32)) (y' := (fun q => (z q).toInt8.toInt32)) (i := 0) (j := k) (k := n) V1 V3 (by decide) hn1_231 hn2_231 (fun q _ => fits_nar_byte _) (fun q _ => fits_nar_byte _) (by decide) to232 to233 hc4_231 hc5_231 N226 g2 (g := (mkF m 22 #[.val (.ref a1), .val (.ref b2), .val (.int (Int32.ofNat k)), .val (.int (0 : Int32))] [(.int (Int32.ofNat n)), (.int (Int32.ofNat k)), (.ref b2), (.int (0 : Int32)), (.ref b1)])) rfl (by rw [hml]; rfl) rfl (hb hby d_jdk_42_method_147_code_22) (by decide) (W := 0) (by show 2 * 0 + _ ≤ _; exact Nat.le_of_eq rfl) (by decide)
  obtain ⟨y231, hy231⟩ : ∃ zz_ : Nat → Int32, zz_ = fun q => if k ≤ q ∧ q < k + n then (fun q => (y q).toInt8.toInt32) (0 + (q - k)) else (fun q => (z q).toInt8.toInt32) q := ⟨_, rfl⟩
  have V231 : Av Z h231 b2 .byte 16 (fun q => .int (y231 q)) := by rw [hy231]; exact V231
  refine Rch.of (T' := T231) (g' := (mkF m 25 #[.val (.ref a1), .val (.ref b2), .val (.int (Int32.ofNat k)), .val (.int (0 : Int32))] [])) st231 ?_
  refine Rch.of (T' := T231) (g' := (mkF m 43 #[.val (.ref a1), .val (.ref b2), .val (.int (Int32.ofNat k)), .val (.int (0 : Int32))] [])) (fun _ kt => XS.goto X231.here hx rfl (pc0 := 25) (pc' := 43) rfl (hb hby d_jdk_42_method_147_code_25) (by decide) (by decide) kt) ?_
  exact Rch.retV X231 hx hret hlk (hb hby d_jdk_42_method_147_code_43) (fun U hU hF => hK _ U _ _ _ (by show Q_rkGB Z a1 b1 n y b2 k z cs h0 n0 _ U.heap _; rw [hU, e231]; exact ⟨(fun q => if k ≤ q ∧ q < k + n then y (q - k) else z q), rfl, N231, ((Keep.refl h0 [b2]).trans K231 (allS (Or.inl (List.mem_of_getElem? (i := 0) rfl)) all0)), Av.congr V231 (fun q hq => by rw [hy231]; by_cases u : k ≤ q ∧ q < k + n <;> simp [u]), fun q hq => if_neg (by omega), fun j hj => (if_pos (by omega)).trans (congrArg y (Nat.add_sub_cancel_left k j))⟩) hF (by decide) (by decide))
theorem ef_rkPS (m : MethodId) (a1 : Addr) (a2 : Addr) : entryFrame m #[(.ref a1), (.int (Int32.ofNat k)), (.ref a2)] 3 = mkF m 0 #[.val (.ref a1), .val (.int (Int32.ofNat k)), .val (.ref a2)] [] := by first | (simp [entryFrame, mkF, argsToLocals, Value.category]; done) | rfl
def Q_rkPS (Z : State) (a1 : Addr) (b1 : Addr) (k : Nat) (z : Nat → Int32) (a2 : Addr) (b2 : Addr) (n : Nat) (y : Nat → Int32) (cs : Int32) (h0 : Heap) (n0 : Nat) (vv_ : Option Value) (h : Heap) (LL_ : List Loc) : Prop := ∃ t : Nat → Int32, vv_ = none ∧ Fr n0 LL_ ∧ (Keep h0 h [b1] ∧ Av Z h b1 .byte 16 (fun q => .int ((t q).toInt8.toInt32)) ∧ (∀ q, q < k → t q = z q) ∧ (∀ j, j < n → t (k + j) = y j))
theorem d_jdk_68_method_73_code_0 : decode jdk_68_method_73_code 0 = .ok (.aload_n 0, 1) := by decide +kernel
theorem d_jdk_68_method_73_code_1 : decode jdk_68_method_73_code 1 = .ok (.aload_n 2, 1) := by decide +kernel
theorem d_jdk_68_method_73_code_2 : decode jdk_68_method_73_code 2 = .ok (.invokevirtual 397, 3) := by decide +kernel
theorem d_jdk_68_method_73_code_5 : decode jdk_68_method_73_code 5 = .ok (.aload_n 2, 1) := by decide +kernel
theorem d_jdk_68_method_73_code_6 : decode jdk_68_method_73_code 6 = .ok (.aload_n 0, 1) := by decide +kernel
theorem d_jdk_68_method_73_code_7 : decode jdk_68_method_73_code 7 = .ok (.getfield 15, 3) := by decide +kernel
theorem d_jdk_68_method_73_code_10 : decode jdk_68_method_73_code 10 = .ok (.iload_n 1, 1) := by decide +kernel
theorem d_jdk_68_method_73_code_11 : decode jdk_68_method_73_code 11 = .ok (.aload_n 0, 1) := by decide +kernel
theorem d_jdk_68_method_73_code_12 : decode jdk_68_method_73_code 12 = .ok (.getfield 22, 3) := by decide +kernel
theorem d_jdk_68_method_73_code_15 : decode jdk_68_method_73_code 15 = .ok (.invokevirtual 399, 3) := by decide +kernel
theorem d_jdk_68_method_73_code_18 : decode jdk_68_method_73_code 18 = .ok (.return_, 1) := by decide +kernel
set_option maxRecDepth 65536 in
set_option maxHeartbeats 40000000 in
theorem rkPS (l : Launch) (Z : State) (a0 : Array Value) (hw : ∀ d ∈ tables_1, d.before a0 Z = true) (ws : List Jvm.Cond) (a1 : Addr) (b1 : Addr) (k : Nat) (z : Nat → Int32) (a2 : Addr) (b2 : Addr) (n : Nat) (y : Nat → Int32) (cs : Int32) (h0 : Heap) (n0 : Nat) (Z0 : n0 ≤ h0.size) (E1 : Exa Z h0 a1 "java/lang/StringBuilder") (F1 : Fld Z h0 a1 "java/lang/AbstractStringBuilder" "value" "[B" (.ref b1)) (F2 : Fld Z h0 a1 "java/lang/AbstractStringBuilder" "coder" "B" (.int (0 : Int32))) (V1 : Av Z h0 b1 .byte 16 (fun q => .int ((z q).toInt8.toInt32))) (g2 : n0 ≤ b1) (E2 : Exa Z h0 a2 "java/lang/String") (F4 : Fld Z h0 a2 "java/lang/String" "coder" "B" (.int (0 : Int32))) (F5 : Fld Z h0 a2 "java/lang/String" "value" "[B" (.ref b2)) (V2 : Av Z h0 b2 .byte n (fun q => .int ((y q).toInt8.toInt32))) (hkn : k + n ≤ 16) (SC : Sta Z h0 "java/lang/String" "COMPACT_STRINGS" "Z" (.int cs)) (hcs : ¬ cs = (0 : Int32)) :
    MetFree l (⟨"java/lang/AbstractStringBuilder", "putStringAt", "(ILjava/lang/String;)V"⟩ : MethodName) (head1 (Jvm.Cond.code (⟨"java/lang/AbstractStringBuilder", "putStringAt", "(ILjava/lang/String;)V"⟩ : MethodName) jdk_68_method_73_code 3 none :: ws) ({ frames := 2, cells := 0, slots := 0, locals := 33 } : Room)) (fun aa_ UU_ => aa_ = #[(.ref a1), (.int (Int32.ofNat k)), (.ref a2)] ∧ Z.Warmed39 UU_.vm ∧ UU_.heap = h0) (fun _ _ _ _ _ => True) (fun _ UU_ oo_ VV_ => ∃ vv_ LL_, oo_ = .returned vv_ ∧ Q_rkPS Z a1 b1 k z a2 b2 n y cs h0 n0 vv_ VV_.heap LL_ ∧ FrameEnd UU_ oo_ VV_ LL_ ({ frames := 2, cells := 0, slots := 0, locals := 33 } : Room).cells ({ frames := 2, cells := 0, slots := 0, locals := 33 } : Room).slots) := by
  refine own_met (y := (⟨"java/lang/AbstractStringBuilder", "putStringAt", "(ILjava/lang/String;)V"⟩ : MethodName)) (plainFor_of_name pn_12) ?_
  intro p e s m below meth c T0 K hx hby hml hret hlk hown hnm hZ X0 e0 hK
  have N0 := Fr.nil n0
  refine Rch.cast (ef_rkPS m a1 a2) ?_
  refine Rch.of (T' := T0) (g' := (mkF m 1 #[.val (.ref a1), .val (.int (Int32.ofNat k)), .val (.ref a2)] [(.ref a1)])) (fun _ kt => XS.aloadN X0.here hx rfl (hb hby d_jdk_68_method_73_code_0) rfl rfl kt) ?_
  refine Rch.of (T' := T0) (g' := (mkF m 2 #[.val (.ref a1), .val (.int (Int32.ofNat k)), .val (.ref a2)] [(.ref a2), (.ref a1)])) (fun _ kt => XS.aloadN X0.here hx rfl (hb hby d_jdk_68_method_73_code_1) rfl rfl kt) ?_
  obtain ⟨cq234, q234, q234'⟩ := E1.cell
  obtain ⟨_, _, ⟨T234, L234, k234, n234⟩, -, X234, ⟨Lc234, hQ234, l234, y234, z234⟩, st234⟩ := X0.privateBack hx (y := (⟨"java/lang/AbstractStringBuilder", "inflateIfNeededFor", "(Ljava/lang/String;)V"⟩ : MethodName)) hown (mvT hZ (hw _ (List.mem_of_getElem? (i := 167) rfl))) (mvT hZ (hw _ (List.mem_of_getElem? (i := 168) rfl))) (own_selP2 (mvT hZ (hw _ (List.mem_of_getElem? (i := 170) rfl))) (mvP hZ (hw _ (List.mem_of_getElem? (i := 169) rfl))) (mvT hZ (hw _ (List.mem_of_getElem? (i := 168) rfl))) (by decide)) (Cond.privateMethod_at (mvP hZ (hw _ (List.mem_of_getElem? (i := 169) rfl)) (args := #[]))) (mvT hZ (hw _ (List.mem_of_getElem? (i := 171) rfl))) (by decide) (backOf (W := 0) (rkIN l Z a0 hw [] a1 a2 cs h0 n0 Z0 F2 E2 F4 SC hcs) hZ (hw _ (List.mem_of_getElem? (i := 171) rfl)) (hw _ (List.mem_of_getElem? (i := 126) rfl)) (by decide) (by decide)) (g := (mkF m 2 #[.val (.ref a1), .val (.int (Int32.ofNat k)), .val (.ref a2)] [(.ref a2), (.ref a1)])) rfl (by rw [hml]; rfl) (Steps.refl _) (a := a1) (by rw [e0]; exact q234) q234' (argsL := [(.ref a2)]) (rest := []) (lenOf pd_23 rfl) rfl (by show 2 * 0 + _ ≤ _; exact Nat.le_of_eq rfl) (hb hby d_jdk_68_method_73_code_2) (fun _ _ => ⟨rfl, e0, (by decide : 0 + 0 ≤ _), (by decide : 0 + 0 ≤ _)⟩)
  dsimp only [Pt.U, Pt.locs, Pt.cells, Pt.slots] at X234 l234 y234 z234 st234 hQ234
  subst l234 y234 z234
  obtain ⟨rfl, N234q, hQ234⟩ := hQ234
  have N234 := Fr.app N0 N234q
  refine Rch.via (T' := T234) (g' := (mkF m 5 #[.val (.ref a1), .val (.int (Int32.ofNat k)), .val (.ref a2)] [])) st234 ?_
  refine Rch.of (T' := T234) (g' := (mkF m 6 #[.val (.ref a1), .val (.int (Int32.ofNat k)), .val (.ref a2)] [(.ref a2)])) (fun _ kt => XS.aloadN X234.here hx rfl (hb hby d_jdk_68_method_73_code_5) rfl rfl kt) ?_
  refine Rch.of (T' := T234) (g' := (mkF m 7 #[.val (.ref a1), .val (.int (Int32.ofNat k)), .val (.ref a2)] [(.ref a1), (.ref a2)])) (fun _ kt => XS.aloadN X234.here hx rfl (hb hby d_jdk_68_method_73_code_6) rfl rfl kt) ?_
  obtain ⟨T235, X235, e235, st235⟩ := getF X234 hx hZ hown (host := "") (Or.inl (hw _ (List.mem_of_getElem? (i := 130) rfl))) Via.refl hQ234 F1 (g := (mkF m 7 #[.val (.ref a1), .val (.int (Int32.ofNat k)), .val (.ref a2)] [(.ref a1), (.ref a2)])) rfl rfl (hb hby d_jdk_68_method_73_code_7)
  refine Rch.of (T' := T235) (g' := (mkF m 10 #[.val (.ref a1), .val (.int (Int32.ofNat k)), .val (.ref a2)] [(.ref b1), (.ref a2)])) st235 ?_
  refine Rch.of (T' := T235) (g' := (mkF m 11 #[.val (.ref a1), .val (.int (Int32.ofNat k)), .val (.ref a2)] [(.int (Int32.ofNat k)), (.ref b1), (.ref a2)])) (fun _ kt => XS.iloadN X235.here hx rfl (hb hby d_jdk_68_method_73_code_10) rfl  kt) ?_
  refine Rch.of (T' := T235) (g' := (mkF m 12 #[.val (.ref a1), .val (.int (Int32.ofNat k)), .val (.ref a2)] [(.ref a1), (.int (Int32.ofNat k)), (.ref b1), (.ref a2)])) (fun _ kt => XS.aloadN X235.here hx rfl (hb hby d_jdk_68_method_73_code_11) rfl rfl kt) ?_
  obtain ⟨T236, X236, e236, st236⟩ := getF X235 hx hZ hown (host := "") (Or.inl (hw _ (List.mem_of_getElem? (i := 132) rfl))) Via.refl e235 F2 (g := (mkF m 12 #[.val (.ref a1), .val (.int (Int32.ofNat k)), .val (.ref a2)] [(.ref a1), (.int (Int32.ofNat k)), (.ref b1), (.ref a2)])) rfl rfl (hb hby d_jdk_68_method_73_code_12)
  refine Rch.of (T' := T236) (g' := (mkF m 15 #[.val (.ref a1), .val (.int (Int32.ofNat k)), .val (.ref a2)] [(.int (0 : Int32)), (.int (Int32.ofNat k)), (.ref b1), (.ref a2)])) st236 ?_
  have pr238 : k + n ≤ 16 := by omega
  obtain ⟨cq237, kq237, q237a, q237b, q237c⟩ := isOf hZ e236 E2
  obtain ⟨_, _, ⟨T237, L237, k237, n237⟩, -, X237, ⟨Lc237, hQ237, l237, y237, z237⟩, st237⟩ := X236.virtualBack hx (y := (⟨"java/lang/String", "getBytes", "([BIB)V"⟩ : MethodName)) (z := (⟨"java/lang/String", "getBytes", "([BIB)V"⟩ : MethodName)) hown (mvT hZ (hw _ (List.mem_of_getElem? (i := 173) rfl))) (mvT hZ (hw _ (List.mem_of_getElem? (i := 174) rfl))) (notFace_of_selects (args := #[]) (mvT hZ (hw _ (List.mem_of_getElem? (i := 176) rfl)))) (mvT hZ (hw _ (List.mem_of_getElem? (i := 176) rfl))) (mvT hZ (hw _ (List.mem_of_getElem? (i := 175) rfl))) (by decide) (backOf (W := 0) (rkGB l Z a0 hw [] a2 b2 n y b1 k z cs h0 n0 Z0 E2 F4 F5 V2 V1 g2 pr238 SC hcs) hZ (hw _ (List.mem_of_getElem? (i := 177) rfl)) (hw _ (List.mem_of_getElem? (i := 3) rfl)) (by decide) (by decide)) q237a q237c (g := (mkF m 15 #[.val (.ref a1), .val (.int (Int32.ofNat k)), .val (.ref a2)] [(.int (0 : Int32)), (.int (Int32.ofNat k)), (.ref b1), (.ref a2)])) rfl (by rw [hml]; rfl) (Steps.refl _) (argsL := [(.ref b1), (.int (Int32.ofNat k)), (.int (0 : Int32))]) (rest := []) (lenOf pd_24 rfl) rfl (by show 2 * 0 + _ ≤ _; exact Nat.le_of_eq rfl) (hb hby d_jdk_68_method_73_code_15) (fun _ _ => ⟨rfl, e236, (by decide : 0 + 0 ≤ _), (by decide : 0 + 0 ≤ _)⟩)
  dsimp only [Pt.U, Pt.locs, Pt.cells, Pt.slots] at X237 l237 y237 z237 st237 hQ237
  subst l237 y237 z237
  obtain ⟨rt237, rfl, N237q, hQ237⟩ := hQ237
  have N237 := Fr.app N234 N237q
  obtain ⟨K237, V237, Ea237, Eb237⟩ := hQ237
  refine Rch.via (T' := T237) (g' := (mkF m 18 #[.val (.ref a1), .val (.int (Int32.ofNat k)), .val (.ref a2)] [])) st237 ?_
  exact Rch.retV X237 hx hret hlk (hb hby d_jdk_68_method_73_code_18) (fun U hU hF => hK _ U _ _ _ (by show Q_rkPS Z a1 b1 k z a2 b2 n y cs h0 n0 _ U.heap _; rw [hU]; exact ⟨rt237, rfl, N237, ((Keep.refl h0 [b1]).trans K237 (allS (Or.inl (List.mem_of_getElem? (i := 0) rfl)) all0)), V237, Ea237, Eb237⟩) hF (by decide) (by decide))
theorem ef_rkAA (m : MethodId) (a1 : Addr) (a2 : Addr) : entryFrame m #[(.ref a1), (.ref a2)] 3 = mkF m 0 #[.val (.ref a1), .val (.ref a2), .unset] [] := by first | (simp [entryFrame, mkF, argsToLocals, Value.category]; done) | rfl
def Q_rkAA (Z : State) (a1 : Addr) (b1 : Addr) (k : Nat) (z : Nat → Int32) (a2 : Addr) (b2 : Addr) (n : Nat) (y : Nat → Int32) (cs : Int32) (h0 : Heap) (n0 : Nat) (vv_ : Option Value) (h : Heap) (LL_ : List Loc) : Prop := ∃ t : Nat → Int32, vv_ = some (.ref a1) ∧ Fr n0 LL_ ∧ (Keep h0 h [a1, b1] ∧ Exa Z h a1 "java/lang/StringBuilder" ∧ Fld Z h a1 "java/lang/AbstractStringBuilder" "value" "[B" (.ref b1) ∧ Fld Z h a1 "java/lang/AbstractStringBuilder" "coder" "B" (.int (0 : Int32)) ∧ Fld Z h a1 "java/lang/AbstractStringBuilder" "count" "I" (.int (Int32.ofNat (k + n))) ∧ Av Z h b1 .byte 16 (fun q => .int ((t q).toInt8.toInt32)) ∧ (∀ q, q < k → t q = z q) ∧ (∀ j, j < n → t (k + j) = y j))
theorem d_jdk_68_method_22_code_0 : decode jdk_68_method_22_code 0 = .ok (.aload_n 1, 1) := by decide +kernel
theorem d_jdk_68_method_22_code_1 : decode jdk_68_method_22_code 1 = .ok (.ifnonnull 8, 3) := by decide +kernel
theorem d_jdk_68_method_22_code_9 : decode jdk_68_method_22_code 9 = .ok (.aload_n 1, 1) := by decide +kernel
theorem d_jdk_68_method_22_code_10 : decode jdk_68_method_22_code 10 = .ok (.invokevirtual 32, 3) := by decide +kernel
theorem d_jdk_68_method_22_code_13 : decode jdk_68_method_22_code 13 = .ok (.istore_n 2, 1) := by decide +kernel
theorem d_jdk_68_method_22_code_14 : decode jdk_68_method_22_code 14 = .ok (.aload_n 0, 1) := by decide +kernel
theorem d_jdk_68_method_22_code_15 : decode jdk_68_method_22_code 15 = .ok (.aload_n 0, 1) := by decide +kernel
theorem d_jdk_68_method_22_code_16 : decode jdk_68_method_22_code 16 = .ok (.getfield 79, 3) := by decide +kernel
theorem d_jdk_68_method_22_code_19 : decode jdk_68_method_22_code 19 = .ok (.iload_n 2, 1) := by decide +kernel
theorem d_jdk_68_method_22_code_20 : decode jdk_68_method_22_code 20 = .ok (.iadd, 1) := by decide +kernel
theorem d_jdk_68_method_22_code_21 : decode jdk_68_method_22_code 21 = .ok (.invokevirtual 100, 3) := by decide +kernel
theorem d_jdk_68_method_22_code_24 : decode jdk_68_method_22_code 24 = .ok (.aload_n 0, 1) := by decide +kernel
theorem d_jdk_68_method_22_code_25 : decode jdk_68_method_22_code 25 = .ok (.aload_n 0, 1) := by decide +kernel
theorem d_jdk_68_method_22_code_26 : decode jdk_68_method_22_code 26 = .ok (.getfield 79, 3) := by decide +kernel
theorem d_jdk_68_method_22_code_29 : decode jdk_68_method_22_code 29 = .ok (.aload_n 1, 1) := by decide +kernel
theorem d_jdk_68_method_22_code_30 : decode jdk_68_method_22_code 30 = .ok (.invokevirtual 208, 3) := by decide +kernel
theorem d_jdk_68_method_22_code_33 : decode jdk_68_method_22_code 33 = .ok (.aload_n 0, 1) := by decide +kernel
theorem d_jdk_68_method_22_code_34 : decode jdk_68_method_22_code 34 = .ok (.dup, 1) := by decide +kernel
theorem d_jdk_68_method_22_code_35 : decode jdk_68_method_22_code 35 = .ok (.getfield 79, 3) := by decide +kernel
theorem d_jdk_68_method_22_code_38 : decode jdk_68_method_22_code 38 = .ok (.iload_n 2, 1) := by decide +kernel
theorem d_jdk_68_method_22_code_39 : decode jdk_68_method_22_code 39 = .ok (.iadd, 1) := by decide +kernel
theorem d_jdk_68_method_22_code_40 : decode jdk_68_method_22_code 40 = .ok (.putfield 79, 3) := by decide +kernel
theorem d_jdk_68_method_22_code_43 : decode jdk_68_method_22_code 43 = .ok (.aload_n 0, 1) := by decide +kernel
theorem d_jdk_68_method_22_code_44 : decode jdk_68_method_22_code 44 = .ok (.areturn, 1) := by decide +kernel
set_option maxRecDepth 65536 in
set_option maxHeartbeats 40000000 in
theorem rkAA (l : Launch) (Z : State) (a0 : Array Value) (hw : ∀ d ∈ tables_1, d.before a0 Z = true) (ws : List Jvm.Cond) (a1 : Addr) (b1 : Addr) (k : Nat) (z : Nat → Int32) (a2 : Addr) (b2 : Addr) (n : Nat) (y : Nat → Int32) (cs : Int32) (h0 : Heap) (n0 : Nat) (Z0 : n0 ≤ h0.size) (E1 : Exa Z h0 a1 "java/lang/StringBuilder") (F1 : Fld Z h0 a1 "java/lang/AbstractStringBuilder" "value" "[B" (.ref b1)) (F2 : Fld Z h0 a1 "java/lang/AbstractStringBuilder" "coder" "B" (.int (0 : Int32))) (F3 : Fld Z h0 a1 "java/lang/AbstractStringBuilder" "count" "I" (.int (Int32.ofNat k))) (V1 : Av Z h0 b1 .byte 16 (fun q => .int ((z q).toInt8.toInt32))) (g1 : n0 ≤ a1) (g2 : n0 ≤ b1) (n1 : a1 ≠ b1) (E2 : Exa Z h0 a2 "java/lang/String") (F4 : Fld Z h0 a2 "java/lang/String" "coder" "B" (.int (0 : Int32))) (F5 : Fld Z h0 a2 "java/lang/String" "value" "[B" (.ref b2)) (V2 : Av Z h0 b2 .byte n (fun q => .int ((y q).toInt8.toInt32))) (hkn : k + n ≤ 16) (SC : Sta Z h0 "java/lang/String" "COMPACT_STRINGS" "Z" (.int cs)) (hcs : ¬ cs = (0 : Int32)) :
    MetFree l (⟨"java/lang/AbstractStringBuilder", "append", "(Ljava/lang/String;)Ljava/lang/AbstractStringBuilder;"⟩ : MethodName) (head1 (Jvm.Cond.code (⟨"java/lang/AbstractStringBuilder", "append", "(Ljava/lang/String;)Ljava/lang/AbstractStringBuilder;"⟩ : MethodName) jdk_68_method_22_code 3 (some (.object "java/lang/AbstractStringBuilder")) :: ws) ({ frames := 3, cells := 0, slots := 0, locals := 47 } : Room)) (fun aa_ UU_ => aa_ = #[(.ref a1), (.ref a2)] ∧ Z.Warmed39 UU_.vm ∧ UU_.heap = h0) (fun _ _ _ _ _ => True) (fun _ UU_ oo_ VV_ => ∃ vv_ LL_, oo_ = .returned vv_ ∧ Q_rkAA Z a1 b1 k z a2 b2 n y cs h0 n0 vv_ VV_.heap LL_ ∧ FrameEnd UU_ oo_ VV_ LL_ ({ frames := 3, cells := 0, slots := 0, locals := 47 } : Room).cells ({ frames := 3, cells := 0, slots := 0, locals := 47 } : Room).slots) := by
  refine own_met (y := (⟨"java/lang/AbstractStringBuilder", "append", "(Ljava/lang/String;)Ljava/lang/AbstractStringBuilder;"⟩ : MethodName)) (plainFor_of_name pn_12) ?_
  intro p e s m below meth c T0 K hx hby hml hret hlk hown hnm hZ X0 e0 hK
  have N0 := Fr.nil n0
  refine Rch.cast (ef_rkAA m a1 a2) ?_
  refine Rch.of (T' := T0) (g' := (mkF m 1 #[.val (.ref a1), .val (.ref a2), .unset] [(.ref a2)])) (fun _ kt => XS.aloadN X0.here hx rfl (hb hby d_jdk_68_method_22_code_0) rfl rfl kt) ?_
  refine Rch.of (T' := T0) (g' := (mkF m 9 #[.val (.ref a1), .val (.ref a2), .unset] [])) (fun _ kt => XS.ifnonnullYes X0.here hx rfl (pc0 := 1) (pc' := 9) rfl (hb hby d_jdk_68_method_22_code_1) rfl (by decide) (by decide) kt) ?_
  refine Rch.of (T' := T0) (g' := (mkF m 10 #[.val (.ref a1), .val (.ref a2), .unset] [(.ref a2)])) (fun _ kt => XS.aloadN X0.here hx rfl (hb hby d_jdk_68_method_22_code_9) rfl rfl kt) ?_
  obtain ⟨cq239, kq239, q239a, q239b, q239c⟩ := isOf hZ e0 E2
  obtain ⟨_, _, ⟨T239, L239, k239, n239⟩, -, X239, ⟨Lc239, hQ239, l239, y239, z239⟩, st239⟩ := X0.virtualBack hx (y := (⟨"java/lang/String", "length", "()I"⟩ : MethodName)) (z := (⟨"java/lang/String", "length", "()I"⟩ : MethodName)) hown (mvT hZ (hw _ (List.mem_of_getElem? (i := 145) rfl))) (mvT hZ (hw _ (List.mem_of_getElem? (i := 146) rfl))) (notFace_of_selects (args := #[]) (mvT hZ (hw _ (List.mem_of_getElem? (i := 148) rfl)))) (mvT hZ (hw _ (List.mem_of_getElem? (i := 148) rfl))) (mvT hZ (hw _ (List.mem_of_getElem? (i := 147) rfl))) (by decide) (backOf (W := 0) (rqLE l Z a0 hw [] a2 b2 n y cs h0 n0 Z0 E2 F4 F5 V2 SC hcs) hZ (hw _ (List.mem_of_getElem? (i := 149) rfl)) (hw _ (List.mem_of_getElem? (i := 3) rfl)) (by decide) (by decide)) q239a q239c (g := (mkF m 10 #[.val (.ref a1), .val (.ref a2), .unset] [(.ref a2)])) rfl (by rw [hml]; rfl) (Steps.refl _) (argsL := []) (rest := []) (lenOf pd_20 rfl) rfl (by show 2 * 0 + _ ≤ _; exact Nat.le_of_eq rfl) (hb hby d_jdk_68_method_22_code_10) (fun _ _ => ⟨rfl, e0, (by decide : 0 + 0 ≤ _), (by decide : 0 + 0 ≤ _)⟩)
  dsimp only [Pt.U, Pt.locs, Pt.cells, Pt.slots] at X239 l239 y239 z239 st239 hQ239
  subst l239 y239 z239
  obtain ⟨rfl, N239q, hQ239⟩ := hQ239
  have N239 := Fr.app N0 N239q
  refine Rch.via (T' := T239) (g' := (mkF m 13 #[.val (.ref a1), .val (.ref a2), .unset] [(.int (Int32.ofNat n))])) st239 ?_
  refine Rch.of (T' := T239) (g' := (mkF m 14 #[.val (.ref a1), .val (.ref a2), .val (.int (Int32.ofNat n))] [])) (fun _ kt => XS.istoreN X239.here hx rfl (hb hby d_jdk_68_method_22_code_13) rfl (l' := #[.val (.ref a1), .val (.ref a2), .val (.int (Int32.ofNat n))]) rfl kt) ?_
  refine Rch.of (T' := T239) (g' := (mkF m 15 #[.val (.ref a1), .val (.ref a2), .val (.int (Int32.ofNat n))] [(.ref a1)])) (fun _ kt => XS.aloadN X239.here hx rfl (hb hby d_jdk_68_method_22_code_14) rfl rfl kt) ?_
  refine Rch.of (T' := T239) (g' := (mkF m 16 #[.val (.ref a1), .val (.ref a2), .val (.int (Int32.ofNat n))] [(.ref a1), (.ref a1)])) (fun _ kt => XS.aloadN X239.here hx rfl (hb hby d_jdk_68_method_22_code_15) rfl rfl kt) ?_
  obtain ⟨T240, X240, e240, st240⟩ := getF X239 hx hZ hown (host := "") (Or.inl (hw _ (List.mem_of_getElem? (i := 155) rfl))) Via.refl hQ239 F3 (g := (mkF m 16 #[.val (.ref a1), .val (.ref a2), .val (.int (Int32.ofNat n))] [(.ref a1), (.ref a1)])) rfl rfl (hb hby d_jdk_68_method_22_code_16)
  refine Rch.of (T' := T240) (g' := (mkF m 19 #[.val (.ref a1), .val (.ref a2), .val (.int (Int32.ofNat n))] [(.int (Int32.ofNat k)), (.ref a1)])) st240 ?_
  refine Rch.of (T' := T240) (g' := (mkF m 20 #[.val (.ref a1), .val (.ref a2), .val (.int (Int32.ofNat n))] [(.int (Int32.ofNat n)), (.int (Int32.ofNat k)), (.ref a1)])) (fun _ kt => XS.iloadN X240.here hx rfl (hb hby d_jdk_68_method_22_code_19) rfl  kt) ?_
  refine Rch.of (T' := T240) (g' := (mkF m 21 #[.val (.ref a1), .val (.ref a2), .val (.int (Int32.ofNat n))] [(.int ((Int32.ofNat k) + (Int32.ofNat n))), (.ref a1)])) (fun _ kt => XS.iadd X240.here hx rfl (hb hby d_jdk_68_method_22_code_20) rfl kt) ?_
  have sw241 : ((Int32.ofNat k) + (Int32.ofNat n)) = (Int32.ofNat (k + n)) := own_addN k n
  rw [sw241]
  show Rch p e below K T240 (mkF m 21 #[.val (.ref a1), .val (.ref a2), .val (.int (Int32.ofNat n))] [(.int (Int32.ofNat (k + n))), (.ref a1)])
  have pr243 : (k + n) ≤ 16 := by omega
  obtain ⟨cq242, q242, q242'⟩ := E1.cell
  obtain ⟨_, _, ⟨T242, L242, k242, n242⟩, -, X242, ⟨Lc242, hQ242, l242, y242, z242⟩, st242⟩ := X240.privateBack hx (y := (⟨"java/lang/AbstractStringBuilder", "ensureCapacityInternal", "(I)V"⟩ : MethodName)) hown (mvT hZ (hw _ (List.mem_of_getElem? (i := 157) rfl))) (mvT hZ (hw _ (List.mem_of_getElem? (i := 158) rfl))) (own_selP2 (mvT hZ (hw _ (List.mem_of_getElem? (i := 160) rfl))) (mvP hZ (hw _ (List.mem_of_getElem? (i := 159) rfl))) (mvT hZ (hw _ (List.mem_of_getElem? (i := 158) rfl))) (by decide)) (Cond.privateMethod_at (mvP hZ (hw _ (List.mem_of_getElem? (i := 159) rfl)) (args := #[]))) (mvT hZ (hw _ (List.mem_of_getElem? (i := 161) rfl))) (by decide) (backOf (W := 0) (rkEC l Z a0 hw [] a1 b1 (k + n) z h0 n0 Z0 F1 F2 V1 pr243) hZ (hw _ (List.mem_of_getElem? (i := 161) rfl)) (hw _ (List.mem_of_getElem? (i := 126) rfl)) (by decide) (by decide)) (g := (mkF m 21 #[.val (.ref a1), .val (.ref a2), .val (.int (Int32.ofNat n))] [(.int (Int32.ofNat (k + n))), (.ref a1)])) rfl (by rw [hml]; rfl) (Steps.refl _) (a := a1) (by rw [e240]; exact q242) q242' (argsL := [(.int (Int32.ofNat (k + n)))]) (rest := []) (lenOf pd_17 rfl) rfl (by show 2 * 0 + _ ≤ _; exact Nat.le_of_eq rfl) (hb hby d_jdk_68_method_22_code_21) (fun _ _ => ⟨rfl, e240, (by decide : 0 + 0 ≤ _), (by decide : 0 + 0 ≤ _)⟩)
  dsimp only [Pt.U, Pt.locs, Pt.cells, Pt.slots] at X242 l242 y242 z242 st242 hQ242
  subst l242 y242 z242
  obtain ⟨rfl, N242q, hQ242⟩ := hQ242
  have N242 := Fr.app N239 N242q
  refine Rch.via (T' := T242) (g' := (mkF m 24 #[.val (.ref a1), .val (.ref a2), .val (.int (Int32.ofNat n))] [])) st242 ?_
  refine Rch.of (T' := T242) (g' := (mkF m 25 #[.val (.ref a1), .val (.ref a2), .val (.int (Int32.ofNat n))] [(.ref a1)])) (fun _ kt => XS.aloadN X242.here hx rfl (hb hby d_jdk_68_method_22_code_24) rfl rfl kt) ?_
  refine Rch.of (T' := T242) (g' := (mkF m 26 #[.val (.ref a1), .val (.ref a2), .val (.int (Int32.ofNat n))] [(.ref a1), (.ref a1)])) (fun _ kt => XS.aloadN X242.here hx rfl (hb hby d_jdk_68_method_22_code_25) rfl rfl kt) ?_
  obtain ⟨T244, X244, e244, st244⟩ := getF X242 hx hZ hown (host := "") (Or.inl (hw _ (List.mem_of_getElem? (i := 155) rfl))) Via.refl hQ242 F3 (g := (mkF m 26 #[.val (.ref a1), .val (.ref a2), .val (.int (Int32.ofNat n))] [(.ref a1), (.ref a1)])) rfl rfl (hb hby d_jdk_68_method_22_code_26)
  refine Rch.of (T' := T244) (g' := (mkF m 29 #[.val (.ref a1), .val (.ref a2), .val (.int (Int32.ofNat n))] [(.int (Int32.ofNat k)), (.ref a1)])) st244 ?_
  refine Rch.of (T' := T244) (g' := (mkF m 30 #[.val (.ref a1), .val (.ref a2), .val (.int (Int32.ofNat n))] [(.ref a2), (.int (Int32.ofNat k)), (.ref a1)])) (fun _ kt => XS.aloadN X244.here hx rfl (hb hby d_jdk_68_method_22_code_29) rfl rfl kt) ?_
  have pr246 : k + n ≤ 16 := by omega
  obtain ⟨cq245, q245, q245'⟩ := E1.cell
  obtain ⟨_, _, ⟨T245, L245, k245, n245⟩, -, X245, ⟨Lc245, hQ245, l245, y245, z245⟩, st245⟩ := X244.privateBack hx (y := (⟨"java/lang/AbstractStringBuilder", "putStringAt", "(ILjava/lang/String;)V"⟩ : MethodName)) hown (mvT hZ (hw _ (List.mem_of_getElem? (i := 162) rfl))) (mvT hZ (hw _ (List.mem_of_getElem? (i := 163) rfl))) (own_selP2 (mvT hZ (hw _ (List.mem_of_getElem? (i := 165) rfl))) (mvP hZ (hw _ (List.mem_of_getElem? (i := 164) rfl))) (mvT hZ (hw _ (List.mem_of_getElem? (i := 163) rfl))) (by decide)) (Cond.privateMethod_at (mvP hZ (hw _ (List.mem_of_getElem? (i := 164) rfl)) (args := #[]))) (mvT hZ (hw _ (List.mem_of_getElem? (i := 166) rfl))) (by decide) (backOf (W := 0) (rkPS l Z a0 hw [] a1 b1 k z a2 b2 n y cs h0 n0 Z0 E1 F1 F2 V1 g2 E2 F4 F5 V2 pr246 SC hcs) hZ (hw _ (List.mem_of_getElem? (i := 166) rfl)) (hw _ (List.mem_of_getElem? (i := 126) rfl)) (by decide) (by decide)) (g := (mkF m 30 #[.val (.ref a1), .val (.ref a2), .val (.int (Int32.ofNat n))] [(.ref a2), (.int (Int32.ofNat k)), (.ref a1)])) rfl (by rw [hml]; rfl) (Steps.refl _) (a := a1) (by rw [e244]; exact q245) q245' (argsL := [(.int (Int32.ofNat k)), (.ref a2)]) (rest := []) (lenOf pd_22 rfl) rfl (by show 2 * 0 + _ ≤ _; exact Nat.le_of_eq rfl) (hb hby d_jdk_68_method_22_code_30) (fun _ _ => ⟨rfl, e244, (by decide : 0 + 0 ≤ _), (by decide : 0 + 0 ≤ _)⟩)
  dsimp only [Pt.U, Pt.locs, Pt.cells, Pt.slots] at X245 l245 y245 z245 st245 hQ245
  subst l245 y245 z245
  obtain ⟨rt245, rfl, N245q, hQ245⟩ := hQ245
  have N245 := Fr.app N242 N245q
  obtain ⟨K245, V245, Ea245, Eb245⟩ := hQ245
  refine Rch.via (T' := T245) (g' := (mkF m 33 #[.val (.ref a1), .val (.ref a2), .val (.int (Int32.ofNat n))] [])) st245 ?_
  refine Rch.of (T' := T245) (g' := (mkF m 34 #[.val (.ref a1), .val (.ref a2), .val (.int (Int32.ofNat n))] [(.ref a1)])) (fun _ kt => XS.aloadN X245.here hx rfl (hb hby d_jdk_68_method_22_code_33) rfl rfl kt) ?_
  refine Rch.of (T' := T245) (g' := (mkF m 35 #[.val (.ref a1), .val (.ref a2), .val (.int (Int32.ofNat n))] [(.ref a1), (.ref a1)])) (fun _ kt => XS.dup X245.here hx rfl (hb hby d_jdk_68_method_22_code_34) rfl rfl kt) ?_
  obtain ⟨T247, X247, e247, st247⟩ := getF X245 hx hZ hown (host := "") (Or.inl (hw _ (List.mem_of_getElem? (i := 155) rfl))) Via.refl rfl (F3.keep K245 (ninS n1 nin0)) (g := (mkF m 35 #[.val (.ref a1), .val (.ref a2), .val (.int (Int32.ofNat n))] [(.ref a1), (.ref a1)])) rfl rfl (hb hby d_jdk_68_method_22_code_35)
  refine Rch.of (T' := T247) (g' := (mkF m 38 #[.val (.ref a1), .val (.ref a2), .val (.int (Int32.ofNat n))] [(.int (Int32.ofNat k)), (.ref a1)])) st247 ?_
  refine Rch.of (T' := T247) (g' := (mkF m 39 #[.val (.ref a1), .val (.ref a2), .val (.int (Int32.ofNat n))] [(.int (Int32.ofNat n)), (.int (Int32.ofNat k)), (.ref a1)])) (fun _ kt => XS.iloadN X247.here hx rfl (hb hby d_jdk_68_method_22_code_38) rfl  kt) ?_
  refine Rch.of (T' := T247) (g' := (mkF m 40 #[.val (.ref a1), .val (.ref a2), .val (.int (Int32.ofNat n))] [(.int ((Int32.ofNat k) + (Int32.ofNat n))), (.ref a1)])) (fun _ kt => XS.iadd X247.here hx rfl (hb hby d_jdk_68_method_22_code_39) rfl kt) ?_
  have sw248 : ((Int32.ofNat k) + (Int32.ofNat n)) = (Int32.ofNat (k + n)) := own_addN k n
  rw [sw248]
  show Rch p e below K T247 (mkF m 40 #[.val (.ref a1), .val (.ref a2), .val (.int (Int32.ofNat n))] [(.int (Int32.ofNat (k + n))), (.ref a1)])
  obtain ⟨T249, h249, X249, e249, W249, st249⟩ := putF X247 hx hZ hown (host := "") (Or.inl (hw _ (List.mem_of_getElem? (i := 155) rfl))) Via.refl e247 (F3.keep K245 (ninS n1 nin0)) (E1.keep K245) (Or.inl (hw _ (List.mem_of_getElem? (i := 156) rfl))) (hw _ (List.mem_of_getElem? (i := 117) rfl)) (ty := .int) (by decide) rfl rfl (g := (mkF m 40 #[.val (.ref a1), .val (.ref a2), .val (.int (Int32.ofNat n))] [(.int (Int32.ofNat (k + n))), (.ref a1)])) rfl rfl (hb hby d_jdk_68_method_22_code_40)
  have N249 := Fr.snoc X249 N245 g1
  have Fw249 := Fld.same W249 (F3.keep K245 (ninS n1 nin0))
  have Fb250 := ((F1.keep K245 (ninS n1 nin0)).other W249 (Or.inr (slot_ne (Or.inl (hw _ (List.mem_of_getElem? (i := 131) rfl))) (Or.inl (hw _ (List.mem_of_getElem? (i := 156) rfl))) (by decide) (t := (.array .byte)) (t' := .int) (by decide) (by decide))))
  have Fb251 := ((F2.keep K245 (ninS n1 nin0)).other W249 (Or.inr (slot_ne (Or.inl (hw _ (List.mem_of_getElem? (i := 133) rfl))) (Or.inl (hw _ (List.mem_of_getElem? (i := 156) rfl))) (by decide) (t := .byte) (t' := .int) (by decide) (by decide))))
  refine Rch.of (T' := T249) (g' := (mkF m 43 #[.val (.ref a1), .val (.ref a2), .val (.int (Int32.ofNat n))] [])) st249 ?_
  refine Rch.of (T' := T249) (g' := (mkF m 44 #[.val (.ref a1), .val (.ref a2), .val (.int (Int32.ofNat n))] [(.ref a1)])) (fun _ kt => XS.aloadN X249.here hx rfl (hb hby d_jdk_68_method_22_code_43) rfl rfl kt) ?_
  exact Rch.retA X249 hx (w := (.ref a1)) hret rfl rfl hlk (hb hby d_jdk_68_method_22_code_44) (fun U hU hF => hK _ U _ _ _ (by show Q_rkAA Z a1 b1 k z a2 b2 n y cs h0 n0 _ U.heap _; rw [hU, e249]; exact ⟨rt245, rfl, N249, (((Keep.refl h0 [a1, b1]).trans K245 (allS (Or.inl (List.mem_of_getElem? (i := 1) rfl)) all0)).wr W249 (Or.inl (List.mem_of_getElem? (i := 0) rfl))), ((E1.keep K245).wr W249), Fb250, Fb251, Fw249, (V245.other W249 (Ne.symm n1)), Ea245, Eb245⟩) hF (by decide) (by decide))
theorem ef_rkAS (m : MethodId) (a1 : Addr) (a2 : Addr) : entryFrame m #[(.ref a1), (.ref a2)] 2 = mkF m 0 #[.val (.ref a1), .val (.ref a2)] [] := by first | (simp [entryFrame, mkF, argsToLocals, Value.category]; done) | rfl
def Q_rkAS (Z : State) (a1 : Addr) (b1 : Addr) (k : Nat) (z : Nat → Int32) (a2 : Addr) (b2 : Addr) (n : Nat) (y : Nat → Int32) (cs : Int32) (h0 : Heap) (n0 : Nat) (vv_ : Option Value) (h : Heap) (LL_ : List Loc) : Prop := ∃ t : Nat → Int32, vv_ = some (.ref a1) ∧ Fr n0 LL_ ∧ (Keep h0 h [a1, b1] ∧ Exa Z h a1 "java/lang/StringBuilder" ∧ Fld Z h a1 "java/lang/AbstractStringBuilder" "value" "[B" (.ref b1) ∧ Fld Z h a1 "java/lang/AbstractStringBuilder" "coder" "B" (.int (0 : Int32)) ∧ Fld Z h a1 "java/lang/AbstractStringBuilder" "count" "I" (.int (Int32.ofNat (k + n))) ∧ Av Z h b1 .byte 16 (fun q => .int ((t q).toInt8.toInt32)) ∧ (∀ q, q < k → t q = z q) ∧ (∀ j, j < n → t (k + j) = y j))
theorem d_jdk_67_method_7_code_0 : decode jdk_67_method_7_code 0 = .ok (.aload_n 0, 1) := by decide +kernel
theorem d_jdk_67_method_7_code_1 : decode jdk_67_method_7_code 1 = .ok (.aload_n 1, 1) := by decide +kernel
theorem d_jdk_67_method_7_code_2 : decode jdk_67_method_7_code 2 = .ok (.invokespecial 29, 3) := by decide +kernel
theorem d_jdk_67_method_7_code_5 : decode jdk_67_method_7_code 5 = .ok (.pop, 1) := by decide +kernel
theorem d_jdk_67_method_7_code_6 : decode jdk_67_method_7_code 6 = .ok (.aload_n 0, 1) := by decide +kernel
theorem d_jdk_67_method_7_code_7 : decode jdk_67_method_7_code 7 = .ok (.areturn, 1) := by decide +kernel
set_option maxRecDepth 65536 in
set_option maxHeartbeats 40000000 in
theorem rkAS (l : Launch) (Z : State) (a0 : Array Value) (hw : ∀ d ∈ tables_1, d.before a0 Z = true) (ws : List Jvm.Cond) (a1 : Addr) (b1 : Addr) (k : Nat) (z : Nat → Int32) (a2 : Addr) (b2 : Addr) (n : Nat) (y : Nat → Int32) (cs : Int32) (h0 : Heap) (n0 : Nat) (Z0 : n0 ≤ h0.size) (E1 : Exa Z h0 a1 "java/lang/StringBuilder") (F1 : Fld Z h0 a1 "java/lang/AbstractStringBuilder" "value" "[B" (.ref b1)) (F2 : Fld Z h0 a1 "java/lang/AbstractStringBuilder" "coder" "B" (.int (0 : Int32))) (F3 : Fld Z h0 a1 "java/lang/AbstractStringBuilder" "count" "I" (.int (Int32.ofNat k))) (V1 : Av Z h0 b1 .byte 16 (fun q => .int ((z q).toInt8.toInt32))) (g1 : n0 ≤ a1) (g2 : n0 ≤ b1) (n1 : a1 ≠ b1) (E2 : Exa Z h0 a2 "java/lang/String") (F4 : Fld Z h0 a2 "java/lang/String" "coder" "B" (.int (0 : Int32))) (F5 : Fld Z h0 a2 "java/lang/String" "value" "[B" (.ref b2)) (V2 : Av Z h0 b2 .byte n (fun q => .int ((y q).toInt8.toInt32))) (hkn : k + n ≤ 16) (SC : Sta Z h0 "java/lang/String" "COMPACT_STRINGS" "Z" (.int cs)) (hcs : ¬ cs = (0 : Int32)) :
    MetFree l (⟨"java/lang/StringBuilder", "append", "(Ljava/lang/String;)Ljava/lang/StringBuilder;"⟩ : MethodName) (head1 (Jvm.Cond.code (⟨"java/lang/StringBuilder", "append", "(Ljava/lang/String;)Ljava/lang/StringBuilder;"⟩ : MethodName) jdk_67_method_7_code 2 (some (.object "java/lang/StringBuilder")) :: ws) ({ frames := 4, cells := 0, slots := 0, locals := 61 } : Room)) (fun aa_ UU_ => aa_ = #[(.ref a1), (.ref a2)] ∧ Z.Warmed39 UU_.vm ∧ UU_.heap = h0) (fun _ _ _ _ _ => True) (fun _ UU_ oo_ VV_ => ∃ vv_ LL_, oo_ = .returned vv_ ∧ Q_rkAS Z a1 b1 k z a2 b2 n y cs h0 n0 vv_ VV_.heap LL_ ∧ FrameEnd UU_ oo_ VV_ LL_ ({ frames := 4, cells := 0, slots := 0, locals := 61 } : Room).cells ({ frames := 4, cells := 0, slots := 0, locals := 61 } : Room).slots) := by
  refine own_met (y := (⟨"java/lang/StringBuilder", "append", "(Ljava/lang/String;)Ljava/lang/StringBuilder;"⟩ : MethodName)) (plainFor_of_name pn_13) ?_
  intro p e s m below meth c T0 K hx hby hml hret hlk hown hnm hZ X0 e0 hK
  have N0 := Fr.nil n0
  refine Rch.cast (ef_rkAS m a1 a2) ?_
  refine Rch.of (T' := T0) (g' := (mkF m 1 #[.val (.ref a1), .val (.ref a2)] [(.ref a1)])) (fun _ kt => XS.aloadN X0.here hx rfl (hb hby d_jdk_67_method_7_code_0) rfl rfl kt) ?_
  refine Rch.of (T' := T0) (g' := (mkF m 2 #[.val (.ref a1), .val (.ref a2)] [(.ref a2), (.ref a1)])) (fun _ kt => XS.aloadN X0.here hx rfl (hb hby d_jdk_67_method_7_code_1) rfl rfl kt) ?_
  have pr253 : k + n ≤ 16 := by omega
  obtain ⟨_, _, ⟨T252, L252, k252, n252⟩, -, X252, ⟨Lc252, hQ252, l252, y252, z252⟩, st252⟩ := superBack X0 hx hZ (y := (⟨"java/lang/AbstractStringBuilder", "append", "(Ljava/lang/String;)Ljava/lang/AbstractStringBuilder;"⟩ : MethodName)) hown (hw _ (List.mem_of_getElem? (i := 140) rfl)) (own_sameM (hw _ (List.mem_of_getElem? (i := 141) rfl)) (own_nf (hw _ (List.mem_of_getElem? (i := 160) rfl)) rfl) (by decide)) (hw _ (List.mem_of_getElem? (i := 141) rfl)) (hw _ (List.mem_of_getElem? (i := 142) rfl)) (by decide) (backOf (W := 0) (rkAA l Z a0 hw [] a1 b1 k z a2 b2 n y cs h0 n0 Z0 E1 F1 F2 F3 V1 g1 g2 n1 E2 F4 F5 V2 pr253 SC hcs) hZ (hw _ (List.mem_of_getElem? (i := 144) rfl)) (hw _ (List.mem_of_getElem? (i := 126) rfl)) (by decide) (by decide)) e0 (a := a1) (Ins.of_exa E1 (hw _ (List.mem_of_getElem? (i := 125) rfl))) (g := (mkF m 2 #[.val (.ref a1), .val (.ref a2)] [(.ref a2), (.ref a1)])) rfl (by rw [hml]; rfl) (hw _ (List.mem_of_getElem? (i := 144) rfl)) (argsL := [(.ref a2)]) (rest := []) (lenOf pd_19 rfl) rfl (by show 2 * 0 + _ ≤ _; exact Nat.le_of_eq rfl) (hb hby d_jdk_67_method_7_code_2) (fun _ _ => ⟨rfl, e0, (by decide : 0 + 0 ≤ _), (by decide : 0 + 0 ≤ _)⟩)
  dsimp only [Pt.U, Pt.locs, Pt.cells, Pt.slots] at X252 l252 y252 z252 st252 hQ252
  subst l252 y252 z252
  obtain ⟨rt252, rfl, N252q, hQ252⟩ := hQ252
  have N252 := Fr.app N0 N252q
  obtain ⟨K252, Ex252, Fa252, Fb252, Fc252, V252, Ea252, Eb252⟩ := hQ252
  refine Rch.via (T' := T252) (g' := (mkF m 5 #[.val (.ref a1), .val (.ref a2)] [(.ref a1)])) st252 ?_
  refine Rch.of (T' := T252) (g' := (mkF m 6 #[.val (.ref a1), .val (.ref a2)] [])) (fun _ kt => XS.pop X252.here hx rfl (hb hby d_jdk_67_method_7_code_5) rfl rfl kt) ?_
  refine Rch.of (T' := T252) (g' := (mkF m 7 #[.val (.ref a1), .val (.ref a2)] [(.ref a1)])) (fun _ kt => XS.aloadN X252.here hx rfl (hb hby d_jdk_67_method_7_code_6) rfl rfl kt) ?_
  exact Rch.retA X252 hx (w := (.ref a1)) hret rfl rfl hlk (hb hby d_jdk_67_method_7_code_7) (fun U hU hF => hK _ U _ _ _ (by show Q_rkAS Z a1 b1 k z a2 b2 n y cs h0 n0 _ U.heap _; rw [hU]; exact ⟨rt252, rfl, N252, ((Keep.refl h0 [a1, b1]).trans K252 (allS (Or.inl (List.mem_of_getElem? (i := 0) rfl)) (allS (Or.inl (List.mem_of_getElem? (i := 1) rfl)) all0))), Ex252, Fa252, Fb252, Fc252, V252, Ea252, Eb252⟩) hF (by decide) (by decide))
theorem ef_rkGV (m : MethodId) (a1 : Addr) : entryFrame m #[(.ref a1)] 1 = mkF m 0 #[.val (.ref a1)] [] := by first | (simp [entryFrame, mkF, argsToLocals, Value.category]; done) | rfl
def Q_rkGV (Z : State) (a1 : Addr) (b1 : Addr) (h0 : Heap) (n0 : Nat) (vv_ : Option Value) (h : Heap) (LL_ : List Loc) : Prop := vv_ = some (.ref b1) ∧ Fr n0 LL_ ∧ (h = h0)
theorem d_jdk_68_method_64_code_0 : decode jdk_68_method_64_code 0 = .ok (.aload_n 0, 1) := by decide +kernel
theorem d_jdk_68_method_64_code_1 : decode jdk_68_method_64_code 1 = .ok (.getfield 15, 3) := by decide +kernel
theorem d_jdk_68_method_64_code_4 : decode jdk_68_method_64_code 4 = .ok (.areturn, 1) := by decide +kernel
set_option maxRecDepth 65536 in
set_option maxHeartbeats 40000000 in
theorem rkGV (l : Launch) (Z : State) (a0 : Array Value) (hw : ∀ d ∈ tables_1, d.before a0 Z = true) (ws : List Jvm.Cond) (a1 : Addr) (b1 : Addr) (h0 : Heap) (n0 : Nat) (Z0 : n0 ≤ h0.size) (F1 : Fld Z h0 a1 "java/lang/AbstractStringBuilder" "value" "[B" (.ref b1)) :
    MetFree l (⟨"java/lang/AbstractStringBuilder", "getValue", "()[B"⟩ : MethodName) (head1 (Jvm.Cond.code (⟨"java/lang/AbstractStringBuilder", "getValue", "()[B"⟩ : MethodName) jdk_68_method_64_code 1 (some (.array .byte)) :: ws) ({ frames := 0, cells := 0, slots := 0, locals := 0 } : Room)) (fun aa_ UU_ => aa_ = #[(.ref a1)] ∧ Z.Warmed39 UU_.vm ∧ UU_.heap = h0) (fun _ _ _ _ _ => True) (fun _ UU_ oo_ VV_ => ∃ vv_ LL_, oo_ = .returned vv_ ∧ Q_rkGV Z a1 b1 h0 n0 vv_ VV_.heap LL_ ∧ FrameEnd UU_ oo_ VV_ LL_ ({ frames := 0, cells := 0, slots := 0, locals := 0 } : Room).cells ({ frames := 0, cells := 0, slots := 0, locals := 0 } : Room).slots) := by
  refine own_met (y := (⟨"java/lang/AbstractStringBuilder", "getValue", "()[B"⟩ : MethodName)) (plainFor_of_name pn_12) ?_
  intro p e s m below meth c T0 K hx hby hml hret hlk hown hnm hZ X0 e0 hK
  have N0 := Fr.nil n0
  refine Rch.cast (ef_rkGV m a1) ?_
  refine Rch.of (T' := T0) (g' := (mkF m 1 #[.val (.ref a1)] [(.ref a1)])) (fun _ kt => XS.aloadN X0.here hx rfl (hb hby d_jdk_68_method_64_code_0) rfl rfl kt) ?_
  obtain ⟨T254, X254, e254, st254⟩ := getF X0 hx hZ hown (host := "") (Or.inl (hw _ (List.mem_of_getElem? (i := 130) rfl))) Via.refl e0 F1 (g := (mkF m 1 #[.val (.ref a1)] [(.ref a1)])) rfl rfl (hb hby d_jdk_68_method_64_code_1)
  refine Rch.of (T' := T254) (g' := (mkF m 4 #[.val (.ref a1)] [(.ref b1)])) st254 ?_
  exact Rch.retA X254 hx (w := (.ref b1)) hret rfl rfl hlk (hb hby d_jdk_68_method_64_code_4) (fun U hU hF => hK _ U _ _ _ (by show Q_rkGV Z a1 b1 h0 n0 _ U.heap _; rw [hU, e254]; exact ⟨rfl, N0, rfl⟩) hF (by decide) (by decide))
theorem ef_rkN1 (m : MethodId) (a1 : Addr) : entryFrame m #[(.ref a1)] 1 = mkF m 0 #[.val (.ref a1)] [] := by first | (simp [entryFrame, mkF, argsToLocals, Value.category]; done) | rfl
def Q_rkN1 (Z : State) (a1 : Addr) (k : Nat) (h0 : Heap) (n0 : Nat) (vv_ : Option Value) (h : Heap) (LL_ : List Loc) : Prop := vv_ = some (.int (Int32.ofNat k)) ∧ Fr n0 LL_ ∧ (h = h0)
theorem d_jdk_68_method_6_code_0 : decode jdk_68_method_6_code 0 = .ok (.aload_n 0, 1) := by decide +kernel
theorem d_jdk_68_method_6_code_1 : decode jdk_68_method_6_code 1 = .ok (.getfield 79, 3) := by decide +kernel
theorem d_jdk_68_method_6_code_4 : decode jdk_68_method_6_code 4 = .ok (.ireturn, 1) := by decide +kernel
set_option maxRecDepth 65536 in
set_option maxHeartbeats 40000000 in
theorem rkN1 (l : Launch) (Z : State) (a0 : Array Value) (hw : ∀ d ∈ tables_1, d.before a0 Z = true) (ws : List Jvm.Cond) (a1 : Addr) (k : Nat) (h0 : Heap) (n0 : Nat) (Z0 : n0 ≤ h0.size) (E1 : Exa Z h0 a1 "java/lang/StringBuilder") (F3 : Fld Z h0 a1 "java/lang/AbstractStringBuilder" "count" "I" (.int (Int32.ofNat k))) :
    MetFree l (⟨"java/lang/AbstractStringBuilder", "length", "()I"⟩ : MethodName) (head1 (Jvm.Cond.code (⟨"java/lang/AbstractStringBuilder", "length", "()I"⟩ : MethodName) jdk_68_method_6_code 1 (some .int) :: ws) ({ frames := 0, cells := 0, slots := 0, locals := 0 } : Room)) (fun aa_ UU_ => aa_ = #[(.ref a1)] ∧ Z.Warmed39 UU_.vm ∧ UU_.heap = h0) (fun _ _ _ _ _ => True) (fun _ UU_ oo_ VV_ => ∃ vv_ LL_, oo_ = .returned vv_ ∧ Q_rkN1 Z a1 k h0 n0 vv_ VV_.heap LL_ ∧ FrameEnd UU_ oo_ VV_ LL_ ({ frames := 0, cells := 0, slots := 0, locals := 0 } : Room).cells ({ frames := 0, cells := 0, slots := 0, locals := 0 } : Room).slots) := by
  refine own_met (y := (⟨"java/lang/AbstractStringBuilder", "length", "()I"⟩ : MethodName)) (plainFor_of_name pn_12) ?_
  intro p e s m below meth c T0 K hx hby hml hret hlk hown hnm hZ X0 e0 hK
  have N0 := Fr.nil n0
  refine Rch.cast (ef_rkN1 m a1) ?_
  refine Rch.of (T' := T0) (g' := (mkF m 1 #[.val (.ref a1)] [(.ref a1)])) (fun _ kt => XS.aloadN X0.here hx rfl (hb hby d_jdk_68_method_6_code_0) rfl rfl kt) ?_
  obtain ⟨T255, X255, e255, st255⟩ := getF X0 hx hZ hown (host := "") (Or.inl (hw _ (List.mem_of_getElem? (i := 155) rfl))) Via.refl e0 F3 (g := (mkF m 1 #[.val (.ref a1)] [(.ref a1)])) rfl rfl (hb hby d_jdk_68_method_6_code_1)
  refine Rch.of (T' := T255) (g' := (mkF m 4 #[.val (.ref a1)] [(.int (Int32.ofNat k))])) st255 ?_
  exact Rch.retI X255 hx hret hlk (hb hby d_jdk_68_method_6_code_4) (fun U hU hF => hK _ U _ _ _ (by show Q_rkN1 Z a1 k h0 n0 _ U.heap _; rw [hU, e255]; exact ⟨rfl, N0, rfl⟩) hF (by decide) (by decide))
theorem ef_rkN2 (m : MethodId) (a1 : Addr) : entryFrame m #[(.ref a1)] 1 = mkF m 0 #[.val (.ref a1)] [] := by first | (simp [entryFrame, mkF, argsToLocals, Value.category]; done) | rfl
def Q_rkN2 (Z : State) (a1 : Addr) (k : Nat) (h0 : Heap) (n0 : Nat) (vv_ : Option Value) (h : Heap) (LL_ : List Loc) : Prop := vv_ = some (.int (Int32.ofNat k)) ∧ Fr n0 LL_ ∧ (h = h0)
theorem d_jdk_67_method_93_code_0 : decode jdk_67_method_93_code 0 = .ok (.aload_n 0, 1) := by decide +kernel
theorem d_jdk_67_method_93_code_1 : decode jdk_67_method_93_code 1 = .ok (.invokespecial 343, 3) := by decide +kernel
theorem d_jdk_67_method_93_code_4 : decode jdk_67_method_93_code 4 = .ok (.ireturn, 1) := by decide +kernel
set_option maxRecDepth 65536 in
set_option maxHeartbeats 40000000 in
theorem rkN2 (l : Launch) (Z : State) (a0 : Array Value) (hw : ∀ d ∈ tables_1, d.before a0 Z = true) (ws : List Jvm.Cond) (a1 : Addr) (k : Nat) (h0 : Heap) (n0 : Nat) (Z0 : n0 ≤ h0.size) (E1 : Exa Z h0 a1 "java/lang/StringBuilder") (F3 : Fld Z h0 a1 "java/lang/AbstractStringBuilder" "count" "I" (.int (Int32.ofNat k))) :
    MetFree l (⟨"java/lang/StringBuilder", "length", "()I"⟩ : MethodName) (head1 (Jvm.Cond.code (⟨"java/lang/StringBuilder", "length", "()I"⟩ : MethodName) jdk_67_method_93_code 1 (some .int) :: ws) ({ frames := 1, cells := 0, slots := 0, locals := 12 } : Room)) (fun aa_ UU_ => aa_ = #[(.ref a1)] ∧ Z.Warmed39 UU_.vm ∧ UU_.heap = h0) (fun _ _ _ _ _ => True) (fun _ UU_ oo_ VV_ => ∃ vv_ LL_, oo_ = .returned vv_ ∧ Q_rkN2 Z a1 k h0 n0 vv_ VV_.heap LL_ ∧ FrameEnd UU_ oo_ VV_ LL_ ({ frames := 1, cells := 0, slots := 0, locals := 12 } : Room).cells ({ frames := 1, cells := 0, slots := 0, locals := 12 } : Room).slots) := by
  refine own_met (y := (⟨"java/lang/StringBuilder", "length", "()I"⟩ : MethodName)) (plainFor_of_name pn_13) ?_
  intro p e s m below meth c T0 K hx hby hml hret hlk hown hnm hZ X0 e0 hK
  have N0 := Fr.nil n0
  refine Rch.cast (ef_rkN2 m a1) ?_
  refine Rch.of (T' := T0) (g' := (mkF m 1 #[.val (.ref a1)] [(.ref a1)])) (fun _ kt => XS.aloadN X0.here hx rfl (hb hby d_jdk_67_method_93_code_0) rfl rfl kt) ?_
  obtain ⟨_, _, ⟨T256, L256, k256, n256⟩, -, X256, ⟨Lc256, hQ256, l256, y256, z256⟩, st256⟩ := superBack X0 hx hZ (y := (⟨"java/lang/AbstractStringBuilder", "length", "()I"⟩ : MethodName)) hown (hw _ (List.mem_of_getElem? (i := 207) rfl)) (own_sameM (hw _ (List.mem_of_getElem? (i := 203) rfl)) (own_nf (hw _ (List.mem_of_getElem? (i := 160) rfl)) rfl) (by decide)) (hw _ (List.mem_of_getElem? (i := 203) rfl)) (hw _ (List.mem_of_getElem? (i := 142) rfl)) (by decide) (backOf (W := 0) (rkN1 l Z a0 hw [] a1 k h0 n0 Z0 E1 F3) hZ (hw _ (List.mem_of_getElem? (i := 208) rfl)) (hw _ (List.mem_of_getElem? (i := 126) rfl)) (by decide) (by decide)) e0 (a := a1) (Ins.of_exa E1 (hw _ (List.mem_of_getElem? (i := 125) rfl))) (g := (mkF m 1 #[.val (.ref a1)] [(.ref a1)])) rfl (by rw [hml]; rfl) (hw _ (List.mem_of_getElem? (i := 208) rfl)) (argsL := []) (rest := []) (lenOf pd_20 rfl) rfl (by show 2 * 0 + _ ≤ _; exact Nat.le_of_eq rfl) (hb hby d_jdk_67_method_93_code_1) (fun _ _ => ⟨rfl, e0, (by decide : 0 + 0 ≤ _), (by decide : 0 + 0 ≤ _)⟩)
  dsimp only [Pt.U, Pt.locs, Pt.cells, Pt.slots] at X256 l256 y256 z256 st256 hQ256
  subst l256 y256 z256
  obtain ⟨rfl, N256q, hQ256⟩ := hQ256
  have N256 := Fr.app N0 N256q
  refine Rch.via (T' := T256) (g' := (mkF m 4 #[.val (.ref a1)] [(.int (Int32.ofNat k))])) st256 ?_
  exact Rch.retI X256 hx hret hlk (hb hby d_jdk_67_method_93_code_4) (fun U hU hF => hK _ U _ _ _ (by show Q_rkN2 Z a1 k h0 n0 _ U.heap _; rw [hU, hQ256]; exact ⟨rfl, N256, rfl⟩) hF (by decide) (by decide))
theorem ef_rkIL (m : MethodId) (a1 : Addr) : entryFrame m #[(.ref a1)] 1 = mkF m 0 #[.val (.ref a1)] [] := by first | (simp [entryFrame, mkF, argsToLocals, Value.category]; done) | rfl
def Q_rkIL (Z : State) (a1 : Addr) (cs : Int32) (h0 : Heap) (n0 : Nat) (vv_ : Option Value) (h : Heap) (LL_ : List Loc) : Prop := vv_ = some (.int (1 : Int32)) ∧ Fr n0 LL_ ∧ (h = h0)
theorem d_jdk_68_method_68_code_0 : decode jdk_68_method_68_code 0 = .ok (.getstatic 18, 3) := by decide +kernel
theorem d_jdk_68_method_68_code_3 : decode jdk_68_method_68_code 3 = .ok (.ifCond .eq 14, 3) := by decide +kernel
theorem d_jdk_68_method_68_code_6 : decode jdk_68_method_68_code 6 = .ok (.aload_n 0, 1) := by decide +kernel
theorem d_jdk_68_method_68_code_7 : decode jdk_68_method_68_code 7 = .ok (.getfield 22, 3) := by decide +kernel
theorem d_jdk_68_method_68_code_10 : decode jdk_68_method_68_code 10 = .ok (.ifCond .ne 7, 3) := by decide +kernel
theorem d_jdk_68_method_68_code_13 : decode jdk_68_method_68_code 13 = .ok (.iconst 1, 1) := by decide +kernel
theorem d_jdk_68_method_68_code_14 : decode jdk_68_method_68_code 14 = .ok (.goto 4, 3) := by decide +kernel
theorem d_jdk_68_method_68_code_18 : decode jdk_68_method_68_code 18 = .ok (.ireturn, 1) := by decide +kernel
set_option maxRecDepth 65536 in
set_option maxHeartbeats 40000000 in
theorem rkIL (l : Launch) (Z : State) (a0 : Array Value) (hw : ∀ d ∈ tables_1, d.before a0 Z = true) (ws : List Jvm.Cond) (a1 : Addr) (cs : Int32) (h0 : Heap) (n0 : Nat) (Z0 : n0 ≤ h0.size) (F2 : Fld Z h0 a1 "java/lang/AbstractStringBuilder" "coder" "B" (.int (0 : Int32))) (SC : Sta Z h0 "java/lang/String" "COMPACT_STRINGS" "Z" (.int cs)) (hcs : ¬ cs = (0 : Int32)) :
    MetFree l (⟨"java/lang/AbstractStringBuilder", "isLatin1", "()Z"⟩ : MethodName) (head1 (Jvm.Cond.code (⟨"java/lang/AbstractStringBuilder", "isLatin1", "()Z"⟩ : MethodName) jdk_68_method_68_code 1 (some .boolean) :: ws) ({ frames := 0, cells := 0, slots := 0, locals := 0 } : Room)) (fun aa_ UU_ => aa_ = #[(.ref a1)] ∧ Z.Warmed39 UU_.vm ∧ UU_.heap = h0) (fun _ _ _ _ _ => True) (fun _ UU_ oo_ VV_ => ∃ vv_ LL_, oo_ = .returned vv_ ∧ Q_rkIL Z a1 cs h0 n0 vv_ VV_.heap LL_ ∧ FrameEnd UU_ oo_ VV_ LL_ ({ frames := 0, cells := 0, slots := 0, locals := 0 } : Room).cells ({ frames := 0, cells := 0, slots := 0, locals := 0 } : Room).slots) := by
  refine own_met (y := (⟨"java/lang/AbstractStringBuilder", "isLatin1", "()Z"⟩ : MethodName)) (plainFor_of_name pn_12) ?_
  intro p e s m below meth c T0 K hx hby hml hret hlk hown hnm hZ X0 e0 hK
  have N0 := Fr.nil n0
  refine Rch.cast (ef_rkIL m a1) ?_
  obtain ⟨T257, X257, e257, st257⟩ := getS2 X0 hx hZ hown (host := "") (Or.inl (hw _ (List.mem_of_getElem? (i := 129) rfl))) Via.refl e0 SC (g := (mkF m 0 #[.val (.ref a1)] [])) rfl (hb hby d_jdk_68_method_68_code_0)
  refine Rch.of (T' := T257) (g' := (mkF m 3 #[.val (.ref a1)] [(.int cs)])) st257 ?_
  refine Rch.of (T' := T257) (g' := (mkF m 6 #[.val (.ref a1)] [])) (fun _ kt => XS.ifNo X257.here hx rfl (hb hby d_jdk_68_method_68_code_3) rfl ((if0 _ _).trans (feq hcs).1) kt) ?_
  refine Rch.of (T' := T257) (g' := (mkF m 7 #[.val (.ref a1)] [(.ref a1)])) (fun _ kt => XS.aloadN X257.here hx rfl (hb hby d_jdk_68_method_68_code_6) rfl rfl kt) ?_
  obtain ⟨T258, X258, e258, st258⟩ := getF X257 hx hZ hown (host := "") (Or.inl (hw _ (List.mem_of_getElem? (i := 132) rfl))) Via.refl e257 F2 (g := (mkF m 7 #[.val (.ref a1)] [(.ref a1)])) rfl rfl (hb hby d_jdk_68_method_68_code_7)
  refine Rch.of (T' := T258) (g' := (mkF m 10 #[.val (.ref a1)] [(.int (0 : Int32))])) st258 ?_
  refine Rch.of (T' := T258) (g' := (mkF m 13 #[.val (.ref a1)] [])) (fun _ kt => XS.ifNo X258.here hx rfl (hb hby d_jdk_68_method_68_code_10) rfl ((if0 _ _).trans (teq ((by decide) : (0 : Int32) = (0 : Int32))).2) kt) ?_
  refine Rch.of (T' := T258) (g' := (mkF m 14 #[.val (.ref a1)] [(.int (1 : Int32))])) (fun _ kt => XS.iconst X258.here hx rfl (hb hby d_jdk_68_method_68_code_13) kt) ?_
  refine Rch.of (T' := T258) (g' := (mkF m 18 #[.val (.ref a1)] [(.int (1 : Int32))])) (fun _ kt => XS.goto X258.here hx rfl (pc0 := 14) (pc' := 18) rfl (hb hby d_jdk_68_method_68_code_14) (by decide) (by decide) kt) ?_
  exact Rch.retN X258 hx (t := .boolean) hret (by simp) hlk (hb hby d_jdk_68_method_68_code_18) (fun U hU hF => hK _ U _ _ _ (by show Q_rkIL Z a1 cs h0 n0 _ U.heap _; rw [hU, e258]; exact ⟨rfl, N0, rfl⟩) hF (by decide) (by decide))
theorem ef_rkX2 (m : MethodId) (a1 : Addr) (a2 : Addr) : entryFrame m #[(.ref a1), (.ref a2), .null] 5 = mkF m 0 #[.val (.ref a1), .val (.ref a2), .val .null, .unset, .unset] [] := by first | (simp [entryFrame, mkF, argsToLocals, Value.category]; done) | rfl
def Q_rkX2 (Z : State) (a1 : Addr) (a2 : Addr) (b2 : Addr) (k : Nat) (z : Nat → Int32) (u1 : Value) (cs : Int32) (h0 : Heap) (n0 : Nat) (vv_ : Option Value) (h : Heap) (LL_ : List Loc) : Prop := ∃ b : Addr, ∃ t : Nat → Int32, vv_ = none ∧ Fr n0 LL_ ∧ (Keep h0 h [a1] ∧ Exa Z h a1 "java/lang/String" ∧ Fld Z h a1 "java/lang/String" "coder" "B" (.int (0 : Int32)) ∧ Fld Z h a1 "java/lang/String" "value" "[B" (.ref b) ∧ Av Z h b .byte k (fun q => .int ((t q).toInt8.toInt32)) ∧ ∀ q, q < k → t q = z q)
theorem d_jdk_42_method_150_code_0 : decode jdk_42_method_150_code 0 = .ok (.aload_n 0, 1) := by decide +kernel
theorem d_jdk_42_method_150_code_1 : decode jdk_42_method_150_code 1 = .ok (.invokespecial 1, 3) := by decide +kernel
theorem d_jdk_42_method_150_code_4 : decode jdk_42_method_150_code 4 = .ok (.aload_n 1, 1) := by decide +kernel
theorem d_jdk_42_method_150_code_5 : decode jdk_42_method_150_code 5 = .ok (.invokevirtual 552, 3) := by decide +kernel
theorem d_jdk_42_method_150_code_8 : decode jdk_42_method_150_code 8 = .ok (.astore_n 3, 1) := by decide +kernel
theorem d_jdk_42_method_150_code_9 : decode jdk_42_method_150_code 9 = .ok (.aload_n 1, 1) := by decide +kernel
theorem d_jdk_42_method_150_code_10 : decode jdk_42_method_150_code 10 = .ok (.invokevirtual 549, 3) := by decide +kernel
theorem d_jdk_42_method_150_code_13 : decode jdk_42_method_150_code 13 = .ok (.istore 4, 2) := by decide +kernel
theorem d_jdk_42_method_150_code_15 : decode jdk_42_method_150_code 15 = .ok (.aload_n 1, 1) := by decide +kernel
theorem d_jdk_42_method_150_code_16 : decode jdk_42_method_150_code 16 = .ok (.invokevirtual 1047, 3) := by decide +kernel
theorem d_jdk_42_method_150_code_19 : decode jdk_42_method_150_code 19 = .ok (.ifCond .eq 22, 3) := by decide +kernel
theorem d_jdk_42_method_150_code_22 : decode jdk_42_method_150_code 22 = .ok (.aload_n 0, 1) := by decide +kernel
theorem d_jdk_42_method_150_code_23 : decode jdk_42_method_150_code 23 = .ok (.iconst 0, 1) := by decide +kernel
theorem d_jdk_42_method_150_code_24 : decode jdk_42_method_150_code 24 = .ok (.putfield 15, 3) := by decide +kernel
theorem d_jdk_42_method_150_code_27 : decode jdk_42_method_150_code 27 = .ok (.aload_n 0, 1) := by decide +kernel
theorem d_jdk_42_method_150_code_28 : decode jdk_42_method_150_code 28 = .ok (.aload_n 3, 1) := by decide +kernel
theorem d_jdk_42_method_150_code_29 : decode jdk_42_method_150_code 29 = .ok (.iconst 0, 1) := by decide +kernel
theorem d_jdk_42_method_150_code_30 : decode jdk_42_method_150_code 30 = .ok (.iload 4, 2) := by decide +kernel
theorem d_jdk_42_method_150_code_32 : decode jdk_42_method_150_code 32 = .ok (.invokestatic 54, 3) := by decide +kernel
theorem d_jdk_42_method_150_code_35 : decode jdk_42_method_150_code 35 = .ok (.putfield 9, 3) := by decide +kernel
theorem d_jdk_42_method_150_code_38 : decode jdk_42_method_150_code 38 = .ok (.goto 59, 3) := by decide +kernel
theorem d_jdk_42_method_150_code_97 : decode jdk_42_method_150_code 97 = .ok (.return_, 1) := by decide +kernel
set_option maxRecDepth 65536 in
set_option maxHeartbeats 40000000 in
theorem rkX2 (l : Launch) (Z : State) (a0 : Array Value) (hw : ∀ d ∈ tables_1, d.before a0 Z = true) (ws : List Jvm.Cond) (a1 : Addr) (a2 : Addr) (b2 : Addr) (k : Nat) (z : Nat → Int32) (u1 : Value) (cs : Int32) (h0 : Heap) (n0 : Nat) (Z0 : n0 ≤ h0.size) (E1 : Exa Z h0 a1 "java/lang/String") (F1 : Fld Z h0 a1 "java/lang/String" "coder" "B" u1) (F2 : Fld Z h0 a1 "java/lang/String" "value" "[B" .null) (g1 : n0 ≤ a1) (n1 : a1 ≠ a2) (n2 : a1 ≠ b2) (E2 : Exa Z h0 a2 "java/lang/StringBuilder") (F4 : Fld Z h0 a2 "java/lang/AbstractStringBuilder" "value" "[B" (.ref b2)) (F5 : Fld Z h0 a2 "java/lang/AbstractStringBuilder" "coder" "B" (.int (0 : Int32))) (F6 : Fld Z h0 a2 "java/lang/AbstractStringBuilder" "count" "I" (.int (Int32.ofNat k))) (V2 : Av Z h0 b2 .byte 16 (fun q => .int ((z q).toInt8.toInt32))) (hk : k ≤ 15) (SC : Sta Z h0 "java/lang/String" "COMPACT_STRINGS" "Z" (.int cs)) (hcs : ¬ cs = (0 : Int32)) :
    MetFree l (⟨"java/lang/String", "<init>", "(Ljava/lang/AbstractStringBuilder;Ljava/lang/Void;)V"⟩ : MethodName) (head1 (Jvm.Cond.code (⟨"java/lang/String", "<init>", "(Ljava/lang/AbstractStringBuilder;Ljava/lang/Void;)V"⟩ : MethodName) jdk_42_method_150_code 5 none :: ws) ({ frames := 3, cells := 1, slots := 16, locals := 49 } : Room)) (fun aa_ UU_ => aa_ = #[(.ref a1), (.ref a2), .null] ∧ Z.Warmed39 UU_.vm ∧ UU_.heap = h0) (fun _ _ _ _ _ => True) (fun _ UU_ oo_ VV_ => ∃ vv_ LL_, oo_ = .returned vv_ ∧ Q_rkX2 Z a1 a2 b2 k z u1 cs h0 n0 vv_ VV_.heap LL_ ∧ FrameEnd UU_ oo_ VV_ LL_ ({ frames := 3, cells := 1, slots := 16, locals := 49 } : Room).cells ({ frames := 3, cells := 1, slots := 16, locals := 49 } : Room).slots) := by
  refine own_met (y := (⟨"java/lang/String", "<init>", "(Ljava/lang/AbstractStringBuilder;Ljava/lang/Void;)V"⟩ : MethodName)) (plainFor_of_name pn_1) ?_
  intro p e s m below meth c T0 K hx hby hml hret hlk hown hnm hZ X0 e0 hK
  have N0 := Fr.nil n0
  refine Rch.cast (ef_rkX2 m a1 a2) ?_
  refine Rch.of (T' := T0) (g' := (mkF m 1 #[.val (.ref a1), .val (.ref a2), .val .null, .unset, .unset] [(.ref a1)])) (fun _ kt => XS.aloadN X0.here hx rfl (hb hby d_jdk_42_method_150_code_0) rfl rfl kt) ?_
  obtain ⟨T259, X259, e259, st259⟩ := initO X0 hx hZ hown (hw _ (List.mem_of_getElem? (i := 11) rfl)) (hw _ (List.mem_of_getElem? (i := 12) rfl)) (hw _ (List.mem_of_getElem? (i := 13) rfl)) e0 (g := (mkF m 1 #[.val (.ref a1), .val (.ref a2), .val .null, .unset, .unset] [(.ref a1)])) rfl (by rw [hml]; rfl) rfl (hb hby d_jdk_42_method_150_code_1) (by decide) (W := 0) (by show 2 * 0 + _ ≤ _; exact Nat.le_of_eq rfl) (by decide)
  refine Rch.of (T' := T259) (g' := (mkF m 4 #[.val (.ref a1), .val (.ref a2), .val .null, .unset, .unset] [])) st259 ?_
  refine Rch.of (T' := T259) (g' := (mkF m 5 #[.val (.ref a1), .val (.ref a2), .val .null, .unset, .unset] [(.ref a2)])) (fun _ kt => XS.aloadN X259.here hx rfl (hb hby d_jdk_42_method_150_code_4) rfl rfl kt) ?_
  obtain ⟨cq260, kq260, q260a, q260b, q260c⟩ := isOf hZ e259 E2
  obtain ⟨_, _, ⟨T260, L260, k260, n260⟩, -, X260, ⟨Lc260, hQ260, l260, y260, z260⟩, st260⟩ := X259.virtualBack hx (y := (⟨"java/lang/AbstractStringBuilder", "getValue", "()[B"⟩ : MethodName)) (z := (⟨"java/lang/AbstractStringBuilder", "getValue", "()[B"⟩ : MethodName)) hown (mvT hZ (hw _ (List.mem_of_getElem? (i := 196) rfl))) (mvT hZ (hw _ (List.mem_of_getElem? (i := 197) rfl))) (notFace_of_selects (args := #[]) (mvT hZ (hw _ (List.mem_of_getElem? (i := 199) rfl)))) (mvT hZ (hw _ (List.mem_of_getElem? (i := 199) rfl))) (mvT hZ (hw _ (List.mem_of_getElem? (i := 198) rfl))) (by decide) (backOf (W := 0) (rkGV l Z a0 hw [] a2 b2 h0 n0 Z0 F4) hZ (hw _ (List.mem_of_getElem? (i := 200) rfl)) (hw _ (List.mem_of_getElem? (i := 126) rfl)) (by decide) (by decide)) q260a q260c (g := (mkF m 5 #[.val (.ref a1), .val (.ref a2), .val .null, .unset, .unset] [(.ref a2)])) rfl (by rw [hml]; rfl) (Steps.refl _) (argsL := []) (rest := []) (lenOf pd_28 rfl) rfl (by show 2 * 0 + _ ≤ _; exact Nat.le_of_eq rfl) (hb hby d_jdk_42_method_150_code_5) (fun _ _ => ⟨rfl, e259, (by decide : 0 + 0 ≤ _), (by decide : 0 + 0 ≤ _)⟩)
  dsimp only [Pt.U, Pt.locs, Pt.cells, Pt.slots] at X260 l260 y260 z260 st260 hQ260
  subst l260 y260 z260
  obtain ⟨rfl, N260q, hQ260⟩ := hQ260
  have N260 := Fr.app N0 N260q
  refine Rch.via (T' := T260) (g' := (mkF m 8 #[.val (.ref a1), .val (.ref a2), .val .null, .unset, .unset] [(.ref b2)])) st260 ?_
  refine Rch.of (T' := T260) (g' := (mkF m 9 #[.val (.ref a1), .val (.ref a2), .val .null, .val (.ref b2), .unset] [])) (fun _ kt => XS.astoreN X260.here hx rfl (hb hby d_jdk_42_method_150_code_8) rfl rfl (l' := #[.val (.ref a1), .val (.ref a2), .val .null, .val (.ref b2), .unset]) rfl kt) ?_
  refine Rch.of (T' := T260) (g' := (mkF m 10 #[.val (.ref a1), .val (.ref a2), .val .null, .val (.ref b2), .unset] [(.ref a2)])) (fun _ kt => XS.aloadN X260.here hx rfl (hb hby d_jdk_42_method_150_code_9) rfl rfl kt) ?_
  obtain ⟨cq261, kq261, q261a, q261b, q261c⟩ := isOf hZ hQ260 E2
  obtain ⟨_, _, ⟨T261, L261, k261, n261⟩, -, X261, ⟨Lc261, hQ261, l261, y261, z261⟩, st261⟩ := X260.virtualBack hx (y := (⟨"java/lang/AbstractStringBuilder", "length", "()I"⟩ : MethodName)) (z := (⟨"java/lang/StringBuilder", "length", "()I"⟩ : MethodName)) hown (mvT hZ (hw _ (List.mem_of_getElem? (i := 201) rfl))) (mvT hZ (hw _ (List.mem_of_getElem? (i := 202) rfl))) (own_nf (args := #[]) (mvT hZ (hw _ (List.mem_of_getElem? (i := 160) rfl))) rfl) (mvT hZ (hw _ (List.mem_of_getElem? (i := 204) rfl))) (mvT hZ (hw _ (List.mem_of_getElem? (i := 205) rfl))) (by decide) (backOf (W := 0) (rkN2 l Z a0 hw [] a2 k h0 n0 Z0 E2 F6) hZ (hw _ (List.mem_of_getElem? (i := 206) rfl)) (hw _ (List.mem_of_getElem? (i := 118) rfl)) (by decide) (by decide)) q261a q261c (g := (mkF m 10 #[.val (.ref a1), .val (.ref a2), .val .null, .val (.ref b2), .unset] [(.ref a2)])) rfl (by rw [hml]; rfl) (Steps.refl _) (argsL := []) (rest := []) (lenOf pd_20 rfl) rfl (by show 2 * 0 + _ ≤ _; exact Nat.le_of_eq rfl) (hb hby d_jdk_42_method_150_code_10) (fun _ _ => ⟨rfl, hQ260, (by decide : 0 + 0 ≤ _), (by decide : 0 + 0 ≤ _)⟩)
  dsimp only [Pt.U, Pt.locs, Pt.cells, Pt.slots] at X261 l261 y261 z261 st261 hQ261
  subst l261 y261 z261
  obtain ⟨rfl, N261q, hQ261⟩ := hQ261
  have N261 := Fr.app N260 N261q
  refine Rch.via (T' := T261) (g' := (mkF m 13 #[.val (.ref a1), .val (.ref a2), .val .null, .val (.ref b2), .unset] [(.int (Int32.ofNat k))])) st261 ?_
  refine Rch.of (T' := T261) (g' := (mkF m 15 #[.val (.ref a1), .val (.ref a2), .val .null, .val (.ref b2), .val (.int (Int32.ofNat k))] [])) (fun _ kt => XS.istore X261.here hx rfl (hb hby d_jdk_42_method_150_code_13) rfl (l' := #[.val (.ref a1), .val (.ref a2), .val .null, .val (.ref b2), .val (.int (Int32.ofNat k))]) rfl kt) ?_
  refine Rch.of (T' := T261) (g' := (mkF m 16 #[.val (.ref a1), .val (.ref a2), .val .null, .val (.ref b2), .val (.int (Int32.ofNat k))] [(.ref a2)])) (fun _ kt => XS.aloadN X261.here hx rfl (hb hby d_jdk_42_method_150_code_15) rfl rfl kt) ?_
  obtain ⟨cq262, kq262, q262a, q262b, q262c⟩ := isOf hZ hQ261 E2
  obtain ⟨_, _, ⟨T262, L262, k262, n262⟩, -, X262, ⟨Lc262, hQ262, l262, y262, z262⟩, st262⟩ := X261.virtualBack hx (y := (⟨"java/lang/AbstractStringBuilder", "isLatin1", "()Z"⟩ : MethodName)) (z := (⟨"java/lang/AbstractStringBuilder", "isLatin1", "()Z"⟩ : MethodName)) hown (mvT hZ (hw _ (List.mem_of_getElem? (i := 209) rfl))) (mvT hZ (hw _ (List.mem_of_getElem? (i := 210) rfl))) (notFace_of_selects (args := #[]) (mvT hZ (hw _ (List.mem_of_getElem? (i := 212) rfl)))) (mvT hZ (hw _ (List.mem_of_getElem? (i := 212) rfl))) (mvT hZ (hw _ (List.mem_of_getElem? (i := 211) rfl))) (by decide) (backOf (W := 0) (rkIL l Z a0 hw [] a2 cs h0 n0 Z0 F5 SC hcs) hZ (hw _ (List.mem_of_getElem? (i := 213) rfl)) (hw _ (List.mem_of_getElem? (i := 126) rfl)) (by decide) (by decide)) q262a q262c (g := (mkF m 16 #[.val (.ref a1), .val (.ref a2), .val .null, .val (.ref b2), .val (.int (Int32.ofNat k))] [(.ref a2)])) rfl (by rw [hml]; rfl) (Steps.refl _) (argsL := []) (rest := []) (lenOf pd_15 rfl) rfl (by show 2 * 0 + _ ≤ _; exact Nat.le_of_eq rfl) (hb hby d_jdk_42_method_150_code_16) (fun _ _ => ⟨rfl, hQ261, (by decide : 0 + 0 ≤ _), (by decide : 0 + 0 ≤ _)⟩)
  dsimp only [Pt.U, Pt.locs, Pt.cells, Pt.slots] at X262 l262 y262 z262 st262 hQ262
  subst l262 y262 z262
  obtain ⟨rfl, N262q, hQ262⟩ := hQ262
  have N262 := Fr.app N261 N262q
  refine Rch.via (T' := T262) (g' := (mkF m 19 #[.val (.ref a1), .val (.ref a2), .val .null, .val (.ref b2), .val (.int (Int32.ofNat k))] [(.int (1 : Int32))])) st262 ?_
  refine Rch.of (T' := T262) (g' := (mkF m 22 #[.val (.ref a1), .val (.ref a2), .val .null, .val (.ref b2), .val (.int (Int32.ofNat k))] [])) (fun _ kt => XS.ifNo X262.here hx rfl (hb hby d_jdk_42_method_150_code_19) rfl ((if0 _ _).trans (feq ((by decide) : ¬ ((1 : Int32) = (0 : Int32)))).1) kt) ?_
  refine Rch.of (T' := T262) (g' := (mkF m 23 #[.val (.ref a1), .val (.ref a2), .val .null, .val (.ref b2), .val (.int (Int32.ofNat k))] [(.ref a1)])) (fun _ kt => XS.aloadN X262.here hx rfl (hb hby d_jdk_42_method_150_code_22) rfl rfl kt) ?_
  refine Rch.of (T' := T262) (g' := (mkF m 24 #[.val (.ref a1), .val (.ref a2), .val .null, .val (.ref b2), .val (.int (Int32.ofNat k))] [(.int (0 : Int32)), (.ref a1)])) (fun _ kt => XS.iconst X262.here hx rfl (hb hby d_jdk_42_method_150_code_23) kt) ?_
  obtain ⟨T263, h263, X263, e263, W263, st263⟩ := putFN X262 hx hZ hown (hw _ (List.mem_of_getElem? (i := 26) rfl)) Via.refl hQ262 F1 E1 (Or.inr ⟨(hw _ (List.mem_of_getElem? (i := 27) rfl)), rfl, hnm⟩) (hw _ (List.mem_of_getElem? (i := 2) rfl)) (ty := .byte) (v' := (.int (nar .byte (0 : Int32)))) (by decide) rfl (fits_nar_byte _) (g := (mkF m 24 #[.val (.ref a1), .val (.ref a2), .val .null, .val (.ref b2), .val (.int (Int32.ofNat k))] [(.int (0 : Int32)), (.ref a1)])) rfl rfl (hb hby d_jdk_42_method_150_code_24)
  have N263 := Fr.snoc X263 N262 g1
  have Fw263 := Fld.same W263 F1
  have Fb264 := (F2.other W263 (Or.inr (slot_ne (Or.inr (hw _ (List.mem_of_getElem? (i := 29) rfl))) (Or.inr (hw _ (List.mem_of_getElem? (i := 27) rfl))) (by decide) (t := (.array .byte)) (t' := .byte) (by decide) (by decide))))
  refine Rch.of (T' := T263) (g' := (mkF m 27 #[.val (.ref a1), .val (.ref a2), .val .null, .val (.ref b2), .val (.int (Int32.ofNat k))] [])) st263 ?_
  refine Rch.of (T' := T263) (g' := (mkF m 28 #[.val (.ref a1), .val (.ref a2), .val .null, .val (.ref b2), .val (.int (Int32.ofNat k))] [(.ref a1)])) (fun _ kt => XS.aloadN X263.here hx rfl (hb hby d_jdk_42_method_150_code_27) rfl rfl kt) ?_
  refine Rch.of (T' := T263) (g' := (mkF m 29 #[.val (.ref a1), .val (.ref a2), .val .null, .val (.ref b2), .val (.int (Int32.ofNat k))] [(.ref b2), (.ref a1)])) (fun _ kt => XS.aloadN X263.here hx rfl (hb hby d_jdk_42_method_150_code_28) rfl rfl kt) ?_
  refine Rch.of (T' := T263) (g' := (mkF m 30 #[.val (.ref a1), .val (.ref a2), .val .null, .val (.ref b2), .val (.int (Int32.ofNat k))] [(.int (0 : Int32)), (.ref b2), (.ref a1)])) (fun _ kt => XS.iconst X263.here hx rfl (hb hby d_jdk_42_method_150_code_29) kt) ?_
  refine Rch.of (T' := T263) (g' := (mkF m 32 #[.val (.ref a1), .val (.ref a2), .val .null, .val (.ref b2), .val (.int (Int32.ofNat k))] [(.int (Int32.ofNat k)), (.int (0 : Int32)), (.ref b2), (.ref a1)])) (fun _ kt => XS.iload X263.here hx rfl (hb hby d_jdk_42_method_150_code_30) rfl  kt) ?_
  have pr266 : 0 ≤ k := by omega
  have pr267 : k ≤ 16 := by omega
  have pr268 : 16 ≤ 16 := by omega
  have pr269 : ¬ (0 = 0 ∧ k = 16) := by omega
  obtain ⟨_, _, ⟨T265, L265, k265, n265⟩, -, X265, ⟨Lc265, hQ265, l265, y265, z265⟩, st265⟩ := Jvm.LawKit.callS X263 hx (y := (⟨"java/util/Arrays", "copyOfRange", "([BII)[B"⟩ : MethodName)) hown (mvT hZ (hw _ (List.mem_of_getElem? (i := 214) rfl))) (mvT hZ (hw _ (List.mem_of_getElem? (i := 215) rfl))) (mvT hZ (hw _ (List.mem_of_getElem? (i := 216) rfl))) (mvT hZ (hw _ (List.mem_of_getElem? (i := 217) rfl))) (by decide) (backOf (W := 1) (rqCR l Z a0 hw [] b2 16 z 0 k h263 n0 (Nat.le_trans Z0 (Keep.of_wr W263).1) (V2.other W263 (Ne.symm n2)) pr266 pr267 pr268 pr269) hZ (hw _ (List.mem_of_getElem? (i := 217) rfl)) (hw _ (List.mem_of_getElem? (i := 216) rfl)) (by decide) (by decide)) (g := (mkF m 32 #[.val (.ref a1), .val (.ref a2), .val .null, .val (.ref b2), .val (.int (Int32.ofNat k))] [(.int (Int32.ofNat k)), (.int (0 : Int32)), (.ref b2), (.ref a1)])) rfl (by rw [hml]; rfl) (argsL := [(.ref b2), (.int (0 : Int32)), (.int (Int32.ofNat k))]) (rest := [(.ref a1)]) (lenOf pd_29 rfl) rfl (by show 2 * 0 + _ ≤ _; exact Nat.le_of_eq rfl) (hb hby d_jdk_42_method_150_code_32) (fun _ _ => ⟨rfl, e263, (by decide : 0 + 1 ≤ _), (by decide : 0 + 16 ≤ _)⟩)
  dsimp only [Pt.U, Pt.locs, Pt.cells, Pt.slots] at X265 l265 y265 z265 st265 hQ265
  subst l265 y265 z265
  obtain ⟨rfl, N265q, hQ265⟩ := hQ265
  have N265 := Fr.app N263 N265q
  obtain ⟨K265, V265⟩ := hQ265
  obtain ⟨b265, g265⟩ : ∃ zz_, zz_ = h263.size := ⟨_, rfl⟩
  have ne_a1_b265 : a1 ≠ b265 := Nat.ne_of_lt (Nat.lt_of_lt_of_le (E1.wr W263).lt (Nat.le_of_eq g265.symm))
  have ne_a2_b265 : a2 ≠ b265 := Nat.ne_of_lt (Nat.lt_of_lt_of_le (E2.wr W263).lt (Nat.le_of_eq g265.symm))
  have ne_b2_b265 : b2 ≠ b265 := Nat.ne_of_lt (Nat.lt_of_lt_of_le (V2.other W263 (Ne.symm n2)).lt (Nat.le_of_eq g265.symm))
  have ge_b265 : n0 ≤ b265 := Nat.le_trans (Nat.le_trans Z0 (Keep.of_wr W263).1) (Nat.le_of_eq g265.symm)
  have sz_b265 : h0.size ≤ b265 := Nat.le_trans ((Keep.refl h0 [a1]).wr W263 (Or.inl (List.mem_of_getElem? (i := 0) rfl))).1 (Nat.le_of_eq g265.symm)
  rw [← g265] at V265 st265
  refine Rch.of (T' := T265) (g' := (mkF m 35 #[.val (.ref a1), .val (.ref a2), .val .null, .val (.ref b2), .val (.int (Int32.ofNat k))] [(.ref b265), (.ref a1)])) st265 ?_
  obtain ⟨T270, h270, X270, e270, W270, st270⟩ := putF X265 hx hZ hown (host := "") (Or.inl (hw _ (List.mem_of_getElem? (i := 28) rfl))) Via.refl rfl (Fb264.keep K265 nin0) ((E1.wr W263).keep K265) (Or.inr ⟨(hw _ (List.mem_of_getElem? (i := 29) rfl)), rfl, hnm⟩) (hw _ (List.mem_of_getElem? (i := 2) rfl)) (ty := (.array .byte)) (by decide) rfl rfl (g := (mkF m 35 #[.val (.ref a1), .val (.ref a2), .val .null, .val (.ref b2), .val (.int (Int32.ofNat k))] [(.ref b265), (.ref a1)])) rfl rfl (hb hby d_jdk_42_method_150_code_35)
  have N270 := Fr.snoc X270 N265 g1
  have Fw270 := Fld.same W270 (Fb264.keep K265 nin0)
  have Fb271 := ((Fw263.keep K265 nin0).other W270 (Or.inr (slot_ne (Or.inr (hw _ (List.mem_of_getElem? (i := 27) rfl))) (Or.inr (hw _ (List.mem_of_getElem? (i := 29) rfl))) (by decide) (t := .byte) (t' := (.array .byte)) (by decide) (by decide))))
  refine Rch.of (T' := T270) (g' := (mkF m 38 #[.val (.ref a1), .val (.ref a2), .val .null, .val (.ref b2), .val (.int (Int32.ofNat k))] [])) st270 ?_
  refine Rch.of (T' := T270) (g' := (mkF m 97 #[.val (.ref a1), .val (.ref a2), .val .null, .val (.ref b2), .val (.int (Int32.ofNat k))] [])) (fun _ kt => XS.goto X270.here hx rfl (pc0 := 38) (pc' := 97) rfl (hb hby d_jdk_42_method_150_code_38) (by decide) (by decide) kt) ?_
  exact Rch.retV X270 hx hret hlk (hb hby d_jdk_42_method_150_code_97) (fun U hU hF => hK _ U _ _ _ (by show Q_rkX2 Z a1 a2 b2 k z u1 cs h0 n0 _ U.heap _; rw [hU, e270]; exact ⟨b265, (fun q => z (0 + q)), rfl, N270, ((((Keep.refl h0 [a1]).wr W263 (Or.inl (List.mem_of_getElem? (i := 0) rfl))).trans K265 all0).wr W270 (Or.inl (List.mem_of_getElem? (i := 0) rfl))), (((E1.wr W263).keep K265).wr W270), Fb271, Fw270, (V265.other W270 (Ne.symm ne_a1_b265)), fun q _ => congrArg z (Nat.zero_add q)⟩) hF (by decide) (by decide))
theorem ef_rkX1 (m : MethodId) (a1 : Addr) (a2 : Addr) : entryFrame m #[(.ref a1), (.ref a2)] 2 = mkF m 0 #[.val (.ref a1), .val (.ref a2)] [] := by first | (simp [entryFrame, mkF, argsToLocals, Value.category]; done) | rfl
def Q_rkX1 (Z : State) (a1 : Addr) (a2 : Addr) (b2 : Addr) (k : Nat) (z : Nat → Int32) (u1 : Value) (cs : Int32) (h0 : Heap) (n0 : Nat) (vv_ : Option Value) (h : Heap) (LL_ : List Loc) : Prop := ∃ b : Addr, ∃ t : Nat → Int32, vv_ = none ∧ Fr n0 LL_ ∧ (Keep h0 h [a1] ∧ Exa Z h a1 "java/lang/String" ∧ Fld Z h a1 "java/lang/String" "coder" "B" (.int (0 : Int32)) ∧ Fld Z h a1 "java/lang/String" "value" "[B" (.ref b) ∧ Av Z h b .byte k (fun q => .int ((t q).toInt8.toInt32)) ∧ ∀ q, q < k → t q = z q)
theorem d_jdk_42_method_53_code_0 : decode jdk_42_method_53_code 0 = .ok (.aload_n 0, 1) := by decide +kernel
theorem d_jdk_42_method_53_code_1 : decode jdk_42_method_53_code 1 = .ok (.aload_n 1, 1) := by decide +kernel
theorem d_jdk_42_method_53_code_2 : decode jdk_42_method_53_code 2 = .ok (.aconst_null, 1) := by decide +kernel
theorem d_jdk_42_method_53_code_3 : decode jdk_42_method_53_code 3 = .ok (.invokespecial 489, 3) := by decide +kernel
theorem d_jdk_42_method_53_code_6 : decode jdk_42_method_53_code 6 = .ok (.return_, 1) := by decide +kernel
set_option maxRecDepth 65536 in
set_option maxHeartbeats 40000000 in
theorem rkX1 (l : Launch) (Z : State) (a0 : Array Value) (hw : ∀ d ∈ tables_1, d.before a0 Z = true) (ws : List Jvm.Cond) (a1 : Addr) (a2 : Addr) (b2 : Addr) (k : Nat) (z : Nat → Int32) (u1 : Value) (cs : Int32) (h0 : Heap) (n0 : Nat) (Z0 : n0 ≤ h0.size) (E1 : Exa Z h0 a1 "java/lang/String") (F1 : Fld Z h0 a1 "java/lang/String" "coder" "B" u1) (F2 : Fld Z h0 a1 "java/lang/String" "value" "[B" .null) (g1 : n0 ≤ a1) (n1 : a1 ≠ a2) (n2 : a1 ≠ b2) (E2 : Exa Z h0 a2 "java/lang/StringBuilder") (F4 : Fld Z h0 a2 "java/lang/AbstractStringBuilder" "value" "[B" (.ref b2)) (F5 : Fld Z h0 a2 "java/lang/AbstractStringBuilder" "coder" "B" (.int (0 : Int32))) (F6 : Fld Z h0 a2 "java/lang/AbstractStringBuilder" "count" "I" (.int (Int32.ofNat k))) (V2 : Av Z h0 b2 .byte 16 (fun q => .int ((z q).toInt8.toInt32))) (hk : k ≤ 15) (SC : Sta Z h0 "java/lang/String" "COMPACT_STRINGS" "Z" (.int cs)) (hcs : ¬ cs = (0 : Int32)) :
    MetFree l (⟨"java/lang/String", "<init>", "(Ljava/lang/StringBuilder;)V"⟩ : MethodName) (head1 (Jvm.Cond.code (⟨"java/lang/String", "<init>", "(Ljava/lang/StringBuilder;)V"⟩ : MethodName) jdk_42_method_53_code 2 none :: ws) ({ frames := 4, cells := 1, slots := 16, locals := 65 } : Room)) (fun aa_ UU_ => aa_ = #[(.ref a1), (.ref a2)] ∧ Z.Warmed39 UU_.vm ∧ UU_.heap = h0) (fun _ _ _ _ _ => True) (fun _ UU_ oo_ VV_ => ∃ vv_ LL_, oo_ = .returned vv_ ∧ Q_rkX1 Z a1 a2 b2 k z u1 cs h0 n0 vv_ VV_.heap LL_ ∧ FrameEnd UU_ oo_ VV_ LL_ ({ frames := 4, cells := 1, slots := 16, locals := 65 } : Room).cells ({ frames := 4, cells := 1, slots := 16, locals := 65 } : Room).slots) := by
  refine own_met (y := (⟨"java/lang/String", "<init>", "(Ljava/lang/StringBuilder;)V"⟩ : MethodName)) (plainFor_of_name pn_1) ?_
  intro p e s m below meth c T0 K hx hby hml hret hlk hown hnm hZ X0 e0 hK
  have N0 := Fr.nil n0
  refine Rch.cast (ef_rkX1 m a1 a2) ?_
  refine Rch.of (T' := T0) (g' := (mkF m 1 #[.val (.ref a1), .val (.ref a2)] [(.ref a1)])) (fun _ kt => XS.aloadN X0.here hx rfl (hb hby d_jdk_42_method_53_code_0) rfl rfl kt) ?_
  refine Rch.of (T' := T0) (g' := (mkF m 2 #[.val (.ref a1), .val (.ref a2)] [(.ref a2), (.ref a1)])) (fun _ kt => XS.aloadN X0.here hx rfl (hb hby d_jdk_42_method_53_code_1) rfl rfl kt) ?_
  refine Rch.of (T' := T0) (g' := (mkF m 3 #[.val (.ref a1), .val (.ref a2)] [.null, (.ref a2), (.ref a1)])) (fun _ kt => XS.aconstNull X0.here hx rfl (hb hby d_jdk_42_method_53_code_2) kt) ?_
  have pr273 : k ≤ 15 := by omega
  obtain ⟨_, _, ⟨T272, L272, k272, n272⟩, -, X272, ⟨Lc272, hQ272, l272, y272, z272⟩, st272⟩ := X0.specialBack hx (y := (⟨"java/lang/String", "<init>", "(Ljava/lang/AbstractStringBuilder;Ljava/lang/Void;)V"⟩ : MethodName)) rfl hown (mvT hZ (hw _ (List.mem_of_getElem? (i := 193) rfl))) (mvT hZ (hw _ (List.mem_of_getElem? (i := 194) rfl))) (mvT hZ (hw _ (List.mem_of_getElem? (i := 195) rfl))) (by decide) (backOf (W := 0) (rkX2 l Z a0 hw [] a1 a2 b2 k z u1 cs h0 n0 Z0 E1 F1 F2 g1 n1 n2 E2 F4 F5 F6 V2 pr273 SC hcs) hZ (hw _ (List.mem_of_getElem? (i := 195) rfl)) (hw _ (List.mem_of_getElem? (i := 3) rfl)) (by decide) (by decide)) (g := (mkF m 3 #[.val (.ref a1), .val (.ref a2)] [.null, (.ref a2), (.ref a1)])) rfl (by rw [hml]; rfl) (Steps.refl _) (a := a1) (argsL := [(.ref a2), .null]) (rest := []) (lenOf pd_27 rfl) rfl (by show 2 * 0 + _ ≤ _; exact Nat.le_of_eq rfl) (hb hby d_jdk_42_method_53_code_3) (fun _ _ => ⟨rfl, e0, (by decide : 0 + 1 ≤ _), (by decide : 0 + 16 ≤ _)⟩)
  dsimp only [Pt.U, Pt.locs, Pt.cells, Pt.slots] at X272 l272 y272 z272 st272 hQ272
  subst l272 y272 z272
  obtain ⟨rb272, rt272, rfl, N272q, hQ272⟩ := hQ272
  have N272 := Fr.app N0 N272q
  obtain ⟨K272, Ex272, Fa272, Fb272, V272, Eq272⟩ := hQ272
  refine Rch.via (T' := T272) (g' := (mkF m 6 #[.val (.ref a1), .val (.ref a2)] [])) st272 ?_
  exact Rch.retV X272 hx hret hlk (hb hby d_jdk_42_method_53_code_6) (fun U hU hF => hK _ U _ _ _ (by show Q_rkX1 Z a1 a2 b2 k z u1 cs h0 n0 _ U.heap _; rw [hU]; exact ⟨rb272, rt272, rfl, N272, ((Keep.refl h0 [a1]).trans K272 (allS (Or.inl (List.mem_of_getElem? (i := 0) rfl)) all0)), Ex272, Fa272, Fb272, V272, Eq272⟩) hF (by decide) (by decide))
theorem ef_rkTS (m : MethodId) (a2 : Addr) : entryFrame m #[(.ref a2)] 1 = mkF m 0 #[.val (.ref a2)] [] := by first | (simp [entryFrame, mkF, argsToLocals, Value.category]; done) | rfl
def Q_rkTS (Z : State) (a2 : Addr) (b2 : Addr) (k : Nat) (z : Nat → Int32) (cs : Int32) (h0 : Heap) (n0 : Nat) (vv_ : Option Value) (h : Heap) (LL_ : List Loc) : Prop := ∃ r : Addr, ∃ b : Addr, ∃ t : Nat → Int32, vv_ = some (.ref r) ∧ Fr n0 LL_ ∧ (Keep h0 h [] ∧ Exa Z h r "java/lang/String" ∧ Fld Z h r "java/lang/String" "coder" "B" (.int (0 : Int32)) ∧ Fld Z h r "java/lang/String" "value" "[B" (.ref b) ∧ Av Z h b .byte k (fun q => .int ((t q).toInt8.toInt32)) ∧ ∀ q, q < k → t q = z q)
theorem d_jdk_67_method_42_code_0 : decode jdk_67_method_42_code 0 = .ok (.new 18, 3) := by decide +kernel
theorem d_jdk_67_method_42_code_3 : decode jdk_67_method_42_code 3 = .ok (.dup, 1) := by decide +kernel
theorem d_jdk_67_method_42_code_4 : decode jdk_67_method_42_code 4 = .ok (.aload_n 0, 1) := by decide +kernel
theorem d_jdk_67_method_42_code_5 : decode jdk_67_method_42_code 5 = .ok (.invokespecial 137, 3) := by decide +kernel
theorem d_jdk_67_method_42_code_8 : decode jdk_67_method_42_code 8 = .ok (.areturn, 1) := by decide +kernel
set_option maxRecDepth 65536 in
set_option maxHeartbeats 40000000 in
theorem rkTS (l : Launch) (Z : State) (a0 : Array Value) (hw : ∀ d ∈ tables_1, d.before a0 Z = true) (ws : List Jvm.Cond) (a2 : Addr) (b2 : Addr) (k : Nat) (z : Nat → Int32) (cs : Int32) (h0 : Heap) (n0 : Nat) (Z0 : n0 ≤ h0.size) (E2 : Exa Z h0 a2 "java/lang/StringBuilder") (F4 : Fld Z h0 a2 "java/lang/AbstractStringBuilder" "value" "[B" (.ref b2)) (F5 : Fld Z h0 a2 "java/lang/AbstractStringBuilder" "coder" "B" (.int (0 : Int32))) (F6 : Fld Z h0 a2 "java/lang/AbstractStringBuilder" "count" "I" (.int (Int32.ofNat k))) (V2 : Av Z h0 b2 .byte 16 (fun q => .int ((z q).toInt8.toInt32))) (hk : k ≤ 15) (SC : Sta Z h0 "java/lang/String" "COMPACT_STRINGS" "Z" (.int cs)) (hcs : ¬ cs = (0 : Int32)) :
    MetFree l (⟨"java/lang/StringBuilder", "toString", "()Ljava/lang/String;"⟩ : MethodName) (head1 (Jvm.Cond.code (⟨"java/lang/StringBuilder", "toString", "()Ljava/lang/String;"⟩ : MethodName) jdk_67_method_42_code 1 (some (.object "java/lang/String")) :: ws) ({ frames := 5, cells := 2, slots := 20, locals := 79 } : Room)) (fun aa_ UU_ => aa_ = #[(.ref a2)] ∧ Z.Warmed39 UU_.vm ∧ UU_.heap = h0) (fun _ _ _ _ _ => True) (fun _ UU_ oo_ VV_ => ∃ vv_ LL_, oo_ = .returned vv_ ∧ Q_rkTS Z a2 b2 k z cs h0 n0 vv_ VV_.heap LL_ ∧ FrameEnd UU_ oo_ VV_ LL_ ({ frames := 5, cells := 2, slots := 20, locals := 79 } : Room).cells ({ frames := 5, cells := 2, slots := 20, locals := 79 } : Room).slots) := by
  refine own_met (y := (⟨"java/lang/StringBuilder", "toString", "()Ljava/lang/String;"⟩ : MethodName)) (plainFor_of_name pn_13) ?_
  intro p e s m below meth c T0 K hx hby hml hret hlk hown hnm hZ X0 e0 hK
  have N0 := Fr.nil n0
  refine Rch.cast (ef_rkTS m a2) ?_
  obtain ⟨T274, h274, X274, e274, E274, A274, D274, -, st274⟩ := newO X0 hx hZ hown (hw _ (List.mem_of_getElem? (i := 189) rfl)) (hw _ (List.mem_of_getElem? (i := 2) rfl)) (hw _ (List.mem_of_getElem? (i := 3) rfl)) e0 (g := (mkF m 0 #[.val (.ref a2)] [])) rfl (hb hby d_jdk_67_method_42_code_0) (by decide) (by decide)
  obtain ⟨b274, g274⟩ : ∃ zz_, zz_ = h0.size := ⟨_, rfl⟩
  have ne_a2_b274 : a2 ≠ b274 := Nat.ne_of_lt (Nat.lt_of_lt_of_le E2.lt (Nat.le_of_eq g274.symm))
  have ne_b2_b274 : b2 ≠ b274 := Nat.ne_of_lt (Nat.lt_of_lt_of_le V2.lt (Nat.le_of_eq g274.symm))
  have ge_b274 : n0 ≤ b274 := Nat.le_trans Z0 (Nat.le_of_eq g274.symm)
  have sz_b274 : h0.size ≤ b274 := Nat.le_trans (Keep.refl h0 []).1 (Nat.le_of_eq g274.symm)
  rw [← g274] at A274 D274 st274
  have F274_coder : Fld Z h274 b274 "java/lang/String" "coder" "B" (.int (0 : Int32)) := D274 (Or.inr (hw _ (List.mem_of_getElem? (i := 27) rfl))) (ty := .byte) (by decide)
  have F274_value : Fld Z h274 b274 "java/lang/String" "value" "[B" .null := D274 (Or.inr (hw _ (List.mem_of_getElem? (i := 29) rfl))) (ty := (.array .byte)) (by decide)
  refine Rch.of (T' := T274) (g' := (mkF m 3 #[.val (.ref a2)] [(.ref b274)])) st274 ?_
  refine Rch.of (T' := T274) (g' := (mkF m 4 #[.val (.ref a2)] [(.ref b274), (.ref b274)])) (fun _ kt => XS.dup X274.here hx rfl (hb hby d_jdk_67_method_42_code_3) rfl rfl kt) ?_
  refine Rch.of (T' := T274) (g' := (mkF m 5 #[.val (.ref a2)] [(.ref a2), (.ref b274), (.ref b274)])) (fun _ kt => XS.aloadN X274.here hx rfl (hb hby d_jdk_67_method_42_code_4) rfl rfl kt) ?_
  have pr276 : k ≤ 15 := by omega
  obtain ⟨_, _, ⟨T275, L275, k275, n275⟩, -, X275, ⟨Lc275, hQ275, l275, y275, z275⟩, st275⟩ := X274.specialBack hx (y := (⟨"java/lang/String", "<init>", "(Ljava/lang/StringBuilder;)V"⟩ : MethodName)) rfl hown (mvT hZ (hw _ (List.mem_of_getElem? (i := 190) rfl))) (mvT hZ (hw _ (List.mem_of_getElem? (i := 191) rfl))) (mvT hZ (hw _ (List.mem_of_getElem? (i := 192) rfl))) (by decide) (backOf (W := 1) (rkX1 l Z a0 hw [] b274 a2 b2 k z (.int (0 : Int32)) cs h274 n0 (Nat.le_trans Z0 E274.1) A274 F274_coder F274_value ge_b274 (Ne.symm ne_a2_b274) (Ne.symm ne_b2_b274) (E2.ext E274) (F4.ext E274) (F5.ext E274) (F6.ext E274) (V2.ext E274) pr276 (SC.ext E274) hcs) hZ (hw _ (List.mem_of_getElem? (i := 192) rfl)) (hw _ (List.mem_of_getElem? (i := 3) rfl)) (by decide) (by decide)) (g := (mkF m 5 #[.val (.ref a2)] [(.ref a2), (.ref b274), (.ref b274)])) rfl (by rw [hml]; rfl) (Steps.refl _) (a := b274) (argsL := [(.ref a2)]) (rest := [(.ref b274)]) (lenOf pd_26 rfl) rfl (by show 2 * 0 + _ ≤ _; exact Nat.le_of_eq rfl) (hb hby d_jdk_67_method_42_code_5) (fun _ _ => ⟨rfl, e274, (by decide : 1 + 1 ≤ _), (by decide : 4 + 16 ≤ _)⟩)
  dsimp only [Pt.U, Pt.locs, Pt.cells, Pt.slots] at X275 l275 y275 z275 st275 hQ275
  subst l275 y275 z275
  obtain ⟨rb275, rt275, rfl, N275q, hQ275⟩ := hQ275
  have N275 := Fr.app N0 N275q
  obtain ⟨K275, Ex275, Fa275, Fb275, V275, Eq275⟩ := hQ275
  refine Rch.via (T' := T275) (g' := (mkF m 8 #[.val (.ref a2)] [(.ref b274)])) st275 ?_
  exact Rch.retA X275 hx (w := (.ref b274)) hret rfl rfl hlk (hb hby d_jdk_67_method_42_code_8) (fun U hU hF => hK _ U _ _ _ (by show Q_rkTS Z a2 b2 k z cs h0 n0 _ U.heap _; rw [hU]; exact ⟨b274, rb275, rt275, rfl, N275, (((Keep.refl h0 []).ext E274).trans K275 (allS (Or.inr sz_b274) all0)), Ex275, Fa275, Fb275, V275, Eq275⟩) hF (by decide) (by decide))
theorem pn_14 : plainName "com/example/ampliar/ampliar/command/Parameter" = true := by first | (simp [plainName, overriddenIn]; done) | decide +kernel
theorem ef_rkP0 (m : MethodId) (a1 : Addr) (a2 : Addr) (a3 : Addr) (a4 : Addr) : entryFrame m #[(.ref a1), (.ref a2), (.ref a3), (.ref a4)] 4 = mkF m 0 #[.val (.ref a1), .val (.ref a2), .val (.ref a3), .val (.ref a4)] [] := by first | (simp [entryFrame, mkF, argsToLocals, Value.category]; done) | rfl
def Q_rkP0 (Z : State) (a1 : Addr) (a2 : Addr) (a3 : Addr) (a4 : Addr) (el : Addr) (u0 : Value) (u1 : Value) (u2 : Value) (h0 : Heap) (n0 : Nat) (vv_ : Option Value) (h : Heap) (LL_ : List Loc) : Prop := vv_ = none ∧ Fr n0 LL_ ∧ (Keep h0 h [a1] ∧ Exa Z h a1 "com/example/ampliar/ampliar/command/Parameter" ∧ Fld Z h a1 "com/example/ampliar/ampliar/command/Parameter" "name" "Ljava/lang/String;" (.ref a2) ∧ Fld Z h a1 "com/example/ampliar/ampliar/command/Parameter" "value" "Ljava/lang/String;" (.ref a3))
theorem d_prog_6_method_1_code_0 : decode prog_6_method_1_code 0 = .ok (.aload_n 0, 1) := by decide +kernel
theorem d_prog_6_method_1_code_1 : decode prog_6_method_1_code 1 = .ok (.invokespecial 1, 3) := by decide +kernel
theorem d_prog_6_method_1_code_4 : decode prog_6_method_1_code 4 = .ok (.aload_n 0, 1) := by decide +kernel
theorem d_prog_6_method_1_code_5 : decode prog_6_method_1_code 5 = .ok (.aload_n 1, 1) := by decide +kernel
theorem d_prog_6_method_1_code_6 : decode prog_6_method_1_code 6 = .ok (.putfield 7, 3) := by decide +kernel
theorem d_prog_6_method_1_code_9 : decode prog_6_method_1_code 9 = .ok (.aload_n 0, 1) := by decide +kernel
theorem d_prog_6_method_1_code_10 : decode prog_6_method_1_code 10 = .ok (.aload_n 2, 1) := by decide +kernel
theorem d_prog_6_method_1_code_11 : decode prog_6_method_1_code 11 = .ok (.ldc 13, 2) := by decide +kernel
theorem d_prog_6_method_1_code_13 : decode prog_6_method_1_code 13 = .ok (.invokestatic 15, 3) := by decide +kernel
theorem d_prog_6_method_1_code_16 : decode prog_6_method_1_code 16 = .ok (.checkcast 21, 3) := by decide +kernel
theorem d_prog_6_method_1_code_19 : decode prog_6_method_1_code 19 = .ok (.putfield 23, 3) := by decide +kernel
theorem d_prog_6_method_1_code_22 : decode prog_6_method_1_code 22 = .ok (.aload_n 0, 1) := by decide +kernel
theorem d_prog_6_method_1_code_23 : decode prog_6_method_1_code 23 = .ok (.aload_n 3, 1) := by decide +kernel
theorem d_prog_6_method_1_code_24 : decode prog_6_method_1_code 24 = .ok (.invokestatic 25, 3) := by decide +kernel
theorem d_prog_6_method_1_code_27 : decode prog_6_method_1_code 27 = .ok (.putfield 31, 3) := by decide +kernel
theorem d_prog_6_method_1_code_30 : decode prog_6_method_1_code 30 = .ok (.return_, 1) := by decide +kernel
set_option maxRecDepth 65536 in
set_option maxHeartbeats 40000000 in
theorem rkP0 (l : Launch) (Z : State) (a0 : Array Value) (hw : ∀ d ∈ tables_1, d.before a0 Z = true) (ws : List Jvm.Cond) (a1 : Addr) (a2 : Addr) (a3 : Addr) (a4 : Addr) (el : Addr) (u0 : Value) (u1 : Value) (u2 : Value) (h0 : Heap) (n0 : Nat) (Z0 : n0 ≤ h0.size) (E1 : Exa Z h0 a1 "com/example/ampliar/ampliar/command/Parameter") (F0 : Fld Z h0 a1 "com/example/ampliar/ampliar/command/Parameter" "name" "Ljava/lang/String;" u0) (F1 : Fld Z h0 a1 "com/example/ampliar/ampliar/command/Parameter" "value" "Ljava/lang/String;" u1) (F2 : Fld Z h0 a1 "com/example/ampliar/ampliar/command/Parameter" "choices" "Ljava/util/List;" u2) (g1 : n0 ≤ a1) (E3 : Exa Z h0 a3 "java/lang/String") (V1 : Av Z h0 a4 (.object "java/lang/String") 0 (fun q => (fun _ => Value.null) q)) (SL : Sta Z h0 "java/util/ImmutableCollections" "EMPTY_LIST" "Ljava/util/ImmutableCollections$ListN;" (.ref el)) (n4 : a4 ≠ a1) :
    MetFree l (⟨"com/example/ampliar/ampliar/command/Parameter", "<init>", "(Ljava/lang/String;Ljava/lang/String;[Ljava/lang/String;)V"⟩ : MethodName) (head1 (Jvm.Cond.code (⟨"com/example/ampliar/ampliar/command/Parameter", "<init>", "(Ljava/lang/String;Ljava/lang/String;[Ljava/lang/String;)V"⟩ : MethodName) prog_6_method_1_code 4 none :: ws) ({ frames := 1, cells := 2, slots := 24, locals := 14 } : Room)) (fun aa_ UU_ => aa_ = #[(.ref a1), (.ref a2), (.ref a3), (.ref a4)] ∧ Z.Warmed39 UU_.vm ∧ UU_.heap = h0 ∧ CHv Z consts_1 UU_.vm h0) (fun _ _ _ _ _ => True) (fun _ UU_ oo_ VV_ => ∃ vv_ LL_, oo_ = .returned vv_ ∧ Q_rkP0 Z a1 a2 a3 a4 el u0 u1 u2 h0 n0 vv_ VV_.heap LL_ ∧ CHr Z consts_1 UU_.vm UU_.heap VV_.vm VV_.heap ∧ ReturnedEndW UU_ oo_ VV_ LL_ ({ frames := 1, cells := 2, slots := 24, locals := 14 } : Room).cells ({ frames := 1, cells := 2, slots := 24, locals := 14 } : Room).slots) := by
  refine own_metH (y := (⟨"com/example/ampliar/ampliar/command/Parameter", "<init>", "(Ljava/lang/String;Ljava/lang/String;[Ljava/lang/String;)V"⟩ : MethodName)) (plainFor_of_name pn_14) ?_
  intro p e s m below meth c T0 K hx hby hml hret hlk hown hnm hZ X0 e0 C0 hK
  have N0 := Fr.nil n0
  have R0 := CHr.refl C0
  have hEL := own_EW hw
  have hS0 : s.Since s.vm 0 := (State.WarmedH.refl s).since 0
  have hk0 : 0 ≤ h0.size := Nat.zero_le _
  have wS : ∀ d ∈ Bundle.stringAtoms, d.before a0 Z = true := fun d hd => hw d ((by decide +kernel : ∀ d ∈ Bundle.stringAtoms, d ∈ tables_1) d hd)
  change Stand p l e ({ frames := 1, cells := 2, slots := 24, locals := 14 } : Room) (s.setVm s.vm) m #[(.ref a1), (.ref a2), (.ref a3), (.ref a4)] below meth c T0 [] 0 0 at X0
  change Z.Warmed39 (s.setVm s.vm).vm at hZ
  change (s.setVm s.vm).vm.findClass _ = some m.cls at hown
  refine Rch.cast (ef_rkP0 m a1 a2 a3 a4) ?_
  refine Rch.of (T' := T0) (g' := (mkF m 1 #[.val (.ref a1), .val (.ref a2), .val (.ref a3), .val (.ref a4)] [(.ref a1)])) (fun _ kt => XS.aloadN X0.here hx rfl (hb hby d_prog_6_method_1_code_0) rfl rfl kt) ?_
  obtain ⟨T277, X277, e277, st277⟩ := initO X0 hx hZ hown (hw _ (List.mem_of_getElem? (i := 54) rfl)) (hw _ (List.mem_of_getElem? (i := 12) rfl)) (hw _ (List.mem_of_getElem? (i := 13) rfl)) e0 (g := (mkF m 1 #[.val (.ref a1), .val (.ref a2), .val (.ref a3), .val (.ref a4)] [(.ref a1)])) rfl (by rw [hml]; rfl) rfl (hb hby d_prog_6_method_1_code_1) (by decide) (W := 0) (by show 2 * 0 + _ ≤ _; exact Nat.le_of_eq rfl) (by decide)
  refine Rch.of (T' := T277) (g' := (mkF m 4 #[.val (.ref a1), .val (.ref a2), .val (.ref a3), .val (.ref a4)] [])) st277 ?_
  refine Rch.of (T' := T277) (g' := (mkF m 5 #[.val (.ref a1), .val (.ref a2), .val (.ref a3), .val (.ref a4)] [(.ref a1)])) (fun _ kt => XS.aloadN X277.here hx rfl (hb hby d_prog_6_method_1_code_4) rfl rfl kt) ?_
  refine Rch.of (T' := T277) (g' := (mkF m 6 #[.val (.ref a1), .val (.ref a2), .val (.ref a3), .val (.ref a4)] [(.ref a2), (.ref a1)])) (fun _ kt => XS.aloadN X277.here hx rfl (hb hby d_prog_6_method_1_code_5) rfl rfl kt) ?_
  obtain ⟨T278, h278, X278, e278, W278, st278⟩ := putF X277 hx hZ hown (host := "") (Or.inl (hw _ (List.mem_of_getElem? (i := 55) rfl))) Via.refl e277 F0 E1 (Or.inr ⟨(hw _ (List.mem_of_getElem? (i := 56) rfl)), rfl, hnm⟩) (hw _ (List.mem_of_getElem? (i := 49) rfl)) (ty := (.object "java/lang/String")) (by decide) rfl rfl (g := (mkF m 6 #[.val (.ref a1), .val (.ref a2), .val (.ref a3), .val (.ref a4)] [(.ref a2), (.ref a1)])) rfl rfl (hb hby d_prog_6_method_1_code_6)
  have N278 := Fr.snoc X278 N0 g1
  have Fw278 := Fld.same W278 F0
  have Sf279 : Safe Z consts_1 s.vm h0 a1 := (Safe.exa hZ.alike E1 (by decide) (by decide))
  have Fb280 := (F1.other W278 (Or.inr (slot_ne (Or.inr (hw _ (List.mem_of_getElem? (i := 64) rfl))) (Or.inr (hw _ (List.mem_of_getElem? (i := 56) rfl))) (by decide) (t := (.object "java/lang/String")) (t' := (.object "java/lang/String")) (by decide) (by decide))))
  have Fb281 := (F2.other W278 (Or.inr (slot_ne (Or.inr (hw _ (List.mem_of_getElem? (i := 105) rfl))) (Or.inr (hw _ (List.mem_of_getElem? (i := 56) rfl))) (by decide) (t := (.object "java/util/List")) (t' := (.object "java/lang/String")) (by decide) (by decide))))
  refine Rch.of (T' := T278) (g' := (mkF m 9 #[.val (.ref a1), .val (.ref a2), .val (.ref a3), .val (.ref a4)] [])) st278 ?_
  refine Rch.of (T' := T278) (g' := (mkF m 10 #[.val (.ref a1), .val (.ref a2), .val (.ref a3), .val (.ref a4)] [(.ref a1)])) (fun _ kt => XS.aloadN X278.here hx rfl (hb hby d_prog_6_method_1_code_9) rfl rfl kt) ?_
  refine Rch.of (T' := T278) (g' := (mkF m 11 #[.val (.ref a1), .val (.ref a2), .val (.ref a3), .val (.ref a4)] [(.ref a3), (.ref a1)])) (fun _ kt => XS.aloadN X278.here hx rfl (hb hby d_prog_6_method_1_code_10) rfl rfl kt) ?_
  obtain ⟨s282, T282, h282, k282, sb282, kc282, X282, e282, E282, hS282, hk282, hZ, hown, Ex282, Fa282, Fb282, Ar282, la282, lb282, cr282, Lt282, sf282, st282⟩ := ldcCH (s := s) (vm0 := s.vm) X278 hx hZ hown (hw _ (List.mem_of_getElem? (i := 57) rfl)) wS e278 hS0 (Nat.le_trans hk0 (Keep.of_wr W278).1) hEL (List.mem_of_getElem? (i := 0) rfl) (R0.trans (CHr.wr W278 Sf279 R0.1)).1 (z := (5 : Int32)) own_t0_ok.1 (by decide) (by decide) (g := (mkF m 11 #[.val (.ref a1), .val (.ref a2), .val (.ref a3), .val (.ref a4)] [(.ref a3), (.ref a1)])) rfl (hb hby d_prog_6_method_1_code_11) (n := 20) (by decide) (by decide) (by decide) (by decide)
  have V282 : Av Z h282 sb282 .byte 5 (fun q => .int ((own_t0 q).toInt8.toInt32)) := (Arv.av Ar282 (by decide)).congr own_t0_ok.2
  refine Rch.of (T' := T282) (g' := (mkF m 13 #[.val (.ref a1), .val (.ref a2), .val (.ref a3), .val (.ref a4)] [(.ref s282), (.ref a3), (.ref a1)])) st282 ?_
  obtain ⟨_, _, ⟨T283, L283, k283, n283⟩, -, X283, ⟨Lc283, hQ283, l283, y283, z283⟩, st283⟩ := Jvm.LawKit.callS X282 hx (y := (⟨"java/util/Objects", "requireNonNull", "(Ljava/lang/Object;Ljava/lang/String;)Ljava/lang/Object;"⟩ : MethodName)) hown (mvT hZ (hw _ (List.mem_of_getElem? (i := 58) rfl))) (mvT hZ (hw _ (List.mem_of_getElem? (i := 59) rfl))) (mvT hZ (hw _ (List.mem_of_getElem? (i := 60) rfl))) (mvT hZ (hw _ (List.mem_of_getElem? (i := 61) rfl))) (by decide) (backOf (W := 1) (rkR2 l Z a0 hw [] a3 s282 h282 n0 (Nat.le_trans (Nat.le_trans Z0 (Keep.of_wr W278).1) E282.1) ) hZ (hw _ (List.mem_of_getElem? (i := 61) rfl)) (hw _ (List.mem_of_getElem? (i := 60) rfl)) (by decide) (by decide)) (g := (mkF m 13 #[.val (.ref a1), .val (.ref a2), .val (.ref a3), .val (.ref a4)] [(.ref s282), (.ref a3), (.ref a1)])) rfl (by rw [hml]; rfl) (argsL := [(.ref a3), (.ref s282)]) (rest := [(.ref a1)]) (lenOf pd_11 rfl) rfl (by show 2 * 0 + _ ≤ _; exact Nat.le_of_eq rfl) (hb hby d_prog_6_method_1_code_13) (fun _ _ => ⟨rfl, e282, (by decide : 2 + 0 ≤ _), (by decide : 24 + 0 ≤ _)⟩)
  dsimp only [Pt.U, Pt.locs, Pt.cells, Pt.slots] at X283 l283 y283 z283 st283 hQ283
  subst l283 y283 z283
  obtain ⟨rfl, N283q, hQ283⟩ := hQ283
  have N283 := Fr.app N278 N283q
  refine Rch.of (T' := T283) (g' := (mkF m 16 #[.val (.ref a1), .val (.ref a2), .val (.ref a3), .val (.ref a4)] [(.ref a3), (.ref a1)])) st283 ?_
  obtain ⟨T284, X284, e284, st284⟩ := castY X283 hx hZ hown (hw _ (List.mem_of_getElem? (i := 62) rfl)) hQ283 (Ins.of_exa ((E3.wr W278).ext E282) (hw _ (List.mem_of_getElem? (i := 9) rfl))) (g := (mkF m 16 #[.val (.ref a1), .val (.ref a2), .val (.ref a3), .val (.ref a4)] [(.ref a3), (.ref a1)])) rfl rfl (hb hby d_prog_6_method_1_code_16)
  refine Rch.of (T' := T284) (g' := (mkF m 19 #[.val (.ref a1), .val (.ref a2), .val (.ref a3), .val (.ref a4)] [(.ref a3), (.ref a1)])) st284 ?_
  obtain ⟨T285, h285, X285, e285, W285, st285⟩ := putF X284 hx hZ hown (host := "") (Or.inl (hw _ (List.mem_of_getElem? (i := 63) rfl))) Via.refl e284 (Fb280.ext E282) ((E1.wr W278).ext E282) (Or.inr ⟨(hw _ (List.mem_of_getElem? (i := 64) rfl)), rfl, hnm⟩) (hw _ (List.mem_of_getElem? (i := 49) rfl)) (ty := (.object "java/lang/String")) (by decide) rfl rfl (g := (mkF m 19 #[.val (.ref a1), .val (.ref a2), .val (.ref a3), .val (.ref a4)] [(.ref a3), (.ref a1)])) rfl rfl (hb hby d_prog_6_method_1_code_19)
  have N285 := Fr.snoc X285 N283 g1
  have Fw285 := Fld.same W285 (Fb280.ext E282)
  have Sf286 : Safe Z consts_1 T282.vm h282 a1 := (Safe.exa hZ.alike ((E1.wr W278).ext E282) (by decide) (by decide))
  have Fb287 := ((Fw278.ext E282).other W285 (Or.inr (slot_ne (Or.inr (hw _ (List.mem_of_getElem? (i := 56) rfl))) (Or.inr (hw _ (List.mem_of_getElem? (i := 64) rfl))) (by decide) (t := (.object "java/lang/String")) (t' := (.object "java/lang/String")) (by decide) (by decide))))
  have Fb288 := ((Fb281.ext E282).other W285 (Or.inr (slot_ne (Or.inr (hw _ (List.mem_of_getElem? (i := 105) rfl))) (Or.inr (hw _ (List.mem_of_getElem? (i := 64) rfl))) (by decide) (t := (.object "java/util/List")) (t' := (.object "java/lang/String")) (by decide) (by decide))))
  refine Rch.of (T' := T285) (g' := (mkF m 22 #[.val (.ref a1), .val (.ref a2), .val (.ref a3), .val (.ref a4)] [])) st285 ?_
  refine Rch.of (T' := T285) (g' := (mkF m 23 #[.val (.ref a1), .val (.ref a2), .val (.ref a3), .val (.ref a4)] [(.ref a1)])) (fun _ kt => XS.aloadN X285.here hx rfl (hb hby d_prog_6_method_1_code_22) rfl rfl kt) ?_
  refine Rch.of (T' := T285) (g' := (mkF m 24 #[.val (.ref a1), .val (.ref a2), .val (.ref a3), .val (.ref a4)] [(.ref a4), (.ref a1)])) (fun _ kt => XS.aloadN X285.here hx rfl (hb hby d_prog_6_method_1_code_23) rfl rfl kt) ?_
  obtain ⟨_, _, ⟨T289, L289, k289, n289⟩, -, X289, ⟨Lc289, hQ289, l289, y289, z289⟩, st289⟩ := Jvm.LawKit.callS X285 hx (y := (⟨"java/util/List", "of", "([Ljava/lang/Object;)Ljava/util/List;"⟩ : MethodName)) hown (mvT hZ (hw _ (List.mem_of_getElem? (i := 65) rfl))) (mvT hZ (hw _ (List.mem_of_getElem? (i := 66) rfl))) (mvT hZ (hw _ (List.mem_of_getElem? (i := 67) rfl))) (mvT hZ (hw _ (List.mem_of_getElem? (i := 68) rfl))) (by decide) (backOf (W := 1) (rkL0 l Z a0 hw [] a4 el h285 n0 (Nat.le_trans (Nat.le_trans (Nat.le_trans Z0 (Keep.of_wr W278).1) E282.1) (Keep.of_wr W285).1) (((V1.other W278 n4).ext E282).other W285 n4) (((SL.wr W278).ext E282).wr W285)) hZ (hw _ (List.mem_of_getElem? (i := 68) rfl)) (hw _ (List.mem_of_getElem? (i := 67) rfl)) (by decide) (by decide)) (g := (mkF m 24 #[.val (.ref a1), .val (.ref a2), .val (.ref a3), .val (.ref a4)] [(.ref a4), (.ref a1)])) rfl (by rw [hml]; rfl) (argsL := [(.ref a4)]) (rest := [(.ref a1)]) (lenOf pd_12 rfl) rfl (by show 2 * 0 + _ ≤ _; exact Nat.le_of_eq rfl) (hb hby d_prog_6_method_1_code_24) (fun _ _ => ⟨rfl, e285, (by decide : 2 + 0 ≤ _), (by decide : 24 + 0 ≤ _)⟩)
  dsimp only [Pt.U, Pt.locs, Pt.cells, Pt.slots] at X289 l289 y289 z289 st289 hQ289
  subst l289 y289 z289
  obtain ⟨rfl, N289q, hQ289⟩ := hQ289
  have N289 := Fr.app N285 N289q
  refine Rch.of (T' := T289) (g' := (mkF m 27 #[.val (.ref a1), .val (.ref a2), .val (.ref a3), .val (.ref a4)] [(.ref el), (.ref a1)])) st289 ?_
  obtain ⟨T290, h290, X290, e290, W290, st290⟩ := putF X289 hx hZ hown (host := "") (Or.inl (hw _ (List.mem_of_getElem? (i := 104) rfl))) Via.refl hQ289 Fb288 (((E1.wr W278).ext E282).wr W285) (Or.inr ⟨(hw _ (List.mem_of_getElem? (i := 105) rfl)), rfl, hnm⟩) (hw _ (List.mem_of_getElem? (i := 49) rfl)) (ty := (.object "java/util/List")) (by decide) rfl rfl (g := (mkF m 27 #[.val (.ref a1), .val (.ref a2), .val (.ref a3), .val (.ref a4)] [(.ref el), (.ref a1)])) rfl rfl (hb hby d_prog_6_method_1_code_27)
  have N290 := Fr.snoc X290 N289 g1
  have Fw290 := Fld.same W290 Fb288
  have Sf291 : Safe Z consts_1 T282.vm h285 a1 := (Safe.exa hZ.alike (((E1.wr W278).ext E282).wr W285) (by decide) (by decide))
  have Rb292 := ((((R0.trans (CHr.wr W278 Sf279 R0.1)).trans cr282).trans (CHr.wr W285 Sf286 ((R0.trans (CHr.wr W278 Sf279 R0.1)).trans cr282).1)).trans (CHr.wr W290 Sf291 (((R0.trans (CHr.wr W278 Sf279 R0.1)).trans cr282).trans (CHr.wr W285 Sf286 ((R0.trans (CHr.wr W278 Sf279 R0.1)).trans cr282).1)).1))
  have Fb293 := (Fb287.other W290 (Or.inr (slot_ne (Or.inr (hw _ (List.mem_of_getElem? (i := 56) rfl))) (Or.inr (hw _ (List.mem_of_getElem? (i := 105) rfl))) (by decide) (t := (.object "java/lang/String")) (t' := (.object "java/util/List")) (by decide) (by decide))))
  have Fb294 := (Fw285.other W290 (Or.inr (slot_ne (Or.inr (hw _ (List.mem_of_getElem? (i := 64) rfl))) (Or.inr (hw _ (List.mem_of_getElem? (i := 105) rfl))) (by decide) (t := (.object "java/lang/String")) (t' := (.object "java/util/List")) (by decide) (by decide))))
  have Fb295 := (((((Keep.refl h0 [a1]).wr W278 (Or.inl (List.mem_of_getElem? (i := 0) rfl))).ext E282).wr W285 (Or.inl (List.mem_of_getElem? (i := 0) rfl))).wr W290 (Or.inl (List.mem_of_getElem? (i := 0) rfl)))
  refine Rch.of (T' := T290) (g' := (mkF m 30 #[.val (.ref a1), .val (.ref a2), .val (.ref a3), .val (.ref a4)] [])) st290 ?_
  exact Rch.retV X290 hx hret hlk (hb hby d_prog_6_method_1_code_30) (fun U hU hF => hK _ U _ _ _ (by show Q_rkP0 Z a1 a2 a3 a4 el u0 u1 u2 h0 n0 _ U.heap _; rw [hU, e290]; exact ⟨rfl, N290, Fb295, ((((E1.wr W278).ext E282).wr W285).wr W290), Fb293, Fb294⟩) (own_endH hZ hEL Rb292 (hU.trans e290) hF) (own_end hS282 (by rw [hU, e290]; exact (Nat.le_trans (Nat.le_trans hk282 (Keep.of_wr W285).1) (Keep.of_wr W290).1)) hF) (by decide) (by decide))
theorem ef_rkP1 (m : MethodId) (a1 : Addr) (a2 : Addr) (a3 : Addr) (a4 : Addr) : entryFrame m #[(.ref a1), (.ref a2), (.ref a3), (.ref a4)] 4 = mkF m 0 #[.val (.ref a1), .val (.ref a2), .val (.ref a3), .val (.ref a4)] [] := by first | (simp [entryFrame, mkF, argsToLocals, Value.category]; done) | rfl
def Q_rkP1 (Z : State) (a1 : Addr) (a2 : Addr) (a3 : Addr) (a4 : Addr) (e1 : Addr) (eo : Addr) (u0 : Value) (u1 : Value) (u2 : Value) (h0 : Heap) (n0 : Nat) (vv_ : Option Value) (h : Heap) (LL_ : List Loc) : Prop := vv_ = none ∧ Fr n0 LL_ ∧ (Keep h0 h [a1] ∧ Exa Z h a1 "com/example/ampliar/ampliar/command/Parameter" ∧ Fld Z h a1 "com/example/ampliar/ampliar/command/Parameter" "name" "Ljava/lang/String;" (.ref a2) ∧ Fld Z h a1 "com/example/ampliar/ampliar/command/Parameter" "value" "Ljava/lang/String;" (.ref a3))
set_option maxRecDepth 65536 in
set_option maxHeartbeats 40000000 in
theorem rkP1 (l : Launch) (Z : State) (a0 : Array Value) (hw : ∀ d ∈ tables_1, d.before a0 Z = true) (ws : List Jvm.Cond) (a1 : Addr) (a2 : Addr) (a3 : Addr) (a4 : Addr) (e1 : Addr) (eo : Addr) (u0 : Value) (u1 : Value) (u2 : Value) (h0 : Heap) (n0 : Nat) (Z0 : n0 ≤ h0.size) (E1 : Exa Z h0 a1 "com/example/ampliar/ampliar/command/Parameter") (F0 : Fld Z h0 a1 "com/example/ampliar/ampliar/command/Parameter" "name" "Ljava/lang/String;" u0) (F1 : Fld Z h0 a1 "com/example/ampliar/ampliar/command/Parameter" "value" "Ljava/lang/String;" u1) (F2 : Fld Z h0 a1 "com/example/ampliar/ampliar/command/Parameter" "choices" "Ljava/util/List;" u2) (g1 : n0 ≤ a1) (E3 : Exa Z h0 a3 "java/lang/String") (V1 : Av Z h0 a4 (.object "java/lang/String") 1 (fun q => (fun _ => Value.ref e1) q)) (SE : Sta Z h0 "java/util/ImmutableCollections" "EMPTY" "Ljava/lang/Object;" (.ref eo)) (n4 : a4 ≠ a1) :
    MetFree l (⟨"com/example/ampliar/ampliar/command/Parameter", "<init>", "(Ljava/lang/String;Ljava/lang/String;[Ljava/lang/String;)V"⟩ : MethodName) (head1 (Jvm.Cond.code (⟨"com/example/ampliar/ampliar/command/Parameter", "<init>", "(Ljava/lang/String;Ljava/lang/String;[Ljava/lang/String;)V"⟩ : MethodName) prog_6_method_1_code 4 none :: ws) ({ frames := 6, cells := 3, slots := 26, locals := 76 } : Room)) (fun aa_ UU_ => aa_ = #[(.ref a1), (.ref a2), (.ref a3), (.ref a4)] ∧ Z.Warmed39 UU_.vm ∧ UU_.heap = h0 ∧ CHv Z consts_1 UU_.vm h0) (fun _ _ _ _ _ => True) (fun _ UU_ oo_ VV_ => ∃ vv_ LL_, oo_ = .returned vv_ ∧ Q_rkP1 Z a1 a2 a3 a4 e1 eo u0 u1 u2 h0 n0 vv_ VV_.heap LL_ ∧ CHr Z consts_1 UU_.vm UU_.heap VV_.vm VV_.heap ∧ ReturnedEndW UU_ oo_ VV_ LL_ ({ frames := 6, cells := 3, slots := 26, locals := 76 } : Room).cells ({ frames := 6, cells := 3, slots := 26, locals := 76 } : Room).slots) := by
  refine own_metH (y := (⟨"com/example/ampliar/ampliar/command/Parameter", "<init>", "(Ljava/lang/String;Ljava/lang/String;[Ljava/lang/String;)V"⟩ : MethodName)) (plainFor_of_name pn_14) ?_
  intro p e s m below meth c T0 K hx hby hml hret hlk hown hnm hZ X0 e0 C0 hK
  have N0 := Fr.nil n0
  have R0 := CHr.refl C0
  have hEL := own_EW hw
  have hS0 : s.Since s.vm 0 := (State.WarmedH.refl s).since 0
  have hk0 : 0 ≤ h0.size := Nat.zero_le _
  have wS : ∀ d ∈ Bundle.stringAtoms, d.before a0 Z = true := fun d hd => hw d ((by decide +kernel : ∀ d ∈ Bundle.stringAtoms, d ∈ tables_1) d hd)
  change Stand p l e ({ frames := 6, cells := 3, slots := 26, locals := 76 } : Room) (s.setVm s.vm) m #[(.ref a1), (.ref a2), (.ref a3), (.ref a4)] below meth c T0 [] 0 0 at X0
  change Z.Warmed39 (s.setVm s.vm).vm at hZ
  change (s.setVm s.vm).vm.findClass _ = some m.cls at hown
  refine Rch.cast (ef_rkP1 m a1 a2 a3 a4) ?_
  refine Rch.of (T' := T0) (g' := (mkF m 1 #[.val (.ref a1), .val (.ref a2), .val (.ref a3), .val (.ref a4)] [(.ref a1)])) (fun _ kt => XS.aloadN X0.here hx rfl (hb hby d_prog_6_method_1_code_0) rfl rfl kt) ?_
  obtain ⟨T296, X296, e296, st296⟩ := initO X0 hx hZ hown (hw _ (List.mem_of_getElem? (i := 54) rfl)) (hw _ (List.mem_of_getElem? (i := 12) rfl)) (hw _ (List.mem_of_getElem? (i := 13) rfl)) e0 (g := (mkF m 1 #[.val (.ref a1), .val (.ref a2), .val (.ref a3), .val (.ref a4)] [(.ref a1)])) rfl (by rw [hml]; rfl) rfl (hb hby d_prog_6_method_1_code_1) (by decide) (W := 0) (by show 2 * 0 + _ ≤ _; exact Nat.le_of_eq rfl) (by decide)
  refine Rch.of (T' := T296) (g' := (mkF m 4 #[.val (.ref a1), .val (.ref a2), .val (.ref a3), .val (.ref a4)] [])) st296 ?_
  refine Rch.of (T' := T296) (g' := (mkF m 5 #[.val (.ref a1), .val (.ref a2), .val (.ref a3), .val (.ref a4)] [(.ref a1)])) (fun _ kt => XS.aloadN X296.here hx rfl (hb hby d_prog_6_method_1_code_4) rfl rfl kt) ?_
  refine Rch.of (T' := T296) (g' := (mkF m 6 #[.val (.ref a1), .val (.ref a2), .val (.ref a3), .val (.ref a4)] [(.ref a2), (.ref a1)])) (fun _ kt => XS.aloadN X296.here hx rfl (hb hby d_prog_6_method_1_code_5) rfl rfl kt) ?_
  obtain ⟨T297, h297, X297, e297, W297, st297⟩ := putF X296 hx hZ hown (host := "") (Or.inl (hw _ (List.mem_of_getElem? (i := 55) rfl))) Via.refl e296 F0 E1 (Or.inr ⟨(hw _ (List.mem_of_getElem? (i := 56) rfl)), rfl, hnm⟩) (hw _ (List.mem_of_getElem? (i := 49) rfl)) (ty := (.object "java/lang/String")) (by decide) rfl rfl (g := (mkF m 6 #[.val (.ref a1), .val (.ref a2), .val (.ref a3), .val (.ref a4)] [(.ref a2), (.ref a1)])) rfl rfl (hb hby d_prog_6_method_1_code_6)
  have N297 := Fr.snoc X297 N0 g1
  have Fw297 := Fld.same W297 F0
  have Sf298 : Safe Z consts_1 s.vm h0 a1 := (Safe.exa hZ.alike E1 (by decide) (by decide))
  have Fb299 := (F1.other W297 (Or.inr (slot_ne (Or.inr (hw _ (List.mem_of_getElem? (i := 64) rfl))) (Or.inr (hw _ (List.mem_of_getElem? (i := 56) rfl))) (by decide) (t := (.object "java/lang/String")) (t' := (.object "java/lang/String")) (by decide) (by decide))))
  have Fb300 := (F2.other W297 (Or.inr (slot_ne (Or.inr (hw _ (List.mem_of_getElem? (i := 105) rfl))) (Or.inr (hw _ (List.mem_of_getElem? (i := 56) rfl))) (by decide) (t := (.object "java/util/List")) (t' := (.object "java/lang/String")) (by decide) (by decide))))
  refine Rch.of (T' := T297) (g' := (mkF m 9 #[.val (.ref a1), .val (.ref a2), .val (.ref a3), .val (.ref a4)] [])) st297 ?_
  refine Rch.of (T' := T297) (g' := (mkF m 10 #[.val (.ref a1), .val (.ref a2), .val (.ref a3), .val (.ref a4)] [(.ref a1)])) (fun _ kt => XS.aloadN X297.here hx rfl (hb hby d_prog_6_method_1_code_9) rfl rfl kt) ?_
  refine Rch.of (T' := T297) (g' := (mkF m 11 #[.val (.ref a1), .val (.ref a2), .val (.ref a3), .val (.ref a4)] [(.ref a3), (.ref a1)])) (fun _ kt => XS.aloadN X297.here hx rfl (hb hby d_prog_6_method_1_code_10) rfl rfl kt) ?_
  obtain ⟨s301, T301, h301, k301, sb301, kc301, X301, e301, E301, hS301, hk301, hZ, hown, Ex301, Fa301, Fb301, Ar301, la301, lb301, cr301, Lt301, sf301, st301⟩ := ldcCH (s := s) (vm0 := s.vm) X297 hx hZ hown (hw _ (List.mem_of_getElem? (i := 57) rfl)) wS e297 hS0 (Nat.le_trans hk0 (Keep.of_wr W297).1) hEL (List.mem_of_getElem? (i := 0) rfl) (R0.trans (CHr.wr W297 Sf298 R0.1)).1 (z := (5 : Int32)) own_t0_ok.1 (by decide) (by decide) (g := (mkF m 11 #[.val (.ref a1), .val (.ref a2), .val (.ref a3), .val (.ref a4)] [(.ref a3), (.ref a1)])) rfl (hb hby d_prog_6_method_1_code_11) (n := 20) (by decide) (by decide) (by decide) (by decide)
  have V301 : Av Z h301 sb301 .byte 5 (fun q => .int ((own_t0 q).toInt8.toInt32)) := (Arv.av Ar301 (by decide)).congr own_t0_ok.2
  refine Rch.of (T' := T301) (g' := (mkF m 13 #[.val (.ref a1), .val (.ref a2), .val (.ref a3), .val (.ref a4)] [(.ref s301), (.ref a3), (.ref a1)])) st301 ?_
  obtain ⟨_, _, ⟨T302, L302, k302, n302⟩, -, X302, ⟨Lc302, hQ302, l302, y302, z302⟩, st302⟩ := Jvm.LawKit.callS X301 hx (y := (⟨"java/util/Objects", "requireNonNull", "(Ljava/lang/Object;Ljava/lang/String;)Ljava/lang/Object;"⟩ : MethodName)) hown (mvT hZ (hw _ (List.mem_of_getElem? (i := 58) rfl))) (mvT hZ (hw _ (List.mem_of_getElem? (i := 59) rfl))) (mvT hZ (hw _ (List.mem_of_getElem? (i := 60) rfl))) (mvT hZ (hw _ (List.mem_of_getElem? (i := 61) rfl))) (by decide) (backOf (W := 1) (rkR2 l Z a0 hw [] a3 s301 h301 n0 (Nat.le_trans (Nat.le_trans Z0 (Keep.of_wr W297).1) E301.1) ) hZ (hw _ (List.mem_of_getElem? (i := 61) rfl)) (hw _ (List.mem_of_getElem? (i := 60) rfl)) (by decide) (by decide)) (g := (mkF m 13 #[.val (.ref a1), .val (.ref a2), .val (.ref a3), .val (.ref a4)] [(.ref s301), (.ref a3), (.ref a1)])) rfl (by rw [hml]; rfl) (argsL := [(.ref a3), (.ref s301)]) (rest := [(.ref a1)]) (lenOf pd_11 rfl) rfl (by show 2 * 0 + _ ≤ _; exact Nat.le_of_eq rfl) (hb hby d_prog_6_method_1_code_13) (fun _ _ => ⟨rfl, e301, (by decide : 2 + 0 ≤ _), (by decide : 24 + 0 ≤ _)⟩)
  dsimp only [Pt.U, Pt.locs, Pt.cells, Pt.slots] at X302 l302 y302 z302 st302 hQ302
  subst l302 y302 z302
  obtain ⟨rfl, N302q, hQ302⟩ := hQ302
  have N302 := Fr.app N297 N302q
  refine Rch.of (T' := T302) (g' := (mkF m 16 #[.val (.ref a1), .val (.ref a2), .val (.ref a3), .val (.ref a4)] [(.ref a3), (.ref a1)])) st302 ?_
  obtain ⟨T303, X303, e303, st303⟩ := castY X302 hx hZ hown (hw _ (List.mem_of_getElem? (i := 62) rfl)) hQ302 (Ins.of_exa ((E3.wr W297).ext E301) (hw _ (List.mem_of_getElem? (i := 9) rfl))) (g := (mkF m 16 #[.val (.ref a1), .val (.ref a2), .val (.ref a3), .val (.ref a4)] [(.ref a3), (.ref a1)])) rfl rfl (hb hby d_prog_6_method_1_code_16)
  refine Rch.of (T' := T303) (g' := (mkF m 19 #[.val (.ref a1), .val (.ref a2), .val (.ref a3), .val (.ref a4)] [(.ref a3), (.ref a1)])) st303 ?_
  obtain ⟨T304, h304, X304, e304, W304, st304⟩ := putF X303 hx hZ hown (host := "") (Or.inl (hw _ (List.mem_of_getElem? (i := 63) rfl))) Via.refl e303 (Fb299.ext E301) ((E1.wr W297).ext E301) (Or.inr ⟨(hw _ (List.mem_of_getElem? (i := 64) rfl)), rfl, hnm⟩) (hw _ (List.mem_of_getElem? (i := 49) rfl)) (ty := (.object "java/lang/String")) (by decide) rfl rfl (g := (mkF m 19 #[.val (.ref a1), .val (.ref a2), .val (.ref a3), .val (.ref a4)] [(.ref a3), (.ref a1)])) rfl rfl (hb hby d_prog_6_method_1_code_19)
  have N304 := Fr.snoc X304 N302 g1
  have Fw304 := Fld.same W304 (Fb299.ext E301)
  have Sf305 : Safe Z consts_1 T301.vm h301 a1 := (Safe.exa hZ.alike ((E1.wr W297).ext E301) (by decide) (by decide))
  have Fb306 := ((Fw297.ext E301).other W304 (Or.inr (slot_ne (Or.inr (hw _ (List.mem_of_getElem? (i := 56) rfl))) (Or.inr (hw _ (List.mem_of_getElem? (i := 64) rfl))) (by decide) (t := (.object "java/lang/String")) (t' := (.object "java/lang/String")) (by decide) (by decide))))
  have Fb307 := ((Fb300.ext E301).other W304 (Or.inr (slot_ne (Or.inr (hw _ (List.mem_of_getElem? (i := 105) rfl))) (Or.inr (hw _ (List.mem_of_getElem? (i := 64) rfl))) (by decide) (t := (.object "java/util/List")) (t' := (.object "java/lang/String")) (by decide) (by decide))))
  refine Rch.of (T' := T304) (g' := (mkF m 22 #[.val (.ref a1), .val (.ref a2), .val (.ref a3), .val (.ref a4)] [])) st304 ?_
  refine Rch.of (T' := T304) (g' := (mkF m 23 #[.val (.ref a1), .val (.ref a2), .val (.ref a3), .val (.ref a4)] [(.ref a1)])) (fun _ kt => XS.aloadN X304.here hx rfl (hb hby d_prog_6_method_1_code_22) rfl rfl kt) ?_
  refine Rch.of (T' := T304) (g' := (mkF m 24 #[.val (.ref a1), .val (.ref a2), .val (.ref a3), .val (.ref a4)] [(.ref a4), (.ref a1)])) (fun _ kt => XS.aloadN X304.here hx rfl (hb hby d_prog_6_method_1_code_23) rfl rfl kt) ?_
  obtain ⟨_, _, ⟨T308, L308, k308, n308⟩, -, X308, ⟨Lc308, hQ308, l308, y308, z308⟩, st308⟩ := Jvm.LawKit.callS X304 hx (y := (⟨"java/util/List", "of", "([Ljava/lang/Object;)Ljava/util/List;"⟩ : MethodName)) hown (mvT hZ (hw _ (List.mem_of_getElem? (i := 65) rfl))) (mvT hZ (hw _ (List.mem_of_getElem? (i := 66) rfl))) (mvT hZ (hw _ (List.mem_of_getElem? (i := 67) rfl))) (mvT hZ (hw _ (List.mem_of_getElem? (i := 68) rfl))) (by decide) (backOf (W := 1) (rkL1 l Z a0 hw [] a4 e1 eo h304 n0 (Nat.le_trans (Nat.le_trans (Nat.le_trans Z0 (Keep.of_wr W297).1) E301.1) (Keep.of_wr W304).1) (((V1.other W297 n4).ext E301).other W304 n4) (((SE.wr W297).ext E301).wr W304)) hZ (hw _ (List.mem_of_getElem? (i := 68) rfl)) (hw _ (List.mem_of_getElem? (i := 67) rfl)) (by decide) (by decide)) (g := (mkF m 24 #[.val (.ref a1), .val (.ref a2), .val (.ref a3), .val (.ref a4)] [(.ref a4), (.ref a1)])) rfl (by rw [hml]; rfl) (argsL := [(.ref a4)]) (rest := [(.ref a1)]) (lenOf pd_12 rfl) rfl (by show 2 * 0 + _ ≤ _; exact Nat.le_of_eq rfl) (hb hby d_prog_6_method_1_code_24) (fun _ _ => ⟨rfl, e304, (by decide : 2 + 1 ≤ _), (by decide : 24 + 2 ≤ _)⟩)
  dsimp only [Pt.U, Pt.locs, Pt.cells, Pt.slots] at X308 l308 y308 z308 st308 hQ308
  subst l308 y308 z308
  obtain ⟨rfl, N308q, hQ308⟩ := hQ308
  have N308 := Fr.app N304 N308q
  obtain ⟨K308, Ex308⟩ := hQ308
  obtain ⟨b308, g308⟩ : ∃ zz_, zz_ = h304.size := ⟨_, rfl⟩
  have ne_a1_b308 : a1 ≠ b308 := Nat.ne_of_lt (Nat.lt_of_lt_of_le (((E1.wr W297).ext E301).wr W304).lt (Nat.le_of_eq g308.symm))
  have ne_a3_b308 : a3 ≠ b308 := Nat.ne_of_lt (Nat.lt_of_lt_of_le (((E3.wr W297).ext E301).wr W304).lt (Nat.le_of_eq g308.symm))
  have ne_a4_b308 : a4 ≠ b308 := Nat.ne_of_lt (Nat.lt_of_lt_of_le (((V1.other W297 n4).ext E301).other W304 n4).lt (Nat.le_of_eq g308.symm))
  have ne_s301_b308 : s301 ≠ b308 := Nat.ne_of_lt (Nat.lt_of_lt_of_le (Ex301.wr W304).lt (Nat.le_of_eq g308.symm))
  have ge_b308 : n0 ≤ b308 := Nat.le_trans (Nat.le_trans (Nat.le_trans (Nat.le_trans Z0 (Keep.of_wr W297).1) E301.1) (Keep.of_wr W304).1) (Nat.le_of_eq g308.symm)
  have sz_b308 : h0.size ≤ b308 := Nat.le_trans ((((Keep.refl h0 [a1]).wr W297 (Or.inl (List.mem_of_getElem? (i := 0) rfl))).ext E301).wr W304 (Or.inl (List.mem_of_getElem? (i := 0) rfl))).1 (Nat.le_of_eq g308.symm)
  rw [← g308] at Ex308 st308
  have Rb309 := ((((R0.trans (CHr.wr W297 Sf298 R0.1)).trans cr301).trans (CHr.wr W304 Sf305 ((R0.trans (CHr.wr W297 Sf298 R0.1)).trans cr301).1)).trans (CHr.keep K308 all0 (((R0.trans (CHr.wr W297 Sf298 R0.1)).trans cr301).trans (CHr.wr W304 Sf305 ((R0.trans (CHr.wr W297 Sf298 R0.1)).trans cr301).1)).1))
  refine Rch.of (T' := T308) (g' := (mkF m 27 #[.val (.ref a1), .val (.ref a2), .val (.ref a3), .val (.ref a4)] [(.ref b308), (.ref a1)])) st308 ?_
  obtain ⟨T310, h310, X310, e310, W310, st310⟩ := putF X308 hx hZ hown (host := "") (Or.inl (hw _ (List.mem_of_getElem? (i := 104) rfl))) Via.refl rfl (Fb307.keep K308 nin0) ((((E1.wr W297).ext E301).wr W304).keep K308) (Or.inr ⟨(hw _ (List.mem_of_getElem? (i := 105) rfl)), rfl, hnm⟩) (hw _ (List.mem_of_getElem? (i := 49) rfl)) (ty := (.object "java/util/List")) (by decide) rfl rfl (g := (mkF m 27 #[.val (.ref a1), .val (.ref a2), .val (.ref a3), .val (.ref a4)] [(.ref b308), (.ref a1)])) rfl rfl (hb hby d_prog_6_method_1_code_27)
  have N310 := Fr.snoc X310 N308 g1
  have Fw310 := Fld.same W310 (Fb307.keep K308 nin0)
  have Sf311 : Safe Z consts_1 T301.vm T308.heap a1 := (Safe.exa hZ.alike ((((E1.wr W297).ext E301).wr W304).keep K308) (by decide) (by decide))
  have Fb312 := ((Fb306.keep K308 nin0).other W310 (Or.inr (slot_ne (Or.inr (hw _ (List.mem_of_getElem? (i := 56) rfl))) (Or.inr (hw _ (List.mem_of_getElem? (i := 105) rfl))) (by decide) (t := (.object "java/lang/String")) (t' := (.object "java/util/List")) (by decide) (by decide))))
  have Fb313 := ((Fw304.keep K308 nin0).other W310 (Or.inr (slot_ne (Or.inr (hw _ (List.mem_of_getElem? (i := 64) rfl))) (Or.inr (hw _ (List.mem_of_getElem? (i := 105) rfl))) (by decide) (t := (.object "java/lang/String")) (t' := (.object "java/util/List")) (by decide) (by decide))))
  have Fb314 := ((((((Keep.refl h0 [a1]).wr W297 (Or.inl (List.mem_of_getElem? (i := 0) rfl))).ext E301).wr W304 (Or.inl (List.mem_of_getElem? (i := 0) rfl))).trans K308 all0).wr W310 (Or.inl (List.mem_of_getElem? (i := 0) rfl)))
  refine Rch.of (T' := T310) (g' := (mkF m 30 #[.val (.ref a1), .val (.ref a2), .val (.ref a3), .val (.ref a4)] [])) st310 ?_
  exact Rch.retV X310 hx hret hlk (hb hby d_prog_6_method_1_code_30) (fun U hU hF => hK _ U _ _ _ (by show Q_rkP1 Z a1 a2 a3 a4 e1 eo u0 u1 u2 h0 n0 _ U.heap _; rw [hU, e310]; exact ⟨rfl, N310, Fb314, (((((E1.wr W297).ext E301).wr W304).keep K308).wr W310), Fb312, Fb313⟩) (own_endH hZ hEL (Rb309.trans (CHr.wr W310 Sf311 Rb309.1)) (hU.trans e310) hF) (own_end hS301 (by rw [hU, e310]; exact (Nat.le_trans (Nat.le_trans (Nat.le_trans hk301 (Keep.of_wr W304).1) K308.1) (Keep.of_wr W310).1)) hF) (by decide) (by decide))
theorem ef_rkQa (m : MethodId) (a1 : Addr) (a2 : Addr) (a3 : Addr) : entryFrame m #[(.ref a1), (.ref a2), (.ref a3)] 3 = mkF m 0 #[.val (.ref a1), .val (.ref a2), .val (.ref a3)] [] := by first | (simp [entryFrame, mkF, argsToLocals, Value.category]; done) | rfl
def Q_rkQa (Z : State) (a1 : Addr) (a2 : Addr) (a3 : Addr) (u0 : Value) (u1 : Value) (u2 : Value) (h0 : Heap) (n0 : Nat) (vv_ : Option Value) (h : Heap) (LL_ : List Loc) : Prop := vv_ = none ∧ Fr n0 LL_ ∧ (Keep h0 h [a1] ∧ Exa Z h a1 "com/example/ampliar/ampliar/command/Parameter" ∧ Fld Z h a1 "com/example/ampliar/ampliar/command/Parameter" "name" "Ljava/lang/String;" (.ref a2) ∧ Fld Z h a1 "com/example/ampliar/ampliar/command/Parameter" "value" "Ljava/lang/String;" .null)
theorem d_prog_6_method_2_code_0 : decode prog_6_method_2_code 0 = .ok (.aload_n 0, 1) := by decide +kernel
theorem d_prog_6_method_2_code_1 : decode prog_6_method_2_code 1 = .ok (.invokespecial 1, 3) := by decide +kernel
theorem d_prog_6_method_2_code_4 : decode prog_6_method_2_code 4 = .ok (.aload_n 0, 1) := by decide +kernel
theorem d_prog_6_method_2_code_5 : decode prog_6_method_2_code 5 = .ok (.aload_n 1, 1) := by decide +kernel
theorem d_prog_6_method_2_code_6 : decode prog_6_method_2_code 6 = .ok (.putfield 7, 3) := by decide +kernel
theorem d_prog_6_method_2_code_9 : decode prog_6_method_2_code 9 = .ok (.aload_n 0, 1) := by decide +kernel
theorem d_prog_6_method_2_code_10 : decode prog_6_method_2_code 10 = .ok (.aconst_null, 1) := by decide +kernel
theorem d_prog_6_method_2_code_11 : decode prog_6_method_2_code 11 = .ok (.putfield 23, 3) := by decide +kernel
theorem d_prog_6_method_2_code_14 : decode prog_6_method_2_code 14 = .ok (.aload_n 0, 1) := by decide +kernel
theorem d_prog_6_method_2_code_15 : decode prog_6_method_2_code 15 = .ok (.aload_n 2, 1) := by decide +kernel
theorem d_prog_6_method_2_code_16 : decode prog_6_method_2_code 16 = .ok (.invokestatic 35, 3) := by decide +kernel
theorem d_prog_6_method_2_code_19 : decode prog_6_method_2_code 19 = .ok (.putfield 31, 3) := by decide +kernel
theorem d_prog_6_method_2_code_22 : decode prog_6_method_2_code 22 = .ok (.return_, 1) := by decide +kernel
set_option maxRecDepth 65536 in
set_option maxHeartbeats 40000000 in
theorem rkQa (l : Launch) (Z : State) (a0 : Array Value) (hw : ∀ d ∈ tables_1, d.before a0 Z = true) (ws : List Jvm.Cond) (a1 : Addr) (a2 : Addr) (a3 : Addr) (u0 : Value) (u1 : Value) (u2 : Value) (h0 : Heap) (n0 : Nat) (Z0 : n0 ≤ h0.size) (E1 : Exa Z h0 a1 "com/example/ampliar/ampliar/command/Parameter") (F0 : Fld Z h0 a1 "com/example/ampliar/ampliar/command/Parameter" "name" "Ljava/lang/String;" u0) (F1 : Fld Z h0 a1 "com/example/ampliar/ampliar/command/Parameter" "value" "Ljava/lang/String;" u1) (F2 : Fld Z h0 a1 "com/example/ampliar/ampliar/command/Parameter" "choices" "Ljava/util/List;" u2) (g1 : n0 ≤ a1) (E3 : Exa Z h0 a3 "java/util/ImmutableCollections$List12") :
    MetFree l (⟨"com/example/ampliar/ampliar/command/Parameter", "<init>", "(Ljava/lang/String;Ljava/util/List;)V"⟩ : MethodName) (head1 (Jvm.Cond.code (⟨"com/example/ampliar/ampliar/command/Parameter", "<init>", "(Ljava/lang/String;Ljava/util/List;)V"⟩ : MethodName) prog_6_method_2_code 3 none :: ws) ({ frames := 2, cells := 0, slots := 0, locals := 26 } : Room)) (fun aa_ UU_ => aa_ = #[(.ref a1), (.ref a2), (.ref a3)] ∧ Z.Warmed39 UU_.vm ∧ UU_.heap = h0) (fun _ _ _ _ _ => True) (fun _ UU_ oo_ VV_ => ∃ vv_ LL_, oo_ = .returned vv_ ∧ Q_rkQa Z a1 a2 a3 u0 u1 u2 h0 n0 vv_ VV_.heap LL_ ∧ FrameEnd UU_ oo_ VV_ LL_ ({ frames := 2, cells := 0, slots := 0, locals := 26 } : Room).cells ({ frames := 2, cells := 0, slots := 0, locals := 26 } : Room).slots) := by
  refine own_met (y := (⟨"com/example/ampliar/ampliar/command/Parameter", "<init>", "(Ljava/lang/String;Ljava/util/List;)V"⟩ : MethodName)) (plainFor_of_name pn_14) ?_
  intro p e s m below meth c T0 K hx hby hml hret hlk hown hnm hZ X0 e0 hK
  have N0 := Fr.nil n0
  refine Rch.cast (ef_rkQa m a1 a2 a3) ?_
  have n3 : a3 ≠ a1 := own_exane E3 E1 (by decide)
  refine Rch.of (T' := T0) (g' := (mkF m 1 #[.val (.ref a1), .val (.ref a2), .val (.ref a3)] [(.ref a1)])) (fun _ kt => XS.aloadN X0.here hx rfl (hb hby d_prog_6_method_2_code_0) rfl rfl kt) ?_
  obtain ⟨T315, X315, e315, st315⟩ := initO X0 hx hZ hown (hw _ (List.mem_of_getElem? (i := 54) rfl)) (hw _ (List.mem_of_getElem? (i := 12) rfl)) (hw _ (List.mem_of_getElem? (i := 13) rfl)) e0 (g := (mkF m 1 #[.val (.ref a1), .val (.ref a2), .val (.ref a3)] [(.ref a1)])) rfl (by rw [hml]; rfl) rfl (hb hby d_prog_6_method_2_code_1) (by decide) (W := 0) (by show 2 * 0 + _ ≤ _; exact Nat.le_of_eq rfl) (by decide)
  refine Rch.of (T' := T315) (g' := (mkF m 4 #[.val (.ref a1), .val (.ref a2), .val (.ref a3)] [])) st315 ?_
  refine Rch.of (T' := T315) (g' := (mkF m 5 #[.val (.ref a1), .val (.ref a2), .val (.ref a3)] [(.ref a1)])) (fun _ kt => XS.aloadN X315.here hx rfl (hb hby d_prog_6_method_2_code_4) rfl rfl kt) ?_
  refine Rch.of (T' := T315) (g' := (mkF m 6 #[.val (.ref a1), .val (.ref a2), .val (.ref a3)] [(.ref a2), (.ref a1)])) (fun _ kt => XS.aloadN X315.here hx rfl (hb hby d_prog_6_method_2_code_5) rfl rfl kt) ?_
  obtain ⟨T316, h316, X316, e316, W316, st316⟩ := putF X315 hx hZ hown (host := "") (Or.inl (hw _ (List.mem_of_getElem? (i := 55) rfl))) Via.refl e315 F0 E1 (Or.inr ⟨(hw _ (List.mem_of_getElem? (i := 56) rfl)), rfl, hnm⟩) (hw _ (List.mem_of_getElem? (i := 49) rfl)) (ty := (.object "java/lang/String")) (by decide) rfl rfl (g := (mkF m 6 #[.val (.ref a1), .val (.ref a2), .val (.ref a3)] [(.ref a2), (.ref a1)])) rfl rfl (hb hby d_prog_6_method_2_code_6)
  have N316 := Fr.snoc X316 N0 g1
  have Fw316 := Fld.same W316 F0
  have Fb317 := (F1.other W316 (Or.inr (slot_ne (Or.inr (hw _ (List.mem_of_getElem? (i := 64) rfl))) (Or.inr (hw _ (List.mem_of_getElem? (i := 56) rfl))) (by decide) (t := (.object "java/lang/String")) (t' := (.object "java/lang/String")) (by decide) (by decide))))
  have Fb318 := (F2.other W316 (Or.inr (slot_ne (Or.inr (hw _ (List.mem_of_getElem? (i := 105) rfl))) (Or.inr (hw _ (List.mem_of_getElem? (i := 56) rfl))) (by decide) (t := (.object "java/util/List")) (t' := (.object "java/lang/String")) (by decide) (by decide))))
  refine Rch.of (T' := T316) (g' := (mkF m 9 #[.val (.ref a1), .val (.ref a2), .val (.ref a3)] [])) st316 ?_
  refine Rch.of (T' := T316) (g' := (mkF m 10 #[.val (.ref a1), .val (.ref a2), .val (.ref a3)] [(.ref a1)])) (fun _ kt => XS.aloadN X316.here hx rfl (hb hby d_prog_6_method_2_code_9) rfl rfl kt) ?_
  refine Rch.of (T' := T316) (g' := (mkF m 11 #[.val (.ref a1), .val (.ref a2), .val (.ref a3)] [.null, (.ref a1)])) (fun _ kt => XS.aconstNull X316.here hx rfl (hb hby d_prog_6_method_2_code_10) kt) ?_
  obtain ⟨T319, h319, X319, e319, W319, st319⟩ := putF X316 hx hZ hown (host := "") (Or.inl (hw _ (List.mem_of_getElem? (i := 63) rfl))) Via.refl e316 Fb317 (E1.wr W316) (Or.inr ⟨(hw _ (List.mem_of_getElem? (i := 64) rfl)), rfl, hnm⟩) (hw _ (List.mem_of_getElem? (i := 49) rfl)) (ty := (.object "java/lang/String")) (by decide) rfl rfl (g := (mkF m 11 #[.val (.ref a1), .val (.ref a2), .val (.ref a3)] [.null, (.ref a1)])) rfl rfl (hb hby d_prog_6_method_2_code_11)
  have N319 := Fr.snoc X319 N316 g1
  have Fw319 := Fld.same W319 Fb317
  have Fb320 := (Fw316.other W319 (Or.inr (slot_ne (Or.inr (hw _ (List.mem_of_getElem? (i := 56) rfl))) (Or.inr (hw _ (List.mem_of_getElem? (i := 64) rfl))) (by decide) (t := (.object "java/lang/String")) (t' := (.object "java/lang/String")) (by decide) (by decide))))
  have Fb321 := (Fb318.other W319 (Or.inr (slot_ne (Or.inr (hw _ (List.mem_of_getElem? (i := 105) rfl))) (Or.inr (hw _ (List.mem_of_getElem? (i := 64) rfl))) (by decide) (t := (.object "java/util/List")) (t' := (.object "java/lang/String")) (by decide) (by decide))))
  refine Rch.of (T' := T319) (g' := (mkF m 14 #[.val (.ref a1), .val (.ref a2), .val (.ref a3)] [])) st319 ?_
  refine Rch.of (T' := T319) (g' := (mkF m 15 #[.val (.ref a1), .val (.ref a2), .val (.ref a3)] [(.ref a1)])) (fun _ kt => XS.aloadN X319.here hx rfl (hb hby d_prog_6_method_2_code_14) rfl rfl kt) ?_
  refine Rch.of (T' := T319) (g' := (mkF m 16 #[.val (.ref a1), .val (.ref a2), .val (.ref a3)] [(.ref a3), (.ref a1)])) (fun _ kt => XS.aloadN X319.here hx rfl (hb hby d_prog_6_method_2_code_15) rfl rfl kt) ?_
  obtain ⟨_, _, ⟨T322, L322, k322, n322⟩, -, X322, ⟨Lc322, hQ322, l322, y322, z322⟩, st322⟩ := Jvm.LawKit.callS X319 hx (y := (⟨"java/util/List", "copyOf", "(Ljava/util/Collection;)Ljava/util/List;"⟩ : MethodName)) hown (mvT hZ (hw _ (List.mem_of_getElem? (i := 259) rfl))) (mvT hZ (hw _ (List.mem_of_getElem? (i := 260) rfl))) (mvT hZ (hw _ (List.mem_of_getElem? (i := 67) rfl))) (mvT hZ (hw _ (List.mem_of_getElem? (i := 261) rfl))) (by decide) (backOf (W := 1) (rkCOa l Z a0 hw [] a3 h319 n0 (Nat.le_trans (Nat.le_trans Z0 (Keep.of_wr W316).1) (Keep.of_wr W319).1) ((E3.wr W316).wr W319)) hZ (hw _ (List.mem_of_getElem? (i := 261) rfl)) (hw _ (List.mem_of_getElem? (i := 67) rfl)) (by decide) (by decide)) (g := (mkF m 16 #[.val (.ref a1), .val (.ref a2), .val (.ref a3)] [(.ref a3), (.ref a1)])) rfl (by rw [hml]; rfl) (argsL := [(.ref a3)]) (rest := [(.ref a1)]) (lenOf pd_37 rfl) rfl (by show 2 * 0 + _ ≤ _; exact Nat.le_of_eq rfl) (hb hby d_prog_6_method_2_code_16) (fun _ _ => ⟨rfl, e319, (by decide : 0 + 0 ≤ _), (by decide : 0 + 0 ≤ _)⟩)
  dsimp only [Pt.U, Pt.locs, Pt.cells, Pt.slots] at X322 l322 y322 z322 st322 hQ322
  subst l322 y322 z322
  obtain ⟨rfl, N322q, hQ322⟩ := hQ322
  have N322 := Fr.app N319 N322q
  refine Rch.of (T' := T322) (g' := (mkF m 19 #[.val (.ref a1), .val (.ref a2), .val (.ref a3)] [(.ref a3), (.ref a1)])) st322 ?_
  obtain ⟨T323, h323, X323, e323, W323, st323⟩ := putF X322 hx hZ hown (host := "") (Or.inl (hw _ (List.mem_of_getElem? (i := 104) rfl))) Via.refl hQ322 Fb321 ((E1.wr W316).wr W319) (Or.inr ⟨(hw _ (List.mem_of_getElem? (i := 105) rfl)), rfl, hnm⟩) (hw _ (List.mem_of_getElem? (i := 49) rfl)) (ty := (.object "java/util/List")) (by decide) rfl rfl (g := (mkF m 19 #[.val (.ref a1), .val (.ref a2), .val (.ref a3)] [(.ref a3), (.ref a1)])) rfl rfl (hb hby d_prog_6_method_2_code_19)
  have N323 := Fr.snoc X323 N322 g1
  have Fw323 := Fld.same W323 Fb321
  have Fb324 := (Fb320.other W323 (Or.inr (slot_ne (Or.inr (hw _ (List.mem_of_getElem? (i := 56) rfl))) (Or.inr (hw _ (List.mem_of_getElem? (i := 105) rfl))) (by decide) (t := (.object "java/lang/String")) (t' := (.object "java/util/List")) (by decide) (by decide))))
  have Fb325 := (Fw319.other W323 (Or.inr (slot_ne (Or.inr (hw _ (List.mem_of_getElem? (i := 64) rfl))) (Or.inr (hw _ (List.mem_of_getElem? (i := 105) rfl))) (by decide) (t := (.object "java/lang/String")) (t' := (.object "java/util/List")) (by decide) (by decide))))
  have Fb326 := ((((Keep.refl h0 [a1]).wr W316 (Or.inl (List.mem_of_getElem? (i := 0) rfl))).wr W319 (Or.inl (List.mem_of_getElem? (i := 0) rfl))).wr W323 (Or.inl (List.mem_of_getElem? (i := 0) rfl)))
  refine Rch.of (T' := T323) (g' := (mkF m 22 #[.val (.ref a1), .val (.ref a2), .val (.ref a3)] [])) st323 ?_
  exact Rch.retV X323 hx hret hlk (hb hby d_prog_6_method_2_code_22) (fun U hU hF => hK _ U _ _ _ (by show Q_rkQa Z a1 a2 a3 u0 u1 u2 h0 n0 _ U.heap _; rw [hU, e323]; exact ⟨rfl, N323, Fb326, (((E1.wr W316).wr W319).wr W323), Fb324, Fb325⟩) hF (by decide) (by decide))
theorem ef_rkQb (m : MethodId) (a1 : Addr) (a2 : Addr) (a3 : Addr) : entryFrame m #[(.ref a1), (.ref a2), (.ref a3)] 3 = mkF m 0 #[.val (.ref a1), .val (.ref a2), .val (.ref a3)] [] := by first | (simp [entryFrame, mkF, argsToLocals, Value.category]; done) | rfl
def Q_rkQb (Z : State) (a1 : Addr) (a2 : Addr) (a3 : Addr) (u0 : Value) (u1 : Value) (u2 : Value) (h0 : Heap) (n0 : Nat) (vv_ : Option Value) (h : Heap) (LL_ : List Loc) : Prop := vv_ = none ∧ Fr n0 LL_ ∧ (Keep h0 h [a1] ∧ Exa Z h a1 "com/example/ampliar/ampliar/command/Parameter" ∧ Fld Z h a1 "com/example/ampliar/ampliar/command/Parameter" "name" "Ljava/lang/String;" (.ref a2) ∧ Fld Z h a1 "com/example/ampliar/ampliar/command/Parameter" "value" "Ljava/lang/String;" .null)
set_option maxRecDepth 65536 in
set_option maxHeartbeats 40000000 in
theorem rkQb (l : Launch) (Z : State) (a0 : Array Value) (hw : ∀ d ∈ tables_1, d.before a0 Z = true) (ws : List Jvm.Cond) (a1 : Addr) (a2 : Addr) (a3 : Addr) (u0 : Value) (u1 : Value) (u2 : Value) (h0 : Heap) (n0 : Nat) (Z0 : n0 ≤ h0.size) (E1 : Exa Z h0 a1 "com/example/ampliar/ampliar/command/Parameter") (F0 : Fld Z h0 a1 "com/example/ampliar/ampliar/command/Parameter" "name" "Ljava/lang/String;" u0) (F1 : Fld Z h0 a1 "com/example/ampliar/ampliar/command/Parameter" "value" "Ljava/lang/String;" u1) (F2 : Fld Z h0 a1 "com/example/ampliar/ampliar/command/Parameter" "choices" "Ljava/util/List;" u2) (g1 : n0 ≤ a1) (E3 : Exa Z h0 a3 "java/util/ImmutableCollections$ListN") (Fn : Fld Z h0 a3 "java/util/ImmutableCollections$ListN" "allowNulls" "Z" (.int (0 : Int32))) :
    MetFree l (⟨"com/example/ampliar/ampliar/command/Parameter", "<init>", "(Ljava/lang/String;Ljava/util/List;)V"⟩ : MethodName) (head1 (Jvm.Cond.code (⟨"com/example/ampliar/ampliar/command/Parameter", "<init>", "(Ljava/lang/String;Ljava/util/List;)V"⟩ : MethodName) prog_6_method_2_code 3 none :: ws) ({ frames := 2, cells := 0, slots := 0, locals := 26 } : Room)) (fun aa_ UU_ => aa_ = #[(.ref a1), (.ref a2), (.ref a3)] ∧ Z.Warmed39 UU_.vm ∧ UU_.heap = h0) (fun _ _ _ _ _ => True) (fun _ UU_ oo_ VV_ => ∃ vv_ LL_, oo_ = .returned vv_ ∧ Q_rkQb Z a1 a2 a3 u0 u1 u2 h0 n0 vv_ VV_.heap LL_ ∧ FrameEnd UU_ oo_ VV_ LL_ ({ frames := 2, cells := 0, slots := 0, locals := 26 } : Room).cells ({ frames := 2, cells := 0, slots := 0, locals := 26 } : Room).slots) := by
  refine own_met (y := (⟨"com/example/ampliar/ampliar/command/Parameter", "<init>", "(Ljava/lang/String;Ljava/util/List;)V"⟩ : MethodName)) (plainFor_of_name pn_14) ?_
  intro p e s m below meth c T0 K hx hby hml hret hlk hown hnm hZ X0 e0 hK
  have N0 := Fr.nil n0
  refine Rch.cast (ef_rkQb m a1 a2 a3) ?_
  have n3 : a3 ≠ a1 := own_exane E3 E1 (by decide)
  refine Rch.of (T' := T0) (g' := (mkF m 1 #[.val (.ref a1), .val (.ref a2), .val (.ref a3)] [(.ref a1)])) (fun _ kt => XS.aloadN X0.here hx rfl (hb hby d_prog_6_method_2_code_0) rfl rfl kt) ?_
  obtain ⟨T327, X327, e327, st327⟩ := initO X0 hx hZ hown (hw _ (List.mem_of_getElem? (i := 54) rfl)) (hw _ (List.mem_of_getElem? (i := 12) rfl)) (hw _ (List.mem_of_getElem? (i := 13) rfl)) e0 (g := (mkF m 1 #[.val (.ref a1), .val (.ref a2), .val (.ref a3)] [(.ref a1)])) rfl (by rw [hml]; rfl) rfl (hb hby d_prog_6_method_2_code_1) (by decide) (W := 0) (by show 2 * 0 + _ ≤ _; exact Nat.le_of_eq rfl) (by decide)
  refine Rch.of (T' := T327) (g' := (mkF m 4 #[.val (.ref a1), .val (.ref a2), .val (.ref a3)] [])) st327 ?_
  refine Rch.of (T' := T327) (g' := (mkF m 5 #[.val (.ref a1), .val (.ref a2), .val (.ref a3)] [(.ref a1)])) (fun _ kt => XS.aloadN X327.here hx rfl (hb hby d_prog_6_method_2_code_4) rfl rfl kt) ?_
  refine Rch.of (T' := T327) (g' := (mkF m 6 #[.val (.ref a1), .val (.ref a2), .val (.ref a3)] [(.ref a2), (.ref a1)])) (fun _ kt => XS.aloadN X327.here hx rfl (hb hby d_prog_6_method_2_code_5) rfl rfl kt) ?_
  obtain ⟨T328, h328, X328, e328, W328, st328⟩ := putF X327 hx hZ hown (host := "") (Or.inl (hw _ (List.mem_of_getElem? (i := 55) rfl))) Via.refl e327 F0 E1 (Or.inr ⟨(hw _ (List.mem_of_getElem? (i := 56) rfl)), rfl, hnm⟩) (hw _ (List.mem_of_getElem? (i := 49) rfl)) (ty := (.object "java/lang/String")) (by decide) rfl rfl (g := (mkF m 6 #[.val (.ref a1), .val (.ref a2), .val (.ref a3)] [(.ref a2), (.ref a1)])) rfl rfl (hb hby d_prog_6_method_2_code_6)
  have N328 := Fr.snoc X328 N0 g1
  have Fw328 := Fld.same W328 F0
  have Fb329 := (F1.other W328 (Or.inr (slot_ne (Or.inr (hw _ (List.mem_of_getElem? (i := 64) rfl))) (Or.inr (hw _ (List.mem_of_getElem? (i := 56) rfl))) (by decide) (t := (.object "java/lang/String")) (t' := (.object "java/lang/String")) (by decide) (by decide))))
  have Fb330 := (F2.other W328 (Or.inr (slot_ne (Or.inr (hw _ (List.mem_of_getElem? (i := 105) rfl))) (Or.inr (hw _ (List.mem_of_getElem? (i := 56) rfl))) (by decide) (t := (.object "java/util/List")) (t' := (.object "java/lang/String")) (by decide) (by decide))))
  refine Rch.of (T' := T328) (g' := (mkF m 9 #[.val (.ref a1), .val (.ref a2), .val (.ref a3)] [])) st328 ?_
  refine Rch.of (T' := T328) (g' := (mkF m 10 #[.val (.ref a1), .val (.ref a2), .val (.ref a3)] [(.ref a1)])) (fun _ kt => XS.aloadN X328.here hx rfl (hb hby d_prog_6_method_2_code_9) rfl rfl kt) ?_
  refine Rch.of (T' := T328) (g' := (mkF m 11 #[.val (.ref a1), .val (.ref a2), .val (.ref a3)] [.null, (.ref a1)])) (fun _ kt => XS.aconstNull X328.here hx rfl (hb hby d_prog_6_method_2_code_10) kt) ?_
  obtain ⟨T331, h331, X331, e331, W331, st331⟩ := putF X328 hx hZ hown (host := "") (Or.inl (hw _ (List.mem_of_getElem? (i := 63) rfl))) Via.refl e328 Fb329 (E1.wr W328) (Or.inr ⟨(hw _ (List.mem_of_getElem? (i := 64) rfl)), rfl, hnm⟩) (hw _ (List.mem_of_getElem? (i := 49) rfl)) (ty := (.object "java/lang/String")) (by decide) rfl rfl (g := (mkF m 11 #[.val (.ref a1), .val (.ref a2), .val (.ref a3)] [.null, (.ref a1)])) rfl rfl (hb hby d_prog_6_method_2_code_11)
  have N331 := Fr.snoc X331 N328 g1
  have Fw331 := Fld.same W331 Fb329
  have Fb332 := (Fw328.other W331 (Or.inr (slot_ne (Or.inr (hw _ (List.mem_of_getElem? (i := 56) rfl))) (Or.inr (hw _ (List.mem_of_getElem? (i := 64) rfl))) (by decide) (t := (.object "java/lang/String")) (t' := (.object "java/lang/String")) (by decide) (by decide))))
  have Fb333 := (Fb330.other W331 (Or.inr (slot_ne (Or.inr (hw _ (List.mem_of_getElem? (i := 105) rfl))) (Or.inr (hw _ (List.mem_of_getElem? (i := 64) rfl))) (by decide) (t := (.object "java/util/List")) (t' := (.object "java/lang/String")) (by decide) (by decide))))
  refine Rch.of (T' := T331) (g' := (mkF m 14 #[.val (.ref a1), .val (.ref a2), .val (.ref a3)] [])) st331 ?_
  refine Rch.of (T' := T331) (g' := (mkF m 15 #[.val (.ref a1), .val (.ref a2), .val (.ref a3)] [(.ref a1)])) (fun _ kt => XS.aloadN X331.here hx rfl (hb hby d_prog_6_method_2_code_14) rfl rfl kt) ?_
  refine Rch.of (T' := T331) (g' := (mkF m 16 #[.val (.ref a1), .val (.ref a2), .val (.ref a3)] [(.ref a3), (.ref a1)])) (fun _ kt => XS.aloadN X331.here hx rfl (hb hby d_prog_6_method_2_code_15) rfl rfl kt) ?_
  obtain ⟨_, _, ⟨T334, L334, k334, n334⟩, -, X334, ⟨Lc334, hQ334, l334, y334, z334⟩, st334⟩ := Jvm.LawKit.callS X331 hx (y := (⟨"java/util/List", "copyOf", "(Ljava/util/Collection;)Ljava/util/List;"⟩ : MethodName)) hown (mvT hZ (hw _ (List.mem_of_getElem? (i := 259) rfl))) (mvT hZ (hw _ (List.mem_of_getElem? (i := 260) rfl))) (mvT hZ (hw _ (List.mem_of_getElem? (i := 67) rfl))) (mvT hZ (hw _ (List.mem_of_getElem? (i := 261) rfl))) (by decide) (backOf (W := 1) (rkCOb l Z a0 hw [] a3 h331 n0 (Nat.le_trans (Nat.le_trans Z0 (Keep.of_wr W328).1) (Keep.of_wr W331).1) ((E3.wr W328).wr W331) ((Fn.other W328 (Or.inl n3)).other W331 (Or.inl n3))) hZ (hw _ (List.mem_of_getElem? (i := 261) rfl)) (hw _ (List.mem_of_getElem? (i := 67) rfl)) (by decide) (by decide)) (g := (mkF m 16 #[.val (.ref a1), .val (.ref a2), .val (.ref a3)] [(.ref a3), (.ref a1)])) rfl (by rw [hml]; rfl) (argsL := [(.ref a3)]) (rest := [(.ref a1)]) (lenOf pd_37 rfl) rfl (by show 2 * 0 + _ ≤ _; exact Nat.le_of_eq rfl) (hb hby d_prog_6_method_2_code_16) (fun _ _ => ⟨rfl, e331, (by decide : 0 + 0 ≤ _), (by decide : 0 + 0 ≤ _)⟩)
  dsimp only [Pt.U, Pt.locs, Pt.cells, Pt.slots] at X334 l334 y334 z334 st334 hQ334
  subst l334 y334 z334
  obtain ⟨rfl, N334q, hQ334⟩ := hQ334
  have N334 := Fr.app N331 N334q
  refine Rch.of (T' := T334) (g' := (mkF m 19 #[.val (.ref a1), .val (.ref a2), .val (.ref a3)] [(.ref a3), (.ref a1)])) st334 ?_
  obtain ⟨T335, h335, X335, e335, W335, st335⟩ := putF X334 hx hZ hown (host := "") (Or.inl (hw _ (List.mem_of_getElem? (i := 104) rfl))) Via.refl hQ334 Fb333 ((E1.wr W328).wr W331) (Or.inr ⟨(hw _ (List.mem_of_getElem? (i := 105) rfl)), rfl, hnm⟩) (hw _ (List.mem_of_getElem? (i := 49) rfl)) (ty := (.object "java/util/List")) (by decide) rfl rfl (g := (mkF m 19 #[.val (.ref a1), .val (.ref a2), .val (.ref a3)] [(.ref a3), (.ref a1)])) rfl rfl (hb hby d_prog_6_method_2_code_19)
  have N335 := Fr.snoc X335 N334 g1
  have Fw335 := Fld.same W335 Fb333
  have Fb336 := (Fb332.other W335 (Or.inr (slot_ne (Or.inr (hw _ (List.mem_of_getElem? (i := 56) rfl))) (Or.inr (hw _ (List.mem_of_getElem? (i := 105) rfl))) (by decide) (t := (.object "java/lang/String")) (t' := (.object "java/util/List")) (by decide) (by decide))))
  have Fb337 := (Fw331.other W335 (Or.inr (slot_ne (Or.inr (hw _ (List.mem_of_getElem? (i := 64) rfl))) (Or.inr (hw _ (List.mem_of_getElem? (i := 105) rfl))) (by decide) (t := (.object "java/lang/String")) (t' := (.object "java/util/List")) (by decide) (by decide))))
  have Fb338 := ((((Keep.refl h0 [a1]).wr W328 (Or.inl (List.mem_of_getElem? (i := 0) rfl))).wr W331 (Or.inl (List.mem_of_getElem? (i := 0) rfl))).wr W335 (Or.inl (List.mem_of_getElem? (i := 0) rfl)))
  refine Rch.of (T' := T335) (g' := (mkF m 22 #[.val (.ref a1), .val (.ref a2), .val (.ref a3)] [])) st335 ?_
  exact Rch.retV X335 hx hret hlk (hb hby d_prog_6_method_2_code_22) (fun U hU hF => hK _ U _ _ _ (by show Q_rkQb Z a1 a2 a3 u0 u1 u2 h0 n0 _ U.heap _; rw [hU, e335]; exact ⟨rfl, N335, Fb338, (((E1.wr W328).wr W331).wr W335), Fb336, Fb337⟩) hF (by decide) (by decide))
theorem ef_rkF0 (m : MethodId) (a1 : Addr) (a2 : Addr) : entryFrame m #[(.ref a1), (.ref a2)] 2 = mkF m 0 #[.val (.ref a1), .val (.ref a2)] [] := by first | (simp [entryFrame, mkF, argsToLocals, Value.category]; done) | rfl
def Q_rkF0 (Z : State) (a1 : Addr) (a2 : Addr) (el : Addr) (h0 : Heap) (n0 : Nat) (vv_ : Option Value) (h : Heap) (LL_ : List Loc) : Prop := vv_ = some (.ref h0.size) ∧ Fr n0 LL_ ∧ (Keep h0 h [] ∧ Exa Z h h0.size "com/example/ampliar/ampliar/command/Parameter" ∧ Fld Z h h0.size "com/example/ampliar/ampliar/command/Parameter" "name" "Ljava/lang/String;" (.ref a1) ∧ Fld Z h h0.size "com/example/ampliar/ampliar/command/Parameter" "value" "Ljava/lang/String;" .null)
theorem d_prog_6_method_3_code_0 : decode prog_6_method_3_code 0 = .ok (.new 8, 3) := by decide +kernel
theorem d_prog_6_method_3_code_3 : decode prog_6_method_3_code 3 = .ok (.dup, 1) := by decide +kernel
theorem d_prog_6_method_3_code_4 : decode prog_6_method_3_code 4 = .ok (.aload_n 0, 1) := by decide +kernel
theorem d_prog_6_method_3_code_5 : decode prog_6_method_3_code 5 = .ok (.aload_n 1, 1) := by decide +kernel
theorem d_prog_6_method_3_code_6 : decode prog_6_method_3_code 6 = .ok (.invokestatic 25, 3) := by decide +kernel
theorem d_prog_6_method_3_code_9 : decode prog_6_method_3_code 9 = .ok (.invokespecial 39, 3) := by decide +kernel
theorem d_prog_6_method_3_code_12 : decode prog_6_method_3_code 12 = .ok (.areturn, 1) := by decide +kernel
set_option maxRecDepth 65536 in
set_option maxHeartbeats 40000000 in
theorem rkF0 (l : Launch) (Z : State) (a0 : Array Value) (hw : ∀ d ∈ tables_1, d.before a0 Z = true) (ws : List Jvm.Cond) (a1 : Addr) (a2 : Addr) (el : Addr) (h0 : Heap) (n0 : Nat) (Z0 : n0 ≤ h0.size) (V1 : Av Z h0 a2 (.object "java/lang/String") 0 (fun q => (fun _ => Value.null) q)) (SL : Sta Z h0 "java/util/ImmutableCollections" "EMPTY_LIST" "Ljava/util/ImmutableCollections$ListN;" (.ref el)) (E9 : Exa Z h0 el "java/util/ImmutableCollections$ListN") (F9 : Fld Z h0 el "java/util/ImmutableCollections$ListN" "allowNulls" "Z" (.int (0 : Int32))) :
    MetFree l (⟨"com/example/ampliar/ampliar/command/Parameter", "flag", "(Ljava/lang/String;[Ljava/lang/String;)Lcom/example/ampliar/ampliar/command/Parameter;"⟩ : MethodName) (head1 (Jvm.Cond.code (⟨"com/example/ampliar/ampliar/command/Parameter", "flag", "(Ljava/lang/String;[Ljava/lang/String;)Lcom/example/ampliar/ampliar/command/Parameter;"⟩ : MethodName) prog_6_method_3_code 2 (some (.object "com/example/ampliar/ampliar/command/Parameter")) :: ws) ({ frames := 3, cells := 1, slots := 3, locals := 41 } : Room)) (fun aa_ UU_ => aa_ = #[(.ref a1), (.ref a2)] ∧ Z.Warmed39 UU_.vm ∧ UU_.heap = h0) (fun _ _ _ _ _ => True) (fun _ UU_ oo_ VV_ => ∃ vv_ LL_, oo_ = .returned vv_ ∧ Q_rkF0 Z a1 a2 el h0 n0 vv_ VV_.heap LL_ ∧ FrameEnd UU_ oo_ VV_ LL_ ({ frames := 3, cells := 1, slots := 3, locals := 41 } : Room).cells ({ frames := 3, cells := 1, slots := 3, locals := 41 } : Room).slots) := by
  refine own_met (y := (⟨"com/example/ampliar/ampliar/command/Parameter", "flag", "(Ljava/lang/String;[Ljava/lang/String;)Lcom/example/ampliar/ampliar/command/Parameter;"⟩ : MethodName)) (plainFor_of_name pn_14) ?_
  intro p e s m below meth c T0 K hx hby hml hret hlk hown hnm hZ X0 e0 hK
  have N0 := Fr.nil n0
  refine Rch.cast (ef_rkF0 m a1 a2) ?_
  obtain ⟨T339, h339, X339, e339, E339, A339, D339, -, st339⟩ := newO X0 hx hZ hown (hw _ (List.mem_of_getElem? (i := 255) rfl)) (hw _ (List.mem_of_getElem? (i := 49) rfl)) (hw _ (List.mem_of_getElem? (i := 50) rfl)) e0 (g := (mkF m 0 #[.val (.ref a1), .val (.ref a2)] [])) rfl (hb hby d_prog_6_method_3_code_0) (by decide) (by decide)
  obtain ⟨b339, g339⟩ : ∃ zz_, zz_ = h0.size := ⟨_, rfl⟩
  have ne_a2_b339 : a2 ≠ b339 := Nat.ne_of_lt (Nat.lt_of_lt_of_le V1.lt (Nat.le_of_eq g339.symm))
  have ne_el_b339 : el ≠ b339 := Nat.ne_of_lt (Nat.lt_of_lt_of_le E9.lt (Nat.le_of_eq g339.symm))
  have ge_b339 : n0 ≤ b339 := Nat.le_trans Z0 (Nat.le_of_eq g339.symm)
  have sz_b339 : h0.size ≤ b339 := Nat.le_trans (Keep.refl h0 []).1 (Nat.le_of_eq g339.symm)
  rw [← g339] at A339 D339 st339
  have F339_name : Fld Z h339 b339 "com/example/ampliar/ampliar/command/Parameter" "name" "Ljava/lang/String;" .null := D339 (Or.inr (hw _ (List.mem_of_getElem? (i := 56) rfl))) (ty := (.object "java/lang/String")) (by decide)
  have F339_value : Fld Z h339 b339 "com/example/ampliar/ampliar/command/Parameter" "value" "Ljava/lang/String;" .null := D339 (Or.inr (hw _ (List.mem_of_getElem? (i := 64) rfl))) (ty := (.object "java/lang/String")) (by decide)
  have F339_choices : Fld Z h339 b339 "com/example/ampliar/ampliar/command/Parameter" "choices" "Ljava/util/List;" .null := D339 (Or.inr (hw _ (List.mem_of_getElem? (i := 105) rfl))) (ty := (.object "java/util/List")) (by decide)
  refine Rch.of (T' := T339) (g' := (mkF m 3 #[.val (.ref a1), .val (.ref a2)] [(.ref b339)])) st339 ?_
  refine Rch.of (T' := T339) (g' := (mkF m 4 #[.val (.ref a1), .val (.ref a2)] [(.ref b339), (.ref b339)])) (fun _ kt => XS.dup X339.here hx rfl (hb hby d_prog_6_method_3_code_3) rfl rfl kt) ?_
  refine Rch.of (T' := T339) (g' := (mkF m 5 #[.val (.ref a1), .val (.ref a2)] [(.ref a1), (.ref b339), (.ref b339)])) (fun _ kt => XS.aloadN X339.here hx rfl (hb hby d_prog_6_method_3_code_4) rfl rfl kt) ?_
  refine Rch.of (T' := T339) (g' := (mkF m 6 #[.val (.ref a1), .val (.ref a2)] [(.ref a2), (.ref a1), (.ref b339), (.ref b339)])) (fun _ kt => XS.aloadN X339.here hx rfl (hb hby d_prog_6_method_3_code_5) rfl rfl kt) ?_
  obtain ⟨_, _, ⟨T340, L340, k340, n340⟩, -, X340, ⟨Lc340, hQ340, l340, y340, z340⟩, st340⟩ := Jvm.LawKit.callS X339 hx (y := (⟨"java/util/List", "of", "([Ljava/lang/Object;)Ljava/util/List;"⟩ : MethodName)) hown (mvT hZ (hw _ (List.mem_of_getElem? (i := 65) rfl))) (mvT hZ (hw _ (List.mem_of_getElem? (i := 66) rfl))) (mvT hZ (hw _ (List.mem_of_getElem? (i := 67) rfl))) (mvT hZ (hw _ (List.mem_of_getElem? (i := 68) rfl))) (by decide) (backOf (W := 3) (rkL0 l Z a0 hw [] a2 el h339 n0 (Nat.le_trans Z0 E339.1) (V1.ext E339) (SL.ext E339)) hZ (hw _ (List.mem_of_getElem? (i := 68) rfl)) (hw _ (List.mem_of_getElem? (i := 67) rfl)) (by decide) (by decide)) (g := (mkF m 6 #[.val (.ref a1), .val (.ref a2)] [(.ref a2), (.ref a1), (.ref b339), (.ref b339)])) rfl (by rw [hml]; rfl) (argsL := [(.ref a2)]) (rest := [(.ref a1), (.ref b339), (.ref b339)]) (lenOf pd_12 rfl) rfl (by show 2 * 0 + _ ≤ _; exact Nat.le_of_eq rfl) (hb hby d_prog_6_method_3_code_6) (fun _ _ => ⟨rfl, e339, (by decide : 1 + 0 ≤ _), (by decide : 3 + 0 ≤ _)⟩)
  dsimp only [Pt.U, Pt.locs, Pt.cells, Pt.slots] at X340 l340 y340 z340 st340 hQ340
  subst l340 y340 z340
  obtain ⟨rfl, N340q, hQ340⟩ := hQ340
  have N340 := Fr.app N0 N340q
  refine Rch.of (T' := T340) (g' := (mkF m 9 #[.val (.ref a1), .val (.ref a2)] [(.ref el), (.ref a1), (.ref b339), (.ref b339)])) st340 ?_
  obtain ⟨_, _, ⟨T341, L341, k341, n341⟩, -, X341, ⟨Lc341, hQ341, l341, y341, z341⟩, st341⟩ := X340.specialBack hx (y := (⟨"com/example/ampliar/ampliar/command/Parameter", "<init>", "(Ljava/lang/String;Ljava/util/List;)V"⟩ : MethodName)) rfl hown (mvT hZ (hw _ (List.mem_of_getElem? (i := 256) rfl))) (mvT hZ (hw _ (List.mem_of_getElem? (i := 257) rfl))) (mvT hZ (hw _ (List.mem_of_getElem? (i := 258) rfl))) (by decide) (backOf (W := 1) (rkQb l Z a0 hw [] b339 a1 el .null .null .null h339 n0 (Nat.le_trans Z0 E339.1) A339 F339_name F339_value F339_choices ge_b339 (E9.ext E339) (F9.ext E339)) hZ (hw _ (List.mem_of_getElem? (i := 258) rfl)) (hw _ (List.mem_of_getElem? (i := 50) rfl)) (by decide) (by decide)) (g := (mkF m 9 #[.val (.ref a1), .val (.ref a2)] [(.ref el), (.ref a1), (.ref b339), (.ref b339)])) rfl (by rw [hml]; rfl) (Steps.refl _) (a := b339) (argsL := [(.ref a1), (.ref el)]) (rest := [(.ref b339)]) (lenOf pd_36 rfl) rfl (by show 2 * 0 + _ ≤ _; exact Nat.le_of_eq rfl) (hb hby d_prog_6_method_3_code_9) (fun _ _ => ⟨rfl, hQ340, (by decide : 1 + 0 ≤ _), (by decide : 3 + 0 ≤ _)⟩)
  dsimp only [Pt.U, Pt.locs, Pt.cells, Pt.slots] at X341 l341 y341 z341 st341 hQ341
  subst l341 y341 z341
  obtain ⟨rfl, N341q, hQ341⟩ := hQ341
  have N341 := Fr.app N340 N341q
  obtain ⟨K341, Ex341, Fa341, Fb341⟩ := hQ341
  refine Rch.via (T' := T341) (g' := (mkF m 12 #[.val (.ref a1), .val (.ref a2)] [(.ref b339)])) st341 ?_
  exact Rch.retA X341 hx (w := (.ref b339)) hret rfl rfl hlk (hb hby d_prog_6_method_3_code_12) (fun U hU hF => hK _ U _ _ _ (by show Q_rkF0 Z a1 a2 el h0 n0 _ U.heap _; rw [hU]; exact ⟨by rw [g339], N341, by rw [← g339]; exact ⟨(((Keep.refl h0 []).ext E339).trans K341 (allS (Or.inr sz_b339) all0)), Ex341, Fa341, Fb341⟩⟩) hF (by decide) (by decide))
theorem ef_rkF1 (m : MethodId) (a1 : Addr) (a2 : Addr) : entryFrame m #[(.ref a1), (.ref a2)] 2 = mkF m 0 #[.val (.ref a1), .val (.ref a2)] [] := by first | (simp [entryFrame, mkF, argsToLocals, Value.category]; done) | rfl
def Q_rkF1 (Z : State) (a1 : Addr) (a2 : Addr) (e1 : Addr) (eo : Addr) (h0 : Heap) (n0 : Nat) (vv_ : Option Value) (h : Heap) (LL_ : List Loc) : Prop := vv_ = some (.ref h0.size) ∧ Fr n0 LL_ ∧ (Keep h0 h [] ∧ Exa Z h h0.size "com/example/ampliar/ampliar/command/Parameter" ∧ Fld Z h h0.size "com/example/ampliar/ampliar/command/Parameter" "name" "Ljava/lang/String;" (.ref a1) ∧ Fld Z h h0.size "com/example/ampliar/ampliar/command/Parameter" "value" "Ljava/lang/String;" .null)
set_option maxRecDepth 65536 in
set_option maxHeartbeats 40000000 in
theorem rkF1 (l : Launch) (Z : State) (a0 : Array Value) (hw : ∀ d ∈ tables_1, d.before a0 Z = true) (ws : List Jvm.Cond) (a1 : Addr) (a2 : Addr) (e1 : Addr) (eo : Addr) (h0 : Heap) (n0 : Nat) (Z0 : n0 ≤ h0.size) (V1 : Av Z h0 a2 (.object "java/lang/String") 1 (fun q => (fun _ => Value.ref e1) q)) (SE : Sta Z h0 "java/util/ImmutableCollections" "EMPTY" "Ljava/lang/Object;" (.ref eo)) :
    MetFree l (⟨"com/example/ampliar/ampliar/command/Parameter", "flag", "(Ljava/lang/String;[Ljava/lang/String;)Lcom/example/ampliar/ampliar/command/Parameter;"⟩ : MethodName) (head1 (Jvm.Cond.code (⟨"com/example/ampliar/ampliar/command/Parameter", "flag", "(Ljava/lang/String;[Ljava/lang/String;)Lcom/example/ampliar/ampliar/command/Parameter;"⟩ : MethodName) prog_6_method_3_code 2 (some (.object "com/example/ampliar/ampliar/command/Parameter")) :: ws) ({ frames := 6, cells := 2, slots := 5, locals := 78 } : Room)) (fun aa_ UU_ => aa_ = #[(.ref a1), (.ref a2)] ∧ Z.Warmed39 UU_.vm ∧ UU_.heap = h0) (fun _ _ _ _ _ => True) (fun _ UU_ oo_ VV_ => ∃ vv_ LL_, oo_ = .returned vv_ ∧ Q_rkF1 Z a1 a2 e1 eo h0 n0 vv_ VV_.heap LL_ ∧ FrameEnd UU_ oo_ VV_ LL_ ({ frames := 6, cells := 2, slots := 5, locals := 78 } : Room).cells ({ frames := 6, cells := 2, slots := 5, locals := 78 } : Room).slots) := by
  refine own_met (y := (⟨"com/example/ampliar/ampliar/command/Parameter", "flag", "(Ljava/lang/String;[Ljava/lang/String;)Lcom/example/ampliar/ampliar/command/Parameter;"⟩ : MethodName)) (plainFor_of_name pn_14) ?_
  intro p e s m below meth c T0 K hx hby hml hret hlk hown hnm hZ X0 e0 hK
  have N0 := Fr.nil n0
  refine Rch.cast (ef_rkF1 m a1 a2) ?_
  obtain ⟨T342, h342, X342, e342, E342, A342, D342, -, st342⟩ := newO X0 hx hZ hown (hw _ (List.mem_of_getElem? (i := 255) rfl)) (hw _ (List.mem_of_getElem? (i := 49) rfl)) (hw _ (List.mem_of_getElem? (i := 50) rfl)) e0 (g := (mkF m 0 #[.val (.ref a1), .val (.ref a2)] [])) rfl (hb hby d_prog_6_method_3_code_0) (by decide) (by decide)
  obtain ⟨b342, g342⟩ : ∃ zz_, zz_ = h0.size := ⟨_, rfl⟩
  have ne_a2_b342 : a2 ≠ b342 := Nat.ne_of_lt (Nat.lt_of_lt_of_le V1.lt (Nat.le_of_eq g342.symm))
  have ge_b342 : n0 ≤ b342 := Nat.le_trans Z0 (Nat.le_of_eq g342.symm)
  have sz_b342 : h0.size ≤ b342 := Nat.le_trans (Keep.refl h0 []).1 (Nat.le_of_eq g342.symm)
  rw [← g342] at A342 D342 st342
  have F342_name : Fld Z h342 b342 "com/example/ampliar/ampliar/command/Parameter" "name" "Ljava/lang/String;" .null := D342 (Or.inr (hw _ (List.mem_of_getElem? (i := 56) rfl))) (ty := (.object "java/lang/String")) (by decide)
  have F342_value : Fld Z h342 b342 "com/example/ampliar/ampliar/command/Parameter" "value" "Ljava/lang/String;" .null := D342 (Or.inr (hw _ (List.mem_of_getElem? (i := 64) rfl))) (ty := (.object "java/lang/String")) (by decide)
  have F342_choices : Fld Z h342 b342 "com/example/ampliar/ampliar/command/Parameter" "choices" "Ljava/util/List;" .null := D342 (Or.inr (hw _ (List.mem_of_getElem? (i := 105) rfl))) (ty := (.object "java/util/List")) (by decide)
  refine Rch.of (T' := T342) (g' := (mkF m 3 #[.val (.ref a1), .val (.ref a2)] [(.ref b342)])) st342 ?_
  refine Rch.of (T' := T342) (g' := (mkF m 4 #[.val (.ref a1), .val (.ref a2)] [(.ref b342), (.ref b342)])) (fun _ kt => XS.dup X342.here hx rfl (hb hby d_prog_6_method_3_code_3) rfl rfl kt) ?_
  refine Rch.of (T' := T342) (g' := (mkF m 5 #[.val (.ref a1), .val (.ref a2)] [(.ref a1), (.ref b342), (.ref b342)])) (fun _ kt => XS.aloadN X342.here hx rfl (hb hby d_prog_6_method_3_code_4) rfl rfl kt) ?_
  refine Rch.of (T' := T342) (g' := (mkF m 6 #[.val (.ref a1), .val (.ref a2)] [(.ref a2), (.ref a1), (.ref b342), (.ref b342)])) (fun _ kt => XS.aloadN X342.here hx rfl (hb hby d_prog_6_method_3_code_5) rfl rfl kt) ?_
  obtain ⟨_, _, ⟨T343, L343, k343, n343⟩, -, X343, ⟨Lc343, hQ343, l343, y343, z343⟩, st343⟩ := Jvm.LawKit.callS X342 hx (y := (⟨"java/util/List", "of", "([Ljava/lang/Object;)Ljava/util/List;"⟩ : MethodName)) hown (mvT hZ (hw _ (List.mem_of_getElem? (i := 65) rfl))) (mvT hZ (hw _ (List.mem_of_getElem? (i := 66) rfl))) (mvT hZ (hw _ (List.mem_of_getElem? (i := 67) rfl))) (mvT hZ (hw _ (List.mem_of_getElem? (i := 68) rfl))) (by decide) (backOf (W := 3) (rkL1 l Z a0 hw [] a2 e1 eo h342 n0 (Nat.le_trans Z0 E342.1) (V1.ext E342) (SE.ext E342)) hZ (hw _ (List.mem_of_getElem? (i := 68) rfl)) (hw _ (List.mem_of_getElem? (i := 67) rfl)) (by decide) (by decide)) (g := (mkF m 6 #[.val (.ref a1), .val (.ref a2)] [(.ref a2), (.ref a1), (.ref b342), (.ref b342)])) rfl (by rw [hml]; rfl) (argsL := [(.ref a2)]) (rest := [(.ref a1), (.ref b342), (.ref b342)]) (lenOf pd_12 rfl) rfl (by show 2 * 0 + _ ≤ _; exact Nat.le_of_eq rfl) (hb hby d_prog_6_method_3_code_6) (fun _ _ => ⟨rfl, e342, (by decide : 1 + 1 ≤ _), (by decide : 3 + 2 ≤ _)⟩)
  dsimp only [Pt.U, Pt.locs, Pt.cells, Pt.slots] at X343 l343 y343 z343 st343 hQ343
  subst l343 y343 z343
  obtain ⟨rfl, N343q, hQ343⟩ := hQ343
  have N343 := Fr.app N0 N343q
  obtain ⟨K343, Ex343⟩ := hQ343
  obtain ⟨b343, g343⟩ : ∃ zz_, zz_ = h342.size := ⟨_, rfl⟩
  have ne_a2_b343 : a2 ≠ b343 := Nat.ne_of_lt (Nat.lt_of_lt_of_le (V1.ext E342).lt (Nat.le_of_eq g343.symm))
  have ne_b342_b343 : b342 ≠ b343 := Nat.ne_of_lt (Nat.lt_of_lt_of_le A342.lt (Nat.le_of_eq g343.symm))
  have ge_b343 : n0 ≤ b343 := Nat.le_trans (Nat.le_trans Z0 E342.1) (Nat.le_of_eq g343.symm)
  have sz_b343 : h0.size ≤ b343 := Nat.le_trans ((Keep.refl h0 []).ext E342).1 (Nat.le_of_eq g343.symm)
  rw [← g343] at Ex343 st343
  refine Rch.of (T' := T343) (g' := (mkF m 9 #[.val (.ref a1), .val (.ref a2)] [(.ref b343), (.ref a1), (.ref b342), (.ref b342)])) st343 ?_
  obtain ⟨_, _, ⟨T344, L344, k344, n344⟩, -, X344, ⟨Lc344, hQ344, l344, y344, z344⟩, st344⟩ := X343.specialBack hx (y := (⟨"com/example/ampliar/ampliar/command/Parameter", "<init>", "(Ljava/lang/String;Ljava/util/List;)V"⟩ : MethodName)) rfl hown (mvT hZ (hw _ (List.mem_of_getElem? (i := 256) rfl))) (mvT hZ (hw _ (List.mem_of_getElem? (i := 257) rfl))) (mvT hZ (hw _ (List.mem_of_getElem? (i := 258) rfl))) (by decide) (backOf (W := 1) (rkQa l Z a0 hw [] b342 a1 b343 .null .null .null T343.heap n0 (Nat.le_trans (Nat.le_trans Z0 E342.1) K343.1) (A342.keep K343) (F342_name.keep K343 nin0) (F342_value.keep K343 nin0) (F342_choices.keep K343 nin0) ge_b342 Ex343) hZ (hw _ (List.mem_of_getElem? (i := 258) rfl)) (hw _ (List.mem_of_getElem? (i := 50) rfl)) (by decide) (by decide)) (g := (mkF m 9 #[.val (.ref a1), .val (.ref a2)] [(.ref b343), (.ref a1), (.ref b342), (.ref b342)])) rfl (by rw [hml]; rfl) (Steps.refl _) (a := b342) (argsL := [(.ref a1), (.ref b343)]) (rest := [(.ref b342)]) (lenOf pd_36 rfl) rfl (by show 2 * 0 + _ ≤ _; exact Nat.le_of_eq rfl) (hb hby d_prog_6_method_3_code_9) (fun _ _ => ⟨rfl, rfl, (by decide : 2 + 0 ≤ _), (by decide : 5 + 0 ≤ _)⟩)
  dsimp only [Pt.U, Pt.locs, Pt.cells, Pt.slots] at X344 l344 y344 z344 st344 hQ344
  subst l344 y344 z344
  obtain ⟨rfl, N344q, hQ344⟩ := hQ344
  have N344 := Fr.app N343 N344q
  obtain ⟨K344, Ex344, Fa344, Fb344⟩ := hQ344
  refine Rch.via (T' := T344) (g' := (mkF m 12 #[.val (.ref a1), .val (.ref a2)] [(.ref b342)])) st344 ?_
  exact Rch.retA X344 hx (w := (.ref b342)) hret rfl rfl hlk (hb hby d_prog_6_method_3_code_12) (fun U hU hF => hK _ U _ _ _ (by show Q_rkF1 Z a1 a2 e1 eo h0 n0 _ U.heap _; rw [hU]; exact ⟨by rw [g342], N344, by rw [← g342]; exact ⟨((((Keep.refl h0 []).ext E342).trans K343 all0).trans K344 (allS (Or.inr sz_b342) all0)), Ex344, Fa344, Fb344⟩⟩) hF (by decide) (by decide))
theorem ef_rkIn (m : MethodId) (a1 : Addr) : entryFrame m #[(.ref a1)] 1 = mkF m 0 #[.val (.ref a1)] [] := by first | (simp [entryFrame, mkF, argsToLocals, Value.category]; done) | rfl
def Q_rkIn (Z : State) (a1 : Addr) (h0 : Heap) (n0 : Nat) (vv_ : Option Value) (h : Heap) (LL_ : List Loc) : Prop := vv_ = some (.int (1 : Int32)) ∧ Fr n0 LL_ ∧ (h = h0)
theorem d_prog_6_method_5_code_0 : decode prog_6_method_5_code 0 = .ok (.aload_n 0, 1) := by decide +kernel
theorem d_prog_6_method_5_code_1 : decode prog_6_method_5_code 1 = .ok (.getfield 23, 3) := by decide +kernel
theorem d_prog_6_method_5_code_4 : decode prog_6_method_5_code 4 = .ok (.ifnonnull 7, 3) := by decide +kernel
theorem d_prog_6_method_5_code_7 : decode prog_6_method_5_code 7 = .ok (.iconst 1, 1) := by decide +kernel
theorem d_prog_6_method_5_code_8 : decode prog_6_method_5_code 8 = .ok (.goto 4, 3) := by decide +kernel
theorem d_prog_6_method_5_code_12 : decode prog_6_method_5_code 12 = .ok (.ireturn, 1) := by decide +kernel
set_option maxRecDepth 65536 in
set_option maxHeartbeats 40000000 in
theorem rkIn (l : Launch) (Z : State) (a0 : Array Value) (hw : ∀ d ∈ tables_1, d.before a0 Z = true) (ws : List Jvm.Cond) (a1 : Addr) (h0 : Heap) (n0 : Nat) (Z0 : n0 ≤ h0.size) (F1 : Fld Z h0 a1 "com/example/ampliar/ampliar/command/Parameter" "value" "Ljava/lang/String;" .null) :
    MetFree l (⟨"com/example/ampliar/ampliar/command/Parameter", "isFlag", "()Z"⟩ : MethodName) (head1 (Jvm.Cond.code (⟨"com/example/ampliar/ampliar/command/Parameter", "isFlag", "()Z"⟩ : MethodName) prog_6_method_5_code 1 (some .boolean) :: ws) ({ frames := 0, cells := 0, slots := 0, locals := 0 } : Room)) (fun aa_ UU_ => aa_ = #[(.ref a1)] ∧ Z.Warmed39 UU_.vm ∧ UU_.heap = h0) (fun _ _ _ _ _ => True) (fun _ UU_ oo_ VV_ => ∃ vv_ LL_, oo_ = .returned vv_ ∧ Q_rkIn Z a1 h0 n0 vv_ VV_.heap LL_ ∧ FrameEnd UU_ oo_ VV_ LL_ ({ frames := 0, cells := 0, slots := 0, locals := 0 } : Room).cells ({ frames := 0, cells := 0, slots := 0, locals := 0 } : Room).slots) := by
  refine own_met (y := (⟨"com/example/ampliar/ampliar/command/Parameter", "isFlag", "()Z"⟩ : MethodName)) (plainFor_of_name pn_14) ?_
  intro p e s m below meth c T0 K hx hby hml hret hlk hown hnm hZ X0 e0 hK
  have N0 := Fr.nil n0
  refine Rch.cast (ef_rkIn m a1) ?_
  refine Rch.of (T' := T0) (g' := (mkF m 1 #[.val (.ref a1)] [(.ref a1)])) (fun _ kt => XS.aloadN X0.here hx rfl (hb hby d_prog_6_method_5_code_0) rfl rfl kt) ?_
  obtain ⟨T345, X345, e345, st345⟩ := getF X0 hx hZ hown (host := "") (Or.inl (hw _ (List.mem_of_getElem? (i := 63) rfl))) Via.refl e0 F1 (g := (mkF m 1 #[.val (.ref a1)] [(.ref a1)])) rfl rfl (hb hby d_prog_6_method_5_code_1)
  refine Rch.of (T' := T345) (g' := (mkF m 4 #[.val (.ref a1)] [.null])) st345 ?_
  refine Rch.of (T' := T345) (g' := (mkF m 7 #[.val (.ref a1)] [])) (fun _ kt => XS.ifnonnullNo X345.here hx rfl (hb hby d_prog_6_method_5_code_4) rfl kt) ?_
  refine Rch.of (T' := T345) (g' := (mkF m 8 #[.val (.ref a1)] [(.int (1 : Int32))])) (fun _ kt => XS.iconst X345.here hx rfl (hb hby d_prog_6_method_5_code_7) kt) ?_
  refine Rch.of (T' := T345) (g' := (mkF m 12 #[.val (.ref a1)] [(.int (1 : Int32))])) (fun _ kt => XS.goto X345.here hx rfl (pc0 := 8) (pc' := 12) rfl (hb hby d_prog_6_method_5_code_8) (by decide) (by decide) kt) ?_
  exact Rch.retN X345 hx (t := .boolean) hret (by simp) hlk (hb hby d_prog_6_method_5_code_12) (fun U hU hF => hK _ U _ _ _ (by show Q_rkIn Z a1 h0 n0 _ U.heap _; rw [hU, e345]; exact ⟨rfl, N0, rfl⟩) hF (by decide) (by decide))
theorem ef_rkIr (m : MethodId) (a1 : Addr) : entryFrame m #[(.ref a1)] 1 = mkF m 0 #[.val (.ref a1)] [] := by first | (simp [entryFrame, mkF, argsToLocals, Value.category]; done) | rfl
def Q_rkIr (Z : State) (a1 : Addr) (w1 : Addr) (h0 : Heap) (n0 : Nat) (vv_ : Option Value) (h : Heap) (LL_ : List Loc) : Prop := vv_ = some (.int (0 : Int32)) ∧ Fr n0 LL_ ∧ (h = h0)
theorem d_prog_6_method_5_code_11 : decode prog_6_method_5_code 11 = .ok (.iconst 0, 1) := by decide +kernel
set_option maxRecDepth 65536 in
set_option maxHeartbeats 40000000 in
theorem rkIr (l : Launch) (Z : State) (a0 : Array Value) (hw : ∀ d ∈ tables_1, d.before a0 Z = true) (ws : List Jvm.Cond) (a1 : Addr) (w1 : Addr) (h0 : Heap) (n0 : Nat) (Z0 : n0 ≤ h0.size) (F1 : Fld Z h0 a1 "com/example/ampliar/ampliar/command/Parameter" "value" "Ljava/lang/String;" (.ref w1)) :
    MetFree l (⟨"com/example/ampliar/ampliar/command/Parameter", "isFlag", "()Z"⟩ : MethodName) (head1 (Jvm.Cond.code (⟨"com/example/ampliar/ampliar/command/Parameter", "isFlag", "()Z"⟩ : MethodName) prog_6_method_5_code 1 (some .boolean) :: ws) ({ frames := 0, cells := 0, slots := 0, locals := 0 } : Room)) (fun aa_ UU_ => aa_ = #[(.ref a1)] ∧ Z.Warmed39 UU_.vm ∧ UU_.heap = h0) (fun _ _ _ _ _ => True) (fun _ UU_ oo_ VV_ => ∃ vv_ LL_, oo_ = .returned vv_ ∧ Q_rkIr Z a1 w1 h0 n0 vv_ VV_.heap LL_ ∧ FrameEnd UU_ oo_ VV_ LL_ ({ frames := 0, cells := 0, slots := 0, locals := 0 } : Room).cells ({ frames := 0, cells := 0, slots := 0, locals := 0 } : Room).slots) := by
  refine own_met (y := (⟨"com/example/ampliar/ampliar/command/Parameter", "isFlag", "()Z"⟩ : MethodName)) (plainFor_of_name pn_14) ?_
  intro p e s m below meth c T0 K hx hby hml hret hlk hown hnm hZ X0 e0 hK
  have N0 := Fr.nil n0
  refine Rch.cast (ef_rkIr m a1) ?_
  refine Rch.of (T' := T0) (g' := (mkF m 1 #[.val (.ref a1)] [(.ref a1)])) (fun _ kt => XS.aloadN X0.here hx rfl (hb hby d_prog_6_method_5_code_0) rfl rfl kt) ?_
  obtain ⟨T346, X346, e346, st346⟩ := getF X0 hx hZ hown (host := "") (Or.inl (hw _ (List.mem_of_getElem? (i := 63) rfl))) Via.refl e0 F1 (g := (mkF m 1 #[.val (.ref a1)] [(.ref a1)])) rfl rfl (hb hby d_prog_6_method_5_code_1)
  refine Rch.of (T' := T346) (g' := (mkF m 4 #[.val (.ref a1)] [(.ref w1)])) st346 ?_
  refine Rch.of (T' := T346) (g' := (mkF m 11 #[.val (.ref a1)] [])) (fun _ kt => XS.ifnonnullYes X346.here hx rfl (pc0 := 4) (pc' := 11) rfl (hb hby d_prog_6_method_5_code_4) rfl (by decide) (by decide) kt) ?_
  refine Rch.of (T' := T346) (g' := (mkF m 12 #[.val (.ref a1)] [(.int (0 : Int32))])) (fun _ kt => XS.iconst X346.here hx rfl (hb hby d_prog_6_method_5_code_11) kt) ?_
  exact Rch.retN X346 hx (t := .boolean) hret (by simp) hlk (hb hby d_prog_6_method_5_code_12) (fun U hU hF => hK _ U _ _ _ (by show Q_rkIr Z a1 w1 h0 n0 _ U.heap _; rw [hU, e346]; exact ⟨rfl, N0, rfl⟩) hF (by decide) (by decide))
theorem ef_rkUn (m : MethodId) (a1 : Addr) : entryFrame m #[(.ref a1)] 1 = mkF m 0 #[.val (.ref a1)] [] := by first | (simp [entryFrame, mkF, argsToLocals, Value.category]; done) | rfl
def Q_rkUn (Z : State) (a1 : Addr) (nm : Addr) (nb : Addr) (y : Nat → Int32) (cs : Int32) (h0 : Heap) (n0 : Nat) (vv_ : Option Value) (h : Heap) (LL_ : List Loc) : Prop := ∃ r : Addr, ∃ b : Addr, ∃ t : Nat → Int32, vv_ = some (.ref r) ∧ Fr n0 LL_ ∧ (Keep h0 h [] ∧ Exa Z h r "java/lang/String" ∧ Fld Z h r "java/lang/String" "coder" "B" (.int (0 : Int32)) ∧ Fld Z h r "java/lang/String" "value" "[B" (.ref b) ∧ Av Z h b .byte 4 (fun q => .int ((t q).toInt8.toInt32)) ∧ t 0 = (91 : Int32) ∧ t 3 = (93 : Int32) ∧ own_ch 4 t)
theorem d_prog_6_method_6_code_0 : decode prog_6_method_6_code 0 = .ok (.new 42, 3) := by decide +kernel
theorem d_prog_6_method_6_code_3 : decode prog_6_method_6_code 3 = .ok (.dup, 1) := by decide +kernel
theorem d_prog_6_method_6_code_4 : decode prog_6_method_6_code 4 = .ok (.invokespecial 44, 3) := by decide +kernel
theorem d_prog_6_method_6_code_7 : decode prog_6_method_6_code 7 = .ok (.ldc 45, 2) := by decide +kernel
theorem d_prog_6_method_6_code_9 : decode prog_6_method_6_code 9 = .ok (.invokevirtual 47, 3) := by decide +kernel
theorem d_prog_6_method_6_code_12 : decode prog_6_method_6_code 12 = .ok (.aload_n 0, 1) := by decide +kernel
theorem d_prog_6_method_6_code_13 : decode prog_6_method_6_code 13 = .ok (.getfield 7, 3) := by decide +kernel
theorem d_prog_6_method_6_code_16 : decode prog_6_method_6_code 16 = .ok (.invokevirtual 47, 3) := by decide +kernel
theorem d_prog_6_method_6_code_19 : decode prog_6_method_6_code 19 = .ok (.aload_n 0, 1) := by decide +kernel
theorem d_prog_6_method_6_code_20 : decode prog_6_method_6_code 20 = .ok (.invokevirtual 51, 3) := by decide +kernel
theorem d_prog_6_method_6_code_23 : decode prog_6_method_6_code 23 = .ok (.ifCond .eq 8, 3) := by decide +kernel
theorem d_prog_6_method_6_code_26 : decode prog_6_method_6_code 26 = .ok (.ldc 55, 2) := by decide +kernel
theorem d_prog_6_method_6_code_28 : decode prog_6_method_6_code 28 = .ok (.goto 25, 3) := by decide +kernel
theorem d_prog_6_method_6_code_53 : decode prog_6_method_6_code 53 = .ok (.invokevirtual 47, 3) := by decide +kernel
theorem d_prog_6_method_6_code_56 : decode prog_6_method_6_code 56 = .ok (.ldc 63, 2) := by decide +kernel
theorem d_prog_6_method_6_code_58 : decode prog_6_method_6_code 58 = .ok (.invokevirtual 47, 3) := by decide +kernel
theorem d_prog_6_method_6_code_61 : decode prog_6_method_6_code 61 = .ok (.invokevirtual 59, 3) := by decide +kernel
theorem d_prog_6_method_6_code_64 : decode prog_6_method_6_code 64 = .ok (.areturn, 1) := by decide +kernel
set_option maxRecDepth 65536 in
set_option maxHeartbeats 40000000 in
theorem rkUn (l : Launch) (Z : State) (a0 : Array Value) (hw : ∀ d ∈ tables_1, d.before a0 Z = true) (ws : List Jvm.Cond) (a1 : Addr) (nm : Addr) (nb : Addr) (y : Nat → Int32) (cs : Int32) (h0 : Heap) (n0 : Nat) (Z0 : n0 ≤ h0.size) (E1 : Exa Z h0 a1 "com/example/ampliar/ampliar/command/Parameter") (Fn0 : Fld Z h0 a1 "com/example/ampliar/ampliar/command/Parameter" "name" "Ljava/lang/String;" (.ref nm)) (En0 : Exa Z h0 nm "java/lang/String") (Fn1 : Fld Z h0 nm "java/lang/String" "coder" "B" (.int (0 : Int32))) (Fn2 : Fld Z h0 nm "java/lang/String" "value" "[B" (.ref nb)) (Vn0 : Av Z h0 nb .byte 2 (fun q => .int ((y q).toInt8.toInt32))) (Fw0 : Fld Z h0 a1 "com/example/ampliar/ampliar/command/Parameter" "value" "Ljava/lang/String;" .null) (hy : own_ch 2 y) (SC : Sta Z h0 "java/lang/String" "COMPACT_STRINGS" "Z" (.int cs)) (hcs : ¬ cs = (0 : Int32)) :
    MetFree l (⟨"com/example/ampliar/ampliar/command/Parameter", "usage", "()Ljava/lang/String;"⟩ : MethodName) (head1 (Jvm.Cond.code (⟨"com/example/ampliar/ampliar/command/Parameter", "usage", "()Ljava/lang/String;"⟩ : MethodName) prog_6_method_6_code 1 (some (.object "java/lang/String")) :: ws) ({ frames := 6, cells := 10, slots := 60, locals := 91 } : Room)) (fun aa_ UU_ => aa_ = #[(.ref a1)] ∧ Z.Warmed39 UU_.vm ∧ UU_.heap = h0 ∧ CHv Z consts_1 UU_.vm h0) (fun _ _ _ _ _ => True) (fun _ UU_ oo_ VV_ => ∃ vv_ LL_, oo_ = .returned vv_ ∧ Q_rkUn Z a1 nm nb y cs h0 n0 vv_ VV_.heap LL_ ∧ CHr Z consts_1 UU_.vm UU_.heap VV_.vm VV_.heap ∧ ReturnedEndW UU_ oo_ VV_ LL_ ({ frames := 6, cells := 10, slots := 60, locals := 91 } : Room).cells ({ frames := 6, cells := 10, slots := 60, locals := 91 } : Room).slots) := by
  refine own_metH (y := (⟨"com/example/ampliar/ampliar/command/Parameter", "usage", "()Ljava/lang/String;"⟩ : MethodName)) (plainFor_of_name pn_14) ?_
  intro p e s m below meth c T0 K hx hby hml hret hlk hown hnm hZ X0 e0 C0 hK
  have N0 := Fr.nil n0
  have R0 := CHr.refl C0
  have hEL := own_EW hw
  have hS0 : s.Since s.vm 0 := (State.WarmedH.refl s).since 0
  have hk0 : 0 ≤ h0.size := Nat.zero_le _
  have wS : ∀ d ∈ Bundle.stringAtoms, d.before a0 Z = true := fun d hd => hw d ((by decide +kernel : ∀ d ∈ Bundle.stringAtoms, d ∈ tables_1) d hd)
  change Stand p l e ({ frames := 6, cells := 10, slots := 60, locals := 91 } : Room) (s.setVm s.vm) m #[(.ref a1)] below meth c T0 [] 0 0 at X0
  change Z.Warmed39 (s.setVm s.vm).vm at hZ
  change (s.setVm s.vm).vm.findClass _ = some m.cls at hown
  refine Rch.cast (ef_rkUn m a1) ?_
  obtain ⟨T347, h347, X347, e347, E347, A347, D347, -, st347⟩ := newO X0 hx hZ hown (hw _ (List.mem_of_getElem? (i := 116) rfl)) (hw _ (List.mem_of_getElem? (i := 117) rfl)) (hw _ (List.mem_of_getElem? (i := 118) rfl)) e0 (g := (mkF m 0 #[.val (.ref a1)] [])) rfl (hb hby d_prog_6_method_6_code_0) (by decide) (by decide)
  obtain ⟨b347, g347⟩ : ∃ zz_, zz_ = h0.size := ⟨_, rfl⟩
  have ne_a1_b347 : a1 ≠ b347 := Nat.ne_of_lt (Nat.lt_of_lt_of_le E1.lt (Nat.le_of_eq g347.symm))
  have ne_nm_b347 : nm ≠ b347 := Nat.ne_of_lt (Nat.lt_of_lt_of_le En0.lt (Nat.le_of_eq g347.symm))
  have ne_nb_b347 : nb ≠ b347 := Nat.ne_of_lt (Nat.lt_of_lt_of_le Vn0.lt (Nat.le_of_eq g347.symm))
  have ge_b347 : n0 ≤ b347 := Nat.le_trans Z0 (Nat.le_of_eq g347.symm)
  have sz_b347 : h0.size ≤ b347 := Nat.le_trans (Keep.refl h0 []).1 (Nat.le_of_eq g347.symm)
  rw [← g347] at A347 D347 st347
  have F347_value : Fld Z h347 b347 "java/lang/AbstractStringBuilder" "value" "[B" .null := D347 (Or.inl (hw _ (List.mem_of_getElem? (i := 131) rfl))) (ty := (.array .byte)) (by decide)
  have F347_coder : Fld Z h347 b347 "java/lang/AbstractStringBuilder" "coder" "B" (.int (0 : Int32)) := D347 (Or.inl (hw _ (List.mem_of_getElem? (i := 133) rfl))) (ty := .byte) (by decide)
  have F347_count : Fld Z h347 b347 "java/lang/AbstractStringBuilder" "count" "I" (.int (0 : Int32)) := D347 (Or.inl (hw _ (List.mem_of_getElem? (i := 156) rfl))) (ty := .int) (by decide)
  refine Rch.of (T' := T347) (g' := (mkF m 3 #[.val (.ref a1)] [(.ref b347)])) st347 ?_
  refine Rch.of (T' := T347) (g' := (mkF m 4 #[.val (.ref a1)] [(.ref b347), (.ref b347)])) (fun _ kt => XS.dup X347.here hx rfl (hb hby d_prog_6_method_6_code_3) rfl rfl kt) ?_
  obtain ⟨_, _, ⟨T348, L348, k348, n348⟩, -, X348, ⟨Lc348, hQ348, l348, y348, z348⟩, st348⟩ := X347.specialBack hx (y := (⟨"java/lang/StringBuilder", "<init>", "()V"⟩ : MethodName)) rfl hown (mvT hZ (hw _ (List.mem_of_getElem? (i := 119) rfl))) (mvT hZ (hw _ (List.mem_of_getElem? (i := 120) rfl))) (mvT hZ (hw _ (List.mem_of_getElem? (i := 121) rfl))) (by decide) (backOf (W := 1) (rkB2 l Z a0 hw [] b347 .null (.int (0 : Int32)) cs h347 n0 (Nat.le_trans Z0 E347.1) A347 F347_value F347_coder F347_count ge_b347 (SC.ext E347) hcs) hZ (hw _ (List.mem_of_getElem? (i := 121) rfl)) (hw _ (List.mem_of_getElem? (i := 118) rfl)) (by decide) (by decide)) (g := (mkF m 4 #[.val (.ref a1)] [(.ref b347), (.ref b347)])) rfl (by rw [hml]; rfl) (Steps.refl _) (a := b347) (argsL := []) (rest := [(.ref b347)]) (lenOf pd_2 rfl) rfl (by show 2 * 0 + _ ≤ _; exact Nat.le_of_eq rfl) (hb hby d_prog_6_method_6_code_4) (fun _ _ => ⟨rfl, e347, (by decide : 1 + 1 ≤ _), (by decide : 4 + 16 ≤ _)⟩)
  dsimp only [Pt.U, Pt.locs, Pt.cells, Pt.slots] at X348 l348 y348 z348 st348 hQ348
  subst l348 y348 z348
  obtain ⟨rfl, N348q, hQ348⟩ := hQ348
  have N348 := Fr.app N0 N348q
  obtain ⟨K348, Ex348, Fa348, Fb348, Fc348, V348⟩ := hQ348
  obtain ⟨b348, g348⟩ : ∃ zz_, zz_ = h347.size := ⟨_, rfl⟩
  have ne_a1_b348 : a1 ≠ b348 := Nat.ne_of_lt (Nat.lt_of_lt_of_le (E1.ext E347).lt (Nat.le_of_eq g348.symm))
  have ne_nm_b348 : nm ≠ b348 := Nat.ne_of_lt (Nat.lt_of_lt_of_le (En0.ext E347).lt (Nat.le_of_eq g348.symm))
  have ne_nb_b348 : nb ≠ b348 := Nat.ne_of_lt (Nat.lt_of_lt_of_le (Vn0.ext E347).lt (Nat.le_of_eq g348.symm))
  have ne_b347_b348 : b347 ≠ b348 := Nat.ne_of_lt (Nat.lt_of_lt_of_le A347.lt (Nat.le_of_eq g348.symm))
  have ge_b348 : n0 ≤ b348 := Nat.le_trans (Nat.le_trans Z0 E347.1) (Nat.le_of_eq g348.symm)
  have sz_b348 : h0.size ≤ b348 := Nat.le_trans ((Keep.refl h0 []).ext E347).1 (Nat.le_of_eq g348.symm)
  rw [← g348] at Fa348 V348
  have Sf349 : Safe Z consts_1 s.vm h347 b347 := (Safe.exa hZ.alike A347 (by decide) (by decide))
  refine Rch.via (T' := T348) (g' := (mkF m 7 #[.val (.ref a1)] [(.ref b347)])) st348 ?_
  obtain ⟨s350, T350, h350, k350, sb350, kc350, X350, e350, E350, hS350, hk350, hZ, hown, Ex350, Fa350, Fb350, Ar350, la350, lb350, cr350, Lt350, sf350, st350⟩ := ldcCH (s := s) (vm0 := s.vm) X348 hx hZ hown (hw _ (List.mem_of_getElem? (i := 134) rfl)) wS rfl hS0 (Nat.le_trans (Nat.le_trans hk0 E347.1) K348.1) hEL (List.mem_of_getElem? (i := 1) rfl) ((R0.trans (CHr.ext E347 R0.1)).trans (CHr.keep K348 (allS Sf349 all0) (R0.trans (CHr.ext E347 R0.1)).1)).1 (z := (1 : Int32)) own_t1_ok.1 (by decide) (by decide) (g := (mkF m 7 #[.val (.ref a1)] [(.ref b347)])) rfl (hb hby d_prog_6_method_6_code_7) (n := 4) (by decide) (by decide) (by decide) (by decide)
  have V350 : Av Z h350 sb350 .byte 1 (fun q => .int ((own_t1 q).toInt8.toInt32)) := (Arv.av Ar350 (by decide)).congr own_t1_ok.2
  have nl_b348_350 := sf350 b348 (CHr.safe cr350 V348.lt (Safe.keep K348 (allS Sf349 all0) (R0.trans (CHr.ext E347 R0.1)).1 (Safe.new (Nat.le_of_eq g348.symm))))
  refine Rch.of (T' := T350) (g' := (mkF m 9 #[.val (.ref a1)] [(.ref s350), (.ref b347)])) st350 ?_
  have pr352 : 0 + 1 ≤ 16 := by omega
  obtain ⟨cq351, kq351, q351a, q351b, q351c⟩ := isOf hZ e350 (Ex348.ext E350)
  obtain ⟨_, _, ⟨T351, L351, k351, n351⟩, -, X351, ⟨Lc351, hQ351, l351, y351, z351⟩, st351⟩ := X350.virtualBack hx (y := (⟨"java/lang/StringBuilder", "append", "(Ljava/lang/String;)Ljava/lang/StringBuilder;"⟩ : MethodName)) (z := (⟨"java/lang/StringBuilder", "append", "(Ljava/lang/String;)Ljava/lang/StringBuilder;"⟩ : MethodName)) hown (mvT hZ (hw _ (List.mem_of_getElem? (i := 135) rfl))) (mvT hZ (hw _ (List.mem_of_getElem? (i := 136) rfl))) (notFace_of_selects (args := #[]) (mvT hZ (hw _ (List.mem_of_getElem? (i := 138) rfl)))) (mvT hZ (hw _ (List.mem_of_getElem? (i := 138) rfl))) (mvT hZ (hw _ (List.mem_of_getElem? (i := 137) rfl))) (by decide) (backOf (W := 0) (rkAS l Z a0 hw [] b347 b348 0 own_z0 s350 sb350 1 own_t1 cs h350 n0 (Nat.le_trans (Nat.le_trans (Nat.le_trans Z0 E347.1) K348.1) E350.1) (Ex348.ext E350) (Fa348.ext E350) (Fb348.ext E350) (Fc348.ext E350) (V348.ext E350) ge_b347 ge_b348 ne_b347_b348 Ex350 Fa350 Fb350 V350 pr352 ((own_sta (SC.ext E347) K348 (nsS (Exa.nostat A347) ns0)).ext E350) hcs) hZ (hw _ (List.mem_of_getElem? (i := 139) rfl)) (hw _ (List.mem_of_getElem? (i := 118) rfl)) (by decide) (by decide)) q351a q351c (g := (mkF m 9 #[.val (.ref a1)] [(.ref s350), (.ref b347)])) rfl (by rw [hml]; rfl) (Steps.refl _) (argsL := [(.ref s350)]) (rest := []) (lenOf pd_18 rfl) rfl (by show 2 * 0 + _ ≤ _; exact Nat.le_of_eq rfl) (hb hby d_prog_6_method_6_code_9) (fun _ _ => ⟨rfl, e350, (by decide : 4 + 0 ≤ _), (by decide : 28 + 0 ≤ _)⟩)
  dsimp only [Pt.U, Pt.locs, Pt.cells, Pt.slots] at X351 l351 y351 z351 st351 hQ351
  subst l351 y351 z351
  obtain ⟨rt351, rfl, N351q, hQ351⟩ := hQ351
  have N351 := Fr.app N348 N351q
  obtain ⟨K351, Ex351, Fa351, Fb351, Fc351, V351, Ea351, Eb351⟩ := hQ351
  have Sf353 : Safe Z consts_1 T350.vm h350 b347 := (Safe.exa hZ.alike (Ex348.ext E350) (by decide) (by decide))
  have Sf354 : Safe Z consts_1 T350.vm h350 b348 := (CHr.safe cr350 V348.lt (Safe.keep K348 (allS Sf349 all0) (R0.trans (CHr.ext E347 R0.1)).1 (Safe.new (Nat.le_of_eq g348.symm))))
  have Fb355 := (Safe.keep K351 (allS Sf353 (allS Sf354 all0)) (((R0.trans (CHr.ext E347 R0.1)).trans (CHr.keep K348 (allS Sf349 all0) (R0.trans (CHr.ext E347 R0.1)).1)).trans cr350).1 (CHr.safe cr350 V348.lt (Safe.keep K348 (allS Sf349 all0) (R0.trans (CHr.ext E347 R0.1)).1 (Safe.new (Nat.le_of_eq g348.symm)))))
  have Rb356 := ((((R0.trans (CHr.ext E347 R0.1)).trans (CHr.keep K348 (allS Sf349 all0) (R0.trans (CHr.ext E347 R0.1)).1)).trans cr350).trans (CHr.keep K351 (allS Sf353 (allS Sf354 all0)) (((R0.trans (CHr.ext E347 R0.1)).trans (CHr.keep K348 (allS Sf349 all0) (R0.trans (CHr.ext E347 R0.1)).1)).trans cr350).1))
  have Ch351 : own_ch (0 + 1) rt351 := own_apch (fun q hq => absurd hq (Nat.not_lt_zero q)) own_ch_own_t1 Ea351 Eb351
  refine Rch.via (T' := T351) (g' := (mkF m 12 #[.val (.ref a1)] [(.ref b347)])) st351 ?_
  refine Rch.of (T' := T351) (g' := (mkF m 13 #[.val (.ref a1)] [(.ref a1), (.ref b347)])) (fun _ kt => XS.aloadN X351.here hx rfl (hb hby d_prog_6_method_6_code_12) rfl rfl kt) ?_
  obtain ⟨T357, X357, e357, st357⟩ := getF X351 hx hZ hown (host := "") (Or.inl (hw _ (List.mem_of_getElem? (i := 55) rfl))) Via.refl rfl ((((Fn0.ext E347).keep K348 (ninS ne_a1_b347 nin0)).ext E350).keep K351 (ninS ne_a1_b347 (ninS ne_a1_b348 nin0))) (g := (mkF m 13 #[.val (.ref a1)] [(.ref a1), (.ref b347)])) rfl rfl (hb hby d_prog_6_method_6_code_13)
  refine Rch.of (T' := T357) (g' := (mkF m 16 #[.val (.ref a1)] [(.ref nm), (.ref b347)])) st357 ?_
  have pr359 : (0 + 1) + 2 ≤ 16 := by omega
  obtain ⟨cq358, kq358, q358a, q358b, q358c⟩ := isOf hZ e357 Ex351
  obtain ⟨_, _, ⟨T358, L358, k358, n358⟩, -, X358, ⟨Lc358, hQ358, l358, y358, z358⟩, st358⟩ := X357.virtualBack hx (y := (⟨"java/lang/StringBuilder", "append", "(Ljava/lang/String;)Ljava/lang/StringBuilder;"⟩ : MethodName)) (z := (⟨"java/lang/StringBuilder", "append", "(Ljava/lang/String;)Ljava/lang/StringBuilder;"⟩ : MethodName)) hown (mvT hZ (hw _ (List.mem_of_getElem? (i := 135) rfl))) (mvT hZ (hw _ (List.mem_of_getElem? (i := 136) rfl))) (notFace_of_selects (args := #[]) (mvT hZ (hw _ (List.mem_of_getElem? (i := 138) rfl)))) (mvT hZ (hw _ (List.mem_of_getElem? (i := 138) rfl))) (mvT hZ (hw _ (List.mem_of_getElem? (i := 137) rfl))) (by decide) (backOf (W := 0) (rkAS l Z a0 hw [] b347 b348 (0 + 1) rt351 nm nb 2 y cs T351.heap n0 (Nat.le_trans (Nat.le_trans (Nat.le_trans (Nat.le_trans Z0 E347.1) K348.1) E350.1) K351.1) Ex351 Fa351 Fb351 Fc351 V351 ge_b347 ge_b348 ne_b347_b348 ((((En0.ext E347).keep K348).ext E350).keep K351) ((((Fn1.ext E347).keep K348 (ninS ne_nm_b347 nin0)).ext E350).keep K351 (ninS ne_nm_b347 (ninS ne_nm_b348 nin0))) ((((Fn2.ext E347).keep K348 (ninS ne_nm_b347 nin0)).ext E350).keep K351 (ninS ne_nm_b347 (ninS ne_nm_b348 nin0))) ((((Vn0.ext E347).keep K348 (ninS ne_nb_b347 nin0)).ext E350).keep K351 (ninS ne_nb_b347 (ninS ne_nb_b348 nin0))) pr359 (own_sta ((own_sta (SC.ext E347) K348 (nsS (Exa.nostat A347) ns0)).ext E350) K351 (nsS (Exa.nostat (Ex348.ext E350)) (nsS (Av.nostat (V348.ext E350)) ns0))) hcs) hZ (hw _ (List.mem_of_getElem? (i := 139) rfl)) (hw _ (List.mem_of_getElem? (i := 118) rfl)) (by decide) (by decide)) q358a q358c (g := (mkF m 16 #[.val (.ref a1)] [(.ref nm), (.ref b347)])) rfl (by rw [hml]; rfl) (Steps.refl _) (argsL := [(.ref nm)]) (rest := []) (lenOf pd_18 rfl) rfl (by show 2 * 0 + _ ≤ _; exact Nat.le_of_eq rfl) (hb hby d_prog_6_method_6_code_16) (fun _ _ => ⟨rfl, e357, (by decide : 4 + 0 ≤ _), (by decide : 28 + 0 ≤ _)⟩)
  dsimp only [Pt.U, Pt.locs, Pt.cells, Pt.slots] at X358 l358 y358 z358 st358 hQ358
  subst l358 y358 z358
  obtain ⟨rt358, rfl, N358q, hQ358⟩ := hQ358
  have N358 := Fr.app N351 N358q
  obtain ⟨K358, Ex358, Fa358, Fb358, Fc358, V358, Ea358, Eb358⟩ := hQ358
  have Sf360 : Safe Z consts_1 T350.vm T351.heap b347 := (Safe.exa hZ.alike Ex351 (by decide) (by decide))
  have Sf361 : Safe Z consts_1 T350.vm T351.heap b348 := Fb355
  have Fb362 := (((((Fn0.ext E347).keep K348 (ninS ne_a1_b347 nin0)).ext E350).keep K351 (ninS ne_a1_b347 (ninS ne_a1_b348 nin0))).keep K358 (ninS ne_a1_b347 (ninS ne_a1_b348 nin0)))
  have Fb363 := (((((Fn1.ext E347).keep K348 (ninS ne_nm_b347 nin0)).ext E350).keep K351 (ninS ne_nm_b347 (ninS ne_nm_b348 nin0))).keep K358 (ninS ne_nm_b347 (ninS ne_nm_b348 nin0)))
  have Fb364 := (((((Fn2.ext E347).keep K348 (ninS ne_nm_b347 nin0)).ext E350).keep K351 (ninS ne_nm_b347 (ninS ne_nm_b348 nin0))).keep K358 (ninS ne_nm_b347 (ninS ne_nm_b348 nin0)))
  have Fb365 := (((((Vn0.ext E347).keep K348 (ninS ne_nb_b347 nin0)).ext E350).keep K351 (ninS ne_nb_b347 (ninS ne_nb_b348 nin0))).keep K358 (ninS ne_nb_b347 (ninS ne_nb_b348 nin0)))
  have Fb366 := (((((Fw0.ext E347).keep K348 (ninS ne_a1_b347 nin0)).ext E350).keep K351 (ninS ne_a1_b347 (ninS ne_a1_b348 nin0))).keep K358 (ninS ne_a1_b347 (ninS ne_a1_b348 nin0)))
  have Fb367 := (own_sta (own_sta ((own_sta (SC.ext E347) K348 (nsS (Exa.nostat A347) ns0)).ext E350) K351 (nsS (Exa.nostat (Ex348.ext E350)) (nsS (Av.nostat (V348.ext E350)) ns0))) K358 (nsS (Exa.nostat Ex351) (nsS (Av.nostat V351) ns0)))
  have Fb368 := ((((((Keep.refl h0 []).ext E347).trans K348 (allS (Or.inr sz_b347) all0)).ext E350).trans K351 (allS (Or.inr sz_b347) (allS (Or.inr sz_b348) all0))).trans K358 (allS (Or.inr sz_b347) (allS (Or.inr sz_b348) all0)))
  have Ch358 : own_ch ((0 + 1) + 2) rt358 := own_apch Ch351 hy Ea358 Eb358
  refine Rch.via (T' := T358) (g' := (mkF m 19 #[.val (.ref a1)] [(.ref b347)])) st358 ?_
  refine Rch.of (T' := T358) (g' := (mkF m 20 #[.val (.ref a1)] [(.ref a1), (.ref b347)])) (fun _ kt => XS.aloadN X358.here hx rfl (hb hby d_prog_6_method_6_code_19) rfl rfl kt) ?_
  obtain ⟨cq369, kq369, q369a, q369b, q369c⟩ := isOf hZ rfl (((((E1.ext E347).keep K348).ext E350).keep K351).keep K358)
  obtain ⟨_, _, ⟨T369, L369, k369, n369⟩, -, X369, ⟨Lc369, hQ369, l369, y369, z369⟩, st369⟩ := X358.virtualBack hx (y := (⟨"com/example/ampliar/ampliar/command/Parameter", "isFlag", "()Z"⟩ : MethodName)) (z := (⟨"com/example/ampliar/ampliar/command/Parameter", "isFlag", "()Z"⟩ : MethodName)) hown (mvT hZ (hw _ (List.mem_of_getElem? (i := 182) rfl))) (mvT hZ (hw _ (List.mem_of_getElem? (i := 107) rfl))) (notFace_of_selects (args := #[]) (mvT hZ (hw _ (List.mem_of_getElem? (i := 109) rfl)))) (mvT hZ (hw _ (List.mem_of_getElem? (i := 109) rfl))) (mvT hZ (hw _ (List.mem_of_getElem? (i := 108) rfl))) (by decide) (backOf (W := 1) (rkIn l Z a0 hw [] a1 T358.heap n0 (Nat.le_trans (Nat.le_trans (Nat.le_trans (Nat.le_trans (Nat.le_trans Z0 E347.1) K348.1) E350.1) K351.1) K358.1) Fb366) hZ (hw _ (List.mem_of_getElem? (i := 110) rfl)) (hw _ (List.mem_of_getElem? (i := 50) rfl)) (by decide) (by decide)) q369a q369c (g := (mkF m 20 #[.val (.ref a1)] [(.ref a1), (.ref b347)])) rfl (by rw [hml]; rfl) (Steps.refl _) (argsL := []) (rest := [(.ref b347)]) (lenOf pd_15 rfl) rfl (by show 2 * 0 + _ ≤ _; exact Nat.le_of_eq rfl) (hb hby d_prog_6_method_6_code_20) (fun _ _ => ⟨rfl, rfl, (by decide : 4 + 0 ≤ _), (by decide : 28 + 0 ≤ _)⟩)
  dsimp only [Pt.U, Pt.locs, Pt.cells, Pt.slots] at X369 l369 y369 z369 st369 hQ369
  subst l369 y369 z369
  obtain ⟨rfl, N369q, hQ369⟩ := hQ369
  have N369 := Fr.app N358 N369q
  refine Rch.via (T' := T369) (g' := (mkF m 23 #[.val (.ref a1)] [(.int (1 : Int32)), (.ref b347)])) st369 ?_
  refine Rch.of (T' := T369) (g' := (mkF m 26 #[.val (.ref a1)] [(.ref b347)])) (fun _ kt => XS.ifNo X369.here hx rfl (hb hby d_prog_6_method_6_code_23) rfl ((if0 _ _).trans (feq ((by decide) : ¬ ((1 : Int32) = (0 : Int32)))).1) kt) ?_
  obtain ⟨s370, T370, h370, k370, sb370, kc370, X370, e370, E370, hS370, hk370, hZ, hown, Ex370, Fa370, Fb370, Ar370, la370, lb370, cr370, Lt370, sf370, st370⟩ := ldcCH (s := s) (vm0 := T350.vm) X369 hx hZ hown (hw _ (List.mem_of_getElem? (i := 268) rfl)) wS hQ369 hS350 (Nat.le_trans (Nat.le_trans hk350 K351.1) K358.1) hEL (List.mem_of_getElem? (i := 2) rfl) (Rb356.trans (CHr.keep K358 (allS Sf360 (allS Sf361 all0)) Rb356.1)).1 (z := (0 : Int32)) own_t2_ok.1 (by decide) (by decide) (g := (mkF m 26 #[.val (.ref a1)] [(.ref b347)])) rfl (hb hby d_prog_6_method_6_code_26) (n := 0) (by decide) (by decide) (by decide) (by decide)
  have V370 : Av Z h370 sb370 .byte 0 (fun q => .int ((own_t2 q).toInt8.toInt32)) := (Arv.av Ar370 (by decide)).congr own_t2_ok.2
  have nl_b348_370 := sf370 b348 (CHr.safe cr370 V358.lt (Safe.keep K358 (allS Sf360 (allS Sf361 all0)) Rb356.1 Fb355))
  refine Rch.of (T' := T370) (g' := (mkF m 28 #[.val (.ref a1)] [(.ref s370), (.ref b347)])) st370 ?_
  refine Rch.of (T' := T370) (g' := (mkF m 53 #[.val (.ref a1)] [(.ref s370), (.ref b347)])) (fun _ kt => XS.goto X370.here hx rfl (pc0 := 28) (pc' := 53) rfl (hb hby d_prog_6_method_6_code_28) (by decide) (by decide) kt) ?_
  have pr372 : ((0 + 1) + 2) + 0 ≤ 16 := by omega
  obtain ⟨cq371, kq371, q371a, q371b, q371c⟩ := isOf hZ e370 (Ex358.ext E370)
  obtain ⟨_, _, ⟨T371, L371, k371, n371⟩, -, X371, ⟨Lc371, hQ371, l371, y371, z371⟩, st371⟩ := X370.virtualBack hx (y := (⟨"java/lang/StringBuilder", "append", "(Ljava/lang/String;)Ljava/lang/StringBuilder;"⟩ : MethodName)) (z := (⟨"java/lang/StringBuilder", "append", "(Ljava/lang/String;)Ljava/lang/StringBuilder;"⟩ : MethodName)) hown (mvT hZ (hw _ (List.mem_of_getElem? (i := 135) rfl))) (mvT hZ (hw _ (List.mem_of_getElem? (i := 136) rfl))) (notFace_of_selects (args := #[]) (mvT hZ (hw _ (List.mem_of_getElem? (i := 138) rfl)))) (mvT hZ (hw _ (List.mem_of_getElem? (i := 138) rfl))) (mvT hZ (hw _ (List.mem_of_getElem? (i := 137) rfl))) (by decide) (backOf (W := 0) (rkAS l Z a0 hw [] b347 b348 ((0 + 1) + 2) rt358 s370 sb370 0 own_t2 cs h370 n0 (Nat.le_trans (Nat.le_trans (Nat.le_trans (Nat.le_trans (Nat.le_trans (Nat.le_trans Z0 E347.1) K348.1) E350.1) K351.1) K358.1) E370.1) (Ex358.ext E370) (Fa358.ext E370) (Fb358.ext E370) (Fc358.ext E370) (V358.ext E370) ge_b347 ge_b348 ne_b347_b348 Ex370 Fa370 Fb370 V370 pr372 (Fb367.ext E370) hcs) hZ (hw _ (List.mem_of_getElem? (i := 139) rfl)) (hw _ (List.mem_of_getElem? (i := 118) rfl)) (by decide) (by decide)) q371a q371c (g := (mkF m 53 #[.val (.ref a1)] [(.ref s370), (.ref b347)])) rfl (by rw [hml]; rfl) (Steps.refl _) (argsL := [(.ref s370)]) (rest := []) (lenOf pd_18 rfl) rfl (by show 2 * 0 + _ ≤ _; exact Nat.le_of_eq rfl) (hb hby d_prog_6_method_6_code_53) (fun _ _ => ⟨rfl, e370, (by decide : 6 + 0 ≤ _), (by decide : 32 + 0 ≤ _)⟩)
  dsimp only [Pt.U, Pt.locs, Pt.cells, Pt.slots] at X371 l371 y371 z371 st371 hQ371
  subst l371 y371 z371
  obtain ⟨rt371, rfl, N371q, hQ371⟩ := hQ371
  have N371 := Fr.app N369 N371q
  obtain ⟨K371, Ex371, Fa371, Fb371, Fc371, V371, Ea371, Eb371⟩ := hQ371
  have Sf373 : Safe Z consts_1 T370.vm h370 b347 := (Safe.exa hZ.alike (Ex358.ext E370) (by decide) (by decide))
  have Sf374 : Safe Z consts_1 T370.vm h370 b348 := (CHr.safe cr370 V358.lt (Safe.keep K358 (allS Sf360 (allS Sf361 all0)) Rb356.1 Fb355))
  have Fb375 := (Safe.keep K371 (allS Sf373 (allS Sf374 all0)) ((Rb356.trans (CHr.keep K358 (allS Sf360 (allS Sf361 all0)) Rb356.1)).trans cr370).1 (CHr.safe cr370 V358.lt (Safe.keep K358 (allS Sf360 (allS Sf361 all0)) Rb356.1 Fb355)))
  have Rb376 := (((Rb356.trans (CHr.keep K358 (allS Sf360 (allS Sf361 all0)) Rb356.1)).trans cr370).trans (CHr.keep K371 (allS Sf373 (allS Sf374 all0)) ((Rb356.trans (CHr.keep K358 (allS Sf360 (allS Sf361 all0)) Rb356.1)).trans cr370).1))
  have Ch371 : own_ch (((0 + 1) + 2) + 0) rt371 := own_apch Ch358 own_ch_own_t2 Ea371 Eb371
  refine Rch.via (T' := T371) (g' := (mkF m 56 #[.val (.ref a1)] [(.ref b347)])) st371 ?_
  obtain ⟨s377, T377, h377, k377, sb377, kc377, X377, e377, E377, hS377, hk377, hZ, hown, Ex377, Fa377, Fb377, Ar377, la377, lb377, cr377, Lt377, sf377, st377⟩ := ldcCH (s := s) (vm0 := T370.vm) X371 hx hZ hown (hw _ (List.mem_of_getElem? (i := 229) rfl)) wS rfl hS370 (Nat.le_trans hk370 K371.1) hEL (List.mem_of_getElem? (i := 4) rfl) Rb376.1 (z := (1 : Int32)) own_t4_ok.1 (by decide) (by decide) (g := (mkF m 56 #[.val (.ref a1)] [(.ref b347)])) rfl (hb hby d_prog_6_method_6_code_56) (n := 4) (by decide) (by decide) (by decide) (by decide)
  have Fb378 := (Nat.le_trans (Nat.le_trans (Nat.le_trans (Nat.le_trans (Nat.le_trans (Nat.le_trans (Nat.le_trans (Nat.le_trans Z0 E347.1) K348.1) E350.1) K351.1) K358.1) E370.1) K371.1) E377.1)
  have V377 : Av Z h377 sb377 .byte 1 (fun q => .int ((own_t4 q).toInt8.toInt32)) := (Arv.av Ar377 (by decide)).congr own_t4_ok.2
  have nl_b348_377 := sf377 b348 (CHr.safe cr377 V371.lt Fb375)
  refine Rch.of (T' := T377) (g' := (mkF m 58 #[.val (.ref a1)] [(.ref s377), (.ref b347)])) st377 ?_
  have pr380 : (((0 + 1) + 2) + 0) + 1 ≤ 16 := by omega
  obtain ⟨cq379, kq379, q379a, q379b, q379c⟩ := isOf hZ e377 (Ex371.ext E377)
  obtain ⟨_, _, ⟨T379, L379, k379, n379⟩, -, X379, ⟨Lc379, hQ379, l379, y379, z379⟩, st379⟩ := X377.virtualBack hx (y := (⟨"java/lang/StringBuilder", "append", "(Ljava/lang/String;)Ljava/lang/StringBuilder;"⟩ : MethodName)) (z := (⟨"java/lang/StringBuilder", "append", "(Ljava/lang/String;)Ljava/lang/StringBuilder;"⟩ : MethodName)) hown (mvT hZ (hw _ (List.mem_of_getElem? (i := 135) rfl))) (mvT hZ (hw _ (List.mem_of_getElem? (i := 136) rfl))) (notFace_of_selects (args := #[]) (mvT hZ (hw _ (List.mem_of_getElem? (i := 138) rfl)))) (mvT hZ (hw _ (List.mem_of_getElem? (i := 138) rfl))) (mvT hZ (hw _ (List.mem_of_getElem? (i := 137) rfl))) (by decide) (backOf (W := 0) (rkAS l Z a0 hw [] b347 b348 (((0 + 1) + 2) + 0) rt371 s377 sb377 1 own_t4 cs h377 n0 Fb378 (Ex371.ext E377) (Fa371.ext E377) (Fb371.ext E377) (Fc371.ext E377) (V371.ext E377) ge_b347 ge_b348 ne_b347_b348 Ex377 Fa377 Fb377 V377 pr380 ((own_sta (Fb367.ext E370) K371 (nsS (Exa.nostat (Ex358.ext E370)) (nsS (Av.nostat (V358.ext E370)) ns0))).ext E377) hcs) hZ (hw _ (List.mem_of_getElem? (i := 139) rfl)) (hw _ (List.mem_of_getElem? (i := 118) rfl)) (by decide) (by decide)) q379a q379c (g := (mkF m 58 #[.val (.ref a1)] [(.ref s377), (.ref b347)])) rfl (by rw [hml]; rfl) (Steps.refl _) (argsL := [(.ref s377)]) (rest := []) (lenOf pd_18 rfl) rfl (by show 2 * 0 + _ ≤ _; exact Nat.le_of_eq rfl) (hb hby d_prog_6_method_6_code_58) (fun _ _ => ⟨rfl, e377, (by decide : 8 + 0 ≤ _), (by decide : 40 + 0 ≤ _)⟩)
  dsimp only [Pt.U, Pt.locs, Pt.cells, Pt.slots] at X379 l379 y379 z379 st379 hQ379
  subst l379 y379 z379
  obtain ⟨rt379, rfl, N379q, hQ379⟩ := hQ379
  have N379 := Fr.app N371 N379q
  obtain ⟨K379, Ex379, Fa379, Fb379, Fc379, V379, Ea379, Eb379⟩ := hQ379
  have Sf381 : Safe Z consts_1 T377.vm h377 b347 := (Safe.exa hZ.alike (Ex371.ext E377) (by decide) (by decide))
  have Sf382 : Safe Z consts_1 T377.vm h377 b348 := (CHr.safe cr377 V371.lt Fb375)
  have Fb383 := (own_sta ((own_sta (Fb367.ext E370) K371 (nsS (Exa.nostat (Ex358.ext E370)) (nsS (Av.nostat (V358.ext E370)) ns0))).ext E377) K379 (nsS (Exa.nostat (Ex371.ext E377)) (nsS (Av.nostat (V371.ext E377)) ns0)))
  have Ch379 : own_ch ((((0 + 1) + 2) + 0) + 1) rt379 := own_apch Ch371 own_ch_own_t4 Ea379 Eb379
  refine Rch.via (T' := T379) (g' := (mkF m 61 #[.val (.ref a1)] [(.ref b347)])) st379 ?_
  have pr385 : ((((0 + 1) + 2) + 0) + 1) ≤ 15 := by omega
  obtain ⟨cq384, kq384, q384a, q384b, q384c⟩ := isOf hZ rfl Ex379
  obtain ⟨_, _, ⟨T384, L384, k384, n384⟩, -, X384, ⟨Lc384, hQ384, l384, y384, z384⟩, st384⟩ := X379.virtualBack hx (y := (⟨"java/lang/StringBuilder", "toString", "()Ljava/lang/String;"⟩ : MethodName)) (z := (⟨"java/lang/StringBuilder", "toString", "()Ljava/lang/String;"⟩ : MethodName)) hown (mvT hZ (hw _ (List.mem_of_getElem? (i := 184) rfl))) (mvT hZ (hw _ (List.mem_of_getElem? (i := 185) rfl))) (notFace_of_selects (args := #[]) (mvT hZ (hw _ (List.mem_of_getElem? (i := 187) rfl)))) (mvT hZ (hw _ (List.mem_of_getElem? (i := 187) rfl))) (mvT hZ (hw _ (List.mem_of_getElem? (i := 186) rfl))) (by decide) (backOf (W := 0) (rkTS l Z a0 hw [] b347 b348 ((((0 + 1) + 2) + 0) + 1) rt379 cs T379.heap n0 (Nat.le_trans Fb378 K379.1) Ex379 Fa379 Fb379 Fc379 V379 pr385 Fb383 hcs) hZ (hw _ (List.mem_of_getElem? (i := 188) rfl)) (hw _ (List.mem_of_getElem? (i := 118) rfl)) (by decide) (by decide)) q384a q384c (g := (mkF m 61 #[.val (.ref a1)] [(.ref b347)])) rfl (by rw [hml]; rfl) (Steps.refl _) (argsL := []) (rest := []) (lenOf pd_16 rfl) rfl (by show 2 * 0 + _ ≤ _; exact Nat.le_of_eq rfl) (hb hby d_prog_6_method_6_code_61) (fun _ _ => ⟨rfl, rfl, (by decide : 8 + 2 ≤ _), (by decide : 40 + 20 ≤ _)⟩)
  dsimp only [Pt.U, Pt.locs, Pt.cells, Pt.slots] at X384 l384 y384 z384 st384 hQ384
  subst l384 y384 z384
  obtain ⟨rr384, rb384, rt384, rfl, N384q, hQ384⟩ := hQ384
  have N384 := Fr.app N379 N384q
  obtain ⟨K384, Ex384, Fa384, Fb384, V384, Eq384⟩ := hQ384
  have Fb386 := (Safe.keep K384 all0 ((Rb376.trans cr377).trans (CHr.keep K379 (allS Sf381 (allS Sf382 all0)) (Rb376.trans cr377).1)).1 (Safe.keep K379 (allS Sf381 (allS Sf382 all0)) (Rb376.trans cr377).1 (CHr.safe cr377 V371.lt Fb375)))
  have Rb387 := (((Rb376.trans cr377).trans (CHr.keep K379 (allS Sf381 (allS Sf382 all0)) (Rb376.trans cr377).1)).trans (CHr.keep K384 all0 ((Rb376.trans cr377).trans (CHr.keep K379 (allS Sf381 (allS Sf382 all0)) (Rb376.trans cr377).1)).1))
  have Fb388 := (((((Fb368.ext E370).trans K371 (allS (Or.inr sz_b347) (allS (Or.inr sz_b348) all0))).ext E377).trans K379 (allS (Or.inr sz_b347) (allS (Or.inr sz_b348) all0))).trans K384 all0)
  have Ch384 : own_ch ((((0 + 1) + 2) + 0) + 1) rt384 := fun q hq => by rw [Eq384 q hq]; exact Ch379 q hq
  refine Rch.via (T' := T384) (g' := (mkF m 64 #[.val (.ref a1)] [(.ref rr384)])) st384 ?_
  have t0 : rt384 0 = (91 : Int32) := by rw [Eq384 0 (by decide), Ea379 0 (by decide), Ea371 0 (by decide), Ea358 0 (by decide)]; exact Eb351 0 (by decide)
  have t3 : rt384 3 = (93 : Int32) := by rw [Eq384 3 (by decide)]; exact Eb379 0 (by decide)
  exact Rch.retA X384 hx (w := (.ref rr384)) hret rfl rfl hlk (hb hby d_prog_6_method_6_code_64) (fun U hU hF => hK _ U _ _ _ (by show Q_rkUn Z a1 nm nb y cs h0 n0 _ U.heap _; rw [hU]; exact ⟨rr384, rb384, rt384, rfl, N384, Fb388, Ex384, Fa384, Fb384, V384, t0, t3, Ch384⟩) (own_endH hZ hEL Rb387 hU hF) (own_end hS377 (by rw [hU]; exact (Nat.le_trans (Nat.le_trans hk377 K379.1) K384.1)) hF) (by decide) (by decide))
theorem ef_rkUv (m : MethodId) (a1 : Addr) : entryFrame m #[(.ref a1)] 1 = mkF m 0 #[.val (.ref a1)] [] := by first | (simp [entryFrame, mkF, argsToLocals, Value.category]; done) | rfl
def Q_rkUv (Z : State) (a1 : Addr) (nm : Addr) (nb : Addr) (y : Nat → Int32) (vl : Addr) (vb : Addr) (nv : Nat) (yv : Nat → Int32) (cs : Int32) (h0 : Heap) (n0 : Nat) (vv_ : Option Value) (h : Heap) (LL_ : List Loc) : Prop := ∃ r : Addr, ∃ b : Addr, ∃ t : Nat → Int32, vv_ = some (.ref r) ∧ Fr n0 LL_ ∧ (Keep h0 h [] ∧ Exa Z h r "java/lang/String" ∧ Fld Z h r "java/lang/String" "coder" "B" (.int (0 : Int32)) ∧ Fld Z h r "java/lang/String" "value" "[B" (.ref b) ∧ Av Z h b .byte (nv + 5) (fun q => .int ((t q).toInt8.toInt32)) ∧ t 0 = (91 : Int32) ∧ t 3 = (32 : Int32) ∧ t (nv + 4) = (93 : Int32) ∧ own_ch (nv + 5) t)
theorem d_prog_6_method_6_code_31 : decode prog_6_method_6_code 31 = .ok (.new 42, 3) := by decide +kernel
theorem d_prog_6_method_6_code_34 : decode prog_6_method_6_code 34 = .ok (.dup, 1) := by decide +kernel
theorem d_prog_6_method_6_code_35 : decode prog_6_method_6_code 35 = .ok (.invokespecial 44, 3) := by decide +kernel
theorem d_prog_6_method_6_code_38 : decode prog_6_method_6_code 38 = .ok (.ldc 57, 2) := by decide +kernel
theorem d_prog_6_method_6_code_40 : decode prog_6_method_6_code 40 = .ok (.invokevirtual 47, 3) := by decide +kernel
theorem d_prog_6_method_6_code_43 : decode prog_6_method_6_code 43 = .ok (.aload_n 0, 1) := by decide +kernel
theorem d_prog_6_method_6_code_44 : decode prog_6_method_6_code 44 = .ok (.getfield 23, 3) := by decide +kernel
theorem d_prog_6_method_6_code_47 : decode prog_6_method_6_code 47 = .ok (.invokevirtual 47, 3) := by decide +kernel
theorem d_prog_6_method_6_code_50 : decode prog_6_method_6_code 50 = .ok (.invokevirtual 59, 3) := by decide +kernel
set_option maxRecDepth 65536 in
set_option maxHeartbeats 40000000 in
theorem rkUv (l : Launch) (Z : State) (a0 : Array Value) (hw : ∀ d ∈ tables_1, d.before a0 Z = true) (ws : List Jvm.Cond) (a1 : Addr) (nm : Addr) (nb : Addr) (y : Nat → Int32) (vl : Addr) (vb : Addr) (nv : Nat) (yv : Nat → Int32) (cs : Int32) (h0 : Heap) (n0 : Nat) (Z0 : n0 ≤ h0.size) (E1 : Exa Z h0 a1 "com/example/ampliar/ampliar/command/Parameter") (Fn0 : Fld Z h0 a1 "com/example/ampliar/ampliar/command/Parameter" "name" "Ljava/lang/String;" (.ref nm)) (En0 : Exa Z h0 nm "java/lang/String") (Fn1 : Fld Z h0 nm "java/lang/String" "coder" "B" (.int (0 : Int32))) (Fn2 : Fld Z h0 nm "java/lang/String" "value" "[B" (.ref nb)) (Vn0 : Av Z h0 nb .byte 2 (fun q => .int ((y q).toInt8.toInt32))) (Fw0 : Fld Z h0 a1 "com/example/ampliar/ampliar/command/Parameter" "value" "Ljava/lang/String;" (.ref vl)) (Ew0 : Exa Z h0 vl "java/lang/String") (Fw1 : Fld Z h0 vl "java/lang/String" "coder" "B" (.int (0 : Int32))) (Fw2 : Fld Z h0 vl "java/lang/String" "value" "[B" (.ref vb)) (Vw0 : Av Z h0 vb .byte nv (fun q => .int ((yv q).toInt8.toInt32))) (hnv : nv ≤ 2) (hyv : own_ch nv yv) (hy : own_ch 2 y) (SC : Sta Z h0 "java/lang/String" "COMPACT_STRINGS" "Z" (.int cs)) (hcs : ¬ cs = (0 : Int32)) :
    MetFree l (⟨"com/example/ampliar/ampliar/command/Parameter", "usage", "()Ljava/lang/String;"⟩ : MethodName) (head1 (Jvm.Cond.code (⟨"com/example/ampliar/ampliar/command/Parameter", "usage", "()Ljava/lang/String;"⟩ : MethodName) prog_6_method_6_code 1 (some (.object "java/lang/String")) :: ws) ({ frames := 6, cells := 14, slots := 104, locals := 92 } : Room)) (fun aa_ UU_ => aa_ = #[(.ref a1)] ∧ Z.Warmed39 UU_.vm ∧ UU_.heap = h0 ∧ CHv Z consts_1 UU_.vm h0) (fun _ _ _ _ _ => True) (fun _ UU_ oo_ VV_ => ∃ vv_ LL_, oo_ = .returned vv_ ∧ Q_rkUv Z a1 nm nb y vl vb nv yv cs h0 n0 vv_ VV_.heap LL_ ∧ CHr Z consts_1 UU_.vm UU_.heap VV_.vm VV_.heap ∧ ReturnedEndW UU_ oo_ VV_ LL_ ({ frames := 6, cells := 14, slots := 104, locals := 92 } : Room).cells ({ frames := 6, cells := 14, slots := 104, locals := 92 } : Room).slots) := by
  refine own_metH (y := (⟨"com/example/ampliar/ampliar/command/Parameter", "usage", "()Ljava/lang/String;"⟩ : MethodName)) (plainFor_of_name pn_14) ?_
  intro p e s m below meth c T0 K hx hby hml hret hlk hown hnm hZ X0 e0 C0 hK
  have N0 := Fr.nil n0
  have R0 := CHr.refl C0
  have hEL := own_EW hw
  have hS0 : s.Since s.vm 0 := (State.WarmedH.refl s).since 0
  have hk0 : 0 ≤ h0.size := Nat.zero_le _
  have wS : ∀ d ∈ Bundle.stringAtoms, d.before a0 Z = true := fun d hd => hw d ((by decide +kernel : ∀ d ∈ Bundle.stringAtoms, d ∈ tables_1) d hd)
  change Stand p l e ({ frames := 6, cells := 14, slots := 104, locals := 92 } : Room) (s.setVm s.vm) m #[(.ref a1)] below meth c T0 [] 0 0 at X0
  change Z.Warmed39 (s.setVm s.vm).vm at hZ
  change (s.setVm s.vm).vm.findClass _ = some m.cls at hown
  refine Rch.cast (ef_rkUv m a1) ?_
  obtain ⟨T389, h389, X389, e389, E389, A389, D389, -, st389⟩ := newO X0 hx hZ hown (hw _ (List.mem_of_getElem? (i := 116) rfl)) (hw _ (List.mem_of_getElem? (i := 117) rfl)) (hw _ (List.mem_of_getElem? (i := 118) rfl)) e0 (g := (mkF m 0 #[.val (.ref a1)] [])) rfl (hb hby d_prog_6_method_6_code_0) (by decide) (by decide)
  obtain ⟨b389, g389⟩ : ∃ zz_, zz_ = h0.size := ⟨_, rfl⟩
  have ne_a1_b389 : a1 ≠ b389 := Nat.ne_of_lt (Nat.lt_of_lt_of_le E1.lt (Nat.le_of_eq g389.symm))
  have ne_nm_b389 : nm ≠ b389 := Nat.ne_of_lt (Nat.lt_of_lt_of_le En0.lt (Nat.le_of_eq g389.symm))
  have ne_nb_b389 : nb ≠ b389 := Nat.ne_of_lt (Nat.lt_of_lt_of_le Vn0.lt (Nat.le_of_eq g389.symm))
  have ne_vl_b389 : vl ≠ b389 := Nat.ne_of_lt (Nat.lt_of_lt_of_le Ew0.lt (Nat.le_of_eq g389.symm))
  have ne_vb_b389 : vb ≠ b389 := Nat.ne_of_lt (Nat.lt_of_lt_of_le Vw0.lt (Nat.le_of_eq g389.symm))
  have ge_b389 : n0 ≤ b389 := Nat.le_trans Z0 (Nat.le_of_eq g389.symm)
  have sz_b389 : h0.size ≤ b389 := Nat.le_trans (Keep.refl h0 []).1 (Nat.le_of_eq g389.symm)
  rw [← g389] at A389 D389 st389
  have F389_value : Fld Z h389 b389 "java/lang/AbstractStringBuilder" "value" "[B" .null := D389 (Or.inl (hw _ (List.mem_of_getElem? (i := 131) rfl))) (ty := (.array .byte)) (by decide)
  have F389_coder : Fld Z h389 b389 "java/lang/AbstractStringBuilder" "coder" "B" (.int (0 : Int32)) := D389 (Or.inl (hw _ (List.mem_of_getElem? (i := 133) rfl))) (ty := .byte) (by decide)
  have F389_count : Fld Z h389 b389 "java/lang/AbstractStringBuilder" "count" "I" (.int (0 : Int32)) := D389 (Or.inl (hw _ (List.mem_of_getElem? (i := 156) rfl))) (ty := .int) (by decide)
  refine Rch.of (T' := T389) (g' := (mkF m 3 #[.val (.ref a1)] [(.ref b389)])) st389 ?_
  refine Rch.of (T' := T389) (g' := (mkF m 4 #[.val (.ref a1)] [(.ref b389), (.ref b389)])) (fun _ kt => XS.dup X389.here hx rfl (hb hby d_prog_6_method_6_code_3) rfl rfl kt) ?_
  obtain ⟨_, _, ⟨T390, L390, k390, n390⟩, -, X390, ⟨Lc390, hQ390, l390, y390, z390⟩, st390⟩ := X389.specialBack hx (y := (⟨"java/lang/StringBuilder", "<init>", "()V"⟩ : MethodName)) rfl hown (mvT hZ (hw _ (List.mem_of_getElem? (i := 119) rfl))) (mvT hZ (hw _ (List.mem_of_getElem? (i := 120) rfl))) (mvT hZ (hw _ (List.mem_of_getElem? (i := 121) rfl))) (by decide) (backOf (W := 1) (rkB2 l Z a0 hw [] b389 .null (.int (0 : Int32)) cs h389 n0 (Nat.le_trans Z0 E389.1) A389 F389_value F389_coder F389_count ge_b389 (SC.ext E389) hcs) hZ (hw _ (List.mem_of_getElem? (i := 121) rfl)) (hw _ (List.mem_of_getElem? (i := 118) rfl)) (by decide) (by decide)) (g := (mkF m 4 #[.val (.ref a1)] [(.ref b389), (.ref b389)])) rfl (by rw [hml]; rfl) (Steps.refl _) (a := b389) (argsL := []) (rest := [(.ref b389)]) (lenOf pd_2 rfl) rfl (by show 2 * 0 + _ ≤ _; exact Nat.le_of_eq rfl) (hb hby d_prog_6_method_6_code_4) (fun _ _ => ⟨rfl, e389, (by decide : 1 + 1 ≤ _), (by decide : 4 + 16 ≤ _)⟩)
  dsimp only [Pt.U, Pt.locs, Pt.cells, Pt.slots] at X390 l390 y390 z390 st390 hQ390
  subst l390 y390 z390
  obtain ⟨rfl, N390q, hQ390⟩ := hQ390
  have N390 := Fr.app N0 N390q
  obtain ⟨K390, Ex390, Fa390, Fb390, Fc390, V390⟩ := hQ390
  obtain ⟨b390, g390⟩ : ∃ zz_, zz_ = h389.size := ⟨_, rfl⟩
  have ne_a1_b390 : a1 ≠ b390 := Nat.ne_of_lt (Nat.lt_of_lt_of_le (E1.ext E389).lt (Nat.le_of_eq g390.symm))
  have ne_nm_b390 : nm ≠ b390 := Nat.ne_of_lt (Nat.lt_of_lt_of_le (En0.ext E389).lt (Nat.le_of_eq g390.symm))
  have ne_nb_b390 : nb ≠ b390 := Nat.ne_of_lt (Nat.lt_of_lt_of_le (Vn0.ext E389).lt (Nat.le_of_eq g390.symm))
  have ne_vl_b390 : vl ≠ b390 := Nat.ne_of_lt (Nat.lt_of_lt_of_le (Ew0.ext E389).lt (Nat.le_of_eq g390.symm))
  have ne_vb_b390 : vb ≠ b390 := Nat.ne_of_lt (Nat.lt_of_lt_of_le (Vw0.ext E389).lt (Nat.le_of_eq g390.symm))
  have ne_b389_b390 : b389 ≠ b390 := Nat.ne_of_lt (Nat.lt_of_lt_of_le A389.lt (Nat.le_of_eq g390.symm))
  have ge_b390 : n0 ≤ b390 := Nat.le_trans (Nat.le_trans Z0 E389.1) (Nat.le_of_eq g390.symm)
  have sz_b390 : h0.size ≤ b390 := Nat.le_trans ((Keep.refl h0 []).ext E389).1 (Nat.le_of_eq g390.symm)
  rw [← g390] at Fa390 V390
  have Sf391 : Safe Z consts_1 s.vm h389 b389 := (Safe.exa hZ.alike A389 (by decide) (by decide))
  refine Rch.via (T' := T390) (g' := (mkF m 7 #[.val (.ref a1)] [(.ref b389)])) st390 ?_
  obtain ⟨s392, T392, h392, k392, sb392, kc392, X392, e392, E392, hS392, hk392, hZ, hown, Ex392, Fa392, Fb392, Ar392, la392, lb392, cr392, Lt392, sf392, st392⟩ := ldcCH (s := s) (vm0 := s.vm) X390 hx hZ hown (hw _ (List.mem_of_getElem? (i := 134) rfl)) wS rfl hS0 (Nat.le_trans (Nat.le_trans hk0 E389.1) K390.1) hEL (List.mem_of_getElem? (i := 1) rfl) ((R0.trans (CHr.ext E389 R0.1)).trans (CHr.keep K390 (allS Sf391 all0) (R0.trans (CHr.ext E389 R0.1)).1)).1 (z := (1 : Int32)) own_t1_ok.1 (by decide) (by decide) (g := (mkF m 7 #[.val (.ref a1)] [(.ref b389)])) rfl (hb hby d_prog_6_method_6_code_7) (n := 4) (by decide) (by decide) (by decide) (by decide)
  have V392 : Av Z h392 sb392 .byte 1 (fun q => .int ((own_t1 q).toInt8.toInt32)) := (Arv.av Ar392 (by decide)).congr own_t1_ok.2
  have nl_b390_392 := sf392 b390 (CHr.safe cr392 V390.lt (Safe.keep K390 (allS Sf391 all0) (R0.trans (CHr.ext E389 R0.1)).1 (Safe.new (Nat.le_of_eq g390.symm))))
  refine Rch.of (T' := T392) (g' := (mkF m 9 #[.val (.ref a1)] [(.ref s392), (.ref b389)])) st392 ?_
  have pr394 : 0 + 1 ≤ 16 := by omega
  obtain ⟨cq393, kq393, q393a, q393b, q393c⟩ := isOf hZ e392 (Ex390.ext E392)
  obtain ⟨_, _, ⟨T393, L393, k393, n393⟩, -, X393, ⟨Lc393, hQ393, l393, y393, z393⟩, st393⟩ := X392.virtualBack hx (y := (⟨"java/lang/StringBuilder", "append", "(Ljava/lang/String;)Ljava/lang/StringBuilder;"⟩ : MethodName)) (z := (⟨"java/lang/StringBuilder", "append", "(Ljava/lang/String;)Ljava/lang/StringBuilder;"⟩ : MethodName)) hown (mvT hZ (hw _ (List.mem_of_getElem? (i := 135) rfl))) (mvT hZ (hw _ (List.mem_of_getElem? (i := 136) rfl))) (notFace_of_selects (args := #[]) (mvT hZ (hw _ (List.mem_of_getElem? (i := 138) rfl)))) (mvT hZ (hw _ (List.mem_of_getElem? (i := 138) rfl))) (mvT hZ (hw _ (List.mem_of_getElem? (i := 137) rfl))) (by decide) (backOf (W := 0) (rkAS l Z a0 hw [] b389 b390 0 own_z0 s392 sb392 1 own_t1 cs h392 n0 (Nat.le_trans (Nat.le_trans (Nat.le_trans Z0 E389.1) K390.1) E392.1) (Ex390.ext E392) (Fa390.ext E392) (Fb390.ext E392) (Fc390.ext E392) (V390.ext E392) ge_b389 ge_b390 ne_b389_b390 Ex392 Fa392 Fb392 V392 pr394 ((own_sta (SC.ext E389) K390 (nsS (Exa.nostat A389) ns0)).ext E392) hcs) hZ (hw _ (List.mem_of_getElem? (i := 139) rfl)) (hw _ (List.mem_of_getElem? (i := 118) rfl)) (by decide) (by decide)) q393a q393c (g := (mkF m 9 #[.val (.ref a1)] [(.ref s392), (.ref b389)])) rfl (by rw [hml]; rfl) (Steps.refl _) (argsL := [(.ref s392)]) (rest := []) (lenOf pd_18 rfl) rfl (by show 2 * 0 + _ ≤ _; exact Nat.le_of_eq rfl) (hb hby d_prog_6_method_6_code_9) (fun _ _ => ⟨rfl, e392, (by decide : 4 + 0 ≤ _), (by decide : 28 + 0 ≤ _)⟩)
  dsimp only [Pt.U, Pt.locs, Pt.cells, Pt.slots] at X393 l393 y393 z393 st393 hQ393
  subst l393 y393 z393
  obtain ⟨rt393, rfl, N393q, hQ393⟩ := hQ393
  have N393 := Fr.app N390 N393q
  obtain ⟨K393, Ex393, Fa393, Fb393, Fc393, V393, Ea393, Eb393⟩ := hQ393
  have Sf395 : Safe Z consts_1 T392.vm h392 b389 := (Safe.exa hZ.alike (Ex390.ext E392) (by decide) (by decide))
  have Sf396 : Safe Z consts_1 T392.vm h392 b390 := (CHr.safe cr392 V390.lt (Safe.keep K390 (allS Sf391 all0) (R0.trans (CHr.ext E389 R0.1)).1 (Safe.new (Nat.le_of_eq g390.symm))))
  have Fb397 := (Safe.keep K393 (allS Sf395 (allS Sf396 all0)) (((R0.trans (CHr.ext E389 R0.1)).trans (CHr.keep K390 (allS Sf391 all0) (R0.trans (CHr.ext E389 R0.1)).1)).trans cr392).1 (CHr.safe cr392 V390.lt (Safe.keep K390 (allS Sf391 all0) (R0.trans (CHr.ext E389 R0.1)).1 (Safe.new (Nat.le_of_eq g390.symm)))))
  have Rb398 := ((((R0.trans (CHr.ext E389 R0.1)).trans (CHr.keep K390 (allS Sf391 all0) (R0.trans (CHr.ext E389 R0.1)).1)).trans cr392).trans (CHr.keep K393 (allS Sf395 (allS Sf396 all0)) (((R0.trans (CHr.ext E389 R0.1)).trans (CHr.keep K390 (allS Sf391 all0) (R0.trans (CHr.ext E389 R0.1)).1)).trans cr392).1))
  have Ch393 : own_ch (0 + 1) rt393 := own_apch (fun q hq => absurd hq (Nat.not_lt_zero q)) own_ch_own_t1 Ea393 Eb393
  refine Rch.via (T' := T393) (g' := (mkF m 12 #[.val (.ref a1)] [(.ref b389)])) st393 ?_
  refine Rch.of (T' := T393) (g' := (mkF m 13 #[.val (.ref a1)] [(.ref a1), (.ref b389)])) (fun _ kt => XS.aloadN X393.here hx rfl (hb hby d_prog_6_method_6_code_12) rfl rfl kt) ?_
  obtain ⟨T399, X399, e399, st399⟩ := getF X393 hx hZ hown (host := "") (Or.inl (hw _ (List.mem_of_getElem? (i := 55) rfl))) Via.refl rfl ((((Fn0.ext E389).keep K390 (ninS ne_a1_b389 nin0)).ext E392).keep K393 (ninS ne_a1_b389 (ninS ne_a1_b390 nin0))) (g := (mkF m 13 #[.val (.ref a1)] [(.ref a1), (.ref b389)])) rfl rfl (hb hby d_prog_6_method_6_code_13)
  refine Rch.of (T' := T399) (g' := (mkF m 16 #[.val (.ref a1)] [(.ref nm), (.ref b389)])) st399 ?_
  have pr401 : (0 + 1) + 2 ≤ 16 := by omega
  obtain ⟨cq400, kq400, q400a, q400b, q400c⟩ := isOf hZ e399 Ex393
  obtain ⟨_, _, ⟨T400, L400, k400, n400⟩, -, X400, ⟨Lc400, hQ400, l400, y400, z400⟩, st400⟩ := X399.virtualBack hx (y := (⟨"java/lang/StringBuilder", "append", "(Ljava/lang/String;)Ljava/lang/StringBuilder;"⟩ : MethodName)) (z := (⟨"java/lang/StringBuilder", "append", "(Ljava/lang/String;)Ljava/lang/StringBuilder;"⟩ : MethodName)) hown (mvT hZ (hw _ (List.mem_of_getElem? (i := 135) rfl))) (mvT hZ (hw _ (List.mem_of_getElem? (i := 136) rfl))) (notFace_of_selects (args := #[]) (mvT hZ (hw _ (List.mem_of_getElem? (i := 138) rfl)))) (mvT hZ (hw _ (List.mem_of_getElem? (i := 138) rfl))) (mvT hZ (hw _ (List.mem_of_getElem? (i := 137) rfl))) (by decide) (backOf (W := 0) (rkAS l Z a0 hw [] b389 b390 (0 + 1) rt393 nm nb 2 y cs T393.heap n0 (Nat.le_trans (Nat.le_trans (Nat.le_trans (Nat.le_trans Z0 E389.1) K390.1) E392.1) K393.1) Ex393 Fa393 Fb393 Fc393 V393 ge_b389 ge_b390 ne_b389_b390 ((((En0.ext E389).keep K390).ext E392).keep K393) ((((Fn1.ext E389).keep K390 (ninS ne_nm_b389 nin0)).ext E392).keep K393 (ninS ne_nm_b389 (ninS ne_nm_b390 nin0))) ((((Fn2.ext E389).keep K390 (ninS ne_nm_b389 nin0)).ext E392).keep K393 (ninS ne_nm_b389 (ninS ne_nm_b390 nin0))) ((((Vn0.ext E389).keep K390 (ninS ne_nb_b389 nin0)).ext E392).keep K393 (ninS ne_nb_b389 (ninS ne_nb_b390 nin0))) pr401 (own_sta ((own_sta (SC.ext E389) K390 (nsS (Exa.nostat A389) ns0)).ext E392) K393 (nsS (Exa.nostat (Ex390.ext E392)) (nsS (Av.nostat (V390.ext E392)) ns0))) hcs) hZ (hw _ (List.mem_of_getElem? (i := 139) rfl)) (hw _ (List.mem_of_getElem? (i := 118) rfl)) (by decide) (by decide)) q400a q400c (g := (mkF m 16 #[.val (.ref a1)] [(.ref nm), (.ref b389)])) rfl (by rw [hml]; rfl) (Steps.refl _) (argsL := [(.ref nm)]) (rest := []) (lenOf pd_18 rfl) rfl (by show 2 * 0 + _ ≤ _; exact Nat.le_of_eq rfl) (hb hby d_prog_6_method_6_code_16) (fun _ _ => ⟨rfl, e399, (by decide : 4 + 0 ≤ _), (by decide : 28 + 0 ≤ _)⟩)
  dsimp only [Pt.U, Pt.locs, Pt.cells, Pt.slots] at X400 l400 y400 z400 st400 hQ400
  subst l400 y400 z400
  obtain ⟨rt400, rfl, N400q, hQ400⟩ := hQ400
  have N400 := Fr.app N393 N400q
  obtain ⟨K400, Ex400, Fa400, Fb400, Fc400, V400, Ea400, Eb400⟩ := hQ400
  have Sf402 : Safe Z consts_1 T392.vm T393.heap b389 := (Safe.exa hZ.alike Ex393 (by decide) (by decide))
  have Sf403 : Safe Z consts_1 T392.vm T393.heap b390 := Fb397
  have Fb404 := (((((Fn0.ext E389).keep K390 (ninS ne_a1_b389 nin0)).ext E392).keep K393 (ninS ne_a1_b389 (ninS ne_a1_b390 nin0))).keep K400 (ninS ne_a1_b389 (ninS ne_a1_b390 nin0)))
  have Fb405 := (((((Fn1.ext E389).keep K390 (ninS ne_nm_b389 nin0)).ext E392).keep K393 (ninS ne_nm_b389 (ninS ne_nm_b390 nin0))).keep K400 (ninS ne_nm_b389 (ninS ne_nm_b390 nin0)))
  have Fb406 := (((((Fn2.ext E389).keep K390 (ninS ne_nm_b389 nin0)).ext E392).keep K393 (ninS ne_nm_b389 (ninS ne_nm_b390 nin0))).keep K400 (ninS ne_nm_b389 (ninS ne_nm_b390 nin0)))
  have Fb407 := (((((Vn0.ext E389).keep K390 (ninS ne_nb_b389 nin0)).ext E392).keep K393 (ninS ne_nb_b389 (ninS ne_nb_b390 nin0))).keep K400 (ninS ne_nb_b389 (ninS ne_nb_b390 nin0)))
  have Fb408 := (((((Fw0.ext E389).keep K390 (ninS ne_a1_b389 nin0)).ext E392).keep K393 (ninS ne_a1_b389 (ninS ne_a1_b390 nin0))).keep K400 (ninS ne_a1_b389 (ninS ne_a1_b390 nin0)))
  have Fb409 := (((((Fw1.ext E389).keep K390 (ninS ne_vl_b389 nin0)).ext E392).keep K393 (ninS ne_vl_b389 (ninS ne_vl_b390 nin0))).keep K400 (ninS ne_vl_b389 (ninS ne_vl_b390 nin0)))
  have Fb410 := (((((Fw2.ext E389).keep K390 (ninS ne_vl_b389 nin0)).ext E392).keep K393 (ninS ne_vl_b389 (ninS ne_vl_b390 nin0))).keep K400 (ninS ne_vl_b389 (ninS ne_vl_b390 nin0)))
  have Fb411 := (((((Vw0.ext E389).keep K390 (ninS ne_vb_b389 nin0)).ext E392).keep K393 (ninS ne_vb_b389 (ninS ne_vb_b390 nin0))).keep K400 (ninS ne_vb_b389 (ninS ne_vb_b390 nin0)))
  have Fb412 := (own_sta (own_sta ((own_sta (SC.ext E389) K390 (nsS (Exa.nostat A389) ns0)).ext E392) K393 (nsS (Exa.nostat (Ex390.ext E392)) (nsS (Av.nostat (V390.ext E392)) ns0))) K400 (nsS (Exa.nostat Ex393) (nsS (Av.nostat V393) ns0)))
  have Fb413 := ((((((Keep.refl h0 []).ext E389).trans K390 (allS (Or.inr sz_b389) all0)).ext E392).trans K393 (allS (Or.inr sz_b389) (allS (Or.inr sz_b390) all0))).trans K400 (allS (Or.inr sz_b389) (allS (Or.inr sz_b390) all0)))
  have Ch400 : own_ch ((0 + 1) + 2) rt400 := own_apch Ch393 hy Ea400 Eb400
  refine Rch.via (T' := T400) (g' := (mkF m 19 #[.val (.ref a1)] [(.ref b389)])) st400 ?_
  refine Rch.of (T' := T400) (g' := (mkF m 20 #[.val (.ref a1)] [(.ref a1), (.ref b389)])) (fun _ kt => XS.aloadN X400.here hx rfl (hb hby d_prog_6_method_6_code_19) rfl rfl kt) ?_
  obtain ⟨cq414, kq414, q414a, q414b, q414c⟩ := isOf hZ rfl (((((E1.ext E389).keep K390).ext E392).keep K393).keep K400)
  obtain ⟨_, _, ⟨T414, L414, k414, n414⟩, -, X414, ⟨Lc414, hQ414, l414, y414, z414⟩, st414⟩ := X400.virtualBack hx (y := (⟨"com/example/ampliar/ampliar/command/Parameter", "isFlag", "()Z"⟩ : MethodName)) (z := (⟨"com/example/ampliar/ampliar/command/Parameter", "isFlag", "()Z"⟩ : MethodName)) hown (mvT hZ (hw _ (List.mem_of_getElem? (i := 182) rfl))) (mvT hZ (hw _ (List.mem_of_getElem? (i := 107) rfl))) (notFace_of_selects (args := #[]) (mvT hZ (hw _ (List.mem_of_getElem? (i := 109) rfl)))) (mvT hZ (hw _ (List.mem_of_getElem? (i := 109) rfl))) (mvT hZ (hw _ (List.mem_of_getElem? (i := 108) rfl))) (by decide) (backOf (W := 1) (rkIr l Z a0 hw [] a1 vl T400.heap n0 (Nat.le_trans (Nat.le_trans (Nat.le_trans (Nat.le_trans (Nat.le_trans Z0 E389.1) K390.1) E392.1) K393.1) K400.1) Fb408) hZ (hw _ (List.mem_of_getElem? (i := 110) rfl)) (hw _ (List.mem_of_getElem? (i := 50) rfl)) (by decide) (by decide)) q414a q414c (g := (mkF m 20 #[.val (.ref a1)] [(.ref a1), (.ref b389)])) rfl (by rw [hml]; rfl) (Steps.refl _) (argsL := []) (rest := [(.ref b389)]) (lenOf pd_15 rfl) rfl (by show 2 * 0 + _ ≤ _; exact Nat.le_of_eq rfl) (hb hby d_prog_6_method_6_code_20) (fun _ _ => ⟨rfl, rfl, (by decide : 4 + 0 ≤ _), (by decide : 28 + 0 ≤ _)⟩)
  dsimp only [Pt.U, Pt.locs, Pt.cells, Pt.slots] at X414 l414 y414 z414 st414 hQ414
  subst l414 y414 z414
  obtain ⟨rfl, N414q, hQ414⟩ := hQ414
  have N414 := Fr.app N400 N414q
  refine Rch.via (T' := T414) (g' := (mkF m 23 #[.val (.ref a1)] [(.int (0 : Int32)), (.ref b389)])) st414 ?_
  refine Rch.of (T' := T414) (g' := (mkF m 31 #[.val (.ref a1)] [(.ref b389)])) (fun _ kt => XS.ifYes X414.here hx rfl (pc0 := 23) (pc' := 31) rfl (hb hby d_prog_6_method_6_code_23) rfl ((if0 _ _).trans (teq ((by decide) : (0 : Int32) = (0 : Int32))).1) (by decide) (by decide) kt) ?_
  obtain ⟨T415, h415, X415, e415, E415, A415, D415, -, st415⟩ := newO X414 hx hZ hown (hw _ (List.mem_of_getElem? (i := 116) rfl)) (hw _ (List.mem_of_getElem? (i := 117) rfl)) (hw _ (List.mem_of_getElem? (i := 118) rfl)) hQ414 (g := (mkF m 31 #[.val (.ref a1)] [(.ref b389)])) rfl (hb hby d_prog_6_method_6_code_31) (by decide) (by decide)
  obtain ⟨b415, g415⟩ : ∃ zz_, zz_ = T400.heap.size := ⟨_, rfl⟩
  have ne_a1_b415 : a1 ≠ b415 := Nat.ne_of_lt (Nat.lt_of_lt_of_le (((((E1.ext E389).keep K390).ext E392).keep K393).keep K400).lt (Nat.le_of_eq g415.symm))
  have ne_nm_b415 : nm ≠ b415 := Nat.ne_of_lt (Nat.lt_of_lt_of_le (((((En0.ext E389).keep K390).ext E392).keep K393).keep K400).lt (Nat.le_of_eq g415.symm))
  have ne_nb_b415 : nb ≠ b415 := Nat.ne_of_lt (Nat.lt_of_lt_of_le Fb407.lt (Nat.le_of_eq g415.symm))
  have ne_vl_b415 : vl ≠ b415 := Nat.ne_of_lt (Nat.lt_of_lt_of_le (((((Ew0.ext E389).keep K390).ext E392).keep K393).keep K400).lt (Nat.le_of_eq g415.symm))
  have ne_vb_b415 : vb ≠ b415 := Nat.ne_of_lt (Nat.lt_of_lt_of_le Fb411.lt (Nat.le_of_eq g415.symm))
  have ne_b389_b415 : b389 ≠ b415 := Nat.ne_of_lt (Nat.lt_of_lt_of_le Ex400.lt (Nat.le_of_eq g415.symm))
  have ne_b390_b415 : b390 ≠ b415 := Nat.ne_of_lt (Nat.lt_of_lt_of_le V400.lt (Nat.le_of_eq g415.symm))
  have ne_s392_b415 : s392 ≠ b415 := Nat.ne_of_lt (Nat.lt_of_lt_of_le ((Ex392.keep K393).keep K400).lt (Nat.le_of_eq g415.symm))
  have ge_b415 : n0 ≤ b415 := Nat.le_trans (Nat.le_trans (Nat.le_trans (Nat.le_trans (Nat.le_trans (Nat.le_trans Z0 E389.1) K390.1) E392.1) K393.1) K400.1) (Nat.le_of_eq g415.symm)
  have sz_b415 : h0.size ≤ b415 := Nat.le_trans Fb413.1 (Nat.le_of_eq g415.symm)
  rw [← g415] at A415 D415 st415
  have Rb416 := ((Rb398.trans (CHr.keep K400 (allS Sf402 (allS Sf403 all0)) Rb398.1)).trans (CHr.ext E415 (Rb398.trans (CHr.keep K400 (allS Sf402 (allS Sf403 all0)) Rb398.1)).1))
  have F415_value : Fld Z h415 b415 "java/lang/AbstractStringBuilder" "value" "[B" .null := D415 (Or.inl (hw _ (List.mem_of_getElem? (i := 131) rfl))) (ty := (.array .byte)) (by decide)
  have F415_coder : Fld Z h415 b415 "java/lang/AbstractStringBuilder" "coder" "B" (.int (0 : Int32)) := D415 (Or.inl (hw _ (List.mem_of_getElem? (i := 133) rfl))) (ty := .byte) (by decide)
  have F415_count : Fld Z h415 b415 "java/lang/AbstractStringBuilder" "count" "I" (.int (0 : Int32)) := D415 (Or.inl (hw _ (List.mem_of_getElem? (i := 156) rfl))) (ty := .int) (by decide)
  refine Rch.of (T' := T415) (g' := (mkF m 34 #[.val (.ref a1)] [(.ref b415), (.ref b389)])) st415 ?_
  refine Rch.of (T' := T415) (g' := (mkF m 35 #[.val (.ref a1)] [(.ref b415), (.ref b415), (.ref b389)])) (fun _ kt => XS.dup X415.here hx rfl (hb hby d_prog_6_method_6_code_34) rfl rfl kt) ?_
  obtain ⟨_, _, ⟨T417, L417, k417, n417⟩, -, X417, ⟨Lc417, hQ417, l417, y417, z417⟩, st417⟩ := X415.specialBack hx (y := (⟨"java/lang/StringBuilder", "<init>", "()V"⟩ : MethodName)) rfl hown (mvT hZ (hw _ (List.mem_of_getElem? (i := 119) rfl))) (mvT hZ (hw _ (List.mem_of_getElem? (i := 120) rfl))) (mvT hZ (hw _ (List.mem_of_getElem? (i := 121) rfl))) (by decide) (backOf (W := 2) (rkB2 l Z a0 hw [] b415 .null (.int (0 : Int32)) cs h415 n0 (Nat.le_trans (Nat.le_trans (Nat.le_trans (Nat.le_trans (Nat.le_trans (Nat.le_trans Z0 E389.1) K390.1) E392.1) K393.1) K400.1) E415.1) A415 F415_value F415_coder F415_count ge_b415 (Fb412.ext E415) hcs) hZ (hw _ (List.mem_of_getElem? (i := 121) rfl)) (hw _ (List.mem_of_getElem? (i := 118) rfl)) (by decide) (by decide)) (g := (mkF m 35 #[.val (.ref a1)] [(.ref b415), (.ref b415), (.ref b389)])) rfl (by rw [hml]; rfl) (Steps.refl _) (a := b415) (argsL := []) (rest := [(.ref b415), (.ref b389)]) (lenOf pd_2 rfl) rfl (by show 2 * 0 + _ ≤ _; exact Nat.le_of_eq rfl) (hb hby d_prog_6_method_6_code_35) (fun _ _ => ⟨rfl, e415, (by decide : 5 + 1 ≤ _), (by decide : 32 + 16 ≤ _)⟩)
  dsimp only [Pt.U, Pt.locs, Pt.cells, Pt.slots] at X417 l417 y417 z417 st417 hQ417
  subst l417 y417 z417
  obtain ⟨rfl, N417q, hQ417⟩ := hQ417
  have N417 := Fr.app N414 N417q
  obtain ⟨K417, Ex417, Fa417, Fb417, Fc417, V417⟩ := hQ417
  obtain ⟨b417, g417⟩ : ∃ zz_, zz_ = h415.size := ⟨_, rfl⟩
  have ne_a1_b417 : a1 ≠ b417 := Nat.ne_of_lt (Nat.lt_of_lt_of_le ((((((E1.ext E389).keep K390).ext E392).keep K393).keep K400).ext E415).lt (Nat.le_of_eq g417.symm))
  have ne_nm_b417 : nm ≠ b417 := Nat.ne_of_lt (Nat.lt_of_lt_of_le ((((((En0.ext E389).keep K390).ext E392).keep K393).keep K400).ext E415).lt (Nat.le_of_eq g417.symm))
  have ne_nb_b417 : nb ≠ b417 := Nat.ne_of_lt (Nat.lt_of_lt_of_le (Fb407.ext E415).lt (Nat.le_of_eq g417.symm))
  have ne_vl_b417 : vl ≠ b417 := Nat.ne_of_lt (Nat.lt_of_lt_of_le ((((((Ew0.ext E389).keep K390).ext E392).keep K393).keep K400).ext E415).lt (Nat.le_of_eq g417.symm))
  have ne_vb_b417 : vb ≠ b417 := Nat.ne_of_lt (Nat.lt_of_lt_of_le (Fb411.ext E415).lt (Nat.le_of_eq g417.symm))
  have ne_b389_b417 : b389 ≠ b417 := Nat.ne_of_lt (Nat.lt_of_lt_of_le (Ex400.ext E415).lt (Nat.le_of_eq g417.symm))
  have ne_b390_b417 : b390 ≠ b417 := Nat.ne_of_lt (Nat.lt_of_lt_of_le (V400.ext E415).lt (Nat.le_of_eq g417.symm))
  have ne_s392_b417 : s392 ≠ b417 := Nat.ne_of_lt (Nat.lt_of_lt_of_le (((Ex392.keep K393).keep K400).ext E415).lt (Nat.le_of_eq g417.symm))
  have ne_b415_b417 : b415 ≠ b417 := Nat.ne_of_lt (Nat.lt_of_lt_of_le A415.lt (Nat.le_of_eq g417.symm))
  have ge_b417 : n0 ≤ b417 := Nat.le_trans (Nat.le_trans (Nat.le_trans (Nat.le_trans (Nat.le_trans (Nat.le_trans (Nat.le_trans Z0 E389.1) K390.1) E392.1) K393.1) K400.1) E415.1) (Nat.le_of_eq g417.symm)
  have sz_b417 : h0.size ≤ b417 := Nat.le_trans (Fb413.ext E415).1 (Nat.le_of_eq g417.symm)
  rw [← g417] at Fa417 V417
  have Sf418 : Safe Z consts_1 T392.vm h415 b415 := (Safe.exa hZ.alike A415 (by decide) (by decide))
  have Fb419 := (Safe.keep K417 (allS Sf418 all0) Rb416.1 (Safe.ext E415 (Rb398.trans (CHr.keep K400 (allS Sf402 (allS Sf403 all0)) Rb398.1)).1 (Safe.keep K400 (allS Sf402 (allS Sf403 all0)) Rb398.1 Fb397)))
  refine Rch.via (T' := T417) (g' := (mkF m 38 #[.val (.ref a1)] [(.ref b415), (.ref b389)])) st417 ?_
  obtain ⟨s420, T420, h420, k420, sb420, kc420, X420, e420, E420, hS420, hk420, hZ, hown, Ex420, Fa420, Fb420, Ar420, la420, lb420, cr420, Lt420, sf420, st420⟩ := ldcCH (s := s) (vm0 := T392.vm) X417 hx hZ hown (hw _ (List.mem_of_getElem? (i := 183) rfl)) wS rfl hS392 (Nat.le_trans (Nat.le_trans (Nat.le_trans (Nat.le_trans hk392 K393.1) K400.1) E415.1) K417.1) hEL (List.mem_of_getElem? (i := 3) rfl) (Rb416.trans (CHr.keep K417 (allS Sf418 all0) Rb416.1)).1 (z := (1 : Int32)) own_t3_ok.1 (by decide) (by decide) (g := (mkF m 38 #[.val (.ref a1)] [(.ref b415), (.ref b389)])) rfl (hb hby d_prog_6_method_6_code_38) (n := 4) (by decide) (by decide) (by decide) (by decide)
  have Fb421 := (Nat.le_trans (Nat.le_trans (Nat.le_trans (Nat.le_trans (Nat.le_trans (Nat.le_trans (Nat.le_trans (Nat.le_trans Z0 E389.1) K390.1) E392.1) K393.1) K400.1) E415.1) K417.1) E420.1)
  have V420 : Av Z h420 sb420 .byte 1 (fun q => .int ((own_t3 q).toInt8.toInt32)) := (Arv.av Ar420 (by decide)).congr own_t3_ok.2
  have nl_b390_420 := sf420 b390 (CHr.safe cr420 ((V400.ext E415).keep K417 (ninS ne_b390_b415 nin0)).lt Fb419)
  have nl_b417_420 := sf420 b417 (CHr.safe cr420 V417.lt (Safe.keep K417 (allS Sf418 all0) Rb416.1 (Safe.new (Nat.le_of_eq g417.symm))))
  refine Rch.of (T' := T420) (g' := (mkF m 40 #[.val (.ref a1)] [(.ref s420), (.ref b415), (.ref b389)])) st420 ?_
  have pr423 : 0 + 1 ≤ 16 := by omega
  obtain ⟨cq422, kq422, q422a, q422b, q422c⟩ := isOf hZ e420 (Ex417.ext E420)
  obtain ⟨_, _, ⟨T422, L422, k422, n422⟩, -, X422, ⟨Lc422, hQ422, l422, y422, z422⟩, st422⟩ := X420.virtualBack hx (y := (⟨"java/lang/StringBuilder", "append", "(Ljava/lang/String;)Ljava/lang/StringBuilder;"⟩ : MethodName)) (z := (⟨"java/lang/StringBuilder", "append", "(Ljava/lang/String;)Ljava/lang/StringBuilder;"⟩ : MethodName)) hown (mvT hZ (hw _ (List.mem_of_getElem? (i := 135) rfl))) (mvT hZ (hw _ (List.mem_of_getElem? (i := 136) rfl))) (notFace_of_selects (args := #[]) (mvT hZ (hw _ (List.mem_of_getElem? (i := 138) rfl)))) (mvT hZ (hw _ (List.mem_of_getElem? (i := 138) rfl))) (mvT hZ (hw _ (List.mem_of_getElem? (i := 137) rfl))) (by decide) (backOf (W := 1) (rkAS l Z a0 hw [] b415 b417 0 own_z0 s420 sb420 1 own_t3 cs h420 n0 Fb421 (Ex417.ext E420) (Fa417.ext E420) (Fb417.ext E420) (Fc417.ext E420) (V417.ext E420) ge_b415 ge_b417 ne_b415_b417 Ex420 Fa420 Fb420 V420 pr423 ((own_sta (Fb412.ext E415) K417 (nsS (Exa.nostat A415) ns0)).ext E420) hcs) hZ (hw _ (List.mem_of_getElem? (i := 139) rfl)) (hw _ (List.mem_of_getElem? (i := 118) rfl)) (by decide) (by decide)) q422a q422c (g := (mkF m 40 #[.val (.ref a1)] [(.ref s420), (.ref b415), (.ref b389)])) rfl (by rw [hml]; rfl) (Steps.refl _) (argsL := [(.ref s420)]) (rest := [(.ref b389)]) (lenOf pd_18 rfl) rfl (by show 2 * 0 + _ ≤ _; exact Nat.le_of_eq rfl) (hb hby d_prog_6_method_6_code_40) (fun _ _ => ⟨rfl, e420, (by decide : 8 + 0 ≤ _), (by decide : 56 + 0 ≤ _)⟩)
  dsimp only [Pt.U, Pt.locs, Pt.cells, Pt.slots] at X422 l422 y422 z422 st422 hQ422
  subst l422 y422 z422
  obtain ⟨rt422, rfl, N422q, hQ422⟩ := hQ422
  have N422 := Fr.app N417 N422q
  obtain ⟨K422, Ex422, Fa422, Fb422, Fc422, V422, Ea422, Eb422⟩ := hQ422
  have Sf424 : Safe Z consts_1 T420.vm h420 b415 := (Safe.exa hZ.alike (Ex417.ext E420) (by decide) (by decide))
  have Sf425 : Safe Z consts_1 T420.vm h420 b417 := (CHr.safe cr420 V417.lt (Safe.keep K417 (allS Sf418 all0) Rb416.1 (Safe.new (Nat.le_of_eq g417.symm))))
  have Fb426 := (Safe.keep K422 (allS Sf424 (allS Sf425 all0)) ((Rb416.trans (CHr.keep K417 (allS Sf418 all0) Rb416.1)).trans cr420).1 (CHr.safe cr420 ((V400.ext E415).keep K417 (ninS ne_b390_b415 nin0)).lt Fb419))
  have Fb427 := (Safe.keep K422 (allS Sf424 (allS Sf425 all0)) ((Rb416.trans (CHr.keep K417 (allS Sf418 all0) Rb416.1)).trans cr420).1 (CHr.safe cr420 V417.lt (Safe.keep K417 (allS Sf418 all0) Rb416.1 (Safe.new (Nat.le_of_eq g417.symm)))))
  have Rb428 := (((Rb416.trans (CHr.keep K417 (allS Sf418 all0) Rb416.1)).trans cr420).trans (CHr.keep K422 (allS Sf424 (allS Sf425 all0)) ((Rb416.trans (CHr.keep K417 (allS Sf418 all0) Rb416.1)).trans cr420).1))
  have Ch422 : own_ch (0 + 1) rt422 := own_apch (fun q hq => absurd hq (Nat.not_lt_zero q)) own_ch_own_t3 Ea422 Eb422
  refine Rch.via (T' := T422) (g' := (mkF m 43 #[.val (.ref a1)] [(.ref b415), (.ref b389)])) st422 ?_
  refine Rch.of (T' := T422) (g' := (mkF m 44 #[.val (.ref a1)] [(.ref a1), (.ref b415), (.ref b389)])) (fun _ kt => XS.aloadN X422.here hx rfl (hb hby d_prog_6_method_6_code_43) rfl rfl kt) ?_
  obtain ⟨T429, X429, e429, st429⟩ := getF X422 hx hZ hown (host := "") (Or.inl (hw _ (List.mem_of_getElem? (i := 63) rfl))) Via.refl rfl ((((Fb408.ext E415).keep K417 (ninS ne_a1_b415 nin0)).ext E420).keep K422 (ninS ne_a1_b415 (ninS ne_a1_b417 nin0))) (g := (mkF m 44 #[.val (.ref a1)] [(.ref a1), (.ref b415), (.ref b389)])) rfl rfl (hb hby d_prog_6_method_6_code_44)
  refine Rch.of (T' := T429) (g' := (mkF m 47 #[.val (.ref a1)] [(.ref vl), (.ref b415), (.ref b389)])) st429 ?_
  have pr431 : (0 + 1) + nv ≤ 16 := by omega
  obtain ⟨cq430, kq430, q430a, q430b, q430c⟩ := isOf hZ e429 Ex422
  obtain ⟨_, _, ⟨T430, L430, k430, n430⟩, -, X430, ⟨Lc430, hQ430, l430, y430, z430⟩, st430⟩ := X429.virtualBack hx (y := (⟨"java/lang/StringBuilder", "append", "(Ljava/lang/String;)Ljava/lang/StringBuilder;"⟩ : MethodName)) (z := (⟨"java/lang/StringBuilder", "append", "(Ljava/lang/String;)Ljava/lang/StringBuilder;"⟩ : MethodName)) hown (mvT hZ (hw _ (List.mem_of_getElem? (i := 135) rfl))) (mvT hZ (hw _ (List.mem_of_getElem? (i := 136) rfl))) (notFace_of_selects (args := #[]) (mvT hZ (hw _ (List.mem_of_getElem? (i := 138) rfl)))) (mvT hZ (hw _ (List.mem_of_getElem? (i := 138) rfl))) (mvT hZ (hw _ (List.mem_of_getElem? (i := 137) rfl))) (by decide) (backOf (W := 1) (rkAS l Z a0 hw [] b415 b417 (0 + 1) rt422 vl vb nv yv cs T422.heap n0 (Nat.le_trans Fb421 K422.1) Ex422 Fa422 Fb422 Fc422 V422 ge_b415 ge_b417 ne_b415_b417 (((((((((Ew0.ext E389).keep K390).ext E392).keep K393).keep K400).ext E415).keep K417).ext E420).keep K422) ((((Fb409.ext E415).keep K417 (ninS ne_vl_b415 nin0)).ext E420).keep K422 (ninS ne_vl_b415 (ninS ne_vl_b417 nin0))) ((((Fb410.ext E415).keep K417 (ninS ne_vl_b415 nin0)).ext E420).keep K422 (ninS ne_vl_b415 (ninS ne_vl_b417 nin0))) ((((Fb411.ext E415).keep K417 (ninS ne_vb_b415 nin0)).ext E420).keep K422 (ninS ne_vb_b415 (ninS ne_vb_b417 nin0))) pr431 (own_sta ((own_sta (Fb412.ext E415) K417 (nsS (Exa.nostat A415) ns0)).ext E420) K422 (nsS (Exa.nostat (Ex417.ext E420)) (nsS (Av.nostat (V417.ext E420)) ns0))) hcs) hZ (hw _ (List.mem_of_getElem? (i := 139) rfl)) (hw _ (List.mem_of_getElem? (i := 118) rfl)) (by decide) (by decide)) q430a q430c (g := (mkF m 47 #[.val (.ref a1)] [(.ref vl), (.ref b415), (.ref b389)])) rfl (by rw [hml]; rfl) (Steps.refl _) (argsL := [(.ref vl)]) (rest := [(.ref b389)]) (lenOf pd_18 rfl) rfl (by show 2 * 0 + _ ≤ _; exact Nat.le_of_eq rfl) (hb hby d_prog_6_method_6_code_47) (fun _ _ => ⟨rfl, e429, (by decide : 8 + 0 ≤ _), (by decide : 56 + 0 ≤ _)⟩)
  dsimp only [Pt.U, Pt.locs, Pt.cells, Pt.slots] at X430 l430 y430 z430 st430 hQ430
  subst l430 y430 z430
  obtain ⟨rt430, rfl, N430q, hQ430⟩ := hQ430
  have N430 := Fr.app N422 N430q
  obtain ⟨K430, Ex430, Fa430, Fb430, Fc430, V430, Ea430, Eb430⟩ := hQ430
  have Sf432 : Safe Z consts_1 T420.vm T422.heap b415 := (Safe.exa hZ.alike Ex422 (by decide) (by decide))
  have Sf433 : Safe Z consts_1 T420.vm T422.heap b417 := Fb427
  have Fb434 := (((((Fb404.ext E415).keep K417 (ninS ne_a1_b415 nin0)).ext E420).keep K422 (ninS ne_a1_b415 (ninS ne_a1_b417 nin0))).keep K430 (ninS ne_a1_b415 (ninS ne_a1_b417 nin0)))
  have Fb435 := (((((Fb405.ext E415).keep K417 (ninS ne_nm_b415 nin0)).ext E420).keep K422 (ninS ne_nm_b415 (ninS ne_nm_b417 nin0))).keep K430 (ninS ne_nm_b415 (ninS ne_nm_b417 nin0)))
  have Fb436 := (((((Fb406.ext E415).keep K417 (ninS ne_nm_b415 nin0)).ext E420).keep K422 (ninS ne_nm_b415 (ninS ne_nm_b417 nin0))).keep K430 (ninS ne_nm_b415 (ninS ne_nm_b417 nin0)))
  have Fb437 := (((((Fb407.ext E415).keep K417 (ninS ne_nb_b415 nin0)).ext E420).keep K422 (ninS ne_nb_b415 (ninS ne_nb_b417 nin0))).keep K430 (ninS ne_nb_b415 (ninS ne_nb_b417 nin0)))
  have Fb438 := (((((Fb408.ext E415).keep K417 (ninS ne_a1_b415 nin0)).ext E420).keep K422 (ninS ne_a1_b415 (ninS ne_a1_b417 nin0))).keep K430 (ninS ne_a1_b415 (ninS ne_a1_b417 nin0)))
  have Fb439 := (((((Fb409.ext E415).keep K417 (ninS ne_vl_b415 nin0)).ext E420).keep K422 (ninS ne_vl_b415 (ninS ne_vl_b417 nin0))).keep K430 (ninS ne_vl_b415 (ninS ne_vl_b417 nin0)))
  have Fb440 := (((((Fb410.ext E415).keep K417 (ninS ne_vl_b415 nin0)).ext E420).keep K422 (ninS ne_vl_b415 (ninS ne_vl_b417 nin0))).keep K430 (ninS ne_vl_b415 (ninS ne_vl_b417 nin0)))
  have Fb441 := (((((Fb411.ext E415).keep K417 (ninS ne_vb_b415 nin0)).ext E420).keep K422 (ninS ne_vb_b415 (ninS ne_vb_b417 nin0))).keep K430 (ninS ne_vb_b415 (ninS ne_vb_b417 nin0)))
  have Fb442 := (own_sta (own_sta ((own_sta (Fb412.ext E415) K417 (nsS (Exa.nostat A415) ns0)).ext E420) K422 (nsS (Exa.nostat (Ex417.ext E420)) (nsS (Av.nostat (V417.ext E420)) ns0))) K430 (nsS (Exa.nostat Ex422) (nsS (Av.nostat V422) ns0)))
  have Fb443 := (((((Fa400.ext E415).keep K417 (ninS ne_b389_b415 nin0)).ext E420).keep K422 (ninS ne_b389_b415 (ninS ne_b389_b417 nin0))).keep K430 (ninS ne_b389_b415 (ninS ne_b389_b417 nin0)))
  have Fb444 := (((((Fb400.ext E415).keep K417 (ninS ne_b389_b415 nin0)).ext E420).keep K422 (ninS ne_b389_b415 (ninS ne_b389_b417 nin0))).keep K430 (ninS ne_b389_b415 (ninS ne_b389_b417 nin0)))
  have Fb445 := (((((Fc400.ext E415).keep K417 (ninS ne_b389_b415 nin0)).ext E420).keep K422 (ninS ne_b389_b415 (ninS ne_b389_b417 nin0))).keep K430 (ninS ne_b389_b415 (ninS ne_b389_b417 nin0)))
  have Fb446 := (((((V400.ext E415).keep K417 (ninS ne_b390_b415 nin0)).ext E420).keep K422 (ninS ne_b390_b415 (ninS ne_b390_b417 nin0))).keep K430 (ninS ne_b390_b415 (ninS ne_b390_b417 nin0)))
  have Fb447 := (((((Fb413.ext E415).trans K417 (allS (Or.inr sz_b415) all0)).ext E420).trans K422 (allS (Or.inr sz_b415) (allS (Or.inr sz_b417) all0))).trans K430 (allS (Or.inr sz_b415) (allS (Or.inr sz_b417) all0)))
  have Ch430 : own_ch ((0 + 1) + nv) rt430 := own_apch Ch422 hyv Ea430 Eb430
  refine Rch.via (T' := T430) (g' := (mkF m 50 #[.val (.ref a1)] [(.ref b415), (.ref b389)])) st430 ?_
  have pr449 : ((0 + 1) + nv) ≤ 15 := by omega
  obtain ⟨cq448, kq448, q448a, q448b, q448c⟩ := isOf hZ rfl Ex430
  obtain ⟨_, _, ⟨T448, L448, k448, n448⟩, -, X448, ⟨Lc448, hQ448, l448, y448, z448⟩, st448⟩ := X430.virtualBack hx (y := (⟨"java/lang/StringBuilder", "toString", "()Ljava/lang/String;"⟩ : MethodName)) (z := (⟨"java/lang/StringBuilder", "toString", "()Ljava/lang/String;"⟩ : MethodName)) hown (mvT hZ (hw _ (List.mem_of_getElem? (i := 184) rfl))) (mvT hZ (hw _ (List.mem_of_getElem? (i := 185) rfl))) (notFace_of_selects (args := #[]) (mvT hZ (hw _ (List.mem_of_getElem? (i := 187) rfl)))) (mvT hZ (hw _ (List.mem_of_getElem? (i := 187) rfl))) (mvT hZ (hw _ (List.mem_of_getElem? (i := 186) rfl))) (by decide) (backOf (W := 1) (rkTS l Z a0 hw [] b415 b417 ((0 + 1) + nv) rt430 cs T430.heap n0 (Nat.le_trans (Nat.le_trans Fb421 K422.1) K430.1) Ex430 Fa430 Fb430 Fc430 V430 pr449 Fb442 hcs) hZ (hw _ (List.mem_of_getElem? (i := 188) rfl)) (hw _ (List.mem_of_getElem? (i := 118) rfl)) (by decide) (by decide)) q448a q448c (g := (mkF m 50 #[.val (.ref a1)] [(.ref b415), (.ref b389)])) rfl (by rw [hml]; rfl) (Steps.refl _) (argsL := []) (rest := [(.ref b389)]) (lenOf pd_16 rfl) rfl (by show 2 * 0 + _ ≤ _; exact Nat.le_of_eq rfl) (hb hby d_prog_6_method_6_code_50) (fun _ _ => ⟨rfl, rfl, (by decide : 8 + 2 ≤ _), (by decide : 56 + 20 ≤ _)⟩)
  dsimp only [Pt.U, Pt.locs, Pt.cells, Pt.slots] at X448 l448 y448 z448 st448 hQ448
  subst l448 y448 z448
  obtain ⟨rr448, rb448, rt448, rfl, N448q, hQ448⟩ := hQ448
  have N448 := Fr.app N430 N448q
  obtain ⟨K448, Ex448, Fa448, Fb448, V448, Eq448⟩ := hQ448
  have Rb450 := ((Rb428.trans (CHr.keep K430 (allS Sf432 (allS Sf433 all0)) Rb428.1)).trans (CHr.keep K448 all0 (Rb428.trans (CHr.keep K430 (allS Sf432 (allS Sf433 all0)) Rb428.1)).1))
  have Ch448 : own_ch ((0 + 1) + nv) rt448 := fun q hq => by rw [Eq448 q hq]; exact Ch430 q hq
  refine Rch.via (T' := T448) (g' := (mkF m 53 #[.val (.ref a1)] [(.ref rr448), (.ref b389)])) st448 ?_
  have pr452 : ((0 + 1) + 2) + ((0 + 1) + nv) ≤ 16 := by omega
  obtain ⟨cq451, kq451, q451a, q451b, q451c⟩ := isOf hZ rfl ((((((Ex400.ext E415).keep K417).ext E420).keep K422).keep K430).keep K448)
  obtain ⟨_, _, ⟨T451, L451, k451, n451⟩, -, X451, ⟨Lc451, hQ451, l451, y451, z451⟩, st451⟩ := X448.virtualBack hx (y := (⟨"java/lang/StringBuilder", "append", "(Ljava/lang/String;)Ljava/lang/StringBuilder;"⟩ : MethodName)) (z := (⟨"java/lang/StringBuilder", "append", "(Ljava/lang/String;)Ljava/lang/StringBuilder;"⟩ : MethodName)) hown (mvT hZ (hw _ (List.mem_of_getElem? (i := 135) rfl))) (mvT hZ (hw _ (List.mem_of_getElem? (i := 136) rfl))) (notFace_of_selects (args := #[]) (mvT hZ (hw _ (List.mem_of_getElem? (i := 138) rfl)))) (mvT hZ (hw _ (List.mem_of_getElem? (i := 138) rfl))) (mvT hZ (hw _ (List.mem_of_getElem? (i := 137) rfl))) (by decide) (backOf (W := 0) (rkAS l Z a0 hw [] b389 b390 ((0 + 1) + 2) rt400 rr448 rb448 ((0 + 1) + nv) rt448 cs T448.heap n0 (Nat.le_trans (Nat.le_trans (Nat.le_trans Fb421 K422.1) K430.1) K448.1) ((((((Ex400.ext E415).keep K417).ext E420).keep K422).keep K430).keep K448) (Fb443.keep K448 nin0) (Fb444.keep K448 nin0) (Fb445.keep K448 nin0) (Fb446.keep K448 nin0) ge_b389 ge_b390 ne_b389_b390 Ex448 Fa448 Fb448 V448 pr452 (own_sta Fb442 K448 ns0) hcs) hZ (hw _ (List.mem_of_getElem? (i := 139) rfl)) (hw _ (List.mem_of_getElem? (i := 118) rfl)) (by decide) (by decide)) q451a q451c (g := (mkF m 53 #[.val (.ref a1)] [(.ref rr448), (.ref b389)])) rfl (by rw [hml]; rfl) (Steps.refl _) (argsL := [(.ref rr448)]) (rest := []) (lenOf pd_18 rfl) rfl (by show 2 * 0 + _ ≤ _; exact Nat.le_of_eq rfl) (hb hby d_prog_6_method_6_code_53) (fun _ _ => ⟨rfl, rfl, (by decide : 10 + 0 ≤ _), (by decide : 76 + 0 ≤ _)⟩)
  dsimp only [Pt.U, Pt.locs, Pt.cells, Pt.slots] at X451 l451 y451 z451 st451 hQ451
  subst l451 y451 z451
  obtain ⟨rt451, rfl, N451q, hQ451⟩ := hQ451
  have N451 := Fr.app N448 N451q
  obtain ⟨K451, Ex451, Fa451, Fb451, Fc451, V451, Ea451, Eb451⟩ := hQ451
  have Sf453 : Safe Z consts_1 T420.vm T448.heap b389 := (Safe.exa hZ.alike ((((((Ex400.ext E415).keep K417).ext E420).keep K422).keep K430).keep K448) (by decide) (by decide))
  have Sf454 : Safe Z consts_1 T420.vm T448.heap b390 := (Safe.keep K448 all0 (Rb428.trans (CHr.keep K430 (allS Sf432 (allS Sf433 all0)) Rb428.1)).1 (Safe.keep K430 (allS Sf432 (allS Sf433 all0)) Rb428.1 Fb426))
  have Fb455 := (Safe.keep K451 (allS Sf453 (allS Sf454 all0)) Rb450.1 (Safe.keep K448 all0 (Rb428.trans (CHr.keep K430 (allS Sf432 (allS Sf433 all0)) Rb428.1)).1 (Safe.keep K430 (allS Sf432 (allS Sf433 all0)) Rb428.1 Fb426)))
  have Fb456 := (Safe.keep K451 (allS Sf453 (allS Sf454 all0)) Rb450.1 (Safe.keep K448 all0 (Rb428.trans (CHr.keep K430 (allS Sf432 (allS Sf433 all0)) Rb428.1)).1 (Safe.keep K430 (allS Sf432 (allS Sf433 all0)) Rb428.1 Fb427)))
  have Fb457 := (own_sta (own_sta Fb442 K448 ns0) K451 (nsS (Exa.nostat ((((((Ex400.ext E415).keep K417).ext E420).keep K422).keep K430).keep K448)) (nsS (Av.nostat (Fb446.keep K448 nin0)) ns0)))
  have Ch451 : own_ch (((0 + 1) + 2) + ((0 + 1) + nv)) rt451 := own_apch Ch400 Ch448 Ea451 Eb451
  refine Rch.via (T' := T451) (g' := (mkF m 56 #[.val (.ref a1)] [(.ref b389)])) st451 ?_
  obtain ⟨s458, T458, h458, k458, sb458, kc458, X458, e458, E458, hS458, hk458, hZ, hown, Ex458, Fa458, Fb458, Ar458, la458, lb458, cr458, Lt458, sf458, st458⟩ := ldcCH (s := s) (vm0 := T420.vm) X451 hx hZ hown (hw _ (List.mem_of_getElem? (i := 229) rfl)) wS rfl hS420 (Nat.le_trans (Nat.le_trans (Nat.le_trans (Nat.le_trans hk420 K422.1) K430.1) K448.1) K451.1) hEL (List.mem_of_getElem? (i := 4) rfl) (Rb450.trans (CHr.keep K451 (allS Sf453 (allS Sf454 all0)) Rb450.1)).1 (z := (1 : Int32)) own_t4_ok.1 (by decide) (by decide) (g := (mkF m 56 #[.val (.ref a1)] [(.ref b389)])) rfl (hb hby d_prog_6_method_6_code_56) (n := 4) (by decide) (by decide) (by decide) (by decide)
  have V458 : Av Z h458 sb458 .byte 1 (fun q => .int ((own_t4 q).toInt8.toInt32)) := (Arv.av Ar458 (by decide)).congr own_t4_ok.2
  have nl_b390_458 := sf458 b390 (CHr.safe cr458 V451.lt Fb455)
  have nl_b417_458 := sf458 b417 (CHr.safe cr458 ((V430.keep K448 nin0).keep K451 (ninS (Ne.symm ne_b389_b417) (ninS (Ne.symm ne_b390_b417) nin0))).lt Fb456)
  refine Rch.of (T' := T458) (g' := (mkF m 58 #[.val (.ref a1)] [(.ref s458), (.ref b389)])) st458 ?_
  have pr460 : (((0 + 1) + 2) + ((0 + 1) + nv)) + 1 ≤ 16 := by omega
  obtain ⟨cq459, kq459, q459a, q459b, q459c⟩ := isOf hZ e458 (Ex451.ext E458)
  obtain ⟨_, _, ⟨T459, L459, k459, n459⟩, -, X459, ⟨Lc459, hQ459, l459, y459, z459⟩, st459⟩ := X458.virtualBack hx (y := (⟨"java/lang/StringBuilder", "append", "(Ljava/lang/String;)Ljava/lang/StringBuilder;"⟩ : MethodName)) (z := (⟨"java/lang/StringBuilder", "append", "(Ljava/lang/String;)Ljava/lang/StringBuilder;"⟩ : MethodName)) hown (mvT hZ (hw _ (List.mem_of_getElem? (i := 135) rfl))) (mvT hZ (hw _ (List.mem_of_getElem? (i := 136) rfl))) (notFace_of_selects (args := #[]) (mvT hZ (hw _ (List.mem_of_getElem? (i := 138) rfl)))) (mvT hZ (hw _ (List.mem_of_getElem? (i := 138) rfl))) (mvT hZ (hw _ (List.mem_of_getElem? (i := 137) rfl))) (by decide) (backOf (W := 0) (rkAS l Z a0 hw [] b389 b390 (((0 + 1) + 2) + ((0 + 1) + nv)) rt451 s458 sb458 1 own_t4 cs h458 n0 (Nat.le_trans (Nat.le_trans (Nat.le_trans (Nat.le_trans (Nat.le_trans Fb421 K422.1) K430.1) K448.1) K451.1) E458.1) (Ex451.ext E458) (Fa451.ext E458) (Fb451.ext E458) (Fc451.ext E458) (V451.ext E458) ge_b389 ge_b390 ne_b389_b390 Ex458 Fa458 Fb458 V458 pr460 (Fb457.ext E458) hcs) hZ (hw _ (List.mem_of_getElem? (i := 139) rfl)) (hw _ (List.mem_of_getElem? (i := 118) rfl)) (by decide) (by decide)) q459a q459c (g := (mkF m 58 #[.val (.ref a1)] [(.ref s458), (.ref b389)])) rfl (by rw [hml]; rfl) (Steps.refl _) (argsL := [(.ref s458)]) (rest := []) (lenOf pd_18 rfl) rfl (by show 2 * 0 + _ ≤ _; exact Nat.le_of_eq rfl) (hb hby d_prog_6_method_6_code_58) (fun _ _ => ⟨rfl, e458, (by decide : 12 + 0 ≤ _), (by decide : 84 + 0 ≤ _)⟩)
  dsimp only [Pt.U, Pt.locs, Pt.cells, Pt.slots] at X459 l459 y459 z459 st459 hQ459
  subst l459 y459 z459
  obtain ⟨rt459, rfl, N459q, hQ459⟩ := hQ459
  have N459 := Fr.app N451 N459q
  obtain ⟨K459, Ex459, Fa459, Fb459, Fc459, V459, Ea459, Eb459⟩ := hQ459
  have Sf461 : Safe Z consts_1 T458.vm h458 b389 := (Safe.exa hZ.alike (Ex451.ext E458) (by decide) (by decide))
  have Sf462 : Safe Z consts_1 T458.vm h458 b390 := (CHr.safe cr458 V451.lt Fb455)
  have Fb463 := (Safe.keep K459 (allS Sf461 (allS Sf462 all0)) ((Rb450.trans (CHr.keep K451 (allS Sf453 (allS Sf454 all0)) Rb450.1)).trans cr458).1 (CHr.safe cr458 V451.lt Fb455))
  have Fb464 := (Safe.keep K459 (allS Sf461 (allS Sf462 all0)) ((Rb450.trans (CHr.keep K451 (allS Sf453 (allS Sf454 all0)) Rb450.1)).trans cr458).1 (CHr.safe cr458 ((V430.keep K448 nin0).keep K451 (ninS (Ne.symm ne_b389_b417) (ninS (Ne.symm ne_b390_b417) nin0))).lt Fb456))
  have Rb465 := (((Rb450.trans (CHr.keep K451 (allS Sf453 (allS Sf454 all0)) Rb450.1)).trans cr458).trans (CHr.keep K459 (allS Sf461 (allS Sf462 all0)) ((Rb450.trans (CHr.keep K451 (allS Sf453 (allS Sf454 all0)) Rb450.1)).trans cr458).1))
  have Fb466 := ((((((((((((((E1.ext E389).keep K390).ext E392).keep K393).keep K400).ext E415).keep K417).ext E420).keep K422).keep K430).keep K448).keep K451).ext E458).keep K459)
  have Fb467 := ((((((((((((((En0.ext E389).keep K390).ext E392).keep K393).keep K400).ext E415).keep K417).ext E420).keep K422).keep K430).keep K448).keep K451).ext E458).keep K459)
  have Fb468 := ((((((((((((((Ew0.ext E389).keep K390).ext E392).keep K393).keep K400).ext E415).keep K417).ext E420).keep K422).keep K430).keep K448).keep K451).ext E458).keep K459)
  have Fb469 := ((((Fa430.keep K448 nin0).keep K451 (ninS (Ne.symm ne_b389_b415) (ninS (Ne.symm ne_b390_b415) nin0))).ext E458).keep K459 (ninS (Ne.symm ne_b389_b415) (ninS (Ne.symm ne_b390_b415) nin0)))
  have Fb470 := ((((Fb430.keep K448 nin0).keep K451 (ninS (Ne.symm ne_b389_b415) (ninS (Ne.symm ne_b390_b415) nin0))).ext E458).keep K459 (ninS (Ne.symm ne_b389_b415) (ninS (Ne.symm ne_b390_b415) nin0)))
  have Fb471 := ((((Fc430.keep K448 nin0).keep K451 (ninS (Ne.symm ne_b389_b415) (ninS (Ne.symm ne_b390_b415) nin0))).ext E458).keep K459 (ninS (Ne.symm ne_b389_b415) (ninS (Ne.symm ne_b390_b415) nin0)))
  have Fb472 := ((((V430.keep K448 nin0).keep K451 (ninS (Ne.symm ne_b389_b417) (ninS (Ne.symm ne_b390_b417) nin0))).ext E458).keep K459 (ninS (Ne.symm ne_b389_b417) (ninS (Ne.symm ne_b390_b417) nin0)))
  have Fb473 := ((((Fb447.trans K448 all0).trans K451 (allS (Or.inr sz_b389) (allS (Or.inr sz_b390) all0))).ext E458).trans K459 (allS (Or.inr sz_b389) (allS (Or.inr sz_b390) all0)))
  have Ch459 : own_ch ((((0 + 1) + 2) + ((0 + 1) + nv)) + 1) rt459 := own_apch Ch451 own_ch_own_t4 Ea459 Eb459
  refine Rch.via (T' := T459) (g' := (mkF m 61 #[.val (.ref a1)] [(.ref b389)])) st459 ?_
  have pr475 : ((((0 + 1) + 2) + ((0 + 1) + nv)) + 1) ≤ 15 := by omega
  obtain ⟨cq474, kq474, q474a, q474b, q474c⟩ := isOf hZ rfl Ex459
  obtain ⟨_, _, ⟨T474, L474, k474, n474⟩, -, X474, ⟨Lc474, hQ474, l474, y474, z474⟩, st474⟩ := X459.virtualBack hx (y := (⟨"java/lang/StringBuilder", "toString", "()Ljava/lang/String;"⟩ : MethodName)) (z := (⟨"java/lang/StringBuilder", "toString", "()Ljava/lang/String;"⟩ : MethodName)) hown (mvT hZ (hw _ (List.mem_of_getElem? (i := 184) rfl))) (mvT hZ (hw _ (List.mem_of_getElem? (i := 185) rfl))) (notFace_of_selects (args := #[]) (mvT hZ (hw _ (List.mem_of_getElem? (i := 187) rfl)))) (mvT hZ (hw _ (List.mem_of_getElem? (i := 187) rfl))) (mvT hZ (hw _ (List.mem_of_getElem? (i := 186) rfl))) (by decide) (backOf (W := 0) (rkTS l Z a0 hw [] b389 b390 ((((0 + 1) + 2) + ((0 + 1) + nv)) + 1) rt459 cs T459.heap n0 (Nat.le_trans (Nat.le_trans (Nat.le_trans (Nat.le_trans (Nat.le_trans (Nat.le_trans Fb421 K422.1) K430.1) K448.1) K451.1) E458.1) K459.1) Ex459 Fa459 Fb459 Fc459 V459 pr475 (own_sta (Fb457.ext E458) K459 (nsS (Exa.nostat (Ex451.ext E458)) (nsS (Av.nostat (V451.ext E458)) ns0))) hcs) hZ (hw _ (List.mem_of_getElem? (i := 188) rfl)) (hw _ (List.mem_of_getElem? (i := 118) rfl)) (by decide) (by decide)) q474a q474c (g := (mkF m 61 #[.val (.ref a1)] [(.ref b389)])) rfl (by rw [hml]; rfl) (Steps.refl _) (argsL := []) (rest := []) (lenOf pd_16 rfl) rfl (by show 2 * 0 + _ ≤ _; exact Nat.le_of_eq rfl) (hb hby d_prog_6_method_6_code_61) (fun _ _ => ⟨rfl, rfl, (by decide : 12 + 2 ≤ _), (by decide : 84 + 20 ≤ _)⟩)
  dsimp only [Pt.U, Pt.locs, Pt.cells, Pt.slots] at X474 l474 y474 z474 st474 hQ474
  subst l474 y474 z474
  obtain ⟨rr474, rb474, rt474, rfl, N474q, hQ474⟩ := hQ474
  have N474 := Fr.app N459 N474q
  obtain ⟨K474, Ex474, Fa474, Fb474, V474, Eq474⟩ := hQ474
  have Ch474 : own_ch ((((0 + 1) + 2) + ((0 + 1) + nv)) + 1) rt474 := fun q hq => by rw [Eq474 q hq]; exact Ch459 q hq
  refine Rch.via (T' := T474) (g' := (mkF m 64 #[.val (.ref a1)] [(.ref rr474)])) st474 ?_
  have t0 : rt474 0 = (91 : Int32) := by rw [Eq474 0 (by omega), Ea459 0 (by omega), Ea451 0 (by decide), Ea400 0 (by decide)]; exact Eb393 0 (by decide)
  have t3 : rt474 3 = (32 : Int32) := by rw [Eq474 3 (by omega), Ea459 3 (by omega)]; exact (Eb451 0 (by omega)).trans ((Eq448 0 (by omega)).trans ((Ea430 0 (by decide)).trans (Eb422 0 (by decide))))
  have eL : ((((0 + 1) + 2) + ((0 + 1) + nv)) + 1) = nv + 5 := by omega
  have t4 : rt474 (nv + 4) = (93 : Int32) := by rw [Eq474 (nv + 4) (by omega)]; exact (congrArg rt459 (by omega)).trans (Eb459 0 (by decide))
  exact Rch.retA X474 hx (w := (.ref rr474)) hret rfl rfl hlk (hb hby d_prog_6_method_6_code_64) (fun U hU hF => hK _ U _ _ _ (by show Q_rkUv Z a1 nm nb y vl vb nv yv cs h0 n0 _ U.heap _; rw [hU]; exact ⟨rr474, rb474, rt474, rfl, N474, (Fb473.trans K474 all0), Ex474, Fa474, Fb474, (by rw [← eL]; exact V474), t0, t3, t4, by rw [← eL]; exact Ch474⟩) (own_endH hZ hEL (Rb465.trans (CHr.keep K474 all0 Rb465.1)) hU hF) (own_end hS458 (by rw [hU]; exact (Nat.le_trans (Nat.le_trans hk458 K459.1) K474.1)) hF) (by decide) (by decide))
theorem pn_15 : plainName "com/example/ampliar/ampliar/command/ParameterIsFlagPinLaw" = true := by first | (simp [plainName, overriddenIn]; done) | decide +kernel
theorem ef_rm0 (m : MethodId) (p0 : Int32) (p1 : Int32) (p2 : Int32) : entryFrame m #[(.int p0), (.int p1), (.int p2)] maxLocals = mkF m 0 #[.val (.int p0), .val (.int p1), .val (.int p2), .unset, .unset, .unset, .unset, .unset, .unset, .unset, .unset, .unset, .unset, .unset] [] := by first | (simp [entryFrame, mkF, argsToLocals, Value.category, maxLocals]; done) | rfl
def Q_rm0 (Z : State) (p0 : Int32) (p1 : Int32) (p2 : Int32) (eo : Addr) (el : Addr) (cs : Int32) (sv : Value) (h0 : Heap) (n0 : Nat) (vv_ : Option Value) (h : Heap) (LL_ : List Loc) : Prop := vv_ = some (.int 1) ∧ Fr n0 LL_ ∧ (True)
set_option maxRecDepth 65536 in
set_option maxHeartbeats 40000000 in
theorem rm0 (l : Launch) (Z : State) (a0 : Array Value) (hw : ∀ d ∈ tables_1, d.before a0 Z = true) (ws : List Jvm.Cond) (p0 : Int32) (p1 : Int32) (p2 : Int32) (eo : Addr) (el : Addr) (cs : Int32) (sv : Value) (h0 : Heap) (n0 : Nat) (Z0 : n0 ≤ h0.size) (O0 : Old Z n0 h0) (S1 : Sta Z Z.heap "java/lang/String" "COMPACT_STRINGS" "Z" (.int cs)) (SI0 : Sta Z Z.heap "jdk/internal/util/Preconditions" "SIOOBE_FORMATTER" "Ljava/util/function/BiFunction;" sv) (SE : Sta Z Z.heap "java/util/ImmutableCollections" "EMPTY" "Ljava/lang/Object;" (.ref eo)) (SL : Sta Z Z.heap "java/util/ImmutableCollections" "EMPTY_LIST" "Ljava/util/ImmutableCollections$ListN;" (.ref el)) (E9 : Exa Z Z.heap el "java/util/ImmutableCollections$ListN") (F9 : Fld Z Z.heap el "java/util/ImmutableCollections$ListN" "allowNulls" "Z" (.int (0 : Int32))) (hcs : ¬ cs = (0 : Int32)) (hsv : sv.isRef = true) :
    MetFree l x (head1 (Jvm.Cond.code x code maxLocals ret :: ws) room_1) (fun aa_ UU_ => aa_ = #[(.int p0), (.int p1), (.int p2)] ∧ Z.Warmed39 UU_.vm ∧ UU_.heap = h0 ∧ CHv Z consts_1 UU_.vm h0) (fun _ _ _ _ _ => True) (fun _ UU_ oo_ VV_ => ∃ vv_ LL_, oo_ = .returned vv_ ∧ Q_rm0 Z p0 p1 p2 eo el cs sv h0 n0 vv_ VV_.heap LL_ ∧ CHr Z consts_1 UU_.vm UU_.heap VV_.vm VV_.heap ∧ ReturnedEndW UU_ oo_ VV_ LL_ room_1.cells room_1.slots) := by
  refine own_metH (y := x) (plainFor_of_name pn_15) ?_
  intro p e s m below meth c T0 K hx hby hml hret hlk hown hnm hZ X0 e0 C0 hK
  have N0 := Fr.nil n0
  have R0 := CHr.refl C0
  have hEL := own_EW hw
  have hS0 : s.Since s.vm 0 := (State.WarmedH.refl s).since 0
  have hk0 : 0 ≤ h0.size := Nat.zero_le _
  have wS : ∀ d ∈ Bundle.stringAtoms, d.before a0 Z = true := fun d hd => hw d ((by decide +kernel : ∀ d ∈ Bundle.stringAtoms, d ∈ tables_1) d hd)
  change Stand p l e room_1 (s.setVm s.vm) m #[(.int p0), (.int p1), (.int p2)] below meth c T0 [] 0 0 at X0
  change Z.Warmed39 (s.setVm s.vm).vm at hZ
  change (s.setVm s.vm).vm.findClass _ = some m.cls at hown
  refine Rch.cast (ef_rm0 m p0 p1 p2) ?_
  have JF : ∀ (eV nC : Int32) (c6 c7 nm nb vl ar pp : Addr) (y : Nat → Int32) (Tj : State) (hj : Heap) (vmj : Vm) (kj : Nat) (lj : List Loc) (Xj : Stand p l e room_1 (s.setVm vmj) m #[(.int p0), (.int p1), (.int p2)] below meth c Tj lj 24 1200) (ej : Tj.heap = hj) (Nj : Fr n0 lj) (Zj : n0 ≤ hj.size) (hSj : s.Since vmj kj) (hkj : kj ≤ hj.size) (hZ : Z.Warmed39 (s.setVm vmj).vm) (hown : (s.setVm vmj).vm.findClass "com/example/ampliar/ampliar/command/ParameterIsFlagPinLaw" = some m.cls) (Rj : CHr Z consts_1 s.vm h0 vmj hj) (Oj : Old Z n0 hj) (jE1 : Exa Z hj pp "com/example/ampliar/ampliar/command/Parameter") (jF1 : Fld Z hj pp "com/example/ampliar/ampliar/command/Parameter" "name" "Ljava/lang/String;" (.ref nm)) (jE2 : Exa Z hj nm "java/lang/String") (jF2 : Fld Z hj nm "java/lang/String" "coder" "B" (.int (0 : Int32))) (jF3 : Fld Z hj nm "java/lang/String" "value" "[B" (.ref nb)) (jV2 : Av Z hj nb .byte 2 (fun q => .int ((y q).toInt8.toInt32))) (hyj : own_ch 2 y) (jF0 : Fld Z hj pp "com/example/ampliar/ampliar/command/Parameter" "value" "Ljava/lang/String;" .null), Rch p e below K Tj (mkF m 188 #[.val (.int p0), .val (.int p1), .val (.int p2), .val (.int (1 : Int32)), .val (.int eV), .val (.int nC), .val (.ref c6), .val (.ref c7), .val (.ref nm), .val (.ref vl), .val (.ref ar), .val (.ref pp), .unset, .unset] []) := by
    intro eV nC c6 c7 nm nb vl ar pp y Tj hj vmj kj lj Xj ej Nj Zj hSj hkj hZ hown Rj Oj jE1 jF1 jE2 jF2 jF3 jV2 hyj jF0
    refine Rch.of (T' := Tj) (g' := (mkF m 190 #[.val (.int p0), .val (.int p1), .val (.int p2), .val (.int (1 : Int32)), .val (.int eV), .val (.int nC), .val (.ref c6), .val (.ref c7), .val (.ref nm), .val (.ref vl), .val (.ref ar), .val (.ref pp), .unset, .unset] [(.ref pp)])) (fun _ kt => XS.aload Xj.here hx rfl (hb hby at_188) rfl rfl kt) ?_
    obtain ⟨cq476, kq476, q476a, q476b, q476c⟩ := isOf hZ ej jE1
    obtain ⟨_, _, ⟨T476, L476, k476, n476⟩, -, X476, ⟨Lc476, hQ476, l476, y476, z476⟩, st476⟩ := Xj.virtualBack hx (y := (⟨"com/example/ampliar/ampliar/command/Parameter", "isFlag", "()Z"⟩ : MethodName)) (z := (⟨"com/example/ampliar/ampliar/command/Parameter", "isFlag", "()Z"⟩ : MethodName)) hown (mvT hZ (hw _ (List.mem_of_getElem? (i := 106) rfl))) (mvT hZ (hw _ (List.mem_of_getElem? (i := 107) rfl))) (notFace_of_selects (args := #[]) (mvT hZ (hw _ (List.mem_of_getElem? (i := 109) rfl)))) (mvT hZ (hw _ (List.mem_of_getElem? (i := 109) rfl))) (mvT hZ (hw _ (List.mem_of_getElem? (i := 108) rfl))) (by decide) (backOf (W := 0) (rkIn l Z a0 hw [] pp hj n0 Zj jF0) hZ (hw _ (List.mem_of_getElem? (i := 110) rfl)) (hw _ (List.mem_of_getElem? (i := 50) rfl)) (by decide) (by decide)) q476a q476c (g := (mkF m 190 #[.val (.int p0), .val (.int p1), .val (.int p2), .val (.int (1 : Int32)), .val (.int eV), .val (.int nC), .val (.ref c6), .val (.ref c7), .val (.ref nm), .val (.ref vl), .val (.ref ar), .val (.ref pp), .unset, .unset] [(.ref pp)])) rfl (by rw [hml]; rfl) (Steps.refl _) (argsL := []) (rest := []) (lenOf pd_15 rfl) rfl (by show 2 * 0 + _ ≤ _; exact Nat.le_of_eq rfl) (hb hby at_190) (fun _ _ => ⟨rfl, ej, (by decide : 24 + 0 ≤ _), (by decide : 1200 + 0 ≤ _)⟩)
    dsimp only [Pt.U, Pt.locs, Pt.cells, Pt.slots] at X476 l476 y476 z476 st476 hQ476
    subst l476 y476 z476
    obtain ⟨rfl, N476q, hQ476⟩ := hQ476
    have N476 := Fr.app Nj N476q
    refine Rch.via (T' := T476) (g' := (mkF m 193 #[.val (.int p0), .val (.int p1), .val (.int p2), .val (.int (1 : Int32)), .val (.int eV), .val (.int nC), .val (.ref c6), .val (.ref c7), .val (.ref nm), .val (.ref vl), .val (.ref ar), .val (.ref pp), .unset, .unset] [(.int (1 : Int32))])) st476 ?_
    refine Rch.of (T' := T476) (g' := (mkF m 194 #[.val (.int p0), .val (.int p1), .val (.int p2), .val (.int (1 : Int32)), .val (.int eV), .val (.int nC), .val (.ref c6), .val (.ref c7), .val (.ref nm), .val (.ref vl), .val (.ref ar), .val (.ref pp), .unset, .unset] [(.int (1 : Int32)), (.int (1 : Int32))])) (fun _ kt => XS.iloadN X476.here hx rfl (hb hby at_193) rfl  kt) ?_
    refine Rch.of (T' := T476) (g' := (mkF m 199 #[.val (.int p0), .val (.int p1), .val (.int p2), .val (.int (1 : Int32)), .val (.int eV), .val (.int nC), .val (.ref c6), .val (.ref c7), .val (.ref nm), .val (.ref vl), .val (.ref ar), .val (.ref pp), .unset, .unset] [])) (fun _ kt => XS.icmpYes X476.here hx rfl (pc0 := 194) (pc' := 199) rfl (hb hby at_194) rfl (teq ((by decide) : (1 : Int32) = (1 : Int32))).1 (by decide) (by decide) kt) ?_
    refine Rch.of (T' := T476) (g' := (mkF m 201 #[.val (.int p0), .val (.int p1), .val (.int p2), .val (.int (1 : Int32)), .val (.int eV), .val (.int nC), .val (.ref c6), .val (.ref c7), .val (.ref nm), .val (.ref vl), .val (.ref ar), .val (.ref pp), .unset, .unset] [(.ref pp)])) (fun _ kt => XS.aload X476.here hx rfl (hb hby at_199) rfl rfl kt) ?_
    obtain ⟨cq477, kq477, q477a, q477b, q477c⟩ := isOf hZ hQ476 jE1
    obtain ⟨_, _, ⟨T477, L477, k477, n477⟩, -, X477, hT477, gr477, ⟨Lc477, hQ477, l477, y477, z477, cr477⟩, st477⟩ := X476.virtualBackS hx (y := (⟨"com/example/ampliar/ampliar/command/Parameter", "usage", "()Ljava/lang/String;"⟩ : MethodName)) (z := (⟨"com/example/ampliar/ampliar/command/Parameter", "usage", "()Ljava/lang/String;"⟩ : MethodName)) hown (mvT hZ (hw _ (List.mem_of_getElem? (i := 111) rfl))) (mvT hZ (hw _ (List.mem_of_getElem? (i := 112) rfl))) (notFace_of_selects (args := #[]) (mvT hZ (hw _ (List.mem_of_getElem? (i := 114) rfl)))) (mvT hZ (hw _ (List.mem_of_getElem? (i := 114) rfl))) (mvT hZ (hw _ (List.mem_of_getElem? (i := 113) rfl))) (by decide) (backOfSH (s := s) (vm0 := vmj) (EL := consts_1) (W := 0) (rkUn l Z a0 hw [] pp nm nb y cs hj n0 Zj jE1 jF1 jE2 jF2 jF3 jV2 jF0 hyj (S1.ext Oj.2) hcs) hZ (hw _ (List.mem_of_getElem? (i := 115) rfl)) (hw _ (List.mem_of_getElem? (i := 50) rfl)) (by decide) (by decide) hEL Rj.1) q477a q477c (g := (mkF m 201 #[.val (.int p0), .val (.int p1), .val (.int p2), .val (.int (1 : Int32)), .val (.int eV), .val (.int nC), .val (.ref c6), .val (.ref c7), .val (.ref nm), .val (.ref vl), .val (.ref ar), .val (.ref pp), .unset, .unset] [(.ref pp)])) rfl (by rw [hml]; rfl) (Steps.refl _) (argsL := []) (rest := []) (lenOf pd_16 rfl) rfl (by show 2 * 0 + _ ≤ _; exact Nat.le_of_eq rfl) (hb hby at_201) (fun _ _ => ⟨rfl, hQ476, (by decide : 24 + 10 ≤ _), (by decide : 1200 + 60 ≤ _)⟩)
    dsimp only [Pt.U, Pt.locs, Pt.cells, Pt.slots] at X477 hT477 gr477 l477 y477 z477 st477 hQ477 cr477
    subst l477 y477 z477
    obtain ⟨X477, hS477, hZ, hown⟩ := rebS hSj hkj X477 hT477 (by rw [← hQ476]; exact gr477) hZ hown
    obtain ⟨rr477, rb477, rt477, rfl, N477q, hQ477⟩ := hQ477
    have N477 := Fr.app N476 N477q
    obtain ⟨K477, Ex477, Fa477, Fb477, V477, t0477, t3477, Ch477⟩ := hQ477
    refine Rch.via (T' := T477) (g' := (mkF m 204 #[.val (.int p0), .val (.int p1), .val (.int p2), .val (.int (1 : Int32)), .val (.int eV), .val (.int nC), .val (.ref c6), .val (.ref c7), .val (.ref nm), .val (.ref vl), .val (.ref ar), .val (.ref pp), .unset, .unset] [(.ref rr477)])) st477 ?_
    refine Rch.of (T' := T477) (g' := (mkF m 206 #[.val (.int p0), .val (.int p1), .val (.int p2), .val (.int (1 : Int32)), .val (.int eV), .val (.int nC), .val (.ref c6), .val (.ref c7), .val (.ref nm), .val (.ref vl), .val (.ref ar), .val (.ref pp), .val (.ref rr477), .unset] [])) (fun _ kt => XS.astore X477.here hx rfl (hb hby at_204) rfl rfl (l' := #[.val (.int p0), .val (.int p1), .val (.int p2), .val (.int (1 : Int32)), .val (.int eV), .val (.int nC), .val (.ref c6), .val (.ref c7), .val (.ref nm), .val (.ref vl), .val (.ref ar), .val (.ref pp), .val (.ref rr477), .unset]) rfl kt) ?_
    refine Rch.of (T' := T477) (g' := (mkF m 208 #[.val (.int p0), .val (.int p1), .val (.int p2), .val (.int (1 : Int32)), .val (.int eV), .val (.int nC), .val (.ref c6), .val (.ref c7), .val (.ref nm), .val (.ref vl), .val (.ref ar), .val (.ref pp), .val (.ref rr477), .unset] [(.ref nm)])) (fun _ kt => XS.aload X477.here hx rfl (hb hby at_206) rfl rfl kt) ?_
    obtain ⟨cq478, kq478, q478a, q478b, q478c⟩ := isOf hZ rfl (jE2.keep K477)
    obtain ⟨_, _, ⟨T478, L478, k478, n478⟩, -, X478, ⟨Lc478, hQ478, l478, y478, z478⟩, st478⟩ := X477.virtualBack hx (y := (⟨"java/lang/String", "length", "()I"⟩ : MethodName)) (z := (⟨"java/lang/String", "length", "()I"⟩ : MethodName)) hown (mvT hZ (hw _ (List.mem_of_getElem? (i := 230) rfl))) (mvT hZ (hw _ (List.mem_of_getElem? (i := 146) rfl))) (notFace_of_selects (args := #[]) (mvT hZ (hw _ (List.mem_of_getElem? (i := 148) rfl)))) (mvT hZ (hw _ (List.mem_of_getElem? (i := 148) rfl))) (mvT hZ (hw _ (List.mem_of_getElem? (i := 147) rfl))) (by decide) (backOf (W := 0) (rqLE l Z a0 hw [] nm nb 2 y cs T477.heap n0 (Nat.le_trans Zj K477.1) (jE2.keep K477) (jF2.keep K477 nin0) (jF3.keep K477 nin0) (jV2.keep K477 nin0) (S1.ext (Oj.keep K477 all0).2) hcs) hZ (hw _ (List.mem_of_getElem? (i := 149) rfl)) (hw _ (List.mem_of_getElem? (i := 3) rfl)) (by decide) (by decide)) q478a q478c (g := (mkF m 208 #[.val (.int p0), .val (.int p1), .val (.int p2), .val (.int (1 : Int32)), .val (.int eV), .val (.int nC), .val (.ref c6), .val (.ref c7), .val (.ref nm), .val (.ref vl), .val (.ref ar), .val (.ref pp), .val (.ref rr477), .unset] [(.ref nm)])) rfl (by rw [hml]; rfl) (Steps.refl _) (argsL := []) (rest := []) (lenOf pd_20 rfl) rfl (by show 2 * 0 + _ ≤ _; exact Nat.le_of_eq rfl) (hb hby at_208) (fun _ _ => ⟨rfl, rfl, (by decide : 34 + 0 ≤ _), (by decide : 1260 + 0 ≤ _)⟩)
    dsimp only [Pt.U, Pt.locs, Pt.cells, Pt.slots] at X478 l478 y478 z478 st478 hQ478
    subst l478 y478 z478
    obtain ⟨rfl, N478q, hQ478⟩ := hQ478
    have N478 := Fr.app N477 N478q
    refine Rch.via (T' := T478) (g' := (mkF m 211 #[.val (.int p0), .val (.int p1), .val (.int p2), .val (.int (1 : Int32)), .val (.int eV), .val (.int nC), .val (.ref c6), .val (.ref c7), .val (.ref nm), .val (.ref vl), .val (.ref ar), .val (.ref pp), .val (.ref rr477), .unset] [(.int (Int32.ofNat 2))])) st478 ?_
    refine Rch.of (T' := T478) (g' := (mkF m 213 #[.val (.int p0), .val (.int p1), .val (.int p2), .val (.int (1 : Int32)), .val (.int eV), .val (.int nC), .val (.ref c6), .val (.ref c7), .val (.ref nm), .val (.ref vl), .val (.ref ar), .val (.ref pp), .val (.ref rr477), .val (.int (Int32.ofNat 2))] [])) (fun _ kt => XS.istore X478.here hx rfl (hb hby at_211) rfl (l' := #[.val (.int p0), .val (.int p1), .val (.int p2), .val (.int (1 : Int32)), .val (.int eV), .val (.int nC), .val (.ref c6), .val (.ref c7), .val (.ref nm), .val (.ref vl), .val (.ref ar), .val (.ref pp), .val (.ref rr477), .val (.int (Int32.ofNat 2))]) rfl kt) ?_
    refine Rch.of (T' := T478) (g' := (mkF m 214 #[.val (.int p0), .val (.int p1), .val (.int p2), .val (.int (1 : Int32)), .val (.int eV), .val (.int nC), .val (.ref c6), .val (.ref c7), .val (.ref nm), .val (.ref vl), .val (.ref ar), .val (.ref pp), .val (.ref rr477), .val (.int (Int32.ofNat 2))] [(.int (1 : Int32))])) (fun _ kt => XS.iloadN X478.here hx rfl (hb hby at_213) rfl  kt) ?_
    refine Rch.of (T' := T478) (g' := (mkF m 217 #[.val (.int p0), .val (.int p1), .val (.int p2), .val (.int (1 : Int32)), .val (.int eV), .val (.int nC), .val (.ref c6), .val (.ref c7), .val (.ref nm), .val (.ref vl), .val (.ref ar), .val (.ref pp), .val (.ref rr477), .val (.int (Int32.ofNat 2))] [])) (fun _ kt => XS.ifNo X478.here hx rfl (hb hby at_214) rfl ((if0 _ _).trans (feq ((by decide) : ¬ ((1 : Int32) = (0 : Int32)))).1) kt) ?_
    refine Rch.of (T' := T478) (g' := (mkF m 219 #[.val (.int p0), .val (.int p1), .val (.int p2), .val (.int (1 : Int32)), .val (.int eV), .val (.int nC), .val (.ref c6), .val (.ref c7), .val (.ref nm), .val (.ref vl), .val (.ref ar), .val (.ref pp), .val (.ref rr477), .val (.int (Int32.ofNat 2))] [(.ref rr477)])) (fun _ kt => XS.aload X478.here hx rfl (hb hby at_217) rfl rfl kt) ?_
    obtain ⟨cq479, kq479, q479a, q479b, q479c⟩ := isOf hZ hQ478 Ex477
    obtain ⟨_, _, ⟨T479, L479, k479, n479⟩, -, X479, ⟨Lc479, hQ479, l479, y479, z479⟩, st479⟩ := X478.virtualBack hx (y := (⟨"java/lang/String", "length", "()I"⟩ : MethodName)) (z := (⟨"java/lang/String", "length", "()I"⟩ : MethodName)) hown (mvT hZ (hw _ (List.mem_of_getElem? (i := 230) rfl))) (mvT hZ (hw _ (List.mem_of_getElem? (i := 146) rfl))) (notFace_of_selects (args := #[]) (mvT hZ (hw _ (List.mem_of_getElem? (i := 148) rfl)))) (mvT hZ (hw _ (List.mem_of_getElem? (i := 148) rfl))) (mvT hZ (hw _ (List.mem_of_getElem? (i := 147) rfl))) (by decide) (backOf (W := 0) (rqLE l Z a0 hw [] rr477 rb477 4 rt477 cs T477.heap n0 (Nat.le_trans Zj K477.1) Ex477 Fa477 Fb477 V477 (S1.ext (Oj.keep K477 all0).2) hcs) hZ (hw _ (List.mem_of_getElem? (i := 149) rfl)) (hw _ (List.mem_of_getElem? (i := 3) rfl)) (by decide) (by decide)) q479a q479c (g := (mkF m 219 #[.val (.int p0), .val (.int p1), .val (.int p2), .val (.int (1 : Int32)), .val (.int eV), .val (.int nC), .val (.ref c6), .val (.ref c7), .val (.ref nm), .val (.ref vl), .val (.ref ar), .val (.ref pp), .val (.ref rr477), .val (.int (Int32.ofNat 2))] [(.ref rr477)])) rfl (by rw [hml]; rfl) (Steps.refl _) (argsL := []) (rest := []) (lenOf pd_20 rfl) rfl (by show 2 * 0 + _ ≤ _; exact Nat.le_of_eq rfl) (hb hby at_219) (fun _ _ => ⟨rfl, hQ478, (by decide : 34 + 0 ≤ _), (by decide : 1260 + 0 ≤ _)⟩)
    dsimp only [Pt.U, Pt.locs, Pt.cells, Pt.slots] at X479 l479 y479 z479 st479 hQ479
    subst l479 y479 z479
    obtain ⟨rfl, N479q, hQ479⟩ := hQ479
    have N479 := Fr.app N478 N479q
    refine Rch.via (T' := T479) (g' := (mkF m 222 #[.val (.int p0), .val (.int p1), .val (.int p2), .val (.int (1 : Int32)), .val (.int eV), .val (.int nC), .val (.ref c6), .val (.ref c7), .val (.ref nm), .val (.ref vl), .val (.ref ar), .val (.ref pp), .val (.ref rr477), .val (.int (Int32.ofNat 2))] [(.int (Int32.ofNat 4))])) st479 ?_
    refine Rch.of (T' := T479) (g' := (mkF m 224 #[.val (.int p0), .val (.int p1), .val (.int p2), .val (.int (1 : Int32)), .val (.int eV), .val (.int nC), .val (.ref c6), .val (.ref c7), .val (.ref nm), .val (.ref vl), .val (.ref ar), .val (.ref pp), .val (.ref rr477), .val (.int (Int32.ofNat 2))] [(.int (Int32.ofNat 2)), (.int (Int32.ofNat 4))])) (fun _ kt => XS.iload X479.here hx rfl (hb hby at_222) rfl  kt) ?_
    refine Rch.of (T' := T479) (g' := (mkF m 225 #[.val (.int p0), .val (.int p1), .val (.int p2), .val (.int (1 : Int32)), .val (.int eV), .val (.int nC), .val (.ref c6), .val (.ref c7), .val (.ref nm), .val (.ref vl), .val (.ref ar), .val (.ref pp), .val (.ref rr477), .val (.int (Int32.ofNat 2))] [(.int (2 : Int32)), (.int (Int32.ofNat 2)), (.int (Int32.ofNat 4))])) (fun _ kt => XS.iconst X479.here hx rfl (hb hby at_224) kt) ?_
    refine Rch.of (T' := T479) (g' := (mkF m 226 #[.val (.int p0), .val (.int p1), .val (.int p2), .val (.int (1 : Int32)), .val (.int eV), .val (.int nC), .val (.ref c6), .val (.ref c7), .val (.ref nm), .val (.ref vl), .val (.ref ar), .val (.ref pp), .val (.ref rr477), .val (.int (Int32.ofNat 2))] [(.int ((Int32.ofNat 2) + (2 : Int32))), (.int (Int32.ofNat 4))])) (fun _ kt => XS.iadd X479.here hx rfl (hb hby at_225) rfl kt) ?_
    have kn480 : (Int32.ofNat 4) = ((Int32.ofNat 2) + (2 : Int32)) := by decide
    have kn481 : (rt477 0) = (91 : Int32) := t0477
    have kn482 : (rt477 3) = (93 : Int32) := t3477
    refine Rch.of (T' := T479) (g' := (mkF m 229 #[.val (.int p0), .val (.int p1), .val (.int p2), .val (.int (1 : Int32)), .val (.int eV), .val (.int nC), .val (.ref c6), .val (.ref c7), .val (.ref nm), .val (.ref vl), .val (.ref ar), .val (.ref pp), .val (.ref rr477), .val (.int (Int32.ofNat 2))] [])) (fun _ kt => XS.icmpNo X479.here hx rfl (hb hby at_226) rfl (teq kn480).2 kt) ?_
    refine Rch.of (T' := T479) (g' := (mkF m 231 #[.val (.int p0), .val (.int p1), .val (.int p2), .val (.int (1 : Int32)), .val (.int eV), .val (.int nC), .val (.ref c6), .val (.ref c7), .val (.ref nm), .val (.ref vl), .val (.ref ar), .val (.ref pp), .val (.ref rr477), .val (.int (Int32.ofNat 2))] [(.ref rr477)])) (fun _ kt => XS.aload X479.here hx rfl (hb hby at_229) rfl rfl kt) ?_
    refine Rch.of (T' := T479) (g' := (mkF m 232 #[.val (.int p0), .val (.int p1), .val (.int p2), .val (.int (1 : Int32)), .val (.int eV), .val (.int nC), .val (.ref c6), .val (.ref c7), .val (.ref nm), .val (.ref vl), .val (.ref ar), .val (.ref pp), .val (.ref rr477), .val (.int (Int32.ofNat 2))] [(.int (0 : Int32)), (.ref rr477)])) (fun _ kt => XS.iconst X479.here hx rfl (hb hby at_231) kt) ?_
    have pr484 : 0 < 4 := by omega
    have pr485 : 4 ≤ 16 := by omega
    obtain ⟨cq483, kq483, q483a, q483b, q483c⟩ := isOf hZ hQ479 Ex477
    obtain ⟨_, _, ⟨T483, L483, k483, n483⟩, -, X483, ⟨Lc483, hQ483, l483, y483, z483⟩, st483⟩ := X479.virtualBack hx (y := (⟨"java/lang/String", "charAt", "(I)C"⟩ : MethodName)) (z := (⟨"java/lang/String", "charAt", "(I)C"⟩ : MethodName)) hown (mvT hZ (hw _ (List.mem_of_getElem? (i := 231) rfl))) (mvT hZ (hw _ (List.mem_of_getElem? (i := 232) rfl))) (notFace_of_selects (args := #[]) (mvT hZ (hw _ (List.mem_of_getElem? (i := 234) rfl)))) (mvT hZ (hw _ (List.mem_of_getElem? (i := 234) rfl))) (mvT hZ (hw _ (List.mem_of_getElem? (i := 233) rfl))) (by decide) (backOf (W := 0) (rqCA l Z a0 hw [] rr477 rb477 4 rt477 0 cs sv T477.heap n0 (Nat.le_trans Zj K477.1) Ex477 Fa477 Fb477 V477 pr484 pr485 Ch477 (S1.ext (Oj.keep K477 all0).2) hcs (SI0.ext (Oj.keep K477 all0).2) hsv) hZ (hw _ (List.mem_of_getElem? (i := 235) rfl)) (hw _ (List.mem_of_getElem? (i := 3) rfl)) (by decide) (by decide)) q483a q483c (g := (mkF m 232 #[.val (.int p0), .val (.int p1), .val (.int p2), .val (.int (1 : Int32)), .val (.int eV), .val (.int nC), .val (.ref c6), .val (.ref c7), .val (.ref nm), .val (.ref vl), .val (.ref ar), .val (.ref pp), .val (.ref rr477), .val (.int (Int32.ofNat 2))] [(.int (0 : Int32)), (.ref rr477)])) rfl (by rw [hml]; rfl) (Steps.refl _) (argsL := [(.int (0 : Int32))]) (rest := []) (lenOf pd_32 rfl) rfl (by show 2 * 0 + _ ≤ _; exact Nat.le_of_eq rfl) (hb hby at_232) (fun _ _ => ⟨rfl, hQ479, (by decide : 34 + 0 ≤ _), (by decide : 1260 + 0 ≤ _)⟩)
    dsimp only [Pt.U, Pt.locs, Pt.cells, Pt.slots] at X483 l483 y483 z483 st483 hQ483
    subst l483 y483 z483
    obtain ⟨rfl, N483q, hQ483⟩ := hQ483
    have N483 := Fr.app N479 N483q
    refine Rch.via (T' := T483) (g' := (mkF m 235 #[.val (.int p0), .val (.int p1), .val (.int p2), .val (.int (1 : Int32)), .val (.int eV), .val (.int nC), .val (.ref c6), .val (.ref c7), .val (.ref nm), .val (.ref vl), .val (.ref ar), .val (.ref pp), .val (.ref rr477), .val (.int (Int32.ofNat 2))] [(.int (rt477 0))])) st483 ?_
    refine Rch.of (T' := T483) (g' := (mkF m 237 #[.val (.int p0), .val (.int p1), .val (.int p2), .val (.int (1 : Int32)), .val (.int eV), .val (.int nC), .val (.ref c6), .val (.ref c7), .val (.ref nm), .val (.ref vl), .val (.ref ar), .val (.ref pp), .val (.ref rr477), .val (.int (Int32.ofNat 2))] [(.int (91 : Int32)), (.int (rt477 0))])) (fun _ kt => XS.bipush X483.here hx rfl (hb hby at_235) kt) ?_
    refine Rch.of (T' := T483) (g' := (mkF m 240 #[.val (.int p0), .val (.int p1), .val (.int p2), .val (.int (1 : Int32)), .val (.int eV), .val (.int nC), .val (.ref c6), .val (.ref c7), .val (.ref nm), .val (.ref vl), .val (.ref ar), .val (.ref pp), .val (.ref rr477), .val (.int (Int32.ofNat 2))] [])) (fun _ kt => XS.icmpNo X483.here hx rfl (hb hby at_237) rfl (teq kn481).2 kt) ?_
    refine Rch.of (T' := T483) (g' := (mkF m 242 #[.val (.int p0), .val (.int p1), .val (.int p2), .val (.int (1 : Int32)), .val (.int eV), .val (.int nC), .val (.ref c6), .val (.ref c7), .val (.ref nm), .val (.ref vl), .val (.ref ar), .val (.ref pp), .val (.ref rr477), .val (.int (Int32.ofNat 2))] [(.ref rr477)])) (fun _ kt => XS.aload X483.here hx rfl (hb hby at_240) rfl rfl kt) ?_
    refine Rch.of (T' := T483) (g' := (mkF m 244 #[.val (.int p0), .val (.int p1), .val (.int p2), .val (.int (1 : Int32)), .val (.int eV), .val (.int nC), .val (.ref c6), .val (.ref c7), .val (.ref nm), .val (.ref vl), .val (.ref ar), .val (.ref pp), .val (.ref rr477), .val (.int (Int32.ofNat 2))] [(.int (Int32.ofNat 2)), (.ref rr477)])) (fun _ kt => XS.iload X483.here hx rfl (hb hby at_242) rfl  kt) ?_
    refine Rch.of (T' := T483) (g' := (mkF m 245 #[.val (.int p0), .val (.int p1), .val (.int p2), .val (.int (1 : Int32)), .val (.int eV), .val (.int nC), .val (.ref c6), .val (.ref c7), .val (.ref nm), .val (.ref vl), .val (.ref ar), .val (.ref pp), .val (.ref rr477), .val (.int (Int32.ofNat 2))] [(.int (1 : Int32)), (.int (Int32.ofNat 2)), (.ref rr477)])) (fun _ kt => XS.iconst X483.here hx rfl (hb hby at_244) kt) ?_
    refine Rch.of (T' := T483) (g' := (mkF m 246 #[.val (.int p0), .val (.int p1), .val (.int p2), .val (.int (1 : Int32)), .val (.int eV), .val (.int nC), .val (.ref c6), .val (.ref c7), .val (.ref nm), .val (.ref vl), .val (.ref ar), .val (.ref pp), .val (.ref rr477), .val (.int (Int32.ofNat 2))] [(.int ((Int32.ofNat 2) + (1 : Int32))), (.ref rr477)])) (fun _ kt => XS.iadd X483.here hx rfl (hb hby at_245) rfl kt) ?_
    have sw486 : ((Int32.ofNat 2) + (1 : Int32)) = (3 : Int32) := by decide
    rw [sw486]
    show Rch p e below K T483 (mkF m 246 #[.val (.int p0), .val (.int p1), .val (.int p2), .val (.int (1 : Int32)), .val (.int eV), .val (.int nC), .val (.ref c6), .val (.ref c7), .val (.ref nm), .val (.ref vl), .val (.ref ar), .val (.ref pp), .val (.ref rr477), .val (.int (Int32.ofNat 2))] [(.int (3 : Int32)), (.ref rr477)])
    have pr488 : 3 < 4 := by omega
    have pr489 : 4 ≤ 16 := by omega
    obtain ⟨cq487, kq487, q487a, q487b, q487c⟩ := isOf hZ hQ483 Ex477
    obtain ⟨_, _, ⟨T487, L487, k487, n487⟩, -, X487, ⟨Lc487, hQ487, l487, y487, z487⟩, st487⟩ := X483.virtualBack hx (y := (⟨"java/lang/String", "charAt", "(I)C"⟩ : MethodName)) (z := (⟨"java/lang/String", "charAt", "(I)C"⟩ : MethodName)) hown (mvT hZ (hw _ (List.mem_of_getElem? (i := 231) rfl))) (mvT hZ (hw _ (List.mem_of_getElem? (i := 232) rfl))) (notFace_of_selects (args := #[]) (mvT hZ (hw _ (List.mem_of_getElem? (i := 234) rfl)))) (mvT hZ (hw _ (List.mem_of_getElem? (i := 234) rfl))) (mvT hZ (hw _ (List.mem_of_getElem? (i := 233) rfl))) (by decide) (backOf (W := 0) (rqCA l Z a0 hw [] rr477 rb477 4 rt477 3 cs sv T477.heap n0 (Nat.le_trans Zj K477.1) Ex477 Fa477 Fb477 V477 pr488 pr489 Ch477 (S1.ext (Oj.keep K477 all0).2) hcs (SI0.ext (Oj.keep K477 all0).2) hsv) hZ (hw _ (List.mem_of_getElem? (i := 235) rfl)) (hw _ (List.mem_of_getElem? (i := 3) rfl)) (by decide) (by decide)) q487a q487c (g := (mkF m 246 #[.val (.int p0), .val (.int p1), .val (.int p2), .val (.int (1 : Int32)), .val (.int eV), .val (.int nC), .val (.ref c6), .val (.ref c7), .val (.ref nm), .val (.ref vl), .val (.ref ar), .val (.ref pp), .val (.ref rr477), .val (.int (Int32.ofNat 2))] [(.int (3 : Int32)), (.ref rr477)])) rfl (by rw [hml]; rfl) (Steps.refl _) (argsL := [(.int (3 : Int32))]) (rest := []) (lenOf pd_32 rfl) rfl (by show 2 * 0 + _ ≤ _; exact Nat.le_of_eq rfl) (hb hby at_246) (fun _ _ => ⟨rfl, hQ483, (by decide : 34 + 0 ≤ _), (by decide : 1260 + 0 ≤ _)⟩)
    dsimp only [Pt.U, Pt.locs, Pt.cells, Pt.slots] at X487 l487 y487 z487 st487 hQ487
    subst l487 y487 z487
    obtain ⟨rfl, N487q, hQ487⟩ := hQ487
    have N487 := Fr.app N483 N487q
    refine Rch.via (T' := T487) (g' := (mkF m 249 #[.val (.int p0), .val (.int p1), .val (.int p2), .val (.int (1 : Int32)), .val (.int eV), .val (.int nC), .val (.ref c6), .val (.ref c7), .val (.ref nm), .val (.ref vl), .val (.ref ar), .val (.ref pp), .val (.ref rr477), .val (.int (Int32.ofNat 2))] [(.int (rt477 3))])) st487 ?_
    refine Rch.of (T' := T487) (g' := (mkF m 251 #[.val (.int p0), .val (.int p1), .val (.int p2), .val (.int (1 : Int32)), .val (.int eV), .val (.int nC), .val (.ref c6), .val (.ref c7), .val (.ref nm), .val (.ref vl), .val (.ref ar), .val (.ref pp), .val (.ref rr477), .val (.int (Int32.ofNat 2))] [(.int (93 : Int32)), (.int (rt477 3))])) (fun _ kt => XS.bipush X487.here hx rfl (hb hby at_249) kt) ?_
    refine Rch.of (T' := T487) (g' := (mkF m 254 #[.val (.int p0), .val (.int p1), .val (.int p2), .val (.int (1 : Int32)), .val (.int eV), .val (.int nC), .val (.ref c6), .val (.ref c7), .val (.ref nm), .val (.ref vl), .val (.ref ar), .val (.ref pp), .val (.ref rr477), .val (.int (Int32.ofNat 2))] [])) (fun _ kt => XS.icmpNo X487.here hx rfl (hb hby at_251) rfl (teq kn482).2 kt) ?_
    refine Rch.of (T' := T487) (g' := (mkF m 255 #[.val (.int p0), .val (.int p1), .val (.int p2), .val (.int (1 : Int32)), .val (.int eV), .val (.int nC), .val (.ref c6), .val (.ref c7), .val (.ref nm), .val (.ref vl), .val (.ref ar), .val (.ref pp), .val (.ref rr477), .val (.int (Int32.ofNat 2))] [(.int (1 : Int32))])) (fun _ kt => XS.iconst X487.here hx rfl (hb hby at_254) kt) ?_
    refine Rch.of (T' := T487) (g' := (mkF m 259 #[.val (.int p0), .val (.int p1), .val (.int p2), .val (.int (1 : Int32)), .val (.int eV), .val (.int nC), .val (.ref c6), .val (.ref c7), .val (.ref nm), .val (.ref vl), .val (.ref ar), .val (.ref pp), .val (.ref rr477), .val (.int (Int32.ofNat 2))] [(.int (1 : Int32))])) (fun _ kt => XS.goto X487.here hx rfl (pc0 := 255) (pc' := 259) rfl (hb hby at_255) (by decide) (by decide) kt) ?_
    exact Rch.retN X487 hx (t := .boolean) hret (by simp) hlk (hb hby at_259) (fun U hU hF => hK _ U _ _ _ (by show Q_rm0 Z p0 p1 p2 eo el cs sv h0 n0 _ U.heap _; rw [hU, hQ487]; exact ⟨rfl, N487, trivial⟩) (own_endH hZ hEL (Rj.trans cr477) (hU.trans hQ487) hF) (own_end hS477 (by rw [hU, hQ487]; exact (Nat.le_refl _)) hF) (by decide) (by decide))
  have JV : ∀ (eV nC : Int32) (c6 c7 nm nb vl ar pp : Addr) (y : Nat → Int32) (vb : Addr) (nv : Nat) (yv : Nat → Int32) (Tj : State) (hj : Heap) (vmj : Vm) (kj : Nat) (lj : List Loc) (Xj : Stand p l e room_1 (s.setVm vmj) m #[(.int p0), (.int p1), (.int p2)] below meth c Tj lj 24 1200) (ej : Tj.heap = hj) (Nj : Fr n0 lj) (Zj : n0 ≤ hj.size) (hSj : s.Since vmj kj) (hkj : kj ≤ hj.size) (hZ : Z.Warmed39 (s.setVm vmj).vm) (hown : (s.setVm vmj).vm.findClass "com/example/ampliar/ampliar/command/ParameterIsFlagPinLaw" = some m.cls) (Rj : CHr Z consts_1 s.vm h0 vmj hj) (Oj : Old Z n0 hj) (jE1 : Exa Z hj pp "com/example/ampliar/ampliar/command/Parameter") (jF1 : Fld Z hj pp "com/example/ampliar/ampliar/command/Parameter" "name" "Ljava/lang/String;" (.ref nm)) (jE2 : Exa Z hj nm "java/lang/String") (jF2 : Fld Z hj nm "java/lang/String" "coder" "B" (.int (0 : Int32))) (jF3 : Fld Z hj nm "java/lang/String" "value" "[B" (.ref nb)) (jV2 : Av Z hj nb .byte 2 (fun q => .int ((y q).toInt8.toInt32))) (hyj : own_ch 2 y) (jF0 : Fld Z hj pp "com/example/ampliar/ampliar/command/Parameter" "value" "Ljava/lang/String;" (.ref vl)) (jE3 : Exa Z hj vl "java/lang/String") (jF4 : Fld Z hj vl "java/lang/String" "coder" "B" (.int (0 : Int32))) (jF5 : Fld Z hj vl "java/lang/String" "value" "[B" (.ref vb)) (jV3 : Av Z hj vb .byte nv (fun q => .int ((yv q).toInt8.toInt32))) (hyvj : own_ch nv yv) (hnvj : nv ≤ 2), Rch p e below K Tj (mkF m 188 #[.val (.int p0), .val (.int p1), .val (.int p2), .val (.int (0 : Int32)), .val (.int eV), .val (.int nC), .val (.ref c6), .val (.ref c7), .val (.ref nm), .val (.ref vl), .val (.ref ar), .val (.ref pp), .unset, .unset] []) := by
    intro eV nC c6 c7 nm nb vl ar pp y vb nv yv Tj hj vmj kj lj Xj ej Nj Zj hSj hkj hZ hown Rj Oj jE1 jF1 jE2 jF2 jF3 jV2 hyj jF0 jE3 jF4 jF5 jV3 hyvj hnvj
    refine Rch.of (T' := Tj) (g' := (mkF m 190 #[.val (.int p0), .val (.int p1), .val (.int p2), .val (.int (0 : Int32)), .val (.int eV), .val (.int nC), .val (.ref c6), .val (.ref c7), .val (.ref nm), .val (.ref vl), .val (.ref ar), .val (.ref pp), .unset, .unset] [(.ref pp)])) (fun _ kt => XS.aload Xj.here hx rfl (hb hby at_188) rfl rfl kt) ?_
    obtain ⟨cq490, kq490, q490a, q490b, q490c⟩ := isOf hZ ej jE1
    obtain ⟨_, _, ⟨T490, L490, k490, n490⟩, -, X490, ⟨Lc490, hQ490, l490, y490, z490⟩, st490⟩ := Xj.virtualBack hx (y := (⟨"com/example/ampliar/ampliar/command/Parameter", "isFlag", "()Z"⟩ : MethodName)) (z := (⟨"com/example/ampliar/ampliar/command/Parameter", "isFlag", "()Z"⟩ : MethodName)) hown (mvT hZ (hw _ (List.mem_of_getElem? (i := 106) rfl))) (mvT hZ (hw _ (List.mem_of_getElem? (i := 107) rfl))) (notFace_of_selects (args := #[]) (mvT hZ (hw _ (List.mem_of_getElem? (i := 109) rfl)))) (mvT hZ (hw _ (List.mem_of_getElem? (i := 109) rfl))) (mvT hZ (hw _ (List.mem_of_getElem? (i := 108) rfl))) (by decide) (backOf (W := 0) (rkIr l Z a0 hw [] pp vl hj n0 Zj jF0) hZ (hw _ (List.mem_of_getElem? (i := 110) rfl)) (hw _ (List.mem_of_getElem? (i := 50) rfl)) (by decide) (by decide)) q490a q490c (g := (mkF m 190 #[.val (.int p0), .val (.int p1), .val (.int p2), .val (.int (0 : Int32)), .val (.int eV), .val (.int nC), .val (.ref c6), .val (.ref c7), .val (.ref nm), .val (.ref vl), .val (.ref ar), .val (.ref pp), .unset, .unset] [(.ref pp)])) rfl (by rw [hml]; rfl) (Steps.refl _) (argsL := []) (rest := []) (lenOf pd_15 rfl) rfl (by show 2 * 0 + _ ≤ _; exact Nat.le_of_eq rfl) (hb hby at_190) (fun _ _ => ⟨rfl, ej, (by decide : 24 + 0 ≤ _), (by decide : 1200 + 0 ≤ _)⟩)
    dsimp only [Pt.U, Pt.locs, Pt.cells, Pt.slots] at X490 l490 y490 z490 st490 hQ490
    subst l490 y490 z490
    obtain ⟨rfl, N490q, hQ490⟩ := hQ490
    have N490 := Fr.app Nj N490q
    refine Rch.via (T' := T490) (g' := (mkF m 193 #[.val (.int p0), .val (.int p1), .val (.int p2), .val (.int (0 : Int32)), .val (.int eV), .val (.int nC), .val (.ref c6), .val (.ref c7), .val (.ref nm), .val (.ref vl), .val (.ref ar), .val (.ref pp), .unset, .unset] [(.int (0 : Int32))])) st490 ?_
    refine Rch.of (T' := T490) (g' := (mkF m 194 #[.val (.int p0), .val (.int p1), .val (.int p2), .val (.int (0 : Int32)), .val (.int eV), .val (.int nC), .val (.ref c6), .val (.ref c7), .val (.ref nm), .val (.ref vl), .val (.ref ar), .val (.ref pp), .unset, .unset] [(.int (0 : Int32)), (.int (0 : Int32))])) (fun _ kt => XS.iloadN X490.here hx rfl (hb hby at_193) rfl  kt) ?_
    refine Rch.of (T' := T490) (g' := (mkF m 199 #[.val (.int p0), .val (.int p1), .val (.int p2), .val (.int (0 : Int32)), .val (.int eV), .val (.int nC), .val (.ref c6), .val (.ref c7), .val (.ref nm), .val (.ref vl), .val (.ref ar), .val (.ref pp), .unset, .unset] [])) (fun _ kt => XS.icmpYes X490.here hx rfl (pc0 := 194) (pc' := 199) rfl (hb hby at_194) rfl (teq ((by decide) : (0 : Int32) = (0 : Int32))).1 (by decide) (by decide) kt) ?_
    refine Rch.of (T' := T490) (g' := (mkF m 201 #[.val (.int p0), .val (.int p1), .val (.int p2), .val (.int (0 : Int32)), .val (.int eV), .val (.int nC), .val (.ref c6), .val (.ref c7), .val (.ref nm), .val (.ref vl), .val (.ref ar), .val (.ref pp), .unset, .unset] [(.ref pp)])) (fun _ kt => XS.aload X490.here hx rfl (hb hby at_199) rfl rfl kt) ?_
    have pr492 : nv ≤ 2 := by omega
    obtain ⟨cq491, kq491, q491a, q491b, q491c⟩ := isOf hZ hQ490 jE1
    obtain ⟨_, _, ⟨T491, L491, k491, n491⟩, -, X491, hT491, gr491, ⟨Lc491, hQ491, l491, y491, z491, cr491⟩, st491⟩ := X490.virtualBackS hx (y := (⟨"com/example/ampliar/ampliar/command/Parameter", "usage", "()Ljava/lang/String;"⟩ : MethodName)) (z := (⟨"com/example/ampliar/ampliar/command/Parameter", "usage", "()Ljava/lang/String;"⟩ : MethodName)) hown (mvT hZ (hw _ (List.mem_of_getElem? (i := 111) rfl))) (mvT hZ (hw _ (List.mem_of_getElem? (i := 112) rfl))) (notFace_of_selects (args := #[]) (mvT hZ (hw _ (List.mem_of_getElem? (i := 114) rfl)))) (mvT hZ (hw _ (List.mem_of_getElem? (i := 114) rfl))) (mvT hZ (hw _ (List.mem_of_getElem? (i := 113) rfl))) (by decide) (backOfSH (s := s) (vm0 := vmj) (EL := consts_1) (W := 0) (rkUv l Z a0 hw [] pp nm nb y vl vb nv yv cs hj n0 Zj jE1 jF1 jE2 jF2 jF3 jV2 jF0 jE3 jF4 jF5 jV3 pr492 hyvj hyj (S1.ext Oj.2) hcs) hZ (hw _ (List.mem_of_getElem? (i := 115) rfl)) (hw _ (List.mem_of_getElem? (i := 50) rfl)) (by decide) (by decide) hEL Rj.1) q491a q491c (g := (mkF m 201 #[.val (.int p0), .val (.int p1), .val (.int p2), .val (.int (0 : Int32)), .val (.int eV), .val (.int nC), .val (.ref c6), .val (.ref c7), .val (.ref nm), .val (.ref vl), .val (.ref ar), .val (.ref pp), .unset, .unset] [(.ref pp)])) rfl (by rw [hml]; rfl) (Steps.refl _) (argsL := []) (rest := []) (lenOf pd_16 rfl) rfl (by show 2 * 0 + _ ≤ _; exact Nat.le_of_eq rfl) (hb hby at_201) (fun _ _ => ⟨rfl, hQ490, (by decide : 24 + 14 ≤ _), (by decide : 1200 + 104 ≤ _)⟩)
    dsimp only [Pt.U, Pt.locs, Pt.cells, Pt.slots] at X491 hT491 gr491 l491 y491 z491 st491 hQ491 cr491
    subst l491 y491 z491
    obtain ⟨X491, hS491, hZ, hown⟩ := rebS hSj hkj X491 hT491 (by rw [← hQ490]; exact gr491) hZ hown
    obtain ⟨rr491, rb491, rt491, rfl, N491q, hQ491⟩ := hQ491
    have N491 := Fr.app N490 N491q
    obtain ⟨K491, Ex491, Fa491, Fb491, V491, t0491, t3491, t4491, Ch491⟩ := hQ491
    refine Rch.via (T' := T491) (g' := (mkF m 204 #[.val (.int p0), .val (.int p1), .val (.int p2), .val (.int (0 : Int32)), .val (.int eV), .val (.int nC), .val (.ref c6), .val (.ref c7), .val (.ref nm), .val (.ref vl), .val (.ref ar), .val (.ref pp), .unset, .unset] [(.ref rr491)])) st491 ?_
    refine Rch.of (T' := T491) (g' := (mkF m 206 #[.val (.int p0), .val (.int p1), .val (.int p2), .val (.int (0 : Int32)), .val (.int eV), .val (.int nC), .val (.ref c6), .val (.ref c7), .val (.ref nm), .val (.ref vl), .val (.ref ar), .val (.ref pp), .val (.ref rr491), .unset] [])) (fun _ kt => XS.astore X491.here hx rfl (hb hby at_204) rfl rfl (l' := #[.val (.int p0), .val (.int p1), .val (.int p2), .val (.int (0 : Int32)), .val (.int eV), .val (.int nC), .val (.ref c6), .val (.ref c7), .val (.ref nm), .val (.ref vl), .val (.ref ar), .val (.ref pp), .val (.ref rr491), .unset]) rfl kt) ?_
    refine Rch.of (T' := T491) (g' := (mkF m 208 #[.val (.int p0), .val (.int p1), .val (.int p2), .val (.int (0 : Int32)), .val (.int eV), .val (.int nC), .val (.ref c6), .val (.ref c7), .val (.ref nm), .val (.ref vl), .val (.ref ar), .val (.ref pp), .val (.ref rr491), .unset] [(.ref nm)])) (fun _ kt => XS.aload X491.here hx rfl (hb hby at_206) rfl rfl kt) ?_
    obtain ⟨cq493, kq493, q493a, q493b, q493c⟩ := isOf hZ rfl (jE2.keep K491)
    obtain ⟨_, _, ⟨T493, L493, k493, n493⟩, -, X493, ⟨Lc493, hQ493, l493, y493, z493⟩, st493⟩ := X491.virtualBack hx (y := (⟨"java/lang/String", "length", "()I"⟩ : MethodName)) (z := (⟨"java/lang/String", "length", "()I"⟩ : MethodName)) hown (mvT hZ (hw _ (List.mem_of_getElem? (i := 230) rfl))) (mvT hZ (hw _ (List.mem_of_getElem? (i := 146) rfl))) (notFace_of_selects (args := #[]) (mvT hZ (hw _ (List.mem_of_getElem? (i := 148) rfl)))) (mvT hZ (hw _ (List.mem_of_getElem? (i := 148) rfl))) (mvT hZ (hw _ (List.mem_of_getElem? (i := 147) rfl))) (by decide) (backOf (W := 0) (rqLE l Z a0 hw [] nm nb 2 y cs T491.heap n0 (Nat.le_trans Zj K491.1) (jE2.keep K491) (jF2.keep K491 nin0) (jF3.keep K491 nin0) (jV2.keep K491 nin0) (S1.ext (Oj.keep K491 all0).2) hcs) hZ (hw _ (List.mem_of_getElem? (i := 149) rfl)) (hw _ (List.mem_of_getElem? (i := 3) rfl)) (by decide) (by decide)) q493a q493c (g := (mkF m 208 #[.val (.int p0), .val (.int p1), .val (.int p2), .val (.int (0 : Int32)), .val (.int eV), .val (.int nC), .val (.ref c6), .val (.ref c7), .val (.ref nm), .val (.ref vl), .val (.ref ar), .val (.ref pp), .val (.ref rr491), .unset] [(.ref nm)])) rfl (by rw [hml]; rfl) (Steps.refl _) (argsL := []) (rest := []) (lenOf pd_20 rfl) rfl (by show 2 * 0 + _ ≤ _; exact Nat.le_of_eq rfl) (hb hby at_208) (fun _ _ => ⟨rfl, rfl, (by decide : 38 + 0 ≤ _), (by decide : 1304 + 0 ≤ _)⟩)
    dsimp only [Pt.U, Pt.locs, Pt.cells, Pt.slots] at X493 l493 y493 z493 st493 hQ493
    subst l493 y493 z493
    obtain ⟨rfl, N493q, hQ493⟩ := hQ493
    have N493 := Fr.app N491 N493q
    refine Rch.via (T' := T493) (g' := (mkF m 211 #[.val (.int p0), .val (.int p1), .val (.int p2), .val (.int (0 : Int32)), .val (.int eV), .val (.int nC), .val (.ref c6), .val (.ref c7), .val (.ref nm), .val (.ref vl), .val (.ref ar), .val (.ref pp), .val (.ref rr491), .unset] [(.int (Int32.ofNat 2))])) st493 ?_
    refine Rch.of (T' := T493) (g' := (mkF m 213 #[.val (.int p0), .val (.int p1), .val (.int p2), .val (.int (0 : Int32)), .val (.int eV), .val (.int nC), .val (.ref c6), .val (.ref c7), .val (.ref nm), .val (.ref vl), .val (.ref ar), .val (.ref pp), .val (.ref rr491), .val (.int (Int32.ofNat 2))] [])) (fun _ kt => XS.istore X493.here hx rfl (hb hby at_211) rfl (l' := #[.val (.int p0), .val (.int p1), .val (.int p2), .val (.int (0 : Int32)), .val (.int eV), .val (.int nC), .val (.ref c6), .val (.ref c7), .val (.ref nm), .val (.ref vl), .val (.ref ar), .val (.ref pp), .val (.ref rr491), .val (.int (Int32.ofNat 2))]) rfl kt) ?_
    refine Rch.of (T' := T493) (g' := (mkF m 214 #[.val (.int p0), .val (.int p1), .val (.int p2), .val (.int (0 : Int32)), .val (.int eV), .val (.int nC), .val (.ref c6), .val (.ref c7), .val (.ref nm), .val (.ref vl), .val (.ref ar), .val (.ref pp), .val (.ref rr491), .val (.int (Int32.ofNat 2))] [(.int (0 : Int32))])) (fun _ kt => XS.iloadN X493.here hx rfl (hb hby at_213) rfl  kt) ?_
    refine Rch.of (T' := T493) (g' := (mkF m 260 #[.val (.int p0), .val (.int p1), .val (.int p2), .val (.int (0 : Int32)), .val (.int eV), .val (.int nC), .val (.ref c6), .val (.ref c7), .val (.ref nm), .val (.ref vl), .val (.ref ar), .val (.ref pp), .val (.ref rr491), .val (.int (Int32.ofNat 2))] [])) (fun _ kt => XS.ifYes X493.here hx rfl (pc0 := 214) (pc' := 260) rfl (hb hby at_214) rfl ((if0 _ _).trans (teq ((by decide) : (0 : Int32) = (0 : Int32))).1) (by decide) (by decide) kt) ?_
    refine Rch.of (T' := T493) (g' := (mkF m 262 #[.val (.int p0), .val (.int p1), .val (.int p2), .val (.int (0 : Int32)), .val (.int eV), .val (.int nC), .val (.ref c6), .val (.ref c7), .val (.ref nm), .val (.ref vl), .val (.ref ar), .val (.ref pp), .val (.ref rr491), .val (.int (Int32.ofNat 2))] [(.ref rr491)])) (fun _ kt => XS.aload X493.here hx rfl (hb hby at_260) rfl rfl kt) ?_
    obtain ⟨cq494, kq494, q494a, q494b, q494c⟩ := isOf hZ hQ493 Ex491
    obtain ⟨_, _, ⟨T494, L494, k494, n494⟩, -, X494, ⟨Lc494, hQ494, l494, y494, z494⟩, st494⟩ := X493.virtualBack hx (y := (⟨"java/lang/String", "length", "()I"⟩ : MethodName)) (z := (⟨"java/lang/String", "length", "()I"⟩ : MethodName)) hown (mvT hZ (hw _ (List.mem_of_getElem? (i := 230) rfl))) (mvT hZ (hw _ (List.mem_of_getElem? (i := 146) rfl))) (notFace_of_selects (args := #[]) (mvT hZ (hw _ (List.mem_of_getElem? (i := 148) rfl)))) (mvT hZ (hw _ (List.mem_of_getElem? (i := 148) rfl))) (mvT hZ (hw _ (List.mem_of_getElem? (i := 147) rfl))) (by decide) (backOf (W := 0) (rqLE l Z a0 hw [] rr491 rb491 (nv + 5) rt491 cs T491.heap n0 (Nat.le_trans Zj K491.1) Ex491 Fa491 Fb491 V491 (S1.ext (Oj.keep K491 all0).2) hcs) hZ (hw _ (List.mem_of_getElem? (i := 149) rfl)) (hw _ (List.mem_of_getElem? (i := 3) rfl)) (by decide) (by decide)) q494a q494c (g := (mkF m 262 #[.val (.int p0), .val (.int p1), .val (.int p2), .val (.int (0 : Int32)), .val (.int eV), .val (.int nC), .val (.ref c6), .val (.ref c7), .val (.ref nm), .val (.ref vl), .val (.ref ar), .val (.ref pp), .val (.ref rr491), .val (.int (Int32.ofNat 2))] [(.ref rr491)])) rfl (by rw [hml]; rfl) (Steps.refl _) (argsL := []) (rest := []) (lenOf pd_20 rfl) rfl (by show 2 * 0 + _ ≤ _; exact Nat.le_of_eq rfl) (hb hby at_262) (fun _ _ => ⟨rfl, hQ493, (by decide : 38 + 0 ≤ _), (by decide : 1304 + 0 ≤ _)⟩)
    dsimp only [Pt.U, Pt.locs, Pt.cells, Pt.slots] at X494 l494 y494 z494 st494 hQ494
    subst l494 y494 z494
    obtain ⟨rfl, N494q, hQ494⟩ := hQ494
    have N494 := Fr.app N493 N494q
    refine Rch.via (T' := T494) (g' := (mkF m 265 #[.val (.int p0), .val (.int p1), .val (.int p2), .val (.int (0 : Int32)), .val (.int eV), .val (.int nC), .val (.ref c6), .val (.ref c7), .val (.ref nm), .val (.ref vl), .val (.ref ar), .val (.ref pp), .val (.ref rr491), .val (.int (Int32.ofNat 2))] [(.int (Int32.ofNat (nv + 5)))])) st494 ?_
    refine Rch.of (T' := T494) (g' := (mkF m 267 #[.val (.int p0), .val (.int p1), .val (.int p2), .val (.int (0 : Int32)), .val (.int eV), .val (.int nC), .val (.ref c6), .val (.ref c7), .val (.ref nm), .val (.ref vl), .val (.ref ar), .val (.ref pp), .val (.ref rr491), .val (.int (Int32.ofNat 2))] [(.int (Int32.ofNat 2)), (.int (Int32.ofNat (nv + 5)))])) (fun _ kt => XS.iload X494.here hx rfl (hb hby at_265) rfl  kt) ?_
    refine Rch.of (T' := T494) (g' := (mkF m 269 #[.val (.int p0), .val (.int p1), .val (.int p2), .val (.int (0 : Int32)), .val (.int eV), .val (.int nC), .val (.ref c6), .val (.ref c7), .val (.ref nm), .val (.ref vl), .val (.ref ar), .val (.ref pp), .val (.ref rr491), .val (.int (Int32.ofNat 2))] [(.ref vl), (.int (Int32.ofNat 2)), (.int (Int32.ofNat (nv + 5)))])) (fun _ kt => XS.aload X494.here hx rfl (hb hby at_267) rfl rfl kt) ?_
    obtain ⟨cq495, kq495, q495a, q495b, q495c⟩ := isOf hZ hQ494 (jE3.keep K491)
    obtain ⟨_, _, ⟨T495, L495, k495, n495⟩, -, X495, ⟨Lc495, hQ495, l495, y495, z495⟩, st495⟩ := X494.virtualBack hx (y := (⟨"java/lang/String", "length", "()I"⟩ : MethodName)) (z := (⟨"java/lang/String", "length", "()I"⟩ : MethodName)) hown (mvT hZ (hw _ (List.mem_of_getElem? (i := 230) rfl))) (mvT hZ (hw _ (List.mem_of_getElem? (i := 146) rfl))) (notFace_of_selects (args := #[]) (mvT hZ (hw _ (List.mem_of_getElem? (i := 148) rfl)))) (mvT hZ (hw _ (List.mem_of_getElem? (i := 148) rfl))) (mvT hZ (hw _ (List.mem_of_getElem? (i := 147) rfl))) (by decide) (backOf (W := 2) (rqLE l Z a0 hw [] vl vb nv yv cs T491.heap n0 (Nat.le_trans Zj K491.1) (jE3.keep K491) (jF4.keep K491 nin0) (jF5.keep K491 nin0) (jV3.keep K491 nin0) (S1.ext (Oj.keep K491 all0).2) hcs) hZ (hw _ (List.mem_of_getElem? (i := 149) rfl)) (hw _ (List.mem_of_getElem? (i := 3) rfl)) (by decide) (by decide)) q495a q495c (g := (mkF m 269 #[.val (.int p0), .val (.int p1), .val (.int p2), .val (.int (0 : Int32)), .val (.int eV), .val (.int nC), .val (.ref c6), .val (.ref c7), .val (.ref nm), .val (.ref vl), .val (.ref ar), .val (.ref pp), .val (.ref rr491), .val (.int (Int32.ofNat 2))] [(.ref vl), (.int (Int32.ofNat 2)), (.int (Int32.ofNat (nv + 5)))])) rfl (by rw [hml]; rfl) (Steps.refl _) (argsL := []) (rest := [(.int (Int32.ofNat 2)), (.int (Int32.ofNat (nv + 5)))]) (lenOf pd_20 rfl) rfl (by show 2 * 0 + _ ≤ _; exact Nat.le_of_eq rfl) (hb hby at_269) (fun _ _ => ⟨rfl, hQ494, (by decide : 38 + 0 ≤ _), (by decide : 1304 + 0 ≤ _)⟩)
    dsimp only [Pt.U, Pt.locs, Pt.cells, Pt.slots] at X495 l495 y495 z495 st495 hQ495
    subst l495 y495 z495
    obtain ⟨rfl, N495q, hQ495⟩ := hQ495
    have N495 := Fr.app N494 N495q
    refine Rch.via (T' := T495) (g' := (mkF m 272 #[.val (.int p0), .val (.int p1), .val (.int p2), .val (.int (0 : Int32)), .val (.int eV), .val (.int nC), .val (.ref c6), .val (.ref c7), .val (.ref nm), .val (.ref vl), .val (.ref ar), .val (.ref pp), .val (.ref rr491), .val (.int (Int32.ofNat 2))] [(.int (Int32.ofNat nv)), (.int (Int32.ofNat 2)), (.int (Int32.ofNat (nv + 5)))])) st495 ?_
    refine Rch.of (T' := T495) (g' := (mkF m 273 #[.val (.int p0), .val (.int p1), .val (.int p2), .val (.int (0 : Int32)), .val (.int eV), .val (.int nC), .val (.ref c6), .val (.ref c7), .val (.ref nm), .val (.ref vl), .val (.ref ar), .val (.ref pp), .val (.ref rr491), .val (.int (Int32.ofNat 2))] [(.int ((Int32.ofNat 2) + (Int32.ofNat nv))), (.int (Int32.ofNat (nv + 5)))])) (fun _ kt => XS.iadd X495.here hx rfl (hb hby at_272) rfl kt) ?_
    refine Rch.of (T' := T495) (g' := (mkF m 274 #[.val (.int p0), .val (.int p1), .val (.int p2), .val (.int (0 : Int32)), .val (.int eV), .val (.int nC), .val (.ref c6), .val (.ref c7), .val (.ref nm), .val (.ref vl), .val (.ref ar), .val (.ref pp), .val (.ref rr491), .val (.int (Int32.ofNat 2))] [(.int (3 : Int32)), (.int ((Int32.ofNat 2) + (Int32.ofNat nv))), (.int (Int32.ofNat (nv + 5)))])) (fun _ kt => XS.iconst X495.here hx rfl (hb hby at_273) kt) ?_
    refine Rch.of (T' := T495) (g' := (mkF m 275 #[.val (.int p0), .val (.int p1), .val (.int p2), .val (.int (0 : Int32)), .val (.int eV), .val (.int nC), .val (.ref c6), .val (.ref c7), .val (.ref nm), .val (.ref vl), .val (.ref ar), .val (.ref pp), .val (.ref rr491), .val (.int (Int32.ofNat 2))] [(.int (((Int32.ofNat 2) + (Int32.ofNat nv)) + (3 : Int32))), (.int (Int32.ofNat (nv + 5)))])) (fun _ kt => XS.iadd X495.here hx rfl (hb hby at_274) rfl kt) ?_
    have kn496 : (Int32.ofNat (nv + 5)) = (((Int32.ofNat 2) + (Int32.ofNat nv)) + (3 : Int32)) := by rcases (show nv = 0 ∨ nv = 1 ∨ nv = 2 by omega) with e | e | e <;> rw [e] <;> decide
    have kn497 : (rt491 0) = (91 : Int32) := t0491
    have kn498 : (rt491 3) = (32 : Int32) := t3491
    refine Rch.of (T' := T495) (g' := (mkF m 278 #[.val (.int p0), .val (.int p1), .val (.int p2), .val (.int (0 : Int32)), .val (.int eV), .val (.int nC), .val (.ref c6), .val (.ref c7), .val (.ref nm), .val (.ref vl), .val (.ref ar), .val (.ref pp), .val (.ref rr491), .val (.int (Int32.ofNat 2))] [])) (fun _ kt => XS.icmpNo X495.here hx rfl (hb hby at_275) rfl (teq kn496).2 kt) ?_
    refine Rch.of (T' := T495) (g' := (mkF m 280 #[.val (.int p0), .val (.int p1), .val (.int p2), .val (.int (0 : Int32)), .val (.int eV), .val (.int nC), .val (.ref c6), .val (.ref c7), .val (.ref nm), .val (.ref vl), .val (.ref ar), .val (.ref pp), .val (.ref rr491), .val (.int (Int32.ofNat 2))] [(.ref rr491)])) (fun _ kt => XS.aload X495.here hx rfl (hb hby at_278) rfl rfl kt) ?_
    refine Rch.of (T' := T495) (g' := (mkF m 281 #[.val (.int p0), .val (.int p1), .val (.int p2), .val (.int (0 : Int32)), .val (.int eV), .val (.int nC), .val (.ref c6), .val (.ref c7), .val (.ref nm), .val (.ref vl), .val (.ref ar), .val (.ref pp), .val (.ref rr491), .val (.int (Int32.ofNat 2))] [(.int (0 : Int32)), (.ref rr491)])) (fun _ kt => XS.iconst X495.here hx rfl (hb hby at_280) kt) ?_
    have pr500 : 0 < (nv + 5) := by omega
    have pr501 : (nv + 5) ≤ 16 := by omega
    obtain ⟨cq499, kq499, q499a, q499b, q499c⟩ := isOf hZ hQ495 Ex491
    obtain ⟨_, _, ⟨T499, L499, k499, n499⟩, -, X499, ⟨Lc499, hQ499, l499, y499, z499⟩, st499⟩ := X495.virtualBack hx (y := (⟨"java/lang/String", "charAt", "(I)C"⟩ : MethodName)) (z := (⟨"java/lang/String", "charAt", "(I)C"⟩ : MethodName)) hown (mvT hZ (hw _ (List.mem_of_getElem? (i := 231) rfl))) (mvT hZ (hw _ (List.mem_of_getElem? (i := 232) rfl))) (notFace_of_selects (args := #[]) (mvT hZ (hw _ (List.mem_of_getElem? (i := 234) rfl)))) (mvT hZ (hw _ (List.mem_of_getElem? (i := 234) rfl))) (mvT hZ (hw _ (List.mem_of_getElem? (i := 233) rfl))) (by decide) (backOf (W := 0) (rqCA l Z a0 hw [] rr491 rb491 (nv + 5) rt491 0 cs sv T491.heap n0 (Nat.le_trans Zj K491.1) Ex491 Fa491 Fb491 V491 pr500 pr501 Ch491 (S1.ext (Oj.keep K491 all0).2) hcs (SI0.ext (Oj.keep K491 all0).2) hsv) hZ (hw _ (List.mem_of_getElem? (i := 235) rfl)) (hw _ (List.mem_of_getElem? (i := 3) rfl)) (by decide) (by decide)) q499a q499c (g := (mkF m 281 #[.val (.int p0), .val (.int p1), .val (.int p2), .val (.int (0 : Int32)), .val (.int eV), .val (.int nC), .val (.ref c6), .val (.ref c7), .val (.ref nm), .val (.ref vl), .val (.ref ar), .val (.ref pp), .val (.ref rr491), .val (.int (Int32.ofNat 2))] [(.int (0 : Int32)), (.ref rr491)])) rfl (by rw [hml]; rfl) (Steps.refl _) (argsL := [(.int (0 : Int32))]) (rest := []) (lenOf pd_32 rfl) rfl (by show 2 * 0 + _ ≤ _; exact Nat.le_of_eq rfl) (hb hby at_281) (fun _ _ => ⟨rfl, hQ495, (by decide : 38 + 0 ≤ _), (by decide : 1304 + 0 ≤ _)⟩)
    dsimp only [Pt.U, Pt.locs, Pt.cells, Pt.slots] at X499 l499 y499 z499 st499 hQ499
    subst l499 y499 z499
    obtain ⟨rfl, N499q, hQ499⟩ := hQ499
    have N499 := Fr.app N495 N499q
    refine Rch.via (T' := T499) (g' := (mkF m 284 #[.val (.int p0), .val (.int p1), .val (.int p2), .val (.int (0 : Int32)), .val (.int eV), .val (.int nC), .val (.ref c6), .val (.ref c7), .val (.ref nm), .val (.ref vl), .val (.ref ar), .val (.ref pp), .val (.ref rr491), .val (.int (Int32.ofNat 2))] [(.int (rt491 0))])) st499 ?_
    refine Rch.of (T' := T499) (g' := (mkF m 286 #[.val (.int p0), .val (.int p1), .val (.int p2), .val (.int (0 : Int32)), .val (.int eV), .val (.int nC), .val (.ref c6), .val (.ref c7), .val (.ref nm), .val (.ref vl), .val (.ref ar), .val (.ref pp), .val (.ref rr491), .val (.int (Int32.ofNat 2))] [(.int (91 : Int32)), (.int (rt491 0))])) (fun _ kt => XS.bipush X499.here hx rfl (hb hby at_284) kt) ?_
    refine Rch.of (T' := T499) (g' := (mkF m 289 #[.val (.int p0), .val (.int p1), .val (.int p2), .val (.int (0 : Int32)), .val (.int eV), .val (.int nC), .val (.ref c6), .val (.ref c7), .val (.ref nm), .val (.ref vl), .val (.ref ar), .val (.ref pp), .val (.ref rr491), .val (.int (Int32.ofNat 2))] [])) (fun _ kt => XS.icmpNo X499.here hx rfl (hb hby at_286) rfl (teq kn497).2 kt) ?_
    refine Rch.of (T' := T499) (g' := (mkF m 291 #[.val (.int p0), .val (.int p1), .val (.int p2), .val (.int (0 : Int32)), .val (.int eV), .val (.int nC), .val (.ref c6), .val (.ref c7), .val (.ref nm), .val (.ref vl), .val (.ref ar), .val (.ref pp), .val (.ref rr491), .val (.int (Int32.ofNat 2))] [(.ref rr491)])) (fun _ kt => XS.aload X499.here hx rfl (hb hby at_289) rfl rfl kt) ?_
    refine Rch.of (T' := T499) (g' := (mkF m 293 #[.val (.int p0), .val (.int p1), .val (.int p2), .val (.int (0 : Int32)), .val (.int eV), .val (.int nC), .val (.ref c6), .val (.ref c7), .val (.ref nm), .val (.ref vl), .val (.ref ar), .val (.ref pp), .val (.ref rr491), .val (.int (Int32.ofNat 2))] [(.int (Int32.ofNat 2)), (.ref rr491)])) (fun _ kt => XS.iload X499.here hx rfl (hb hby at_291) rfl  kt) ?_
    refine Rch.of (T' := T499) (g' := (mkF m 294 #[.val (.int p0), .val (.int p1), .val (.int p2), .val (.int (0 : Int32)), .val (.int eV), .val (.int nC), .val (.ref c6), .val (.ref c7), .val (.ref nm), .val (.ref vl), .val (.ref ar), .val (.ref pp), .val (.ref rr491), .val (.int (Int32.ofNat 2))] [(.int (1 : Int32)), (.int (Int32.ofNat 2)), (.ref rr491)])) (fun _ kt => XS.iconst X499.here hx rfl (hb hby at_293) kt) ?_
    refine Rch.of (T' := T499) (g' := (mkF m 295 #[.val (.int p0), .val (.int p1), .val (.int p2), .val (.int (0 : Int32)), .val (.int eV), .val (.int nC), .val (.ref c6), .val (.ref c7), .val (.ref nm), .val (.ref vl), .val (.ref ar), .val (.ref pp), .val (.ref rr491), .val (.int (Int32.ofNat 2))] [(.int ((Int32.ofNat 2) + (1 : Int32))), (.ref rr491)])) (fun _ kt => XS.iadd X499.here hx rfl (hb hby at_294) rfl kt) ?_
    have sw502 : ((Int32.ofNat 2) + (1 : Int32)) = (3 : Int32) := by decide
    rw [sw502]
    show Rch p e below K T499 (mkF m 295 #[.val (.int p0), .val (.int p1), .val (.int p2), .val (.int (0 : Int32)), .val (.int eV), .val (.int nC), .val (.ref c6), .val (.ref c7), .val (.ref nm), .val (.ref vl), .val (.ref ar), .val (.ref pp), .val (.ref rr491), .val (.int (Int32.ofNat 2))] [(.int (3 : Int32)), (.ref rr491)])
    have pr504 : 3 < (nv + 5) := by omega
    have pr505 : (nv + 5) ≤ 16 := by omega
    obtain ⟨cq503, kq503, q503a, q503b, q503c⟩ := isOf hZ hQ499 Ex491
    obtain ⟨_, _, ⟨T503, L503, k503, n503⟩, -, X503, ⟨Lc503, hQ503, l503, y503, z503⟩, st503⟩ := X499.virtualBack hx (y := (⟨"java/lang/String", "charAt", "(I)C"⟩ : MethodName)) (z := (⟨"java/lang/String", "charAt", "(I)C"⟩ : MethodName)) hown (mvT hZ (hw _ (List.mem_of_getElem? (i := 231) rfl))) (mvT hZ (hw _ (List.mem_of_getElem? (i := 232) rfl))) (notFace_of_selects (args := #[]) (mvT hZ (hw _ (List.mem_of_getElem? (i := 234) rfl)))) (mvT hZ (hw _ (List.mem_of_getElem? (i := 234) rfl))) (mvT hZ (hw _ (List.mem_of_getElem? (i := 233) rfl))) (by decide) (backOf (W := 0) (rqCA l Z a0 hw [] rr491 rb491 (nv + 5) rt491 3 cs sv T491.heap n0 (Nat.le_trans Zj K491.1) Ex491 Fa491 Fb491 V491 pr504 pr505 Ch491 (S1.ext (Oj.keep K491 all0).2) hcs (SI0.ext (Oj.keep K491 all0).2) hsv) hZ (hw _ (List.mem_of_getElem? (i := 235) rfl)) (hw _ (List.mem_of_getElem? (i := 3) rfl)) (by decide) (by decide)) q503a q503c (g := (mkF m 295 #[.val (.int p0), .val (.int p1), .val (.int p2), .val (.int (0 : Int32)), .val (.int eV), .val (.int nC), .val (.ref c6), .val (.ref c7), .val (.ref nm), .val (.ref vl), .val (.ref ar), .val (.ref pp), .val (.ref rr491), .val (.int (Int32.ofNat 2))] [(.int (3 : Int32)), (.ref rr491)])) rfl (by rw [hml]; rfl) (Steps.refl _) (argsL := [(.int (3 : Int32))]) (rest := []) (lenOf pd_32 rfl) rfl (by show 2 * 0 + _ ≤ _; exact Nat.le_of_eq rfl) (hb hby at_295) (fun _ _ => ⟨rfl, hQ499, (by decide : 38 + 0 ≤ _), (by decide : 1304 + 0 ≤ _)⟩)
    dsimp only [Pt.U, Pt.locs, Pt.cells, Pt.slots] at X503 l503 y503 z503 st503 hQ503
    subst l503 y503 z503
    obtain ⟨rfl, N503q, hQ503⟩ := hQ503
    have N503 := Fr.app N499 N503q
    refine Rch.via (T' := T503) (g' := (mkF m 298 #[.val (.int p0), .val (.int p1), .val (.int p2), .val (.int (0 : Int32)), .val (.int eV), .val (.int nC), .val (.ref c6), .val (.ref c7), .val (.ref nm), .val (.ref vl), .val (.ref ar), .val (.ref pp), .val (.ref rr491), .val (.int (Int32.ofNat 2))] [(.int (rt491 3))])) st503 ?_
    refine Rch.of (T' := T503) (g' := (mkF m 300 #[.val (.int p0), .val (.int p1), .val (.int p2), .val (.int (0 : Int32)), .val (.int eV), .val (.int nC), .val (.ref c6), .val (.ref c7), .val (.ref nm), .val (.ref vl), .val (.ref ar), .val (.ref pp), .val (.ref rr491), .val (.int (Int32.ofNat 2))] [(.int (32 : Int32)), (.int (rt491 3))])) (fun _ kt => XS.bipush X503.here hx rfl (hb hby at_298) kt) ?_
    refine Rch.of (T' := T503) (g' := (mkF m 303 #[.val (.int p0), .val (.int p1), .val (.int p2), .val (.int (0 : Int32)), .val (.int eV), .val (.int nC), .val (.ref c6), .val (.ref c7), .val (.ref nm), .val (.ref vl), .val (.ref ar), .val (.ref pp), .val (.ref rr491), .val (.int (Int32.ofNat 2))] [])) (fun _ kt => XS.icmpNo X503.here hx rfl (hb hby at_300) rfl (teq kn498).2 kt) ?_
    refine Rch.of (T' := T503) (g' := (mkF m 305 #[.val (.int p0), .val (.int p1), .val (.int p2), .val (.int (0 : Int32)), .val (.int eV), .val (.int nC), .val (.ref c6), .val (.ref c7), .val (.ref nm), .val (.ref vl), .val (.ref ar), .val (.ref pp), .val (.ref rr491), .val (.int (Int32.ofNat 2))] [(.ref rr491)])) (fun _ kt => XS.aload X503.here hx rfl (hb hby at_303) rfl rfl kt) ?_
    refine Rch.of (T' := T503) (g' := (mkF m 307 #[.val (.int p0), .val (.int p1), .val (.int p2), .val (.int (0 : Int32)), .val (.int eV), .val (.int nC), .val (.ref c6), .val (.ref c7), .val (.ref nm), .val (.ref vl), .val (.ref ar), .val (.ref pp), .val (.ref rr491), .val (.int (Int32.ofNat 2))] [(.ref rr491), (.ref rr491)])) (fun _ kt => XS.aload X503.here hx rfl (hb hby at_305) rfl rfl kt) ?_
    obtain ⟨cq506, kq506, q506a, q506b, q506c⟩ := isOf hZ hQ503 Ex491
    obtain ⟨_, _, ⟨T506, L506, k506, n506⟩, -, X506, ⟨Lc506, hQ506, l506, y506, z506⟩, st506⟩ := X503.virtualBack hx (y := (⟨"java/lang/String", "length", "()I"⟩ : MethodName)) (z := (⟨"java/lang/String", "length", "()I"⟩ : MethodName)) hown (mvT hZ (hw _ (List.mem_of_getElem? (i := 230) rfl))) (mvT hZ (hw _ (List.mem_of_getElem? (i := 146) rfl))) (notFace_of_selects (args := #[]) (mvT hZ (hw _ (List.mem_of_getElem? (i := 148) rfl)))) (mvT hZ (hw _ (List.mem_of_getElem? (i := 148) rfl))) (mvT hZ (hw _ (List.mem_of_getElem? (i := 147) rfl))) (by decide) (backOf (W := 1) (rqLE l Z a0 hw [] rr491 rb491 (nv + 5) rt491 cs T491.heap n0 (Nat.le_trans Zj K491.1) Ex491 Fa491 Fb491 V491 (S1.ext (Oj.keep K491 all0).2) hcs) hZ (hw _ (List.mem_of_getElem? (i := 149) rfl)) (hw _ (List.mem_of_getElem? (i := 3) rfl)) (by decide) (by decide)) q506a q506c (g := (mkF m 307 #[.val (.int p0), .val (.int p1), .val (.int p2), .val (.int (0 : Int32)), .val (.int eV), .val (.int nC), .val (.ref c6), .val (.ref c7), .val (.ref nm), .val (.ref vl), .val (.ref ar), .val (.ref pp), .val (.ref rr491), .val (.int (Int32.ofNat 2))] [(.ref rr491), (.ref rr491)])) rfl (by rw [hml]; rfl) (Steps.refl _) (argsL := []) (rest := [(.ref rr491)]) (lenOf pd_20 rfl) rfl (by show 2 * 0 + _ ≤ _; exact Nat.le_of_eq rfl) (hb hby at_307) (fun _ _ => ⟨rfl, hQ503, (by decide : 38 + 0 ≤ _), (by decide : 1304 + 0 ≤ _)⟩)
    dsimp only [Pt.U, Pt.locs, Pt.cells, Pt.slots] at X506 l506 y506 z506 st506 hQ506
    subst l506 y506 z506
    obtain ⟨rfl, N506q, hQ506⟩ := hQ506
    have N506 := Fr.app N503 N506q
    refine Rch.via (T' := T506) (g' := (mkF m 310 #[.val (.int p0), .val (.int p1), .val (.int p2), .val (.int (0 : Int32)), .val (.int eV), .val (.int nC), .val (.ref c6), .val (.ref c7), .val (.ref nm), .val (.ref vl), .val (.ref ar), .val (.ref pp), .val (.ref rr491), .val (.int (Int32.ofNat 2))] [(.int (Int32.ofNat (nv + 5))), (.ref rr491)])) st506 ?_
    refine Rch.of (T' := T506) (g' := (mkF m 311 #[.val (.int p0), .val (.int p1), .val (.int p2), .val (.int (0 : Int32)), .val (.int eV), .val (.int nC), .val (.ref c6), .val (.ref c7), .val (.ref nm), .val (.ref vl), .val (.ref ar), .val (.ref pp), .val (.ref rr491), .val (.int (Int32.ofNat 2))] [(.int (1 : Int32)), (.int (Int32.ofNat (nv + 5))), (.ref rr491)])) (fun _ kt => XS.iconst X506.here hx rfl (hb hby at_310) kt) ?_
    refine Rch.of (T' := T506) (g' := (mkF m 312 #[.val (.int p0), .val (.int p1), .val (.int p2), .val (.int (0 : Int32)), .val (.int eV), .val (.int nC), .val (.ref c6), .val (.ref c7), .val (.ref nm), .val (.ref vl), .val (.ref ar), .val (.ref pp), .val (.ref rr491), .val (.int (Int32.ofNat 2))] [(.int ((Int32.ofNat (nv + 5)) - (1 : Int32))), (.ref rr491)])) (fun _ kt => XS.isub X506.here hx rfl (hb hby at_311) rfl kt) ?_
    have sw507 : ((Int32.ofNat (nv + 5)) - (1 : Int32)) = (Int32.ofNat (nv + 4)) := own_pred (nv + 4)
    rw [sw507]
    show Rch p e below K T506 (mkF m 312 #[.val (.int p0), .val (.int p1), .val (.int p2), .val (.int (0 : Int32)), .val (.int eV), .val (.int nC), .val (.ref c6), .val (.ref c7), .val (.ref nm), .val (.ref vl), .val (.ref ar), .val (.ref pp), .val (.ref rr491), .val (.int (Int32.ofNat 2))] [(.int (Int32.ofNat (nv + 4))), (.ref rr491)])
    have kn508 : (rt491 (nv + 4)) = (93 : Int32) := t4491
    have pr510 : (nv + 4) < (nv + 5) := by omega
    have pr511 : (nv + 5) ≤ 16 := by omega
    obtain ⟨cq509, kq509, q509a, q509b, q509c⟩ := isOf hZ hQ506 Ex491
    obtain ⟨_, _, ⟨T509, L509, k509, n509⟩, -, X509, ⟨Lc509, hQ509, l509, y509, z509⟩, st509⟩ := X506.virtualBack hx (y := (⟨"java/lang/String", "charAt", "(I)C"⟩ : MethodName)) (z := (⟨"java/lang/String", "charAt", "(I)C"⟩ : MethodName)) hown (mvT hZ (hw _ (List.mem_of_getElem? (i := 231) rfl))) (mvT hZ (hw _ (List.mem_of_getElem? (i := 232) rfl))) (notFace_of_selects (args := #[]) (mvT hZ (hw _ (List.mem_of_getElem? (i := 234) rfl)))) (mvT hZ (hw _ (List.mem_of_getElem? (i := 234) rfl))) (mvT hZ (hw _ (List.mem_of_getElem? (i := 233) rfl))) (by decide) (backOf (W := 0) (rqCA l Z a0 hw [] rr491 rb491 (nv + 5) rt491 (nv + 4) cs sv T491.heap n0 (Nat.le_trans Zj K491.1) Ex491 Fa491 Fb491 V491 pr510 pr511 Ch491 (S1.ext (Oj.keep K491 all0).2) hcs (SI0.ext (Oj.keep K491 all0).2) hsv) hZ (hw _ (List.mem_of_getElem? (i := 235) rfl)) (hw _ (List.mem_of_getElem? (i := 3) rfl)) (by decide) (by decide)) q509a q509c (g := (mkF m 312 #[.val (.int p0), .val (.int p1), .val (.int p2), .val (.int (0 : Int32)), .val (.int eV), .val (.int nC), .val (.ref c6), .val (.ref c7), .val (.ref nm), .val (.ref vl), .val (.ref ar), .val (.ref pp), .val (.ref rr491), .val (.int (Int32.ofNat 2))] [(.int (Int32.ofNat (nv + 4))), (.ref rr491)])) rfl (by rw [hml]; rfl) (Steps.refl _) (argsL := [(.int (Int32.ofNat (nv + 4)))]) (rest := []) (lenOf pd_32 rfl) rfl (by show 2 * 0 + _ ≤ _; exact Nat.le_of_eq rfl) (hb hby at_312) (fun _ _ => ⟨rfl, hQ506, (by decide : 38 + 0 ≤ _), (by decide : 1304 + 0 ≤ _)⟩)
    dsimp only [Pt.U, Pt.locs, Pt.cells, Pt.slots] at X509 l509 y509 z509 st509 hQ509
    subst l509 y509 z509
    obtain ⟨rfl, N509q, hQ509⟩ := hQ509
    have N509 := Fr.app N506 N509q
    refine Rch.via (T' := T509) (g' := (mkF m 315 #[.val (.int p0), .val (.int p1), .val (.int p2), .val (.int (0 : Int32)), .val (.int eV), .val (.int nC), .val (.ref c6), .val (.ref c7), .val (.ref nm), .val (.ref vl), .val (.ref ar), .val (.ref pp), .val (.ref rr491), .val (.int (Int32.ofNat 2))] [(.int (rt491 (nv + 4)))])) st509 ?_
    refine Rch.of (T' := T509) (g' := (mkF m 317 #[.val (.int p0), .val (.int p1), .val (.int p2), .val (.int (0 : Int32)), .val (.int eV), .val (.int nC), .val (.ref c6), .val (.ref c7), .val (.ref nm), .val (.ref vl), .val (.ref ar), .val (.ref pp), .val (.ref rr491), .val (.int (Int32.ofNat 2))] [(.int (93 : Int32)), (.int (rt491 (nv + 4)))])) (fun _ kt => XS.bipush X509.here hx rfl (hb hby at_315) kt) ?_
    refine Rch.of (T' := T509) (g' := (mkF m 320 #[.val (.int p0), .val (.int p1), .val (.int p2), .val (.int (0 : Int32)), .val (.int eV), .val (.int nC), .val (.ref c6), .val (.ref c7), .val (.ref nm), .val (.ref vl), .val (.ref ar), .val (.ref pp), .val (.ref rr491), .val (.int (Int32.ofNat 2))] [])) (fun _ kt => XS.icmpNo X509.here hx rfl (hb hby at_317) rfl (teq kn508).2 kt) ?_
    refine Rch.of (T' := T509) (g' := (mkF m 321 #[.val (.int p0), .val (.int p1), .val (.int p2), .val (.int (0 : Int32)), .val (.int eV), .val (.int nC), .val (.ref c6), .val (.ref c7), .val (.ref nm), .val (.ref vl), .val (.ref ar), .val (.ref pp), .val (.ref rr491), .val (.int (Int32.ofNat 2))] [(.int (1 : Int32))])) (fun _ kt => XS.iconst X509.here hx rfl (hb hby at_320) kt) ?_
    refine Rch.of (T' := T509) (g' := (mkF m 325 #[.val (.int p0), .val (.int p1), .val (.int p2), .val (.int (0 : Int32)), .val (.int eV), .val (.int nC), .val (.ref c6), .val (.ref c7), .val (.ref nm), .val (.ref vl), .val (.ref ar), .val (.ref pp), .val (.ref rr491), .val (.int (Int32.ofNat 2))] [(.int (1 : Int32))])) (fun _ kt => XS.goto X509.here hx rfl (pc0 := 321) (pc' := 325) rfl (hb hby at_321) (by decide) (by decide) kt) ?_
    exact Rch.retN X509 hx (t := .boolean) hret (by simp) hlk (hb hby at_325) (fun U hU hF => hK _ U _ _ _ (by show Q_rm0 Z p0 p1 p2 eo el cs sv h0 n0 _ U.heap _; rw [hU, hQ509]; exact ⟨rfl, N509, trivial⟩) (own_endH hZ hEL (Rj.trans cr491) (hU.trans hQ509) hF) (own_end hS491 (by rw [hU, hQ509]; exact (Nat.le_refl _)) hF) (by decide) (by decide))
  have J38 : ∀ fLG fEV fNC : Int32, (fLG = 0 ∨ fLG = 1) → Rch p e below K T0 (mkF m 38 #[.val (.int p0), .val (.int p1), .val (.int p2), .val (.int fLG), .val (.int fEV), .val (.int fNC), .unset, .unset, .unset, .unset, .unset, .unset, .unset, .unset] []) := by
    intro fLG fEV fNC hb3
    refine Rch.of (T' := T0) (g' := (mkF m 39 #[.val (.int p0), .val (.int p1), .val (.int p2), .val (.int fLG), .val (.int fEV), .val (.int fNC), .unset, .unset, .unset, .unset, .unset, .unset, .unset, .unset] [(.int (2 : Int32))])) (fun _ kt => XS.iconst X0.here hx rfl (hb hby at_38) kt) ?_
    obtain ⟨T512, h512, k512, X512, e512, E512, A512, Q512, st512⟩ := newPE X0 hx hZ (hw _ (List.mem_of_getElem? (i := 0) rfl)) e0 (g := (mkF m 39 #[.val (.int p0), .val (.int p1), .val (.int p2), .val (.int fLG), .val (.int fEV), .val (.int fNC), .unset, .unset, .unset, .unset, .unset, .unset, .unset, .unset] [(.int (2 : Int32))])) rfl (hb hby at_39) rfl (by decide) (cap := 2) (by decide) (by decide) (by decide) (by decide) (ad := "[C") rfl
    obtain ⟨b512, g512⟩ : ∃ zz_, zz_ = h0.size := ⟨_, rfl⟩
    have ne_el_b512 : el ≠ b512 := Nat.ne_of_lt (Nat.lt_of_lt_of_le (E9.ext O0.2).lt (Nat.le_of_eq g512.symm))
    have ge_b512 : n0 ≤ b512 := Nat.le_trans Z0 (Nat.le_of_eq g512.symm)
    rw [← g512] at A512 Q512 st512
    have V512 : Av Z h512 b512 .char 2 (fun _ => (.int (0 : Int32))) := Av.new A512 (by decide)
    refine Rch.of (T' := T512) (g' := (mkF m 41 #[.val (.int p0), .val (.int p1), .val (.int p2), .val (.int fLG), .val (.int fEV), .val (.int fNC), .unset, .unset, .unset, .unset, .unset, .unset, .unset, .unset] [(.ref b512)])) st512 ?_
    refine Rch.of (T' := T512) (g' := (mkF m 43 #[.val (.int p0), .val (.int p1), .val (.int p2), .val (.int fLG), .val (.int fEV), .val (.int fNC), .val (.ref b512), .unset, .unset, .unset, .unset, .unset, .unset, .unset] [])) (fun _ kt => XS.astore X512.here hx rfl (hb hby at_41) rfl rfl (l' := #[.val (.int p0), .val (.int p1), .val (.int p2), .val (.int fLG), .val (.int fEV), .val (.int fNC), .val (.ref b512), .unset, .unset, .unset, .unset, .unset, .unset, .unset]) rfl kt) ?_
    refine Rch.of (T' := T512) (g' := (mkF m 45 #[.val (.int p0), .val (.int p1), .val (.int p2), .val (.int fLG), .val (.int fEV), .val (.int fNC), .val (.ref b512), .unset, .unset, .unset, .unset, .unset, .unset, .unset] [(.ref b512)])) (fun _ kt => XS.aload X512.here hx rfl (hb hby at_43) rfl rfl kt) ?_
    refine Rch.of (T' := T512) (g' := (mkF m 46 #[.val (.int p0), .val (.int p1), .val (.int p2), .val (.int fLG), .val (.int fEV), .val (.int fNC), .val (.ref b512), .unset, .unset, .unset, .unset, .unset, .unset, .unset] [(.int (0 : Int32)), (.ref b512)])) (fun _ kt => XS.iconst X512.here hx rfl (hb hby at_45) kt) ?_
    refine Rch.of (T' := T512) (g' := (mkF m 47 #[.val (.int p0), .val (.int p1), .val (.int p2), .val (.int fLG), .val (.int fEV), .val (.int fNC), .val (.ref b512), .unset, .unset, .unset, .unset, .unset, .unset, .unset] [(.int p0), (.int (0 : Int32)), (.ref b512)])) (fun _ kt => XS.iloadN X512.here hx rfl (hb hby at_46) rfl  kt) ?_
    refine Rch.of (T' := T512) (g' := (mkF m 50 #[.val (.int p0), .val (.int p1), .val (.int p2), .val (.int fLG), .val (.int fEV), .val (.int fNC), .val (.ref b512), .unset, .unset, .unset, .unset, .unset, .unset, .unset] [(.int (255 : Int32)), (.int p0), (.int (0 : Int32)), (.ref b512)])) (fun _ kt => XS.sipush X512.here hx rfl (hb hby at_47) kt) ?_
    refine Rch.of (T' := T512) (g' := (mkF m 51 #[.val (.int p0), .val (.int p1), .val (.int p2), .val (.int fLG), .val (.int fEV), .val (.int fNC), .val (.ref b512), .unset, .unset, .unset, .unset, .unset, .unset, .unset] [(.int (p0 &&& (255 : Int32))), (.int (0 : Int32)), (.ref b512)])) (fun _ kt => XS.iand X512.here hx rfl (hb hby at_50) rfl kt) ?_
    refine Rch.of (T' := T512) (g' := (mkF m 52 #[.val (.int p0), .val (.int p1), .val (.int p2), .val (.int fLG), .val (.int fEV), .val (.int fNC), .val (.ref b512), .unset, .unset, .unset, .unset, .unset, .unset, .unset] [(.int ((p0 &&& (255 : Int32)).toUInt32.toUInt16.toUInt32.toInt32)), (.int (0 : Int32)), (.ref b512)])) (fun _ kt => XS.i2c X512.here hx rfl (hb hby at_51) rfl kt) ?_
    obtain ⟨cl513, Ar513, Sz513, Ha513⟩ := id V512
    obtain ⟨T513, h513, X513, e513, W513, st513⟩ := stC X512 hx hZ e512 Ar513 (j := (0 : Int32)) (oIn (i := 0) Sz513 (by decide) (by decide)) (g := (mkF m 52 #[.val (.int p0), .val (.int p1), .val (.int p2), .val (.int fLG), .val (.int fEV), .val (.int fNC), .val (.ref b512), .unset, .unset, .unset, .unset, .unset, .unset, .unset] [(.int ((p0 &&& (255 : Int32)).toUInt32.toUInt16.toUInt32.toInt32)), (.int (0 : Int32)), (.ref b512)])) rfl rfl (hb hby at_52)
    have V513 := Av.setI (i := 0) V512 (by decide) (by decide) W513
    obtain ⟨y513, hy513⟩ : ∃ zz_ : Nat → Int32, zz_ = fun q => if q = 0 then ((p0 &&& (255 : Int32)).toUInt32.toUInt16.toUInt32.toInt32).toUInt32.toUInt16.toUInt32.toInt32 else (fun _ => (0 : Int32)) q := ⟨_, rfl⟩
    have V513 : Av Z h513 b512 .char 2 (fun q => .int (y513 q)) := by rw [hy513]; exact V513
    have N513 := Fr.snoc X513 N0 ge_b512
    have Sf514 : Safe Z consts_1 s.vm h512 b512 := (Safe.exa hZ.alike Q512 (by decide) (by decide))
    refine Rch.of (T' := T513) (g' := (mkF m 53 #[.val (.int p0), .val (.int p1), .val (.int p2), .val (.int fLG), .val (.int fEV), .val (.int fNC), .val (.ref b512), .unset, .unset, .unset, .unset, .unset, .unset, .unset] [])) st513 ?_
    refine Rch.of (T' := T513) (g' := (mkF m 55 #[.val (.int p0), .val (.int p1), .val (.int p2), .val (.int fLG), .val (.int fEV), .val (.int fNC), .val (.ref b512), .unset, .unset, .unset, .unset, .unset, .unset, .unset] [(.ref b512)])) (fun _ kt => XS.aload X513.here hx rfl (hb hby at_53) rfl rfl kt) ?_
    refine Rch.of (T' := T513) (g' := (mkF m 56 #[.val (.int p0), .val (.int p1), .val (.int p2), .val (.int fLG), .val (.int fEV), .val (.int fNC), .val (.ref b512), .unset, .unset, .unset, .unset, .unset, .unset, .unset] [(.int (1 : Int32)), (.ref b512)])) (fun _ kt => XS.iconst X513.here hx rfl (hb hby at_55) kt) ?_
    refine Rch.of (T' := T513) (g' := (mkF m 57 #[.val (.int p0), .val (.int p1), .val (.int p2), .val (.int fLG), .val (.int fEV), .val (.int fNC), .val (.ref b512), .unset, .unset, .unset, .unset, .unset, .unset, .unset] [(.int p0), (.int (1 : Int32)), (.ref b512)])) (fun _ kt => XS.iloadN X513.here hx rfl (hb hby at_56) rfl  kt) ?_
    refine Rch.of (T' := T513) (g' := (mkF m 59 #[.val (.int p0), .val (.int p1), .val (.int p2), .val (.int fLG), .val (.int fEV), .val (.int fNC), .val (.ref b512), .unset, .unset, .unset, .unset, .unset, .unset, .unset] [(.int (8 : Int32)), (.int p0), (.int (1 : Int32)), (.ref b512)])) (fun _ kt => XS.bipush X513.here hx rfl (hb hby at_57) kt) ?_
    refine Rch.of (T' := T513) (g' := (mkF m 60 #[.val (.int p0), .val (.int p1), .val (.int p2), .val (.int fLG), .val (.int fEV), .val (.int fNC), .val (.ref b512), .unset, .unset, .unset, .unset, .unset, .unset, .unset] [(.int ((p0.toUInt32 >>> ((8 : Int32) &&& 31).toUInt32).toInt32)), (.int (1 : Int32)), (.ref b512)])) (fun _ kt => XS.iushr X513.here hx rfl (hb hby at_59) rfl kt) ?_
    refine Rch.of (T' := T513) (g' := (mkF m 63 #[.val (.int p0), .val (.int p1), .val (.int p2), .val (.int fLG), .val (.int fEV), .val (.int fNC), .val (.ref b512), .unset, .unset, .unset, .unset, .unset, .unset, .unset] [(.int (255 : Int32)), (.int ((p0.toUInt32 >>> ((8 : Int32) &&& 31).toUInt32).toInt32)), (.int (1 : Int32)), (.ref b512)])) (fun _ kt => XS.sipush X513.here hx rfl (hb hby at_60) kt) ?_
    refine Rch.of (T' := T513) (g' := (mkF m 64 #[.val (.int p0), .val (.int p1), .val (.int p2), .val (.int fLG), .val (.int fEV), .val (.int fNC), .val (.ref b512), .unset, .unset, .unset, .unset, .unset, .unset, .unset] [(.int (((p0.toUInt32 >>> ((8 : Int32) &&& 31).toUInt32).toInt32) &&& (255 : Int32))), (.int (1 : Int32)), (.ref b512)])) (fun _ kt => XS.iand X513.here hx rfl (hb hby at_63) rfl kt) ?_
    refine Rch.of (T' := T513) (g' := (mkF m 65 #[.val (.int p0), .val (.int p1), .val (.int p2), .val (.int fLG), .val (.int fEV), .val (.int fNC), .val (.ref b512), .unset, .unset, .unset, .unset, .unset, .unset, .unset] [(.int ((((p0.toUInt32 >>> ((8 : Int32) &&& 31).toUInt32).toInt32) &&& (255 : Int32)).toUInt32.toUInt16.toUInt32.toInt32)), (.int (1 : Int32)), (.ref b512)])) (fun _ kt => XS.i2c X513.here hx rfl (hb hby at_64) rfl kt) ?_
    obtain ⟨cl515, Ar515, Sz515, Ha515⟩ := id V513
    obtain ⟨T515, h515, X515, e515, W515, st515⟩ := stC X513 hx hZ e513 Ar515 (j := (1 : Int32)) (oIn (i := 1) Sz515 (by decide) (by decide)) (g := (mkF m 65 #[.val (.int p0), .val (.int p1), .val (.int p2), .val (.int fLG), .val (.int fEV), .val (.int fNC), .val (.ref b512), .unset, .unset, .unset, .unset, .unset, .unset, .unset] [(.int ((((p0.toUInt32 >>> ((8 : Int32) &&& 31).toUInt32).toInt32) &&& (255 : Int32)).toUInt32.toUInt16.toUInt32.toInt32)), (.int (1 : Int32)), (.ref b512)])) rfl rfl (hb hby at_65)
    have V515 := Av.setI (i := 1) V513 (by decide) (by decide) W515
    obtain ⟨y515, hy515⟩ : ∃ zz_ : Nat → Int32, zz_ = fun q => if q = 1 then ((((p0.toUInt32 >>> ((8 : Int32) &&& 31).toUInt32).toInt32) &&& (255 : Int32)).toUInt32.toUInt16.toUInt32.toInt32).toUInt32.toUInt16.toUInt32.toInt32 else y513 q := ⟨_, rfl⟩
    have V515 : Av Z h515 b512 .char 2 (fun q => .int (y515 q)) := by rw [hy515]; exact V515
    have N515 := Fr.snoc X515 N513 ge_b512
    have Sf516 : Safe Z consts_1 s.vm h513 b512 := (Safe.exa hZ.alike (Q512.wr W513) (by decide) (by decide))
    have Rb517 := (((R0.trans (CHr.ext E512 R0.1)).trans (CHr.wr W513 Sf514 (R0.trans (CHr.ext E512 R0.1)).1)).trans (CHr.wr W515 Sf516 ((R0.trans (CHr.ext E512 R0.1)).trans (CHr.wr W513 Sf514 (R0.trans (CHr.ext E512 R0.1)).1)).1))
    refine Rch.of (T' := T515) (g' := (mkF m 66 #[.val (.int p0), .val (.int p1), .val (.int p2), .val (.int fLG), .val (.int fEV), .val (.int fNC), .val (.ref b512), .unset, .unset, .unset, .unset, .unset, .unset, .unset] [])) st515 ?_
    refine Rch.of (T' := T515) (g' := (mkF m 67 #[.val (.int p0), .val (.int p1), .val (.int p2), .val (.int fLG), .val (.int fEV), .val (.int fNC), .val (.ref b512), .unset, .unset, .unset, .unset, .unset, .unset, .unset] [(.int (2 : Int32))])) (fun _ kt => XS.iconst X515.here hx rfl (hb hby at_66) kt) ?_
    obtain ⟨T518, h518, k518, X518, e518, E518, A518, Q518, st518⟩ := newPE X515 hx hZ (hw _ (List.mem_of_getElem? (i := 0) rfl)) e515 (g := (mkF m 67 #[.val (.int p0), .val (.int p1), .val (.int p2), .val (.int fLG), .val (.int fEV), .val (.int fNC), .val (.ref b512), .unset, .unset, .unset, .unset, .unset, .unset, .unset] [(.int (2 : Int32))])) rfl (hb hby at_67) rfl (by decide) (cap := 2) (by decide) (by decide) (by decide) (by decide) (ad := "[C") rfl
    obtain ⟨b518, g518⟩ : ∃ zz_, zz_ = h515.size := ⟨_, rfl⟩
    have ne_el_b518 : el ≠ b518 := Nat.ne_of_lt (Nat.lt_of_lt_of_le ((((E9.ext O0.2).ext E512).wr W513).wr W515).lt (Nat.le_of_eq g518.symm))
    have ne_b512_b518 : b512 ≠ b518 := Nat.ne_of_lt (Nat.lt_of_lt_of_le ((Q512.wr W513).wr W515).lt (Nat.le_of_eq g518.symm))
    have ge_b518 : n0 ≤ b518 := Nat.le_trans (Nat.le_trans (Nat.le_trans (Nat.le_trans Z0 E512.1) (Keep.of_wr W513).1) (Keep.of_wr W515).1) (Nat.le_of_eq g518.symm)
    rw [← g518] at A518 Q518 st518
    have V518 : Av Z h518 b518 .char 2 (fun _ => (.int (0 : Int32))) := Av.new A518 (by decide)
    refine Rch.of (T' := T518) (g' := (mkF m 69 #[.val (.int p0), .val (.int p1), .val (.int p2), .val (.int fLG), .val (.int fEV), .val (.int fNC), .val (.ref b512), .unset, .unset, .unset, .unset, .unset, .unset, .unset] [(.ref b518)])) st518 ?_
    refine Rch.of (T' := T518) (g' := (mkF m 71 #[.val (.int p0), .val (.int p1), .val (.int p2), .val (.int fLG), .val (.int fEV), .val (.int fNC), .val (.ref b512), .val (.ref b518), .unset, .unset, .unset, .unset, .unset, .unset] [])) (fun _ kt => XS.astore X518.here hx rfl (hb hby at_69) rfl rfl (l' := #[.val (.int p0), .val (.int p1), .val (.int p2), .val (.int fLG), .val (.int fEV), .val (.int fNC), .val (.ref b512), .val (.ref b518), .unset, .unset, .unset, .unset, .unset, .unset]) rfl kt) ?_
    refine Rch.of (T' := T518) (g' := (mkF m 73 #[.val (.int p0), .val (.int p1), .val (.int p2), .val (.int fLG), .val (.int fEV), .val (.int fNC), .val (.ref b512), .val (.ref b518), .unset, .unset, .unset, .unset, .unset, .unset] [(.ref b518)])) (fun _ kt => XS.aload X518.here hx rfl (hb hby at_71) rfl rfl kt) ?_
    refine Rch.of (T' := T518) (g' := (mkF m 74 #[.val (.int p0), .val (.int p1), .val (.int p2), .val (.int fLG), .val (.int fEV), .val (.int fNC), .val (.ref b512), .val (.ref b518), .unset, .unset, .unset, .unset, .unset, .unset] [(.int (0 : Int32)), (.ref b518)])) (fun _ kt => XS.iconst X518.here hx rfl (hb hby at_73) kt) ?_
    refine Rch.of (T' := T518) (g' := (mkF m 75 #[.val (.int p0), .val (.int p1), .val (.int p2), .val (.int fLG), .val (.int fEV), .val (.int fNC), .val (.ref b512), .val (.ref b518), .unset, .unset, .unset, .unset, .unset, .unset] [(.int p1), (.int (0 : Int32)), (.ref b518)])) (fun _ kt => XS.iloadN X518.here hx rfl (hb hby at_74) rfl  kt) ?_
    refine Rch.of (T' := T518) (g' := (mkF m 78 #[.val (.int p0), .val (.int p1), .val (.int p2), .val (.int fLG), .val (.int fEV), .val (.int fNC), .val (.ref b512), .val (.ref b518), .unset, .unset, .unset, .unset, .unset, .unset] [(.int (255 : Int32)), (.int p1), (.int (0 : Int32)), (.ref b518)])) (fun _ kt => XS.sipush X518.here hx rfl (hb hby at_75) kt) ?_
    refine Rch.of (T' := T518) (g' := (mkF m 79 #[.val (.int p0), .val (.int p1), .val (.int p2), .val (.int fLG), .val (.int fEV), .val (.int fNC), .val (.ref b512), .val (.ref b518), .unset, .unset, .unset, .unset, .unset, .unset] [(.int (p1 &&& (255 : Int32))), (.int (0 : Int32)), (.ref b518)])) (fun _ kt => XS.iand X518.here hx rfl (hb hby at_78) rfl kt) ?_
    refine Rch.of (T' := T518) (g' := (mkF m 80 #[.val (.int p0), .val (.int p1), .val (.int p2), .val (.int fLG), .val (.int fEV), .val (.int fNC), .val (.ref b512), .val (.ref b518), .unset, .unset, .unset, .unset, .unset, .unset] [(.int ((p1 &&& (255 : Int32)).toUInt32.toUInt16.toUInt32.toInt32)), (.int (0 : Int32)), (.ref b518)])) (fun _ kt => XS.i2c X518.here hx rfl (hb hby at_79) rfl kt) ?_
    obtain ⟨cl519, Ar519, Sz519, Ha519⟩ := id V518
    obtain ⟨T519, h519, X519, e519, W519, st519⟩ := stC X518 hx hZ e518 Ar519 (j := (0 : Int32)) (oIn (i := 0) Sz519 (by decide) (by decide)) (g := (mkF m 80 #[.val (.int p0), .val (.int p1), .val (.int p2), .val (.int fLG), .val (.int fEV), .val (.int fNC), .val (.ref b512), .val (.ref b518), .unset, .unset, .unset, .unset, .unset, .unset] [(.int ((p1 &&& (255 : Int32)).toUInt32.toUInt16.toUInt32.toInt32)), (.int (0 : Int32)), (.ref b518)])) rfl rfl (hb hby at_80)
    have V519 := Av.setI (i := 0) V518 (by decide) (by decide) W519
    obtain ⟨y519, hy519⟩ : ∃ zz_ : Nat → Int32, zz_ = fun q => if q = 0 then ((p1 &&& (255 : Int32)).toUInt32.toUInt16.toUInt32.toInt32).toUInt32.toUInt16.toUInt32.toInt32 else (fun _ => (0 : Int32)) q := ⟨_, rfl⟩
    have V519 : Av Z h519 b518 .char 2 (fun q => .int (y519 q)) := by rw [hy519]; exact V519
    have N519 := Fr.snoc X519 N515 ge_b518
    have Sf520 : Safe Z consts_1 s.vm h518 b518 := (Safe.exa hZ.alike Q518 (by decide) (by decide))
    refine Rch.of (T' := T519) (g' := (mkF m 81 #[.val (.int p0), .val (.int p1), .val (.int p2), .val (.int fLG), .val (.int fEV), .val (.int fNC), .val (.ref b512), .val (.ref b518), .unset, .unset, .unset, .unset, .unset, .unset] [])) st519 ?_
    refine Rch.of (T' := T519) (g' := (mkF m 83 #[.val (.int p0), .val (.int p1), .val (.int p2), .val (.int fLG), .val (.int fEV), .val (.int fNC), .val (.ref b512), .val (.ref b518), .unset, .unset, .unset, .unset, .unset, .unset] [(.ref b518)])) (fun _ kt => XS.aload X519.here hx rfl (hb hby at_81) rfl rfl kt) ?_
    refine Rch.of (T' := T519) (g' := (mkF m 84 #[.val (.int p0), .val (.int p1), .val (.int p2), .val (.int fLG), .val (.int fEV), .val (.int fNC), .val (.ref b512), .val (.ref b518), .unset, .unset, .unset, .unset, .unset, .unset] [(.int (1 : Int32)), (.ref b518)])) (fun _ kt => XS.iconst X519.here hx rfl (hb hby at_83) kt) ?_
    refine Rch.of (T' := T519) (g' := (mkF m 85 #[.val (.int p0), .val (.int p1), .val (.int p2), .val (.int fLG), .val (.int fEV), .val (.int fNC), .val (.ref b512), .val (.ref b518), .unset, .unset, .unset, .unset, .unset, .unset] [(.int p1), (.int (1 : Int32)), (.ref b518)])) (fun _ kt => XS.iloadN X519.here hx rfl (hb hby at_84) rfl  kt) ?_
    refine Rch.of (T' := T519) (g' := (mkF m 87 #[.val (.int p0), .val (.int p1), .val (.int p2), .val (.int fLG), .val (.int fEV), .val (.int fNC), .val (.ref b512), .val (.ref b518), .unset, .unset, .unset, .unset, .unset, .unset] [(.int (8 : Int32)), (.int p1), (.int (1 : Int32)), (.ref b518)])) (fun _ kt => XS.bipush X519.here hx rfl (hb hby at_85) kt) ?_
    refine Rch.of (T' := T519) (g' := (mkF m 88 #[.val (.int p0), .val (.int p1), .val (.int p2), .val (.int fLG), .val (.int fEV), .val (.int fNC), .val (.ref b512), .val (.ref b518), .unset, .unset, .unset, .unset, .unset, .unset] [(.int ((p1.toUInt32 >>> ((8 : Int32) &&& 31).toUInt32).toInt32)), (.int (1 : Int32)), (.ref b518)])) (fun _ kt => XS.iushr X519.here hx rfl (hb hby at_87) rfl kt) ?_
    refine Rch.of (T' := T519) (g' := (mkF m 91 #[.val (.int p0), .val (.int p1), .val (.int p2), .val (.int fLG), .val (.int fEV), .val (.int fNC), .val (.ref b512), .val (.ref b518), .unset, .unset, .unset, .unset, .unset, .unset] [(.int (255 : Int32)), (.int ((p1.toUInt32 >>> ((8 : Int32) &&& 31).toUInt32).toInt32)), (.int (1 : Int32)), (.ref b518)])) (fun _ kt => XS.sipush X519.here hx rfl (hb hby at_88) kt) ?_
    refine Rch.of (T' := T519) (g' := (mkF m 92 #[.val (.int p0), .val (.int p1), .val (.int p2), .val (.int fLG), .val (.int fEV), .val (.int fNC), .val (.ref b512), .val (.ref b518), .unset, .unset, .unset, .unset, .unset, .unset] [(.int (((p1.toUInt32 >>> ((8 : Int32) &&& 31).toUInt32).toInt32) &&& (255 : Int32))), (.int (1 : Int32)), (.ref b518)])) (fun _ kt => XS.iand X519.here hx rfl (hb hby at_91) rfl kt) ?_
    refine Rch.of (T' := T519) (g' := (mkF m 93 #[.val (.int p0), .val (.int p1), .val (.int p2), .val (.int fLG), .val (.int fEV), .val (.int fNC), .val (.ref b512), .val (.ref b518), .unset, .unset, .unset, .unset, .unset, .unset] [(.int ((((p1.toUInt32 >>> ((8 : Int32) &&& 31).toUInt32).toInt32) &&& (255 : Int32)).toUInt32.toUInt16.toUInt32.toInt32)), (.int (1 : Int32)), (.ref b518)])) (fun _ kt => XS.i2c X519.here hx rfl (hb hby at_92) rfl kt) ?_
    obtain ⟨cl521, Ar521, Sz521, Ha521⟩ := id V519
    obtain ⟨T521, h521, X521, e521, W521, st521⟩ := stC X519 hx hZ e519 Ar521 (j := (1 : Int32)) (oIn (i := 1) Sz521 (by decide) (by decide)) (g := (mkF m 93 #[.val (.int p0), .val (.int p1), .val (.int p2), .val (.int fLG), .val (.int fEV), .val (.int fNC), .val (.ref b512), .val (.ref b518), .unset, .unset, .unset, .unset, .unset, .unset] [(.int ((((p1.toUInt32 >>> ((8 : Int32) &&& 31).toUInt32).toInt32) &&& (255 : Int32)).toUInt32.toUInt16.toUInt32.toInt32)), (.int (1 : Int32)), (.ref b518)])) rfl rfl (hb hby at_93)
    have V521 := Av.setI (i := 1) V519 (by decide) (by decide) W521
    obtain ⟨y521, hy521⟩ : ∃ zz_ : Nat → Int32, zz_ = fun q => if q = 1 then ((((p1.toUInt32 >>> ((8 : Int32) &&& 31).toUInt32).toInt32) &&& (255 : Int32)).toUInt32.toUInt16.toUInt32.toInt32).toUInt32.toUInt16.toUInt32.toInt32 else y519 q := ⟨_, rfl⟩
    have V521 : Av Z h521 b518 .char 2 (fun q => .int (y521 q)) := by rw [hy521]; exact V521
    have N521 := Fr.snoc X521 N519 ge_b518
    have Sf522 : Safe Z consts_1 s.vm h519 b518 := (Safe.exa hZ.alike (Q518.wr W519) (by decide) (by decide))
    have Rb523 := (((Rb517.trans (CHr.ext E518 Rb517.1)).trans (CHr.wr W519 Sf520 (Rb517.trans (CHr.ext E518 Rb517.1)).1)).trans (CHr.wr W521 Sf522 ((Rb517.trans (CHr.ext E518 Rb517.1)).trans (CHr.wr W519 Sf520 (Rb517.trans (CHr.ext E518 Rb517.1)).1)).1))
    have Fb524 := (Nat.le_trans (Nat.le_trans (Nat.le_trans (Nat.le_trans (Nat.le_trans (Nat.le_trans hk0 E512.1) (Keep.of_wr W513).1) (Keep.of_wr W515).1) E518.1) (Keep.of_wr W519).1) (Keep.of_wr W521).1)
    have Fb525 := (((((((F9.ext O0.2).ext E512).other W513 (Or.inl ne_el_b512)).other W515 (Or.inl ne_el_b512)).ext E518).other W519 (Or.inl ne_el_b518)).other W521 (Or.inl ne_el_b518))
    have Fb526 := (Nat.le_trans (Nat.le_trans (Nat.le_trans (Nat.le_trans (Nat.le_trans (Nat.le_trans Z0 E512.1) (Keep.of_wr W513).1) (Keep.of_wr W515).1) E518.1) (Keep.of_wr W519).1) (Keep.of_wr W521).1)
    refine Rch.of (T' := T521) (g' := (mkF m 94 #[.val (.int p0), .val (.int p1), .val (.int p2), .val (.int fLG), .val (.int fEV), .val (.int fNC), .val (.ref b512), .val (.ref b518), .unset, .unset, .unset, .unset, .unset, .unset] [])) st521 ?_
    obtain ⟨T527, h527, X527, e527, E527, A527, D527, -, st527⟩ := newO X521 hx hZ hown (hw _ (List.mem_of_getElem? (i := 1) rfl)) (hw _ (List.mem_of_getElem? (i := 2) rfl)) (hw _ (List.mem_of_getElem? (i := 3) rfl)) e521 (g := (mkF m 94 #[.val (.int p0), .val (.int p1), .val (.int p2), .val (.int fLG), .val (.int fEV), .val (.int fNC), .val (.ref b512), .val (.ref b518), .unset, .unset, .unset, .unset, .unset, .unset] [])) rfl (hb hby at_94) (by decide) (by decide)
    obtain ⟨b527, g527⟩ : ∃ zz_, zz_ = h521.size := ⟨_, rfl⟩
    have ne_el_b527 : el ≠ b527 := Nat.ne_of_lt (Nat.lt_of_lt_of_le (((((((E9.ext O0.2).ext E512).wr W513).wr W515).ext E518).wr W519).wr W521).lt (Nat.le_of_eq g527.symm))
    have ne_b512_b527 : b512 ≠ b527 := Nat.ne_of_lt (Nat.lt_of_lt_of_le (((((Q512.wr W513).wr W515).ext E518).wr W519).wr W521).lt (Nat.le_of_eq g527.symm))
    have ne_b518_b527 : b518 ≠ b527 := Nat.ne_of_lt (Nat.lt_of_lt_of_le ((Q518.wr W519).wr W521).lt (Nat.le_of_eq g527.symm))
    have ge_b527 : n0 ≤ b527 := Nat.le_trans Fb526 (Nat.le_of_eq g527.symm)
    rw [← g527] at A527 D527 st527
    have F527_coder : Fld Z h527 b527 "java/lang/String" "coder" "B" (.int (0 : Int32)) := D527 (Or.inr (hw _ (List.mem_of_getElem? (i := 27) rfl))) (ty := .byte) (by decide)
    have F527_value : Fld Z h527 b527 "java/lang/String" "value" "[B" .null := D527 (Or.inr (hw _ (List.mem_of_getElem? (i := 29) rfl))) (ty := (.array .byte)) (by decide)
    refine Rch.of (T' := T527) (g' := (mkF m 97 #[.val (.int p0), .val (.int p1), .val (.int p2), .val (.int fLG), .val (.int fEV), .val (.int fNC), .val (.ref b512), .val (.ref b518), .unset, .unset, .unset, .unset, .unset, .unset] [(.ref b527)])) st527 ?_
    refine Rch.of (T' := T527) (g' := (mkF m 98 #[.val (.int p0), .val (.int p1), .val (.int p2), .val (.int fLG), .val (.int fEV), .val (.int fNC), .val (.ref b512), .val (.ref b518), .unset, .unset, .unset, .unset, .unset, .unset] [(.ref b527), (.ref b527)])) (fun _ kt => XS.dup X527.here hx rfl (hb hby at_97) rfl rfl kt) ?_
    refine Rch.of (T' := T527) (g' := (mkF m 100 #[.val (.int p0), .val (.int p1), .val (.int p2), .val (.int fLG), .val (.int fEV), .val (.int fNC), .val (.ref b512), .val (.ref b518), .unset, .unset, .unset, .unset, .unset, .unset] [(.ref b512), (.ref b527), (.ref b527)])) (fun _ kt => XS.aload X527.here hx rfl (hb hby at_98) rfl rfl kt) ?_
    have hch529 : own_ch 2 y515 := by
      intro q hq
      rw [hy515, hy513]
      rcases (show q = 0 ∨ q = 1 by omega) with rfl | rfl
      · exact own_c1i (own_c1i (own_and255 _))
      · exact own_c1i (own_c1i (own_and255 _))
    obtain ⟨_, _, ⟨T528, L528, k528, n528⟩, -, X528, ⟨Lc528, hQ528, l528, y528, z528⟩, st528⟩ := X527.specialBack hx (y := (⟨"java/lang/String", "<init>", "([C)V"⟩ : MethodName)) rfl hown (mvT hZ (hw _ (List.mem_of_getElem? (i := 4) rfl))) (mvT hZ (hw _ (List.mem_of_getElem? (i := 5) rfl))) (mvT hZ (hw _ (List.mem_of_getElem? (i := 6) rfl))) (by decide) (backOf (W := 1) (rmS1 l Z a0 hw [] b527 b512 2 y515 (.int (0 : Int32)) .null cs h527 n0 (Nat.le_trans Fb526 E527.1) A527 F527_coder F527_value ge_b527 ((((V515.ext E518).other W519 ne_b512_b518).other W521 ne_b512_b518).ext E527) ((((((((S1.ext O0.2).ext E512).wr W513).wr W515).ext E518).wr W519).wr W521).ext E527) hcs (by decide) (by decide) hch529) hZ (hw _ (List.mem_of_getElem? (i := 6) rfl)) (hw _ (List.mem_of_getElem? (i := 3) rfl)) (by decide) (by decide)) (g := (mkF m 100 #[.val (.int p0), .val (.int p1), .val (.int p2), .val (.int fLG), .val (.int fEV), .val (.int fNC), .val (.ref b512), .val (.ref b518), .unset, .unset, .unset, .unset, .unset, .unset] [(.ref b512), (.ref b527), (.ref b527)])) rfl (by rw [hml]; rfl) (Steps.refl _) (a := b527) (argsL := [(.ref b512)]) (rest := [(.ref b527)]) (lenOf pd_0 rfl) rfl (by show 2 * 0 + _ ≤ _; exact Nat.le_of_eq rfl) (hb hby at_100) (fun _ _ => ⟨rfl, e527, (by decide : 3 + 1 ≤ _), (by decide : 8 + 2 ≤ _)⟩)
    dsimp only [Pt.U, Pt.locs, Pt.cells, Pt.slots] at X528 l528 y528 z528 st528 hQ528
    subst l528 y528 z528
    obtain ⟨rfl, N528q, hQ528⟩ := hQ528
    have N528 := Fr.app N521 N528q
    obtain ⟨K528, Ex528, Fa528, Fb528, V528⟩ := hQ528
    obtain ⟨b528, g528⟩ : ∃ zz_, zz_ = h527.size := ⟨_, rfl⟩
    have ne_el_b528 : el ≠ b528 := Nat.ne_of_lt (Nat.lt_of_lt_of_le ((((((((E9.ext O0.2).ext E512).wr W513).wr W515).ext E518).wr W519).wr W521).ext E527).lt (Nat.le_of_eq g528.symm))
    have ne_b512_b528 : b512 ≠ b528 := Nat.ne_of_lt (Nat.lt_of_lt_of_le ((((((Q512.wr W513).wr W515).ext E518).wr W519).wr W521).ext E527).lt (Nat.le_of_eq g528.symm))
    have ne_b518_b528 : b518 ≠ b528 := Nat.ne_of_lt (Nat.lt_of_lt_of_le (((Q518.wr W519).wr W521).ext E527).lt (Nat.le_of_eq g528.symm))
    have ne_b527_b528 : b527 ≠ b528 := Nat.ne_of_lt (Nat.lt_of_lt_of_le A527.lt (Nat.le_of_eq g528.symm))
    have ge_b528 : n0 ≤ b528 := Nat.le_trans (Nat.le_trans Fb526 E527.1) (Nat.le_of_eq g528.symm)
    rw [← g528] at V528 Fb528
    have Sf530 : Safe Z consts_1 s.vm h527 b527 := (own_safeNull hZ.alike A527 F527_value)
    refine Rch.via (T' := T528) (g' := (mkF m 103 #[.val (.int p0), .val (.int p1), .val (.int p2), .val (.int fLG), .val (.int fEV), .val (.int fNC), .val (.ref b512), .val (.ref b518), .unset, .unset, .unset, .unset, .unset, .unset] [(.ref b527)])) st528 ?_
    refine Rch.of (T' := T528) (g' := (mkF m 105 #[.val (.int p0), .val (.int p1), .val (.int p2), .val (.int fLG), .val (.int fEV), .val (.int fNC), .val (.ref b512), .val (.ref b518), .val (.ref b527), .unset, .unset, .unset, .unset, .unset] [])) (fun _ kt => XS.astore X528.here hx rfl (hb hby at_103) rfl rfl (l' := #[.val (.int p0), .val (.int p1), .val (.int p2), .val (.int fLG), .val (.int fEV), .val (.int fNC), .val (.ref b512), .val (.ref b518), .val (.ref b527), .unset, .unset, .unset, .unset, .unset]) rfl kt) ?_
    refine Rch.of (T' := T528) (g' := (mkF m 107 #[.val (.int p0), .val (.int p1), .val (.int p2), .val (.int fLG), .val (.int fEV), .val (.int fNC), .val (.ref b512), .val (.ref b518), .val (.ref b527), .unset, .unset, .unset, .unset, .unset] [(.int fEV)])) (fun _ kt => XS.iload X528.here hx rfl (hb hby at_105) rfl  kt) ?_
    by_cases c531 : fEV = (0 : Int32)
    · skip
      refine Rch.of (T' := T528) (g' := (mkF m 115 #[.val (.int p0), .val (.int p1), .val (.int p2), .val (.int fLG), .val (.int fEV), .val (.int fNC), .val (.ref b512), .val (.ref b518), .val (.ref b527), .unset, .unset, .unset, .unset, .unset] [])) (fun _ kt => XS.ifYes X528.here hx rfl (pc0 := 107) (pc' := 115) rfl (hb hby at_107) rfl ((if0 _ _).trans (teq c531).1) (by decide) (by decide) kt) ?_
      obtain ⟨T532, h532, X532, e532, E532, A532, D532, -, st532⟩ := newO X528 hx hZ hown (hw _ (List.mem_of_getElem? (i := 1) rfl)) (hw _ (List.mem_of_getElem? (i := 2) rfl)) (hw _ (List.mem_of_getElem? (i := 3) rfl)) rfl (g := (mkF m 115 #[.val (.int p0), .val (.int p1), .val (.int p2), .val (.int fLG), .val (.int fEV), .val (.int fNC), .val (.ref b512), .val (.ref b518), .val (.ref b527), .unset, .unset, .unset, .unset, .unset] [])) rfl (hb hby at_115) (by decide) (by decide)
      obtain ⟨b532, g532⟩ : ∃ zz_, zz_ = T528.heap.size := ⟨_, rfl⟩
      have ne_el_b532 : el ≠ b532 := Nat.ne_of_lt (Nat.lt_of_lt_of_le (((((((((E9.ext O0.2).ext E512).wr W513).wr W515).ext E518).wr W519).wr W521).ext E527).keep K528).lt (Nat.le_of_eq g532.symm))
      have ne_b512_b532 : b512 ≠ b532 := Nat.ne_of_lt (Nat.lt_of_lt_of_le (((((((Q512.wr W513).wr W515).ext E518).wr W519).wr W521).ext E527).keep K528).lt (Nat.le_of_eq g532.symm))
      have ne_b518_b532 : b518 ≠ b532 := Nat.ne_of_lt (Nat.lt_of_lt_of_le ((((Q518.wr W519).wr W521).ext E527).keep K528).lt (Nat.le_of_eq g532.symm))
      have ne_b527_b532 : b527 ≠ b532 := Nat.ne_of_lt (Nat.lt_of_lt_of_le Ex528.lt (Nat.le_of_eq g532.symm))
      have ne_b528_b532 : b528 ≠ b532 := Nat.ne_of_lt (Nat.lt_of_lt_of_le V528.lt (Nat.le_of_eq g532.symm))
      have ge_b532 : n0 ≤ b532 := Nat.le_trans (Nat.le_trans (Nat.le_trans Fb526 E527.1) K528.1) (Nat.le_of_eq g532.symm)
      rw [← g532] at A532 D532 st532
      have Fb533 := (Safe.ext E532 ((Rb523.trans (CHr.ext E527 Rb523.1)).trans (CHr.keep K528 (allS Sf530 all0) (Rb523.trans (CHr.ext E527 Rb523.1)).1)).1 (Safe.keep K528 (allS Sf530 all0) (Rb523.trans (CHr.ext E527 Rb523.1)).1 Sf530))
      have Rb534 := (((Rb523.trans (CHr.ext E527 Rb523.1)).trans (CHr.keep K528 (allS Sf530 all0) (Rb523.trans (CHr.ext E527 Rb523.1)).1)).trans (CHr.ext E532 ((Rb523.trans (CHr.ext E527 Rb523.1)).trans (CHr.keep K528 (allS Sf530 all0) (Rb523.trans (CHr.ext E527 Rb523.1)).1)).1))
      have Fb535 := ((S1.ext ((((((((O0.ext E512).wr W513 ge_b512).wr W515 ge_b512).ext E518).wr W519 ge_b518).wr W521 ge_b518).ext E527).keep K528 (allS ge_b527 all0)).2).ext E532)
      have Fb536 := ((SI0.ext ((((((((O0.ext E512).wr W513 ge_b512).wr W515 ge_b512).ext E518).wr W519 ge_b518).wr W521 ge_b518).ext E527).keep K528 (allS ge_b527 all0)).2).ext E532)
      have Fb537 := ((SE.ext ((((((((O0.ext E512).wr W513 ge_b512).wr W515 ge_b512).ext E518).wr W519 ge_b518).wr W521 ge_b518).ext E527).keep K528 (allS ge_b527 all0)).2).ext E532)
      have Fb538 := ((SL.ext ((((((((O0.ext E512).wr W513 ge_b512).wr W515 ge_b512).ext E518).wr W519 ge_b518).wr W521 ge_b518).ext E527).keep K528 (allS ge_b527 all0)).2).ext E532)
      have F532_coder : Fld Z h532 b532 "java/lang/String" "coder" "B" (.int (0 : Int32)) := D532 (Or.inr (hw _ (List.mem_of_getElem? (i := 27) rfl))) (ty := .byte) (by decide)
      have F532_value : Fld Z h532 b532 "java/lang/String" "value" "[B" .null := D532 (Or.inr (hw _ (List.mem_of_getElem? (i := 29) rfl))) (ty := (.array .byte)) (by decide)
      refine Rch.of (T' := T532) (g' := (mkF m 118 #[.val (.int p0), .val (.int p1), .val (.int p2), .val (.int fLG), .val (.int fEV), .val (.int fNC), .val (.ref b512), .val (.ref b518), .val (.ref b527), .unset, .unset, .unset, .unset, .unset] [(.ref b532)])) st532 ?_
      refine Rch.of (T' := T532) (g' := (mkF m 119 #[.val (.int p0), .val (.int p1), .val (.int p2), .val (.int fLG), .val (.int fEV), .val (.int fNC), .val (.ref b512), .val (.ref b518), .val (.ref b527), .unset, .unset, .unset, .unset, .unset] [(.ref b532), (.ref b532)])) (fun _ kt => XS.dup X532.here hx rfl (hb hby at_118) rfl rfl kt) ?_
      refine Rch.of (T' := T532) (g' := (mkF m 121 #[.val (.int p0), .val (.int p1), .val (.int p2), .val (.int fLG), .val (.int fEV), .val (.int fNC), .val (.ref b512), .val (.ref b518), .val (.ref b527), .unset, .unset, .unset, .unset, .unset] [(.ref b518), (.ref b532), (.ref b532)])) (fun _ kt => XS.aload X532.here hx rfl (hb hby at_119) rfl rfl kt) ?_
      have hch540 : own_ch 2 y521 := by
        intro q hq
        rw [hy521, hy519]
        rcases (show q = 0 ∨ q = 1 by omega) with rfl | rfl
        · exact own_c1i (own_c1i (own_and255 _))
        · exact own_c1i (own_c1i (own_and255 _))
      obtain ⟨_, _, ⟨T539, L539, k539, n539⟩, -, X539, ⟨Lc539, hQ539, l539, y539, z539⟩, st539⟩ := X532.specialBack hx (y := (⟨"java/lang/String", "<init>", "([C)V"⟩ : MethodName)) rfl hown (mvT hZ (hw _ (List.mem_of_getElem? (i := 4) rfl))) (mvT hZ (hw _ (List.mem_of_getElem? (i := 5) rfl))) (mvT hZ (hw _ (List.mem_of_getElem? (i := 6) rfl))) (by decide) (backOf (W := 1) (rmS1 l Z a0 hw [] b532 b518 2 y521 (.int (0 : Int32)) .null cs h532 n0 (Nat.le_trans (Nat.le_trans (Nat.le_trans Fb526 E527.1) K528.1) E532.1) A532 F532_coder F532_value ge_b532 (((V521.ext E527).keep K528 (ninS ne_b518_b527 nin0)).ext E532) Fb535 hcs (by decide) (by decide) hch540) hZ (hw _ (List.mem_of_getElem? (i := 6) rfl)) (hw _ (List.mem_of_getElem? (i := 3) rfl)) (by decide) (by decide)) (g := (mkF m 121 #[.val (.int p0), .val (.int p1), .val (.int p2), .val (.int fLG), .val (.int fEV), .val (.int fNC), .val (.ref b512), .val (.ref b518), .val (.ref b527), .unset, .unset, .unset, .unset, .unset] [(.ref b518), (.ref b532), (.ref b532)])) rfl (by rw [hml]; rfl) (Steps.refl _) (a := b532) (argsL := [(.ref b518)]) (rest := [(.ref b532)]) (lenOf pd_0 rfl) rfl (by show 2 * 0 + _ ≤ _; exact Nat.le_of_eq rfl) (hb hby at_121) (fun _ _ => ⟨rfl, e532, (by decide : 5 + 1 ≤ _), (by decide : 14 + 2 ≤ _)⟩)
      dsimp only [Pt.U, Pt.locs, Pt.cells, Pt.slots] at X539 l539 y539 z539 st539 hQ539
      subst l539 y539 z539
      obtain ⟨rfl, N539q, hQ539⟩ := hQ539
      have N539 := Fr.app N528 N539q
      obtain ⟨K539, Ex539, Fa539, Fb539, V539⟩ := hQ539
      obtain ⟨b539, g539⟩ : ∃ zz_, zz_ = h532.size := ⟨_, rfl⟩
      have ne_el_b539 : el ≠ b539 := Nat.ne_of_lt (Nat.lt_of_lt_of_le ((((((((((E9.ext O0.2).ext E512).wr W513).wr W515).ext E518).wr W519).wr W521).ext E527).keep K528).ext E532).lt (Nat.le_of_eq g539.symm))
      have ne_b512_b539 : b512 ≠ b539 := Nat.ne_of_lt (Nat.lt_of_lt_of_le ((((((((Q512.wr W513).wr W515).ext E518).wr W519).wr W521).ext E527).keep K528).ext E532).lt (Nat.le_of_eq g539.symm))
      have ne_b518_b539 : b518 ≠ b539 := Nat.ne_of_lt (Nat.lt_of_lt_of_le (((((Q518.wr W519).wr W521).ext E527).keep K528).ext E532).lt (Nat.le_of_eq g539.symm))
      have ne_b527_b539 : b527 ≠ b539 := Nat.ne_of_lt (Nat.lt_of_lt_of_le (Ex528.ext E532).lt (Nat.le_of_eq g539.symm))
      have ne_b528_b539 : b528 ≠ b539 := Nat.ne_of_lt (Nat.lt_of_lt_of_le (V528.ext E532).lt (Nat.le_of_eq g539.symm))
      have ne_b532_b539 : b532 ≠ b539 := Nat.ne_of_lt (Nat.lt_of_lt_of_le A532.lt (Nat.le_of_eq g539.symm))
      have ge_b539 : n0 ≤ b539 := Nat.le_trans (Nat.le_trans (Nat.le_trans (Nat.le_trans Fb526 E527.1) K528.1) E532.1) (Nat.le_of_eq g539.symm)
      rw [← g539] at V539 Fb539
      have Sf541 : Safe Z consts_1 s.vm h532 b532 := (own_safeNull hZ.alike A532 F532_value)
      have Fb542 := ((((((((((O0.ext E512).wr W513 ge_b512).wr W515 ge_b512).ext E518).wr W519 ge_b518).wr W521 ge_b518).ext E527).keep K528 (allS ge_b527 all0)).ext E532).keep K539 (allS ge_b532 all0))
      have Fb543 := (((((((V515.ext E518).other W519 ne_b512_b518).other W521 ne_b512_b518).ext E527).keep K528 (ninS ne_b512_b527 nin0)).ext E532).keep K539 (ninS ne_b512_b532 nin0))
      refine Rch.via (T' := T539) (g' := (mkF m 124 #[.val (.int p0), .val (.int p1), .val (.int p2), .val (.int fLG), .val (.int fEV), .val (.int fNC), .val (.ref b512), .val (.ref b518), .val (.ref b527), .unset, .unset, .unset, .unset, .unset] [(.ref b532)])) st539 ?_
      refine Rch.of (T' := T539) (g' := (mkF m 126 #[.val (.int p0), .val (.int p1), .val (.int p2), .val (.int fLG), .val (.int fEV), .val (.int fNC), .val (.ref b512), .val (.ref b518), .val (.ref b527), .val (.ref b532), .unset, .unset, .unset, .unset] [])) (fun _ kt => XS.astore X539.here hx rfl (hb hby at_124) rfl rfl (l' := #[.val (.int p0), .val (.int p1), .val (.int p2), .val (.int fLG), .val (.int fEV), .val (.int fNC), .val (.ref b512), .val (.ref b518), .val (.ref b527), .val (.ref b532), .unset, .unset, .unset, .unset]) rfl kt) ?_
      refine Rch.of (T' := T539) (g' := (mkF m 128 #[.val (.int p0), .val (.int p1), .val (.int p2), .val (.int fLG), .val (.int fEV), .val (.int fNC), .val (.ref b512), .val (.ref b518), .val (.ref b527), .val (.ref b532), .unset, .unset, .unset, .unset] [(.int fNC)])) (fun _ kt => XS.iload X539.here hx rfl (hb hby at_126) rfl  kt) ?_
      by_cases c544 : fNC = (0 : Int32)
      · skip
        refine Rch.of (T' := T539) (g' := (mkF m 138 #[.val (.int p0), .val (.int p1), .val (.int p2), .val (.int fLG), .val (.int fEV), .val (.int fNC), .val (.ref b512), .val (.ref b518), .val (.ref b527), .val (.ref b532), .unset, .unset, .unset, .unset] [])) (fun _ kt => XS.ifYes X539.here hx rfl (pc0 := 128) (pc' := 138) rfl (hb hby at_128) rfl ((if0 _ _).trans (teq c544).1) (by decide) (by decide) kt) ?_
        refine Rch.of (T' := T539) (g' := (mkF m 139 #[.val (.int p0), .val (.int p1), .val (.int p2), .val (.int fLG), .val (.int fEV), .val (.int fNC), .val (.ref b512), .val (.ref b518), .val (.ref b527), .val (.ref b532), .unset, .unset, .unset, .unset] [(.int (1 : Int32))])) (fun _ kt => XS.iconst X539.here hx rfl (hb hby at_138) kt) ?_
        obtain ⟨T545, h545, k545, X545, e545, E545, A545, Q545, O545, st545⟩ := newRE X539 hx hZ hown (hw _ (List.mem_of_getElem? (i := 1) rfl)) (hw _ (List.mem_of_getElem? (i := 33) rfl)) rfl (g := (mkF m 139 #[.val (.int p0), .val (.int p1), .val (.int p2), .val (.int fLG), .val (.int fEV), .val (.int fNC), .val (.ref b512), .val (.ref b518), .val (.ref b527), .val (.ref b532), .unset, .unset, .unset, .unset] [(.int (1 : Int32))])) rfl (hb hby at_139) rfl (oNn (i := 1) (by decide)) (cap := 1) (by decide) (by decide) (by decide) (by decide) (ad := "[Ljava/lang/String;") rfl
        obtain ⟨b545, g545⟩ : ∃ zz_, zz_ = T539.heap.size := ⟨_, rfl⟩
        have ne_el_b545 : el ≠ b545 := Nat.ne_of_lt (Nat.lt_of_lt_of_le (((((((((((E9.ext O0.2).ext E512).wr W513).wr W515).ext E518).wr W519).wr W521).ext E527).keep K528).ext E532).keep K539).lt (Nat.le_of_eq g545.symm))
        have ne_b512_b545 : b512 ≠ b545 := Nat.ne_of_lt (Nat.lt_of_lt_of_le (((((((((Q512.wr W513).wr W515).ext E518).wr W519).wr W521).ext E527).keep K528).ext E532).keep K539).lt (Nat.le_of_eq g545.symm))
        have ne_b518_b545 : b518 ≠ b545 := Nat.ne_of_lt (Nat.lt_of_lt_of_le ((((((Q518.wr W519).wr W521).ext E527).keep K528).ext E532).keep K539).lt (Nat.le_of_eq g545.symm))
        have ne_b527_b545 : b527 ≠ b545 := Nat.ne_of_lt (Nat.lt_of_lt_of_le ((Ex528.ext E532).keep K539).lt (Nat.le_of_eq g545.symm))
        have ne_b528_b545 : b528 ≠ b545 := Nat.ne_of_lt (Nat.lt_of_lt_of_le ((V528.ext E532).keep K539 (ninS ne_b528_b532 nin0)).lt (Nat.le_of_eq g545.symm))
        have ne_b532_b545 : b532 ≠ b545 := Nat.ne_of_lt (Nat.lt_of_lt_of_le Ex539.lt (Nat.le_of_eq g545.symm))
        have ne_b539_b545 : b539 ≠ b545 := Nat.ne_of_lt (Nat.lt_of_lt_of_le V539.lt (Nat.le_of_eq g545.symm))
        have ge_b545 : n0 ≤ b545 := Nat.le_trans (Nat.le_trans (Nat.le_trans (Nat.le_trans (Nat.le_trans Fb526 E527.1) K528.1) E532.1) K539.1) (Nat.le_of_eq g545.symm)
        rw [← g545] at A545 Q545 st545
        have V545 : Av Z h545 b545 (.object "java/lang/String") 1 (fun _ => .null) := Av.new A545 (by decide)
        have Ov545 : OvA Z h545 b545 "java/lang/String" := ⟨_, A545.1, O545⟩
        refine Rch.of (T' := T545) (g' := (mkF m 142 #[.val (.int p0), .val (.int p1), .val (.int p2), .val (.int fLG), .val (.int fEV), .val (.int fNC), .val (.ref b512), .val (.ref b518), .val (.ref b527), .val (.ref b532), .unset, .unset, .unset, .unset] [(.ref b545)])) st545 ?_
        refine Rch.of (T' := T545) (g' := (mkF m 143 #[.val (.int p0), .val (.int p1), .val (.int p2), .val (.int fLG), .val (.int fEV), .val (.int fNC), .val (.ref b512), .val (.ref b518), .val (.ref b527), .val (.ref b532), .unset, .unset, .unset, .unset] [(.ref b545), (.ref b545)])) (fun _ kt => XS.dup X545.here hx rfl (hb hby at_142) rfl rfl kt) ?_
        refine Rch.of (T' := T545) (g' := (mkF m 144 #[.val (.int p0), .val (.int p1), .val (.int p2), .val (.int fLG), .val (.int fEV), .val (.int fNC), .val (.ref b512), .val (.ref b518), .val (.ref b527), .val (.ref b532), .unset, .unset, .unset, .unset] [(.int (0 : Int32)), (.ref b545), (.ref b545)])) (fun _ kt => XS.iconst X545.here hx rfl (hb hby at_143) kt) ?_
        refine Rch.of (T' := T545) (g' := (mkF m 145 #[.val (.int p0), .val (.int p1), .val (.int p2), .val (.int fLG), .val (.int fEV), .val (.int fNC), .val (.ref b512), .val (.ref b518), .val (.ref b527), .val (.ref b532), .unset, .unset, .unset, .unset] [(.int p0), (.int (0 : Int32)), (.ref b545), (.ref b545)])) (fun _ kt => XS.iloadN X545.here hx rfl (hb hby at_144) rfl  kt) ?_
        refine Rch.of (T' := T545) (g' := (mkF m 147 #[.val (.int p0), .val (.int p1), .val (.int p2), .val (.int fLG), .val (.int fEV), .val (.int fNC), .val (.ref b512), .val (.ref b518), .val (.ref b527), .val (.ref b532), .unset, .unset, .unset, .unset] [(.int (16 : Int32)), (.int p0), (.int (0 : Int32)), (.ref b545), (.ref b545)])) (fun _ kt => XS.bipush X545.here hx rfl (hb hby at_145) kt) ?_
        refine Rch.of (T' := T545) (g' := (mkF m 148 #[.val (.int p0), .val (.int p1), .val (.int p2), .val (.int fLG), .val (.int fEV), .val (.int fNC), .val (.ref b512), .val (.ref b518), .val (.ref b527), .val (.ref b532), .unset, .unset, .unset, .unset] [(.int ((p0.toUInt32 >>> ((16 : Int32) &&& 31).toUInt32).toInt32)), (.int (0 : Int32)), (.ref b545), (.ref b545)])) (fun _ kt => XS.iushr X545.here hx rfl (hb hby at_147) rfl kt) ?_
        refine Rch.of (T' := T545) (g' := (mkF m 151 #[.val (.int p0), .val (.int p1), .val (.int p2), .val (.int fLG), .val (.int fEV), .val (.int fNC), .val (.ref b512), .val (.ref b518), .val (.ref b527), .val (.ref b532), .unset, .unset, .unset, .unset] [(.int (255 : Int32)), (.int ((p0.toUInt32 >>> ((16 : Int32) &&& 31).toUInt32).toInt32)), (.int (0 : Int32)), (.ref b545), (.ref b545)])) (fun _ kt => XS.sipush X545.here hx rfl (hb hby at_148) kt) ?_
        refine Rch.of (T' := T545) (g' := (mkF m 152 #[.val (.int p0), .val (.int p1), .val (.int p2), .val (.int fLG), .val (.int fEV), .val (.int fNC), .val (.ref b512), .val (.ref b518), .val (.ref b527), .val (.ref b532), .unset, .unset, .unset, .unset] [(.int (((p0.toUInt32 >>> ((16 : Int32) &&& 31).toUInt32).toInt32) &&& (255 : Int32))), (.int (0 : Int32)), (.ref b545), (.ref b545)])) (fun _ kt => XS.iand X545.here hx rfl (hb hby at_151) rfl kt) ?_
        refine Rch.of (T' := T545) (g' := (mkF m 153 #[.val (.int p0), .val (.int p1), .val (.int p2), .val (.int fLG), .val (.int fEV), .val (.int fNC), .val (.ref b512), .val (.ref b518), .val (.ref b527), .val (.ref b532), .unset, .unset, .unset, .unset] [(.int ((((p0.toUInt32 >>> ((16 : Int32) &&& 31).toUInt32).toInt32) &&& (255 : Int32)).toUInt32.toUInt16.toUInt32.toInt32)), (.int (0 : Int32)), (.ref b545), (.ref b545)])) (fun _ kt => XS.i2c X545.here hx rfl (hb hby at_152) rfl kt) ?_
        obtain ⟨_, _, ⟨T546, L546, k546, n546⟩, -, X546, ⟨Lc546, hQ546, l546, y546, z546⟩, st546⟩ := Jvm.LawKit.callS X545 hx (y := (⟨"java/lang/String", "valueOf", "(C)Ljava/lang/String;"⟩ : MethodName)) hown (mvT hZ (hw _ (List.mem_of_getElem? (i := 34) rfl))) (mvT hZ (hw _ (List.mem_of_getElem? (i := 35) rfl))) (mvT hZ (hw _ (List.mem_of_getElem? (i := 3) rfl))) (mvT hZ (hw _ (List.mem_of_getElem? (i := 36) rfl))) (by decide) (backOf (W := 3) (rmVO l Z a0 hw [] ((((p0.toUInt32 >>> ((16 : Int32) &&& 31).toUInt32).toInt32) &&& (255 : Int32)).toUInt32.toUInt16.toUInt32.toInt32) cs h545 n0 (Nat.le_trans (Nat.le_trans (Nat.le_trans (Nat.le_trans (Nat.le_trans Fb526 E527.1) K528.1) E532.1) K539.1) E545.1) ((S1.ext Fb542.2).ext E545) hcs (own_lat _)) hZ (hw _ (List.mem_of_getElem? (i := 36) rfl)) (hw _ (List.mem_of_getElem? (i := 3) rfl)) (by decide) (by decide)) (g := (mkF m 153 #[.val (.int p0), .val (.int p1), .val (.int p2), .val (.int fLG), .val (.int fEV), .val (.int fNC), .val (.ref b512), .val (.ref b518), .val (.ref b527), .val (.ref b532), .unset, .unset, .unset, .unset] [(.int ((((p0.toUInt32 >>> ((16 : Int32) &&& 31).toUInt32).toInt32) &&& (255 : Int32)).toUInt32.toUInt16.toUInt32.toInt32)), (.int (0 : Int32)), (.ref b545), (.ref b545)])) rfl (by rw [hml]; rfl) (argsL := [(.int ((((p0.toUInt32 >>> ((16 : Int32) &&& 31).toUInt32).toInt32) &&& (255 : Int32)).toUInt32.toUInt16.toUInt32.toInt32))]) (rest := [(.int (0 : Int32)), (.ref b545), (.ref b545)]) (lenOf pd_6 rfl) rfl (by show 2 * 0 + _ ≤ _; exact Nat.le_of_eq rfl) (hb hby at_153) (fun _ _ => ⟨rfl, e545, (by decide : 7 + 2 ≤ _), (by decide : 17 + 5 ≤ _)⟩)
        dsimp only [Pt.U, Pt.locs, Pt.cells, Pt.slots] at X546 l546 y546 z546 st546 hQ546
        subst l546 y546 z546
        obtain ⟨rfl, N546q, hQ546⟩ := hQ546
        have N546 := Fr.app N539 N546q
        obtain ⟨K546, Ex546, Fa546, v546, zv546, nv546, Fb546, V546⟩ := hQ546
        obtain ⟨b546, g546⟩ : ∃ zz_, zz_ = h545.size := ⟨_, rfl⟩
        have ne_el_b546 : el ≠ b546 := Nat.ne_of_lt (Nat.lt_of_lt_of_le ((((((((((((E9.ext O0.2).ext E512).wr W513).wr W515).ext E518).wr W519).wr W521).ext E527).keep K528).ext E532).keep K539).ext E545).lt (Nat.le_of_eq g546.symm))
        have ne_b512_b546 : b512 ≠ b546 := Nat.ne_of_lt (Nat.lt_of_lt_of_le ((((((((((Q512.wr W513).wr W515).ext E518).wr W519).wr W521).ext E527).keep K528).ext E532).keep K539).ext E545).lt (Nat.le_of_eq g546.symm))
        have ne_b518_b546 : b518 ≠ b546 := Nat.ne_of_lt (Nat.lt_of_lt_of_le (((((((Q518.wr W519).wr W521).ext E527).keep K528).ext E532).keep K539).ext E545).lt (Nat.le_of_eq g546.symm))
        have ne_b527_b546 : b527 ≠ b546 := Nat.ne_of_lt (Nat.lt_of_lt_of_le (((Ex528.ext E532).keep K539).ext E545).lt (Nat.le_of_eq g546.symm))
        have ne_b528_b546 : b528 ≠ b546 := Nat.ne_of_lt (Nat.lt_of_lt_of_le (((V528.ext E532).keep K539 (ninS ne_b528_b532 nin0)).ext E545).lt (Nat.le_of_eq g546.symm))
        have ne_b532_b546 : b532 ≠ b546 := Nat.ne_of_lt (Nat.lt_of_lt_of_le (Ex539.ext E545).lt (Nat.le_of_eq g546.symm))
        have ne_b539_b546 : b539 ≠ b546 := Nat.ne_of_lt (Nat.lt_of_lt_of_le (V539.ext E545).lt (Nat.le_of_eq g546.symm))
        have ne_b545_b546 : b545 ≠ b546 := Nat.ne_of_lt (Nat.lt_of_lt_of_le Q545.lt (Nat.le_of_eq g546.symm))
        have ge_b546 : n0 ≤ b546 := Nat.le_trans (Nat.le_trans (Nat.le_trans (Nat.le_trans (Nat.le_trans (Nat.le_trans Fb526 E527.1) K528.1) E532.1) K539.1) E545.1) (Nat.le_of_eq g546.symm)
        rw [← g546] at Ex546 Fa546 nv546 Fb546 st546
        have ne_el_v546 : el ≠ v546 := Nat.ne_of_lt (Nat.lt_of_lt_of_le ((((((((((((E9.ext O0.2).ext E512).wr W513).wr W515).ext E518).wr W519).wr W521).ext E527).keep K528).ext E532).keep K539).ext E545).lt zv546)
        have ne_b512_v546 : b512 ≠ v546 := Nat.ne_of_lt (Nat.lt_of_lt_of_le ((((((((((Q512.wr W513).wr W515).ext E518).wr W519).wr W521).ext E527).keep K528).ext E532).keep K539).ext E545).lt zv546)
        have ne_b518_v546 : b518 ≠ v546 := Nat.ne_of_lt (Nat.lt_of_lt_of_le (((((((Q518.wr W519).wr W521).ext E527).keep K528).ext E532).keep K539).ext E545).lt zv546)
        have ne_b527_v546 : b527 ≠ v546 := Nat.ne_of_lt (Nat.lt_of_lt_of_le (((Ex528.ext E532).keep K539).ext E545).lt zv546)
        have ne_b528_v546 : b528 ≠ v546 := Nat.ne_of_lt (Nat.lt_of_lt_of_le (((V528.ext E532).keep K539 (ninS ne_b528_b532 nin0)).ext E545).lt zv546)
        have ne_b532_v546 : b532 ≠ v546 := Nat.ne_of_lt (Nat.lt_of_lt_of_le (Ex539.ext E545).lt zv546)
        have ne_b539_v546 : b539 ≠ v546 := Nat.ne_of_lt (Nat.lt_of_lt_of_le (V539.ext E545).lt zv546)
        have ne_b545_v546 : b545 ≠ v546 := Nat.ne_of_lt (Nat.lt_of_lt_of_le Q545.lt zv546)
        have ge_v546 : n0 ≤ v546 := Nat.le_trans (Nat.le_trans (Nat.le_trans (Nat.le_trans (Nat.le_trans (Nat.le_trans Fb526 E527.1) K528.1) E532.1) K539.1) E545.1) zv546
        have Fb547 := (Safe.keep K546 all0 ((Rb534.trans (CHr.keep K539 (allS Sf541 all0) Rb534.1)).trans (CHr.ext E545 (Rb534.trans (CHr.keep K539 (allS Sf541 all0) Rb534.1)).1)).1 (Safe.ext E545 (Rb534.trans (CHr.keep K539 (allS Sf541 all0) Rb534.1)).1 (Safe.keep K539 (allS Sf541 all0) Rb534.1 Fb533)))
        have Fb548 := (Safe.keep K546 all0 ((Rb534.trans (CHr.keep K539 (allS Sf541 all0) Rb534.1)).trans (CHr.ext E545 (Rb534.trans (CHr.keep K539 (allS Sf541 all0) Rb534.1)).1)).1 (Safe.ext E545 (Rb534.trans (CHr.keep K539 (allS Sf541 all0) Rb534.1)).1 (Safe.keep K539 (allS Sf541 all0) Rb534.1 Sf541)))
        have Rb549 := (((Rb534.trans (CHr.keep K539 (allS Sf541 all0) Rb534.1)).trans (CHr.ext E545 (Rb534.trans (CHr.keep K539 (allS Sf541 all0) Rb534.1)).1)).trans (CHr.keep K546 all0 ((Rb534.trans (CHr.keep K539 (allS Sf541 all0) Rb534.1)).trans (CHr.ext E545 (Rb534.trans (CHr.keep K539 (allS Sf541 all0) Rb534.1)).1)).1))
        refine Rch.of (T' := T546) (g' := (mkF m 156 #[.val (.int p0), .val (.int p1), .val (.int p2), .val (.int fLG), .val (.int fEV), .val (.int fNC), .val (.ref b512), .val (.ref b518), .val (.ref b527), .val (.ref b532), .unset, .unset, .unset, .unset] [(.ref b546), (.int (0 : Int32)), (.ref b545), (.ref b545)])) st546 ?_
        obtain ⟨cl550, Ar550, Sz550, Ha550⟩ := id (V545.keep K546 nin0)
        have ov550 := OvA.at (Ov545.keep K546) Ar550
        obtain ⟨T550, h550, X550, e550, W550, st550⟩ := stR X546 hx hZ rfl Ar550 (j := (0 : Int32)) (oIn (i := 0) Sz550 (by decide) (by decide)) rfl (Sto.of Ar550 ov550 (Ins.of_exa Ex546 (hw _ (List.mem_of_getElem? (i := 9) rfl)))) (g := (mkF m 156 #[.val (.int p0), .val (.int p1), .val (.int p2), .val (.int fLG), .val (.int fEV), .val (.int fNC), .val (.ref b512), .val (.ref b518), .val (.ref b527), .val (.ref b532), .unset, .unset, .unset, .unset] [(.ref b546), (.int (0 : Int32)), (.ref b545), (.ref b545)])) rfl rfl (hb hby at_156)
        have V550 := Av.set (i := 0) (V545.keep K546 nin0) (by decide) (by decide) W550
        have N550 := Fr.snoc X550 N546 ge_b545
        have Sf551 : Safe Z consts_1 s.vm T546.heap b545 := (Safe.exa hZ.alike (Q545.keep K546) (by decide) (by decide))
        have Fb552 := (Nat.le_trans (Nat.le_trans (Nat.le_trans (Nat.le_trans (Nat.le_trans (Nat.le_trans (Nat.le_trans Fb524 E527.1) K528.1) E532.1) K539.1) E545.1) K546.1) (Keep.of_wr W550).1)
        have Fb553 := (Nat.le_trans (Nat.le_trans (Nat.le_trans (Nat.le_trans (Nat.le_trans (Nat.le_trans (Nat.le_trans Fb526 E527.1) K528.1) E532.1) K539.1) E545.1) K546.1) (Keep.of_wr W550).1)
        refine Rch.of (T' := T550) (g' := (mkF m 157 #[.val (.int p0), .val (.int p1), .val (.int p2), .val (.int fLG), .val (.int fEV), .val (.int fNC), .val (.ref b512), .val (.ref b518), .val (.ref b527), .val (.ref b532), .unset, .unset, .unset, .unset] [(.ref b545)])) st550 ?_
        have Vc550 : Av Z h550 b545 (.object "java/lang/String") 1 (fun _ => Value.ref b546) := Av.congr V550 (fun j hj => if_pos (Nat.lt_one_iff.mp hj))
        refine Rch.of (T' := T550) (g' := (mkF m 159 #[.val (.int p0), .val (.int p1), .val (.int p2), .val (.int fLG), .val (.int fEV), .val (.int fNC), .val (.ref b512), .val (.ref b518), .val (.ref b527), .val (.ref b532), .val (.ref b545), .unset, .unset, .unset] [])) (fun _ kt => XS.astore X550.here hx rfl (hb hby at_157) rfl rfl (l' := #[.val (.int p0), .val (.int p1), .val (.int p2), .val (.int fLG), .val (.int fEV), .val (.int fNC), .val (.ref b512), .val (.ref b518), .val (.ref b527), .val (.ref b532), .val (.ref b545), .unset, .unset, .unset]) rfl kt) ?_
        refine Rch.of (T' := T550) (g' := (mkF m 160 #[.val (.int p0), .val (.int p1), .val (.int p2), .val (.int fLG), .val (.int fEV), .val (.int fNC), .val (.ref b512), .val (.ref b518), .val (.ref b527), .val (.ref b532), .val (.ref b545), .unset, .unset, .unset] [(.int fLG)])) (fun _ kt => XS.iloadN X550.here hx rfl (hb hby at_159) rfl  kt) ?_
        by_cases c554 : fLG = (0 : Int32)
        · skip
          refine Rch.of (T' := T550) (g' := (mkF m 173 #[.val (.int p0), .val (.int p1), .val (.int p2), .val (.int fLG), .val (.int fEV), .val (.int fNC), .val (.ref b512), .val (.ref b518), .val (.ref b527), .val (.ref b532), .val (.ref b545), .unset, .unset, .unset] [])) (fun _ kt => XS.ifYes X550.here hx rfl (pc0 := 160) (pc' := 173) rfl (hb hby at_160) rfl ((if0 _ _).trans (teq c554).1) (by decide) (by decide) kt) ?_
          have sw555 : fLG = (0 : Int32) := c554
          rw [sw555]
          show Rch p e below K T550 (mkF m 173 #[.val (.int p0), .val (.int p1), .val (.int p2), .val (.int (0 : Int32)), .val (.int fEV), .val (.int fNC), .val (.ref b512), .val (.ref b518), .val (.ref b527), .val (.ref b532), .val (.ref b545), .unset, .unset, .unset] [])
          obtain ⟨T556, h556, X556, e556, E556, A556, D556, -, st556⟩ := newO X550 hx hZ hown (hw _ (List.mem_of_getElem? (i := 48) rfl)) (hw _ (List.mem_of_getElem? (i := 49) rfl)) (hw _ (List.mem_of_getElem? (i := 50) rfl)) e550 (g := (mkF m 173 #[.val (.int p0), .val (.int p1), .val (.int p2), .val (.int (0 : Int32)), .val (.int fEV), .val (.int fNC), .val (.ref b512), .val (.ref b518), .val (.ref b527), .val (.ref b532), .val (.ref b545), .unset, .unset, .unset] [])) rfl (hb hby at_173) (by decide) (by decide)
          obtain ⟨b556, g556⟩ : ∃ zz_, zz_ = h550.size := ⟨_, rfl⟩
          have ne_el_b556 : el ≠ b556 := Nat.ne_of_lt (Nat.lt_of_lt_of_le ((((((((((((((E9.ext O0.2).ext E512).wr W513).wr W515).ext E518).wr W519).wr W521).ext E527).keep K528).ext E532).keep K539).ext E545).keep K546).wr W550).lt (Nat.le_of_eq g556.symm))
          have ne_b512_b556 : b512 ≠ b556 := Nat.ne_of_lt (Nat.lt_of_lt_of_le ((((((((((((Q512.wr W513).wr W515).ext E518).wr W519).wr W521).ext E527).keep K528).ext E532).keep K539).ext E545).keep K546).wr W550).lt (Nat.le_of_eq g556.symm))
          have ne_b518_b556 : b518 ≠ b556 := Nat.ne_of_lt (Nat.lt_of_lt_of_le (((((((((Q518.wr W519).wr W521).ext E527).keep K528).ext E532).keep K539).ext E545).keep K546).wr W550).lt (Nat.le_of_eq g556.symm))
          have ne_b527_b556 : b527 ≠ b556 := Nat.ne_of_lt (Nat.lt_of_lt_of_le (((((Ex528.ext E532).keep K539).ext E545).keep K546).wr W550).lt (Nat.le_of_eq g556.symm))
          have ne_b528_b556 : b528 ≠ b556 := Nat.ne_of_lt (Nat.lt_of_lt_of_le (((((V528.ext E532).keep K539 (ninS ne_b528_b532 nin0)).ext E545).keep K546 nin0).other W550 ne_b528_b545).lt (Nat.le_of_eq g556.symm))
          have ne_b532_b556 : b532 ≠ b556 := Nat.ne_of_lt (Nat.lt_of_lt_of_le (((Ex539.ext E545).keep K546).wr W550).lt (Nat.le_of_eq g556.symm))
          have ne_b539_b556 : b539 ≠ b556 := Nat.ne_of_lt (Nat.lt_of_lt_of_le (((V539.ext E545).keep K546 nin0).other W550 ne_b539_b545).lt (Nat.le_of_eq g556.symm))
          have ne_b545_b556 : b545 ≠ b556 := Nat.ne_of_lt (Nat.lt_of_lt_of_le ((Q545.keep K546).wr W550).lt (Nat.le_of_eq g556.symm))
          have ne_b546_b556 : b546 ≠ b556 := Nat.ne_of_lt (Nat.lt_of_lt_of_le (Ex546.wr W550).lt (Nat.le_of_eq g556.symm))
          have ne_v546_b556 : v546 ≠ b556 := Nat.ne_of_lt (Nat.lt_of_lt_of_le (V546.other W550 (Ne.symm ne_b545_v546)).lt (Nat.le_of_eq g556.symm))
          have ge_b556 : n0 ≤ b556 := Nat.le_trans Fb553 (Nat.le_of_eq g556.symm)
          rw [← g556] at A556 D556 st556
          have Fb557 := (((((((((((((((E9.ext O0.2).ext E512).wr W513).wr W515).ext E518).wr W519).wr W521).ext E527).keep K528).ext E532).keep K539).ext E545).keep K546).wr W550).ext E556)
          have Fb558 := ((((((((Fb525.ext E527).keep K528 (ninS ne_el_b527 nin0)).ext E532).keep K539 (ninS ne_el_b532 nin0)).ext E545).keep K546 nin0).other W550 (Or.inl ne_el_b545)).ext E556)
          have Fb559 := ((((((((V521.ext E527).keep K528 (ninS ne_b518_b527 nin0)).ext E532).keep K539 (ninS ne_b518_b532 nin0)).ext E545).keep K546 nin0).other W550 ne_b518_b545).ext E556)
          have F556_name : Fld Z h556 b556 "com/example/ampliar/ampliar/command/Parameter" "name" "Ljava/lang/String;" .null := D556 (Or.inr (hw _ (List.mem_of_getElem? (i := 56) rfl))) (ty := (.object "java/lang/String")) (by decide)
          have F556_value : Fld Z h556 b556 "com/example/ampliar/ampliar/command/Parameter" "value" "Ljava/lang/String;" .null := D556 (Or.inr (hw _ (List.mem_of_getElem? (i := 64) rfl))) (ty := (.object "java/lang/String")) (by decide)
          have F556_choices : Fld Z h556 b556 "com/example/ampliar/ampliar/command/Parameter" "choices" "Ljava/util/List;" .null := D556 (Or.inr (hw _ (List.mem_of_getElem? (i := 105) rfl))) (ty := (.object "java/util/List")) (by decide)
          refine Rch.of (T' := T556) (g' := (mkF m 176 #[.val (.int p0), .val (.int p1), .val (.int p2), .val (.int (0 : Int32)), .val (.int fEV), .val (.int fNC), .val (.ref b512), .val (.ref b518), .val (.ref b527), .val (.ref b532), .val (.ref b545), .unset, .unset, .unset] [(.ref b556)])) st556 ?_
          refine Rch.of (T' := T556) (g' := (mkF m 177 #[.val (.int p0), .val (.int p1), .val (.int p2), .val (.int (0 : Int32)), .val (.int fEV), .val (.int fNC), .val (.ref b512), .val (.ref b518), .val (.ref b527), .val (.ref b532), .val (.ref b545), .unset, .unset, .unset] [(.ref b556), (.ref b556)])) (fun _ kt => XS.dup X556.here hx rfl (hb hby at_176) rfl rfl kt) ?_
          refine Rch.of (T' := T556) (g' := (mkF m 179 #[.val (.int p0), .val (.int p1), .val (.int p2), .val (.int (0 : Int32)), .val (.int fEV), .val (.int fNC), .val (.ref b512), .val (.ref b518), .val (.ref b527), .val (.ref b532), .val (.ref b545), .unset, .unset, .unset] [(.ref b527), (.ref b556), (.ref b556)])) (fun _ kt => XS.aload X556.here hx rfl (hb hby at_177) rfl rfl kt) ?_
          refine Rch.of (T' := T556) (g' := (mkF m 181 #[.val (.int p0), .val (.int p1), .val (.int p2), .val (.int (0 : Int32)), .val (.int fEV), .val (.int fNC), .val (.ref b512), .val (.ref b518), .val (.ref b527), .val (.ref b532), .val (.ref b545), .unset, .unset, .unset] [(.ref b532), (.ref b527), (.ref b556), (.ref b556)])) (fun _ kt => XS.aload X556.here hx rfl (hb hby at_179) rfl rfl kt) ?_
          refine Rch.of (T' := T556) (g' := (mkF m 183 #[.val (.int p0), .val (.int p1), .val (.int p2), .val (.int (0 : Int32)), .val (.int fEV), .val (.int fNC), .val (.ref b512), .val (.ref b518), .val (.ref b527), .val (.ref b532), .val (.ref b545), .unset, .unset, .unset] [(.ref b545), (.ref b532), (.ref b527), (.ref b556), (.ref b556)])) (fun _ kt => XS.aload X556.here hx rfl (hb hby at_181) rfl rfl kt) ?_
          obtain ⟨_, _, ⟨T560, L560, k560, n560⟩, -, X560, hT560, gr560, ⟨Lc560, hQ560, l560, y560, z560, cr560⟩, st560⟩ := X556.specialBackS hx (y := (⟨"com/example/ampliar/ampliar/command/Parameter", "<init>", "(Ljava/lang/String;Ljava/lang/String;[Ljava/lang/String;)V"⟩ : MethodName)) rfl hown (mvT hZ (hw _ (List.mem_of_getElem? (i := 51) rfl))) (mvT hZ (hw _ (List.mem_of_getElem? (i := 52) rfl))) (mvT hZ (hw _ (List.mem_of_getElem? (i := 53) rfl))) (by decide) (backOfSH (s := s) (vm0 := s.vm) (EL := consts_1) (W := 1) (rkP1 l Z a0 hw [] b556 b527 b532 b545 b546 eo .null .null .null h556 n0 (Nat.le_trans Fb553 E556.1) A556 F556_name F556_value F556_choices ge_b556 ((((Ex539.ext E545).keep K546).wr W550).ext E556) (Vc550.ext E556) (((SE.ext ((Fb542.ext E545).keep K546 all0).2).wr W550).ext E556) ne_b545_b556) hZ (hw _ (List.mem_of_getElem? (i := 53) rfl)) (hw _ (List.mem_of_getElem? (i := 50) rfl)) (by decide) (by decide) hEL ((Rb549.trans (CHr.wr W550 Sf551 Rb549.1)).trans (CHr.ext E556 (Rb549.trans (CHr.wr W550 Sf551 Rb549.1)).1)).1) (g := (mkF m 183 #[.val (.int p0), .val (.int p1), .val (.int p2), .val (.int (0 : Int32)), .val (.int fEV), .val (.int fNC), .val (.ref b512), .val (.ref b518), .val (.ref b527), .val (.ref b532), .val (.ref b545), .unset, .unset, .unset] [(.ref b545), (.ref b532), (.ref b527), (.ref b556), (.ref b556)])) rfl (by rw [hml]; rfl) (Steps.refl _) (a := b556) (argsL := [(.ref b527), (.ref b532), (.ref b545)]) (rest := [(.ref b556)]) (lenOf pd_10 rfl) rfl (by show 2 * 0 + _ ≤ _; exact Nat.le_of_eq rfl) (hb hby at_183) (fun _ _ => ⟨rfl, e556, (by decide : 10 + 3 ≤ _), (by decide : 25 + 26 ≤ _)⟩)
          dsimp only [Pt.U, Pt.locs, Pt.cells, Pt.slots] at X560 hT560 gr560 l560 y560 z560 st560 hQ560 cr560
          subst l560 y560 z560
          obtain ⟨X560, hS560, hZ, hown⟩ := rebS hS0 (Nat.le_trans Fb552 E556.1) X560 hT560 (by rw [← e556]; exact gr560) hZ hown
          obtain ⟨rfl, N560q, hQ560⟩ := hQ560
          have N560 := Fr.app N550 N560q
          obtain ⟨K560, Ex560, Fa560, Fb560⟩ := hQ560
          have Fb561 := (CHr.safe cr560 ((((((Ex528.ext E532).keep K539).ext E545).keep K546).wr W550).ext E556).lt (Safe.ext E556 (Rb549.trans (CHr.wr W550 Sf551 Rb549.1)).1 (Safe.wr W550 Sf551 Rb549.1 Fb547)))
          have Fb562 := (CHr.safe cr560 ((((Ex539.ext E545).keep K546).wr W550).ext E556).lt (Safe.ext E556 (Rb549.trans (CHr.wr W550 Sf551 Rb549.1)).1 (Safe.wr W550 Sf551 Rb549.1 Fb548)))
          have Fb563 := (((((((Fa528.ext E532).keep K539 (ninS ne_b527_b532 nin0)).ext E545).keep K546 nin0).other W550 (Or.inl ne_b527_b545)).ext E556).keep K560 (ninS ne_b527_b556 nin0))
          have Fb564 := (((((((Fb528.ext E532).keep K539 (ninS ne_b527_b532 nin0)).ext E545).keep K546 nin0).other W550 (Or.inl ne_b527_b545)).ext E556).keep K560 (ninS ne_b527_b556 nin0))
          refine Rch.via (T' := T560) (g' := (mkF m 186 #[.val (.int p0), .val (.int p1), .val (.int p2), .val (.int (0 : Int32)), .val (.int fEV), .val (.int fNC), .val (.ref b512), .val (.ref b518), .val (.ref b527), .val (.ref b532), .val (.ref b545), .unset, .unset, .unset] [(.ref b556)])) st560 ?_
          refine Rch.of (T' := T560) (g' := (mkF m 188 #[.val (.int p0), .val (.int p1), .val (.int p2), .val (.int (0 : Int32)), .val (.int fEV), .val (.int fNC), .val (.ref b512), .val (.ref b518), .val (.ref b527), .val (.ref b532), .val (.ref b545), .val (.ref b556), .unset, .unset] [])) (fun _ kt => XS.astore X560.here hx rfl (hb hby at_186) rfl rfl (l' := #[.val (.int p0), .val (.int p1), .val (.int p2), .val (.int (0 : Int32)), .val (.int fEV), .val (.int fNC), .val (.ref b512), .val (.ref b518), .val (.ref b527), .val (.ref b532), .val (.ref b545), .val (.ref b556), .unset, .unset]) rfl kt) ?_
          exact JV fEV fNC b512 b518 b527 b528 b532 b545 b556 y515 b539 2 y521 T560 _ _ _ _ (X560.mono (by decide) (by decide)) rfl N560 (Nat.le_trans (Nat.le_trans Fb553 E556.1) K560.1) hS560 (Nat.le_refl _) hZ hown (((Rb549.trans (CHr.wr W550 Sf551 Rb549.1)).trans (CHr.ext E556 (Rb549.trans (CHr.wr W550 Sf551 Rb549.1)).1)).trans cr560) (((((Fb542.ext E545).keep K546 all0).wr W550 ge_b545).ext E556).keep K560 (allS ge_b556 all0)) Ex560 Fa560 (((((((Ex528.ext E532).keep K539).ext E545).keep K546).wr W550).ext E556).keep K560) Fb563 Fb564 (((((((V528.ext E532).keep K539 (ninS ne_b528_b532 nin0)).ext E545).keep K546 nin0).other W550 ne_b528_b545).ext E556).keep K560 (ninS ne_b528_b556 nin0)) hch529 Fb560 (((((Ex539.ext E545).keep K546).wr W550).ext E556).keep K560) (((((Fa539.ext E545).keep K546 nin0).other W550 (Or.inl ne_b532_b545)).ext E556).keep K560 (ninS ne_b532_b556 nin0)) (((((Fb539.ext E545).keep K546 nin0).other W550 (Or.inl ne_b532_b545)).ext E556).keep K560 (ninS ne_b532_b556 nin0)) (((((V539.ext E545).keep K546 nin0).other W550 ne_b539_b545).ext E556).keep K560 (ninS ne_b539_b556 nin0)) hch540 (by decide)
        · skip
          refine Rch.of (T' := T550) (g' := (mkF m 163 #[.val (.int p0), .val (.int p1), .val (.int p2), .val (.int fLG), .val (.int fEV), .val (.int fNC), .val (.ref b512), .val (.ref b518), .val (.ref b527), .val (.ref b532), .val (.ref b545), .unset, .unset, .unset] [])) (fun _ kt => XS.ifNo X550.here hx rfl (hb hby at_160) rfl ((if0 _ _).trans (feq c554).1) kt) ?_
          have sw565 : fLG = (1 : Int32) := hb3.resolve_left c554
          rw [sw565]
          show Rch p e below K T550 (mkF m 163 #[.val (.int p0), .val (.int p1), .val (.int p2), .val (.int (1 : Int32)), .val (.int fEV), .val (.int fNC), .val (.ref b512), .val (.ref b518), .val (.ref b527), .val (.ref b532), .val (.ref b545), .unset, .unset, .unset] [])
          refine Rch.of (T' := T550) (g' := (mkF m 165 #[.val (.int p0), .val (.int p1), .val (.int p2), .val (.int (1 : Int32)), .val (.int fEV), .val (.int fNC), .val (.ref b512), .val (.ref b518), .val (.ref b527), .val (.ref b532), .val (.ref b545), .unset, .unset, .unset] [(.ref b527)])) (fun _ kt => XS.aload X550.here hx rfl (hb hby at_163) rfl rfl kt) ?_
          refine Rch.of (T' := T550) (g' := (mkF m 167 #[.val (.int p0), .val (.int p1), .val (.int p2), .val (.int (1 : Int32)), .val (.int fEV), .val (.int fNC), .val (.ref b512), .val (.ref b518), .val (.ref b527), .val (.ref b532), .val (.ref b545), .unset, .unset, .unset] [(.ref b545), (.ref b527)])) (fun _ kt => XS.aload X550.here hx rfl (hb hby at_165) rfl rfl kt) ?_
          obtain ⟨_, _, ⟨T566, L566, k566, n566⟩, -, X566, ⟨Lc566, hQ566, l566, y566, z566⟩, st566⟩ := Jvm.LawKit.callS X550 hx (y := (⟨"com/example/ampliar/ampliar/command/Parameter", "flag", "(Ljava/lang/String;[Ljava/lang/String;)Lcom/example/ampliar/ampliar/command/Parameter;"⟩ : MethodName)) hown (mvT hZ (hw _ (List.mem_of_getElem? (i := 252) rfl))) (mvT hZ (hw _ (List.mem_of_getElem? (i := 253) rfl))) (mvT hZ (hw _ (List.mem_of_getElem? (i := 50) rfl))) (mvT hZ (hw _ (List.mem_of_getElem? (i := 254) rfl))) (by decide) (backOf (W := 0) (rkF1 l Z a0 hw [] b527 b545 b546 eo h550 n0 Fb553 Vc550 ((SE.ext ((Fb542.ext E545).keep K546 all0).2).wr W550)) hZ (hw _ (List.mem_of_getElem? (i := 254) rfl)) (hw _ (List.mem_of_getElem? (i := 50) rfl)) (by decide) (by decide)) (g := (mkF m 167 #[.val (.int p0), .val (.int p1), .val (.int p2), .val (.int (1 : Int32)), .val (.int fEV), .val (.int fNC), .val (.ref b512), .val (.ref b518), .val (.ref b527), .val (.ref b532), .val (.ref b545), .unset, .unset, .unset] [(.ref b545), (.ref b527)])) rfl (by rw [hml]; rfl) (argsL := [(.ref b527), (.ref b545)]) (rest := []) (lenOf pd_35 rfl) rfl (by show 2 * 0 + _ ≤ _; exact Nat.le_of_eq rfl) (hb hby at_167) (fun _ _ => ⟨rfl, e550, (by decide : 9 + 2 ≤ _), (by decide : 22 + 5 ≤ _)⟩)
          dsimp only [Pt.U, Pt.locs, Pt.cells, Pt.slots] at X566 l566 y566 z566 st566 hQ566
          subst l566 y566 z566
          obtain ⟨rfl, N566q, hQ566⟩ := hQ566
          have N566 := Fr.app N550 N566q
          obtain ⟨K566, Ex566, Fa566, Fb566⟩ := hQ566
          obtain ⟨b566, g566⟩ : ∃ zz_, zz_ = h550.size := ⟨_, rfl⟩
          have ne_el_b566 : el ≠ b566 := Nat.ne_of_lt (Nat.lt_of_lt_of_le ((((((((((((((E9.ext O0.2).ext E512).wr W513).wr W515).ext E518).wr W519).wr W521).ext E527).keep K528).ext E532).keep K539).ext E545).keep K546).wr W550).lt (Nat.le_of_eq g566.symm))
          have ne_b512_b566 : b512 ≠ b566 := Nat.ne_of_lt (Nat.lt_of_lt_of_le ((((((((((((Q512.wr W513).wr W515).ext E518).wr W519).wr W521).ext E527).keep K528).ext E532).keep K539).ext E545).keep K546).wr W550).lt (Nat.le_of_eq g566.symm))
          have ne_b518_b566 : b518 ≠ b566 := Nat.ne_of_lt (Nat.lt_of_lt_of_le (((((((((Q518.wr W519).wr W521).ext E527).keep K528).ext E532).keep K539).ext E545).keep K546).wr W550).lt (Nat.le_of_eq g566.symm))
          have ne_b527_b566 : b527 ≠ b566 := Nat.ne_of_lt (Nat.lt_of_lt_of_le (((((Ex528.ext E532).keep K539).ext E545).keep K546).wr W550).lt (Nat.le_of_eq g566.symm))
          have ne_b528_b566 : b528 ≠ b566 := Nat.ne_of_lt (Nat.lt_of_lt_of_le (((((V528.ext E532).keep K539 (ninS ne_b528_b532 nin0)).ext E545).keep K546 nin0).other W550 ne_b528_b545).lt (Nat.le_of_eq g566.symm))
          have ne_b532_b566 : b532 ≠ b566 := Nat.ne_of_lt (Nat.lt_of_lt_of_le (((Ex539.ext E545).keep K546).wr W550).lt (Nat.le_of_eq g566.symm))
          have ne_b539_b566 : b539 ≠ b566 := Nat.ne_of_lt (Nat.lt_of_lt_of_le (((V539.ext E545).keep K546 nin0).other W550 ne_b539_b545).lt (Nat.le_of_eq g566.symm))
          have ne_b545_b566 : b545 ≠ b566 := Nat.ne_of_lt (Nat.lt_of_lt_of_le ((Q545.keep K546).wr W550).lt (Nat.le_of_eq g566.symm))
          have ne_b546_b566 : b546 ≠ b566 := Nat.ne_of_lt (Nat.lt_of_lt_of_le (Ex546.wr W550).lt (Nat.le_of_eq g566.symm))
          have ne_v546_b566 : v546 ≠ b566 := Nat.ne_of_lt (Nat.lt_of_lt_of_le (V546.other W550 (Ne.symm ne_b545_v546)).lt (Nat.le_of_eq g566.symm))
          have ge_b566 : n0 ≤ b566 := Nat.le_trans Fb553 (Nat.le_of_eq g566.symm)
          rw [← g566] at Ex566 Fa566 Fb566 st566
          have Fb567 := (((((((((((((((E9.ext O0.2).ext E512).wr W513).wr W515).ext E518).wr W519).wr W521).ext E527).keep K528).ext E532).keep K539).ext E545).keep K546).wr W550).keep K566)
          have Fb568 := ((((((((Fb525.ext E527).keep K528 (ninS ne_el_b527 nin0)).ext E532).keep K539 (ninS ne_el_b532 nin0)).ext E545).keep K546 nin0).other W550 (Or.inl ne_el_b545)).keep K566 nin0)
          have Fb569 := ((((((((V521.ext E527).keep K528 (ninS ne_b518_b527 nin0)).ext E532).keep K539 (ninS ne_b518_b532 nin0)).ext E545).keep K546 nin0).other W550 ne_b518_b545).keep K566 nin0)
          refine Rch.of (T' := T566) (g' := (mkF m 170 #[.val (.int p0), .val (.int p1), .val (.int p2), .val (.int (1 : Int32)), .val (.int fEV), .val (.int fNC), .val (.ref b512), .val (.ref b518), .val (.ref b527), .val (.ref b532), .val (.ref b545), .unset, .unset, .unset] [(.ref b566)])) st566 ?_
          refine Rch.of (T' := T566) (g' := (mkF m 186 #[.val (.int p0), .val (.int p1), .val (.int p2), .val (.int (1 : Int32)), .val (.int fEV), .val (.int fNC), .val (.ref b512), .val (.ref b518), .val (.ref b527), .val (.ref b532), .val (.ref b545), .unset, .unset, .unset] [(.ref b566)])) (fun _ kt => XS.goto X566.here hx rfl (pc0 := 170) (pc' := 186) rfl (hb hby at_170) (by decide) (by decide) kt) ?_
          refine Rch.of (T' := T566) (g' := (mkF m 188 #[.val (.int p0), .val (.int p1), .val (.int p2), .val (.int (1 : Int32)), .val (.int fEV), .val (.int fNC), .val (.ref b512), .val (.ref b518), .val (.ref b527), .val (.ref b532), .val (.ref b545), .val (.ref b566), .unset, .unset] [])) (fun _ kt => XS.astore X566.here hx rfl (hb hby at_186) rfl rfl (l' := #[.val (.int p0), .val (.int p1), .val (.int p2), .val (.int (1 : Int32)), .val (.int fEV), .val (.int fNC), .val (.ref b512), .val (.ref b518), .val (.ref b527), .val (.ref b532), .val (.ref b545), .val (.ref b566), .unset, .unset]) rfl kt) ?_
          exact JF fEV fNC b512 b518 b527 b528 b532 b545 b566 y515 T566 _ _ _ _ (X566.mono (by decide) (by decide)) rfl N566 (Nat.le_trans Fb553 K566.1) hS0 (Nat.le_trans Fb552 K566.1) hZ hown ((Rb549.trans (CHr.wr W550 Sf551 Rb549.1)).trans (CHr.keep K566 all0 (Rb549.trans (CHr.wr W550 Sf551 Rb549.1)).1)) ((((Fb542.ext E545).keep K546 all0).wr W550 ge_b545).keep K566 all0) Ex566 Fa566 ((((((Ex528.ext E532).keep K539).ext E545).keep K546).wr W550).keep K566) ((((((Fa528.ext E532).keep K539 (ninS ne_b527_b532 nin0)).ext E545).keep K546 nin0).other W550 (Or.inl ne_b527_b545)).keep K566 nin0) ((((((Fb528.ext E532).keep K539 (ninS ne_b527_b532 nin0)).ext E545).keep K546 nin0).other W550 (Or.inl ne_b527_b545)).keep K566 nin0) ((((((V528.ext E532).keep K539 (ninS ne_b528_b532 nin0)).ext E545).keep K546 nin0).other W550 ne_b528_b545).keep K566 nin0) hch529 Fb566
      · skip
        refine Rch.of (T' := T539) (g' := (mkF m 131 #[.val (.int p0), .val (.int p1), .val (.int p2), .val (.int fLG), .val (.int fEV), .val (.int fNC), .val (.ref b512), .val (.ref b518), .val (.ref b527), .val (.ref b532), .unset, .unset, .unset, .unset] [])) (fun _ kt => XS.ifNo X539.here hx rfl (hb hby at_128) rfl ((if0 _ _).trans (feq c544).1) kt) ?_
        refine Rch.of (T' := T539) (g' := (mkF m 132 #[.val (.int p0), .val (.int p1), .val (.int p2), .val (.int fLG), .val (.int fEV), .val (.int fNC), .val (.ref b512), .val (.ref b518), .val (.ref b527), .val (.ref b532), .unset, .unset, .unset, .unset] [(.int (0 : Int32))])) (fun _ kt => XS.iconst X539.here hx rfl (hb hby at_131) kt) ?_
        obtain ⟨T570, h570, k570, X570, e570, E570, A570, Q570, O570, st570⟩ := newRE X539 hx hZ hown (hw _ (List.mem_of_getElem? (i := 1) rfl)) (hw _ (List.mem_of_getElem? (i := 33) rfl)) rfl (g := (mkF m 132 #[.val (.int p0), .val (.int p1), .val (.int p2), .val (.int fLG), .val (.int fEV), .val (.int fNC), .val (.ref b512), .val (.ref b518), .val (.ref b527), .val (.ref b532), .unset, .unset, .unset, .unset] [(.int (0 : Int32))])) rfl (hb hby at_132) rfl (oNn (i := 0) (by decide)) (cap := 0) (by decide) (by decide) (by decide) (by decide) (ad := "[Ljava/lang/String;") rfl
        obtain ⟨b570, g570⟩ : ∃ zz_, zz_ = T539.heap.size := ⟨_, rfl⟩
        have ne_el_b570 : el ≠ b570 := Nat.ne_of_lt (Nat.lt_of_lt_of_le (((((((((((E9.ext O0.2).ext E512).wr W513).wr W515).ext E518).wr W519).wr W521).ext E527).keep K528).ext E532).keep K539).lt (Nat.le_of_eq g570.symm))
        have ne_b512_b570 : b512 ≠ b570 := Nat.ne_of_lt (Nat.lt_of_lt_of_le (((((((((Q512.wr W513).wr W515).ext E518).wr W519).wr W521).ext E527).keep K528).ext E532).keep K539).lt (Nat.le_of_eq g570.symm))
        have ne_b518_b570 : b518 ≠ b570 := Nat.ne_of_lt (Nat.lt_of_lt_of_le ((((((Q518.wr W519).wr W521).ext E527).keep K528).ext E532).keep K539).lt (Nat.le_of_eq g570.symm))
        have ne_b527_b570 : b527 ≠ b570 := Nat.ne_of_lt (Nat.lt_of_lt_of_le ((Ex528.ext E532).keep K539).lt (Nat.le_of_eq g570.symm))
        have ne_b528_b570 : b528 ≠ b570 := Nat.ne_of_lt (Nat.lt_of_lt_of_le ((V528.ext E532).keep K539 (ninS ne_b528_b532 nin0)).lt (Nat.le_of_eq g570.symm))
        have ne_b532_b570 : b532 ≠ b570 := Nat.ne_of_lt (Nat.lt_of_lt_of_le Ex539.lt (Nat.le_of_eq g570.symm))
        have ne_b539_b570 : b539 ≠ b570 := Nat.ne_of_lt (Nat.lt_of_lt_of_le V539.lt (Nat.le_of_eq g570.symm))
        have ge_b570 : n0 ≤ b570 := Nat.le_trans (Nat.le_trans (Nat.le_trans (Nat.le_trans (Nat.le_trans Fb526 E527.1) K528.1) E532.1) K539.1) (Nat.le_of_eq g570.symm)
        rw [← g570] at A570 Q570 st570
        have V570 : Av Z h570 b570 (.object "java/lang/String") 0 (fun _ => .null) := Av.new A570 (by decide)
        have Ov570 : OvA Z h570 b570 "java/lang/String" := ⟨_, A570.1, O570⟩
        refine Rch.of (T' := T570) (g' := (mkF m 135 #[.val (.int p0), .val (.int p1), .val (.int p2), .val (.int fLG), .val (.int fEV), .val (.int fNC), .val (.ref b512), .val (.ref b518), .val (.ref b527), .val (.ref b532), .unset, .unset, .unset, .unset] [(.ref b570)])) st570 ?_
        refine Rch.of (T' := T570) (g' := (mkF m 157 #[.val (.int p0), .val (.int p1), .val (.int p2), .val (.int fLG), .val (.int fEV), .val (.int fNC), .val (.ref b512), .val (.ref b518), .val (.ref b527), .val (.ref b532), .unset, .unset, .unset, .unset] [(.ref b570)])) (fun _ kt => XS.goto X570.here hx rfl (pc0 := 135) (pc' := 157) rfl (hb hby at_135) (by decide) (by decide) kt) ?_
        refine Rch.of (T' := T570) (g' := (mkF m 159 #[.val (.int p0), .val (.int p1), .val (.int p2), .val (.int fLG), .val (.int fEV), .val (.int fNC), .val (.ref b512), .val (.ref b518), .val (.ref b527), .val (.ref b532), .val (.ref b570), .unset, .unset, .unset] [])) (fun _ kt => XS.astore X570.here hx rfl (hb hby at_157) rfl rfl (l' := #[.val (.int p0), .val (.int p1), .val (.int p2), .val (.int fLG), .val (.int fEV), .val (.int fNC), .val (.ref b512), .val (.ref b518), .val (.ref b527), .val (.ref b532), .val (.ref b570), .unset, .unset, .unset]) rfl kt) ?_
        refine Rch.of (T' := T570) (g' := (mkF m 160 #[.val (.int p0), .val (.int p1), .val (.int p2), .val (.int fLG), .val (.int fEV), .val (.int fNC), .val (.ref b512), .val (.ref b518), .val (.ref b527), .val (.ref b532), .val (.ref b570), .unset, .unset, .unset] [(.int fLG)])) (fun _ kt => XS.iloadN X570.here hx rfl (hb hby at_159) rfl  kt) ?_
        by_cases c571 : fLG = (0 : Int32)
        · skip
          refine Rch.of (T' := T570) (g' := (mkF m 173 #[.val (.int p0), .val (.int p1), .val (.int p2), .val (.int fLG), .val (.int fEV), .val (.int fNC), .val (.ref b512), .val (.ref b518), .val (.ref b527), .val (.ref b532), .val (.ref b570), .unset, .unset, .unset] [])) (fun _ kt => XS.ifYes X570.here hx rfl (pc0 := 160) (pc' := 173) rfl (hb hby at_160) rfl ((if0 _ _).trans (teq c571).1) (by decide) (by decide) kt) ?_
          have sw572 : fLG = (0 : Int32) := c571
          rw [sw572]
          show Rch p e below K T570 (mkF m 173 #[.val (.int p0), .val (.int p1), .val (.int p2), .val (.int (0 : Int32)), .val (.int fEV), .val (.int fNC), .val (.ref b512), .val (.ref b518), .val (.ref b527), .val (.ref b532), .val (.ref b570), .unset, .unset, .unset] [])
          obtain ⟨T573, h573, X573, e573, E573, A573, D573, -, st573⟩ := newO X570 hx hZ hown (hw _ (List.mem_of_getElem? (i := 48) rfl)) (hw _ (List.mem_of_getElem? (i := 49) rfl)) (hw _ (List.mem_of_getElem? (i := 50) rfl)) e570 (g := (mkF m 173 #[.val (.int p0), .val (.int p1), .val (.int p2), .val (.int (0 : Int32)), .val (.int fEV), .val (.int fNC), .val (.ref b512), .val (.ref b518), .val (.ref b527), .val (.ref b532), .val (.ref b570), .unset, .unset, .unset] [])) rfl (hb hby at_173) (by decide) (by decide)
          obtain ⟨b573, g573⟩ : ∃ zz_, zz_ = h570.size := ⟨_, rfl⟩
          have ne_el_b573 : el ≠ b573 := Nat.ne_of_lt (Nat.lt_of_lt_of_le ((((((((((((E9.ext O0.2).ext E512).wr W513).wr W515).ext E518).wr W519).wr W521).ext E527).keep K528).ext E532).keep K539).ext E570).lt (Nat.le_of_eq g573.symm))
          have ne_b512_b573 : b512 ≠ b573 := Nat.ne_of_lt (Nat.lt_of_lt_of_le ((((((((((Q512.wr W513).wr W515).ext E518).wr W519).wr W521).ext E527).keep K528).ext E532).keep K539).ext E570).lt (Nat.le_of_eq g573.symm))
          have ne_b518_b573 : b518 ≠ b573 := Nat.ne_of_lt (Nat.lt_of_lt_of_le (((((((Q518.wr W519).wr W521).ext E527).keep K528).ext E532).keep K539).ext E570).lt (Nat.le_of_eq g573.symm))
          have ne_b527_b573 : b527 ≠ b573 := Nat.ne_of_lt (Nat.lt_of_lt_of_le (((Ex528.ext E532).keep K539).ext E570).lt (Nat.le_of_eq g573.symm))
          have ne_b528_b573 : b528 ≠ b573 := Nat.ne_of_lt (Nat.lt_of_lt_of_le (((V528.ext E532).keep K539 (ninS ne_b528_b532 nin0)).ext E570).lt (Nat.le_of_eq g573.symm))
          have ne_b532_b573 : b532 ≠ b573 := Nat.ne_of_lt (Nat.lt_of_lt_of_le (Ex539.ext E570).lt (Nat.le_of_eq g573.symm))
          have ne_b539_b573 : b539 ≠ b573 := Nat.ne_of_lt (Nat.lt_of_lt_of_le (V539.ext E570).lt (Nat.le_of_eq g573.symm))
          have ne_b570_b573 : b570 ≠ b573 := Nat.ne_of_lt (Nat.lt_of_lt_of_le Q570.lt (Nat.le_of_eq g573.symm))
          have ge_b573 : n0 ≤ b573 := Nat.le_trans (Nat.le_trans (Nat.le_trans (Nat.le_trans (Nat.le_trans (Nat.le_trans Fb526 E527.1) K528.1) E532.1) K539.1) E570.1) (Nat.le_of_eq g573.symm)
          rw [← g573] at A573 D573 st573
          have Fb574 := (Safe.ext E573 ((Rb534.trans (CHr.keep K539 (allS Sf541 all0) Rb534.1)).trans (CHr.ext E570 (Rb534.trans (CHr.keep K539 (allS Sf541 all0) Rb534.1)).1)).1 (Safe.ext E570 (Rb534.trans (CHr.keep K539 (allS Sf541 all0) Rb534.1)).1 (Safe.keep K539 (allS Sf541 all0) Rb534.1 Fb533)))
          have Fb575 := (Safe.ext E573 ((Rb534.trans (CHr.keep K539 (allS Sf541 all0) Rb534.1)).trans (CHr.ext E570 (Rb534.trans (CHr.keep K539 (allS Sf541 all0) Rb534.1)).1)).1 (Safe.ext E570 (Rb534.trans (CHr.keep K539 (allS Sf541 all0) Rb534.1)).1 (Safe.keep K539 (allS Sf541 all0) Rb534.1 Sf541)))
          have Rb576 := (((Rb534.trans (CHr.keep K539 (allS Sf541 all0) Rb534.1)).trans (CHr.ext E570 (Rb534.trans (CHr.keep K539 (allS Sf541 all0) Rb534.1)).1)).trans (CHr.ext E573 ((Rb534.trans (CHr.keep K539 (allS Sf541 all0) Rb534.1)).trans (CHr.ext E570 (Rb534.trans (CHr.keep K539 (allS Sf541 all0) Rb534.1)).1)).1))
          have F573_name : Fld Z h573 b573 "com/example/ampliar/ampliar/command/Parameter" "name" "Ljava/lang/String;" .null := D573 (Or.inr (hw _ (List.mem_of_getElem? (i := 56) rfl))) (ty := (.object "java/lang/String")) (by decide)
          have F573_value : Fld Z h573 b573 "com/example/ampliar/ampliar/command/Parameter" "value" "Ljava/lang/String;" .null := D573 (Or.inr (hw _ (List.mem_of_getElem? (i := 64) rfl))) (ty := (.object "java/lang/String")) (by decide)
          have F573_choices : Fld Z h573 b573 "com/example/ampliar/ampliar/command/Parameter" "choices" "Ljava/util/List;" .null := D573 (Or.inr (hw _ (List.mem_of_getElem? (i := 105) rfl))) (ty := (.object "java/util/List")) (by decide)
          refine Rch.of (T' := T573) (g' := (mkF m 176 #[.val (.int p0), .val (.int p1), .val (.int p2), .val (.int (0 : Int32)), .val (.int fEV), .val (.int fNC), .val (.ref b512), .val (.ref b518), .val (.ref b527), .val (.ref b532), .val (.ref b570), .unset, .unset, .unset] [(.ref b573)])) st573 ?_
          refine Rch.of (T' := T573) (g' := (mkF m 177 #[.val (.int p0), .val (.int p1), .val (.int p2), .val (.int (0 : Int32)), .val (.int fEV), .val (.int fNC), .val (.ref b512), .val (.ref b518), .val (.ref b527), .val (.ref b532), .val (.ref b570), .unset, .unset, .unset] [(.ref b573), (.ref b573)])) (fun _ kt => XS.dup X573.here hx rfl (hb hby at_176) rfl rfl kt) ?_
          refine Rch.of (T' := T573) (g' := (mkF m 179 #[.val (.int p0), .val (.int p1), .val (.int p2), .val (.int (0 : Int32)), .val (.int fEV), .val (.int fNC), .val (.ref b512), .val (.ref b518), .val (.ref b527), .val (.ref b532), .val (.ref b570), .unset, .unset, .unset] [(.ref b527), (.ref b573), (.ref b573)])) (fun _ kt => XS.aload X573.here hx rfl (hb hby at_177) rfl rfl kt) ?_
          refine Rch.of (T' := T573) (g' := (mkF m 181 #[.val (.int p0), .val (.int p1), .val (.int p2), .val (.int (0 : Int32)), .val (.int fEV), .val (.int fNC), .val (.ref b512), .val (.ref b518), .val (.ref b527), .val (.ref b532), .val (.ref b570), .unset, .unset, .unset] [(.ref b532), (.ref b527), (.ref b573), (.ref b573)])) (fun _ kt => XS.aload X573.here hx rfl (hb hby at_179) rfl rfl kt) ?_
          refine Rch.of (T' := T573) (g' := (mkF m 183 #[.val (.int p0), .val (.int p1), .val (.int p2), .val (.int (0 : Int32)), .val (.int fEV), .val (.int fNC), .val (.ref b512), .val (.ref b518), .val (.ref b527), .val (.ref b532), .val (.ref b570), .unset, .unset, .unset] [(.ref b570), (.ref b532), (.ref b527), (.ref b573), (.ref b573)])) (fun _ kt => XS.aload X573.here hx rfl (hb hby at_181) rfl rfl kt) ?_
          obtain ⟨_, _, ⟨T577, L577, k577, n577⟩, -, X577, hT577, gr577, ⟨Lc577, hQ577, l577, y577, z577, cr577⟩, st577⟩ := X573.specialBackS hx (y := (⟨"com/example/ampliar/ampliar/command/Parameter", "<init>", "(Ljava/lang/String;Ljava/lang/String;[Ljava/lang/String;)V"⟩ : MethodName)) rfl hown (mvT hZ (hw _ (List.mem_of_getElem? (i := 51) rfl))) (mvT hZ (hw _ (List.mem_of_getElem? (i := 52) rfl))) (mvT hZ (hw _ (List.mem_of_getElem? (i := 53) rfl))) (by decide) (backOfSH (s := s) (vm0 := s.vm) (EL := consts_1) (W := 1) (rkP0 l Z a0 hw [] b573 b527 b532 b570 el .null .null .null h573 n0 (Nat.le_trans (Nat.le_trans (Nat.le_trans (Nat.le_trans (Nat.le_trans (Nat.le_trans Fb526 E527.1) K528.1) E532.1) K539.1) E570.1) E573.1) A573 F573_name F573_value F573_choices ge_b573 ((Ex539.ext E570).ext E573) (V570.ext E573) (((SL.ext Fb542.2).ext E570).ext E573) ne_b570_b573) hZ (hw _ (List.mem_of_getElem? (i := 53) rfl)) (hw _ (List.mem_of_getElem? (i := 50) rfl)) (by decide) (by decide) hEL Rb576.1) (g := (mkF m 183 #[.val (.int p0), .val (.int p1), .val (.int p2), .val (.int (0 : Int32)), .val (.int fEV), .val (.int fNC), .val (.ref b512), .val (.ref b518), .val (.ref b527), .val (.ref b532), .val (.ref b570), .unset, .unset, .unset] [(.ref b570), (.ref b532), (.ref b527), (.ref b573), (.ref b573)])) rfl (by rw [hml]; rfl) (Steps.refl _) (a := b573) (argsL := [(.ref b527), (.ref b532), (.ref b570)]) (rest := [(.ref b573)]) (lenOf pd_10 rfl) rfl (by show 2 * 0 + _ ≤ _; exact Nat.le_of_eq rfl) (hb hby at_183) (fun _ _ => ⟨rfl, e573, (by decide : 8 + 2 ≤ _), (by decide : 19 + 24 ≤ _)⟩)
          dsimp only [Pt.U, Pt.locs, Pt.cells, Pt.slots] at X577 hT577 gr577 l577 y577 z577 st577 hQ577 cr577
          subst l577 y577 z577
          obtain ⟨X577, hS577, hZ, hown⟩ := rebS hS0 (Nat.le_trans (Nat.le_trans (Nat.le_trans (Nat.le_trans (Nat.le_trans (Nat.le_trans Fb524 E527.1) K528.1) E532.1) K539.1) E570.1) E573.1) X577 hT577 (by rw [← e573]; exact gr577) hZ hown
          obtain ⟨rfl, N577q, hQ577⟩ := hQ577
          have N577 := Fr.app N539 N577q
          obtain ⟨K577, Ex577, Fa577, Fb577⟩ := hQ577
          refine Rch.via (T' := T577) (g' := (mkF m 186 #[.val (.int p0), .val (.int p1), .val (.int p2), .val (.int (0 : Int32)), .val (.int fEV), .val (.int fNC), .val (.ref b512), .val (.ref b518), .val (.ref b527), .val (.ref b532), .val (.ref b570), .unset, .unset, .unset] [(.ref b573)])) st577 ?_
          refine Rch.of (T' := T577) (g' := (mkF m 188 #[.val (.int p0), .val (.int p1), .val (.int p2), .val (.int (0 : Int32)), .val (.int fEV), .val (.int fNC), .val (.ref b512), .val (.ref b518), .val (.ref b527), .val (.ref b532), .val (.ref b570), .val (.ref b573), .unset, .unset] [])) (fun _ kt => XS.astore X577.here hx rfl (hb hby at_186) rfl rfl (l' := #[.val (.int p0), .val (.int p1), .val (.int p2), .val (.int (0 : Int32)), .val (.int fEV), .val (.int fNC), .val (.ref b512), .val (.ref b518), .val (.ref b527), .val (.ref b532), .val (.ref b570), .val (.ref b573), .unset, .unset]) rfl kt) ?_
          exact JV fEV fNC b512 b518 b527 b528 b532 b570 b573 y515 b539 2 y521 T577 _ _ _ _ (X577.mono (by decide) (by decide)) rfl N577 (Nat.le_trans (Nat.le_trans (Nat.le_trans (Nat.le_trans (Nat.le_trans (Nat.le_trans (Nat.le_trans Fb526 E527.1) K528.1) E532.1) K539.1) E570.1) E573.1) K577.1) hS577 (Nat.le_refl _) hZ hown (Rb576.trans cr577) (((Fb542.ext E570).ext E573).keep K577 (allS ge_b573 all0)) Ex577 Fa577 (((((Ex528.ext E532).keep K539).ext E570).ext E573).keep K577) (((((Fa528.ext E532).keep K539 (ninS ne_b527_b532 nin0)).ext E570).ext E573).keep K577 (ninS ne_b527_b573 nin0)) (((((Fb528.ext E532).keep K539 (ninS ne_b527_b532 nin0)).ext E570).ext E573).keep K577 (ninS ne_b527_b573 nin0)) (((((V528.ext E532).keep K539 (ninS ne_b528_b532 nin0)).ext E570).ext E573).keep K577 (ninS ne_b528_b573 nin0)) hch529 Fb577 (((Ex539.ext E570).ext E573).keep K577) (((Fa539.ext E570).ext E573).keep K577 (ninS ne_b532_b573 nin0)) (((Fb539.ext E570).ext E573).keep K577 (ninS ne_b532_b573 nin0)) (((V539.ext E570).ext E573).keep K577 (ninS ne_b539_b573 nin0)) hch540 (by decide)
        · skip
          refine Rch.of (T' := T570) (g' := (mkF m 163 #[.val (.int p0), .val (.int p1), .val (.int p2), .val (.int fLG), .val (.int fEV), .val (.int fNC), .val (.ref b512), .val (.ref b518), .val (.ref b527), .val (.ref b532), .val (.ref b570), .unset, .unset, .unset] [])) (fun _ kt => XS.ifNo X570.here hx rfl (hb hby at_160) rfl ((if0 _ _).trans (feq c571).1) kt) ?_
          have sw578 : fLG = (1 : Int32) := hb3.resolve_left c571
          rw [sw578]
          show Rch p e below K T570 (mkF m 163 #[.val (.int p0), .val (.int p1), .val (.int p2), .val (.int (1 : Int32)), .val (.int fEV), .val (.int fNC), .val (.ref b512), .val (.ref b518), .val (.ref b527), .val (.ref b532), .val (.ref b570), .unset, .unset, .unset] [])
          refine Rch.of (T' := T570) (g' := (mkF m 165 #[.val (.int p0), .val (.int p1), .val (.int p2), .val (.int (1 : Int32)), .val (.int fEV), .val (.int fNC), .val (.ref b512), .val (.ref b518), .val (.ref b527), .val (.ref b532), .val (.ref b570), .unset, .unset, .unset] [(.ref b527)])) (fun _ kt => XS.aload X570.here hx rfl (hb hby at_163) rfl rfl kt) ?_
          refine Rch.of (T' := T570) (g' := (mkF m 167 #[.val (.int p0), .val (.int p1), .val (.int p2), .val (.int (1 : Int32)), .val (.int fEV), .val (.int fNC), .val (.ref b512), .val (.ref b518), .val (.ref b527), .val (.ref b532), .val (.ref b570), .unset, .unset, .unset] [(.ref b570), (.ref b527)])) (fun _ kt => XS.aload X570.here hx rfl (hb hby at_165) rfl rfl kt) ?_
          obtain ⟨_, _, ⟨T579, L579, k579, n579⟩, -, X579, ⟨Lc579, hQ579, l579, y579, z579⟩, st579⟩ := Jvm.LawKit.callS X570 hx (y := (⟨"com/example/ampliar/ampliar/command/Parameter", "flag", "(Ljava/lang/String;[Ljava/lang/String;)Lcom/example/ampliar/ampliar/command/Parameter;"⟩ : MethodName)) hown (mvT hZ (hw _ (List.mem_of_getElem? (i := 252) rfl))) (mvT hZ (hw _ (List.mem_of_getElem? (i := 253) rfl))) (mvT hZ (hw _ (List.mem_of_getElem? (i := 50) rfl))) (mvT hZ (hw _ (List.mem_of_getElem? (i := 254) rfl))) (by decide) (backOf (W := 0) (rkF0 l Z a0 hw [] b527 b570 el h570 n0 (Nat.le_trans (Nat.le_trans (Nat.le_trans (Nat.le_trans (Nat.le_trans Fb526 E527.1) K528.1) E532.1) K539.1) E570.1) V570 ((SL.ext Fb542.2).ext E570) ((((((((((((E9.ext O0.2).ext E512).wr W513).wr W515).ext E518).wr W519).wr W521).ext E527).keep K528).ext E532).keep K539).ext E570) (((((Fb525.ext E527).keep K528 (ninS ne_el_b527 nin0)).ext E532).keep K539 (ninS ne_el_b532 nin0)).ext E570)) hZ (hw _ (List.mem_of_getElem? (i := 254) rfl)) (hw _ (List.mem_of_getElem? (i := 50) rfl)) (by decide) (by decide)) (g := (mkF m 167 #[.val (.int p0), .val (.int p1), .val (.int p2), .val (.int (1 : Int32)), .val (.int fEV), .val (.int fNC), .val (.ref b512), .val (.ref b518), .val (.ref b527), .val (.ref b532), .val (.ref b570), .unset, .unset, .unset] [(.ref b570), (.ref b527)])) rfl (by rw [hml]; rfl) (argsL := [(.ref b527), (.ref b570)]) (rest := []) (lenOf pd_35 rfl) rfl (by show 2 * 0 + _ ≤ _; exact Nat.le_of_eq rfl) (hb hby at_167) (fun _ _ => ⟨rfl, e570, (by decide : 7 + 1 ≤ _), (by decide : 16 + 3 ≤ _)⟩)
          dsimp only [Pt.U, Pt.locs, Pt.cells, Pt.slots] at X579 l579 y579 z579 st579 hQ579
          subst l579 y579 z579
          obtain ⟨rfl, N579q, hQ579⟩ := hQ579
          have N579 := Fr.app N539 N579q
          obtain ⟨K579, Ex579, Fa579, Fb579⟩ := hQ579
          obtain ⟨b579, g579⟩ : ∃ zz_, zz_ = h570.size := ⟨_, rfl⟩
          have ne_el_b579 : el ≠ b579 := Nat.ne_of_lt (Nat.lt_of_lt_of_le ((((((((((((E9.ext O0.2).ext E512).wr W513).wr W515).ext E518).wr W519).wr W521).ext E527).keep K528).ext E532).keep K539).ext E570).lt (Nat.le_of_eq g579.symm))
          have ne_b512_b579 : b512 ≠ b579 := Nat.ne_of_lt (Nat.lt_of_lt_of_le ((((((((((Q512.wr W513).wr W515).ext E518).wr W519).wr W521).ext E527).keep K528).ext E532).keep K539).ext E570).lt (Nat.le_of_eq g579.symm))
          have ne_b518_b579 : b518 ≠ b579 := Nat.ne_of_lt (Nat.lt_of_lt_of_le (((((((Q518.wr W519).wr W521).ext E527).keep K528).ext E532).keep K539).ext E570).lt (Nat.le_of_eq g579.symm))
          have ne_b527_b579 : b527 ≠ b579 := Nat.ne_of_lt (Nat.lt_of_lt_of_le (((Ex528.ext E532).keep K539).ext E570).lt (Nat.le_of_eq g579.symm))
          have ne_b528_b579 : b528 ≠ b579 := Nat.ne_of_lt (Nat.lt_of_lt_of_le (((V528.ext E532).keep K539 (ninS ne_b528_b532 nin0)).ext E570).lt (Nat.le_of_eq g579.symm))
          have ne_b532_b579 : b532 ≠ b579 := Nat.ne_of_lt (Nat.lt_of_lt_of_le (Ex539.ext E570).lt (Nat.le_of_eq g579.symm))
          have ne_b539_b579 : b539 ≠ b579 := Nat.ne_of_lt (Nat.lt_of_lt_of_le (V539.ext E570).lt (Nat.le_of_eq g579.symm))
          have ne_b570_b579 : b570 ≠ b579 := Nat.ne_of_lt (Nat.lt_of_lt_of_le Q570.lt (Nat.le_of_eq g579.symm))
          have ge_b579 : n0 ≤ b579 := Nat.le_trans (Nat.le_trans (Nat.le_trans (Nat.le_trans (Nat.le_trans (Nat.le_trans Fb526 E527.1) K528.1) E532.1) K539.1) E570.1) (Nat.le_of_eq g579.symm)
          rw [← g579] at Ex579 Fa579 Fb579 st579
          have Fb580 := (Safe.keep K579 all0 ((Rb534.trans (CHr.keep K539 (allS Sf541 all0) Rb534.1)).trans (CHr.ext E570 (Rb534.trans (CHr.keep K539 (allS Sf541 all0) Rb534.1)).1)).1 (Safe.ext E570 (Rb534.trans (CHr.keep K539 (allS Sf541 all0) Rb534.1)).1 (Safe.keep K539 (allS Sf541 all0) Rb534.1 Fb533)))
          have Fb581 := (Safe.keep K579 all0 ((Rb534.trans (CHr.keep K539 (allS Sf541 all0) Rb534.1)).trans (CHr.ext E570 (Rb534.trans (CHr.keep K539 (allS Sf541 all0) Rb534.1)).1)).1 (Safe.ext E570 (Rb534.trans (CHr.keep K539 (allS Sf541 all0) Rb534.1)).1 (Safe.keep K539 (allS Sf541 all0) Rb534.1 Sf541)))
          have Rb582 := (((Rb534.trans (CHr.keep K539 (allS Sf541 all0) Rb534.1)).trans (CHr.ext E570 (Rb534.trans (CHr.keep K539 (allS Sf541 all0) Rb534.1)).1)).trans (CHr.keep K579 all0 ((Rb534.trans (CHr.keep K539 (allS Sf541 all0) Rb534.1)).trans (CHr.ext E570 (Rb534.trans (CHr.keep K539 (allS Sf541 all0) Rb534.1)).1)).1))
          refine Rch.of (T' := T579) (g' := (mkF m 170 #[.val (.int p0), .val (.int p1), .val (.int p2), .val (.int (1 : Int32)), .val (.int fEV), .val (.int fNC), .val (.ref b512), .val (.ref b518), .val (.ref b527), .val (.ref b532), .val (.ref b570), .unset, .unset, .unset] [(.ref b579)])) st579 ?_
          refine Rch.of (T' := T579) (g' := (mkF m 186 #[.val (.int p0), .val (.int p1), .val (.int p2), .val (.int (1 : Int32)), .val (.int fEV), .val (.int fNC), .val (.ref b512), .val (.ref b518), .val (.ref b527), .val (.ref b532), .val (.ref b570), .unset, .unset, .unset] [(.ref b579)])) (fun _ kt => XS.goto X579.here hx rfl (pc0 := 170) (pc' := 186) rfl (hb hby at_170) (by decide) (by decide) kt) ?_
          refine Rch.of (T' := T579) (g' := (mkF m 188 #[.val (.int p0), .val (.int p1), .val (.int p2), .val (.int (1 : Int32)), .val (.int fEV), .val (.int fNC), .val (.ref b512), .val (.ref b518), .val (.ref b527), .val (.ref b532), .val (.ref b570), .val (.ref b579), .unset, .unset] [])) (fun _ kt => XS.astore X579.here hx rfl (hb hby at_186) rfl rfl (l' := #[.val (.int p0), .val (.int p1), .val (.int p2), .val (.int (1 : Int32)), .val (.int fEV), .val (.int fNC), .val (.ref b512), .val (.ref b518), .val (.ref b527), .val (.ref b532), .val (.ref b570), .val (.ref b579), .unset, .unset]) rfl kt) ?_
          exact JF fEV fNC b512 b518 b527 b528 b532 b570 b579 y515 T579 _ _ _ _ (X579.mono (by decide) (by decide)) rfl N579 (Nat.le_trans (Nat.le_trans (Nat.le_trans (Nat.le_trans (Nat.le_trans (Nat.le_trans Fb526 E527.1) K528.1) E532.1) K539.1) E570.1) K579.1) hS0 (Nat.le_trans (Nat.le_trans (Nat.le_trans (Nat.le_trans (Nat.le_trans (Nat.le_trans Fb524 E527.1) K528.1) E532.1) K539.1) E570.1) K579.1) hZ hown Rb582 ((Fb542.ext E570).keep K579 all0) Ex579 Fa579 ((((Ex528.ext E532).keep K539).ext E570).keep K579) ((((Fa528.ext E532).keep K539 (ninS ne_b527_b532 nin0)).ext E570).keep K579 nin0) ((((Fb528.ext E532).keep K539 (ninS ne_b527_b532 nin0)).ext E570).keep K579 nin0) ((((V528.ext E532).keep K539 (ninS ne_b528_b532 nin0)).ext E570).keep K579 nin0) hch529 Fb579
    · skip
      refine Rch.of (T' := T528) (g' := (mkF m 110 #[.val (.int p0), .val (.int p1), .val (.int p2), .val (.int fLG), .val (.int fEV), .val (.int fNC), .val (.ref b512), .val (.ref b518), .val (.ref b527), .unset, .unset, .unset, .unset, .unset] [])) (fun _ kt => XS.ifNo X528.here hx rfl (hb hby at_107) rfl ((if0 _ _).trans (feq c531).1) kt) ?_
      obtain ⟨s583, T583, h583, k583, sb583, kc583, X583, e583, E583, hS583, hk583, hZ, hown, Ex583, Fa583, Fb583, Ar583, la583, lb583, cr583, Lt583, sf583, st583⟩ := ldcCH (s := s) (vm0 := s.vm) X528 hx hZ hown (hw _ (List.mem_of_getElem? (i := 30) rfl)) wS rfl hS0 (Nat.le_trans (Nat.le_trans Fb524 E527.1) K528.1) hEL (List.mem_of_getElem? (i := 5) rfl) ((Rb523.trans (CHr.ext E527 Rb523.1)).trans (CHr.keep K528 (allS Sf530 all0) (Rb523.trans (CHr.ext E527 Rb523.1)).1)).1 (z := (0 : Int32)) own_t2_ok.1 (by decide) (by decide) (g := (mkF m 110 #[.val (.int p0), .val (.int p1), .val (.int p2), .val (.int fLG), .val (.int fEV), .val (.int fNC), .val (.ref b512), .val (.ref b518), .val (.ref b527), .unset, .unset, .unset, .unset, .unset] [])) rfl (hb hby at_110) (n := 0) (by decide) (by decide) (by decide) (by decide)
      have Fb584 := ((S1.ext ((((((((O0.ext E512).wr W513 ge_b512).wr W515 ge_b512).ext E518).wr W519 ge_b518).wr W521 ge_b518).ext E527).keep K528 (allS ge_b527 all0)).2).ext E583)
      have Fb585 := ((SI0.ext ((((((((O0.ext E512).wr W513 ge_b512).wr W515 ge_b512).ext E518).wr W519 ge_b518).wr W521 ge_b518).ext E527).keep K528 (allS ge_b527 all0)).2).ext E583)
      have Fb586 := ((SE.ext ((((((((O0.ext E512).wr W513 ge_b512).wr W515 ge_b512).ext E518).wr W519 ge_b518).wr W521 ge_b518).ext E527).keep K528 (allS ge_b527 all0)).2).ext E583)
      have Fb587 := ((SL.ext ((((((((O0.ext E512).wr W513 ge_b512).wr W515 ge_b512).ext E518).wr W519 ge_b518).wr W521 ge_b518).ext E527).keep K528 (allS ge_b527 all0)).2).ext E583)
      have V583 : Av Z h583 sb583 .byte 0 (fun q => .int ((own_t2 q).toInt8.toInt32)) := (Arv.av Ar583 (by decide)).congr own_t2_ok.2
      have nl_b527_583 := sf583 b527 (CHr.safe cr583 Ex528.lt (Safe.keep K528 (allS Sf530 all0) (Rb523.trans (CHr.ext E527 Rb523.1)).1 Sf530))
      refine Rch.of (T' := T583) (g' := (mkF m 112 #[.val (.int p0), .val (.int p1), .val (.int p2), .val (.int fLG), .val (.int fEV), .val (.int fNC), .val (.ref b512), .val (.ref b518), .val (.ref b527), .unset, .unset, .unset, .unset, .unset] [(.ref s583)])) st583 ?_
      refine Rch.of (T' := T583) (g' := (mkF m 124 #[.val (.int p0), .val (.int p1), .val (.int p2), .val (.int fLG), .val (.int fEV), .val (.int fNC), .val (.ref b512), .val (.ref b518), .val (.ref b527), .unset, .unset, .unset, .unset, .unset] [(.ref s583)])) (fun _ kt => XS.goto X583.here hx rfl (pc0 := 112) (pc' := 124) rfl (hb hby at_112) (by decide) (by decide) kt) ?_
      refine Rch.of (T' := T583) (g' := (mkF m 126 #[.val (.int p0), .val (.int p1), .val (.int p2), .val (.int fLG), .val (.int fEV), .val (.int fNC), .val (.ref b512), .val (.ref b518), .val (.ref b527), .val (.ref s583), .unset, .unset, .unset, .unset] [])) (fun _ kt => XS.astore X583.here hx rfl (hb hby at_124) rfl rfl (l' := #[.val (.int p0), .val (.int p1), .val (.int p2), .val (.int fLG), .val (.int fEV), .val (.int fNC), .val (.ref b512), .val (.ref b518), .val (.ref b527), .val (.ref s583), .unset, .unset, .unset, .unset]) rfl kt) ?_
      refine Rch.of (T' := T583) (g' := (mkF m 128 #[.val (.int p0), .val (.int p1), .val (.int p2), .val (.int fLG), .val (.int fEV), .val (.int fNC), .val (.ref b512), .val (.ref b518), .val (.ref b527), .val (.ref s583), .unset, .unset, .unset, .unset] [(.int fNC)])) (fun _ kt => XS.iload X583.here hx rfl (hb hby at_126) rfl  kt) ?_
      by_cases c588 : fNC = (0 : Int32)
      · skip
        refine Rch.of (T' := T583) (g' := (mkF m 138 #[.val (.int p0), .val (.int p1), .val (.int p2), .val (.int fLG), .val (.int fEV), .val (.int fNC), .val (.ref b512), .val (.ref b518), .val (.ref b527), .val (.ref s583), .unset, .unset, .unset, .unset] [])) (fun _ kt => XS.ifYes X583.here hx rfl (pc0 := 128) (pc' := 138) rfl (hb hby at_128) rfl ((if0 _ _).trans (teq c588).1) (by decide) (by decide) kt) ?_
        refine Rch.of (T' := T583) (g' := (mkF m 139 #[.val (.int p0), .val (.int p1), .val (.int p2), .val (.int fLG), .val (.int fEV), .val (.int fNC), .val (.ref b512), .val (.ref b518), .val (.ref b527), .val (.ref s583), .unset, .unset, .unset, .unset] [(.int (1 : Int32))])) (fun _ kt => XS.iconst X583.here hx rfl (hb hby at_138) kt) ?_
        obtain ⟨T589, h589, k589, X589, e589, E589, A589, Q589, O589, st589⟩ := newRE X583 hx hZ hown (hw _ (List.mem_of_getElem? (i := 1) rfl)) (hw _ (List.mem_of_getElem? (i := 33) rfl)) e583 (g := (mkF m 139 #[.val (.int p0), .val (.int p1), .val (.int p2), .val (.int fLG), .val (.int fEV), .val (.int fNC), .val (.ref b512), .val (.ref b518), .val (.ref b527), .val (.ref s583), .unset, .unset, .unset, .unset] [(.int (1 : Int32))])) rfl (hb hby at_139) rfl (oNn (i := 1) (by decide)) (cap := 1) (by decide) (by decide) (by decide) (by decide) (ad := "[Ljava/lang/String;") rfl
        obtain ⟨b589, g589⟩ : ∃ zz_, zz_ = h583.size := ⟨_, rfl⟩
        have ne_el_b589 : el ≠ b589 := Nat.ne_of_lt (Nat.lt_of_lt_of_le ((((((((((E9.ext O0.2).ext E512).wr W513).wr W515).ext E518).wr W519).wr W521).ext E527).keep K528).ext E583).lt (Nat.le_of_eq g589.symm))
        have ne_b512_b589 : b512 ≠ b589 := Nat.ne_of_lt (Nat.lt_of_lt_of_le ((((((((Q512.wr W513).wr W515).ext E518).wr W519).wr W521).ext E527).keep K528).ext E583).lt (Nat.le_of_eq g589.symm))
        have ne_b518_b589 : b518 ≠ b589 := Nat.ne_of_lt (Nat.lt_of_lt_of_le (((((Q518.wr W519).wr W521).ext E527).keep K528).ext E583).lt (Nat.le_of_eq g589.symm))
        have ne_b527_b589 : b527 ≠ b589 := Nat.ne_of_lt (Nat.lt_of_lt_of_le (Ex528.ext E583).lt (Nat.le_of_eq g589.symm))
        have ne_b528_b589 : b528 ≠ b589 := Nat.ne_of_lt (Nat.lt_of_lt_of_le (V528.ext E583).lt (Nat.le_of_eq g589.symm))
        have ne_s583_b589 : s583 ≠ b589 := Nat.ne_of_lt (Nat.lt_of_lt_of_le Ex583.lt (Nat.le_of_eq g589.symm))
        have ne_sb583_b589 : sb583 ≠ b589 := Nat.ne_of_lt (Nat.lt_of_lt_of_le V583.lt (Nat.le_of_eq g589.symm))
        have ge_b589 : n0 ≤ b589 := Nat.le_trans (Nat.le_trans (Nat.le_trans (Nat.le_trans Fb526 E527.1) K528.1) E583.1) (Nat.le_of_eq g589.symm)
        rw [← g589] at A589 Q589 st589
        have Fb590 := (Safe.ext E589 (((Rb523.trans (CHr.ext E527 Rb523.1)).trans (CHr.keep K528 (allS Sf530 all0) (Rb523.trans (CHr.ext E527 Rb523.1)).1)).trans cr583).1 (CHr.safe cr583 Ex528.lt (Safe.keep K528 (allS Sf530 all0) (Rb523.trans (CHr.ext E527 Rb523.1)).1 Sf530)))
        have Rb591 := ((((Rb523.trans (CHr.ext E527 Rb523.1)).trans (CHr.keep K528 (allS Sf530 all0) (Rb523.trans (CHr.ext E527 Rb523.1)).1)).trans cr583).trans (CHr.ext E589 (((Rb523.trans (CHr.ext E527 Rb523.1)).trans (CHr.keep K528 (allS Sf530 all0) (Rb523.trans (CHr.ext E527 Rb523.1)).1)).trans cr583).1))
        have Fb592 := ((((((((((O0.ext E512).wr W513 ge_b512).wr W515 ge_b512).ext E518).wr W519 ge_b518).wr W521 ge_b518).ext E527).keep K528 (allS ge_b527 all0)).ext E583).ext E589)
        have V589 : Av Z h589 b589 (.object "java/lang/String") 1 (fun _ => .null) := Av.new A589 (by decide)
        have Ov589 : OvA Z h589 b589 "java/lang/String" := ⟨_, A589.1, O589⟩
        refine Rch.of (T' := T589) (g' := (mkF m 142 #[.val (.int p0), .val (.int p1), .val (.int p2), .val (.int fLG), .val (.int fEV), .val (.int fNC), .val (.ref b512), .val (.ref b518), .val (.ref b527), .val (.ref s583), .unset, .unset, .unset, .unset] [(.ref b589)])) st589 ?_
        refine Rch.of (T' := T589) (g' := (mkF m 143 #[.val (.int p0), .val (.int p1), .val (.int p2), .val (.int fLG), .val (.int fEV), .val (.int fNC), .val (.ref b512), .val (.ref b518), .val (.ref b527), .val (.ref s583), .unset, .unset, .unset, .unset] [(.ref b589), (.ref b589)])) (fun _ kt => XS.dup X589.here hx rfl (hb hby at_142) rfl rfl kt) ?_
        refine Rch.of (T' := T589) (g' := (mkF m 144 #[.val (.int p0), .val (.int p1), .val (.int p2), .val (.int fLG), .val (.int fEV), .val (.int fNC), .val (.ref b512), .val (.ref b518), .val (.ref b527), .val (.ref s583), .unset, .unset, .unset, .unset] [(.int (0 : Int32)), (.ref b589), (.ref b589)])) (fun _ kt => XS.iconst X589.here hx rfl (hb hby at_143) kt) ?_
        refine Rch.of (T' := T589) (g' := (mkF m 145 #[.val (.int p0), .val (.int p1), .val (.int p2), .val (.int fLG), .val (.int fEV), .val (.int fNC), .val (.ref b512), .val (.ref b518), .val (.ref b527), .val (.ref s583), .unset, .unset, .unset, .unset] [(.int p0), (.int (0 : Int32)), (.ref b589), (.ref b589)])) (fun _ kt => XS.iloadN X589.here hx rfl (hb hby at_144) rfl  kt) ?_
        refine Rch.of (T' := T589) (g' := (mkF m 147 #[.val (.int p0), .val (.int p1), .val (.int p2), .val (.int fLG), .val (.int fEV), .val (.int fNC), .val (.ref b512), .val (.ref b518), .val (.ref b527), .val (.ref s583), .unset, .unset, .unset, .unset] [(.int (16 : Int32)), (.int p0), (.int (0 : Int32)), (.ref b589), (.ref b589)])) (fun _ kt => XS.bipush X589.here hx rfl (hb hby at_145) kt) ?_
        refine Rch.of (T' := T589) (g' := (mkF m 148 #[.val (.int p0), .val (.int p1), .val (.int p2), .val (.int fLG), .val (.int fEV), .val (.int fNC), .val (.ref b512), .val (.ref b518), .val (.ref b527), .val (.ref s583), .unset, .unset, .unset, .unset] [(.int ((p0.toUInt32 >>> ((16 : Int32) &&& 31).toUInt32).toInt32)), (.int (0 : Int32)), (.ref b589), (.ref b589)])) (fun _ kt => XS.iushr X589.here hx rfl (hb hby at_147) rfl kt) ?_
        refine Rch.of (T' := T589) (g' := (mkF m 151 #[.val (.int p0), .val (.int p1), .val (.int p2), .val (.int fLG), .val (.int fEV), .val (.int fNC), .val (.ref b512), .val (.ref b518), .val (.ref b527), .val (.ref s583), .unset, .unset, .unset, .unset] [(.int (255 : Int32)), (.int ((p0.toUInt32 >>> ((16 : Int32) &&& 31).toUInt32).toInt32)), (.int (0 : Int32)), (.ref b589), (.ref b589)])) (fun _ kt => XS.sipush X589.here hx rfl (hb hby at_148) kt) ?_
        refine Rch.of (T' := T589) (g' := (mkF m 152 #[.val (.int p0), .val (.int p1), .val (.int p2), .val (.int fLG), .val (.int fEV), .val (.int fNC), .val (.ref b512), .val (.ref b518), .val (.ref b527), .val (.ref s583), .unset, .unset, .unset, .unset] [(.int (((p0.toUInt32 >>> ((16 : Int32) &&& 31).toUInt32).toInt32) &&& (255 : Int32))), (.int (0 : Int32)), (.ref b589), (.ref b589)])) (fun _ kt => XS.iand X589.here hx rfl (hb hby at_151) rfl kt) ?_
        refine Rch.of (T' := T589) (g' := (mkF m 153 #[.val (.int p0), .val (.int p1), .val (.int p2), .val (.int fLG), .val (.int fEV), .val (.int fNC), .val (.ref b512), .val (.ref b518), .val (.ref b527), .val (.ref s583), .unset, .unset, .unset, .unset] [(.int ((((p0.toUInt32 >>> ((16 : Int32) &&& 31).toUInt32).toInt32) &&& (255 : Int32)).toUInt32.toUInt16.toUInt32.toInt32)), (.int (0 : Int32)), (.ref b589), (.ref b589)])) (fun _ kt => XS.i2c X589.here hx rfl (hb hby at_152) rfl kt) ?_
        obtain ⟨_, _, ⟨T593, L593, k593, n593⟩, -, X593, ⟨Lc593, hQ593, l593, y593, z593⟩, st593⟩ := Jvm.LawKit.callS X589 hx (y := (⟨"java/lang/String", "valueOf", "(C)Ljava/lang/String;"⟩ : MethodName)) hown (mvT hZ (hw _ (List.mem_of_getElem? (i := 34) rfl))) (mvT hZ (hw _ (List.mem_of_getElem? (i := 35) rfl))) (mvT hZ (hw _ (List.mem_of_getElem? (i := 3) rfl))) (mvT hZ (hw _ (List.mem_of_getElem? (i := 36) rfl))) (by decide) (backOf (W := 3) (rmVO l Z a0 hw [] ((((p0.toUInt32 >>> ((16 : Int32) &&& 31).toUInt32).toInt32) &&& (255 : Int32)).toUInt32.toUInt16.toUInt32.toInt32) cs h589 n0 (Nat.le_trans (Nat.le_trans (Nat.le_trans (Nat.le_trans Fb526 E527.1) K528.1) E583.1) E589.1) (Fb584.ext E589) hcs (own_lat _)) hZ (hw _ (List.mem_of_getElem? (i := 36) rfl)) (hw _ (List.mem_of_getElem? (i := 3) rfl)) (by decide) (by decide)) (g := (mkF m 153 #[.val (.int p0), .val (.int p1), .val (.int p2), .val (.int fLG), .val (.int fEV), .val (.int fNC), .val (.ref b512), .val (.ref b518), .val (.ref b527), .val (.ref s583), .unset, .unset, .unset, .unset] [(.int ((((p0.toUInt32 >>> ((16 : Int32) &&& 31).toUInt32).toInt32) &&& (255 : Int32)).toUInt32.toUInt16.toUInt32.toInt32)), (.int (0 : Int32)), (.ref b589), (.ref b589)])) rfl (by rw [hml]; rfl) (argsL := [(.int ((((p0.toUInt32 >>> ((16 : Int32) &&& 31).toUInt32).toInt32) &&& (255 : Int32)).toUInt32.toUInt16.toUInt32.toInt32))]) (rest := [(.int (0 : Int32)), (.ref b589), (.ref b589)]) (lenOf pd_6 rfl) rfl (by show 2 * 0 + _ ≤ _; exact Nat.le_of_eq rfl) (hb hby at_153) (fun _ _ => ⟨rfl, e589, (by decide : 7 + 2 ≤ _), (by decide : 15 + 5 ≤ _)⟩)
        dsimp only [Pt.U, Pt.locs, Pt.cells, Pt.slots] at X593 l593 y593 z593 st593 hQ593
        subst l593 y593 z593
        obtain ⟨rfl, N593q, hQ593⟩ := hQ593
        have N593 := Fr.app N528 N593q
        obtain ⟨K593, Ex593, Fa593, v593, zv593, nv593, Fb593, V593⟩ := hQ593
        obtain ⟨b593, g593⟩ : ∃ zz_, zz_ = h589.size := ⟨_, rfl⟩
        have ne_el_b593 : el ≠ b593 := Nat.ne_of_lt (Nat.lt_of_lt_of_le (((((((((((E9.ext O0.2).ext E512).wr W513).wr W515).ext E518).wr W519).wr W521).ext E527).keep K528).ext E583).ext E589).lt (Nat.le_of_eq g593.symm))
        have ne_b512_b593 : b512 ≠ b593 := Nat.ne_of_lt (Nat.lt_of_lt_of_le (((((((((Q512.wr W513).wr W515).ext E518).wr W519).wr W521).ext E527).keep K528).ext E583).ext E589).lt (Nat.le_of_eq g593.symm))
        have ne_b518_b593 : b518 ≠ b593 := Nat.ne_of_lt (Nat.lt_of_lt_of_le ((((((Q518.wr W519).wr W521).ext E527).keep K528).ext E583).ext E589).lt (Nat.le_of_eq g593.symm))
        have ne_b527_b593 : b527 ≠ b593 := Nat.ne_of_lt (Nat.lt_of_lt_of_le ((Ex528.ext E583).ext E589).lt (Nat.le_of_eq g593.symm))
        have ne_b528_b593 : b528 ≠ b593 := Nat.ne_of_lt (Nat.lt_of_lt_of_le ((V528.ext E583).ext E589).lt (Nat.le_of_eq g593.symm))
        have ne_s583_b593 : s583 ≠ b593 := Nat.ne_of_lt (Nat.lt_of_lt_of_le (Ex583.ext E589).lt (Nat.le_of_eq g593.symm))
        have ne_sb583_b593 : sb583 ≠ b593 := Nat.ne_of_lt (Nat.lt_of_lt_of_le (V583.ext E589).lt (Nat.le_of_eq g593.symm))
        have ne_b589_b593 : b589 ≠ b593 := Nat.ne_of_lt (Nat.lt_of_lt_of_le Q589.lt (Nat.le_of_eq g593.symm))
        have ge_b593 : n0 ≤ b593 := Nat.le_trans (Nat.le_trans (Nat.le_trans (Nat.le_trans (Nat.le_trans Fb526 E527.1) K528.1) E583.1) E589.1) (Nat.le_of_eq g593.symm)
        rw [← g593] at Ex593 Fa593 nv593 Fb593 st593
        have ne_el_v593 : el ≠ v593 := Nat.ne_of_lt (Nat.lt_of_lt_of_le (((((((((((E9.ext O0.2).ext E512).wr W513).wr W515).ext E518).wr W519).wr W521).ext E527).keep K528).ext E583).ext E589).lt zv593)
        have ne_b512_v593 : b512 ≠ v593 := Nat.ne_of_lt (Nat.lt_of_lt_of_le (((((((((Q512.wr W513).wr W515).ext E518).wr W519).wr W521).ext E527).keep K528).ext E583).ext E589).lt zv593)
        have ne_b518_v593 : b518 ≠ v593 := Nat.ne_of_lt (Nat.lt_of_lt_of_le ((((((Q518.wr W519).wr W521).ext E527).keep K528).ext E583).ext E589).lt zv593)
        have ne_b527_v593 : b527 ≠ v593 := Nat.ne_of_lt (Nat.lt_of_lt_of_le ((Ex528.ext E583).ext E589).lt zv593)
        have ne_b528_v593 : b528 ≠ v593 := Nat.ne_of_lt (Nat.lt_of_lt_of_le ((V528.ext E583).ext E589).lt zv593)
        have ne_s583_v593 : s583 ≠ v593 := Nat.ne_of_lt (Nat.lt_of_lt_of_le (Ex583.ext E589).lt zv593)
        have ne_sb583_v593 : sb583 ≠ v593 := Nat.ne_of_lt (Nat.lt_of_lt_of_le (V583.ext E589).lt zv593)
        have ne_b589_v593 : b589 ≠ v593 := Nat.ne_of_lt (Nat.lt_of_lt_of_le Q589.lt zv593)
        have ge_v593 : n0 ≤ v593 := Nat.le_trans (Nat.le_trans (Nat.le_trans (Nat.le_trans (Nat.le_trans Fb526 E527.1) K528.1) E583.1) E589.1) zv593
        refine Rch.of (T' := T593) (g' := (mkF m 156 #[.val (.int p0), .val (.int p1), .val (.int p2), .val (.int fLG), .val (.int fEV), .val (.int fNC), .val (.ref b512), .val (.ref b518), .val (.ref b527), .val (.ref s583), .unset, .unset, .unset, .unset] [(.ref b593), (.int (0 : Int32)), (.ref b589), (.ref b589)])) st593 ?_
        obtain ⟨cl594, Ar594, Sz594, Ha594⟩ := id (V589.keep K593 nin0)
        have ov594 := OvA.at (Ov589.keep K593) Ar594
        obtain ⟨T594, h594, X594, e594, W594, st594⟩ := stR X593 hx hZ rfl Ar594 (j := (0 : Int32)) (oIn (i := 0) Sz594 (by decide) (by decide)) rfl (Sto.of Ar594 ov594 (Ins.of_exa Ex593 (hw _ (List.mem_of_getElem? (i := 9) rfl)))) (g := (mkF m 156 #[.val (.int p0), .val (.int p1), .val (.int p2), .val (.int fLG), .val (.int fEV), .val (.int fNC), .val (.ref b512), .val (.ref b518), .val (.ref b527), .val (.ref s583), .unset, .unset, .unset, .unset] [(.ref b593), (.int (0 : Int32)), (.ref b589), (.ref b589)])) rfl rfl (hb hby at_156)
        have V594 := Av.set (i := 0) (V589.keep K593 nin0) (by decide) (by decide) W594
        have N594 := Fr.snoc X594 N593 ge_b589
        have Sf595 : Safe Z consts_1 T583.vm T593.heap b589 := (Safe.exa hZ.alike (Q589.keep K593) (by decide) (by decide))
        have Fb596 := (((((((((V515.ext E518).other W519 ne_b512_b518).other W521 ne_b512_b518).ext E527).keep K528 (ninS ne_b512_b527 nin0)).ext E583).ext E589).keep K593 nin0).other W594 ne_b512_b589)
        refine Rch.of (T' := T594) (g' := (mkF m 157 #[.val (.int p0), .val (.int p1), .val (.int p2), .val (.int fLG), .val (.int fEV), .val (.int fNC), .val (.ref b512), .val (.ref b518), .val (.ref b527), .val (.ref s583), .unset, .unset, .unset, .unset] [(.ref b589)])) st594 ?_
        have Vc594 : Av Z h594 b589 (.object "java/lang/String") 1 (fun _ => Value.ref b593) := Av.congr V594 (fun j hj => if_pos (Nat.lt_one_iff.mp hj))
        refine Rch.of (T' := T594) (g' := (mkF m 159 #[.val (.int p0), .val (.int p1), .val (.int p2), .val (.int fLG), .val (.int fEV), .val (.int fNC), .val (.ref b512), .val (.ref b518), .val (.ref b527), .val (.ref s583), .val (.ref b589), .unset, .unset, .unset] [])) (fun _ kt => XS.astore X594.here hx rfl (hb hby at_157) rfl rfl (l' := #[.val (.int p0), .val (.int p1), .val (.int p2), .val (.int fLG), .val (.int fEV), .val (.int fNC), .val (.ref b512), .val (.ref b518), .val (.ref b527), .val (.ref s583), .val (.ref b589), .unset, .unset, .unset]) rfl kt) ?_
        refine Rch.of (T' := T594) (g' := (mkF m 160 #[.val (.int p0), .val (.int p1), .val (.int p2), .val (.int fLG), .val (.int fEV), .val (.int fNC), .val (.ref b512), .val (.ref b518), .val (.ref b527), .val (.ref s583), .val (.ref b589), .unset, .unset, .unset] [(.int fLG)])) (fun _ kt => XS.iloadN X594.here hx rfl (hb hby at_159) rfl  kt) ?_
        by_cases c597 : fLG = (0 : Int32)
        · skip
          refine Rch.of (T' := T594) (g' := (mkF m 173 #[.val (.int p0), .val (.int p1), .val (.int p2), .val (.int fLG), .val (.int fEV), .val (.int fNC), .val (.ref b512), .val (.ref b518), .val (.ref b527), .val (.ref s583), .val (.ref b589), .unset, .unset, .unset] [])) (fun _ kt => XS.ifYes X594.here hx rfl (pc0 := 160) (pc' := 173) rfl (hb hby at_160) rfl ((if0 _ _).trans (teq c597).1) (by decide) (by decide) kt) ?_
          have sw598 : fLG = (0 : Int32) := c597
          rw [sw598]
          show Rch p e below K T594 (mkF m 173 #[.val (.int p0), .val (.int p1), .val (.int p2), .val (.int (0 : Int32)), .val (.int fEV), .val (.int fNC), .val (.ref b512), .val (.ref b518), .val (.ref b527), .val (.ref s583), .val (.ref b589), .unset, .unset, .unset] [])
          obtain ⟨T599, h599, X599, e599, E599, A599, D599, -, st599⟩ := newO X594 hx hZ hown (hw _ (List.mem_of_getElem? (i := 48) rfl)) (hw _ (List.mem_of_getElem? (i := 49) rfl)) (hw _ (List.mem_of_getElem? (i := 50) rfl)) e594 (g := (mkF m 173 #[.val (.int p0), .val (.int p1), .val (.int p2), .val (.int (0 : Int32)), .val (.int fEV), .val (.int fNC), .val (.ref b512), .val (.ref b518), .val (.ref b527), .val (.ref s583), .val (.ref b589), .unset, .unset, .unset] [])) rfl (hb hby at_173) (by decide) (by decide)
          obtain ⟨b599, g599⟩ : ∃ zz_, zz_ = h594.size := ⟨_, rfl⟩
          have ne_el_b599 : el ≠ b599 := Nat.ne_of_lt (Nat.lt_of_lt_of_le (((((((((((((E9.ext O0.2).ext E512).wr W513).wr W515).ext E518).wr W519).wr W521).ext E527).keep K528).ext E583).ext E589).keep K593).wr W594).lt (Nat.le_of_eq g599.symm))
          have ne_b512_b599 : b512 ≠ b599 := Nat.ne_of_lt (Nat.lt_of_lt_of_le (((((((((((Q512.wr W513).wr W515).ext E518).wr W519).wr W521).ext E527).keep K528).ext E583).ext E589).keep K593).wr W594).lt (Nat.le_of_eq g599.symm))
          have ne_b518_b599 : b518 ≠ b599 := Nat.ne_of_lt (Nat.lt_of_lt_of_le ((((((((Q518.wr W519).wr W521).ext E527).keep K528).ext E583).ext E589).keep K593).wr W594).lt (Nat.le_of_eq g599.symm))
          have ne_b527_b599 : b527 ≠ b599 := Nat.ne_of_lt (Nat.lt_of_lt_of_le ((((Ex528.ext E583).ext E589).keep K593).wr W594).lt (Nat.le_of_eq g599.symm))
          have ne_b528_b599 : b528 ≠ b599 := Nat.ne_of_lt (Nat.lt_of_lt_of_le ((((V528.ext E583).ext E589).keep K593 nin0).other W594 ne_b528_b589).lt (Nat.le_of_eq g599.symm))
          have ne_s583_b599 : s583 ≠ b599 := Nat.ne_of_lt (Nat.lt_of_lt_of_le (((Ex583.ext E589).keep K593).wr W594).lt (Nat.le_of_eq g599.symm))
          have ne_sb583_b599 : sb583 ≠ b599 := Nat.ne_of_lt (Nat.lt_of_lt_of_le (((V583.ext E589).keep K593 nin0).other W594 ne_sb583_b589).lt (Nat.le_of_eq g599.symm))
          have ne_b589_b599 : b589 ≠ b599 := Nat.ne_of_lt (Nat.lt_of_lt_of_le ((Q589.keep K593).wr W594).lt (Nat.le_of_eq g599.symm))
          have ne_b593_b599 : b593 ≠ b599 := Nat.ne_of_lt (Nat.lt_of_lt_of_le (Ex593.wr W594).lt (Nat.le_of_eq g599.symm))
          have ne_v593_b599 : v593 ≠ b599 := Nat.ne_of_lt (Nat.lt_of_lt_of_le (V593.other W594 (Ne.symm ne_b589_v593)).lt (Nat.le_of_eq g599.symm))
          have ge_b599 : n0 ≤ b599 := Nat.le_trans (Nat.le_trans (Nat.le_trans (Nat.le_trans (Nat.le_trans (Nat.le_trans (Nat.le_trans Fb526 E527.1) K528.1) E583.1) E589.1) K593.1) (Keep.of_wr W594).1) (Nat.le_of_eq g599.symm)
          rw [← g599] at A599 D599 st599
          have Fb600 := (Safe.ext E599 ((Rb591.trans (CHr.keep K593 all0 Rb591.1)).trans (CHr.wr W594 Sf595 (Rb591.trans (CHr.keep K593 all0 Rb591.1)).1)).1 (Safe.wr W594 Sf595 (Rb591.trans (CHr.keep K593 all0 Rb591.1)).1 (Safe.keep K593 all0 Rb591.1 Fb590)))
          have Rb601 := (((Rb591.trans (CHr.keep K593 all0 Rb591.1)).trans (CHr.wr W594 Sf595 (Rb591.trans (CHr.keep K593 all0 Rb591.1)).1)).trans (CHr.ext E599 ((Rb591.trans (CHr.keep K593 all0 Rb591.1)).trans (CHr.wr W594 Sf595 (Rb591.trans (CHr.keep K593 all0 Rb591.1)).1)).1))
          have Fb602 := (Nat.le_trans (Nat.le_trans (Nat.le_trans (Nat.le_trans (Nat.le_trans (Nat.le_trans (Nat.le_trans Fb526 E527.1) K528.1) E583.1) E589.1) K593.1) (Keep.of_wr W594).1) E599.1)
          have F599_name : Fld Z h599 b599 "com/example/ampliar/ampliar/command/Parameter" "name" "Ljava/lang/String;" .null := D599 (Or.inr (hw _ (List.mem_of_getElem? (i := 56) rfl))) (ty := (.object "java/lang/String")) (by decide)
          have F599_value : Fld Z h599 b599 "com/example/ampliar/ampliar/command/Parameter" "value" "Ljava/lang/String;" .null := D599 (Or.inr (hw _ (List.mem_of_getElem? (i := 64) rfl))) (ty := (.object "java/lang/String")) (by decide)
          have F599_choices : Fld Z h599 b599 "com/example/ampliar/ampliar/command/Parameter" "choices" "Ljava/util/List;" .null := D599 (Or.inr (hw _ (List.mem_of_getElem? (i := 105) rfl))) (ty := (.object "java/util/List")) (by decide)
          refine Rch.of (T' := T599) (g' := (mkF m 176 #[.val (.int p0), .val (.int p1), .val (.int p2), .val (.int (0 : Int32)), .val (.int fEV), .val (.int fNC), .val (.ref b512), .val (.ref b518), .val (.ref b527), .val (.ref s583), .val (.ref b589), .unset, .unset, .unset] [(.ref b599)])) st599 ?_
          refine Rch.of (T' := T599) (g' := (mkF m 177 #[.val (.int p0), .val (.int p1), .val (.int p2), .val (.int (0 : Int32)), .val (.int fEV), .val (.int fNC), .val (.ref b512), .val (.ref b518), .val (.ref b527), .val (.ref s583), .val (.ref b589), .unset, .unset, .unset] [(.ref b599), (.ref b599)])) (fun _ kt => XS.dup X599.here hx rfl (hb hby at_176) rfl rfl kt) ?_
          refine Rch.of (T' := T599) (g' := (mkF m 179 #[.val (.int p0), .val (.int p1), .val (.int p2), .val (.int (0 : Int32)), .val (.int fEV), .val (.int fNC), .val (.ref b512), .val (.ref b518), .val (.ref b527), .val (.ref s583), .val (.ref b589), .unset, .unset, .unset] [(.ref b527), (.ref b599), (.ref b599)])) (fun _ kt => XS.aload X599.here hx rfl (hb hby at_177) rfl rfl kt) ?_
          refine Rch.of (T' := T599) (g' := (mkF m 181 #[.val (.int p0), .val (.int p1), .val (.int p2), .val (.int (0 : Int32)), .val (.int fEV), .val (.int fNC), .val (.ref b512), .val (.ref b518), .val (.ref b527), .val (.ref s583), .val (.ref b589), .unset, .unset, .unset] [(.ref s583), (.ref b527), (.ref b599), (.ref b599)])) (fun _ kt => XS.aload X599.here hx rfl (hb hby at_179) rfl rfl kt) ?_
          refine Rch.of (T' := T599) (g' := (mkF m 183 #[.val (.int p0), .val (.int p1), .val (.int p2), .val (.int (0 : Int32)), .val (.int fEV), .val (.int fNC), .val (.ref b512), .val (.ref b518), .val (.ref b527), .val (.ref s583), .val (.ref b589), .unset, .unset, .unset] [(.ref b589), (.ref s583), (.ref b527), (.ref b599), (.ref b599)])) (fun _ kt => XS.aload X599.here hx rfl (hb hby at_181) rfl rfl kt) ?_
          obtain ⟨_, _, ⟨T603, L603, k603, n603⟩, -, X603, hT603, gr603, ⟨Lc603, hQ603, l603, y603, z603, cr603⟩, st603⟩ := X599.specialBackS hx (y := (⟨"com/example/ampliar/ampliar/command/Parameter", "<init>", "(Ljava/lang/String;Ljava/lang/String;[Ljava/lang/String;)V"⟩ : MethodName)) rfl hown (mvT hZ (hw _ (List.mem_of_getElem? (i := 51) rfl))) (mvT hZ (hw _ (List.mem_of_getElem? (i := 52) rfl))) (mvT hZ (hw _ (List.mem_of_getElem? (i := 53) rfl))) (by decide) (backOfSH (s := s) (vm0 := T583.vm) (EL := consts_1) (W := 1) (rkP1 l Z a0 hw [] b599 b527 s583 b589 b593 eo .null .null .null h599 n0 Fb602 A599 F599_name F599_value F599_choices ge_b599 ((((Ex583.ext E589).keep K593).wr W594).ext E599) (Vc594.ext E599) (((SE.ext (Fb592.keep K593 all0).2).wr W594).ext E599) ne_b589_b599) hZ (hw _ (List.mem_of_getElem? (i := 53) rfl)) (hw _ (List.mem_of_getElem? (i := 50) rfl)) (by decide) (by decide) hEL Rb601.1) (g := (mkF m 183 #[.val (.int p0), .val (.int p1), .val (.int p2), .val (.int (0 : Int32)), .val (.int fEV), .val (.int fNC), .val (.ref b512), .val (.ref b518), .val (.ref b527), .val (.ref s583), .val (.ref b589), .unset, .unset, .unset] [(.ref b589), (.ref s583), (.ref b527), (.ref b599), (.ref b599)])) rfl (by rw [hml]; rfl) (Steps.refl _) (a := b599) (argsL := [(.ref b527), (.ref s583), (.ref b589)]) (rest := [(.ref b599)]) (lenOf pd_10 rfl) rfl (by show 2 * 0 + _ ≤ _; exact Nat.le_of_eq rfl) (hb hby at_183) (fun _ _ => ⟨rfl, e599, (by decide : 10 + 3 ≤ _), (by decide : 23 + 26 ≤ _)⟩)
          dsimp only [Pt.U, Pt.locs, Pt.cells, Pt.slots] at X603 hT603 gr603 l603 y603 z603 st603 hQ603 cr603
          subst l603 y603 z603
          obtain ⟨X603, hS603, hZ, hown⟩ := rebS hS583 (Nat.le_trans (Nat.le_trans (Nat.le_trans (Nat.le_trans hk583 E589.1) K593.1) (Keep.of_wr W594).1) E599.1) X603 hT603 (by rw [← e599]; exact gr603) hZ hown
          obtain ⟨rfl, N603q, hQ603⟩ := hQ603
          have N603 := Fr.app N594 N603q
          obtain ⟨K603, Ex603, Fa603, Fb603⟩ := hQ603
          have Fb604 := (((((((((((((((E9.ext O0.2).ext E512).wr W513).wr W515).ext E518).wr W519).wr W521).ext E527).keep K528).ext E583).ext E589).keep K593).wr W594).ext E599).keep K603)
          have Fb605 := ((((((((Fb525.ext E527).keep K528 (ninS ne_el_b527 nin0)).ext E583).ext E589).keep K593 nin0).other W594 (Or.inl ne_el_b589)).ext E599).keep K603 (ninS ne_el_b599 nin0))
          have Fb606 := ((((((((V521.ext E527).keep K528 (ninS ne_b518_b527 nin0)).ext E583).ext E589).keep K593 nin0).other W594 ne_b518_b589).ext E599).keep K603 (ninS ne_b518_b599 nin0))
          refine Rch.via (T' := T603) (g' := (mkF m 186 #[.val (.int p0), .val (.int p1), .val (.int p2), .val (.int (0 : Int32)), .val (.int fEV), .val (.int fNC), .val (.ref b512), .val (.ref b518), .val (.ref b527), .val (.ref s583), .val (.ref b589), .unset, .unset, .unset] [(.ref b599)])) st603 ?_
          refine Rch.of (T' := T603) (g' := (mkF m 188 #[.val (.int p0), .val (.int p1), .val (.int p2), .val (.int (0 : Int32)), .val (.int fEV), .val (.int fNC), .val (.ref b512), .val (.ref b518), .val (.ref b527), .val (.ref s583), .val (.ref b589), .val (.ref b599), .unset, .unset] [])) (fun _ kt => XS.astore X603.here hx rfl (hb hby at_186) rfl rfl (l' := #[.val (.int p0), .val (.int p1), .val (.int p2), .val (.int (0 : Int32)), .val (.int fEV), .val (.int fNC), .val (.ref b512), .val (.ref b518), .val (.ref b527), .val (.ref s583), .val (.ref b589), .val (.ref b599), .unset, .unset]) rfl kt) ?_
          exact JV fEV fNC b512 b518 b527 b528 s583 b589 b599 y515 sb583 0 own_t2 T603 _ _ _ _ (X603.mono (by decide) (by decide)) rfl N603 (Nat.le_trans Fb602 K603.1) hS603 (Nat.le_refl _) hZ hown (Rb601.trans cr603) ((((Fb592.keep K593 all0).wr W594 ge_b589).ext E599).keep K603 (allS ge_b599 all0)) Ex603 Fa603 ((((((Ex528.ext E583).ext E589).keep K593).wr W594).ext E599).keep K603) ((((((Fa528.ext E583).ext E589).keep K593 nin0).other W594 (Or.inl ne_b527_b589)).ext E599).keep K603 (ninS ne_b527_b599 nin0)) ((((((Fb528.ext E583).ext E589).keep K593 nin0).other W594 (Or.inl ne_b527_b589)).ext E599).keep K603 (ninS ne_b527_b599 nin0)) ((((((V528.ext E583).ext E589).keep K593 nin0).other W594 ne_b528_b589).ext E599).keep K603 (ninS ne_b528_b599 nin0)) hch529 Fb603 (((((Ex583.ext E589).keep K593).wr W594).ext E599).keep K603) (((((Fa583.ext E589).keep K593 nin0).other W594 (Or.inl ne_s583_b589)).ext E599).keep K603 (ninS ne_s583_b599 nin0)) (((((Fb583.ext E589).keep K593 nin0).other W594 (Or.inl ne_s583_b589)).ext E599).keep K603 (ninS ne_s583_b599 nin0)) (((((V583.ext E589).keep K593 nin0).other W594 ne_sb583_b589).ext E599).keep K603 (ninS ne_sb583_b599 nin0)) own_ch_own_t2 (by decide)
        · skip
          refine Rch.of (T' := T594) (g' := (mkF m 163 #[.val (.int p0), .val (.int p1), .val (.int p2), .val (.int fLG), .val (.int fEV), .val (.int fNC), .val (.ref b512), .val (.ref b518), .val (.ref b527), .val (.ref s583), .val (.ref b589), .unset, .unset, .unset] [])) (fun _ kt => XS.ifNo X594.here hx rfl (hb hby at_160) rfl ((if0 _ _).trans (feq c597).1) kt) ?_
          have sw607 : fLG = (1 : Int32) := hb3.resolve_left c597
          rw [sw607]
          show Rch p e below K T594 (mkF m 163 #[.val (.int p0), .val (.int p1), .val (.int p2), .val (.int (1 : Int32)), .val (.int fEV), .val (.int fNC), .val (.ref b512), .val (.ref b518), .val (.ref b527), .val (.ref s583), .val (.ref b589), .unset, .unset, .unset] [])
          refine Rch.of (T' := T594) (g' := (mkF m 165 #[.val (.int p0), .val (.int p1), .val (.int p2), .val (.int (1 : Int32)), .val (.int fEV), .val (.int fNC), .val (.ref b512), .val (.ref b518), .val (.ref b527), .val (.ref s583), .val (.ref b589), .unset, .unset, .unset] [(.ref b527)])) (fun _ kt => XS.aload X594.here hx rfl (hb hby at_163) rfl rfl kt) ?_
          refine Rch.of (T' := T594) (g' := (mkF m 167 #[.val (.int p0), .val (.int p1), .val (.int p2), .val (.int (1 : Int32)), .val (.int fEV), .val (.int fNC), .val (.ref b512), .val (.ref b518), .val (.ref b527), .val (.ref s583), .val (.ref b589), .unset, .unset, .unset] [(.ref b589), (.ref b527)])) (fun _ kt => XS.aload X594.here hx rfl (hb hby at_165) rfl rfl kt) ?_
          obtain ⟨_, _, ⟨T608, L608, k608, n608⟩, -, X608, ⟨Lc608, hQ608, l608, y608, z608⟩, st608⟩ := Jvm.LawKit.callS X594 hx (y := (⟨"com/example/ampliar/ampliar/command/Parameter", "flag", "(Ljava/lang/String;[Ljava/lang/String;)Lcom/example/ampliar/ampliar/command/Parameter;"⟩ : MethodName)) hown (mvT hZ (hw _ (List.mem_of_getElem? (i := 252) rfl))) (mvT hZ (hw _ (List.mem_of_getElem? (i := 253) rfl))) (mvT hZ (hw _ (List.mem_of_getElem? (i := 50) rfl))) (mvT hZ (hw _ (List.mem_of_getElem? (i := 254) rfl))) (by decide) (backOf (W := 0) (rkF1 l Z a0 hw [] b527 b589 b593 eo h594 n0 (Nat.le_trans (Nat.le_trans (Nat.le_trans (Nat.le_trans (Nat.le_trans (Nat.le_trans Fb526 E527.1) K528.1) E583.1) E589.1) K593.1) (Keep.of_wr W594).1) Vc594 ((SE.ext (Fb592.keep K593 all0).2).wr W594)) hZ (hw _ (List.mem_of_getElem? (i := 254) rfl)) (hw _ (List.mem_of_getElem? (i := 50) rfl)) (by decide) (by decide)) (g := (mkF m 167 #[.val (.int p0), .val (.int p1), .val (.int p2), .val (.int (1 : Int32)), .val (.int fEV), .val (.int fNC), .val (.ref b512), .val (.ref b518), .val (.ref b527), .val (.ref s583), .val (.ref b589), .unset, .unset, .unset] [(.ref b589), (.ref b527)])) rfl (by rw [hml]; rfl) (argsL := [(.ref b527), (.ref b589)]) (rest := []) (lenOf pd_35 rfl) rfl (by show 2 * 0 + _ ≤ _; exact Nat.le_of_eq rfl) (hb hby at_167) (fun _ _ => ⟨rfl, e594, (by decide : 9 + 2 ≤ _), (by decide : 20 + 5 ≤ _)⟩)
          dsimp only [Pt.U, Pt.locs, Pt.cells, Pt.slots] at X608 l608 y608 z608 st608 hQ608
          subst l608 y608 z608
          obtain ⟨rfl, N608q, hQ608⟩ := hQ608
          have N608 := Fr.app N594 N608q
          obtain ⟨K608, Ex608, Fa608, Fb608⟩ := hQ608
          obtain ⟨b608, g608⟩ : ∃ zz_, zz_ = h594.size := ⟨_, rfl⟩
          have ne_el_b608 : el ≠ b608 := Nat.ne_of_lt (Nat.lt_of_lt_of_le (((((((((((((E9.ext O0.2).ext E512).wr W513).wr W515).ext E518).wr W519).wr W521).ext E527).keep K528).ext E583).ext E589).keep K593).wr W594).lt (Nat.le_of_eq g608.symm))
          have ne_b512_b608 : b512 ≠ b608 := Nat.ne_of_lt (Nat.lt_of_lt_of_le (((((((((((Q512.wr W513).wr W515).ext E518).wr W519).wr W521).ext E527).keep K528).ext E583).ext E589).keep K593).wr W594).lt (Nat.le_of_eq g608.symm))
          have ne_b518_b608 : b518 ≠ b608 := Nat.ne_of_lt (Nat.lt_of_lt_of_le ((((((((Q518.wr W519).wr W521).ext E527).keep K528).ext E583).ext E589).keep K593).wr W594).lt (Nat.le_of_eq g608.symm))
          have ne_b527_b608 : b527 ≠ b608 := Nat.ne_of_lt (Nat.lt_of_lt_of_le ((((Ex528.ext E583).ext E589).keep K593).wr W594).lt (Nat.le_of_eq g608.symm))
          have ne_b528_b608 : b528 ≠ b608 := Nat.ne_of_lt (Nat.lt_of_lt_of_le ((((V528.ext E583).ext E589).keep K593 nin0).other W594 ne_b528_b589).lt (Nat.le_of_eq g608.symm))
          have ne_s583_b608 : s583 ≠ b608 := Nat.ne_of_lt (Nat.lt_of_lt_of_le (((Ex583.ext E589).keep K593).wr W594).lt (Nat.le_of_eq g608.symm))
          have ne_sb583_b608 : sb583 ≠ b608 := Nat.ne_of_lt (Nat.lt_of_lt_of_le (((V583.ext E589).keep K593 nin0).other W594 ne_sb583_b589).lt (Nat.le_of_eq g608.symm))
          have ne_b589_b608 : b589 ≠ b608 := Nat.ne_of_lt (Nat.lt_of_lt_of_le ((Q589.keep K593).wr W594).lt (Nat.le_of_eq g608.symm))
          have ne_b593_b608 : b593 ≠ b608 := Nat.ne_of_lt (Nat.lt_of_lt_of_le (Ex593.wr W594).lt (Nat.le_of_eq g608.symm))
          have ne_v593_b608 : v593 ≠ b608 := Nat.ne_of_lt (Nat.lt_of_lt_of_le (V593.other W594 (Ne.symm ne_b589_v593)).lt (Nat.le_of_eq g608.symm))
          have ge_b608 : n0 ≤ b608 := Nat.le_trans (Nat.le_trans (Nat.le_trans (Nat.le_trans (Nat.le_trans (Nat.le_trans (Nat.le_trans Fb526 E527.1) K528.1) E583.1) E589.1) K593.1) (Keep.of_wr W594).1) (Nat.le_of_eq g608.symm)
          rw [← g608] at Ex608 Fa608 Fb608 st608
          have Fb609 := (Safe.keep K608 all0 ((Rb591.trans (CHr.keep K593 all0 Rb591.1)).trans (CHr.wr W594 Sf595 (Rb591.trans (CHr.keep K593 all0 Rb591.1)).1)).1 (Safe.wr W594 Sf595 (Rb591.trans (CHr.keep K593 all0 Rb591.1)).1 (Safe.keep K593 all0 Rb591.1 Fb590)))
          have Rb610 := (((Rb591.trans (CHr.keep K593 all0 Rb591.1)).trans (CHr.wr W594 Sf595 (Rb591.trans (CHr.keep K593 all0 Rb591.1)).1)).trans (CHr.keep K608 all0 ((Rb591.trans (CHr.keep K593 all0 Rb591.1)).trans (CHr.wr W594 Sf595 (Rb591.trans (CHr.keep K593 all0 Rb591.1)).1)).1))
          have Fb611 := (Nat.le_trans (Nat.le_trans (Nat.le_trans (Nat.le_trans (Nat.le_trans (Nat.le_trans (Nat.le_trans Fb526 E527.1) K528.1) E583.1) E589.1) K593.1) (Keep.of_wr W594).1) K608.1)
          refine Rch.of (T' := T608) (g' := (mkF m 170 #[.val (.int p0), .val (.int p1), .val (.int p2), .val (.int (1 : Int32)), .val (.int fEV), .val (.int fNC), .val (.ref b512), .val (.ref b518), .val (.ref b527), .val (.ref s583), .val (.ref b589), .unset, .unset, .unset] [(.ref b608)])) st608 ?_
          refine Rch.of (T' := T608) (g' := (mkF m 186 #[.val (.int p0), .val (.int p1), .val (.int p2), .val (.int (1 : Int32)), .val (.int fEV), .val (.int fNC), .val (.ref b512), .val (.ref b518), .val (.ref b527), .val (.ref s583), .val (.ref b589), .unset, .unset, .unset] [(.ref b608)])) (fun _ kt => XS.goto X608.here hx rfl (pc0 := 170) (pc' := 186) rfl (hb hby at_170) (by decide) (by decide) kt) ?_
          refine Rch.of (T' := T608) (g' := (mkF m 188 #[.val (.int p0), .val (.int p1), .val (.int p2), .val (.int (1 : Int32)), .val (.int fEV), .val (.int fNC), .val (.ref b512), .val (.ref b518), .val (.ref b527), .val (.ref s583), .val (.ref b589), .val (.ref b608), .unset, .unset] [])) (fun _ kt => XS.astore X608.here hx rfl (hb hby at_186) rfl rfl (l' := #[.val (.int p0), .val (.int p1), .val (.int p2), .val (.int (1 : Int32)), .val (.int fEV), .val (.int fNC), .val (.ref b512), .val (.ref b518), .val (.ref b527), .val (.ref s583), .val (.ref b589), .val (.ref b608), .unset, .unset]) rfl kt) ?_
          exact JF fEV fNC b512 b518 b527 b528 s583 b589 b608 y515 T608 _ _ _ _ (X608.mono (by decide) (by decide)) rfl N608 Fb611 hS583 (Nat.le_trans (Nat.le_trans (Nat.le_trans (Nat.le_trans hk583 E589.1) K593.1) (Keep.of_wr W594).1) K608.1) hZ hown Rb610 (((Fb592.keep K593 all0).wr W594 ge_b589).keep K608 all0) Ex608 Fa608 (((((Ex528.ext E583).ext E589).keep K593).wr W594).keep K608) (((((Fa528.ext E583).ext E589).keep K593 nin0).other W594 (Or.inl ne_b527_b589)).keep K608 nin0) (((((Fb528.ext E583).ext E589).keep K593 nin0).other W594 (Or.inl ne_b527_b589)).keep K608 nin0) (((((V528.ext E583).ext E589).keep K593 nin0).other W594 ne_b528_b589).keep K608 nin0) hch529 Fb608
      · skip
        refine Rch.of (T' := T583) (g' := (mkF m 131 #[.val (.int p0), .val (.int p1), .val (.int p2), .val (.int fLG), .val (.int fEV), .val (.int fNC), .val (.ref b512), .val (.ref b518), .val (.ref b527), .val (.ref s583), .unset, .unset, .unset, .unset] [])) (fun _ kt => XS.ifNo X583.here hx rfl (hb hby at_128) rfl ((if0 _ _).trans (feq c588).1) kt) ?_
        refine Rch.of (T' := T583) (g' := (mkF m 132 #[.val (.int p0), .val (.int p1), .val (.int p2), .val (.int fLG), .val (.int fEV), .val (.int fNC), .val (.ref b512), .val (.ref b518), .val (.ref b527), .val (.ref s583), .unset, .unset, .unset, .unset] [(.int (0 : Int32))])) (fun _ kt => XS.iconst X583.here hx rfl (hb hby at_131) kt) ?_
        obtain ⟨T612, h612, k612, X612, e612, E612, A612, Q612, O612, st612⟩ := newRE X583 hx hZ hown (hw _ (List.mem_of_getElem? (i := 1) rfl)) (hw _ (List.mem_of_getElem? (i := 33) rfl)) e583 (g := (mkF m 132 #[.val (.int p0), .val (.int p1), .val (.int p2), .val (.int fLG), .val (.int fEV), .val (.int fNC), .val (.ref b512), .val (.ref b518), .val (.ref b527), .val (.ref s583), .unset, .unset, .unset, .unset] [(.int (0 : Int32))])) rfl (hb hby at_132) rfl (oNn (i := 0) (by decide)) (cap := 0) (by decide) (by decide) (by decide) (by decide) (ad := "[Ljava/lang/String;") rfl
        obtain ⟨b612, g612⟩ : ∃ zz_, zz_ = h583.size := ⟨_, rfl⟩
        have ne_el_b612 : el ≠ b612 := Nat.ne_of_lt (Nat.lt_of_lt_of_le ((((((((((E9.ext O0.2).ext E512).wr W513).wr W515).ext E518).wr W519).wr W521).ext E527).keep K528).ext E583).lt (Nat.le_of_eq g612.symm))
        have ne_b512_b612 : b512 ≠ b612 := Nat.ne_of_lt (Nat.lt_of_lt_of_le ((((((((Q512.wr W513).wr W515).ext E518).wr W519).wr W521).ext E527).keep K528).ext E583).lt (Nat.le_of_eq g612.symm))
        have ne_b518_b612 : b518 ≠ b612 := Nat.ne_of_lt (Nat.lt_of_lt_of_le (((((Q518.wr W519).wr W521).ext E527).keep K528).ext E583).lt (Nat.le_of_eq g612.symm))
        have ne_b527_b612 : b527 ≠ b612 := Nat.ne_of_lt (Nat.lt_of_lt_of_le (Ex528.ext E583).lt (Nat.le_of_eq g612.symm))
        have ne_b528_b612 : b528 ≠ b612 := Nat.ne_of_lt (Nat.lt_of_lt_of_le (V528.ext E583).lt (Nat.le_of_eq g612.symm))
        have ne_s583_b612 : s583 ≠ b612 := Nat.ne_of_lt (Nat.lt_of_lt_of_le Ex583.lt (Nat.le_of_eq g612.symm))
        have ne_sb583_b612 : sb583 ≠ b612 := Nat.ne_of_lt (Nat.lt_of_lt_of_le V583.lt (Nat.le_of_eq g612.symm))
        have ge_b612 : n0 ≤ b612 := Nat.le_trans (Nat.le_trans (Nat.le_trans (Nat.le_trans Fb526 E527.1) K528.1) E583.1) (Nat.le_of_eq g612.symm)
        rw [← g612] at A612 Q612 st612
        have Fb613 := (Safe.ext E612 (((Rb523.trans (CHr.ext E527 Rb523.1)).trans (CHr.keep K528 (allS Sf530 all0) (Rb523.trans (CHr.ext E527 Rb523.1)).1)).trans cr583).1 (CHr.safe cr583 Ex528.lt (Safe.keep K528 (allS Sf530 all0) (Rb523.trans (CHr.ext E527 Rb523.1)).1 Sf530)))
        have Rb614 := ((((Rb523.trans (CHr.ext E527 Rb523.1)).trans (CHr.keep K528 (allS Sf530 all0) (Rb523.trans (CHr.ext E527 Rb523.1)).1)).trans cr583).trans (CHr.ext E612 (((Rb523.trans (CHr.ext E527 Rb523.1)).trans (CHr.keep K528 (allS Sf530 all0) (Rb523.trans (CHr.ext E527 Rb523.1)).1)).trans cr583).1))
        have Fb615 := ((((((((((O0.ext E512).wr W513 ge_b512).wr W515 ge_b512).ext E518).wr W519 ge_b518).wr W521 ge_b518).ext E527).keep K528 (allS ge_b527 all0)).ext E583).ext E612)
        have V612 : Av Z h612 b612 (.object "java/lang/String") 0 (fun _ => .null) := Av.new A612 (by decide)
        have Ov612 : OvA Z h612 b612 "java/lang/String" := ⟨_, A612.1, O612⟩
        refine Rch.of (T' := T612) (g' := (mkF m 135 #[.val (.int p0), .val (.int p1), .val (.int p2), .val (.int fLG), .val (.int fEV), .val (.int fNC), .val (.ref b512), .val (.ref b518), .val (.ref b527), .val (.ref s583), .unset, .unset, .unset, .unset] [(.ref b612)])) st612 ?_
        refine Rch.of (T' := T612) (g' := (mkF m 157 #[.val (.int p0), .val (.int p1), .val (.int p2), .val (.int fLG), .val (.int fEV), .val (.int fNC), .val (.ref b512), .val (.ref b518), .val (.ref b527), .val (.ref s583), .unset, .unset, .unset, .unset] [(.ref b612)])) (fun _ kt => XS.goto X612.here hx rfl (pc0 := 135) (pc' := 157) rfl (hb hby at_135) (by decide) (by decide) kt) ?_
        refine Rch.of (T' := T612) (g' := (mkF m 159 #[.val (.int p0), .val (.int p1), .val (.int p2), .val (.int fLG), .val (.int fEV), .val (.int fNC), .val (.ref b512), .val (.ref b518), .val (.ref b527), .val (.ref s583), .val (.ref b612), .unset, .unset, .unset] [])) (fun _ kt => XS.astore X612.here hx rfl (hb hby at_157) rfl rfl (l' := #[.val (.int p0), .val (.int p1), .val (.int p2), .val (.int fLG), .val (.int fEV), .val (.int fNC), .val (.ref b512), .val (.ref b518), .val (.ref b527), .val (.ref s583), .val (.ref b612), .unset, .unset, .unset]) rfl kt) ?_
        refine Rch.of (T' := T612) (g' := (mkF m 160 #[.val (.int p0), .val (.int p1), .val (.int p2), .val (.int fLG), .val (.int fEV), .val (.int fNC), .val (.ref b512), .val (.ref b518), .val (.ref b527), .val (.ref s583), .val (.ref b612), .unset, .unset, .unset] [(.int fLG)])) (fun _ kt => XS.iloadN X612.here hx rfl (hb hby at_159) rfl  kt) ?_
        by_cases c616 : fLG = (0 : Int32)
        · skip
          refine Rch.of (T' := T612) (g' := (mkF m 173 #[.val (.int p0), .val (.int p1), .val (.int p2), .val (.int fLG), .val (.int fEV), .val (.int fNC), .val (.ref b512), .val (.ref b518), .val (.ref b527), .val (.ref s583), .val (.ref b612), .unset, .unset, .unset] [])) (fun _ kt => XS.ifYes X612.here hx rfl (pc0 := 160) (pc' := 173) rfl (hb hby at_160) rfl ((if0 _ _).trans (teq c616).1) (by decide) (by decide) kt) ?_
          have sw617 : fLG = (0 : Int32) := c616
          rw [sw617]
          show Rch p e below K T612 (mkF m 173 #[.val (.int p0), .val (.int p1), .val (.int p2), .val (.int (0 : Int32)), .val (.int fEV), .val (.int fNC), .val (.ref b512), .val (.ref b518), .val (.ref b527), .val (.ref s583), .val (.ref b612), .unset, .unset, .unset] [])
          obtain ⟨T618, h618, X618, e618, E618, A618, D618, -, st618⟩ := newO X612 hx hZ hown (hw _ (List.mem_of_getElem? (i := 48) rfl)) (hw _ (List.mem_of_getElem? (i := 49) rfl)) (hw _ (List.mem_of_getElem? (i := 50) rfl)) e612 (g := (mkF m 173 #[.val (.int p0), .val (.int p1), .val (.int p2), .val (.int (0 : Int32)), .val (.int fEV), .val (.int fNC), .val (.ref b512), .val (.ref b518), .val (.ref b527), .val (.ref s583), .val (.ref b612), .unset, .unset, .unset] [])) rfl (hb hby at_173) (by decide) (by decide)
          obtain ⟨b618, g618⟩ : ∃ zz_, zz_ = h612.size := ⟨_, rfl⟩
          have ne_el_b618 : el ≠ b618 := Nat.ne_of_lt (Nat.lt_of_lt_of_le (((((((((((E9.ext O0.2).ext E512).wr W513).wr W515).ext E518).wr W519).wr W521).ext E527).keep K528).ext E583).ext E612).lt (Nat.le_of_eq g618.symm))
          have ne_b512_b618 : b512 ≠ b618 := Nat.ne_of_lt (Nat.lt_of_lt_of_le (((((((((Q512.wr W513).wr W515).ext E518).wr W519).wr W521).ext E527).keep K528).ext E583).ext E612).lt (Nat.le_of_eq g618.symm))
          have ne_b518_b618 : b518 ≠ b618 := Nat.ne_of_lt (Nat.lt_of_lt_of_le ((((((Q518.wr W519).wr W521).ext E527).keep K528).ext E583).ext E612).lt (Nat.le_of_eq g618.symm))
          have ne_b527_b618 : b527 ≠ b618 := Nat.ne_of_lt (Nat.lt_of_lt_of_le ((Ex528.ext E583).ext E612).lt (Nat.le_of_eq g618.symm))
          have ne_b528_b618 : b528 ≠ b618 := Nat.ne_of_lt (Nat.lt_of_lt_of_le ((V528.ext E583).ext E612).lt (Nat.le_of_eq g618.symm))
          have ne_s583_b618 : s583 ≠ b618 := Nat.ne_of_lt (Nat.lt_of_lt_of_le (Ex583.ext E612).lt (Nat.le_of_eq g618.symm))
          have ne_sb583_b618 : sb583 ≠ b618 := Nat.ne_of_lt (Nat.lt_of_lt_of_le (V583.ext E612).lt (Nat.le_of_eq g618.symm))
          have ne_b612_b618 : b612 ≠ b618 := Nat.ne_of_lt (Nat.lt_of_lt_of_le Q612.lt (Nat.le_of_eq g618.symm))
          have ge_b618 : n0 ≤ b618 := Nat.le_trans (Nat.le_trans (Nat.le_trans (Nat.le_trans (Nat.le_trans Fb526 E527.1) K528.1) E583.1) E612.1) (Nat.le_of_eq g618.symm)
          rw [← g618] at A618 D618 st618
          have F618_name : Fld Z h618 b618 "com/example/ampliar/ampliar/command/Parameter" "name" "Ljava/lang/String;" .null := D618 (Or.inr (hw _ (List.mem_of_getElem? (i := 56) rfl))) (ty := (.object "java/lang/String")) (by decide)
          have F618_value : Fld Z h618 b618 "com/example/ampliar/ampliar/command/Parameter" "value" "Ljava/lang/String;" .null := D618 (Or.inr (hw _ (List.mem_of_getElem? (i := 64) rfl))) (ty := (.object "java/lang/String")) (by decide)
          have F618_choices : Fld Z h618 b618 "com/example/ampliar/ampliar/command/Parameter" "choices" "Ljava/util/List;" .null := D618 (Or.inr (hw _ (List.mem_of_getElem? (i := 105) rfl))) (ty := (.object "java/util/List")) (by decide)
          refine Rch.of (T' := T618) (g' := (mkF m 176 #[.val (.int p0), .val (.int p1), .val (.int p2), .val (.int (0 : Int32)), .val (.int fEV), .val (.int fNC), .val (.ref b512), .val (.ref b518), .val (.ref b527), .val (.ref s583), .val (.ref b612), .unset, .unset, .unset] [(.ref b618)])) st618 ?_
          refine Rch.of (T' := T618) (g' := (mkF m 177 #[.val (.int p0), .val (.int p1), .val (.int p2), .val (.int (0 : Int32)), .val (.int fEV), .val (.int fNC), .val (.ref b512), .val (.ref b518), .val (.ref b527), .val (.ref s583), .val (.ref b612), .unset, .unset, .unset] [(.ref b618), (.ref b618)])) (fun _ kt => XS.dup X618.here hx rfl (hb hby at_176) rfl rfl kt) ?_
          refine Rch.of (T' := T618) (g' := (mkF m 179 #[.val (.int p0), .val (.int p1), .val (.int p2), .val (.int (0 : Int32)), .val (.int fEV), .val (.int fNC), .val (.ref b512), .val (.ref b518), .val (.ref b527), .val (.ref s583), .val (.ref b612), .unset, .unset, .unset] [(.ref b527), (.ref b618), (.ref b618)])) (fun _ kt => XS.aload X618.here hx rfl (hb hby at_177) rfl rfl kt) ?_
          refine Rch.of (T' := T618) (g' := (mkF m 181 #[.val (.int p0), .val (.int p1), .val (.int p2), .val (.int (0 : Int32)), .val (.int fEV), .val (.int fNC), .val (.ref b512), .val (.ref b518), .val (.ref b527), .val (.ref s583), .val (.ref b612), .unset, .unset, .unset] [(.ref s583), (.ref b527), (.ref b618), (.ref b618)])) (fun _ kt => XS.aload X618.here hx rfl (hb hby at_179) rfl rfl kt) ?_
          refine Rch.of (T' := T618) (g' := (mkF m 183 #[.val (.int p0), .val (.int p1), .val (.int p2), .val (.int (0 : Int32)), .val (.int fEV), .val (.int fNC), .val (.ref b512), .val (.ref b518), .val (.ref b527), .val (.ref s583), .val (.ref b612), .unset, .unset, .unset] [(.ref b612), (.ref s583), (.ref b527), (.ref b618), (.ref b618)])) (fun _ kt => XS.aload X618.here hx rfl (hb hby at_181) rfl rfl kt) ?_
          obtain ⟨_, _, ⟨T619, L619, k619, n619⟩, -, X619, hT619, gr619, ⟨Lc619, hQ619, l619, y619, z619, cr619⟩, st619⟩ := X618.specialBackS hx (y := (⟨"com/example/ampliar/ampliar/command/Parameter", "<init>", "(Ljava/lang/String;Ljava/lang/String;[Ljava/lang/String;)V"⟩ : MethodName)) rfl hown (mvT hZ (hw _ (List.mem_of_getElem? (i := 51) rfl))) (mvT hZ (hw _ (List.mem_of_getElem? (i := 52) rfl))) (mvT hZ (hw _ (List.mem_of_getElem? (i := 53) rfl))) (by decide) (backOfSH (s := s) (vm0 := T583.vm) (EL := consts_1) (W := 1) (rkP0 l Z a0 hw [] b618 b527 s583 b612 el .null .null .null h618 n0 (Nat.le_trans (Nat.le_trans (Nat.le_trans (Nat.le_trans (Nat.le_trans Fb526 E527.1) K528.1) E583.1) E612.1) E618.1) A618 F618_name F618_value F618_choices ge_b618 ((Ex583.ext E612).ext E618) (V612.ext E618) ((Fb587.ext E612).ext E618) ne_b612_b618) hZ (hw _ (List.mem_of_getElem? (i := 53) rfl)) (hw _ (List.mem_of_getElem? (i := 50) rfl)) (by decide) (by decide) hEL (Rb614.trans (CHr.ext E618 Rb614.1)).1) (g := (mkF m 183 #[.val (.int p0), .val (.int p1), .val (.int p2), .val (.int (0 : Int32)), .val (.int fEV), .val (.int fNC), .val (.ref b512), .val (.ref b518), .val (.ref b527), .val (.ref s583), .val (.ref b612), .unset, .unset, .unset] [(.ref b612), (.ref s583), (.ref b527), (.ref b618), (.ref b618)])) rfl (by rw [hml]; rfl) (Steps.refl _) (a := b618) (argsL := [(.ref b527), (.ref s583), (.ref b612)]) (rest := [(.ref b618)]) (lenOf pd_10 rfl) rfl (by show 2 * 0 + _ ≤ _; exact Nat.le_of_eq rfl) (hb hby at_183) (fun _ _ => ⟨rfl, e618, (by decide : 8 + 2 ≤ _), (by decide : 17 + 24 ≤ _)⟩)
          dsimp only [Pt.U, Pt.locs, Pt.cells, Pt.slots] at X619 hT619 gr619 l619 y619 z619 st619 hQ619 cr619
          subst l619 y619 z619
          obtain ⟨X619, hS619, hZ, hown⟩ := rebS hS583 (Nat.le_trans (Nat.le_trans hk583 E612.1) E618.1) X619 hT619 (by rw [← e618]; exact gr619) hZ hown
          obtain ⟨rfl, N619q, hQ619⟩ := hQ619
          have N619 := Fr.app N528 N619q
          obtain ⟨K619, Ex619, Fa619, Fb619⟩ := hQ619
          have Fb620 := (((((((((V515.ext E518).other W519 ne_b512_b518).other W521 ne_b512_b518).ext E527).keep K528 (ninS ne_b512_b527 nin0)).ext E583).ext E612).ext E618).keep K619 (ninS ne_b512_b618 nin0))
          refine Rch.via (T' := T619) (g' := (mkF m 186 #[.val (.int p0), .val (.int p1), .val (.int p2), .val (.int (0 : Int32)), .val (.int fEV), .val (.int fNC), .val (.ref b512), .val (.ref b518), .val (.ref b527), .val (.ref s583), .val (.ref b612), .unset, .unset, .unset] [(.ref b618)])) st619 ?_
          refine Rch.of (T' := T619) (g' := (mkF m 188 #[.val (.int p0), .val (.int p1), .val (.int p2), .val (.int (0 : Int32)), .val (.int fEV), .val (.int fNC), .val (.ref b512), .val (.ref b518), .val (.ref b527), .val (.ref s583), .val (.ref b612), .val (.ref b618), .unset, .unset] [])) (fun _ kt => XS.astore X619.here hx rfl (hb hby at_186) rfl rfl (l' := #[.val (.int p0), .val (.int p1), .val (.int p2), .val (.int (0 : Int32)), .val (.int fEV), .val (.int fNC), .val (.ref b512), .val (.ref b518), .val (.ref b527), .val (.ref s583), .val (.ref b612), .val (.ref b618), .unset, .unset]) rfl kt) ?_
          exact JV fEV fNC b512 b518 b527 b528 s583 b612 b618 y515 sb583 0 own_t2 T619 _ _ _ _ (X619.mono (by decide) (by decide)) rfl N619 (Nat.le_trans (Nat.le_trans (Nat.le_trans (Nat.le_trans (Nat.le_trans (Nat.le_trans Fb526 E527.1) K528.1) E583.1) E612.1) E618.1) K619.1) hS619 (Nat.le_refl _) hZ hown ((Rb614.trans (CHr.ext E618 Rb614.1)).trans cr619) ((Fb615.ext E618).keep K619 (allS ge_b618 all0)) Ex619 Fa619 ((((Ex528.ext E583).ext E612).ext E618).keep K619) ((((Fa528.ext E583).ext E612).ext E618).keep K619 (ninS ne_b527_b618 nin0)) ((((Fb528.ext E583).ext E612).ext E618).keep K619 (ninS ne_b527_b618 nin0)) ((((V528.ext E583).ext E612).ext E618).keep K619 (ninS ne_b528_b618 nin0)) hch529 Fb619 (((Ex583.ext E612).ext E618).keep K619) (((Fa583.ext E612).ext E618).keep K619 (ninS ne_s583_b618 nin0)) (((Fb583.ext E612).ext E618).keep K619 (ninS ne_s583_b618 nin0)) (((V583.ext E612).ext E618).keep K619 (ninS ne_sb583_b618 nin0)) own_ch_own_t2 (by decide)
        · skip
          refine Rch.of (T' := T612) (g' := (mkF m 163 #[.val (.int p0), .val (.int p1), .val (.int p2), .val (.int fLG), .val (.int fEV), .val (.int fNC), .val (.ref b512), .val (.ref b518), .val (.ref b527), .val (.ref s583), .val (.ref b612), .unset, .unset, .unset] [])) (fun _ kt => XS.ifNo X612.here hx rfl (hb hby at_160) rfl ((if0 _ _).trans (feq c616).1) kt) ?_
          have sw621 : fLG = (1 : Int32) := hb3.resolve_left c616
          rw [sw621]
          show Rch p e below K T612 (mkF m 163 #[.val (.int p0), .val (.int p1), .val (.int p2), .val (.int (1 : Int32)), .val (.int fEV), .val (.int fNC), .val (.ref b512), .val (.ref b518), .val (.ref b527), .val (.ref s583), .val (.ref b612), .unset, .unset, .unset] [])
          refine Rch.of (T' := T612) (g' := (mkF m 165 #[.val (.int p0), .val (.int p1), .val (.int p2), .val (.int (1 : Int32)), .val (.int fEV), .val (.int fNC), .val (.ref b512), .val (.ref b518), .val (.ref b527), .val (.ref s583), .val (.ref b612), .unset, .unset, .unset] [(.ref b527)])) (fun _ kt => XS.aload X612.here hx rfl (hb hby at_163) rfl rfl kt) ?_
          refine Rch.of (T' := T612) (g' := (mkF m 167 #[.val (.int p0), .val (.int p1), .val (.int p2), .val (.int (1 : Int32)), .val (.int fEV), .val (.int fNC), .val (.ref b512), .val (.ref b518), .val (.ref b527), .val (.ref s583), .val (.ref b612), .unset, .unset, .unset] [(.ref b612), (.ref b527)])) (fun _ kt => XS.aload X612.here hx rfl (hb hby at_165) rfl rfl kt) ?_
          obtain ⟨_, _, ⟨T622, L622, k622, n622⟩, -, X622, ⟨Lc622, hQ622, l622, y622, z622⟩, st622⟩ := Jvm.LawKit.callS X612 hx (y := (⟨"com/example/ampliar/ampliar/command/Parameter", "flag", "(Ljava/lang/String;[Ljava/lang/String;)Lcom/example/ampliar/ampliar/command/Parameter;"⟩ : MethodName)) hown (mvT hZ (hw _ (List.mem_of_getElem? (i := 252) rfl))) (mvT hZ (hw _ (List.mem_of_getElem? (i := 253) rfl))) (mvT hZ (hw _ (List.mem_of_getElem? (i := 50) rfl))) (mvT hZ (hw _ (List.mem_of_getElem? (i := 254) rfl))) (by decide) (backOf (W := 0) (rkF0 l Z a0 hw [] b527 b612 el h612 n0 (Nat.le_trans (Nat.le_trans (Nat.le_trans (Nat.le_trans Fb526 E527.1) K528.1) E583.1) E612.1) V612 (Fb587.ext E612) (((((((((((E9.ext O0.2).ext E512).wr W513).wr W515).ext E518).wr W519).wr W521).ext E527).keep K528).ext E583).ext E612) ((((Fb525.ext E527).keep K528 (ninS ne_el_b527 nin0)).ext E583).ext E612)) hZ (hw _ (List.mem_of_getElem? (i := 254) rfl)) (hw _ (List.mem_of_getElem? (i := 50) rfl)) (by decide) (by decide)) (g := (mkF m 167 #[.val (.int p0), .val (.int p1), .val (.int p2), .val (.int (1 : Int32)), .val (.int fEV), .val (.int fNC), .val (.ref b512), .val (.ref b518), .val (.ref b527), .val (.ref s583), .val (.ref b612), .unset, .unset, .unset] [(.ref b612), (.ref b527)])) rfl (by rw [hml]; rfl) (argsL := [(.ref b527), (.ref b612)]) (rest := []) (lenOf pd_35 rfl) rfl (by show 2 * 0 + _ ≤ _; exact Nat.le_of_eq rfl) (hb hby at_167) (fun _ _ => ⟨rfl, e612, (by decide : 7 + 1 ≤ _), (by decide : 14 + 3 ≤ _)⟩)
          dsimp only [Pt.U, Pt.locs, Pt.cells, Pt.slots] at X622 l622 y622 z622 st622 hQ622
          subst l622 y622 z622
          obtain ⟨rfl, N622q, hQ622⟩ := hQ622
          have N622 := Fr.app N528 N622q
          obtain ⟨K622, Ex622, Fa622, Fb622⟩ := hQ622
          obtain ⟨b622, g622⟩ : ∃ zz_, zz_ = h612.size := ⟨_, rfl⟩
          have ne_el_b622 : el ≠ b622 := Nat.ne_of_lt (Nat.lt_of_lt_of_le (((((((((((E9.ext O0.2).ext E512).wr W513).wr W515).ext E518).wr W519).wr W521).ext E527).keep K528).ext E583).ext E612).lt (Nat.le_of_eq g622.symm))
          have ne_b512_b622 : b512 ≠ b622 := Nat.ne_of_lt (Nat.lt_of_lt_of_le (((((((((Q512.wr W513).wr W515).ext E518).wr W519).wr W521).ext E527).keep K528).ext E583).ext E612).lt (Nat.le_of_eq g622.symm))
          have ne_b518_b622 : b518 ≠ b622 := Nat.ne_of_lt (Nat.lt_of_lt_of_le ((((((Q518.wr W519).wr W521).ext E527).keep K528).ext E583).ext E612).lt (Nat.le_of_eq g622.symm))
          have ne_b527_b622 : b527 ≠ b622 := Nat.ne_of_lt (Nat.lt_of_lt_of_le ((Ex528.ext E583).ext E612).lt (Nat.le_of_eq g622.symm))
          have ne_b528_b622 : b528 ≠ b622 := Nat.ne_of_lt (Nat.lt_of_lt_of_le ((V528.ext E583).ext E612).lt (Nat.le_of_eq g622.symm))
          have ne_s583_b622 : s583 ≠ b622 := Nat.ne_of_lt (Nat.lt_of_lt_of_le (Ex583.ext E612).lt (Nat.le_of_eq g622.symm))
          have ne_sb583_b622 : sb583 ≠ b622 := Nat.ne_of_lt (Nat.lt_of_lt_of_le (V583.ext E612).lt (Nat.le_of_eq g622.symm))
          have ne_b612_b622 : b612 ≠ b622 := Nat.ne_of_lt (Nat.lt_of_lt_of_le Q612.lt (Nat.le_of_eq g622.symm))
          have ge_b622 : n0 ≤ b622 := Nat.le_trans (Nat.le_trans (Nat.le_trans (Nat.le_trans (Nat.le_trans Fb526 E527.1) K528.1) E583.1) E612.1) (Nat.le_of_eq g622.symm)
          rw [← g622] at Ex622 Fa622 Fb622 st622
          refine Rch.of (T' := T622) (g' := (mkF m 170 #[.val (.int p0), .val (.int p1), .val (.int p2), .val (.int (1 : Int32)), .val (.int fEV), .val (.int fNC), .val (.ref b512), .val (.ref b518), .val (.ref b527), .val (.ref s583), .val (.ref b612), .unset, .unset, .unset] [(.ref b622)])) st622 ?_
          refine Rch.of (T' := T622) (g' := (mkF m 186 #[.val (.int p0), .val (.int p1), .val (.int p2), .val (.int (1 : Int32)), .val (.int fEV), .val (.int fNC), .val (.ref b512), .val (.ref b518), .val (.ref b527), .val (.ref s583), .val (.ref b612), .unset, .unset, .unset] [(.ref b622)])) (fun _ kt => XS.goto X622.here hx rfl (pc0 := 170) (pc' := 186) rfl (hb hby at_170) (by decide) (by decide) kt) ?_
          refine Rch.of (T' := T622) (g' := (mkF m 188 #[.val (.int p0), .val (.int p1), .val (.int p2), .val (.int (1 : Int32)), .val (.int fEV), .val (.int fNC), .val (.ref b512), .val (.ref b518), .val (.ref b527), .val (.ref s583), .val (.ref b612), .val (.ref b622), .unset, .unset] [])) (fun _ kt => XS.astore X622.here hx rfl (hb hby at_186) rfl rfl (l' := #[.val (.int p0), .val (.int p1), .val (.int p2), .val (.int (1 : Int32)), .val (.int fEV), .val (.int fNC), .val (.ref b512), .val (.ref b518), .val (.ref b527), .val (.ref s583), .val (.ref b612), .val (.ref b622), .unset, .unset]) rfl kt) ?_
          exact JF fEV fNC b512 b518 b527 b528 s583 b612 b622 y515 T622 _ _ _ _ (X622.mono (by decide) (by decide)) rfl N622 (Nat.le_trans (Nat.le_trans (Nat.le_trans (Nat.le_trans (Nat.le_trans Fb526 E527.1) K528.1) E583.1) E612.1) K622.1) hS583 (Nat.le_trans (Nat.le_trans hk583 E612.1) K622.1) hZ hown (Rb614.trans (CHr.keep K622 all0 Rb614.1)) (Fb615.keep K622 all0) Ex622 Fa622 (((Ex528.ext E583).ext E612).keep K622) (((Fa528.ext E583).ext E612).keep K622 nin0) (((Fb528.ext E583).ext E612).keep K622 nin0) (((V528.ext E583).ext E612).keep K622 nin0) hch529 Fb622
  refine Rch.of (T' := T0) (g' := (mkF m 1 #[.val (.int p0), .val (.int p1), .val (.int p2), .unset, .unset, .unset, .unset, .unset, .unset, .unset, .unset, .unset, .unset, .unset] [(.int p2)])) (fun _ kt => XS.iloadN X0.here hx rfl (hb hby at_0) rfl  kt) ?_
  refine Rch.of (T' := T0) (g' := (mkF m 2 #[.val (.int p0), .val (.int p1), .val (.int p2), .unset, .unset, .unset, .unset, .unset, .unset, .unset, .unset, .unset, .unset, .unset] [(.int (1 : Int32)), (.int p2)])) (fun _ kt => XS.iconst X0.here hx rfl (hb hby at_1) kt) ?_
  refine Rch.of (T' := T0) (g' := (mkF m 3 #[.val (.int p0), .val (.int p1), .val (.int p2), .unset, .unset, .unset, .unset, .unset, .unset, .unset, .unset, .unset, .unset, .unset] [(.int (p2 &&& (1 : Int32)))])) (fun _ kt => XS.iand X0.here hx rfl (hb hby at_2) rfl kt) ?_
  by_cases c623 : (p2 &&& (1 : Int32)) = (0 : Int32)
  · skip
    refine Rch.of (T' := T0) (g' := (mkF m 10 #[.val (.int p0), .val (.int p1), .val (.int p2), .unset, .unset, .unset, .unset, .unset, .unset, .unset, .unset, .unset, .unset, .unset] [])) (fun _ kt => XS.ifYes X0.here hx rfl (pc0 := 3) (pc' := 10) rfl (hb hby at_3) rfl ((if0 _ _).trans (teq c623).1) (by decide) (by decide) kt) ?_
    refine Rch.of (T' := T0) (g' := (mkF m 11 #[.val (.int p0), .val (.int p1), .val (.int p2), .unset, .unset, .unset, .unset, .unset, .unset, .unset, .unset, .unset, .unset, .unset] [(.int (0 : Int32))])) (fun _ kt => XS.iconst X0.here hx rfl (hb hby at_10) kt) ?_
    refine Rch.of (T' := T0) (g' := (mkF m 12 #[.val (.int p0), .val (.int p1), .val (.int p2), .val (.int (0 : Int32)), .unset, .unset, .unset, .unset, .unset, .unset, .unset, .unset, .unset, .unset] [])) (fun _ kt => XS.istoreN X0.here hx rfl (hb hby at_11) rfl (l' := #[.val (.int p0), .val (.int p1), .val (.int p2), .val (.int (0 : Int32)), .unset, .unset, .unset, .unset, .unset, .unset, .unset, .unset, .unset, .unset]) rfl kt) ?_
    refine Rch.of (T' := T0) (g' := (mkF m 13 #[.val (.int p0), .val (.int p1), .val (.int p2), .val (.int (0 : Int32)), .unset, .unset, .unset, .unset, .unset, .unset, .unset, .unset, .unset, .unset] [(.int p2)])) (fun _ kt => XS.iloadN X0.here hx rfl (hb hby at_12) rfl  kt) ?_
    refine Rch.of (T' := T0) (g' := (mkF m 14 #[.val (.int p0), .val (.int p1), .val (.int p2), .val (.int (0 : Int32)), .unset, .unset, .unset, .unset, .unset, .unset, .unset, .unset, .unset, .unset] [(.int (2 : Int32)), (.int p2)])) (fun _ kt => XS.iconst X0.here hx rfl (hb hby at_13) kt) ?_
    refine Rch.of (T' := T0) (g' := (mkF m 15 #[.val (.int p0), .val (.int p1), .val (.int p2), .val (.int (0 : Int32)), .unset, .unset, .unset, .unset, .unset, .unset, .unset, .unset, .unset, .unset] [(.int (p2 &&& (2 : Int32)))])) (fun _ kt => XS.iand X0.here hx rfl (hb hby at_14) rfl kt) ?_
    by_cases c624 : (p2 &&& (2 : Int32)) = (0 : Int32)
    · skip
      refine Rch.of (T' := T0) (g' := (mkF m 22 #[.val (.int p0), .val (.int p1), .val (.int p2), .val (.int (0 : Int32)), .unset, .unset, .unset, .unset, .unset, .unset, .unset, .unset, .unset, .unset] [])) (fun _ kt => XS.ifYes X0.here hx rfl (pc0 := 15) (pc' := 22) rfl (hb hby at_15) rfl ((if0 _ _).trans (teq c624).1) (by decide) (by decide) kt) ?_
      refine Rch.of (T' := T0) (g' := (mkF m 23 #[.val (.int p0), .val (.int p1), .val (.int p2), .val (.int (0 : Int32)), .unset, .unset, .unset, .unset, .unset, .unset, .unset, .unset, .unset, .unset] [(.int (0 : Int32))])) (fun _ kt => XS.iconst X0.here hx rfl (hb hby at_22) kt) ?_
      refine Rch.of (T' := T0) (g' := (mkF m 25 #[.val (.int p0), .val (.int p1), .val (.int p2), .val (.int (0 : Int32)), .val (.int (0 : Int32)), .unset, .unset, .unset, .unset, .unset, .unset, .unset, .unset, .unset] [])) (fun _ kt => XS.istore X0.here hx rfl (hb hby at_23) rfl (l' := #[.val (.int p0), .val (.int p1), .val (.int p2), .val (.int (0 : Int32)), .val (.int (0 : Int32)), .unset, .unset, .unset, .unset, .unset, .unset, .unset, .unset, .unset]) rfl kt) ?_
      refine Rch.of (T' := T0) (g' := (mkF m 26 #[.val (.int p0), .val (.int p1), .val (.int p2), .val (.int (0 : Int32)), .val (.int (0 : Int32)), .unset, .unset, .unset, .unset, .unset, .unset, .unset, .unset, .unset] [(.int p2)])) (fun _ kt => XS.iloadN X0.here hx rfl (hb hby at_25) rfl  kt) ?_
      refine Rch.of (T' := T0) (g' := (mkF m 27 #[.val (.int p0), .val (.int p1), .val (.int p2), .val (.int (0 : Int32)), .val (.int (0 : Int32)), .unset, .unset, .unset, .unset, .unset, .unset, .unset, .unset, .unset] [(.int (4 : Int32)), (.int p2)])) (fun _ kt => XS.iconst X0.here hx rfl (hb hby at_26) kt) ?_
      refine Rch.of (T' := T0) (g' := (mkF m 28 #[.val (.int p0), .val (.int p1), .val (.int p2), .val (.int (0 : Int32)), .val (.int (0 : Int32)), .unset, .unset, .unset, .unset, .unset, .unset, .unset, .unset, .unset] [(.int (p2 &&& (4 : Int32)))])) (fun _ kt => XS.iand X0.here hx rfl (hb hby at_27) rfl kt) ?_
      by_cases c625 : (p2 &&& (4 : Int32)) = (0 : Int32)
      · skip
        refine Rch.of (T' := T0) (g' := (mkF m 35 #[.val (.int p0), .val (.int p1), .val (.int p2), .val (.int (0 : Int32)), .val (.int (0 : Int32)), .unset, .unset, .unset, .unset, .unset, .unset, .unset, .unset, .unset] [])) (fun _ kt => XS.ifYes X0.here hx rfl (pc0 := 28) (pc' := 35) rfl (hb hby at_28) rfl ((if0 _ _).trans (teq c625).1) (by decide) (by decide) kt) ?_
        refine Rch.of (T' := T0) (g' := (mkF m 36 #[.val (.int p0), .val (.int p1), .val (.int p2), .val (.int (0 : Int32)), .val (.int (0 : Int32)), .unset, .unset, .unset, .unset, .unset, .unset, .unset, .unset, .unset] [(.int (0 : Int32))])) (fun _ kt => XS.iconst X0.here hx rfl (hb hby at_35) kt) ?_
        refine Rch.of (T' := T0) (g' := (mkF m 38 #[.val (.int p0), .val (.int p1), .val (.int p2), .val (.int (0 : Int32)), .val (.int (0 : Int32)), .val (.int (0 : Int32)), .unset, .unset, .unset, .unset, .unset, .unset, .unset, .unset] [])) (fun _ kt => XS.istore X0.here hx rfl (hb hby at_36) rfl (l' := #[.val (.int p0), .val (.int p1), .val (.int p2), .val (.int (0 : Int32)), .val (.int (0 : Int32)), .val (.int (0 : Int32)), .unset, .unset, .unset, .unset, .unset, .unset, .unset, .unset]) rfl kt) ?_
        exact J38 _ _ _ (by decide)
      · skip
        refine Rch.of (T' := T0) (g' := (mkF m 31 #[.val (.int p0), .val (.int p1), .val (.int p2), .val (.int (0 : Int32)), .val (.int (0 : Int32)), .unset, .unset, .unset, .unset, .unset, .unset, .unset, .unset, .unset] [])) (fun _ kt => XS.ifNo X0.here hx rfl (hb hby at_28) rfl ((if0 _ _).trans (feq c625).1) kt) ?_
        refine Rch.of (T' := T0) (g' := (mkF m 32 #[.val (.int p0), .val (.int p1), .val (.int p2), .val (.int (0 : Int32)), .val (.int (0 : Int32)), .unset, .unset, .unset, .unset, .unset, .unset, .unset, .unset, .unset] [(.int (1 : Int32))])) (fun _ kt => XS.iconst X0.here hx rfl (hb hby at_31) kt) ?_
        refine Rch.of (T' := T0) (g' := (mkF m 36 #[.val (.int p0), .val (.int p1), .val (.int p2), .val (.int (0 : Int32)), .val (.int (0 : Int32)), .unset, .unset, .unset, .unset, .unset, .unset, .unset, .unset, .unset] [(.int (1 : Int32))])) (fun _ kt => XS.goto X0.here hx rfl (pc0 := 32) (pc' := 36) rfl (hb hby at_32) (by decide) (by decide) kt) ?_
        refine Rch.of (T' := T0) (g' := (mkF m 38 #[.val (.int p0), .val (.int p1), .val (.int p2), .val (.int (0 : Int32)), .val (.int (0 : Int32)), .val (.int (1 : Int32)), .unset, .unset, .unset, .unset, .unset, .unset, .unset, .unset] [])) (fun _ kt => XS.istore X0.here hx rfl (hb hby at_36) rfl (l' := #[.val (.int p0), .val (.int p1), .val (.int p2), .val (.int (0 : Int32)), .val (.int (0 : Int32)), .val (.int (1 : Int32)), .unset, .unset, .unset, .unset, .unset, .unset, .unset, .unset]) rfl kt) ?_
        exact J38 _ _ _ (by decide)
    · skip
      refine Rch.of (T' := T0) (g' := (mkF m 18 #[.val (.int p0), .val (.int p1), .val (.int p2), .val (.int (0 : Int32)), .unset, .unset, .unset, .unset, .unset, .unset, .unset, .unset, .unset, .unset] [])) (fun _ kt => XS.ifNo X0.here hx rfl (hb hby at_15) rfl ((if0 _ _).trans (feq c624).1) kt) ?_
      refine Rch.of (T' := T0) (g' := (mkF m 19 #[.val (.int p0), .val (.int p1), .val (.int p2), .val (.int (0 : Int32)), .unset, .unset, .unset, .unset, .unset, .unset, .unset, .unset, .unset, .unset] [(.int (1 : Int32))])) (fun _ kt => XS.iconst X0.here hx rfl (hb hby at_18) kt) ?_
      refine Rch.of (T' := T0) (g' := (mkF m 23 #[.val (.int p0), .val (.int p1), .val (.int p2), .val (.int (0 : Int32)), .unset, .unset, .unset, .unset, .unset, .unset, .unset, .unset, .unset, .unset] [(.int (1 : Int32))])) (fun _ kt => XS.goto X0.here hx rfl (pc0 := 19) (pc' := 23) rfl (hb hby at_19) (by decide) (by decide) kt) ?_
      refine Rch.of (T' := T0) (g' := (mkF m 25 #[.val (.int p0), .val (.int p1), .val (.int p2), .val (.int (0 : Int32)), .val (.int (1 : Int32)), .unset, .unset, .unset, .unset, .unset, .unset, .unset, .unset, .unset] [])) (fun _ kt => XS.istore X0.here hx rfl (hb hby at_23) rfl (l' := #[.val (.int p0), .val (.int p1), .val (.int p2), .val (.int (0 : Int32)), .val (.int (1 : Int32)), .unset, .unset, .unset, .unset, .unset, .unset, .unset, .unset, .unset]) rfl kt) ?_
      refine Rch.of (T' := T0) (g' := (mkF m 26 #[.val (.int p0), .val (.int p1), .val (.int p2), .val (.int (0 : Int32)), .val (.int (1 : Int32)), .unset, .unset, .unset, .unset, .unset, .unset, .unset, .unset, .unset] [(.int p2)])) (fun _ kt => XS.iloadN X0.here hx rfl (hb hby at_25) rfl  kt) ?_
      refine Rch.of (T' := T0) (g' := (mkF m 27 #[.val (.int p0), .val (.int p1), .val (.int p2), .val (.int (0 : Int32)), .val (.int (1 : Int32)), .unset, .unset, .unset, .unset, .unset, .unset, .unset, .unset, .unset] [(.int (4 : Int32)), (.int p2)])) (fun _ kt => XS.iconst X0.here hx rfl (hb hby at_26) kt) ?_
      refine Rch.of (T' := T0) (g' := (mkF m 28 #[.val (.int p0), .val (.int p1), .val (.int p2), .val (.int (0 : Int32)), .val (.int (1 : Int32)), .unset, .unset, .unset, .unset, .unset, .unset, .unset, .unset, .unset] [(.int (p2 &&& (4 : Int32)))])) (fun _ kt => XS.iand X0.here hx rfl (hb hby at_27) rfl kt) ?_
      by_cases c626 : (p2 &&& (4 : Int32)) = (0 : Int32)
      · skip
        refine Rch.of (T' := T0) (g' := (mkF m 35 #[.val (.int p0), .val (.int p1), .val (.int p2), .val (.int (0 : Int32)), .val (.int (1 : Int32)), .unset, .unset, .unset, .unset, .unset, .unset, .unset, .unset, .unset] [])) (fun _ kt => XS.ifYes X0.here hx rfl (pc0 := 28) (pc' := 35) rfl (hb hby at_28) rfl ((if0 _ _).trans (teq c626).1) (by decide) (by decide) kt) ?_
        refine Rch.of (T' := T0) (g' := (mkF m 36 #[.val (.int p0), .val (.int p1), .val (.int p2), .val (.int (0 : Int32)), .val (.int (1 : Int32)), .unset, .unset, .unset, .unset, .unset, .unset, .unset, .unset, .unset] [(.int (0 : Int32))])) (fun _ kt => XS.iconst X0.here hx rfl (hb hby at_35) kt) ?_
        refine Rch.of (T' := T0) (g' := (mkF m 38 #[.val (.int p0), .val (.int p1), .val (.int p2), .val (.int (0 : Int32)), .val (.int (1 : Int32)), .val (.int (0 : Int32)), .unset, .unset, .unset, .unset, .unset, .unset, .unset, .unset] [])) (fun _ kt => XS.istore X0.here hx rfl (hb hby at_36) rfl (l' := #[.val (.int p0), .val (.int p1), .val (.int p2), .val (.int (0 : Int32)), .val (.int (1 : Int32)), .val (.int (0 : Int32)), .unset, .unset, .unset, .unset, .unset, .unset, .unset, .unset]) rfl kt) ?_
        exact J38 _ _ _ (by decide)
      · skip
        refine Rch.of (T' := T0) (g' := (mkF m 31 #[.val (.int p0), .val (.int p1), .val (.int p2), .val (.int (0 : Int32)), .val (.int (1 : Int32)), .unset, .unset, .unset, .unset, .unset, .unset, .unset, .unset, .unset] [])) (fun _ kt => XS.ifNo X0.here hx rfl (hb hby at_28) rfl ((if0 _ _).trans (feq c626).1) kt) ?_
        refine Rch.of (T' := T0) (g' := (mkF m 32 #[.val (.int p0), .val (.int p1), .val (.int p2), .val (.int (0 : Int32)), .val (.int (1 : Int32)), .unset, .unset, .unset, .unset, .unset, .unset, .unset, .unset, .unset] [(.int (1 : Int32))])) (fun _ kt => XS.iconst X0.here hx rfl (hb hby at_31) kt) ?_
        refine Rch.of (T' := T0) (g' := (mkF m 36 #[.val (.int p0), .val (.int p1), .val (.int p2), .val (.int (0 : Int32)), .val (.int (1 : Int32)), .unset, .unset, .unset, .unset, .unset, .unset, .unset, .unset, .unset] [(.int (1 : Int32))])) (fun _ kt => XS.goto X0.here hx rfl (pc0 := 32) (pc' := 36) rfl (hb hby at_32) (by decide) (by decide) kt) ?_
        refine Rch.of (T' := T0) (g' := (mkF m 38 #[.val (.int p0), .val (.int p1), .val (.int p2), .val (.int (0 : Int32)), .val (.int (1 : Int32)), .val (.int (1 : Int32)), .unset, .unset, .unset, .unset, .unset, .unset, .unset, .unset] [])) (fun _ kt => XS.istore X0.here hx rfl (hb hby at_36) rfl (l' := #[.val (.int p0), .val (.int p1), .val (.int p2), .val (.int (0 : Int32)), .val (.int (1 : Int32)), .val (.int (1 : Int32)), .unset, .unset, .unset, .unset, .unset, .unset, .unset, .unset]) rfl kt) ?_
        exact J38 _ _ _ (by decide)
  · skip
    refine Rch.of (T' := T0) (g' := (mkF m 6 #[.val (.int p0), .val (.int p1), .val (.int p2), .unset, .unset, .unset, .unset, .unset, .unset, .unset, .unset, .unset, .unset, .unset] [])) (fun _ kt => XS.ifNo X0.here hx rfl (hb hby at_3) rfl ((if0 _ _).trans (feq c623).1) kt) ?_
    refine Rch.of (T' := T0) (g' := (mkF m 7 #[.val (.int p0), .val (.int p1), .val (.int p2), .unset, .unset, .unset, .unset, .unset, .unset, .unset, .unset, .unset, .unset, .unset] [(.int (1 : Int32))])) (fun _ kt => XS.iconst X0.here hx rfl (hb hby at_6) kt) ?_
    refine Rch.of (T' := T0) (g' := (mkF m 11 #[.val (.int p0), .val (.int p1), .val (.int p2), .unset, .unset, .unset, .unset, .unset, .unset, .unset, .unset, .unset, .unset, .unset] [(.int (1 : Int32))])) (fun _ kt => XS.goto X0.here hx rfl (pc0 := 7) (pc' := 11) rfl (hb hby at_7) (by decide) (by decide) kt) ?_
    refine Rch.of (T' := T0) (g' := (mkF m 12 #[.val (.int p0), .val (.int p1), .val (.int p2), .val (.int (1 : Int32)), .unset, .unset, .unset, .unset, .unset, .unset, .unset, .unset, .unset, .unset] [])) (fun _ kt => XS.istoreN X0.here hx rfl (hb hby at_11) rfl (l' := #[.val (.int p0), .val (.int p1), .val (.int p2), .val (.int (1 : Int32)), .unset, .unset, .unset, .unset, .unset, .unset, .unset, .unset, .unset, .unset]) rfl kt) ?_
    refine Rch.of (T' := T0) (g' := (mkF m 13 #[.val (.int p0), .val (.int p1), .val (.int p2), .val (.int (1 : Int32)), .unset, .unset, .unset, .unset, .unset, .unset, .unset, .unset, .unset, .unset] [(.int p2)])) (fun _ kt => XS.iloadN X0.here hx rfl (hb hby at_12) rfl  kt) ?_
    refine Rch.of (T' := T0) (g' := (mkF m 14 #[.val (.int p0), .val (.int p1), .val (.int p2), .val (.int (1 : Int32)), .unset, .unset, .unset, .unset, .unset, .unset, .unset, .unset, .unset, .unset] [(.int (2 : Int32)), (.int p2)])) (fun _ kt => XS.iconst X0.here hx rfl (hb hby at_13) kt) ?_
    refine Rch.of (T' := T0) (g' := (mkF m 15 #[.val (.int p0), .val (.int p1), .val (.int p2), .val (.int (1 : Int32)), .unset, .unset, .unset, .unset, .unset, .unset, .unset, .unset, .unset, .unset] [(.int (p2 &&& (2 : Int32)))])) (fun _ kt => XS.iand X0.here hx rfl (hb hby at_14) rfl kt) ?_
    by_cases c627 : (p2 &&& (2 : Int32)) = (0 : Int32)
    · skip
      refine Rch.of (T' := T0) (g' := (mkF m 22 #[.val (.int p0), .val (.int p1), .val (.int p2), .val (.int (1 : Int32)), .unset, .unset, .unset, .unset, .unset, .unset, .unset, .unset, .unset, .unset] [])) (fun _ kt => XS.ifYes X0.here hx rfl (pc0 := 15) (pc' := 22) rfl (hb hby at_15) rfl ((if0 _ _).trans (teq c627).1) (by decide) (by decide) kt) ?_
      refine Rch.of (T' := T0) (g' := (mkF m 23 #[.val (.int p0), .val (.int p1), .val (.int p2), .val (.int (1 : Int32)), .unset, .unset, .unset, .unset, .unset, .unset, .unset, .unset, .unset, .unset] [(.int (0 : Int32))])) (fun _ kt => XS.iconst X0.here hx rfl (hb hby at_22) kt) ?_
      refine Rch.of (T' := T0) (g' := (mkF m 25 #[.val (.int p0), .val (.int p1), .val (.int p2), .val (.int (1 : Int32)), .val (.int (0 : Int32)), .unset, .unset, .unset, .unset, .unset, .unset, .unset, .unset, .unset] [])) (fun _ kt => XS.istore X0.here hx rfl (hb hby at_23) rfl (l' := #[.val (.int p0), .val (.int p1), .val (.int p2), .val (.int (1 : Int32)), .val (.int (0 : Int32)), .unset, .unset, .unset, .unset, .unset, .unset, .unset, .unset, .unset]) rfl kt) ?_
      refine Rch.of (T' := T0) (g' := (mkF m 26 #[.val (.int p0), .val (.int p1), .val (.int p2), .val (.int (1 : Int32)), .val (.int (0 : Int32)), .unset, .unset, .unset, .unset, .unset, .unset, .unset, .unset, .unset] [(.int p2)])) (fun _ kt => XS.iloadN X0.here hx rfl (hb hby at_25) rfl  kt) ?_
      refine Rch.of (T' := T0) (g' := (mkF m 27 #[.val (.int p0), .val (.int p1), .val (.int p2), .val (.int (1 : Int32)), .val (.int (0 : Int32)), .unset, .unset, .unset, .unset, .unset, .unset, .unset, .unset, .unset] [(.int (4 : Int32)), (.int p2)])) (fun _ kt => XS.iconst X0.here hx rfl (hb hby at_26) kt) ?_
      refine Rch.of (T' := T0) (g' := (mkF m 28 #[.val (.int p0), .val (.int p1), .val (.int p2), .val (.int (1 : Int32)), .val (.int (0 : Int32)), .unset, .unset, .unset, .unset, .unset, .unset, .unset, .unset, .unset] [(.int (p2 &&& (4 : Int32)))])) (fun _ kt => XS.iand X0.here hx rfl (hb hby at_27) rfl kt) ?_
      by_cases c628 : (p2 &&& (4 : Int32)) = (0 : Int32)
      · skip
        refine Rch.of (T' := T0) (g' := (mkF m 35 #[.val (.int p0), .val (.int p1), .val (.int p2), .val (.int (1 : Int32)), .val (.int (0 : Int32)), .unset, .unset, .unset, .unset, .unset, .unset, .unset, .unset, .unset] [])) (fun _ kt => XS.ifYes X0.here hx rfl (pc0 := 28) (pc' := 35) rfl (hb hby at_28) rfl ((if0 _ _).trans (teq c628).1) (by decide) (by decide) kt) ?_
        refine Rch.of (T' := T0) (g' := (mkF m 36 #[.val (.int p0), .val (.int p1), .val (.int p2), .val (.int (1 : Int32)), .val (.int (0 : Int32)), .unset, .unset, .unset, .unset, .unset, .unset, .unset, .unset, .unset] [(.int (0 : Int32))])) (fun _ kt => XS.iconst X0.here hx rfl (hb hby at_35) kt) ?_
        refine Rch.of (T' := T0) (g' := (mkF m 38 #[.val (.int p0), .val (.int p1), .val (.int p2), .val (.int (1 : Int32)), .val (.int (0 : Int32)), .val (.int (0 : Int32)), .unset, .unset, .unset, .unset, .unset, .unset, .unset, .unset] [])) (fun _ kt => XS.istore X0.here hx rfl (hb hby at_36) rfl (l' := #[.val (.int p0), .val (.int p1), .val (.int p2), .val (.int (1 : Int32)), .val (.int (0 : Int32)), .val (.int (0 : Int32)), .unset, .unset, .unset, .unset, .unset, .unset, .unset, .unset]) rfl kt) ?_
        exact J38 _ _ _ (by decide)
      · skip
        refine Rch.of (T' := T0) (g' := (mkF m 31 #[.val (.int p0), .val (.int p1), .val (.int p2), .val (.int (1 : Int32)), .val (.int (0 : Int32)), .unset, .unset, .unset, .unset, .unset, .unset, .unset, .unset, .unset] [])) (fun _ kt => XS.ifNo X0.here hx rfl (hb hby at_28) rfl ((if0 _ _).trans (feq c628).1) kt) ?_
        refine Rch.of (T' := T0) (g' := (mkF m 32 #[.val (.int p0), .val (.int p1), .val (.int p2), .val (.int (1 : Int32)), .val (.int (0 : Int32)), .unset, .unset, .unset, .unset, .unset, .unset, .unset, .unset, .unset] [(.int (1 : Int32))])) (fun _ kt => XS.iconst X0.here hx rfl (hb hby at_31) kt) ?_
        refine Rch.of (T' := T0) (g' := (mkF m 36 #[.val (.int p0), .val (.int p1), .val (.int p2), .val (.int (1 : Int32)), .val (.int (0 : Int32)), .unset, .unset, .unset, .unset, .unset, .unset, .unset, .unset, .unset] [(.int (1 : Int32))])) (fun _ kt => XS.goto X0.here hx rfl (pc0 := 32) (pc' := 36) rfl (hb hby at_32) (by decide) (by decide) kt) ?_
        refine Rch.of (T' := T0) (g' := (mkF m 38 #[.val (.int p0), .val (.int p1), .val (.int p2), .val (.int (1 : Int32)), .val (.int (0 : Int32)), .val (.int (1 : Int32)), .unset, .unset, .unset, .unset, .unset, .unset, .unset, .unset] [])) (fun _ kt => XS.istore X0.here hx rfl (hb hby at_36) rfl (l' := #[.val (.int p0), .val (.int p1), .val (.int p2), .val (.int (1 : Int32)), .val (.int (0 : Int32)), .val (.int (1 : Int32)), .unset, .unset, .unset, .unset, .unset, .unset, .unset, .unset]) rfl kt) ?_
        exact J38 _ _ _ (by decide)
    · skip
      refine Rch.of (T' := T0) (g' := (mkF m 18 #[.val (.int p0), .val (.int p1), .val (.int p2), .val (.int (1 : Int32)), .unset, .unset, .unset, .unset, .unset, .unset, .unset, .unset, .unset, .unset] [])) (fun _ kt => XS.ifNo X0.here hx rfl (hb hby at_15) rfl ((if0 _ _).trans (feq c627).1) kt) ?_
      refine Rch.of (T' := T0) (g' := (mkF m 19 #[.val (.int p0), .val (.int p1), .val (.int p2), .val (.int (1 : Int32)), .unset, .unset, .unset, .unset, .unset, .unset, .unset, .unset, .unset, .unset] [(.int (1 : Int32))])) (fun _ kt => XS.iconst X0.here hx rfl (hb hby at_18) kt) ?_
      refine Rch.of (T' := T0) (g' := (mkF m 23 #[.val (.int p0), .val (.int p1), .val (.int p2), .val (.int (1 : Int32)), .unset, .unset, .unset, .unset, .unset, .unset, .unset, .unset, .unset, .unset] [(.int (1 : Int32))])) (fun _ kt => XS.goto X0.here hx rfl (pc0 := 19) (pc' := 23) rfl (hb hby at_19) (by decide) (by decide) kt) ?_
      refine Rch.of (T' := T0) (g' := (mkF m 25 #[.val (.int p0), .val (.int p1), .val (.int p2), .val (.int (1 : Int32)), .val (.int (1 : Int32)), .unset, .unset, .unset, .unset, .unset, .unset, .unset, .unset, .unset] [])) (fun _ kt => XS.istore X0.here hx rfl (hb hby at_23) rfl (l' := #[.val (.int p0), .val (.int p1), .val (.int p2), .val (.int (1 : Int32)), .val (.int (1 : Int32)), .unset, .unset, .unset, .unset, .unset, .unset, .unset, .unset, .unset]) rfl kt) ?_
      refine Rch.of (T' := T0) (g' := (mkF m 26 #[.val (.int p0), .val (.int p1), .val (.int p2), .val (.int (1 : Int32)), .val (.int (1 : Int32)), .unset, .unset, .unset, .unset, .unset, .unset, .unset, .unset, .unset] [(.int p2)])) (fun _ kt => XS.iloadN X0.here hx rfl (hb hby at_25) rfl  kt) ?_
      refine Rch.of (T' := T0) (g' := (mkF m 27 #[.val (.int p0), .val (.int p1), .val (.int p2), .val (.int (1 : Int32)), .val (.int (1 : Int32)), .unset, .unset, .unset, .unset, .unset, .unset, .unset, .unset, .unset] [(.int (4 : Int32)), (.int p2)])) (fun _ kt => XS.iconst X0.here hx rfl (hb hby at_26) kt) ?_
      refine Rch.of (T' := T0) (g' := (mkF m 28 #[.val (.int p0), .val (.int p1), .val (.int p2), .val (.int (1 : Int32)), .val (.int (1 : Int32)), .unset, .unset, .unset, .unset, .unset, .unset, .unset, .unset, .unset] [(.int (p2 &&& (4 : Int32)))])) (fun _ kt => XS.iand X0.here hx rfl (hb hby at_27) rfl kt) ?_
      by_cases c629 : (p2 &&& (4 : Int32)) = (0 : Int32)
      · skip
        refine Rch.of (T' := T0) (g' := (mkF m 35 #[.val (.int p0), .val (.int p1), .val (.int p2), .val (.int (1 : Int32)), .val (.int (1 : Int32)), .unset, .unset, .unset, .unset, .unset, .unset, .unset, .unset, .unset] [])) (fun _ kt => XS.ifYes X0.here hx rfl (pc0 := 28) (pc' := 35) rfl (hb hby at_28) rfl ((if0 _ _).trans (teq c629).1) (by decide) (by decide) kt) ?_
        refine Rch.of (T' := T0) (g' := (mkF m 36 #[.val (.int p0), .val (.int p1), .val (.int p2), .val (.int (1 : Int32)), .val (.int (1 : Int32)), .unset, .unset, .unset, .unset, .unset, .unset, .unset, .unset, .unset] [(.int (0 : Int32))])) (fun _ kt => XS.iconst X0.here hx rfl (hb hby at_35) kt) ?_
        refine Rch.of (T' := T0) (g' := (mkF m 38 #[.val (.int p0), .val (.int p1), .val (.int p2), .val (.int (1 : Int32)), .val (.int (1 : Int32)), .val (.int (0 : Int32)), .unset, .unset, .unset, .unset, .unset, .unset, .unset, .unset] [])) (fun _ kt => XS.istore X0.here hx rfl (hb hby at_36) rfl (l' := #[.val (.int p0), .val (.int p1), .val (.int p2), .val (.int (1 : Int32)), .val (.int (1 : Int32)), .val (.int (0 : Int32)), .unset, .unset, .unset, .unset, .unset, .unset, .unset, .unset]) rfl kt) ?_
        exact J38 _ _ _ (by decide)
      · skip
        refine Rch.of (T' := T0) (g' := (mkF m 31 #[.val (.int p0), .val (.int p1), .val (.int p2), .val (.int (1 : Int32)), .val (.int (1 : Int32)), .unset, .unset, .unset, .unset, .unset, .unset, .unset, .unset, .unset] [])) (fun _ kt => XS.ifNo X0.here hx rfl (hb hby at_28) rfl ((if0 _ _).trans (feq c629).1) kt) ?_
        refine Rch.of (T' := T0) (g' := (mkF m 32 #[.val (.int p0), .val (.int p1), .val (.int p2), .val (.int (1 : Int32)), .val (.int (1 : Int32)), .unset, .unset, .unset, .unset, .unset, .unset, .unset, .unset, .unset] [(.int (1 : Int32))])) (fun _ kt => XS.iconst X0.here hx rfl (hb hby at_31) kt) ?_
        refine Rch.of (T' := T0) (g' := (mkF m 36 #[.val (.int p0), .val (.int p1), .val (.int p2), .val (.int (1 : Int32)), .val (.int (1 : Int32)), .unset, .unset, .unset, .unset, .unset, .unset, .unset, .unset, .unset] [(.int (1 : Int32))])) (fun _ kt => XS.goto X0.here hx rfl (pc0 := 32) (pc' := 36) rfl (hb hby at_32) (by decide) (by decide) kt) ?_
        refine Rch.of (T' := T0) (g' := (mkF m 38 #[.val (.int p0), .val (.int p1), .val (.int p2), .val (.int (1 : Int32)), .val (.int (1 : Int32)), .val (.int (1 : Int32)), .unset, .unset, .unset, .unset, .unset, .unset, .unset, .unset] [])) (fun _ kt => XS.istore X0.here hx rfl (hb hby at_36) rfl (l' := #[.val (.int p0), .val (.int p1), .val (.int p2), .val (.int (1 : Int32)), .val (.int (1 : Int32)), .val (.int (1 : Int32)), .unset, .unset, .unset, .unset, .unset, .unset, .unset, .unset]) rfl kt) ?_
        exact J38 _ _ _ (by decide)
set_option maxRecDepth 65536 in
set_option maxHeartbeats 40000000 in
theorem comes_1 {Post : Tables → Env → Array Value → State → Outcome → State → Prop} (hpost : ∀ tb e args s v u, (limb_1_1.after args s (.returned v) u = true ∧ limb_1_2.after args s (.returned v) u = true ∧ True) → ReturnedEndW s (.returned v) u (Jvm.fieldLocs frame_1_writes args s ++ Jvm.arrayLocs frame_1_arrays args s ++ Jvm.staticLocs frame_1_statics s) 64 6464 → Post tb e args s (.returned v) u) :
    ArmFor flags0 classFile x code maxLocals ret World_1 tables_1 room_1 Calls_1 rest_1 Pre_1 Post := by
  intro l hfl _ _ p e ha hc hk s m args below hf hA hF happ hP
  obtain ⟨hcalls, hrest, hpre⟩ := hP
  obtain ⟨-, -, -, hnamed, -, -, -, hat⟩ := (Spec.applies_iff hf).mp happ
  obtain ⟨hg, hn⟩ := and_e (Cond.before_iff.mp (show (Jvm.Cond.and given_1 narrow_1).before args s = true from hpre))
  obtain ⟨g0, hg0⟩ := and_e hg
  obtain ⟨ga0, hg1⟩ := and_e hg0
  obtain ⟨ga1, hg2⟩ := and_e hg1
  obtain ⟨w0, w1, w2, rfl⟩ : ∃ w0 w1 w2 : Value, args = #[w0, w1, w2] := by
    have hs : args.size = 3 := by simpa [Cond.value, given_1] using g0
    obtain ⟨L⟩ := args
    match L, hs with
    | [w0, w1, w2], _ => exact ⟨w0, w1, w2, rfl⟩
  have hw := fun d (hd : d ∈ tables_1) => atoms_spec (ws := Jvm.Cond.code x code maxLocals ret :: tables_1) hat d (List.mem_cons_of_mem _ hd)
  obtain ⟨hsets, hown0⟩ := atoms_of _ (rest_1_c_eq ▸ (show rest_1_c.before _ s = true from hrest))
  obtain ⟨i0, ei0⟩ := is_v ga0
  obtain rfl : w0 = (.int i0) := Option.some.inj ei0
  obtain ⟨i1, ei1⟩ := is_v ga1
  obtain rfl : w1 = (.int i1) := Option.some.inj ei1
  obtain ⟨i2, ei2⟩ := is_v hg2
  obtain rfl : w2 = (.int i2) := Option.some.inj ei2
  have hfit : Fit s := fun {y c} hc i hi => by
    obtain ⟨ha, rfl⟩ := Array.getElem?_eq_some_iff.mp hc
    have q := List.all_eq_true.mp ((Array.all_eq_true_iff_forall_mem.mp hF) _ (Array.getElem_mem ha)) i (List.mem_range.mpr hi)
    simpa [Array.getElem?_eq_getElem hi] using q
  have q1 := Cond.before_iff.mp (hsets _ (List.mem_of_getElem? (i := 1) rfl))
  have q2 := Cond.before_iff.mp (hsets _ (List.mem_of_getElem? (i := 2) rfl))
  obtain ⟨cs, ec⟩ := is_v q1
  have Sc := Sta.start ec (Or.inl (hsets _ (List.mem_of_getElem? (i := 0) rfl)))
  have hcs : ¬ cs = (0 : Int32) := fun q => by
    have q3 := not_v q2
    rw [q] at ec
    rw [eq_i (y := .int 0) ec rfl rfl] at q3
    exact absurd q3 (by decide)
  obtain ⟨sv, esv, hsv⟩ := isR_v (Cond.before_iff.mp (hsets _ (List.mem_of_getElem? (i := 8) rfl)))
  have Si := Sta.start esv (Or.inl (hsets _ (List.mem_of_getElem? (i := 7) rfl)))
  have hC := CHv.start (own_EW hw) (fun q hq => hcalls.1 q hq) (hsets _ (List.mem_of_getElem? (i := 2) rfl)) (hw _ (List.mem_of_getElem? (i := 19) rfl)) (hw _ (List.mem_of_getElem? (i := 2) rfl))
  obtain ⟨eo, eeo⟩ := exa_v (Cond.before_iff.mp (hsets _ (List.mem_of_getElem? (i := 11) rfl)))
  have So := Sta.start eeo (Or.inl (hsets _ (List.mem_of_getElem? (i := 10) rfl)))
  have l1 := Cond.before_iff.mp (hsets _ (List.mem_of_getElem? (i := 17) rfl))
  obtain ⟨el, eel⟩ := exa_v l1
  have El := Exa.start eel l1
  have Sl := Sta.start eel (Or.inl (hsets _ (List.mem_of_getElem? (i := 16) rfl)))
  have Fl := Fld.start ((fld_at eel).symm.trans (eqv_i (F := .int 0) rfl (Cond.before_iff.mp (hsets _ (List.mem_of_getElem? (i := 24) rfl)))))
  obtain ⟨n, o, h1, h2, h3, _, L, rfl, ⟨rfl, N, -⟩, -, hq⟩ := rm0 l s _ hw tables_1 i0 i1 i2 eo el cs sv s.heap s.heap.size (Nat.le_refl _) (Old.start s) Sc Si So Sl El Fl hcs hsv p e ha hc hk s m _ below hf ((Spec.applies_iff_loose hf).mp happ).1 ⟨rfl, State.Warmed39.refl s, rfl, hC⟩ trivial
  refine ⟨n, _, h1, h2, h3, hpost _ _ _ _ _ _ ⟨Cond.after_iff.mpr rfl, Cond.after_iff.mpr (eq_i res_at (Term.int_eval (1)) rfl), trivial⟩ ⟨hq.1, hq.2.1, hq.2.2.1, (hq.2.2.2.sift fun y hy => Or.inr (N y hy)).mono (by decide) (by decide)⟩⟩
theorem main_1_1 : Claimed_1_1 := comes_1 fun _ _ _ _ _ _ h hF => ⟨h.1, hF⟩
theorem main_1_2 : Claimed_1_2 := comes_1 fun _ _ _ _ _ _ h hF => ⟨h.2.1, hF⟩
end Jvm.Pilot.@@N@@
namespace Jvm.Pilot.@@N@@
open Jvm Jvm.ClassFile Sem Op Lib Jvm.Free Jvm.Stand Jvm.Pilot.@@N@@.Jvm.D
/-! MADE BY PROGRAM (witnessworld.py) out of the Statement's table words and the real class files: 40 classes; the members and pool entries that the words name. The judged class is class 1, her method 1. -/
namespace start1
open Jvm.ClassFile
def u (s : String) : CpInfo := .utf8 (stringToUtf16 s)
/-- a pool by its gaps: so many unusable entries, then the entry; so many at the end -/
def gap : Nat → List CpInfo → List CpInfo
  | 0, r => r
  | n + 1, r => .unusable :: gap n r
def poolList (es : List (Nat × CpInfo)) (last : Nat) : List CpInfo := es.foldr (fun e r => gap e.1 (e.2 :: r)) (gap last [])
def pool (es : List (Nat × CpInfo)) (last : Nat) : Array CpInfo := ⟨poolList es last⟩
def fileOf (pool : Array CpInfo) (this : Nat) (attrs : Array Attribute := #[]) (ms : Array MethodInfo := #[]) (fl : Nat := 33) (sup : Nat := 0) (ifs : Array Nat := #[]) (fds : Array FieldInfo := #[]) : ClassFile where
  minorVersion := 0
  majorVersion := 65
  constantPool := pool
  accessFlags := fl
  thisClass := this
  superClass := sup
  interfaces := ifs
  fields := fds
  methods := ms
  attributes := attrs
def plain (name : String) (sup : Option ClassId) : Class where
  name := name
  kind := .ordinary
  loader := none
  accessFlags := 33
  super := sup
  interfaces := #[]
  cf := none
  fields := #[]
  methods := #[]
  instanceTypes := #[]
  staticTypes := #[]
  resolved := #[]
  callSites := []
  init := .initialized
  statics := none
  mirror := none

def pool0 : Array CpInfo := pool [(5, u "<init>"), (0, u "()V"), (1, .class_ 10), (1, u "java/lang/Object")] 113

def k0c0 : Code := { maxStack := 0, maxLocals := 1, code := object_method_1_code, exceptionTable := #[], attributes := #[] }
def k0m0 : Method := { name := "<init>", desc := "()V", sig := { parameters := [], returnType := none }, accessFlags := 1, code := some k0c0 }
/-- java/lang/Object -/
def k0 : Class := { plain "java/lang/Object" none with
  accessFlags := 33
  interfaces := #[]
  cf := some (fileOf pool0 8 #[] #[{ accessFlags := 1, nameIndex := 5, descriptorIndex := 6, attributes := #[] }] 33 0 #[] #[])
  fields := #[]
  methods := #[k0m0]
  instanceTypes := #[]
  staticTypes := #[]
  resolved := Array.replicate 124 none
  statics := none }

def pool1 : Array CpInfo := pool [(2, .class_ 4), (1, u "java/lang/Object"), (0, u "<init>"), (0, u "()V"), (0, .class_ 8), (0, u "java/lang/String"), (0, .methodref 7 10), (0, .nameAndType 5 11), (0, u "([C)V"), (0, .string 13), (0, u ""), (0, .methodref 7 15), (0, .nameAndType 16 17), (0, u "valueOf"), (0, u "(C)Ljava/lang/String;"), (0, .methodref 19 20), (0, .class_ 21), (0, .nameAndType 22 23), (0, u "com/example/ampliar/ampliar/command/Parameter"), (0, u "flag"), (0, u "(Ljava/lang/String;[Ljava/lang/String;)Lcom/example/ampliar/ampliar/command/Parameter;"), (0, .methodref 19 25), (0, .nameAndType 5 26), (0, u "(Ljava/lang/String;Ljava/lang/String;[Ljava/lang/String;)V"), (0, .methodref 19 28), (0, .nameAndType 29 30), (0, u "isFlag"), (0, u "()Z"), (0, .methodref 19 32), (0, .nameAndType 33 34), (0, u "usage"), (0, u "()Ljava/lang/String;"), (0, .methodref 7 36), (0, .nameAndType 37 38), (0, u "length"), (0, u "()I"), (0, .methodref 7 40), (0, .nameAndType 41 42), (0, u "charAt"), (0, u "(I)C"), (0, .class_ 44), (0, u "com/example/ampliar/ampliar/command/ParameterIsFlagPinLaw"), (2, u "law"), (0, u "(III)Z")] 7

def k1m0 : Method := { name := "<init>", desc := "()V", sig := { parameters := [], returnType := none }, accessFlags := 1, code := none }
def k1c1 : Code := { maxStack := 5, maxLocals := 14, code := code, exceptionTable := #[], attributes := #[] }
def k1m1 : Method := { name := "law", desc := "(III)Z", sig := { parameters := [.int, .int, .int], returnType := some .boolean }, accessFlags := 9, code := some k1c1 }
/-- com/example/ampliar/ampliar/command/ParameterIsFlagPinLaw -/
def k1 : Class := { plain "com/example/ampliar/ampliar/command/ParameterIsFlagPinLaw" (some 0) with
  accessFlags := 49
  interfaces := #[]
  cf := some (fileOf pool1 43 #[] #[{ accessFlags := 1, nameIndex := 5, descriptorIndex := 6, attributes := #[] }, { accessFlags := 9, nameIndex := 47, descriptorIndex := 48, attributes := #[] }] 49 2 #[] #[])
  fields := #[]
  methods := #[k1m0, k1m1]
  instanceTypes := #[]
  staticTypes := #[]
  resolved := Array.replicate 56 none
  statics := none }

def pool2 : Array CpInfo := pool [(1, .class_ 2), (0, u "java/io/Serializable"), (0, .class_ 4), (0, u "java/lang/Object")] 2

/-- java/io/Serializable -/
def k2 : Class := { plain "java/io/Serializable" (some 0) with
  accessFlags := 1537
  interfaces := #[]
  cf := some (fileOf pool2 1 #[] #[] 1537 3 #[] #[])
  fields := #[]
  methods := #[]
  instanceTypes := #[]
  staticTypes := #[]
  resolved := Array.replicate 7 none
  statics := none }

def pool3 : Array CpInfo := pool [(1, .class_ 2), (0, u "java/lang/Comparable"), (0, .class_ 4), (0, u "java/lang/Object")] 7

/-- java/lang/Comparable -/
def k3 : Class := { plain "java/lang/Comparable" (some 0) with
  accessFlags := 1537
  interfaces := #[]
  cf := some (fileOf pool3 1 #[] #[] 1537 3 #[] #[])
  fields := #[]
  methods := #[]
  instanceTypes := #[]
  staticTypes := #[]
  resolved := Array.replicate 12 none
  statics := none }

def pool4 : Array CpInfo := pool [(2, .class_ 4), (1, u "java/lang/CharSequence"), (42, .class_ 48), (0, u "java/lang/CharSequence$1CodePointIterator"), (10, .class_ 60), (0, u "java/lang/CharSequence$1CharIterator"), (5, .class_ 67), (0, u "java/lang/Object")] 63

/-- java/lang/CharSequence -/
def k4 : Class := { plain "java/lang/CharSequence" (some 0) with
  accessFlags := 1537
  interfaces := #[]
  cf := some (fileOf pool4 2 #[.nestMembers #[47, 59]] #[] 1537 66 #[] #[])
  fields := #[]
  methods := #[]
  instanceTypes := #[]
  staticTypes := #[]
  resolved := Array.replicate 131 none
  statics := none }

def pool5 : Array CpInfo := pool [(1, .class_ 2), (0, u "java/lang/constant/Constable"), (0, .class_ 4), (0, u "java/lang/Object")] 6

/-- java/lang/constant/Constable -/
def k5 : Class := { plain "java/lang/constant/Constable" (some 0) with
  accessFlags := 1537
  interfaces := #[]
  cf := some (fileOf pool5 1 #[] #[] 1537 3 #[] #[])
  fields := #[]
  methods := #[]
  instanceTypes := #[]
  staticTypes := #[]
  resolved := Array.replicate 11 none
  statics := none }

def pool6 : Array CpInfo := pool [(1, .class_ 2), (0, u "java/lang/constant/ConstantDesc"), (0, .class_ 4), (0, u "java/lang/Object")] 32

/-- java/lang/constant/ConstantDesc -/
def k6 : Class := { plain "java/lang/constant/ConstantDesc" (some 0) with
  accessFlags := 1537
  interfaces := #[]
  cf := some (fileOf pool6 1 #[] #[] 1537 3 #[] #[])
  fields := #[]
  methods := #[]
  instanceTypes := #[]
  staticTypes := #[]
  resolved := Array.replicate 37 none
  statics := none }

def pool7 : Array CpInfo := pool [(1, .methodref 2 3), (0, .class_ 4), (0, .nameAndType 5 6), (0, u "java/lang/Object"), (0, u "<init>"), (0, u "()V"), (2, .fieldref 10 11), (0, .class_ 12), (0, .nameAndType 13 14), (0, u "java/lang/String"), (0, u "value"), (0, u "[B"), (0, .fieldref 10 16), (0, .nameAndType 17 18), (0, u "coder"), (0, u "B"), (2, u "hash"), (0, u "I"), (2, u "hashIsZero"), (0, u "Z"), (0, .methodref 10 28), (0, .nameAndType 5 29), (0, u "([CIILjava/lang/Void;)V"), (8, .fieldref 10 39), (0, .nameAndType 40 26), (0, u "COMPACT_STRINGS"), (1, .class_ 44), (1, u "java/lang/StringUTF16"), (0, u "compress"), (1, .methodref 42 48), (0, .nameAndType 49 50), (0, u "coderFromArrayLen"), (0, u "([BI)B"), (2, u "toBytes"), (0, .methodref 55 56), (0, .class_ 57), (0, .nameAndType 58 59), (0, u "java/util/Arrays"), (0, u "copyOfRange"), (0, u "([BII)[B"), (47, .class_ 109), (1, u "java/lang/StringLatin1"), (32, u "()Z"), (34, .methodref 42 178), (0, .nameAndType 45 179), (0, u "([CII)[B"), (13, .class_ 195), (1, u "java/lang/System"), (13, .methodref 10 210), (0, .nameAndType 5 211), (0, u "([BB)V"), (0, .methodref 193 213), (0, .nameAndType 214 215), (0, u "arraycopy"), (0, u "(Ljava/lang/Object;ILjava/lang/Object;II)V"), (118, u "()I"), (0, .methodref 10 336), (0, .nameAndType 17 337), (0, u "()B"), (2, u "()[B"), (22, u "([BI)C"), (5, u "(C)Z"), (21, u "(II)V"), (35, u "(I)C"), (61, .methodref 10 490), (0, .nameAndType 5 491), (0, u "(Ljava/lang/AbstractStringBuilder;Ljava/lang/Void;)V"), (0, .methodref 10 493), (0, .nameAndType 494 142), (0, u "isLatin1"), (0, .methodref 107 496), (0, .nameAndType 497 363), (0, u "charAt"), (3, u "checkIndex"), (4, .nameAndType 507 334), (0, u "length"), (24, u "getBytes"), (16, .methodref 550 506), (0, .class_ 551), (0, u "java/lang/AbstractStringBuilder"), (0, .methodref 550 553), (0, .nameAndType 554 340), (0, u "getValue"), (20, .class_ 576), (0, u "java/lang/CharSequence"), (22, u "CASE_INSENSITIVE_ORDER"), (0, u "Ljava/util/Comparator;"), (181, u "valueOf"), (0, u "(C)Ljava/lang/String;"), (37, u "([BIB)V"), (188, u "([C)V"), (4, .methodref 107 1016), (0, .nameAndType 1017 369), (0, u "canEncode"), (0, .methodref 107 1019), (0, .nameAndType 53 1020), (0, u "(C)[B"), (26, .methodref 550 493), (5, .fieldref 1054 1055), (0, .class_ 1056), (0, .nameAndType 1057 1058), (0, u "jdk/internal/util/Preconditions"), (0, u "SIOOBE_FORMATTER"), (0, u "Ljava/util/function/BiFunction;"), (0, .methodref 1054 1060), (0, .nameAndType 501 1061), (0, u "(IILjava/util/function/BiFunction;)I"), (39, u "serialPersistentFields"), (0, u "[Ljava/io/ObjectStreamField;"), (0, .class_ 1104), (0, u "java/lang/String$CaseInsensitiveComparator"), (1, .class_ 1107), (0, u "java/io/Serializable"), (0, .class_ 1109), (0, u "java/lang/Comparable"), (0, .class_ 1111), (0, u "java/lang/constant/Constable"), (0, .class_ 1113), (0, u "java/lang/constant/ConstantDesc"), (2, u "serialVersionUID"), (0, u "J"), (3, u "REPL"), (0, u "C"), (2, u "LATIN1"), (1, u "UTF16"), (105, u "(Ljava/lang/StringBuilder;)V")] 217

def k7m0 : Method := { name := "<init>", desc := "()V", sig := { parameters := [], returnType := none }, accessFlags := 1, code := none }
def k7c1 : Code := { maxStack := 5, maxLocals := 2, code := jdk_42_method_3_code, exceptionTable := #[], attributes := #[] }
def k7m1 : Method := { name := "<init>", desc := "([C)V", sig := { parameters := [(.array .char)], returnType := none }, accessFlags := 1, code := some k7c1 }
def k7c2 : Code := { maxStack := 3, maxLocals := 2, code := jdk_42_method_53_code, exceptionTable := #[], attributes := #[] }
def k7m2 : Method := { name := "<init>", desc := "(Ljava/lang/StringBuilder;)V", sig := { parameters := [(.object "java/lang/StringBuilder")], returnType := none }, accessFlags := 1, code := some k7c2 }
def k7c3 : Code := { maxStack := 2, maxLocals := 1, code := jdk_42_method_54_code, exceptionTable := #[], attributes := #[] }
def k7m3 : Method := { name := "length", desc := "()I", sig := { parameters := [], returnType := some .int }, accessFlags := 1, code := some k7c3 }
def k7c4 : Code := { maxStack := 2, maxLocals := 2, code := jdk_42_method_56_code, exceptionTable := #[], attributes := #[] }
def k7m4 : Method := { name := "charAt", desc := "(I)C", sig := { parameters := [.int], returnType := some .char }, accessFlags := 1, code := some k7c4 }
def k7c5 : Code := { maxStack := 4, maxLocals := 1, code := jdk_42_method_139_code, exceptionTable := #[], attributes := #[] }
def k7m5 : Method := { name := "valueOf", desc := "(C)Ljava/lang/String;", sig := { parameters := [.char], returnType := some (.object "java/lang/String") }, accessFlags := 9, code := some k7c5 }
def k7c6 : Code := { maxStack := 5, maxLocals := 4, code := jdk_42_method_147_code, exceptionTable := #[], attributes := #[] }
def k7m6 : Method := { name := "getBytes", desc := "([BIB)V", sig := { parameters := [(.array .byte), .int, .byte], returnType := none }, accessFlags := 0, code := some k7c6 }
def k7c7 : Code := { maxStack := 4, maxLocals := 6, code := jdk_42_method_149_code, exceptionTable := #[], attributes := #[] }
def k7m7 : Method := { name := "<init>", desc := "([CIILjava/lang/Void;)V", sig := { parameters := [(.array .char), .int, .int, (.object "java/lang/Void")], returnType := none }, accessFlags := 2, code := some k7c7 }
def k7c8 : Code := { maxStack := 5, maxLocals := 5, code := jdk_42_method_150_code, exceptionTable := #[], attributes := #[] }
def k7m8 : Method := { name := "<init>", desc := "(Ljava/lang/AbstractStringBuilder;Ljava/lang/Void;)V", sig := { parameters := [(.object "java/lang/AbstractStringBuilder"), (.object "java/lang/Void")], returnType := none }, accessFlags := 0, code := some k7c8 }
def k7c9 : Code := { maxStack := 2, maxLocals := 3, code := jdk_42_method_151_code, exceptionTable := #[], attributes := #[] }
def k7m9 : Method := { name := "<init>", desc := "([BB)V", sig := { parameters := [(.array .byte), .byte], returnType := none }, accessFlags := 0, code := some k7c9 }
def k7c10 : Code := { maxStack := 1, maxLocals := 1, code := jdk_42_method_152_code, exceptionTable := #[], attributes := #[] }
def k7m10 : Method := { name := "coder", desc := "()B", sig := { parameters := [], returnType := some .byte }, accessFlags := 0, code := some k7c10 }
def k7c11 : Code := { maxStack := 1, maxLocals := 1, code := jdk_42_method_154_code, exceptionTable := #[], attributes := #[] }
def k7m11 : Method := { name := "isLatin1", desc := "()Z", sig := { parameters := [], returnType := some .boolean }, accessFlags := 0, code := some k7c11 }
def k7c12 : Code := { maxStack := 3, maxLocals := 2, code := jdk_42_method_155_code, exceptionTable := #[], attributes := #[] }
def k7m12 : Method := { name := "checkIndex", desc := "(II)V", sig := { parameters := [.int, .int], returnType := none }, accessFlags := 8, code := some k7c12 }
/-- java/lang/String -/
def k7 : Class := { plain "java/lang/String" (some 0) with
  accessFlags := 49
  interfaces := #[2, 3, 4, 5, 6]
  cf := some (fileOf pool7 10 #[.nestMembers #[1103]] #[{ accessFlags := 1, nameIndex := 5, descriptorIndex := 6, attributes := #[] }, { accessFlags := 1, nameIndex := 5, descriptorIndex := 1010, attributes := #[] }, { accessFlags := 1, nameIndex := 5, descriptorIndex := 1233, attributes := #[] }, { accessFlags := 1, nameIndex := 507, descriptorIndex := 334, attributes := #[] }, { accessFlags := 1, nameIndex := 497, descriptorIndex := 427, attributes := #[] }, { accessFlags := 9, nameIndex := 782, descriptorIndex := 783, attributes := #[] }, { accessFlags := 0, nameIndex := 532, descriptorIndex := 821, attributes := #[] }, { accessFlags := 2, nameIndex := 5, descriptorIndex := 29, attributes := #[] }, { accessFlags := 0, nameIndex := 5, descriptorIndex := 491, attributes := #[] }, { accessFlags := 0, nameIndex := 5, descriptorIndex := 211, attributes := #[] }, { accessFlags := 0, nameIndex := 17, descriptorIndex := 337, attributes := #[] }, { accessFlags := 0, nameIndex := 494, descriptorIndex := 142, attributes := #[] }, { accessFlags := 8, nameIndex := 501, descriptorIndex := 391, attributes := #[] }] 49 2 #[1106, 1108, 575, 1110, 1112] #[{ accessFlags := 18, nameIndex := 13, descriptorIndex := 14, attributes := #[] }, { accessFlags := 18, nameIndex := 17, descriptorIndex := 18, attributes := #[] }, { accessFlags := 2, nameIndex := 21, descriptorIndex := 22, attributes := #[] }, { accessFlags := 2, nameIndex := 25, descriptorIndex := 26, attributes := #[] }, { accessFlags := 26, nameIndex := 1116, descriptorIndex := 1117, attributes := #[] }, { accessFlags := 24, nameIndex := 40, descriptorIndex := 26, attributes := #[] }, { accessFlags := 26, nameIndex := 1101, descriptorIndex := 1102, attributes := #[] }, { accessFlags := 26, nameIndex := 1121, descriptorIndex := 1122, attributes := #[] }, { accessFlags := 25, nameIndex := 599, descriptorIndex := 600, attributes := #[] }, { accessFlags := 24, nameIndex := 1125, descriptorIndex := 18, attributes := #[] }, { accessFlags := 24, nameIndex := 1127, descriptorIndex := 18, attributes := #[] }])
  fields := #[{ name := "value", type := (.array .byte), accessFlags := 18, slot := 0, constantValue := 0 }, { name := "coder", type := .byte, accessFlags := 18, slot := 1, constantValue := 0 }, { name := "hash", type := .int, accessFlags := 2, slot := 2, constantValue := 0 }, { name := "hashIsZero", type := .boolean, accessFlags := 2, slot := 3, constantValue := 0 }, { name := "serialVersionUID", type := .long, accessFlags := 26, slot := 0, constantValue := 0 }, { name := "COMPACT_STRINGS", type := .boolean, accessFlags := 24, slot := 1, constantValue := 0 }, { name := "serialPersistentFields", type := (.array (.object "java/io/ObjectStreamField")), accessFlags := 26, slot := 2, constantValue := 0 }, { name := "REPL", type := .char, accessFlags := 26, slot := 3, constantValue := 0 }, { name := "CASE_INSENSITIVE_ORDER", type := (.object "java/util/Comparator"), accessFlags := 25, slot := 4, constantValue := 0 }, { name := "LATIN1", type := .byte, accessFlags := 24, slot := 5, constantValue := 0 }, { name := "UTF16", type := .byte, accessFlags := 24, slot := 6, constantValue := 0 }]
  methods := #[k7m0, k7m1, k7m2, k7m3, k7m4, k7m5, k7m6, k7m7, k7m8, k7m9, k7m10, k7m11, k7m12]
  instanceTypes := #[(.array .byte), .byte, .int, .boolean]
  staticTypes := #[.long, .boolean, (.array (.object "java/io/ObjectStreamField")), .char, (.object "java/util/Comparator"), .byte, .byte]
  resolved := Array.replicate 1451 none
  statics := some 0 }

def pool8 : Array CpInfo := pool [(6, .class_ 8), (1, u "java/lang/Object"), (0, u "<init>"), (0, u "()V"), (1, .class_ 14), (1, u "java/lang/StringUTF16"), (31, u "$assertionsDisabled"), (0, u "Z"), (13, u "HI_BYTE_SHIFT"), (0, u "I"), (2, u "LO_BYTE_SHIFT"), (49, .methodref 12 116), (0, .nameAndType 117 118), (0, u "compress"), (0, u "([CI[BII)I"), (3, u "([CII)[B"), (138, u "coderFromArrayLen"), (0, u "([BI)B"), (106, .class_ 371), (1, u "java/lang/StringUTF16$LinesSpliterator"), (58, u "MAX_LENGTH"), (196, .class_ 628), (0, u "java/lang/StringUTF16$CodePointsSpliterator"), (0, .class_ 630), (0, u "java/lang/StringUTF16$CharsSpliterator")] 4

def k8m0 : Method := { name := "<init>", desc := "()V", sig := { parameters := [], returnType := none }, accessFlags := 0, code := none }
def k8c1 : Code := { maxStack := 2, maxLocals := 2, code := jdk_52_method_15_code, exceptionTable := #[], attributes := #[] }
def k8m1 : Method := { name := "coderFromArrayLen", desc := "([BI)B", sig := { parameters := [(.array .byte), .int], returnType := some .byte }, accessFlags := 8, code := some k8c1 }
def k8c2 : Code := { maxStack := 5, maxLocals := 6, code := jdk_52_method_16_code, exceptionTable := #[], attributes := #[] }
def k8m2 : Method := { name := "compress", desc := "([CII)[B", sig := { parameters := [(.array .char), .int, .int], returnType := some (.array .byte) }, accessFlags := 9, code := some k8c2 }
def k8c3 : Code := { maxStack := 3, maxLocals := 7, code := jdk_52_method_21_code, exceptionTable := #[], attributes := #[] }
def k8m3 : Method := { name := "compress", desc := "([CI[BII)I", sig := { parameters := [(.array .char), .int, (.array .byte), .int, .int], returnType := some .int }, accessFlags := 9, code := some k8c3 }
/-- java/lang/StringUTF16 -/
def k8 : Class := { plain "java/lang/StringUTF16" (some 0) with
  accessFlags := 48
  interfaces := #[]
  cf := some (fileOf pool8 12 #[.nestMembers #[627, 629, 369]] #[{ accessFlags := 0, nameIndex := 9, descriptorIndex := 10, attributes := #[] }, { accessFlags := 8, nameIndex := 261, descriptorIndex := 262, attributes := #[] }, { accessFlags := 9, nameIndex := 117, descriptorIndex := 122, attributes := #[] }, { accessFlags := 9, nameIndex := 117, descriptorIndex := 118, attributes := #[] }] 48 6 #[] #[{ accessFlags := 26, nameIndex := 61, descriptorIndex := 62, attributes := #[] }, { accessFlags := 26, nameIndex := 65, descriptorIndex := 62, attributes := #[] }, { accessFlags := 24, nameIndex := 430, descriptorIndex := 62, attributes := #[] }, { accessFlags := 4120, nameIndex := 46, descriptorIndex := 47, attributes := #[] }])
  fields := #[{ name := "HI_BYTE_SHIFT", type := .int, accessFlags := 26, slot := 0, constantValue := 0 }, { name := "LO_BYTE_SHIFT", type := .int, accessFlags := 26, slot := 1, constantValue := 0 }, { name := "MAX_LENGTH", type := .int, accessFlags := 24, slot := 2, constantValue := 0 }, { name := "$assertionsDisabled", type := .boolean, accessFlags := 4120, slot := 3, constantValue := 0 }]
  methods := #[k8m0, k8m1, k8m2, k8m3]
  instanceTypes := #[]
  staticTypes := #[.int, .int, .int, .boolean]
  resolved := Array.replicate 635 none
  statics := none }

def pool9 : Array CpInfo := pool [(1, .class_ 2), (0, u "java/lang/String"), (1, .class_ 6), (1, u "java/lang/Object"), (0, u "<init>"), (0, u "()V"), (0, .methodref 1 10), (0, .nameAndType 11 12), (0, u "checkIndex"), (0, u "(II)V"), (1, .class_ 16), (1, u "java/lang/StringLatin1"), (36, u "([BI)C"), (36, u "canEncode"), (14, u "(C)Z"), (15, u "$assertionsDisabled"), (0, u "Z"), (98, .class_ 223), (1, u "java/lang/StringLatin1$LinesSpliterator"), (28, u "charAt"), (127, u "toBytes"), (1, u "(C)[B"), (7, .class_ 391), (0, u "java/lang/StringLatin1$CharsSpliterator")] 3

def k9m0 : Method := { name := "<init>", desc := "()V", sig := { parameters := [], returnType := none }, accessFlags := 0, code := none }
def k9c1 : Code := { maxStack := 2, maxLocals := 2, code := jdk_43_method_2_code, exceptionTable := #[], attributes := #[] }
def k9m1 : Method := { name := "charAt", desc := "([BI)C", sig := { parameters := [(.array .byte), .int], returnType := some .char }, accessFlags := 9, code := some k9c1 }
def k9c2 : Code := { maxStack := 2, maxLocals := 1, code := jdk_43_method_3_code, exceptionTable := #[], attributes := #[] }
def k9m2 : Method := { name := "canEncode", desc := "(C)Z", sig := { parameters := [.char], returnType := some .boolean }, accessFlags := 9, code := some k9c2 }
def k9c3 : Code := { maxStack := 4, maxLocals := 1, code := jdk_43_method_46_code, exceptionTable := #[], attributes := #[] }
def k9m3 : Method := { name := "toBytes", desc := "(C)[B", sig := { parameters := [.char], returnType := some (.array .byte) }, accessFlags := 9, code := some k9c3 }
/-- java/lang/StringLatin1 -/
def k9 : Class := { plain "java/lang/StringLatin1" (some 0) with
  accessFlags := 48
  interfaces := #[]
  cf := some (fileOf pool9 14 #[.nestMembers #[390, 221]] #[{ accessFlags := 0, nameIndex := 7, descriptorIndex := 8, attributes := #[] }, { accessFlags := 9, nameIndex := 252, descriptorIndex := 53, attributes := #[] }, { accessFlags := 9, nameIndex := 90, descriptorIndex := 105, attributes := #[] }, { accessFlags := 9, nameIndex := 380, descriptorIndex := 382, attributes := #[] }] 48 4 #[] #[{ accessFlags := 4120, nameIndex := 121, descriptorIndex := 122, attributes := #[] }])
  fields := #[{ name := "$assertionsDisabled", type := .boolean, accessFlags := 4120, slot := 0, constantValue := 0 }]
  methods := #[k9m0, k9m1, k9m2, k9m3]
  instanceTypes := #[]
  staticTypes := #[.boolean]
  resolved := Array.replicate 395 none
  statics := none }

def pool10 : Array CpInfo := pool [(1, .methodref 2 3), (0, .class_ 4), (0, .nameAndType 5 6), (0, u "java/lang/Object"), (0, u "<init>"), (0, u "()V"), (0, .fieldref 8 9), (0, .class_ 10), (0, .nameAndType 11 12), (0, u "com/example/ampliar/ampliar/command/Parameter"), (0, u "name"), (0, u "Ljava/lang/String;"), (0, .string 14), (0, u "value"), (0, .methodref 16 17), (0, .class_ 18), (0, .nameAndType 19 20), (0, u "java/util/Objects"), (0, u "requireNonNull"), (0, u "(Ljava/lang/Object;Ljava/lang/String;)Ljava/lang/Object;"), (0, .class_ 22), (0, u "java/lang/String"), (0, .fieldref 8 24), (0, .nameAndType 14 12), (0, .interfaceMethodref 26 27), (0, .class_ 28), (0, .nameAndType 29 30), (0, u "java/util/List"), (0, u "of"), (0, u "([Ljava/lang/Object;)Ljava/util/List;"), (0, .fieldref 8 32), (0, .nameAndType 33 34), (0, u "choices"), (0, u "Ljava/util/List;"), (0, .interfaceMethodref 26 36), (0, .nameAndType 37 38), (0, u "copyOf"), (0, u "(Ljava/util/Collection;)Ljava/util/List;"), (0, .methodref 8 40), (0, .nameAndType 5 41), (0, u "(Ljava/lang/String;Ljava/util/List;)V"), (0, .class_ 43), (0, u "java/lang/StringBuilder"), (0, .methodref 42 3), (0, .string 46), (0, u "["), (0, .methodref 42 48), (0, .nameAndType 49 50), (0, u "append"), (0, u "(Ljava/lang/String;)Ljava/lang/StringBuilder;"), (0, .methodref 8 52), (0, .nameAndType 53 54), (0, u "isFlag"), (0, u "()Z"), (0, .string 56), (0, u ""), (0, .string 58), (0, u " "), (0, .methodref 42 60), (0, .nameAndType 61 62), (0, u "toString"), (0, u "()Ljava/lang/String;"), (0, .string 64), (0, u "]"), (38, .class_ 104), (0, u "com/example/ampliar/ampliar/command/Parameter$Table"), (60, u "(Ljava/lang/String;Ljava/lang/String;[Ljava/lang/String;)V"), (3, u "flag"), (0, u "(Ljava/lang/String;[Ljava/lang/String;)Lcom/example/ampliar/ampliar/command/Parameter;"), (2, u "usage")] 51

def k10c0 : Code := { maxStack := 3, maxLocals := 4, code := prog_6_method_1_code, exceptionTable := #[], attributes := #[] }
def k10m0 : Method := { name := "<init>", desc := "(Ljava/lang/String;Ljava/lang/String;[Ljava/lang/String;)V", sig := { parameters := [(.object "java/lang/String"), (.object "java/lang/String"), (.array (.object "java/lang/String"))], returnType := none }, accessFlags := 128, code := some k10c0 }
def k10c1 : Code := { maxStack := 2, maxLocals := 3, code := prog_6_method_2_code, exceptionTable := #[], attributes := #[] }
def k10m1 : Method := { name := "<init>", desc := "(Ljava/lang/String;Ljava/util/List;)V", sig := { parameters := [(.object "java/lang/String"), (.object "java/util/List")], returnType := none }, accessFlags := 2, code := some k10c1 }
def k10c2 : Code := { maxStack := 4, maxLocals := 2, code := prog_6_method_3_code, exceptionTable := #[], attributes := #[] }
def k10m2 : Method := { name := "flag", desc := "(Ljava/lang/String;[Ljava/lang/String;)Lcom/example/ampliar/ampliar/command/Parameter;", sig := { parameters := [(.object "java/lang/String"), (.array (.object "java/lang/String"))], returnType := some (.object "com/example/ampliar/ampliar/command/Parameter") }, accessFlags := 136, code := some k10c2 }
def k10c3 : Code := { maxStack := 1, maxLocals := 1, code := prog_6_method_5_code, exceptionTable := #[], attributes := #[] }
def k10m3 : Method := { name := "isFlag", desc := "()Z", sig := { parameters := [], returnType := some .boolean }, accessFlags := 0, code := some k10c3 }
def k10c4 : Code := { maxStack := 3, maxLocals := 1, code := prog_6_method_6_code, exceptionTable := #[], attributes := #[] }
def k10m4 : Method := { name := "usage", desc := "()Ljava/lang/String;", sig := { parameters := [], returnType := some (.object "java/lang/String") }, accessFlags := 0, code := some k10c4 }
/-- com/example/ampliar/ampliar/command/Parameter -/
def k10 : Class := { plain "com/example/ampliar/ampliar/command/Parameter" (some 0) with
  accessFlags := 48
  interfaces := #[]
  cf := some (fileOf pool10 8 #[.nestMembers #[103]] #[{ accessFlags := 128, nameIndex := 5, descriptorIndex := 165, attributes := #[] }, { accessFlags := 2, nameIndex := 5, descriptorIndex := 41, attributes := #[] }, { accessFlags := 136, nameIndex := 169, descriptorIndex := 170, attributes := #[] }, { accessFlags := 0, nameIndex := 53, descriptorIndex := 54, attributes := #[] }, { accessFlags := 0, nameIndex := 173, descriptorIndex := 62, attributes := #[] }] 48 2 #[] #[{ accessFlags := 18, nameIndex := 11, descriptorIndex := 12, attributes := #[] }, { accessFlags := 18, nameIndex := 14, descriptorIndex := 12, attributes := #[] }, { accessFlags := 18, nameIndex := 33, descriptorIndex := 34, attributes := #[] }])
  fields := #[{ name := "name", type := (.object "java/lang/String"), accessFlags := 18, slot := 0, constantValue := 0 }, { name := "value", type := (.object "java/lang/String"), accessFlags := 18, slot := 1, constantValue := 0 }, { name := "choices", type := (.object "java/util/List"), accessFlags := 18, slot := 2, constantValue := 0 }]
  methods := #[k10m0, k10m1, k10m2, k10m3, k10m4]
  instanceTypes := #[(.object "java/lang/String"), (.object "java/lang/String"), (.object "java/util/List")]
  staticTypes := #[]
  resolved := Array.replicate 225 none
  statics := none }

def pool11 : Array CpInfo := pool [(2, .class_ 4), (1, u "java/lang/Object"), (0, u "<init>"), (0, u "()V"), (35, .class_ 44), (1, u "java/util/Objects"), (0, u "requireNonNull"), (0, u "(Ljava/lang/Object;)Ljava/lang/Object;"), (47, u "(Ljava/lang/Object;Ljava/lang/String;)Ljava/lang/Object;")] 89

def k11m0 : Method := { name := "<init>", desc := "()V", sig := { parameters := [], returnType := none }, accessFlags := 2, code := none }
def k11c1 : Code := { maxStack := 2, maxLocals := 1, code := jdk_31_method_10_code, exceptionTable := #[], attributes := #[] }
def k11m1 : Method := { name := "requireNonNull", desc := "(Ljava/lang/Object;)Ljava/lang/Object;", sig := { parameters := [(.object "java/lang/Object")], returnType := some (.object "java/lang/Object") }, accessFlags := 9, code := some k11c1 }
def k11c2 : Code := { maxStack := 3, maxLocals := 2, code := jdk_31_method_11_code, exceptionTable := #[], attributes := #[] }
def k11m2 : Method := { name := "requireNonNull", desc := "(Ljava/lang/Object;Ljava/lang/String;)Ljava/lang/Object;", sig := { parameters := [(.object "java/lang/Object"), (.object "java/lang/String")], returnType := some (.object "java/lang/Object") }, accessFlags := 9, code := some k11c2 }
/-- java/util/Objects -/
def k11 : Class := { plain "java/util/Objects" (some 0) with
  accessFlags := 49
  interfaces := #[]
  cf := some (fileOf pool11 42 #[] #[{ accessFlags := 2, nameIndex := 5, descriptorIndex := 6, attributes := #[] }, { accessFlags := 9, nameIndex := 45, descriptorIndex := 46, attributes := #[] }, { accessFlags := 9, nameIndex := 45, descriptorIndex := 94, attributes := #[] }] 49 2 #[] #[])
  fields := #[]
  methods := #[k11m0, k11m1, k11m2]
  instanceTypes := #[]
  staticTypes := #[]
  resolved := Array.replicate 184 none
  statics := none }

def pool12 : Array CpInfo := pool [(8, .class_ 10), (1, u "java/lang/Iterable"), (24, .class_ 36), (0, u "java/lang/Object")] 25

/-- java/lang/Iterable -/
def k12 : Class := { plain "java/lang/Iterable" (some 0) with
  accessFlags := 1537
  interfaces := #[]
  cf := some (fileOf pool12 8 #[] #[] 1537 35 #[] #[])
  fields := #[]
  methods := #[]
  instanceTypes := #[]
  staticTypes := #[]
  resolved := Array.replicate 62 none
  statics := none }

def pool13 : Array CpInfo := pool [(10, .class_ 12), (1, u "java/util/Collection"), (47, .class_ 61), (0, u "java/lang/Object"), (0, .class_ 63), (0, u "java/lang/Iterable")] 51

/-- java/util/Collection -/
def k13 : Class := { plain "java/util/Collection" (some 0) with
  accessFlags := 1537
  interfaces := #[12]
  cf := some (fileOf pool13 10 #[] #[] 1537 60 #[62] #[])
  fields := #[]
  methods := #[]
  instanceTypes := #[]
  staticTypes := #[]
  resolved := Array.replicate 115 none
  statics := none }

def pool14 : Array CpInfo := pool [(8, .class_ 10), (1, u "java/util/SequencedCollection"), (15, .class_ 27), (0, u "java/lang/Object"), (0, .class_ 29), (0, u "java/util/Collection")] 27

/-- java/util/SequencedCollection -/
def k14 : Class := { plain "java/util/SequencedCollection" (some 0) with
  accessFlags := 1537
  interfaces := #[13]
  cf := some (fileOf pool14 8 #[] #[] 1537 26 #[28] #[])
  fields := #[]
  methods := #[]
  instanceTypes := #[]
  staticTypes := #[]
  resolved := Array.replicate 57 none
  statics := none }

def pool15 : Array CpInfo := pool [(8, .class_ 10), (1, u "java/util/List"), (20, u "(Ljava/lang/Object;)V"), (16, u "<init>"), (39, u "of"), (1, .fieldref 91 92), (0, .class_ 93), (0, .nameAndType 94 95), (0, u "java/util/ImmutableCollections"), (0, u "EMPTY_LIST"), (0, u "Ljava/util/ImmutableCollections$ListN;"), (0, .class_ 97), (0, u "java/util/ImmutableCollections$List12"), (0, .methodref 96 99), (0, .nameAndType 48 31), (3, .class_ 104), (0, u "java/lang/Object"), (3, u "([Ljava/lang/Object;)Ljava/util/List;"), (3, .methodref 91 113), (0, .nameAndType 114 115), (0, u "listCopy"), (0, u "(Ljava/util/Collection;)Ljava/util/List;"), (4, .class_ 121), (0, u "java/util/SequencedCollection"), (112, u "copyOf")] 16

def k15c0 : Code := { maxStack := 5, maxLocals := 2, code := jdk_40_method_47_code, exceptionTable := #[], attributes := #[] }
def k15m0 : Method := { name := "of", desc := "([Ljava/lang/Object;)Ljava/util/List;", sig := { parameters := [(.array (.object "java/lang/Object"))], returnType := some (.object "java/util/List") }, accessFlags := 137, code := some k15c0 }
def k15c1 : Code := { maxStack := 1, maxLocals := 1, code := jdk_40_method_48_code, exceptionTable := #[], attributes := #[] }
def k15m1 : Method := { name := "copyOf", desc := "(Ljava/util/Collection;)Ljava/util/List;", sig := { parameters := [(.object "java/util/Collection")], returnType := some (.object "java/util/List") }, accessFlags := 9, code := some k15c1 }
/-- java/util/List -/
def k15 : Class := { plain "java/util/List" (some 0) with
  accessFlags := 1537
  interfaces := #[14]
  cf := some (fileOf pool15 8 #[] #[{ accessFlags := 137, nameIndex := 88, descriptorIndex := 108, attributes := #[] }, { accessFlags := 9, nameIndex := 234, descriptorIndex := 115, attributes := #[] }] 1537 103 #[120] #[])
  fields := #[]
  methods := #[k15m0, k15m1]
  instanceTypes := #[]
  staticTypes := #[]
  resolved := Array.replicate 251 none
  statics := none }

def pool16 : Array CpInfo := pool [(1, .methodref 2 3), (0, .class_ 4), (0, .nameAndType 5 6), (0, u "java/lang/Object"), (0, u "<init>"), (0, u "()V"), (1, .class_ 10), (1, u "java/util/AbstractCollection"), (66, .class_ 78), (0, u "java/util/Collection")] 81

def k16c0 : Code := { maxStack := 1, maxLocals := 1, code := jdk_22_method_1_code, exceptionTable := #[], attributes := #[] }
def k16m0 : Method := { name := "<init>", desc := "()V", sig := { parameters := [], returnType := none }, accessFlags := 4, code := some k16c0 }
/-- java/util/AbstractCollection -/
def k16 : Class := { plain "java/util/AbstractCollection" (some 0) with
  accessFlags := 1057
  interfaces := #[13]
  cf := some (fileOf pool16 8 #[] #[{ accessFlags := 4, nameIndex := 5, descriptorIndex := 6, attributes := #[] }] 1057 2 #[77] #[])
  fields := #[]
  methods := #[k16m0]
  instanceTypes := #[]
  staticTypes := #[]
  resolved := Array.replicate 160 none
  statics := none }

def pool17 : Array CpInfo := pool [(1, .methodref 2 3), (0, .class_ 4), (0, .nameAndType 5 6), (0, u "java/util/AbstractCollection"), (0, u "<init>"), (0, u "()V"), (1, .class_ 10), (1, u "java/util/ImmutableCollections"), (2, .class_ 14), (0, u "java/util/ImmutableCollections$AbstractImmutableCollection")] 41

def k17c0 : Code := { maxStack := 1, maxLocals := 1, code := jdk_47_method_1_code, exceptionTable := #[], attributes := #[] }
def k17m0 : Method := { name := "<init>", desc := "()V", sig := { parameters := [], returnType := none }, accessFlags := 0, code := some k17c0 }
/-- java/util/ImmutableCollections$AbstractImmutableCollection -/
def k17 : Class := { plain "java/util/ImmutableCollections$AbstractImmutableCollection" (some 16) with
  accessFlags := 1056
  interfaces := #[]
  cf := some (fileOf pool17 13 #[.nestHost 8] #[{ accessFlags := 0, nameIndex := 5, descriptorIndex := 6, attributes := #[] }] 1056 2 #[] #[])
  fields := #[]
  methods := #[k17m0]
  instanceTypes := #[]
  staticTypes := #[]
  resolved := Array.replicate 56 none
  statics := none }

def pool18 : Array CpInfo := pool [(1, .class_ 2), (0, u "java/util/RandomAccess"), (0, .class_ 4), (0, u "java/lang/Object")] 2

/-- java/util/RandomAccess -/
def k18 : Class := { plain "java/util/RandomAccess" (some 0) with
  accessFlags := 1537
  interfaces := #[]
  cf := some (fileOf pool18 1 #[] #[] 1537 3 #[] #[])
  fields := #[]
  methods := #[]
  instanceTypes := #[]
  staticTypes := #[]
  resolved := Array.replicate 7 none
  statics := none }

def pool19 : Array CpInfo := pool [(1, .methodref 2 3), (0, .class_ 4), (0, .nameAndType 5 6), (0, u "java/util/ImmutableCollections$AbstractImmutableCollection"), (0, u "<init>"), (0, u "()V"), (1, .class_ 10), (1, u "java/util/ImmutableCollections"), (3, .class_ 16), (1, u "java/util/ImmutableCollections$AbstractImmutableList"), (60, .class_ 78), (0, u "java/util/List"), (45, .class_ 125), (0, u "java/util/RandomAccess")] 70

def k19c0 : Code := { maxStack := 1, maxLocals := 1, code := jdk_46_method_1_code, exceptionTable := #[], attributes := #[] }
def k19m0 : Method := { name := "<init>", desc := "()V", sig := { parameters := [], returnType := none }, accessFlags := 0, code := some k19c0 }
/-- java/util/ImmutableCollections$AbstractImmutableList -/
def k19 : Class := { plain "java/util/ImmutableCollections$AbstractImmutableList" (some 17) with
  accessFlags := 1056
  interfaces := #[15, 18]
  cf := some (fileOf pool19 14 #[.nestHost 8] #[{ accessFlags := 0, nameIndex := 5, descriptorIndex := 6, attributes := #[] }] 1056 2 #[77, 124] #[])
  fields := #[]
  methods := #[k19m0]
  instanceTypes := #[]
  staticTypes := #[]
  resolved := Array.replicate 196 none
  statics := none }

def pool20 : Array CpInfo := pool [(1, .methodref 2 3), (0, .class_ 4), (0, .nameAndType 5 6), (0, u "java/util/ImmutableCollections$AbstractImmutableList"), (0, u "<init>"), (0, u "()V"), (0, .methodref 8 9), (0, .class_ 10), (0, .nameAndType 11 12), (0, u "java/util/Objects"), (0, u "requireNonNull"), (0, u "(Ljava/lang/Object;)Ljava/lang/Object;"), (0, .fieldref 14 15), (0, .class_ 16), (0, .nameAndType 17 18), (0, u "java/util/ImmutableCollections$List12"), (0, u "e0"), (0, u "Ljava/lang/Object;"), (0, .fieldref 20 21), (0, .class_ 22), (0, .nameAndType 23 18), (0, u "java/util/ImmutableCollections"), (0, u "EMPTY"), (0, .fieldref 14 25), (0, .nameAndType 26 18), (0, u "e1"), (43, .class_ 71), (0, u "java/io/Serializable"), (4, u "(Ljava/lang/Object;)V")] 48

def k20c0 : Code := { maxStack := 2, maxLocals := 2, code := jdk_44_method_1_code, exceptionTable := #[], attributes := #[] }
def k20m0 : Method := { name := "<init>", desc := "(Ljava/lang/Object;)V", sig := { parameters := [(.object "java/lang/Object")], returnType := none }, accessFlags := 0, code := some k20c0 }
/-- java/util/ImmutableCollections$List12 -/
def k20 : Class := { plain "java/util/ImmutableCollections$List12" (some 19) with
  accessFlags := 48
  interfaces := #[2]
  cf := some (fileOf pool20 14 #[.nestHost 20] #[{ accessFlags := 0, nameIndex := 5, descriptorIndex := 76, attributes := #[] }] 48 2 #[70] #[{ accessFlags := 18, nameIndex := 17, descriptorIndex := 18, attributes := #[] }, { accessFlags := 18, nameIndex := 26, descriptorIndex := 18, attributes := #[] }])
  fields := #[{ name := "e0", type := (.object "java/lang/Object"), accessFlags := 18, slot := 0, constantValue := 0 }, { name := "e1", type := (.object "java/lang/Object"), accessFlags := 18, slot := 1, constantValue := 0 }]
  methods := #[k20m0]
  instanceTypes := #[(.object "java/lang/Object"), (.object "java/lang/Object")]
  staticTypes := #[]
  resolved := Array.replicate 125 none
  statics := none }

def pool21 : Array CpInfo := pool [(2, .class_ 4), (1, u "java/lang/Object"), (0, u "<init>"), (0, u "()V"), (3, .class_ 11), (0, u "java/util/ImmutableCollections$List12"), (0, .class_ 13), (0, u "java/util/ImmutableCollections$ListN"), (0, .fieldref 12 15), (0, .nameAndType 16 17), (0, u "allowNulls"), (0, u "Z"), (0, .class_ 19), (0, u "java/util/List"), (27, .class_ 49), (1, u "java/util/ImmutableCollections"), (0, u "$assertionsDisabled"), (5, u "[Ljava/lang/Object;"), (5, u "EMPTY_LIST"), (0, u "Ljava/util/ImmutableCollections$ListN;"), (8, u "EMPTY_LIST_NULLS"), (22, u "SALT32L"), (0, u "J"), (2, u "REVERSE"), (6, u "archivedObjects"), (2, u "EMPTY"), (0, u "Ljava/lang/Object;"), (0, .class_ 112), (0, u "java/util/ImmutableCollections$SetN"), (5, u "EMPTY_SET"), (0, u "Ljava/util/ImmutableCollections$SetN;"), (0, .class_ 121), (0, u "java/util/ImmutableCollections$MapN"), (3, u "EMPTY_MAP"), (0, u "Ljava/util/ImmutableCollections$MapN;"), (4, u "EXPAND_FACTOR"), (0, u "I"), (9, u "listCopy"), (0, u "(Ljava/util/Collection;)Ljava/util/List;"), (25, .class_ 170), (0, u "java/util/ImmutableCollections$MapN$MapNIterator"), (0, .class_ 172), (0, u "java/util/ImmutableCollections$MapN$1"), (0, .class_ 174), (0, u "java/util/ImmutableCollections$Map1"), (0, .class_ 176), (0, u "java/util/ImmutableCollections$AbstractImmutableMap"), (0, .class_ 178), (0, u "java/util/ImmutableCollections$SetN$SetNIterator"), (0, .class_ 180), (0, u "java/util/ImmutableCollections$Set12"), (0, .class_ 182), (0, u "java/util/ImmutableCollections$Set12$1"), (0, .class_ 184), (0, u "java/util/ImmutableCollections$AbstractImmutableSet"), (0, .class_ 186), (0, u "java/util/ImmutableCollections$SubList"), (0, .class_ 188), (0, u "java/util/ImmutableCollections$ListItr"), (0, .class_ 190), (0, u "java/util/ImmutableCollections$AbstractImmutableList"), (0, .class_ 192), (0, u "java/util/ImmutableCollections$AbstractImmutableCollection"), (0, .class_ 194), (0, u "java/util/ImmutableCollections$Access"), (0, .class_ 196), (0, u "java/util/ImmutableCollections$Access$1")] 16

def k21m0 : Method := { name := "<init>", desc := "()V", sig := { parameters := [], returnType := none }, accessFlags := 2, code := none }
def k21c1 : Code := { maxStack := 1, maxLocals := 2, code := jdk_56_method_3_code, exceptionTable := #[], attributes := #[] }
def k21m1 : Method := { name := "listCopy", desc := "(Ljava/util/Collection;)Ljava/util/List;", sig := { parameters := [(.object "java/util/Collection")], returnType := some (.object "java/util/List") }, accessFlags := 8, code := some k21c1 }
/-- java/util/ImmutableCollections -/
def k21 : Class := { plain "java/util/ImmutableCollections" (some 0) with
  accessFlags := 32
  interfaces := #[]
  cf := some (fileOf pool21 47 #[.nestMembers #[120, 169, 171, 173, 175, 111, 177, 179, 181, 183, 12, 10, 185, 187, 189, 191, 193, 195]] #[{ accessFlags := 2, nameIndex := 5, descriptorIndex := 6, attributes := #[] }, { accessFlags := 8, nameIndex := 142, descriptorIndex := 143, attributes := #[] }] 32 2 #[] #[{ accessFlags := 26, nameIndex := 95, descriptorIndex := 96, attributes := #[] }, { accessFlags := 26, nameIndex := 99, descriptorIndex := 17, attributes := #[] }, { accessFlags := 10, nameIndex := 106, descriptorIndex := 56, attributes := #[] }, { accessFlags := 26, nameIndex := 109, descriptorIndex := 110, attributes := #[] }, { accessFlags := 24, nameIndex := 62, descriptorIndex := 63, attributes := #[] }, { accessFlags := 24, nameIndex := 72, descriptorIndex := 63, attributes := #[] }, { accessFlags := 24, nameIndex := 118, descriptorIndex := 119, attributes := #[] }, { accessFlags := 24, nameIndex := 125, descriptorIndex := 126, attributes := #[] }, { accessFlags := 24, nameIndex := 131, descriptorIndex := 132, attributes := #[] }, { accessFlags := 4120, nameIndex := 50, descriptorIndex := 17, attributes := #[] }])
  fields := #[{ name := "SALT32L", type := .long, accessFlags := 26, slot := 0, constantValue := 0 }, { name := "REVERSE", type := .boolean, accessFlags := 26, slot := 1, constantValue := 0 }, { name := "archivedObjects", type := (.array (.object "java/lang/Object")), accessFlags := 10, slot := 2, constantValue := 0 }, { name := "EMPTY", type := (.object "java/lang/Object"), accessFlags := 26, slot := 3, constantValue := 0 }, { name := "EMPTY_LIST", type := (.object "java/util/ImmutableCollections$ListN"), accessFlags := 24, slot := 4, constantValue := 0 }, { name := "EMPTY_LIST_NULLS", type := (.object "java/util/ImmutableCollections$ListN"), accessFlags := 24, slot := 5, constantValue := 0 }, { name := "EMPTY_SET", type := (.object "java/util/ImmutableCollections$SetN"), accessFlags := 24, slot := 6, constantValue := 0 }, { name := "EMPTY_MAP", type := (.object "java/util/ImmutableCollections$MapN"), accessFlags := 24, slot := 7, constantValue := 0 }, { name := "EXPAND_FACTOR", type := .int, accessFlags := 24, slot := 8, constantValue := 0 }, { name := "$assertionsDisabled", type := .boolean, accessFlags := 4120, slot := 9, constantValue := 0 }]
  methods := #[k21m0, k21m1]
  instanceTypes := #[]
  staticTypes := #[.long, .boolean, (.array (.object "java/lang/Object")), (.object "java/lang/Object"), (.object "java/util/ImmutableCollections$ListN"), (.object "java/util/ImmutableCollections$ListN"), (.object "java/util/ImmutableCollections$SetN"), (.object "java/util/ImmutableCollections$MapN"), .int, .boolean]
  resolved := Array.replicate 213 none
  statics := some 1 }

def pool22 : Array CpInfo := pool [(1, .class_ 2), (0, u "java/lang/Appendable"), (0, .class_ 4), (0, u "java/lang/Object")] 9

/-- java/lang/Appendable -/
def k22 : Class := { plain "java/lang/Appendable" (some 0) with
  accessFlags := 1537
  interfaces := #[]
  cf := some (fileOf pool22 1 #[] #[] 1537 3 #[] #[])
  fields := #[]
  methods := #[]
  instanceTypes := #[]
  staticTypes := #[]
  resolved := Array.replicate 14 none
  statics := none }

def pool23 : Array CpInfo := pool [(1, .class_ 2), (0, u "java/lang/String"), (0, .methodref 4 5), (0, .class_ 6), (0, .nameAndType 7 8), (0, u "java/lang/Object"), (0, u "<init>"), (0, u "()V"), (1, .class_ 12), (1, u "java/lang/AbstractStringBuilder"), (0, u "EMPTYVALUE"), (0, u "[B"), (0, .fieldref 10 16), (0, .nameAndType 17 14), (0, u "value"), (0, .fieldref 1 19), (0, .nameAndType 20 21), (0, u "COMPACT_STRINGS"), (0, u "Z"), (0, .fieldref 10 23), (0, .nameAndType 24 25), (0, u "coder"), (0, u "B"), (6, .methodref 1 33), (0, .nameAndType 34 35), (0, u "length"), (0, u "()I"), (4, .methodref 1 41), (0, .nameAndType 24 42), (0, u "()B"), (2, u "append"), (0, u "(Ljava/lang/String;)Ljava/lang/AbstractStringBuilder;"), (1, .class_ 49), (0, u "java/lang/CharSequence"), (19, u "(Ljava/lang/String;)V"), (5, u "maybeLatin1"), (3, .fieldref 10 80), (0, .nameAndType 81 82), (0, u "count"), (0, u "I"), (2, u "isLatin1"), (0, u "()Z"), (13, .methodref 10 101), (0, .nameAndType 102 103), (0, u "ensureCapacityInternal"), (0, u "(I)V"), (104, .methodref 10 209), (0, .nameAndType 210 211), (0, u "putStringAt"), (0, u "(ILjava/lang/String;)V"), (5, u "inflateIfNeededFor"), (2, .nameAndType 221 222), (0, u "getBytes"), (0, u "([BIB)V"), (174, .methodref 10 398), (0, .nameAndType 217 69), (0, .methodref 1 220), (3, u "()[B"), (40, .class_ 445), (0, u "java/lang/Appendable"), (106, u "getValue")] 56

def k23m0 : Method := { name := "<init>", desc := "()V", sig := { parameters := [], returnType := none }, accessFlags := 0, code := none }
def k23c1 : Code := { maxStack := 2, maxLocals := 2, code := jdk_68_method_2_code, exceptionTable := #[], attributes := #[] }
def k23m1 : Method := { name := "<init>", desc := "(I)V", sig := { parameters := [.int], returnType := none }, accessFlags := 0, code := some k23c1 }
def k23c2 : Code := { maxStack := 1, maxLocals := 1, code := jdk_68_method_6_code, exceptionTable := #[], attributes := #[] }
def k23m2 : Method := { name := "length", desc := "()I", sig := { parameters := [], returnType := some .int }, accessFlags := 1, code := some k23c2 }
def k23c3 : Code := { maxStack := 4, maxLocals := 3, code := jdk_68_method_9_code, exceptionTable := #[], attributes := #[] }
def k23m3 : Method := { name := "ensureCapacityInternal", desc := "(I)V", sig := { parameters := [.int], returnType := none }, accessFlags := 2, code := some k23c3 }
def k23c4 : Code := { maxStack := 3, maxLocals := 3, code := jdk_68_method_22_code, exceptionTable := #[], attributes := #[] }
def k23m4 : Method := { name := "append", desc := "(Ljava/lang/String;)Ljava/lang/AbstractStringBuilder;", sig := { parameters := [(.object "java/lang/String")], returnType := some (.object "java/lang/AbstractStringBuilder") }, accessFlags := 1, code := some k23c4 }
def k23c5 : Code := { maxStack := 1, maxLocals := 1, code := jdk_68_method_64_code, exceptionTable := #[], attributes := #[] }
def k23m5 : Method := { name := "getValue", desc := "()[B", sig := { parameters := [], returnType := some (.array .byte) }, accessFlags := 16, code := some k23c5 }
def k23c6 : Code := { maxStack := 1, maxLocals := 1, code := jdk_68_method_68_code, exceptionTable := #[], attributes := #[] }
def k23m6 : Method := { name := "isLatin1", desc := "()Z", sig := { parameters := [], returnType := some .boolean }, accessFlags := 16, code := some k23c6 }
def k23c7 : Code := { maxStack := 2, maxLocals := 2, code := jdk_68_method_71_code, exceptionTable := #[], attributes := #[] }
def k23m7 : Method := { name := "inflateIfNeededFor", desc := "(Ljava/lang/String;)V", sig := { parameters := [(.object "java/lang/String")], returnType := none }, accessFlags := 2, code := some k23c7 }
def k23c8 : Code := { maxStack := 4, maxLocals := 3, code := jdk_68_method_73_code, exceptionTable := #[], attributes := #[] }
def k23m8 : Method := { name := "putStringAt", desc := "(ILjava/lang/String;)V", sig := { parameters := [.int, (.object "java/lang/String")], returnType := none }, accessFlags := 2, code := some k23c8 }
/-- java/lang/AbstractStringBuilder -/
def k23 : Class := { plain "java/lang/AbstractStringBuilder" (some 0) with
  accessFlags := 1056
  interfaces := #[22, 4]
  cf := some (fileOf pool23 10 #[] #[{ accessFlags := 0, nameIndex := 7, descriptorIndex := 8, attributes := #[] }, { accessFlags := 0, nameIndex := 7, descriptorIndex := 103, attributes := #[] }, { accessFlags := 1, nameIndex := 34, descriptorIndex := 35, attributes := #[] }, { accessFlags := 2, nameIndex := 102, descriptorIndex := 103, attributes := #[] }, { accessFlags := 1, nameIndex := 45, descriptorIndex := 46, attributes := #[] }, { accessFlags := 16, nameIndex := 552, descriptorIndex := 403, attributes := #[] }, { accessFlags := 16, nameIndex := 85, descriptorIndex := 86, attributes := #[] }, { accessFlags := 2, nameIndex := 217, descriptorIndex := 69, attributes := #[] }, { accessFlags := 2, nameIndex := 210, descriptorIndex := 211, attributes := #[] }] 1056 4 #[444, 48] #[{ accessFlags := 0, nameIndex := 17, descriptorIndex := 14, attributes := #[] }, { accessFlags := 0, nameIndex := 24, descriptorIndex := 25, attributes := #[] }, { accessFlags := 0, nameIndex := 75, descriptorIndex := 21, attributes := #[] }, { accessFlags := 0, nameIndex := 81, descriptorIndex := 82, attributes := #[] }, { accessFlags := 26, nameIndex := 13, descriptorIndex := 14, attributes := #[] }])
  fields := #[{ name := "value", type := (.array .byte), accessFlags := 0, slot := 0, constantValue := 0 }, { name := "coder", type := .byte, accessFlags := 0, slot := 1, constantValue := 0 }, { name := "maybeLatin1", type := .boolean, accessFlags := 0, slot := 2, constantValue := 0 }, { name := "count", type := .int, accessFlags := 0, slot := 3, constantValue := 0 }, { name := "EMPTYVALUE", type := (.array .byte), accessFlags := 26, slot := 0, constantValue := 0 }]
  methods := #[k23m0, k23m1, k23m2, k23m3, k23m4, k23m5, k23m6, k23m7, k23m8]
  instanceTypes := #[(.array .byte), .byte, .boolean, .int]
  staticTypes := #[(.array .byte)]
  resolved := Array.replicate 609 none
  statics := none }

def pool24 : Array CpInfo := pool [(1, .methodref 2 3), (0, .class_ 4), (0, .nameAndType 5 6), (0, u "java/lang/AbstractStringBuilder"), (0, u "<init>"), (0, u "(I)V"), (11, .class_ 20), (1, u "java/lang/String"), (3, .class_ 26), (1, u "java/lang/StringBuilder"), (0, u "append"), (0, u "(Ljava/lang/String;)Ljava/lang/StringBuilder;"), (0, .methodref 2 30), (0, .nameAndType 27 31), (0, u "(Ljava/lang/String;)Ljava/lang/AbstractStringBuilder;"), (105, .methodref 18 138), (0, .nameAndType 5 139), (0, u "(Ljava/lang/StringBuilder;)V"), (5, u "()V"), (10, u "()I"), (186, .methodref 2 344), (0, .nameAndType 345 156), (0, u "length"), (3, .class_ 350), (0, u "java/lang/Appendable"), (0, .class_ 352), (0, u "java/io/Serializable"), (0, .class_ 354), (0, u "java/lang/Comparable"), (0, .class_ 356), (0, u "java/lang/CharSequence"), (0, u "serialVersionUID"), (0, u "J"), (40, u "toString"), (0, u "()Ljava/lang/String;")] 21

def k24c0 : Code := { maxStack := 2, maxLocals := 1, code := jdk_67_method_1_code, exceptionTable := #[], attributes := #[] }
def k24m0 : Method := { name := "<init>", desc := "()V", sig := { parameters := [], returnType := none }, accessFlags := 1, code := some k24c0 }
def k24c1 : Code := { maxStack := 2, maxLocals := 2, code := jdk_67_method_7_code, exceptionTable := #[], attributes := #[] }
def k24m1 : Method := { name := "append", desc := "(Ljava/lang/String;)Ljava/lang/StringBuilder;", sig := { parameters := [(.object "java/lang/String")], returnType := some (.object "java/lang/StringBuilder") }, accessFlags := 1, code := some k24c1 }
def k24c2 : Code := { maxStack := 3, maxLocals := 1, code := jdk_67_method_42_code, exceptionTable := #[], attributes := #[] }
def k24m2 : Method := { name := "toString", desc := "()Ljava/lang/String;", sig := { parameters := [], returnType := some (.object "java/lang/String") }, accessFlags := 1, code := some k24c2 }
def k24c3 : Code := { maxStack := 1, maxLocals := 1, code := jdk_67_method_93_code, exceptionTable := #[], attributes := #[] }
def k24m3 : Method := { name := "length", desc := "()I", sig := { parameters := [], returnType := some .int }, accessFlags := 4161, code := some k24c3 }
/-- java/lang/StringBuilder -/
def k24 : Class := { plain "java/lang/StringBuilder" (some 23) with
  accessFlags := 49
  interfaces := #[22, 2, 3, 4]
  cf := some (fileOf pool24 24 #[] #[{ accessFlags := 1, nameIndex := 5, descriptorIndex := 145, attributes := #[] }, { accessFlags := 1, nameIndex := 27, descriptorIndex := 28, attributes := #[] }, { accessFlags := 1, nameIndex := 399, descriptorIndex := 400, attributes := #[] }, { accessFlags := 4161, nameIndex := 345, descriptorIndex := 156, attributes := #[] }] 49 2 #[349, 351, 353, 355] #[{ accessFlags := 24, nameIndex := 357, descriptorIndex := 358, attributes := #[] }])
  fields := #[{ name := "serialVersionUID", type := .long, accessFlags := 24, slot := 0, constantValue := 0 }]
  methods := #[k24m0, k24m1, k24m2, k24m3]
  instanceTypes := #[(.array .byte), .byte, .boolean, .int]
  staticTypes := #[.long]
  resolved := Array.replicate 422 none
  statics := none }

def pool25 : Array CpInfo := pool [(2, .class_ 4), (1, u "java/lang/Object"), (0, u "<init>"), (0, u "()V"), (1, .class_ 10), (1, u "java/lang/System"), (0, u "allowSecurityManager"), (0, u "I"), (16, u "cons"), (0, u "Ljava/io/Console;"), (77, .class_ 110), (1, u "java/lang/System$CallersHolder"), (43, u "initialErrStream"), (0, u "Ljava/io/PrintStream;"), (19, u "security"), (0, u "Ljava/lang/SecurityManager;"), (31, .class_ 209), (0, u "java/lang/System$1"), (7, u "props"), (0, u "Ljava/util/Properties;"), (2, u "lineSeparator"), (0, u "Ljava/lang/String;"), (96, .class_ 321), (1, u "java/lang/System$LoggerFinder"), (5, .class_ 328), (0, u "java/lang/System$Logger"), (67, u "err"), (2, u "out"), (91, u "notSupportedJnuEncoding"), (15, u "in"), (17, u "initialIn"), (0, u "Ljava/io/InputStream;"), (35, u "bootLayer"), (0, u "Ljava/lang/ModuleLayer;"), (99, .class_ 664), (0, u "java/lang/System$2"), (9, u "NEVER"), (2, u "MAYBE"), (49, u "arraycopy"), (0, u "(Ljava/lang/Object;ILjava/lang/Object;II)V"), (72, .class_ 802), (0, u "java/lang/System$Logger$Level")] 31

def k25m0 : Method := { name := "<init>", desc := "()V", sig := { parameters := [], returnType := none }, accessFlags := 2, code := none }
def k25m1 : Method := { name := "arraycopy", desc := "(Ljava/lang/Object;ILjava/lang/Object;II)V", sig := { parameters := [(.object "java/lang/Object"), .int, (.object "java/lang/Object"), .int, .int], returnType := none }, accessFlags := 265, code := none }
/-- java/lang/System -/
def k25 : Class := { plain "java/lang/System" (some 0) with
  accessFlags := 49
  interfaces := #[]
  cf := some (fileOf pool25 8 #[.nestMembers #[319, 327, 801, 108, 663, 208]] #[{ accessFlags := 2, nameIndex := 5, descriptorIndex := 6, attributes := #[] }, { accessFlags := 265, nameIndex := 727, descriptorIndex := 728, attributes := #[] }] 49 2 #[] #[{ accessFlags := 25, nameIndex := 507, descriptorIndex := 526, attributes := #[] }, { accessFlags := 25, nameIndex := 399, descriptorIndex := 155, attributes := #[] }, { accessFlags := 25, nameIndex := 396, descriptorIndex := 155, attributes := #[] }, { accessFlags := 10, nameIndex := 525, descriptorIndex := 526, attributes := #[] }, { accessFlags := 26, nameIndex := 674, descriptorIndex := 12, attributes := #[] }, { accessFlags := 26, nameIndex := 677, descriptorIndex := 12, attributes := #[] }, { accessFlags := 10, nameIndex := 11, descriptorIndex := 12, attributes := #[] }, { accessFlags := 74, nameIndex := 175, descriptorIndex := 176, attributes := #[] }, { accessFlags := 10, nameIndex := 491, descriptorIndex := 222, attributes := #[] }, { accessFlags := 74, nameIndex := 29, descriptorIndex := 30, attributes := #[] }, { accessFlags := 74, nameIndex := 154, descriptorIndex := 155, attributes := #[] }, { accessFlags := 10, nameIndex := 217, descriptorIndex := 218, attributes := #[] }, { accessFlags := 10, nameIndex := 221, descriptorIndex := 222, attributes := #[] }, { accessFlags := 8, nameIndex := 562, descriptorIndex := 563, attributes := #[] }])
  fields := #[{ name := "in", type := (.object "java/io/InputStream"), accessFlags := 25, slot := 0, constantValue := 0 }, { name := "out", type := (.object "java/io/PrintStream"), accessFlags := 25, slot := 1, constantValue := 0 }, { name := "err", type := (.object "java/io/PrintStream"), accessFlags := 25, slot := 2, constantValue := 0 }, { name := "initialIn", type := (.object "java/io/InputStream"), accessFlags := 10, slot := 3, constantValue := 0 }, { name := "NEVER", type := .int, accessFlags := 26, slot := 4, constantValue := 0 }, { name := "MAYBE", type := .int, accessFlags := 26, slot := 5, constantValue := 0 }, { name := "allowSecurityManager", type := .int, accessFlags := 10, slot := 6, constantValue := 0 }, { name := "security", type := (.object "java/lang/SecurityManager"), accessFlags := 74, slot := 7, constantValue := 0 }, { name := "notSupportedJnuEncoding", type := (.object "java/lang/String"), accessFlags := 10, slot := 8, constantValue := 0 }, { name := "cons", type := (.object "java/io/Console"), accessFlags := 74, slot := 9, constantValue := 0 }, { name := "initialErrStream", type := (.object "java/io/PrintStream"), accessFlags := 74, slot := 10, constantValue := 0 }, { name := "props", type := (.object "java/util/Properties"), accessFlags := 10, slot := 11, constantValue := 0 }, { name := "lineSeparator", type := (.object "java/lang/String"), accessFlags := 10, slot := 12, constantValue := 0 }, { name := "bootLayer", type := (.object "java/lang/ModuleLayer"), accessFlags := 8, slot := 13, constantValue := 0 }]
  methods := #[k25m0, k25m1]
  instanceTypes := #[]
  staticTypes := #[(.object "java/io/InputStream"), (.object "java/io/PrintStream"), (.object "java/io/PrintStream"), (.object "java/io/InputStream"), .int, .int, .int, (.object "java/lang/SecurityManager"), (.object "java/lang/String"), (.object "java/io/Console"), (.object "java/io/PrintStream"), (.object "java/util/Properties"), (.object "java/lang/String"), (.object "java/lang/ModuleLayer")]
  resolved := Array.replicate 834 none
  statics := none }

def pool26 : Array CpInfo := pool [(2, .class_ 4), (1, u "java/lang/Object"), (0, u "<init>"), (0, u "()V"), (7, .class_ 16), (1, u "java/util/Arrays"), (57, .class_ 76), (1, u "java/util/Arrays$NaturalOrder"), (36, .class_ 115), (1, u "java/util/Arrays$LegacyMergeSort"), (1, u "Z"), (21, u "copyOfRange"), (10, .methodref 151 152), (0, .class_ 153), (0, .nameAndType 154 155), (0, u "java/lang/System"), (0, u "arraycopy"), (0, u "(Ljava/lang/Object;ILjava/lang/Object;II)V"), (148, .methodref 305 306), (0, .class_ 307), (0, .nameAndType 308 309), (0, u "java/lang/Math"), (0, u "min"), (0, u "(II)I"), (29, .methodref 14 340), (0, .nameAndType 341 342), (0, u "copyOfRangeByte"), (0, u "([BII)[B"), (0, .methodref 14 344), (0, .nameAndType 345 346), (0, u "checkLength"), (0, u "(II)V"), (28, .class_ 376), (0, u "java/util/Arrays$ArrayList"), (68, u "$assertionsDisabled"), (269, u "MIN_ARRAY_SORT_GRAN"), (0, u "I"), (2, u "INSERTIONSORT_THRESHOLD"), (255, .class_ 976), (0, u "java/util/Arrays$ArrayItr")] 52

def k26m0 : Method := { name := "<init>", desc := "()V", sig := { parameters := [], returnType := none }, accessFlags := 2, code := none }
def k26c1 : Code := { maxStack := 4, maxLocals := 2, code := jdk_65_method_131_code, exceptionTable := #[], attributes := #[] }
def k26m1 : Method := { name := "checkLength", desc := "(II)V", sig := { parameters := [.int, .int], returnType := none }, accessFlags := 10, code := some k26c1 }
def k26c2 : Code := { maxStack := 3, maxLocals := 3, code := jdk_65_method_132_code, exceptionTable := #[], attributes := #[] }
def k26m2 : Method := { name := "copyOfRange", desc := "([BII)[B", sig := { parameters := [(.array .byte), .int, .int], returnType := some (.array .byte) }, accessFlags := 9, code := some k26c2 }
def k26c3 : Code := { maxStack := 6, maxLocals := 5, code := jdk_65_method_133_code, exceptionTable := #[], attributes := #[] }
def k26m3 : Method := { name := "copyOfRangeByte", desc := "([BII)[B", sig := { parameters := [(.array .byte), .int, .int], returnType := some (.array .byte) }, accessFlags := 10, code := some k26c3 }
/-- java/util/Arrays -/
def k26 : Class := { plain "java/util/Arrays" (some 0) with
  accessFlags := 49
  interfaces := #[]
  cf := some (fileOf pool26 14 #[.nestMembers #[975, 375, 113, 74]] #[{ accessFlags := 2, nameIndex := 5, descriptorIndex := 6, attributes := #[] }, { accessFlags := 10, nameIndex := 345, descriptorIndex := 346, attributes := #[] }, { accessFlags := 9, nameIndex := 139, descriptorIndex := 342, attributes := #[] }, { accessFlags := 10, nameIndex := 341, descriptorIndex := 342, attributes := #[] }] 49 2 #[] #[{ accessFlags := 26, nameIndex := 715, descriptorIndex := 716, attributes := #[] }, { accessFlags := 26, nameIndex := 719, descriptorIndex := 716, attributes := #[] }, { accessFlags := 4120, nameIndex := 445, descriptorIndex := 117, attributes := #[] }])
  fields := #[{ name := "MIN_ARRAY_SORT_GRAN", type := .int, accessFlags := 26, slot := 0, constantValue := 0 }, { name := "INSERTIONSORT_THRESHOLD", type := .int, accessFlags := 26, slot := 1, constantValue := 0 }, { name := "$assertionsDisabled", type := .boolean, accessFlags := 4120, slot := 2, constantValue := 0 }]
  methods := #[k26m0, k26m1, k26m2, k26m3]
  instanceTypes := #[]
  staticTypes := #[.int, .int, .boolean]
  resolved := Array.replicate 1029 none
  statics := none }

def pool27 : Array CpInfo := pool [(1, .class_ 2), (0, u "java/lang/Math"), (1, .class_ 6), (1, u "java/lang/Object"), (0, u "<init>"), (0, u "()V"), (89, .class_ 100), (1, u "java/lang/Math$RandomNumberGeneratorHolder"), (71, u "negativeZeroFloatBits"), (0, u "J"), (2, u "negativeZeroDoubleBits"), (24, u "min"), (43, u "$assertionsDisabled"), (0, u "Z"), (88, u "(II)I"), (2, u "twoToTheDoubleScaleDown"), (0, u "D"), (4, u "twoToTheDoubleScaleUp"), (9, u "E"), (3, u "PI"), (2, u "TAU"), (2, u "DEGREES_TO_RADIANS"), (0, u "RADIANS_TO_DEGREES")] 94

def k27m0 : Method := { name := "<init>", desc := "()V", sig := { parameters := [], returnType := none }, accessFlags := 2, code := none }
def k27c1 : Code := { maxStack := 2, maxLocals := 2, code := jdk_29_method_69_code, exceptionTable := #[], attributes := #[] }
def k27m1 : Method := { name := "min", desc := "(II)I", sig := { parameters := [.int, .int], returnType := some .int }, accessFlags := 9, code := some k27c1 }
/-- java/lang/Math -/
def k27 : Class := { plain "java/lang/Math" (some 0) with
  accessFlags := 49
  interfaces := #[]
  cf := some (fileOf pool27 1 #[.nestMembers #[98]] #[{ accessFlags := 2, nameIndex := 7, descriptorIndex := 8, attributes := #[] }, { accessFlags := 9, nameIndex := 201, descriptorIndex := 335, attributes := #[] }] 49 4 #[] #[{ accessFlags := 25, nameIndex := 354, descriptorIndex := 339, attributes := #[] }, { accessFlags := 25, nameIndex := 358, descriptorIndex := 339, attributes := #[] }, { accessFlags := 25, nameIndex := 361, descriptorIndex := 339, attributes := #[] }, { accessFlags := 26, nameIndex := 364, descriptorIndex := 339, attributes := #[] }, { accessFlags := 26, nameIndex := 365, descriptorIndex := 339, attributes := #[] }, { accessFlags := 26, nameIndex := 172, descriptorIndex := 173, attributes := #[] }, { accessFlags := 26, nameIndex := 176, descriptorIndex := 173, attributes := #[] }, { accessFlags := 8, nameIndex := 344, descriptorIndex := 339, attributes := #[] }, { accessFlags := 8, nameIndex := 338, descriptorIndex := 339, attributes := #[] }, { accessFlags := 4120, nameIndex := 245, descriptorIndex := 246, attributes := #[] }])
  fields := #[{ name := "E", type := .double, accessFlags := 25, slot := 0, constantValue := 0 }, { name := "PI", type := .double, accessFlags := 25, slot := 1, constantValue := 0 }, { name := "TAU", type := .double, accessFlags := 25, slot := 2, constantValue := 0 }, { name := "DEGREES_TO_RADIANS", type := .double, accessFlags := 26, slot := 3, constantValue := 0 }, { name := "RADIANS_TO_DEGREES", type := .double, accessFlags := 26, slot := 4, constantValue := 0 }, { name := "negativeZeroFloatBits", type := .long, accessFlags := 26, slot := 5, constantValue := 0 }, { name := "negativeZeroDoubleBits", type := .long, accessFlags := 26, slot := 6, constantValue := 0 }, { name := "twoToTheDoubleScaleUp", type := .double, accessFlags := 8, slot := 7, constantValue := 0 }, { name := "twoToTheDoubleScaleDown", type := .double, accessFlags := 8, slot := 8, constantValue := 0 }, { name := "$assertionsDisabled", type := .boolean, accessFlags := 4120, slot := 9, constantValue := 0 }]
  methods := #[k27m0, k27m1]
  instanceTypes := #[]
  staticTypes := #[.double, .double, .double, .double, .double, .long, .long, .double, .double, .boolean]
  resolved := Array.replicate 460 none
  statics := none }

def pool28 : Array CpInfo := pool [(2, .class_ 4), (1, u "java/lang/Object"), (0, u "<init>"), (0, u "()V"), (17, .class_ 26), (1, u "jdk/internal/util/Preconditions"), (6, u "checkIndex"), (21, .class_ 56), (0, u "jdk/internal/util/Preconditions$4"), (57, .class_ 115), (0, u "jdk/internal/util/Preconditions$1"), (7, u "SIOOBE_FORMATTER"), (0, u "Ljava/util/function/BiFunction;"), (0, .class_ 126), (0, u "jdk/internal/util/Preconditions$2"), (3, u "AIOOBE_FORMATTER"), (0, .class_ 132), (0, u "jdk/internal/util/Preconditions$3"), (3, u "IOOBE_FORMATTER"), (41, u "(IILjava/util/function/BiFunction;)I")] 15

def k28m0 : Method := { name := "<init>", desc := "()V", sig := { parameters := [], returnType := none }, accessFlags := 1, code := none }
def k28c1 : Code := { maxStack := 3, maxLocals := 3, code := jdk_41_method_11_code, exceptionTable := #[], attributes := #[] }
def k28m1 : Method := { name := "checkIndex", desc := "(IILjava/util/function/BiFunction;)I", sig := { parameters := [.int, .int, (.object "java/util/function/BiFunction")], returnType := some .int }, accessFlags := 9, code := some k28c1 }
/-- jdk/internal/util/Preconditions -/
def k28 : Class := { plain "jdk/internal/util/Preconditions" (some 0) with
  accessFlags := 33
  interfaces := #[]
  cf := some (fileOf pool28 24 #[.nestMembers #[55, 131, 125, 114]] #[{ accessFlags := 1, nameIndex := 5, descriptorIndex := 6, attributes := #[] }, { accessFlags := 9, nameIndex := 33, descriptorIndex := 178, attributes := #[] }] 33 2 #[] #[{ accessFlags := 25, nameIndex := 123, descriptorIndex := 124, attributes := #[] }, { accessFlags := 25, nameIndex := 130, descriptorIndex := 124, attributes := #[] }, { accessFlags := 25, nameIndex := 136, descriptorIndex := 124, attributes := #[] }])
  fields := #[{ name := "SIOOBE_FORMATTER", type := (.object "java/util/function/BiFunction"), accessFlags := 25, slot := 0, constantValue := 0 }, { name := "AIOOBE_FORMATTER", type := (.object "java/util/function/BiFunction"), accessFlags := 25, slot := 1, constantValue := 0 }, { name := "IOOBE_FORMATTER", type := (.object "java/util/function/BiFunction"), accessFlags := 25, slot := 2, constantValue := 0 }]
  methods := #[k28m0, k28m1]
  instanceTypes := #[]
  staticTypes := #[(.object "java/util/function/BiFunction"), (.object "java/util/function/BiFunction"), (.object "java/util/function/BiFunction")]
  resolved := Array.replicate 194 none
  statics := some 2 }

def pool29 : Array CpInfo := pool [(2, .class_ 4), (1, u "java/util/ImmutableCollections$AbstractImmutableList"), (3, .class_ 10), (1, u "java/util/ImmutableCollections$ListN"), (0, u "elements"), (0, u "[Ljava/lang/Object;"), (2, u "allowNulls"), (0, u "Z"), (42, .class_ 60), (0, u "java/io/Serializable"), (53, .class_ 115), (0, u "java/util/ImmutableCollections")] 3

/-- java/util/ImmutableCollections$ListN -/
def k29 : Class := { plain "java/util/ImmutableCollections$ListN" (some 19) with
  accessFlags := 48
  interfaces := #[2]
  cf := some (fileOf pool29 8 #[.nestHost 114] #[] 48 2 #[59] #[{ accessFlags := 18, nameIndex := 11, descriptorIndex := 12, attributes := #[] }, { accessFlags := 18, nameIndex := 15, descriptorIndex := 16, attributes := #[] }])
  fields := #[{ name := "elements", type := (.array (.object "java/lang/Object")), accessFlags := 18, slot := 0, constantValue := 0 }, { name := "allowNulls", type := .boolean, accessFlags := 18, slot := 1, constantValue := 0 }]
  methods := #[]
  instanceTypes := #[(.array (.object "java/lang/Object")), .boolean]
  staticTypes := #[]
  resolved := Array.replicate 119 none
  statics := none }

def pool30 : Array CpInfo := pool [(9, u "<init>"), (6, .class_ 18), (1, u "java/lang/Object"), (0, u "()V"), (1, .class_ 23), (1, u "jdk/internal/util/ArraysSupport"), (0, u "LOG2_ARRAY_LONG_INDEX_SCALE"), (0, u "I"), (2, u "U"), (0, u "Ljdk/internal/misc/Unsafe;"), (8, u "BIG_ENDIAN"), (0, u "Z"), (8, u "LOG2_BYTE_BIT_SIZE"), (4, u "LOG2_ARRAY_INT_INDEX_SCALE"), (54, u "JLA"), (0, u "Ljdk/internal/access/JavaLangAccess;"), (11, u "LOG2_ARRAY_BOOLEAN_INDEX_SCALE"), (9, u "LOG2_ARRAY_BYTE_INDEX_SCALE"), (5, u "LOG2_ARRAY_CHAR_INDEX_SCALE"), (5, u "LOG2_ARRAY_SHORT_INDEX_SCALE"), (18, u "LOG2_ARRAY_FLOAT_INDEX_SCALE"), (24, u "LOG2_ARRAY_DOUBLE_INDEX_SCALE"), (89, u "T_BOOLEAN"), (2, u "T_CHAR"), (1, u "T_FLOAT"), (1, u "T_DOUBLE"), (1, u "T_BYTE"), (1, u "T_SHORT"), (1, u "T_INT"), (1, u "T_LONG"), (1, u "SOFT_MAX_ARRAY_LENGTH")] 83

def k30m0 : Method := { name := "<init>", desc := "()V", sig := { parameters := [], returnType := none }, accessFlags := 2, code := none }
/-- jdk/internal/util/ArraysSupport -/
def k30 : Class := { plain "jdk/internal/util/ArraysSupport" (some 0) with
  accessFlags := 33
  interfaces := #[]
  cf := some (fileOf pool30 21 #[] #[{ accessFlags := 2, nameIndex := 9, descriptorIndex := 19, attributes := #[] }] 33 16 #[] #[{ accessFlags := 24, nameIndex := 28, descriptorIndex := 29, attributes := #[] }, { accessFlags := 26, nameIndex := 38, descriptorIndex := 39, attributes := #[] }, { accessFlags := 25, nameIndex := 121, descriptorIndex := 25, attributes := #[] }, { accessFlags := 25, nameIndex := 131, descriptorIndex := 25, attributes := #[] }, { accessFlags := 25, nameIndex := 137, descriptorIndex := 25, attributes := #[] }, { accessFlags := 25, nameIndex := 143, descriptorIndex := 25, attributes := #[] }, { accessFlags := 25, nameIndex := 53, descriptorIndex := 25, attributes := #[] }, { accessFlags := 25, nameIndex := 24, descriptorIndex := 25, attributes := #[] }, { accessFlags := 25, nameIndex := 162, descriptorIndex := 25, attributes := #[] }, { accessFlags := 25, nameIndex := 187, descriptorIndex := 25, attributes := #[] }, { accessFlags := 26, nameIndex := 48, descriptorIndex := 25, attributes := #[] }, { accessFlags := 25, nameIndex := 277, descriptorIndex := 25, attributes := #[] }, { accessFlags := 25, nameIndex := 280, descriptorIndex := 25, attributes := #[] }, { accessFlags := 25, nameIndex := 282, descriptorIndex := 25, attributes := #[] }, { accessFlags := 25, nameIndex := 284, descriptorIndex := 25, attributes := #[] }, { accessFlags := 25, nameIndex := 286, descriptorIndex := 25, attributes := #[] }, { accessFlags := 25, nameIndex := 288, descriptorIndex := 25, attributes := #[] }, { accessFlags := 25, nameIndex := 290, descriptorIndex := 25, attributes := #[] }, { accessFlags := 25, nameIndex := 292, descriptorIndex := 25, attributes := #[] }, { accessFlags := 26, nameIndex := 108, descriptorIndex := 109, attributes := #[] }, { accessFlags := 25, nameIndex := 294, descriptorIndex := 25, attributes := #[] }])
  fields := #[{ name := "U", type := (.object "jdk/internal/misc/Unsafe"), accessFlags := 24, slot := 0, constantValue := 0 }, { name := "BIG_ENDIAN", type := .boolean, accessFlags := 26, slot := 1, constantValue := 0 }, { name := "LOG2_ARRAY_BOOLEAN_INDEX_SCALE", type := .int, accessFlags := 25, slot := 2, constantValue := 0 }, { name := "LOG2_ARRAY_BYTE_INDEX_SCALE", type := .int, accessFlags := 25, slot := 3, constantValue := 0 }, { name := "LOG2_ARRAY_CHAR_INDEX_SCALE", type := .int, accessFlags := 25, slot := 4, constantValue := 0 }, { name := "LOG2_ARRAY_SHORT_INDEX_SCALE", type := .int, accessFlags := 25, slot := 5, constantValue := 0 }, { name := "LOG2_ARRAY_INT_INDEX_SCALE", type := .int, accessFlags := 25, slot := 6, constantValue := 0 }, { name := "LOG2_ARRAY_LONG_INDEX_SCALE", type := .int, accessFlags := 25, slot := 7, constantValue := 0 }, { name := "LOG2_ARRAY_FLOAT_INDEX_SCALE", type := .int, accessFlags := 25, slot := 8, constantValue := 0 }, { name := "LOG2_ARRAY_DOUBLE_INDEX_SCALE", type := .int, accessFlags := 25, slot := 9, constantValue := 0 }, { name := "LOG2_BYTE_BIT_SIZE", type := .int, accessFlags := 26, slot := 10, constantValue := 0 }, { name := "T_BOOLEAN", type := .int, accessFlags := 25, slot := 11, constantValue := 0 }, { name := "T_CHAR", type := .int, accessFlags := 25, slot := 12, constantValue := 0 }, { name := "T_FLOAT", type := .int, accessFlags := 25, slot := 13, constantValue := 0 }, { name := "T_DOUBLE", type := .int, accessFlags := 25, slot := 14, constantValue := 0 }, { name := "T_BYTE", type := .int, accessFlags := 25, slot := 15, constantValue := 0 }, { name := "T_SHORT", type := .int, accessFlags := 25, slot := 16, constantValue := 0 }, { name := "T_INT", type := .int, accessFlags := 25, slot := 17, constantValue := 0 }, { name := "T_LONG", type := .int, accessFlags := 25, slot := 18, constantValue := 0 }, { name := "JLA", type := (.object "jdk/internal/access/JavaLangAccess"), accessFlags := 26, slot := 19, constantValue := 0 }, { name := "SOFT_MAX_ARRAY_LENGTH", type := .int, accessFlags := 25, slot := 20, constantValue := 0 }]
  methods := #[k30m0]
  instanceTypes := #[]
  staticTypes := #[(.object "jdk/internal/misc/Unsafe"), .boolean, .int, .int, .int, .int, .int, .int, .int, .int, .int, .int, .int, .int, .int, .int, .int, .int, .int, (.object "jdk/internal/access/JavaLangAccess"), .int]
  resolved := Array.replicate 378 none
  statics := none }

def pool31 : Array CpInfo := pool [(1, u "java/lang/Cloneable"), (0, .class_ 1), (0, u "java/lang/Object"), (0, .class_ 3)] 3

/-- java/lang/Cloneable -/
def k31 : Class := { plain "java/lang/Cloneable" (some 0) with
  accessFlags := 1537
  interfaces := #[]
  cf := some (fileOf pool31 2 #[] #[] 1537 4 #[] #[])
  fields := #[]
  methods := #[]
  instanceTypes := #[]
  staticTypes := #[]
  resolved := Array.replicate 8 none
  statics := none }

/-- the primitive byte -/
def k32 : Class := { plain "byte" none with kind := .primitive 'B', accessFlags := 0x411 }
/-- [B -/
def k33 : Class := { plain "[B" (some 0) with kind := .array 32 .byte, interfaces := #[31, 2], accessFlags := 1041 }

/-- the primitive char -/
def k34 : Class := { plain "char" none with kind := .primitive 'C', accessFlags := 0x411 }
/-- [C -/
def k35 : Class := { plain "[C" (some 0) with kind := .array 34 .char, interfaces := #[31, 2], accessFlags := 1041 }

/-- the primitive int -/
def k36 : Class := { plain "int" none with kind := .primitive 'I', accessFlags := 0x411 }
/-- [I -/
def k37 : Class := { plain "[I" (some 0) with kind := .array 36 .int, interfaces := #[31, 2], accessFlags := 1041 }

/-- [Ljava/lang/Object; -/
def k38 : Class := { plain "[Ljava/lang/Object;" (some 0) with kind := .array 0 (.object "java/lang/Object"), interfaces := #[31, 2], accessFlags := 1041 }

/-- [Ljava/lang/String; -/
def k39 : Class := { plain "[Ljava/lang/String;" (some 0) with kind := .array 7 (.object "java/lang/String"), interfaces := #[31, 2], accessFlags := 1041 }

def heap : Heap := #[{ cls := 7, slots := #[.long 0, .int 1, .null, .int 0, .null, .int 0, .int 0], vm := .statics 7 },
  { cls := 21, slots := #[.long 0, .int 0, .null, .ref 5, .ref 4, .null, .null, .null, .int 0, .int 1], vm := .statics 21 },
  { cls := 28, slots := #[.null, .null, .null], vm := .statics 28 },
  { cls := 38, slots := #[], vm := .none },
  { cls := 29, slots := #[.ref 3, .int 0], vm := .none },
  { cls := 0, slots := #[], vm := .none }]
def classes : Array Class := #[k0, k1, k2, k3, k4, k5, k6, k7, k8, k9, k10, k11, k12, k13, k14, k15, k16, k17, k18, k19, k20, k21, k22, k23, k24, k25, k26, k27, k28, k29, k30, k31, k32, k33, k34, k35, k36, k37, k38, k39]
def interned : List (Array UInt16 × Addr) := []
def slotsUsed : Nat := 22
def theMethod : MethodId := ⟨1, 1⟩
def args0 : Array Value := #[.int 5, .int 6, .int 7]
def aboutOver (below : List Frame) : State where
  vm := { classes := classes, interned := interned.toArray }
  heap := heap
  slotsUsed := slotsUsed
  threads := #[{ frames := .invoking theMethod args0 :: below }]
def below0 : List Frame := [.native { method := ⟨0, 0⟩, args := #[] }]
def about1 : State := aboutOver below0
def p0 : Program := .bare "" "" ""
def e0 : Env := launch0.env 0 0 0
theorem w_frames : about1.frames = Frame.invoking theMethod args0 :: below0 := rfl
set_option maxRecDepth 65536 in
theorem w_args : argsFit about1.vm theMethod args0 = true := by decide +kernel
set_option maxRecDepth 65536 in
theorem w_heap : heapFits about1 = true := by decide +kernel
set_option maxRecDepth 65536 in
theorem w_runnable : about1.curStatus? = some .runnable := by decide +kernel
set_option maxRecDepth 65536 in
theorem w_alone : about1.alone = true := by decide +kernel
set_option maxRecDepth 65536 in
theorem w_named : about1.methodNamed? x = some theMethod := by decide +kernel
set_option maxRecDepth 65536 in
theorem w_hears : about1.hears theMethod below0 = true := by decide +kernel
set_option maxRecDepth 65536 in
theorem w_ripe : about1.ripe theMethod args0 below0 = true := by decide +kernel
theorem w_running : about1.status = .running := rfl
set_option maxRecDepth 65536 in
theorem w_room : about1.hasRoom e0.platform room_1 = true :=
  launch0.hasRoom_least _ room_1 (by decide +kernel) (by decide +kernel) (by decide +kernel) (by decide +kernel) (by decide +kernel) (by decide +kernel)
theorem allAtoms_all (ts : List Jvm.Cond) (a : Array Jvm.Value) (st : Jvm.State) : (allAtoms ts).before a st = ts.all (fun c => c.before a st) := by
  induction ts with
  | nil => rfl
  | cons c t ih =>
    show (Jvm.Cond.and c (allAtoms t)).before a st = _
    rw [Jvm.Cond.before_and, ih, List.all_cons]
def words1 : List Jvm.Cond := Jvm.Cond.code x code maxLocals ret :: tables_1
/-- a 'code' word, met by the world's own term for the bytes: nothing is compared byte by byte -/
theorem code_word {y : MethodName} {bytes : ByteArray} {mx : Nat} {rt : Option FieldType} {a : Array Value} {s : State} {m : MethodId} {meth : Method} {c : Code} (h1 : s.methodNamed? y = some m) (h2 : s.vm.method? m = some meth) (h3 : meth.code = some c) (h4 : c.code = bytes)
    (h5 : (c.maxLocals == mx && c.exceptionTable.isEmpty && decide (c.maxStack ≤ mostOperands) && decide (meth.sig.returnType = rt) && !meth.locks && decide (parseMethodDescriptor y.desc = some meth.sig)) = true) : (Jvm.Cond.code y bytes mx rt).before a s = true := by
  simp only [Bool.and_eq_true, beq_iff_eq, Bool.not_eq_true', decide_eq_true_eq] at h5
  obtain ⟨⟨⟨⟨⟨g1, g2⟩, g3⟩, g4⟩, g5⟩, g6⟩ := h5
  simp [Cond.before, Cond.holds, Cond.value, h1, h2, h3, h4, g1, g2, g3, g4, g5, g6]
def isCode : Jvm.Cond → Bool
  | .code _ _ _ _ => true
  | _ => false
theorem all_split {L : List Jvm.Cond} {P : Jvm.Cond → Bool} (h1 : L.all (fun c => isCode c || P c) = true) (h2 : ∀ c ∈ L.filter isCode, P c = true) : L.all P = true := by
  refine List.all_eq_true.mpr fun c hc => ?_
  have h := List.all_eq_true.mp h1 c hc
  rcases Bool.eq_false_or_eq_true (isCode c) with hi | hi
  · exact h2 c (List.mem_filter.mpr ⟨hc, hi⟩)
  · simpa [hi] using h
set_option maxRecDepth 65536 in
theorem w_c0 : (Jvm.Cond.code x code maxLocals ret).before args0 about1 = true := code_word (m := ⟨1, 1⟩) (meth := k1m1) (c := k1c1) (by decide +kernel) rfl rfl rfl (by decide +kernel)
set_option maxRecDepth 65536 in
theorem w_c1 : (Jvm.Cond.code ({ cls := "java/lang/String", name := "<init>", desc := "([C)V" } : Jvm.MethodName) jdk_42_method_3_code (2 : Nat) (Option.none : Option Jvm.ClassFile.FieldType)).before args0 about1 = true := code_word (m := ⟨7, 1⟩) (meth := k7m1) (c := k7c1) (by decide +kernel) rfl rfl rfl (by decide +kernel)
set_option maxRecDepth 65536 in
theorem w_c2 : (Jvm.Cond.code ({ cls := "java/lang/String", name := "<init>", desc := "([CIILjava/lang/Void;)V" } : Jvm.MethodName) jdk_42_method_149_code (6 : Nat) (Option.none : Option Jvm.ClassFile.FieldType)).before args0 about1 = true := code_word (m := ⟨7, 7⟩) (meth := k7m7) (c := k7c7) (by decide +kernel) rfl rfl rfl (by decide +kernel)
set_option maxRecDepth 65536 in
theorem w_c3 : (Jvm.Cond.code ({ cls := "java/lang/Object", name := "<init>", desc := "()V" } : Jvm.MethodName) object_method_1_code (1 : Nat) (Option.none : Option Jvm.ClassFile.FieldType)).before args0 about1 = true := code_word (m := ⟨0, 0⟩) (meth := k0m0) (c := k0c0) (by decide +kernel) rfl rfl rfl (by decide +kernel)
set_option maxRecDepth 65536 in
theorem w_c4 : (Jvm.Cond.code ({ cls := "java/lang/StringUTF16", name := "compress", desc := "([CII)[B" } : Jvm.MethodName) jdk_52_method_16_code (6 : Nat) (Option.some (Jvm.ClassFile.FieldType.array Jvm.ClassFile.FieldType.byte))).before args0 about1 = true := code_word (m := ⟨8, 2⟩) (meth := k8m2) (c := k8c2) (by decide +kernel) rfl rfl rfl (by decide +kernel)
set_option maxRecDepth 65536 in
theorem w_c5 : (Jvm.Cond.code ({ cls := "java/lang/StringUTF16", name := "compress", desc := "([CI[BII)I" } : Jvm.MethodName) jdk_52_method_21_code (7 : Nat) (Option.some Jvm.ClassFile.FieldType.int)).before args0 about1 = true := code_word (m := ⟨8, 3⟩) (meth := k8m3) (c := k8c3) (by decide +kernel) rfl rfl rfl (by decide +kernel)
set_option maxRecDepth 65536 in
theorem w_c6 : (Jvm.Cond.code ({ cls := "java/lang/StringUTF16", name := "coderFromArrayLen", desc := "([BI)B" } : Jvm.MethodName) jdk_52_method_15_code (2 : Nat) (Option.some Jvm.ClassFile.FieldType.byte)).before args0 about1 = true := code_word (m := ⟨8, 1⟩) (meth := k8m1) (c := k8c1) (by decide +kernel) rfl rfl rfl (by decide +kernel)
set_option maxRecDepth 65536 in
theorem w_c7 : (Jvm.Cond.code ({ cls := "java/lang/String", name := "valueOf", desc := "(C)Ljava/lang/String;" } : Jvm.MethodName) jdk_42_method_139_code (1 : Nat) (Option.some (Jvm.ClassFile.FieldType.object "java/lang/String"))).before args0 about1 = true := code_word (m := ⟨7, 5⟩) (meth := k7m5) (c := k7c5) (by decide +kernel) rfl rfl rfl (by decide +kernel)
set_option maxRecDepth 65536 in
theorem w_c8 : (Jvm.Cond.code ({ cls := "java/lang/StringLatin1", name := "canEncode", desc := "(C)Z" } : Jvm.MethodName) jdk_43_method_3_code (1 : Nat) (Option.some Jvm.ClassFile.FieldType.boolean)).before args0 about1 = true := code_word (m := ⟨9, 2⟩) (meth := k9m2) (c := k9c2) (by decide +kernel) rfl rfl rfl (by decide +kernel)
set_option maxRecDepth 65536 in
theorem w_c9 : (Jvm.Cond.code ({ cls := "java/lang/StringLatin1", name := "toBytes", desc := "(C)[B" } : Jvm.MethodName) jdk_43_method_46_code (1 : Nat) (Option.some (Jvm.ClassFile.FieldType.array Jvm.ClassFile.FieldType.byte))).before args0 about1 = true := code_word (m := ⟨9, 3⟩) (meth := k9m3) (c := k9c3) (by decide +kernel) rfl rfl rfl (by decide +kernel)
set_option maxRecDepth 65536 in
theorem w_c10 : (Jvm.Cond.code ({ cls := "java/lang/String", name := "<init>", desc := "([BB)V" } : Jvm.MethodName) jdk_42_method_151_code (3 : Nat) (Option.none : Option Jvm.ClassFile.FieldType)).before args0 about1 = true := code_word (m := ⟨7, 9⟩) (meth := k7m9) (c := k7c9) (by decide +kernel) rfl rfl rfl (by decide +kernel)
set_option maxRecDepth 65536 in
theorem w_c11 : (Jvm.Cond.code ({ cls := "com/example/ampliar/ampliar/command/Parameter", name := "<init>", desc := "(Ljava/lang/String;Ljava/lang/String;[Ljava/lang/String;)V" } : Jvm.MethodName) prog_6_method_1_code (4 : Nat) (Option.none : Option Jvm.ClassFile.FieldType)).before args0 about1 = true := code_word (m := ⟨10, 0⟩) (meth := k10m0) (c := k10c0) (by decide +kernel) rfl rfl rfl (by decide +kernel)
set_option maxRecDepth 65536 in
theorem w_c12 : (Jvm.Cond.code ({ cls := "java/util/Objects", name := "requireNonNull", desc := "(Ljava/lang/Object;Ljava/lang/String;)Ljava/lang/Object;" } : Jvm.MethodName) jdk_31_method_11_code (2 : Nat) (Option.some (Jvm.ClassFile.FieldType.object "java/lang/Object"))).before args0 about1 = true := code_word (m := ⟨11, 2⟩) (meth := k11m2) (c := k11c2) (by decide +kernel) rfl rfl rfl (by decide +kernel)
set_option maxRecDepth 65536 in
theorem w_c13 : (Jvm.Cond.code ({ cls := "java/util/List", name := "of", desc := "([Ljava/lang/Object;)Ljava/util/List;" } : Jvm.MethodName) jdk_40_method_47_code (2 : Nat) (Option.some (Jvm.ClassFile.FieldType.object "java/util/List"))).before args0 about1 = true := code_word (m := ⟨15, 0⟩) (meth := k15m0) (c := k15c0) (by decide +kernel) rfl rfl rfl (by decide +kernel)
set_option maxRecDepth 65536 in
theorem w_c14 : (Jvm.Cond.code ({ cls := "java/util/ImmutableCollections$List12", name := "<init>", desc := "(Ljava/lang/Object;)V" } : Jvm.MethodName) jdk_44_method_1_code (2 : Nat) (Option.none : Option Jvm.ClassFile.FieldType)).before args0 about1 = true := code_word (m := ⟨20, 0⟩) (meth := k20m0) (c := k20c0) (by decide +kernel) rfl rfl rfl (by decide +kernel)
set_option maxRecDepth 65536 in
theorem w_c15 : (Jvm.Cond.code ({ cls := "java/util/ImmutableCollections$AbstractImmutableList", name := "<init>", desc := "()V" } : Jvm.MethodName) jdk_46_method_1_code (1 : Nat) (Option.none : Option Jvm.ClassFile.FieldType)).before args0 about1 = true := code_word (m := ⟨19, 0⟩) (meth := k19m0) (c := k19c0) (by decide +kernel) rfl rfl rfl (by decide +kernel)
set_option maxRecDepth 65536 in
theorem w_c16 : (Jvm.Cond.code ({ cls := "java/util/ImmutableCollections$AbstractImmutableCollection", name := "<init>", desc := "()V" } : Jvm.MethodName) jdk_47_method_1_code (1 : Nat) (Option.none : Option Jvm.ClassFile.FieldType)).before args0 about1 = true := code_word (m := ⟨17, 0⟩) (meth := k17m0) (c := k17c0) (by decide +kernel) rfl rfl rfl (by decide +kernel)
set_option maxRecDepth 65536 in
theorem w_c17 : (Jvm.Cond.code ({ cls := "java/util/AbstractCollection", name := "<init>", desc := "()V" } : Jvm.MethodName) jdk_22_method_1_code (1 : Nat) (Option.none : Option Jvm.ClassFile.FieldType)).before args0 about1 = true := code_word (m := ⟨16, 0⟩) (meth := k16m0) (c := k16c0) (by decide +kernel) rfl rfl rfl (by decide +kernel)
set_option maxRecDepth 65536 in
theorem w_c18 : (Jvm.Cond.code ({ cls := "java/util/Objects", name := "requireNonNull", desc := "(Ljava/lang/Object;)Ljava/lang/Object;" } : Jvm.MethodName) jdk_31_method_10_code (1 : Nat) (Option.some (Jvm.ClassFile.FieldType.object "java/lang/Object"))).before args0 about1 = true := code_word (m := ⟨11, 1⟩) (meth := k11m1) (c := k11c1) (by decide +kernel) rfl rfl rfl (by decide +kernel)
set_option maxRecDepth 65536 in
theorem w_c19 : (Jvm.Cond.code ({ cls := "com/example/ampliar/ampliar/command/Parameter", name := "isFlag", desc := "()Z" } : Jvm.MethodName) prog_6_method_5_code (1 : Nat) (Option.some Jvm.ClassFile.FieldType.boolean)).before args0 about1 = true := code_word (m := ⟨10, 3⟩) (meth := k10m3) (c := k10c3) (by decide +kernel) rfl rfl rfl (by decide +kernel)
set_option maxRecDepth 65536 in
theorem w_c20 : (Jvm.Cond.code ({ cls := "com/example/ampliar/ampliar/command/Parameter", name := "usage", desc := "()Ljava/lang/String;" } : Jvm.MethodName) prog_6_method_6_code (1 : Nat) (Option.some (Jvm.ClassFile.FieldType.object "java/lang/String"))).before args0 about1 = true := code_word (m := ⟨10, 4⟩) (meth := k10m4) (c := k10c4) (by decide +kernel) rfl rfl rfl (by decide +kernel)
set_option maxRecDepth 65536 in
theorem w_c21 : (Jvm.Cond.code ({ cls := "java/lang/StringBuilder", name := "<init>", desc := "()V" } : Jvm.MethodName) jdk_67_method_1_code (1 : Nat) (Option.none : Option Jvm.ClassFile.FieldType)).before args0 about1 = true := code_word (m := ⟨24, 0⟩) (meth := k24m0) (c := k24c0) (by decide +kernel) rfl rfl rfl (by decide +kernel)
set_option maxRecDepth 65536 in
theorem w_c22 : (Jvm.Cond.code ({ cls := "java/lang/AbstractStringBuilder", name := "<init>", desc := "(I)V" } : Jvm.MethodName) jdk_68_method_2_code (2 : Nat) (Option.none : Option Jvm.ClassFile.FieldType)).before args0 about1 = true := code_word (m := ⟨23, 1⟩) (meth := k23m1) (c := k23c1) (by decide +kernel) rfl rfl rfl (by decide +kernel)
set_option maxRecDepth 65536 in
theorem w_c23 : (Jvm.Cond.code ({ cls := "java/lang/StringBuilder", name := "append", desc := "(Ljava/lang/String;)Ljava/lang/StringBuilder;" } : Jvm.MethodName) jdk_67_method_7_code (2 : Nat) (Option.some (Jvm.ClassFile.FieldType.object "java/lang/StringBuilder"))).before args0 about1 = true := code_word (m := ⟨24, 1⟩) (meth := k24m1) (c := k24c1) (by decide +kernel) rfl rfl rfl (by decide +kernel)
set_option maxRecDepth 65536 in
theorem w_c24 : (Jvm.Cond.code ({ cls := "java/lang/AbstractStringBuilder", name := "append", desc := "(Ljava/lang/String;)Ljava/lang/AbstractStringBuilder;" } : Jvm.MethodName) jdk_68_method_22_code (3 : Nat) (Option.some (Jvm.ClassFile.FieldType.object "java/lang/AbstractStringBuilder"))).before args0 about1 = true := code_word (m := ⟨23, 4⟩) (meth := k23m4) (c := k23c4) (by decide +kernel) rfl rfl rfl (by decide +kernel)
set_option maxRecDepth 65536 in
theorem w_c25 : (Jvm.Cond.code ({ cls := "java/lang/String", name := "length", desc := "()I" } : Jvm.MethodName) jdk_42_method_54_code (1 : Nat) (Option.some Jvm.ClassFile.FieldType.int)).before args0 about1 = true := code_word (m := ⟨7, 3⟩) (meth := k7m3) (c := k7c3) (by decide +kernel) rfl rfl rfl (by decide +kernel)
set_option maxRecDepth 65536 in
theorem w_c26 : (Jvm.Cond.code ({ cls := "java/lang/String", name := "coder", desc := "()B" } : Jvm.MethodName) jdk_42_method_152_code (1 : Nat) (Option.some Jvm.ClassFile.FieldType.byte)).before args0 about1 = true := code_word (m := ⟨7, 10⟩) (meth := k7m10) (c := k7c10) (by decide +kernel) rfl rfl rfl (by decide +kernel)
set_option maxRecDepth 65536 in
theorem w_c27 : (Jvm.Cond.code ({ cls := "java/lang/AbstractStringBuilder", name := "ensureCapacityInternal", desc := "(I)V" } : Jvm.MethodName) jdk_68_method_9_code (3 : Nat) (Option.none : Option Jvm.ClassFile.FieldType)).before args0 about1 = true := code_word (m := ⟨23, 3⟩) (meth := k23m3) (c := k23c3) (by decide +kernel) rfl rfl rfl (by decide +kernel)
set_option maxRecDepth 65536 in
theorem w_c28 : (Jvm.Cond.code ({ cls := "java/lang/AbstractStringBuilder", name := "putStringAt", desc := "(ILjava/lang/String;)V" } : Jvm.MethodName) jdk_68_method_73_code (3 : Nat) (Option.none : Option Jvm.ClassFile.FieldType)).before args0 about1 = true := code_word (m := ⟨23, 8⟩) (meth := k23m8) (c := k23c8) (by decide +kernel) rfl rfl rfl (by decide +kernel)
set_option maxRecDepth 65536 in
theorem w_c29 : (Jvm.Cond.code ({ cls := "java/lang/AbstractStringBuilder", name := "inflateIfNeededFor", desc := "(Ljava/lang/String;)V" } : Jvm.MethodName) jdk_68_method_71_code (2 : Nat) (Option.none : Option Jvm.ClassFile.FieldType)).before args0 about1 = true := code_word (m := ⟨23, 7⟩) (meth := k23m7) (c := k23c7) (by decide +kernel) rfl rfl rfl (by decide +kernel)
set_option maxRecDepth 65536 in
theorem w_c30 : (Jvm.Cond.code ({ cls := "java/lang/String", name := "getBytes", desc := "([BIB)V" } : Jvm.MethodName) jdk_42_method_147_code (4 : Nat) (Option.none : Option Jvm.ClassFile.FieldType)).before args0 about1 = true := code_word (m := ⟨7, 6⟩) (meth := k7m6) (c := k7c6) (by decide +kernel) rfl rfl rfl (by decide +kernel)
set_option maxRecDepth 65536 in
theorem w_c31 : (Jvm.Cond.code ({ cls := "java/lang/StringBuilder", name := "toString", desc := "()Ljava/lang/String;" } : Jvm.MethodName) jdk_67_method_42_code (1 : Nat) (Option.some (Jvm.ClassFile.FieldType.object "java/lang/String"))).before args0 about1 = true := code_word (m := ⟨24, 2⟩) (meth := k24m2) (c := k24c2) (by decide +kernel) rfl rfl rfl (by decide +kernel)
set_option maxRecDepth 65536 in
theorem w_c32 : (Jvm.Cond.code ({ cls := "java/lang/String", name := "<init>", desc := "(Ljava/lang/StringBuilder;)V" } : Jvm.MethodName) jdk_42_method_53_code (2 : Nat) (Option.none : Option Jvm.ClassFile.FieldType)).before args0 about1 = true := code_word (m := ⟨7, 2⟩) (meth := k7m2) (c := k7c2) (by decide +kernel) rfl rfl rfl (by decide +kernel)
set_option maxRecDepth 65536 in
theorem w_c33 : (Jvm.Cond.code ({ cls := "java/lang/String", name := "<init>", desc := "(Ljava/lang/AbstractStringBuilder;Ljava/lang/Void;)V" } : Jvm.MethodName) jdk_42_method_150_code (5 : Nat) (Option.none : Option Jvm.ClassFile.FieldType)).before args0 about1 = true := code_word (m := ⟨7, 8⟩) (meth := k7m8) (c := k7c8) (by decide +kernel) rfl rfl rfl (by decide +kernel)
set_option maxRecDepth 65536 in
theorem w_c34 : (Jvm.Cond.code ({ cls := "java/lang/AbstractStringBuilder", name := "getValue", desc := "()[B" } : Jvm.MethodName) jdk_68_method_64_code (1 : Nat) (Option.some (Jvm.ClassFile.FieldType.array Jvm.ClassFile.FieldType.byte))).before args0 about1 = true := code_word (m := ⟨23, 5⟩) (meth := k23m5) (c := k23c5) (by decide +kernel) rfl rfl rfl (by decide +kernel)
set_option maxRecDepth 65536 in
theorem w_c35 : (Jvm.Cond.code ({ cls := "java/lang/StringBuilder", name := "length", desc := "()I" } : Jvm.MethodName) jdk_67_method_93_code (1 : Nat) (Option.some Jvm.ClassFile.FieldType.int)).before args0 about1 = true := code_word (m := ⟨24, 3⟩) (meth := k24m3) (c := k24c3) (by decide +kernel) rfl rfl rfl (by decide +kernel)
set_option maxRecDepth 65536 in
theorem w_c36 : (Jvm.Cond.code ({ cls := "java/lang/AbstractStringBuilder", name := "length", desc := "()I" } : Jvm.MethodName) jdk_68_method_6_code (1 : Nat) (Option.some Jvm.ClassFile.FieldType.int)).before args0 about1 = true := code_word (m := ⟨23, 2⟩) (meth := k23m2) (c := k23c2) (by decide +kernel) rfl rfl rfl (by decide +kernel)
set_option maxRecDepth 65536 in
theorem w_c37 : (Jvm.Cond.code ({ cls := "java/lang/AbstractStringBuilder", name := "isLatin1", desc := "()Z" } : Jvm.MethodName) jdk_68_method_68_code (1 : Nat) (Option.some Jvm.ClassFile.FieldType.boolean)).before args0 about1 = true := code_word (m := ⟨23, 6⟩) (meth := k23m6) (c := k23c6) (by decide +kernel) rfl rfl rfl (by decide +kernel)
set_option maxRecDepth 65536 in
theorem w_c38 : (Jvm.Cond.code ({ cls := "java/util/Arrays", name := "copyOfRange", desc := "([BII)[B" } : Jvm.MethodName) jdk_65_method_132_code (3 : Nat) (Option.some (Jvm.ClassFile.FieldType.array Jvm.ClassFile.FieldType.byte))).before args0 about1 = true := code_word (m := ⟨26, 2⟩) (meth := k26m2) (c := k26c2) (by decide +kernel) rfl rfl rfl (by decide +kernel)
set_option maxRecDepth 65536 in
theorem w_c39 : (Jvm.Cond.code ({ cls := "java/util/Arrays", name := "copyOfRangeByte", desc := "([BII)[B" } : Jvm.MethodName) jdk_65_method_133_code (5 : Nat) (Option.some (Jvm.ClassFile.FieldType.array Jvm.ClassFile.FieldType.byte))).before args0 about1 = true := code_word (m := ⟨26, 3⟩) (meth := k26m3) (c := k26c3) (by decide +kernel) rfl rfl rfl (by decide +kernel)
set_option maxRecDepth 65536 in
theorem w_c40 : (Jvm.Cond.code ({ cls := "java/util/Arrays", name := "checkLength", desc := "(II)V" } : Jvm.MethodName) jdk_65_method_131_code (2 : Nat) (Option.none : Option Jvm.ClassFile.FieldType)).before args0 about1 = true := code_word (m := ⟨26, 1⟩) (meth := k26m1) (c := k26c1) (by decide +kernel) rfl rfl rfl (by decide +kernel)
set_option maxRecDepth 65536 in
theorem w_c41 : (Jvm.Cond.code ({ cls := "java/lang/Math", name := "min", desc := "(II)I" } : Jvm.MethodName) jdk_29_method_69_code (2 : Nat) (Option.some Jvm.ClassFile.FieldType.int)).before args0 about1 = true := code_word (m := ⟨27, 1⟩) (meth := k27m1) (c := k27c1) (by decide +kernel) rfl rfl rfl (by decide +kernel)
set_option maxRecDepth 65536 in
theorem w_c42 : (Jvm.Cond.code ({ cls := "java/lang/String", name := "charAt", desc := "(I)C" } : Jvm.MethodName) jdk_42_method_56_code (2 : Nat) (Option.some Jvm.ClassFile.FieldType.char)).before args0 about1 = true := code_word (m := ⟨7, 4⟩) (meth := k7m4) (c := k7c4) (by decide +kernel) rfl rfl rfl (by decide +kernel)
set_option maxRecDepth 65536 in
theorem w_c43 : (Jvm.Cond.code ({ cls := "java/lang/String", name := "isLatin1", desc := "()Z" } : Jvm.MethodName) jdk_42_method_154_code (1 : Nat) (Option.some Jvm.ClassFile.FieldType.boolean)).before args0 about1 = true := code_word (m := ⟨7, 11⟩) (meth := k7m11) (c := k7c11) (by decide +kernel) rfl rfl rfl (by decide +kernel)
set_option maxRecDepth 65536 in
theorem w_c44 : (Jvm.Cond.code ({ cls := "java/lang/StringLatin1", name := "charAt", desc := "([BI)C" } : Jvm.MethodName) jdk_43_method_2_code (2 : Nat) (Option.some Jvm.ClassFile.FieldType.char)).before args0 about1 = true := code_word (m := ⟨9, 1⟩) (meth := k9m1) (c := k9c1) (by decide +kernel) rfl rfl rfl (by decide +kernel)
set_option maxRecDepth 65536 in
theorem w_c45 : (Jvm.Cond.code ({ cls := "java/lang/String", name := "checkIndex", desc := "(II)V" } : Jvm.MethodName) jdk_42_method_155_code (2 : Nat) (Option.none : Option Jvm.ClassFile.FieldType)).before args0 about1 = true := code_word (m := ⟨7, 12⟩) (meth := k7m12) (c := k7c12) (by decide +kernel) rfl rfl rfl (by decide +kernel)
set_option maxRecDepth 65536 in
theorem w_c46 : (Jvm.Cond.code ({ cls := "jdk/internal/util/Preconditions", name := "checkIndex", desc := "(IILjava/util/function/BiFunction;)I" } : Jvm.MethodName) jdk_41_method_11_code (3 : Nat) (Option.some Jvm.ClassFile.FieldType.int)).before args0 about1 = true := code_word (m := ⟨28, 1⟩) (meth := k28m1) (c := k28c1) (by decide +kernel) rfl rfl rfl (by decide +kernel)
set_option maxRecDepth 65536 in
theorem w_c47 : (Jvm.Cond.code ({ cls := "com/example/ampliar/ampliar/command/Parameter", name := "flag", desc := "(Ljava/lang/String;[Ljava/lang/String;)Lcom/example/ampliar/ampliar/command/Parameter;" } : Jvm.MethodName) prog_6_method_3_code (2 : Nat) (Option.some (Jvm.ClassFile.FieldType.object "com/example/ampliar/ampliar/command/Parameter"))).before args0 about1 = true := code_word (m := ⟨10, 2⟩) (meth := k10m2) (c := k10c2) (by decide +kernel) rfl rfl rfl (by decide +kernel)
set_option maxRecDepth 65536 in
theorem w_c48 : (Jvm.Cond.code ({ cls := "com/example/ampliar/ampliar/command/Parameter", name := "<init>", desc := "(Ljava/lang/String;Ljava/util/List;)V" } : Jvm.MethodName) prog_6_method_2_code (3 : Nat) (Option.none : Option Jvm.ClassFile.FieldType)).before args0 about1 = true := code_word (m := ⟨10, 1⟩) (meth := k10m1) (c := k10c1) (by decide +kernel) rfl rfl rfl (by decide +kernel)
set_option maxRecDepth 65536 in
theorem w_c49 : (Jvm.Cond.code ({ cls := "java/util/List", name := "copyOf", desc := "(Ljava/util/Collection;)Ljava/util/List;" } : Jvm.MethodName) jdk_40_method_48_code (1 : Nat) (Option.some (Jvm.ClassFile.FieldType.object "java/util/List"))).before args0 about1 = true := code_word (m := ⟨15, 1⟩) (meth := k15m1) (c := k15c1) (by decide +kernel) rfl rfl rfl (by decide +kernel)
set_option maxRecDepth 65536 in
theorem w_c50 : (Jvm.Cond.code ({ cls := "java/util/ImmutableCollections", name := "listCopy", desc := "(Ljava/util/Collection;)Ljava/util/List;" } : Jvm.MethodName) jdk_56_method_3_code (2 : Nat) (Option.some (Jvm.ClassFile.FieldType.object "java/util/List"))).before args0 about1 = true := code_word (m := ⟨21, 1⟩) (meth := k21m1) (c := k21c1) (by decide +kernel) rfl rfl rfl (by decide +kernel)
def codes1 : List Jvm.Cond := [Jvm.Cond.code x code maxLocals ret, Jvm.Cond.code ({ cls := "java/lang/String", name := "<init>", desc := "([C)V" } : Jvm.MethodName) jdk_42_method_3_code (2 : Nat) (Option.none : Option Jvm.ClassFile.FieldType), Jvm.Cond.code ({ cls := "java/lang/String", name := "<init>", desc := "([CIILjava/lang/Void;)V" } : Jvm.MethodName) jdk_42_method_149_code (6 : Nat) (Option.none : Option Jvm.ClassFile.FieldType), Jvm.Cond.code ({ cls := "java/lang/Object", name := "<init>", desc := "()V" } : Jvm.MethodName) object_method_1_code (1 : Nat) (Option.none : Option Jvm.ClassFile.FieldType), Jvm.Cond.code ({ cls := "java/lang/StringUTF16", name := "compress", desc := "([CII)[B" } : Jvm.MethodName) jdk_52_method_16_code (6 : Nat) (Option.some (Jvm.ClassFile.FieldType.array Jvm.ClassFile.FieldType.byte)), Jvm.Cond.code ({ cls := "java/lang/StringUTF16", name := "compress", desc := "([CI[BII)I" } : Jvm.MethodName) jdk_52_method_21_code (7 : Nat) (Option.some Jvm.ClassFile.FieldType.int), Jvm.Cond.code ({ cls := "java/lang/StringUTF16", name := "coderFromArrayLen", desc := "([BI)B" } : Jvm.MethodName) jdk_52_method_15_code (2 : Nat) (Option.some Jvm.ClassFile.FieldType.byte), Jvm.Cond.code ({ cls := "java/lang/String", name := "valueOf", desc := "(C)Ljava/lang/String;" } : Jvm.MethodName) jdk_42_method_139_code (1 : Nat) (Option.some (Jvm.ClassFile.FieldType.object "java/lang/String")), Jvm.Cond.code ({ cls := "java/lang/StringLatin1", name := "canEncode", desc := "(C)Z" } : Jvm.MethodName) jdk_43_method_3_code (1 : Nat) (Option.some Jvm.ClassFile.FieldType.boolean), Jvm.Cond.code ({ cls := "java/lang/StringLatin1", name := "toBytes", desc := "(C)[B" } : Jvm.MethodName) jdk_43_method_46_code (1 : Nat) (Option.some (Jvm.ClassFile.FieldType.array Jvm.ClassFile.FieldType.byte)), Jvm.Cond.code ({ cls := "java/lang/String", name := "<init>", desc := "([BB)V" } : Jvm.MethodName) jdk_42_method_151_code (3 : Nat) (Option.none : Option Jvm.ClassFile.FieldType), Jvm.Cond.code ({ cls := "com/example/ampliar/ampliar/command/Parameter", name := "<init>", desc := "(Ljava/lang/String;Ljava/lang/String;[Ljava/lang/String;)V" } : Jvm.MethodName) prog_6_method_1_code (4 : Nat) (Option.none : Option Jvm.ClassFile.FieldType), Jvm.Cond.code ({ cls := "java/util/Objects", name := "requireNonNull", desc := "(Ljava/lang/Object;Ljava/lang/String;)Ljava/lang/Object;" } : Jvm.MethodName) jdk_31_method_11_code (2 : Nat) (Option.some (Jvm.ClassFile.FieldType.object "java/lang/Object")), Jvm.Cond.code ({ cls := "java/util/List", name := "of", desc := "([Ljava/lang/Object;)Ljava/util/List;" } : Jvm.MethodName) jdk_40_method_47_code (2 : Nat) (Option.some (Jvm.ClassFile.FieldType.object "java/util/List")), Jvm.Cond.code ({ cls := "java/util/ImmutableCollections$List12", name := "<init>", desc := "(Ljava/lang/Object;)V" } : Jvm.MethodName) jdk_44_method_1_code (2 : Nat) (Option.none : Option Jvm.ClassFile.FieldType), Jvm.Cond.code ({ cls := "java/util/ImmutableCollections$AbstractImmutableList", name := "<init>", desc := "()V" } : Jvm.MethodName) jdk_46_method_1_code (1 : Nat) (Option.none : Option Jvm.ClassFile.FieldType), Jvm.Cond.code ({ cls := "java/util/ImmutableCollections$AbstractImmutableCollection", name := "<init>", desc := "()V" } : Jvm.MethodName) jdk_47_method_1_code (1 : Nat) (Option.none : Option Jvm.ClassFile.FieldType), Jvm.Cond.code ({ cls := "java/util/AbstractCollection", name := "<init>", desc := "()V" } : Jvm.MethodName) jdk_22_method_1_code (1 : Nat) (Option.none : Option Jvm.ClassFile.FieldType), Jvm.Cond.code ({ cls := "java/util/Objects", name := "requireNonNull", desc := "(Ljava/lang/Object;)Ljava/lang/Object;" } : Jvm.MethodName) jdk_31_method_10_code (1 : Nat) (Option.some (Jvm.ClassFile.FieldType.object "java/lang/Object")), Jvm.Cond.code ({ cls := "com/example/ampliar/ampliar/command/Parameter", name := "isFlag", desc := "()Z" } : Jvm.MethodName) prog_6_method_5_code (1 : Nat) (Option.some Jvm.ClassFile.FieldType.boolean), Jvm.Cond.code ({ cls := "com/example/ampliar/ampliar/command/Parameter", name := "usage", desc := "()Ljava/lang/String;" } : Jvm.MethodName) prog_6_method_6_code (1 : Nat) (Option.some (Jvm.ClassFile.FieldType.object "java/lang/String")), Jvm.Cond.code ({ cls := "java/lang/StringBuilder", name := "<init>", desc := "()V" } : Jvm.MethodName) jdk_67_method_1_code (1 : Nat) (Option.none : Option Jvm.ClassFile.FieldType), Jvm.Cond.code ({ cls := "java/lang/AbstractStringBuilder", name := "<init>", desc := "(I)V" } : Jvm.MethodName) jdk_68_method_2_code (2 : Nat) (Option.none : Option Jvm.ClassFile.FieldType), Jvm.Cond.code ({ cls := "java/lang/StringBuilder", name := "append", desc := "(Ljava/lang/String;)Ljava/lang/StringBuilder;" } : Jvm.MethodName) jdk_67_method_7_code (2 : Nat) (Option.some (Jvm.ClassFile.FieldType.object "java/lang/StringBuilder")), Jvm.Cond.code ({ cls := "java/lang/AbstractStringBuilder", name := "append", desc := "(Ljava/lang/String;)Ljava/lang/AbstractStringBuilder;" } : Jvm.MethodName) jdk_68_method_22_code (3 : Nat) (Option.some (Jvm.ClassFile.FieldType.object "java/lang/AbstractStringBuilder")), Jvm.Cond.code ({ cls := "java/lang/String", name := "length", desc := "()I" } : Jvm.MethodName) jdk_42_method_54_code (1 : Nat) (Option.some Jvm.ClassFile.FieldType.int), Jvm.Cond.code ({ cls := "java/lang/String", name := "coder", desc := "()B" } : Jvm.MethodName) jdk_42_method_152_code (1 : Nat) (Option.some Jvm.ClassFile.FieldType.byte), Jvm.Cond.code ({ cls := "java/lang/AbstractStringBuilder", name := "ensureCapacityInternal", desc := "(I)V" } : Jvm.MethodName) jdk_68_method_9_code (3 : Nat) (Option.none : Option Jvm.ClassFile.FieldType), Jvm.Cond.code ({ cls := "java/lang/AbstractStringBuilder", name := "putStringAt", desc := "(ILjava/lang/String;)V" } : Jvm.MethodName) jdk_68_method_73_code (3 : Nat) (Option.none : Option Jvm.ClassFile.FieldType), Jvm.Cond.code ({ cls := "java/lang/AbstractStringBuilder", name := "inflateIfNeededFor", desc := "(Ljava/lang/String;)V" } : Jvm.MethodName) jdk_68_method_71_code (2 : Nat) (Option.none : Option Jvm.ClassFile.FieldType), Jvm.Cond.code ({ cls := "java/lang/String", name := "getBytes", desc := "([BIB)V" } : Jvm.MethodName) jdk_42_method_147_code (4 : Nat) (Option.none : Option Jvm.ClassFile.FieldType), Jvm.Cond.code ({ cls := "java/lang/StringBuilder", name := "toString", desc := "()Ljava/lang/String;" } : Jvm.MethodName) jdk_67_method_42_code (1 : Nat) (Option.some (Jvm.ClassFile.FieldType.object "java/lang/String")), Jvm.Cond.code ({ cls := "java/lang/String", name := "<init>", desc := "(Ljava/lang/StringBuilder;)V" } : Jvm.MethodName) jdk_42_method_53_code (2 : Nat) (Option.none : Option Jvm.ClassFile.FieldType), Jvm.Cond.code ({ cls := "java/lang/String", name := "<init>", desc := "(Ljava/lang/AbstractStringBuilder;Ljava/lang/Void;)V" } : Jvm.MethodName) jdk_42_method_150_code (5 : Nat) (Option.none : Option Jvm.ClassFile.FieldType), Jvm.Cond.code ({ cls := "java/lang/AbstractStringBuilder", name := "getValue", desc := "()[B" } : Jvm.MethodName) jdk_68_method_64_code (1 : Nat) (Option.some (Jvm.ClassFile.FieldType.array Jvm.ClassFile.FieldType.byte)), Jvm.Cond.code ({ cls := "java/lang/StringBuilder", name := "length", desc := "()I" } : Jvm.MethodName) jdk_67_method_93_code (1 : Nat) (Option.some Jvm.ClassFile.FieldType.int), Jvm.Cond.code ({ cls := "java/lang/AbstractStringBuilder", name := "length", desc := "()I" } : Jvm.MethodName) jdk_68_method_6_code (1 : Nat) (Option.some Jvm.ClassFile.FieldType.int), Jvm.Cond.code ({ cls := "java/lang/AbstractStringBuilder", name := "isLatin1", desc := "()Z" } : Jvm.MethodName) jdk_68_method_68_code (1 : Nat) (Option.some Jvm.ClassFile.FieldType.boolean), Jvm.Cond.code ({ cls := "java/util/Arrays", name := "copyOfRange", desc := "([BII)[B" } : Jvm.MethodName) jdk_65_method_132_code (3 : Nat) (Option.some (Jvm.ClassFile.FieldType.array Jvm.ClassFile.FieldType.byte)), Jvm.Cond.code ({ cls := "java/util/Arrays", name := "copyOfRangeByte", desc := "([BII)[B" } : Jvm.MethodName) jdk_65_method_133_code (5 : Nat) (Option.some (Jvm.ClassFile.FieldType.array Jvm.ClassFile.FieldType.byte)), Jvm.Cond.code ({ cls := "java/util/Arrays", name := "checkLength", desc := "(II)V" } : Jvm.MethodName) jdk_65_method_131_code (2 : Nat) (Option.none : Option Jvm.ClassFile.FieldType), Jvm.Cond.code ({ cls := "java/lang/Math", name := "min", desc := "(II)I" } : Jvm.MethodName) jdk_29_method_69_code (2 : Nat) (Option.some Jvm.ClassFile.FieldType.int), Jvm.Cond.code ({ cls := "java/lang/String", name := "charAt", desc := "(I)C" } : Jvm.MethodName) jdk_42_method_56_code (2 : Nat) (Option.some Jvm.ClassFile.FieldType.char), Jvm.Cond.code ({ cls := "java/lang/String", name := "isLatin1", desc := "()Z" } : Jvm.MethodName) jdk_42_method_154_code (1 : Nat) (Option.some Jvm.ClassFile.FieldType.boolean), Jvm.Cond.code ({ cls := "java/lang/StringLatin1", name := "charAt", desc := "([BI)C" } : Jvm.MethodName) jdk_43_method_2_code (2 : Nat) (Option.some Jvm.ClassFile.FieldType.char), Jvm.Cond.code ({ cls := "java/lang/String", name := "checkIndex", desc := "(II)V" } : Jvm.MethodName) jdk_42_method_155_code (2 : Nat) (Option.none : Option Jvm.ClassFile.FieldType), Jvm.Cond.code ({ cls := "jdk/internal/util/Preconditions", name := "checkIndex", desc := "(IILjava/util/function/BiFunction;)I" } : Jvm.MethodName) jdk_41_method_11_code (3 : Nat) (Option.some Jvm.ClassFile.FieldType.int), Jvm.Cond.code ({ cls := "com/example/ampliar/ampliar/command/Parameter", name := "flag", desc := "(Ljava/lang/String;[Ljava/lang/String;)Lcom/example/ampliar/ampliar/command/Parameter;" } : Jvm.MethodName) prog_6_method_3_code (2 : Nat) (Option.some (Jvm.ClassFile.FieldType.object "com/example/ampliar/ampliar/command/Parameter")), Jvm.Cond.code ({ cls := "com/example/ampliar/ampliar/command/Parameter", name := "<init>", desc := "(Ljava/lang/String;Ljava/util/List;)V" } : Jvm.MethodName) prog_6_method_2_code (3 : Nat) (Option.none : Option Jvm.ClassFile.FieldType), Jvm.Cond.code ({ cls := "java/util/List", name := "copyOf", desc := "(Ljava/util/Collection;)Ljava/util/List;" } : Jvm.MethodName) jdk_40_method_48_code (1 : Nat) (Option.some (Jvm.ClassFile.FieldType.object "java/util/List")), Jvm.Cond.code ({ cls := "java/util/ImmutableCollections", name := "listCopy", desc := "(Ljava/util/Collection;)Ljava/util/List;" } : Jvm.MethodName) jdk_56_method_3_code (2 : Nat) (Option.some (Jvm.ClassFile.FieldType.object "java/util/List"))]
set_option maxRecDepth 65536 in
theorem codes_eq : words1.filter isCode = codes1 := rfl
theorem w_codes : ∀ c ∈ words1.filter isCode, c.before args0 about1 = true := by
  rw [codes_eq]
  intro c hc
  simp only [codes1, List.mem_cons, List.not_mem_nil, or_false] at hc
  rcases hc with rfl | rfl | rfl | rfl | rfl | rfl | rfl | rfl | rfl | rfl | rfl | rfl | rfl | rfl | rfl | rfl | rfl | rfl | rfl | rfl | rfl | rfl | rfl | rfl | rfl | rfl | rfl | rfl | rfl | rfl | rfl | rfl | rfl | rfl | rfl | rfl | rfl | rfl | rfl | rfl | rfl | rfl | rfl | rfl | rfl | rfl | rfl | rfl | rfl | rfl | rfl
  · exact w_c0
  · exact w_c1
  · exact w_c2
  · exact w_c3
  · exact w_c4
  · exact w_c5
  · exact w_c6
  · exact w_c7
  · exact w_c8
  · exact w_c9
  · exact w_c10
  · exact w_c11
  · exact w_c12
  · exact w_c13
  · exact w_c14
  · exact w_c15
  · exact w_c16
  · exact w_c17
  · exact w_c18
  · exact w_c19
  · exact w_c20
  · exact w_c21
  · exact w_c22
  · exact w_c23
  · exact w_c24
  · exact w_c25
  · exact w_c26
  · exact w_c27
  · exact w_c28
  · exact w_c29
  · exact w_c30
  · exact w_c31
  · exact w_c32
  · exact w_c33
  · exact w_c34
  · exact w_c35
  · exact w_c36
  · exact w_c37
  · exact w_c38
  · exact w_c39
  · exact w_c40
  · exact w_c41
  · exact w_c42
  · exact w_c43
  · exact w_c44
  · exact w_c45
  · exact w_c46
  · exact w_c47
  · exact w_c48
  · exact w_c49
  · exact w_c50
set_option maxRecDepth 65536 in
theorem w_t1 : (words1.take 24).all (fun c => isCode c || c.before args0 about1) = true := by decide +kernel
set_option maxRecDepth 65536 in
theorem w_t2 : ((words1.drop 24).take 24).all (fun c => isCode c || c.before args0 about1) = true := by decide +kernel
set_option maxRecDepth 65536 in
theorem w_t3 : (((words1.drop 24).drop 24).take 24).all (fun c => isCode c || c.before args0 about1) = true := by decide +kernel
set_option maxRecDepth 65536 in
theorem w_t4 : ((((words1.drop 24).drop 24).drop 24).take 24).all (fun c => isCode c || c.before args0 about1) = true := by decide +kernel
set_option maxRecDepth 65536 in
theorem w_t5 : (((((words1.drop 24).drop 24).drop 24).drop 24).take 24).all (fun c => isCode c || c.before args0 about1) = true := by decide +kernel
set_option maxRecDepth 65536 in
theorem w_t6 : ((((((words1.drop 24).drop 24).drop 24).drop 24).drop 24).take 24).all (fun c => isCode c || c.before args0 about1) = true := by decide +kernel
set_option maxRecDepth 65536 in
theorem w_t7 : (((((((words1.drop 24).drop 24).drop 24).drop 24).drop 24).drop 24).take 24).all (fun c => isCode c || c.before args0 about1) = true := by decide +kernel
set_option maxRecDepth 65536 in
theorem w_t8 : ((((((((words1.drop 24).drop 24).drop 24).drop 24).drop 24).drop 24).drop 24).take 24).all (fun c => isCode c || c.before args0 about1) = true := by decide +kernel
set_option maxRecDepth 65536 in
theorem w_t9 : (((((((((words1.drop 24).drop 24).drop 24).drop 24).drop 24).drop 24).drop 24).drop 24).take 24).all (fun c => isCode c || c.before args0 about1) = true := by decide +kernel
set_option maxRecDepth 65536 in
theorem w_t10 : ((((((((((words1.drop 24).drop 24).drop 24).drop 24).drop 24).drop 24).drop 24).drop 24).drop 24).take 24).all (fun c => isCode c || c.before args0 about1) = true := by decide +kernel
set_option maxRecDepth 65536 in
theorem w_t11 : (((((((((((words1.drop 24).drop 24).drop 24).drop 24).drop 24).drop 24).drop 24).drop 24).drop 24).drop 24).take 24).all (fun c => isCode c || c.before args0 about1) = true := by decide +kernel
set_option maxRecDepth 65536 in
theorem w_t12 : (((((((((((words1.drop 24).drop 24).drop 24).drop 24).drop 24).drop 24).drop 24).drop 24).drop 24).drop 24).drop 24).all (fun c => isCode c || c.before args0 about1) = true := by decide +kernel
theorem w_tables : (allAtoms (Jvm.Cond.code x code maxLocals ret :: tables_1)).before args0 about1 = true := by
  rw [allAtoms_all]
  show words1.all (fun c => c.before args0 about1) = true
  refine all_split ?_ w_codes
  rw [← List.take_append_drop 24 words1, List.all_append, w_t1, ← List.take_append_drop 24 (words1.drop 24), List.all_append, w_t2, ← List.take_append_drop 24 ((words1.drop 24).drop 24), List.all_append, w_t3, ← List.take_append_drop 24 (((words1.drop 24).drop 24).drop 24), List.all_append, w_t4, ← List.take_append_drop 24 ((((words1.drop 24).drop 24).drop 24).drop 24), List.all_append, w_t5, ← List.take_append_drop 24 (((((words1.drop 24).drop 24).drop 24).drop 24).drop 24), List.all_append, w_t6, ← List.take_append_drop 24 ((((((words1.drop 24).drop 24).drop 24).drop 24).drop 24).drop 24), List.all_append, w_t7, ← List.take_append_drop 24 (((((((words1.drop 24).drop 24).drop 24).drop 24).drop 24).drop 24).drop 24), List.all_append, w_t8, ← List.take_append_drop 24 ((((((((words1.drop 24).drop 24).drop 24).drop 24).drop 24).drop 24).drop 24).drop 24), List.all_append, w_t9, ← List.take_append_drop 24 (((((((((words1.drop 24).drop 24).drop 24).drop 24).drop 24).drop 24).drop 24).drop 24).drop 24), List.all_append, w_t10, ← List.take_append_drop 24 ((((((((((words1.drop 24).drop 24).drop 24).drop 24).drop 24).drop 24).drop 24).drop 24).drop 24).drop 24), List.all_append, w_t11, w_t12]
  rfl
set_option maxRecDepth 65536 in
theorem w_rest : rest_1_c.before args0 about1 = true := by decide +kernel
set_option maxRecDepth 65536 in
theorem w_case : (Jvm.Cond.and given_1 narrow_1).before args0 about1 = true := by decide +kernel
set_option maxRecDepth 65536 in
theorem w_consts : constsHeld consts_1 about1 := Jvm.Lit.constsHeldB_iff.mp (by decide +kernel)
theorem w_applies : (headSpec (Jvm.Cond.code x code maxLocals ret :: tables_1) room_1).applies x e0.platform about1 = true :=
  (Spec.applies_iff w_frames).mpr ⟨w_running, w_runnable, w_alone, w_named, w_hears, w_ripe, w_room, w_tables⟩
theorem atStart : AtStart classFile x code maxLocals ret World_1 tables_1 room_1 Calls_1 rest_1 Pre_1 launch0 p0 e0 about1 theMethod args0 below0 :=
  ⟨lists_1, trivial, launch0.admits_env _ _ _, launch0.least_env, fairChoices_fair.cas, fairChoices_fair.clock, w_frames, w_args, w_heap, w_applies, ⟨w_consts, trivial⟩, w_rest, w_case⟩
end start1
theorem witness_1 : WitnessClaimed_1 := ⟨start1.p0, start1.e0, start1.about1, start1.theMethod, start1.args0, start1.below0, start1.atStart⟩
end Jvm.Pilot.@@N@@
