import JvmDerived
import JvmDerived.Pilot.@@N@@Statement
import JvmDerived.Pilot.@@N@@Code
set_option linter.unusedVariables false
set_option linter.unusedSimpArgs false
namespace Jvm.RoadKit
open Sem ClassFile Op Lib Jvm.Stand Jvm.Free Jvm.LawKit
section New
variable {p : Program} {l : Launch} {e : Env} {R : Room} {s : State} {m : MethodId} {args : Array Value} {below : List Frame} {meth : Method} {c : Code} {T : State} {locs : List Loc} {cells slots : Nat} {K : Outcome → State → Prop}
theorem retI (X : Stand p l e R s m args below meth c T locs cells slots) (hx : p.tables.exec = Jvm.exec) {pc : Nat} {Ls : Array Slot} {z : Int32} {rest : List Value} (hret : meth.sig.returnType = some .int) (hd : decode c.code pc = .ok (.ireturn, 1)) {fs : List Frame}
    (hl : ∀ (f : JFrame) (acts : List Action), f.method = m → f.locked = none → f.entered = [] → (doReturn e (T.setTop f) acts (some (.int z))).1 = T.setFrames fs) : Steps p.tables e below (T.setTop (mkF m pc Ls (.int z :: rest))) (T.setFrames fs) := by
  have hm' : T.vm.method? m = some meth := X.method'
  have hn : narrow .int (.int z) = .int z := rfl
  show Steps p.tables e below (T.setTop { method := m, pc := pc, locals := Ls, stack := _ :: rest, locked := none }) _
  jvm_step X.here [X.here.top, hx, hd, hm', hret, hn]
  first | (intro acts; rw [hl _ acts rfl rfl rfl]) | rw [hl _ _ rfl rfl rfl]
  exact Steps.refl _
/-- from here the run comes to an end that K holds of -/
def Rch (p : Program) (e : Env) (below : List Frame) (K : Outcome → State → Prop) (T : State) (g : JFrame) : Prop := ∃ s₂ o, Steps p.tables e below (T.setTop g) s₂ ∧ s₂.status = .running ∧ Ended s₂ below o ∧ K o s₂
theorem Rch.of {T T' : State} {g g' : JFrame} (h : ∀ t, Steps p.tables e below (T'.setTop g') t → Steps p.tables e below (T.setTop g) t) (k : Rch p e below K T' g') : Rch p e below K T g := by
  obtain ⟨s₂, o, h1, h2⟩ := k
  exact ⟨s₂, o, h _ h1, h2⟩
theorem Rch.via {T T' : State} {g g' : JFrame} (h : Steps p.tables e below (T.setTop g) (T'.setTop g')) (k : Rch p e below K T' g') : Rch p e below K T g := Rch.of (fun _ kt => h.trans kt) k
theorem Rch.cast {T : State} {g g' : JFrame} (q : g = g') (k : Rch p e below K T g') : Rch p e below K T g := q ▸ k
theorem Rch.retN (X : Stand p l e R s m args below meth c T locs cells slots) (hx : p.tables.exec = Jvm.exec) {pc : Nat} {Ls : Array Slot} {z : Int32} {t : FieldType} {rest : List Value} (hret : meth.sig.returnType = some t) (ht : t = .boolean ∨ t = .byte ∨ t = .char ∨ t = .short) (hlk : meth.locks = false) (hd : decode c.code pc = .ok (.ireturn, 1))
    (k : ∀ U : State, U.heap = T.heap → FrameEnd s (.returned (some (.int (nar t z)))) U locs cells slots → K (.returned (some (.int (nar t z)))) U) : Rch p e below K T (mkF m pc Ls (.int z :: rest)) := by
  obtain ⟨fs, hr, hrun, hended, hW, hsame⟩ := X.leave (v := some (.int (nar t z))) (fun h => by rw [hret] at h; cases h) hlk
  exact ⟨_, _, Jvm.RoadKit.retN X hx hret ht hd hr, hrun, hended, k _ rfl ⟨⟨_, rfl⟩, hW, hsame⟩⟩
theorem Rch.retI (X : Stand p l e R s m args below meth c T locs cells slots) (hx : p.tables.exec = Jvm.exec) {pc : Nat} {Ls : Array Slot} {z : Int32} {rest : List Value} (hret : meth.sig.returnType = some .int) (hlk : meth.locks = false) (hd : decode c.code pc = .ok (.ireturn, 1))
    (k : ∀ U : State, U.heap = T.heap → FrameEnd s (.returned (some (.int z))) U locs cells slots → K (.returned (some (.int z))) U) : Rch p e below K T (mkF m pc Ls (.int z :: rest)) := by
  obtain ⟨fs, hr, hrun, hended, hW, hsame⟩ := X.leave (v := some (.int z)) (fun h => by rw [hret] at h; cases h) hlk
  exact ⟨_, _, Jvm.RoadKit.retI X hx hret hd hr, hrun, hended, k _ rfl ⟨⟨_, rfl⟩, hW, hsame⟩⟩
theorem Rch.retJ (X : Stand p l e R s m args below meth c T locs cells slots) (hx : p.tables.exec = Jvm.exec) {pc : Nat} {Ls : Array Slot} {z : Int64} {rest : List Value} (hret : meth.sig.returnType = some .long) (hlk : meth.locks = false) (hd : decode c.code pc = .ok (.lreturn, 1))
    (k : ∀ U : State, U.heap = T.heap → FrameEnd s (.returned (some (.long z))) U locs cells slots → K (.returned (some (.long z))) U) : Rch p e below K T (mkF m pc Ls (.long z :: rest)) := by
  obtain ⟨fs, hr, hrun, hended, hW, hsame⟩ := X.leave (v := some (.long z)) (fun h => by rw [hret] at h; cases h) hlk
  exact ⟨_, _, retOut X hx hret rfl (Or.inr (Or.inl ⟨rfl, rfl, z, rfl⟩)) hd hr, hrun, hended, k _ rfl ⟨⟨_, rfl⟩, hW, hsame⟩⟩
theorem Rch.retA (X : Stand p l e R s m args below meth c T locs cells slots) (hx : p.tables.exec = Jvm.exec) {pc : Nat} {Ls : Array Slot} {w : Value} {t : FieldType} {rest : List Value} (hret : meth.sig.returnType = some t) (ht : t.isReference = true) (hw : w.isRef = true) (hlk : meth.locks = false) (hd : decode c.code pc = .ok (.areturn, 1))
    (k : ∀ U : State, U.heap = T.heap → FrameEnd s (.returned (some w)) U locs cells slots → K (.returned (some w)) U) : Rch p e below K T (mkF m pc Ls (w :: rest)) := by
  obtain ⟨fs, hr, hrun, hended, hW, hsame⟩ := X.leave (v := some w) (fun h => by rw [hret] at h; cases h) hlk
  have hn : narrow t w = w := by
    rcases ref_cases hw with rfl | ⟨a, rfl⟩ <;> cases t <;> first | rfl | (simp [FieldType.isReference] at ht)
  exact ⟨_, _, retOut X hx hret hn (Or.inr (Or.inr (Or.inr (Or.inr ⟨rfl, ht, hw⟩)))) hd hr, hrun, hended, k _ rfl ⟨⟨_, rfl⟩, hW, hsame⟩⟩
theorem Rch.retV (X : Stand p l e R s m args below meth c T locs cells slots) (hx : p.tables.exec = Jvm.exec) {pc : Nat} {Ls : Array Slot} (hret : meth.sig.returnType = none) (hlk : meth.locks = false) (hd : decode c.code pc = .ok (.return_, 1))
    (k : ∀ U : State, U.heap = T.heap → FrameEnd s (.returned none) U locs cells slots → K (.returned none) U) : Rch p e below K T (mkF m pc Ls []) := by
  obtain ⟨fs, hr, hrun, hended, hW, hsame⟩ := X.leave (v := none) (fun _ => rfl) hlk
  exact ⟨_, _, X.returnOut hx hret hd hr, hrun, hended, k _ rfl ⟨⟨_, rfl⟩, hW, hsame⟩⟩
theorem own_met {y : MethodName} {bytes : ByteArray} {maxL : Nat} {ret : Option FieldType} {ws : List Cond} {rm : Room} {as' : Array Value} {Z : State} {h0 : Heap} {Q : Option Value → Heap → List Loc → Prop} {ck sk : Nat} (hn : plainFor y = true)
    (body : ∀ (p : Program) (e : Env) (s : State) (m : MethodId) (below : List Frame) (meth : Method) (c : Code) (T : State) (K : Outcome → State → Prop), p.tables.exec = Jvm.exec → c.code = bytes → c.maxLocals = maxL → meth.sig.returnType = ret → meth.locks = false → s.vm.findClass y.cls = some m.cls → meth.name = y.name → Z.Warmed39 s.vm → Stand p l e rm s m as' below meth c T [] 0 0 → T.heap = h0 →
      (∀ (v : Option Value) (U : State) (L : List Loc) (k n : Nat), Q v U.heap L → FrameEnd s (.returned v) U L k n → k ≤ ck → n ≤ sk → K (.returned v) U) → Rch p e below K T (entryFrame m as' maxL)) :
    MetFree l y (head1 (Cond.code y bytes maxL ret :: ws) rm) (fun a U => a = as' ∧ Z.Warmed39 U.vm ∧ U.heap = h0) (fun _ _ _ _ _ => True) (fun _ U o U' => ∃ v L, o = .returned v ∧ Q v U'.heap L ∧ FrameEnd U o U' L ck sk) := by
  refine MetFree.of_bodySF hn hisR ?_
  intro p e s m args below meth c s₁ Bd hml0 hP hK
  obtain ⟨rfl, hZ, hh⟩ := hP
  show Rch p e below (fun o U' => ∃ v L, o = .returned v ∧ Q v U'.heap L ∧ FrameEnd s o U' L ck sk) s₁ (entryFrame m args maxL)
  refine body p e s m below meth c s₁ _ Bd.exec Bd.bytes hml0 Bd.returns Bd.notSynchronized (findClass_of_methodNamed Bd.named) (name_of_methodNamed Bd.named Bd.method).1 hZ (Stand.of_body Bd) (by rw [← hh, Bd.state]; rfl) ?_
  intro v U L k n hQ hF hk hs
  exact ⟨v, L, rfl, hQ, hF.1, hF.2.1, hF.2.2.mono hk hs⟩
theorem own_metS {y : MethodName} {bytes : ByteArray} {maxL : Nat} {ret : Option FieldType} {ws : List Cond} {rm : Room} {as' : Array Value} {Z : State} {h0 : Heap} {Q : Option Value → Heap → List Loc → Prop} {ck sk : Nat} (hn : plainFor y = true)
    (body : ∀ (p : Program) (e : Env) (s : State) (m : MethodId) (below : List Frame) (meth : Method) (c : Code) (T : State) (K : Outcome → State → Prop), p.tables.exec = Jvm.exec → c.code = bytes → c.maxLocals = maxL → meth.sig.returnType = ret → meth.locks = false → s.vm.findClass y.cls = some m.cls → meth.name = y.name → Z.Warmed39 s.vm → Stand p l e rm s m as' below meth c T [] 0 0 → T.heap = h0 →
      (∀ (v : Option Value) (U : State) (L : List Loc) (k n : Nat), Q v U.heap L → ReturnedEndW s (.returned v) U L k n → k ≤ ck → n ≤ sk → K (.returned v) U) → Rch p e below K T (entryFrame m as' maxL)) :
    MetFree l y (head1 (Cond.code y bytes maxL ret :: ws) rm) (fun a U => a = as' ∧ Z.Warmed39 U.vm ∧ U.heap = h0) (fun _ _ _ _ _ => True) (fun _ U o U' => ∃ v L, o = .returned v ∧ Q v U'.heap L ∧ ReturnedEndW U o U' L ck sk) := by
  refine MetFree.of_bodySF hn hisR ?_
  intro p e s m args below meth c s₁ Bd hml0 hP hK
  obtain ⟨rfl, hZ, hh⟩ := hP
  show Rch p e below (fun o U' => ∃ v L, o = .returned v ∧ Q v U'.heap L ∧ ReturnedEndW s o U' L ck sk) s₁ (entryFrame m args maxL)
  refine body p e s m below meth c s₁ _ Bd.exec Bd.bytes hml0 Bd.returns Bd.notSynchronized (findClass_of_methodNamed Bd.named) (name_of_methodNamed Bd.named Bd.method).1 hZ (Stand.of_body Bd) (by rw [← hh, Bd.state]; rfl) ?_
  intro v U L k n hQ hF hk hs
  exact ⟨v, L, rfl, hQ, hF.1, hF.2.1, hF.2.2.1, hF.2.2.2.mono hk hs⟩
theorem own_end {vm1 : Vm} {n : Nat} (h : s.Since vm1 n) {U : State} {o : Outcome} {L : List Loc} {k c : Nat} (hn : n ≤ U.heap.size) (F : FrameEnd (s.setVm vm1) o U L k c) : ReturnedEndW s o U L k c := by
  obtain ⟨h1, h2, h3⟩ := F
  obtain ⟨g1, g2, g3⟩ := h.ended h2 hn h3
  exact ⟨h1, g1, g2, g3⟩
theorem own_narrowZ {z : Int32} (h : z = 0 ∨ z = 1) : narrow .boolean (.int z) = .int z := by rcases h with rfl | rfl <;> rfl
theorem own_fitZ {z : Int32} (h : z = 0 ∨ z = 1) : fits .boolean (.int z) = true := by rcases h with rfl | rfl <;> rfl
theorem own_narZ {z : Int32} (h : z = 0 ∨ z = 1) : nar .boolean z = z := by rcases h with rfl | rfl <;> rfl
/-- a truth as an int -/
def ob (P : Prop) [Decidable P] : Int32 := if P then 1 else 0
theorem ob_cases (P : Prop) [Decidable P] : (ob P = 1 ∧ P) ∨ (ob P = 0 ∧ ¬ P) := by
  by_cases h : P
  · exact Or.inl ⟨if_pos h, h⟩
  · exact Or.inr ⟨if_neg h, h⟩
theorem ob01 (P : Prop) [Decidable P] : ob P = 0 ∨ ob P = 1 := (ob_cases P).elim (fun h => Or.inr h.1) (fun h => Or.inl h.1)
theorem ob_pos {P : Prop} [Decidable P] (h : P) : ob P = 1 := if_pos h
theorem ob_neg {P : Prop} [Decidable P] (h : ¬ P) : ob P = 0 := if_neg h
theorem own_selP {args : Array Value} {y : MethodName} {n : Nat} (wi : (Cond.instantiable y.cls n).before args s = true) (hp : (Cond.privateMethod y).before args s = true) (hinst : (Cond.instanceMethod y).before args s = true) (hy : y.cls ≠ "java/lang/invoke/MethodHandle" ∧ y.cls ≠ "java/lang/invoke/VarHandle") : (Cond.selects y.cls y y).before args s = true := by
  obtain ⟨c, k, h1, h2, -, h4, -⟩ := Cond.instantiable_spec wi
  exact Jvm.Stand.selects_self_of_private h1 h2 (by cases hq : k.isInterface <;> simp [hq] at h4 ⊢) (Cond.privateMethod_at hp) hinst hy
end New
section Arrays
variable {Z : State} {h h' : Heap} {a b : Addr} {ty : FieldType} {n i : Nat} {f f' : Nat → Value} {sl : Nat} {v : Value} {ws : List Addr} {j : Int32} {c : Cell}
/-- the array at a has n places; place q holds f q -/
def Av (Z : State) (h : Heap) (a : Addr) (ty : FieldType) (n : Nat) (f : Nat → Value) : Prop := ∃ cl : Cell, Arr Z h a cl ty ∧ cl.slots.size = n ∧ ∀ j, j < n → cl.slots[j]? = some (f j)
theorem Av.ext (V : Av Z h a ty n f) (E : Ext h h') : Av Z h' a ty n f := by obtain ⟨c, A, r⟩ := V; exact ⟨c, A.ext E, r⟩
theorem Av.other (V : Av Z h b ty n f) (W : Wr h h' a sl v) (q : b ≠ a) : Av Z h' b ty n f := by obtain ⟨c, A, r⟩ := V; exact ⟨c, A.other W q, r⟩
theorem Av.keep (V : Av Z h a ty n f) (K : Keep h h' ws) (q : a ∉ ws) : Av Z h' a ty n f := by obtain ⟨c, A, r⟩ := V; exact ⟨c, ⟨K.2.1 a c A.1 q, A.2⟩, r⟩
theorem Av.lt (V : Av Z h a ty n f) : a < h.size := by obtain ⟨c, A, -⟩ := V; exact A.lt
theorem Av.congr (V : Av Z h a ty n f) (q : ∀ j, j < n → f j = f' j) : Av Z h a ty n f' := by obtain ⟨c, A, S, H⟩ := V; exact ⟨c, A, S, fun j hj => by rw [H j hj, q j hj]⟩
theorem Av.nostat (V : Av Z h a ty n f) : ∀ cell : Cell, h[a]? = some cell → cell.vm.isStatics = false := by
  obtain ⟨c, A, -⟩ := V
  exact Arr.nostat A
theorem own_sta {C nm d : String} (F : Sta Z h C nm d v) (K : Keep h h' ws) (hn : ∀ x ∈ ws, ∀ cell : Cell, h[x]? = some cell → cell.vm.isStatics = false) : Sta Z h' C nm d v := by
  obtain ⟨cf, i, k, f, st, cell, h1, h2, h3, h4, h5, h6, h7⟩ := F
  refine ⟨cf, i, k, f, st, cell, h1, h2, h3, h4, K.2.1 st cell h5 fun q => ?_, h6, h7⟩
  rw [hn st q cell h5] at h6
  cases h6
theorem oNat (e : j.toInt = (i : Int)) : j.toNatClampNeg = i := by simp only [Int32.toNatClampNeg]; omega
theorem oNn (e : j.toInt = (i : Int)) : ¬ j < 0 := by
  rw [Int32.lt_iff_toInt_lt]; have : (0 : Int32).toInt = 0 := rfl
  omega
theorem oIn (S : c.slots.size = n) (e : j.toInt = (i : Int)) (hi : i < n) : ¬ (j < 0 ∨ c.slots.size ≤ j.toNatClampNeg) := by
  rw [oNat e, S]; intro q
  rcases q with q | q
  · exact oNn e q
  · omega
theorem oAt (H : ∀ j, j < n → c.slots[j]? = some (f j)) (e : j.toInt = (i : Int)) (hi : i < n) : c.slots[j.toNatClampNeg]? = some (f i) := by rw [oNat e]; exact H i hi
theorem Av.set (V : Av Z h a ty n f) (e : j.toInt = (i : Int)) (hi : i < n) (W : Wr h h' a j.toNatClampNeg v) : Av Z h' a ty n (fun q => if q = i then v else f q) := by
  obtain ⟨c, A, S, H⟩ := V
  rw [oNat e] at W
  refine ⟨_, A.same W, by rw [sz_set]; exact S, fun k hk => ?_⟩
  by_cases u : k = i
  · subst u; simp [Cell.setSlot, S, hk]
  · simp only [u, if_false, Cell.setSlot]; rw [Array.getElem?_setIfInBounds_ne (Ne.symm u)]; exact H k hk
theorem Av.setI {y : Nat → Int32} {x : Int32} (V : Av Z h a ty n (fun q => .int (y q))) (e : j.toInt = (i : Int)) (hi : i < n) (W : Wr h h' a j.toNatClampNeg (.int x)) : Av Z h' a ty n (fun q => .int (if q = i then x else y q)) := (V.set e hi W).congr fun k _ => by
  by_cases u : k = i <;> simp [u]
theorem Av.setJ {y : Nat → Int64} {x : Int64} (V : Av Z h a ty n (fun q => .long (y q))) (e : j.toInt = (i : Int)) (hi : i < n) (W : Wr h h' a j.toNatClampNeg (.long x)) : Av Z h' a ty n (fun q => .long (if q = i then x else y q)) := (V.set e hi W).congr fun k _ => by
  by_cases u : k = i <;> simp [u]
theorem oLen (S : c.slots.size = n) : c.slots.size.toInt32 = Int32.ofNat n := by rw [S]
theorem Av.new {k : ClassId} {z : Int32} (A : Arr Z h a (newA k ty z) ty) (e : z.toInt = (n : Int)) : Av Z h a ty n (fun _ => defaultValue ty) :=
  ⟨_, A, by rw [sz_new]; exact oNat e, fun j hj => by have := oNat e; simp [newA, this, hj]⟩
/-- the array at a takes what is a C -/
def OvA (Z : State) (h : Heap) (a : Addr) (C : String) : Prop := ∃ cl : Cell, h[a]? = some cl ∧ Ovr Z cl.cls C
theorem OvA.ext {C : String} (F : OvA Z h a C) (E : Ext h h') : OvA Z h' a C := by obtain ⟨c, h1, h2⟩ := F; exact ⟨c, E.2 _ _ h1, h2⟩
theorem OvA.wr {C : String} (F : OvA Z h a C) (W : Wr h h' b sl v) : OvA Z h' a C := by
  obtain ⟨c, h1, h2⟩ := F
  obtain ⟨c', e1, e2, -⟩ := wr_at W h1
  exact ⟨c', e1, by rw [e2]; exact h2⟩
theorem OvA.keep {C : String} (F : OvA Z h a C) (K : Keep h h' ws) : OvA Z h' a C := by
  obtain ⟨c, h1, h2⟩ := F
  obtain ⟨c', e1, e2, -⟩ := K.2.2 a c h1
  exact ⟨c', e1, by rw [e2]; exact h2⟩
theorem OvA.at {C : String} (F : OvA Z h a C) (A : Arr Z h a c ty) : Ovr Z c.cls C := by
  obtain ⟨c', h1, h2⟩ := F
  cases h1.symm.trans A.1; exact h2
theorem oTo {n : Nat} (h : n < 2 ^ 31) : (Int32.ofNat n).toInt = (n : Int) := len_toInt h
end Arrays
end Jvm.RoadKit
namespace Jvm.RoadKit
open Sem ClassFile Op Lib Bundle Jvm.Stand Jvm.Free Jvm.LawKit Jvm.Free.SB Jvm.Free.SBG
section HeldOwn
variable {p : Program} {l : Launch} {e : Env} {R : Room} {s : State} {m : MethodId} {args : Array Value} {below : List Frame} {meth : Method} {c : Code} {T : State} {locs : List Loc} {cells slots : Nat} {Z : State} {EL : List (String × Nat)} {h h' h1 : Heap} {vm vm1 : Vm} {a b : Addr}
theorem own_metH {y : MethodName} {bytes : ByteArray} {maxL : Nat} {ret : Option FieldType} {ws : List Cond} {rm : Room} {as' : Array Value} {h0 : Heap} {Q : Option Value → Heap → List Loc → Prop} {ck sk : Nat} (hn : plainFor y = true)
    (body : ∀ (p : Program) (e : Env) (s : State) (m : MethodId) (below : List Frame) (meth : Method) (c : Code) (T : State) (K : Outcome → State → Prop), p.tables.exec = Jvm.exec → c.code = bytes → c.maxLocals = maxL → meth.sig.returnType = ret → meth.locks = false → s.vm.findClass y.cls = some m.cls → meth.name = y.name → Z.Warmed39 s.vm → Stand p l e rm s m as' below meth c T [] 0 0 → T.heap = h0 → CHv Z EL s.vm h0 →
      (∀ (v : Option Value) (U : State) (L : List Loc) (k n : Nat), Q v U.heap L → CHr Z EL s.vm h0 U.vm U.heap → ReturnedEndW s (.returned v) U L k n → k ≤ ck → n ≤ sk → K (.returned v) U) → Rch p e below K T (entryFrame m as' maxL)) :
    MetFree l y (head1 (Cond.code y bytes maxL ret :: ws) rm) (fun a U => a = as' ∧ Z.Warmed39 U.vm ∧ U.heap = h0 ∧ CHv Z EL U.vm h0) (fun _ _ _ _ _ => True) (fun _ U o U' => ∃ v L, o = .returned v ∧ Q v U'.heap L ∧ CHr Z EL U.vm U.heap U'.vm U'.heap ∧ ReturnedEndW U o U' L ck sk) := by
  refine MetFree.of_bodySF hn hisR ?_
  intro p e s m args below meth c s₁ Bd hml0 hP hK
  obtain ⟨rfl, hZ, hh, hC⟩ := hP
  show Rch p e below (fun o U' => ∃ v L, o = .returned v ∧ Q v U'.heap L ∧ CHr Z EL s.vm s.heap U'.vm U'.heap ∧ ReturnedEndW s o U' L ck sk) s₁ (entryFrame m args maxL)
  refine body p e s m below meth c s₁ _ Bd.exec Bd.bytes hml0 Bd.returns Bd.notSynchronized (findClass_of_methodNamed Bd.named) (name_of_methodNamed Bd.named Bd.method).1 hZ (Stand.of_body Bd) (by rw [← hh, Bd.state]; rfl) hC ?_
  intro v U L k n hQ hR hF hk hs
  exact ⟨v, L, rfl, hQ, by rw [hh]; exact hR, hF.1, hF.2.1, hF.2.2.1, hF.2.2.2.mono hk hs⟩
theorem own_endH {a0 : Array Value} (hZ : Z.Warmed39 (s.setVm vm1).vm) (hEL : EW Z a0 EL) (C : CHr Z EL vm h vm1 h1) {U : State} {o : Outcome} {L : List Loc} {k n : Nat} (hU : U.heap = h1) (F : FrameEnd (s.setVm vm1) o U L k n) : CHr Z EL vm h U.vm U.heap := by
  rw [hU]
  have q := CHv.later (h' := h1) (vm := vm1) hZ (hW := (show (Wst Z vm1 h1).Warmed39 U.vm from F.2.1.wide)) hEL ⟨Nat.le_refl _, fun _ _ q => q⟩ (Or.inl F.2.1.interned_eq) C.1
  exact C.trans ⟨q.1, Nat.le_refl _, q.2⟩
/-- a String whose value is null yet is no booked one -/
theorem own_safeNull (hal : Z.vm.Alike vm) (E : Exa Z h a "java/lang/String") (F : Fld Z h a "java/lang/String" "value" "[B" .null) : Safe Z EL vm h a := fun B => by
  obtain ⟨cell, k, e1, e2, e3, -, -⟩ := E
  obtain ⟨p, -, u, x, -, q, -, G, rfl | rfl⟩ := B
  · have hc := G.ha
    obtain ⟨cS, ⟨⟨-, -, -, ⟨c2, k2, i2, f2, -⟩, -, -, -, v2, -⟩, -⟩, -⟩ := G
    obtain ⟨c1, cf, k1, i1, f1, g1, g2, -, -, -, -, g7⟩ := F
    cases (show h[q.sa]? = some q.sC from hc).symm.trans g1
    obtain ⟨k3, e3', -⟩ := State.fieldFound?_setVm (s := Z) hal g2
    have e4 := (show (Wst Z vm h).fieldFound? _ _ _ = _ from e3').symm.trans f2
    simp only [Option.some.injEq, Prod.mk.injEq] at e4
    rw [← e4.2.2.2, g7] at v2
    cases v2
  · cases (show h[q.sd]? = some q.SA from G.hd).symm.trans e1
    obtain ⟨cS, -, -, f, -⟩ := G
    have f' : vm.findClass "[B" = some q.SA.cls := f
    rw [hal.findClass] at f'
    obtain ⟨k1, q1, q2⟩ := Vm.findClass_spec f'
    obtain ⟨k2, q3, q4⟩ := Vm.findClass_spec e2
    cases q1.symm.trans q3
    have := q2.symm.trans q4
    exact absurd this (by decide)
variable {ty : FieldType} {n : Nat} {f f' : Nat → Value} {k : ClassId} {z : Int32} {vs : List Value} {dv : Value}
theorem Av.safe (hal : Z.vm.Alike vm) (V : Av Z h a ty n f) (ht : ty ≠ .byte) : Safe Z EL vm h a := by
  obtain ⟨c, A, -⟩ := V
  exact Safe.arr hal A ht
theorem Av.arv (V : Av Z h a ty n f) (hn : n < 2 ^ 31) (G : ∀ q, q < n → fits ty (f q) = true) : ∃ k, Arv Z h a k ty (Int32.ofNat n) ((List.range n).map f) .null := by
  obtain ⟨c, A, S, H⟩ := V
  have e := oNat (oTo hn)
  refine ⟨c.cls, c, A, rfl, by rw [e]; exact S, oNn (oTo hn), fun j hj => ?_, fun j hj => ?_⟩
  · rw [S] at hj; rw [H j hj]; simp [hj]
  · rw [S] at hj; simpa [hj] using G j hj
theorem Arv.av (V : Arv Z h a k ty z vs dv) (e : z.toInt = (n : Int)) : Av Z h a ty n (fun j => vs.getD j dv) := by
  obtain ⟨c, A, -, S, -, H, -⟩ := V
  have S' : c.slots.size = n := by rw [S]; exact oNat e
  exact ⟨c, A, S', fun j hj => H j (by rw [S']; exact hj)⟩
theorem own_cp (X : Stand p l e R s m args below meth c T locs cells slots) (hx : p.tables.exec = Jvm.exec) (hZ : Z.Warmed39 s.vm) {a0 : Array Value} {own : String} {index : Nat} (hown : s.vm.findClass own = some m.cls)
    (w1 : (Cond.methodLink own index Jvm.Stand.acN).before a0 Z = true) (w2 : (Cond.native Jvm.Stand.acN).before a0 Z = true) (w3 : (Cond.static Jvm.Stand.acN).before a0 Z = true) (w4 : (Cond.initialized "java/lang/System").before a0 Z = true) (eT : T.heap = h)
    {n' i j k : Nat} {sp dp nn : Int32} (A : Av Z h a ty n f) (B : Av Z h b ty n' f') (hty : refKind ty = false) (hn : n < 2 ^ 31) (hn' : n' < 2 ^ 31) (Ga : ∀ q, q < n → fits ty (f q) = true) (Gb : ∀ q, q < n' → fits ty (f' q) = true)
    (es : sp.toInt = (i : Int)) (ed : dp.toInt = (j : Int)) (en : nn.toInt = (k : Int)) (h4 : i + k ≤ n) (h5 : j + k ≤ n') {n0 : Nat} (N : Fr n0 locs) (ge : n0 ≤ b)
    {g : JFrame} (hg : g.method = m) (hsize : g.locals.size = c.maxLocals) {rest : List Value} (hs : g.stack = .int nn :: .int dp :: .ref b :: .int sp :: .ref a :: rest) (hd : decode c.code g.pc = .ok (.invokestatic index, 3))
    (hf : 1 ≤ R.frames) {W : Nat} (hW : 2 * g.monitorRoom + (rest.map fun v => v.category).sum ≤ W) (hlo : W + (nativeFrameWords "java/lang/System" "arraycopy" 5 + 11) ≤ R.locals) :
    ∃ T' h' L, Stand p l e R s m args below meth c T' L cells slots ∧ T'.heap = h' ∧ Fr n0 L ∧ Keep h h' [b] ∧ Av Z h' b ty n' (fun q => if j ≤ q ∧ q < j + k then f (i + (q - j)) else f' q) ∧
      ∀ target, Steps p.tables e below (T'.setTop { g with pc := g.pc + 3, stack := rest }) target → Steps p.tables e below (T.setTop g) target := by
  obtain ⟨kA, A'⟩ := A.arv hn Ga
  obtain ⟨kB, B'⟩ := B.arv hn' Gb
  obtain ⟨T', h', L, r1, r2, r3, r4, r5, r6⟩ := cpA X hx hZ hown w1 w2 w3 w4 eT A' B' (Or.inl ⟨rfl, hty⟩) (oNn es) (oNn ed) (oNn en) (by rw [oNat es, oNat en, oNat (oTo hn)]; exact h4) (by rw [oNat ed, oNat en, oNat (oTo hn')]; exact h5) rfl (by rw [oNat ed, oNat en]; simpa using h5) N ge hg hsize hs hd hf hW hlo
  refine ⟨T', h', L, r1, r2, r3, r4, (Arv.av r5 (oTo hn')).congr (fun q hq => ?_), r6⟩
  rw [oNat es, oNat ed, oNat en]
  simp only [List.getD_eq_getElem?_getD]
  have l1 : (List.take j ((List.range n').map f')).length = j := by simp; omega
  by_cases c1 : q < j
  · rw [List.append_assoc, List.getElem?_append_left (by omega), List.getElem?_take_of_lt c1, if_neg (by omega)]
    simp [hq]
  · by_cases c2 : q < j + k
    · rw [List.getElem?_append_left (by rw [List.length_append, l1]; simp; omega), List.getElem?_append_right (by omega), l1, if_pos ⟨by omega, c2⟩]
      simp [show q - j < k by omega, show i + (q - j) < n by omega]
    · rw [List.getElem?_append_right (by rw [List.length_append, l1]; simp; omega), List.length_append, l1, List.getElem?_drop, if_neg (by omega)]
      simp [show j + k + (q - (j + k)) = q by omega, hq]
/-- a copy of no component -/
theorem own_cp0 (X : Stand p l e R s m args below meth c T locs cells slots) (hx : p.tables.exec = Jvm.exec) (hZ : Z.Warmed39 s.vm) {a0 : Array Value} {own : String} {index : Nat} (hown : s.vm.findClass own = some m.cls)
    (w1 : (Cond.methodLink own index Jvm.Stand.acN).before a0 Z = true) (w2 : (Cond.native Jvm.Stand.acN).before a0 Z = true) (w3 : (Cond.static Jvm.Stand.acN).before a0 Z = true) (w4 : (Cond.initialized "java/lang/System").before a0 Z = true) (eT : T.heap = h)
    {n' i j : Nat} {sp dp : Int32} (A : Av Z h a ty n f) (B : Av Z h b ty n' f') (hn : n < 2 ^ 31) (hn' : n' < 2 ^ 31) (Ga : ∀ q, q < n → fits ty (f q) = true) (Gb : ∀ q, q < n' → fits ty (f' q) = true)
    (es : sp.toInt = (i : Int)) (ed : dp.toInt = (j : Int)) (h4 : i ≤ n) (h5 : j ≤ n') {n0 : Nat} (N : Fr n0 locs) (ge : n0 ≤ b)
    {g : JFrame} (hg : g.method = m) (hsize : g.locals.size = c.maxLocals) {rest : List Value} (hs : g.stack = .int (0 : Int32) :: .int dp :: .ref b :: .int sp :: .ref a :: rest) (hd : decode c.code g.pc = .ok (.invokestatic index, 3))
    (hf : 1 ≤ R.frames) {W : Nat} (hW : 2 * g.monitorRoom + (rest.map fun v => v.category).sum ≤ W) (hlo : W + (nativeFrameWords "java/lang/System" "arraycopy" 5 + 11) ≤ R.locals) :
    ∃ T' h' L, Stand p l e R s m args below meth c T' L cells slots ∧ T'.heap = h' ∧ Fr n0 L ∧ Keep h h' [b] ∧ Av Z h' b ty n' f' ∧
      ∀ target, Steps p.tables e below (T'.setTop { g with pc := g.pc + 3, stack := rest }) target → Steps p.tables e below (T.setTop g) target := by
  obtain ⟨kA, A'⟩ := A.arv hn Ga
  obtain ⟨kB, B'⟩ := B.arv hn' Gb
  have en : (0 : Int32).toInt = ((0 : Nat) : Int) := rfl
  have hty : (ty = ty ∧ refKind ty = false) ∨ (refKind ty = true ∧ refKind ty = true ∧ StoL Z h b []) := by
    cases hk : refKind ty
    · exact Or.inl ⟨rfl, rfl⟩
    · exact Or.inr ⟨rfl, rfl, trivial⟩
  obtain ⟨T', h', L, r1, r2, r3, r4, r5, r6⟩ := cpA (us := []) X hx hZ hown w1 w2 w3 w4 eT A' B' hty (oNn es) (oNn ed) (oNn en) (by rw [oNat es, oNat en, oNat (oTo hn)]; omega) (by rw [oNat ed, oNat en, oNat (oTo hn')]; omega) rfl (by rw [oNat ed, oNat en]; simpa using h5) N ge hg hsize hs hd hf hW hlo
  refine ⟨T', h', L, r1, r2, r3, r4, (Arv.av r5 (oTo hn')).congr (fun q hq => ?_), r6⟩
  rw [oNat ed, oNat en]
  simp [hq]
theorem own_cpI (X : Stand p l e R s m args below meth c T locs cells slots) (hx : p.tables.exec = Jvm.exec) (hZ : Z.Warmed39 s.vm) {a0 : Array Value} {own : String} {index : Nat} (hown : s.vm.findClass own = some m.cls)
    (w1 : (Cond.methodLink own index Jvm.Stand.acN).before a0 Z = true) (w2 : (Cond.native Jvm.Stand.acN).before a0 Z = true) (w3 : (Cond.static Jvm.Stand.acN).before a0 Z = true) (w4 : (Cond.initialized "java/lang/System").before a0 Z = true) (eT : T.heap = h)
    {n' i j k : Nat} {sp dp nn : Int32} {y y' : Nat → Int32} (A : Av Z h a ty n (fun q => .int (y q))) (B : Av Z h b ty n' (fun q => .int (y' q))) (hty : refKind ty = false) (hn : n < 2 ^ 31) (hn' : n' < 2 ^ 31) (Ga : ∀ q, q < n → fits ty (.int (y q)) = true) (Gb : ∀ q, q < n' → fits ty (.int (y' q)) = true)
    (es : sp.toInt = (i : Int)) (ed : dp.toInt = (j : Int)) (en : nn.toInt = (k : Int)) (h4 : i + k ≤ n) (h5 : j + k ≤ n') {n0 : Nat} (N : Fr n0 locs) (ge : n0 ≤ b)
    {g : JFrame} (hg : g.method = m) (hsize : g.locals.size = c.maxLocals) {rest : List Value} (hs : g.stack = .int nn :: .int dp :: .ref b :: .int sp :: .ref a :: rest) (hd : decode c.code g.pc = .ok (.invokestatic index, 3))
    (hf : 1 ≤ R.frames) {W : Nat} (hW : 2 * g.monitorRoom + (rest.map fun v => v.category).sum ≤ W) (hlo : W + (nativeFrameWords "java/lang/System" "arraycopy" 5 + 11) ≤ R.locals) :
    ∃ T' h' L, Stand p l e R s m args below meth c T' L cells slots ∧ T'.heap = h' ∧ Fr n0 L ∧ Keep h h' [b] ∧ Av Z h' b ty n' (fun q => .int (if j ≤ q ∧ q < j + k then y (i + (q - j)) else y' q)) ∧
      ∀ target, Steps p.tables e below (T'.setTop { g with pc := g.pc + 3, stack := rest }) target → Steps p.tables e below (T.setTop g) target := by
  obtain ⟨T', h', L, r1, r2, r3, r4, r5, r6⟩ := own_cp X hx hZ hown w1 w2 w3 w4 eT A B hty hn hn' Ga Gb es ed en h4 h5 N ge hg hsize hs hd hf hW hlo
  refine ⟨T', h', L, r1, r2, r3, r4, r5.congr (fun q hq => ?_), r6⟩
  by_cases c1 : j ≤ q ∧ q < j + k
  · simp only [c1, and_self, if_true]
  · simp only [c1, if_false]
theorem own_clone (X : Stand p l e R s m args below meth c T locs cells slots) (hx : p.tables.exec = Jvm.exec) (hZ : Z.Warmed39 s.vm) {a0 : Array Value} {own ad : String} {index : Nat} (hown : s.vm.findClass own = some m.cls)
    (w1 : (Cond.methodLink own index ⟨ad, "clone", "()Ljava/lang/Object;"⟩).before a0 Z = true) (w2 : (Cond.sameMethod ad "java/lang/Object" "clone" "()Ljava/lang/Object;").before a0 Z = true) (w3 : (Cond.native ⟨"java/lang/Object", "clone", "()Ljava/lang/Object;"⟩).before a0 Z = true)
    (w4 : (Cond.instanceMethod ⟨"java/lang/Object", "clone", "()Ljava/lang/Object;"⟩).before a0 Z = true) (w5 : (Cond.selects ad ⟨ad, "clone", "()Ljava/lang/Object;"⟩ ⟨"java/lang/Object", "clone", "()Ljava/lang/Object;"⟩).before a0 Z = true) (w6 : (Cond.castable ad "java/lang/Cloneable").before a0 Z = true)
    (eT : T.heap = h) (V : Av Z h a ty n f) (G : ∀ q, q < n → fits ty (f q) = true) (E : Exa Z h a ad) {g : JFrame} (hg : g.method = m) (hsize : g.locals.size = c.maxLocals) {rest : List Value} (hs : g.stack = .ref a :: rest) (hd : decode c.code g.pc = .ok (.invokevirtual index, 3))
    (hf : 1 ≤ R.frames) {W cap : Nat} (hW : 2 * g.monitorRoom + (rest.map fun v => v.category).sum ≤ W) (hl : W + 14 ≤ R.locals) (hcap : n ≤ cap) (hc : cells + 1 ≤ R.cells) (hsl : slots + cap ≤ R.slots) :
    ∃ T' h', Stand p l e R s m args below meth c T' locs (cells + 1) (slots + cap) ∧ T'.heap = h' ∧ Ext h h' ∧ Av Z h' h.size ty n f ∧ Exa Z h' h.size ad ∧
      ∀ target, Steps p.tables e below (T'.setTop { g with pc := g.pc + 3, stack := .ref h.size :: rest }) target → Steps p.tables e below (T.setTop g) target := by
  obtain ⟨cl, A, S, H⟩ := V
  have FC : FitC Z cl := fitC_of A fun i hi v hv => by
    rw [S] at hi
    rw [H i hi] at hv
    cases hv
    exact G i hi
  obtain ⟨T', h', X', e', ex, A', E', st⟩ := cloneA X hx hZ hown w1 w2 w3 w4 w5 w6 eT A E FC hg hsize hs hd hf hW hl (by rw [S]; exact hcap) hc hsl
  exact ⟨T', h', X', e', ex, ⟨cloneOf cl, A', S, H⟩, E', st⟩
theorem own_sameF {C nm d : String} {v w : Value} (F : Fld Z h a C nm d v) (G : Fld Z h b C nm d w) (e : a = b) : v = w := Classical.byContradiction fun q => Fld.ne F G q e
theorem Av.same {ty' : FieldType} {n' : Nat} (V : Av Z h a ty n f) (W : Av Z h a ty' n' f') : n = n' ∧ ∀ q, q < n → f q = f' q := by
  obtain ⟨c, A, S, H⟩ := V
  obtain ⟨c', A', S', H'⟩ := W
  cases A.1.symm.trans A'.1
  have e : n = n' := S.symm.trans S'
  exact ⟨e, fun q hq => Option.some.inj ((H q hq).symm.trans (H' q (e ▸ hq)))⟩
theorem own_eqref {args : Array Value} {X F : Term} {r : Addr} (hF : F.eval args Z none [] Z = some (.ref r)) (h : (Cond.eq X F).value args Z none Z [] = some true) : X.eval args Z none [] Z = some (.ref r) := by
  simp only [Cond.value, hF] at h
  cases hx : X.eval args Z none [] Z with
  | none => simp [hx] at h
  | some x => cases x <;> simp [hx] at h ⊢ <;> first | exact h | exact h.symm
theorem own_startAv {args : Array Value} {t : Term} {k : Int32} (ev : t.eval args Z none [] Z = some (.ref a)) (ha : (Cond.arrayOf t ty).value args Z none Z [] = some true) (hl : (Cond.eq (.length t) (.int k)).value args Z none Z [] = some true) (ek : k.toInt = (n : Int))
    (he : ∀ j, j < n → (Term.elem t (.int (Int32.ofNat j))).eval args Z none [] Z = some (f j)) : Av Z Z.heap a ty n f := by
  obtain ⟨c, A⟩ := Arr.start ev ha
  have hlen := eqv_i (F := .int k) rfl hl
  obtain ⟨x, SA, e1, e2, -⟩ := Term.length_spec hlen
  cases ev.symm.trans e1
  have h31 := SBG.length_lt e1 e2 hlen
  cases A.1.symm.trans (Jvm.Joins.arrayAt_spec e2).1
  have e3 := Option.some.inj ((len_f e1 e2 h31).symm.trans hlen)
  have S : c.slots.size = n := by
    injection e3 with e3
    have e4 := congrArg Int32.toInt e3
    rw [len_toInt h31, ek] at e4
    omega
  refine ⟨c, A, S, fun j hj => ?_⟩
  have q := (elem_in (he j hj) ev rfl A.1).2
  rw [oNat (oTo (by omega))] at q
  exact q
theorem own_exane {C D : String} (E : Exa Z h a C) (F : Exa Z h b D) (q : C ≠ D) : a ≠ b := fun e => by
  subst e
  obtain ⟨c1, k1, e1, e2, -⟩ := E
  obtain ⟨c2, k2, f1, f2, -⟩ := F
  cases e1.symm.trans f1
  exact ids_ne e2 f2 q rfl
theorem own_nf {args : Array Value} {C : String} {y y' : MethodName} (hsel : (Cond.selects C y' y').before args s = true) (hc : y.cls = y'.cls) : NotFace s y := fun r0 h0 => by
  obtain ⟨c2, r2, m2, q1, q2, q3, q4, kP, hkP, hkPi⟩ := Cond.selects_spec hsel
  have a1 := findClass_of_methodNamed h0
  have a2 := findClass_of_methodNamed q3
  rw [hc, a2] at a1
  injection a1 with a1
  exact ⟨kP, by rw [← a1]; exact hkP, hkPi⟩
theorem own_selP2 {args : Array Value} {C : String} {y : MethodName} (hsel : (Cond.selects C y y).before args s = true) (hp : (Cond.privateMethod y).before args s = true) (hinst : (Cond.instanceMethod y).before args s = true) (hy : y.cls ≠ "java/lang/invoke/MethodHandle" ∧ y.cls ≠ "java/lang/invoke/VarHandle") : (Cond.selects y.cls y y).before args s = true := by
  obtain ⟨c2, r2, m2, q1, q2, q3, q4, kP, hkP, hkPi⟩ := Cond.selects_spec hsel
  exact Jvm.Stand.selects_self_of_private (findClass_of_methodNamed q3) hkP hkPi (Cond.privateMethod_at hp) hinst hy
theorem own_sameM {args : Array Value} {y : MethodName} (hinst : (Cond.instanceMethod y).before args s = true) (nf : NotFace s y) (hy : y.cls ≠ "java/lang/invoke/MethodHandle" ∧ y.cls ≠ "java/lang/invoke/VarHandle") : (Cond.sameMethod y.cls y.cls y.name y.desc).before args s = true := by
  obtain ⟨mk, methM, hnamed, hmethM, -, -⟩ := Cond.instanceMethod_spec hinst
  have hfound : s.methodFound? y.cls y.name y.desc = some mk := State.methodFound?_of_named hnamed hy
  obtain ⟨k, hk, hni⟩ := nf mk hnamed
  have hc := findClass_of_methodNamed hnamed
  have hn2 : s.methodNamed? ⟨y.cls, y.name, y.desc⟩ = some mk := hnamed
  simp only [Cond.before, Cond.holds, Cond.value, hc, hfound, hn2, hk]
  simp [hni]
theorem own_nsroot {a0 : Array Value} {O K : String} {nK : Nat} (w : (Cond.noSuperclass O).before a0 Z = true) (wk : (Cond.instantiable K nK).before a0 Z = true) (hn : O ≠ K) : NS Z O K := by
  obtain ⟨c, k, h1, h2, h3, -, -⟩ := Cond.noSuperclass_spec w
  obtain ⟨t, kI, g1, -⟩ := Cond.instantiable_spec wk
  have ne := ids_ne h1 g1 hn
  refine ⟨c, t, h1, g1, fun fuel => ?_⟩
  cases fuel with
  | zero => rfl
  | succ f => simp [Vm.isSubclassAux, ne, h2, h3]
theorem own_nsno {a0 : Array Value} {C S K : String} {nK : Nat} (w : (Cond.superclass C S).before a0 Z = true) (wk : (Cond.instantiable K nK).before a0 Z = true) (n : NS Z C K) (hn : C ≠ K) : ∃ c t, Z.vm.findClass C = some c ∧ Z.vm.findClass K = some t ∧ Z.vm.assignable c t = false := by
  obtain ⟨c, t, h0, g0, n3⟩ := n
  obtain ⟨p, k, kp, h1, h2, h3, h4, h5, -, h7⟩ := Cond.superclass_spec h0 w
  obtain ⟨cI, kI, hfI, hkI, hkindI, r4, -⟩ := Cond.instantiable_spec wk
  cases g0.symm.trans hfI
  have ne := ids_ne h0 g0 hn
  have hni : kI.isInterface = false := by cases hq : kI.isInterface <;> simp [hq] at r4 ⊢
  refine ⟨c, t, h0, g0, ?_⟩
  show Z.vm.assignableAux (255 + 1) c t = false
  simp [Vm.assignableAux, ne, h2, hkI, h5, hkindI, hni, Vm.isSubclass, n3]
end HeldOwn
end Jvm.RoadKit
namespace Jvm.Pilot.@@N@@
open Jvm Jvm.ClassFile Sem Op Lib Jvm.Free Jvm.Stand Jvm.LawKit Jvm.RoadKit Bundle Jvm.Pilot.@@N@@.Jvm.D
theorem own_one (i : Nat) : Int32.ofNat i + (1 : Int32) = Int32.ofNat (i + 1) := (Int32.ofNat_add i 1).symm
theorem own_olt2 {i n : Nat} (hi : i < 2 ^ 31) (hn : n < 2 ^ 31) : Int32.ofNat i < Int32.ofNat n ↔ i < n := by
  rw [Int32.lt_iff_toInt_lt, oTo hn, oTo hi]; omega
theorem own_neN {i j : Nat} (hi : i < 2 ^ 31) (hj : j < 2 ^ 31) : Int32.ofNat i = Int32.ofNat j ↔ i = j := by
  rw [← Int32.toInt_inj, oTo hi, oTo hj]; omega
theorem own_ne0 {n : Nat} (h1 : 1 ≤ n) (h : n < 2 ^ 31) : ¬ Int32.ofNat n = (0 : Int32) := fun q => by
  have := (own_neN (j := 0) h (by decide)).mp q
  omega
theorem own_b8 (x : Int32) : x.toInt8.toInt32.toInt8.toInt32 = x.toInt8.toInt32 := by simp
theorem own_put {α : Type} (i j : Nat) (p v : α) (f : Nat → α) (hj : j = i → p = f j) : (if j = i then p else if j < i then f j else v) = if j < i + 1 then f j else v := by
  by_cases h : j = i
  · subst h; simp [hj rfl]
  · by_cases h2 : j < i
    · simp [h, h2, show j < i + 1 by omega]
    · simp [h, h2, show ¬ j < i + 1 by omega]
theorem own_cod (n : Nat) : (((Int32.ofNat n - Int32.ofNat n).toUInt32 >>> ((31 : Int32) &&& 31).toUInt32).toInt32.toInt8.toInt32) = (0 : Int32) := by
  rw [Int32.sub_self]; decide
theorem own_sh0 (x : Int32) : x >>> ((0 : Int32) &&& 31) = x := by
  apply Int32.toInt_inj.mp
  rw [c_ishr x 0 0 (by decide)]
  simp
theorem own_le255 {x : Int32} (h : x.toInt ≤ 255) : ¬ (255 : Int32) < x := by
  rw [Int32.lt_iff_toInt_lt]
  have e : (255 : Int32).toInt = 255 := by decide
  omega
def own_ch (n : Nat) (y : Nat → Int32) : Prop := ∀ q, q < n → 0 ≤ (y q).toInt ∧ (y q).toInt ≤ 255
theorem own_antis {a b : Int32} (h1 : ¬ a < b) (h2 : ¬ b < a) : a = b := by
  rw [Int32.lt_iff_toInt_lt] at h1 h2
  apply Int32.toInt_inj.mp
  omega
theorem own_irr (a : Int32) : ¬ a < a := Int32.lt_irrefl
theorem own_nneg {i : Nat} (h : i < 2 ^ 31) : ¬ Int32.ofNat i < (0 : Int32) := oNn (oTo h)
theorem own_nlt {i j : Nat} (h : j ≤ i) (hi : i < 2 ^ 31) : ¬ Int32.ofNat i < Int32.ofNat j := fun q => by
  have := (own_olt2 hi (by omega)).mp q
  omega
theorem own_lt3 {i j : Nat} (h : i < j) (hj : j < 2 ^ 31) : Int32.ofNat i < Int32.ofNat j := (own_olt2 (by omega) hj).mpr h
theorem own_addN (i j : Nat) : Int32.ofNat i + Int32.ofNat j = Int32.ofNat (i + j) := (Int32.ofNat_add i j).symm
theorem own_subN {i j : Nat} (h : i ≤ j) : Int32.ofNat j - Int32.ofNat i = Int32.ofNat (j - i) := (Int32.ofNat_sub j i h).symm
theorem own_pred (k : Nat) : Int32.ofNat (k + 1) - (1 : Int32) = Int32.ofNat k := by
  rw [← own_one]; exact Int32.add_sub_cancel _ _
theorem own_m1 (k : Nat) : Int32.ofNat k + (-1 : Int32) = Int32.ofNat k - (1 : Int32) := Int32.add_neg_eq_sub
theorem own_pm (k : Nat) : Int32.ofNat k - (1 : Int32) + (1 : Int32) = Int32.ofNat k := Int32.sub_add_cancel _ _
def own_c1 (x : Int32) : Prop := 0 ≤ x.toInt ∧ x.toInt ≤ 255
theorem own_c1n {x : Int32} (h : own_c1 x) : ¬ x < (0 : Int32) := by
  rw [Int32.lt_iff_toInt_lt]
  have e : (0 : Int32).toInt = 0 := rfl
  have := h.1
  omega
theorem own_c1l {x : Int32} (h : own_c1 x) : ¬ (255 : Int32) < x := own_le255 h.2
theorem own_b8v (x : Int32) : x.toInt8.toInt32.toInt = x.toInt.bmod 256 := by
  rw [Int8.toInt_toInt32, Int32.toInt_toInt8]
theorem own_b8i {x y : Int32} (hx : own_c1 x) (hy : own_c1 y) (h : x.toInt8.toInt32 = y.toInt8.toInt32) : x = y := by
  have e := congrArg Int32.toInt h
  rw [own_b8v, own_b8v] at e
  have e1 := Int.bmod_emod (x := x.toInt) (m := 256)
  have e2 := Int.bmod_emod (x := y.toInt) (m := 256)
  rw [e, e2] at e1
  obtain ⟨h1, h2⟩ := hx
  obtain ⟨h3, h4⟩ := hy
  apply Int32.toInt_inj.mp
  omega
theorem own_chr {x : Int32} (h : own_c1 x) : nar .char ((x.toInt8.toInt32 &&& (255 : Int32)).toUInt32.toUInt16.toUInt32.toInt32) = x := by
  show (((x.toInt8.toInt32 &&& (255 : Int32)).toUInt32.toUInt16.toUInt32.toInt32).toUInt32.toUInt16.toUInt32.toInt32) = x
  rw [i2c_mask, i2c_mask]
  apply Int32.toInt_inj.mp
  rw [c_mask _ 255 8 (by decide) (by decide), own_b8v]
  have e1 := Int.bmod_emod (x := x.toInt) (m := 256)
  obtain ⟨h1, h2⟩ := h
  have e2 : ((2 ^ 8 : Nat) : Int) = ((256 : Nat) : Int) := rfl
  rw [e2, e1]
  omega
theorem own_i2c {x : Int32} (h : own_c1 x) : x.toUInt32.toUInt16.toUInt32.toInt32 = x := by
  have e : x &&& (255 : Int32) = x := by
    apply Int32.toInt_inj.mp
    rw [c_mask _ 255 8 (by decide) (by decide)]
    obtain ⟨h1, h2⟩ := h
    have e2 : ((2 ^ 8 : Nat) : Int) = 256 := rfl
    rw [e2]
    omega
  rw [← e]; exact i2c_mask x
theorem own_ch.at {n : Nat} {y : Nat → Int32} (h : own_ch n y) {i : Nat} (hi : i < n) : own_c1 (y i) := h i hi
/-- the last place below n (and one) that holds c, or 0 -/
def own_ls (y : Nat → Int32) (c : Int32) : Nat → Nat
  | 0 => 0
  | n + 1 => if y n = c then n + 1 else own_ls y c n
theorem own_ls_le (y : Nat → Int32) (c : Int32) (n : Nat) : own_ls y c n ≤ n := by
  induction n with
  | zero => exact Nat.le_refl _
  | succ n ih =>
    by_cases h : y n = c
    · simp [own_ls, h]
    · simp only [own_ls, h, if_false]; omega
theorem own_ls_none {y : Nat → Int32} {c : Int32} : ∀ {n : Nat}, (∀ q, q < n → y q ≠ c) → own_ls y c n = 0
  | 0, _ => rfl
  | n + 1, h => by
    simp only [own_ls, h n (by omega), if_false]
    exact own_ls_none fun q hq => h q (by omega)
theorem own_ls_at {y : Nat → Int32} {c : Int32} {k : Nat} (e : y k = c) : ∀ {n : Nat}, k < n → (∀ q, k + 1 ≤ q → q < n → y q ≠ c) → own_ls y c n = k + 1
  | 0, h, _ => by omega
  | n + 1, h, hn => by
    by_cases u : k = n
    · subst u; simp [own_ls, e]
    · simp only [own_ls, hn n (by omega) (by omega), if_false]
      exact own_ls_at e (by omega) fun q h1 h2 => hn q h1 (by omega)
/-- the first place below n that holds c, or n -/
def own_fN (y : Nat → Int32) (c : Int32) : Nat → Nat
  | 0 => 0
  | n + 1 => if own_fN y c n < n then own_fN y c n else if y n = c then n else n + 1
theorem own_fN_spec (y : Nat → Int32) (c : Int32) (n : Nat) : own_fN y c n ≤ n ∧ (own_fN y c n < n → y (own_fN y c n) = c) ∧ ∀ q, q < own_fN y c n → y q ≠ c := by
  induction n with
  | zero => exact ⟨Nat.le_refl _, fun h => absurd h (by simp [own_fN]), fun q h => absurd h (by simp [own_fN])⟩
  | succ n ih =>
    obtain ⟨h1, h2, h3⟩ := ih
    by_cases u : own_fN y c n < n
    · have e : own_fN y c (n + 1) = own_fN y c n := by simp [own_fN, u]
      rw [e]; exact ⟨by omega, fun _ => h2 u, h3⟩
    · have e0 : own_fN y c n = n := by omega
      rw [e0] at h3
      by_cases v : y n = c
      · have e : own_fN y c (n + 1) = n := by simp [own_fN, u, v]
        rw [e]; exact ⟨by omega, fun _ => v, h3⟩
      · have e : own_fN y c (n + 1) = n + 1 := by simp [own_fN, u, v]
        rw [e]
        refine ⟨Nat.le_refl _, fun h => absurd h (by omega), fun q hq => ?_⟩
        by_cases w : q = n
        · rw [w]; exact v
        · exact h3 q (by omega)
theorem own_fN_le (y : Nat → Int32) (c : Int32) (n : Nat) : own_fN y c n ≤ n := (own_fN_spec y c n).1
theorem own_fN_eq {y : Nat → Int32} {c : Int32} {n j : Nat} (hj : j ≤ n) (h1 : j < n → y j = c) (h2 : ∀ q, q < j → y q ≠ c) : own_fN y c n = j := by
  obtain ⟨a1, a2, a3⟩ := own_fN_spec y c n
  by_cases u : own_fN y c n < j
  · exact absurd (a2 (by omega)) (h2 _ u)
  · by_cases v : j < own_fN y c n
    · exact absurd (h1 (by omega)) (a3 _ v)
    · omega
theorem own_fN_congr {y z : Nat → Int32} {c : Int32} {n : Nat} (h : ∀ q, q < n → y q = z q) : own_fN y c n = own_fN z c n := by
  obtain ⟨a1, a2, a3⟩ := own_fN_spec z c n
  refine own_fN_eq a1 (fun q => ?_) (fun q hq => ?_)
  · rw [h _ q]; exact a2 q
  · rw [h q (by omega)]; exact a3 q hq
def own_ix (y : Nat → Int32) (c : Int32) (n : Nat) : Int32 := if own_fN y c n < n then Int32.ofNat (own_fN y c n) else (-1 : Int32)
theorem own_ix_at {y : Nat → Int32} {c : Int32} {n i : Nat} (hi : i < n) (h1 : y i = c) (h2 : ∀ q, q < i → y q ≠ c) : own_ix y c n = Int32.ofNat i := by
  have e := own_fN_eq (n := n) (Nat.le_of_lt hi) (fun _ => h1) h2
  simp [own_ix, e, hi]
theorem own_ix_no {y : Nat → Int32} {c : Int32} {n : Nat} (h2 : ∀ q, q < n → y q ≠ c) : own_ix y c n = (-1 : Int32) := by
  have e := own_fN_eq (n := n) (Nat.le_refl _) (fun h => absurd h (Nat.lt_irrefl _)) h2
  simp [own_ix, e]
theorem own_ix_neg {y : Nat → Int32} {c : Int32} {n : Nat} (hn : n < 2 ^ 31) (h : own_ix y c n < (0 : Int32)) : own_fN y c n = n := by
  have l := own_fN_le y c n
  by_cases u : own_fN y c n < n
  · simp only [own_ix, u, if_true] at h
    exact absurd h (own_nneg (by omega))
  · omega
theorem own_ix_pos {y : Nat → Int32} {c : Int32} {n : Nat} (h : ¬ own_ix y c n < (0 : Int32)) : own_ix y c n = Int32.ofNat (own_fN y c n) := by
  by_cases u : own_fN y c n < n
  · simp [own_ix, u]
  · simp only [own_ix, u, if_false] at h
    exact absurd (by decide : (-1 : Int32) < (0 : Int32)) h
/-- one behind the first place of c, or 0 -/
def own_kc (y : Nat → Int32) (c : Int32) (n : Nat) : Nat := if own_fN y c n < n then own_fN y c n + 1 else 0
theorem own_kc_le (y : Nat → Int32) (c : Int32) (n : Nat) : own_kc y c n ≤ n := by
  unfold own_kc
  by_cases u : own_fN y c n < n
  · simp only [u, if_true]; omega
  · simp [u]
theorem own_ix_kc (y : Nat → Int32) (c : Int32) (n : Nat) : own_ix y c n + (1 : Int32) = Int32.ofNat (own_kc y c n) := by
  by_cases u : own_fN y c n < n
  · simp only [own_ix, own_kc, u, if_true]; exact own_one _
  · simp only [own_ix, own_kc, u, if_false]; decide
def own_eqN (y z : Nat → Int32) : Nat → Bool
  | 0 => true
  | n + 1 => own_eqN y z n && decide (y n = z n)
theorem own_eqN_t {y z : Nat → Int32} : ∀ {n : Nat}, (∀ q, q < n → y q = z q) → own_eqN y z n = true
  | 0, _ => rfl
  | n + 1, h => by
    have a := own_eqN_t (y := y) (z := z) (n := n) (fun q hq => h q (by omega))
    simp [own_eqN, a, h n (by omega)]
theorem own_eqN_f {y z : Nat → Int32} {q : Nat} (e : y q ≠ z q) : ∀ {n : Nat}, q < n → own_eqN y z n = false
  | 0, h => by omega
  | n + 1, h => by
    by_cases u : q = n
    · subst u; simp [own_eqN, e]
    · simp [own_eqN, own_eqN_f e (show q < n by omega)]
theorem own_eqN_comm (y z : Nat → Int32) (n : Nat) : own_eqN y z n = own_eqN z y n := by
  induction n with
  | zero => rfl
  | succ n ih => simp only [own_eqN, ih, eq_comm]
/-- two texts are the same: 1 or 0 -/
def own_eqv (n : Nat) (y : Nat → Int32) (n2 : Nat) (y2 : Nat → Int32) : Int32 := if n = n2 ∧ own_eqN y y2 n = true then 1 else 0
theorem own_eqv01 (n : Nat) (y : Nat → Int32) (n2 : Nat) (y2 : Nat → Int32) : own_eqv n y n2 y2 = 0 ∨ own_eqv n y n2 y2 = 1 := by
  unfold own_eqv
  by_cases h : n = n2 ∧ own_eqN y y2 n = true
  · right; rw [if_pos h]
  · left; rw [if_neg h]
theorem own_eqv_comm (n : Nat) (y : Nat → Int32) (n2 : Nat) (y2 : Nat → Int32) : own_eqv n y n2 y2 = own_eqv n2 y2 n y := by
  unfold own_eqv
  by_cases h : n = n2
  · subst h; rw [own_eqN_comm]
  · simp [h, Ne.symm h]
theorem own_eqv_n {n n2 : Nat} (y y2 : Nat → Int32) (h : ¬ n = n2) : own_eqv n y n2 y2 = 0 := by simp [own_eqv, h]
theorem own_eqv_t {n n2 : Nat} {y y2 : Nat → Int32} (h : n = n2) (e : ∀ q, q < n → y q = y2 q) : own_eqv n y n2 y2 = 1 := by simp [own_eqv, ← h, own_eqN_t e]
theorem own_eqv_f {n n2 : Nat} {y y2 : Nat → Int32} {q : Nat} (hq : q < n) (e : y q ≠ y2 q) : own_eqv n y n2 y2 = 0 := by simp [own_eqv, own_eqN_f e hq]
theorem own_EW {a0 : Array Value} {Z : State} (hw : ∀ d ∈ tables_1, d.before a0 Z = true) : EW Z a0 consts_1 := EW.cons (hw _ (List.mem_of_getElem? (i := 76) rfl)) (by decide) (EW.cons (hw _ (List.mem_of_getElem? (i := 80) rfl)) (by decide) (EW.cons (hw _ (List.mem_of_getElem? (i := 143) rfl)) (by decide) (EW.nil)))
def own_t0 (q : Nat) : Int32 := ([101, 114, 114, 111, 114] : List Int32).getD q 0
theorem own_t0_ok : ((∀ c ∈ ("error" : String).toList, c.toNat < 256) ∧ ("error" : String).toList.map (fun c => Value.int (Jvm.Lit.byteI c.toNat.toUInt16)) = ([.int 101, .int 114, .int 114, .int 111, .int 114] : List Value)) ∧ ∀ j, j < 5 → ([.int 101, .int 114, .int 114, .int 111, .int 114] : List Value).getD j (.int 0) = .int ((own_t0 j).toInt8.toInt32) := ⟨⟨by decide, rfl⟩, fun j hj => by
  rcases (show j = 0 ∨ j = 1 ∨ j = 2 ∨ j = 3 ∨ j = 4 by omega) with rfl | rfl | rfl | rfl | rfl <;> rfl⟩
def own_t1 (q : Nat) : Int32 := ([119, 97, 114, 110, 105, 110, 103] : List Int32).getD q 0
theorem own_t1_ok : ((∀ c ∈ ("warning" : String).toList, c.toNat < 256) ∧ ("warning" : String).toList.map (fun c => Value.int (Jvm.Lit.byteI c.toNat.toUInt16)) = ([.int 119, .int 97, .int 114, .int 110, .int 105, .int 110, .int 103] : List Value)) ∧ ∀ j, j < 7 → ([.int 119, .int 97, .int 114, .int 110, .int 105, .int 110, .int 103] : List Value).getD j (.int 0) = .int ((own_t1 j).toInt8.toInt32) := ⟨⟨by decide, rfl⟩, fun j hj => by
  rcases (show j = 0 ∨ j = 1 ∨ j = 2 ∨ j = 3 ∨ j = 4 ∨ j = 5 ∨ j = 6 by omega) with rfl | rfl | rfl | rfl | rfl | rfl | rfl <;> rfl⟩
def own_t2 (q : Nat) : Int32 := ([] : List Int32).getD q 0
theorem own_t2_ok : ((∀ c ∈ ("" : String).toList, c.toNat < 256) ∧ ("" : String).toList.map (fun c => Value.int (Jvm.Lit.byteI c.toNat.toUInt16)) = ([] : List Value)) ∧ ∀ j, j < 0 → ([] : List Value).getD j (.int 0) = .int ((own_t2 j).toInt8.toInt32) := ⟨⟨by decide, rfl⟩, fun j hj => absurd hj (Nat.not_lt_zero j)⟩
theorem own_chE : own_ch 5 own_t0 := by
  intro q hq
  rcases (show q = 0 ∨ q = 1 ∨ q = 2 ∨ q = 3 ∨ q = 4 by omega) with rfl | rfl | rfl | rfl | rfl <;> exact ⟨by decide, by decide⟩
theorem own_chW : own_ch 7 own_t1 := by
  intro q hq
  rcases (show q = 0 ∨ q = 1 ∨ q = 2 ∨ q = 3 ∨ q = 4 ∨ q = 5 ∨ q = 6 by omega) with rfl | rfl | rfl | rfl | rfl | rfl | rfl <;> exact ⟨by decide, by decide⟩
theorem own_c1i {x : Int32} (h : own_c1 x) : own_c1 x.toUInt32.toUInt16.toUInt32.toInt32 := by rw [own_i2c h]; exact h
theorem own_and255 (x : Int32) : own_c1 (x &&& (255 : Int32)) := by
  have h := c_and x (255 : Int32) (by decide)
  have e : (255 : Int32).toInt = 255 := by decide
  rw [e] at h
  exact h
theorem own_latL (z : Int64) : own_c1 (nar .char ((z &&& (255 : Int64)).toInt32.toUInt32.toUInt16.toUInt32.toInt32)) := by
  have h1 := c_maskL z (255 : Int64) 8 (by decide) (by decide)
  have e2 : ((2 ^ 8 : Nat) : Int) = 256 := rfl
  rw [e2] at h1
  have h2 : own_c1 ((z &&& (255 : Int64)).toInt32) := by
    have e : (z &&& (255 : Int64)).toInt32.toInt = z.toInt % 256 := by
      rw [Int64.toInt_toInt32, h1]
      rw [Int.bmod_def]
      split <;> omega
    unfold own_c1
    rw [e]
    omega
  exact own_c1i (own_c1i h2)
theorem own_c1n2 {x : Int32} (h : own_c1 x) : x.toBitVec.toNat < 256 := by
  obtain ⟨h1, h2⟩ := h
  have e : x.toInt = x.toBitVec.toInt := rfl
  have e2 := BitVec.toInt_eq_toNat_cond x.toBitVec
  have := x.toBitVec.isLt
  rw [← e] at e2
  by_cases hc : 2 * x.toBitVec.toNat < 2 ^ 32
  · rw [if_pos hc] at e2; omega
  · rw [if_neg hc] at e2; omega
theorem own_c1b {x : Int32} (h : x.toBitVec.toNat < 256) : own_c1 x := by
  have e : x.toInt = x.toBitVec.toInt := rfl
  have e2 := BitVec.toInt_eq_toNat_cond x.toBitVec
  rw [← e, if_pos (by omega)] at e2
  exact ⟨by omega, by omega⟩
theorem own_c1x {x z : Int32} (hx : own_c1 x) (hz : own_c1 z) : own_c1 (x ^^^ z) := by
  apply own_c1b
  show (x.toBitVec ^^^ z.toBitVec).toNat < 256
  rw [BitVec.toNat_xor]
  exact Nat.xor_lt_two_pow (n := 8) (own_c1n2 hx) (own_c1n2 hz)
theorem own_andk (x : Int32) (b : Nat) (hb : b ≤ 7) : ∃ k : Nat, k ≤ b ∧ (x &&& Int32.ofNat b) = Int32.ofNat k := by
  have e : (Int32.ofNat b).toInt = b := oTo (by omega)
  have h := c_and x (Int32.ofNat b) (by omega)
  rw [e] at h
  refine ⟨(x &&& Int32.ofNat b).toInt.toNat, by omega, ?_⟩
  apply Int32.toInt_inj.mp
  rw [oTo (by omega)]
  omega
theorem own_rem (x : Int32) (n : Nat) (h1 : 1 ≤ n) (h7 : n ≤ 7) : ∃ j : Nat, j < n ∧ (x &&& (2147483647 : Int32)) % Int32.ofNat n = Int32.ofNat j := by
  have h := c_and x (2147483647 : Int32) (by decide)
  have e : (2147483647 : Int32).toInt = 2147483647 := by decide
  rw [e] at h
  generalize x &&& (2147483647 : Int32) = z at h
  have en : (Int32.ofNat n).toInt = (n : Int) := oTo (by omega)
  have em : (z % Int32.ofNat n).toInt = z.toInt % (n : Int) := by
    rw [Int32.toInt_mod, en, Int.tmod_eq_emod_of_nonneg h.1]
  have b1 := Int.emod_nonneg z.toInt (show (n : Int) ≠ 0 by omega)
  have b2 := Int.emod_lt_of_pos z.toInt (show (0 : Int) < (n : Int) by omega)
  refine ⟨(z.toInt % (n : Int)).toNat, by omega, ?_⟩
  apply Int32.toInt_inj.mp
  rw [oTo (by omega), em]
  omega
theorem pn_0 : plainName "java/lang/StringUTF16" = true := by first | (simp [plainName, overriddenIn]; done) | decide +kernel
theorem pd_0 : parseMethodDescriptor "(JI)Ljava/lang/String;" = some ⟨[.long, .int], some (.object "java/lang/String")⟩ := by decide +kernel
theorem pd_1 : parseMethodDescriptor "(JI)C" = some ⟨[.long, .int], some .char⟩ := by decide +kernel
theorem pd_2 : parseMethodDescriptor "([C)V" = some ⟨[(.array .char)], none⟩ := by decide +kernel
theorem pd_3 : parseMethodDescriptor "([CIILjava/lang/Void;)V" = some ⟨[(.array .char), .int, .int, (.object "java/lang/Void")], none⟩ := by decide +kernel
theorem pd_4 : parseMethodDescriptor "()V" = some ⟨[], none⟩ := by decide +kernel
theorem pd_5 : parseMethodDescriptor "([CII)[B" = some ⟨[(.array .char), .int, .int], some (.array .byte)⟩ := by decide +kernel
theorem pd_6 : parseMethodDescriptor "([CI[BII)I" = some ⟨[(.array .char), .int, (.array .byte), .int, .int], some .int⟩ := by decide +kernel
theorem pd_7 : parseMethodDescriptor "([BI)B" = some ⟨[(.array .byte), .int], some .byte⟩ := by decide +kernel
theorem pd_8 : parseMethodDescriptor "(Ljava/lang/String;)Ljava/util/Optional;" = some ⟨[(.object "java/lang/String")], some (.object "java/util/Optional")⟩ := by decide +kernel
theorem pd_9 : parseMethodDescriptor "()[Lcom/example/isidore/isidore/Severity;" = some ⟨[], some (.array (.object "com/example/isidore/isidore/Severity"))⟩ := by decide +kernel
theorem pd_10 : parseMethodDescriptor "()Ljava/lang/Object;" = some ⟨[], some (.object "java/lang/Object")⟩ := by decide +kernel
theorem pd_11 : parseMethodDescriptor "(Ljava/lang/Object;)Z" = some ⟨[(.object "java/lang/Object")], some .boolean⟩ := by decide +kernel
theorem pd_12 : parseMethodDescriptor "([B[B)Z" = some ⟨[(.array .byte), (.array .byte)], some .boolean⟩ := by decide +kernel
theorem pd_13 : parseMethodDescriptor "()Ljava/util/Optional;" = some ⟨[], some (.object "java/util/Optional")⟩ := by decide +kernel
theorem pd_14 : parseMethodDescriptor "()Z" = some ⟨[], some .boolean⟩ := by decide +kernel
theorem pd_15 : parseMethodDescriptor "(Ljava/lang/String;III)Ljava/lang/String;" = some ⟨[(.object "java/lang/String"), .int, .int, .int], some (.object "java/lang/String")⟩ := by decide +kernel
theorem pd_16 : parseMethodDescriptor "()I" = some ⟨[], some .int⟩ := by decide +kernel
theorem pd_17 : parseMethodDescriptor "()B" = some ⟨[], some .byte⟩ := by decide +kernel
theorem pd_18 : parseMethodDescriptor "(I)C" = some ⟨[.int], some .char⟩ := by decide +kernel
theorem pd_19 : parseMethodDescriptor "([BI)C" = some ⟨[(.array .byte), .int], some .char⟩ := by decide +kernel
theorem pd_20 : parseMethodDescriptor "(II)V" = some ⟨[.int, .int], none⟩ := by decide +kernel
theorem pd_21 : parseMethodDescriptor "(IILjava/util/function/BiFunction;)I" = some ⟨[.int, .int, (.object "java/util/function/BiFunction")], some .int⟩ := by decide +kernel
theorem pd_22 : parseMethodDescriptor "(Ljava/lang/Object;)Ljava/util/Optional;" = some ⟨[(.object "java/lang/Object")], some (.object "java/util/Optional")⟩ := by decide +kernel
theorem pd_23 : parseMethodDescriptor "(Ljava/lang/Object;)Ljava/lang/Object;" = some ⟨[(.object "java/lang/Object")], some (.object "java/lang/Object")⟩ := by decide +kernel
theorem pd_24 : parseMethodDescriptor "(Ljava/lang/Object;)V" = some ⟨[(.object "java/lang/Object")], none⟩ := by decide +kernel
theorem ef_rmC5 (m : MethodId) (a1 : Addr) (a3 : Addr) : entryFrame m #[(.ref a1), (.int (0 : Int32)), (.ref a3), (.int (0 : Int32)), (.int (Int32.ofNat n))] 7 = mkF m 0 #[.val (.ref a1), .val (.int (0 : Int32)), .val (.ref a3), .val (.int (0 : Int32)), .val (.int (Int32.ofNat n)), .unset, .unset] [] := by first | (simp [entryFrame, mkF, argsToLocals, Value.category]; done) | rfl
def Q_rmC5 (Z : State) (a1 : Addr) (a3 : Addr) (n : Nat) (y : Nat → Int32) (z : Nat → Int32) (h0 : Heap) (n0 : Nat) (vv_ : Option Value) (h : Heap) (LL_ : List Loc) : Prop := vv_ = some (.int (Int32.ofNat n)) ∧ Fr n0 LL_ ∧ (Keep h0 h [a3] ∧ Av Z h a3 .byte n (fun q => .int ((y q).toInt8.toInt32)))
theorem d_jdk_52_method_21_code_0 : decode jdk_52_method_21_code 0 = .ok (.iconst 0, 1) := by decide +kernel
theorem d_jdk_52_method_21_code_1 : decode jdk_52_method_21_code 1 = .ok (.istore 5, 2) := by decide +kernel
theorem d_jdk_52_method_21_code_3 : decode jdk_52_method_21_code 3 = .ok (.iload 5, 2) := by decide +kernel
theorem d_jdk_52_method_21_code_5 : decode jdk_52_method_21_code 5 = .ok (.iload 4, 2) := by decide +kernel
theorem d_jdk_52_method_21_code_7 : decode jdk_52_method_21_code 7 = .ok (.if_icmp .ge 37, 3) := by decide +kernel
theorem d_jdk_52_method_21_code_10 : decode jdk_52_method_21_code 10 = .ok (.aload_n 0, 1) := by decide +kernel
theorem d_jdk_52_method_21_code_11 : decode jdk_52_method_21_code 11 = .ok (.iload_n 1, 1) := by decide +kernel
theorem d_jdk_52_method_21_code_12 : decode jdk_52_method_21_code 12 = .ok (.caload, 1) := by decide +kernel
theorem d_jdk_52_method_21_code_13 : decode jdk_52_method_21_code 13 = .ok (.istore 6, 2) := by decide +kernel
theorem d_jdk_52_method_21_code_15 : decode jdk_52_method_21_code 15 = .ok (.iload 6, 2) := by decide +kernel
theorem d_jdk_52_method_21_code_17 : decode jdk_52_method_21_code 17 = .ok (.sipush 255, 3) := by decide +kernel
theorem d_jdk_52_method_21_code_20 : decode jdk_52_method_21_code 20 = .ok (.if_icmp .le 6, 3) := by decide +kernel
theorem d_jdk_52_method_21_code_26 : decode jdk_52_method_21_code 26 = .ok (.aload_n 2, 1) := by decide +kernel
theorem d_jdk_52_method_21_code_27 : decode jdk_52_method_21_code 27 = .ok (.iload_n 3, 1) := by decide +kernel
theorem d_jdk_52_method_21_code_28 : decode jdk_52_method_21_code 28 = .ok (.iload 6, 2) := by decide +kernel
theorem d_jdk_52_method_21_code_30 : decode jdk_52_method_21_code 30 = .ok (.i2b, 1) := by decide +kernel
theorem d_jdk_52_method_21_code_31 : decode jdk_52_method_21_code 31 = .ok (.bastore, 1) := by decide +kernel
theorem d_jdk_52_method_21_code_32 : decode jdk_52_method_21_code 32 = .ok (.iinc 1 1, 3) := by decide +kernel
theorem d_jdk_52_method_21_code_35 : decode jdk_52_method_21_code 35 = .ok (.iinc 3 1, 3) := by decide +kernel
theorem d_jdk_52_method_21_code_38 : decode jdk_52_method_21_code 38 = .ok (.iinc 5 1, 3) := by decide +kernel
theorem d_jdk_52_method_21_code_41 : decode jdk_52_method_21_code 41 = .ok (.goto (-38), 3) := by decide +kernel
theorem d_jdk_52_method_21_code_44 : decode jdk_52_method_21_code 44 = .ok (.iload 4, 2) := by decide +kernel
theorem d_jdk_52_method_21_code_46 : decode jdk_52_method_21_code 46 = .ok (.ireturn, 1) := by decide +kernel
set_option maxRecDepth 65536 in
set_option maxHeartbeats 40000000 in
theorem rmC5 (l : Launch) (Z : State) (a0 : Array Value) (hw : ∀ d ∈ tables_1, d.before a0 Z = true) (ws : List Jvm.Cond) (a1 : Addr) (a3 : Addr) (n : Nat) (y : Nat → Int32) (z : Nat → Int32) (h0 : Heap) (n0 : Nat) (Z0 : n0 ≤ h0.size) (V1 : Av Z h0 a1 .char n (fun q => .int (y q))) (V2 : Av Z h0 a3 .byte n (fun q => .int (z q))) (g1 : n0 ≤ a3) (n1 : a1 ≠ a3) (hn : n ≤ 7) (hy : own_ch n y) :
    MetFree l (⟨"java/lang/StringUTF16", "compress", "([CI[BII)I"⟩ : MethodName) (head1 (Jvm.Cond.code (⟨"java/lang/StringUTF16", "compress", "([CI[BII)I"⟩ : MethodName) jdk_52_method_21_code 7 (some .int) :: ws) ({ frames := 0, cells := 0, slots := 0, locals := 0 } : Room)) (fun aa_ UU_ => aa_ = #[(.ref a1), (.int (0 : Int32)), (.ref a3), (.int (0 : Int32)), (.int (Int32.ofNat n))] ∧ Z.Warmed39 UU_.vm ∧ UU_.heap = h0) (fun _ _ _ _ _ => True) (fun _ UU_ oo_ VV_ => ∃ vv_ LL_, oo_ = .returned vv_ ∧ Q_rmC5 Z a1 a3 n y z h0 n0 vv_ VV_.heap LL_ ∧ FrameEnd UU_ oo_ VV_ LL_ ({ frames := 0, cells := 0, slots := 0, locals := 0 } : Room).cells ({ frames := 0, cells := 0, slots := 0, locals := 0 } : Room).slots) := by
  refine own_met (y := (⟨"java/lang/StringUTF16", "compress", "([CI[BII)I"⟩ : MethodName)) (plainFor_of_name pn_0) ?_
  intro p e s m below meth c T0 K hx hby hml hret hlk hown hnm hZ X0 e0 hK
  have N0 := Fr.nil n0
  refine Rch.cast (ef_rmC5 m a1 a3) ?_
  have loop : ∀ (k i : Nat) (hk : i + k = n) (T : State) (h : Heap) (locs : List Loc) (X : Stand p l e ({ frames := 0, cells := 0, slots := 0, locals := 0 } : Room) s m #[(.ref a1), (.int (0 : Int32)), (.ref a3), (.int (0 : Int32)), (.int (Int32.ofNat n))] below meth c T locs 0 0) (eT : T.heap = h) (N : Fr n0 locs) (Zh : n0 ≤ h.size) (Kh : Keep h0 h [a3]) (V : Av Z h a3 .byte n (fun q => .int (if q < i then (y q).toInt8.toInt32 else z q))) (s6 : Slot) (hs6 : One s6), Rch p e below K T (mkF m 3 #[.val (.ref a1), .val (.int (Int32.ofNat i)), .val (.ref a3), .val (.int (Int32.ofNat i)), .val (.int (Int32.ofNat n)), .val (.int (Int32.ofNat i)), s6] []) := by
    intro k
    induction k with
    | zero =>
      intro i hk T h locs X eT N Zh Kh V s6 hs6
      have hin : ¬ i < n := by omega
      refine Rch.of (T' := T) (g' := (mkF m 5 #[.val (.ref a1), .val (.int (Int32.ofNat i)), .val (.ref a3), .val (.int (Int32.ofNat i)), .val (.int (Int32.ofNat n)), .val (.int (Int32.ofNat i)), s6] [(.int (Int32.ofNat i))])) (fun _ kt => XS.iload X.here hx rfl (hb hby d_jdk_52_method_21_code_3) rfl  kt) ?_
      refine Rch.of (T' := T) (g' := (mkF m 7 #[.val (.ref a1), .val (.int (Int32.ofNat i)), .val (.ref a3), .val (.int (Int32.ofNat i)), .val (.int (Int32.ofNat n)), .val (.int (Int32.ofNat i)), s6] [(.int (Int32.ofNat n)), (.int (Int32.ofNat i))])) (fun _ kt => XS.iload X.here hx rfl (hb hby d_jdk_52_method_21_code_5) rfl  kt) ?_
      refine Rch.of (T' := T) (g' := (mkF m 44 #[.val (.ref a1), .val (.int (Int32.ofNat i)), .val (.ref a3), .val (.int (Int32.ofNat i)), .val (.int (Int32.ofNat n)), .val (.int (Int32.ofNat i)), s6] [])) (fun _ kt => XS.icmpYes X.here hx rfl (pc0 := 7) (pc' := 44) rfl (hb hby d_jdk_52_method_21_code_7) rfl (flt (fun q => hin ((own_olt2 (by omega) (by omega)).mp q))).2.1 (by decide) (by decide) kt) ?_
      refine Rch.of (T' := T) (g' := (mkF m 46 #[.val (.ref a1), .val (.int (Int32.ofNat i)), .val (.ref a3), .val (.int (Int32.ofNat i)), .val (.int (Int32.ofNat n)), .val (.int (Int32.ofNat i)), s6] [(.int (Int32.ofNat n))])) (fun _ kt => XS.iload X.here hx rfl (hb hby d_jdk_52_method_21_code_44) rfl  kt) ?_
      exact Rch.retI X hx hret hlk (hb hby d_jdk_52_method_21_code_46) (fun U hU hF => hK _ U _ _ _ (by show Q_rmC5 Z a1 a3 n y z h0 n0 _ U.heap _; rw [hU, eT]; exact ⟨rfl, N, Kh, V.congr (fun j hj => by simp [show j < i by omega])⟩) hF (by decide) (by decide))
    | succ k ih =>
      intro i hk T h locs X eT N Zh Kh V s6 hs6
      have hin : i < n := by omega
      refine Rch.of (T' := T) (g' := (mkF m 5 #[.val (.ref a1), .val (.int (Int32.ofNat i)), .val (.ref a3), .val (.int (Int32.ofNat i)), .val (.int (Int32.ofNat n)), .val (.int (Int32.ofNat i)), s6] [(.int (Int32.ofNat i))])) (fun _ kt => XS.iload X.here hx rfl (hb hby d_jdk_52_method_21_code_3) rfl  kt) ?_
      refine Rch.of (T' := T) (g' := (mkF m 7 #[.val (.ref a1), .val (.int (Int32.ofNat i)), .val (.ref a3), .val (.int (Int32.ofNat i)), .val (.int (Int32.ofNat n)), .val (.int (Int32.ofNat i)), s6] [(.int (Int32.ofNat n)), (.int (Int32.ofNat i))])) (fun _ kt => XS.iload X.here hx rfl (hb hby d_jdk_52_method_21_code_5) rfl  kt) ?_
      refine Rch.of (T' := T) (g' := (mkF m 10 #[.val (.ref a1), .val (.int (Int32.ofNat i)), .val (.ref a3), .val (.int (Int32.ofNat i)), .val (.int (Int32.ofNat n)), .val (.int (Int32.ofNat i)), s6] [])) (fun _ kt => XS.icmpNo X.here hx rfl (hb hby d_jdk_52_method_21_code_7) rfl (tlt ((own_olt2 (by omega) (by omega)).mpr hin)).2.1 kt) ?_
      refine Rch.of (T' := T) (g' := (mkF m 11 #[.val (.ref a1), .val (.int (Int32.ofNat i)), .val (.ref a3), .val (.int (Int32.ofNat i)), .val (.int (Int32.ofNat n)), .val (.int (Int32.ofNat i)), s6] [(.ref a1)])) (fun _ kt => XS.aloadN X.here hx rfl (hb hby d_jdk_52_method_21_code_10) rfl rfl kt) ?_
      refine Rch.of (T' := T) (g' := (mkF m 12 #[.val (.ref a1), .val (.int (Int32.ofNat i)), .val (.ref a3), .val (.int (Int32.ofNat i)), .val (.int (Int32.ofNat n)), .val (.int (Int32.ofNat i)), s6] [(.int (Int32.ofNat i)), (.ref a1)])) (fun _ kt => XS.iloadN X.here hx rfl (hb hby d_jdk_52_method_21_code_11) rfl  kt) ?_
      obtain ⟨cl101, Ar101, Sz101, Ha101⟩ := id (Av.keep V1 Kh (ninS n1 nin0))
      refine Rch.of (T' := T) (g' := (mkF m 13 #[.val (.ref a1), .val (.int (Int32.ofNat i)), .val (.ref a3), .val (.int (Int32.ofNat i)), .val (.int (Int32.ofNat n)), .val (.int (Int32.ofNat i)), s6] [(.int (y i))])) (X.caload hx (j := (Int32.ofNat i)) (v := (.int (y i))) (by rw [eT]; exact Ar101.1) (State.isArrayOf_alike hZ.alike Ar101.2.1) Ar101.2.2 (oIn (i := i) Sz101 (oTo (by omega)) hin) (oAt (i := i) Ha101 (oTo (by omega)) hin) (g := (mkF m 12 #[.val (.ref a1), .val (.int (Int32.ofNat i)), .val (.ref a3), .val (.int (Int32.ofNat i)), .val (.int (Int32.ofNat n)), .val (.int (Int32.ofNat i)), s6] [(.int (Int32.ofNat i)), (.ref a1)])) rfl rfl (hb hby d_jdk_52_method_21_code_12)) ?_
      refine Rch.of (T' := T) (g' := (mkF m 15 #[.val (.ref a1), .val (.int (Int32.ofNat i)), .val (.ref a3), .val (.int (Int32.ofNat i)), .val (.int (Int32.ofNat n)), .val (.int (Int32.ofNat i)), .val (.int (y i))] [])) (fun _ kt => XS.istore X.here hx rfl (hb hby d_jdk_52_method_21_code_13) rfl (l' := #[.val (.ref a1), .val (.int (Int32.ofNat i)), .val (.ref a3), .val (.int (Int32.ofNat i)), .val (.int (Int32.ofNat n)), .val (.int (Int32.ofNat i)), .val (.int (y i))]) (by rcases hs6 with rfl | ⟨w', rfl, hw'⟩ <;> first | rfl | (cases w' <;> first | rfl | (simp [Value.category] at hw'))) kt) ?_
      refine Rch.of (T' := T) (g' := (mkF m 17 #[.val (.ref a1), .val (.int (Int32.ofNat i)), .val (.ref a3), .val (.int (Int32.ofNat i)), .val (.int (Int32.ofNat n)), .val (.int (Int32.ofNat i)), .val (.int (y i))] [(.int (y i))])) (fun _ kt => XS.iload X.here hx rfl (hb hby d_jdk_52_method_21_code_15) rfl  kt) ?_
      refine Rch.of (T' := T) (g' := (mkF m 20 #[.val (.ref a1), .val (.int (Int32.ofNat i)), .val (.ref a3), .val (.int (Int32.ofNat i)), .val (.int (Int32.ofNat n)), .val (.int (Int32.ofNat i)), .val (.int (y i))] [(.int (255 : Int32)), (.int (y i))])) (fun _ kt => XS.sipush X.here hx rfl (hb hby d_jdk_52_method_21_code_17) kt) ?_
      refine Rch.of (T' := T) (g' := (mkF m 26 #[.val (.ref a1), .val (.int (Int32.ofNat i)), .val (.ref a3), .val (.int (Int32.ofNat i)), .val (.int (Int32.ofNat n)), .val (.int (Int32.ofNat i)), .val (.int (y i))] [])) (fun _ kt => XS.icmpYes X.here hx rfl (pc0 := 20) (pc' := 26) rfl (hb hby d_jdk_52_method_21_code_20) rfl (flt (own_le255 (hy i hin).2)).2.2.2 (by decide) (by decide) kt) ?_
      refine Rch.of (T' := T) (g' := (mkF m 27 #[.val (.ref a1), .val (.int (Int32.ofNat i)), .val (.ref a3), .val (.int (Int32.ofNat i)), .val (.int (Int32.ofNat n)), .val (.int (Int32.ofNat i)), .val (.int (y i))] [(.ref a3)])) (fun _ kt => XS.aloadN X.here hx rfl (hb hby d_jdk_52_method_21_code_26) rfl rfl kt) ?_
      refine Rch.of (T' := T) (g' := (mkF m 28 #[.val (.ref a1), .val (.int (Int32.ofNat i)), .val (.ref a3), .val (.int (Int32.ofNat i)), .val (.int (Int32.ofNat n)), .val (.int (Int32.ofNat i)), .val (.int (y i))] [(.int (Int32.ofNat i)), (.ref a3)])) (fun _ kt => XS.iloadN X.here hx rfl (hb hby d_jdk_52_method_21_code_27) rfl  kt) ?_
      refine Rch.of (T' := T) (g' := (mkF m 30 #[.val (.ref a1), .val (.int (Int32.ofNat i)), .val (.ref a3), .val (.int (Int32.ofNat i)), .val (.int (Int32.ofNat n)), .val (.int (Int32.ofNat i)), .val (.int (y i))] [(.int (y i)), (.int (Int32.ofNat i)), (.ref a3)])) (fun _ kt => XS.iload X.here hx rfl (hb hby d_jdk_52_method_21_code_28) rfl  kt) ?_
      refine Rch.of (T' := T) (g' := (mkF m 31 #[.val (.ref a1), .val (.int (Int32.ofNat i)), .val (.ref a3), .val (.int (Int32.ofNat i)), .val (.int (Int32.ofNat n)), .val (.int (Int32.ofNat i)), .val (.int (y i))] [(.int ((y i).toInt8.toInt32)), (.int (Int32.ofNat i)), (.ref a3)])) (fun _ kt => XS.i2b X.here hx rfl (hb hby d_jdk_52_method_21_code_30) rfl kt) ?_
      obtain ⟨cl102, Ar102, Sz102, Ha102⟩ := id V
      obtain ⟨T102, h102, X102, e102, W102, st102⟩ := stB X hx hZ eT Ar102 (j := (Int32.ofNat i)) (oIn (i := i) Sz102 (oTo (by omega)) hin) (g := (mkF m 31 #[.val (.ref a1), .val (.int (Int32.ofNat i)), .val (.ref a3), .val (.int (Int32.ofNat i)), .val (.int (Int32.ofNat n)), .val (.int (Int32.ofNat i)), .val (.int (y i))] [(.int ((y i).toInt8.toInt32)), (.int (Int32.ofNat i)), (.ref a3)])) rfl rfl (hb hby d_jdk_52_method_21_code_31)
      have V102 := Av.setI (i := i) V (oTo (by omega)) hin W102
      obtain ⟨y102, hy102⟩ : ∃ zz_ : Nat → Int32, zz_ = fun q => if q = i then ((y i).toInt8.toInt32).toInt8.toInt32 else (fun q => if q < i then (y q).toInt8.toInt32 else z q) q := ⟨_, rfl⟩
      have V102 : Av Z h102 a3 .byte n (fun q => .int (y102 q)) := by rw [hy102]; exact V102
      have N102 := Fr.snoc X102 N g1
      refine Rch.of (T' := T102) (g' := (mkF m 32 #[.val (.ref a1), .val (.int (Int32.ofNat i)), .val (.ref a3), .val (.int (Int32.ofNat i)), .val (.int (Int32.ofNat n)), .val (.int (Int32.ofNat i)), .val (.int (y i))] [])) st102 ?_
      refine Rch.of (T' := T102) (g' := (mkF m 35 #[.val (.ref a1), .val (.int ((Int32.ofNat i) + (1 : Int32))), .val (.ref a3), .val (.int (Int32.ofNat i)), .val (.int (Int32.ofNat n)), .val (.int (Int32.ofNat i)), .val (.int (y i))] [])) (fun _ kt => XS.iinc X102.here hx rfl (hb hby d_jdk_52_method_21_code_32) rfl (l' := #[.val (.ref a1), .val (.int ((Int32.ofNat i) + (1 : Int32))), .val (.ref a3), .val (.int (Int32.ofNat i)), .val (.int (Int32.ofNat n)), .val (.int (Int32.ofNat i)), .val (.int (y i))]) rfl kt) ?_
      refine Rch.of (T' := T102) (g' := (mkF m 38 #[.val (.ref a1), .val (.int ((Int32.ofNat i) + (1 : Int32))), .val (.ref a3), .val (.int ((Int32.ofNat i) + (1 : Int32))), .val (.int (Int32.ofNat n)), .val (.int (Int32.ofNat i)), .val (.int (y i))] [])) (fun _ kt => XS.iinc X102.here hx rfl (hb hby d_jdk_52_method_21_code_35) rfl (l' := #[.val (.ref a1), .val (.int ((Int32.ofNat i) + (1 : Int32))), .val (.ref a3), .val (.int ((Int32.ofNat i) + (1 : Int32))), .val (.int (Int32.ofNat n)), .val (.int (Int32.ofNat i)), .val (.int (y i))]) rfl kt) ?_
      refine Rch.of (T' := T102) (g' := (mkF m 41 #[.val (.ref a1), .val (.int ((Int32.ofNat i) + (1 : Int32))), .val (.ref a3), .val (.int ((Int32.ofNat i) + (1 : Int32))), .val (.int (Int32.ofNat n)), .val (.int ((Int32.ofNat i) + (1 : Int32))), .val (.int (y i))] [])) (fun _ kt => XS.iinc X102.here hx rfl (hb hby d_jdk_52_method_21_code_38) rfl (l' := #[.val (.ref a1), .val (.int ((Int32.ofNat i) + (1 : Int32))), .val (.ref a3), .val (.int ((Int32.ofNat i) + (1 : Int32))), .val (.int (Int32.ofNat n)), .val (.int ((Int32.ofNat i) + (1 : Int32))), .val (.int (y i))]) rfl kt) ?_
      refine Rch.of (T' := T102) (g' := (mkF m 3 #[.val (.ref a1), .val (.int ((Int32.ofNat i) + (1 : Int32))), .val (.ref a3), .val (.int ((Int32.ofNat i) + (1 : Int32))), .val (.int (Int32.ofNat n)), .val (.int ((Int32.ofNat i) + (1 : Int32))), .val (.int (y i))] [])) (fun _ kt => XS.goto X102.here hx rfl (pc0 := 41) (pc' := 3) rfl (hb hby d_jdk_52_method_21_code_41) (by decide) (by decide) kt) ?_
      rw [own_one i]
      exact ih (i + 1) (by omega) T102 _ _ X102 e102 N102 (Nat.le_trans Zh (Keep.of_wr W102).1) (Kh.wr W102 (Or.inl (List.mem_of_getElem? (i := 0) rfl))) (Av.congr V102 (fun j hj => by rw [hy102]; exact congrArg Value.int (own_put i j _ _ (fun q => (y q).toInt8.toInt32) (fun q => by rw [q]; exact own_b8 _)))) _ (One.val rfl)
  refine Rch.of (T' := T0) (g' := (mkF m 1 #[.val (.ref a1), .val (.int (0 : Int32)), .val (.ref a3), .val (.int (0 : Int32)), .val (.int (Int32.ofNat n)), .unset, .unset] [(.int (0 : Int32))])) (fun _ kt => XS.iconst X0.here hx rfl (hb hby d_jdk_52_method_21_code_0) kt) ?_
  refine Rch.of (T' := T0) (g' := (mkF m 3 #[.val (.ref a1), .val (.int (0 : Int32)), .val (.ref a3), .val (.int (0 : Int32)), .val (.int (Int32.ofNat n)), .val (.int (0 : Int32)), .unset] [])) (fun _ kt => XS.istore X0.here hx rfl (hb hby d_jdk_52_method_21_code_1) rfl (l' := #[.val (.ref a1), .val (.int (0 : Int32)), .val (.ref a3), .val (.int (0 : Int32)), .val (.int (Int32.ofNat n)), .val (.int (0 : Int32)), .unset]) rfl kt) ?_
  exact loop n 0 (by omega) T0 _ _ X0 e0 N0 Z0 (Keep.refl h0 [a3]) (V2.congr (fun j hj => by simp)) _ One.u
theorem ef_rmC3 (m : MethodId) (a1 : Addr) : entryFrame m #[(.ref a1), (.int (0 : Int32)), (.int (Int32.ofNat n))] 6 = mkF m 0 #[.val (.ref a1), .val (.int (0 : Int32)), .val (.int (Int32.ofNat n)), .unset, .unset, .unset] [] := by first | (simp [entryFrame, mkF, argsToLocals, Value.category]; done) | rfl
def Q_rmC3 (Z : State) (a1 : Addr) (n : Nat) (y : Nat → Int32) (h0 : Heap) (n0 : Nat) (vv_ : Option Value) (h : Heap) (LL_ : List Loc) : Prop := vv_ = some (.ref h0.size) ∧ Fr n0 LL_ ∧ (Keep h0 h [] ∧ Av Z h h0.size .byte n (fun q => .int ((y q).toInt8.toInt32)))
theorem d_jdk_52_method_16_code_0 : decode jdk_52_method_16_code 0 = .ok (.iload_n 2, 1) := by decide +kernel
theorem d_jdk_52_method_16_code_1 : decode jdk_52_method_16_code 1 = .ok (.newarray .byte, 2) := by decide +kernel
theorem d_jdk_52_method_16_code_3 : decode jdk_52_method_16_code 3 = .ok (.astore_n 3, 1) := by decide +kernel
theorem d_jdk_52_method_16_code_4 : decode jdk_52_method_16_code 4 = .ok (.aload_n 0, 1) := by decide +kernel
theorem d_jdk_52_method_16_code_5 : decode jdk_52_method_16_code 5 = .ok (.iload_n 1, 1) := by decide +kernel
theorem d_jdk_52_method_16_code_6 : decode jdk_52_method_16_code 6 = .ok (.aload_n 3, 1) := by decide +kernel
theorem d_jdk_52_method_16_code_7 : decode jdk_52_method_16_code 7 = .ok (.iconst 0, 1) := by decide +kernel
theorem d_jdk_52_method_16_code_8 : decode jdk_52_method_16_code 8 = .ok (.iload_n 2, 1) := by decide +kernel
theorem d_jdk_52_method_16_code_9 : decode jdk_52_method_16_code 9 = .ok (.invokestatic 115, 3) := by decide +kernel
theorem d_jdk_52_method_16_code_12 : decode jdk_52_method_16_code 12 = .ok (.istore 4, 2) := by decide +kernel
theorem d_jdk_52_method_16_code_14 : decode jdk_52_method_16_code 14 = .ok (.iload 4, 2) := by decide +kernel
theorem d_jdk_52_method_16_code_16 : decode jdk_52_method_16_code 16 = .ok (.iload_n 2, 1) := by decide +kernel
theorem d_jdk_52_method_16_code_17 : decode jdk_52_method_16_code 17 = .ok (.if_icmp .eq 40, 3) := by decide +kernel
theorem d_jdk_52_method_16_code_57 : decode jdk_52_method_16_code 57 = .ok (.aload_n 3, 1) := by decide +kernel
theorem d_jdk_52_method_16_code_58 : decode jdk_52_method_16_code 58 = .ok (.areturn, 1) := by decide +kernel
set_option maxRecDepth 65536 in
set_option maxHeartbeats 40000000 in
theorem rmC3 (l : Launch) (Z : State) (a0 : Array Value) (hw : ∀ d ∈ tables_1, d.before a0 Z = true) (ws : List Jvm.Cond) (a1 : Addr) (n : Nat) (y : Nat → Int32) (h0 : Heap) (n0 : Nat) (Z0 : n0 ≤ h0.size) (V1 : Av Z h0 a1 .char n (fun q => .int (y q))) (hn : n ≤ 7) (hy : own_ch n y) :
    MetFree l (⟨"java/lang/StringUTF16", "compress", "([CII)[B"⟩ : MethodName) (head1 (Jvm.Cond.code (⟨"java/lang/StringUTF16", "compress", "([CII)[B"⟩ : MethodName) jdk_52_method_16_code 6 (some (.array .byte)) :: ws) ({ frames := 1, cells := 1, slots := 7, locals := 18 } : Room)) (fun aa_ UU_ => aa_ = #[(.ref a1), (.int (0 : Int32)), (.int (Int32.ofNat n))] ∧ Z.Warmed39 UU_.vm ∧ UU_.heap = h0) (fun _ _ _ _ _ => True) (fun _ UU_ oo_ VV_ => ∃ vv_ LL_, oo_ = .returned vv_ ∧ Q_rmC3 Z a1 n y h0 n0 vv_ VV_.heap LL_ ∧ FrameEnd UU_ oo_ VV_ LL_ ({ frames := 1, cells := 1, slots := 7, locals := 18 } : Room).cells ({ frames := 1, cells := 1, slots := 7, locals := 18 } : Room).slots) := by
  refine own_met (y := (⟨"java/lang/StringUTF16", "compress", "([CII)[B"⟩ : MethodName)) (plainFor_of_name pn_0) ?_
  intro p e s m below meth c T0 K hx hby hml hret hlk hown hnm hZ X0 e0 hK
  have N0 := Fr.nil n0
  refine Rch.cast (ef_rmC3 m a1) ?_
  refine Rch.of (T' := T0) (g' := (mkF m 1 #[.val (.ref a1), .val (.int (0 : Int32)), .val (.int (Int32.ofNat n)), .unset, .unset, .unset] [(.int (Int32.ofNat n))])) (fun _ kt => XS.iloadN X0.here hx rfl (hb hby d_jdk_52_method_16_code_0) rfl  kt) ?_
  obtain ⟨T103, h103, k103, X103, e103, E103, A103, Q103, st103⟩ := newPE X0 hx hZ (hw _ (List.mem_of_getElem? (i := 27) rfl)) e0 (g := (mkF m 1 #[.val (.ref a1), .val (.int (0 : Int32)), .val (.int (Int32.ofNat n)), .unset, .unset, .unset] [(.int (Int32.ofNat n))])) rfl (hb hby d_jdk_52_method_16_code_1) rfl (oNn (oTo (by omega))) (cap := 7) (by rw [oNat (oTo (by omega))]; omega) (by decide) (by decide) (by decide) (ad := "[B") rfl
  obtain ⟨b103, g103⟩ : ∃ zz_, zz_ = h0.size := ⟨_, rfl⟩
  have ne_a1_b103 : a1 ≠ b103 := Nat.ne_of_lt (Nat.lt_of_lt_of_le V1.lt (Nat.le_of_eq g103.symm))
  have ge_b103 : n0 ≤ b103 := Nat.le_trans Z0 (Nat.le_of_eq g103.symm)
  have sz_b103 : h0.size ≤ b103 := Nat.le_trans (Keep.refl h0 []).1 (Nat.le_of_eq g103.symm)
  rw [← g103] at A103 Q103 st103
  have V103 : Av Z h103 b103 .byte n (fun _ => (.int (0 : Int32))) := Av.new A103 (oTo (by omega))
  refine Rch.of (T' := T103) (g' := (mkF m 3 #[.val (.ref a1), .val (.int (0 : Int32)), .val (.int (Int32.ofNat n)), .unset, .unset, .unset] [(.ref b103)])) st103 ?_
  refine Rch.of (T' := T103) (g' := (mkF m 4 #[.val (.ref a1), .val (.int (0 : Int32)), .val (.int (Int32.ofNat n)), .val (.ref b103), .unset, .unset] [])) (fun _ kt => XS.astoreN X103.here hx rfl (hb hby d_jdk_52_method_16_code_3) rfl rfl (l' := #[.val (.ref a1), .val (.int (0 : Int32)), .val (.int (Int32.ofNat n)), .val (.ref b103), .unset, .unset]) rfl kt) ?_
  refine Rch.of (T' := T103) (g' := (mkF m 5 #[.val (.ref a1), .val (.int (0 : Int32)), .val (.int (Int32.ofNat n)), .val (.ref b103), .unset, .unset] [(.ref a1)])) (fun _ kt => XS.aloadN X103.here hx rfl (hb hby d_jdk_52_method_16_code_4) rfl rfl kt) ?_
  refine Rch.of (T' := T103) (g' := (mkF m 6 #[.val (.ref a1), .val (.int (0 : Int32)), .val (.int (Int32.ofNat n)), .val (.ref b103), .unset, .unset] [(.int (0 : Int32)), (.ref a1)])) (fun _ kt => XS.iloadN X103.here hx rfl (hb hby d_jdk_52_method_16_code_5) rfl  kt) ?_
  refine Rch.of (T' := T103) (g' := (mkF m 7 #[.val (.ref a1), .val (.int (0 : Int32)), .val (.int (Int32.ofNat n)), .val (.ref b103), .unset, .unset] [(.ref b103), (.int (0 : Int32)), (.ref a1)])) (fun _ kt => XS.aloadN X103.here hx rfl (hb hby d_jdk_52_method_16_code_6) rfl rfl kt) ?_
  refine Rch.of (T' := T103) (g' := (mkF m 8 #[.val (.ref a1), .val (.int (0 : Int32)), .val (.int (Int32.ofNat n)), .val (.ref b103), .unset, .unset] [(.int (0 : Int32)), (.ref b103), (.int (0 : Int32)), (.ref a1)])) (fun _ kt => XS.iconst X103.here hx rfl (hb hby d_jdk_52_method_16_code_7) kt) ?_
  refine Rch.of (T' := T103) (g' := (mkF m 9 #[.val (.ref a1), .val (.int (0 : Int32)), .val (.int (Int32.ofNat n)), .val (.ref b103), .unset, .unset] [(.int (Int32.ofNat n)), (.int (0 : Int32)), (.ref b103), (.int (0 : Int32)), (.ref a1)])) (fun _ kt => XS.iloadN X103.here hx rfl (hb hby d_jdk_52_method_16_code_8) rfl  kt) ?_
  obtain ⟨_, _, ⟨T104, L104, k104, n104⟩, -, X104, ⟨Lc104, hQ104, l104, y104, z104⟩, st104⟩ := Jvm.LawKit.callS X103 hx (y := (⟨"java/lang/StringUTF16", "compress", "([CI[BII)I"⟩ : MethodName)) hown (mvT hZ (hw _ (List.mem_of_getElem? (i := 28) rfl))) (mvT hZ (hw _ (List.mem_of_getElem? (i := 29) rfl))) (mvT hZ (hw _ (List.mem_of_getElem? (i := 25) rfl))) (mvT hZ (hw _ (List.mem_of_getElem? (i := 30) rfl))) (by decide) (backOf (W := 0) (rmC5 l Z a0 hw [] a1 b103 n y (fun _ => (0 : Int32)) h103 n0 (Nat.le_trans Z0 E103.1) (V1.ext E103) V103 ge_b103 ne_a1_b103 hn hy) hZ (hw _ (List.mem_of_getElem? (i := 30) rfl)) (hw _ (List.mem_of_getElem? (i := 25) rfl)) (by decide) (by decide)) (g := (mkF m 9 #[.val (.ref a1), .val (.int (0 : Int32)), .val (.int (Int32.ofNat n)), .val (.ref b103), .unset, .unset] [(.int (Int32.ofNat n)), (.int (0 : Int32)), (.ref b103), (.int (0 : Int32)), (.ref a1)])) rfl (by rw [hml]; rfl) (argsL := [(.ref a1), (.int (0 : Int32)), (.ref b103), (.int (0 : Int32)), (.int (Int32.ofNat n))]) (rest := []) (lenOf pd_6 rfl) rfl (by show 2 * 0 + _ ≤ _; exact Nat.le_of_eq rfl) (hb hby d_jdk_52_method_16_code_9) (fun _ _ => ⟨rfl, e103, (by decide : 1 + 0 ≤ _), (by decide : 7 + 0 ≤ _)⟩)
  dsimp only [Pt.U, Pt.locs, Pt.cells, Pt.slots] at X104 l104 y104 z104 st104 hQ104
  subst l104 y104 z104
  obtain ⟨rfl, N104q, hQ104⟩ := hQ104
  have N104 := Fr.app N0 N104q
  obtain ⟨K104, V104⟩ := hQ104
  refine Rch.of (T' := T104) (g' := (mkF m 12 #[.val (.ref a1), .val (.int (0 : Int32)), .val (.int (Int32.ofNat n)), .val (.ref b103), .unset, .unset] [(.int (Int32.ofNat n))])) st104 ?_
  refine Rch.of (T' := T104) (g' := (mkF m 14 #[.val (.ref a1), .val (.int (0 : Int32)), .val (.int (Int32.ofNat n)), .val (.ref b103), .val (.int (Int32.ofNat n)), .unset] [])) (fun _ kt => XS.istore X104.here hx rfl (hb hby d_jdk_52_method_16_code_12) rfl (l' := #[.val (.ref a1), .val (.int (0 : Int32)), .val (.int (Int32.ofNat n)), .val (.ref b103), .val (.int (Int32.ofNat n)), .unset]) rfl kt) ?_
  refine Rch.of (T' := T104) (g' := (mkF m 16 #[.val (.ref a1), .val (.int (0 : Int32)), .val (.int (Int32.ofNat n)), .val (.ref b103), .val (.int (Int32.ofNat n)), .unset] [(.int (Int32.ofNat n))])) (fun _ kt => XS.iload X104.here hx rfl (hb hby d_jdk_52_method_16_code_14) rfl  kt) ?_
  refine Rch.of (T' := T104) (g' := (mkF m 17 #[.val (.ref a1), .val (.int (0 : Int32)), .val (.int (Int32.ofNat n)), .val (.ref b103), .val (.int (Int32.ofNat n)), .unset] [(.int (Int32.ofNat n)), (.int (Int32.ofNat n))])) (fun _ kt => XS.iloadN X104.here hx rfl (hb hby d_jdk_52_method_16_code_16) rfl  kt) ?_
  refine Rch.of (T' := T104) (g' := (mkF m 57 #[.val (.ref a1), .val (.int (0 : Int32)), .val (.int (Int32.ofNat n)), .val (.ref b103), .val (.int (Int32.ofNat n)), .unset] [])) (fun _ kt => XS.icmpYes X104.here hx rfl (pc0 := 17) (pc' := 57) rfl (hb hby d_jdk_52_method_16_code_17) rfl (teq (rfl : (Int32.ofNat n) = (Int32.ofNat n))).1 (by decide) (by decide) kt) ?_
  refine Rch.of (T' := T104) (g' := (mkF m 58 #[.val (.ref a1), .val (.int (0 : Int32)), .val (.int (Int32.ofNat n)), .val (.ref b103), .val (.int (Int32.ofNat n)), .unset] [(.ref b103)])) (fun _ kt => XS.aloadN X104.here hx rfl (hb hby d_jdk_52_method_16_code_57) rfl rfl kt) ?_
  exact Rch.retA X104 hx (w := (.ref b103)) hret rfl rfl hlk (hb hby d_jdk_52_method_16_code_58) (fun U hU hF => hK _ U _ _ _ (by show Q_rmC3 Z a1 n y h0 n0 _ U.heap _; rw [hU]; exact ⟨by rw [g103], N104, by rw [← g103]; exact ⟨(((Keep.refl h0 []).ext E103).trans K104 (allS (Or.inr sz_b103) all0)), V104⟩⟩) hF (by decide) (by decide))
theorem ef_rmCL (m : MethodId) (a1 : Addr) : entryFrame m #[(.ref a1), (.int (Int32.ofNat n))] 2 = mkF m 0 #[.val (.ref a1), .val (.int (Int32.ofNat n))] [] := by first | (simp [entryFrame, mkF, argsToLocals, Value.category]; done) | rfl
def Q_rmCL (Z : State) (a1 : Addr) (n : Nat) (y : Nat → Int32) (h0 : Heap) (n0 : Nat) (vv_ : Option Value) (h : Heap) (LL_ : List Loc) : Prop := vv_ = some (.int (0 : Int32)) ∧ Fr n0 LL_ ∧ (h = h0)
theorem d_jdk_52_method_15_code_0 : decode jdk_52_method_15_code 0 = .ok (.iload_n 1, 1) := by decide +kernel
theorem d_jdk_52_method_15_code_1 : decode jdk_52_method_15_code 1 = .ok (.aload_n 0, 1) := by decide +kernel
theorem d_jdk_52_method_15_code_2 : decode jdk_52_method_15_code 2 = .ok (.arraylength, 1) := by decide +kernel
theorem d_jdk_52_method_15_code_3 : decode jdk_52_method_15_code 3 = .ok (.isub, 1) := by decide +kernel
theorem d_jdk_52_method_15_code_4 : decode jdk_52_method_15_code 4 = .ok (.bipush 31, 2) := by decide +kernel
theorem d_jdk_52_method_15_code_6 : decode jdk_52_method_15_code 6 = .ok (.iushr, 1) := by decide +kernel
theorem d_jdk_52_method_15_code_7 : decode jdk_52_method_15_code 7 = .ok (.i2b, 1) := by decide +kernel
theorem d_jdk_52_method_15_code_8 : decode jdk_52_method_15_code 8 = .ok (.ireturn, 1) := by decide +kernel
set_option maxRecDepth 65536 in
set_option maxHeartbeats 40000000 in
theorem rmCL (l : Launch) (Z : State) (a0 : Array Value) (hw : ∀ d ∈ tables_1, d.before a0 Z = true) (ws : List Jvm.Cond) (a1 : Addr) (n : Nat) (y : Nat → Int32) (h0 : Heap) (n0 : Nat) (Z0 : n0 ≤ h0.size) (V1 : Av Z h0 a1 .byte n (fun q => .int (y q))) :
    MetFree l (⟨"java/lang/StringUTF16", "coderFromArrayLen", "([BI)B"⟩ : MethodName) (head1 (Jvm.Cond.code (⟨"java/lang/StringUTF16", "coderFromArrayLen", "([BI)B"⟩ : MethodName) jdk_52_method_15_code 2 (some .byte) :: ws) ({ frames := 0, cells := 0, slots := 0, locals := 0 } : Room)) (fun aa_ UU_ => aa_ = #[(.ref a1), (.int (Int32.ofNat n))] ∧ Z.Warmed39 UU_.vm ∧ UU_.heap = h0) (fun _ _ _ _ _ => True) (fun _ UU_ oo_ VV_ => ∃ vv_ LL_, oo_ = .returned vv_ ∧ Q_rmCL Z a1 n y h0 n0 vv_ VV_.heap LL_ ∧ FrameEnd UU_ oo_ VV_ LL_ ({ frames := 0, cells := 0, slots := 0, locals := 0 } : Room).cells ({ frames := 0, cells := 0, slots := 0, locals := 0 } : Room).slots) := by
  refine own_met (y := (⟨"java/lang/StringUTF16", "coderFromArrayLen", "([BI)B"⟩ : MethodName)) (plainFor_of_name pn_0) ?_
  intro p e s m below meth c T0 K hx hby hml hret hlk hown hnm hZ X0 e0 hK
  have N0 := Fr.nil n0
  refine Rch.cast (ef_rmCL m a1) ?_
  refine Rch.of (T' := T0) (g' := (mkF m 1 #[.val (.ref a1), .val (.int (Int32.ofNat n))] [(.int (Int32.ofNat n))])) (fun _ kt => XS.iloadN X0.here hx rfl (hb hby d_jdk_52_method_15_code_0) rfl  kt) ?_
  refine Rch.of (T' := T0) (g' := (mkF m 2 #[.val (.ref a1), .val (.int (Int32.ofNat n))] [(.ref a1), (.int (Int32.ofNat n))])) (fun _ kt => XS.aloadN X0.here hx rfl (hb hby d_jdk_52_method_15_code_1) rfl rfl kt) ?_
  obtain ⟨cl105, Ar105, Sz105, Ha105⟩ := id V1
  refine Rch.of (T' := T0) (g' := (mkF m 3 #[.val (.ref a1), .val (.int (Int32.ofNat n))] [(.int cl105.slots.size.toInt32), (.int (Int32.ofNat n))])) (X0.arraylength hx (by rw [e0]; exact Ar105.1) (State.isArrayOf_alike hZ.alike Ar105.2.1) (g := (mkF m 2 #[.val (.ref a1), .val (.int (Int32.ofNat n))] [(.ref a1), (.int (Int32.ofNat n))])) rfl rfl (hb hby d_jdk_52_method_15_code_2)) ?_
  rw [oLen Sz105]
  show Rch p e below K T0 (mkF m 3 #[.val (.ref a1), .val (.int (Int32.ofNat n))] [(.int (Int32.ofNat n)), (.int (Int32.ofNat n))])
  refine Rch.of (T' := T0) (g' := (mkF m 4 #[.val (.ref a1), .val (.int (Int32.ofNat n))] [(.int ((Int32.ofNat n) - (Int32.ofNat n)))])) (fun _ kt => XS.isub X0.here hx rfl (hb hby d_jdk_52_method_15_code_3) rfl kt) ?_
  refine Rch.of (T' := T0) (g' := (mkF m 6 #[.val (.ref a1), .val (.int (Int32.ofNat n))] [(.int (31 : Int32)), (.int ((Int32.ofNat n) - (Int32.ofNat n)))])) (fun _ kt => XS.bipush X0.here hx rfl (hb hby d_jdk_52_method_15_code_4) kt) ?_
  refine Rch.of (T' := T0) (g' := (mkF m 7 #[.val (.ref a1), .val (.int (Int32.ofNat n))] [(.int ((((Int32.ofNat n) - (Int32.ofNat n)).toUInt32 >>> ((31 : Int32) &&& 31).toUInt32).toInt32))])) (fun _ kt => XS.iushr X0.here hx rfl (hb hby d_jdk_52_method_15_code_6) rfl kt) ?_
  refine Rch.of (T' := T0) (g' := (mkF m 8 #[.val (.ref a1), .val (.int (Int32.ofNat n))] [(.int (((((Int32.ofNat n) - (Int32.ofNat n)).toUInt32 >>> ((31 : Int32) &&& 31).toUInt32).toInt32).toInt8.toInt32))])) (fun _ kt => XS.i2b X0.here hx rfl (hb hby d_jdk_52_method_15_code_7) rfl kt) ?_
  exact Rch.retN X0 hx (t := .byte) hret (by simp) hlk (hb hby d_jdk_52_method_15_code_8) (fun U hU hF => hK _ U _ _ _ (by show Q_rmCL Z a1 n y h0 n0 _ U.heap _; rw [hU, e0]; exact ⟨congrArg (fun q => some (Value.int q)) (show nar .byte _ = _ from (own_b8 _).trans (own_cod n)), N0, rfl⟩) hF (by decide) (by decide))
theorem pn_1 : plainName "java/lang/String" = true := by first | (simp [plainName, overriddenIn]; done) | decide +kernel
theorem ef_rqCD (m : MethodId) (a1 : Addr) : entryFrame m #[(.ref a1)] 1 = mkF m 0 #[.val (.ref a1)] [] := by first | (simp [entryFrame, mkF, argsToLocals, Value.category]; done) | rfl
def Q_rqCD (Z : State) (a1 : Addr) (cs : Int32) (h0 : Heap) (n0 : Nat) (vv_ : Option Value) (h : Heap) (LL_ : List Loc) : Prop := vv_ = some (.int (0 : Int32)) ∧ Fr n0 LL_ ∧ (h = h0)
theorem d_jdk_42_method_152_code_0 : decode jdk_42_method_152_code 0 = .ok (.getstatic 38, 3) := by decide +kernel
theorem d_jdk_42_method_152_code_3 : decode jdk_42_method_152_code 3 = .ok (.ifCond .eq 10, 3) := by decide +kernel
theorem d_jdk_42_method_152_code_6 : decode jdk_42_method_152_code 6 = .ok (.aload_n 0, 1) := by decide +kernel
theorem d_jdk_42_method_152_code_7 : decode jdk_42_method_152_code 7 = .ok (.getfield 15, 3) := by decide +kernel
theorem d_jdk_42_method_152_code_10 : decode jdk_42_method_152_code 10 = .ok (.goto 4, 3) := by decide +kernel
theorem d_jdk_42_method_152_code_14 : decode jdk_42_method_152_code 14 = .ok (.ireturn, 1) := by decide +kernel
set_option maxRecDepth 65536 in
set_option maxHeartbeats 40000000 in
theorem rqCD (l : Launch) (Z : State) (a0 : Array Value) (hw : ∀ d ∈ tables_1, d.before a0 Z = true) (ws : List Jvm.Cond) (a1 : Addr) (cs : Int32) (h0 : Heap) (n0 : Nat) (Z0 : n0 ≤ h0.size) (F1 : Fld Z h0 a1 "java/lang/String" "coder" "B" (.int (0 : Int32))) (SC : Sta Z h0 "java/lang/String" "COMPACT_STRINGS" "Z" (.int cs)) (hcs : ¬ cs = (0 : Int32)) :
    MetFree l (⟨"java/lang/String", "coder", "()B"⟩ : MethodName) (head1 (Jvm.Cond.code (⟨"java/lang/String", "coder", "()B"⟩ : MethodName) jdk_42_method_152_code 1 (some .byte) :: ws) ({ frames := 0, cells := 0, slots := 0, locals := 0 } : Room)) (fun aa_ UU_ => aa_ = #[(.ref a1)] ∧ Z.Warmed39 UU_.vm ∧ UU_.heap = h0) (fun _ _ _ _ _ => True) (fun _ UU_ oo_ VV_ => ∃ vv_ LL_, oo_ = .returned vv_ ∧ Q_rqCD Z a1 cs h0 n0 vv_ VV_.heap LL_ ∧ FrameEnd UU_ oo_ VV_ LL_ ({ frames := 0, cells := 0, slots := 0, locals := 0 } : Room).cells ({ frames := 0, cells := 0, slots := 0, locals := 0 } : Room).slots) := by
  refine own_met (y := (⟨"java/lang/String", "coder", "()B"⟩ : MethodName)) (plainFor_of_name pn_1) ?_
  intro p e s m below meth c T0 K hx hby hml hret hlk hown hnm hZ X0 e0 hK
  have N0 := Fr.nil n0
  refine Rch.cast (ef_rqCD m a1) ?_
  obtain ⟨T106, X106, e106, st106⟩ := getS2 X0 hx hZ hown (host := "") (Or.inl (hw _ (List.mem_of_getElem? (i := 22) rfl))) Via.refl e0 SC (g := (mkF m 0 #[.val (.ref a1)] [])) rfl (hb hby d_jdk_42_method_152_code_0)
  refine Rch.of (T' := T106) (g' := (mkF m 3 #[.val (.ref a1)] [(.int cs)])) st106 ?_
  refine Rch.of (T' := T106) (g' := (mkF m 6 #[.val (.ref a1)] [])) (fun _ kt => XS.ifNo X106.here hx rfl (hb hby d_jdk_42_method_152_code_3) rfl ((if0 _ _).trans (feq hcs).1) kt) ?_
  refine Rch.of (T' := T106) (g' := (mkF m 7 #[.val (.ref a1)] [(.ref a1)])) (fun _ kt => XS.aloadN X106.here hx rfl (hb hby d_jdk_42_method_152_code_6) rfl rfl kt) ?_
  obtain ⟨T107, X107, e107, st107⟩ := getF X106 hx hZ hown (host := "") (Or.inl (hw _ (List.mem_of_getElem? (i := 34) rfl))) Via.refl e106 F1 (g := (mkF m 7 #[.val (.ref a1)] [(.ref a1)])) rfl rfl (hb hby d_jdk_42_method_152_code_7)
  refine Rch.of (T' := T107) (g' := (mkF m 10 #[.val (.ref a1)] [(.int (0 : Int32))])) st107 ?_
  refine Rch.of (T' := T107) (g' := (mkF m 14 #[.val (.ref a1)] [(.int (0 : Int32))])) (fun _ kt => XS.goto X107.here hx rfl (pc0 := 10) (pc' := 14) rfl (hb hby d_jdk_42_method_152_code_10) (by decide) (by decide) kt) ?_
  exact Rch.retN X107 hx (t := .byte) hret (by simp) hlk (hb hby d_jdk_42_method_152_code_14) (fun U hU hF => hK _ U _ _ _ (by show Q_rqCD Z a1 cs h0 n0 _ U.heap _; rw [hU, e107]; exact ⟨rfl, N0, rfl⟩) hF (by decide) (by decide))
theorem ef_rqLT (m : MethodId) (a1 : Addr) : entryFrame m #[(.ref a1)] 1 = mkF m 0 #[.val (.ref a1)] [] := by first | (simp [entryFrame, mkF, argsToLocals, Value.category]; done) | rfl
def Q_rqLT (Z : State) (a1 : Addr) (cs : Int32) (h0 : Heap) (n0 : Nat) (vv_ : Option Value) (h : Heap) (LL_ : List Loc) : Prop := vv_ = some (.int (1 : Int32)) ∧ Fr n0 LL_ ∧ (h = h0)
theorem d_jdk_42_method_154_code_0 : decode jdk_42_method_154_code 0 = .ok (.getstatic 38, 3) := by decide +kernel
theorem d_jdk_42_method_154_code_3 : decode jdk_42_method_154_code 3 = .ok (.ifCond .eq 14, 3) := by decide +kernel
theorem d_jdk_42_method_154_code_6 : decode jdk_42_method_154_code 6 = .ok (.aload_n 0, 1) := by decide +kernel
theorem d_jdk_42_method_154_code_7 : decode jdk_42_method_154_code 7 = .ok (.getfield 15, 3) := by decide +kernel
theorem d_jdk_42_method_154_code_10 : decode jdk_42_method_154_code 10 = .ok (.ifCond .ne 7, 3) := by decide +kernel
theorem d_jdk_42_method_154_code_13 : decode jdk_42_method_154_code 13 = .ok (.iconst 1, 1) := by decide +kernel
theorem d_jdk_42_method_154_code_14 : decode jdk_42_method_154_code 14 = .ok (.goto 4, 3) := by decide +kernel
theorem d_jdk_42_method_154_code_18 : decode jdk_42_method_154_code 18 = .ok (.ireturn, 1) := by decide +kernel
set_option maxRecDepth 65536 in
set_option maxHeartbeats 40000000 in
theorem rqLT (l : Launch) (Z : State) (a0 : Array Value) (hw : ∀ d ∈ tables_1, d.before a0 Z = true) (ws : List Jvm.Cond) (a1 : Addr) (cs : Int32) (h0 : Heap) (n0 : Nat) (Z0 : n0 ≤ h0.size) (F1 : Fld Z h0 a1 "java/lang/String" "coder" "B" (.int (0 : Int32))) (SC : Sta Z h0 "java/lang/String" "COMPACT_STRINGS" "Z" (.int cs)) (hcs : ¬ cs = (0 : Int32)) :
    MetFree l (⟨"java/lang/String", "isLatin1", "()Z"⟩ : MethodName) (head1 (Jvm.Cond.code (⟨"java/lang/String", "isLatin1", "()Z"⟩ : MethodName) jdk_42_method_154_code 1 (some .boolean) :: ws) ({ frames := 0, cells := 0, slots := 0, locals := 0 } : Room)) (fun aa_ UU_ => aa_ = #[(.ref a1)] ∧ Z.Warmed39 UU_.vm ∧ UU_.heap = h0) (fun _ _ _ _ _ => True) (fun _ UU_ oo_ VV_ => ∃ vv_ LL_, oo_ = .returned vv_ ∧ Q_rqLT Z a1 cs h0 n0 vv_ VV_.heap LL_ ∧ FrameEnd UU_ oo_ VV_ LL_ ({ frames := 0, cells := 0, slots := 0, locals := 0 } : Room).cells ({ frames := 0, cells := 0, slots := 0, locals := 0 } : Room).slots) := by
  refine own_met (y := (⟨"java/lang/String", "isLatin1", "()Z"⟩ : MethodName)) (plainFor_of_name pn_1) ?_
  intro p e s m below meth c T0 K hx hby hml hret hlk hown hnm hZ X0 e0 hK
  have N0 := Fr.nil n0
  refine Rch.cast (ef_rqLT m a1) ?_
  obtain ⟨T108, X108, e108, st108⟩ := getS2 X0 hx hZ hown (host := "") (Or.inl (hw _ (List.mem_of_getElem? (i := 22) rfl))) Via.refl e0 SC (g := (mkF m 0 #[.val (.ref a1)] [])) rfl (hb hby d_jdk_42_method_154_code_0)
  refine Rch.of (T' := T108) (g' := (mkF m 3 #[.val (.ref a1)] [(.int cs)])) st108 ?_
  refine Rch.of (T' := T108) (g' := (mkF m 6 #[.val (.ref a1)] [])) (fun _ kt => XS.ifNo X108.here hx rfl (hb hby d_jdk_42_method_154_code_3) rfl ((if0 _ _).trans (feq hcs).1) kt) ?_
  refine Rch.of (T' := T108) (g' := (mkF m 7 #[.val (.ref a1)] [(.ref a1)])) (fun _ kt => XS.aloadN X108.here hx rfl (hb hby d_jdk_42_method_154_code_6) rfl rfl kt) ?_
  obtain ⟨T109, X109, e109, st109⟩ := getF X108 hx hZ hown (host := "") (Or.inl (hw _ (List.mem_of_getElem? (i := 34) rfl))) Via.refl e108 F1 (g := (mkF m 7 #[.val (.ref a1)] [(.ref a1)])) rfl rfl (hb hby d_jdk_42_method_154_code_7)
  refine Rch.of (T' := T109) (g' := (mkF m 10 #[.val (.ref a1)] [(.int (0 : Int32))])) st109 ?_
  refine Rch.of (T' := T109) (g' := (mkF m 13 #[.val (.ref a1)] [])) (fun _ kt => XS.ifNo X109.here hx rfl (hb hby d_jdk_42_method_154_code_10) rfl ((if0 _ _).trans (teq ((by decide) : (0 : Int32) = (0 : Int32))).2) kt) ?_
  refine Rch.of (T' := T109) (g' := (mkF m 14 #[.val (.ref a1)] [(.int (1 : Int32))])) (fun _ kt => XS.iconst X109.here hx rfl (hb hby d_jdk_42_method_154_code_13) kt) ?_
  refine Rch.of (T' := T109) (g' := (mkF m 18 #[.val (.ref a1)] [(.int (1 : Int32))])) (fun _ kt => XS.goto X109.here hx rfl (pc0 := 14) (pc' := 18) rfl (hb hby d_jdk_42_method_154_code_14) (by decide) (by decide) kt) ?_
  exact Rch.retN X109 hx (t := .boolean) hret (by simp) hlk (hb hby d_jdk_42_method_154_code_18) (fun U hU hF => hK _ U _ _ _ (by show Q_rqLT Z a1 cs h0 n0 _ U.heap _; rw [hU, e109]; exact ⟨rfl, N0, rfl⟩) hF (by decide) (by decide))
theorem ef_rqLE (m : MethodId) (a1 : Addr) : entryFrame m #[(.ref a1)] 1 = mkF m 0 #[.val (.ref a1)] [] := by first | (simp [entryFrame, mkF, argsToLocals, Value.category]; done) | rfl
def Q_rqLE (Z : State) (a1 : Addr) (b1 : Addr) (n : Nat) (y : Nat → Int32) (cs : Int32) (h0 : Heap) (n0 : Nat) (vv_ : Option Value) (h : Heap) (LL_ : List Loc) : Prop := vv_ = some (.int (Int32.ofNat n)) ∧ Fr n0 LL_ ∧ (h = h0)
theorem d_jdk_42_method_54_code_0 : decode jdk_42_method_54_code 0 = .ok (.aload_n 0, 1) := by decide +kernel
theorem d_jdk_42_method_54_code_1 : decode jdk_42_method_54_code 1 = .ok (.getfield 9, 3) := by decide +kernel
theorem d_jdk_42_method_54_code_4 : decode jdk_42_method_54_code 4 = .ok (.arraylength, 1) := by decide +kernel
theorem d_jdk_42_method_54_code_5 : decode jdk_42_method_54_code 5 = .ok (.aload_n 0, 1) := by decide +kernel
theorem d_jdk_42_method_54_code_6 : decode jdk_42_method_54_code 6 = .ok (.invokevirtual 335, 3) := by decide +kernel
theorem d_jdk_42_method_54_code_9 : decode jdk_42_method_54_code 9 = .ok (.ishr, 1) := by decide +kernel
theorem d_jdk_42_method_54_code_10 : decode jdk_42_method_54_code 10 = .ok (.ireturn, 1) := by decide +kernel
set_option maxRecDepth 65536 in
set_option maxHeartbeats 40000000 in
theorem rqLE (l : Launch) (Z : State) (a0 : Array Value) (hw : ∀ d ∈ tables_1, d.before a0 Z = true) (ws : List Jvm.Cond) (a1 : Addr) (b1 : Addr) (n : Nat) (y : Nat → Int32) (cs : Int32) (h0 : Heap) (n0 : Nat) (Z0 : n0 ≤ h0.size) (E1 : Exa Z h0 a1 "java/lang/String") (F1 : Fld Z h0 a1 "java/lang/String" "coder" "B" (.int (0 : Int32))) (F2 : Fld Z h0 a1 "java/lang/String" "value" "[B" (.ref b1)) (V1 : Av Z h0 b1 .byte n (fun q => .int ((y q).toInt8.toInt32))) (SC : Sta Z h0 "java/lang/String" "COMPACT_STRINGS" "Z" (.int cs)) (hcs : ¬ cs = (0 : Int32)) :
    MetFree l (⟨"java/lang/String", "length", "()I"⟩ : MethodName) (head1 (Jvm.Cond.code (⟨"java/lang/String", "length", "()I"⟩ : MethodName) jdk_42_method_54_code 1 (some .int) :: ws) ({ frames := 1, cells := 0, slots := 0, locals := 13 } : Room)) (fun aa_ UU_ => aa_ = #[(.ref a1)] ∧ Z.Warmed39 UU_.vm ∧ UU_.heap = h0) (fun _ _ _ _ _ => True) (fun _ UU_ oo_ VV_ => ∃ vv_ LL_, oo_ = .returned vv_ ∧ Q_rqLE Z a1 b1 n y cs h0 n0 vv_ VV_.heap LL_ ∧ FrameEnd UU_ oo_ VV_ LL_ ({ frames := 1, cells := 0, slots := 0, locals := 13 } : Room).cells ({ frames := 1, cells := 0, slots := 0, locals := 13 } : Room).slots) := by
  refine own_met (y := (⟨"java/lang/String", "length", "()I"⟩ : MethodName)) (plainFor_of_name pn_1) ?_
  intro p e s m below meth c T0 K hx hby hml hret hlk hown hnm hZ X0 e0 hK
  have N0 := Fr.nil n0
  refine Rch.cast (ef_rqLE m a1) ?_
  refine Rch.of (T' := T0) (g' := (mkF m 1 #[.val (.ref a1)] [(.ref a1)])) (fun _ kt => XS.aloadN X0.here hx rfl (hb hby d_jdk_42_method_54_code_0) rfl rfl kt) ?_
  obtain ⟨T110, X110, e110, st110⟩ := getF X0 hx hZ hown (host := "") (Or.inl (hw _ (List.mem_of_getElem? (i := 36) rfl))) Via.refl e0 F2 (g := (mkF m 1 #[.val (.ref a1)] [(.ref a1)])) rfl rfl (hb hby d_jdk_42_method_54_code_1)
  refine Rch.of (T' := T110) (g' := (mkF m 4 #[.val (.ref a1)] [(.ref b1)])) st110 ?_
  obtain ⟨cl111, Ar111, Sz111, Ha111⟩ := id V1
  refine Rch.of (T' := T110) (g' := (mkF m 5 #[.val (.ref a1)] [(.int cl111.slots.size.toInt32)])) (X110.arraylength hx (by rw [e110]; exact Ar111.1) (State.isArrayOf_alike hZ.alike Ar111.2.1) (g := (mkF m 4 #[.val (.ref a1)] [(.ref b1)])) rfl rfl (hb hby d_jdk_42_method_54_code_4)) ?_
  rw [oLen Sz111]
  show Rch p e below K T110 (mkF m 5 #[.val (.ref a1)] [(.int (Int32.ofNat n))])
  refine Rch.of (T' := T110) (g' := (mkF m 6 #[.val (.ref a1)] [(.ref a1), (.int (Int32.ofNat n))])) (fun _ kt => XS.aloadN X110.here hx rfl (hb hby d_jdk_42_method_54_code_5) rfl rfl kt) ?_
  obtain ⟨cq112, kq112, q112a, q112b, q112c⟩ := isOf hZ e110 E1
  obtain ⟨_, _, ⟨T112, L112, k112, n112⟩, -, X112, ⟨Lc112, hQ112, l112, y112, z112⟩, st112⟩ := X110.virtualBack hx (y := (⟨"java/lang/String", "coder", "()B"⟩ : MethodName)) (z := (⟨"java/lang/String", "coder", "()B"⟩ : MethodName)) hown (mvT hZ (hw _ (List.mem_of_getElem? (i := 96) rfl))) (mvT hZ (hw _ (List.mem_of_getElem? (i := 97) rfl))) (notFace_of_selects (args := #[]) (mvT hZ (hw _ (List.mem_of_getElem? (i := 99) rfl)))) (mvT hZ (hw _ (List.mem_of_getElem? (i := 99) rfl))) (mvT hZ (hw _ (List.mem_of_getElem? (i := 98) rfl))) (by decide) (backOf (W := 1) (rqCD l Z a0 hw [] a1 cs h0 n0 Z0 F1 SC hcs) hZ (hw _ (List.mem_of_getElem? (i := 100) rfl)) (hw _ (List.mem_of_getElem? (i := 11) rfl)) (by decide) (by decide)) q112a q112c (g := (mkF m 6 #[.val (.ref a1)] [(.ref a1), (.int (Int32.ofNat n))])) rfl (by rw [hml]; rfl) (Steps.refl _) (argsL := []) (rest := [(.int (Int32.ofNat n))]) (lenOf pd_17 rfl) rfl (by show 2 * 0 + _ ≤ _; exact Nat.le_of_eq rfl) (hb hby d_jdk_42_method_54_code_6) (fun _ _ => ⟨rfl, e110, (by decide : 0 + 0 ≤ _), (by decide : 0 + 0 ≤ _)⟩)
  dsimp only [Pt.U, Pt.locs, Pt.cells, Pt.slots] at X112 l112 y112 z112 st112 hQ112
  subst l112 y112 z112
  obtain ⟨rfl, N112q, hQ112⟩ := hQ112
  have N112 := Fr.app N0 N112q
  refine Rch.via (T' := T112) (g' := (mkF m 9 #[.val (.ref a1)] [(.int (0 : Int32)), (.int (Int32.ofNat n))])) st112 ?_
  refine Rch.of (T' := T112) (g' := (mkF m 10 #[.val (.ref a1)] [(.int ((Int32.ofNat n) >>> ((0 : Int32) &&& 31)))])) (fun _ kt => XS.ishr X112.here hx rfl (hb hby d_jdk_42_method_54_code_9) rfl kt) ?_
  exact Rch.retI X112 hx hret hlk (hb hby d_jdk_42_method_54_code_10) (fun U hU hF => hK _ U _ _ _ (by show Q_rqLE Z a1 b1 n y cs h0 n0 _ U.heap _; rw [hU, hQ112]; exact ⟨congrArg (fun q => some (Value.int q)) (own_sh0 _), N112, rfl⟩) hF (by decide) (by decide))
theorem pn_2 : plainName "jdk/internal/util/Preconditions" = true := by first | (simp [plainName, overriddenIn]; done) | decide +kernel
theorem ef_rqK2n (m : MethodId)  : entryFrame m #[(.int (Int32.ofNat i)), (.int (Int32.ofNat n)), .null] 3 = mkF m 0 #[.val (.int (Int32.ofNat i)), .val (.int (Int32.ofNat n)), .val .null] [] := by first | (simp [entryFrame, mkF, argsToLocals, Value.category]; done) | rfl
def Q_rqK2n (Z : State) (i : Nat) (n : Nat) (h0 : Heap) (n0 : Nat) (vv_ : Option Value) (h : Heap) (LL_ : List Loc) : Prop := vv_ = some (.int (Int32.ofNat i)) ∧ Fr n0 LL_ ∧ (h = h0)
theorem d_jdk_41_method_11_code_0 : decode jdk_41_method_11_code 0 = .ok (.iload_n 0, 1) := by decide +kernel
theorem d_jdk_41_method_11_code_1 : decode jdk_41_method_11_code 1 = .ok (.ifCond .lt 8, 3) := by decide +kernel
theorem d_jdk_41_method_11_code_4 : decode jdk_41_method_11_code 4 = .ok (.iload_n 0, 1) := by decide +kernel
theorem d_jdk_41_method_11_code_5 : decode jdk_41_method_11_code 5 = .ok (.iload_n 1, 1) := by decide +kernel
theorem d_jdk_41_method_11_code_6 : decode jdk_41_method_11_code 6 = .ok (.if_icmp .lt 10, 3) := by decide +kernel
theorem d_jdk_41_method_11_code_16 : decode jdk_41_method_11_code 16 = .ok (.iload_n 0, 1) := by decide +kernel
theorem d_jdk_41_method_11_code_17 : decode jdk_41_method_11_code 17 = .ok (.ireturn, 1) := by decide +kernel
set_option maxRecDepth 65536 in
set_option maxHeartbeats 40000000 in
theorem rqK2n (l : Launch) (Z : State) (a0 : Array Value) (hw : ∀ d ∈ tables_1, d.before a0 Z = true) (ws : List Jvm.Cond) (i : Nat) (n : Nat) (h0 : Heap) (n0 : Nat) (Z0 : n0 ≤ h0.size) (hi : i < n) (hn : n ≤ 7) :
    MetFree l (⟨"jdk/internal/util/Preconditions", "checkIndex", "(IILjava/util/function/BiFunction;)I"⟩ : MethodName) (head1 (Jvm.Cond.code (⟨"jdk/internal/util/Preconditions", "checkIndex", "(IILjava/util/function/BiFunction;)I"⟩ : MethodName) jdk_41_method_11_code 3 (some .int) :: ws) ({ frames := 0, cells := 0, slots := 0, locals := 0 } : Room)) (fun aa_ UU_ => aa_ = #[(.int (Int32.ofNat i)), (.int (Int32.ofNat n)), .null] ∧ Z.Warmed39 UU_.vm ∧ UU_.heap = h0) (fun _ _ _ _ _ => True) (fun _ UU_ oo_ VV_ => ∃ vv_ LL_, oo_ = .returned vv_ ∧ Q_rqK2n Z i n h0 n0 vv_ VV_.heap LL_ ∧ FrameEnd UU_ oo_ VV_ LL_ ({ frames := 0, cells := 0, slots := 0, locals := 0 } : Room).cells ({ frames := 0, cells := 0, slots := 0, locals := 0 } : Room).slots) := by
  refine own_met (y := (⟨"jdk/internal/util/Preconditions", "checkIndex", "(IILjava/util/function/BiFunction;)I"⟩ : MethodName)) (plainFor_of_name pn_2) ?_
  intro p e s m below meth c T0 K hx hby hml hret hlk hown hnm hZ X0 e0 hK
  have N0 := Fr.nil n0
  refine Rch.cast (ef_rqK2n m ) ?_
  have kn113 : ¬ ((Int32.ofNat i) < (0 : Int32)) := own_nneg (by omega)
  have kn114 : (Int32.ofNat i) < (Int32.ofNat n) := own_lt3 hi (by omega)
  refine Rch.of (T' := T0) (g' := (mkF m 1 #[.val (.int (Int32.ofNat i)), .val (.int (Int32.ofNat n)), .val .null] [(.int (Int32.ofNat i))])) (fun _ kt => XS.iloadN X0.here hx rfl (hb hby d_jdk_41_method_11_code_0) rfl  kt) ?_
  refine Rch.of (T' := T0) (g' := (mkF m 4 #[.val (.int (Int32.ofNat i)), .val (.int (Int32.ofNat n)), .val .null] [])) (fun _ kt => XS.ifNo X0.here hx rfl (hb hby d_jdk_41_method_11_code_1) rfl ((if0 _ _).trans (flt kn113).1) kt) ?_
  refine Rch.of (T' := T0) (g' := (mkF m 5 #[.val (.int (Int32.ofNat i)), .val (.int (Int32.ofNat n)), .val .null] [(.int (Int32.ofNat i))])) (fun _ kt => XS.iloadN X0.here hx rfl (hb hby d_jdk_41_method_11_code_4) rfl  kt) ?_
  refine Rch.of (T' := T0) (g' := (mkF m 6 #[.val (.int (Int32.ofNat i)), .val (.int (Int32.ofNat n)), .val .null] [(.int (Int32.ofNat n)), (.int (Int32.ofNat i))])) (fun _ kt => XS.iloadN X0.here hx rfl (hb hby d_jdk_41_method_11_code_5) rfl  kt) ?_
  refine Rch.of (T' := T0) (g' := (mkF m 16 #[.val (.int (Int32.ofNat i)), .val (.int (Int32.ofNat n)), .val .null] [])) (fun _ kt => XS.icmpYes X0.here hx rfl (pc0 := 6) (pc' := 16) rfl (hb hby d_jdk_41_method_11_code_6) rfl (tlt kn114).1 (by decide) (by decide) kt) ?_
  refine Rch.of (T' := T0) (g' := (mkF m 17 #[.val (.int (Int32.ofNat i)), .val (.int (Int32.ofNat n)), .val .null] [(.int (Int32.ofNat i))])) (fun _ kt => XS.iloadN X0.here hx rfl (hb hby d_jdk_41_method_11_code_16) rfl  kt) ?_
  exact Rch.retI X0 hx hret hlk (hb hby d_jdk_41_method_11_code_17) (fun U hU hF => hK _ U _ _ _ (by show Q_rqK2n Z i n h0 n0 _ U.heap _; rw [hU, e0]; exact ⟨rfl, N0, rfl⟩) hF (by decide) (by decide))
theorem ef_rqK2r (m : MethodId) (a3 : Addr) : entryFrame m #[(.int (Int32.ofNat i)), (.int (Int32.ofNat n)), (.ref a3)] 3 = mkF m 0 #[.val (.int (Int32.ofNat i)), .val (.int (Int32.ofNat n)), .val (.ref a3)] [] := by first | (simp [entryFrame, mkF, argsToLocals, Value.category]; done) | rfl
def Q_rqK2r (Z : State) (i : Nat) (n : Nat) (a3 : Addr) (h0 : Heap) (n0 : Nat) (vv_ : Option Value) (h : Heap) (LL_ : List Loc) : Prop := vv_ = some (.int (Int32.ofNat i)) ∧ Fr n0 LL_ ∧ (h = h0)
set_option maxRecDepth 65536 in
set_option maxHeartbeats 40000000 in
theorem rqK2r (l : Launch) (Z : State) (a0 : Array Value) (hw : ∀ d ∈ tables_1, d.before a0 Z = true) (ws : List Jvm.Cond) (i : Nat) (n : Nat) (a3 : Addr) (h0 : Heap) (n0 : Nat) (Z0 : n0 ≤ h0.size) (hi : i < n) (hn : n ≤ 7) :
    MetFree l (⟨"jdk/internal/util/Preconditions", "checkIndex", "(IILjava/util/function/BiFunction;)I"⟩ : MethodName) (head1 (Jvm.Cond.code (⟨"jdk/internal/util/Preconditions", "checkIndex", "(IILjava/util/function/BiFunction;)I"⟩ : MethodName) jdk_41_method_11_code 3 (some .int) :: ws) ({ frames := 0, cells := 0, slots := 0, locals := 0 } : Room)) (fun aa_ UU_ => aa_ = #[(.int (Int32.ofNat i)), (.int (Int32.ofNat n)), (.ref a3)] ∧ Z.Warmed39 UU_.vm ∧ UU_.heap = h0) (fun _ _ _ _ _ => True) (fun _ UU_ oo_ VV_ => ∃ vv_ LL_, oo_ = .returned vv_ ∧ Q_rqK2r Z i n a3 h0 n0 vv_ VV_.heap LL_ ∧ FrameEnd UU_ oo_ VV_ LL_ ({ frames := 0, cells := 0, slots := 0, locals := 0 } : Room).cells ({ frames := 0, cells := 0, slots := 0, locals := 0 } : Room).slots) := by
  refine own_met (y := (⟨"jdk/internal/util/Preconditions", "checkIndex", "(IILjava/util/function/BiFunction;)I"⟩ : MethodName)) (plainFor_of_name pn_2) ?_
  intro p e s m below meth c T0 K hx hby hml hret hlk hown hnm hZ X0 e0 hK
  have N0 := Fr.nil n0
  refine Rch.cast (ef_rqK2r m a3) ?_
  have kn115 : ¬ ((Int32.ofNat i) < (0 : Int32)) := own_nneg (by omega)
  have kn116 : (Int32.ofNat i) < (Int32.ofNat n) := own_lt3 hi (by omega)
  refine Rch.of (T' := T0) (g' := (mkF m 1 #[.val (.int (Int32.ofNat i)), .val (.int (Int32.ofNat n)), .val (.ref a3)] [(.int (Int32.ofNat i))])) (fun _ kt => XS.iloadN X0.here hx rfl (hb hby d_jdk_41_method_11_code_0) rfl  kt) ?_
  refine Rch.of (T' := T0) (g' := (mkF m 4 #[.val (.int (Int32.ofNat i)), .val (.int (Int32.ofNat n)), .val (.ref a3)] [])) (fun _ kt => XS.ifNo X0.here hx rfl (hb hby d_jdk_41_method_11_code_1) rfl ((if0 _ _).trans (flt kn115).1) kt) ?_
  refine Rch.of (T' := T0) (g' := (mkF m 5 #[.val (.int (Int32.ofNat i)), .val (.int (Int32.ofNat n)), .val (.ref a3)] [(.int (Int32.ofNat i))])) (fun _ kt => XS.iloadN X0.here hx rfl (hb hby d_jdk_41_method_11_code_4) rfl  kt) ?_
  refine Rch.of (T' := T0) (g' := (mkF m 6 #[.val (.int (Int32.ofNat i)), .val (.int (Int32.ofNat n)), .val (.ref a3)] [(.int (Int32.ofNat n)), (.int (Int32.ofNat i))])) (fun _ kt => XS.iloadN X0.here hx rfl (hb hby d_jdk_41_method_11_code_5) rfl  kt) ?_
  refine Rch.of (T' := T0) (g' := (mkF m 16 #[.val (.int (Int32.ofNat i)), .val (.int (Int32.ofNat n)), .val (.ref a3)] [])) (fun _ kt => XS.icmpYes X0.here hx rfl (pc0 := 6) (pc' := 16) rfl (hb hby d_jdk_41_method_11_code_6) rfl (tlt kn116).1 (by decide) (by decide) kt) ?_
  refine Rch.of (T' := T0) (g' := (mkF m 17 #[.val (.int (Int32.ofNat i)), .val (.int (Int32.ofNat n)), .val (.ref a3)] [(.int (Int32.ofNat i))])) (fun _ kt => XS.iloadN X0.here hx rfl (hb hby d_jdk_41_method_11_code_16) rfl  kt) ?_
  exact Rch.retI X0 hx hret hlk (hb hby d_jdk_41_method_11_code_17) (fun U hU hF => hK _ U _ _ _ (by show Q_rqK2r Z i n a3 h0 n0 _ U.heap _; rw [hU, e0]; exact ⟨rfl, N0, rfl⟩) hF (by decide) (by decide))
theorem ef_rqK1 (m : MethodId)  : entryFrame m #[(.int (Int32.ofNat i)), (.int (Int32.ofNat n))] 2 = mkF m 0 #[.val (.int (Int32.ofNat i)), .val (.int (Int32.ofNat n))] [] := by first | (simp [entryFrame, mkF, argsToLocals, Value.category]; done) | rfl
def Q_rqK1 (Z : State) (i : Nat) (n : Nat) (sv : Value) (h0 : Heap) (n0 : Nat) (vv_ : Option Value) (h : Heap) (LL_ : List Loc) : Prop := vv_ = none ∧ Fr n0 LL_ ∧ (h = h0)
theorem d_jdk_42_method_155_code_0 : decode jdk_42_method_155_code 0 = .ok (.iload_n 0, 1) := by decide +kernel
theorem d_jdk_42_method_155_code_1 : decode jdk_42_method_155_code 1 = .ok (.iload_n 1, 1) := by decide +kernel
theorem d_jdk_42_method_155_code_2 : decode jdk_42_method_155_code 2 = .ok (.getstatic 1053, 3) := by decide +kernel
theorem d_jdk_42_method_155_code_5 : decode jdk_42_method_155_code 5 = .ok (.invokestatic 1059, 3) := by decide +kernel
theorem d_jdk_42_method_155_code_8 : decode jdk_42_method_155_code 8 = .ok (.pop, 1) := by decide +kernel
theorem d_jdk_42_method_155_code_9 : decode jdk_42_method_155_code 9 = .ok (.return_, 1) := by decide +kernel
set_option maxRecDepth 65536 in
set_option maxHeartbeats 40000000 in
theorem rqK1 (l : Launch) (Z : State) (a0 : Array Value) (hw : ∀ d ∈ tables_1, d.before a0 Z = true) (ws : List Jvm.Cond) (i : Nat) (n : Nat) (sv : Value) (h0 : Heap) (n0 : Nat) (Z0 : n0 ≤ h0.size) (hi : i < n) (hn : n ≤ 7) (SI : Sta Z h0 "jdk/internal/util/Preconditions" "SIOOBE_FORMATTER" "Ljava/util/function/BiFunction;" sv) (hsv : sv.isRef = true) :
    MetFree l (⟨"java/lang/String", "checkIndex", "(II)V"⟩ : MethodName) (head1 (Jvm.Cond.code (⟨"java/lang/String", "checkIndex", "(II)V"⟩ : MethodName) jdk_42_method_155_code 2 none :: ws) ({ frames := 1, cells := 0, slots := 0, locals := 14 } : Room)) (fun aa_ UU_ => aa_ = #[(.int (Int32.ofNat i)), (.int (Int32.ofNat n))] ∧ Z.Warmed39 UU_.vm ∧ UU_.heap = h0) (fun _ _ _ _ _ => True) (fun _ UU_ oo_ VV_ => ∃ vv_ LL_, oo_ = .returned vv_ ∧ Q_rqK1 Z i n sv h0 n0 vv_ VV_.heap LL_ ∧ FrameEnd UU_ oo_ VV_ LL_ ({ frames := 1, cells := 0, slots := 0, locals := 14 } : Room).cells ({ frames := 1, cells := 0, slots := 0, locals := 14 } : Room).slots) := by
  refine own_met (y := (⟨"java/lang/String", "checkIndex", "(II)V"⟩ : MethodName)) (plainFor_of_name pn_1) ?_
  intro p e s m below meth c T0 K hx hby hml hret hlk hown hnm hZ X0 e0 hK
  have N0 := Fr.nil n0
  refine Rch.cast (ef_rqK1 m ) ?_
  rcases ref_cases hsv with es_ | ⟨q1_, es_⟩
  · skip
    have SI2 : Sta Z h0 "jdk/internal/util/Preconditions" "SIOOBE_FORMATTER" "Ljava/util/function/BiFunction;" .null := by rw [← es_]; exact SI
    refine Rch.of (T' := T0) (g' := (mkF m 1 #[.val (.int (Int32.ofNat i)), .val (.int (Int32.ofNat n))] [(.int (Int32.ofNat i))])) (fun _ kt => XS.iloadN X0.here hx rfl (hb hby d_jdk_42_method_155_code_0) rfl  kt) ?_
    refine Rch.of (T' := T0) (g' := (mkF m 2 #[.val (.int (Int32.ofNat i)), .val (.int (Int32.ofNat n))] [(.int (Int32.ofNat n)), (.int (Int32.ofNat i))])) (fun _ kt => XS.iloadN X0.here hx rfl (hb hby d_jdk_42_method_155_code_1) rfl  kt) ?_
    obtain ⟨T117, X117, e117, st117⟩ := getS2 X0 hx hZ hown (host := "") (Or.inl (hw _ (List.mem_of_getElem? (i := 117) rfl))) Via.refl e0 SI2 (g := (mkF m 2 #[.val (.int (Int32.ofNat i)), .val (.int (Int32.ofNat n))] [(.int (Int32.ofNat n)), (.int (Int32.ofNat i))])) rfl (hb hby d_jdk_42_method_155_code_2)
    refine Rch.of (T' := T117) (g' := (mkF m 5 #[.val (.int (Int32.ofNat i)), .val (.int (Int32.ofNat n))] [.null, (.int (Int32.ofNat n)), (.int (Int32.ofNat i))])) st117 ?_
    have pr119 : i < n := by omega
    have pr120 : n ≤ 7 := by omega
    obtain ⟨_, _, ⟨T118, L118, k118, n118⟩, -, X118, ⟨Lc118, hQ118, l118, y118, z118⟩, st118⟩ := Jvm.LawKit.callS X117 hx (y := (⟨"jdk/internal/util/Preconditions", "checkIndex", "(IILjava/util/function/BiFunction;)I"⟩ : MethodName)) hown (mvT hZ (hw _ (List.mem_of_getElem? (i := 119) rfl))) (mvT hZ (hw _ (List.mem_of_getElem? (i := 120) rfl))) (mvT hZ (hw _ (List.mem_of_getElem? (i := 118) rfl))) (mvT hZ (hw _ (List.mem_of_getElem? (i := 121) rfl))) (by decide) (backOf (W := 0) (rqK2n l Z a0 hw [] i n h0 n0 Z0 pr119 pr120) hZ (hw _ (List.mem_of_getElem? (i := 121) rfl)) (hw _ (List.mem_of_getElem? (i := 118) rfl)) (by decide) (by decide)) (g := (mkF m 5 #[.val (.int (Int32.ofNat i)), .val (.int (Int32.ofNat n))] [.null, (.int (Int32.ofNat n)), (.int (Int32.ofNat i))])) rfl (by rw [hml]; rfl) (argsL := [(.int (Int32.ofNat i)), (.int (Int32.ofNat n)), .null]) (rest := []) (lenOf pd_21 rfl) rfl (by show 2 * 0 + _ ≤ _; exact Nat.le_of_eq rfl) (hb hby d_jdk_42_method_155_code_5) (fun _ _ => ⟨rfl, e117, (by decide : 0 + 0 ≤ _), (by decide : 0 + 0 ≤ _)⟩)
    dsimp only [Pt.U, Pt.locs, Pt.cells, Pt.slots] at X118 l118 y118 z118 st118 hQ118
    subst l118 y118 z118
    obtain ⟨rfl, N118q, hQ118⟩ := hQ118
    have N118 := Fr.app N0 N118q
    refine Rch.of (T' := T118) (g' := (mkF m 8 #[.val (.int (Int32.ofNat i)), .val (.int (Int32.ofNat n))] [(.int (Int32.ofNat i))])) st118 ?_
    refine Rch.of (T' := T118) (g' := (mkF m 9 #[.val (.int (Int32.ofNat i)), .val (.int (Int32.ofNat n))] [])) (fun _ kt => XS.pop X118.here hx rfl (hb hby d_jdk_42_method_155_code_8) rfl rfl kt) ?_
    exact Rch.retV X118 hx hret hlk (hb hby d_jdk_42_method_155_code_9) (fun U hU hF => hK _ U _ _ _ (by show Q_rqK1 Z i n sv h0 n0 _ U.heap _; rw [hU, hQ118]; exact ⟨rfl, N118, rfl⟩) hF (by decide) (by decide))
  · skip
    have SI2 : Sta Z h0 "jdk/internal/util/Preconditions" "SIOOBE_FORMATTER" "Ljava/util/function/BiFunction;" (.ref q1_) := by rw [← es_]; exact SI
    refine Rch.of (T' := T0) (g' := (mkF m 1 #[.val (.int (Int32.ofNat i)), .val (.int (Int32.ofNat n))] [(.int (Int32.ofNat i))])) (fun _ kt => XS.iloadN X0.here hx rfl (hb hby d_jdk_42_method_155_code_0) rfl  kt) ?_
    refine Rch.of (T' := T0) (g' := (mkF m 2 #[.val (.int (Int32.ofNat i)), .val (.int (Int32.ofNat n))] [(.int (Int32.ofNat n)), (.int (Int32.ofNat i))])) (fun _ kt => XS.iloadN X0.here hx rfl (hb hby d_jdk_42_method_155_code_1) rfl  kt) ?_
    obtain ⟨T121, X121, e121, st121⟩ := getS2 X0 hx hZ hown (host := "") (Or.inl (hw _ (List.mem_of_getElem? (i := 117) rfl))) Via.refl e0 SI2 (g := (mkF m 2 #[.val (.int (Int32.ofNat i)), .val (.int (Int32.ofNat n))] [(.int (Int32.ofNat n)), (.int (Int32.ofNat i))])) rfl (hb hby d_jdk_42_method_155_code_2)
    refine Rch.of (T' := T121) (g' := (mkF m 5 #[.val (.int (Int32.ofNat i)), .val (.int (Int32.ofNat n))] [(.ref q1_), (.int (Int32.ofNat n)), (.int (Int32.ofNat i))])) st121 ?_
    have pr123 : i < n := by omega
    have pr124 : n ≤ 7 := by omega
    obtain ⟨_, _, ⟨T122, L122, k122, n122⟩, -, X122, ⟨Lc122, hQ122, l122, y122, z122⟩, st122⟩ := Jvm.LawKit.callS X121 hx (y := (⟨"jdk/internal/util/Preconditions", "checkIndex", "(IILjava/util/function/BiFunction;)I"⟩ : MethodName)) hown (mvT hZ (hw _ (List.mem_of_getElem? (i := 119) rfl))) (mvT hZ (hw _ (List.mem_of_getElem? (i := 120) rfl))) (mvT hZ (hw _ (List.mem_of_getElem? (i := 118) rfl))) (mvT hZ (hw _ (List.mem_of_getElem? (i := 121) rfl))) (by decide) (backOf (W := 0) (rqK2r l Z a0 hw [] i n q1_ h0 n0 Z0 pr123 pr124) hZ (hw _ (List.mem_of_getElem? (i := 121) rfl)) (hw _ (List.mem_of_getElem? (i := 118) rfl)) (by decide) (by decide)) (g := (mkF m 5 #[.val (.int (Int32.ofNat i)), .val (.int (Int32.ofNat n))] [(.ref q1_), (.int (Int32.ofNat n)), (.int (Int32.ofNat i))])) rfl (by rw [hml]; rfl) (argsL := [(.int (Int32.ofNat i)), (.int (Int32.ofNat n)), (.ref q1_)]) (rest := []) (lenOf pd_21 rfl) rfl (by show 2 * 0 + _ ≤ _; exact Nat.le_of_eq rfl) (hb hby d_jdk_42_method_155_code_5) (fun _ _ => ⟨rfl, e121, (by decide : 0 + 0 ≤ _), (by decide : 0 + 0 ≤ _)⟩)
    dsimp only [Pt.U, Pt.locs, Pt.cells, Pt.slots] at X122 l122 y122 z122 st122 hQ122
    subst l122 y122 z122
    obtain ⟨rfl, N122q, hQ122⟩ := hQ122
    have N122 := Fr.app N0 N122q
    refine Rch.of (T' := T122) (g' := (mkF m 8 #[.val (.int (Int32.ofNat i)), .val (.int (Int32.ofNat n))] [(.int (Int32.ofNat i))])) st122 ?_
    refine Rch.of (T' := T122) (g' := (mkF m 9 #[.val (.int (Int32.ofNat i)), .val (.int (Int32.ofNat n))] [])) (fun _ kt => XS.pop X122.here hx rfl (hb hby d_jdk_42_method_155_code_8) rfl rfl kt) ?_
    exact Rch.retV X122 hx hret hlk (hb hby d_jdk_42_method_155_code_9) (fun U hU hF => hK _ U _ _ _ (by show Q_rqK1 Z i n sv h0 n0 _ U.heap _; rw [hU, hQ122]; exact ⟨rfl, N122, rfl⟩) hF (by decide) (by decide))
theorem pn_3 : plainName "java/lang/StringLatin1" = true := by first | (simp [plainName, overriddenIn]; done) | decide +kernel
theorem ef_rqC1 (m : MethodId) (b1 : Addr) : entryFrame m #[(.ref b1), (.int (Int32.ofNat i))] 2 = mkF m 0 #[.val (.ref b1), .val (.int (Int32.ofNat i))] [] := by first | (simp [entryFrame, mkF, argsToLocals, Value.category]; done) | rfl
def Q_rqC1 (Z : State) (b1 : Addr) (n : Nat) (y : Nat → Int32) (i : Nat) (sv : Value) (h0 : Heap) (n0 : Nat) (vv_ : Option Value) (h : Heap) (LL_ : List Loc) : Prop := vv_ = some (.int (y i)) ∧ Fr n0 LL_ ∧ (h = h0)
theorem d_jdk_43_method_2_code_0 : decode jdk_43_method_2_code 0 = .ok (.iload_n 1, 1) := by decide +kernel
theorem d_jdk_43_method_2_code_1 : decode jdk_43_method_2_code 1 = .ok (.aload_n 0, 1) := by decide +kernel
theorem d_jdk_43_method_2_code_2 : decode jdk_43_method_2_code 2 = .ok (.arraylength, 1) := by decide +kernel
theorem d_jdk_43_method_2_code_3 : decode jdk_43_method_2_code 3 = .ok (.invokestatic 9, 3) := by decide +kernel
theorem d_jdk_43_method_2_code_6 : decode jdk_43_method_2_code 6 = .ok (.aload_n 0, 1) := by decide +kernel
theorem d_jdk_43_method_2_code_7 : decode jdk_43_method_2_code 7 = .ok (.iload_n 1, 1) := by decide +kernel
theorem d_jdk_43_method_2_code_8 : decode jdk_43_method_2_code 8 = .ok (.baload, 1) := by decide +kernel
theorem d_jdk_43_method_2_code_9 : decode jdk_43_method_2_code 9 = .ok (.sipush 255, 3) := by decide +kernel
theorem d_jdk_43_method_2_code_12 : decode jdk_43_method_2_code 12 = .ok (.iand, 1) := by decide +kernel
theorem d_jdk_43_method_2_code_13 : decode jdk_43_method_2_code 13 = .ok (.i2c, 1) := by decide +kernel
theorem d_jdk_43_method_2_code_14 : decode jdk_43_method_2_code 14 = .ok (.ireturn, 1) := by decide +kernel
set_option maxRecDepth 65536 in
set_option maxHeartbeats 40000000 in
theorem rqC1 (l : Launch) (Z : State) (a0 : Array Value) (hw : ∀ d ∈ tables_1, d.before a0 Z = true) (ws : List Jvm.Cond) (b1 : Addr) (n : Nat) (y : Nat → Int32) (i : Nat) (sv : Value) (h0 : Heap) (n0 : Nat) (Z0 : n0 ≤ h0.size) (V1 : Av Z h0 b1 .byte n (fun q => .int ((y q).toInt8.toInt32))) (hi : i < n) (hn : n ≤ 7) (hy : own_ch n y) (SI : Sta Z h0 "jdk/internal/util/Preconditions" "SIOOBE_FORMATTER" "Ljava/util/function/BiFunction;" sv) (hsv : sv.isRef = true) :
    MetFree l (⟨"java/lang/StringLatin1", "charAt", "([BI)C"⟩ : MethodName) (head1 (Jvm.Cond.code (⟨"java/lang/StringLatin1", "charAt", "([BI)C"⟩ : MethodName) jdk_43_method_2_code 2 (some .char) :: ws) ({ frames := 2, cells := 0, slots := 0, locals := 27 } : Room)) (fun aa_ UU_ => aa_ = #[(.ref b1), (.int (Int32.ofNat i))] ∧ Z.Warmed39 UU_.vm ∧ UU_.heap = h0) (fun _ _ _ _ _ => True) (fun _ UU_ oo_ VV_ => ∃ vv_ LL_, oo_ = .returned vv_ ∧ Q_rqC1 Z b1 n y i sv h0 n0 vv_ VV_.heap LL_ ∧ FrameEnd UU_ oo_ VV_ LL_ ({ frames := 2, cells := 0, slots := 0, locals := 27 } : Room).cells ({ frames := 2, cells := 0, slots := 0, locals := 27 } : Room).slots) := by
  refine own_met (y := (⟨"java/lang/StringLatin1", "charAt", "([BI)C"⟩ : MethodName)) (plainFor_of_name pn_3) ?_
  intro p e s m below meth c T0 K hx hby hml hret hlk hown hnm hZ X0 e0 hK
  have N0 := Fr.nil n0
  refine Rch.cast (ef_rqC1 m b1) ?_
  have ti : (Int32.ofNat i).toInt = (i : Int) := oTo (by omega)
  refine Rch.of (T' := T0) (g' := (mkF m 1 #[.val (.ref b1), .val (.int (Int32.ofNat i))] [(.int (Int32.ofNat i))])) (fun _ kt => XS.iloadN X0.here hx rfl (hb hby d_jdk_43_method_2_code_0) rfl  kt) ?_
  refine Rch.of (T' := T0) (g' := (mkF m 2 #[.val (.ref b1), .val (.int (Int32.ofNat i))] [(.ref b1), (.int (Int32.ofNat i))])) (fun _ kt => XS.aloadN X0.here hx rfl (hb hby d_jdk_43_method_2_code_1) rfl rfl kt) ?_
  obtain ⟨cl125, Ar125, Sz125, Ha125⟩ := id V1
  refine Rch.of (T' := T0) (g' := (mkF m 3 #[.val (.ref b1), .val (.int (Int32.ofNat i))] [(.int cl125.slots.size.toInt32), (.int (Int32.ofNat i))])) (X0.arraylength hx (by rw [e0]; exact Ar125.1) (State.isArrayOf_alike hZ.alike Ar125.2.1) (g := (mkF m 2 #[.val (.ref b1), .val (.int (Int32.ofNat i))] [(.ref b1), (.int (Int32.ofNat i))])) rfl rfl (hb hby d_jdk_43_method_2_code_2)) ?_
  rw [oLen Sz125]
  show Rch p e below K T0 (mkF m 3 #[.val (.ref b1), .val (.int (Int32.ofNat i))] [(.int (Int32.ofNat n)), (.int (Int32.ofNat i))])
  have pr127 : i < n := by omega
  have pr128 : n ≤ 7 := by omega
  obtain ⟨_, _, ⟨T126, L126, k126, n126⟩, -, X126, ⟨Lc126, hQ126, l126, y126, z126⟩, st126⟩ := Jvm.LawKit.callS X0 hx (y := (⟨"java/lang/String", "checkIndex", "(II)V"⟩ : MethodName)) hown (mvT hZ (hw _ (List.mem_of_getElem? (i := 114) rfl))) (mvT hZ (hw _ (List.mem_of_getElem? (i := 115) rfl))) (mvT hZ (hw _ (List.mem_of_getElem? (i := 11) rfl))) (mvT hZ (hw _ (List.mem_of_getElem? (i := 116) rfl))) (by decide) (backOf (W := 0) (rqK1 l Z a0 hw [] i n sv h0 n0 Z0 pr127 pr128 SI hsv) hZ (hw _ (List.mem_of_getElem? (i := 116) rfl)) (hw _ (List.mem_of_getElem? (i := 11) rfl)) (by decide) (by decide)) (g := (mkF m 3 #[.val (.ref b1), .val (.int (Int32.ofNat i))] [(.int (Int32.ofNat n)), (.int (Int32.ofNat i))])) rfl (by rw [hml]; rfl) (argsL := [(.int (Int32.ofNat i)), (.int (Int32.ofNat n))]) (rest := []) (lenOf pd_20 rfl) rfl (by show 2 * 0 + _ ≤ _; exact Nat.le_of_eq rfl) (hb hby d_jdk_43_method_2_code_3) (fun _ _ => ⟨rfl, e0, (by decide : 0 + 0 ≤ _), (by decide : 0 + 0 ≤ _)⟩)
  dsimp only [Pt.U, Pt.locs, Pt.cells, Pt.slots] at X126 l126 y126 z126 st126 hQ126
  subst l126 y126 z126
  obtain ⟨rfl, N126q, hQ126⟩ := hQ126
  have N126 := Fr.app N0 N126q
  refine Rch.of (T' := T126) (g' := (mkF m 6 #[.val (.ref b1), .val (.int (Int32.ofNat i))] [])) st126 ?_
  refine Rch.of (T' := T126) (g' := (mkF m 7 #[.val (.ref b1), .val (.int (Int32.ofNat i))] [(.ref b1)])) (fun _ kt => XS.aloadN X126.here hx rfl (hb hby d_jdk_43_method_2_code_6) rfl rfl kt) ?_
  refine Rch.of (T' := T126) (g' := (mkF m 8 #[.val (.ref b1), .val (.int (Int32.ofNat i))] [(.int (Int32.ofNat i)), (.ref b1)])) (fun _ kt => XS.iloadN X126.here hx rfl (hb hby d_jdk_43_method_2_code_7) rfl  kt) ?_
  obtain ⟨cl129, Ar129, Sz129, Ha129⟩ := id V1
  refine Rch.of (T' := T126) (g' := (mkF m 9 #[.val (.ref b1), .val (.int (Int32.ofNat i))] [(.int ((fun q => (y q).toInt8.toInt32) i))])) (X126.baloadBytes hx (j := (Int32.ofNat i)) (v := (.int ((fun q => (y q).toInt8.toInt32) i))) (by rw [hQ126]; exact Ar129.1) (State.isArrayOf_alike hZ.alike Ar129.2.1) Ar129.2.2 (oIn (i := i) Sz129 ti hi) (oAt (i := i) Ha129 ti hi) (g := (mkF m 8 #[.val (.ref b1), .val (.int (Int32.ofNat i))] [(.int (Int32.ofNat i)), (.ref b1)])) rfl rfl (hb hby d_jdk_43_method_2_code_8)) ?_
  refine Rch.of (T' := T126) (g' := (mkF m 12 #[.val (.ref b1), .val (.int (Int32.ofNat i))] [(.int (255 : Int32)), (.int ((fun q => (y q).toInt8.toInt32) i))])) (fun _ kt => XS.sipush X126.here hx rfl (hb hby d_jdk_43_method_2_code_9) kt) ?_
  refine Rch.of (T' := T126) (g' := (mkF m 13 #[.val (.ref b1), .val (.int (Int32.ofNat i))] [(.int (((fun q => (y q).toInt8.toInt32) i) &&& (255 : Int32)))])) (fun _ kt => XS.iand X126.here hx rfl (hb hby d_jdk_43_method_2_code_12) rfl kt) ?_
  refine Rch.of (T' := T126) (g' := (mkF m 14 #[.val (.ref b1), .val (.int (Int32.ofNat i))] [(.int ((((fun q => (y q).toInt8.toInt32) i) &&& (255 : Int32)).toUInt32.toUInt16.toUInt32.toInt32))])) (fun _ kt => XS.i2c X126.here hx rfl (hb hby d_jdk_43_method_2_code_13) rfl kt) ?_
  exact Rch.retN X126 hx (t := .char) hret (by simp) hlk (hb hby d_jdk_43_method_2_code_14) (fun U hU hF => hK _ U _ _ _ (by show Q_rqC1 Z b1 n y i sv h0 n0 _ U.heap _; rw [hU, hQ126]; exact ⟨congrArg (fun q => some (Value.int q)) (own_chr (hy.at hi)), N126, rfl⟩) hF (by decide) (by decide))
theorem ef_rqCA (m : MethodId) (a1 : Addr) : entryFrame m #[(.ref a1), (.int (Int32.ofNat i))] 2 = mkF m 0 #[.val (.ref a1), .val (.int (Int32.ofNat i))] [] := by first | (simp [entryFrame, mkF, argsToLocals, Value.category]; done) | rfl
def Q_rqCA (Z : State) (a1 : Addr) (b1 : Addr) (n : Nat) (y : Nat → Int32) (i : Nat) (cs : Int32) (sv : Value) (h0 : Heap) (n0 : Nat) (vv_ : Option Value) (h : Heap) (LL_ : List Loc) : Prop := vv_ = some (.int (y i)) ∧ Fr n0 LL_ ∧ (h = h0)
theorem d_jdk_42_method_56_code_0 : decode jdk_42_method_56_code 0 = .ok (.aload_n 0, 1) := by decide +kernel
theorem d_jdk_42_method_56_code_1 : decode jdk_42_method_56_code 1 = .ok (.invokevirtual 492, 3) := by decide +kernel
theorem d_jdk_42_method_56_code_4 : decode jdk_42_method_56_code 4 = .ok (.ifCond .eq 12, 3) := by decide +kernel
theorem d_jdk_42_method_56_code_7 : decode jdk_42_method_56_code 7 = .ok (.aload_n 0, 1) := by decide +kernel
theorem d_jdk_42_method_56_code_8 : decode jdk_42_method_56_code 8 = .ok (.getfield 9, 3) := by decide +kernel
theorem d_jdk_42_method_56_code_11 : decode jdk_42_method_56_code 11 = .ok (.iload_n 1, 1) := by decide +kernel
theorem d_jdk_42_method_56_code_12 : decode jdk_42_method_56_code 12 = .ok (.invokestatic 495, 3) := by decide +kernel
theorem d_jdk_42_method_56_code_15 : decode jdk_42_method_56_code 15 = .ok (.ireturn, 1) := by decide +kernel
set_option maxRecDepth 65536 in
set_option maxHeartbeats 40000000 in
theorem rqCA (l : Launch) (Z : State) (a0 : Array Value) (hw : ∀ d ∈ tables_1, d.before a0 Z = true) (ws : List Jvm.Cond) (a1 : Addr) (b1 : Addr) (n : Nat) (y : Nat → Int32) (i : Nat) (cs : Int32) (sv : Value) (h0 : Heap) (n0 : Nat) (Z0 : n0 ≤ h0.size) (E1 : Exa Z h0 a1 "java/lang/String") (F1 : Fld Z h0 a1 "java/lang/String" "coder" "B" (.int (0 : Int32))) (F2 : Fld Z h0 a1 "java/lang/String" "value" "[B" (.ref b1)) (V1 : Av Z h0 b1 .byte n (fun q => .int ((y q).toInt8.toInt32))) (hi : i < n) (hn : n ≤ 7) (hy : own_ch n y) (SC : Sta Z h0 "java/lang/String" "COMPACT_STRINGS" "Z" (.int cs)) (hcs : ¬ cs = (0 : Int32)) (SI : Sta Z h0 "jdk/internal/util/Preconditions" "SIOOBE_FORMATTER" "Ljava/util/function/BiFunction;" sv) (hsv : sv.isRef = true) :
    MetFree l (⟨"java/lang/String", "charAt", "(I)C"⟩ : MethodName) (head1 (Jvm.Cond.code (⟨"java/lang/String", "charAt", "(I)C"⟩ : MethodName) jdk_42_method_56_code 2 (some .char) :: ws) ({ frames := 3, cells := 0, slots := 0, locals := 40 } : Room)) (fun aa_ UU_ => aa_ = #[(.ref a1), (.int (Int32.ofNat i))] ∧ Z.Warmed39 UU_.vm ∧ UU_.heap = h0) (fun _ _ _ _ _ => True) (fun _ UU_ oo_ VV_ => ∃ vv_ LL_, oo_ = .returned vv_ ∧ Q_rqCA Z a1 b1 n y i cs sv h0 n0 vv_ VV_.heap LL_ ∧ FrameEnd UU_ oo_ VV_ LL_ ({ frames := 3, cells := 0, slots := 0, locals := 40 } : Room).cells ({ frames := 3, cells := 0, slots := 0, locals := 40 } : Room).slots) := by
  refine own_met (y := (⟨"java/lang/String", "charAt", "(I)C"⟩ : MethodName)) (plainFor_of_name pn_1) ?_
  intro p e s m below meth c T0 K hx hby hml hret hlk hown hnm hZ X0 e0 hK
  have N0 := Fr.nil n0
  refine Rch.cast (ef_rqCA m a1) ?_
  refine Rch.of (T' := T0) (g' := (mkF m 1 #[.val (.ref a1), .val (.int (Int32.ofNat i))] [(.ref a1)])) (fun _ kt => XS.aloadN X0.here hx rfl (hb hby d_jdk_42_method_56_code_0) rfl rfl kt) ?_
  obtain ⟨cq130, kq130, q130a, q130b, q130c⟩ := isOf hZ e0 E1
  obtain ⟨_, _, ⟨T130, L130, k130, n130⟩, -, X130, ⟨Lc130, hQ130, l130, y130, z130⟩, st130⟩ := X0.virtualBack hx (y := (⟨"java/lang/String", "isLatin1", "()Z"⟩ : MethodName)) (z := (⟨"java/lang/String", "isLatin1", "()Z"⟩ : MethodName)) hown (mvT hZ (hw _ (List.mem_of_getElem? (i := 106) rfl))) (mvT hZ (hw _ (List.mem_of_getElem? (i := 107) rfl))) (notFace_of_selects (args := #[]) (mvT hZ (hw _ (List.mem_of_getElem? (i := 109) rfl)))) (mvT hZ (hw _ (List.mem_of_getElem? (i := 109) rfl))) (mvT hZ (hw _ (List.mem_of_getElem? (i := 108) rfl))) (by decide) (backOf (W := 0) (rqLT l Z a0 hw [] a1 cs h0 n0 Z0 F1 SC hcs) hZ (hw _ (List.mem_of_getElem? (i := 110) rfl)) (hw _ (List.mem_of_getElem? (i := 11) rfl)) (by decide) (by decide)) q130a q130c (g := (mkF m 1 #[.val (.ref a1), .val (.int (Int32.ofNat i))] [(.ref a1)])) rfl (by rw [hml]; rfl) (Steps.refl _) (argsL := []) (rest := []) (lenOf pd_14 rfl) rfl (by show 2 * 0 + _ ≤ _; exact Nat.le_of_eq rfl) (hb hby d_jdk_42_method_56_code_1) (fun _ _ => ⟨rfl, e0, (by decide : 0 + 0 ≤ _), (by decide : 0 + 0 ≤ _)⟩)
  dsimp only [Pt.U, Pt.locs, Pt.cells, Pt.slots] at X130 l130 y130 z130 st130 hQ130
  subst l130 y130 z130
  obtain ⟨rfl, N130q, hQ130⟩ := hQ130
  have N130 := Fr.app N0 N130q
  refine Rch.via (T' := T130) (g' := (mkF m 4 #[.val (.ref a1), .val (.int (Int32.ofNat i))] [(.int (1 : Int32))])) st130 ?_
  refine Rch.of (T' := T130) (g' := (mkF m 7 #[.val (.ref a1), .val (.int (Int32.ofNat i))] [])) (fun _ kt => XS.ifNo X130.here hx rfl (hb hby d_jdk_42_method_56_code_4) rfl ((if0 _ _).trans (feq ((by decide) : ¬ ((1 : Int32) = (0 : Int32)))).1) kt) ?_
  refine Rch.of (T' := T130) (g' := (mkF m 8 #[.val (.ref a1), .val (.int (Int32.ofNat i))] [(.ref a1)])) (fun _ kt => XS.aloadN X130.here hx rfl (hb hby d_jdk_42_method_56_code_7) rfl rfl kt) ?_
  obtain ⟨T131, X131, e131, st131⟩ := getF X130 hx hZ hown (host := "") (Or.inl (hw _ (List.mem_of_getElem? (i := 36) rfl))) Via.refl hQ130 F2 (g := (mkF m 8 #[.val (.ref a1), .val (.int (Int32.ofNat i))] [(.ref a1)])) rfl rfl (hb hby d_jdk_42_method_56_code_8)
  refine Rch.of (T' := T131) (g' := (mkF m 11 #[.val (.ref a1), .val (.int (Int32.ofNat i))] [(.ref b1)])) st131 ?_
  refine Rch.of (T' := T131) (g' := (mkF m 12 #[.val (.ref a1), .val (.int (Int32.ofNat i))] [(.int (Int32.ofNat i)), (.ref b1)])) (fun _ kt => XS.iloadN X131.here hx rfl (hb hby d_jdk_42_method_56_code_11) rfl  kt) ?_
  have pr133 : i < n := by omega
  have pr134 : n ≤ 7 := by omega
  obtain ⟨_, _, ⟨T132, L132, k132, n132⟩, -, X132, ⟨Lc132, hQ132, l132, y132, z132⟩, st132⟩ := Jvm.LawKit.callS X131 hx (y := (⟨"java/lang/StringLatin1", "charAt", "([BI)C"⟩ : MethodName)) hown (mvT hZ (hw _ (List.mem_of_getElem? (i := 111) rfl))) (mvT hZ (hw _ (List.mem_of_getElem? (i := 112) rfl))) (mvT hZ (hw _ (List.mem_of_getElem? (i := 69) rfl))) (mvT hZ (hw _ (List.mem_of_getElem? (i := 113) rfl))) (by decide) (backOf (W := 0) (rqC1 l Z a0 hw [] b1 n y i sv h0 n0 Z0 V1 pr133 pr134 hy SI hsv) hZ (hw _ (List.mem_of_getElem? (i := 113) rfl)) (hw _ (List.mem_of_getElem? (i := 69) rfl)) (by decide) (by decide)) (g := (mkF m 12 #[.val (.ref a1), .val (.int (Int32.ofNat i))] [(.int (Int32.ofNat i)), (.ref b1)])) rfl (by rw [hml]; rfl) (argsL := [(.ref b1), (.int (Int32.ofNat i))]) (rest := []) (lenOf pd_19 rfl) rfl (by show 2 * 0 + _ ≤ _; exact Nat.le_of_eq rfl) (hb hby d_jdk_42_method_56_code_12) (fun _ _ => ⟨rfl, e131, (by decide : 0 + 0 ≤ _), (by decide : 0 + 0 ≤ _)⟩)
  dsimp only [Pt.U, Pt.locs, Pt.cells, Pt.slots] at X132 l132 y132 z132 st132 hQ132
  subst l132 y132 z132
  obtain ⟨rfl, N132q, hQ132⟩ := hQ132
  have N132 := Fr.app N130 N132q
  refine Rch.of (T' := T132) (g' := (mkF m 15 #[.val (.ref a1), .val (.int (Int32.ofNat i))] [(.int (y i))])) st132 ?_
  exact Rch.retN X132 hx (t := .char) hret (by simp) hlk (hb hby d_jdk_42_method_56_code_15) (fun U hU hF => hK _ U _ _ _ (by show Q_rqCA Z a1 b1 n y i cs sv h0 n0 _ U.heap _; rw [hU, hQ132]; exact ⟨congrArg (fun q => some (Value.int q)) (own_i2c (hy.at hi)), N132, rfl⟩) hF (by decide) (by decide))
theorem ef_rqEB (m : MethodId) (b1 : Addr) (b2 : Addr) : entryFrame m #[(.ref b1), (.ref b2)] 3 = mkF m 0 #[.val (.ref b1), .val (.ref b2), .unset] [] := by first | (simp [entryFrame, mkF, argsToLocals, Value.category]; done) | rfl
def Q_rqEB (Z : State) (b1 : Addr) (n : Nat) (y : Nat → Int32) (b2 : Addr) (n2 : Nat) (y2 : Nat → Int32) (h0 : Heap) (n0 : Nat) (vv_ : Option Value) (h : Heap) (LL_ : List Loc) : Prop := vv_ = some (.int (own_eqv n y n2 y2)) ∧ Fr n0 LL_ ∧ (h = h0)
theorem d_jdk_43_method_13_code_0 : decode jdk_43_method_13_code 0 = .ok (.aload_n 0, 1) := by decide +kernel
theorem d_jdk_43_method_13_code_1 : decode jdk_43_method_13_code 1 = .ok (.arraylength, 1) := by decide +kernel
theorem d_jdk_43_method_13_code_2 : decode jdk_43_method_13_code 2 = .ok (.aload_n 1, 1) := by decide +kernel
theorem d_jdk_43_method_13_code_3 : decode jdk_43_method_13_code 3 = .ok (.arraylength, 1) := by decide +kernel
theorem d_jdk_43_method_13_code_4 : decode jdk_43_method_13_code 4 = .ok (.if_icmp .ne 30, 3) := by decide +kernel
theorem d_jdk_43_method_13_code_7 : decode jdk_43_method_13_code 7 = .ok (.iconst 0, 1) := by decide +kernel
theorem d_jdk_43_method_13_code_8 : decode jdk_43_method_13_code 8 = .ok (.istore_n 2, 1) := by decide +kernel
theorem d_jdk_43_method_13_code_9 : decode jdk_43_method_13_code 9 = .ok (.iload_n 2, 1) := by decide +kernel
theorem d_jdk_43_method_13_code_10 : decode jdk_43_method_13_code 10 = .ok (.aload_n 0, 1) := by decide +kernel
theorem d_jdk_43_method_13_code_11 : decode jdk_43_method_13_code 11 = .ok (.arraylength, 1) := by decide +kernel
theorem d_jdk_43_method_13_code_12 : decode jdk_43_method_13_code 12 = .ok (.if_icmp .ge 20, 3) := by decide +kernel
theorem d_jdk_43_method_13_code_15 : decode jdk_43_method_13_code 15 = .ok (.aload_n 0, 1) := by decide +kernel
theorem d_jdk_43_method_13_code_16 : decode jdk_43_method_13_code 16 = .ok (.iload_n 2, 1) := by decide +kernel
theorem d_jdk_43_method_13_code_17 : decode jdk_43_method_13_code 17 = .ok (.baload, 1) := by decide +kernel
theorem d_jdk_43_method_13_code_18 : decode jdk_43_method_13_code 18 = .ok (.aload_n 1, 1) := by decide +kernel
theorem d_jdk_43_method_13_code_19 : decode jdk_43_method_13_code 19 = .ok (.iload_n 2, 1) := by decide +kernel
theorem d_jdk_43_method_13_code_20 : decode jdk_43_method_13_code 20 = .ok (.baload, 1) := by decide +kernel
theorem d_jdk_43_method_13_code_21 : decode jdk_43_method_13_code 21 = .ok (.if_icmp .eq 5, 3) := by decide +kernel
theorem d_jdk_43_method_13_code_24 : decode jdk_43_method_13_code 24 = .ok (.iconst 0, 1) := by decide +kernel
theorem d_jdk_43_method_13_code_25 : decode jdk_43_method_13_code 25 = .ok (.ireturn, 1) := by decide +kernel
theorem d_jdk_43_method_13_code_26 : decode jdk_43_method_13_code 26 = .ok (.iinc 2 1, 3) := by decide +kernel
theorem d_jdk_43_method_13_code_29 : decode jdk_43_method_13_code 29 = .ok (.goto (-20), 3) := by decide +kernel
theorem d_jdk_43_method_13_code_32 : decode jdk_43_method_13_code 32 = .ok (.iconst 1, 1) := by decide +kernel
theorem d_jdk_43_method_13_code_33 : decode jdk_43_method_13_code 33 = .ok (.ireturn, 1) := by decide +kernel
theorem d_jdk_43_method_13_code_34 : decode jdk_43_method_13_code 34 = .ok (.iconst 0, 1) := by decide +kernel
theorem d_jdk_43_method_13_code_35 : decode jdk_43_method_13_code 35 = .ok (.ireturn, 1) := by decide +kernel
set_option maxRecDepth 65536 in
set_option maxHeartbeats 40000000 in
theorem rqEB (l : Launch) (Z : State) (a0 : Array Value) (hw : ∀ d ∈ tables_1, d.before a0 Z = true) (ws : List Jvm.Cond) (b1 : Addr) (n : Nat) (y : Nat → Int32) (b2 : Addr) (n2 : Nat) (y2 : Nat → Int32) (h0 : Heap) (n0 : Nat) (Z0 : n0 ≤ h0.size) (V1 : Av Z h0 b1 .byte n (fun q => .int ((y q).toInt8.toInt32))) (V2 : Av Z h0 b2 .byte n2 (fun q => .int ((y2 q).toInt8.toInt32))) (hn : n ≤ 7) (hn2 : n2 ≤ 7) (hy : own_ch n y) (hy2 : own_ch n2 y2) :
    MetFree l (⟨"java/lang/StringLatin1", "equals", "([B[B)Z"⟩ : MethodName) (head1 (Jvm.Cond.code (⟨"java/lang/StringLatin1", "equals", "([B[B)Z"⟩ : MethodName) jdk_43_method_13_code 3 (some .boolean) :: ws) ({ frames := 0, cells := 0, slots := 0, locals := 0 } : Room)) (fun aa_ UU_ => aa_ = #[(.ref b1), (.ref b2)] ∧ Z.Warmed39 UU_.vm ∧ UU_.heap = h0) (fun _ _ _ _ _ => True) (fun _ UU_ oo_ VV_ => ∃ vv_ LL_, oo_ = .returned vv_ ∧ Q_rqEB Z b1 n y b2 n2 y2 h0 n0 vv_ VV_.heap LL_ ∧ FrameEnd UU_ oo_ VV_ LL_ ({ frames := 0, cells := 0, slots := 0, locals := 0 } : Room).cells ({ frames := 0, cells := 0, slots := 0, locals := 0 } : Room).slots) := by
  refine own_met (y := (⟨"java/lang/StringLatin1", "equals", "([B[B)Z"⟩ : MethodName)) (plainFor_of_name pn_3) ?_
  intro p e s m below meth c T0 K hx hby hml hret hlk hown hnm hZ X0 e0 hK
  have N0 := Fr.nil n0
  refine Rch.cast (ef_rqEB m b1 b2) ?_
  refine Rch.of (T' := T0) (g' := (mkF m 1 #[.val (.ref b1), .val (.ref b2), .unset] [(.ref b1)])) (fun _ kt => XS.aloadN X0.here hx rfl (hb hby d_jdk_43_method_13_code_0) rfl rfl kt) ?_
  obtain ⟨cl135, Ar135, Sz135, Ha135⟩ := id V1
  refine Rch.of (T' := T0) (g' := (mkF m 2 #[.val (.ref b1), .val (.ref b2), .unset] [(.int cl135.slots.size.toInt32)])) (X0.arraylength hx (by rw [e0]; exact Ar135.1) (State.isArrayOf_alike hZ.alike Ar135.2.1) (g := (mkF m 1 #[.val (.ref b1), .val (.ref b2), .unset] [(.ref b1)])) rfl rfl (hb hby d_jdk_43_method_13_code_1)) ?_
  rw [oLen Sz135]
  show Rch p e below K T0 (mkF m 2 #[.val (.ref b1), .val (.ref b2), .unset] [(.int (Int32.ofNat n))])
  refine Rch.of (T' := T0) (g' := (mkF m 3 #[.val (.ref b1), .val (.ref b2), .unset] [(.ref b2), (.int (Int32.ofNat n))])) (fun _ kt => XS.aloadN X0.here hx rfl (hb hby d_jdk_43_method_13_code_2) rfl rfl kt) ?_
  obtain ⟨cl136, Ar136, Sz136, Ha136⟩ := id V2
  refine Rch.of (T' := T0) (g' := (mkF m 4 #[.val (.ref b1), .val (.ref b2), .unset] [(.int cl136.slots.size.toInt32), (.int (Int32.ofNat n))])) (X0.arraylength hx (by rw [e0]; exact Ar136.1) (State.isArrayOf_alike hZ.alike Ar136.2.1) (g := (mkF m 3 #[.val (.ref b1), .val (.ref b2), .unset] [(.ref b2), (.int (Int32.ofNat n))])) rfl rfl (hb hby d_jdk_43_method_13_code_3)) ?_
  rw [oLen Sz136]
  show Rch p e below K T0 (mkF m 4 #[.val (.ref b1), .val (.ref b2), .unset] [(.int (Int32.ofNat n2)), (.int (Int32.ofNat n))])
  by_cases c137 : (Int32.ofNat n) = (Int32.ofNat n2)
  · skip
    refine Rch.of (T' := T0) (g' := (mkF m 7 #[.val (.ref b1), .val (.ref b2), .unset] [])) (fun _ kt => XS.icmpNo X0.here hx rfl (hb hby d_jdk_43_method_13_code_4) rfl (teq c137).2 kt) ?_
    have hnn : n = n2 := (own_neN (by omega) (by omega)).mp c137
    refine Rch.of (T' := T0) (g' := (mkF m 8 #[.val (.ref b1), .val (.ref b2), .unset] [(.int (0 : Int32))])) (fun _ kt => XS.iconst X0.here hx rfl (hb hby d_jdk_43_method_13_code_7) kt) ?_
    refine Rch.of (T' := T0) (g' := (mkF m 9 #[.val (.ref b1), .val (.ref b2), .val (.int (0 : Int32))] [])) (fun _ kt => XS.istoreN X0.here hx rfl (hb hby d_jdk_43_method_13_code_8) rfl (l' := #[.val (.ref b1), .val (.ref b2), .val (.int (0 : Int32))]) rfl kt) ?_
    have loop : ∀ (k i : Nat) (hk : i + k = n) (heq : ∀ q, q < i → y q = y2 q) (T : State) (locs : List Loc) (X : Stand p l e ({ frames := 0, cells := 0, slots := 0, locals := 0 } : Room) s m #[(.ref b1), (.ref b2)] below meth c T locs 0 0) (eT : T.heap = h0) (N : Fr n0 locs), Rch p e below K T (mkF m 9 #[.val (.ref b1), .val (.ref b2), .val (.int (Int32.ofNat i))] []) := by
      intro k
      induction k with
      | zero =>
        intro i hk heq T locs X eT N
        have kn138 : ¬ ((Int32.ofNat i) < (Int32.ofNat n)) := own_nlt (by omega) (by omega)
        refine Rch.of (T' := T) (g' := (mkF m 10 #[.val (.ref b1), .val (.ref b2), .val (.int (Int32.ofNat i))] [(.int (Int32.ofNat i))])) (fun _ kt => XS.iloadN X.here hx rfl (hb hby d_jdk_43_method_13_code_9) rfl  kt) ?_
        refine Rch.of (T' := T) (g' := (mkF m 11 #[.val (.ref b1), .val (.ref b2), .val (.int (Int32.ofNat i))] [(.ref b1), (.int (Int32.ofNat i))])) (fun _ kt => XS.aloadN X.here hx rfl (hb hby d_jdk_43_method_13_code_10) rfl rfl kt) ?_
        obtain ⟨cl139, Ar139, Sz139, Ha139⟩ := id V1
        refine Rch.of (T' := T) (g' := (mkF m 12 #[.val (.ref b1), .val (.ref b2), .val (.int (Int32.ofNat i))] [(.int cl139.slots.size.toInt32), (.int (Int32.ofNat i))])) (X.arraylength hx (by rw [eT]; exact Ar139.1) (State.isArrayOf_alike hZ.alike Ar139.2.1) (g := (mkF m 11 #[.val (.ref b1), .val (.ref b2), .val (.int (Int32.ofNat i))] [(.ref b1), (.int (Int32.ofNat i))])) rfl rfl (hb hby d_jdk_43_method_13_code_11)) ?_
        rw [oLen Sz139]
        show Rch p e below K T (mkF m 12 #[.val (.ref b1), .val (.ref b2), .val (.int (Int32.ofNat i))] [(.int (Int32.ofNat n)), (.int (Int32.ofNat i))])
        refine Rch.of (T' := T) (g' := (mkF m 32 #[.val (.ref b1), .val (.ref b2), .val (.int (Int32.ofNat i))] [])) (fun _ kt => XS.icmpYes X.here hx rfl (pc0 := 12) (pc' := 32) rfl (hb hby d_jdk_43_method_13_code_12) rfl (flt kn138).2.1 (by decide) (by decide) kt) ?_
        refine Rch.of (T' := T) (g' := (mkF m 33 #[.val (.ref b1), .val (.ref b2), .val (.int (Int32.ofNat i))] [(.int (1 : Int32))])) (fun _ kt => XS.iconst X.here hx rfl (hb hby d_jdk_43_method_13_code_32) kt) ?_
        exact Rch.retN X hx (t := .boolean) hret (by simp) hlk (hb hby d_jdk_43_method_13_code_33) (fun U hU hF => hK _ U _ _ _ (by show Q_rqEB Z b1 n y b2 n2 y2 h0 n0 _ U.heap _; rw [hU, eT]; exact ⟨congrArg (fun q => some (Value.int q)) (own_eqv_t hnn (fun q hq => heq q (by omega))).symm, N, rfl⟩) hF (by decide) (by decide))
      | succ k ih =>
        intro i hk heq T locs X eT N
        have hin : i < n := by omega
        have hin2 : i < n2 := by omega
        have kn140 : (Int32.ofNat i) < (Int32.ofNat n) := own_lt3 hin (by omega)
        have ti : (Int32.ofNat i).toInt = (i : Int) := oTo (by omega)
        refine Rch.of (T' := T) (g' := (mkF m 10 #[.val (.ref b1), .val (.ref b2), .val (.int (Int32.ofNat i))] [(.int (Int32.ofNat i))])) (fun _ kt => XS.iloadN X.here hx rfl (hb hby d_jdk_43_method_13_code_9) rfl  kt) ?_
        refine Rch.of (T' := T) (g' := (mkF m 11 #[.val (.ref b1), .val (.ref b2), .val (.int (Int32.ofNat i))] [(.ref b1), (.int (Int32.ofNat i))])) (fun _ kt => XS.aloadN X.here hx rfl (hb hby d_jdk_43_method_13_code_10) rfl rfl kt) ?_
        obtain ⟨cl141, Ar141, Sz141, Ha141⟩ := id V1
        refine Rch.of (T' := T) (g' := (mkF m 12 #[.val (.ref b1), .val (.ref b2), .val (.int (Int32.ofNat i))] [(.int cl141.slots.size.toInt32), (.int (Int32.ofNat i))])) (X.arraylength hx (by rw [eT]; exact Ar141.1) (State.isArrayOf_alike hZ.alike Ar141.2.1) (g := (mkF m 11 #[.val (.ref b1), .val (.ref b2), .val (.int (Int32.ofNat i))] [(.ref b1), (.int (Int32.ofNat i))])) rfl rfl (hb hby d_jdk_43_method_13_code_11)) ?_
        rw [oLen Sz141]
        show Rch p e below K T (mkF m 12 #[.val (.ref b1), .val (.ref b2), .val (.int (Int32.ofNat i))] [(.int (Int32.ofNat n)), (.int (Int32.ofNat i))])
        refine Rch.of (T' := T) (g' := (mkF m 15 #[.val (.ref b1), .val (.ref b2), .val (.int (Int32.ofNat i))] [])) (fun _ kt => XS.icmpNo X.here hx rfl (hb hby d_jdk_43_method_13_code_12) rfl (tlt kn140).2.1 kt) ?_
        refine Rch.of (T' := T) (g' := (mkF m 16 #[.val (.ref b1), .val (.ref b2), .val (.int (Int32.ofNat i))] [(.ref b1)])) (fun _ kt => XS.aloadN X.here hx rfl (hb hby d_jdk_43_method_13_code_15) rfl rfl kt) ?_
        refine Rch.of (T' := T) (g' := (mkF m 17 #[.val (.ref b1), .val (.ref b2), .val (.int (Int32.ofNat i))] [(.int (Int32.ofNat i)), (.ref b1)])) (fun _ kt => XS.iloadN X.here hx rfl (hb hby d_jdk_43_method_13_code_16) rfl  kt) ?_
        obtain ⟨cl142, Ar142, Sz142, Ha142⟩ := id V1
        refine Rch.of (T' := T) (g' := (mkF m 18 #[.val (.ref b1), .val (.ref b2), .val (.int (Int32.ofNat i))] [(.int ((fun q => (y q).toInt8.toInt32) i))])) (X.baloadBytes hx (j := (Int32.ofNat i)) (v := (.int ((fun q => (y q).toInt8.toInt32) i))) (by rw [eT]; exact Ar142.1) (State.isArrayOf_alike hZ.alike Ar142.2.1) Ar142.2.2 (oIn (i := i) Sz142 ti hin) (oAt (i := i) Ha142 ti hin) (g := (mkF m 17 #[.val (.ref b1), .val (.ref b2), .val (.int (Int32.ofNat i))] [(.int (Int32.ofNat i)), (.ref b1)])) rfl rfl (hb hby d_jdk_43_method_13_code_17)) ?_
        refine Rch.of (T' := T) (g' := (mkF m 19 #[.val (.ref b1), .val (.ref b2), .val (.int (Int32.ofNat i))] [(.ref b2), (.int ((fun q => (y q).toInt8.toInt32) i))])) (fun _ kt => XS.aloadN X.here hx rfl (hb hby d_jdk_43_method_13_code_18) rfl rfl kt) ?_
        refine Rch.of (T' := T) (g' := (mkF m 20 #[.val (.ref b1), .val (.ref b2), .val (.int (Int32.ofNat i))] [(.int (Int32.ofNat i)), (.ref b2), (.int ((fun q => (y q).toInt8.toInt32) i))])) (fun _ kt => XS.iloadN X.here hx rfl (hb hby d_jdk_43_method_13_code_19) rfl  kt) ?_
        obtain ⟨cl143, Ar143, Sz143, Ha143⟩ := id V2
        refine Rch.of (T' := T) (g' := (mkF m 21 #[.val (.ref b1), .val (.ref b2), .val (.int (Int32.ofNat i))] [(.int ((fun q => (y2 q).toInt8.toInt32) i)), (.int ((fun q => (y q).toInt8.toInt32) i))])) (X.baloadBytes hx (j := (Int32.ofNat i)) (v := (.int ((fun q => (y2 q).toInt8.toInt32) i))) (by rw [eT]; exact Ar143.1) (State.isArrayOf_alike hZ.alike Ar143.2.1) Ar143.2.2 (oIn (i := i) Sz143 ti hin2) (oAt (i := i) Ha143 ti hin2) (g := (mkF m 20 #[.val (.ref b1), .val (.ref b2), .val (.int (Int32.ofNat i))] [(.int (Int32.ofNat i)), (.ref b2), (.int ((fun q => (y q).toInt8.toInt32) i))])) rfl rfl (hb hby d_jdk_43_method_13_code_20)) ?_
        by_cases c144 : ((fun q => (y q).toInt8.toInt32) i) = ((fun q => (y2 q).toInt8.toInt32) i)
        · skip
          refine Rch.of (T' := T) (g' := (mkF m 26 #[.val (.ref b1), .val (.ref b2), .val (.int (Int32.ofNat i))] [])) (fun _ kt => XS.icmpYes X.here hx rfl (pc0 := 21) (pc' := 26) rfl (hb hby d_jdk_43_method_13_code_21) rfl (teq c144).1 (by decide) (by decide) kt) ?_
          refine Rch.of (T' := T) (g' := (mkF m 29 #[.val (.ref b1), .val (.ref b2), .val (.int ((Int32.ofNat i) + (1 : Int32)))] [])) (fun _ kt => XS.iinc X.here hx rfl (hb hby d_jdk_43_method_13_code_26) rfl (l' := #[.val (.ref b1), .val (.ref b2), .val (.int ((Int32.ofNat i) + (1 : Int32)))]) rfl kt) ?_
          refine Rch.of (T' := T) (g' := (mkF m 9 #[.val (.ref b1), .val (.ref b2), .val (.int ((Int32.ofNat i) + (1 : Int32)))] [])) (fun _ kt => XS.goto X.here hx rfl (pc0 := 29) (pc' := 9) rfl (hb hby d_jdk_43_method_13_code_29) (by decide) (by decide) kt) ?_
          rw [own_one i]
          exact ih (i + 1) (by omega) (fun q h1 => if u : q = i then by rw [u]; exact own_b8i (hy.at hin) (hy2.at hin2) c144 else heq q (by omega)) T _ X eT N
        · skip
          refine Rch.of (T' := T) (g' := (mkF m 24 #[.val (.ref b1), .val (.ref b2), .val (.int (Int32.ofNat i))] [])) (fun _ kt => XS.icmpNo X.here hx rfl (hb hby d_jdk_43_method_13_code_21) rfl (feq c144).1 kt) ?_
          refine Rch.of (T' := T) (g' := (mkF m 25 #[.val (.ref b1), .val (.ref b2), .val (.int (Int32.ofNat i))] [(.int (0 : Int32))])) (fun _ kt => XS.iconst X.here hx rfl (hb hby d_jdk_43_method_13_code_24) kt) ?_
          exact Rch.retN X hx (t := .boolean) hret (by simp) hlk (hb hby d_jdk_43_method_13_code_25) (fun U hU hF => hK _ U _ _ _ (by show Q_rqEB Z b1 n y b2 n2 y2 h0 n0 _ U.heap _; rw [hU, eT]; exact ⟨congrArg (fun q => some (Value.int q)) (own_eqv_f hin (fun q => c144 (congrArg (fun x : Int32 => x.toInt8.toInt32) q))).symm, N, rfl⟩) hF (by decide) (by decide))
    rw [show (0 : Int32) = Int32.ofNat 0 from rfl]
    exact loop n 0 (by omega) (fun q h1 => absurd h1 (Nat.not_lt_zero q)) T0 _ X0 e0 N0
  · skip
    refine Rch.of (T' := T0) (g' := (mkF m 34 #[.val (.ref b1), .val (.ref b2), .unset] [])) (fun _ kt => XS.icmpYes X0.here hx rfl (pc0 := 4) (pc' := 34) rfl (hb hby d_jdk_43_method_13_code_4) rfl (feq c137).2 (by decide) (by decide) kt) ?_
    refine Rch.of (T' := T0) (g' := (mkF m 35 #[.val (.ref b1), .val (.ref b2), .unset] [(.int (0 : Int32))])) (fun _ kt => XS.iconst X0.here hx rfl (hb hby d_jdk_43_method_13_code_34) kt) ?_
    exact Rch.retN X0 hx (t := .boolean) hret (by simp) hlk (hb hby d_jdk_43_method_13_code_35) (fun U hU hF => hK _ U _ _ _ (by show Q_rqEB Z b1 n y b2 n2 y2 h0 n0 _ U.heap _; rw [hU, e0]; exact ⟨congrArg (fun q => some (Value.int q)) (own_eqv_n y y2 (fun q => c137 (by rw [q]))).symm, N0, rfl⟩) hF (by decide) (by decide))
theorem ef_rqEQn (m : MethodId) (a1 : Addr) : entryFrame m #[(.ref a1), .null] 3 = mkF m 0 #[.val (.ref a1), .val .null, .unset] [] := by first | (simp [entryFrame, mkF, argsToLocals, Value.category]; done) | rfl
def Q_rqEQn (Z : State) (a1 : Addr) (h0 : Heap) (n0 : Nat) (vv_ : Option Value) (h : Heap) (LL_ : List Loc) : Prop := vv_ = some (.int (0 : Int32)) ∧ Fr n0 LL_ ∧ (h = h0)
theorem d_jdk_42_method_66_code_0 : decode jdk_42_method_66_code 0 = .ok (.aload_n 0, 1) := by decide +kernel
theorem d_jdk_42_method_66_code_1 : decode jdk_42_method_66_code 1 = .ok (.aload_n 1, 1) := by decide +kernel
theorem d_jdk_42_method_66_code_2 : decode jdk_42_method_66_code 2 = .ok (.if_acmp .ne 5, 3) := by decide +kernel
theorem d_jdk_42_method_66_code_7 : decode jdk_42_method_66_code 7 = .ok (.aload_n 1, 1) := by decide +kernel
theorem d_jdk_42_method_66_code_8 : decode jdk_42_method_66_code 8 = .ok (.instanceof 10, 3) := by decide +kernel
theorem d_jdk_42_method_66_code_11 : decode jdk_42_method_66_code 11 = .ok (.ifCond .eq 43, 3) := by decide +kernel
theorem d_jdk_42_method_66_code_54 : decode jdk_42_method_66_code 54 = .ok (.iconst 0, 1) := by decide +kernel
theorem d_jdk_42_method_66_code_55 : decode jdk_42_method_66_code 55 = .ok (.ireturn, 1) := by decide +kernel
set_option maxRecDepth 65536 in
set_option maxHeartbeats 40000000 in
theorem rqEQn (l : Launch) (Z : State) (a0 : Array Value) (hw : ∀ d ∈ tables_1, d.before a0 Z = true) (ws : List Jvm.Cond) (a1 : Addr) (h0 : Heap) (n0 : Nat) (Z0 : n0 ≤ h0.size)  :
    MetFree l (⟨"java/lang/String", "equals", "(Ljava/lang/Object;)Z"⟩ : MethodName) (head1 (Jvm.Cond.code (⟨"java/lang/String", "equals", "(Ljava/lang/Object;)Z"⟩ : MethodName) jdk_42_method_66_code 3 (some .boolean) :: ws) ({ frames := 0, cells := 0, slots := 0, locals := 0 } : Room)) (fun aa_ UU_ => aa_ = #[(.ref a1), .null] ∧ Z.Warmed39 UU_.vm ∧ UU_.heap = h0) (fun _ _ _ _ _ => True) (fun _ UU_ oo_ VV_ => ∃ vv_ LL_, oo_ = .returned vv_ ∧ Q_rqEQn Z a1 h0 n0 vv_ VV_.heap LL_ ∧ FrameEnd UU_ oo_ VV_ LL_ ({ frames := 0, cells := 0, slots := 0, locals := 0 } : Room).cells ({ frames := 0, cells := 0, slots := 0, locals := 0 } : Room).slots) := by
  refine own_met (y := (⟨"java/lang/String", "equals", "(Ljava/lang/Object;)Z"⟩ : MethodName)) (plainFor_of_name pn_1) ?_
  intro p e s m below meth c T0 K hx hby hml hret hlk hown hnm hZ X0 e0 hK
  have N0 := Fr.nil n0
  refine Rch.cast (ef_rqEQn m a1) ?_
  refine Rch.of (T' := T0) (g' := (mkF m 1 #[.val (.ref a1), .val .null, .unset] [(.ref a1)])) (fun _ kt => XS.aloadN X0.here hx rfl (hb hby d_jdk_42_method_66_code_0) rfl rfl kt) ?_
  refine Rch.of (T' := T0) (g' := (mkF m 2 #[.val (.ref a1), .val .null, .unset] [.null, (.ref a1)])) (fun _ kt => XS.aloadN X0.here hx rfl (hb hby d_jdk_42_method_66_code_1) rfl rfl kt) ?_
  refine Rch.of (T' := T0) (g' := (mkF m 7 #[.val (.ref a1), .val .null, .unset] [])) (fun _ kt => Jvm.RoadKit.acmp (g := (mkF m 2 #[.val (.ref a1), .val .null, .unset] [.null, (.ref a1)])) X0 hx rfl rfl rfl (pc0 := 2) (pc' := 7) (same := false) rfl (hb hby d_jdk_42_method_66_code_2) rfl (decide_eq_false nofun) (by decide) (by decide) kt) ?_
  refine Rch.of (T' := T0) (g' := (mkF m 8 #[.val (.ref a1), .val .null, .unset] [.null])) (fun _ kt => XS.aloadN X0.here hx rfl (hb hby d_jdk_42_method_66_code_7) rfl rfl kt) ?_
  refine Rch.of (T' := T0) (g' := (mkF m 11 #[.val (.ref a1), .val .null, .unset] [(.int (0 : Int32))])) (X0.instanceofNull hx (g := (mkF m 8 #[.val (.ref a1), .val .null, .unset] [.null])) rfl rfl (hb hby d_jdk_42_method_66_code_8)) ?_
  refine Rch.of (T' := T0) (g' := (mkF m 54 #[.val (.ref a1), .val .null, .unset] [])) (fun _ kt => XS.ifYes X0.here hx rfl (pc0 := 11) (pc' := 54) rfl (hb hby d_jdk_42_method_66_code_11) rfl ((if0 _ _).trans (teq ((by decide) : (0 : Int32) = (0 : Int32))).1) (by decide) (by decide) kt) ?_
  refine Rch.of (T' := T0) (g' := (mkF m 55 #[.val (.ref a1), .val .null, .unset] [(.int (0 : Int32))])) (fun _ kt => XS.iconst X0.here hx rfl (hb hby d_jdk_42_method_66_code_54) kt) ?_
  exact Rch.retN X0 hx (t := .boolean) hret (by simp) hlk (hb hby d_jdk_42_method_66_code_55) (fun U hU hF => hK _ U _ _ _ (by show Q_rqEQn Z a1 h0 n0 _ U.heap _; rw [hU, e0]; exact ⟨rfl, N0, rfl⟩) hF (by decide) (by decide))
theorem ef_rqEQ (m : MethodId) (a1 : Addr) (a2 : Addr) : entryFrame m #[(.ref a1), (.ref a2)] 3 = mkF m 0 #[.val (.ref a1), .val (.ref a2), .unset] [] := by first | (simp [entryFrame, mkF, argsToLocals, Value.category]; done) | rfl
def Q_rqEQ (Z : State) (a1 : Addr) (b1 : Addr) (n : Nat) (y : Nat → Int32) (a2 : Addr) (b2 : Addr) (n2 : Nat) (y2 : Nat → Int32) (cs : Int32) (h0 : Heap) (n0 : Nat) (vv_ : Option Value) (h : Heap) (LL_ : List Loc) : Prop := vv_ = some (.int (own_eqv n y n2 y2)) ∧ Fr n0 LL_ ∧ (h = h0)
theorem d_jdk_42_method_66_code_5 : decode jdk_42_method_66_code 5 = .ok (.iconst 1, 1) := by decide +kernel
theorem d_jdk_42_method_66_code_6 : decode jdk_42_method_66_code 6 = .ok (.ireturn, 1) := by decide +kernel
theorem d_jdk_42_method_66_code_14 : decode jdk_42_method_66_code 14 = .ok (.aload_n 1, 1) := by decide +kernel
theorem d_jdk_42_method_66_code_15 : decode jdk_42_method_66_code 15 = .ok (.checkcast 10, 3) := by decide +kernel
theorem d_jdk_42_method_66_code_18 : decode jdk_42_method_66_code 18 = .ok (.astore_n 2, 1) := by decide +kernel
theorem d_jdk_42_method_66_code_19 : decode jdk_42_method_66_code 19 = .ok (.getstatic 38, 3) := by decide +kernel
theorem d_jdk_42_method_66_code_22 : decode jdk_42_method_66_code 22 = .ok (.ifCond .eq 14, 3) := by decide +kernel
theorem d_jdk_42_method_66_code_25 : decode jdk_42_method_66_code 25 = .ok (.aload_n 0, 1) := by decide +kernel
theorem d_jdk_42_method_66_code_26 : decode jdk_42_method_66_code 26 = .ok (.getfield 15, 3) := by decide +kernel
theorem d_jdk_42_method_66_code_29 : decode jdk_42_method_66_code 29 = .ok (.aload_n 2, 1) := by decide +kernel
theorem d_jdk_42_method_66_code_30 : decode jdk_42_method_66_code 30 = .ok (.getfield 15, 3) := by decide +kernel
theorem d_jdk_42_method_66_code_33 : decode jdk_42_method_66_code 33 = .ok (.if_icmp .ne 21, 3) := by decide +kernel
theorem d_jdk_42_method_66_code_36 : decode jdk_42_method_66_code 36 = .ok (.aload_n 0, 1) := by decide +kernel
theorem d_jdk_42_method_66_code_37 : decode jdk_42_method_66_code 37 = .ok (.getfield 9, 3) := by decide +kernel
theorem d_jdk_42_method_66_code_40 : decode jdk_42_method_66_code 40 = .ok (.aload_n 2, 1) := by decide +kernel
theorem d_jdk_42_method_66_code_41 : decode jdk_42_method_66_code 41 = .ok (.getfield 9, 3) := by decide +kernel
theorem d_jdk_42_method_66_code_44 : decode jdk_42_method_66_code 44 = .ok (.invokestatic 541, 3) := by decide +kernel
theorem d_jdk_42_method_66_code_47 : decode jdk_42_method_66_code 47 = .ok (.ifCond .eq 7, 3) := by decide +kernel
theorem d_jdk_42_method_66_code_50 : decode jdk_42_method_66_code 50 = .ok (.iconst 1, 1) := by decide +kernel
theorem d_jdk_42_method_66_code_51 : decode jdk_42_method_66_code 51 = .ok (.goto 4, 3) := by decide +kernel
set_option maxRecDepth 65536 in
set_option maxHeartbeats 40000000 in
theorem rqEQ (l : Launch) (Z : State) (a0 : Array Value) (hw : ∀ d ∈ tables_1, d.before a0 Z = true) (ws : List Jvm.Cond) (a1 : Addr) (b1 : Addr) (n : Nat) (y : Nat → Int32) (a2 : Addr) (b2 : Addr) (n2 : Nat) (y2 : Nat → Int32) (cs : Int32) (h0 : Heap) (n0 : Nat) (Z0 : n0 ≤ h0.size) (E1 : Exa Z h0 a1 "java/lang/String") (F1 : Fld Z h0 a1 "java/lang/String" "coder" "B" (.int (0 : Int32))) (F2 : Fld Z h0 a1 "java/lang/String" "value" "[B" (.ref b1)) (V1 : Av Z h0 b1 .byte n (fun q => .int ((y q).toInt8.toInt32))) (E12 : Exa Z h0 a2 "java/lang/String") (F12 : Fld Z h0 a2 "java/lang/String" "coder" "B" (.int (0 : Int32))) (F22 : Fld Z h0 a2 "java/lang/String" "value" "[B" (.ref b2)) (V22 : Av Z h0 b2 .byte n2 (fun q => .int ((y2 q).toInt8.toInt32))) (hn : n ≤ 7) (hn2 : n2 ≤ 7) (hy : own_ch n y) (hy2 : own_ch n2 y2) (SC : Sta Z h0 "java/lang/String" "COMPACT_STRINGS" "Z" (.int cs)) (hcs : ¬ cs = (0 : Int32)) :
    MetFree l (⟨"java/lang/String", "equals", "(Ljava/lang/Object;)Z"⟩ : MethodName) (head1 (Jvm.Cond.code (⟨"java/lang/String", "equals", "(Ljava/lang/Object;)Z"⟩ : MethodName) jdk_42_method_66_code 3 (some .boolean) :: ws) ({ frames := 1, cells := 0, slots := 0, locals := 14 } : Room)) (fun aa_ UU_ => aa_ = #[(.ref a1), (.ref a2)] ∧ Z.Warmed39 UU_.vm ∧ UU_.heap = h0) (fun _ _ _ _ _ => True) (fun _ UU_ oo_ VV_ => ∃ vv_ LL_, oo_ = .returned vv_ ∧ Q_rqEQ Z a1 b1 n y a2 b2 n2 y2 cs h0 n0 vv_ VV_.heap LL_ ∧ FrameEnd UU_ oo_ VV_ LL_ ({ frames := 1, cells := 0, slots := 0, locals := 14 } : Room).cells ({ frames := 1, cells := 0, slots := 0, locals := 14 } : Room).slots) := by
  refine own_met (y := (⟨"java/lang/String", "equals", "(Ljava/lang/Object;)Z"⟩ : MethodName)) (plainFor_of_name pn_1) ?_
  intro p e s m below meth c T0 K hx hby hml hret hlk hown hnm hZ X0 e0 hK
  have N0 := Fr.nil n0
  refine Rch.cast (ef_rqEQ m a1 a2) ?_
  by_cases eaa : a1 = a2
  · skip
    refine Rch.of (T' := T0) (g' := (mkF m 1 #[.val (.ref a1), .val (.ref a2), .unset] [(.ref a1)])) (fun _ kt => XS.aloadN X0.here hx rfl (hb hby d_jdk_42_method_66_code_0) rfl rfl kt) ?_
    refine Rch.of (T' := T0) (g' := (mkF m 2 #[.val (.ref a1), .val (.ref a2), .unset] [(.ref a2), (.ref a1)])) (fun _ kt => XS.aloadN X0.here hx rfl (hb hby d_jdk_42_method_66_code_1) rfl rfl kt) ?_
    refine Rch.of (T' := T0) (g' := (mkF m 5 #[.val (.ref a1), .val (.ref a2), .unset] [])) (fun _ kt => Jvm.RoadKit.acmp (g := (mkF m 2 #[.val (.ref a1), .val (.ref a2), .unset] [(.ref a2), (.ref a1)])) X0 hx rfl rfl rfl (pc0 := 2) (pc' := 5) (same := true) rfl (hb hby d_jdk_42_method_66_code_2) rfl (decide_eq_true (congrArg Value.ref eaa)) (by decide) (by decide) kt) ?_
    refine Rch.of (T' := T0) (g' := (mkF m 6 #[.val (.ref a1), .val (.ref a2), .unset] [(.int (1 : Int32))])) (fun _ kt => XS.iconst X0.here hx rfl (hb hby d_jdk_42_method_66_code_5) kt) ?_
    have ebb : b1 = b2 := Value.ref.inj (own_sameF F2 F22 eaa)
    have V1' := V1
    rw [ebb] at V1'
    have sm := Av.same V1' V22
    exact Rch.retN X0 hx (t := .boolean) hret (by simp) hlk (hb hby d_jdk_42_method_66_code_6) (fun U hU hF => hK _ U _ _ _ (by show Q_rqEQ Z a1 b1 n y a2 b2 n2 y2 cs h0 n0 _ U.heap _; rw [hU, e0]; exact ⟨congrArg (fun q => some (Value.int q)) (own_eqv_t sm.1 (fun q hq => own_b8i (hy.at hq) (hy2.at (sm.1 ▸ hq)) (Value.int.inj (sm.2 q hq)))).symm, N0, rfl⟩) hF (by decide) (by decide))
  · skip
    refine Rch.of (T' := T0) (g' := (mkF m 1 #[.val (.ref a1), .val (.ref a2), .unset] [(.ref a1)])) (fun _ kt => XS.aloadN X0.here hx rfl (hb hby d_jdk_42_method_66_code_0) rfl rfl kt) ?_
    refine Rch.of (T' := T0) (g' := (mkF m 2 #[.val (.ref a1), .val (.ref a2), .unset] [(.ref a2), (.ref a1)])) (fun _ kt => XS.aloadN X0.here hx rfl (hb hby d_jdk_42_method_66_code_1) rfl rfl kt) ?_
    refine Rch.of (T' := T0) (g' := (mkF m 7 #[.val (.ref a1), .val (.ref a2), .unset] [])) (fun _ kt => Jvm.RoadKit.acmp (g := (mkF m 2 #[.val (.ref a1), .val (.ref a2), .unset] [(.ref a2), (.ref a1)])) X0 hx rfl rfl rfl (pc0 := 2) (pc' := 7) (same := false) rfl (hb hby d_jdk_42_method_66_code_2) rfl (decide_eq_false fun q => eaa (Value.ref.inj q)) (by decide) (by decide) kt) ?_
    refine Rch.of (T' := T0) (g' := (mkF m 8 #[.val (.ref a1), .val (.ref a2), .unset] [(.ref a2)])) (fun _ kt => XS.aloadN X0.here hx rfl (hb hby d_jdk_42_method_66_code_7) rfl rfl kt) ?_
    obtain ⟨T145, X145, e145, st145⟩ := instY X0 hx hZ hown (hw _ (List.mem_of_getElem? (i := 66) rfl)) e0 (Ins.of_exa E12 (hw _ (List.mem_of_getElem? (i := 17) rfl))) (g := (mkF m 8 #[.val (.ref a1), .val (.ref a2), .unset] [(.ref a2)])) rfl rfl (hb hby d_jdk_42_method_66_code_8)
    refine Rch.of (T' := T145) (g' := (mkF m 11 #[.val (.ref a1), .val (.ref a2), .unset] [(.int (1 : Int32))])) st145 ?_
    refine Rch.of (T' := T145) (g' := (mkF m 14 #[.val (.ref a1), .val (.ref a2), .unset] [])) (fun _ kt => XS.ifNo X145.here hx rfl (hb hby d_jdk_42_method_66_code_11) rfl ((if0 _ _).trans (feq ((by decide) : ¬ ((1 : Int32) = (0 : Int32)))).1) kt) ?_
    refine Rch.of (T' := T145) (g' := (mkF m 15 #[.val (.ref a1), .val (.ref a2), .unset] [(.ref a2)])) (fun _ kt => XS.aloadN X145.here hx rfl (hb hby d_jdk_42_method_66_code_14) rfl rfl kt) ?_
    obtain ⟨T146, X146, e146, st146⟩ := castY X145 hx hZ hown (hw _ (List.mem_of_getElem? (i := 66) rfl)) e145 (Ins.of_exa E12 (hw _ (List.mem_of_getElem? (i := 17) rfl))) (g := (mkF m 15 #[.val (.ref a1), .val (.ref a2), .unset] [(.ref a2)])) rfl rfl (hb hby d_jdk_42_method_66_code_15)
    refine Rch.of (T' := T146) (g' := (mkF m 18 #[.val (.ref a1), .val (.ref a2), .unset] [(.ref a2)])) st146 ?_
    refine Rch.of (T' := T146) (g' := (mkF m 19 #[.val (.ref a1), .val (.ref a2), .val (.ref a2)] [])) (fun _ kt => XS.astoreN X146.here hx rfl (hb hby d_jdk_42_method_66_code_18) rfl rfl (l' := #[.val (.ref a1), .val (.ref a2), .val (.ref a2)]) rfl kt) ?_
    obtain ⟨T147, X147, e147, st147⟩ := getS2 X146 hx hZ hown (host := "") (Or.inl (hw _ (List.mem_of_getElem? (i := 22) rfl))) Via.refl e146 SC (g := (mkF m 19 #[.val (.ref a1), .val (.ref a2), .val (.ref a2)] [])) rfl (hb hby d_jdk_42_method_66_code_19)
    refine Rch.of (T' := T147) (g' := (mkF m 22 #[.val (.ref a1), .val (.ref a2), .val (.ref a2)] [(.int cs)])) st147 ?_
    refine Rch.of (T' := T147) (g' := (mkF m 25 #[.val (.ref a1), .val (.ref a2), .val (.ref a2)] [])) (fun _ kt => XS.ifNo X147.here hx rfl (hb hby d_jdk_42_method_66_code_22) rfl ((if0 _ _).trans (feq hcs).1) kt) ?_
    refine Rch.of (T' := T147) (g' := (mkF m 26 #[.val (.ref a1), .val (.ref a2), .val (.ref a2)] [(.ref a1)])) (fun _ kt => XS.aloadN X147.here hx rfl (hb hby d_jdk_42_method_66_code_25) rfl rfl kt) ?_
    obtain ⟨T148, X148, e148, st148⟩ := getF X147 hx hZ hown (host := "") (Or.inl (hw _ (List.mem_of_getElem? (i := 34) rfl))) Via.refl e147 F1 (g := (mkF m 26 #[.val (.ref a1), .val (.ref a2), .val (.ref a2)] [(.ref a1)])) rfl rfl (hb hby d_jdk_42_method_66_code_26)
    refine Rch.of (T' := T148) (g' := (mkF m 29 #[.val (.ref a1), .val (.ref a2), .val (.ref a2)] [(.int (0 : Int32))])) st148 ?_
    refine Rch.of (T' := T148) (g' := (mkF m 30 #[.val (.ref a1), .val (.ref a2), .val (.ref a2)] [(.ref a2), (.int (0 : Int32))])) (fun _ kt => XS.aloadN X148.here hx rfl (hb hby d_jdk_42_method_66_code_29) rfl rfl kt) ?_
    obtain ⟨T149, X149, e149, st149⟩ := getF X148 hx hZ hown (host := "") (Or.inl (hw _ (List.mem_of_getElem? (i := 34) rfl))) Via.refl e148 F12 (g := (mkF m 30 #[.val (.ref a1), .val (.ref a2), .val (.ref a2)] [(.ref a2), (.int (0 : Int32))])) rfl rfl (hb hby d_jdk_42_method_66_code_30)
    refine Rch.of (T' := T149) (g' := (mkF m 33 #[.val (.ref a1), .val (.ref a2), .val (.ref a2)] [(.int (0 : Int32)), (.int (0 : Int32))])) st149 ?_
    refine Rch.of (T' := T149) (g' := (mkF m 36 #[.val (.ref a1), .val (.ref a2), .val (.ref a2)] [])) (fun _ kt => XS.icmpNo X149.here hx rfl (hb hby d_jdk_42_method_66_code_33) rfl (teq ((by decide) : (0 : Int32) = (0 : Int32))).2 kt) ?_
    refine Rch.of (T' := T149) (g' := (mkF m 37 #[.val (.ref a1), .val (.ref a2), .val (.ref a2)] [(.ref a1)])) (fun _ kt => XS.aloadN X149.here hx rfl (hb hby d_jdk_42_method_66_code_36) rfl rfl kt) ?_
    obtain ⟨T150, X150, e150, st150⟩ := getF X149 hx hZ hown (host := "") (Or.inl (hw _ (List.mem_of_getElem? (i := 36) rfl))) Via.refl e149 F2 (g := (mkF m 37 #[.val (.ref a1), .val (.ref a2), .val (.ref a2)] [(.ref a1)])) rfl rfl (hb hby d_jdk_42_method_66_code_37)
    refine Rch.of (T' := T150) (g' := (mkF m 40 #[.val (.ref a1), .val (.ref a2), .val (.ref a2)] [(.ref b1)])) st150 ?_
    refine Rch.of (T' := T150) (g' := (mkF m 41 #[.val (.ref a1), .val (.ref a2), .val (.ref a2)] [(.ref a2), (.ref b1)])) (fun _ kt => XS.aloadN X150.here hx rfl (hb hby d_jdk_42_method_66_code_40) rfl rfl kt) ?_
    obtain ⟨T151, X151, e151, st151⟩ := getF X150 hx hZ hown (host := "") (Or.inl (hw _ (List.mem_of_getElem? (i := 36) rfl))) Via.refl e150 F22 (g := (mkF m 41 #[.val (.ref a1), .val (.ref a2), .val (.ref a2)] [(.ref a2), (.ref b1)])) rfl rfl (hb hby d_jdk_42_method_66_code_41)
    refine Rch.of (T' := T151) (g' := (mkF m 44 #[.val (.ref a1), .val (.ref a2), .val (.ref a2)] [(.ref b2), (.ref b1)])) st151 ?_
    have pr153 : n ≤ 7 := by omega
    have pr154 : n2 ≤ 7 := by omega
    obtain ⟨_, _, ⟨T152, L152, k152, n152⟩, -, X152, ⟨Lc152, hQ152, l152, y152, z152⟩, st152⟩ := Jvm.LawKit.callS X151 hx (y := (⟨"java/lang/StringLatin1", "equals", "([B[B)Z"⟩ : MethodName)) hown (mvT hZ (hw _ (List.mem_of_getElem? (i := 67) rfl))) (mvT hZ (hw _ (List.mem_of_getElem? (i := 68) rfl))) (mvT hZ (hw _ (List.mem_of_getElem? (i := 69) rfl))) (mvT hZ (hw _ (List.mem_of_getElem? (i := 70) rfl))) (by decide) (backOf (W := 0) (rqEB l Z a0 hw [] b1 n y b2 n2 y2 h0 n0 Z0 V1 V22 pr153 pr154 hy hy2) hZ (hw _ (List.mem_of_getElem? (i := 70) rfl)) (hw _ (List.mem_of_getElem? (i := 69) rfl)) (by decide) (by decide)) (g := (mkF m 44 #[.val (.ref a1), .val (.ref a2), .val (.ref a2)] [(.ref b2), (.ref b1)])) rfl (by rw [hml]; rfl) (argsL := [(.ref b1), (.ref b2)]) (rest := []) (lenOf pd_12 rfl) rfl (by show 2 * 0 + _ ≤ _; exact Nat.le_of_eq rfl) (hb hby d_jdk_42_method_66_code_44) (fun _ _ => ⟨rfl, e151, (by decide : 0 + 0 ≤ _), (by decide : 0 + 0 ≤ _)⟩)
    dsimp only [Pt.U, Pt.locs, Pt.cells, Pt.slots] at X152 l152 y152 z152 st152 hQ152
    subst l152 y152 z152
    obtain ⟨rfl, N152q, hQ152⟩ := hQ152
    have N152 := Fr.app N0 N152q
    refine Rch.of (T' := T152) (g' := (mkF m 47 #[.val (.ref a1), .val (.ref a2), .val (.ref a2)] [(.int (own_eqv n y n2 y2))])) st152 ?_
    by_cases c155 : (own_eqv n y n2 y2) = (0 : Int32)
    · skip
      refine Rch.of (T' := T152) (g' := (mkF m 54 #[.val (.ref a1), .val (.ref a2), .val (.ref a2)] [])) (fun _ kt => XS.ifYes X152.here hx rfl (pc0 := 47) (pc' := 54) rfl (hb hby d_jdk_42_method_66_code_47) rfl ((if0 _ _).trans (teq c155).1) (by decide) (by decide) kt) ?_
      refine Rch.of (T' := T152) (g' := (mkF m 55 #[.val (.ref a1), .val (.ref a2), .val (.ref a2)] [(.int (0 : Int32))])) (fun _ kt => XS.iconst X152.here hx rfl (hb hby d_jdk_42_method_66_code_54) kt) ?_
      exact Rch.retN X152 hx (t := .boolean) hret (by simp) hlk (hb hby d_jdk_42_method_66_code_55) (fun U hU hF => hK _ U _ _ _ (by show Q_rqEQ Z a1 b1 n y a2 b2 n2 y2 cs h0 n0 _ U.heap _; rw [hU, hQ152]; exact ⟨congrArg (fun q => some (Value.int q)) c155.symm, N152, rfl⟩) hF (by decide) (by decide))
    · skip
      refine Rch.of (T' := T152) (g' := (mkF m 50 #[.val (.ref a1), .val (.ref a2), .val (.ref a2)] [])) (fun _ kt => XS.ifNo X152.here hx rfl (hb hby d_jdk_42_method_66_code_47) rfl ((if0 _ _).trans (feq c155).1) kt) ?_
      refine Rch.of (T' := T152) (g' := (mkF m 51 #[.val (.ref a1), .val (.ref a2), .val (.ref a2)] [(.int (1 : Int32))])) (fun _ kt => XS.iconst X152.here hx rfl (hb hby d_jdk_42_method_66_code_50) kt) ?_
      refine Rch.of (T' := T152) (g' := (mkF m 55 #[.val (.ref a1), .val (.ref a2), .val (.ref a2)] [(.int (1 : Int32))])) (fun _ kt => XS.goto X152.here hx rfl (pc0 := 51) (pc' := 55) rfl (hb hby d_jdk_42_method_66_code_51) (by decide) (by decide) kt) ?_
      exact Rch.retN X152 hx (t := .boolean) hret (by simp) hlk (hb hby d_jdk_42_method_66_code_55) (fun U hU hF => hK _ U _ _ _ (by show Q_rqEQ Z a1 b1 n y a2 b2 n2 y2 cs h0 n0 _ U.heap _; rw [hU, hQ152]; exact ⟨congrArg (fun q => some (Value.int q)) ((own_eqv01 n y n2 y2).resolve_left c155).symm, N152, rfl⟩) hF (by decide) (by decide))
theorem ef_rqN4 (m : MethodId) (a1 : Addr) (a2 : Addr) : entryFrame m #[(.ref a1), (.ref a2), (.int (0 : Int32)), (.int (Int32.ofNat n)), .null] 6 = mkF m 0 #[.val (.ref a1), .val (.ref a2), .val (.int (0 : Int32)), .val (.int (Int32.ofNat n)), .val .null, .unset] [] := by first | (simp [entryFrame, mkF, argsToLocals, Value.category]; done) | rfl
def Q_rqN4 (Z : State) (a1 : Addr) (a2 : Addr) (n : Nat) (y : Nat → Int32) (u1 : Value) (cs : Int32) (h0 : Heap) (n0 : Nat) (vv_ : Option Value) (h : Heap) (LL_ : List Loc) : Prop := ∃ b : Addr, vv_ = none ∧ Fr n0 LL_ ∧ (Keep h0 h [a1] ∧ Exa Z h a1 "java/lang/String" ∧ Fld Z h a1 "java/lang/String" "coder" "B" (.int (0 : Int32)) ∧ Fld Z h a1 "java/lang/String" "value" "[B" (.ref b) ∧ Av Z h b .byte n (fun q => .int ((y q).toInt8.toInt32)))
theorem d_jdk_42_method_149_code_0 : decode jdk_42_method_149_code 0 = .ok (.aload_n 0, 1) := by decide +kernel
theorem d_jdk_42_method_149_code_1 : decode jdk_42_method_149_code 1 = .ok (.invokespecial 1, 3) := by decide +kernel
theorem d_jdk_42_method_149_code_4 : decode jdk_42_method_149_code 4 = .ok (.iload_n 3, 1) := by decide +kernel
theorem d_jdk_42_method_149_code_5 : decode jdk_42_method_149_code 5 = .ok (.ifCond .ne 22, 3) := by decide +kernel
theorem d_jdk_42_method_149_code_8 : decode jdk_42_method_149_code 8 = .ok (.aload_n 0, 1) := by decide +kernel
theorem d_jdk_42_method_149_code_9 : decode jdk_42_method_149_code 9 = .ok (.ldc 7, 2) := by decide +kernel
theorem d_jdk_42_method_149_code_11 : decode jdk_42_method_149_code 11 = .ok (.getfield 9, 3) := by decide +kernel
theorem d_jdk_42_method_149_code_14 : decode jdk_42_method_149_code 14 = .ok (.putfield 9, 3) := by decide +kernel
theorem d_jdk_42_method_149_code_17 : decode jdk_42_method_149_code 17 = .ok (.aload_n 0, 1) := by decide +kernel
theorem d_jdk_42_method_149_code_18 : decode jdk_42_method_149_code 18 = .ok (.ldc 7, 2) := by decide +kernel
theorem d_jdk_42_method_149_code_20 : decode jdk_42_method_149_code 20 = .ok (.getfield 15, 3) := by decide +kernel
theorem d_jdk_42_method_149_code_23 : decode jdk_42_method_149_code 23 = .ok (.putfield 15, 3) := by decide +kernel
theorem d_jdk_42_method_149_code_26 : decode jdk_42_method_149_code 26 = .ok (.return_, 1) := by decide +kernel
theorem d_jdk_42_method_149_code_27 : decode jdk_42_method_149_code 27 = .ok (.getstatic 38, 3) := by decide +kernel
theorem d_jdk_42_method_149_code_30 : decode jdk_42_method_149_code 30 = .ok (.ifCond .eq 28, 3) := by decide +kernel
theorem d_jdk_42_method_149_code_33 : decode jdk_42_method_149_code 33 = .ok (.aload_n 1, 1) := by decide +kernel
theorem d_jdk_42_method_149_code_34 : decode jdk_42_method_149_code 34 = .ok (.iload_n 2, 1) := by decide +kernel
theorem d_jdk_42_method_149_code_35 : decode jdk_42_method_149_code 35 = .ok (.iload_n 3, 1) := by decide +kernel
theorem d_jdk_42_method_149_code_36 : decode jdk_42_method_149_code 36 = .ok (.invokestatic 177, 3) := by decide +kernel
theorem d_jdk_42_method_149_code_39 : decode jdk_42_method_149_code 39 = .ok (.astore 5, 2) := by decide +kernel
theorem d_jdk_42_method_149_code_41 : decode jdk_42_method_149_code 41 = .ok (.aload_n 0, 1) := by decide +kernel
theorem d_jdk_42_method_149_code_42 : decode jdk_42_method_149_code 42 = .ok (.aload 5, 2) := by decide +kernel
theorem d_jdk_42_method_149_code_44 : decode jdk_42_method_149_code 44 = .ok (.iload_n 3, 1) := by decide +kernel
theorem d_jdk_42_method_149_code_45 : decode jdk_42_method_149_code 45 = .ok (.invokestatic 47, 3) := by decide +kernel
theorem d_jdk_42_method_149_code_48 : decode jdk_42_method_149_code 48 = .ok (.putfield 15, 3) := by decide +kernel
theorem d_jdk_42_method_149_code_51 : decode jdk_42_method_149_code 51 = .ok (.aload_n 0, 1) := by decide +kernel
theorem d_jdk_42_method_149_code_52 : decode jdk_42_method_149_code 52 = .ok (.aload 5, 2) := by decide +kernel
theorem d_jdk_42_method_149_code_54 : decode jdk_42_method_149_code 54 = .ok (.putfield 9, 3) := by decide +kernel
theorem d_jdk_42_method_149_code_57 : decode jdk_42_method_149_code 57 = .ok (.return_, 1) := by decide +kernel
set_option maxRecDepth 65536 in
set_option maxHeartbeats 40000000 in
theorem rqN4 (l : Launch) (Z : State) (a0 : Array Value) (hw : ∀ d ∈ tables_1, d.before a0 Z = true) (ws : List Jvm.Cond) (a1 : Addr) (a2 : Addr) (n : Nat) (y : Nat → Int32) (u1 : Value) (cs : Int32) (h0 : Heap) (n0 : Nat) (Z0 : n0 ≤ h0.size) (E1 : Exa Z h0 a1 "java/lang/String") (F1 : Fld Z h0 a1 "java/lang/String" "coder" "B" u1) (F2 : Fld Z h0 a1 "java/lang/String" "value" "[B" .null) (g1 : n0 ≤ a1) (V1 : Av Z h0 a2 .char n (fun q => .int (y q))) (SC : Sta Z h0 "java/lang/String" "COMPACT_STRINGS" "Z" (.int cs)) (hcs : ¬ cs = (0 : Int32)) (hn : n ≤ 7) (hy : own_ch n y) :
    MetFree l (⟨"java/lang/String", "<init>", "([CIILjava/lang/Void;)V"⟩ : MethodName) (head1 (Jvm.Cond.code (⟨"java/lang/String", "<init>", "([CIILjava/lang/Void;)V"⟩ : MethodName) jdk_42_method_149_code 6 none :: ws) ({ frames := 2, cells := 4, slots := 8, locals := 35 } : Room)) (fun aa_ UU_ => aa_ = #[(.ref a1), (.ref a2), (.int (0 : Int32)), (.int (Int32.ofNat n)), .null] ∧ Z.Warmed39 UU_.vm ∧ UU_.heap = h0 ∧ CHv Z consts_1 UU_.vm h0) (fun _ _ _ _ _ => True) (fun _ UU_ oo_ VV_ => ∃ vv_ LL_, oo_ = .returned vv_ ∧ Q_rqN4 Z a1 a2 n y u1 cs h0 n0 vv_ VV_.heap LL_ ∧ CHr Z consts_1 UU_.vm UU_.heap VV_.vm VV_.heap ∧ ReturnedEndW UU_ oo_ VV_ LL_ ({ frames := 2, cells := 4, slots := 8, locals := 35 } : Room).cells ({ frames := 2, cells := 4, slots := 8, locals := 35 } : Room).slots) := by
  refine own_metH (y := (⟨"java/lang/String", "<init>", "([CIILjava/lang/Void;)V"⟩ : MethodName)) (plainFor_of_name pn_1) ?_
  intro p e s m below meth c T0 K hx hby hml hret hlk hown hnm hZ X0 e0 C0 hK
  have N0 := Fr.nil n0
  have R0 := CHr.refl C0
  have hEL := own_EW hw
  have hS0 : s.Since s.vm 0 := (State.WarmedH.refl s).since 0
  have hk0 : 0 ≤ h0.size := Nat.zero_le _
  have wS : ∀ d ∈ Bundle.stringAtoms, d.before a0 Z = true := fun d hd => hw d ((by decide +kernel : ∀ d ∈ Bundle.stringAtoms, d ∈ tables_1) d hd)
  change Stand p l e ({ frames := 2, cells := 4, slots := 8, locals := 35 } : Room) (s.setVm s.vm) m #[(.ref a1), (.ref a2), (.int (0 : Int32)), (.int (Int32.ofNat n)), .null] below meth c T0 [] 0 0 at X0
  change Z.Warmed39 (s.setVm s.vm).vm at hZ
  change (s.setVm s.vm).vm.findClass _ = some m.cls at hown
  refine Rch.cast (ef_rqN4 m a1 a2) ?_
  have Sf0 : Safe Z consts_1 s.vm h0 a1 := own_safeNull hZ.alike E1 F2
  refine Rch.of (T' := T0) (g' := (mkF m 1 #[.val (.ref a1), .val (.ref a2), .val (.int (0 : Int32)), .val (.int (Int32.ofNat n)), .val .null, .unset] [(.ref a1)])) (fun _ kt => XS.aloadN X0.here hx rfl (hb hby d_jdk_42_method_149_code_0) rfl rfl kt) ?_
  obtain ⟨T156, X156, e156, st156⟩ := initO X0 hx hZ hown (hw _ (List.mem_of_getElem? (i := 19) rfl)) (hw _ (List.mem_of_getElem? (i := 20) rfl)) (hw _ (List.mem_of_getElem? (i := 21) rfl)) e0 (g := (mkF m 1 #[.val (.ref a1), .val (.ref a2), .val (.int (0 : Int32)), .val (.int (Int32.ofNat n)), .val .null, .unset] [(.ref a1)])) rfl (by rw [hml]; rfl) rfl (hb hby d_jdk_42_method_149_code_1) (by decide) (W := 0) (by show 2 * 0 + _ ≤ _; exact Nat.le_of_eq rfl) (by decide)
  refine Rch.of (T' := T156) (g' := (mkF m 4 #[.val (.ref a1), .val (.ref a2), .val (.int (0 : Int32)), .val (.int (Int32.ofNat n)), .val .null, .unset] [])) st156 ?_
  refine Rch.of (T' := T156) (g' := (mkF m 5 #[.val (.ref a1), .val (.ref a2), .val (.int (0 : Int32)), .val (.int (Int32.ofNat n)), .val .null, .unset] [(.int (Int32.ofNat n))])) (fun _ kt => XS.iloadN X156.here hx rfl (hb hby d_jdk_42_method_149_code_4) rfl  kt) ?_
  by_cases c157 : (Int32.ofNat n) = (0 : Int32)
  · skip
    refine Rch.of (T' := T156) (g' := (mkF m 8 #[.val (.ref a1), .val (.ref a2), .val (.int (0 : Int32)), .val (.int (Int32.ofNat n)), .val .null, .unset] [])) (fun _ kt => XS.ifNo X156.here hx rfl (hb hby d_jdk_42_method_149_code_5) rfl ((if0 _ _).trans (teq c157).2) kt) ?_
    have hkz : n = 0 := (own_neN (j := 0) (by omega) (by decide)).mp c157
    refine Rch.of (T' := T156) (g' := (mkF m 9 #[.val (.ref a1), .val (.ref a2), .val (.int (0 : Int32)), .val (.int (Int32.ofNat n)), .val .null, .unset] [(.ref a1)])) (fun _ kt => XS.aloadN X156.here hx rfl (hb hby d_jdk_42_method_149_code_8) rfl rfl kt) ?_
    obtain ⟨s158, T158, h158, k158, sb158, kc158, X158, e158, E158, hS158, hk158, hZ, hown, Ex158, Fa158, Fb158, Ar158, la158, lb158, cr158, Lt158, sf158, st158⟩ := ldcCH (s := s) (vm0 := s.vm) X156 hx hZ hown (hw _ (List.mem_of_getElem? (i := 143) rfl)) wS e156 hS0 hk0 hEL (List.mem_of_getElem? (i := 2) rfl) R0.1 (z := (0 : Int32)) own_t2_ok.1 (by decide) (by decide) (g := (mkF m 9 #[.val (.ref a1), .val (.ref a2), .val (.int (0 : Int32)), .val (.int (Int32.ofNat n)), .val .null, .unset] [(.ref a1)])) rfl (hb hby d_jdk_42_method_149_code_9) (n := 0) (by decide) (by decide) (by decide) (by decide)
    have V158 : Av Z h158 sb158 .byte 0 (fun q => .int ((own_t2 q).toInt8.toInt32)) := (Arv.av Ar158 (by decide)).congr own_t2_ok.2
    have nl_a1_158 := sf158 a1 (CHr.safe cr158 E1.lt Sf0)
    refine Rch.of (T' := T158) (g' := (mkF m 11 #[.val (.ref a1), .val (.ref a2), .val (.int (0 : Int32)), .val (.int (Int32.ofNat n)), .val .null, .unset] [(.ref s158), (.ref a1)])) st158 ?_
    obtain ⟨T159, X159, e159, st159⟩ := getF X158 hx hZ hown (host := "") (Or.inl (hw _ (List.mem_of_getElem? (i := 36) rfl))) Via.refl e158 Fb158 (g := (mkF m 11 #[.val (.ref a1), .val (.ref a2), .val (.int (0 : Int32)), .val (.int (Int32.ofNat n)), .val .null, .unset] [(.ref s158), (.ref a1)])) rfl rfl (hb hby d_jdk_42_method_149_code_11)
    refine Rch.of (T' := T159) (g' := (mkF m 14 #[.val (.ref a1), .val (.ref a2), .val (.int (0 : Int32)), .val (.int (Int32.ofNat n)), .val .null, .unset] [(.ref sb158), (.ref a1)])) st159 ?_
    obtain ⟨T160, h160, X160, e160, W160, st160⟩ := putF X159 hx hZ hown (host := "") (Or.inl (hw _ (List.mem_of_getElem? (i := 36) rfl))) Via.refl e159 (F2.ext E158) (E1.ext E158) (Or.inr ⟨(hw _ (List.mem_of_getElem? (i := 37) rfl)), rfl, hnm⟩) (hw _ (List.mem_of_getElem? (i := 10) rfl)) (ty := (.array .byte)) (by decide) rfl rfl (g := (mkF m 14 #[.val (.ref a1), .val (.ref a2), .val (.int (0 : Int32)), .val (.int (Int32.ofNat n)), .val .null, .unset] [(.ref sb158), (.ref a1)])) rfl rfl (hb hby d_jdk_42_method_149_code_14)
    have N160 := Fr.snoc X160 N0 g1
    have Fw160 := Fld.same W160 (F2.ext E158)
    have Sf161 : Safe Z consts_1 T158.vm h158 a1 := (CHr.safe cr158 E1.lt Sf0)
    have Fb162 := ((F1.ext E158).other W160 (Or.inr (slot_ne (Or.inr (hw _ (List.mem_of_getElem? (i := 35) rfl))) (Or.inr (hw _ (List.mem_of_getElem? (i := 37) rfl))) (by decide) (t := .byte) (t' := (.array .byte)) (by decide) (by decide))))
    refine Rch.of (T' := T160) (g' := (mkF m 17 #[.val (.ref a1), .val (.ref a2), .val (.int (0 : Int32)), .val (.int (Int32.ofNat n)), .val .null, .unset] [])) st160 ?_
    refine Rch.of (T' := T160) (g' := (mkF m 18 #[.val (.ref a1), .val (.ref a2), .val (.int (0 : Int32)), .val (.int (Int32.ofNat n)), .val .null, .unset] [(.ref a1)])) (fun _ kt => XS.aloadN X160.here hx rfl (hb hby d_jdk_42_method_149_code_17) rfl rfl kt) ?_
    obtain ⟨s163, T163, h163, k163, sb163, kc163, X163, e163, E163, hS163, hk163, hZ, hown, Ex163, Fa163, Fb163, Ar163, la163, lb163, cr163, Lt163, sf163, st163⟩ := ldcCH (s := s) (vm0 := T158.vm) X160 hx hZ hown (hw _ (List.mem_of_getElem? (i := 143) rfl)) wS e160 hS158 (Nat.le_trans hk158 (Keep.of_wr W160).1) hEL (List.mem_of_getElem? (i := 2) rfl) ((R0.trans cr158).trans (CHr.wr W160 Sf161 (R0.trans cr158).1)).1 (z := (0 : Int32)) own_t2_ok.1 (by decide) (by decide) (g := (mkF m 18 #[.val (.ref a1), .val (.ref a2), .val (.int (0 : Int32)), .val (.int (Int32.ofNat n)), .val .null, .unset] [(.ref a1)])) rfl (hb hby d_jdk_42_method_149_code_18) (n := 0) (by decide) (by decide) (by decide) (by decide)
    have V163 : Av Z h163 sb163 .byte 0 (fun q => .int ((own_t2 q).toInt8.toInt32)) := (Arv.av Ar163 (by decide)).congr own_t2_ok.2
    have nl_a1_163 := sf163 a1 (CHr.safe cr163 ((E1.ext E158).wr W160).lt (Safe.wr W160 Sf161 (R0.trans cr158).1 Sf161))
    refine Rch.of (T' := T163) (g' := (mkF m 20 #[.val (.ref a1), .val (.ref a2), .val (.int (0 : Int32)), .val (.int (Int32.ofNat n)), .val .null, .unset] [(.ref s163), (.ref a1)])) st163 ?_
    obtain ⟨T164, X164, e164, st164⟩ := getF X163 hx hZ hown (host := "") (Or.inl (hw _ (List.mem_of_getElem? (i := 34) rfl))) Via.refl e163 Fa163 (g := (mkF m 20 #[.val (.ref a1), .val (.ref a2), .val (.int (0 : Int32)), .val (.int (Int32.ofNat n)), .val .null, .unset] [(.ref s163), (.ref a1)])) rfl rfl (hb hby d_jdk_42_method_149_code_20)
    refine Rch.of (T' := T164) (g' := (mkF m 23 #[.val (.ref a1), .val (.ref a2), .val (.int (0 : Int32)), .val (.int (Int32.ofNat n)), .val .null, .unset] [(.int (0 : Int32)), (.ref a1)])) st164 ?_
    obtain ⟨T165, h165, X165, e165, W165, st165⟩ := putFN X164 hx hZ hown (hw _ (List.mem_of_getElem? (i := 34) rfl)) Via.refl e164 (Fb162.ext E163) (((E1.ext E158).wr W160).ext E163) (Or.inr ⟨(hw _ (List.mem_of_getElem? (i := 35) rfl)), rfl, hnm⟩) (hw _ (List.mem_of_getElem? (i := 10) rfl)) (ty := .byte) (v' := (.int (nar .byte (0 : Int32)))) (by decide) rfl (fits_nar_byte _) (g := (mkF m 23 #[.val (.ref a1), .val (.ref a2), .val (.int (0 : Int32)), .val (.int (Int32.ofNat n)), .val .null, .unset] [(.int (0 : Int32)), (.ref a1)])) rfl rfl (hb hby d_jdk_42_method_149_code_23)
    have N165 := Fr.snoc X165 N160 g1
    have Fw165 := Fld.same W165 (Fb162.ext E163)
    have Sf166 : Safe Z consts_1 T163.vm h163 a1 := (CHr.safe cr163 ((E1.ext E158).wr W160).lt (Safe.wr W160 Sf161 (R0.trans cr158).1 Sf161))
    have Rb167 := ((((R0.trans cr158).trans (CHr.wr W160 Sf161 (R0.trans cr158).1)).trans cr163).trans (CHr.wr W165 Sf166 (((R0.trans cr158).trans (CHr.wr W160 Sf161 (R0.trans cr158).1)).trans cr163).1))
    have Fb168 := ((Fw160.ext E163).other W165 (Or.inr (slot_ne (Or.inr (hw _ (List.mem_of_getElem? (i := 37) rfl))) (Or.inr (hw _ (List.mem_of_getElem? (i := 35) rfl))) (by decide) (t := (.array .byte)) (t' := .byte) (by decide) (by decide))))
    refine Rch.of (T' := T165) (g' := (mkF m 26 #[.val (.ref a1), .val (.ref a2), .val (.int (0 : Int32)), .val (.int (Int32.ofNat n)), .val .null, .unset] [])) st165 ?_
    exact Rch.retV X165 hx hret hlk (hb hby d_jdk_42_method_149_code_26) (fun U hU hF => hK _ U _ _ _ (by show Q_rqN4 Z a1 a2 n y u1 cs h0 n0 _ U.heap _; rw [hU, e165]; exact ⟨sb158, rfl, N165, (((((Keep.refl h0 [a1]).ext E158).wr W160 (Or.inl (List.mem_of_getElem? (i := 0) rfl))).ext E163).wr W165 (Or.inl (List.mem_of_getElem? (i := 0) rfl))), ((((E1.ext E158).wr W160).ext E163).wr W165), Fw165, Fb168, (by rw [hkz]; exact Av.congr (((V158.other W160 (Ne.symm nl_a1_158.2)).ext E163).other W165 (Ne.symm nl_a1_158.2)) (fun j hj => absurd hj (Nat.not_lt_zero j)))⟩) (own_endH hZ hEL Rb167 (hU.trans e165) hF) (own_end hS163 (by rw [hU, e165]; exact (Nat.le_trans hk163 (Keep.of_wr W165).1)) hF) (by decide) (by decide))
  · skip
    refine Rch.of (T' := T156) (g' := (mkF m 27 #[.val (.ref a1), .val (.ref a2), .val (.int (0 : Int32)), .val (.int (Int32.ofNat n)), .val .null, .unset] [])) (fun _ kt => XS.ifYes X156.here hx rfl (pc0 := 5) (pc' := 27) rfl (hb hby d_jdk_42_method_149_code_5) rfl ((if0 _ _).trans (feq c157).2) (by decide) (by decide) kt) ?_
    have h1 : 1 ≤ n := Nat.one_le_iff_ne_zero.mpr (fun q => c157 (by rw [q]; rfl))
    obtain ⟨T169, X169, e169, st169⟩ := getS2 X156 hx hZ hown (host := "") (Or.inl (hw _ (List.mem_of_getElem? (i := 22) rfl))) Via.refl e156 SC (g := (mkF m 27 #[.val (.ref a1), .val (.ref a2), .val (.int (0 : Int32)), .val (.int (Int32.ofNat n)), .val .null, .unset] [])) rfl (hb hby d_jdk_42_method_149_code_27)
    refine Rch.of (T' := T169) (g' := (mkF m 30 #[.val (.ref a1), .val (.ref a2), .val (.int (0 : Int32)), .val (.int (Int32.ofNat n)), .val .null, .unset] [(.int cs)])) st169 ?_
    refine Rch.of (T' := T169) (g' := (mkF m 33 #[.val (.ref a1), .val (.ref a2), .val (.int (0 : Int32)), .val (.int (Int32.ofNat n)), .val .null, .unset] [])) (fun _ kt => XS.ifNo X169.here hx rfl (hb hby d_jdk_42_method_149_code_30) rfl ((if0 _ _).trans (feq hcs).1) kt) ?_
    refine Rch.of (T' := T169) (g' := (mkF m 34 #[.val (.ref a1), .val (.ref a2), .val (.int (0 : Int32)), .val (.int (Int32.ofNat n)), .val .null, .unset] [(.ref a2)])) (fun _ kt => XS.aloadN X169.here hx rfl (hb hby d_jdk_42_method_149_code_33) rfl rfl kt) ?_
    refine Rch.of (T' := T169) (g' := (mkF m 35 #[.val (.ref a1), .val (.ref a2), .val (.int (0 : Int32)), .val (.int (Int32.ofNat n)), .val .null, .unset] [(.int (0 : Int32)), (.ref a2)])) (fun _ kt => XS.iloadN X169.here hx rfl (hb hby d_jdk_42_method_149_code_34) rfl  kt) ?_
    refine Rch.of (T' := T169) (g' := (mkF m 36 #[.val (.ref a1), .val (.ref a2), .val (.int (0 : Int32)), .val (.int (Int32.ofNat n)), .val .null, .unset] [(.int (Int32.ofNat n)), (.int (0 : Int32)), (.ref a2)])) (fun _ kt => XS.iloadN X169.here hx rfl (hb hby d_jdk_42_method_149_code_35) rfl  kt) ?_
    obtain ⟨_, _, ⟨T170, L170, k170, n170⟩, -, X170, ⟨Lc170, hQ170, l170, y170, z170⟩, st170⟩ := Jvm.LawKit.callS X169 hx (y := (⟨"java/lang/StringUTF16", "compress", "([CII)[B"⟩ : MethodName)) hown (mvT hZ (hw _ (List.mem_of_getElem? (i := 23) rfl))) (mvT hZ (hw _ (List.mem_of_getElem? (i := 24) rfl))) (mvT hZ (hw _ (List.mem_of_getElem? (i := 25) rfl))) (mvT hZ (hw _ (List.mem_of_getElem? (i := 26) rfl))) (by decide) (backOf (W := 0) (rmC3 l Z a0 hw [] a2 n y h0 n0 Z0 V1 hn hy) hZ (hw _ (List.mem_of_getElem? (i := 26) rfl)) (hw _ (List.mem_of_getElem? (i := 25) rfl)) (by decide) (by decide)) (g := (mkF m 36 #[.val (.ref a1), .val (.ref a2), .val (.int (0 : Int32)), .val (.int (Int32.ofNat n)), .val .null, .unset] [(.int (Int32.ofNat n)), (.int (0 : Int32)), (.ref a2)])) rfl (by rw [hml]; rfl) (argsL := [(.ref a2), (.int (0 : Int32)), (.int (Int32.ofNat n))]) (rest := []) (lenOf pd_5 rfl) rfl (by show 2 * 0 + _ ≤ _; exact Nat.le_of_eq rfl) (hb hby d_jdk_42_method_149_code_36) (fun _ _ => ⟨rfl, e169, (by decide : 0 + 1 ≤ _), (by decide : 0 + 7 ≤ _)⟩)
    dsimp only [Pt.U, Pt.locs, Pt.cells, Pt.slots] at X170 l170 y170 z170 st170 hQ170
    subst l170 y170 z170
    obtain ⟨rfl, N170q, hQ170⟩ := hQ170
    have N170 := Fr.app N0 N170q
    obtain ⟨K170, V170⟩ := hQ170
    obtain ⟨b170, g170⟩ : ∃ zz_, zz_ = h0.size := ⟨_, rfl⟩
    have ne_a1_b170 : a1 ≠ b170 := Nat.ne_of_lt (Nat.lt_of_lt_of_le E1.lt (Nat.le_of_eq g170.symm))
    have ne_a2_b170 : a2 ≠ b170 := Nat.ne_of_lt (Nat.lt_of_lt_of_le V1.lt (Nat.le_of_eq g170.symm))
    have ge_b170 : n0 ≤ b170 := Nat.le_trans Z0 (Nat.le_of_eq g170.symm)
    have sz_b170 : h0.size ≤ b170 := Nat.le_trans (Keep.refl h0 [a1]).1 (Nat.le_of_eq g170.symm)
    rw [← g170] at V170 st170
    refine Rch.of (T' := T170) (g' := (mkF m 39 #[.val (.ref a1), .val (.ref a2), .val (.int (0 : Int32)), .val (.int (Int32.ofNat n)), .val .null, .unset] [(.ref b170)])) st170 ?_
    refine Rch.of (T' := T170) (g' := (mkF m 41 #[.val (.ref a1), .val (.ref a2), .val (.int (0 : Int32)), .val (.int (Int32.ofNat n)), .val .null, .val (.ref b170)] [])) (fun _ kt => XS.astore X170.here hx rfl (hb hby d_jdk_42_method_149_code_39) rfl rfl (l' := #[.val (.ref a1), .val (.ref a2), .val (.int (0 : Int32)), .val (.int (Int32.ofNat n)), .val .null, .val (.ref b170)]) rfl kt) ?_
    refine Rch.of (T' := T170) (g' := (mkF m 42 #[.val (.ref a1), .val (.ref a2), .val (.int (0 : Int32)), .val (.int (Int32.ofNat n)), .val .null, .val (.ref b170)] [(.ref a1)])) (fun _ kt => XS.aloadN X170.here hx rfl (hb hby d_jdk_42_method_149_code_41) rfl rfl kt) ?_
    refine Rch.of (T' := T170) (g' := (mkF m 44 #[.val (.ref a1), .val (.ref a2), .val (.int (0 : Int32)), .val (.int (Int32.ofNat n)), .val .null, .val (.ref b170)] [(.ref b170), (.ref a1)])) (fun _ kt => XS.aload X170.here hx rfl (hb hby d_jdk_42_method_149_code_42) rfl rfl kt) ?_
    refine Rch.of (T' := T170) (g' := (mkF m 45 #[.val (.ref a1), .val (.ref a2), .val (.int (0 : Int32)), .val (.int (Int32.ofNat n)), .val .null, .val (.ref b170)] [(.int (Int32.ofNat n)), (.ref b170), (.ref a1)])) (fun _ kt => XS.iloadN X170.here hx rfl (hb hby d_jdk_42_method_149_code_44) rfl  kt) ?_
    obtain ⟨_, _, ⟨T171, L171, k171, n171⟩, -, X171, ⟨Lc171, hQ171, l171, y171, z171⟩, st171⟩ := Jvm.LawKit.callS X170 hx (y := (⟨"java/lang/StringUTF16", "coderFromArrayLen", "([BI)B"⟩ : MethodName)) hown (mvT hZ (hw _ (List.mem_of_getElem? (i := 31) rfl))) (mvT hZ (hw _ (List.mem_of_getElem? (i := 32) rfl))) (mvT hZ (hw _ (List.mem_of_getElem? (i := 25) rfl))) (mvT hZ (hw _ (List.mem_of_getElem? (i := 33) rfl))) (by decide) (backOf (W := 1) (rmCL l Z a0 hw [] b170 n (fun q => (y q).toInt8.toInt32) T170.heap n0 (Nat.le_trans Z0 K170.1) V170) hZ (hw _ (List.mem_of_getElem? (i := 33) rfl)) (hw _ (List.mem_of_getElem? (i := 25) rfl)) (by decide) (by decide)) (g := (mkF m 45 #[.val (.ref a1), .val (.ref a2), .val (.int (0 : Int32)), .val (.int (Int32.ofNat n)), .val .null, .val (.ref b170)] [(.int (Int32.ofNat n)), (.ref b170), (.ref a1)])) rfl (by rw [hml]; rfl) (argsL := [(.ref b170), (.int (Int32.ofNat n))]) (rest := [(.ref a1)]) (lenOf pd_7 rfl) rfl (by show 2 * 0 + _ ≤ _; exact Nat.le_of_eq rfl) (hb hby d_jdk_42_method_149_code_45) (fun _ _ => ⟨rfl, rfl, (by decide : 1 + 0 ≤ _), (by decide : 7 + 0 ≤ _)⟩)
    dsimp only [Pt.U, Pt.locs, Pt.cells, Pt.slots] at X171 l171 y171 z171 st171 hQ171
    subst l171 y171 z171
    obtain ⟨rfl, N171q, hQ171⟩ := hQ171
    have N171 := Fr.app N170 N171q
    refine Rch.of (T' := T171) (g' := (mkF m 48 #[.val (.ref a1), .val (.ref a2), .val (.int (0 : Int32)), .val (.int (Int32.ofNat n)), .val .null, .val (.ref b170)] [(.int (0 : Int32)), (.ref a1)])) st171 ?_
    obtain ⟨T172, h172, X172, e172, W172, st172⟩ := putFN X171 hx hZ hown (hw _ (List.mem_of_getElem? (i := 34) rfl)) Via.refl hQ171 (F1.keep K170 nin0) (E1.keep K170) (Or.inr ⟨(hw _ (List.mem_of_getElem? (i := 35) rfl)), rfl, hnm⟩) (hw _ (List.mem_of_getElem? (i := 10) rfl)) (ty := .byte) (v' := (.int (nar .byte (0 : Int32)))) (by decide) rfl (fits_nar_byte _) (g := (mkF m 48 #[.val (.ref a1), .val (.ref a2), .val (.int (0 : Int32)), .val (.int (Int32.ofNat n)), .val .null, .val (.ref b170)] [(.int (0 : Int32)), (.ref a1)])) rfl rfl (hb hby d_jdk_42_method_149_code_48)
    have N172 := Fr.snoc X172 N171 g1
    have Fw172 := Fld.same W172 (F1.keep K170 nin0)
    have Sf173 : Safe Z consts_1 s.vm T170.heap a1 := (Safe.keep K170 all0 R0.1 Sf0)
    have Fb174 := ((F2.keep K170 nin0).other W172 (Or.inr (slot_ne (Or.inr (hw _ (List.mem_of_getElem? (i := 37) rfl))) (Or.inr (hw _ (List.mem_of_getElem? (i := 35) rfl))) (by decide) (t := (.array .byte)) (t' := .byte) (by decide) (by decide))))
    refine Rch.of (T' := T172) (g' := (mkF m 51 #[.val (.ref a1), .val (.ref a2), .val (.int (0 : Int32)), .val (.int (Int32.ofNat n)), .val .null, .val (.ref b170)] [])) st172 ?_
    refine Rch.of (T' := T172) (g' := (mkF m 52 #[.val (.ref a1), .val (.ref a2), .val (.int (0 : Int32)), .val (.int (Int32.ofNat n)), .val .null, .val (.ref b170)] [(.ref a1)])) (fun _ kt => XS.aloadN X172.here hx rfl (hb hby d_jdk_42_method_149_code_51) rfl rfl kt) ?_
    refine Rch.of (T' := T172) (g' := (mkF m 54 #[.val (.ref a1), .val (.ref a2), .val (.int (0 : Int32)), .val (.int (Int32.ofNat n)), .val .null, .val (.ref b170)] [(.ref b170), (.ref a1)])) (fun _ kt => XS.aload X172.here hx rfl (hb hby d_jdk_42_method_149_code_52) rfl rfl kt) ?_
    obtain ⟨T175, h175, X175, e175, W175, st175⟩ := putF X172 hx hZ hown (host := "") (Or.inl (hw _ (List.mem_of_getElem? (i := 36) rfl))) Via.refl e172 Fb174 ((E1.keep K170).wr W172) (Or.inr ⟨(hw _ (List.mem_of_getElem? (i := 37) rfl)), rfl, hnm⟩) (hw _ (List.mem_of_getElem? (i := 10) rfl)) (ty := (.array .byte)) (by decide) rfl rfl (g := (mkF m 54 #[.val (.ref a1), .val (.ref a2), .val (.int (0 : Int32)), .val (.int (Int32.ofNat n)), .val .null, .val (.ref b170)] [(.ref b170), (.ref a1)])) rfl rfl (hb hby d_jdk_42_method_149_code_54)
    have N175 := Fr.snoc X175 N172 g1
    have Fw175 := Fld.same W175 Fb174
    have Sf176 : Safe Z consts_1 s.vm h172 a1 := (Safe.wr W172 Sf173 (R0.trans (CHr.keep K170 all0 R0.1)).1 Sf173)
    have Rb177 := (((R0.trans (CHr.keep K170 all0 R0.1)).trans (CHr.wr W172 Sf173 (R0.trans (CHr.keep K170 all0 R0.1)).1)).trans (CHr.wr W175 Sf176 ((R0.trans (CHr.keep K170 all0 R0.1)).trans (CHr.wr W172 Sf173 (R0.trans (CHr.keep K170 all0 R0.1)).1)).1))
    have Fb178 := (Fw172.other W175 (Or.inr (slot_ne (Or.inr (hw _ (List.mem_of_getElem? (i := 35) rfl))) (Or.inr (hw _ (List.mem_of_getElem? (i := 37) rfl))) (by decide) (t := .byte) (t' := (.array .byte)) (by decide) (by decide))))
    refine Rch.of (T' := T175) (g' := (mkF m 57 #[.val (.ref a1), .val (.ref a2), .val (.int (0 : Int32)), .val (.int (Int32.ofNat n)), .val .null, .val (.ref b170)] [])) st175 ?_
    exact Rch.retV X175 hx hret hlk (hb hby d_jdk_42_method_149_code_57) (fun U hU hF => hK _ U _ _ _ (by show Q_rqN4 Z a1 a2 n y u1 cs h0 n0 _ U.heap _; rw [hU, e175]; exact ⟨b170, rfl, N175, ((((Keep.refl h0 [a1]).trans K170 all0).wr W172 (Or.inl (List.mem_of_getElem? (i := 0) rfl))).wr W175 (Or.inl (List.mem_of_getElem? (i := 0) rfl))), (((E1.keep K170).wr W172).wr W175), Fb178, Fw175, (((V170.other W172 (Ne.symm ne_a1_b170)).other W175 (Ne.symm ne_a1_b170)))⟩) (own_endH hZ hEL Rb177 (hU.trans e175) hF) (own_end hS0 (by rw [hU, e175]; exact (Nat.le_trans (Nat.le_trans (Nat.le_trans hk0 K170.1) (Keep.of_wr W172).1) (Keep.of_wr W175).1)) hF) (by decide) (by decide))
theorem ef_rqN1 (m : MethodId) (a1 : Addr) (a2 : Addr) : entryFrame m #[(.ref a1), (.ref a2)] 2 = mkF m 0 #[.val (.ref a1), .val (.ref a2)] [] := by first | (simp [entryFrame, mkF, argsToLocals, Value.category]; done) | rfl
def Q_rqN1 (Z : State) (a1 : Addr) (a2 : Addr) (n : Nat) (y : Nat → Int32) (u1 : Value) (cs : Int32) (h0 : Heap) (n0 : Nat) (vv_ : Option Value) (h : Heap) (LL_ : List Loc) : Prop := ∃ b : Addr, vv_ = none ∧ Fr n0 LL_ ∧ (Keep h0 h [a1] ∧ Exa Z h a1 "java/lang/String" ∧ Fld Z h a1 "java/lang/String" "coder" "B" (.int (0 : Int32)) ∧ Fld Z h a1 "java/lang/String" "value" "[B" (.ref b) ∧ Av Z h b .byte n (fun q => .int ((y q).toInt8.toInt32)))
theorem d_jdk_42_method_3_code_0 : decode jdk_42_method_3_code 0 = .ok (.aload_n 0, 1) := by decide +kernel
theorem d_jdk_42_method_3_code_1 : decode jdk_42_method_3_code 1 = .ok (.aload_n 1, 1) := by decide +kernel
theorem d_jdk_42_method_3_code_2 : decode jdk_42_method_3_code 2 = .ok (.iconst 0, 1) := by decide +kernel
theorem d_jdk_42_method_3_code_3 : decode jdk_42_method_3_code 3 = .ok (.aload_n 1, 1) := by decide +kernel
theorem d_jdk_42_method_3_code_4 : decode jdk_42_method_3_code 4 = .ok (.arraylength, 1) := by decide +kernel
theorem d_jdk_42_method_3_code_5 : decode jdk_42_method_3_code 5 = .ok (.aconst_null, 1) := by decide +kernel
theorem d_jdk_42_method_3_code_6 : decode jdk_42_method_3_code 6 = .ok (.invokespecial 27, 3) := by decide +kernel
theorem d_jdk_42_method_3_code_9 : decode jdk_42_method_3_code 9 = .ok (.return_, 1) := by decide +kernel
set_option maxRecDepth 65536 in
set_option maxHeartbeats 40000000 in
theorem rqN1 (l : Launch) (Z : State) (a0 : Array Value) (hw : ∀ d ∈ tables_1, d.before a0 Z = true) (ws : List Jvm.Cond) (a1 : Addr) (a2 : Addr) (n : Nat) (y : Nat → Int32) (u1 : Value) (cs : Int32) (h0 : Heap) (n0 : Nat) (Z0 : n0 ≤ h0.size) (E1 : Exa Z h0 a1 "java/lang/String") (F1 : Fld Z h0 a1 "java/lang/String" "coder" "B" u1) (F2 : Fld Z h0 a1 "java/lang/String" "value" "[B" .null) (g1 : n0 ≤ a1) (V1 : Av Z h0 a2 .char n (fun q => .int (y q))) (SC : Sta Z h0 "java/lang/String" "COMPACT_STRINGS" "Z" (.int cs)) (hcs : ¬ cs = (0 : Int32)) (hn : n ≤ 7) (hy : own_ch n y) :
    MetFree l (⟨"java/lang/String", "<init>", "([C)V"⟩ : MethodName) (head1 (Jvm.Cond.code (⟨"java/lang/String", "<init>", "([C)V"⟩ : MethodName) jdk_42_method_3_code 2 none :: ws) ({ frames := 3, cells := 4, slots := 8, locals := 52 } : Room)) (fun aa_ UU_ => aa_ = #[(.ref a1), (.ref a2)] ∧ Z.Warmed39 UU_.vm ∧ UU_.heap = h0 ∧ CHv Z consts_1 UU_.vm h0) (fun _ _ _ _ _ => True) (fun _ UU_ oo_ VV_ => ∃ vv_ LL_, oo_ = .returned vv_ ∧ Q_rqN1 Z a1 a2 n y u1 cs h0 n0 vv_ VV_.heap LL_ ∧ CHr Z consts_1 UU_.vm UU_.heap VV_.vm VV_.heap ∧ ReturnedEndW UU_ oo_ VV_ LL_ ({ frames := 3, cells := 4, slots := 8, locals := 52 } : Room).cells ({ frames := 3, cells := 4, slots := 8, locals := 52 } : Room).slots) := by
  refine own_metH (y := (⟨"java/lang/String", "<init>", "([C)V"⟩ : MethodName)) (plainFor_of_name pn_1) ?_
  intro p e s m below meth c T0 K hx hby hml hret hlk hown hnm hZ X0 e0 C0 hK
  have N0 := Fr.nil n0
  have R0 := CHr.refl C0
  have hEL := own_EW hw
  have hS0 : s.Since s.vm 0 := (State.WarmedH.refl s).since 0
  have hk0 : 0 ≤ h0.size := Nat.zero_le _
  have wS : ∀ d ∈ Bundle.stringAtoms, d.before a0 Z = true := fun d hd => hw d ((by decide +kernel : ∀ d ∈ Bundle.stringAtoms, d ∈ tables_1) d hd)
  change Stand p l e ({ frames := 3, cells := 4, slots := 8, locals := 52 } : Room) (s.setVm s.vm) m #[(.ref a1), (.ref a2)] below meth c T0 [] 0 0 at X0
  change Z.Warmed39 (s.setVm s.vm).vm at hZ
  change (s.setVm s.vm).vm.findClass _ = some m.cls at hown
  refine Rch.cast (ef_rqN1 m a1 a2) ?_
  refine Rch.of (T' := T0) (g' := (mkF m 1 #[.val (.ref a1), .val (.ref a2)] [(.ref a1)])) (fun _ kt => XS.aloadN X0.here hx rfl (hb hby d_jdk_42_method_3_code_0) rfl rfl kt) ?_
  refine Rch.of (T' := T0) (g' := (mkF m 2 #[.val (.ref a1), .val (.ref a2)] [(.ref a2), (.ref a1)])) (fun _ kt => XS.aloadN X0.here hx rfl (hb hby d_jdk_42_method_3_code_1) rfl rfl kt) ?_
  refine Rch.of (T' := T0) (g' := (mkF m 3 #[.val (.ref a1), .val (.ref a2)] [(.int (0 : Int32)), (.ref a2), (.ref a1)])) (fun _ kt => XS.iconst X0.here hx rfl (hb hby d_jdk_42_method_3_code_2) kt) ?_
  refine Rch.of (T' := T0) (g' := (mkF m 4 #[.val (.ref a1), .val (.ref a2)] [(.ref a2), (.int (0 : Int32)), (.ref a2), (.ref a1)])) (fun _ kt => XS.aloadN X0.here hx rfl (hb hby d_jdk_42_method_3_code_3) rfl rfl kt) ?_
  obtain ⟨cl179, Ar179, Sz179, Ha179⟩ := id V1
  refine Rch.of (T' := T0) (g' := (mkF m 5 #[.val (.ref a1), .val (.ref a2)] [(.int cl179.slots.size.toInt32), (.int (0 : Int32)), (.ref a2), (.ref a1)])) (X0.arraylength hx (by rw [e0]; exact Ar179.1) (State.isArrayOf_alike hZ.alike Ar179.2.1) (g := (mkF m 4 #[.val (.ref a1), .val (.ref a2)] [(.ref a2), (.int (0 : Int32)), (.ref a2), (.ref a1)])) rfl rfl (hb hby d_jdk_42_method_3_code_4)) ?_
  rw [oLen Sz179]
  show Rch p e below K T0 (mkF m 5 #[.val (.ref a1), .val (.ref a2)] [(.int (Int32.ofNat n)), (.int (0 : Int32)), (.ref a2), (.ref a1)])
  refine Rch.of (T' := T0) (g' := (mkF m 6 #[.val (.ref a1), .val (.ref a2)] [.null, (.int (Int32.ofNat n)), (.int (0 : Int32)), (.ref a2), (.ref a1)])) (fun _ kt => XS.aconstNull X0.here hx rfl (hb hby d_jdk_42_method_3_code_5) kt) ?_
  have pr181 : n ≤ 7 := by omega
  obtain ⟨_, _, ⟨T180, L180, k180, n180⟩, -, X180, hT180, gr180, ⟨Lc180, hQ180, l180, y180, z180, cr180⟩, st180⟩ := X0.specialBackS hx (y := (⟨"java/lang/String", "<init>", "([CIILjava/lang/Void;)V"⟩ : MethodName)) rfl hown (mvT hZ (hw _ (List.mem_of_getElem? (i := 15) rfl))) (mvT hZ (hw _ (List.mem_of_getElem? (i := 16) rfl))) (mvT hZ (hw _ (List.mem_of_getElem? (i := 18) rfl))) (by decide) (backOfSH (s := s) (vm0 := s.vm) (EL := consts_1) (W := 0) (rqN4 l Z a0 hw [] a1 a2 n y u1 cs h0 n0 Z0 E1 F1 F2 g1 V1 SC hcs pr181 hy) hZ (hw _ (List.mem_of_getElem? (i := 18) rfl)) (hw _ (List.mem_of_getElem? (i := 11) rfl)) (by decide) (by decide) hEL R0.1) (g := (mkF m 6 #[.val (.ref a1), .val (.ref a2)] [.null, (.int (Int32.ofNat n)), (.int (0 : Int32)), (.ref a2), (.ref a1)])) rfl (by rw [hml]; rfl) (Steps.refl _) (a := a1) (argsL := [(.ref a2), (.int (0 : Int32)), (.int (Int32.ofNat n)), .null]) (rest := []) (lenOf pd_3 rfl) rfl (by show 2 * 0 + _ ≤ _; exact Nat.le_of_eq rfl) (hb hby d_jdk_42_method_3_code_6) (fun _ _ => ⟨rfl, e0, (by decide : 0 + 4 ≤ _), (by decide : 0 + 8 ≤ _)⟩)
  dsimp only [Pt.U, Pt.locs, Pt.cells, Pt.slots] at X180 hT180 gr180 l180 y180 z180 st180 hQ180 cr180
  subst l180 y180 z180
  obtain ⟨X180, hS180, hZ, hown⟩ := rebS hS0 hk0 X180 hT180 (by rw [← e0]; exact gr180) hZ hown
  obtain ⟨rb180, rfl, N180q, hQ180⟩ := hQ180
  have N180 := Fr.app N0 N180q
  obtain ⟨K180, Ex180, Fa180, Fb180, V180⟩ := hQ180
  refine Rch.via (T' := T180) (g' := (mkF m 9 #[.val (.ref a1), .val (.ref a2)] [])) st180 ?_
  exact Rch.retV X180 hx hret hlk (hb hby d_jdk_42_method_3_code_9) (fun U hU hF => hK _ U _ _ _ (by show Q_rqN1 Z a1 a2 n y u1 cs h0 n0 _ U.heap _; rw [hU]; exact ⟨rb180, rfl, N180, ((Keep.refl h0 [a1]).trans K180 (allS (Or.inl (List.mem_of_getElem? (i := 0) rfl)) all0)), Ex180, Fa180, Fb180, V180⟩) (own_endH hZ hEL (R0.trans cr180) hU hF) (own_end hS180 (by rw [hU]; exact (Nat.le_refl _)) hF) (by decide) (by decide))
theorem pn_4 : plainName "com/example/isidore/isidore/SeverityLabelledPinLaw" = true := by first | (simp [plainName, overriddenIn]; done) | decide +kernel
theorem ef_rk1 (m : MethodId) (p1 : Int64) (p2 : Int32) : entryFrame m #[(.long p1), (.int p2)] 3 = mkF m 0 #[.val (.long p1), .second, .val (.int p2)] [] := by first | (simp [entryFrame, mkF, argsToLocals, Value.category]; done) | rfl
def Q_rk1 (Z : State) (p1 : Int64) (p2 : Int32) (h0 : Heap) (n0 : Nat) (vv_ : Option Value) (h : Heap) (LL_ : List Loc) : Prop := ∃ t : Int32, vv_ = some (.int t) ∧ Fr n0 LL_ ∧ (h = h0 ∧ own_c1 t)
theorem d_method_3_code_0 : decode method_3_code 0 = .ok (.lload_n 0, 1) := by decide +kernel
theorem d_method_3_code_1 : decode method_3_code 1 = .ok (.bipush 8, 2) := by decide +kernel
theorem d_method_3_code_3 : decode method_3_code 3 = .ok (.iload_n 2, 1) := by decide +kernel
theorem d_method_3_code_4 : decode method_3_code 4 = .ok (.imul, 1) := by decide +kernel
theorem d_method_3_code_5 : decode method_3_code 5 = .ok (.lushr, 1) := by decide +kernel
theorem d_method_3_code_6 : decode method_3_code 6 = .ok (.ldc2_w 50, 3) := by decide +kernel
theorem d_method_3_code_9 : decode method_3_code 9 = .ok (.land, 1) := by decide +kernel
theorem d_method_3_code_10 : decode method_3_code 10 = .ok (.l2i, 1) := by decide +kernel
theorem d_method_3_code_11 : decode method_3_code 11 = .ok (.i2c, 1) := by decide +kernel
theorem d_method_3_code_12 : decode method_3_code 12 = .ok (.ireturn, 1) := by decide +kernel
set_option maxRecDepth 65536 in
set_option maxHeartbeats 40000000 in
theorem rk1 (l : Launch) (Z : State) (a0 : Array Value) (hw : ∀ d ∈ tables_1, d.before a0 Z = true) (ws : List Jvm.Cond) (p1 : Int64) (p2 : Int32) (h0 : Heap) (n0 : Nat) (Z0 : n0 ≤ h0.size)  :
    MetFree l (⟨"com/example/isidore/isidore/SeverityLabelledPinLaw", "at", "(JI)C"⟩ : MethodName) (head1 (Jvm.Cond.code (⟨"com/example/isidore/isidore/SeverityLabelledPinLaw", "at", "(JI)C"⟩ : MethodName) method_3_code 3 (some .char) :: ws) ({ frames := 0, cells := 0, slots := 0, locals := 0 } : Room)) (fun aa_ UU_ => aa_ = #[(.long p1), (.int p2)] ∧ Z.Warmed39 UU_.vm ∧ UU_.heap = h0) (fun _ _ _ _ _ => True) (fun _ UU_ oo_ VV_ => ∃ vv_ LL_, oo_ = .returned vv_ ∧ Q_rk1 Z p1 p2 h0 n0 vv_ VV_.heap LL_ ∧ FrameEnd UU_ oo_ VV_ LL_ ({ frames := 0, cells := 0, slots := 0, locals := 0 } : Room).cells ({ frames := 0, cells := 0, slots := 0, locals := 0 } : Room).slots) := by
  refine own_met (y := (⟨"com/example/isidore/isidore/SeverityLabelledPinLaw", "at", "(JI)C"⟩ : MethodName)) (plainFor_of_name pn_4) ?_
  intro p e s m below meth c T0 K hx hby hml hret hlk hown hnm hZ X0 e0 hK
  have N0 := Fr.nil n0
  refine Rch.cast (ef_rk1 m p1 p2) ?_
  refine Rch.of (T' := T0) (g' := (mkF m 1 #[.val (.long p1), .second, .val (.int p2)] [(.long p1)])) (fun _ kt => XS.lloadN X0.here hx rfl (hb hby d_method_3_code_0) rfl  kt) ?_
  refine Rch.of (T' := T0) (g' := (mkF m 3 #[.val (.long p1), .second, .val (.int p2)] [(.int (8 : Int32)), (.long p1)])) (fun _ kt => XS.bipush X0.here hx rfl (hb hby d_method_3_code_1) kt) ?_
  refine Rch.of (T' := T0) (g' := (mkF m 4 #[.val (.long p1), .second, .val (.int p2)] [(.int p2), (.int (8 : Int32)), (.long p1)])) (fun _ kt => XS.iloadN X0.here hx rfl (hb hby d_method_3_code_3) rfl  kt) ?_
  refine Rch.of (T' := T0) (g' := (mkF m 5 #[.val (.long p1), .second, .val (.int p2)] [(.int ((8 : Int32) * p2)), (.long p1)])) (fun _ kt => XS.imul X0.here hx rfl (hb hby d_method_3_code_4) rfl kt) ?_
  refine Rch.of (T' := T0) (g' := (mkF m 6 #[.val (.long p1), .second, .val (.int p2)] [(.long ((p1.toUInt64 >>> (((8 : Int32) * p2) &&& 0x3f).toInt64.toUInt64).toInt64))])) (fun _ kt => XS.lushr X0.here hx rfl (hb hby d_method_3_code_5) rfl kt) ?_
  refine Rch.of (T' := T0) (g' := (mkF m 9 #[.val (.long p1), .second, .val (.int p2)] [(.long (255 : Int64)), (.long ((p1.toUInt64 >>> (((8 : Int32) * p2) &&& 0x3f).toInt64.toUInt64).toInt64))])) (X0.ldc2Long hx hown (mvT hZ (hw _ (List.mem_of_getElem? (i := 8) rfl))) (g := (mkF m 6 #[.val (.long p1), .second, .val (.int p2)] [(.long ((p1.toUInt64 >>> (((8 : Int32) * p2) &&& 0x3f).toInt64.toUInt64).toInt64))])) rfl (hb hby d_method_3_code_6)) ?_
  refine Rch.of (T' := T0) (g' := (mkF m 10 #[.val (.long p1), .second, .val (.int p2)] [(.long (((p1.toUInt64 >>> (((8 : Int32) * p2) &&& 0x3f).toInt64.toUInt64).toInt64) &&& (255 : Int64)))])) (fun _ kt => XS.land X0.here hx rfl (hb hby d_method_3_code_9) rfl kt) ?_
  refine Rch.of (T' := T0) (g' := (mkF m 11 #[.val (.long p1), .second, .val (.int p2)] [(.int ((((p1.toUInt64 >>> (((8 : Int32) * p2) &&& 0x3f).toInt64.toUInt64).toInt64) &&& (255 : Int64)).toInt32))])) (fun _ kt => XS.l2i X0.here hx rfl (hb hby d_method_3_code_10) rfl kt) ?_
  refine Rch.of (T' := T0) (g' := (mkF m 12 #[.val (.long p1), .second, .val (.int p2)] [(.int (((((p1.toUInt64 >>> (((8 : Int32) * p2) &&& 0x3f).toInt64.toUInt64).toInt64) &&& (255 : Int64)).toInt32).toUInt32.toUInt16.toUInt32.toInt32))])) (fun _ kt => XS.i2c X0.here hx rfl (hb hby d_method_3_code_11) rfl kt) ?_
  exact Rch.retN X0 hx (t := .char) hret (by simp) hlk (hb hby d_method_3_code_12) (fun U hU hF => hK _ U _ _ _ (by show Q_rk1 Z p1 p2 h0 n0 _ U.heap _; rw [hU, e0]; exact ⟨(nar .char (((((p1.toUInt64 >>> (((8 : Int32) * p2) &&& 0x3f).toInt64.toUInt64).toInt64) &&& (255 : Int64)).toInt32).toUInt32.toUInt16.toUInt32.toInt32)), rfl, N0, rfl, own_latL _⟩) hF (by decide) (by decide))
theorem ef_rk2 (m : MethodId) (p1 : Int64) : entryFrame m #[(.long p1), (.int (Int32.ofNat k))] 4 = mkF m 0 #[.val (.long p1), .second, .val (.int (Int32.ofNat k)), .unset] [] := by first | (simp [entryFrame, mkF, argsToLocals, Value.category]; done) | rfl
def Q_rk2 (Z : State) (p1 : Int64) (k : Nat) (cs : Int32) (h0 : Heap) (n0 : Nat) (vv_ : Option Value) (h : Heap) (LL_ : List Loc) : Prop := ∃ r : Addr, ∃ b : Addr, ∃ t : Nat → Int32, ∃ nn : Nat, vv_ = some (.ref r) ∧ Fr n0 LL_ ∧ (Keep h0 h [] ∧ Exa Z h r "java/lang/String" ∧ Fld Z h r "java/lang/String" "coder" "B" (.int (0 : Int32)) ∧ Fld Z h r "java/lang/String" "value" "[B" (.ref b) ∧ Av Z h b .byte nn (fun q => .int ((t q).toInt8.toInt32)) ∧ own_ch nn t ∧ nn ≤ 7)
theorem d_method_4_code_0 : decode method_4_code 0 = .ok (.iload_n 2, 1) := by decide +kernel
theorem d_method_4_code_1 : decode method_4_code 1 = .ok (.newarray .char, 2) := by decide +kernel
theorem d_method_4_code_3 : decode method_4_code 3 = .ok (.astore_n 3, 1) := by decide +kernel
theorem d_method_4_code_4 : decode method_4_code 4 = .ok (.iload_n 2, 1) := by decide +kernel
theorem d_method_4_code_5 : decode method_4_code 5 = .ok (.ifCond .le 11, 3) := by decide +kernel
theorem d_method_4_code_8 : decode method_4_code 8 = .ok (.aload_n 3, 1) := by decide +kernel
theorem d_method_4_code_9 : decode method_4_code 9 = .ok (.iconst 0, 1) := by decide +kernel
theorem d_method_4_code_10 : decode method_4_code 10 = .ok (.lload_n 0, 1) := by decide +kernel
theorem d_method_4_code_11 : decode method_4_code 11 = .ok (.iconst 0, 1) := by decide +kernel
theorem d_method_4_code_12 : decode method_4_code 12 = .ok (.invokestatic 52, 3) := by decide +kernel
theorem d_method_4_code_15 : decode method_4_code 15 = .ok (.castore, 1) := by decide +kernel
theorem d_method_4_code_16 : decode method_4_code 16 = .ok (.iload_n 2, 1) := by decide +kernel
theorem d_method_4_code_17 : decode method_4_code 17 = .ok (.iconst 1, 1) := by decide +kernel
theorem d_method_4_code_18 : decode method_4_code 18 = .ok (.if_icmp .le 11, 3) := by decide +kernel
theorem d_method_4_code_21 : decode method_4_code 21 = .ok (.aload_n 3, 1) := by decide +kernel
theorem d_method_4_code_22 : decode method_4_code 22 = .ok (.iconst 1, 1) := by decide +kernel
theorem d_method_4_code_23 : decode method_4_code 23 = .ok (.lload_n 0, 1) := by decide +kernel
theorem d_method_4_code_24 : decode method_4_code 24 = .ok (.iconst 1, 1) := by decide +kernel
theorem d_method_4_code_25 : decode method_4_code 25 = .ok (.invokestatic 52, 3) := by decide +kernel
theorem d_method_4_code_28 : decode method_4_code 28 = .ok (.castore, 1) := by decide +kernel
theorem d_method_4_code_29 : decode method_4_code 29 = .ok (.iload_n 2, 1) := by decide +kernel
theorem d_method_4_code_30 : decode method_4_code 30 = .ok (.iconst 2, 1) := by decide +kernel
theorem d_method_4_code_31 : decode method_4_code 31 = .ok (.if_icmp .le 11, 3) := by decide +kernel
theorem d_method_4_code_34 : decode method_4_code 34 = .ok (.aload_n 3, 1) := by decide +kernel
theorem d_method_4_code_35 : decode method_4_code 35 = .ok (.iconst 2, 1) := by decide +kernel
theorem d_method_4_code_36 : decode method_4_code 36 = .ok (.lload_n 0, 1) := by decide +kernel
theorem d_method_4_code_37 : decode method_4_code 37 = .ok (.iconst 2, 1) := by decide +kernel
theorem d_method_4_code_38 : decode method_4_code 38 = .ok (.invokestatic 52, 3) := by decide +kernel
theorem d_method_4_code_41 : decode method_4_code 41 = .ok (.castore, 1) := by decide +kernel
theorem d_method_4_code_42 : decode method_4_code 42 = .ok (.iload_n 2, 1) := by decide +kernel
theorem d_method_4_code_43 : decode method_4_code 43 = .ok (.iconst 3, 1) := by decide +kernel
theorem d_method_4_code_44 : decode method_4_code 44 = .ok (.if_icmp .le 11, 3) := by decide +kernel
theorem d_method_4_code_47 : decode method_4_code 47 = .ok (.aload_n 3, 1) := by decide +kernel
theorem d_method_4_code_48 : decode method_4_code 48 = .ok (.iconst 3, 1) := by decide +kernel
theorem d_method_4_code_49 : decode method_4_code 49 = .ok (.lload_n 0, 1) := by decide +kernel
theorem d_method_4_code_50 : decode method_4_code 50 = .ok (.iconst 3, 1) := by decide +kernel
theorem d_method_4_code_51 : decode method_4_code 51 = .ok (.invokestatic 52, 3) := by decide +kernel
theorem d_method_4_code_54 : decode method_4_code 54 = .ok (.castore, 1) := by decide +kernel
theorem d_method_4_code_55 : decode method_4_code 55 = .ok (.iload_n 2, 1) := by decide +kernel
theorem d_method_4_code_56 : decode method_4_code 56 = .ok (.iconst 4, 1) := by decide +kernel
theorem d_method_4_code_57 : decode method_4_code 57 = .ok (.if_icmp .le 11, 3) := by decide +kernel
theorem d_method_4_code_60 : decode method_4_code 60 = .ok (.aload_n 3, 1) := by decide +kernel
theorem d_method_4_code_61 : decode method_4_code 61 = .ok (.iconst 4, 1) := by decide +kernel
theorem d_method_4_code_62 : decode method_4_code 62 = .ok (.lload_n 0, 1) := by decide +kernel
theorem d_method_4_code_63 : decode method_4_code 63 = .ok (.iconst 4, 1) := by decide +kernel
theorem d_method_4_code_64 : decode method_4_code 64 = .ok (.invokestatic 52, 3) := by decide +kernel
theorem d_method_4_code_67 : decode method_4_code 67 = .ok (.castore, 1) := by decide +kernel
theorem d_method_4_code_68 : decode method_4_code 68 = .ok (.iload_n 2, 1) := by decide +kernel
theorem d_method_4_code_69 : decode method_4_code 69 = .ok (.iconst 5, 1) := by decide +kernel
theorem d_method_4_code_70 : decode method_4_code 70 = .ok (.if_icmp .le 11, 3) := by decide +kernel
theorem d_method_4_code_73 : decode method_4_code 73 = .ok (.aload_n 3, 1) := by decide +kernel
theorem d_method_4_code_74 : decode method_4_code 74 = .ok (.iconst 5, 1) := by decide +kernel
theorem d_method_4_code_75 : decode method_4_code 75 = .ok (.lload_n 0, 1) := by decide +kernel
theorem d_method_4_code_76 : decode method_4_code 76 = .ok (.iconst 5, 1) := by decide +kernel
theorem d_method_4_code_77 : decode method_4_code 77 = .ok (.invokestatic 52, 3) := by decide +kernel
theorem d_method_4_code_80 : decode method_4_code 80 = .ok (.castore, 1) := by decide +kernel
theorem d_method_4_code_81 : decode method_4_code 81 = .ok (.iload_n 2, 1) := by decide +kernel
theorem d_method_4_code_82 : decode method_4_code 82 = .ok (.bipush 6, 2) := by decide +kernel
theorem d_method_4_code_84 : decode method_4_code 84 = .ok (.if_icmp .le 13, 3) := by decide +kernel
theorem d_method_4_code_87 : decode method_4_code 87 = .ok (.aload_n 3, 1) := by decide +kernel
theorem d_method_4_code_88 : decode method_4_code 88 = .ok (.bipush 6, 2) := by decide +kernel
theorem d_method_4_code_90 : decode method_4_code 90 = .ok (.lload_n 0, 1) := by decide +kernel
theorem d_method_4_code_91 : decode method_4_code 91 = .ok (.bipush 6, 2) := by decide +kernel
theorem d_method_4_code_93 : decode method_4_code 93 = .ok (.invokestatic 52, 3) := by decide +kernel
theorem d_method_4_code_96 : decode method_4_code 96 = .ok (.castore, 1) := by decide +kernel
theorem d_method_4_code_97 : decode method_4_code 97 = .ok (.new 28, 3) := by decide +kernel
theorem d_method_4_code_100 : decode method_4_code 100 = .ok (.dup, 1) := by decide +kernel
theorem d_method_4_code_101 : decode method_4_code 101 = .ok (.aload_n 3, 1) := by decide +kernel
theorem d_method_4_code_102 : decode method_4_code 102 = .ok (.invokespecial 56, 3) := by decide +kernel
theorem d_method_4_code_105 : decode method_4_code 105 = .ok (.areturn, 1) := by decide +kernel
set_option maxRecDepth 65536 in
set_option maxHeartbeats 40000000 in
theorem rk2 (l : Launch) (Z : State) (a0 : Array Value) (hw : ∀ d ∈ tables_1, d.before a0 Z = true) (ws : List Jvm.Cond) (p1 : Int64) (k : Nat) (cs : Int32) (h0 : Heap) (n0 : Nat) (Z0 : n0 ≤ h0.size) (hk : k ≤ 7) (SC : Sta Z h0 "java/lang/String" "COMPACT_STRINGS" "Z" (.int cs)) (hcs : ¬ cs = (0 : Int32)) :
    MetFree l (⟨"com/example/isidore/isidore/SeverityLabelledPinLaw", "drawn", "(JI)Ljava/lang/String;"⟩ : MethodName) (head1 (Jvm.Cond.code (⟨"com/example/isidore/isidore/SeverityLabelledPinLaw", "drawn", "(JI)Ljava/lang/String;"⟩ : MethodName) method_4_code 4 (some (.object "java/lang/String")) :: ws) ({ frames := 4, cells := 6, slots := 19, locals := 66 } : Room)) (fun aa_ UU_ => aa_ = #[(.long p1), (.int (Int32.ofNat k))] ∧ Z.Warmed39 UU_.vm ∧ UU_.heap = h0 ∧ CHv Z consts_1 UU_.vm h0) (fun _ _ _ _ _ => True) (fun _ UU_ oo_ VV_ => ∃ vv_ LL_, oo_ = .returned vv_ ∧ Q_rk2 Z p1 k cs h0 n0 vv_ VV_.heap LL_ ∧ CHr Z consts_1 UU_.vm UU_.heap VV_.vm VV_.heap ∧ ReturnedEndW UU_ oo_ VV_ LL_ ({ frames := 4, cells := 6, slots := 19, locals := 66 } : Room).cells ({ frames := 4, cells := 6, slots := 19, locals := 66 } : Room).slots) := by
  refine own_metH (y := (⟨"com/example/isidore/isidore/SeverityLabelledPinLaw", "drawn", "(JI)Ljava/lang/String;"⟩ : MethodName)) (plainFor_of_name pn_4) ?_
  intro p e s m below meth c T0 K hx hby hml hret hlk hown hnm hZ X0 e0 C0 hK
  have N0 := Fr.nil n0
  have R0 := CHr.refl C0
  have hEL := own_EW hw
  have hS0 : s.Since s.vm 0 := (State.WarmedH.refl s).since 0
  have hk0 : 0 ≤ h0.size := Nat.zero_le _
  have wS : ∀ d ∈ Bundle.stringAtoms, d.before a0 Z = true := fun d hd => hw d ((by decide +kernel : ∀ d ∈ Bundle.stringAtoms, d ∈ tables_1) d hd)
  change Stand p l e ({ frames := 4, cells := 6, slots := 19, locals := 66 } : Room) (s.setVm s.vm) m #[(.long p1), (.int (Int32.ofNat k))] below meth c T0 [] 0 0 at X0
  change Z.Warmed39 (s.setVm s.vm).vm at hZ
  change (s.setVm s.vm).vm.findClass _ = some m.cls at hown
  refine Rch.cast (ef_rk2 m p1) ?_
  rcases (show k = 0 ∨ k = 1 ∨ k = 2 ∨ k = 3 ∨ k = 4 ∨ k = 5 ∨ k = 6 ∨ k = 7 by omega) with ek | ek | ek | ek | ek | ek | ek | ek
  · skip
    have sw182 : (Int32.ofNat k) = (0 : Int32) := by rw [ek]; rfl
    rw [sw182]
    show Rch p e below K T0 (mkF m 0 #[.val (.long p1), .second, .val (.int (0 : Int32)), .unset] [])
    refine Rch.of (T' := T0) (g' := (mkF m 1 #[.val (.long p1), .second, .val (.int (0 : Int32)), .unset] [(.int (0 : Int32))])) (fun _ kt => XS.iloadN X0.here hx rfl (hb hby d_method_4_code_0) rfl  kt) ?_
    obtain ⟨T183, h183, k183, X183, e183, E183, A183, Q183, st183⟩ := newPE X0 hx hZ (hw _ (List.mem_of_getElem? (i := 4) rfl)) e0 (g := (mkF m 1 #[.val (.long p1), .second, .val (.int (0 : Int32)), .unset] [(.int (0 : Int32))])) rfl (hb hby d_method_4_code_1) rfl (by decide) (cap := 0) (by decide) (by decide) (by decide) (by decide) (ad := "[C") rfl
    obtain ⟨b183, g183⟩ : ∃ zz_, zz_ = h0.size := ⟨_, rfl⟩
    have ge_b183 : n0 ≤ b183 := Nat.le_trans Z0 (Nat.le_of_eq g183.symm)
    have sz_b183 : h0.size ≤ b183 := Nat.le_trans (Keep.refl h0 []).1 (Nat.le_of_eq g183.symm)
    rw [← g183] at A183 Q183 st183
    have V183 : Av Z h183 b183 .char 0 (fun _ => (.int (0 : Int32))) := Av.new A183 (by decide)
    refine Rch.of (T' := T183) (g' := (mkF m 3 #[.val (.long p1), .second, .val (.int (0 : Int32)), .unset] [(.ref b183)])) st183 ?_
    refine Rch.of (T' := T183) (g' := (mkF m 4 #[.val (.long p1), .second, .val (.int (0 : Int32)), .val (.ref b183)] [])) (fun _ kt => XS.astoreN X183.here hx rfl (hb hby d_method_4_code_3) rfl rfl (l' := #[.val (.long p1), .second, .val (.int (0 : Int32)), .val (.ref b183)]) rfl kt) ?_
    refine Rch.of (T' := T183) (g' := (mkF m 5 #[.val (.long p1), .second, .val (.int (0 : Int32)), .val (.ref b183)] [(.int (0 : Int32))])) (fun _ kt => XS.iloadN X183.here hx rfl (hb hby d_method_4_code_4) rfl  kt) ?_
    refine Rch.of (T' := T183) (g' := (mkF m 16 #[.val (.long p1), .second, .val (.int (0 : Int32)), .val (.ref b183)] [])) (fun _ kt => XS.ifYes X183.here hx rfl (pc0 := 5) (pc' := 16) rfl (hb hby d_method_4_code_5) rfl ((if0 _ _).trans (flt ((by decide) : ¬ ((0 : Int32) < (0 : Int32)))).2.2.2) (by decide) (by decide) kt) ?_
    refine Rch.of (T' := T183) (g' := (mkF m 17 #[.val (.long p1), .second, .val (.int (0 : Int32)), .val (.ref b183)] [(.int (0 : Int32))])) (fun _ kt => XS.iloadN X183.here hx rfl (hb hby d_method_4_code_16) rfl  kt) ?_
    refine Rch.of (T' := T183) (g' := (mkF m 18 #[.val (.long p1), .second, .val (.int (0 : Int32)), .val (.ref b183)] [(.int (1 : Int32)), (.int (0 : Int32))])) (fun _ kt => XS.iconst X183.here hx rfl (hb hby d_method_4_code_17) kt) ?_
    refine Rch.of (T' := T183) (g' := (mkF m 29 #[.val (.long p1), .second, .val (.int (0 : Int32)), .val (.ref b183)] [])) (fun _ kt => XS.icmpYes X183.here hx rfl (pc0 := 18) (pc' := 29) rfl (hb hby d_method_4_code_18) rfl (flt ((by decide) : ¬ ((1 : Int32) < (0 : Int32)))).2.2.2 (by decide) (by decide) kt) ?_
    refine Rch.of (T' := T183) (g' := (mkF m 30 #[.val (.long p1), .second, .val (.int (0 : Int32)), .val (.ref b183)] [(.int (0 : Int32))])) (fun _ kt => XS.iloadN X183.here hx rfl (hb hby d_method_4_code_29) rfl  kt) ?_
    refine Rch.of (T' := T183) (g' := (mkF m 31 #[.val (.long p1), .second, .val (.int (0 : Int32)), .val (.ref b183)] [(.int (2 : Int32)), (.int (0 : Int32))])) (fun _ kt => XS.iconst X183.here hx rfl (hb hby d_method_4_code_30) kt) ?_
    refine Rch.of (T' := T183) (g' := (mkF m 42 #[.val (.long p1), .second, .val (.int (0 : Int32)), .val (.ref b183)] [])) (fun _ kt => XS.icmpYes X183.here hx rfl (pc0 := 31) (pc' := 42) rfl (hb hby d_method_4_code_31) rfl (flt ((by decide) : ¬ ((2 : Int32) < (0 : Int32)))).2.2.2 (by decide) (by decide) kt) ?_
    refine Rch.of (T' := T183) (g' := (mkF m 43 #[.val (.long p1), .second, .val (.int (0 : Int32)), .val (.ref b183)] [(.int (0 : Int32))])) (fun _ kt => XS.iloadN X183.here hx rfl (hb hby d_method_4_code_42) rfl  kt) ?_
    refine Rch.of (T' := T183) (g' := (mkF m 44 #[.val (.long p1), .second, .val (.int (0 : Int32)), .val (.ref b183)] [(.int (3 : Int32)), (.int (0 : Int32))])) (fun _ kt => XS.iconst X183.here hx rfl (hb hby d_method_4_code_43) kt) ?_
    refine Rch.of (T' := T183) (g' := (mkF m 55 #[.val (.long p1), .second, .val (.int (0 : Int32)), .val (.ref b183)] [])) (fun _ kt => XS.icmpYes X183.here hx rfl (pc0 := 44) (pc' := 55) rfl (hb hby d_method_4_code_44) rfl (flt ((by decide) : ¬ ((3 : Int32) < (0 : Int32)))).2.2.2 (by decide) (by decide) kt) ?_
    refine Rch.of (T' := T183) (g' := (mkF m 56 #[.val (.long p1), .second, .val (.int (0 : Int32)), .val (.ref b183)] [(.int (0 : Int32))])) (fun _ kt => XS.iloadN X183.here hx rfl (hb hby d_method_4_code_55) rfl  kt) ?_
    refine Rch.of (T' := T183) (g' := (mkF m 57 #[.val (.long p1), .second, .val (.int (0 : Int32)), .val (.ref b183)] [(.int (4 : Int32)), (.int (0 : Int32))])) (fun _ kt => XS.iconst X183.here hx rfl (hb hby d_method_4_code_56) kt) ?_
    refine Rch.of (T' := T183) (g' := (mkF m 68 #[.val (.long p1), .second, .val (.int (0 : Int32)), .val (.ref b183)] [])) (fun _ kt => XS.icmpYes X183.here hx rfl (pc0 := 57) (pc' := 68) rfl (hb hby d_method_4_code_57) rfl (flt ((by decide) : ¬ ((4 : Int32) < (0 : Int32)))).2.2.2 (by decide) (by decide) kt) ?_
    refine Rch.of (T' := T183) (g' := (mkF m 69 #[.val (.long p1), .second, .val (.int (0 : Int32)), .val (.ref b183)] [(.int (0 : Int32))])) (fun _ kt => XS.iloadN X183.here hx rfl (hb hby d_method_4_code_68) rfl  kt) ?_
    refine Rch.of (T' := T183) (g' := (mkF m 70 #[.val (.long p1), .second, .val (.int (0 : Int32)), .val (.ref b183)] [(.int (5 : Int32)), (.int (0 : Int32))])) (fun _ kt => XS.iconst X183.here hx rfl (hb hby d_method_4_code_69) kt) ?_
    refine Rch.of (T' := T183) (g' := (mkF m 81 #[.val (.long p1), .second, .val (.int (0 : Int32)), .val (.ref b183)] [])) (fun _ kt => XS.icmpYes X183.here hx rfl (pc0 := 70) (pc' := 81) rfl (hb hby d_method_4_code_70) rfl (flt ((by decide) : ¬ ((5 : Int32) < (0 : Int32)))).2.2.2 (by decide) (by decide) kt) ?_
    refine Rch.of (T' := T183) (g' := (mkF m 82 #[.val (.long p1), .second, .val (.int (0 : Int32)), .val (.ref b183)] [(.int (0 : Int32))])) (fun _ kt => XS.iloadN X183.here hx rfl (hb hby d_method_4_code_81) rfl  kt) ?_
    refine Rch.of (T' := T183) (g' := (mkF m 84 #[.val (.long p1), .second, .val (.int (0 : Int32)), .val (.ref b183)] [(.int (6 : Int32)), (.int (0 : Int32))])) (fun _ kt => XS.bipush X183.here hx rfl (hb hby d_method_4_code_82) kt) ?_
    refine Rch.of (T' := T183) (g' := (mkF m 97 #[.val (.long p1), .second, .val (.int (0 : Int32)), .val (.ref b183)] [])) (fun _ kt => XS.icmpYes X183.here hx rfl (pc0 := 84) (pc' := 97) rfl (hb hby d_method_4_code_84) rfl (flt ((by decide) : ¬ ((6 : Int32) < (0 : Int32)))).2.2.2 (by decide) (by decide) kt) ?_
    obtain ⟨T184, h184, X184, e184, E184, A184, D184, -, st184⟩ := newO X183 hx hZ hown (hw _ (List.mem_of_getElem? (i := 9) rfl)) (hw _ (List.mem_of_getElem? (i := 10) rfl)) (hw _ (List.mem_of_getElem? (i := 11) rfl)) e183 (g := (mkF m 97 #[.val (.long p1), .second, .val (.int (0 : Int32)), .val (.ref b183)] [])) rfl (hb hby d_method_4_code_97) (by decide) (by decide)
    obtain ⟨b184, g184⟩ : ∃ zz_, zz_ = h183.size := ⟨_, rfl⟩
    have ne_b183_b184 : b183 ≠ b184 := Nat.ne_of_lt (Nat.lt_of_lt_of_le Q183.lt (Nat.le_of_eq g184.symm))
    have ge_b184 : n0 ≤ b184 := Nat.le_trans (Nat.le_trans Z0 E183.1) (Nat.le_of_eq g184.symm)
    have sz_b184 : h0.size ≤ b184 := Nat.le_trans ((Keep.refl h0 []).ext E183).1 (Nat.le_of_eq g184.symm)
    rw [← g184] at A184 D184 st184
    have F184_coder : Fld Z h184 b184 "java/lang/String" "coder" "B" (.int (0 : Int32)) := D184 (Or.inr (hw _ (List.mem_of_getElem? (i := 35) rfl))) (ty := .byte) (by decide)
    have F184_value : Fld Z h184 b184 "java/lang/String" "value" "[B" .null := D184 (Or.inr (hw _ (List.mem_of_getElem? (i := 37) rfl))) (ty := (.array .byte)) (by decide)
    refine Rch.of (T' := T184) (g' := (mkF m 100 #[.val (.long p1), .second, .val (.int (0 : Int32)), .val (.ref b183)] [(.ref b184)])) st184 ?_
    refine Rch.of (T' := T184) (g' := (mkF m 101 #[.val (.long p1), .second, .val (.int (0 : Int32)), .val (.ref b183)] [(.ref b184), (.ref b184)])) (fun _ kt => XS.dup X184.here hx rfl (hb hby d_method_4_code_100) rfl rfl kt) ?_
    refine Rch.of (T' := T184) (g' := (mkF m 102 #[.val (.long p1), .second, .val (.int (0 : Int32)), .val (.ref b183)] [(.ref b183), (.ref b184), (.ref b184)])) (fun _ kt => XS.aloadN X184.here hx rfl (hb hby d_method_4_code_101) rfl rfl kt) ?_
    have pr186 : 0 ≤ 7 := by omega
    have hch187 : own_ch 0 (fun _ => (0 : Int32)) := fun q hq => absurd hq (Nat.not_lt_zero q)
    obtain ⟨_, _, ⟨T185, L185, k185, n185⟩, -, X185, hT185, gr185, ⟨Lc185, hQ185, l185, y185, z185, cr185⟩, st185⟩ := X184.specialBackS hx (y := (⟨"java/lang/String", "<init>", "([C)V"⟩ : MethodName)) rfl hown (mvT hZ (hw _ (List.mem_of_getElem? (i := 12) rfl))) (mvT hZ (hw _ (List.mem_of_getElem? (i := 13) rfl))) (mvT hZ (hw _ (List.mem_of_getElem? (i := 14) rfl))) (by decide) (backOfSH (s := s) (vm0 := s.vm) (EL := consts_1) (W := 1) (rqN1 l Z a0 hw [] b184 b183 0 (fun _ => (0 : Int32)) (.int (0 : Int32)) cs h184 n0 (Nat.le_trans (Nat.le_trans Z0 E183.1) E184.1) A184 F184_coder F184_value ge_b184 (V183.ext E184) ((SC.ext E183).ext E184) hcs pr186 hch187) hZ (hw _ (List.mem_of_getElem? (i := 14) rfl)) (hw _ (List.mem_of_getElem? (i := 11) rfl)) (by decide) (by decide) hEL ((R0.trans (CHr.ext E183 R0.1)).trans (CHr.ext E184 (R0.trans (CHr.ext E183 R0.1)).1)).1) (g := (mkF m 102 #[.val (.long p1), .second, .val (.int (0 : Int32)), .val (.ref b183)] [(.ref b183), (.ref b184), (.ref b184)])) rfl (by rw [hml]; rfl) (Steps.refl _) (a := b184) (argsL := [(.ref b183)]) (rest := [(.ref b184)]) (lenOf pd_2 rfl) rfl (by show 2 * 0 + _ ≤ _; exact Nat.le_of_eq rfl) (hb hby d_method_4_code_102) (fun _ _ => ⟨rfl, e184, (by decide : 2 + 4 ≤ _), (by decide : 4 + 8 ≤ _)⟩)
    dsimp only [Pt.U, Pt.locs, Pt.cells, Pt.slots] at X185 hT185 gr185 l185 y185 z185 st185 hQ185 cr185
    subst l185 y185 z185
    obtain ⟨X185, hS185, hZ, hown⟩ := rebS hS0 (Nat.le_trans (Nat.le_trans hk0 E183.1) E184.1) X185 hT185 (by rw [← e184]; exact gr185) hZ hown
    obtain ⟨rb185, rfl, N185q, hQ185⟩ := hQ185
    have N185 := Fr.app N0 N185q
    obtain ⟨K185, Ex185, Fa185, Fb185, V185⟩ := hQ185
    refine Rch.via (T' := T185) (g' := (mkF m 105 #[.val (.long p1), .second, .val (.int (0 : Int32)), .val (.ref b183)] [(.ref b184)])) st185 ?_
    exact Rch.retA X185 hx (w := (.ref b184)) hret rfl rfl hlk (hb hby d_method_4_code_105) (fun U hU hF => hK _ U _ _ _ (by show Q_rk2 Z p1 k cs h0 n0 _ U.heap _; rw [hU]; exact ⟨b184, rb185, (fun _ => (0 : Int32)), 0, rfl, N185, ((((Keep.refl h0 []).ext E183).ext E184).trans K185 (allS (Or.inr sz_b184) all0)), Ex185, Fa185, Fb185, V185, hch187, by decide⟩) (own_endH hZ hEL (((R0.trans (CHr.ext E183 R0.1)).trans (CHr.ext E184 (R0.trans (CHr.ext E183 R0.1)).1)).trans cr185) hU hF) (own_end hS185 (by rw [hU]; exact (Nat.le_refl _)) hF) (by decide) (by decide))
  · skip
    have sw188 : (Int32.ofNat k) = (1 : Int32) := by rw [ek]; rfl
    rw [sw188]
    show Rch p e below K T0 (mkF m 0 #[.val (.long p1), .second, .val (.int (1 : Int32)), .unset] [])
    refine Rch.of (T' := T0) (g' := (mkF m 1 #[.val (.long p1), .second, .val (.int (1 : Int32)), .unset] [(.int (1 : Int32))])) (fun _ kt => XS.iloadN X0.here hx rfl (hb hby d_method_4_code_0) rfl  kt) ?_
    obtain ⟨T189, h189, k189, X189, e189, E189, A189, Q189, st189⟩ := newPE X0 hx hZ (hw _ (List.mem_of_getElem? (i := 4) rfl)) e0 (g := (mkF m 1 #[.val (.long p1), .second, .val (.int (1 : Int32)), .unset] [(.int (1 : Int32))])) rfl (hb hby d_method_4_code_1) rfl (by decide) (cap := 1) (by decide) (by decide) (by decide) (by decide) (ad := "[C") rfl
    obtain ⟨b189, g189⟩ : ∃ zz_, zz_ = h0.size := ⟨_, rfl⟩
    have ge_b189 : n0 ≤ b189 := Nat.le_trans Z0 (Nat.le_of_eq g189.symm)
    have sz_b189 : h0.size ≤ b189 := Nat.le_trans (Keep.refl h0 []).1 (Nat.le_of_eq g189.symm)
    rw [← g189] at A189 Q189 st189
    have V189 : Av Z h189 b189 .char 1 (fun _ => (.int (0 : Int32))) := Av.new A189 (by decide)
    refine Rch.of (T' := T189) (g' := (mkF m 3 #[.val (.long p1), .second, .val (.int (1 : Int32)), .unset] [(.ref b189)])) st189 ?_
    refine Rch.of (T' := T189) (g' := (mkF m 4 #[.val (.long p1), .second, .val (.int (1 : Int32)), .val (.ref b189)] [])) (fun _ kt => XS.astoreN X189.here hx rfl (hb hby d_method_4_code_3) rfl rfl (l' := #[.val (.long p1), .second, .val (.int (1 : Int32)), .val (.ref b189)]) rfl kt) ?_
    refine Rch.of (T' := T189) (g' := (mkF m 5 #[.val (.long p1), .second, .val (.int (1 : Int32)), .val (.ref b189)] [(.int (1 : Int32))])) (fun _ kt => XS.iloadN X189.here hx rfl (hb hby d_method_4_code_4) rfl  kt) ?_
    refine Rch.of (T' := T189) (g' := (mkF m 8 #[.val (.long p1), .second, .val (.int (1 : Int32)), .val (.ref b189)] [])) (fun _ kt => XS.ifNo X189.here hx rfl (hb hby d_method_4_code_5) rfl ((if0 _ _).trans (tlt ((by decide) : (0 : Int32) < (1 : Int32))).2.2.2) kt) ?_
    refine Rch.of (T' := T189) (g' := (mkF m 9 #[.val (.long p1), .second, .val (.int (1 : Int32)), .val (.ref b189)] [(.ref b189)])) (fun _ kt => XS.aloadN X189.here hx rfl (hb hby d_method_4_code_8) rfl rfl kt) ?_
    refine Rch.of (T' := T189) (g' := (mkF m 10 #[.val (.long p1), .second, .val (.int (1 : Int32)), .val (.ref b189)] [(.int (0 : Int32)), (.ref b189)])) (fun _ kt => XS.iconst X189.here hx rfl (hb hby d_method_4_code_9) kt) ?_
    refine Rch.of (T' := T189) (g' := (mkF m 11 #[.val (.long p1), .second, .val (.int (1 : Int32)), .val (.ref b189)] [(.long p1), (.int (0 : Int32)), (.ref b189)])) (fun _ kt => XS.lloadN X189.here hx rfl (hb hby d_method_4_code_10) rfl  kt) ?_
    refine Rch.of (T' := T189) (g' := (mkF m 12 #[.val (.long p1), .second, .val (.int (1 : Int32)), .val (.ref b189)] [(.int (0 : Int32)), (.long p1), (.int (0 : Int32)), (.ref b189)])) (fun _ kt => XS.iconst X189.here hx rfl (hb hby d_method_4_code_11) kt) ?_
    obtain ⟨_, _, ⟨T190, L190, k190, n190⟩, -, X190, ⟨Lc190, hQ190, l190, y190, z190⟩, st190⟩ := Jvm.LawKit.callS X189 hx (y := (⟨"com/example/isidore/isidore/SeverityLabelledPinLaw", "at", "(JI)C"⟩ : MethodName)) hown (mvT hZ (hw _ (List.mem_of_getElem? (i := 5) rfl))) (mvT hZ (hw _ (List.mem_of_getElem? (i := 6) rfl))) (mvT hZ (hw _ (List.mem_of_getElem? (i := 2) rfl))) (mvT hZ (hw _ (List.mem_of_getElem? (i := 7) rfl))) (by decide) (backOf (W := 2) (rk1 l Z a0 hw [] p1 (0 : Int32) h189 n0 (Nat.le_trans Z0 E189.1) ) hZ (hw _ (List.mem_of_getElem? (i := 7) rfl)) (hw _ (List.mem_of_getElem? (i := 2) rfl)) (by decide) (by decide)) (g := (mkF m 12 #[.val (.long p1), .second, .val (.int (1 : Int32)), .val (.ref b189)] [(.int (0 : Int32)), (.long p1), (.int (0 : Int32)), (.ref b189)])) rfl (by rw [hml]; rfl) (argsL := [(.long p1), (.int (0 : Int32))]) (rest := [(.int (0 : Int32)), (.ref b189)]) (lenOf pd_1 rfl) rfl (by show 2 * 0 + _ ≤ _; exact Nat.le_of_eq rfl) (hb hby d_method_4_code_12) (fun _ _ => ⟨rfl, e189, (by decide : 1 + 0 ≤ _), (by decide : 1 + 0 ≤ _)⟩)
    dsimp only [Pt.U, Pt.locs, Pt.cells, Pt.slots] at X190 l190 y190 z190 st190 hQ190
    subst l190 y190 z190
    obtain ⟨rt190, rfl, N190q, hQ190⟩ := hQ190
    have N190 := Fr.app N0 N190q
    obtain ⟨hh190, c1190⟩ := hQ190
    refine Rch.of (T' := T190) (g' := (mkF m 15 #[.val (.long p1), .second, .val (.int (1 : Int32)), .val (.ref b189)] [(.int rt190), (.int (0 : Int32)), (.ref b189)])) st190 ?_
    obtain ⟨cl191, Ar191, Sz191, Ha191⟩ := id V189
    obtain ⟨T191, h191, X191, e191, W191, st191⟩ := stC X190 hx hZ hh190 Ar191 (j := (0 : Int32)) (oIn (i := 0) Sz191 (by decide) (by decide)) (g := (mkF m 15 #[.val (.long p1), .second, .val (.int (1 : Int32)), .val (.ref b189)] [(.int rt190), (.int (0 : Int32)), (.ref b189)])) rfl rfl (hb hby d_method_4_code_15)
    have V191 := Av.setI (i := 0) V189 (by decide) (by decide) W191
    obtain ⟨y191, hy191⟩ : ∃ zz_ : Nat → Int32, zz_ = fun q => if q = 0 then rt190.toUInt32.toUInt16.toUInt32.toInt32 else (fun _ => (0 : Int32)) q := ⟨_, rfl⟩
    have V191 : Av Z h191 b189 .char 1 (fun q => .int (y191 q)) := by rw [hy191]; exact V191
    have N191 := Fr.snoc X191 N190 ge_b189
    have Sf192 : Safe Z consts_1 s.vm h189 b189 := (Safe.exa hZ.alike Q189 (by decide) (by decide))
    refine Rch.of (T' := T191) (g' := (mkF m 16 #[.val (.long p1), .second, .val (.int (1 : Int32)), .val (.ref b189)] [])) st191 ?_
    refine Rch.of (T' := T191) (g' := (mkF m 17 #[.val (.long p1), .second, .val (.int (1 : Int32)), .val (.ref b189)] [(.int (1 : Int32))])) (fun _ kt => XS.iloadN X191.here hx rfl (hb hby d_method_4_code_16) rfl  kt) ?_
    refine Rch.of (T' := T191) (g' := (mkF m 18 #[.val (.long p1), .second, .val (.int (1 : Int32)), .val (.ref b189)] [(.int (1 : Int32)), (.int (1 : Int32))])) (fun _ kt => XS.iconst X191.here hx rfl (hb hby d_method_4_code_17) kt) ?_
    refine Rch.of (T' := T191) (g' := (mkF m 29 #[.val (.long p1), .second, .val (.int (1 : Int32)), .val (.ref b189)] [])) (fun _ kt => XS.icmpYes X191.here hx rfl (pc0 := 18) (pc' := 29) rfl (hb hby d_method_4_code_18) rfl (flt ((by decide) : ¬ ((1 : Int32) < (1 : Int32)))).2.2.2 (by decide) (by decide) kt) ?_
    refine Rch.of (T' := T191) (g' := (mkF m 30 #[.val (.long p1), .second, .val (.int (1 : Int32)), .val (.ref b189)] [(.int (1 : Int32))])) (fun _ kt => XS.iloadN X191.here hx rfl (hb hby d_method_4_code_29) rfl  kt) ?_
    refine Rch.of (T' := T191) (g' := (mkF m 31 #[.val (.long p1), .second, .val (.int (1 : Int32)), .val (.ref b189)] [(.int (2 : Int32)), (.int (1 : Int32))])) (fun _ kt => XS.iconst X191.here hx rfl (hb hby d_method_4_code_30) kt) ?_
    refine Rch.of (T' := T191) (g' := (mkF m 42 #[.val (.long p1), .second, .val (.int (1 : Int32)), .val (.ref b189)] [])) (fun _ kt => XS.icmpYes X191.here hx rfl (pc0 := 31) (pc' := 42) rfl (hb hby d_method_4_code_31) rfl (flt ((by decide) : ¬ ((2 : Int32) < (1 : Int32)))).2.2.2 (by decide) (by decide) kt) ?_
    refine Rch.of (T' := T191) (g' := (mkF m 43 #[.val (.long p1), .second, .val (.int (1 : Int32)), .val (.ref b189)] [(.int (1 : Int32))])) (fun _ kt => XS.iloadN X191.here hx rfl (hb hby d_method_4_code_42) rfl  kt) ?_
    refine Rch.of (T' := T191) (g' := (mkF m 44 #[.val (.long p1), .second, .val (.int (1 : Int32)), .val (.ref b189)] [(.int (3 : Int32)), (.int (1 : Int32))])) (fun _ kt => XS.iconst X191.here hx rfl (hb hby d_method_4_code_43) kt) ?_
    refine Rch.of (T' := T191) (g' := (mkF m 55 #[.val (.long p1), .second, .val (.int (1 : Int32)), .val (.ref b189)] [])) (fun _ kt => XS.icmpYes X191.here hx rfl (pc0 := 44) (pc' := 55) rfl (hb hby d_method_4_code_44) rfl (flt ((by decide) : ¬ ((3 : Int32) < (1 : Int32)))).2.2.2 (by decide) (by decide) kt) ?_
    refine Rch.of (T' := T191) (g' := (mkF m 56 #[.val (.long p1), .second, .val (.int (1 : Int32)), .val (.ref b189)] [(.int (1 : Int32))])) (fun _ kt => XS.iloadN X191.here hx rfl (hb hby d_method_4_code_55) rfl  kt) ?_
    refine Rch.of (T' := T191) (g' := (mkF m 57 #[.val (.long p1), .second, .val (.int (1 : Int32)), .val (.ref b189)] [(.int (4 : Int32)), (.int (1 : Int32))])) (fun _ kt => XS.iconst X191.here hx rfl (hb hby d_method_4_code_56) kt) ?_
    refine Rch.of (T' := T191) (g' := (mkF m 68 #[.val (.long p1), .second, .val (.int (1 : Int32)), .val (.ref b189)] [])) (fun _ kt => XS.icmpYes X191.here hx rfl (pc0 := 57) (pc' := 68) rfl (hb hby d_method_4_code_57) rfl (flt ((by decide) : ¬ ((4 : Int32) < (1 : Int32)))).2.2.2 (by decide) (by decide) kt) ?_
    refine Rch.of (T' := T191) (g' := (mkF m 69 #[.val (.long p1), .second, .val (.int (1 : Int32)), .val (.ref b189)] [(.int (1 : Int32))])) (fun _ kt => XS.iloadN X191.here hx rfl (hb hby d_method_4_code_68) rfl  kt) ?_
    refine Rch.of (T' := T191) (g' := (mkF m 70 #[.val (.long p1), .second, .val (.int (1 : Int32)), .val (.ref b189)] [(.int (5 : Int32)), (.int (1 : Int32))])) (fun _ kt => XS.iconst X191.here hx rfl (hb hby d_method_4_code_69) kt) ?_
    refine Rch.of (T' := T191) (g' := (mkF m 81 #[.val (.long p1), .second, .val (.int (1 : Int32)), .val (.ref b189)] [])) (fun _ kt => XS.icmpYes X191.here hx rfl (pc0 := 70) (pc' := 81) rfl (hb hby d_method_4_code_70) rfl (flt ((by decide) : ¬ ((5 : Int32) < (1 : Int32)))).2.2.2 (by decide) (by decide) kt) ?_
    refine Rch.of (T' := T191) (g' := (mkF m 82 #[.val (.long p1), .second, .val (.int (1 : Int32)), .val (.ref b189)] [(.int (1 : Int32))])) (fun _ kt => XS.iloadN X191.here hx rfl (hb hby d_method_4_code_81) rfl  kt) ?_
    refine Rch.of (T' := T191) (g' := (mkF m 84 #[.val (.long p1), .second, .val (.int (1 : Int32)), .val (.ref b189)] [(.int (6 : Int32)), (.int (1 : Int32))])) (fun _ kt => XS.bipush X191.here hx rfl (hb hby d_method_4_code_82) kt) ?_
    refine Rch.of (T' := T191) (g' := (mkF m 97 #[.val (.long p1), .second, .val (.int (1 : Int32)), .val (.ref b189)] [])) (fun _ kt => XS.icmpYes X191.here hx rfl (pc0 := 84) (pc' := 97) rfl (hb hby d_method_4_code_84) rfl (flt ((by decide) : ¬ ((6 : Int32) < (1 : Int32)))).2.2.2 (by decide) (by decide) kt) ?_
    obtain ⟨T193, h193, X193, e193, E193, A193, D193, -, st193⟩ := newO X191 hx hZ hown (hw _ (List.mem_of_getElem? (i := 9) rfl)) (hw _ (List.mem_of_getElem? (i := 10) rfl)) (hw _ (List.mem_of_getElem? (i := 11) rfl)) e191 (g := (mkF m 97 #[.val (.long p1), .second, .val (.int (1 : Int32)), .val (.ref b189)] [])) rfl (hb hby d_method_4_code_97) (by decide) (by decide)
    obtain ⟨b193, g193⟩ : ∃ zz_, zz_ = h191.size := ⟨_, rfl⟩
    have ne_b189_b193 : b189 ≠ b193 := Nat.ne_of_lt (Nat.lt_of_lt_of_le (Q189.wr W191).lt (Nat.le_of_eq g193.symm))
    have ge_b193 : n0 ≤ b193 := Nat.le_trans (Nat.le_trans (Nat.le_trans Z0 E189.1) (Keep.of_wr W191).1) (Nat.le_of_eq g193.symm)
    have sz_b193 : h0.size ≤ b193 := Nat.le_trans (((Keep.refl h0 []).ext E189).wr W191 (Or.inr sz_b189)).1 (Nat.le_of_eq g193.symm)
    rw [← g193] at A193 D193 st193
    have Rb194 := (((R0.trans (CHr.ext E189 R0.1)).trans (CHr.wr W191 Sf192 (R0.trans (CHr.ext E189 R0.1)).1)).trans (CHr.ext E193 ((R0.trans (CHr.ext E189 R0.1)).trans (CHr.wr W191 Sf192 (R0.trans (CHr.ext E189 R0.1)).1)).1))
    have F193_coder : Fld Z h193 b193 "java/lang/String" "coder" "B" (.int (0 : Int32)) := D193 (Or.inr (hw _ (List.mem_of_getElem? (i := 35) rfl))) (ty := .byte) (by decide)
    have F193_value : Fld Z h193 b193 "java/lang/String" "value" "[B" .null := D193 (Or.inr (hw _ (List.mem_of_getElem? (i := 37) rfl))) (ty := (.array .byte)) (by decide)
    refine Rch.of (T' := T193) (g' := (mkF m 100 #[.val (.long p1), .second, .val (.int (1 : Int32)), .val (.ref b189)] [(.ref b193)])) st193 ?_
    refine Rch.of (T' := T193) (g' := (mkF m 101 #[.val (.long p1), .second, .val (.int (1 : Int32)), .val (.ref b189)] [(.ref b193), (.ref b193)])) (fun _ kt => XS.dup X193.here hx rfl (hb hby d_method_4_code_100) rfl rfl kt) ?_
    refine Rch.of (T' := T193) (g' := (mkF m 102 #[.val (.long p1), .second, .val (.int (1 : Int32)), .val (.ref b189)] [(.ref b189), (.ref b193), (.ref b193)])) (fun _ kt => XS.aloadN X193.here hx rfl (hb hby d_method_4_code_101) rfl rfl kt) ?_
    have pr196 : 1 ≤ 7 := by omega
    have hch197 : own_ch 1 y191 := by
      intro q hq
      rw [hy191]
      rcases (show q = 0 by omega) with rfl
      · exact own_c1i c1190
    obtain ⟨_, _, ⟨T195, L195, k195, n195⟩, -, X195, hT195, gr195, ⟨Lc195, hQ195, l195, y195, z195, cr195⟩, st195⟩ := X193.specialBackS hx (y := (⟨"java/lang/String", "<init>", "([C)V"⟩ : MethodName)) rfl hown (mvT hZ (hw _ (List.mem_of_getElem? (i := 12) rfl))) (mvT hZ (hw _ (List.mem_of_getElem? (i := 13) rfl))) (mvT hZ (hw _ (List.mem_of_getElem? (i := 14) rfl))) (by decide) (backOfSH (s := s) (vm0 := s.vm) (EL := consts_1) (W := 1) (rqN1 l Z a0 hw [] b193 b189 1 y191 (.int (0 : Int32)) cs h193 n0 (Nat.le_trans (Nat.le_trans (Nat.le_trans Z0 E189.1) (Keep.of_wr W191).1) E193.1) A193 F193_coder F193_value ge_b193 (V191.ext E193) (((SC.ext E189).wr W191).ext E193) hcs pr196 hch197) hZ (hw _ (List.mem_of_getElem? (i := 14) rfl)) (hw _ (List.mem_of_getElem? (i := 11) rfl)) (by decide) (by decide) hEL Rb194.1) (g := (mkF m 102 #[.val (.long p1), .second, .val (.int (1 : Int32)), .val (.ref b189)] [(.ref b189), (.ref b193), (.ref b193)])) rfl (by rw [hml]; rfl) (Steps.refl _) (a := b193) (argsL := [(.ref b189)]) (rest := [(.ref b193)]) (lenOf pd_2 rfl) rfl (by show 2 * 0 + _ ≤ _; exact Nat.le_of_eq rfl) (hb hby d_method_4_code_102) (fun _ _ => ⟨rfl, e193, (by decide : 2 + 4 ≤ _), (by decide : 5 + 8 ≤ _)⟩)
    dsimp only [Pt.U, Pt.locs, Pt.cells, Pt.slots] at X195 hT195 gr195 l195 y195 z195 st195 hQ195 cr195
    subst l195 y195 z195
    obtain ⟨X195, hS195, hZ, hown⟩ := rebS hS0 (Nat.le_trans (Nat.le_trans (Nat.le_trans hk0 E189.1) (Keep.of_wr W191).1) E193.1) X195 hT195 (by rw [← e193]; exact gr195) hZ hown
    obtain ⟨rb195, rfl, N195q, hQ195⟩ := hQ195
    have N195 := Fr.app N191 N195q
    obtain ⟨K195, Ex195, Fa195, Fb195, V195⟩ := hQ195
    refine Rch.via (T' := T195) (g' := (mkF m 105 #[.val (.long p1), .second, .val (.int (1 : Int32)), .val (.ref b189)] [(.ref b193)])) st195 ?_
    exact Rch.retA X195 hx (w := (.ref b193)) hret rfl rfl hlk (hb hby d_method_4_code_105) (fun U hU hF => hK _ U _ _ _ (by show Q_rk2 Z p1 k cs h0 n0 _ U.heap _; rw [hU]; exact ⟨b193, rb195, y191, 1, rfl, N195, (((((Keep.refl h0 []).ext E189).wr W191 (Or.inr sz_b189)).ext E193).trans K195 (allS (Or.inr sz_b193) all0)), Ex195, Fa195, Fb195, V195, hch197, by decide⟩) (own_endH hZ hEL (Rb194.trans cr195) hU hF) (own_end hS195 (by rw [hU]; exact (Nat.le_refl _)) hF) (by decide) (by decide))
  · skip
    have sw198 : (Int32.ofNat k) = (2 : Int32) := by rw [ek]; rfl
    rw [sw198]
    show Rch p e below K T0 (mkF m 0 #[.val (.long p1), .second, .val (.int (2 : Int32)), .unset] [])
    refine Rch.of (T' := T0) (g' := (mkF m 1 #[.val (.long p1), .second, .val (.int (2 : Int32)), .unset] [(.int (2 : Int32))])) (fun _ kt => XS.iloadN X0.here hx rfl (hb hby d_method_4_code_0) rfl  kt) ?_
    obtain ⟨T199, h199, k199, X199, e199, E199, A199, Q199, st199⟩ := newPE X0 hx hZ (hw _ (List.mem_of_getElem? (i := 4) rfl)) e0 (g := (mkF m 1 #[.val (.long p1), .second, .val (.int (2 : Int32)), .unset] [(.int (2 : Int32))])) rfl (hb hby d_method_4_code_1) rfl (by decide) (cap := 2) (by decide) (by decide) (by decide) (by decide) (ad := "[C") rfl
    obtain ⟨b199, g199⟩ : ∃ zz_, zz_ = h0.size := ⟨_, rfl⟩
    have ge_b199 : n0 ≤ b199 := Nat.le_trans Z0 (Nat.le_of_eq g199.symm)
    have sz_b199 : h0.size ≤ b199 := Nat.le_trans (Keep.refl h0 []).1 (Nat.le_of_eq g199.symm)
    rw [← g199] at A199 Q199 st199
    have V199 : Av Z h199 b199 .char 2 (fun _ => (.int (0 : Int32))) := Av.new A199 (by decide)
    refine Rch.of (T' := T199) (g' := (mkF m 3 #[.val (.long p1), .second, .val (.int (2 : Int32)), .unset] [(.ref b199)])) st199 ?_
    refine Rch.of (T' := T199) (g' := (mkF m 4 #[.val (.long p1), .second, .val (.int (2 : Int32)), .val (.ref b199)] [])) (fun _ kt => XS.astoreN X199.here hx rfl (hb hby d_method_4_code_3) rfl rfl (l' := #[.val (.long p1), .second, .val (.int (2 : Int32)), .val (.ref b199)]) rfl kt) ?_
    refine Rch.of (T' := T199) (g' := (mkF m 5 #[.val (.long p1), .second, .val (.int (2 : Int32)), .val (.ref b199)] [(.int (2 : Int32))])) (fun _ kt => XS.iloadN X199.here hx rfl (hb hby d_method_4_code_4) rfl  kt) ?_
    refine Rch.of (T' := T199) (g' := (mkF m 8 #[.val (.long p1), .second, .val (.int (2 : Int32)), .val (.ref b199)] [])) (fun _ kt => XS.ifNo X199.here hx rfl (hb hby d_method_4_code_5) rfl ((if0 _ _).trans (tlt ((by decide) : (0 : Int32) < (2 : Int32))).2.2.2) kt) ?_
    refine Rch.of (T' := T199) (g' := (mkF m 9 #[.val (.long p1), .second, .val (.int (2 : Int32)), .val (.ref b199)] [(.ref b199)])) (fun _ kt => XS.aloadN X199.here hx rfl (hb hby d_method_4_code_8) rfl rfl kt) ?_
    refine Rch.of (T' := T199) (g' := (mkF m 10 #[.val (.long p1), .second, .val (.int (2 : Int32)), .val (.ref b199)] [(.int (0 : Int32)), (.ref b199)])) (fun _ kt => XS.iconst X199.here hx rfl (hb hby d_method_4_code_9) kt) ?_
    refine Rch.of (T' := T199) (g' := (mkF m 11 #[.val (.long p1), .second, .val (.int (2 : Int32)), .val (.ref b199)] [(.long p1), (.int (0 : Int32)), (.ref b199)])) (fun _ kt => XS.lloadN X199.here hx rfl (hb hby d_method_4_code_10) rfl  kt) ?_
    refine Rch.of (T' := T199) (g' := (mkF m 12 #[.val (.long p1), .second, .val (.int (2 : Int32)), .val (.ref b199)] [(.int (0 : Int32)), (.long p1), (.int (0 : Int32)), (.ref b199)])) (fun _ kt => XS.iconst X199.here hx rfl (hb hby d_method_4_code_11) kt) ?_
    obtain ⟨_, _, ⟨T200, L200, k200, n200⟩, -, X200, ⟨Lc200, hQ200, l200, y200, z200⟩, st200⟩ := Jvm.LawKit.callS X199 hx (y := (⟨"com/example/isidore/isidore/SeverityLabelledPinLaw", "at", "(JI)C"⟩ : MethodName)) hown (mvT hZ (hw _ (List.mem_of_getElem? (i := 5) rfl))) (mvT hZ (hw _ (List.mem_of_getElem? (i := 6) rfl))) (mvT hZ (hw _ (List.mem_of_getElem? (i := 2) rfl))) (mvT hZ (hw _ (List.mem_of_getElem? (i := 7) rfl))) (by decide) (backOf (W := 2) (rk1 l Z a0 hw [] p1 (0 : Int32) h199 n0 (Nat.le_trans Z0 E199.1) ) hZ (hw _ (List.mem_of_getElem? (i := 7) rfl)) (hw _ (List.mem_of_getElem? (i := 2) rfl)) (by decide) (by decide)) (g := (mkF m 12 #[.val (.long p1), .second, .val (.int (2 : Int32)), .val (.ref b199)] [(.int (0 : Int32)), (.long p1), (.int (0 : Int32)), (.ref b199)])) rfl (by rw [hml]; rfl) (argsL := [(.long p1), (.int (0 : Int32))]) (rest := [(.int (0 : Int32)), (.ref b199)]) (lenOf pd_1 rfl) rfl (by show 2 * 0 + _ ≤ _; exact Nat.le_of_eq rfl) (hb hby d_method_4_code_12) (fun _ _ => ⟨rfl, e199, (by decide : 1 + 0 ≤ _), (by decide : 2 + 0 ≤ _)⟩)
    dsimp only [Pt.U, Pt.locs, Pt.cells, Pt.slots] at X200 l200 y200 z200 st200 hQ200
    subst l200 y200 z200
    obtain ⟨rt200, rfl, N200q, hQ200⟩ := hQ200
    have N200 := Fr.app N0 N200q
    obtain ⟨hh200, c1200⟩ := hQ200
    refine Rch.of (T' := T200) (g' := (mkF m 15 #[.val (.long p1), .second, .val (.int (2 : Int32)), .val (.ref b199)] [(.int rt200), (.int (0 : Int32)), (.ref b199)])) st200 ?_
    obtain ⟨cl201, Ar201, Sz201, Ha201⟩ := id V199
    obtain ⟨T201, h201, X201, e201, W201, st201⟩ := stC X200 hx hZ hh200 Ar201 (j := (0 : Int32)) (oIn (i := 0) Sz201 (by decide) (by decide)) (g := (mkF m 15 #[.val (.long p1), .second, .val (.int (2 : Int32)), .val (.ref b199)] [(.int rt200), (.int (0 : Int32)), (.ref b199)])) rfl rfl (hb hby d_method_4_code_15)
    have V201 := Av.setI (i := 0) V199 (by decide) (by decide) W201
    obtain ⟨y201, hy201⟩ : ∃ zz_ : Nat → Int32, zz_ = fun q => if q = 0 then rt200.toUInt32.toUInt16.toUInt32.toInt32 else (fun _ => (0 : Int32)) q := ⟨_, rfl⟩
    have V201 : Av Z h201 b199 .char 2 (fun q => .int (y201 q)) := by rw [hy201]; exact V201
    have N201 := Fr.snoc X201 N200 ge_b199
    have Sf202 : Safe Z consts_1 s.vm h199 b199 := (Safe.exa hZ.alike Q199 (by decide) (by decide))
    refine Rch.of (T' := T201) (g' := (mkF m 16 #[.val (.long p1), .second, .val (.int (2 : Int32)), .val (.ref b199)] [])) st201 ?_
    refine Rch.of (T' := T201) (g' := (mkF m 17 #[.val (.long p1), .second, .val (.int (2 : Int32)), .val (.ref b199)] [(.int (2 : Int32))])) (fun _ kt => XS.iloadN X201.here hx rfl (hb hby d_method_4_code_16) rfl  kt) ?_
    refine Rch.of (T' := T201) (g' := (mkF m 18 #[.val (.long p1), .second, .val (.int (2 : Int32)), .val (.ref b199)] [(.int (1 : Int32)), (.int (2 : Int32))])) (fun _ kt => XS.iconst X201.here hx rfl (hb hby d_method_4_code_17) kt) ?_
    refine Rch.of (T' := T201) (g' := (mkF m 21 #[.val (.long p1), .second, .val (.int (2 : Int32)), .val (.ref b199)] [])) (fun _ kt => XS.icmpNo X201.here hx rfl (hb hby d_method_4_code_18) rfl (tlt ((by decide) : (1 : Int32) < (2 : Int32))).2.2.2 kt) ?_
    refine Rch.of (T' := T201) (g' := (mkF m 22 #[.val (.long p1), .second, .val (.int (2 : Int32)), .val (.ref b199)] [(.ref b199)])) (fun _ kt => XS.aloadN X201.here hx rfl (hb hby d_method_4_code_21) rfl rfl kt) ?_
    refine Rch.of (T' := T201) (g' := (mkF m 23 #[.val (.long p1), .second, .val (.int (2 : Int32)), .val (.ref b199)] [(.int (1 : Int32)), (.ref b199)])) (fun _ kt => XS.iconst X201.here hx rfl (hb hby d_method_4_code_22) kt) ?_
    refine Rch.of (T' := T201) (g' := (mkF m 24 #[.val (.long p1), .second, .val (.int (2 : Int32)), .val (.ref b199)] [(.long p1), (.int (1 : Int32)), (.ref b199)])) (fun _ kt => XS.lloadN X201.here hx rfl (hb hby d_method_4_code_23) rfl  kt) ?_
    refine Rch.of (T' := T201) (g' := (mkF m 25 #[.val (.long p1), .second, .val (.int (2 : Int32)), .val (.ref b199)] [(.int (1 : Int32)), (.long p1), (.int (1 : Int32)), (.ref b199)])) (fun _ kt => XS.iconst X201.here hx rfl (hb hby d_method_4_code_24) kt) ?_
    obtain ⟨_, _, ⟨T203, L203, k203, n203⟩, -, X203, ⟨Lc203, hQ203, l203, y203, z203⟩, st203⟩ := Jvm.LawKit.callS X201 hx (y := (⟨"com/example/isidore/isidore/SeverityLabelledPinLaw", "at", "(JI)C"⟩ : MethodName)) hown (mvT hZ (hw _ (List.mem_of_getElem? (i := 5) rfl))) (mvT hZ (hw _ (List.mem_of_getElem? (i := 6) rfl))) (mvT hZ (hw _ (List.mem_of_getElem? (i := 2) rfl))) (mvT hZ (hw _ (List.mem_of_getElem? (i := 7) rfl))) (by decide) (backOf (W := 2) (rk1 l Z a0 hw [] p1 (1 : Int32) h201 n0 (Nat.le_trans (Nat.le_trans Z0 E199.1) (Keep.of_wr W201).1) ) hZ (hw _ (List.mem_of_getElem? (i := 7) rfl)) (hw _ (List.mem_of_getElem? (i := 2) rfl)) (by decide) (by decide)) (g := (mkF m 25 #[.val (.long p1), .second, .val (.int (2 : Int32)), .val (.ref b199)] [(.int (1 : Int32)), (.long p1), (.int (1 : Int32)), (.ref b199)])) rfl (by rw [hml]; rfl) (argsL := [(.long p1), (.int (1 : Int32))]) (rest := [(.int (1 : Int32)), (.ref b199)]) (lenOf pd_1 rfl) rfl (by show 2 * 0 + _ ≤ _; exact Nat.le_of_eq rfl) (hb hby d_method_4_code_25) (fun _ _ => ⟨rfl, e201, (by decide : 1 + 0 ≤ _), (by decide : 2 + 0 ≤ _)⟩)
    dsimp only [Pt.U, Pt.locs, Pt.cells, Pt.slots] at X203 l203 y203 z203 st203 hQ203
    subst l203 y203 z203
    obtain ⟨rt203, rfl, N203q, hQ203⟩ := hQ203
    have N203 := Fr.app N201 N203q
    obtain ⟨hh203, c1203⟩ := hQ203
    refine Rch.of (T' := T203) (g' := (mkF m 28 #[.val (.long p1), .second, .val (.int (2 : Int32)), .val (.ref b199)] [(.int rt203), (.int (1 : Int32)), (.ref b199)])) st203 ?_
    obtain ⟨cl204, Ar204, Sz204, Ha204⟩ := id V201
    obtain ⟨T204, h204, X204, e204, W204, st204⟩ := stC X203 hx hZ hh203 Ar204 (j := (1 : Int32)) (oIn (i := 1) Sz204 (by decide) (by decide)) (g := (mkF m 28 #[.val (.long p1), .second, .val (.int (2 : Int32)), .val (.ref b199)] [(.int rt203), (.int (1 : Int32)), (.ref b199)])) rfl rfl (hb hby d_method_4_code_28)
    have V204 := Av.setI (i := 1) V201 (by decide) (by decide) W204
    obtain ⟨y204, hy204⟩ : ∃ zz_ : Nat → Int32, zz_ = fun q => if q = 1 then rt203.toUInt32.toUInt16.toUInt32.toInt32 else y201 q := ⟨_, rfl⟩
    have V204 : Av Z h204 b199 .char 2 (fun q => .int (y204 q)) := by rw [hy204]; exact V204
    have N204 := Fr.snoc X204 N203 ge_b199
    have Sf205 : Safe Z consts_1 s.vm h201 b199 := (Safe.exa hZ.alike (Q199.wr W201) (by decide) (by decide))
    have Rb206 := (((R0.trans (CHr.ext E199 R0.1)).trans (CHr.wr W201 Sf202 (R0.trans (CHr.ext E199 R0.1)).1)).trans (CHr.wr W204 Sf205 ((R0.trans (CHr.ext E199 R0.1)).trans (CHr.wr W201 Sf202 (R0.trans (CHr.ext E199 R0.1)).1)).1))
    refine Rch.of (T' := T204) (g' := (mkF m 29 #[.val (.long p1), .second, .val (.int (2 : Int32)), .val (.ref b199)] [])) st204 ?_
    refine Rch.of (T' := T204) (g' := (mkF m 30 #[.val (.long p1), .second, .val (.int (2 : Int32)), .val (.ref b199)] [(.int (2 : Int32))])) (fun _ kt => XS.iloadN X204.here hx rfl (hb hby d_method_4_code_29) rfl  kt) ?_
    refine Rch.of (T' := T204) (g' := (mkF m 31 #[.val (.long p1), .second, .val (.int (2 : Int32)), .val (.ref b199)] [(.int (2 : Int32)), (.int (2 : Int32))])) (fun _ kt => XS.iconst X204.here hx rfl (hb hby d_method_4_code_30) kt) ?_
    refine Rch.of (T' := T204) (g' := (mkF m 42 #[.val (.long p1), .second, .val (.int (2 : Int32)), .val (.ref b199)] [])) (fun _ kt => XS.icmpYes X204.here hx rfl (pc0 := 31) (pc' := 42) rfl (hb hby d_method_4_code_31) rfl (flt ((by decide) : ¬ ((2 : Int32) < (2 : Int32)))).2.2.2 (by decide) (by decide) kt) ?_
    refine Rch.of (T' := T204) (g' := (mkF m 43 #[.val (.long p1), .second, .val (.int (2 : Int32)), .val (.ref b199)] [(.int (2 : Int32))])) (fun _ kt => XS.iloadN X204.here hx rfl (hb hby d_method_4_code_42) rfl  kt) ?_
    refine Rch.of (T' := T204) (g' := (mkF m 44 #[.val (.long p1), .second, .val (.int (2 : Int32)), .val (.ref b199)] [(.int (3 : Int32)), (.int (2 : Int32))])) (fun _ kt => XS.iconst X204.here hx rfl (hb hby d_method_4_code_43) kt) ?_
    refine Rch.of (T' := T204) (g' := (mkF m 55 #[.val (.long p1), .second, .val (.int (2 : Int32)), .val (.ref b199)] [])) (fun _ kt => XS.icmpYes X204.here hx rfl (pc0 := 44) (pc' := 55) rfl (hb hby d_method_4_code_44) rfl (flt ((by decide) : ¬ ((3 : Int32) < (2 : Int32)))).2.2.2 (by decide) (by decide) kt) ?_
    refine Rch.of (T' := T204) (g' := (mkF m 56 #[.val (.long p1), .second, .val (.int (2 : Int32)), .val (.ref b199)] [(.int (2 : Int32))])) (fun _ kt => XS.iloadN X204.here hx rfl (hb hby d_method_4_code_55) rfl  kt) ?_
    refine Rch.of (T' := T204) (g' := (mkF m 57 #[.val (.long p1), .second, .val (.int (2 : Int32)), .val (.ref b199)] [(.int (4 : Int32)), (.int (2 : Int32))])) (fun _ kt => XS.iconst X204.here hx rfl (hb hby d_method_4_code_56) kt) ?_
    refine Rch.of (T' := T204) (g' := (mkF m 68 #[.val (.long p1), .second, .val (.int (2 : Int32)), .val (.ref b199)] [])) (fun _ kt => XS.icmpYes X204.here hx rfl (pc0 := 57) (pc' := 68) rfl (hb hby d_method_4_code_57) rfl (flt ((by decide) : ¬ ((4 : Int32) < (2 : Int32)))).2.2.2 (by decide) (by decide) kt) ?_
    refine Rch.of (T' := T204) (g' := (mkF m 69 #[.val (.long p1), .second, .val (.int (2 : Int32)), .val (.ref b199)] [(.int (2 : Int32))])) (fun _ kt => XS.iloadN X204.here hx rfl (hb hby d_method_4_code_68) rfl  kt) ?_
    refine Rch.of (T' := T204) (g' := (mkF m 70 #[.val (.long p1), .second, .val (.int (2 : Int32)), .val (.ref b199)] [(.int (5 : Int32)), (.int (2 : Int32))])) (fun _ kt => XS.iconst X204.here hx rfl (hb hby d_method_4_code_69) kt) ?_
    refine Rch.of (T' := T204) (g' := (mkF m 81 #[.val (.long p1), .second, .val (.int (2 : Int32)), .val (.ref b199)] [])) (fun _ kt => XS.icmpYes X204.here hx rfl (pc0 := 70) (pc' := 81) rfl (hb hby d_method_4_code_70) rfl (flt ((by decide) : ¬ ((5 : Int32) < (2 : Int32)))).2.2.2 (by decide) (by decide) kt) ?_
    refine Rch.of (T' := T204) (g' := (mkF m 82 #[.val (.long p1), .second, .val (.int (2 : Int32)), .val (.ref b199)] [(.int (2 : Int32))])) (fun _ kt => XS.iloadN X204.here hx rfl (hb hby d_method_4_code_81) rfl  kt) ?_
    refine Rch.of (T' := T204) (g' := (mkF m 84 #[.val (.long p1), .second, .val (.int (2 : Int32)), .val (.ref b199)] [(.int (6 : Int32)), (.int (2 : Int32))])) (fun _ kt => XS.bipush X204.here hx rfl (hb hby d_method_4_code_82) kt) ?_
    refine Rch.of (T' := T204) (g' := (mkF m 97 #[.val (.long p1), .second, .val (.int (2 : Int32)), .val (.ref b199)] [])) (fun _ kt => XS.icmpYes X204.here hx rfl (pc0 := 84) (pc' := 97) rfl (hb hby d_method_4_code_84) rfl (flt ((by decide) : ¬ ((6 : Int32) < (2 : Int32)))).2.2.2 (by decide) (by decide) kt) ?_
    obtain ⟨T207, h207, X207, e207, E207, A207, D207, -, st207⟩ := newO X204 hx hZ hown (hw _ (List.mem_of_getElem? (i := 9) rfl)) (hw _ (List.mem_of_getElem? (i := 10) rfl)) (hw _ (List.mem_of_getElem? (i := 11) rfl)) e204 (g := (mkF m 97 #[.val (.long p1), .second, .val (.int (2 : Int32)), .val (.ref b199)] [])) rfl (hb hby d_method_4_code_97) (by decide) (by decide)
    obtain ⟨b207, g207⟩ : ∃ zz_, zz_ = h204.size := ⟨_, rfl⟩
    have ne_b199_b207 : b199 ≠ b207 := Nat.ne_of_lt (Nat.lt_of_lt_of_le ((Q199.wr W201).wr W204).lt (Nat.le_of_eq g207.symm))
    have ge_b207 : n0 ≤ b207 := Nat.le_trans (Nat.le_trans (Nat.le_trans (Nat.le_trans Z0 E199.1) (Keep.of_wr W201).1) (Keep.of_wr W204).1) (Nat.le_of_eq g207.symm)
    have sz_b207 : h0.size ≤ b207 := Nat.le_trans ((((Keep.refl h0 []).ext E199).wr W201 (Or.inr sz_b199)).wr W204 (Or.inr sz_b199)).1 (Nat.le_of_eq g207.symm)
    rw [← g207] at A207 D207 st207
    have F207_coder : Fld Z h207 b207 "java/lang/String" "coder" "B" (.int (0 : Int32)) := D207 (Or.inr (hw _ (List.mem_of_getElem? (i := 35) rfl))) (ty := .byte) (by decide)
    have F207_value : Fld Z h207 b207 "java/lang/String" "value" "[B" .null := D207 (Or.inr (hw _ (List.mem_of_getElem? (i := 37) rfl))) (ty := (.array .byte)) (by decide)
    refine Rch.of (T' := T207) (g' := (mkF m 100 #[.val (.long p1), .second, .val (.int (2 : Int32)), .val (.ref b199)] [(.ref b207)])) st207 ?_
    refine Rch.of (T' := T207) (g' := (mkF m 101 #[.val (.long p1), .second, .val (.int (2 : Int32)), .val (.ref b199)] [(.ref b207), (.ref b207)])) (fun _ kt => XS.dup X207.here hx rfl (hb hby d_method_4_code_100) rfl rfl kt) ?_
    refine Rch.of (T' := T207) (g' := (mkF m 102 #[.val (.long p1), .second, .val (.int (2 : Int32)), .val (.ref b199)] [(.ref b199), (.ref b207), (.ref b207)])) (fun _ kt => XS.aloadN X207.here hx rfl (hb hby d_method_4_code_101) rfl rfl kt) ?_
    have pr209 : 2 ≤ 7 := by omega
    have hch210 : own_ch 2 y204 := by
      intro q hq
      rw [hy204, hy201]
      rcases (show q = 0 ∨ q = 1 by omega) with rfl | rfl
      · exact own_c1i c1200
      · exact own_c1i c1203
    obtain ⟨_, _, ⟨T208, L208, k208, n208⟩, -, X208, hT208, gr208, ⟨Lc208, hQ208, l208, y208, z208, cr208⟩, st208⟩ := X207.specialBackS hx (y := (⟨"java/lang/String", "<init>", "([C)V"⟩ : MethodName)) rfl hown (mvT hZ (hw _ (List.mem_of_getElem? (i := 12) rfl))) (mvT hZ (hw _ (List.mem_of_getElem? (i := 13) rfl))) (mvT hZ (hw _ (List.mem_of_getElem? (i := 14) rfl))) (by decide) (backOfSH (s := s) (vm0 := s.vm) (EL := consts_1) (W := 1) (rqN1 l Z a0 hw [] b207 b199 2 y204 (.int (0 : Int32)) cs h207 n0 (Nat.le_trans (Nat.le_trans (Nat.le_trans (Nat.le_trans Z0 E199.1) (Keep.of_wr W201).1) (Keep.of_wr W204).1) E207.1) A207 F207_coder F207_value ge_b207 (V204.ext E207) ((((SC.ext E199).wr W201).wr W204).ext E207) hcs pr209 hch210) hZ (hw _ (List.mem_of_getElem? (i := 14) rfl)) (hw _ (List.mem_of_getElem? (i := 11) rfl)) (by decide) (by decide) hEL (Rb206.trans (CHr.ext E207 Rb206.1)).1) (g := (mkF m 102 #[.val (.long p1), .second, .val (.int (2 : Int32)), .val (.ref b199)] [(.ref b199), (.ref b207), (.ref b207)])) rfl (by rw [hml]; rfl) (Steps.refl _) (a := b207) (argsL := [(.ref b199)]) (rest := [(.ref b207)]) (lenOf pd_2 rfl) rfl (by show 2 * 0 + _ ≤ _; exact Nat.le_of_eq rfl) (hb hby d_method_4_code_102) (fun _ _ => ⟨rfl, e207, (by decide : 2 + 4 ≤ _), (by decide : 6 + 8 ≤ _)⟩)
    dsimp only [Pt.U, Pt.locs, Pt.cells, Pt.slots] at X208 hT208 gr208 l208 y208 z208 st208 hQ208 cr208
    subst l208 y208 z208
    obtain ⟨X208, hS208, hZ, hown⟩ := rebS hS0 (Nat.le_trans (Nat.le_trans (Nat.le_trans (Nat.le_trans hk0 E199.1) (Keep.of_wr W201).1) (Keep.of_wr W204).1) E207.1) X208 hT208 (by rw [← e207]; exact gr208) hZ hown
    obtain ⟨rb208, rfl, N208q, hQ208⟩ := hQ208
    have N208 := Fr.app N204 N208q
    obtain ⟨K208, Ex208, Fa208, Fb208, V208⟩ := hQ208
    refine Rch.via (T' := T208) (g' := (mkF m 105 #[.val (.long p1), .second, .val (.int (2 : Int32)), .val (.ref b199)] [(.ref b207)])) st208 ?_
    exact Rch.retA X208 hx (w := (.ref b207)) hret rfl rfl hlk (hb hby d_method_4_code_105) (fun U hU hF => hK _ U _ _ _ (by show Q_rk2 Z p1 k cs h0 n0 _ U.heap _; rw [hU]; exact ⟨b207, rb208, y204, 2, rfl, N208, ((((((Keep.refl h0 []).ext E199).wr W201 (Or.inr sz_b199)).wr W204 (Or.inr sz_b199)).ext E207).trans K208 (allS (Or.inr sz_b207) all0)), Ex208, Fa208, Fb208, V208, hch210, by decide⟩) (own_endH hZ hEL ((Rb206.trans (CHr.ext E207 Rb206.1)).trans cr208) hU hF) (own_end hS208 (by rw [hU]; exact (Nat.le_refl _)) hF) (by decide) (by decide))
  · skip
    have sw211 : (Int32.ofNat k) = (3 : Int32) := by rw [ek]; rfl
    rw [sw211]
    show Rch p e below K T0 (mkF m 0 #[.val (.long p1), .second, .val (.int (3 : Int32)), .unset] [])
    refine Rch.of (T' := T0) (g' := (mkF m 1 #[.val (.long p1), .second, .val (.int (3 : Int32)), .unset] [(.int (3 : Int32))])) (fun _ kt => XS.iloadN X0.here hx rfl (hb hby d_method_4_code_0) rfl  kt) ?_
    obtain ⟨T212, h212, k212, X212, e212, E212, A212, Q212, st212⟩ := newPE X0 hx hZ (hw _ (List.mem_of_getElem? (i := 4) rfl)) e0 (g := (mkF m 1 #[.val (.long p1), .second, .val (.int (3 : Int32)), .unset] [(.int (3 : Int32))])) rfl (hb hby d_method_4_code_1) rfl (by decide) (cap := 3) (by decide) (by decide) (by decide) (by decide) (ad := "[C") rfl
    obtain ⟨b212, g212⟩ : ∃ zz_, zz_ = h0.size := ⟨_, rfl⟩
    have ge_b212 : n0 ≤ b212 := Nat.le_trans Z0 (Nat.le_of_eq g212.symm)
    have sz_b212 : h0.size ≤ b212 := Nat.le_trans (Keep.refl h0 []).1 (Nat.le_of_eq g212.symm)
    rw [← g212] at A212 Q212 st212
    have V212 : Av Z h212 b212 .char 3 (fun _ => (.int (0 : Int32))) := Av.new A212 (by decide)
    refine Rch.of (T' := T212) (g' := (mkF m 3 #[.val (.long p1), .second, .val (.int (3 : Int32)), .unset] [(.ref b212)])) st212 ?_
    refine Rch.of (T' := T212) (g' := (mkF m 4 #[.val (.long p1), .second, .val (.int (3 : Int32)), .val (.ref b212)] [])) (fun _ kt => XS.astoreN X212.here hx rfl (hb hby d_method_4_code_3) rfl rfl (l' := #[.val (.long p1), .second, .val (.int (3 : Int32)), .val (.ref b212)]) rfl kt) ?_
    refine Rch.of (T' := T212) (g' := (mkF m 5 #[.val (.long p1), .second, .val (.int (3 : Int32)), .val (.ref b212)] [(.int (3 : Int32))])) (fun _ kt => XS.iloadN X212.here hx rfl (hb hby d_method_4_code_4) rfl  kt) ?_
    refine Rch.of (T' := T212) (g' := (mkF m 8 #[.val (.long p1), .second, .val (.int (3 : Int32)), .val (.ref b212)] [])) (fun _ kt => XS.ifNo X212.here hx rfl (hb hby d_method_4_code_5) rfl ((if0 _ _).trans (tlt ((by decide) : (0 : Int32) < (3 : Int32))).2.2.2) kt) ?_
    refine Rch.of (T' := T212) (g' := (mkF m 9 #[.val (.long p1), .second, .val (.int (3 : Int32)), .val (.ref b212)] [(.ref b212)])) (fun _ kt => XS.aloadN X212.here hx rfl (hb hby d_method_4_code_8) rfl rfl kt) ?_
    refine Rch.of (T' := T212) (g' := (mkF m 10 #[.val (.long p1), .second, .val (.int (3 : Int32)), .val (.ref b212)] [(.int (0 : Int32)), (.ref b212)])) (fun _ kt => XS.iconst X212.here hx rfl (hb hby d_method_4_code_9) kt) ?_
    refine Rch.of (T' := T212) (g' := (mkF m 11 #[.val (.long p1), .second, .val (.int (3 : Int32)), .val (.ref b212)] [(.long p1), (.int (0 : Int32)), (.ref b212)])) (fun _ kt => XS.lloadN X212.here hx rfl (hb hby d_method_4_code_10) rfl  kt) ?_
    refine Rch.of (T' := T212) (g' := (mkF m 12 #[.val (.long p1), .second, .val (.int (3 : Int32)), .val (.ref b212)] [(.int (0 : Int32)), (.long p1), (.int (0 : Int32)), (.ref b212)])) (fun _ kt => XS.iconst X212.here hx rfl (hb hby d_method_4_code_11) kt) ?_
    obtain ⟨_, _, ⟨T213, L213, k213, n213⟩, -, X213, ⟨Lc213, hQ213, l213, y213, z213⟩, st213⟩ := Jvm.LawKit.callS X212 hx (y := (⟨"com/example/isidore/isidore/SeverityLabelledPinLaw", "at", "(JI)C"⟩ : MethodName)) hown (mvT hZ (hw _ (List.mem_of_getElem? (i := 5) rfl))) (mvT hZ (hw _ (List.mem_of_getElem? (i := 6) rfl))) (mvT hZ (hw _ (List.mem_of_getElem? (i := 2) rfl))) (mvT hZ (hw _ (List.mem_of_getElem? (i := 7) rfl))) (by decide) (backOf (W := 2) (rk1 l Z a0 hw [] p1 (0 : Int32) h212 n0 (Nat.le_trans Z0 E212.1) ) hZ (hw _ (List.mem_of_getElem? (i := 7) rfl)) (hw _ (List.mem_of_getElem? (i := 2) rfl)) (by decide) (by decide)) (g := (mkF m 12 #[.val (.long p1), .second, .val (.int (3 : Int32)), .val (.ref b212)] [(.int (0 : Int32)), (.long p1), (.int (0 : Int32)), (.ref b212)])) rfl (by rw [hml]; rfl) (argsL := [(.long p1), (.int (0 : Int32))]) (rest := [(.int (0 : Int32)), (.ref b212)]) (lenOf pd_1 rfl) rfl (by show 2 * 0 + _ ≤ _; exact Nat.le_of_eq rfl) (hb hby d_method_4_code_12) (fun _ _ => ⟨rfl, e212, (by decide : 1 + 0 ≤ _), (by decide : 3 + 0 ≤ _)⟩)
    dsimp only [Pt.U, Pt.locs, Pt.cells, Pt.slots] at X213 l213 y213 z213 st213 hQ213
    subst l213 y213 z213
    obtain ⟨rt213, rfl, N213q, hQ213⟩ := hQ213
    have N213 := Fr.app N0 N213q
    obtain ⟨hh213, c1213⟩ := hQ213
    refine Rch.of (T' := T213) (g' := (mkF m 15 #[.val (.long p1), .second, .val (.int (3 : Int32)), .val (.ref b212)] [(.int rt213), (.int (0 : Int32)), (.ref b212)])) st213 ?_
    obtain ⟨cl214, Ar214, Sz214, Ha214⟩ := id V212
    obtain ⟨T214, h214, X214, e214, W214, st214⟩ := stC X213 hx hZ hh213 Ar214 (j := (0 : Int32)) (oIn (i := 0) Sz214 (by decide) (by decide)) (g := (mkF m 15 #[.val (.long p1), .second, .val (.int (3 : Int32)), .val (.ref b212)] [(.int rt213), (.int (0 : Int32)), (.ref b212)])) rfl rfl (hb hby d_method_4_code_15)
    have V214 := Av.setI (i := 0) V212 (by decide) (by decide) W214
    obtain ⟨y214, hy214⟩ : ∃ zz_ : Nat → Int32, zz_ = fun q => if q = 0 then rt213.toUInt32.toUInt16.toUInt32.toInt32 else (fun _ => (0 : Int32)) q := ⟨_, rfl⟩
    have V214 : Av Z h214 b212 .char 3 (fun q => .int (y214 q)) := by rw [hy214]; exact V214
    have N214 := Fr.snoc X214 N213 ge_b212
    have Sf215 : Safe Z consts_1 s.vm h212 b212 := (Safe.exa hZ.alike Q212 (by decide) (by decide))
    refine Rch.of (T' := T214) (g' := (mkF m 16 #[.val (.long p1), .second, .val (.int (3 : Int32)), .val (.ref b212)] [])) st214 ?_
    refine Rch.of (T' := T214) (g' := (mkF m 17 #[.val (.long p1), .second, .val (.int (3 : Int32)), .val (.ref b212)] [(.int (3 : Int32))])) (fun _ kt => XS.iloadN X214.here hx rfl (hb hby d_method_4_code_16) rfl  kt) ?_
    refine Rch.of (T' := T214) (g' := (mkF m 18 #[.val (.long p1), .second, .val (.int (3 : Int32)), .val (.ref b212)] [(.int (1 : Int32)), (.int (3 : Int32))])) (fun _ kt => XS.iconst X214.here hx rfl (hb hby d_method_4_code_17) kt) ?_
    refine Rch.of (T' := T214) (g' := (mkF m 21 #[.val (.long p1), .second, .val (.int (3 : Int32)), .val (.ref b212)] [])) (fun _ kt => XS.icmpNo X214.here hx rfl (hb hby d_method_4_code_18) rfl (tlt ((by decide) : (1 : Int32) < (3 : Int32))).2.2.2 kt) ?_
    refine Rch.of (T' := T214) (g' := (mkF m 22 #[.val (.long p1), .second, .val (.int (3 : Int32)), .val (.ref b212)] [(.ref b212)])) (fun _ kt => XS.aloadN X214.here hx rfl (hb hby d_method_4_code_21) rfl rfl kt) ?_
    refine Rch.of (T' := T214) (g' := (mkF m 23 #[.val (.long p1), .second, .val (.int (3 : Int32)), .val (.ref b212)] [(.int (1 : Int32)), (.ref b212)])) (fun _ kt => XS.iconst X214.here hx rfl (hb hby d_method_4_code_22) kt) ?_
    refine Rch.of (T' := T214) (g' := (mkF m 24 #[.val (.long p1), .second, .val (.int (3 : Int32)), .val (.ref b212)] [(.long p1), (.int (1 : Int32)), (.ref b212)])) (fun _ kt => XS.lloadN X214.here hx rfl (hb hby d_method_4_code_23) rfl  kt) ?_
    refine Rch.of (T' := T214) (g' := (mkF m 25 #[.val (.long p1), .second, .val (.int (3 : Int32)), .val (.ref b212)] [(.int (1 : Int32)), (.long p1), (.int (1 : Int32)), (.ref b212)])) (fun _ kt => XS.iconst X214.here hx rfl (hb hby d_method_4_code_24) kt) ?_
    obtain ⟨_, _, ⟨T216, L216, k216, n216⟩, -, X216, ⟨Lc216, hQ216, l216, y216, z216⟩, st216⟩ := Jvm.LawKit.callS X214 hx (y := (⟨"com/example/isidore/isidore/SeverityLabelledPinLaw", "at", "(JI)C"⟩ : MethodName)) hown (mvT hZ (hw _ (List.mem_of_getElem? (i := 5) rfl))) (mvT hZ (hw _ (List.mem_of_getElem? (i := 6) rfl))) (mvT hZ (hw _ (List.mem_of_getElem? (i := 2) rfl))) (mvT hZ (hw _ (List.mem_of_getElem? (i := 7) rfl))) (by decide) (backOf (W := 2) (rk1 l Z a0 hw [] p1 (1 : Int32) h214 n0 (Nat.le_trans (Nat.le_trans Z0 E212.1) (Keep.of_wr W214).1) ) hZ (hw _ (List.mem_of_getElem? (i := 7) rfl)) (hw _ (List.mem_of_getElem? (i := 2) rfl)) (by decide) (by decide)) (g := (mkF m 25 #[.val (.long p1), .second, .val (.int (3 : Int32)), .val (.ref b212)] [(.int (1 : Int32)), (.long p1), (.int (1 : Int32)), (.ref b212)])) rfl (by rw [hml]; rfl) (argsL := [(.long p1), (.int (1 : Int32))]) (rest := [(.int (1 : Int32)), (.ref b212)]) (lenOf pd_1 rfl) rfl (by show 2 * 0 + _ ≤ _; exact Nat.le_of_eq rfl) (hb hby d_method_4_code_25) (fun _ _ => ⟨rfl, e214, (by decide : 1 + 0 ≤ _), (by decide : 3 + 0 ≤ _)⟩)
    dsimp only [Pt.U, Pt.locs, Pt.cells, Pt.slots] at X216 l216 y216 z216 st216 hQ216
    subst l216 y216 z216
    obtain ⟨rt216, rfl, N216q, hQ216⟩ := hQ216
    have N216 := Fr.app N214 N216q
    obtain ⟨hh216, c1216⟩ := hQ216
    refine Rch.of (T' := T216) (g' := (mkF m 28 #[.val (.long p1), .second, .val (.int (3 : Int32)), .val (.ref b212)] [(.int rt216), (.int (1 : Int32)), (.ref b212)])) st216 ?_
    obtain ⟨cl217, Ar217, Sz217, Ha217⟩ := id V214
    obtain ⟨T217, h217, X217, e217, W217, st217⟩ := stC X216 hx hZ hh216 Ar217 (j := (1 : Int32)) (oIn (i := 1) Sz217 (by decide) (by decide)) (g := (mkF m 28 #[.val (.long p1), .second, .val (.int (3 : Int32)), .val (.ref b212)] [(.int rt216), (.int (1 : Int32)), (.ref b212)])) rfl rfl (hb hby d_method_4_code_28)
    have V217 := Av.setI (i := 1) V214 (by decide) (by decide) W217
    obtain ⟨y217, hy217⟩ : ∃ zz_ : Nat → Int32, zz_ = fun q => if q = 1 then rt216.toUInt32.toUInt16.toUInt32.toInt32 else y214 q := ⟨_, rfl⟩
    have V217 : Av Z h217 b212 .char 3 (fun q => .int (y217 q)) := by rw [hy217]; exact V217
    have N217 := Fr.snoc X217 N216 ge_b212
    have Sf218 : Safe Z consts_1 s.vm h214 b212 := (Safe.exa hZ.alike (Q212.wr W214) (by decide) (by decide))
    have Rb219 := (((R0.trans (CHr.ext E212 R0.1)).trans (CHr.wr W214 Sf215 (R0.trans (CHr.ext E212 R0.1)).1)).trans (CHr.wr W217 Sf218 ((R0.trans (CHr.ext E212 R0.1)).trans (CHr.wr W214 Sf215 (R0.trans (CHr.ext E212 R0.1)).1)).1))
    refine Rch.of (T' := T217) (g' := (mkF m 29 #[.val (.long p1), .second, .val (.int (3 : Int32)), .val (.ref b212)] [])) st217 ?_
    refine Rch.of (T' := T217) (g' := (mkF m 30 #[.val (.long p1), .second, .val (.int (3 : Int32)), .val (.ref b212)] [(.int (3 : Int32))])) (fun _ kt => XS.iloadN X217.here hx rfl (hb hby d_method_4_code_29) rfl  kt) ?_
    refine Rch.of (T' := T217) (g' := (mkF m 31 #[.val (.long p1), .second, .val (.int (3 : Int32)), .val (.ref b212)] [(.int (2 : Int32)), (.int (3 : Int32))])) (fun _ kt => XS.iconst X217.here hx rfl (hb hby d_method_4_code_30) kt) ?_
    refine Rch.of (T' := T217) (g' := (mkF m 34 #[.val (.long p1), .second, .val (.int (3 : Int32)), .val (.ref b212)] [])) (fun _ kt => XS.icmpNo X217.here hx rfl (hb hby d_method_4_code_31) rfl (tlt ((by decide) : (2 : Int32) < (3 : Int32))).2.2.2 kt) ?_
    refine Rch.of (T' := T217) (g' := (mkF m 35 #[.val (.long p1), .second, .val (.int (3 : Int32)), .val (.ref b212)] [(.ref b212)])) (fun _ kt => XS.aloadN X217.here hx rfl (hb hby d_method_4_code_34) rfl rfl kt) ?_
    refine Rch.of (T' := T217) (g' := (mkF m 36 #[.val (.long p1), .second, .val (.int (3 : Int32)), .val (.ref b212)] [(.int (2 : Int32)), (.ref b212)])) (fun _ kt => XS.iconst X217.here hx rfl (hb hby d_method_4_code_35) kt) ?_
    refine Rch.of (T' := T217) (g' := (mkF m 37 #[.val (.long p1), .second, .val (.int (3 : Int32)), .val (.ref b212)] [(.long p1), (.int (2 : Int32)), (.ref b212)])) (fun _ kt => XS.lloadN X217.here hx rfl (hb hby d_method_4_code_36) rfl  kt) ?_
    refine Rch.of (T' := T217) (g' := (mkF m 38 #[.val (.long p1), .second, .val (.int (3 : Int32)), .val (.ref b212)] [(.int (2 : Int32)), (.long p1), (.int (2 : Int32)), (.ref b212)])) (fun _ kt => XS.iconst X217.here hx rfl (hb hby d_method_4_code_37) kt) ?_
    obtain ⟨_, _, ⟨T220, L220, k220, n220⟩, -, X220, ⟨Lc220, hQ220, l220, y220, z220⟩, st220⟩ := Jvm.LawKit.callS X217 hx (y := (⟨"com/example/isidore/isidore/SeverityLabelledPinLaw", "at", "(JI)C"⟩ : MethodName)) hown (mvT hZ (hw _ (List.mem_of_getElem? (i := 5) rfl))) (mvT hZ (hw _ (List.mem_of_getElem? (i := 6) rfl))) (mvT hZ (hw _ (List.mem_of_getElem? (i := 2) rfl))) (mvT hZ (hw _ (List.mem_of_getElem? (i := 7) rfl))) (by decide) (backOf (W := 2) (rk1 l Z a0 hw [] p1 (2 : Int32) h217 n0 (Nat.le_trans (Nat.le_trans (Nat.le_trans Z0 E212.1) (Keep.of_wr W214).1) (Keep.of_wr W217).1) ) hZ (hw _ (List.mem_of_getElem? (i := 7) rfl)) (hw _ (List.mem_of_getElem? (i := 2) rfl)) (by decide) (by decide)) (g := (mkF m 38 #[.val (.long p1), .second, .val (.int (3 : Int32)), .val (.ref b212)] [(.int (2 : Int32)), (.long p1), (.int (2 : Int32)), (.ref b212)])) rfl (by rw [hml]; rfl) (argsL := [(.long p1), (.int (2 : Int32))]) (rest := [(.int (2 : Int32)), (.ref b212)]) (lenOf pd_1 rfl) rfl (by show 2 * 0 + _ ≤ _; exact Nat.le_of_eq rfl) (hb hby d_method_4_code_38) (fun _ _ => ⟨rfl, e217, (by decide : 1 + 0 ≤ _), (by decide : 3 + 0 ≤ _)⟩)
    dsimp only [Pt.U, Pt.locs, Pt.cells, Pt.slots] at X220 l220 y220 z220 st220 hQ220
    subst l220 y220 z220
    obtain ⟨rt220, rfl, N220q, hQ220⟩ := hQ220
    have N220 := Fr.app N217 N220q
    obtain ⟨hh220, c1220⟩ := hQ220
    refine Rch.of (T' := T220) (g' := (mkF m 41 #[.val (.long p1), .second, .val (.int (3 : Int32)), .val (.ref b212)] [(.int rt220), (.int (2 : Int32)), (.ref b212)])) st220 ?_
    obtain ⟨cl221, Ar221, Sz221, Ha221⟩ := id V217
    obtain ⟨T221, h221, X221, e221, W221, st221⟩ := stC X220 hx hZ hh220 Ar221 (j := (2 : Int32)) (oIn (i := 2) Sz221 (by decide) (by decide)) (g := (mkF m 41 #[.val (.long p1), .second, .val (.int (3 : Int32)), .val (.ref b212)] [(.int rt220), (.int (2 : Int32)), (.ref b212)])) rfl rfl (hb hby d_method_4_code_41)
    have V221 := Av.setI (i := 2) V217 (by decide) (by decide) W221
    obtain ⟨y221, hy221⟩ : ∃ zz_ : Nat → Int32, zz_ = fun q => if q = 2 then rt220.toUInt32.toUInt16.toUInt32.toInt32 else y217 q := ⟨_, rfl⟩
    have V221 : Av Z h221 b212 .char 3 (fun q => .int (y221 q)) := by rw [hy221]; exact V221
    have N221 := Fr.snoc X221 N220 ge_b212
    have Sf222 : Safe Z consts_1 s.vm h217 b212 := (Safe.exa hZ.alike ((Q212.wr W214).wr W217) (by decide) (by decide))
    refine Rch.of (T' := T221) (g' := (mkF m 42 #[.val (.long p1), .second, .val (.int (3 : Int32)), .val (.ref b212)] [])) st221 ?_
    refine Rch.of (T' := T221) (g' := (mkF m 43 #[.val (.long p1), .second, .val (.int (3 : Int32)), .val (.ref b212)] [(.int (3 : Int32))])) (fun _ kt => XS.iloadN X221.here hx rfl (hb hby d_method_4_code_42) rfl  kt) ?_
    refine Rch.of (T' := T221) (g' := (mkF m 44 #[.val (.long p1), .second, .val (.int (3 : Int32)), .val (.ref b212)] [(.int (3 : Int32)), (.int (3 : Int32))])) (fun _ kt => XS.iconst X221.here hx rfl (hb hby d_method_4_code_43) kt) ?_
    refine Rch.of (T' := T221) (g' := (mkF m 55 #[.val (.long p1), .second, .val (.int (3 : Int32)), .val (.ref b212)] [])) (fun _ kt => XS.icmpYes X221.here hx rfl (pc0 := 44) (pc' := 55) rfl (hb hby d_method_4_code_44) rfl (flt ((by decide) : ¬ ((3 : Int32) < (3 : Int32)))).2.2.2 (by decide) (by decide) kt) ?_
    refine Rch.of (T' := T221) (g' := (mkF m 56 #[.val (.long p1), .second, .val (.int (3 : Int32)), .val (.ref b212)] [(.int (3 : Int32))])) (fun _ kt => XS.iloadN X221.here hx rfl (hb hby d_method_4_code_55) rfl  kt) ?_
    refine Rch.of (T' := T221) (g' := (mkF m 57 #[.val (.long p1), .second, .val (.int (3 : Int32)), .val (.ref b212)] [(.int (4 : Int32)), (.int (3 : Int32))])) (fun _ kt => XS.iconst X221.here hx rfl (hb hby d_method_4_code_56) kt) ?_
    refine Rch.of (T' := T221) (g' := (mkF m 68 #[.val (.long p1), .second, .val (.int (3 : Int32)), .val (.ref b212)] [])) (fun _ kt => XS.icmpYes X221.here hx rfl (pc0 := 57) (pc' := 68) rfl (hb hby d_method_4_code_57) rfl (flt ((by decide) : ¬ ((4 : Int32) < (3 : Int32)))).2.2.2 (by decide) (by decide) kt) ?_
    refine Rch.of (T' := T221) (g' := (mkF m 69 #[.val (.long p1), .second, .val (.int (3 : Int32)), .val (.ref b212)] [(.int (3 : Int32))])) (fun _ kt => XS.iloadN X221.here hx rfl (hb hby d_method_4_code_68) rfl  kt) ?_
    refine Rch.of (T' := T221) (g' := (mkF m 70 #[.val (.long p1), .second, .val (.int (3 : Int32)), .val (.ref b212)] [(.int (5 : Int32)), (.int (3 : Int32))])) (fun _ kt => XS.iconst X221.here hx rfl (hb hby d_method_4_code_69) kt) ?_
    refine Rch.of (T' := T221) (g' := (mkF m 81 #[.val (.long p1), .second, .val (.int (3 : Int32)), .val (.ref b212)] [])) (fun _ kt => XS.icmpYes X221.here hx rfl (pc0 := 70) (pc' := 81) rfl (hb hby d_method_4_code_70) rfl (flt ((by decide) : ¬ ((5 : Int32) < (3 : Int32)))).2.2.2 (by decide) (by decide) kt) ?_
    refine Rch.of (T' := T221) (g' := (mkF m 82 #[.val (.long p1), .second, .val (.int (3 : Int32)), .val (.ref b212)] [(.int (3 : Int32))])) (fun _ kt => XS.iloadN X221.here hx rfl (hb hby d_method_4_code_81) rfl  kt) ?_
    refine Rch.of (T' := T221) (g' := (mkF m 84 #[.val (.long p1), .second, .val (.int (3 : Int32)), .val (.ref b212)] [(.int (6 : Int32)), (.int (3 : Int32))])) (fun _ kt => XS.bipush X221.here hx rfl (hb hby d_method_4_code_82) kt) ?_
    refine Rch.of (T' := T221) (g' := (mkF m 97 #[.val (.long p1), .second, .val (.int (3 : Int32)), .val (.ref b212)] [])) (fun _ kt => XS.icmpYes X221.here hx rfl (pc0 := 84) (pc' := 97) rfl (hb hby d_method_4_code_84) rfl (flt ((by decide) : ¬ ((6 : Int32) < (3 : Int32)))).2.2.2 (by decide) (by decide) kt) ?_
    obtain ⟨T223, h223, X223, e223, E223, A223, D223, -, st223⟩ := newO X221 hx hZ hown (hw _ (List.mem_of_getElem? (i := 9) rfl)) (hw _ (List.mem_of_getElem? (i := 10) rfl)) (hw _ (List.mem_of_getElem? (i := 11) rfl)) e221 (g := (mkF m 97 #[.val (.long p1), .second, .val (.int (3 : Int32)), .val (.ref b212)] [])) rfl (hb hby d_method_4_code_97) (by decide) (by decide)
    obtain ⟨b223, g223⟩ : ∃ zz_, zz_ = h221.size := ⟨_, rfl⟩
    have ne_b212_b223 : b212 ≠ b223 := Nat.ne_of_lt (Nat.lt_of_lt_of_le (((Q212.wr W214).wr W217).wr W221).lt (Nat.le_of_eq g223.symm))
    have ge_b223 : n0 ≤ b223 := Nat.le_trans (Nat.le_trans (Nat.le_trans (Nat.le_trans (Nat.le_trans Z0 E212.1) (Keep.of_wr W214).1) (Keep.of_wr W217).1) (Keep.of_wr W221).1) (Nat.le_of_eq g223.symm)
    have sz_b223 : h0.size ≤ b223 := Nat.le_trans (((((Keep.refl h0 []).ext E212).wr W214 (Or.inr sz_b212)).wr W217 (Or.inr sz_b212)).wr W221 (Or.inr sz_b212)).1 (Nat.le_of_eq g223.symm)
    rw [← g223] at A223 D223 st223
    have F223_coder : Fld Z h223 b223 "java/lang/String" "coder" "B" (.int (0 : Int32)) := D223 (Or.inr (hw _ (List.mem_of_getElem? (i := 35) rfl))) (ty := .byte) (by decide)
    have F223_value : Fld Z h223 b223 "java/lang/String" "value" "[B" .null := D223 (Or.inr (hw _ (List.mem_of_getElem? (i := 37) rfl))) (ty := (.array .byte)) (by decide)
    refine Rch.of (T' := T223) (g' := (mkF m 100 #[.val (.long p1), .second, .val (.int (3 : Int32)), .val (.ref b212)] [(.ref b223)])) st223 ?_
    refine Rch.of (T' := T223) (g' := (mkF m 101 #[.val (.long p1), .second, .val (.int (3 : Int32)), .val (.ref b212)] [(.ref b223), (.ref b223)])) (fun _ kt => XS.dup X223.here hx rfl (hb hby d_method_4_code_100) rfl rfl kt) ?_
    refine Rch.of (T' := T223) (g' := (mkF m 102 #[.val (.long p1), .second, .val (.int (3 : Int32)), .val (.ref b212)] [(.ref b212), (.ref b223), (.ref b223)])) (fun _ kt => XS.aloadN X223.here hx rfl (hb hby d_method_4_code_101) rfl rfl kt) ?_
    have pr225 : 3 ≤ 7 := by omega
    have hch226 : own_ch 3 y221 := by
      intro q hq
      rw [hy221, hy217, hy214]
      rcases (show q = 0 ∨ q = 1 ∨ q = 2 by omega) with rfl | rfl | rfl
      · exact own_c1i c1213
      · exact own_c1i c1216
      · exact own_c1i c1220
    obtain ⟨_, _, ⟨T224, L224, k224, n224⟩, -, X224, hT224, gr224, ⟨Lc224, hQ224, l224, y224, z224, cr224⟩, st224⟩ := X223.specialBackS hx (y := (⟨"java/lang/String", "<init>", "([C)V"⟩ : MethodName)) rfl hown (mvT hZ (hw _ (List.mem_of_getElem? (i := 12) rfl))) (mvT hZ (hw _ (List.mem_of_getElem? (i := 13) rfl))) (mvT hZ (hw _ (List.mem_of_getElem? (i := 14) rfl))) (by decide) (backOfSH (s := s) (vm0 := s.vm) (EL := consts_1) (W := 1) (rqN1 l Z a0 hw [] b223 b212 3 y221 (.int (0 : Int32)) cs h223 n0 (Nat.le_trans (Nat.le_trans (Nat.le_trans (Nat.le_trans (Nat.le_trans Z0 E212.1) (Keep.of_wr W214).1) (Keep.of_wr W217).1) (Keep.of_wr W221).1) E223.1) A223 F223_coder F223_value ge_b223 (V221.ext E223) (((((SC.ext E212).wr W214).wr W217).wr W221).ext E223) hcs pr225 hch226) hZ (hw _ (List.mem_of_getElem? (i := 14) rfl)) (hw _ (List.mem_of_getElem? (i := 11) rfl)) (by decide) (by decide) hEL ((Rb219.trans (CHr.wr W221 Sf222 Rb219.1)).trans (CHr.ext E223 (Rb219.trans (CHr.wr W221 Sf222 Rb219.1)).1)).1) (g := (mkF m 102 #[.val (.long p1), .second, .val (.int (3 : Int32)), .val (.ref b212)] [(.ref b212), (.ref b223), (.ref b223)])) rfl (by rw [hml]; rfl) (Steps.refl _) (a := b223) (argsL := [(.ref b212)]) (rest := [(.ref b223)]) (lenOf pd_2 rfl) rfl (by show 2 * 0 + _ ≤ _; exact Nat.le_of_eq rfl) (hb hby d_method_4_code_102) (fun _ _ => ⟨rfl, e223, (by decide : 2 + 4 ≤ _), (by decide : 7 + 8 ≤ _)⟩)
    dsimp only [Pt.U, Pt.locs, Pt.cells, Pt.slots] at X224 hT224 gr224 l224 y224 z224 st224 hQ224 cr224
    subst l224 y224 z224
    obtain ⟨X224, hS224, hZ, hown⟩ := rebS hS0 (Nat.le_trans (Nat.le_trans (Nat.le_trans (Nat.le_trans (Nat.le_trans hk0 E212.1) (Keep.of_wr W214).1) (Keep.of_wr W217).1) (Keep.of_wr W221).1) E223.1) X224 hT224 (by rw [← e223]; exact gr224) hZ hown
    obtain ⟨rb224, rfl, N224q, hQ224⟩ := hQ224
    have N224 := Fr.app N221 N224q
    obtain ⟨K224, Ex224, Fa224, Fb224, V224⟩ := hQ224
    have Fb227 := (Nat.le_trans (Nat.le_trans (Nat.le_trans (Nat.le_trans (Nat.le_trans (Nat.le_trans hk0 E212.1) (Keep.of_wr W214).1) (Keep.of_wr W217).1) (Keep.of_wr W221).1) E223.1) K224.1)
    have Fb228 := (Nat.le_trans (Nat.le_trans (Nat.le_trans (Nat.le_trans (Nat.le_trans (Nat.le_trans Z0 E212.1) (Keep.of_wr W214).1) (Keep.of_wr W217).1) (Keep.of_wr W221).1) E223.1) K224.1)
    have Fb229 := (((((((Keep.refl h0 []).ext E212).wr W214 (Or.inr sz_b212)).wr W217 (Or.inr sz_b212)).wr W221 (Or.inr sz_b212)).ext E223).trans K224 (allS (Or.inr sz_b223) all0))
    refine Rch.via (T' := T224) (g' := (mkF m 105 #[.val (.long p1), .second, .val (.int (3 : Int32)), .val (.ref b212)] [(.ref b223)])) st224 ?_
    exact Rch.retA X224 hx (w := (.ref b223)) hret rfl rfl hlk (hb hby d_method_4_code_105) (fun U hU hF => hK _ U _ _ _ (by show Q_rk2 Z p1 k cs h0 n0 _ U.heap _; rw [hU]; exact ⟨b223, rb224, y221, 3, rfl, N224, Fb229, Ex224, Fa224, Fb224, V224, hch226, by decide⟩) (own_endH hZ hEL (((Rb219.trans (CHr.wr W221 Sf222 Rb219.1)).trans (CHr.ext E223 (Rb219.trans (CHr.wr W221 Sf222 Rb219.1)).1)).trans cr224) hU hF) (own_end hS224 (by rw [hU]; exact (Nat.le_refl _)) hF) (by decide) (by decide))
  · skip
    have sw230 : (Int32.ofNat k) = (4 : Int32) := by rw [ek]; rfl
    rw [sw230]
    show Rch p e below K T0 (mkF m 0 #[.val (.long p1), .second, .val (.int (4 : Int32)), .unset] [])
    refine Rch.of (T' := T0) (g' := (mkF m 1 #[.val (.long p1), .second, .val (.int (4 : Int32)), .unset] [(.int (4 : Int32))])) (fun _ kt => XS.iloadN X0.here hx rfl (hb hby d_method_4_code_0) rfl  kt) ?_
    obtain ⟨T231, h231, k231, X231, e231, E231, A231, Q231, st231⟩ := newPE X0 hx hZ (hw _ (List.mem_of_getElem? (i := 4) rfl)) e0 (g := (mkF m 1 #[.val (.long p1), .second, .val (.int (4 : Int32)), .unset] [(.int (4 : Int32))])) rfl (hb hby d_method_4_code_1) rfl (by decide) (cap := 4) (by decide) (by decide) (by decide) (by decide) (ad := "[C") rfl
    obtain ⟨b231, g231⟩ : ∃ zz_, zz_ = h0.size := ⟨_, rfl⟩
    have ge_b231 : n0 ≤ b231 := Nat.le_trans Z0 (Nat.le_of_eq g231.symm)
    have sz_b231 : h0.size ≤ b231 := Nat.le_trans (Keep.refl h0 []).1 (Nat.le_of_eq g231.symm)
    rw [← g231] at A231 Q231 st231
    have V231 : Av Z h231 b231 .char 4 (fun _ => (.int (0 : Int32))) := Av.new A231 (by decide)
    refine Rch.of (T' := T231) (g' := (mkF m 3 #[.val (.long p1), .second, .val (.int (4 : Int32)), .unset] [(.ref b231)])) st231 ?_
    refine Rch.of (T' := T231) (g' := (mkF m 4 #[.val (.long p1), .second, .val (.int (4 : Int32)), .val (.ref b231)] [])) (fun _ kt => XS.astoreN X231.here hx rfl (hb hby d_method_4_code_3) rfl rfl (l' := #[.val (.long p1), .second, .val (.int (4 : Int32)), .val (.ref b231)]) rfl kt) ?_
    refine Rch.of (T' := T231) (g' := (mkF m 5 #[.val (.long p1), .second, .val (.int (4 : Int32)), .val (.ref b231)] [(.int (4 : Int32))])) (fun _ kt => XS.iloadN X231.here hx rfl (hb hby d_method_4_code_4) rfl  kt) ?_
    refine Rch.of (T' := T231) (g' := (mkF m 8 #[.val (.long p1), .second, .val (.int (4 : Int32)), .val (.ref b231)] [])) (fun _ kt => XS.ifNo X231.here hx rfl (hb hby d_method_4_code_5) rfl ((if0 _ _).trans (tlt ((by decide) : (0 : Int32) < (4 : Int32))).2.2.2) kt) ?_
    refine Rch.of (T' := T231) (g' := (mkF m 9 #[.val (.long p1), .second, .val (.int (4 : Int32)), .val (.ref b231)] [(.ref b231)])) (fun _ kt => XS.aloadN X231.here hx rfl (hb hby d_method_4_code_8) rfl rfl kt) ?_
    refine Rch.of (T' := T231) (g' := (mkF m 10 #[.val (.long p1), .second, .val (.int (4 : Int32)), .val (.ref b231)] [(.int (0 : Int32)), (.ref b231)])) (fun _ kt => XS.iconst X231.here hx rfl (hb hby d_method_4_code_9) kt) ?_
    refine Rch.of (T' := T231) (g' := (mkF m 11 #[.val (.long p1), .second, .val (.int (4 : Int32)), .val (.ref b231)] [(.long p1), (.int (0 : Int32)), (.ref b231)])) (fun _ kt => XS.lloadN X231.here hx rfl (hb hby d_method_4_code_10) rfl  kt) ?_
    refine Rch.of (T' := T231) (g' := (mkF m 12 #[.val (.long p1), .second, .val (.int (4 : Int32)), .val (.ref b231)] [(.int (0 : Int32)), (.long p1), (.int (0 : Int32)), (.ref b231)])) (fun _ kt => XS.iconst X231.here hx rfl (hb hby d_method_4_code_11) kt) ?_
    obtain ⟨_, _, ⟨T232, L232, k232, n232⟩, -, X232, ⟨Lc232, hQ232, l232, y232, z232⟩, st232⟩ := Jvm.LawKit.callS X231 hx (y := (⟨"com/example/isidore/isidore/SeverityLabelledPinLaw", "at", "(JI)C"⟩ : MethodName)) hown (mvT hZ (hw _ (List.mem_of_getElem? (i := 5) rfl))) (mvT hZ (hw _ (List.mem_of_getElem? (i := 6) rfl))) (mvT hZ (hw _ (List.mem_of_getElem? (i := 2) rfl))) (mvT hZ (hw _ (List.mem_of_getElem? (i := 7) rfl))) (by decide) (backOf (W := 2) (rk1 l Z a0 hw [] p1 (0 : Int32) h231 n0 (Nat.le_trans Z0 E231.1) ) hZ (hw _ (List.mem_of_getElem? (i := 7) rfl)) (hw _ (List.mem_of_getElem? (i := 2) rfl)) (by decide) (by decide)) (g := (mkF m 12 #[.val (.long p1), .second, .val (.int (4 : Int32)), .val (.ref b231)] [(.int (0 : Int32)), (.long p1), (.int (0 : Int32)), (.ref b231)])) rfl (by rw [hml]; rfl) (argsL := [(.long p1), (.int (0 : Int32))]) (rest := [(.int (0 : Int32)), (.ref b231)]) (lenOf pd_1 rfl) rfl (by show 2 * 0 + _ ≤ _; exact Nat.le_of_eq rfl) (hb hby d_method_4_code_12) (fun _ _ => ⟨rfl, e231, (by decide : 1 + 0 ≤ _), (by decide : 4 + 0 ≤ _)⟩)
    dsimp only [Pt.U, Pt.locs, Pt.cells, Pt.slots] at X232 l232 y232 z232 st232 hQ232
    subst l232 y232 z232
    obtain ⟨rt232, rfl, N232q, hQ232⟩ := hQ232
    have N232 := Fr.app N0 N232q
    obtain ⟨hh232, c1232⟩ := hQ232
    refine Rch.of (T' := T232) (g' := (mkF m 15 #[.val (.long p1), .second, .val (.int (4 : Int32)), .val (.ref b231)] [(.int rt232), (.int (0 : Int32)), (.ref b231)])) st232 ?_
    obtain ⟨cl233, Ar233, Sz233, Ha233⟩ := id V231
    obtain ⟨T233, h233, X233, e233, W233, st233⟩ := stC X232 hx hZ hh232 Ar233 (j := (0 : Int32)) (oIn (i := 0) Sz233 (by decide) (by decide)) (g := (mkF m 15 #[.val (.long p1), .second, .val (.int (4 : Int32)), .val (.ref b231)] [(.int rt232), (.int (0 : Int32)), (.ref b231)])) rfl rfl (hb hby d_method_4_code_15)
    have V233 := Av.setI (i := 0) V231 (by decide) (by decide) W233
    obtain ⟨y233, hy233⟩ : ∃ zz_ : Nat → Int32, zz_ = fun q => if q = 0 then rt232.toUInt32.toUInt16.toUInt32.toInt32 else (fun _ => (0 : Int32)) q := ⟨_, rfl⟩
    have V233 : Av Z h233 b231 .char 4 (fun q => .int (y233 q)) := by rw [hy233]; exact V233
    have N233 := Fr.snoc X233 N232 ge_b231
    have Sf234 : Safe Z consts_1 s.vm h231 b231 := (Safe.exa hZ.alike Q231 (by decide) (by decide))
    refine Rch.of (T' := T233) (g' := (mkF m 16 #[.val (.long p1), .second, .val (.int (4 : Int32)), .val (.ref b231)] [])) st233 ?_
    refine Rch.of (T' := T233) (g' := (mkF m 17 #[.val (.long p1), .second, .val (.int (4 : Int32)), .val (.ref b231)] [(.int (4 : Int32))])) (fun _ kt => XS.iloadN X233.here hx rfl (hb hby d_method_4_code_16) rfl  kt) ?_
    refine Rch.of (T' := T233) (g' := (mkF m 18 #[.val (.long p1), .second, .val (.int (4 : Int32)), .val (.ref b231)] [(.int (1 : Int32)), (.int (4 : Int32))])) (fun _ kt => XS.iconst X233.here hx rfl (hb hby d_method_4_code_17) kt) ?_
    refine Rch.of (T' := T233) (g' := (mkF m 21 #[.val (.long p1), .second, .val (.int (4 : Int32)), .val (.ref b231)] [])) (fun _ kt => XS.icmpNo X233.here hx rfl (hb hby d_method_4_code_18) rfl (tlt ((by decide) : (1 : Int32) < (4 : Int32))).2.2.2 kt) ?_
    refine Rch.of (T' := T233) (g' := (mkF m 22 #[.val (.long p1), .second, .val (.int (4 : Int32)), .val (.ref b231)] [(.ref b231)])) (fun _ kt => XS.aloadN X233.here hx rfl (hb hby d_method_4_code_21) rfl rfl kt) ?_
    refine Rch.of (T' := T233) (g' := (mkF m 23 #[.val (.long p1), .second, .val (.int (4 : Int32)), .val (.ref b231)] [(.int (1 : Int32)), (.ref b231)])) (fun _ kt => XS.iconst X233.here hx rfl (hb hby d_method_4_code_22) kt) ?_
    refine Rch.of (T' := T233) (g' := (mkF m 24 #[.val (.long p1), .second, .val (.int (4 : Int32)), .val (.ref b231)] [(.long p1), (.int (1 : Int32)), (.ref b231)])) (fun _ kt => XS.lloadN X233.here hx rfl (hb hby d_method_4_code_23) rfl  kt) ?_
    refine Rch.of (T' := T233) (g' := (mkF m 25 #[.val (.long p1), .second, .val (.int (4 : Int32)), .val (.ref b231)] [(.int (1 : Int32)), (.long p1), (.int (1 : Int32)), (.ref b231)])) (fun _ kt => XS.iconst X233.here hx rfl (hb hby d_method_4_code_24) kt) ?_
    obtain ⟨_, _, ⟨T235, L235, k235, n235⟩, -, X235, ⟨Lc235, hQ235, l235, y235, z235⟩, st235⟩ := Jvm.LawKit.callS X233 hx (y := (⟨"com/example/isidore/isidore/SeverityLabelledPinLaw", "at", "(JI)C"⟩ : MethodName)) hown (mvT hZ (hw _ (List.mem_of_getElem? (i := 5) rfl))) (mvT hZ (hw _ (List.mem_of_getElem? (i := 6) rfl))) (mvT hZ (hw _ (List.mem_of_getElem? (i := 2) rfl))) (mvT hZ (hw _ (List.mem_of_getElem? (i := 7) rfl))) (by decide) (backOf (W := 2) (rk1 l Z a0 hw [] p1 (1 : Int32) h233 n0 (Nat.le_trans (Nat.le_trans Z0 E231.1) (Keep.of_wr W233).1) ) hZ (hw _ (List.mem_of_getElem? (i := 7) rfl)) (hw _ (List.mem_of_getElem? (i := 2) rfl)) (by decide) (by decide)) (g := (mkF m 25 #[.val (.long p1), .second, .val (.int (4 : Int32)), .val (.ref b231)] [(.int (1 : Int32)), (.long p1), (.int (1 : Int32)), (.ref b231)])) rfl (by rw [hml]; rfl) (argsL := [(.long p1), (.int (1 : Int32))]) (rest := [(.int (1 : Int32)), (.ref b231)]) (lenOf pd_1 rfl) rfl (by show 2 * 0 + _ ≤ _; exact Nat.le_of_eq rfl) (hb hby d_method_4_code_25) (fun _ _ => ⟨rfl, e233, (by decide : 1 + 0 ≤ _), (by decide : 4 + 0 ≤ _)⟩)
    dsimp only [Pt.U, Pt.locs, Pt.cells, Pt.slots] at X235 l235 y235 z235 st235 hQ235
    subst l235 y235 z235
    obtain ⟨rt235, rfl, N235q, hQ235⟩ := hQ235
    have N235 := Fr.app N233 N235q
    obtain ⟨hh235, c1235⟩ := hQ235
    refine Rch.of (T' := T235) (g' := (mkF m 28 #[.val (.long p1), .second, .val (.int (4 : Int32)), .val (.ref b231)] [(.int rt235), (.int (1 : Int32)), (.ref b231)])) st235 ?_
    obtain ⟨cl236, Ar236, Sz236, Ha236⟩ := id V233
    obtain ⟨T236, h236, X236, e236, W236, st236⟩ := stC X235 hx hZ hh235 Ar236 (j := (1 : Int32)) (oIn (i := 1) Sz236 (by decide) (by decide)) (g := (mkF m 28 #[.val (.long p1), .second, .val (.int (4 : Int32)), .val (.ref b231)] [(.int rt235), (.int (1 : Int32)), (.ref b231)])) rfl rfl (hb hby d_method_4_code_28)
    have V236 := Av.setI (i := 1) V233 (by decide) (by decide) W236
    obtain ⟨y236, hy236⟩ : ∃ zz_ : Nat → Int32, zz_ = fun q => if q = 1 then rt235.toUInt32.toUInt16.toUInt32.toInt32 else y233 q := ⟨_, rfl⟩
    have V236 : Av Z h236 b231 .char 4 (fun q => .int (y236 q)) := by rw [hy236]; exact V236
    have N236 := Fr.snoc X236 N235 ge_b231
    have Sf237 : Safe Z consts_1 s.vm h233 b231 := (Safe.exa hZ.alike (Q231.wr W233) (by decide) (by decide))
    have Rb238 := (((R0.trans (CHr.ext E231 R0.1)).trans (CHr.wr W233 Sf234 (R0.trans (CHr.ext E231 R0.1)).1)).trans (CHr.wr W236 Sf237 ((R0.trans (CHr.ext E231 R0.1)).trans (CHr.wr W233 Sf234 (R0.trans (CHr.ext E231 R0.1)).1)).1))
    refine Rch.of (T' := T236) (g' := (mkF m 29 #[.val (.long p1), .second, .val (.int (4 : Int32)), .val (.ref b231)] [])) st236 ?_
    refine Rch.of (T' := T236) (g' := (mkF m 30 #[.val (.long p1), .second, .val (.int (4 : Int32)), .val (.ref b231)] [(.int (4 : Int32))])) (fun _ kt => XS.iloadN X236.here hx rfl (hb hby d_method_4_code_29) rfl  kt) ?_
    refine Rch.of (T' := T236) (g' := (mkF m 31 #[.val (.long p1), .second, .val (.int (4 : Int32)), .val (.ref b231)] [(.int (2 : Int32)), (.int (4 : Int32))])) (fun _ kt => XS.iconst X236.here hx rfl (hb hby d_method_4_code_30) kt) ?_
    refine Rch.of (T' := T236) (g' := (mkF m 34 #[.val (.long p1), .second, .val (.int (4 : Int32)), .val (.ref b231)] [])) (fun _ kt => XS.icmpNo X236.here hx rfl (hb hby d_method_4_code_31) rfl (tlt ((by decide) : (2 : Int32) < (4 : Int32))).2.2.2 kt) ?_
    refine Rch.of (T' := T236) (g' := (mkF m 35 #[.val (.long p1), .second, .val (.int (4 : Int32)), .val (.ref b231)] [(.ref b231)])) (fun _ kt => XS.aloadN X236.here hx rfl (hb hby d_method_4_code_34) rfl rfl kt) ?_
    refine Rch.of (T' := T236) (g' := (mkF m 36 #[.val (.long p1), .second, .val (.int (4 : Int32)), .val (.ref b231)] [(.int (2 : Int32)), (.ref b231)])) (fun _ kt => XS.iconst X236.here hx rfl (hb hby d_method_4_code_35) kt) ?_
    refine Rch.of (T' := T236) (g' := (mkF m 37 #[.val (.long p1), .second, .val (.int (4 : Int32)), .val (.ref b231)] [(.long p1), (.int (2 : Int32)), (.ref b231)])) (fun _ kt => XS.lloadN X236.here hx rfl (hb hby d_method_4_code_36) rfl  kt) ?_
    refine Rch.of (T' := T236) (g' := (mkF m 38 #[.val (.long p1), .second, .val (.int (4 : Int32)), .val (.ref b231)] [(.int (2 : Int32)), (.long p1), (.int (2 : Int32)), (.ref b231)])) (fun _ kt => XS.iconst X236.here hx rfl (hb hby d_method_4_code_37) kt) ?_
    obtain ⟨_, _, ⟨T239, L239, k239, n239⟩, -, X239, ⟨Lc239, hQ239, l239, y239, z239⟩, st239⟩ := Jvm.LawKit.callS X236 hx (y := (⟨"com/example/isidore/isidore/SeverityLabelledPinLaw", "at", "(JI)C"⟩ : MethodName)) hown (mvT hZ (hw _ (List.mem_of_getElem? (i := 5) rfl))) (mvT hZ (hw _ (List.mem_of_getElem? (i := 6) rfl))) (mvT hZ (hw _ (List.mem_of_getElem? (i := 2) rfl))) (mvT hZ (hw _ (List.mem_of_getElem? (i := 7) rfl))) (by decide) (backOf (W := 2) (rk1 l Z a0 hw [] p1 (2 : Int32) h236 n0 (Nat.le_trans (Nat.le_trans (Nat.le_trans Z0 E231.1) (Keep.of_wr W233).1) (Keep.of_wr W236).1) ) hZ (hw _ (List.mem_of_getElem? (i := 7) rfl)) (hw _ (List.mem_of_getElem? (i := 2) rfl)) (by decide) (by decide)) (g := (mkF m 38 #[.val (.long p1), .second, .val (.int (4 : Int32)), .val (.ref b231)] [(.int (2 : Int32)), (.long p1), (.int (2 : Int32)), (.ref b231)])) rfl (by rw [hml]; rfl) (argsL := [(.long p1), (.int (2 : Int32))]) (rest := [(.int (2 : Int32)), (.ref b231)]) (lenOf pd_1 rfl) rfl (by show 2 * 0 + _ ≤ _; exact Nat.le_of_eq rfl) (hb hby d_method_4_code_38) (fun _ _ => ⟨rfl, e236, (by decide : 1 + 0 ≤ _), (by decide : 4 + 0 ≤ _)⟩)
    dsimp only [Pt.U, Pt.locs, Pt.cells, Pt.slots] at X239 l239 y239 z239 st239 hQ239
    subst l239 y239 z239
    obtain ⟨rt239, rfl, N239q, hQ239⟩ := hQ239
    have N239 := Fr.app N236 N239q
    obtain ⟨hh239, c1239⟩ := hQ239
    refine Rch.of (T' := T239) (g' := (mkF m 41 #[.val (.long p1), .second, .val (.int (4 : Int32)), .val (.ref b231)] [(.int rt239), (.int (2 : Int32)), (.ref b231)])) st239 ?_
    obtain ⟨cl240, Ar240, Sz240, Ha240⟩ := id V236
    obtain ⟨T240, h240, X240, e240, W240, st240⟩ := stC X239 hx hZ hh239 Ar240 (j := (2 : Int32)) (oIn (i := 2) Sz240 (by decide) (by decide)) (g := (mkF m 41 #[.val (.long p1), .second, .val (.int (4 : Int32)), .val (.ref b231)] [(.int rt239), (.int (2 : Int32)), (.ref b231)])) rfl rfl (hb hby d_method_4_code_41)
    have V240 := Av.setI (i := 2) V236 (by decide) (by decide) W240
    obtain ⟨y240, hy240⟩ : ∃ zz_ : Nat → Int32, zz_ = fun q => if q = 2 then rt239.toUInt32.toUInt16.toUInt32.toInt32 else y236 q := ⟨_, rfl⟩
    have V240 : Av Z h240 b231 .char 4 (fun q => .int (y240 q)) := by rw [hy240]; exact V240
    have N240 := Fr.snoc X240 N239 ge_b231
    have Sf241 : Safe Z consts_1 s.vm h236 b231 := (Safe.exa hZ.alike ((Q231.wr W233).wr W236) (by decide) (by decide))
    refine Rch.of (T' := T240) (g' := (mkF m 42 #[.val (.long p1), .second, .val (.int (4 : Int32)), .val (.ref b231)] [])) st240 ?_
    refine Rch.of (T' := T240) (g' := (mkF m 43 #[.val (.long p1), .second, .val (.int (4 : Int32)), .val (.ref b231)] [(.int (4 : Int32))])) (fun _ kt => XS.iloadN X240.here hx rfl (hb hby d_method_4_code_42) rfl  kt) ?_
    refine Rch.of (T' := T240) (g' := (mkF m 44 #[.val (.long p1), .second, .val (.int (4 : Int32)), .val (.ref b231)] [(.int (3 : Int32)), (.int (4 : Int32))])) (fun _ kt => XS.iconst X240.here hx rfl (hb hby d_method_4_code_43) kt) ?_
    refine Rch.of (T' := T240) (g' := (mkF m 47 #[.val (.long p1), .second, .val (.int (4 : Int32)), .val (.ref b231)] [])) (fun _ kt => XS.icmpNo X240.here hx rfl (hb hby d_method_4_code_44) rfl (tlt ((by decide) : (3 : Int32) < (4 : Int32))).2.2.2 kt) ?_
    refine Rch.of (T' := T240) (g' := (mkF m 48 #[.val (.long p1), .second, .val (.int (4 : Int32)), .val (.ref b231)] [(.ref b231)])) (fun _ kt => XS.aloadN X240.here hx rfl (hb hby d_method_4_code_47) rfl rfl kt) ?_
    refine Rch.of (T' := T240) (g' := (mkF m 49 #[.val (.long p1), .second, .val (.int (4 : Int32)), .val (.ref b231)] [(.int (3 : Int32)), (.ref b231)])) (fun _ kt => XS.iconst X240.here hx rfl (hb hby d_method_4_code_48) kt) ?_
    refine Rch.of (T' := T240) (g' := (mkF m 50 #[.val (.long p1), .second, .val (.int (4 : Int32)), .val (.ref b231)] [(.long p1), (.int (3 : Int32)), (.ref b231)])) (fun _ kt => XS.lloadN X240.here hx rfl (hb hby d_method_4_code_49) rfl  kt) ?_
    refine Rch.of (T' := T240) (g' := (mkF m 51 #[.val (.long p1), .second, .val (.int (4 : Int32)), .val (.ref b231)] [(.int (3 : Int32)), (.long p1), (.int (3 : Int32)), (.ref b231)])) (fun _ kt => XS.iconst X240.here hx rfl (hb hby d_method_4_code_50) kt) ?_
    obtain ⟨_, _, ⟨T242, L242, k242, n242⟩, -, X242, ⟨Lc242, hQ242, l242, y242, z242⟩, st242⟩ := Jvm.LawKit.callS X240 hx (y := (⟨"com/example/isidore/isidore/SeverityLabelledPinLaw", "at", "(JI)C"⟩ : MethodName)) hown (mvT hZ (hw _ (List.mem_of_getElem? (i := 5) rfl))) (mvT hZ (hw _ (List.mem_of_getElem? (i := 6) rfl))) (mvT hZ (hw _ (List.mem_of_getElem? (i := 2) rfl))) (mvT hZ (hw _ (List.mem_of_getElem? (i := 7) rfl))) (by decide) (backOf (W := 2) (rk1 l Z a0 hw [] p1 (3 : Int32) h240 n0 (Nat.le_trans (Nat.le_trans (Nat.le_trans (Nat.le_trans Z0 E231.1) (Keep.of_wr W233).1) (Keep.of_wr W236).1) (Keep.of_wr W240).1) ) hZ (hw _ (List.mem_of_getElem? (i := 7) rfl)) (hw _ (List.mem_of_getElem? (i := 2) rfl)) (by decide) (by decide)) (g := (mkF m 51 #[.val (.long p1), .second, .val (.int (4 : Int32)), .val (.ref b231)] [(.int (3 : Int32)), (.long p1), (.int (3 : Int32)), (.ref b231)])) rfl (by rw [hml]; rfl) (argsL := [(.long p1), (.int (3 : Int32))]) (rest := [(.int (3 : Int32)), (.ref b231)]) (lenOf pd_1 rfl) rfl (by show 2 * 0 + _ ≤ _; exact Nat.le_of_eq rfl) (hb hby d_method_4_code_51) (fun _ _ => ⟨rfl, e240, (by decide : 1 + 0 ≤ _), (by decide : 4 + 0 ≤ _)⟩)
    dsimp only [Pt.U, Pt.locs, Pt.cells, Pt.slots] at X242 l242 y242 z242 st242 hQ242
    subst l242 y242 z242
    obtain ⟨rt242, rfl, N242q, hQ242⟩ := hQ242
    have N242 := Fr.app N240 N242q
    obtain ⟨hh242, c1242⟩ := hQ242
    refine Rch.of (T' := T242) (g' := (mkF m 54 #[.val (.long p1), .second, .val (.int (4 : Int32)), .val (.ref b231)] [(.int rt242), (.int (3 : Int32)), (.ref b231)])) st242 ?_
    obtain ⟨cl243, Ar243, Sz243, Ha243⟩ := id V240
    obtain ⟨T243, h243, X243, e243, W243, st243⟩ := stC X242 hx hZ hh242 Ar243 (j := (3 : Int32)) (oIn (i := 3) Sz243 (by decide) (by decide)) (g := (mkF m 54 #[.val (.long p1), .second, .val (.int (4 : Int32)), .val (.ref b231)] [(.int rt242), (.int (3 : Int32)), (.ref b231)])) rfl rfl (hb hby d_method_4_code_54)
    have V243 := Av.setI (i := 3) V240 (by decide) (by decide) W243
    obtain ⟨y243, hy243⟩ : ∃ zz_ : Nat → Int32, zz_ = fun q => if q = 3 then rt242.toUInt32.toUInt16.toUInt32.toInt32 else y240 q := ⟨_, rfl⟩
    have V243 : Av Z h243 b231 .char 4 (fun q => .int (y243 q)) := by rw [hy243]; exact V243
    have N243 := Fr.snoc X243 N242 ge_b231
    have Sf244 : Safe Z consts_1 s.vm h240 b231 := (Safe.exa hZ.alike (((Q231.wr W233).wr W236).wr W240) (by decide) (by decide))
    have Fb245 := (Nat.le_trans (Nat.le_trans (Nat.le_trans (Nat.le_trans (Nat.le_trans hk0 E231.1) (Keep.of_wr W233).1) (Keep.of_wr W236).1) (Keep.of_wr W240).1) (Keep.of_wr W243).1)
    have Fb246 := (Nat.le_trans (Nat.le_trans (Nat.le_trans (Nat.le_trans (Nat.le_trans Z0 E231.1) (Keep.of_wr W233).1) (Keep.of_wr W236).1) (Keep.of_wr W240).1) (Keep.of_wr W243).1)
    refine Rch.of (T' := T243) (g' := (mkF m 55 #[.val (.long p1), .second, .val (.int (4 : Int32)), .val (.ref b231)] [])) st243 ?_
    refine Rch.of (T' := T243) (g' := (mkF m 56 #[.val (.long p1), .second, .val (.int (4 : Int32)), .val (.ref b231)] [(.int (4 : Int32))])) (fun _ kt => XS.iloadN X243.here hx rfl (hb hby d_method_4_code_55) rfl  kt) ?_
    refine Rch.of (T' := T243) (g' := (mkF m 57 #[.val (.long p1), .second, .val (.int (4 : Int32)), .val (.ref b231)] [(.int (4 : Int32)), (.int (4 : Int32))])) (fun _ kt => XS.iconst X243.here hx rfl (hb hby d_method_4_code_56) kt) ?_
    refine Rch.of (T' := T243) (g' := (mkF m 68 #[.val (.long p1), .second, .val (.int (4 : Int32)), .val (.ref b231)] [])) (fun _ kt => XS.icmpYes X243.here hx rfl (pc0 := 57) (pc' := 68) rfl (hb hby d_method_4_code_57) rfl (flt ((by decide) : ¬ ((4 : Int32) < (4 : Int32)))).2.2.2 (by decide) (by decide) kt) ?_
    refine Rch.of (T' := T243) (g' := (mkF m 69 #[.val (.long p1), .second, .val (.int (4 : Int32)), .val (.ref b231)] [(.int (4 : Int32))])) (fun _ kt => XS.iloadN X243.here hx rfl (hb hby d_method_4_code_68) rfl  kt) ?_
    refine Rch.of (T' := T243) (g' := (mkF m 70 #[.val (.long p1), .second, .val (.int (4 : Int32)), .val (.ref b231)] [(.int (5 : Int32)), (.int (4 : Int32))])) (fun _ kt => XS.iconst X243.here hx rfl (hb hby d_method_4_code_69) kt) ?_
    refine Rch.of (T' := T243) (g' := (mkF m 81 #[.val (.long p1), .second, .val (.int (4 : Int32)), .val (.ref b231)] [])) (fun _ kt => XS.icmpYes X243.here hx rfl (pc0 := 70) (pc' := 81) rfl (hb hby d_method_4_code_70) rfl (flt ((by decide) : ¬ ((5 : Int32) < (4 : Int32)))).2.2.2 (by decide) (by decide) kt) ?_
    refine Rch.of (T' := T243) (g' := (mkF m 82 #[.val (.long p1), .second, .val (.int (4 : Int32)), .val (.ref b231)] [(.int (4 : Int32))])) (fun _ kt => XS.iloadN X243.here hx rfl (hb hby d_method_4_code_81) rfl  kt) ?_
    refine Rch.of (T' := T243) (g' := (mkF m 84 #[.val (.long p1), .second, .val (.int (4 : Int32)), .val (.ref b231)] [(.int (6 : Int32)), (.int (4 : Int32))])) (fun _ kt => XS.bipush X243.here hx rfl (hb hby d_method_4_code_82) kt) ?_
    refine Rch.of (T' := T243) (g' := (mkF m 97 #[.val (.long p1), .second, .val (.int (4 : Int32)), .val (.ref b231)] [])) (fun _ kt => XS.icmpYes X243.here hx rfl (pc0 := 84) (pc' := 97) rfl (hb hby d_method_4_code_84) rfl (flt ((by decide) : ¬ ((6 : Int32) < (4 : Int32)))).2.2.2 (by decide) (by decide) kt) ?_
    obtain ⟨T247, h247, X247, e247, E247, A247, D247, -, st247⟩ := newO X243 hx hZ hown (hw _ (List.mem_of_getElem? (i := 9) rfl)) (hw _ (List.mem_of_getElem? (i := 10) rfl)) (hw _ (List.mem_of_getElem? (i := 11) rfl)) e243 (g := (mkF m 97 #[.val (.long p1), .second, .val (.int (4 : Int32)), .val (.ref b231)] [])) rfl (hb hby d_method_4_code_97) (by decide) (by decide)
    obtain ⟨b247, g247⟩ : ∃ zz_, zz_ = h243.size := ⟨_, rfl⟩
    have ne_b231_b247 : b231 ≠ b247 := Nat.ne_of_lt (Nat.lt_of_lt_of_le ((((Q231.wr W233).wr W236).wr W240).wr W243).lt (Nat.le_of_eq g247.symm))
    have ge_b247 : n0 ≤ b247 := Nat.le_trans Fb246 (Nat.le_of_eq g247.symm)
    have sz_b247 : h0.size ≤ b247 := Nat.le_trans ((((((Keep.refl h0 []).ext E231).wr W233 (Or.inr sz_b231)).wr W236 (Or.inr sz_b231)).wr W240 (Or.inr sz_b231)).wr W243 (Or.inr sz_b231)).1 (Nat.le_of_eq g247.symm)
    rw [← g247] at A247 D247 st247
    have Rb248 := (((Rb238.trans (CHr.wr W240 Sf241 Rb238.1)).trans (CHr.wr W243 Sf244 (Rb238.trans (CHr.wr W240 Sf241 Rb238.1)).1)).trans (CHr.ext E247 ((Rb238.trans (CHr.wr W240 Sf241 Rb238.1)).trans (CHr.wr W243 Sf244 (Rb238.trans (CHr.wr W240 Sf241 Rb238.1)).1)).1))
    have F247_coder : Fld Z h247 b247 "java/lang/String" "coder" "B" (.int (0 : Int32)) := D247 (Or.inr (hw _ (List.mem_of_getElem? (i := 35) rfl))) (ty := .byte) (by decide)
    have F247_value : Fld Z h247 b247 "java/lang/String" "value" "[B" .null := D247 (Or.inr (hw _ (List.mem_of_getElem? (i := 37) rfl))) (ty := (.array .byte)) (by decide)
    refine Rch.of (T' := T247) (g' := (mkF m 100 #[.val (.long p1), .second, .val (.int (4 : Int32)), .val (.ref b231)] [(.ref b247)])) st247 ?_
    refine Rch.of (T' := T247) (g' := (mkF m 101 #[.val (.long p1), .second, .val (.int (4 : Int32)), .val (.ref b231)] [(.ref b247), (.ref b247)])) (fun _ kt => XS.dup X247.here hx rfl (hb hby d_method_4_code_100) rfl rfl kt) ?_
    refine Rch.of (T' := T247) (g' := (mkF m 102 #[.val (.long p1), .second, .val (.int (4 : Int32)), .val (.ref b231)] [(.ref b231), (.ref b247), (.ref b247)])) (fun _ kt => XS.aloadN X247.here hx rfl (hb hby d_method_4_code_101) rfl rfl kt) ?_
    have pr250 : 4 ≤ 7 := by omega
    have hch251 : own_ch 4 y243 := by
      intro q hq
      rw [hy243, hy240, hy236, hy233]
      rcases (show q = 0 ∨ q = 1 ∨ q = 2 ∨ q = 3 by omega) with rfl | rfl | rfl | rfl
      · exact own_c1i c1232
      · exact own_c1i c1235
      · exact own_c1i c1239
      · exact own_c1i c1242
    obtain ⟨_, _, ⟨T249, L249, k249, n249⟩, -, X249, hT249, gr249, ⟨Lc249, hQ249, l249, y249, z249, cr249⟩, st249⟩ := X247.specialBackS hx (y := (⟨"java/lang/String", "<init>", "([C)V"⟩ : MethodName)) rfl hown (mvT hZ (hw _ (List.mem_of_getElem? (i := 12) rfl))) (mvT hZ (hw _ (List.mem_of_getElem? (i := 13) rfl))) (mvT hZ (hw _ (List.mem_of_getElem? (i := 14) rfl))) (by decide) (backOfSH (s := s) (vm0 := s.vm) (EL := consts_1) (W := 1) (rqN1 l Z a0 hw [] b247 b231 4 y243 (.int (0 : Int32)) cs h247 n0 (Nat.le_trans Fb246 E247.1) A247 F247_coder F247_value ge_b247 (V243.ext E247) ((((((SC.ext E231).wr W233).wr W236).wr W240).wr W243).ext E247) hcs pr250 hch251) hZ (hw _ (List.mem_of_getElem? (i := 14) rfl)) (hw _ (List.mem_of_getElem? (i := 11) rfl)) (by decide) (by decide) hEL Rb248.1) (g := (mkF m 102 #[.val (.long p1), .second, .val (.int (4 : Int32)), .val (.ref b231)] [(.ref b231), (.ref b247), (.ref b247)])) rfl (by rw [hml]; rfl) (Steps.refl _) (a := b247) (argsL := [(.ref b231)]) (rest := [(.ref b247)]) (lenOf pd_2 rfl) rfl (by show 2 * 0 + _ ≤ _; exact Nat.le_of_eq rfl) (hb hby d_method_4_code_102) (fun _ _ => ⟨rfl, e247, (by decide : 2 + 4 ≤ _), (by decide : 8 + 8 ≤ _)⟩)
    dsimp only [Pt.U, Pt.locs, Pt.cells, Pt.slots] at X249 hT249 gr249 l249 y249 z249 st249 hQ249 cr249
    subst l249 y249 z249
    obtain ⟨X249, hS249, hZ, hown⟩ := rebS hS0 (Nat.le_trans Fb245 E247.1) X249 hT249 (by rw [← e247]; exact gr249) hZ hown
    obtain ⟨rb249, rfl, N249q, hQ249⟩ := hQ249
    have N249 := Fr.app N243 N249q
    obtain ⟨K249, Ex249, Fa249, Fb249, V249⟩ := hQ249
    have Fb252 := ((((((((Keep.refl h0 []).ext E231).wr W233 (Or.inr sz_b231)).wr W236 (Or.inr sz_b231)).wr W240 (Or.inr sz_b231)).wr W243 (Or.inr sz_b231)).ext E247).trans K249 (allS (Or.inr sz_b247) all0))
    refine Rch.via (T' := T249) (g' := (mkF m 105 #[.val (.long p1), .second, .val (.int (4 : Int32)), .val (.ref b231)] [(.ref b247)])) st249 ?_
    exact Rch.retA X249 hx (w := (.ref b247)) hret rfl rfl hlk (hb hby d_method_4_code_105) (fun U hU hF => hK _ U _ _ _ (by show Q_rk2 Z p1 k cs h0 n0 _ U.heap _; rw [hU]; exact ⟨b247, rb249, y243, 4, rfl, N249, Fb252, Ex249, Fa249, Fb249, V249, hch251, by decide⟩) (own_endH hZ hEL (Rb248.trans cr249) hU hF) (own_end hS249 (by rw [hU]; exact (Nat.le_refl _)) hF) (by decide) (by decide))
  · skip
    have sw253 : (Int32.ofNat k) = (5 : Int32) := by rw [ek]; rfl
    rw [sw253]
    show Rch p e below K T0 (mkF m 0 #[.val (.long p1), .second, .val (.int (5 : Int32)), .unset] [])
    refine Rch.of (T' := T0) (g' := (mkF m 1 #[.val (.long p1), .second, .val (.int (5 : Int32)), .unset] [(.int (5 : Int32))])) (fun _ kt => XS.iloadN X0.here hx rfl (hb hby d_method_4_code_0) rfl  kt) ?_
    obtain ⟨T254, h254, k254, X254, e254, E254, A254, Q254, st254⟩ := newPE X0 hx hZ (hw _ (List.mem_of_getElem? (i := 4) rfl)) e0 (g := (mkF m 1 #[.val (.long p1), .second, .val (.int (5 : Int32)), .unset] [(.int (5 : Int32))])) rfl (hb hby d_method_4_code_1) rfl (by decide) (cap := 5) (by decide) (by decide) (by decide) (by decide) (ad := "[C") rfl
    obtain ⟨b254, g254⟩ : ∃ zz_, zz_ = h0.size := ⟨_, rfl⟩
    have ge_b254 : n0 ≤ b254 := Nat.le_trans Z0 (Nat.le_of_eq g254.symm)
    have sz_b254 : h0.size ≤ b254 := Nat.le_trans (Keep.refl h0 []).1 (Nat.le_of_eq g254.symm)
    rw [← g254] at A254 Q254 st254
    have V254 : Av Z h254 b254 .char 5 (fun _ => (.int (0 : Int32))) := Av.new A254 (by decide)
    refine Rch.of (T' := T254) (g' := (mkF m 3 #[.val (.long p1), .second, .val (.int (5 : Int32)), .unset] [(.ref b254)])) st254 ?_
    refine Rch.of (T' := T254) (g' := (mkF m 4 #[.val (.long p1), .second, .val (.int (5 : Int32)), .val (.ref b254)] [])) (fun _ kt => XS.astoreN X254.here hx rfl (hb hby d_method_4_code_3) rfl rfl (l' := #[.val (.long p1), .second, .val (.int (5 : Int32)), .val (.ref b254)]) rfl kt) ?_
    refine Rch.of (T' := T254) (g' := (mkF m 5 #[.val (.long p1), .second, .val (.int (5 : Int32)), .val (.ref b254)] [(.int (5 : Int32))])) (fun _ kt => XS.iloadN X254.here hx rfl (hb hby d_method_4_code_4) rfl  kt) ?_
    refine Rch.of (T' := T254) (g' := (mkF m 8 #[.val (.long p1), .second, .val (.int (5 : Int32)), .val (.ref b254)] [])) (fun _ kt => XS.ifNo X254.here hx rfl (hb hby d_method_4_code_5) rfl ((if0 _ _).trans (tlt ((by decide) : (0 : Int32) < (5 : Int32))).2.2.2) kt) ?_
    refine Rch.of (T' := T254) (g' := (mkF m 9 #[.val (.long p1), .second, .val (.int (5 : Int32)), .val (.ref b254)] [(.ref b254)])) (fun _ kt => XS.aloadN X254.here hx rfl (hb hby d_method_4_code_8) rfl rfl kt) ?_
    refine Rch.of (T' := T254) (g' := (mkF m 10 #[.val (.long p1), .second, .val (.int (5 : Int32)), .val (.ref b254)] [(.int (0 : Int32)), (.ref b254)])) (fun _ kt => XS.iconst X254.here hx rfl (hb hby d_method_4_code_9) kt) ?_
    refine Rch.of (T' := T254) (g' := (mkF m 11 #[.val (.long p1), .second, .val (.int (5 : Int32)), .val (.ref b254)] [(.long p1), (.int (0 : Int32)), (.ref b254)])) (fun _ kt => XS.lloadN X254.here hx rfl (hb hby d_method_4_code_10) rfl  kt) ?_
    refine Rch.of (T' := T254) (g' := (mkF m 12 #[.val (.long p1), .second, .val (.int (5 : Int32)), .val (.ref b254)] [(.int (0 : Int32)), (.long p1), (.int (0 : Int32)), (.ref b254)])) (fun _ kt => XS.iconst X254.here hx rfl (hb hby d_method_4_code_11) kt) ?_
    obtain ⟨_, _, ⟨T255, L255, k255, n255⟩, -, X255, ⟨Lc255, hQ255, l255, y255, z255⟩, st255⟩ := Jvm.LawKit.callS X254 hx (y := (⟨"com/example/isidore/isidore/SeverityLabelledPinLaw", "at", "(JI)C"⟩ : MethodName)) hown (mvT hZ (hw _ (List.mem_of_getElem? (i := 5) rfl))) (mvT hZ (hw _ (List.mem_of_getElem? (i := 6) rfl))) (mvT hZ (hw _ (List.mem_of_getElem? (i := 2) rfl))) (mvT hZ (hw _ (List.mem_of_getElem? (i := 7) rfl))) (by decide) (backOf (W := 2) (rk1 l Z a0 hw [] p1 (0 : Int32) h254 n0 (Nat.le_trans Z0 E254.1) ) hZ (hw _ (List.mem_of_getElem? (i := 7) rfl)) (hw _ (List.mem_of_getElem? (i := 2) rfl)) (by decide) (by decide)) (g := (mkF m 12 #[.val (.long p1), .second, .val (.int (5 : Int32)), .val (.ref b254)] [(.int (0 : Int32)), (.long p1), (.int (0 : Int32)), (.ref b254)])) rfl (by rw [hml]; rfl) (argsL := [(.long p1), (.int (0 : Int32))]) (rest := [(.int (0 : Int32)), (.ref b254)]) (lenOf pd_1 rfl) rfl (by show 2 * 0 + _ ≤ _; exact Nat.le_of_eq rfl) (hb hby d_method_4_code_12) (fun _ _ => ⟨rfl, e254, (by decide : 1 + 0 ≤ _), (by decide : 5 + 0 ≤ _)⟩)
    dsimp only [Pt.U, Pt.locs, Pt.cells, Pt.slots] at X255 l255 y255 z255 st255 hQ255
    subst l255 y255 z255
    obtain ⟨rt255, rfl, N255q, hQ255⟩ := hQ255
    have N255 := Fr.app N0 N255q
    obtain ⟨hh255, c1255⟩ := hQ255
    refine Rch.of (T' := T255) (g' := (mkF m 15 #[.val (.long p1), .second, .val (.int (5 : Int32)), .val (.ref b254)] [(.int rt255), (.int (0 : Int32)), (.ref b254)])) st255 ?_
    obtain ⟨cl256, Ar256, Sz256, Ha256⟩ := id V254
    obtain ⟨T256, h256, X256, e256, W256, st256⟩ := stC X255 hx hZ hh255 Ar256 (j := (0 : Int32)) (oIn (i := 0) Sz256 (by decide) (by decide)) (g := (mkF m 15 #[.val (.long p1), .second, .val (.int (5 : Int32)), .val (.ref b254)] [(.int rt255), (.int (0 : Int32)), (.ref b254)])) rfl rfl (hb hby d_method_4_code_15)
    have V256 := Av.setI (i := 0) V254 (by decide) (by decide) W256
    obtain ⟨y256, hy256⟩ : ∃ zz_ : Nat → Int32, zz_ = fun q => if q = 0 then rt255.toUInt32.toUInt16.toUInt32.toInt32 else (fun _ => (0 : Int32)) q := ⟨_, rfl⟩
    have V256 : Av Z h256 b254 .char 5 (fun q => .int (y256 q)) := by rw [hy256]; exact V256
    have N256 := Fr.snoc X256 N255 ge_b254
    have Sf257 : Safe Z consts_1 s.vm h254 b254 := (Safe.exa hZ.alike Q254 (by decide) (by decide))
    refine Rch.of (T' := T256) (g' := (mkF m 16 #[.val (.long p1), .second, .val (.int (5 : Int32)), .val (.ref b254)] [])) st256 ?_
    refine Rch.of (T' := T256) (g' := (mkF m 17 #[.val (.long p1), .second, .val (.int (5 : Int32)), .val (.ref b254)] [(.int (5 : Int32))])) (fun _ kt => XS.iloadN X256.here hx rfl (hb hby d_method_4_code_16) rfl  kt) ?_
    refine Rch.of (T' := T256) (g' := (mkF m 18 #[.val (.long p1), .second, .val (.int (5 : Int32)), .val (.ref b254)] [(.int (1 : Int32)), (.int (5 : Int32))])) (fun _ kt => XS.iconst X256.here hx rfl (hb hby d_method_4_code_17) kt) ?_
    refine Rch.of (T' := T256) (g' := (mkF m 21 #[.val (.long p1), .second, .val (.int (5 : Int32)), .val (.ref b254)] [])) (fun _ kt => XS.icmpNo X256.here hx rfl (hb hby d_method_4_code_18) rfl (tlt ((by decide) : (1 : Int32) < (5 : Int32))).2.2.2 kt) ?_
    refine Rch.of (T' := T256) (g' := (mkF m 22 #[.val (.long p1), .second, .val (.int (5 : Int32)), .val (.ref b254)] [(.ref b254)])) (fun _ kt => XS.aloadN X256.here hx rfl (hb hby d_method_4_code_21) rfl rfl kt) ?_
    refine Rch.of (T' := T256) (g' := (mkF m 23 #[.val (.long p1), .second, .val (.int (5 : Int32)), .val (.ref b254)] [(.int (1 : Int32)), (.ref b254)])) (fun _ kt => XS.iconst X256.here hx rfl (hb hby d_method_4_code_22) kt) ?_
    refine Rch.of (T' := T256) (g' := (mkF m 24 #[.val (.long p1), .second, .val (.int (5 : Int32)), .val (.ref b254)] [(.long p1), (.int (1 : Int32)), (.ref b254)])) (fun _ kt => XS.lloadN X256.here hx rfl (hb hby d_method_4_code_23) rfl  kt) ?_
    refine Rch.of (T' := T256) (g' := (mkF m 25 #[.val (.long p1), .second, .val (.int (5 : Int32)), .val (.ref b254)] [(.int (1 : Int32)), (.long p1), (.int (1 : Int32)), (.ref b254)])) (fun _ kt => XS.iconst X256.here hx rfl (hb hby d_method_4_code_24) kt) ?_
    obtain ⟨_, _, ⟨T258, L258, k258, n258⟩, -, X258, ⟨Lc258, hQ258, l258, y258, z258⟩, st258⟩ := Jvm.LawKit.callS X256 hx (y := (⟨"com/example/isidore/isidore/SeverityLabelledPinLaw", "at", "(JI)C"⟩ : MethodName)) hown (mvT hZ (hw _ (List.mem_of_getElem? (i := 5) rfl))) (mvT hZ (hw _ (List.mem_of_getElem? (i := 6) rfl))) (mvT hZ (hw _ (List.mem_of_getElem? (i := 2) rfl))) (mvT hZ (hw _ (List.mem_of_getElem? (i := 7) rfl))) (by decide) (backOf (W := 2) (rk1 l Z a0 hw [] p1 (1 : Int32) h256 n0 (Nat.le_trans (Nat.le_trans Z0 E254.1) (Keep.of_wr W256).1) ) hZ (hw _ (List.mem_of_getElem? (i := 7) rfl)) (hw _ (List.mem_of_getElem? (i := 2) rfl)) (by decide) (by decide)) (g := (mkF m 25 #[.val (.long p1), .second, .val (.int (5 : Int32)), .val (.ref b254)] [(.int (1 : Int32)), (.long p1), (.int (1 : Int32)), (.ref b254)])) rfl (by rw [hml]; rfl) (argsL := [(.long p1), (.int (1 : Int32))]) (rest := [(.int (1 : Int32)), (.ref b254)]) (lenOf pd_1 rfl) rfl (by show 2 * 0 + _ ≤ _; exact Nat.le_of_eq rfl) (hb hby d_method_4_code_25) (fun _ _ => ⟨rfl, e256, (by decide : 1 + 0 ≤ _), (by decide : 5 + 0 ≤ _)⟩)
    dsimp only [Pt.U, Pt.locs, Pt.cells, Pt.slots] at X258 l258 y258 z258 st258 hQ258
    subst l258 y258 z258
    obtain ⟨rt258, rfl, N258q, hQ258⟩ := hQ258
    have N258 := Fr.app N256 N258q
    obtain ⟨hh258, c1258⟩ := hQ258
    refine Rch.of (T' := T258) (g' := (mkF m 28 #[.val (.long p1), .second, .val (.int (5 : Int32)), .val (.ref b254)] [(.int rt258), (.int (1 : Int32)), (.ref b254)])) st258 ?_
    obtain ⟨cl259, Ar259, Sz259, Ha259⟩ := id V256
    obtain ⟨T259, h259, X259, e259, W259, st259⟩ := stC X258 hx hZ hh258 Ar259 (j := (1 : Int32)) (oIn (i := 1) Sz259 (by decide) (by decide)) (g := (mkF m 28 #[.val (.long p1), .second, .val (.int (5 : Int32)), .val (.ref b254)] [(.int rt258), (.int (1 : Int32)), (.ref b254)])) rfl rfl (hb hby d_method_4_code_28)
    have V259 := Av.setI (i := 1) V256 (by decide) (by decide) W259
    obtain ⟨y259, hy259⟩ : ∃ zz_ : Nat → Int32, zz_ = fun q => if q = 1 then rt258.toUInt32.toUInt16.toUInt32.toInt32 else y256 q := ⟨_, rfl⟩
    have V259 : Av Z h259 b254 .char 5 (fun q => .int (y259 q)) := by rw [hy259]; exact V259
    have N259 := Fr.snoc X259 N258 ge_b254
    have Sf260 : Safe Z consts_1 s.vm h256 b254 := (Safe.exa hZ.alike (Q254.wr W256) (by decide) (by decide))
    have Rb261 := (((R0.trans (CHr.ext E254 R0.1)).trans (CHr.wr W256 Sf257 (R0.trans (CHr.ext E254 R0.1)).1)).trans (CHr.wr W259 Sf260 ((R0.trans (CHr.ext E254 R0.1)).trans (CHr.wr W256 Sf257 (R0.trans (CHr.ext E254 R0.1)).1)).1))
    refine Rch.of (T' := T259) (g' := (mkF m 29 #[.val (.long p1), .second, .val (.int (5 : Int32)), .val (.ref b254)] [])) st259 ?_
    refine Rch.of (T' := T259) (g' := (mkF m 30 #[.val (.long p1), .second, .val (.int (5 : Int32)), .val (.ref b254)] [(.int (5 : Int32))])) (fun _ kt => XS.iloadN X259.here hx rfl (hb hby d_method_4_code_29) rfl  kt) ?_
    refine Rch.of (T' := T259) (g' := (mkF m 31 #[.val (.long p1), .second, .val (.int (5 : Int32)), .val (.ref b254)] [(.int (2 : Int32)), (.int (5 : Int32))])) (fun _ kt => XS.iconst X259.here hx rfl (hb hby d_method_4_code_30) kt) ?_
    refine Rch.of (T' := T259) (g' := (mkF m 34 #[.val (.long p1), .second, .val (.int (5 : Int32)), .val (.ref b254)] [])) (fun _ kt => XS.icmpNo X259.here hx rfl (hb hby d_method_4_code_31) rfl (tlt ((by decide) : (2 : Int32) < (5 : Int32))).2.2.2 kt) ?_
    refine Rch.of (T' := T259) (g' := (mkF m 35 #[.val (.long p1), .second, .val (.int (5 : Int32)), .val (.ref b254)] [(.ref b254)])) (fun _ kt => XS.aloadN X259.here hx rfl (hb hby d_method_4_code_34) rfl rfl kt) ?_
    refine Rch.of (T' := T259) (g' := (mkF m 36 #[.val (.long p1), .second, .val (.int (5 : Int32)), .val (.ref b254)] [(.int (2 : Int32)), (.ref b254)])) (fun _ kt => XS.iconst X259.here hx rfl (hb hby d_method_4_code_35) kt) ?_
    refine Rch.of (T' := T259) (g' := (mkF m 37 #[.val (.long p1), .second, .val (.int (5 : Int32)), .val (.ref b254)] [(.long p1), (.int (2 : Int32)), (.ref b254)])) (fun _ kt => XS.lloadN X259.here hx rfl (hb hby d_method_4_code_36) rfl  kt) ?_
    refine Rch.of (T' := T259) (g' := (mkF m 38 #[.val (.long p1), .second, .val (.int (5 : Int32)), .val (.ref b254)] [(.int (2 : Int32)), (.long p1), (.int (2 : Int32)), (.ref b254)])) (fun _ kt => XS.iconst X259.here hx rfl (hb hby d_method_4_code_37) kt) ?_
    obtain ⟨_, _, ⟨T262, L262, k262, n262⟩, -, X262, ⟨Lc262, hQ262, l262, y262, z262⟩, st262⟩ := Jvm.LawKit.callS X259 hx (y := (⟨"com/example/isidore/isidore/SeverityLabelledPinLaw", "at", "(JI)C"⟩ : MethodName)) hown (mvT hZ (hw _ (List.mem_of_getElem? (i := 5) rfl))) (mvT hZ (hw _ (List.mem_of_getElem? (i := 6) rfl))) (mvT hZ (hw _ (List.mem_of_getElem? (i := 2) rfl))) (mvT hZ (hw _ (List.mem_of_getElem? (i := 7) rfl))) (by decide) (backOf (W := 2) (rk1 l Z a0 hw [] p1 (2 : Int32) h259 n0 (Nat.le_trans (Nat.le_trans (Nat.le_trans Z0 E254.1) (Keep.of_wr W256).1) (Keep.of_wr W259).1) ) hZ (hw _ (List.mem_of_getElem? (i := 7) rfl)) (hw _ (List.mem_of_getElem? (i := 2) rfl)) (by decide) (by decide)) (g := (mkF m 38 #[.val (.long p1), .second, .val (.int (5 : Int32)), .val (.ref b254)] [(.int (2 : Int32)), (.long p1), (.int (2 : Int32)), (.ref b254)])) rfl (by rw [hml]; rfl) (argsL := [(.long p1), (.int (2 : Int32))]) (rest := [(.int (2 : Int32)), (.ref b254)]) (lenOf pd_1 rfl) rfl (by show 2 * 0 + _ ≤ _; exact Nat.le_of_eq rfl) (hb hby d_method_4_code_38) (fun _ _ => ⟨rfl, e259, (by decide : 1 + 0 ≤ _), (by decide : 5 + 0 ≤ _)⟩)
    dsimp only [Pt.U, Pt.locs, Pt.cells, Pt.slots] at X262 l262 y262 z262 st262 hQ262
    subst l262 y262 z262
    obtain ⟨rt262, rfl, N262q, hQ262⟩ := hQ262
    have N262 := Fr.app N259 N262q
    obtain ⟨hh262, c1262⟩ := hQ262
    refine Rch.of (T' := T262) (g' := (mkF m 41 #[.val (.long p1), .second, .val (.int (5 : Int32)), .val (.ref b254)] [(.int rt262), (.int (2 : Int32)), (.ref b254)])) st262 ?_
    obtain ⟨cl263, Ar263, Sz263, Ha263⟩ := id V259
    obtain ⟨T263, h263, X263, e263, W263, st263⟩ := stC X262 hx hZ hh262 Ar263 (j := (2 : Int32)) (oIn (i := 2) Sz263 (by decide) (by decide)) (g := (mkF m 41 #[.val (.long p1), .second, .val (.int (5 : Int32)), .val (.ref b254)] [(.int rt262), (.int (2 : Int32)), (.ref b254)])) rfl rfl (hb hby d_method_4_code_41)
    have V263 := Av.setI (i := 2) V259 (by decide) (by decide) W263
    obtain ⟨y263, hy263⟩ : ∃ zz_ : Nat → Int32, zz_ = fun q => if q = 2 then rt262.toUInt32.toUInt16.toUInt32.toInt32 else y259 q := ⟨_, rfl⟩
    have V263 : Av Z h263 b254 .char 5 (fun q => .int (y263 q)) := by rw [hy263]; exact V263
    have N263 := Fr.snoc X263 N262 ge_b254
    have Sf264 : Safe Z consts_1 s.vm h259 b254 := (Safe.exa hZ.alike ((Q254.wr W256).wr W259) (by decide) (by decide))
    refine Rch.of (T' := T263) (g' := (mkF m 42 #[.val (.long p1), .second, .val (.int (5 : Int32)), .val (.ref b254)] [])) st263 ?_
    refine Rch.of (T' := T263) (g' := (mkF m 43 #[.val (.long p1), .second, .val (.int (5 : Int32)), .val (.ref b254)] [(.int (5 : Int32))])) (fun _ kt => XS.iloadN X263.here hx rfl (hb hby d_method_4_code_42) rfl  kt) ?_
    refine Rch.of (T' := T263) (g' := (mkF m 44 #[.val (.long p1), .second, .val (.int (5 : Int32)), .val (.ref b254)] [(.int (3 : Int32)), (.int (5 : Int32))])) (fun _ kt => XS.iconst X263.here hx rfl (hb hby d_method_4_code_43) kt) ?_
    refine Rch.of (T' := T263) (g' := (mkF m 47 #[.val (.long p1), .second, .val (.int (5 : Int32)), .val (.ref b254)] [])) (fun _ kt => XS.icmpNo X263.here hx rfl (hb hby d_method_4_code_44) rfl (tlt ((by decide) : (3 : Int32) < (5 : Int32))).2.2.2 kt) ?_
    refine Rch.of (T' := T263) (g' := (mkF m 48 #[.val (.long p1), .second, .val (.int (5 : Int32)), .val (.ref b254)] [(.ref b254)])) (fun _ kt => XS.aloadN X263.here hx rfl (hb hby d_method_4_code_47) rfl rfl kt) ?_
    refine Rch.of (T' := T263) (g' := (mkF m 49 #[.val (.long p1), .second, .val (.int (5 : Int32)), .val (.ref b254)] [(.int (3 : Int32)), (.ref b254)])) (fun _ kt => XS.iconst X263.here hx rfl (hb hby d_method_4_code_48) kt) ?_
    refine Rch.of (T' := T263) (g' := (mkF m 50 #[.val (.long p1), .second, .val (.int (5 : Int32)), .val (.ref b254)] [(.long p1), (.int (3 : Int32)), (.ref b254)])) (fun _ kt => XS.lloadN X263.here hx rfl (hb hby d_method_4_code_49) rfl  kt) ?_
    refine Rch.of (T' := T263) (g' := (mkF m 51 #[.val (.long p1), .second, .val (.int (5 : Int32)), .val (.ref b254)] [(.int (3 : Int32)), (.long p1), (.int (3 : Int32)), (.ref b254)])) (fun _ kt => XS.iconst X263.here hx rfl (hb hby d_method_4_code_50) kt) ?_
    obtain ⟨_, _, ⟨T265, L265, k265, n265⟩, -, X265, ⟨Lc265, hQ265, l265, y265, z265⟩, st265⟩ := Jvm.LawKit.callS X263 hx (y := (⟨"com/example/isidore/isidore/SeverityLabelledPinLaw", "at", "(JI)C"⟩ : MethodName)) hown (mvT hZ (hw _ (List.mem_of_getElem? (i := 5) rfl))) (mvT hZ (hw _ (List.mem_of_getElem? (i := 6) rfl))) (mvT hZ (hw _ (List.mem_of_getElem? (i := 2) rfl))) (mvT hZ (hw _ (List.mem_of_getElem? (i := 7) rfl))) (by decide) (backOf (W := 2) (rk1 l Z a0 hw [] p1 (3 : Int32) h263 n0 (Nat.le_trans (Nat.le_trans (Nat.le_trans (Nat.le_trans Z0 E254.1) (Keep.of_wr W256).1) (Keep.of_wr W259).1) (Keep.of_wr W263).1) ) hZ (hw _ (List.mem_of_getElem? (i := 7) rfl)) (hw _ (List.mem_of_getElem? (i := 2) rfl)) (by decide) (by decide)) (g := (mkF m 51 #[.val (.long p1), .second, .val (.int (5 : Int32)), .val (.ref b254)] [(.int (3 : Int32)), (.long p1), (.int (3 : Int32)), (.ref b254)])) rfl (by rw [hml]; rfl) (argsL := [(.long p1), (.int (3 : Int32))]) (rest := [(.int (3 : Int32)), (.ref b254)]) (lenOf pd_1 rfl) rfl (by show 2 * 0 + _ ≤ _; exact Nat.le_of_eq rfl) (hb hby d_method_4_code_51) (fun _ _ => ⟨rfl, e263, (by decide : 1 + 0 ≤ _), (by decide : 5 + 0 ≤ _)⟩)
    dsimp only [Pt.U, Pt.locs, Pt.cells, Pt.slots] at X265 l265 y265 z265 st265 hQ265
    subst l265 y265 z265
    obtain ⟨rt265, rfl, N265q, hQ265⟩ := hQ265
    have N265 := Fr.app N263 N265q
    obtain ⟨hh265, c1265⟩ := hQ265
    refine Rch.of (T' := T265) (g' := (mkF m 54 #[.val (.long p1), .second, .val (.int (5 : Int32)), .val (.ref b254)] [(.int rt265), (.int (3 : Int32)), (.ref b254)])) st265 ?_
    obtain ⟨cl266, Ar266, Sz266, Ha266⟩ := id V263
    obtain ⟨T266, h266, X266, e266, W266, st266⟩ := stC X265 hx hZ hh265 Ar266 (j := (3 : Int32)) (oIn (i := 3) Sz266 (by decide) (by decide)) (g := (mkF m 54 #[.val (.long p1), .second, .val (.int (5 : Int32)), .val (.ref b254)] [(.int rt265), (.int (3 : Int32)), (.ref b254)])) rfl rfl (hb hby d_method_4_code_54)
    have V266 := Av.setI (i := 3) V263 (by decide) (by decide) W266
    obtain ⟨y266, hy266⟩ : ∃ zz_ : Nat → Int32, zz_ = fun q => if q = 3 then rt265.toUInt32.toUInt16.toUInt32.toInt32 else y263 q := ⟨_, rfl⟩
    have V266 : Av Z h266 b254 .char 5 (fun q => .int (y266 q)) := by rw [hy266]; exact V266
    have N266 := Fr.snoc X266 N265 ge_b254
    have Sf267 : Safe Z consts_1 s.vm h263 b254 := (Safe.exa hZ.alike (((Q254.wr W256).wr W259).wr W263) (by decide) (by decide))
    have Fb268 := (Nat.le_trans (Nat.le_trans (Nat.le_trans (Nat.le_trans (Nat.le_trans hk0 E254.1) (Keep.of_wr W256).1) (Keep.of_wr W259).1) (Keep.of_wr W263).1) (Keep.of_wr W266).1)
    have Fb269 := (Nat.le_trans (Nat.le_trans (Nat.le_trans (Nat.le_trans (Nat.le_trans Z0 E254.1) (Keep.of_wr W256).1) (Keep.of_wr W259).1) (Keep.of_wr W263).1) (Keep.of_wr W266).1)
    refine Rch.of (T' := T266) (g' := (mkF m 55 #[.val (.long p1), .second, .val (.int (5 : Int32)), .val (.ref b254)] [])) st266 ?_
    refine Rch.of (T' := T266) (g' := (mkF m 56 #[.val (.long p1), .second, .val (.int (5 : Int32)), .val (.ref b254)] [(.int (5 : Int32))])) (fun _ kt => XS.iloadN X266.here hx rfl (hb hby d_method_4_code_55) rfl  kt) ?_
    refine Rch.of (T' := T266) (g' := (mkF m 57 #[.val (.long p1), .second, .val (.int (5 : Int32)), .val (.ref b254)] [(.int (4 : Int32)), (.int (5 : Int32))])) (fun _ kt => XS.iconst X266.here hx rfl (hb hby d_method_4_code_56) kt) ?_
    refine Rch.of (T' := T266) (g' := (mkF m 60 #[.val (.long p1), .second, .val (.int (5 : Int32)), .val (.ref b254)] [])) (fun _ kt => XS.icmpNo X266.here hx rfl (hb hby d_method_4_code_57) rfl (tlt ((by decide) : (4 : Int32) < (5 : Int32))).2.2.2 kt) ?_
    refine Rch.of (T' := T266) (g' := (mkF m 61 #[.val (.long p1), .second, .val (.int (5 : Int32)), .val (.ref b254)] [(.ref b254)])) (fun _ kt => XS.aloadN X266.here hx rfl (hb hby d_method_4_code_60) rfl rfl kt) ?_
    refine Rch.of (T' := T266) (g' := (mkF m 62 #[.val (.long p1), .second, .val (.int (5 : Int32)), .val (.ref b254)] [(.int (4 : Int32)), (.ref b254)])) (fun _ kt => XS.iconst X266.here hx rfl (hb hby d_method_4_code_61) kt) ?_
    refine Rch.of (T' := T266) (g' := (mkF m 63 #[.val (.long p1), .second, .val (.int (5 : Int32)), .val (.ref b254)] [(.long p1), (.int (4 : Int32)), (.ref b254)])) (fun _ kt => XS.lloadN X266.here hx rfl (hb hby d_method_4_code_62) rfl  kt) ?_
    refine Rch.of (T' := T266) (g' := (mkF m 64 #[.val (.long p1), .second, .val (.int (5 : Int32)), .val (.ref b254)] [(.int (4 : Int32)), (.long p1), (.int (4 : Int32)), (.ref b254)])) (fun _ kt => XS.iconst X266.here hx rfl (hb hby d_method_4_code_63) kt) ?_
    obtain ⟨_, _, ⟨T270, L270, k270, n270⟩, -, X270, ⟨Lc270, hQ270, l270, y270, z270⟩, st270⟩ := Jvm.LawKit.callS X266 hx (y := (⟨"com/example/isidore/isidore/SeverityLabelledPinLaw", "at", "(JI)C"⟩ : MethodName)) hown (mvT hZ (hw _ (List.mem_of_getElem? (i := 5) rfl))) (mvT hZ (hw _ (List.mem_of_getElem? (i := 6) rfl))) (mvT hZ (hw _ (List.mem_of_getElem? (i := 2) rfl))) (mvT hZ (hw _ (List.mem_of_getElem? (i := 7) rfl))) (by decide) (backOf (W := 2) (rk1 l Z a0 hw [] p1 (4 : Int32) h266 n0 Fb269 ) hZ (hw _ (List.mem_of_getElem? (i := 7) rfl)) (hw _ (List.mem_of_getElem? (i := 2) rfl)) (by decide) (by decide)) (g := (mkF m 64 #[.val (.long p1), .second, .val (.int (5 : Int32)), .val (.ref b254)] [(.int (4 : Int32)), (.long p1), (.int (4 : Int32)), (.ref b254)])) rfl (by rw [hml]; rfl) (argsL := [(.long p1), (.int (4 : Int32))]) (rest := [(.int (4 : Int32)), (.ref b254)]) (lenOf pd_1 rfl) rfl (by show 2 * 0 + _ ≤ _; exact Nat.le_of_eq rfl) (hb hby d_method_4_code_64) (fun _ _ => ⟨rfl, e266, (by decide : 1 + 0 ≤ _), (by decide : 5 + 0 ≤ _)⟩)
    dsimp only [Pt.U, Pt.locs, Pt.cells, Pt.slots] at X270 l270 y270 z270 st270 hQ270
    subst l270 y270 z270
    obtain ⟨rt270, rfl, N270q, hQ270⟩ := hQ270
    have N270 := Fr.app N266 N270q
    obtain ⟨hh270, c1270⟩ := hQ270
    refine Rch.of (T' := T270) (g' := (mkF m 67 #[.val (.long p1), .second, .val (.int (5 : Int32)), .val (.ref b254)] [(.int rt270), (.int (4 : Int32)), (.ref b254)])) st270 ?_
    obtain ⟨cl271, Ar271, Sz271, Ha271⟩ := id V266
    obtain ⟨T271, h271, X271, e271, W271, st271⟩ := stC X270 hx hZ hh270 Ar271 (j := (4 : Int32)) (oIn (i := 4) Sz271 (by decide) (by decide)) (g := (mkF m 67 #[.val (.long p1), .second, .val (.int (5 : Int32)), .val (.ref b254)] [(.int rt270), (.int (4 : Int32)), (.ref b254)])) rfl rfl (hb hby d_method_4_code_67)
    have V271 := Av.setI (i := 4) V266 (by decide) (by decide) W271
    obtain ⟨y271, hy271⟩ : ∃ zz_ : Nat → Int32, zz_ = fun q => if q = 4 then rt270.toUInt32.toUInt16.toUInt32.toInt32 else y266 q := ⟨_, rfl⟩
    have V271 : Av Z h271 b254 .char 5 (fun q => .int (y271 q)) := by rw [hy271]; exact V271
    have N271 := Fr.snoc X271 N270 ge_b254
    have Sf272 : Safe Z consts_1 s.vm h266 b254 := (Safe.exa hZ.alike ((((Q254.wr W256).wr W259).wr W263).wr W266) (by decide) (by decide))
    have Rb273 := (((Rb261.trans (CHr.wr W263 Sf264 Rb261.1)).trans (CHr.wr W266 Sf267 (Rb261.trans (CHr.wr W263 Sf264 Rb261.1)).1)).trans (CHr.wr W271 Sf272 ((Rb261.trans (CHr.wr W263 Sf264 Rb261.1)).trans (CHr.wr W266 Sf267 (Rb261.trans (CHr.wr W263 Sf264 Rb261.1)).1)).1))
    have Fb274 := (((((((Keep.refl h0 []).ext E254).wr W256 (Or.inr sz_b254)).wr W259 (Or.inr sz_b254)).wr W263 (Or.inr sz_b254)).wr W266 (Or.inr sz_b254)).wr W271 (Or.inr sz_b254))
    refine Rch.of (T' := T271) (g' := (mkF m 68 #[.val (.long p1), .second, .val (.int (5 : Int32)), .val (.ref b254)] [])) st271 ?_
    refine Rch.of (T' := T271) (g' := (mkF m 69 #[.val (.long p1), .second, .val (.int (5 : Int32)), .val (.ref b254)] [(.int (5 : Int32))])) (fun _ kt => XS.iloadN X271.here hx rfl (hb hby d_method_4_code_68) rfl  kt) ?_
    refine Rch.of (T' := T271) (g' := (mkF m 70 #[.val (.long p1), .second, .val (.int (5 : Int32)), .val (.ref b254)] [(.int (5 : Int32)), (.int (5 : Int32))])) (fun _ kt => XS.iconst X271.here hx rfl (hb hby d_method_4_code_69) kt) ?_
    refine Rch.of (T' := T271) (g' := (mkF m 81 #[.val (.long p1), .second, .val (.int (5 : Int32)), .val (.ref b254)] [])) (fun _ kt => XS.icmpYes X271.here hx rfl (pc0 := 70) (pc' := 81) rfl (hb hby d_method_4_code_70) rfl (flt ((by decide) : ¬ ((5 : Int32) < (5 : Int32)))).2.2.2 (by decide) (by decide) kt) ?_
    refine Rch.of (T' := T271) (g' := (mkF m 82 #[.val (.long p1), .second, .val (.int (5 : Int32)), .val (.ref b254)] [(.int (5 : Int32))])) (fun _ kt => XS.iloadN X271.here hx rfl (hb hby d_method_4_code_81) rfl  kt) ?_
    refine Rch.of (T' := T271) (g' := (mkF m 84 #[.val (.long p1), .second, .val (.int (5 : Int32)), .val (.ref b254)] [(.int (6 : Int32)), (.int (5 : Int32))])) (fun _ kt => XS.bipush X271.here hx rfl (hb hby d_method_4_code_82) kt) ?_
    refine Rch.of (T' := T271) (g' := (mkF m 97 #[.val (.long p1), .second, .val (.int (5 : Int32)), .val (.ref b254)] [])) (fun _ kt => XS.icmpYes X271.here hx rfl (pc0 := 84) (pc' := 97) rfl (hb hby d_method_4_code_84) rfl (flt ((by decide) : ¬ ((6 : Int32) < (5 : Int32)))).2.2.2 (by decide) (by decide) kt) ?_
    obtain ⟨T275, h275, X275, e275, E275, A275, D275, -, st275⟩ := newO X271 hx hZ hown (hw _ (List.mem_of_getElem? (i := 9) rfl)) (hw _ (List.mem_of_getElem? (i := 10) rfl)) (hw _ (List.mem_of_getElem? (i := 11) rfl)) e271 (g := (mkF m 97 #[.val (.long p1), .second, .val (.int (5 : Int32)), .val (.ref b254)] [])) rfl (hb hby d_method_4_code_97) (by decide) (by decide)
    obtain ⟨b275, g275⟩ : ∃ zz_, zz_ = h271.size := ⟨_, rfl⟩
    have ne_b254_b275 : b254 ≠ b275 := Nat.ne_of_lt (Nat.lt_of_lt_of_le (((((Q254.wr W256).wr W259).wr W263).wr W266).wr W271).lt (Nat.le_of_eq g275.symm))
    have ge_b275 : n0 ≤ b275 := Nat.le_trans (Nat.le_trans Fb269 (Keep.of_wr W271).1) (Nat.le_of_eq g275.symm)
    have sz_b275 : h0.size ≤ b275 := Nat.le_trans Fb274.1 (Nat.le_of_eq g275.symm)
    rw [← g275] at A275 D275 st275
    have F275_coder : Fld Z h275 b275 "java/lang/String" "coder" "B" (.int (0 : Int32)) := D275 (Or.inr (hw _ (List.mem_of_getElem? (i := 35) rfl))) (ty := .byte) (by decide)
    have F275_value : Fld Z h275 b275 "java/lang/String" "value" "[B" .null := D275 (Or.inr (hw _ (List.mem_of_getElem? (i := 37) rfl))) (ty := (.array .byte)) (by decide)
    refine Rch.of (T' := T275) (g' := (mkF m 100 #[.val (.long p1), .second, .val (.int (5 : Int32)), .val (.ref b254)] [(.ref b275)])) st275 ?_
    refine Rch.of (T' := T275) (g' := (mkF m 101 #[.val (.long p1), .second, .val (.int (5 : Int32)), .val (.ref b254)] [(.ref b275), (.ref b275)])) (fun _ kt => XS.dup X275.here hx rfl (hb hby d_method_4_code_100) rfl rfl kt) ?_
    refine Rch.of (T' := T275) (g' := (mkF m 102 #[.val (.long p1), .second, .val (.int (5 : Int32)), .val (.ref b254)] [(.ref b254), (.ref b275), (.ref b275)])) (fun _ kt => XS.aloadN X275.here hx rfl (hb hby d_method_4_code_101) rfl rfl kt) ?_
    have pr277 : 5 ≤ 7 := by omega
    have hch278 : own_ch 5 y271 := by
      intro q hq
      rw [hy271, hy266, hy263, hy259, hy256]
      rcases (show q = 0 ∨ q = 1 ∨ q = 2 ∨ q = 3 ∨ q = 4 by omega) with rfl | rfl | rfl | rfl | rfl
      · exact own_c1i c1255
      · exact own_c1i c1258
      · exact own_c1i c1262
      · exact own_c1i c1265
      · exact own_c1i c1270
    obtain ⟨_, _, ⟨T276, L276, k276, n276⟩, -, X276, hT276, gr276, ⟨Lc276, hQ276, l276, y276, z276, cr276⟩, st276⟩ := X275.specialBackS hx (y := (⟨"java/lang/String", "<init>", "([C)V"⟩ : MethodName)) rfl hown (mvT hZ (hw _ (List.mem_of_getElem? (i := 12) rfl))) (mvT hZ (hw _ (List.mem_of_getElem? (i := 13) rfl))) (mvT hZ (hw _ (List.mem_of_getElem? (i := 14) rfl))) (by decide) (backOfSH (s := s) (vm0 := s.vm) (EL := consts_1) (W := 1) (rqN1 l Z a0 hw [] b275 b254 5 y271 (.int (0 : Int32)) cs h275 n0 (Nat.le_trans (Nat.le_trans Fb269 (Keep.of_wr W271).1) E275.1) A275 F275_coder F275_value ge_b275 (V271.ext E275) (((((((SC.ext E254).wr W256).wr W259).wr W263).wr W266).wr W271).ext E275) hcs pr277 hch278) hZ (hw _ (List.mem_of_getElem? (i := 14) rfl)) (hw _ (List.mem_of_getElem? (i := 11) rfl)) (by decide) (by decide) hEL (Rb273.trans (CHr.ext E275 Rb273.1)).1) (g := (mkF m 102 #[.val (.long p1), .second, .val (.int (5 : Int32)), .val (.ref b254)] [(.ref b254), (.ref b275), (.ref b275)])) rfl (by rw [hml]; rfl) (Steps.refl _) (a := b275) (argsL := [(.ref b254)]) (rest := [(.ref b275)]) (lenOf pd_2 rfl) rfl (by show 2 * 0 + _ ≤ _; exact Nat.le_of_eq rfl) (hb hby d_method_4_code_102) (fun _ _ => ⟨rfl, e275, (by decide : 2 + 4 ≤ _), (by decide : 9 + 8 ≤ _)⟩)
    dsimp only [Pt.U, Pt.locs, Pt.cells, Pt.slots] at X276 hT276 gr276 l276 y276 z276 st276 hQ276 cr276
    subst l276 y276 z276
    obtain ⟨X276, hS276, hZ, hown⟩ := rebS hS0 (Nat.le_trans (Nat.le_trans Fb268 (Keep.of_wr W271).1) E275.1) X276 hT276 (by rw [← e275]; exact gr276) hZ hown
    obtain ⟨rb276, rfl, N276q, hQ276⟩ := hQ276
    have N276 := Fr.app N271 N276q
    obtain ⟨K276, Ex276, Fa276, Fb276, V276⟩ := hQ276
    refine Rch.via (T' := T276) (g' := (mkF m 105 #[.val (.long p1), .second, .val (.int (5 : Int32)), .val (.ref b254)] [(.ref b275)])) st276 ?_
    exact Rch.retA X276 hx (w := (.ref b275)) hret rfl rfl hlk (hb hby d_method_4_code_105) (fun U hU hF => hK _ U _ _ _ (by show Q_rk2 Z p1 k cs h0 n0 _ U.heap _; rw [hU]; exact ⟨b275, rb276, y271, 5, rfl, N276, ((Fb274.ext E275).trans K276 (allS (Or.inr sz_b275) all0)), Ex276, Fa276, Fb276, V276, hch278, by decide⟩) (own_endH hZ hEL ((Rb273.trans (CHr.ext E275 Rb273.1)).trans cr276) hU hF) (own_end hS276 (by rw [hU]; exact (Nat.le_refl _)) hF) (by decide) (by decide))
  · skip
    have sw279 : (Int32.ofNat k) = (6 : Int32) := by rw [ek]; rfl
    rw [sw279]
    show Rch p e below K T0 (mkF m 0 #[.val (.long p1), .second, .val (.int (6 : Int32)), .unset] [])
    refine Rch.of (T' := T0) (g' := (mkF m 1 #[.val (.long p1), .second, .val (.int (6 : Int32)), .unset] [(.int (6 : Int32))])) (fun _ kt => XS.iloadN X0.here hx rfl (hb hby d_method_4_code_0) rfl  kt) ?_
    obtain ⟨T280, h280, k280, X280, e280, E280, A280, Q280, st280⟩ := newPE X0 hx hZ (hw _ (List.mem_of_getElem? (i := 4) rfl)) e0 (g := (mkF m 1 #[.val (.long p1), .second, .val (.int (6 : Int32)), .unset] [(.int (6 : Int32))])) rfl (hb hby d_method_4_code_1) rfl (by decide) (cap := 6) (by decide) (by decide) (by decide) (by decide) (ad := "[C") rfl
    obtain ⟨b280, g280⟩ : ∃ zz_, zz_ = h0.size := ⟨_, rfl⟩
    have ge_b280 : n0 ≤ b280 := Nat.le_trans Z0 (Nat.le_of_eq g280.symm)
    have sz_b280 : h0.size ≤ b280 := Nat.le_trans (Keep.refl h0 []).1 (Nat.le_of_eq g280.symm)
    rw [← g280] at A280 Q280 st280
    have V280 : Av Z h280 b280 .char 6 (fun _ => (.int (0 : Int32))) := Av.new A280 (by decide)
    refine Rch.of (T' := T280) (g' := (mkF m 3 #[.val (.long p1), .second, .val (.int (6 : Int32)), .unset] [(.ref b280)])) st280 ?_
    refine Rch.of (T' := T280) (g' := (mkF m 4 #[.val (.long p1), .second, .val (.int (6 : Int32)), .val (.ref b280)] [])) (fun _ kt => XS.astoreN X280.here hx rfl (hb hby d_method_4_code_3) rfl rfl (l' := #[.val (.long p1), .second, .val (.int (6 : Int32)), .val (.ref b280)]) rfl kt) ?_
    refine Rch.of (T' := T280) (g' := (mkF m 5 #[.val (.long p1), .second, .val (.int (6 : Int32)), .val (.ref b280)] [(.int (6 : Int32))])) (fun _ kt => XS.iloadN X280.here hx rfl (hb hby d_method_4_code_4) rfl  kt) ?_
    refine Rch.of (T' := T280) (g' := (mkF m 8 #[.val (.long p1), .second, .val (.int (6 : Int32)), .val (.ref b280)] [])) (fun _ kt => XS.ifNo X280.here hx rfl (hb hby d_method_4_code_5) rfl ((if0 _ _).trans (tlt ((by decide) : (0 : Int32) < (6 : Int32))).2.2.2) kt) ?_
    refine Rch.of (T' := T280) (g' := (mkF m 9 #[.val (.long p1), .second, .val (.int (6 : Int32)), .val (.ref b280)] [(.ref b280)])) (fun _ kt => XS.aloadN X280.here hx rfl (hb hby d_method_4_code_8) rfl rfl kt) ?_
    refine Rch.of (T' := T280) (g' := (mkF m 10 #[.val (.long p1), .second, .val (.int (6 : Int32)), .val (.ref b280)] [(.int (0 : Int32)), (.ref b280)])) (fun _ kt => XS.iconst X280.here hx rfl (hb hby d_method_4_code_9) kt) ?_
    refine Rch.of (T' := T280) (g' := (mkF m 11 #[.val (.long p1), .second, .val (.int (6 : Int32)), .val (.ref b280)] [(.long p1), (.int (0 : Int32)), (.ref b280)])) (fun _ kt => XS.lloadN X280.here hx rfl (hb hby d_method_4_code_10) rfl  kt) ?_
    refine Rch.of (T' := T280) (g' := (mkF m 12 #[.val (.long p1), .second, .val (.int (6 : Int32)), .val (.ref b280)] [(.int (0 : Int32)), (.long p1), (.int (0 : Int32)), (.ref b280)])) (fun _ kt => XS.iconst X280.here hx rfl (hb hby d_method_4_code_11) kt) ?_
    obtain ⟨_, _, ⟨T281, L281, k281, n281⟩, -, X281, ⟨Lc281, hQ281, l281, y281, z281⟩, st281⟩ := Jvm.LawKit.callS X280 hx (y := (⟨"com/example/isidore/isidore/SeverityLabelledPinLaw", "at", "(JI)C"⟩ : MethodName)) hown (mvT hZ (hw _ (List.mem_of_getElem? (i := 5) rfl))) (mvT hZ (hw _ (List.mem_of_getElem? (i := 6) rfl))) (mvT hZ (hw _ (List.mem_of_getElem? (i := 2) rfl))) (mvT hZ (hw _ (List.mem_of_getElem? (i := 7) rfl))) (by decide) (backOf (W := 2) (rk1 l Z a0 hw [] p1 (0 : Int32) h280 n0 (Nat.le_trans Z0 E280.1) ) hZ (hw _ (List.mem_of_getElem? (i := 7) rfl)) (hw _ (List.mem_of_getElem? (i := 2) rfl)) (by decide) (by decide)) (g := (mkF m 12 #[.val (.long p1), .second, .val (.int (6 : Int32)), .val (.ref b280)] [(.int (0 : Int32)), (.long p1), (.int (0 : Int32)), (.ref b280)])) rfl (by rw [hml]; rfl) (argsL := [(.long p1), (.int (0 : Int32))]) (rest := [(.int (0 : Int32)), (.ref b280)]) (lenOf pd_1 rfl) rfl (by show 2 * 0 + _ ≤ _; exact Nat.le_of_eq rfl) (hb hby d_method_4_code_12) (fun _ _ => ⟨rfl, e280, (by decide : 1 + 0 ≤ _), (by decide : 6 + 0 ≤ _)⟩)
    dsimp only [Pt.U, Pt.locs, Pt.cells, Pt.slots] at X281 l281 y281 z281 st281 hQ281
    subst l281 y281 z281
    obtain ⟨rt281, rfl, N281q, hQ281⟩ := hQ281
    have N281 := Fr.app N0 N281q
    obtain ⟨hh281, c1281⟩ := hQ281
    refine Rch.of (T' := T281) (g' := (mkF m 15 #[.val (.long p1), .second, .val (.int (6 : Int32)), .val (.ref b280)] [(.int rt281), (.int (0 : Int32)), (.ref b280)])) st281 ?_
    obtain ⟨cl282, Ar282, Sz282, Ha282⟩ := id V280
    obtain ⟨T282, h282, X282, e282, W282, st282⟩ := stC X281 hx hZ hh281 Ar282 (j := (0 : Int32)) (oIn (i := 0) Sz282 (by decide) (by decide)) (g := (mkF m 15 #[.val (.long p1), .second, .val (.int (6 : Int32)), .val (.ref b280)] [(.int rt281), (.int (0 : Int32)), (.ref b280)])) rfl rfl (hb hby d_method_4_code_15)
    have V282 := Av.setI (i := 0) V280 (by decide) (by decide) W282
    obtain ⟨y282, hy282⟩ : ∃ zz_ : Nat → Int32, zz_ = fun q => if q = 0 then rt281.toUInt32.toUInt16.toUInt32.toInt32 else (fun _ => (0 : Int32)) q := ⟨_, rfl⟩
    have V282 : Av Z h282 b280 .char 6 (fun q => .int (y282 q)) := by rw [hy282]; exact V282
    have N282 := Fr.snoc X282 N281 ge_b280
    have Sf283 : Safe Z consts_1 s.vm h280 b280 := (Safe.exa hZ.alike Q280 (by decide) (by decide))
    refine Rch.of (T' := T282) (g' := (mkF m 16 #[.val (.long p1), .second, .val (.int (6 : Int32)), .val (.ref b280)] [])) st282 ?_
    refine Rch.of (T' := T282) (g' := (mkF m 17 #[.val (.long p1), .second, .val (.int (6 : Int32)), .val (.ref b280)] [(.int (6 : Int32))])) (fun _ kt => XS.iloadN X282.here hx rfl (hb hby d_method_4_code_16) rfl  kt) ?_
    refine Rch.of (T' := T282) (g' := (mkF m 18 #[.val (.long p1), .second, .val (.int (6 : Int32)), .val (.ref b280)] [(.int (1 : Int32)), (.int (6 : Int32))])) (fun _ kt => XS.iconst X282.here hx rfl (hb hby d_method_4_code_17) kt) ?_
    refine Rch.of (T' := T282) (g' := (mkF m 21 #[.val (.long p1), .second, .val (.int (6 : Int32)), .val (.ref b280)] [])) (fun _ kt => XS.icmpNo X282.here hx rfl (hb hby d_method_4_code_18) rfl (tlt ((by decide) : (1 : Int32) < (6 : Int32))).2.2.2 kt) ?_
    refine Rch.of (T' := T282) (g' := (mkF m 22 #[.val (.long p1), .second, .val (.int (6 : Int32)), .val (.ref b280)] [(.ref b280)])) (fun _ kt => XS.aloadN X282.here hx rfl (hb hby d_method_4_code_21) rfl rfl kt) ?_
    refine Rch.of (T' := T282) (g' := (mkF m 23 #[.val (.long p1), .second, .val (.int (6 : Int32)), .val (.ref b280)] [(.int (1 : Int32)), (.ref b280)])) (fun _ kt => XS.iconst X282.here hx rfl (hb hby d_method_4_code_22) kt) ?_
    refine Rch.of (T' := T282) (g' := (mkF m 24 #[.val (.long p1), .second, .val (.int (6 : Int32)), .val (.ref b280)] [(.long p1), (.int (1 : Int32)), (.ref b280)])) (fun _ kt => XS.lloadN X282.here hx rfl (hb hby d_method_4_code_23) rfl  kt) ?_
    refine Rch.of (T' := T282) (g' := (mkF m 25 #[.val (.long p1), .second, .val (.int (6 : Int32)), .val (.ref b280)] [(.int (1 : Int32)), (.long p1), (.int (1 : Int32)), (.ref b280)])) (fun _ kt => XS.iconst X282.here hx rfl (hb hby d_method_4_code_24) kt) ?_
    obtain ⟨_, _, ⟨T284, L284, k284, n284⟩, -, X284, ⟨Lc284, hQ284, l284, y284, z284⟩, st284⟩ := Jvm.LawKit.callS X282 hx (y := (⟨"com/example/isidore/isidore/SeverityLabelledPinLaw", "at", "(JI)C"⟩ : MethodName)) hown (mvT hZ (hw _ (List.mem_of_getElem? (i := 5) rfl))) (mvT hZ (hw _ (List.mem_of_getElem? (i := 6) rfl))) (mvT hZ (hw _ (List.mem_of_getElem? (i := 2) rfl))) (mvT hZ (hw _ (List.mem_of_getElem? (i := 7) rfl))) (by decide) (backOf (W := 2) (rk1 l Z a0 hw [] p1 (1 : Int32) h282 n0 (Nat.le_trans (Nat.le_trans Z0 E280.1) (Keep.of_wr W282).1) ) hZ (hw _ (List.mem_of_getElem? (i := 7) rfl)) (hw _ (List.mem_of_getElem? (i := 2) rfl)) (by decide) (by decide)) (g := (mkF m 25 #[.val (.long p1), .second, .val (.int (6 : Int32)), .val (.ref b280)] [(.int (1 : Int32)), (.long p1), (.int (1 : Int32)), (.ref b280)])) rfl (by rw [hml]; rfl) (argsL := [(.long p1), (.int (1 : Int32))]) (rest := [(.int (1 : Int32)), (.ref b280)]) (lenOf pd_1 rfl) rfl (by show 2 * 0 + _ ≤ _; exact Nat.le_of_eq rfl) (hb hby d_method_4_code_25) (fun _ _ => ⟨rfl, e282, (by decide : 1 + 0 ≤ _), (by decide : 6 + 0 ≤ _)⟩)
    dsimp only [Pt.U, Pt.locs, Pt.cells, Pt.slots] at X284 l284 y284 z284 st284 hQ284
    subst l284 y284 z284
    obtain ⟨rt284, rfl, N284q, hQ284⟩ := hQ284
    have N284 := Fr.app N282 N284q
    obtain ⟨hh284, c1284⟩ := hQ284
    refine Rch.of (T' := T284) (g' := (mkF m 28 #[.val (.long p1), .second, .val (.int (6 : Int32)), .val (.ref b280)] [(.int rt284), (.int (1 : Int32)), (.ref b280)])) st284 ?_
    obtain ⟨cl285, Ar285, Sz285, Ha285⟩ := id V282
    obtain ⟨T285, h285, X285, e285, W285, st285⟩ := stC X284 hx hZ hh284 Ar285 (j := (1 : Int32)) (oIn (i := 1) Sz285 (by decide) (by decide)) (g := (mkF m 28 #[.val (.long p1), .second, .val (.int (6 : Int32)), .val (.ref b280)] [(.int rt284), (.int (1 : Int32)), (.ref b280)])) rfl rfl (hb hby d_method_4_code_28)
    have V285 := Av.setI (i := 1) V282 (by decide) (by decide) W285
    obtain ⟨y285, hy285⟩ : ∃ zz_ : Nat → Int32, zz_ = fun q => if q = 1 then rt284.toUInt32.toUInt16.toUInt32.toInt32 else y282 q := ⟨_, rfl⟩
    have V285 : Av Z h285 b280 .char 6 (fun q => .int (y285 q)) := by rw [hy285]; exact V285
    have N285 := Fr.snoc X285 N284 ge_b280
    have Sf286 : Safe Z consts_1 s.vm h282 b280 := (Safe.exa hZ.alike (Q280.wr W282) (by decide) (by decide))
    have Rb287 := (((R0.trans (CHr.ext E280 R0.1)).trans (CHr.wr W282 Sf283 (R0.trans (CHr.ext E280 R0.1)).1)).trans (CHr.wr W285 Sf286 ((R0.trans (CHr.ext E280 R0.1)).trans (CHr.wr W282 Sf283 (R0.trans (CHr.ext E280 R0.1)).1)).1))
    refine Rch.of (T' := T285) (g' := (mkF m 29 #[.val (.long p1), .second, .val (.int (6 : Int32)), .val (.ref b280)] [])) st285 ?_
    refine Rch.of (T' := T285) (g' := (mkF m 30 #[.val (.long p1), .second, .val (.int (6 : Int32)), .val (.ref b280)] [(.int (6 : Int32))])) (fun _ kt => XS.iloadN X285.here hx rfl (hb hby d_method_4_code_29) rfl  kt) ?_
    refine Rch.of (T' := T285) (g' := (mkF m 31 #[.val (.long p1), .second, .val (.int (6 : Int32)), .val (.ref b280)] [(.int (2 : Int32)), (.int (6 : Int32))])) (fun _ kt => XS.iconst X285.here hx rfl (hb hby d_method_4_code_30) kt) ?_
    refine Rch.of (T' := T285) (g' := (mkF m 34 #[.val (.long p1), .second, .val (.int (6 : Int32)), .val (.ref b280)] [])) (fun _ kt => XS.icmpNo X285.here hx rfl (hb hby d_method_4_code_31) rfl (tlt ((by decide) : (2 : Int32) < (6 : Int32))).2.2.2 kt) ?_
    refine Rch.of (T' := T285) (g' := (mkF m 35 #[.val (.long p1), .second, .val (.int (6 : Int32)), .val (.ref b280)] [(.ref b280)])) (fun _ kt => XS.aloadN X285.here hx rfl (hb hby d_method_4_code_34) rfl rfl kt) ?_
    refine Rch.of (T' := T285) (g' := (mkF m 36 #[.val (.long p1), .second, .val (.int (6 : Int32)), .val (.ref b280)] [(.int (2 : Int32)), (.ref b280)])) (fun _ kt => XS.iconst X285.here hx rfl (hb hby d_method_4_code_35) kt) ?_
    refine Rch.of (T' := T285) (g' := (mkF m 37 #[.val (.long p1), .second, .val (.int (6 : Int32)), .val (.ref b280)] [(.long p1), (.int (2 : Int32)), (.ref b280)])) (fun _ kt => XS.lloadN X285.here hx rfl (hb hby d_method_4_code_36) rfl  kt) ?_
    refine Rch.of (T' := T285) (g' := (mkF m 38 #[.val (.long p1), .second, .val (.int (6 : Int32)), .val (.ref b280)] [(.int (2 : Int32)), (.long p1), (.int (2 : Int32)), (.ref b280)])) (fun _ kt => XS.iconst X285.here hx rfl (hb hby d_method_4_code_37) kt) ?_
    obtain ⟨_, _, ⟨T288, L288, k288, n288⟩, -, X288, ⟨Lc288, hQ288, l288, y288, z288⟩, st288⟩ := Jvm.LawKit.callS X285 hx (y := (⟨"com/example/isidore/isidore/SeverityLabelledPinLaw", "at", "(JI)C"⟩ : MethodName)) hown (mvT hZ (hw _ (List.mem_of_getElem? (i := 5) rfl))) (mvT hZ (hw _ (List.mem_of_getElem? (i := 6) rfl))) (mvT hZ (hw _ (List.mem_of_getElem? (i := 2) rfl))) (mvT hZ (hw _ (List.mem_of_getElem? (i := 7) rfl))) (by decide) (backOf (W := 2) (rk1 l Z a0 hw [] p1 (2 : Int32) h285 n0 (Nat.le_trans (Nat.le_trans (Nat.le_trans Z0 E280.1) (Keep.of_wr W282).1) (Keep.of_wr W285).1) ) hZ (hw _ (List.mem_of_getElem? (i := 7) rfl)) (hw _ (List.mem_of_getElem? (i := 2) rfl)) (by decide) (by decide)) (g := (mkF m 38 #[.val (.long p1), .second, .val (.int (6 : Int32)), .val (.ref b280)] [(.int (2 : Int32)), (.long p1), (.int (2 : Int32)), (.ref b280)])) rfl (by rw [hml]; rfl) (argsL := [(.long p1), (.int (2 : Int32))]) (rest := [(.int (2 : Int32)), (.ref b280)]) (lenOf pd_1 rfl) rfl (by show 2 * 0 + _ ≤ _; exact Nat.le_of_eq rfl) (hb hby d_method_4_code_38) (fun _ _ => ⟨rfl, e285, (by decide : 1 + 0 ≤ _), (by decide : 6 + 0 ≤ _)⟩)
    dsimp only [Pt.U, Pt.locs, Pt.cells, Pt.slots] at X288 l288 y288 z288 st288 hQ288
    subst l288 y288 z288
    obtain ⟨rt288, rfl, N288q, hQ288⟩ := hQ288
    have N288 := Fr.app N285 N288q
    obtain ⟨hh288, c1288⟩ := hQ288
    refine Rch.of (T' := T288) (g' := (mkF m 41 #[.val (.long p1), .second, .val (.int (6 : Int32)), .val (.ref b280)] [(.int rt288), (.int (2 : Int32)), (.ref b280)])) st288 ?_
    obtain ⟨cl289, Ar289, Sz289, Ha289⟩ := id V285
    obtain ⟨T289, h289, X289, e289, W289, st289⟩ := stC X288 hx hZ hh288 Ar289 (j := (2 : Int32)) (oIn (i := 2) Sz289 (by decide) (by decide)) (g := (mkF m 41 #[.val (.long p1), .second, .val (.int (6 : Int32)), .val (.ref b280)] [(.int rt288), (.int (2 : Int32)), (.ref b280)])) rfl rfl (hb hby d_method_4_code_41)
    have V289 := Av.setI (i := 2) V285 (by decide) (by decide) W289
    obtain ⟨y289, hy289⟩ : ∃ zz_ : Nat → Int32, zz_ = fun q => if q = 2 then rt288.toUInt32.toUInt16.toUInt32.toInt32 else y285 q := ⟨_, rfl⟩
    have V289 : Av Z h289 b280 .char 6 (fun q => .int (y289 q)) := by rw [hy289]; exact V289
    have N289 := Fr.snoc X289 N288 ge_b280
    have Sf290 : Safe Z consts_1 s.vm h285 b280 := (Safe.exa hZ.alike ((Q280.wr W282).wr W285) (by decide) (by decide))
    refine Rch.of (T' := T289) (g' := (mkF m 42 #[.val (.long p1), .second, .val (.int (6 : Int32)), .val (.ref b280)] [])) st289 ?_
    refine Rch.of (T' := T289) (g' := (mkF m 43 #[.val (.long p1), .second, .val (.int (6 : Int32)), .val (.ref b280)] [(.int (6 : Int32))])) (fun _ kt => XS.iloadN X289.here hx rfl (hb hby d_method_4_code_42) rfl  kt) ?_
    refine Rch.of (T' := T289) (g' := (mkF m 44 #[.val (.long p1), .second, .val (.int (6 : Int32)), .val (.ref b280)] [(.int (3 : Int32)), (.int (6 : Int32))])) (fun _ kt => XS.iconst X289.here hx rfl (hb hby d_method_4_code_43) kt) ?_
    refine Rch.of (T' := T289) (g' := (mkF m 47 #[.val (.long p1), .second, .val (.int (6 : Int32)), .val (.ref b280)] [])) (fun _ kt => XS.icmpNo X289.here hx rfl (hb hby d_method_4_code_44) rfl (tlt ((by decide) : (3 : Int32) < (6 : Int32))).2.2.2 kt) ?_
    refine Rch.of (T' := T289) (g' := (mkF m 48 #[.val (.long p1), .second, .val (.int (6 : Int32)), .val (.ref b280)] [(.ref b280)])) (fun _ kt => XS.aloadN X289.here hx rfl (hb hby d_method_4_code_47) rfl rfl kt) ?_
    refine Rch.of (T' := T289) (g' := (mkF m 49 #[.val (.long p1), .second, .val (.int (6 : Int32)), .val (.ref b280)] [(.int (3 : Int32)), (.ref b280)])) (fun _ kt => XS.iconst X289.here hx rfl (hb hby d_method_4_code_48) kt) ?_
    refine Rch.of (T' := T289) (g' := (mkF m 50 #[.val (.long p1), .second, .val (.int (6 : Int32)), .val (.ref b280)] [(.long p1), (.int (3 : Int32)), (.ref b280)])) (fun _ kt => XS.lloadN X289.here hx rfl (hb hby d_method_4_code_49) rfl  kt) ?_
    refine Rch.of (T' := T289) (g' := (mkF m 51 #[.val (.long p1), .second, .val (.int (6 : Int32)), .val (.ref b280)] [(.int (3 : Int32)), (.long p1), (.int (3 : Int32)), (.ref b280)])) (fun _ kt => XS.iconst X289.here hx rfl (hb hby d_method_4_code_50) kt) ?_
    obtain ⟨_, _, ⟨T291, L291, k291, n291⟩, -, X291, ⟨Lc291, hQ291, l291, y291, z291⟩, st291⟩ := Jvm.LawKit.callS X289 hx (y := (⟨"com/example/isidore/isidore/SeverityLabelledPinLaw", "at", "(JI)C"⟩ : MethodName)) hown (mvT hZ (hw _ (List.mem_of_getElem? (i := 5) rfl))) (mvT hZ (hw _ (List.mem_of_getElem? (i := 6) rfl))) (mvT hZ (hw _ (List.mem_of_getElem? (i := 2) rfl))) (mvT hZ (hw _ (List.mem_of_getElem? (i := 7) rfl))) (by decide) (backOf (W := 2) (rk1 l Z a0 hw [] p1 (3 : Int32) h289 n0 (Nat.le_trans (Nat.le_trans (Nat.le_trans (Nat.le_trans Z0 E280.1) (Keep.of_wr W282).1) (Keep.of_wr W285).1) (Keep.of_wr W289).1) ) hZ (hw _ (List.mem_of_getElem? (i := 7) rfl)) (hw _ (List.mem_of_getElem? (i := 2) rfl)) (by decide) (by decide)) (g := (mkF m 51 #[.val (.long p1), .second, .val (.int (6 : Int32)), .val (.ref b280)] [(.int (3 : Int32)), (.long p1), (.int (3 : Int32)), (.ref b280)])) rfl (by rw [hml]; rfl) (argsL := [(.long p1), (.int (3 : Int32))]) (rest := [(.int (3 : Int32)), (.ref b280)]) (lenOf pd_1 rfl) rfl (by show 2 * 0 + _ ≤ _; exact Nat.le_of_eq rfl) (hb hby d_method_4_code_51) (fun _ _ => ⟨rfl, e289, (by decide : 1 + 0 ≤ _), (by decide : 6 + 0 ≤ _)⟩)
    dsimp only [Pt.U, Pt.locs, Pt.cells, Pt.slots] at X291 l291 y291 z291 st291 hQ291
    subst l291 y291 z291
    obtain ⟨rt291, rfl, N291q, hQ291⟩ := hQ291
    have N291 := Fr.app N289 N291q
    obtain ⟨hh291, c1291⟩ := hQ291
    refine Rch.of (T' := T291) (g' := (mkF m 54 #[.val (.long p1), .second, .val (.int (6 : Int32)), .val (.ref b280)] [(.int rt291), (.int (3 : Int32)), (.ref b280)])) st291 ?_
    obtain ⟨cl292, Ar292, Sz292, Ha292⟩ := id V289
    obtain ⟨T292, h292, X292, e292, W292, st292⟩ := stC X291 hx hZ hh291 Ar292 (j := (3 : Int32)) (oIn (i := 3) Sz292 (by decide) (by decide)) (g := (mkF m 54 #[.val (.long p1), .second, .val (.int (6 : Int32)), .val (.ref b280)] [(.int rt291), (.int (3 : Int32)), (.ref b280)])) rfl rfl (hb hby d_method_4_code_54)
    have V292 := Av.setI (i := 3) V289 (by decide) (by decide) W292
    obtain ⟨y292, hy292⟩ : ∃ zz_ : Nat → Int32, zz_ = fun q => if q = 3 then rt291.toUInt32.toUInt16.toUInt32.toInt32 else y289 q := ⟨_, rfl⟩
    have V292 : Av Z h292 b280 .char 6 (fun q => .int (y292 q)) := by rw [hy292]; exact V292
    have N292 := Fr.snoc X292 N291 ge_b280
    have Sf293 : Safe Z consts_1 s.vm h289 b280 := (Safe.exa hZ.alike (((Q280.wr W282).wr W285).wr W289) (by decide) (by decide))
    have Fb294 := (Nat.le_trans (Nat.le_trans (Nat.le_trans (Nat.le_trans (Nat.le_trans hk0 E280.1) (Keep.of_wr W282).1) (Keep.of_wr W285).1) (Keep.of_wr W289).1) (Keep.of_wr W292).1)
    have Fb295 := (Nat.le_trans (Nat.le_trans (Nat.le_trans (Nat.le_trans (Nat.le_trans Z0 E280.1) (Keep.of_wr W282).1) (Keep.of_wr W285).1) (Keep.of_wr W289).1) (Keep.of_wr W292).1)
    refine Rch.of (T' := T292) (g' := (mkF m 55 #[.val (.long p1), .second, .val (.int (6 : Int32)), .val (.ref b280)] [])) st292 ?_
    refine Rch.of (T' := T292) (g' := (mkF m 56 #[.val (.long p1), .second, .val (.int (6 : Int32)), .val (.ref b280)] [(.int (6 : Int32))])) (fun _ kt => XS.iloadN X292.here hx rfl (hb hby d_method_4_code_55) rfl  kt) ?_
    refine Rch.of (T' := T292) (g' := (mkF m 57 #[.val (.long p1), .second, .val (.int (6 : Int32)), .val (.ref b280)] [(.int (4 : Int32)), (.int (6 : Int32))])) (fun _ kt => XS.iconst X292.here hx rfl (hb hby d_method_4_code_56) kt) ?_
    refine Rch.of (T' := T292) (g' := (mkF m 60 #[.val (.long p1), .second, .val (.int (6 : Int32)), .val (.ref b280)] [])) (fun _ kt => XS.icmpNo X292.here hx rfl (hb hby d_method_4_code_57) rfl (tlt ((by decide) : (4 : Int32) < (6 : Int32))).2.2.2 kt) ?_
    refine Rch.of (T' := T292) (g' := (mkF m 61 #[.val (.long p1), .second, .val (.int (6 : Int32)), .val (.ref b280)] [(.ref b280)])) (fun _ kt => XS.aloadN X292.here hx rfl (hb hby d_method_4_code_60) rfl rfl kt) ?_
    refine Rch.of (T' := T292) (g' := (mkF m 62 #[.val (.long p1), .second, .val (.int (6 : Int32)), .val (.ref b280)] [(.int (4 : Int32)), (.ref b280)])) (fun _ kt => XS.iconst X292.here hx rfl (hb hby d_method_4_code_61) kt) ?_
    refine Rch.of (T' := T292) (g' := (mkF m 63 #[.val (.long p1), .second, .val (.int (6 : Int32)), .val (.ref b280)] [(.long p1), (.int (4 : Int32)), (.ref b280)])) (fun _ kt => XS.lloadN X292.here hx rfl (hb hby d_method_4_code_62) rfl  kt) ?_
    refine Rch.of (T' := T292) (g' := (mkF m 64 #[.val (.long p1), .second, .val (.int (6 : Int32)), .val (.ref b280)] [(.int (4 : Int32)), (.long p1), (.int (4 : Int32)), (.ref b280)])) (fun _ kt => XS.iconst X292.here hx rfl (hb hby d_method_4_code_63) kt) ?_
    obtain ⟨_, _, ⟨T296, L296, k296, n296⟩, -, X296, ⟨Lc296, hQ296, l296, y296, z296⟩, st296⟩ := Jvm.LawKit.callS X292 hx (y := (⟨"com/example/isidore/isidore/SeverityLabelledPinLaw", "at", "(JI)C"⟩ : MethodName)) hown (mvT hZ (hw _ (List.mem_of_getElem? (i := 5) rfl))) (mvT hZ (hw _ (List.mem_of_getElem? (i := 6) rfl))) (mvT hZ (hw _ (List.mem_of_getElem? (i := 2) rfl))) (mvT hZ (hw _ (List.mem_of_getElem? (i := 7) rfl))) (by decide) (backOf (W := 2) (rk1 l Z a0 hw [] p1 (4 : Int32) h292 n0 Fb295 ) hZ (hw _ (List.mem_of_getElem? (i := 7) rfl)) (hw _ (List.mem_of_getElem? (i := 2) rfl)) (by decide) (by decide)) (g := (mkF m 64 #[.val (.long p1), .second, .val (.int (6 : Int32)), .val (.ref b280)] [(.int (4 : Int32)), (.long p1), (.int (4 : Int32)), (.ref b280)])) rfl (by rw [hml]; rfl) (argsL := [(.long p1), (.int (4 : Int32))]) (rest := [(.int (4 : Int32)), (.ref b280)]) (lenOf pd_1 rfl) rfl (by show 2 * 0 + _ ≤ _; exact Nat.le_of_eq rfl) (hb hby d_method_4_code_64) (fun _ _ => ⟨rfl, e292, (by decide : 1 + 0 ≤ _), (by decide : 6 + 0 ≤ _)⟩)
    dsimp only [Pt.U, Pt.locs, Pt.cells, Pt.slots] at X296 l296 y296 z296 st296 hQ296
    subst l296 y296 z296
    obtain ⟨rt296, rfl, N296q, hQ296⟩ := hQ296
    have N296 := Fr.app N292 N296q
    obtain ⟨hh296, c1296⟩ := hQ296
    refine Rch.of (T' := T296) (g' := (mkF m 67 #[.val (.long p1), .second, .val (.int (6 : Int32)), .val (.ref b280)] [(.int rt296), (.int (4 : Int32)), (.ref b280)])) st296 ?_
    obtain ⟨cl297, Ar297, Sz297, Ha297⟩ := id V292
    obtain ⟨T297, h297, X297, e297, W297, st297⟩ := stC X296 hx hZ hh296 Ar297 (j := (4 : Int32)) (oIn (i := 4) Sz297 (by decide) (by decide)) (g := (mkF m 67 #[.val (.long p1), .second, .val (.int (6 : Int32)), .val (.ref b280)] [(.int rt296), (.int (4 : Int32)), (.ref b280)])) rfl rfl (hb hby d_method_4_code_67)
    have V297 := Av.setI (i := 4) V292 (by decide) (by decide) W297
    obtain ⟨y297, hy297⟩ : ∃ zz_ : Nat → Int32, zz_ = fun q => if q = 4 then rt296.toUInt32.toUInt16.toUInt32.toInt32 else y292 q := ⟨_, rfl⟩
    have V297 : Av Z h297 b280 .char 6 (fun q => .int (y297 q)) := by rw [hy297]; exact V297
    have N297 := Fr.snoc X297 N296 ge_b280
    have Sf298 : Safe Z consts_1 s.vm h292 b280 := (Safe.exa hZ.alike ((((Q280.wr W282).wr W285).wr W289).wr W292) (by decide) (by decide))
    have Rb299 := (((Rb287.trans (CHr.wr W289 Sf290 Rb287.1)).trans (CHr.wr W292 Sf293 (Rb287.trans (CHr.wr W289 Sf290 Rb287.1)).1)).trans (CHr.wr W297 Sf298 ((Rb287.trans (CHr.wr W289 Sf290 Rb287.1)).trans (CHr.wr W292 Sf293 (Rb287.trans (CHr.wr W289 Sf290 Rb287.1)).1)).1))
    have Fb300 := (((((((Keep.refl h0 []).ext E280).wr W282 (Or.inr sz_b280)).wr W285 (Or.inr sz_b280)).wr W289 (Or.inr sz_b280)).wr W292 (Or.inr sz_b280)).wr W297 (Or.inr sz_b280))
    refine Rch.of (T' := T297) (g' := (mkF m 68 #[.val (.long p1), .second, .val (.int (6 : Int32)), .val (.ref b280)] [])) st297 ?_
    refine Rch.of (T' := T297) (g' := (mkF m 69 #[.val (.long p1), .second, .val (.int (6 : Int32)), .val (.ref b280)] [(.int (6 : Int32))])) (fun _ kt => XS.iloadN X297.here hx rfl (hb hby d_method_4_code_68) rfl  kt) ?_
    refine Rch.of (T' := T297) (g' := (mkF m 70 #[.val (.long p1), .second, .val (.int (6 : Int32)), .val (.ref b280)] [(.int (5 : Int32)), (.int (6 : Int32))])) (fun _ kt => XS.iconst X297.here hx rfl (hb hby d_method_4_code_69) kt) ?_
    refine Rch.of (T' := T297) (g' := (mkF m 73 #[.val (.long p1), .second, .val (.int (6 : Int32)), .val (.ref b280)] [])) (fun _ kt => XS.icmpNo X297.here hx rfl (hb hby d_method_4_code_70) rfl (tlt ((by decide) : (5 : Int32) < (6 : Int32))).2.2.2 kt) ?_
    refine Rch.of (T' := T297) (g' := (mkF m 74 #[.val (.long p1), .second, .val (.int (6 : Int32)), .val (.ref b280)] [(.ref b280)])) (fun _ kt => XS.aloadN X297.here hx rfl (hb hby d_method_4_code_73) rfl rfl kt) ?_
    refine Rch.of (T' := T297) (g' := (mkF m 75 #[.val (.long p1), .second, .val (.int (6 : Int32)), .val (.ref b280)] [(.int (5 : Int32)), (.ref b280)])) (fun _ kt => XS.iconst X297.here hx rfl (hb hby d_method_4_code_74) kt) ?_
    refine Rch.of (T' := T297) (g' := (mkF m 76 #[.val (.long p1), .second, .val (.int (6 : Int32)), .val (.ref b280)] [(.long p1), (.int (5 : Int32)), (.ref b280)])) (fun _ kt => XS.lloadN X297.here hx rfl (hb hby d_method_4_code_75) rfl  kt) ?_
    refine Rch.of (T' := T297) (g' := (mkF m 77 #[.val (.long p1), .second, .val (.int (6 : Int32)), .val (.ref b280)] [(.int (5 : Int32)), (.long p1), (.int (5 : Int32)), (.ref b280)])) (fun _ kt => XS.iconst X297.here hx rfl (hb hby d_method_4_code_76) kt) ?_
    obtain ⟨_, _, ⟨T301, L301, k301, n301⟩, -, X301, ⟨Lc301, hQ301, l301, y301, z301⟩, st301⟩ := Jvm.LawKit.callS X297 hx (y := (⟨"com/example/isidore/isidore/SeverityLabelledPinLaw", "at", "(JI)C"⟩ : MethodName)) hown (mvT hZ (hw _ (List.mem_of_getElem? (i := 5) rfl))) (mvT hZ (hw _ (List.mem_of_getElem? (i := 6) rfl))) (mvT hZ (hw _ (List.mem_of_getElem? (i := 2) rfl))) (mvT hZ (hw _ (List.mem_of_getElem? (i := 7) rfl))) (by decide) (backOf (W := 2) (rk1 l Z a0 hw [] p1 (5 : Int32) h297 n0 (Nat.le_trans Fb295 (Keep.of_wr W297).1) ) hZ (hw _ (List.mem_of_getElem? (i := 7) rfl)) (hw _ (List.mem_of_getElem? (i := 2) rfl)) (by decide) (by decide)) (g := (mkF m 77 #[.val (.long p1), .second, .val (.int (6 : Int32)), .val (.ref b280)] [(.int (5 : Int32)), (.long p1), (.int (5 : Int32)), (.ref b280)])) rfl (by rw [hml]; rfl) (argsL := [(.long p1), (.int (5 : Int32))]) (rest := [(.int (5 : Int32)), (.ref b280)]) (lenOf pd_1 rfl) rfl (by show 2 * 0 + _ ≤ _; exact Nat.le_of_eq rfl) (hb hby d_method_4_code_77) (fun _ _ => ⟨rfl, e297, (by decide : 1 + 0 ≤ _), (by decide : 6 + 0 ≤ _)⟩)
    dsimp only [Pt.U, Pt.locs, Pt.cells, Pt.slots] at X301 l301 y301 z301 st301 hQ301
    subst l301 y301 z301
    obtain ⟨rt301, rfl, N301q, hQ301⟩ := hQ301
    have N301 := Fr.app N297 N301q
    obtain ⟨hh301, c1301⟩ := hQ301
    refine Rch.of (T' := T301) (g' := (mkF m 80 #[.val (.long p1), .second, .val (.int (6 : Int32)), .val (.ref b280)] [(.int rt301), (.int (5 : Int32)), (.ref b280)])) st301 ?_
    obtain ⟨cl302, Ar302, Sz302, Ha302⟩ := id V297
    obtain ⟨T302, h302, X302, e302, W302, st302⟩ := stC X301 hx hZ hh301 Ar302 (j := (5 : Int32)) (oIn (i := 5) Sz302 (by decide) (by decide)) (g := (mkF m 80 #[.val (.long p1), .second, .val (.int (6 : Int32)), .val (.ref b280)] [(.int rt301), (.int (5 : Int32)), (.ref b280)])) rfl rfl (hb hby d_method_4_code_80)
    have V302 := Av.setI (i := 5) V297 (by decide) (by decide) W302
    obtain ⟨y302, hy302⟩ : ∃ zz_ : Nat → Int32, zz_ = fun q => if q = 5 then rt301.toUInt32.toUInt16.toUInt32.toInt32 else y297 q := ⟨_, rfl⟩
    have V302 : Av Z h302 b280 .char 6 (fun q => .int (y302 q)) := by rw [hy302]; exact V302
    have N302 := Fr.snoc X302 N301 ge_b280
    have Sf303 : Safe Z consts_1 s.vm h297 b280 := (Safe.exa hZ.alike (((((Q280.wr W282).wr W285).wr W289).wr W292).wr W297) (by decide) (by decide))
    refine Rch.of (T' := T302) (g' := (mkF m 81 #[.val (.long p1), .second, .val (.int (6 : Int32)), .val (.ref b280)] [])) st302 ?_
    refine Rch.of (T' := T302) (g' := (mkF m 82 #[.val (.long p1), .second, .val (.int (6 : Int32)), .val (.ref b280)] [(.int (6 : Int32))])) (fun _ kt => XS.iloadN X302.here hx rfl (hb hby d_method_4_code_81) rfl  kt) ?_
    refine Rch.of (T' := T302) (g' := (mkF m 84 #[.val (.long p1), .second, .val (.int (6 : Int32)), .val (.ref b280)] [(.int (6 : Int32)), (.int (6 : Int32))])) (fun _ kt => XS.bipush X302.here hx rfl (hb hby d_method_4_code_82) kt) ?_
    refine Rch.of (T' := T302) (g' := (mkF m 97 #[.val (.long p1), .second, .val (.int (6 : Int32)), .val (.ref b280)] [])) (fun _ kt => XS.icmpYes X302.here hx rfl (pc0 := 84) (pc' := 97) rfl (hb hby d_method_4_code_84) rfl (flt ((by decide) : ¬ ((6 : Int32) < (6 : Int32)))).2.2.2 (by decide) (by decide) kt) ?_
    obtain ⟨T304, h304, X304, e304, E304, A304, D304, -, st304⟩ := newO X302 hx hZ hown (hw _ (List.mem_of_getElem? (i := 9) rfl)) (hw _ (List.mem_of_getElem? (i := 10) rfl)) (hw _ (List.mem_of_getElem? (i := 11) rfl)) e302 (g := (mkF m 97 #[.val (.long p1), .second, .val (.int (6 : Int32)), .val (.ref b280)] [])) rfl (hb hby d_method_4_code_97) (by decide) (by decide)
    obtain ⟨b304, g304⟩ : ∃ zz_, zz_ = h302.size := ⟨_, rfl⟩
    have ne_b280_b304 : b280 ≠ b304 := Nat.ne_of_lt (Nat.lt_of_lt_of_le ((((((Q280.wr W282).wr W285).wr W289).wr W292).wr W297).wr W302).lt (Nat.le_of_eq g304.symm))
    have ge_b304 : n0 ≤ b304 := Nat.le_trans (Nat.le_trans (Nat.le_trans Fb295 (Keep.of_wr W297).1) (Keep.of_wr W302).1) (Nat.le_of_eq g304.symm)
    have sz_b304 : h0.size ≤ b304 := Nat.le_trans (Fb300.wr W302 (Or.inr sz_b280)).1 (Nat.le_of_eq g304.symm)
    rw [← g304] at A304 D304 st304
    have F304_coder : Fld Z h304 b304 "java/lang/String" "coder" "B" (.int (0 : Int32)) := D304 (Or.inr (hw _ (List.mem_of_getElem? (i := 35) rfl))) (ty := .byte) (by decide)
    have F304_value : Fld Z h304 b304 "java/lang/String" "value" "[B" .null := D304 (Or.inr (hw _ (List.mem_of_getElem? (i := 37) rfl))) (ty := (.array .byte)) (by decide)
    refine Rch.of (T' := T304) (g' := (mkF m 100 #[.val (.long p1), .second, .val (.int (6 : Int32)), .val (.ref b280)] [(.ref b304)])) st304 ?_
    refine Rch.of (T' := T304) (g' := (mkF m 101 #[.val (.long p1), .second, .val (.int (6 : Int32)), .val (.ref b280)] [(.ref b304), (.ref b304)])) (fun _ kt => XS.dup X304.here hx rfl (hb hby d_method_4_code_100) rfl rfl kt) ?_
    refine Rch.of (T' := T304) (g' := (mkF m 102 #[.val (.long p1), .second, .val (.int (6 : Int32)), .val (.ref b280)] [(.ref b280), (.ref b304), (.ref b304)])) (fun _ kt => XS.aloadN X304.here hx rfl (hb hby d_method_4_code_101) rfl rfl kt) ?_
    have pr306 : 6 ≤ 7 := by omega
    have hch307 : own_ch 6 y302 := by
      intro q hq
      rw [hy302, hy297, hy292, hy289, hy285, hy282]
      rcases (show q = 0 ∨ q = 1 ∨ q = 2 ∨ q = 3 ∨ q = 4 ∨ q = 5 by omega) with rfl | rfl | rfl | rfl | rfl | rfl
      · exact own_c1i c1281
      · exact own_c1i c1284
      · exact own_c1i c1288
      · exact own_c1i c1291
      · exact own_c1i c1296
      · exact own_c1i c1301
    obtain ⟨_, _, ⟨T305, L305, k305, n305⟩, -, X305, hT305, gr305, ⟨Lc305, hQ305, l305, y305, z305, cr305⟩, st305⟩ := X304.specialBackS hx (y := (⟨"java/lang/String", "<init>", "([C)V"⟩ : MethodName)) rfl hown (mvT hZ (hw _ (List.mem_of_getElem? (i := 12) rfl))) (mvT hZ (hw _ (List.mem_of_getElem? (i := 13) rfl))) (mvT hZ (hw _ (List.mem_of_getElem? (i := 14) rfl))) (by decide) (backOfSH (s := s) (vm0 := s.vm) (EL := consts_1) (W := 1) (rqN1 l Z a0 hw [] b304 b280 6 y302 (.int (0 : Int32)) cs h304 n0 (Nat.le_trans (Nat.le_trans (Nat.le_trans Fb295 (Keep.of_wr W297).1) (Keep.of_wr W302).1) E304.1) A304 F304_coder F304_value ge_b304 (V302.ext E304) ((((((((SC.ext E280).wr W282).wr W285).wr W289).wr W292).wr W297).wr W302).ext E304) hcs pr306 hch307) hZ (hw _ (List.mem_of_getElem? (i := 14) rfl)) (hw _ (List.mem_of_getElem? (i := 11) rfl)) (by decide) (by decide) hEL ((Rb299.trans (CHr.wr W302 Sf303 Rb299.1)).trans (CHr.ext E304 (Rb299.trans (CHr.wr W302 Sf303 Rb299.1)).1)).1) (g := (mkF m 102 #[.val (.long p1), .second, .val (.int (6 : Int32)), .val (.ref b280)] [(.ref b280), (.ref b304), (.ref b304)])) rfl (by rw [hml]; rfl) (Steps.refl _) (a := b304) (argsL := [(.ref b280)]) (rest := [(.ref b304)]) (lenOf pd_2 rfl) rfl (by show 2 * 0 + _ ≤ _; exact Nat.le_of_eq rfl) (hb hby d_method_4_code_102) (fun _ _ => ⟨rfl, e304, (by decide : 2 + 4 ≤ _), (by decide : 10 + 8 ≤ _)⟩)
    dsimp only [Pt.U, Pt.locs, Pt.cells, Pt.slots] at X305 hT305 gr305 l305 y305 z305 st305 hQ305 cr305
    subst l305 y305 z305
    obtain ⟨X305, hS305, hZ, hown⟩ := rebS hS0 (Nat.le_trans (Nat.le_trans (Nat.le_trans Fb294 (Keep.of_wr W297).1) (Keep.of_wr W302).1) E304.1) X305 hT305 (by rw [← e304]; exact gr305) hZ hown
    obtain ⟨rb305, rfl, N305q, hQ305⟩ := hQ305
    have N305 := Fr.app N302 N305q
    obtain ⟨K305, Ex305, Fa305, Fb305, V305⟩ := hQ305
    refine Rch.via (T' := T305) (g' := (mkF m 105 #[.val (.long p1), .second, .val (.int (6 : Int32)), .val (.ref b280)] [(.ref b304)])) st305 ?_
    exact Rch.retA X305 hx (w := (.ref b304)) hret rfl rfl hlk (hb hby d_method_4_code_105) (fun U hU hF => hK _ U _ _ _ (by show Q_rk2 Z p1 k cs h0 n0 _ U.heap _; rw [hU]; exact ⟨b304, rb305, y302, 6, rfl, N305, (((Fb300.wr W302 (Or.inr sz_b280)).ext E304).trans K305 (allS (Or.inr sz_b304) all0)), Ex305, Fa305, Fb305, V305, hch307, by decide⟩) (own_endH hZ hEL (((Rb299.trans (CHr.wr W302 Sf303 Rb299.1)).trans (CHr.ext E304 (Rb299.trans (CHr.wr W302 Sf303 Rb299.1)).1)).trans cr305) hU hF) (own_end hS305 (by rw [hU]; exact (Nat.le_refl _)) hF) (by decide) (by decide))
  · skip
    have sw308 : (Int32.ofNat k) = (7 : Int32) := by rw [ek]; rfl
    rw [sw308]
    show Rch p e below K T0 (mkF m 0 #[.val (.long p1), .second, .val (.int (7 : Int32)), .unset] [])
    refine Rch.of (T' := T0) (g' := (mkF m 1 #[.val (.long p1), .second, .val (.int (7 : Int32)), .unset] [(.int (7 : Int32))])) (fun _ kt => XS.iloadN X0.here hx rfl (hb hby d_method_4_code_0) rfl  kt) ?_
    obtain ⟨T309, h309, k309, X309, e309, E309, A309, Q309, st309⟩ := newPE X0 hx hZ (hw _ (List.mem_of_getElem? (i := 4) rfl)) e0 (g := (mkF m 1 #[.val (.long p1), .second, .val (.int (7 : Int32)), .unset] [(.int (7 : Int32))])) rfl (hb hby d_method_4_code_1) rfl (by decide) (cap := 7) (by decide) (by decide) (by decide) (by decide) (ad := "[C") rfl
    obtain ⟨b309, g309⟩ : ∃ zz_, zz_ = h0.size := ⟨_, rfl⟩
    have ge_b309 : n0 ≤ b309 := Nat.le_trans Z0 (Nat.le_of_eq g309.symm)
    have sz_b309 : h0.size ≤ b309 := Nat.le_trans (Keep.refl h0 []).1 (Nat.le_of_eq g309.symm)
    rw [← g309] at A309 Q309 st309
    have V309 : Av Z h309 b309 .char 7 (fun _ => (.int (0 : Int32))) := Av.new A309 (by decide)
    refine Rch.of (T' := T309) (g' := (mkF m 3 #[.val (.long p1), .second, .val (.int (7 : Int32)), .unset] [(.ref b309)])) st309 ?_
    refine Rch.of (T' := T309) (g' := (mkF m 4 #[.val (.long p1), .second, .val (.int (7 : Int32)), .val (.ref b309)] [])) (fun _ kt => XS.astoreN X309.here hx rfl (hb hby d_method_4_code_3) rfl rfl (l' := #[.val (.long p1), .second, .val (.int (7 : Int32)), .val (.ref b309)]) rfl kt) ?_
    refine Rch.of (T' := T309) (g' := (mkF m 5 #[.val (.long p1), .second, .val (.int (7 : Int32)), .val (.ref b309)] [(.int (7 : Int32))])) (fun _ kt => XS.iloadN X309.here hx rfl (hb hby d_method_4_code_4) rfl  kt) ?_
    refine Rch.of (T' := T309) (g' := (mkF m 8 #[.val (.long p1), .second, .val (.int (7 : Int32)), .val (.ref b309)] [])) (fun _ kt => XS.ifNo X309.here hx rfl (hb hby d_method_4_code_5) rfl ((if0 _ _).trans (tlt ((by decide) : (0 : Int32) < (7 : Int32))).2.2.2) kt) ?_
    refine Rch.of (T' := T309) (g' := (mkF m 9 #[.val (.long p1), .second, .val (.int (7 : Int32)), .val (.ref b309)] [(.ref b309)])) (fun _ kt => XS.aloadN X309.here hx rfl (hb hby d_method_4_code_8) rfl rfl kt) ?_
    refine Rch.of (T' := T309) (g' := (mkF m 10 #[.val (.long p1), .second, .val (.int (7 : Int32)), .val (.ref b309)] [(.int (0 : Int32)), (.ref b309)])) (fun _ kt => XS.iconst X309.here hx rfl (hb hby d_method_4_code_9) kt) ?_
    refine Rch.of (T' := T309) (g' := (mkF m 11 #[.val (.long p1), .second, .val (.int (7 : Int32)), .val (.ref b309)] [(.long p1), (.int (0 : Int32)), (.ref b309)])) (fun _ kt => XS.lloadN X309.here hx rfl (hb hby d_method_4_code_10) rfl  kt) ?_
    refine Rch.of (T' := T309) (g' := (mkF m 12 #[.val (.long p1), .second, .val (.int (7 : Int32)), .val (.ref b309)] [(.int (0 : Int32)), (.long p1), (.int (0 : Int32)), (.ref b309)])) (fun _ kt => XS.iconst X309.here hx rfl (hb hby d_method_4_code_11) kt) ?_
    obtain ⟨_, _, ⟨T310, L310, k310, n310⟩, -, X310, ⟨Lc310, hQ310, l310, y310, z310⟩, st310⟩ := Jvm.LawKit.callS X309 hx (y := (⟨"com/example/isidore/isidore/SeverityLabelledPinLaw", "at", "(JI)C"⟩ : MethodName)) hown (mvT hZ (hw _ (List.mem_of_getElem? (i := 5) rfl))) (mvT hZ (hw _ (List.mem_of_getElem? (i := 6) rfl))) (mvT hZ (hw _ (List.mem_of_getElem? (i := 2) rfl))) (mvT hZ (hw _ (List.mem_of_getElem? (i := 7) rfl))) (by decide) (backOf (W := 2) (rk1 l Z a0 hw [] p1 (0 : Int32) h309 n0 (Nat.le_trans Z0 E309.1) ) hZ (hw _ (List.mem_of_getElem? (i := 7) rfl)) (hw _ (List.mem_of_getElem? (i := 2) rfl)) (by decide) (by decide)) (g := (mkF m 12 #[.val (.long p1), .second, .val (.int (7 : Int32)), .val (.ref b309)] [(.int (0 : Int32)), (.long p1), (.int (0 : Int32)), (.ref b309)])) rfl (by rw [hml]; rfl) (argsL := [(.long p1), (.int (0 : Int32))]) (rest := [(.int (0 : Int32)), (.ref b309)]) (lenOf pd_1 rfl) rfl (by show 2 * 0 + _ ≤ _; exact Nat.le_of_eq rfl) (hb hby d_method_4_code_12) (fun _ _ => ⟨rfl, e309, (by decide : 1 + 0 ≤ _), (by decide : 7 + 0 ≤ _)⟩)
    dsimp only [Pt.U, Pt.locs, Pt.cells, Pt.slots] at X310 l310 y310 z310 st310 hQ310
    subst l310 y310 z310
    obtain ⟨rt310, rfl, N310q, hQ310⟩ := hQ310
    have N310 := Fr.app N0 N310q
    obtain ⟨hh310, c1310⟩ := hQ310
    refine Rch.of (T' := T310) (g' := (mkF m 15 #[.val (.long p1), .second, .val (.int (7 : Int32)), .val (.ref b309)] [(.int rt310), (.int (0 : Int32)), (.ref b309)])) st310 ?_
    obtain ⟨cl311, Ar311, Sz311, Ha311⟩ := id V309
    obtain ⟨T311, h311, X311, e311, W311, st311⟩ := stC X310 hx hZ hh310 Ar311 (j := (0 : Int32)) (oIn (i := 0) Sz311 (by decide) (by decide)) (g := (mkF m 15 #[.val (.long p1), .second, .val (.int (7 : Int32)), .val (.ref b309)] [(.int rt310), (.int (0 : Int32)), (.ref b309)])) rfl rfl (hb hby d_method_4_code_15)
    have V311 := Av.setI (i := 0) V309 (by decide) (by decide) W311
    obtain ⟨y311, hy311⟩ : ∃ zz_ : Nat → Int32, zz_ = fun q => if q = 0 then rt310.toUInt32.toUInt16.toUInt32.toInt32 else (fun _ => (0 : Int32)) q := ⟨_, rfl⟩
    have V311 : Av Z h311 b309 .char 7 (fun q => .int (y311 q)) := by rw [hy311]; exact V311
    have N311 := Fr.snoc X311 N310 ge_b309
    have Sf312 : Safe Z consts_1 s.vm h309 b309 := (Safe.exa hZ.alike Q309 (by decide) (by decide))
    refine Rch.of (T' := T311) (g' := (mkF m 16 #[.val (.long p1), .second, .val (.int (7 : Int32)), .val (.ref b309)] [])) st311 ?_
    refine Rch.of (T' := T311) (g' := (mkF m 17 #[.val (.long p1), .second, .val (.int (7 : Int32)), .val (.ref b309)] [(.int (7 : Int32))])) (fun _ kt => XS.iloadN X311.here hx rfl (hb hby d_method_4_code_16) rfl  kt) ?_
    refine Rch.of (T' := T311) (g' := (mkF m 18 #[.val (.long p1), .second, .val (.int (7 : Int32)), .val (.ref b309)] [(.int (1 : Int32)), (.int (7 : Int32))])) (fun _ kt => XS.iconst X311.here hx rfl (hb hby d_method_4_code_17) kt) ?_
    refine Rch.of (T' := T311) (g' := (mkF m 21 #[.val (.long p1), .second, .val (.int (7 : Int32)), .val (.ref b309)] [])) (fun _ kt => XS.icmpNo X311.here hx rfl (hb hby d_method_4_code_18) rfl (tlt ((by decide) : (1 : Int32) < (7 : Int32))).2.2.2 kt) ?_
    refine Rch.of (T' := T311) (g' := (mkF m 22 #[.val (.long p1), .second, .val (.int (7 : Int32)), .val (.ref b309)] [(.ref b309)])) (fun _ kt => XS.aloadN X311.here hx rfl (hb hby d_method_4_code_21) rfl rfl kt) ?_
    refine Rch.of (T' := T311) (g' := (mkF m 23 #[.val (.long p1), .second, .val (.int (7 : Int32)), .val (.ref b309)] [(.int (1 : Int32)), (.ref b309)])) (fun _ kt => XS.iconst X311.here hx rfl (hb hby d_method_4_code_22) kt) ?_
    refine Rch.of (T' := T311) (g' := (mkF m 24 #[.val (.long p1), .second, .val (.int (7 : Int32)), .val (.ref b309)] [(.long p1), (.int (1 : Int32)), (.ref b309)])) (fun _ kt => XS.lloadN X311.here hx rfl (hb hby d_method_4_code_23) rfl  kt) ?_
    refine Rch.of (T' := T311) (g' := (mkF m 25 #[.val (.long p1), .second, .val (.int (7 : Int32)), .val (.ref b309)] [(.int (1 : Int32)), (.long p1), (.int (1 : Int32)), (.ref b309)])) (fun _ kt => XS.iconst X311.here hx rfl (hb hby d_method_4_code_24) kt) ?_
    obtain ⟨_, _, ⟨T313, L313, k313, n313⟩, -, X313, ⟨Lc313, hQ313, l313, y313, z313⟩, st313⟩ := Jvm.LawKit.callS X311 hx (y := (⟨"com/example/isidore/isidore/SeverityLabelledPinLaw", "at", "(JI)C"⟩ : MethodName)) hown (mvT hZ (hw _ (List.mem_of_getElem? (i := 5) rfl))) (mvT hZ (hw _ (List.mem_of_getElem? (i := 6) rfl))) (mvT hZ (hw _ (List.mem_of_getElem? (i := 2) rfl))) (mvT hZ (hw _ (List.mem_of_getElem? (i := 7) rfl))) (by decide) (backOf (W := 2) (rk1 l Z a0 hw [] p1 (1 : Int32) h311 n0 (Nat.le_trans (Nat.le_trans Z0 E309.1) (Keep.of_wr W311).1) ) hZ (hw _ (List.mem_of_getElem? (i := 7) rfl)) (hw _ (List.mem_of_getElem? (i := 2) rfl)) (by decide) (by decide)) (g := (mkF m 25 #[.val (.long p1), .second, .val (.int (7 : Int32)), .val (.ref b309)] [(.int (1 : Int32)), (.long p1), (.int (1 : Int32)), (.ref b309)])) rfl (by rw [hml]; rfl) (argsL := [(.long p1), (.int (1 : Int32))]) (rest := [(.int (1 : Int32)), (.ref b309)]) (lenOf pd_1 rfl) rfl (by show 2 * 0 + _ ≤ _; exact Nat.le_of_eq rfl) (hb hby d_method_4_code_25) (fun _ _ => ⟨rfl, e311, (by decide : 1 + 0 ≤ _), (by decide : 7 + 0 ≤ _)⟩)
    dsimp only [Pt.U, Pt.locs, Pt.cells, Pt.slots] at X313 l313 y313 z313 st313 hQ313
    subst l313 y313 z313
    obtain ⟨rt313, rfl, N313q, hQ313⟩ := hQ313
    have N313 := Fr.app N311 N313q
    obtain ⟨hh313, c1313⟩ := hQ313
    refine Rch.of (T' := T313) (g' := (mkF m 28 #[.val (.long p1), .second, .val (.int (7 : Int32)), .val (.ref b309)] [(.int rt313), (.int (1 : Int32)), (.ref b309)])) st313 ?_
    obtain ⟨cl314, Ar314, Sz314, Ha314⟩ := id V311
    obtain ⟨T314, h314, X314, e314, W314, st314⟩ := stC X313 hx hZ hh313 Ar314 (j := (1 : Int32)) (oIn (i := 1) Sz314 (by decide) (by decide)) (g := (mkF m 28 #[.val (.long p1), .second, .val (.int (7 : Int32)), .val (.ref b309)] [(.int rt313), (.int (1 : Int32)), (.ref b309)])) rfl rfl (hb hby d_method_4_code_28)
    have V314 := Av.setI (i := 1) V311 (by decide) (by decide) W314
    obtain ⟨y314, hy314⟩ : ∃ zz_ : Nat → Int32, zz_ = fun q => if q = 1 then rt313.toUInt32.toUInt16.toUInt32.toInt32 else y311 q := ⟨_, rfl⟩
    have V314 : Av Z h314 b309 .char 7 (fun q => .int (y314 q)) := by rw [hy314]; exact V314
    have N314 := Fr.snoc X314 N313 ge_b309
    have Sf315 : Safe Z consts_1 s.vm h311 b309 := (Safe.exa hZ.alike (Q309.wr W311) (by decide) (by decide))
    have Rb316 := (((R0.trans (CHr.ext E309 R0.1)).trans (CHr.wr W311 Sf312 (R0.trans (CHr.ext E309 R0.1)).1)).trans (CHr.wr W314 Sf315 ((R0.trans (CHr.ext E309 R0.1)).trans (CHr.wr W311 Sf312 (R0.trans (CHr.ext E309 R0.1)).1)).1))
    refine Rch.of (T' := T314) (g' := (mkF m 29 #[.val (.long p1), .second, .val (.int (7 : Int32)), .val (.ref b309)] [])) st314 ?_
    refine Rch.of (T' := T314) (g' := (mkF m 30 #[.val (.long p1), .second, .val (.int (7 : Int32)), .val (.ref b309)] [(.int (7 : Int32))])) (fun _ kt => XS.iloadN X314.here hx rfl (hb hby d_method_4_code_29) rfl  kt) ?_
    refine Rch.of (T' := T314) (g' := (mkF m 31 #[.val (.long p1), .second, .val (.int (7 : Int32)), .val (.ref b309)] [(.int (2 : Int32)), (.int (7 : Int32))])) (fun _ kt => XS.iconst X314.here hx rfl (hb hby d_method_4_code_30) kt) ?_
    refine Rch.of (T' := T314) (g' := (mkF m 34 #[.val (.long p1), .second, .val (.int (7 : Int32)), .val (.ref b309)] [])) (fun _ kt => XS.icmpNo X314.here hx rfl (hb hby d_method_4_code_31) rfl (tlt ((by decide) : (2 : Int32) < (7 : Int32))).2.2.2 kt) ?_
    refine Rch.of (T' := T314) (g' := (mkF m 35 #[.val (.long p1), .second, .val (.int (7 : Int32)), .val (.ref b309)] [(.ref b309)])) (fun _ kt => XS.aloadN X314.here hx rfl (hb hby d_method_4_code_34) rfl rfl kt) ?_
    refine Rch.of (T' := T314) (g' := (mkF m 36 #[.val (.long p1), .second, .val (.int (7 : Int32)), .val (.ref b309)] [(.int (2 : Int32)), (.ref b309)])) (fun _ kt => XS.iconst X314.here hx rfl (hb hby d_method_4_code_35) kt) ?_
    refine Rch.of (T' := T314) (g' := (mkF m 37 #[.val (.long p1), .second, .val (.int (7 : Int32)), .val (.ref b309)] [(.long p1), (.int (2 : Int32)), (.ref b309)])) (fun _ kt => XS.lloadN X314.here hx rfl (hb hby d_method_4_code_36) rfl  kt) ?_
    refine Rch.of (T' := T314) (g' := (mkF m 38 #[.val (.long p1), .second, .val (.int (7 : Int32)), .val (.ref b309)] [(.int (2 : Int32)), (.long p1), (.int (2 : Int32)), (.ref b309)])) (fun _ kt => XS.iconst X314.here hx rfl (hb hby d_method_4_code_37) kt) ?_
    obtain ⟨_, _, ⟨T317, L317, k317, n317⟩, -, X317, ⟨Lc317, hQ317, l317, y317, z317⟩, st317⟩ := Jvm.LawKit.callS X314 hx (y := (⟨"com/example/isidore/isidore/SeverityLabelledPinLaw", "at", "(JI)C"⟩ : MethodName)) hown (mvT hZ (hw _ (List.mem_of_getElem? (i := 5) rfl))) (mvT hZ (hw _ (List.mem_of_getElem? (i := 6) rfl))) (mvT hZ (hw _ (List.mem_of_getElem? (i := 2) rfl))) (mvT hZ (hw _ (List.mem_of_getElem? (i := 7) rfl))) (by decide) (backOf (W := 2) (rk1 l Z a0 hw [] p1 (2 : Int32) h314 n0 (Nat.le_trans (Nat.le_trans (Nat.le_trans Z0 E309.1) (Keep.of_wr W311).1) (Keep.of_wr W314).1) ) hZ (hw _ (List.mem_of_getElem? (i := 7) rfl)) (hw _ (List.mem_of_getElem? (i := 2) rfl)) (by decide) (by decide)) (g := (mkF m 38 #[.val (.long p1), .second, .val (.int (7 : Int32)), .val (.ref b309)] [(.int (2 : Int32)), (.long p1), (.int (2 : Int32)), (.ref b309)])) rfl (by rw [hml]; rfl) (argsL := [(.long p1), (.int (2 : Int32))]) (rest := [(.int (2 : Int32)), (.ref b309)]) (lenOf pd_1 rfl) rfl (by show 2 * 0 + _ ≤ _; exact Nat.le_of_eq rfl) (hb hby d_method_4_code_38) (fun _ _ => ⟨rfl, e314, (by decide : 1 + 0 ≤ _), (by decide : 7 + 0 ≤ _)⟩)
    dsimp only [Pt.U, Pt.locs, Pt.cells, Pt.slots] at X317 l317 y317 z317 st317 hQ317
    subst l317 y317 z317
    obtain ⟨rt317, rfl, N317q, hQ317⟩ := hQ317
    have N317 := Fr.app N314 N317q
    obtain ⟨hh317, c1317⟩ := hQ317
    refine Rch.of (T' := T317) (g' := (mkF m 41 #[.val (.long p1), .second, .val (.int (7 : Int32)), .val (.ref b309)] [(.int rt317), (.int (2 : Int32)), (.ref b309)])) st317 ?_
    obtain ⟨cl318, Ar318, Sz318, Ha318⟩ := id V314
    obtain ⟨T318, h318, X318, e318, W318, st318⟩ := stC X317 hx hZ hh317 Ar318 (j := (2 : Int32)) (oIn (i := 2) Sz318 (by decide) (by decide)) (g := (mkF m 41 #[.val (.long p1), .second, .val (.int (7 : Int32)), .val (.ref b309)] [(.int rt317), (.int (2 : Int32)), (.ref b309)])) rfl rfl (hb hby d_method_4_code_41)
    have V318 := Av.setI (i := 2) V314 (by decide) (by decide) W318
    obtain ⟨y318, hy318⟩ : ∃ zz_ : Nat → Int32, zz_ = fun q => if q = 2 then rt317.toUInt32.toUInt16.toUInt32.toInt32 else y314 q := ⟨_, rfl⟩
    have V318 : Av Z h318 b309 .char 7 (fun q => .int (y318 q)) := by rw [hy318]; exact V318
    have N318 := Fr.snoc X318 N317 ge_b309
    have Sf319 : Safe Z consts_1 s.vm h314 b309 := (Safe.exa hZ.alike ((Q309.wr W311).wr W314) (by decide) (by decide))
    refine Rch.of (T' := T318) (g' := (mkF m 42 #[.val (.long p1), .second, .val (.int (7 : Int32)), .val (.ref b309)] [])) st318 ?_
    refine Rch.of (T' := T318) (g' := (mkF m 43 #[.val (.long p1), .second, .val (.int (7 : Int32)), .val (.ref b309)] [(.int (7 : Int32))])) (fun _ kt => XS.iloadN X318.here hx rfl (hb hby d_method_4_code_42) rfl  kt) ?_
    refine Rch.of (T' := T318) (g' := (mkF m 44 #[.val (.long p1), .second, .val (.int (7 : Int32)), .val (.ref b309)] [(.int (3 : Int32)), (.int (7 : Int32))])) (fun _ kt => XS.iconst X318.here hx rfl (hb hby d_method_4_code_43) kt) ?_
    refine Rch.of (T' := T318) (g' := (mkF m 47 #[.val (.long p1), .second, .val (.int (7 : Int32)), .val (.ref b309)] [])) (fun _ kt => XS.icmpNo X318.here hx rfl (hb hby d_method_4_code_44) rfl (tlt ((by decide) : (3 : Int32) < (7 : Int32))).2.2.2 kt) ?_
    refine Rch.of (T' := T318) (g' := (mkF m 48 #[.val (.long p1), .second, .val (.int (7 : Int32)), .val (.ref b309)] [(.ref b309)])) (fun _ kt => XS.aloadN X318.here hx rfl (hb hby d_method_4_code_47) rfl rfl kt) ?_
    refine Rch.of (T' := T318) (g' := (mkF m 49 #[.val (.long p1), .second, .val (.int (7 : Int32)), .val (.ref b309)] [(.int (3 : Int32)), (.ref b309)])) (fun _ kt => XS.iconst X318.here hx rfl (hb hby d_method_4_code_48) kt) ?_
    refine Rch.of (T' := T318) (g' := (mkF m 50 #[.val (.long p1), .second, .val (.int (7 : Int32)), .val (.ref b309)] [(.long p1), (.int (3 : Int32)), (.ref b309)])) (fun _ kt => XS.lloadN X318.here hx rfl (hb hby d_method_4_code_49) rfl  kt) ?_
    refine Rch.of (T' := T318) (g' := (mkF m 51 #[.val (.long p1), .second, .val (.int (7 : Int32)), .val (.ref b309)] [(.int (3 : Int32)), (.long p1), (.int (3 : Int32)), (.ref b309)])) (fun _ kt => XS.iconst X318.here hx rfl (hb hby d_method_4_code_50) kt) ?_
    obtain ⟨_, _, ⟨T320, L320, k320, n320⟩, -, X320, ⟨Lc320, hQ320, l320, y320, z320⟩, st320⟩ := Jvm.LawKit.callS X318 hx (y := (⟨"com/example/isidore/isidore/SeverityLabelledPinLaw", "at", "(JI)C"⟩ : MethodName)) hown (mvT hZ (hw _ (List.mem_of_getElem? (i := 5) rfl))) (mvT hZ (hw _ (List.mem_of_getElem? (i := 6) rfl))) (mvT hZ (hw _ (List.mem_of_getElem? (i := 2) rfl))) (mvT hZ (hw _ (List.mem_of_getElem? (i := 7) rfl))) (by decide) (backOf (W := 2) (rk1 l Z a0 hw [] p1 (3 : Int32) h318 n0 (Nat.le_trans (Nat.le_trans (Nat.le_trans (Nat.le_trans Z0 E309.1) (Keep.of_wr W311).1) (Keep.of_wr W314).1) (Keep.of_wr W318).1) ) hZ (hw _ (List.mem_of_getElem? (i := 7) rfl)) (hw _ (List.mem_of_getElem? (i := 2) rfl)) (by decide) (by decide)) (g := (mkF m 51 #[.val (.long p1), .second, .val (.int (7 : Int32)), .val (.ref b309)] [(.int (3 : Int32)), (.long p1), (.int (3 : Int32)), (.ref b309)])) rfl (by rw [hml]; rfl) (argsL := [(.long p1), (.int (3 : Int32))]) (rest := [(.int (3 : Int32)), (.ref b309)]) (lenOf pd_1 rfl) rfl (by show 2 * 0 + _ ≤ _; exact Nat.le_of_eq rfl) (hb hby d_method_4_code_51) (fun _ _ => ⟨rfl, e318, (by decide : 1 + 0 ≤ _), (by decide : 7 + 0 ≤ _)⟩)
    dsimp only [Pt.U, Pt.locs, Pt.cells, Pt.slots] at X320 l320 y320 z320 st320 hQ320
    subst l320 y320 z320
    obtain ⟨rt320, rfl, N320q, hQ320⟩ := hQ320
    have N320 := Fr.app N318 N320q
    obtain ⟨hh320, c1320⟩ := hQ320
    refine Rch.of (T' := T320) (g' := (mkF m 54 #[.val (.long p1), .second, .val (.int (7 : Int32)), .val (.ref b309)] [(.int rt320), (.int (3 : Int32)), (.ref b309)])) st320 ?_
    obtain ⟨cl321, Ar321, Sz321, Ha321⟩ := id V318
    obtain ⟨T321, h321, X321, e321, W321, st321⟩ := stC X320 hx hZ hh320 Ar321 (j := (3 : Int32)) (oIn (i := 3) Sz321 (by decide) (by decide)) (g := (mkF m 54 #[.val (.long p1), .second, .val (.int (7 : Int32)), .val (.ref b309)] [(.int rt320), (.int (3 : Int32)), (.ref b309)])) rfl rfl (hb hby d_method_4_code_54)
    have V321 := Av.setI (i := 3) V318 (by decide) (by decide) W321
    obtain ⟨y321, hy321⟩ : ∃ zz_ : Nat → Int32, zz_ = fun q => if q = 3 then rt320.toUInt32.toUInt16.toUInt32.toInt32 else y318 q := ⟨_, rfl⟩
    have V321 : Av Z h321 b309 .char 7 (fun q => .int (y321 q)) := by rw [hy321]; exact V321
    have N321 := Fr.snoc X321 N320 ge_b309
    have Sf322 : Safe Z consts_1 s.vm h318 b309 := (Safe.exa hZ.alike (((Q309.wr W311).wr W314).wr W318) (by decide) (by decide))
    have Fb323 := (Nat.le_trans (Nat.le_trans (Nat.le_trans (Nat.le_trans (Nat.le_trans hk0 E309.1) (Keep.of_wr W311).1) (Keep.of_wr W314).1) (Keep.of_wr W318).1) (Keep.of_wr W321).1)
    have Fb324 := (Nat.le_trans (Nat.le_trans (Nat.le_trans (Nat.le_trans (Nat.le_trans Z0 E309.1) (Keep.of_wr W311).1) (Keep.of_wr W314).1) (Keep.of_wr W318).1) (Keep.of_wr W321).1)
    refine Rch.of (T' := T321) (g' := (mkF m 55 #[.val (.long p1), .second, .val (.int (7 : Int32)), .val (.ref b309)] [])) st321 ?_
    refine Rch.of (T' := T321) (g' := (mkF m 56 #[.val (.long p1), .second, .val (.int (7 : Int32)), .val (.ref b309)] [(.int (7 : Int32))])) (fun _ kt => XS.iloadN X321.here hx rfl (hb hby d_method_4_code_55) rfl  kt) ?_
    refine Rch.of (T' := T321) (g' := (mkF m 57 #[.val (.long p1), .second, .val (.int (7 : Int32)), .val (.ref b309)] [(.int (4 : Int32)), (.int (7 : Int32))])) (fun _ kt => XS.iconst X321.here hx rfl (hb hby d_method_4_code_56) kt) ?_
    refine Rch.of (T' := T321) (g' := (mkF m 60 #[.val (.long p1), .second, .val (.int (7 : Int32)), .val (.ref b309)] [])) (fun _ kt => XS.icmpNo X321.here hx rfl (hb hby d_method_4_code_57) rfl (tlt ((by decide) : (4 : Int32) < (7 : Int32))).2.2.2 kt) ?_
    refine Rch.of (T' := T321) (g' := (mkF m 61 #[.val (.long p1), .second, .val (.int (7 : Int32)), .val (.ref b309)] [(.ref b309)])) (fun _ kt => XS.aloadN X321.here hx rfl (hb hby d_method_4_code_60) rfl rfl kt) ?_
    refine Rch.of (T' := T321) (g' := (mkF m 62 #[.val (.long p1), .second, .val (.int (7 : Int32)), .val (.ref b309)] [(.int (4 : Int32)), (.ref b309)])) (fun _ kt => XS.iconst X321.here hx rfl (hb hby d_method_4_code_61) kt) ?_
    refine Rch.of (T' := T321) (g' := (mkF m 63 #[.val (.long p1), .second, .val (.int (7 : Int32)), .val (.ref b309)] [(.long p1), (.int (4 : Int32)), (.ref b309)])) (fun _ kt => XS.lloadN X321.here hx rfl (hb hby d_method_4_code_62) rfl  kt) ?_
    refine Rch.of (T' := T321) (g' := (mkF m 64 #[.val (.long p1), .second, .val (.int (7 : Int32)), .val (.ref b309)] [(.int (4 : Int32)), (.long p1), (.int (4 : Int32)), (.ref b309)])) (fun _ kt => XS.iconst X321.here hx rfl (hb hby d_method_4_code_63) kt) ?_
    obtain ⟨_, _, ⟨T325, L325, k325, n325⟩, -, X325, ⟨Lc325, hQ325, l325, y325, z325⟩, st325⟩ := Jvm.LawKit.callS X321 hx (y := (⟨"com/example/isidore/isidore/SeverityLabelledPinLaw", "at", "(JI)C"⟩ : MethodName)) hown (mvT hZ (hw _ (List.mem_of_getElem? (i := 5) rfl))) (mvT hZ (hw _ (List.mem_of_getElem? (i := 6) rfl))) (mvT hZ (hw _ (List.mem_of_getElem? (i := 2) rfl))) (mvT hZ (hw _ (List.mem_of_getElem? (i := 7) rfl))) (by decide) (backOf (W := 2) (rk1 l Z a0 hw [] p1 (4 : Int32) h321 n0 Fb324 ) hZ (hw _ (List.mem_of_getElem? (i := 7) rfl)) (hw _ (List.mem_of_getElem? (i := 2) rfl)) (by decide) (by decide)) (g := (mkF m 64 #[.val (.long p1), .second, .val (.int (7 : Int32)), .val (.ref b309)] [(.int (4 : Int32)), (.long p1), (.int (4 : Int32)), (.ref b309)])) rfl (by rw [hml]; rfl) (argsL := [(.long p1), (.int (4 : Int32))]) (rest := [(.int (4 : Int32)), (.ref b309)]) (lenOf pd_1 rfl) rfl (by show 2 * 0 + _ ≤ _; exact Nat.le_of_eq rfl) (hb hby d_method_4_code_64) (fun _ _ => ⟨rfl, e321, (by decide : 1 + 0 ≤ _), (by decide : 7 + 0 ≤ _)⟩)
    dsimp only [Pt.U, Pt.locs, Pt.cells, Pt.slots] at X325 l325 y325 z325 st325 hQ325
    subst l325 y325 z325
    obtain ⟨rt325, rfl, N325q, hQ325⟩ := hQ325
    have N325 := Fr.app N321 N325q
    obtain ⟨hh325, c1325⟩ := hQ325
    refine Rch.of (T' := T325) (g' := (mkF m 67 #[.val (.long p1), .second, .val (.int (7 : Int32)), .val (.ref b309)] [(.int rt325), (.int (4 : Int32)), (.ref b309)])) st325 ?_
    obtain ⟨cl326, Ar326, Sz326, Ha326⟩ := id V321
    obtain ⟨T326, h326, X326, e326, W326, st326⟩ := stC X325 hx hZ hh325 Ar326 (j := (4 : Int32)) (oIn (i := 4) Sz326 (by decide) (by decide)) (g := (mkF m 67 #[.val (.long p1), .second, .val (.int (7 : Int32)), .val (.ref b309)] [(.int rt325), (.int (4 : Int32)), (.ref b309)])) rfl rfl (hb hby d_method_4_code_67)
    have V326 := Av.setI (i := 4) V321 (by decide) (by decide) W326
    obtain ⟨y326, hy326⟩ : ∃ zz_ : Nat → Int32, zz_ = fun q => if q = 4 then rt325.toUInt32.toUInt16.toUInt32.toInt32 else y321 q := ⟨_, rfl⟩
    have V326 : Av Z h326 b309 .char 7 (fun q => .int (y326 q)) := by rw [hy326]; exact V326
    have N326 := Fr.snoc X326 N325 ge_b309
    have Sf327 : Safe Z consts_1 s.vm h321 b309 := (Safe.exa hZ.alike ((((Q309.wr W311).wr W314).wr W318).wr W321) (by decide) (by decide))
    have Rb328 := (((Rb316.trans (CHr.wr W318 Sf319 Rb316.1)).trans (CHr.wr W321 Sf322 (Rb316.trans (CHr.wr W318 Sf319 Rb316.1)).1)).trans (CHr.wr W326 Sf327 ((Rb316.trans (CHr.wr W318 Sf319 Rb316.1)).trans (CHr.wr W321 Sf322 (Rb316.trans (CHr.wr W318 Sf319 Rb316.1)).1)).1))
    have Fb329 := (((((((Keep.refl h0 []).ext E309).wr W311 (Or.inr sz_b309)).wr W314 (Or.inr sz_b309)).wr W318 (Or.inr sz_b309)).wr W321 (Or.inr sz_b309)).wr W326 (Or.inr sz_b309))
    refine Rch.of (T' := T326) (g' := (mkF m 68 #[.val (.long p1), .second, .val (.int (7 : Int32)), .val (.ref b309)] [])) st326 ?_
    refine Rch.of (T' := T326) (g' := (mkF m 69 #[.val (.long p1), .second, .val (.int (7 : Int32)), .val (.ref b309)] [(.int (7 : Int32))])) (fun _ kt => XS.iloadN X326.here hx rfl (hb hby d_method_4_code_68) rfl  kt) ?_
    refine Rch.of (T' := T326) (g' := (mkF m 70 #[.val (.long p1), .second, .val (.int (7 : Int32)), .val (.ref b309)] [(.int (5 : Int32)), (.int (7 : Int32))])) (fun _ kt => XS.iconst X326.here hx rfl (hb hby d_method_4_code_69) kt) ?_
    refine Rch.of (T' := T326) (g' := (mkF m 73 #[.val (.long p1), .second, .val (.int (7 : Int32)), .val (.ref b309)] [])) (fun _ kt => XS.icmpNo X326.here hx rfl (hb hby d_method_4_code_70) rfl (tlt ((by decide) : (5 : Int32) < (7 : Int32))).2.2.2 kt) ?_
    refine Rch.of (T' := T326) (g' := (mkF m 74 #[.val (.long p1), .second, .val (.int (7 : Int32)), .val (.ref b309)] [(.ref b309)])) (fun _ kt => XS.aloadN X326.here hx rfl (hb hby d_method_4_code_73) rfl rfl kt) ?_
    refine Rch.of (T' := T326) (g' := (mkF m 75 #[.val (.long p1), .second, .val (.int (7 : Int32)), .val (.ref b309)] [(.int (5 : Int32)), (.ref b309)])) (fun _ kt => XS.iconst X326.here hx rfl (hb hby d_method_4_code_74) kt) ?_
    refine Rch.of (T' := T326) (g' := (mkF m 76 #[.val (.long p1), .second, .val (.int (7 : Int32)), .val (.ref b309)] [(.long p1), (.int (5 : Int32)), (.ref b309)])) (fun _ kt => XS.lloadN X326.here hx rfl (hb hby d_method_4_code_75) rfl  kt) ?_
    refine Rch.of (T' := T326) (g' := (mkF m 77 #[.val (.long p1), .second, .val (.int (7 : Int32)), .val (.ref b309)] [(.int (5 : Int32)), (.long p1), (.int (5 : Int32)), (.ref b309)])) (fun _ kt => XS.iconst X326.here hx rfl (hb hby d_method_4_code_76) kt) ?_
    obtain ⟨_, _, ⟨T330, L330, k330, n330⟩, -, X330, ⟨Lc330, hQ330, l330, y330, z330⟩, st330⟩ := Jvm.LawKit.callS X326 hx (y := (⟨"com/example/isidore/isidore/SeverityLabelledPinLaw", "at", "(JI)C"⟩ : MethodName)) hown (mvT hZ (hw _ (List.mem_of_getElem? (i := 5) rfl))) (mvT hZ (hw _ (List.mem_of_getElem? (i := 6) rfl))) (mvT hZ (hw _ (List.mem_of_getElem? (i := 2) rfl))) (mvT hZ (hw _ (List.mem_of_getElem? (i := 7) rfl))) (by decide) (backOf (W := 2) (rk1 l Z a0 hw [] p1 (5 : Int32) h326 n0 (Nat.le_trans Fb324 (Keep.of_wr W326).1) ) hZ (hw _ (List.mem_of_getElem? (i := 7) rfl)) (hw _ (List.mem_of_getElem? (i := 2) rfl)) (by decide) (by decide)) (g := (mkF m 77 #[.val (.long p1), .second, .val (.int (7 : Int32)), .val (.ref b309)] [(.int (5 : Int32)), (.long p1), (.int (5 : Int32)), (.ref b309)])) rfl (by rw [hml]; rfl) (argsL := [(.long p1), (.int (5 : Int32))]) (rest := [(.int (5 : Int32)), (.ref b309)]) (lenOf pd_1 rfl) rfl (by show 2 * 0 + _ ≤ _; exact Nat.le_of_eq rfl) (hb hby d_method_4_code_77) (fun _ _ => ⟨rfl, e326, (by decide : 1 + 0 ≤ _), (by decide : 7 + 0 ≤ _)⟩)
    dsimp only [Pt.U, Pt.locs, Pt.cells, Pt.slots] at X330 l330 y330 z330 st330 hQ330
    subst l330 y330 z330
    obtain ⟨rt330, rfl, N330q, hQ330⟩ := hQ330
    have N330 := Fr.app N326 N330q
    obtain ⟨hh330, c1330⟩ := hQ330
    refine Rch.of (T' := T330) (g' := (mkF m 80 #[.val (.long p1), .second, .val (.int (7 : Int32)), .val (.ref b309)] [(.int rt330), (.int (5 : Int32)), (.ref b309)])) st330 ?_
    obtain ⟨cl331, Ar331, Sz331, Ha331⟩ := id V326
    obtain ⟨T331, h331, X331, e331, W331, st331⟩ := stC X330 hx hZ hh330 Ar331 (j := (5 : Int32)) (oIn (i := 5) Sz331 (by decide) (by decide)) (g := (mkF m 80 #[.val (.long p1), .second, .val (.int (7 : Int32)), .val (.ref b309)] [(.int rt330), (.int (5 : Int32)), (.ref b309)])) rfl rfl (hb hby d_method_4_code_80)
    have V331 := Av.setI (i := 5) V326 (by decide) (by decide) W331
    obtain ⟨y331, hy331⟩ : ∃ zz_ : Nat → Int32, zz_ = fun q => if q = 5 then rt330.toUInt32.toUInt16.toUInt32.toInt32 else y326 q := ⟨_, rfl⟩
    have V331 : Av Z h331 b309 .char 7 (fun q => .int (y331 q)) := by rw [hy331]; exact V331
    have N331 := Fr.snoc X331 N330 ge_b309
    have Sf332 : Safe Z consts_1 s.vm h326 b309 := (Safe.exa hZ.alike (((((Q309.wr W311).wr W314).wr W318).wr W321).wr W326) (by decide) (by decide))
    refine Rch.of (T' := T331) (g' := (mkF m 81 #[.val (.long p1), .second, .val (.int (7 : Int32)), .val (.ref b309)] [])) st331 ?_
    refine Rch.of (T' := T331) (g' := (mkF m 82 #[.val (.long p1), .second, .val (.int (7 : Int32)), .val (.ref b309)] [(.int (7 : Int32))])) (fun _ kt => XS.iloadN X331.here hx rfl (hb hby d_method_4_code_81) rfl  kt) ?_
    refine Rch.of (T' := T331) (g' := (mkF m 84 #[.val (.long p1), .second, .val (.int (7 : Int32)), .val (.ref b309)] [(.int (6 : Int32)), (.int (7 : Int32))])) (fun _ kt => XS.bipush X331.here hx rfl (hb hby d_method_4_code_82) kt) ?_
    refine Rch.of (T' := T331) (g' := (mkF m 87 #[.val (.long p1), .second, .val (.int (7 : Int32)), .val (.ref b309)] [])) (fun _ kt => XS.icmpNo X331.here hx rfl (hb hby d_method_4_code_84) rfl (tlt ((by decide) : (6 : Int32) < (7 : Int32))).2.2.2 kt) ?_
    refine Rch.of (T' := T331) (g' := (mkF m 88 #[.val (.long p1), .second, .val (.int (7 : Int32)), .val (.ref b309)] [(.ref b309)])) (fun _ kt => XS.aloadN X331.here hx rfl (hb hby d_method_4_code_87) rfl rfl kt) ?_
    refine Rch.of (T' := T331) (g' := (mkF m 90 #[.val (.long p1), .second, .val (.int (7 : Int32)), .val (.ref b309)] [(.int (6 : Int32)), (.ref b309)])) (fun _ kt => XS.bipush X331.here hx rfl (hb hby d_method_4_code_88) kt) ?_
    refine Rch.of (T' := T331) (g' := (mkF m 91 #[.val (.long p1), .second, .val (.int (7 : Int32)), .val (.ref b309)] [(.long p1), (.int (6 : Int32)), (.ref b309)])) (fun _ kt => XS.lloadN X331.here hx rfl (hb hby d_method_4_code_90) rfl  kt) ?_
    refine Rch.of (T' := T331) (g' := (mkF m 93 #[.val (.long p1), .second, .val (.int (7 : Int32)), .val (.ref b309)] [(.int (6 : Int32)), (.long p1), (.int (6 : Int32)), (.ref b309)])) (fun _ kt => XS.bipush X331.here hx rfl (hb hby d_method_4_code_91) kt) ?_
    obtain ⟨_, _, ⟨T333, L333, k333, n333⟩, -, X333, ⟨Lc333, hQ333, l333, y333, z333⟩, st333⟩ := Jvm.LawKit.callS X331 hx (y := (⟨"com/example/isidore/isidore/SeverityLabelledPinLaw", "at", "(JI)C"⟩ : MethodName)) hown (mvT hZ (hw _ (List.mem_of_getElem? (i := 5) rfl))) (mvT hZ (hw _ (List.mem_of_getElem? (i := 6) rfl))) (mvT hZ (hw _ (List.mem_of_getElem? (i := 2) rfl))) (mvT hZ (hw _ (List.mem_of_getElem? (i := 7) rfl))) (by decide) (backOf (W := 2) (rk1 l Z a0 hw [] p1 (6 : Int32) h331 n0 (Nat.le_trans (Nat.le_trans Fb324 (Keep.of_wr W326).1) (Keep.of_wr W331).1) ) hZ (hw _ (List.mem_of_getElem? (i := 7) rfl)) (hw _ (List.mem_of_getElem? (i := 2) rfl)) (by decide) (by decide)) (g := (mkF m 93 #[.val (.long p1), .second, .val (.int (7 : Int32)), .val (.ref b309)] [(.int (6 : Int32)), (.long p1), (.int (6 : Int32)), (.ref b309)])) rfl (by rw [hml]; rfl) (argsL := [(.long p1), (.int (6 : Int32))]) (rest := [(.int (6 : Int32)), (.ref b309)]) (lenOf pd_1 rfl) rfl (by show 2 * 0 + _ ≤ _; exact Nat.le_of_eq rfl) (hb hby d_method_4_code_93) (fun _ _ => ⟨rfl, e331, (by decide : 1 + 0 ≤ _), (by decide : 7 + 0 ≤ _)⟩)
    dsimp only [Pt.U, Pt.locs, Pt.cells, Pt.slots] at X333 l333 y333 z333 st333 hQ333
    subst l333 y333 z333
    obtain ⟨rt333, rfl, N333q, hQ333⟩ := hQ333
    have N333 := Fr.app N331 N333q
    obtain ⟨hh333, c1333⟩ := hQ333
    refine Rch.of (T' := T333) (g' := (mkF m 96 #[.val (.long p1), .second, .val (.int (7 : Int32)), .val (.ref b309)] [(.int rt333), (.int (6 : Int32)), (.ref b309)])) st333 ?_
    obtain ⟨cl334, Ar334, Sz334, Ha334⟩ := id V331
    obtain ⟨T334, h334, X334, e334, W334, st334⟩ := stC X333 hx hZ hh333 Ar334 (j := (6 : Int32)) (oIn (i := 6) Sz334 (by decide) (by decide)) (g := (mkF m 96 #[.val (.long p1), .second, .val (.int (7 : Int32)), .val (.ref b309)] [(.int rt333), (.int (6 : Int32)), (.ref b309)])) rfl rfl (hb hby d_method_4_code_96)
    have V334 := Av.setI (i := 6) V331 (by decide) (by decide) W334
    obtain ⟨y334, hy334⟩ : ∃ zz_ : Nat → Int32, zz_ = fun q => if q = 6 then rt333.toUInt32.toUInt16.toUInt32.toInt32 else y331 q := ⟨_, rfl⟩
    have V334 : Av Z h334 b309 .char 7 (fun q => .int (y334 q)) := by rw [hy334]; exact V334
    have N334 := Fr.snoc X334 N333 ge_b309
    have Sf335 : Safe Z consts_1 s.vm h331 b309 := (Safe.exa hZ.alike ((((((Q309.wr W311).wr W314).wr W318).wr W321).wr W326).wr W331) (by decide) (by decide))
    refine Rch.of (T' := T334) (g' := (mkF m 97 #[.val (.long p1), .second, .val (.int (7 : Int32)), .val (.ref b309)] [])) st334 ?_
    obtain ⟨T336, h336, X336, e336, E336, A336, D336, -, st336⟩ := newO X334 hx hZ hown (hw _ (List.mem_of_getElem? (i := 9) rfl)) (hw _ (List.mem_of_getElem? (i := 10) rfl)) (hw _ (List.mem_of_getElem? (i := 11) rfl)) e334 (g := (mkF m 97 #[.val (.long p1), .second, .val (.int (7 : Int32)), .val (.ref b309)] [])) rfl (hb hby d_method_4_code_97) (by decide) (by decide)
    obtain ⟨b336, g336⟩ : ∃ zz_, zz_ = h334.size := ⟨_, rfl⟩
    have ne_b309_b336 : b309 ≠ b336 := Nat.ne_of_lt (Nat.lt_of_lt_of_le (((((((Q309.wr W311).wr W314).wr W318).wr W321).wr W326).wr W331).wr W334).lt (Nat.le_of_eq g336.symm))
    have ge_b336 : n0 ≤ b336 := Nat.le_trans (Nat.le_trans (Nat.le_trans (Nat.le_trans Fb324 (Keep.of_wr W326).1) (Keep.of_wr W331).1) (Keep.of_wr W334).1) (Nat.le_of_eq g336.symm)
    have sz_b336 : h0.size ≤ b336 := Nat.le_trans ((Fb329.wr W331 (Or.inr sz_b309)).wr W334 (Or.inr sz_b309)).1 (Nat.le_of_eq g336.symm)
    rw [← g336] at A336 D336 st336
    have Rb337 := (((Rb328.trans (CHr.wr W331 Sf332 Rb328.1)).trans (CHr.wr W334 Sf335 (Rb328.trans (CHr.wr W331 Sf332 Rb328.1)).1)).trans (CHr.ext E336 ((Rb328.trans (CHr.wr W331 Sf332 Rb328.1)).trans (CHr.wr W334 Sf335 (Rb328.trans (CHr.wr W331 Sf332 Rb328.1)).1)).1))
    have F336_coder : Fld Z h336 b336 "java/lang/String" "coder" "B" (.int (0 : Int32)) := D336 (Or.inr (hw _ (List.mem_of_getElem? (i := 35) rfl))) (ty := .byte) (by decide)
    have F336_value : Fld Z h336 b336 "java/lang/String" "value" "[B" .null := D336 (Or.inr (hw _ (List.mem_of_getElem? (i := 37) rfl))) (ty := (.array .byte)) (by decide)
    refine Rch.of (T' := T336) (g' := (mkF m 100 #[.val (.long p1), .second, .val (.int (7 : Int32)), .val (.ref b309)] [(.ref b336)])) st336 ?_
    refine Rch.of (T' := T336) (g' := (mkF m 101 #[.val (.long p1), .second, .val (.int (7 : Int32)), .val (.ref b309)] [(.ref b336), (.ref b336)])) (fun _ kt => XS.dup X336.here hx rfl (hb hby d_method_4_code_100) rfl rfl kt) ?_
    refine Rch.of (T' := T336) (g' := (mkF m 102 #[.val (.long p1), .second, .val (.int (7 : Int32)), .val (.ref b309)] [(.ref b309), (.ref b336), (.ref b336)])) (fun _ kt => XS.aloadN X336.here hx rfl (hb hby d_method_4_code_101) rfl rfl kt) ?_
    have pr339 : 7 ≤ 7 := by omega
    have hch340 : own_ch 7 y334 := by
      intro q hq
      rw [hy334, hy331, hy326, hy321, hy318, hy314, hy311]
      rcases (show q = 0 ∨ q = 1 ∨ q = 2 ∨ q = 3 ∨ q = 4 ∨ q = 5 ∨ q = 6 by omega) with rfl | rfl | rfl | rfl | rfl | rfl | rfl
      · exact own_c1i c1310
      · exact own_c1i c1313
      · exact own_c1i c1317
      · exact own_c1i c1320
      · exact own_c1i c1325
      · exact own_c1i c1330
      · exact own_c1i c1333
    obtain ⟨_, _, ⟨T338, L338, k338, n338⟩, -, X338, hT338, gr338, ⟨Lc338, hQ338, l338, y338, z338, cr338⟩, st338⟩ := X336.specialBackS hx (y := (⟨"java/lang/String", "<init>", "([C)V"⟩ : MethodName)) rfl hown (mvT hZ (hw _ (List.mem_of_getElem? (i := 12) rfl))) (mvT hZ (hw _ (List.mem_of_getElem? (i := 13) rfl))) (mvT hZ (hw _ (List.mem_of_getElem? (i := 14) rfl))) (by decide) (backOfSH (s := s) (vm0 := s.vm) (EL := consts_1) (W := 1) (rqN1 l Z a0 hw [] b336 b309 7 y334 (.int (0 : Int32)) cs h336 n0 (Nat.le_trans (Nat.le_trans (Nat.le_trans (Nat.le_trans Fb324 (Keep.of_wr W326).1) (Keep.of_wr W331).1) (Keep.of_wr W334).1) E336.1) A336 F336_coder F336_value ge_b336 (V334.ext E336) (((((((((SC.ext E309).wr W311).wr W314).wr W318).wr W321).wr W326).wr W331).wr W334).ext E336) hcs pr339 hch340) hZ (hw _ (List.mem_of_getElem? (i := 14) rfl)) (hw _ (List.mem_of_getElem? (i := 11) rfl)) (by decide) (by decide) hEL Rb337.1) (g := (mkF m 102 #[.val (.long p1), .second, .val (.int (7 : Int32)), .val (.ref b309)] [(.ref b309), (.ref b336), (.ref b336)])) rfl (by rw [hml]; rfl) (Steps.refl _) (a := b336) (argsL := [(.ref b309)]) (rest := [(.ref b336)]) (lenOf pd_2 rfl) rfl (by show 2 * 0 + _ ≤ _; exact Nat.le_of_eq rfl) (hb hby d_method_4_code_102) (fun _ _ => ⟨rfl, e336, (by decide : 2 + 4 ≤ _), (by decide : 11 + 8 ≤ _)⟩)
    dsimp only [Pt.U, Pt.locs, Pt.cells, Pt.slots] at X338 hT338 gr338 l338 y338 z338 st338 hQ338 cr338
    subst l338 y338 z338
    obtain ⟨X338, hS338, hZ, hown⟩ := rebS hS0 (Nat.le_trans (Nat.le_trans (Nat.le_trans (Nat.le_trans Fb323 (Keep.of_wr W326).1) (Keep.of_wr W331).1) (Keep.of_wr W334).1) E336.1) X338 hT338 (by rw [← e336]; exact gr338) hZ hown
    obtain ⟨rb338, rfl, N338q, hQ338⟩ := hQ338
    have N338 := Fr.app N334 N338q
    obtain ⟨K338, Ex338, Fa338, Fb338, V338⟩ := hQ338
    refine Rch.via (T' := T338) (g' := (mkF m 105 #[.val (.long p1), .second, .val (.int (7 : Int32)), .val (.ref b309)] [(.ref b336)])) st338 ?_
    exact Rch.retA X338 hx (w := (.ref b336)) hret rfl rfl hlk (hb hby d_method_4_code_105) (fun U hU hF => hK _ U _ _ _ (by show Q_rk2 Z p1 k cs h0 n0 _ U.heap _; rw [hU]; exact ⟨b336, rb338, y334, 7, rfl, N338, ((((Fb329.wr W331 (Or.inr sz_b309)).wr W334 (Or.inr sz_b309)).ext E336).trans K338 (allS (Or.inr sz_b336) all0)), Ex338, Fa338, Fb338, V338, hch340, by decide⟩) (own_endH hZ hEL (Rb337.trans cr338) hU hF) (own_end hS338 (by rw [hU]; exact (Nat.le_refl _)) hF) (by decide) (by decide))
theorem ef_rkN5 (m : MethodId) (a1 : Addr) (p2 : Int32) (p3 : Int32) : entryFrame m #[(.ref a1), (.int (Int32.ofNat k)), (.int p2), (.int p3)] 7 = mkF m 0 #[.val (.ref a1), .val (.int (Int32.ofNat k)), .val (.int p2), .val (.int p3), .unset, .unset, .unset] [] := by first | (simp [entryFrame, mkF, argsToLocals, Value.category]; done) | rfl
def Q_rkN5 (Z : State) (a1 : Addr) (b1 : Addr) (y : Nat → Int32) (k : Nat) (p2 : Int32) (p3 : Int32) (cs : Int32) (sv : Value) (h0 : Heap) (n0 : Nat) (vv_ : Option Value) (h : Heap) (LL_ : List Loc) : Prop := ∃ r : Addr, ∃ b : Addr, ∃ t : Nat → Int32, ∃ nn : Nat, vv_ = some (.ref r) ∧ Fr n0 LL_ ∧ (Keep h0 h [] ∧ Exa Z h r "java/lang/String" ∧ Fld Z h r "java/lang/String" "coder" "B" (.int (0 : Int32)) ∧ Fld Z h r "java/lang/String" "value" "[B" (.ref b) ∧ Av Z h b .byte nn (fun q => .int ((t q).toInt8.toInt32)) ∧ own_ch nn t ∧ nn ≤ 7)
theorem d_method_5_code_0 : decode method_5_code 0 = .ok (.aload_n 0, 1) := by decide +kernel
theorem d_method_5_code_1 : decode method_5_code 1 = .ok (.invokevirtual 59, 3) := by decide +kernel
theorem d_method_5_code_4 : decode method_5_code 4 = .ok (.iload_n 1, 1) := by decide +kernel
theorem d_method_5_code_5 : decode method_5_code 5 = .ok (.isub, 1) := by decide +kernel
theorem d_method_5_code_6 : decode method_5_code 6 = .ok (.istore 4, 2) := by decide +kernel
theorem d_method_5_code_8 : decode method_5_code 8 = .ok (.iload 4, 2) := by decide +kernel
theorem d_method_5_code_10 : decode method_5_code 10 = .ok (.newarray .char, 2) := by decide +kernel
theorem d_method_5_code_12 : decode method_5_code 12 = .ok (.astore 5, 2) := by decide +kernel
theorem d_method_5_code_14 : decode method_5_code 14 = .ok (.iload 4, 2) := by decide +kernel
theorem d_method_5_code_16 : decode method_5_code 16 = .ok (.ifCond .le 12, 3) := by decide +kernel
theorem d_method_5_code_19 : decode method_5_code 19 = .ok (.aload 5, 2) := by decide +kernel
theorem d_method_5_code_21 : decode method_5_code 21 = .ok (.iconst 0, 1) := by decide +kernel
theorem d_method_5_code_22 : decode method_5_code 22 = .ok (.aload_n 0, 1) := by decide +kernel
theorem d_method_5_code_23 : decode method_5_code 23 = .ok (.iconst 0, 1) := by decide +kernel
theorem d_method_5_code_24 : decode method_5_code 24 = .ok (.invokevirtual 63, 3) := by decide +kernel
theorem d_method_5_code_27 : decode method_5_code 27 = .ok (.castore, 1) := by decide +kernel
theorem d_method_5_code_28 : decode method_5_code 28 = .ok (.iload 4, 2) := by decide +kernel
theorem d_method_5_code_30 : decode method_5_code 30 = .ok (.iconst 1, 1) := by decide +kernel
theorem d_method_5_code_31 : decode method_5_code 31 = .ok (.if_icmp .le 12, 3) := by decide +kernel
theorem d_method_5_code_34 : decode method_5_code 34 = .ok (.aload 5, 2) := by decide +kernel
theorem d_method_5_code_36 : decode method_5_code 36 = .ok (.iconst 1, 1) := by decide +kernel
theorem d_method_5_code_37 : decode method_5_code 37 = .ok (.aload_n 0, 1) := by decide +kernel
theorem d_method_5_code_38 : decode method_5_code 38 = .ok (.iconst 1, 1) := by decide +kernel
theorem d_method_5_code_39 : decode method_5_code 39 = .ok (.invokevirtual 63, 3) := by decide +kernel
theorem d_method_5_code_42 : decode method_5_code 42 = .ok (.castore, 1) := by decide +kernel
theorem d_method_5_code_43 : decode method_5_code 43 = .ok (.iload 4, 2) := by decide +kernel
theorem d_method_5_code_45 : decode method_5_code 45 = .ok (.iconst 2, 1) := by decide +kernel
theorem d_method_5_code_46 : decode method_5_code 46 = .ok (.if_icmp .le 12, 3) := by decide +kernel
theorem d_method_5_code_49 : decode method_5_code 49 = .ok (.aload 5, 2) := by decide +kernel
theorem d_method_5_code_51 : decode method_5_code 51 = .ok (.iconst 2, 1) := by decide +kernel
theorem d_method_5_code_52 : decode method_5_code 52 = .ok (.aload_n 0, 1) := by decide +kernel
theorem d_method_5_code_53 : decode method_5_code 53 = .ok (.iconst 2, 1) := by decide +kernel
theorem d_method_5_code_54 : decode method_5_code 54 = .ok (.invokevirtual 63, 3) := by decide +kernel
theorem d_method_5_code_57 : decode method_5_code 57 = .ok (.castore, 1) := by decide +kernel
theorem d_method_5_code_58 : decode method_5_code 58 = .ok (.iload 4, 2) := by decide +kernel
theorem d_method_5_code_60 : decode method_5_code 60 = .ok (.iconst 3, 1) := by decide +kernel
theorem d_method_5_code_61 : decode method_5_code 61 = .ok (.if_icmp .le 12, 3) := by decide +kernel
theorem d_method_5_code_64 : decode method_5_code 64 = .ok (.aload 5, 2) := by decide +kernel
theorem d_method_5_code_66 : decode method_5_code 66 = .ok (.iconst 3, 1) := by decide +kernel
theorem d_method_5_code_67 : decode method_5_code 67 = .ok (.aload_n 0, 1) := by decide +kernel
theorem d_method_5_code_68 : decode method_5_code 68 = .ok (.iconst 3, 1) := by decide +kernel
theorem d_method_5_code_69 : decode method_5_code 69 = .ok (.invokevirtual 63, 3) := by decide +kernel
theorem d_method_5_code_72 : decode method_5_code 72 = .ok (.castore, 1) := by decide +kernel
theorem d_method_5_code_73 : decode method_5_code 73 = .ok (.iload 4, 2) := by decide +kernel
theorem d_method_5_code_75 : decode method_5_code 75 = .ok (.iconst 4, 1) := by decide +kernel
theorem d_method_5_code_76 : decode method_5_code 76 = .ok (.if_icmp .le 12, 3) := by decide +kernel
theorem d_method_5_code_79 : decode method_5_code 79 = .ok (.aload 5, 2) := by decide +kernel
theorem d_method_5_code_81 : decode method_5_code 81 = .ok (.iconst 4, 1) := by decide +kernel
theorem d_method_5_code_82 : decode method_5_code 82 = .ok (.aload_n 0, 1) := by decide +kernel
theorem d_method_5_code_83 : decode method_5_code 83 = .ok (.iconst 4, 1) := by decide +kernel
theorem d_method_5_code_84 : decode method_5_code 84 = .ok (.invokevirtual 63, 3) := by decide +kernel
theorem d_method_5_code_87 : decode method_5_code 87 = .ok (.castore, 1) := by decide +kernel
theorem d_method_5_code_88 : decode method_5_code 88 = .ok (.iload 4, 2) := by decide +kernel
theorem d_method_5_code_90 : decode method_5_code 90 = .ok (.iconst 5, 1) := by decide +kernel
theorem d_method_5_code_91 : decode method_5_code 91 = .ok (.if_icmp .le 12, 3) := by decide +kernel
theorem d_method_5_code_103 : decode method_5_code 103 = .ok (.iload 4, 2) := by decide +kernel
theorem d_method_5_code_105 : decode method_5_code 105 = .ok (.bipush 6, 2) := by decide +kernel
theorem d_method_5_code_107 : decode method_5_code 107 = .ok (.if_icmp .le 14, 3) := by decide +kernel
theorem d_method_5_code_121 : decode method_5_code 121 = .ok (.iload_n 2, 1) := by decide +kernel
theorem d_method_5_code_122 : decode method_5_code 122 = .ok (.ldc 67, 2) := by decide +kernel
theorem d_method_5_code_124 : decode method_5_code 124 = .ok (.iand, 1) := by decide +kernel
theorem d_method_5_code_125 : decode method_5_code 125 = .ok (.iload 4, 2) := by decide +kernel
theorem d_method_5_code_127 : decode method_5_code 127 = .ok (.irem, 1) := by decide +kernel
theorem d_method_5_code_128 : decode method_5_code 128 = .ok (.istore 6, 2) := by decide +kernel
theorem d_method_5_code_130 : decode method_5_code 130 = .ok (.aload 5, 2) := by decide +kernel
theorem d_method_5_code_132 : decode method_5_code 132 = .ok (.iload 6, 2) := by decide +kernel
theorem d_method_5_code_134 : decode method_5_code 134 = .ok (.aload 5, 2) := by decide +kernel
theorem d_method_5_code_136 : decode method_5_code 136 = .ok (.iload 6, 2) := by decide +kernel
theorem d_method_5_code_138 : decode method_5_code 138 = .ok (.caload, 1) := by decide +kernel
theorem d_method_5_code_139 : decode method_5_code 139 = .ok (.iload_n 3, 1) := by decide +kernel
theorem d_method_5_code_140 : decode method_5_code 140 = .ok (.ixor, 1) := by decide +kernel
theorem d_method_5_code_141 : decode method_5_code 141 = .ok (.i2c, 1) := by decide +kernel
theorem d_method_5_code_142 : decode method_5_code 142 = .ok (.castore, 1) := by decide +kernel
theorem d_method_5_code_143 : decode method_5_code 143 = .ok (.new 28, 3) := by decide +kernel
theorem d_method_5_code_146 : decode method_5_code 146 = .ok (.dup, 1) := by decide +kernel
theorem d_method_5_code_147 : decode method_5_code 147 = .ok (.aload 5, 2) := by decide +kernel
theorem d_method_5_code_149 : decode method_5_code 149 = .ok (.invokespecial 56, 3) := by decide +kernel
theorem d_method_5_code_152 : decode method_5_code 152 = .ok (.areturn, 1) := by decide +kernel
set_option maxRecDepth 65536 in
set_option maxHeartbeats 40000000 in
theorem rkN5 (l : Launch) (Z : State) (a0 : Array Value) (hw : ∀ d ∈ tables_1, d.before a0 Z = true) (ws : List Jvm.Cond) (a1 : Addr) (b1 : Addr) (y : Nat → Int32) (k : Nat) (p2 : Int32) (p3 : Int32) (cs : Int32) (sv : Value) (h0 : Heap) (n0 : Nat) (Z0 : n0 ≤ h0.size) (E1 : Exa Z h0 a1 "java/lang/String") (F1 : Fld Z h0 a1 "java/lang/String" "coder" "B" (.int (0 : Int32))) (F2 : Fld Z h0 a1 "java/lang/String" "value" "[B" (.ref b1)) (V1 : Av Z h0 b1 .byte 5 (fun q => .int ((y q).toInt8.toInt32))) (hy : own_ch 5 y) (hk : k ≤ 1) (hp3 : own_c1 p3) (SC : Sta Z h0 "java/lang/String" "COMPACT_STRINGS" "Z" (.int cs)) (hcs : ¬ cs = (0 : Int32)) (SI : Sta Z h0 "jdk/internal/util/Preconditions" "SIOOBE_FORMATTER" "Ljava/util/function/BiFunction;" sv) (hsv : sv.isRef = true) :
    MetFree l (⟨"com/example/isidore/isidore/SeverityLabelledPinLaw", "near", "(Ljava/lang/String;III)Ljava/lang/String;"⟩ : MethodName) (head1 (Jvm.Cond.code (⟨"com/example/isidore/isidore/SeverityLabelledPinLaw", "near", "(Ljava/lang/String;III)Ljava/lang/String;"⟩ : MethodName) method_5_code 7 (some (.object "java/lang/String")) :: ws) ({ frames := 4, cells := 6, slots := 17, locals := 66 } : Room)) (fun aa_ UU_ => aa_ = #[(.ref a1), (.int (Int32.ofNat k)), (.int p2), (.int p3)] ∧ Z.Warmed39 UU_.vm ∧ UU_.heap = h0 ∧ CHv Z consts_1 UU_.vm h0) (fun _ _ _ _ _ => True) (fun _ UU_ oo_ VV_ => ∃ vv_ LL_, oo_ = .returned vv_ ∧ Q_rkN5 Z a1 b1 y k p2 p3 cs sv h0 n0 vv_ VV_.heap LL_ ∧ CHr Z consts_1 UU_.vm UU_.heap VV_.vm VV_.heap ∧ ReturnedEndW UU_ oo_ VV_ LL_ ({ frames := 4, cells := 6, slots := 17, locals := 66 } : Room).cells ({ frames := 4, cells := 6, slots := 17, locals := 66 } : Room).slots) := by
  refine own_metH (y := (⟨"com/example/isidore/isidore/SeverityLabelledPinLaw", "near", "(Ljava/lang/String;III)Ljava/lang/String;"⟩ : MethodName)) (plainFor_of_name pn_4) ?_
  intro p e s m below meth c T0 K hx hby hml hret hlk hown hnm hZ X0 e0 C0 hK
  have N0 := Fr.nil n0
  have R0 := CHr.refl C0
  have hEL := own_EW hw
  have hS0 : s.Since s.vm 0 := (State.WarmedH.refl s).since 0
  have hk0 : 0 ≤ h0.size := Nat.zero_le _
  have wS : ∀ d ∈ Bundle.stringAtoms, d.before a0 Z = true := fun d hd => hw d ((by decide +kernel : ∀ d ∈ Bundle.stringAtoms, d ∈ tables_1) d hd)
  change Stand p l e ({ frames := 4, cells := 6, slots := 17, locals := 66 } : Room) (s.setVm s.vm) m #[(.ref a1), (.int (Int32.ofNat k)), (.int p2), (.int p3)] below meth c T0 [] 0 0 at X0
  change Z.Warmed39 (s.setVm s.vm).vm at hZ
  change (s.setVm s.vm).vm.findClass _ = some m.cls at hown
  refine Rch.cast (ef_rkN5 m a1 p2 p3) ?_
  rcases (show k = 0 ∨ k = 1 by omega) with ek | ek
  · skip
    refine Rch.of (T' := T0) (g' := (mkF m 1 #[.val (.ref a1), .val (.int (Int32.ofNat k)), .val (.int p2), .val (.int p3), .unset, .unset, .unset] [(.ref a1)])) (fun _ kt => XS.aloadN X0.here hx rfl (hb hby d_method_5_code_0) rfl rfl kt) ?_
    obtain ⟨cq341, kq341, q341a, q341b, q341c⟩ := isOf hZ e0 E1
    obtain ⟨_, _, ⟨T341, L341, k341, n341⟩, -, X341, ⟨Lc341, hQ341, l341, y341, z341⟩, st341⟩ := X0.virtualBack hx (y := (⟨"java/lang/String", "length", "()I"⟩ : MethodName)) (z := (⟨"java/lang/String", "length", "()I"⟩ : MethodName)) hown (mvT hZ (hw _ (List.mem_of_getElem? (i := 91) rfl))) (mvT hZ (hw _ (List.mem_of_getElem? (i := 92) rfl))) (notFace_of_selects (args := #[]) (mvT hZ (hw _ (List.mem_of_getElem? (i := 94) rfl)))) (mvT hZ (hw _ (List.mem_of_getElem? (i := 94) rfl))) (mvT hZ (hw _ (List.mem_of_getElem? (i := 93) rfl))) (by decide) (backOf (W := 0) (rqLE l Z a0 hw [] a1 b1 5 y cs h0 n0 Z0 E1 F1 F2 V1 SC hcs) hZ (hw _ (List.mem_of_getElem? (i := 95) rfl)) (hw _ (List.mem_of_getElem? (i := 11) rfl)) (by decide) (by decide)) q341a q341c (g := (mkF m 1 #[.val (.ref a1), .val (.int (Int32.ofNat k)), .val (.int p2), .val (.int p3), .unset, .unset, .unset] [(.ref a1)])) rfl (by rw [hml]; rfl) (Steps.refl _) (argsL := []) (rest := []) (lenOf pd_16 rfl) rfl (by show 2 * 0 + _ ≤ _; exact Nat.le_of_eq rfl) (hb hby d_method_5_code_1) (fun _ _ => ⟨rfl, e0, (by decide : 0 + 0 ≤ _), (by decide : 0 + 0 ≤ _)⟩)
    dsimp only [Pt.U, Pt.locs, Pt.cells, Pt.slots] at X341 l341 y341 z341 st341 hQ341
    subst l341 y341 z341
    obtain ⟨rfl, N341q, hQ341⟩ := hQ341
    have N341 := Fr.app N0 N341q
    refine Rch.via (T' := T341) (g' := (mkF m 4 #[.val (.ref a1), .val (.int (Int32.ofNat k)), .val (.int p2), .val (.int p3), .unset, .unset, .unset] [(.int (Int32.ofNat 5))])) st341 ?_
    refine Rch.of (T' := T341) (g' := (mkF m 5 #[.val (.ref a1), .val (.int (Int32.ofNat k)), .val (.int p2), .val (.int p3), .unset, .unset, .unset] [(.int (Int32.ofNat k)), (.int (Int32.ofNat 5))])) (fun _ kt => XS.iloadN X341.here hx rfl (hb hby d_method_5_code_4) rfl  kt) ?_
    refine Rch.of (T' := T341) (g' := (mkF m 6 #[.val (.ref a1), .val (.int (Int32.ofNat k)), .val (.int p2), .val (.int p3), .unset, .unset, .unset] [(.int ((Int32.ofNat 5) - (Int32.ofNat k)))])) (fun _ kt => XS.isub X341.here hx rfl (hb hby d_method_5_code_5) rfl kt) ?_
    have sw342 : ((Int32.ofNat 5) - (Int32.ofNat k)) = (5 : Int32) := by rw [ek]; decide
    rw [sw342]
    show Rch p e below K T341 (mkF m 6 #[.val (.ref a1), .val (.int (Int32.ofNat k)), .val (.int p2), .val (.int p3), .unset, .unset, .unset] [(.int (5 : Int32))])
    refine Rch.of (T' := T341) (g' := (mkF m 8 #[.val (.ref a1), .val (.int (Int32.ofNat k)), .val (.int p2), .val (.int p3), .val (.int (5 : Int32)), .unset, .unset] [])) (fun _ kt => XS.istore X341.here hx rfl (hb hby d_method_5_code_6) rfl (l' := #[.val (.ref a1), .val (.int (Int32.ofNat k)), .val (.int p2), .val (.int p3), .val (.int (5 : Int32)), .unset, .unset]) rfl kt) ?_
    refine Rch.of (T' := T341) (g' := (mkF m 10 #[.val (.ref a1), .val (.int (Int32.ofNat k)), .val (.int p2), .val (.int p3), .val (.int (5 : Int32)), .unset, .unset] [(.int (5 : Int32))])) (fun _ kt => XS.iload X341.here hx rfl (hb hby d_method_5_code_8) rfl  kt) ?_
    obtain ⟨T343, h343, k343, X343, e343, E343, A343, Q343, st343⟩ := newPE X341 hx hZ (hw _ (List.mem_of_getElem? (i := 4) rfl)) hQ341 (g := (mkF m 10 #[.val (.ref a1), .val (.int (Int32.ofNat k)), .val (.int p2), .val (.int p3), .val (.int (5 : Int32)), .unset, .unset] [(.int (5 : Int32))])) rfl (hb hby d_method_5_code_10) rfl (by decide) (cap := 5) (by decide) (by decide) (by decide) (by decide) (ad := "[C") rfl
    obtain ⟨b343, g343⟩ : ∃ zz_, zz_ = h0.size := ⟨_, rfl⟩
    have ne_a1_b343 : a1 ≠ b343 := Nat.ne_of_lt (Nat.lt_of_lt_of_le E1.lt (Nat.le_of_eq g343.symm))
    have ne_b1_b343 : b1 ≠ b343 := Nat.ne_of_lt (Nat.lt_of_lt_of_le V1.lt (Nat.le_of_eq g343.symm))
    have ge_b343 : n0 ≤ b343 := Nat.le_trans Z0 (Nat.le_of_eq g343.symm)
    have sz_b343 : h0.size ≤ b343 := Nat.le_trans (Keep.refl h0 []).1 (Nat.le_of_eq g343.symm)
    rw [← g343] at A343 Q343 st343
    have V343 : Av Z h343 b343 .char 5 (fun _ => (.int (0 : Int32))) := Av.new A343 (by decide)
    refine Rch.of (T' := T343) (g' := (mkF m 12 #[.val (.ref a1), .val (.int (Int32.ofNat k)), .val (.int p2), .val (.int p3), .val (.int (5 : Int32)), .unset, .unset] [(.ref b343)])) st343 ?_
    refine Rch.of (T' := T343) (g' := (mkF m 14 #[.val (.ref a1), .val (.int (Int32.ofNat k)), .val (.int p2), .val (.int p3), .val (.int (5 : Int32)), .val (.ref b343), .unset] [])) (fun _ kt => XS.astore X343.here hx rfl (hb hby d_method_5_code_12) rfl rfl (l' := #[.val (.ref a1), .val (.int (Int32.ofNat k)), .val (.int p2), .val (.int p3), .val (.int (5 : Int32)), .val (.ref b343), .unset]) rfl kt) ?_
    refine Rch.of (T' := T343) (g' := (mkF m 16 #[.val (.ref a1), .val (.int (Int32.ofNat k)), .val (.int p2), .val (.int p3), .val (.int (5 : Int32)), .val (.ref b343), .unset] [(.int (5 : Int32))])) (fun _ kt => XS.iload X343.here hx rfl (hb hby d_method_5_code_14) rfl  kt) ?_
    refine Rch.of (T' := T343) (g' := (mkF m 19 #[.val (.ref a1), .val (.int (Int32.ofNat k)), .val (.int p2), .val (.int p3), .val (.int (5 : Int32)), .val (.ref b343), .unset] [])) (fun _ kt => XS.ifNo X343.here hx rfl (hb hby d_method_5_code_16) rfl ((if0 _ _).trans (tlt ((by decide) : (0 : Int32) < (5 : Int32))).2.2.2) kt) ?_
    refine Rch.of (T' := T343) (g' := (mkF m 21 #[.val (.ref a1), .val (.int (Int32.ofNat k)), .val (.int p2), .val (.int p3), .val (.int (5 : Int32)), .val (.ref b343), .unset] [(.ref b343)])) (fun _ kt => XS.aload X343.here hx rfl (hb hby d_method_5_code_19) rfl rfl kt) ?_
    refine Rch.of (T' := T343) (g' := (mkF m 22 #[.val (.ref a1), .val (.int (Int32.ofNat k)), .val (.int p2), .val (.int p3), .val (.int (5 : Int32)), .val (.ref b343), .unset] [(.int (0 : Int32)), (.ref b343)])) (fun _ kt => XS.iconst X343.here hx rfl (hb hby d_method_5_code_21) kt) ?_
    refine Rch.of (T' := T343) (g' := (mkF m 23 #[.val (.ref a1), .val (.int (Int32.ofNat k)), .val (.int p2), .val (.int p3), .val (.int (5 : Int32)), .val (.ref b343), .unset] [(.ref a1), (.int (0 : Int32)), (.ref b343)])) (fun _ kt => XS.aloadN X343.here hx rfl (hb hby d_method_5_code_22) rfl rfl kt) ?_
    refine Rch.of (T' := T343) (g' := (mkF m 24 #[.val (.ref a1), .val (.int (Int32.ofNat k)), .val (.int p2), .val (.int p3), .val (.int (5 : Int32)), .val (.ref b343), .unset] [(.int (0 : Int32)), (.ref a1), (.int (0 : Int32)), (.ref b343)])) (fun _ kt => XS.iconst X343.here hx rfl (hb hby d_method_5_code_23) kt) ?_
    have pr345 : 0 < 5 := by omega
    have pr346 : 5 ≤ 7 := by omega
    obtain ⟨cq344, kq344, q344a, q344b, q344c⟩ := isOf hZ e343 (E1.ext E343)
    obtain ⟨_, _, ⟨T344, L344, k344, n344⟩, -, X344, ⟨Lc344, hQ344, l344, y344, z344⟩, st344⟩ := X343.virtualBack hx (y := (⟨"java/lang/String", "charAt", "(I)C"⟩ : MethodName)) (z := (⟨"java/lang/String", "charAt", "(I)C"⟩ : MethodName)) hown (mvT hZ (hw _ (List.mem_of_getElem? (i := 101) rfl))) (mvT hZ (hw _ (List.mem_of_getElem? (i := 102) rfl))) (notFace_of_selects (args := #[]) (mvT hZ (hw _ (List.mem_of_getElem? (i := 104) rfl)))) (mvT hZ (hw _ (List.mem_of_getElem? (i := 104) rfl))) (mvT hZ (hw _ (List.mem_of_getElem? (i := 103) rfl))) (by decide) (backOf (W := 2) (rqCA l Z a0 hw [] a1 b1 5 y 0 cs sv h343 n0 (Nat.le_trans Z0 E343.1) (E1.ext E343) (F1.ext E343) (F2.ext E343) (V1.ext E343) pr345 pr346 hy (SC.ext E343) hcs (SI.ext E343) hsv) hZ (hw _ (List.mem_of_getElem? (i := 105) rfl)) (hw _ (List.mem_of_getElem? (i := 11) rfl)) (by decide) (by decide)) q344a q344c (g := (mkF m 24 #[.val (.ref a1), .val (.int (Int32.ofNat k)), .val (.int p2), .val (.int p3), .val (.int (5 : Int32)), .val (.ref b343), .unset] [(.int (0 : Int32)), (.ref a1), (.int (0 : Int32)), (.ref b343)])) rfl (by rw [hml]; rfl) (Steps.refl _) (argsL := [(.int (0 : Int32))]) (rest := [(.int (0 : Int32)), (.ref b343)]) (lenOf pd_18 rfl) rfl (by show 2 * 0 + _ ≤ _; exact Nat.le_of_eq rfl) (hb hby d_method_5_code_24) (fun _ _ => ⟨rfl, e343, (by decide : 1 + 0 ≤ _), (by decide : 5 + 0 ≤ _)⟩)
    dsimp only [Pt.U, Pt.locs, Pt.cells, Pt.slots] at X344 l344 y344 z344 st344 hQ344
    subst l344 y344 z344
    obtain ⟨rfl, N344q, hQ344⟩ := hQ344
    have N344 := Fr.app N341 N344q
    refine Rch.via (T' := T344) (g' := (mkF m 27 #[.val (.ref a1), .val (.int (Int32.ofNat k)), .val (.int p2), .val (.int p3), .val (.int (5 : Int32)), .val (.ref b343), .unset] [(.int (y 0)), (.int (0 : Int32)), (.ref b343)])) st344 ?_
    obtain ⟨cl347, Ar347, Sz347, Ha347⟩ := id V343
    obtain ⟨T347, h347, X347, e347, W347, st347⟩ := stC X344 hx hZ hQ344 Ar347 (j := (0 : Int32)) (oIn (i := 0) Sz347 (by decide) (by decide)) (g := (mkF m 27 #[.val (.ref a1), .val (.int (Int32.ofNat k)), .val (.int p2), .val (.int p3), .val (.int (5 : Int32)), .val (.ref b343), .unset] [(.int (y 0)), (.int (0 : Int32)), (.ref b343)])) rfl rfl (hb hby d_method_5_code_27)
    have V347 := Av.setI (i := 0) V343 (by decide) (by decide) W347
    obtain ⟨y347, hy347⟩ : ∃ zz_ : Nat → Int32, zz_ = fun q => if q = 0 then (y 0).toUInt32.toUInt16.toUInt32.toInt32 else (fun _ => (0 : Int32)) q := ⟨_, rfl⟩
    have V347 : Av Z h347 b343 .char 5 (fun q => .int (y347 q)) := by rw [hy347]; exact V347
    have N347 := Fr.snoc X347 N344 ge_b343
    have Sf348 : Safe Z consts_1 s.vm h343 b343 := (Safe.exa hZ.alike Q343 (by decide) (by decide))
    refine Rch.of (T' := T347) (g' := (mkF m 28 #[.val (.ref a1), .val (.int (Int32.ofNat k)), .val (.int p2), .val (.int p3), .val (.int (5 : Int32)), .val (.ref b343), .unset] [])) st347 ?_
    refine Rch.of (T' := T347) (g' := (mkF m 30 #[.val (.ref a1), .val (.int (Int32.ofNat k)), .val (.int p2), .val (.int p3), .val (.int (5 : Int32)), .val (.ref b343), .unset] [(.int (5 : Int32))])) (fun _ kt => XS.iload X347.here hx rfl (hb hby d_method_5_code_28) rfl  kt) ?_
    refine Rch.of (T' := T347) (g' := (mkF m 31 #[.val (.ref a1), .val (.int (Int32.ofNat k)), .val (.int p2), .val (.int p3), .val (.int (5 : Int32)), .val (.ref b343), .unset] [(.int (1 : Int32)), (.int (5 : Int32))])) (fun _ kt => XS.iconst X347.here hx rfl (hb hby d_method_5_code_30) kt) ?_
    refine Rch.of (T' := T347) (g' := (mkF m 34 #[.val (.ref a1), .val (.int (Int32.ofNat k)), .val (.int p2), .val (.int p3), .val (.int (5 : Int32)), .val (.ref b343), .unset] [])) (fun _ kt => XS.icmpNo X347.here hx rfl (hb hby d_method_5_code_31) rfl (tlt ((by decide) : (1 : Int32) < (5 : Int32))).2.2.2 kt) ?_
    refine Rch.of (T' := T347) (g' := (mkF m 36 #[.val (.ref a1), .val (.int (Int32.ofNat k)), .val (.int p2), .val (.int p3), .val (.int (5 : Int32)), .val (.ref b343), .unset] [(.ref b343)])) (fun _ kt => XS.aload X347.here hx rfl (hb hby d_method_5_code_34) rfl rfl kt) ?_
    refine Rch.of (T' := T347) (g' := (mkF m 37 #[.val (.ref a1), .val (.int (Int32.ofNat k)), .val (.int p2), .val (.int p3), .val (.int (5 : Int32)), .val (.ref b343), .unset] [(.int (1 : Int32)), (.ref b343)])) (fun _ kt => XS.iconst X347.here hx rfl (hb hby d_method_5_code_36) kt) ?_
    refine Rch.of (T' := T347) (g' := (mkF m 38 #[.val (.ref a1), .val (.int (Int32.ofNat k)), .val (.int p2), .val (.int p3), .val (.int (5 : Int32)), .val (.ref b343), .unset] [(.ref a1), (.int (1 : Int32)), (.ref b343)])) (fun _ kt => XS.aloadN X347.here hx rfl (hb hby d_method_5_code_37) rfl rfl kt) ?_
    refine Rch.of (T' := T347) (g' := (mkF m 39 #[.val (.ref a1), .val (.int (Int32.ofNat k)), .val (.int p2), .val (.int p3), .val (.int (5 : Int32)), .val (.ref b343), .unset] [(.int (1 : Int32)), (.ref a1), (.int (1 : Int32)), (.ref b343)])) (fun _ kt => XS.iconst X347.here hx rfl (hb hby d_method_5_code_38) kt) ?_
    have pr350 : 1 < 5 := by omega
    have pr351 : 5 ≤ 7 := by omega
    obtain ⟨cq349, kq349, q349a, q349b, q349c⟩ := isOf hZ e347 ((E1.ext E343).wr W347)
    obtain ⟨_, _, ⟨T349, L349, k349, n349⟩, -, X349, ⟨Lc349, hQ349, l349, y349, z349⟩, st349⟩ := X347.virtualBack hx (y := (⟨"java/lang/String", "charAt", "(I)C"⟩ : MethodName)) (z := (⟨"java/lang/String", "charAt", "(I)C"⟩ : MethodName)) hown (mvT hZ (hw _ (List.mem_of_getElem? (i := 101) rfl))) (mvT hZ (hw _ (List.mem_of_getElem? (i := 102) rfl))) (notFace_of_selects (args := #[]) (mvT hZ (hw _ (List.mem_of_getElem? (i := 104) rfl)))) (mvT hZ (hw _ (List.mem_of_getElem? (i := 104) rfl))) (mvT hZ (hw _ (List.mem_of_getElem? (i := 103) rfl))) (by decide) (backOf (W := 2) (rqCA l Z a0 hw [] a1 b1 5 y 1 cs sv h347 n0 (Nat.le_trans (Nat.le_trans Z0 E343.1) (Keep.of_wr W347).1) ((E1.ext E343).wr W347) ((F1.ext E343).other W347 (Or.inl ne_a1_b343)) ((F2.ext E343).other W347 (Or.inl ne_a1_b343)) ((V1.ext E343).other W347 ne_b1_b343) pr350 pr351 hy ((SC.ext E343).wr W347) hcs ((SI.ext E343).wr W347) hsv) hZ (hw _ (List.mem_of_getElem? (i := 105) rfl)) (hw _ (List.mem_of_getElem? (i := 11) rfl)) (by decide) (by decide)) q349a q349c (g := (mkF m 39 #[.val (.ref a1), .val (.int (Int32.ofNat k)), .val (.int p2), .val (.int p3), .val (.int (5 : Int32)), .val (.ref b343), .unset] [(.int (1 : Int32)), (.ref a1), (.int (1 : Int32)), (.ref b343)])) rfl (by rw [hml]; rfl) (Steps.refl _) (argsL := [(.int (1 : Int32))]) (rest := [(.int (1 : Int32)), (.ref b343)]) (lenOf pd_18 rfl) rfl (by show 2 * 0 + _ ≤ _; exact Nat.le_of_eq rfl) (hb hby d_method_5_code_39) (fun _ _ => ⟨rfl, e347, (by decide : 1 + 0 ≤ _), (by decide : 5 + 0 ≤ _)⟩)
    dsimp only [Pt.U, Pt.locs, Pt.cells, Pt.slots] at X349 l349 y349 z349 st349 hQ349
    subst l349 y349 z349
    obtain ⟨rfl, N349q, hQ349⟩ := hQ349
    have N349 := Fr.app N347 N349q
    refine Rch.via (T' := T349) (g' := (mkF m 42 #[.val (.ref a1), .val (.int (Int32.ofNat k)), .val (.int p2), .val (.int p3), .val (.int (5 : Int32)), .val (.ref b343), .unset] [(.int (y 1)), (.int (1 : Int32)), (.ref b343)])) st349 ?_
    obtain ⟨cl352, Ar352, Sz352, Ha352⟩ := id V347
    obtain ⟨T352, h352, X352, e352, W352, st352⟩ := stC X349 hx hZ hQ349 Ar352 (j := (1 : Int32)) (oIn (i := 1) Sz352 (by decide) (by decide)) (g := (mkF m 42 #[.val (.ref a1), .val (.int (Int32.ofNat k)), .val (.int p2), .val (.int p3), .val (.int (5 : Int32)), .val (.ref b343), .unset] [(.int (y 1)), (.int (1 : Int32)), (.ref b343)])) rfl rfl (hb hby d_method_5_code_42)
    have V352 := Av.setI (i := 1) V347 (by decide) (by decide) W352
    obtain ⟨y352, hy352⟩ : ∃ zz_ : Nat → Int32, zz_ = fun q => if q = 1 then (y 1).toUInt32.toUInt16.toUInt32.toInt32 else y347 q := ⟨_, rfl⟩
    have V352 : Av Z h352 b343 .char 5 (fun q => .int (y352 q)) := by rw [hy352]; exact V352
    have N352 := Fr.snoc X352 N349 ge_b343
    have Sf353 : Safe Z consts_1 s.vm h347 b343 := (Safe.exa hZ.alike (Q343.wr W347) (by decide) (by decide))
    have Rb354 := (((R0.trans (CHr.ext E343 R0.1)).trans (CHr.wr W347 Sf348 (R0.trans (CHr.ext E343 R0.1)).1)).trans (CHr.wr W352 Sf353 ((R0.trans (CHr.ext E343 R0.1)).trans (CHr.wr W347 Sf348 (R0.trans (CHr.ext E343 R0.1)).1)).1))
    refine Rch.of (T' := T352) (g' := (mkF m 43 #[.val (.ref a1), .val (.int (Int32.ofNat k)), .val (.int p2), .val (.int p3), .val (.int (5 : Int32)), .val (.ref b343), .unset] [])) st352 ?_
    refine Rch.of (T' := T352) (g' := (mkF m 45 #[.val (.ref a1), .val (.int (Int32.ofNat k)), .val (.int p2), .val (.int p3), .val (.int (5 : Int32)), .val (.ref b343), .unset] [(.int (5 : Int32))])) (fun _ kt => XS.iload X352.here hx rfl (hb hby d_method_5_code_43) rfl  kt) ?_
    refine Rch.of (T' := T352) (g' := (mkF m 46 #[.val (.ref a1), .val (.int (Int32.ofNat k)), .val (.int p2), .val (.int p3), .val (.int (5 : Int32)), .val (.ref b343), .unset] [(.int (2 : Int32)), (.int (5 : Int32))])) (fun _ kt => XS.iconst X352.here hx rfl (hb hby d_method_5_code_45) kt) ?_
    refine Rch.of (T' := T352) (g' := (mkF m 49 #[.val (.ref a1), .val (.int (Int32.ofNat k)), .val (.int p2), .val (.int p3), .val (.int (5 : Int32)), .val (.ref b343), .unset] [])) (fun _ kt => XS.icmpNo X352.here hx rfl (hb hby d_method_5_code_46) rfl (tlt ((by decide) : (2 : Int32) < (5 : Int32))).2.2.2 kt) ?_
    refine Rch.of (T' := T352) (g' := (mkF m 51 #[.val (.ref a1), .val (.int (Int32.ofNat k)), .val (.int p2), .val (.int p3), .val (.int (5 : Int32)), .val (.ref b343), .unset] [(.ref b343)])) (fun _ kt => XS.aload X352.here hx rfl (hb hby d_method_5_code_49) rfl rfl kt) ?_
    refine Rch.of (T' := T352) (g' := (mkF m 52 #[.val (.ref a1), .val (.int (Int32.ofNat k)), .val (.int p2), .val (.int p3), .val (.int (5 : Int32)), .val (.ref b343), .unset] [(.int (2 : Int32)), (.ref b343)])) (fun _ kt => XS.iconst X352.here hx rfl (hb hby d_method_5_code_51) kt) ?_
    refine Rch.of (T' := T352) (g' := (mkF m 53 #[.val (.ref a1), .val (.int (Int32.ofNat k)), .val (.int p2), .val (.int p3), .val (.int (5 : Int32)), .val (.ref b343), .unset] [(.ref a1), (.int (2 : Int32)), (.ref b343)])) (fun _ kt => XS.aloadN X352.here hx rfl (hb hby d_method_5_code_52) rfl rfl kt) ?_
    refine Rch.of (T' := T352) (g' := (mkF m 54 #[.val (.ref a1), .val (.int (Int32.ofNat k)), .val (.int p2), .val (.int p3), .val (.int (5 : Int32)), .val (.ref b343), .unset] [(.int (2 : Int32)), (.ref a1), (.int (2 : Int32)), (.ref b343)])) (fun _ kt => XS.iconst X352.here hx rfl (hb hby d_method_5_code_53) kt) ?_
    have pr356 : 2 < 5 := by omega
    have pr357 : 5 ≤ 7 := by omega
    obtain ⟨cq355, kq355, q355a, q355b, q355c⟩ := isOf hZ e352 (((E1.ext E343).wr W347).wr W352)
    obtain ⟨_, _, ⟨T355, L355, k355, n355⟩, -, X355, ⟨Lc355, hQ355, l355, y355, z355⟩, st355⟩ := X352.virtualBack hx (y := (⟨"java/lang/String", "charAt", "(I)C"⟩ : MethodName)) (z := (⟨"java/lang/String", "charAt", "(I)C"⟩ : MethodName)) hown (mvT hZ (hw _ (List.mem_of_getElem? (i := 101) rfl))) (mvT hZ (hw _ (List.mem_of_getElem? (i := 102) rfl))) (notFace_of_selects (args := #[]) (mvT hZ (hw _ (List.mem_of_getElem? (i := 104) rfl)))) (mvT hZ (hw _ (List.mem_of_getElem? (i := 104) rfl))) (mvT hZ (hw _ (List.mem_of_getElem? (i := 103) rfl))) (by decide) (backOf (W := 2) (rqCA l Z a0 hw [] a1 b1 5 y 2 cs sv h352 n0 (Nat.le_trans (Nat.le_trans (Nat.le_trans Z0 E343.1) (Keep.of_wr W347).1) (Keep.of_wr W352).1) (((E1.ext E343).wr W347).wr W352) (((F1.ext E343).other W347 (Or.inl ne_a1_b343)).other W352 (Or.inl ne_a1_b343)) (((F2.ext E343).other W347 (Or.inl ne_a1_b343)).other W352 (Or.inl ne_a1_b343)) (((V1.ext E343).other W347 ne_b1_b343).other W352 ne_b1_b343) pr356 pr357 hy (((SC.ext E343).wr W347).wr W352) hcs (((SI.ext E343).wr W347).wr W352) hsv) hZ (hw _ (List.mem_of_getElem? (i := 105) rfl)) (hw _ (List.mem_of_getElem? (i := 11) rfl)) (by decide) (by decide)) q355a q355c (g := (mkF m 54 #[.val (.ref a1), .val (.int (Int32.ofNat k)), .val (.int p2), .val (.int p3), .val (.int (5 : Int32)), .val (.ref b343), .unset] [(.int (2 : Int32)), (.ref a1), (.int (2 : Int32)), (.ref b343)])) rfl (by rw [hml]; rfl) (Steps.refl _) (argsL := [(.int (2 : Int32))]) (rest := [(.int (2 : Int32)), (.ref b343)]) (lenOf pd_18 rfl) rfl (by show 2 * 0 + _ ≤ _; exact Nat.le_of_eq rfl) (hb hby d_method_5_code_54) (fun _ _ => ⟨rfl, e352, (by decide : 1 + 0 ≤ _), (by decide : 5 + 0 ≤ _)⟩)
    dsimp only [Pt.U, Pt.locs, Pt.cells, Pt.slots] at X355 l355 y355 z355 st355 hQ355
    subst l355 y355 z355
    obtain ⟨rfl, N355q, hQ355⟩ := hQ355
    have N355 := Fr.app N352 N355q
    refine Rch.via (T' := T355) (g' := (mkF m 57 #[.val (.ref a1), .val (.int (Int32.ofNat k)), .val (.int p2), .val (.int p3), .val (.int (5 : Int32)), .val (.ref b343), .unset] [(.int (y 2)), (.int (2 : Int32)), (.ref b343)])) st355 ?_
    obtain ⟨cl358, Ar358, Sz358, Ha358⟩ := id V352
    obtain ⟨T358, h358, X358, e358, W358, st358⟩ := stC X355 hx hZ hQ355 Ar358 (j := (2 : Int32)) (oIn (i := 2) Sz358 (by decide) (by decide)) (g := (mkF m 57 #[.val (.ref a1), .val (.int (Int32.ofNat k)), .val (.int p2), .val (.int p3), .val (.int (5 : Int32)), .val (.ref b343), .unset] [(.int (y 2)), (.int (2 : Int32)), (.ref b343)])) rfl rfl (hb hby d_method_5_code_57)
    have V358 := Av.setI (i := 2) V352 (by decide) (by decide) W358
    obtain ⟨y358, hy358⟩ : ∃ zz_ : Nat → Int32, zz_ = fun q => if q = 2 then (y 2).toUInt32.toUInt16.toUInt32.toInt32 else y352 q := ⟨_, rfl⟩
    have V358 : Av Z h358 b343 .char 5 (fun q => .int (y358 q)) := by rw [hy358]; exact V358
    have N358 := Fr.snoc X358 N355 ge_b343
    have Sf359 : Safe Z consts_1 s.vm h352 b343 := (Safe.exa hZ.alike ((Q343.wr W347).wr W352) (by decide) (by decide))
    refine Rch.of (T' := T358) (g' := (mkF m 58 #[.val (.ref a1), .val (.int (Int32.ofNat k)), .val (.int p2), .val (.int p3), .val (.int (5 : Int32)), .val (.ref b343), .unset] [])) st358 ?_
    refine Rch.of (T' := T358) (g' := (mkF m 60 #[.val (.ref a1), .val (.int (Int32.ofNat k)), .val (.int p2), .val (.int p3), .val (.int (5 : Int32)), .val (.ref b343), .unset] [(.int (5 : Int32))])) (fun _ kt => XS.iload X358.here hx rfl (hb hby d_method_5_code_58) rfl  kt) ?_
    refine Rch.of (T' := T358) (g' := (mkF m 61 #[.val (.ref a1), .val (.int (Int32.ofNat k)), .val (.int p2), .val (.int p3), .val (.int (5 : Int32)), .val (.ref b343), .unset] [(.int (3 : Int32)), (.int (5 : Int32))])) (fun _ kt => XS.iconst X358.here hx rfl (hb hby d_method_5_code_60) kt) ?_
    refine Rch.of (T' := T358) (g' := (mkF m 64 #[.val (.ref a1), .val (.int (Int32.ofNat k)), .val (.int p2), .val (.int p3), .val (.int (5 : Int32)), .val (.ref b343), .unset] [])) (fun _ kt => XS.icmpNo X358.here hx rfl (hb hby d_method_5_code_61) rfl (tlt ((by decide) : (3 : Int32) < (5 : Int32))).2.2.2 kt) ?_
    refine Rch.of (T' := T358) (g' := (mkF m 66 #[.val (.ref a1), .val (.int (Int32.ofNat k)), .val (.int p2), .val (.int p3), .val (.int (5 : Int32)), .val (.ref b343), .unset] [(.ref b343)])) (fun _ kt => XS.aload X358.here hx rfl (hb hby d_method_5_code_64) rfl rfl kt) ?_
    refine Rch.of (T' := T358) (g' := (mkF m 67 #[.val (.ref a1), .val (.int (Int32.ofNat k)), .val (.int p2), .val (.int p3), .val (.int (5 : Int32)), .val (.ref b343), .unset] [(.int (3 : Int32)), (.ref b343)])) (fun _ kt => XS.iconst X358.here hx rfl (hb hby d_method_5_code_66) kt) ?_
    refine Rch.of (T' := T358) (g' := (mkF m 68 #[.val (.ref a1), .val (.int (Int32.ofNat k)), .val (.int p2), .val (.int p3), .val (.int (5 : Int32)), .val (.ref b343), .unset] [(.ref a1), (.int (3 : Int32)), (.ref b343)])) (fun _ kt => XS.aloadN X358.here hx rfl (hb hby d_method_5_code_67) rfl rfl kt) ?_
    refine Rch.of (T' := T358) (g' := (mkF m 69 #[.val (.ref a1), .val (.int (Int32.ofNat k)), .val (.int p2), .val (.int p3), .val (.int (5 : Int32)), .val (.ref b343), .unset] [(.int (3 : Int32)), (.ref a1), (.int (3 : Int32)), (.ref b343)])) (fun _ kt => XS.iconst X358.here hx rfl (hb hby d_method_5_code_68) kt) ?_
    have pr361 : 3 < 5 := by omega
    have pr362 : 5 ≤ 7 := by omega
    obtain ⟨cq360, kq360, q360a, q360b, q360c⟩ := isOf hZ e358 ((((E1.ext E343).wr W347).wr W352).wr W358)
    obtain ⟨_, _, ⟨T360, L360, k360, n360⟩, -, X360, ⟨Lc360, hQ360, l360, y360, z360⟩, st360⟩ := X358.virtualBack hx (y := (⟨"java/lang/String", "charAt", "(I)C"⟩ : MethodName)) (z := (⟨"java/lang/String", "charAt", "(I)C"⟩ : MethodName)) hown (mvT hZ (hw _ (List.mem_of_getElem? (i := 101) rfl))) (mvT hZ (hw _ (List.mem_of_getElem? (i := 102) rfl))) (notFace_of_selects (args := #[]) (mvT hZ (hw _ (List.mem_of_getElem? (i := 104) rfl)))) (mvT hZ (hw _ (List.mem_of_getElem? (i := 104) rfl))) (mvT hZ (hw _ (List.mem_of_getElem? (i := 103) rfl))) (by decide) (backOf (W := 2) (rqCA l Z a0 hw [] a1 b1 5 y 3 cs sv h358 n0 (Nat.le_trans (Nat.le_trans (Nat.le_trans (Nat.le_trans Z0 E343.1) (Keep.of_wr W347).1) (Keep.of_wr W352).1) (Keep.of_wr W358).1) ((((E1.ext E343).wr W347).wr W352).wr W358) ((((F1.ext E343).other W347 (Or.inl ne_a1_b343)).other W352 (Or.inl ne_a1_b343)).other W358 (Or.inl ne_a1_b343)) ((((F2.ext E343).other W347 (Or.inl ne_a1_b343)).other W352 (Or.inl ne_a1_b343)).other W358 (Or.inl ne_a1_b343)) ((((V1.ext E343).other W347 ne_b1_b343).other W352 ne_b1_b343).other W358 ne_b1_b343) pr361 pr362 hy ((((SC.ext E343).wr W347).wr W352).wr W358) hcs ((((SI.ext E343).wr W347).wr W352).wr W358) hsv) hZ (hw _ (List.mem_of_getElem? (i := 105) rfl)) (hw _ (List.mem_of_getElem? (i := 11) rfl)) (by decide) (by decide)) q360a q360c (g := (mkF m 69 #[.val (.ref a1), .val (.int (Int32.ofNat k)), .val (.int p2), .val (.int p3), .val (.int (5 : Int32)), .val (.ref b343), .unset] [(.int (3 : Int32)), (.ref a1), (.int (3 : Int32)), (.ref b343)])) rfl (by rw [hml]; rfl) (Steps.refl _) (argsL := [(.int (3 : Int32))]) (rest := [(.int (3 : Int32)), (.ref b343)]) (lenOf pd_18 rfl) rfl (by show 2 * 0 + _ ≤ _; exact Nat.le_of_eq rfl) (hb hby d_method_5_code_69) (fun _ _ => ⟨rfl, e358, (by decide : 1 + 0 ≤ _), (by decide : 5 + 0 ≤ _)⟩)
    dsimp only [Pt.U, Pt.locs, Pt.cells, Pt.slots] at X360 l360 y360 z360 st360 hQ360
    subst l360 y360 z360
    obtain ⟨rfl, N360q, hQ360⟩ := hQ360
    have N360 := Fr.app N358 N360q
    refine Rch.via (T' := T360) (g' := (mkF m 72 #[.val (.ref a1), .val (.int (Int32.ofNat k)), .val (.int p2), .val (.int p3), .val (.int (5 : Int32)), .val (.ref b343), .unset] [(.int (y 3)), (.int (3 : Int32)), (.ref b343)])) st360 ?_
    obtain ⟨cl363, Ar363, Sz363, Ha363⟩ := id V358
    obtain ⟨T363, h363, X363, e363, W363, st363⟩ := stC X360 hx hZ hQ360 Ar363 (j := (3 : Int32)) (oIn (i := 3) Sz363 (by decide) (by decide)) (g := (mkF m 72 #[.val (.ref a1), .val (.int (Int32.ofNat k)), .val (.int p2), .val (.int p3), .val (.int (5 : Int32)), .val (.ref b343), .unset] [(.int (y 3)), (.int (3 : Int32)), (.ref b343)])) rfl rfl (hb hby d_method_5_code_72)
    have V363 := Av.setI (i := 3) V358 (by decide) (by decide) W363
    obtain ⟨y363, hy363⟩ : ∃ zz_ : Nat → Int32, zz_ = fun q => if q = 3 then (y 3).toUInt32.toUInt16.toUInt32.toInt32 else y358 q := ⟨_, rfl⟩
    have V363 : Av Z h363 b343 .char 5 (fun q => .int (y363 q)) := by rw [hy363]; exact V363
    have N363 := Fr.snoc X363 N360 ge_b343
    have Sf364 : Safe Z consts_1 s.vm h358 b343 := (Safe.exa hZ.alike (((Q343.wr W347).wr W352).wr W358) (by decide) (by decide))
    have Fb365 := (Nat.le_trans (Nat.le_trans (Nat.le_trans (Nat.le_trans (Nat.le_trans hk0 E343.1) (Keep.of_wr W347).1) (Keep.of_wr W352).1) (Keep.of_wr W358).1) (Keep.of_wr W363).1)
    have Fb366 := (Nat.le_trans (Nat.le_trans (Nat.le_trans (Nat.le_trans (Nat.le_trans Z0 E343.1) (Keep.of_wr W347).1) (Keep.of_wr W352).1) (Keep.of_wr W358).1) (Keep.of_wr W363).1)
    refine Rch.of (T' := T363) (g' := (mkF m 73 #[.val (.ref a1), .val (.int (Int32.ofNat k)), .val (.int p2), .val (.int p3), .val (.int (5 : Int32)), .val (.ref b343), .unset] [])) st363 ?_
    refine Rch.of (T' := T363) (g' := (mkF m 75 #[.val (.ref a1), .val (.int (Int32.ofNat k)), .val (.int p2), .val (.int p3), .val (.int (5 : Int32)), .val (.ref b343), .unset] [(.int (5 : Int32))])) (fun _ kt => XS.iload X363.here hx rfl (hb hby d_method_5_code_73) rfl  kt) ?_
    refine Rch.of (T' := T363) (g' := (mkF m 76 #[.val (.ref a1), .val (.int (Int32.ofNat k)), .val (.int p2), .val (.int p3), .val (.int (5 : Int32)), .val (.ref b343), .unset] [(.int (4 : Int32)), (.int (5 : Int32))])) (fun _ kt => XS.iconst X363.here hx rfl (hb hby d_method_5_code_75) kt) ?_
    refine Rch.of (T' := T363) (g' := (mkF m 79 #[.val (.ref a1), .val (.int (Int32.ofNat k)), .val (.int p2), .val (.int p3), .val (.int (5 : Int32)), .val (.ref b343), .unset] [])) (fun _ kt => XS.icmpNo X363.here hx rfl (hb hby d_method_5_code_76) rfl (tlt ((by decide) : (4 : Int32) < (5 : Int32))).2.2.2 kt) ?_
    refine Rch.of (T' := T363) (g' := (mkF m 81 #[.val (.ref a1), .val (.int (Int32.ofNat k)), .val (.int p2), .val (.int p3), .val (.int (5 : Int32)), .val (.ref b343), .unset] [(.ref b343)])) (fun _ kt => XS.aload X363.here hx rfl (hb hby d_method_5_code_79) rfl rfl kt) ?_
    refine Rch.of (T' := T363) (g' := (mkF m 82 #[.val (.ref a1), .val (.int (Int32.ofNat k)), .val (.int p2), .val (.int p3), .val (.int (5 : Int32)), .val (.ref b343), .unset] [(.int (4 : Int32)), (.ref b343)])) (fun _ kt => XS.iconst X363.here hx rfl (hb hby d_method_5_code_81) kt) ?_
    refine Rch.of (T' := T363) (g' := (mkF m 83 #[.val (.ref a1), .val (.int (Int32.ofNat k)), .val (.int p2), .val (.int p3), .val (.int (5 : Int32)), .val (.ref b343), .unset] [(.ref a1), (.int (4 : Int32)), (.ref b343)])) (fun _ kt => XS.aloadN X363.here hx rfl (hb hby d_method_5_code_82) rfl rfl kt) ?_
    refine Rch.of (T' := T363) (g' := (mkF m 84 #[.val (.ref a1), .val (.int (Int32.ofNat k)), .val (.int p2), .val (.int p3), .val (.int (5 : Int32)), .val (.ref b343), .unset] [(.int (4 : Int32)), (.ref a1), (.int (4 : Int32)), (.ref b343)])) (fun _ kt => XS.iconst X363.here hx rfl (hb hby d_method_5_code_83) kt) ?_
    have pr368 : 4 < 5 := by omega
    have pr369 : 5 ≤ 7 := by omega
    obtain ⟨cq367, kq367, q367a, q367b, q367c⟩ := isOf hZ e363 (((((E1.ext E343).wr W347).wr W352).wr W358).wr W363)
    obtain ⟨_, _, ⟨T367, L367, k367, n367⟩, -, X367, ⟨Lc367, hQ367, l367, y367, z367⟩, st367⟩ := X363.virtualBack hx (y := (⟨"java/lang/String", "charAt", "(I)C"⟩ : MethodName)) (z := (⟨"java/lang/String", "charAt", "(I)C"⟩ : MethodName)) hown (mvT hZ (hw _ (List.mem_of_getElem? (i := 101) rfl))) (mvT hZ (hw _ (List.mem_of_getElem? (i := 102) rfl))) (notFace_of_selects (args := #[]) (mvT hZ (hw _ (List.mem_of_getElem? (i := 104) rfl)))) (mvT hZ (hw _ (List.mem_of_getElem? (i := 104) rfl))) (mvT hZ (hw _ (List.mem_of_getElem? (i := 103) rfl))) (by decide) (backOf (W := 2) (rqCA l Z a0 hw [] a1 b1 5 y 4 cs sv h363 n0 Fb366 (((((E1.ext E343).wr W347).wr W352).wr W358).wr W363) (((((F1.ext E343).other W347 (Or.inl ne_a1_b343)).other W352 (Or.inl ne_a1_b343)).other W358 (Or.inl ne_a1_b343)).other W363 (Or.inl ne_a1_b343)) (((((F2.ext E343).other W347 (Or.inl ne_a1_b343)).other W352 (Or.inl ne_a1_b343)).other W358 (Or.inl ne_a1_b343)).other W363 (Or.inl ne_a1_b343)) (((((V1.ext E343).other W347 ne_b1_b343).other W352 ne_b1_b343).other W358 ne_b1_b343).other W363 ne_b1_b343) pr368 pr369 hy (((((SC.ext E343).wr W347).wr W352).wr W358).wr W363) hcs (((((SI.ext E343).wr W347).wr W352).wr W358).wr W363) hsv) hZ (hw _ (List.mem_of_getElem? (i := 105) rfl)) (hw _ (List.mem_of_getElem? (i := 11) rfl)) (by decide) (by decide)) q367a q367c (g := (mkF m 84 #[.val (.ref a1), .val (.int (Int32.ofNat k)), .val (.int p2), .val (.int p3), .val (.int (5 : Int32)), .val (.ref b343), .unset] [(.int (4 : Int32)), (.ref a1), (.int (4 : Int32)), (.ref b343)])) rfl (by rw [hml]; rfl) (Steps.refl _) (argsL := [(.int (4 : Int32))]) (rest := [(.int (4 : Int32)), (.ref b343)]) (lenOf pd_18 rfl) rfl (by show 2 * 0 + _ ≤ _; exact Nat.le_of_eq rfl) (hb hby d_method_5_code_84) (fun _ _ => ⟨rfl, e363, (by decide : 1 + 0 ≤ _), (by decide : 5 + 0 ≤ _)⟩)
    dsimp only [Pt.U, Pt.locs, Pt.cells, Pt.slots] at X367 l367 y367 z367 st367 hQ367
    subst l367 y367 z367
    obtain ⟨rfl, N367q, hQ367⟩ := hQ367
    have N367 := Fr.app N363 N367q
    refine Rch.via (T' := T367) (g' := (mkF m 87 #[.val (.ref a1), .val (.int (Int32.ofNat k)), .val (.int p2), .val (.int p3), .val (.int (5 : Int32)), .val (.ref b343), .unset] [(.int (y 4)), (.int (4 : Int32)), (.ref b343)])) st367 ?_
    obtain ⟨cl370, Ar370, Sz370, Ha370⟩ := id V363
    obtain ⟨T370, h370, X370, e370, W370, st370⟩ := stC X367 hx hZ hQ367 Ar370 (j := (4 : Int32)) (oIn (i := 4) Sz370 (by decide) (by decide)) (g := (mkF m 87 #[.val (.ref a1), .val (.int (Int32.ofNat k)), .val (.int p2), .val (.int p3), .val (.int (5 : Int32)), .val (.ref b343), .unset] [(.int (y 4)), (.int (4 : Int32)), (.ref b343)])) rfl rfl (hb hby d_method_5_code_87)
    have V370 := Av.setI (i := 4) V363 (by decide) (by decide) W370
    obtain ⟨y370, hy370⟩ : ∃ zz_ : Nat → Int32, zz_ = fun q => if q = 4 then (y 4).toUInt32.toUInt16.toUInt32.toInt32 else y363 q := ⟨_, rfl⟩
    have V370 : Av Z h370 b343 .char 5 (fun q => .int (y370 q)) := by rw [hy370]; exact V370
    have N370 := Fr.snoc X370 N367 ge_b343
    have Sf371 : Safe Z consts_1 s.vm h363 b343 := (Safe.exa hZ.alike ((((Q343.wr W347).wr W352).wr W358).wr W363) (by decide) (by decide))
    have Rb372 := (((Rb354.trans (CHr.wr W358 Sf359 Rb354.1)).trans (CHr.wr W363 Sf364 (Rb354.trans (CHr.wr W358 Sf359 Rb354.1)).1)).trans (CHr.wr W370 Sf371 ((Rb354.trans (CHr.wr W358 Sf359 Rb354.1)).trans (CHr.wr W363 Sf364 (Rb354.trans (CHr.wr W358 Sf359 Rb354.1)).1)).1))
    have Fb373 := ((((((F1.ext E343).other W347 (Or.inl ne_a1_b343)).other W352 (Or.inl ne_a1_b343)).other W358 (Or.inl ne_a1_b343)).other W363 (Or.inl ne_a1_b343)).other W370 (Or.inl ne_a1_b343))
    have Fb374 := ((((((F2.ext E343).other W347 (Or.inl ne_a1_b343)).other W352 (Or.inl ne_a1_b343)).other W358 (Or.inl ne_a1_b343)).other W363 (Or.inl ne_a1_b343)).other W370 (Or.inl ne_a1_b343))
    have Fb375 := (((((((Keep.refl h0 []).ext E343).wr W347 (Or.inr sz_b343)).wr W352 (Or.inr sz_b343)).wr W358 (Or.inr sz_b343)).wr W363 (Or.inr sz_b343)).wr W370 (Or.inr sz_b343))
    refine Rch.of (T' := T370) (g' := (mkF m 88 #[.val (.ref a1), .val (.int (Int32.ofNat k)), .val (.int p2), .val (.int p3), .val (.int (5 : Int32)), .val (.ref b343), .unset] [])) st370 ?_
    refine Rch.of (T' := T370) (g' := (mkF m 90 #[.val (.ref a1), .val (.int (Int32.ofNat k)), .val (.int p2), .val (.int p3), .val (.int (5 : Int32)), .val (.ref b343), .unset] [(.int (5 : Int32))])) (fun _ kt => XS.iload X370.here hx rfl (hb hby d_method_5_code_88) rfl  kt) ?_
    refine Rch.of (T' := T370) (g' := (mkF m 91 #[.val (.ref a1), .val (.int (Int32.ofNat k)), .val (.int p2), .val (.int p3), .val (.int (5 : Int32)), .val (.ref b343), .unset] [(.int (5 : Int32)), (.int (5 : Int32))])) (fun _ kt => XS.iconst X370.here hx rfl (hb hby d_method_5_code_90) kt) ?_
    refine Rch.of (T' := T370) (g' := (mkF m 103 #[.val (.ref a1), .val (.int (Int32.ofNat k)), .val (.int p2), .val (.int p3), .val (.int (5 : Int32)), .val (.ref b343), .unset] [])) (fun _ kt => XS.icmpYes X370.here hx rfl (pc0 := 91) (pc' := 103) rfl (hb hby d_method_5_code_91) rfl (flt ((by decide) : ¬ ((5 : Int32) < (5 : Int32)))).2.2.2 (by decide) (by decide) kt) ?_
    refine Rch.of (T' := T370) (g' := (mkF m 105 #[.val (.ref a1), .val (.int (Int32.ofNat k)), .val (.int p2), .val (.int p3), .val (.int (5 : Int32)), .val (.ref b343), .unset] [(.int (5 : Int32))])) (fun _ kt => XS.iload X370.here hx rfl (hb hby d_method_5_code_103) rfl  kt) ?_
    refine Rch.of (T' := T370) (g' := (mkF m 107 #[.val (.ref a1), .val (.int (Int32.ofNat k)), .val (.int p2), .val (.int p3), .val (.int (5 : Int32)), .val (.ref b343), .unset] [(.int (6 : Int32)), (.int (5 : Int32))])) (fun _ kt => XS.bipush X370.here hx rfl (hb hby d_method_5_code_105) kt) ?_
    refine Rch.of (T' := T370) (g' := (mkF m 121 #[.val (.ref a1), .val (.int (Int32.ofNat k)), .val (.int p2), .val (.int p3), .val (.int (5 : Int32)), .val (.ref b343), .unset] [])) (fun _ kt => XS.icmpYes X370.here hx rfl (pc0 := 107) (pc' := 121) rfl (hb hby d_method_5_code_107) rfl (flt ((by decide) : ¬ ((6 : Int32) < (5 : Int32)))).2.2.2 (by decide) (by decide) kt) ?_
    refine Rch.of (T' := T370) (g' := (mkF m 122 #[.val (.ref a1), .val (.int (Int32.ofNat k)), .val (.int p2), .val (.int p3), .val (.int (5 : Int32)), .val (.ref b343), .unset] [(.int p2)])) (fun _ kt => XS.iloadN X370.here hx rfl (hb hby d_method_5_code_121) rfl  kt) ?_
    refine Rch.of (T' := T370) (g' := (mkF m 124 #[.val (.ref a1), .val (.int (Int32.ofNat k)), .val (.int p2), .val (.int p3), .val (.int (5 : Int32)), .val (.ref b343), .unset] [(.int (2147483647 : Int32)), (.int p2)])) (X370.ldcInt hx hown (mvT hZ (hw _ (List.mem_of_getElem? (i := 122) rfl))) (g := (mkF m 122 #[.val (.ref a1), .val (.int (Int32.ofNat k)), .val (.int p2), .val (.int p3), .val (.int (5 : Int32)), .val (.ref b343), .unset] [(.int p2)])) rfl (hb hby d_method_5_code_122)) ?_
    refine Rch.of (T' := T370) (g' := (mkF m 125 #[.val (.ref a1), .val (.int (Int32.ofNat k)), .val (.int p2), .val (.int p3), .val (.int (5 : Int32)), .val (.ref b343), .unset] [(.int (p2 &&& (2147483647 : Int32)))])) (fun _ kt => XS.iand X370.here hx rfl (hb hby d_method_5_code_124) rfl kt) ?_
    refine Rch.of (T' := T370) (g' := (mkF m 127 #[.val (.ref a1), .val (.int (Int32.ofNat k)), .val (.int p2), .val (.int p3), .val (.int (5 : Int32)), .val (.ref b343), .unset] [(.int (5 : Int32)), (.int (p2 &&& (2147483647 : Int32)))])) (fun _ kt => XS.iload X370.here hx rfl (hb hby d_method_5_code_125) rfl  kt) ?_
    refine Rch.of (T' := T370) (g' := (mkF m 128 #[.val (.ref a1), .val (.int (Int32.ofNat k)), .val (.int p2), .val (.int p3), .val (.int (5 : Int32)), .val (.ref b343), .unset] [(.int ((p2 &&& (2147483647 : Int32)) % (5 : Int32)))])) (fun _ kt => iremM X370 hx rfl (hb hby d_method_5_code_127) rfl (by decide) kt) ?_
    have hcl : own_ch 5 y370 := by
      intro q hq
      rw [hy370, hy363, hy358, hy352, hy347]
      rcases (show q = 0 ∨ q = 1 ∨ q = 2 ∨ q = 3 ∨ q = 4 by omega) with rfl | rfl | rfl | rfl | rfl
      · exact own_c1i (hy.at (by decide : 0 < 5))
      · exact own_c1i (hy.at (by decide : 1 < 5))
      · exact own_c1i (hy.at (by decide : 2 < 5))
      · exact own_c1i (hy.at (by decide : 3 < 5))
      · exact own_c1i (hy.at (by decide : 4 < 5))
    obtain ⟨j, hj, ej⟩ := own_rem p2 5 (by decide) (by decide)
    have sw376 : ((p2 &&& (2147483647 : Int32)) % (5 : Int32)) = (Int32.ofNat j) := ej
    rw [sw376]
    show Rch p e below K T370 (mkF m 128 #[.val (.ref a1), .val (.int (Int32.ofNat k)), .val (.int p2), .val (.int p3), .val (.int (5 : Int32)), .val (.ref b343), .unset] [(.int (Int32.ofNat j))])
    have tj : (Int32.ofNat j).toInt = (j : Int) := oTo (by omega)
    refine Rch.of (T' := T370) (g' := (mkF m 130 #[.val (.ref a1), .val (.int (Int32.ofNat k)), .val (.int p2), .val (.int p3), .val (.int (5 : Int32)), .val (.ref b343), .val (.int (Int32.ofNat j))] [])) (fun _ kt => XS.istore X370.here hx rfl (hb hby d_method_5_code_128) rfl (l' := #[.val (.ref a1), .val (.int (Int32.ofNat k)), .val (.int p2), .val (.int p3), .val (.int (5 : Int32)), .val (.ref b343), .val (.int (Int32.ofNat j))]) rfl kt) ?_
    refine Rch.of (T' := T370) (g' := (mkF m 132 #[.val (.ref a1), .val (.int (Int32.ofNat k)), .val (.int p2), .val (.int p3), .val (.int (5 : Int32)), .val (.ref b343), .val (.int (Int32.ofNat j))] [(.ref b343)])) (fun _ kt => XS.aload X370.here hx rfl (hb hby d_method_5_code_130) rfl rfl kt) ?_
    refine Rch.of (T' := T370) (g' := (mkF m 134 #[.val (.ref a1), .val (.int (Int32.ofNat k)), .val (.int p2), .val (.int p3), .val (.int (5 : Int32)), .val (.ref b343), .val (.int (Int32.ofNat j))] [(.int (Int32.ofNat j)), (.ref b343)])) (fun _ kt => XS.iload X370.here hx rfl (hb hby d_method_5_code_132) rfl  kt) ?_
    refine Rch.of (T' := T370) (g' := (mkF m 136 #[.val (.ref a1), .val (.int (Int32.ofNat k)), .val (.int p2), .val (.int p3), .val (.int (5 : Int32)), .val (.ref b343), .val (.int (Int32.ofNat j))] [(.ref b343), (.int (Int32.ofNat j)), (.ref b343)])) (fun _ kt => XS.aload X370.here hx rfl (hb hby d_method_5_code_134) rfl rfl kt) ?_
    refine Rch.of (T' := T370) (g' := (mkF m 138 #[.val (.ref a1), .val (.int (Int32.ofNat k)), .val (.int p2), .val (.int p3), .val (.int (5 : Int32)), .val (.ref b343), .val (.int (Int32.ofNat j))] [(.int (Int32.ofNat j)), (.ref b343), (.int (Int32.ofNat j)), (.ref b343)])) (fun _ kt => XS.iload X370.here hx rfl (hb hby d_method_5_code_136) rfl  kt) ?_
    obtain ⟨cl377, Ar377, Sz377, Ha377⟩ := id V370
    refine Rch.of (T' := T370) (g' := (mkF m 139 #[.val (.ref a1), .val (.int (Int32.ofNat k)), .val (.int p2), .val (.int p3), .val (.int (5 : Int32)), .val (.ref b343), .val (.int (Int32.ofNat j))] [(.int (y370 j)), (.int (Int32.ofNat j)), (.ref b343)])) (X370.caload hx (j := (Int32.ofNat j)) (v := (.int (y370 j))) (by rw [e370]; exact Ar377.1) (State.isArrayOf_alike hZ.alike Ar377.2.1) Ar377.2.2 (oIn (i := j) Sz377 tj hj) (oAt (i := j) Ha377 tj hj) (g := (mkF m 138 #[.val (.ref a1), .val (.int (Int32.ofNat k)), .val (.int p2), .val (.int p3), .val (.int (5 : Int32)), .val (.ref b343), .val (.int (Int32.ofNat j))] [(.int (Int32.ofNat j)), (.ref b343), (.int (Int32.ofNat j)), (.ref b343)])) rfl rfl (hb hby d_method_5_code_138)) ?_
    refine Rch.of (T' := T370) (g' := (mkF m 140 #[.val (.ref a1), .val (.int (Int32.ofNat k)), .val (.int p2), .val (.int p3), .val (.int (5 : Int32)), .val (.ref b343), .val (.int (Int32.ofNat j))] [(.int p3), (.int (y370 j)), (.int (Int32.ofNat j)), (.ref b343)])) (fun _ kt => XS.iloadN X370.here hx rfl (hb hby d_method_5_code_139) rfl  kt) ?_
    refine Rch.of (T' := T370) (g' := (mkF m 141 #[.val (.ref a1), .val (.int (Int32.ofNat k)), .val (.int p2), .val (.int p3), .val (.int (5 : Int32)), .val (.ref b343), .val (.int (Int32.ofNat j))] [(.int ((y370 j) ^^^ p3)), (.int (Int32.ofNat j)), (.ref b343)])) (fun _ kt => XS.ixor X370.here hx rfl (hb hby d_method_5_code_140) rfl kt) ?_
    refine Rch.of (T' := T370) (g' := (mkF m 142 #[.val (.ref a1), .val (.int (Int32.ofNat k)), .val (.int p2), .val (.int p3), .val (.int (5 : Int32)), .val (.ref b343), .val (.int (Int32.ofNat j))] [(.int (((y370 j) ^^^ p3).toUInt32.toUInt16.toUInt32.toInt32)), (.int (Int32.ofNat j)), (.ref b343)])) (fun _ kt => XS.i2c X370.here hx rfl (hb hby d_method_5_code_141) rfl kt) ?_
    obtain ⟨cl378, Ar378, Sz378, Ha378⟩ := id V370
    obtain ⟨T378, h378, X378, e378, W378, st378⟩ := stC X370 hx hZ e370 Ar378 (j := (Int32.ofNat j)) (oIn (i := j) Sz378 tj hj) (g := (mkF m 142 #[.val (.ref a1), .val (.int (Int32.ofNat k)), .val (.int p2), .val (.int p3), .val (.int (5 : Int32)), .val (.ref b343), .val (.int (Int32.ofNat j))] [(.int (((y370 j) ^^^ p3).toUInt32.toUInt16.toUInt32.toInt32)), (.int (Int32.ofNat j)), (.ref b343)])) rfl rfl (hb hby d_method_5_code_142)
    have V378 := Av.setI (i := j) V370 tj hj W378
    obtain ⟨y378, hy378⟩ : ∃ zz_ : Nat → Int32, zz_ = fun q => if q = j then (((y370 j) ^^^ p3).toUInt32.toUInt16.toUInt32.toInt32).toUInt32.toUInt16.toUInt32.toInt32 else y370 q := ⟨_, rfl⟩
    have V378 : Av Z h378 b343 .char 5 (fun q => .int (y378 q)) := by rw [hy378]; exact V378
    have N378 := Fr.snoc X378 N370 ge_b343
    have Sf379 : Safe Z consts_1 s.vm h370 b343 := (Safe.exa hZ.alike (((((Q343.wr W347).wr W352).wr W358).wr W363).wr W370) (by decide) (by decide))
    refine Rch.of (T' := T378) (g' := (mkF m 143 #[.val (.ref a1), .val (.int (Int32.ofNat k)), .val (.int p2), .val (.int p3), .val (.int (5 : Int32)), .val (.ref b343), .val (.int (Int32.ofNat j))] [])) st378 ?_
    obtain ⟨T380, h380, X380, e380, E380, A380, D380, -, st380⟩ := newO X378 hx hZ hown (hw _ (List.mem_of_getElem? (i := 9) rfl)) (hw _ (List.mem_of_getElem? (i := 10) rfl)) (hw _ (List.mem_of_getElem? (i := 11) rfl)) e378 (g := (mkF m 143 #[.val (.ref a1), .val (.int (Int32.ofNat k)), .val (.int p2), .val (.int p3), .val (.int (5 : Int32)), .val (.ref b343), .val (.int (Int32.ofNat j))] [])) rfl (hb hby d_method_5_code_143) (by decide) (by decide)
    obtain ⟨b380, g380⟩ : ∃ zz_, zz_ = h378.size := ⟨_, rfl⟩
    have ne_a1_b380 : a1 ≠ b380 := Nat.ne_of_lt (Nat.lt_of_lt_of_le (((((((E1.ext E343).wr W347).wr W352).wr W358).wr W363).wr W370).wr W378).lt (Nat.le_of_eq g380.symm))
    have ne_b1_b380 : b1 ≠ b380 := Nat.ne_of_lt (Nat.lt_of_lt_of_le (((((((V1.ext E343).other W347 ne_b1_b343).other W352 ne_b1_b343).other W358 ne_b1_b343).other W363 ne_b1_b343).other W370 ne_b1_b343).other W378 ne_b1_b343).lt (Nat.le_of_eq g380.symm))
    have ne_b343_b380 : b343 ≠ b380 := Nat.ne_of_lt (Nat.lt_of_lt_of_le ((((((Q343.wr W347).wr W352).wr W358).wr W363).wr W370).wr W378).lt (Nat.le_of_eq g380.symm))
    have ge_b380 : n0 ≤ b380 := Nat.le_trans (Nat.le_trans (Nat.le_trans Fb366 (Keep.of_wr W370).1) (Keep.of_wr W378).1) (Nat.le_of_eq g380.symm)
    have sz_b380 : h0.size ≤ b380 := Nat.le_trans (Fb375.wr W378 (Or.inr sz_b343)).1 (Nat.le_of_eq g380.symm)
    rw [← g380] at A380 D380 st380
    have Fb381 := ((((((((V1.ext E343).other W347 ne_b1_b343).other W352 ne_b1_b343).other W358 ne_b1_b343).other W363 ne_b1_b343).other W370 ne_b1_b343).other W378 ne_b1_b343).ext E380)
    have F380_coder : Fld Z h380 b380 "java/lang/String" "coder" "B" (.int (0 : Int32)) := D380 (Or.inr (hw _ (List.mem_of_getElem? (i := 35) rfl))) (ty := .byte) (by decide)
    have F380_value : Fld Z h380 b380 "java/lang/String" "value" "[B" .null := D380 (Or.inr (hw _ (List.mem_of_getElem? (i := 37) rfl))) (ty := (.array .byte)) (by decide)
    refine Rch.of (T' := T380) (g' := (mkF m 146 #[.val (.ref a1), .val (.int (Int32.ofNat k)), .val (.int p2), .val (.int p3), .val (.int (5 : Int32)), .val (.ref b343), .val (.int (Int32.ofNat j))] [(.ref b380)])) st380 ?_
    refine Rch.of (T' := T380) (g' := (mkF m 147 #[.val (.ref a1), .val (.int (Int32.ofNat k)), .val (.int p2), .val (.int p3), .val (.int (5 : Int32)), .val (.ref b343), .val (.int (Int32.ofNat j))] [(.ref b380), (.ref b380)])) (fun _ kt => XS.dup X380.here hx rfl (hb hby d_method_5_code_146) rfl rfl kt) ?_
    refine Rch.of (T' := T380) (g' := (mkF m 149 #[.val (.ref a1), .val (.int (Int32.ofNat k)), .val (.int p2), .val (.int p3), .val (.int (5 : Int32)), .val (.ref b343), .val (.int (Int32.ofNat j))] [(.ref b343), (.ref b380), (.ref b380)])) (fun _ kt => XS.aload X380.here hx rfl (hb hby d_method_5_code_147) rfl rfl kt) ?_
    have pr383 : 5 ≤ 7 := by omega
    have hch384 : own_ch 5 y378 := by
      intro q hq
      rw [hy378]
      by_cases u : q = j
      · simp only [u, if_true]; exact own_c1i (own_c1i (own_c1x (hcl j hj) hp3))
      · simp only [u, if_false]; exact hcl q hq
    obtain ⟨_, _, ⟨T382, L382, k382, n382⟩, -, X382, hT382, gr382, ⟨Lc382, hQ382, l382, y382, z382, cr382⟩, st382⟩ := X380.specialBackS hx (y := (⟨"java/lang/String", "<init>", "([C)V"⟩ : MethodName)) rfl hown (mvT hZ (hw _ (List.mem_of_getElem? (i := 12) rfl))) (mvT hZ (hw _ (List.mem_of_getElem? (i := 13) rfl))) (mvT hZ (hw _ (List.mem_of_getElem? (i := 14) rfl))) (by decide) (backOfSH (s := s) (vm0 := s.vm) (EL := consts_1) (W := 1) (rqN1 l Z a0 hw [] b380 b343 5 y378 (.int (0 : Int32)) cs h380 n0 (Nat.le_trans (Nat.le_trans (Nat.le_trans Fb366 (Keep.of_wr W370).1) (Keep.of_wr W378).1) E380.1) A380 F380_coder F380_value ge_b380 (V378.ext E380) ((((((((SC.ext E343).wr W347).wr W352).wr W358).wr W363).wr W370).wr W378).ext E380) hcs pr383 hch384) hZ (hw _ (List.mem_of_getElem? (i := 14) rfl)) (hw _ (List.mem_of_getElem? (i := 11) rfl)) (by decide) (by decide) hEL ((Rb372.trans (CHr.wr W378 Sf379 Rb372.1)).trans (CHr.ext E380 (Rb372.trans (CHr.wr W378 Sf379 Rb372.1)).1)).1) (g := (mkF m 149 #[.val (.ref a1), .val (.int (Int32.ofNat k)), .val (.int p2), .val (.int p3), .val (.int (5 : Int32)), .val (.ref b343), .val (.int (Int32.ofNat j))] [(.ref b343), (.ref b380), (.ref b380)])) rfl (by rw [hml]; rfl) (Steps.refl _) (a := b380) (argsL := [(.ref b343)]) (rest := [(.ref b380)]) (lenOf pd_2 rfl) rfl (by show 2 * 0 + _ ≤ _; exact Nat.le_of_eq rfl) (hb hby d_method_5_code_149) (fun _ _ => ⟨rfl, e380, (by decide : 2 + 4 ≤ _), (by decide : 9 + 8 ≤ _)⟩)
    dsimp only [Pt.U, Pt.locs, Pt.cells, Pt.slots] at X382 hT382 gr382 l382 y382 z382 st382 hQ382 cr382
    subst l382 y382 z382
    obtain ⟨X382, hS382, hZ, hown⟩ := rebS hS0 (Nat.le_trans (Nat.le_trans (Nat.le_trans Fb365 (Keep.of_wr W370).1) (Keep.of_wr W378).1) E380.1) X382 hT382 (by rw [← e380]; exact gr382) hZ hown
    obtain ⟨rb382, rfl, N382q, hQ382⟩ := hQ382
    have N382 := Fr.app N378 N382q
    obtain ⟨K382, Ex382, Fa382, Fb382, V382⟩ := hQ382
    refine Rch.via (T' := T382) (g' := (mkF m 152 #[.val (.ref a1), .val (.int (Int32.ofNat k)), .val (.int p2), .val (.int p3), .val (.int (5 : Int32)), .val (.ref b343), .val (.int (Int32.ofNat j))] [(.ref b380)])) st382 ?_
    exact Rch.retA X382 hx (w := (.ref b380)) hret rfl rfl hlk (hb hby d_method_5_code_152) (fun U hU hF => hK _ U _ _ _ (by show Q_rkN5 Z a1 b1 y k p2 p3 cs sv h0 n0 _ U.heap _; rw [hU]; exact ⟨b380, rb382, y378, 5, rfl, N382, (((Fb375.wr W378 (Or.inr sz_b343)).ext E380).trans K382 (allS (Or.inr sz_b380) all0)), Ex382, Fa382, Fb382, V382, hch384, by decide⟩) (own_endH hZ hEL (((Rb372.trans (CHr.wr W378 Sf379 Rb372.1)).trans (CHr.ext E380 (Rb372.trans (CHr.wr W378 Sf379 Rb372.1)).1)).trans cr382) hU hF) (own_end hS382 (by rw [hU]; exact (Nat.le_refl _)) hF) (by decide) (by decide))
  · skip
    refine Rch.of (T' := T0) (g' := (mkF m 1 #[.val (.ref a1), .val (.int (Int32.ofNat k)), .val (.int p2), .val (.int p3), .unset, .unset, .unset] [(.ref a1)])) (fun _ kt => XS.aloadN X0.here hx rfl (hb hby d_method_5_code_0) rfl rfl kt) ?_
    obtain ⟨cq385, kq385, q385a, q385b, q385c⟩ := isOf hZ e0 E1
    obtain ⟨_, _, ⟨T385, L385, k385, n385⟩, -, X385, ⟨Lc385, hQ385, l385, y385, z385⟩, st385⟩ := X0.virtualBack hx (y := (⟨"java/lang/String", "length", "()I"⟩ : MethodName)) (z := (⟨"java/lang/String", "length", "()I"⟩ : MethodName)) hown (mvT hZ (hw _ (List.mem_of_getElem? (i := 91) rfl))) (mvT hZ (hw _ (List.mem_of_getElem? (i := 92) rfl))) (notFace_of_selects (args := #[]) (mvT hZ (hw _ (List.mem_of_getElem? (i := 94) rfl)))) (mvT hZ (hw _ (List.mem_of_getElem? (i := 94) rfl))) (mvT hZ (hw _ (List.mem_of_getElem? (i := 93) rfl))) (by decide) (backOf (W := 0) (rqLE l Z a0 hw [] a1 b1 5 y cs h0 n0 Z0 E1 F1 F2 V1 SC hcs) hZ (hw _ (List.mem_of_getElem? (i := 95) rfl)) (hw _ (List.mem_of_getElem? (i := 11) rfl)) (by decide) (by decide)) q385a q385c (g := (mkF m 1 #[.val (.ref a1), .val (.int (Int32.ofNat k)), .val (.int p2), .val (.int p3), .unset, .unset, .unset] [(.ref a1)])) rfl (by rw [hml]; rfl) (Steps.refl _) (argsL := []) (rest := []) (lenOf pd_16 rfl) rfl (by show 2 * 0 + _ ≤ _; exact Nat.le_of_eq rfl) (hb hby d_method_5_code_1) (fun _ _ => ⟨rfl, e0, (by decide : 0 + 0 ≤ _), (by decide : 0 + 0 ≤ _)⟩)
    dsimp only [Pt.U, Pt.locs, Pt.cells, Pt.slots] at X385 l385 y385 z385 st385 hQ385
    subst l385 y385 z385
    obtain ⟨rfl, N385q, hQ385⟩ := hQ385
    have N385 := Fr.app N0 N385q
    refine Rch.via (T' := T385) (g' := (mkF m 4 #[.val (.ref a1), .val (.int (Int32.ofNat k)), .val (.int p2), .val (.int p3), .unset, .unset, .unset] [(.int (Int32.ofNat 5))])) st385 ?_
    refine Rch.of (T' := T385) (g' := (mkF m 5 #[.val (.ref a1), .val (.int (Int32.ofNat k)), .val (.int p2), .val (.int p3), .unset, .unset, .unset] [(.int (Int32.ofNat k)), (.int (Int32.ofNat 5))])) (fun _ kt => XS.iloadN X385.here hx rfl (hb hby d_method_5_code_4) rfl  kt) ?_
    refine Rch.of (T' := T385) (g' := (mkF m 6 #[.val (.ref a1), .val (.int (Int32.ofNat k)), .val (.int p2), .val (.int p3), .unset, .unset, .unset] [(.int ((Int32.ofNat 5) - (Int32.ofNat k)))])) (fun _ kt => XS.isub X385.here hx rfl (hb hby d_method_5_code_5) rfl kt) ?_
    have sw386 : ((Int32.ofNat 5) - (Int32.ofNat k)) = (4 : Int32) := by rw [ek]; decide
    rw [sw386]
    show Rch p e below K T385 (mkF m 6 #[.val (.ref a1), .val (.int (Int32.ofNat k)), .val (.int p2), .val (.int p3), .unset, .unset, .unset] [(.int (4 : Int32))])
    refine Rch.of (T' := T385) (g' := (mkF m 8 #[.val (.ref a1), .val (.int (Int32.ofNat k)), .val (.int p2), .val (.int p3), .val (.int (4 : Int32)), .unset, .unset] [])) (fun _ kt => XS.istore X385.here hx rfl (hb hby d_method_5_code_6) rfl (l' := #[.val (.ref a1), .val (.int (Int32.ofNat k)), .val (.int p2), .val (.int p3), .val (.int (4 : Int32)), .unset, .unset]) rfl kt) ?_
    refine Rch.of (T' := T385) (g' := (mkF m 10 #[.val (.ref a1), .val (.int (Int32.ofNat k)), .val (.int p2), .val (.int p3), .val (.int (4 : Int32)), .unset, .unset] [(.int (4 : Int32))])) (fun _ kt => XS.iload X385.here hx rfl (hb hby d_method_5_code_8) rfl  kt) ?_
    obtain ⟨T387, h387, k387, X387, e387, E387, A387, Q387, st387⟩ := newPE X385 hx hZ (hw _ (List.mem_of_getElem? (i := 4) rfl)) hQ385 (g := (mkF m 10 #[.val (.ref a1), .val (.int (Int32.ofNat k)), .val (.int p2), .val (.int p3), .val (.int (4 : Int32)), .unset, .unset] [(.int (4 : Int32))])) rfl (hb hby d_method_5_code_10) rfl (by decide) (cap := 4) (by decide) (by decide) (by decide) (by decide) (ad := "[C") rfl
    obtain ⟨b387, g387⟩ : ∃ zz_, zz_ = h0.size := ⟨_, rfl⟩
    have ne_a1_b387 : a1 ≠ b387 := Nat.ne_of_lt (Nat.lt_of_lt_of_le E1.lt (Nat.le_of_eq g387.symm))
    have ne_b1_b387 : b1 ≠ b387 := Nat.ne_of_lt (Nat.lt_of_lt_of_le V1.lt (Nat.le_of_eq g387.symm))
    have ge_b387 : n0 ≤ b387 := Nat.le_trans Z0 (Nat.le_of_eq g387.symm)
    have sz_b387 : h0.size ≤ b387 := Nat.le_trans (Keep.refl h0 []).1 (Nat.le_of_eq g387.symm)
    rw [← g387] at A387 Q387 st387
    have V387 : Av Z h387 b387 .char 4 (fun _ => (.int (0 : Int32))) := Av.new A387 (by decide)
    refine Rch.of (T' := T387) (g' := (mkF m 12 #[.val (.ref a1), .val (.int (Int32.ofNat k)), .val (.int p2), .val (.int p3), .val (.int (4 : Int32)), .unset, .unset] [(.ref b387)])) st387 ?_
    refine Rch.of (T' := T387) (g' := (mkF m 14 #[.val (.ref a1), .val (.int (Int32.ofNat k)), .val (.int p2), .val (.int p3), .val (.int (4 : Int32)), .val (.ref b387), .unset] [])) (fun _ kt => XS.astore X387.here hx rfl (hb hby d_method_5_code_12) rfl rfl (l' := #[.val (.ref a1), .val (.int (Int32.ofNat k)), .val (.int p2), .val (.int p3), .val (.int (4 : Int32)), .val (.ref b387), .unset]) rfl kt) ?_
    refine Rch.of (T' := T387) (g' := (mkF m 16 #[.val (.ref a1), .val (.int (Int32.ofNat k)), .val (.int p2), .val (.int p3), .val (.int (4 : Int32)), .val (.ref b387), .unset] [(.int (4 : Int32))])) (fun _ kt => XS.iload X387.here hx rfl (hb hby d_method_5_code_14) rfl  kt) ?_
    refine Rch.of (T' := T387) (g' := (mkF m 19 #[.val (.ref a1), .val (.int (Int32.ofNat k)), .val (.int p2), .val (.int p3), .val (.int (4 : Int32)), .val (.ref b387), .unset] [])) (fun _ kt => XS.ifNo X387.here hx rfl (hb hby d_method_5_code_16) rfl ((if0 _ _).trans (tlt ((by decide) : (0 : Int32) < (4 : Int32))).2.2.2) kt) ?_
    refine Rch.of (T' := T387) (g' := (mkF m 21 #[.val (.ref a1), .val (.int (Int32.ofNat k)), .val (.int p2), .val (.int p3), .val (.int (4 : Int32)), .val (.ref b387), .unset] [(.ref b387)])) (fun _ kt => XS.aload X387.here hx rfl (hb hby d_method_5_code_19) rfl rfl kt) ?_
    refine Rch.of (T' := T387) (g' := (mkF m 22 #[.val (.ref a1), .val (.int (Int32.ofNat k)), .val (.int p2), .val (.int p3), .val (.int (4 : Int32)), .val (.ref b387), .unset] [(.int (0 : Int32)), (.ref b387)])) (fun _ kt => XS.iconst X387.here hx rfl (hb hby d_method_5_code_21) kt) ?_
    refine Rch.of (T' := T387) (g' := (mkF m 23 #[.val (.ref a1), .val (.int (Int32.ofNat k)), .val (.int p2), .val (.int p3), .val (.int (4 : Int32)), .val (.ref b387), .unset] [(.ref a1), (.int (0 : Int32)), (.ref b387)])) (fun _ kt => XS.aloadN X387.here hx rfl (hb hby d_method_5_code_22) rfl rfl kt) ?_
    refine Rch.of (T' := T387) (g' := (mkF m 24 #[.val (.ref a1), .val (.int (Int32.ofNat k)), .val (.int p2), .val (.int p3), .val (.int (4 : Int32)), .val (.ref b387), .unset] [(.int (0 : Int32)), (.ref a1), (.int (0 : Int32)), (.ref b387)])) (fun _ kt => XS.iconst X387.here hx rfl (hb hby d_method_5_code_23) kt) ?_
    have pr389 : 0 < 5 := by omega
    have pr390 : 5 ≤ 7 := by omega
    obtain ⟨cq388, kq388, q388a, q388b, q388c⟩ := isOf hZ e387 (E1.ext E387)
    obtain ⟨_, _, ⟨T388, L388, k388, n388⟩, -, X388, ⟨Lc388, hQ388, l388, y388, z388⟩, st388⟩ := X387.virtualBack hx (y := (⟨"java/lang/String", "charAt", "(I)C"⟩ : MethodName)) (z := (⟨"java/lang/String", "charAt", "(I)C"⟩ : MethodName)) hown (mvT hZ (hw _ (List.mem_of_getElem? (i := 101) rfl))) (mvT hZ (hw _ (List.mem_of_getElem? (i := 102) rfl))) (notFace_of_selects (args := #[]) (mvT hZ (hw _ (List.mem_of_getElem? (i := 104) rfl)))) (mvT hZ (hw _ (List.mem_of_getElem? (i := 104) rfl))) (mvT hZ (hw _ (List.mem_of_getElem? (i := 103) rfl))) (by decide) (backOf (W := 2) (rqCA l Z a0 hw [] a1 b1 5 y 0 cs sv h387 n0 (Nat.le_trans Z0 E387.1) (E1.ext E387) (F1.ext E387) (F2.ext E387) (V1.ext E387) pr389 pr390 hy (SC.ext E387) hcs (SI.ext E387) hsv) hZ (hw _ (List.mem_of_getElem? (i := 105) rfl)) (hw _ (List.mem_of_getElem? (i := 11) rfl)) (by decide) (by decide)) q388a q388c (g := (mkF m 24 #[.val (.ref a1), .val (.int (Int32.ofNat k)), .val (.int p2), .val (.int p3), .val (.int (4 : Int32)), .val (.ref b387), .unset] [(.int (0 : Int32)), (.ref a1), (.int (0 : Int32)), (.ref b387)])) rfl (by rw [hml]; rfl) (Steps.refl _) (argsL := [(.int (0 : Int32))]) (rest := [(.int (0 : Int32)), (.ref b387)]) (lenOf pd_18 rfl) rfl (by show 2 * 0 + _ ≤ _; exact Nat.le_of_eq rfl) (hb hby d_method_5_code_24) (fun _ _ => ⟨rfl, e387, (by decide : 1 + 0 ≤ _), (by decide : 4 + 0 ≤ _)⟩)
    dsimp only [Pt.U, Pt.locs, Pt.cells, Pt.slots] at X388 l388 y388 z388 st388 hQ388
    subst l388 y388 z388
    obtain ⟨rfl, N388q, hQ388⟩ := hQ388
    have N388 := Fr.app N385 N388q
    refine Rch.via (T' := T388) (g' := (mkF m 27 #[.val (.ref a1), .val (.int (Int32.ofNat k)), .val (.int p2), .val (.int p3), .val (.int (4 : Int32)), .val (.ref b387), .unset] [(.int (y 0)), (.int (0 : Int32)), (.ref b387)])) st388 ?_
    obtain ⟨cl391, Ar391, Sz391, Ha391⟩ := id V387
    obtain ⟨T391, h391, X391, e391, W391, st391⟩ := stC X388 hx hZ hQ388 Ar391 (j := (0 : Int32)) (oIn (i := 0) Sz391 (by decide) (by decide)) (g := (mkF m 27 #[.val (.ref a1), .val (.int (Int32.ofNat k)), .val (.int p2), .val (.int p3), .val (.int (4 : Int32)), .val (.ref b387), .unset] [(.int (y 0)), (.int (0 : Int32)), (.ref b387)])) rfl rfl (hb hby d_method_5_code_27)
    have V391 := Av.setI (i := 0) V387 (by decide) (by decide) W391
    obtain ⟨y391, hy391⟩ : ∃ zz_ : Nat → Int32, zz_ = fun q => if q = 0 then (y 0).toUInt32.toUInt16.toUInt32.toInt32 else (fun _ => (0 : Int32)) q := ⟨_, rfl⟩
    have V391 : Av Z h391 b387 .char 4 (fun q => .int (y391 q)) := by rw [hy391]; exact V391
    have N391 := Fr.snoc X391 N388 ge_b387
    have Sf392 : Safe Z consts_1 s.vm h387 b387 := (Safe.exa hZ.alike Q387 (by decide) (by decide))
    refine Rch.of (T' := T391) (g' := (mkF m 28 #[.val (.ref a1), .val (.int (Int32.ofNat k)), .val (.int p2), .val (.int p3), .val (.int (4 : Int32)), .val (.ref b387), .unset] [])) st391 ?_
    refine Rch.of (T' := T391) (g' := (mkF m 30 #[.val (.ref a1), .val (.int (Int32.ofNat k)), .val (.int p2), .val (.int p3), .val (.int (4 : Int32)), .val (.ref b387), .unset] [(.int (4 : Int32))])) (fun _ kt => XS.iload X391.here hx rfl (hb hby d_method_5_code_28) rfl  kt) ?_
    refine Rch.of (T' := T391) (g' := (mkF m 31 #[.val (.ref a1), .val (.int (Int32.ofNat k)), .val (.int p2), .val (.int p3), .val (.int (4 : Int32)), .val (.ref b387), .unset] [(.int (1 : Int32)), (.int (4 : Int32))])) (fun _ kt => XS.iconst X391.here hx rfl (hb hby d_method_5_code_30) kt) ?_
    refine Rch.of (T' := T391) (g' := (mkF m 34 #[.val (.ref a1), .val (.int (Int32.ofNat k)), .val (.int p2), .val (.int p3), .val (.int (4 : Int32)), .val (.ref b387), .unset] [])) (fun _ kt => XS.icmpNo X391.here hx rfl (hb hby d_method_5_code_31) rfl (tlt ((by decide) : (1 : Int32) < (4 : Int32))).2.2.2 kt) ?_
    refine Rch.of (T' := T391) (g' := (mkF m 36 #[.val (.ref a1), .val (.int (Int32.ofNat k)), .val (.int p2), .val (.int p3), .val (.int (4 : Int32)), .val (.ref b387), .unset] [(.ref b387)])) (fun _ kt => XS.aload X391.here hx rfl (hb hby d_method_5_code_34) rfl rfl kt) ?_
    refine Rch.of (T' := T391) (g' := (mkF m 37 #[.val (.ref a1), .val (.int (Int32.ofNat k)), .val (.int p2), .val (.int p3), .val (.int (4 : Int32)), .val (.ref b387), .unset] [(.int (1 : Int32)), (.ref b387)])) (fun _ kt => XS.iconst X391.here hx rfl (hb hby d_method_5_code_36) kt) ?_
    refine Rch.of (T' := T391) (g' := (mkF m 38 #[.val (.ref a1), .val (.int (Int32.ofNat k)), .val (.int p2), .val (.int p3), .val (.int (4 : Int32)), .val (.ref b387), .unset] [(.ref a1), (.int (1 : Int32)), (.ref b387)])) (fun _ kt => XS.aloadN X391.here hx rfl (hb hby d_method_5_code_37) rfl rfl kt) ?_
    refine Rch.of (T' := T391) (g' := (mkF m 39 #[.val (.ref a1), .val (.int (Int32.ofNat k)), .val (.int p2), .val (.int p3), .val (.int (4 : Int32)), .val (.ref b387), .unset] [(.int (1 : Int32)), (.ref a1), (.int (1 : Int32)), (.ref b387)])) (fun _ kt => XS.iconst X391.here hx rfl (hb hby d_method_5_code_38) kt) ?_
    have pr394 : 1 < 5 := by omega
    have pr395 : 5 ≤ 7 := by omega
    obtain ⟨cq393, kq393, q393a, q393b, q393c⟩ := isOf hZ e391 ((E1.ext E387).wr W391)
    obtain ⟨_, _, ⟨T393, L393, k393, n393⟩, -, X393, ⟨Lc393, hQ393, l393, y393, z393⟩, st393⟩ := X391.virtualBack hx (y := (⟨"java/lang/String", "charAt", "(I)C"⟩ : MethodName)) (z := (⟨"java/lang/String", "charAt", "(I)C"⟩ : MethodName)) hown (mvT hZ (hw _ (List.mem_of_getElem? (i := 101) rfl))) (mvT hZ (hw _ (List.mem_of_getElem? (i := 102) rfl))) (notFace_of_selects (args := #[]) (mvT hZ (hw _ (List.mem_of_getElem? (i := 104) rfl)))) (mvT hZ (hw _ (List.mem_of_getElem? (i := 104) rfl))) (mvT hZ (hw _ (List.mem_of_getElem? (i := 103) rfl))) (by decide) (backOf (W := 2) (rqCA l Z a0 hw [] a1 b1 5 y 1 cs sv h391 n0 (Nat.le_trans (Nat.le_trans Z0 E387.1) (Keep.of_wr W391).1) ((E1.ext E387).wr W391) ((F1.ext E387).other W391 (Or.inl ne_a1_b387)) ((F2.ext E387).other W391 (Or.inl ne_a1_b387)) ((V1.ext E387).other W391 ne_b1_b387) pr394 pr395 hy ((SC.ext E387).wr W391) hcs ((SI.ext E387).wr W391) hsv) hZ (hw _ (List.mem_of_getElem? (i := 105) rfl)) (hw _ (List.mem_of_getElem? (i := 11) rfl)) (by decide) (by decide)) q393a q393c (g := (mkF m 39 #[.val (.ref a1), .val (.int (Int32.ofNat k)), .val (.int p2), .val (.int p3), .val (.int (4 : Int32)), .val (.ref b387), .unset] [(.int (1 : Int32)), (.ref a1), (.int (1 : Int32)), (.ref b387)])) rfl (by rw [hml]; rfl) (Steps.refl _) (argsL := [(.int (1 : Int32))]) (rest := [(.int (1 : Int32)), (.ref b387)]) (lenOf pd_18 rfl) rfl (by show 2 * 0 + _ ≤ _; exact Nat.le_of_eq rfl) (hb hby d_method_5_code_39) (fun _ _ => ⟨rfl, e391, (by decide : 1 + 0 ≤ _), (by decide : 4 + 0 ≤ _)⟩)
    dsimp only [Pt.U, Pt.locs, Pt.cells, Pt.slots] at X393 l393 y393 z393 st393 hQ393
    subst l393 y393 z393
    obtain ⟨rfl, N393q, hQ393⟩ := hQ393
    have N393 := Fr.app N391 N393q
    refine Rch.via (T' := T393) (g' := (mkF m 42 #[.val (.ref a1), .val (.int (Int32.ofNat k)), .val (.int p2), .val (.int p3), .val (.int (4 : Int32)), .val (.ref b387), .unset] [(.int (y 1)), (.int (1 : Int32)), (.ref b387)])) st393 ?_
    obtain ⟨cl396, Ar396, Sz396, Ha396⟩ := id V391
    obtain ⟨T396, h396, X396, e396, W396, st396⟩ := stC X393 hx hZ hQ393 Ar396 (j := (1 : Int32)) (oIn (i := 1) Sz396 (by decide) (by decide)) (g := (mkF m 42 #[.val (.ref a1), .val (.int (Int32.ofNat k)), .val (.int p2), .val (.int p3), .val (.int (4 : Int32)), .val (.ref b387), .unset] [(.int (y 1)), (.int (1 : Int32)), (.ref b387)])) rfl rfl (hb hby d_method_5_code_42)
    have V396 := Av.setI (i := 1) V391 (by decide) (by decide) W396
    obtain ⟨y396, hy396⟩ : ∃ zz_ : Nat → Int32, zz_ = fun q => if q = 1 then (y 1).toUInt32.toUInt16.toUInt32.toInt32 else y391 q := ⟨_, rfl⟩
    have V396 : Av Z h396 b387 .char 4 (fun q => .int (y396 q)) := by rw [hy396]; exact V396
    have N396 := Fr.snoc X396 N393 ge_b387
    have Sf397 : Safe Z consts_1 s.vm h391 b387 := (Safe.exa hZ.alike (Q387.wr W391) (by decide) (by decide))
    have Rb398 := (((R0.trans (CHr.ext E387 R0.1)).trans (CHr.wr W391 Sf392 (R0.trans (CHr.ext E387 R0.1)).1)).trans (CHr.wr W396 Sf397 ((R0.trans (CHr.ext E387 R0.1)).trans (CHr.wr W391 Sf392 (R0.trans (CHr.ext E387 R0.1)).1)).1))
    refine Rch.of (T' := T396) (g' := (mkF m 43 #[.val (.ref a1), .val (.int (Int32.ofNat k)), .val (.int p2), .val (.int p3), .val (.int (4 : Int32)), .val (.ref b387), .unset] [])) st396 ?_
    refine Rch.of (T' := T396) (g' := (mkF m 45 #[.val (.ref a1), .val (.int (Int32.ofNat k)), .val (.int p2), .val (.int p3), .val (.int (4 : Int32)), .val (.ref b387), .unset] [(.int (4 : Int32))])) (fun _ kt => XS.iload X396.here hx rfl (hb hby d_method_5_code_43) rfl  kt) ?_
    refine Rch.of (T' := T396) (g' := (mkF m 46 #[.val (.ref a1), .val (.int (Int32.ofNat k)), .val (.int p2), .val (.int p3), .val (.int (4 : Int32)), .val (.ref b387), .unset] [(.int (2 : Int32)), (.int (4 : Int32))])) (fun _ kt => XS.iconst X396.here hx rfl (hb hby d_method_5_code_45) kt) ?_
    refine Rch.of (T' := T396) (g' := (mkF m 49 #[.val (.ref a1), .val (.int (Int32.ofNat k)), .val (.int p2), .val (.int p3), .val (.int (4 : Int32)), .val (.ref b387), .unset] [])) (fun _ kt => XS.icmpNo X396.here hx rfl (hb hby d_method_5_code_46) rfl (tlt ((by decide) : (2 : Int32) < (4 : Int32))).2.2.2 kt) ?_
    refine Rch.of (T' := T396) (g' := (mkF m 51 #[.val (.ref a1), .val (.int (Int32.ofNat k)), .val (.int p2), .val (.int p3), .val (.int (4 : Int32)), .val (.ref b387), .unset] [(.ref b387)])) (fun _ kt => XS.aload X396.here hx rfl (hb hby d_method_5_code_49) rfl rfl kt) ?_
    refine Rch.of (T' := T396) (g' := (mkF m 52 #[.val (.ref a1), .val (.int (Int32.ofNat k)), .val (.int p2), .val (.int p3), .val (.int (4 : Int32)), .val (.ref b387), .unset] [(.int (2 : Int32)), (.ref b387)])) (fun _ kt => XS.iconst X396.here hx rfl (hb hby d_method_5_code_51) kt) ?_
    refine Rch.of (T' := T396) (g' := (mkF m 53 #[.val (.ref a1), .val (.int (Int32.ofNat k)), .val (.int p2), .val (.int p3), .val (.int (4 : Int32)), .val (.ref b387), .unset] [(.ref a1), (.int (2 : Int32)), (.ref b387)])) (fun _ kt => XS.aloadN X396.here hx rfl (hb hby d_method_5_code_52) rfl rfl kt) ?_
    refine Rch.of (T' := T396) (g' := (mkF m 54 #[.val (.ref a1), .val (.int (Int32.ofNat k)), .val (.int p2), .val (.int p3), .val (.int (4 : Int32)), .val (.ref b387), .unset] [(.int (2 : Int32)), (.ref a1), (.int (2 : Int32)), (.ref b387)])) (fun _ kt => XS.iconst X396.here hx rfl (hb hby d_method_5_code_53) kt) ?_
    have pr400 : 2 < 5 := by omega
    have pr401 : 5 ≤ 7 := by omega
    obtain ⟨cq399, kq399, q399a, q399b, q399c⟩ := isOf hZ e396 (((E1.ext E387).wr W391).wr W396)
    obtain ⟨_, _, ⟨T399, L399, k399, n399⟩, -, X399, ⟨Lc399, hQ399, l399, y399, z399⟩, st399⟩ := X396.virtualBack hx (y := (⟨"java/lang/String", "charAt", "(I)C"⟩ : MethodName)) (z := (⟨"java/lang/String", "charAt", "(I)C"⟩ : MethodName)) hown (mvT hZ (hw _ (List.mem_of_getElem? (i := 101) rfl))) (mvT hZ (hw _ (List.mem_of_getElem? (i := 102) rfl))) (notFace_of_selects (args := #[]) (mvT hZ (hw _ (List.mem_of_getElem? (i := 104) rfl)))) (mvT hZ (hw _ (List.mem_of_getElem? (i := 104) rfl))) (mvT hZ (hw _ (List.mem_of_getElem? (i := 103) rfl))) (by decide) (backOf (W := 2) (rqCA l Z a0 hw [] a1 b1 5 y 2 cs sv h396 n0 (Nat.le_trans (Nat.le_trans (Nat.le_trans Z0 E387.1) (Keep.of_wr W391).1) (Keep.of_wr W396).1) (((E1.ext E387).wr W391).wr W396) (((F1.ext E387).other W391 (Or.inl ne_a1_b387)).other W396 (Or.inl ne_a1_b387)) (((F2.ext E387).other W391 (Or.inl ne_a1_b387)).other W396 (Or.inl ne_a1_b387)) (((V1.ext E387).other W391 ne_b1_b387).other W396 ne_b1_b387) pr400 pr401 hy (((SC.ext E387).wr W391).wr W396) hcs (((SI.ext E387).wr W391).wr W396) hsv) hZ (hw _ (List.mem_of_getElem? (i := 105) rfl)) (hw _ (List.mem_of_getElem? (i := 11) rfl)) (by decide) (by decide)) q399a q399c (g := (mkF m 54 #[.val (.ref a1), .val (.int (Int32.ofNat k)), .val (.int p2), .val (.int p3), .val (.int (4 : Int32)), .val (.ref b387), .unset] [(.int (2 : Int32)), (.ref a1), (.int (2 : Int32)), (.ref b387)])) rfl (by rw [hml]; rfl) (Steps.refl _) (argsL := [(.int (2 : Int32))]) (rest := [(.int (2 : Int32)), (.ref b387)]) (lenOf pd_18 rfl) rfl (by show 2 * 0 + _ ≤ _; exact Nat.le_of_eq rfl) (hb hby d_method_5_code_54) (fun _ _ => ⟨rfl, e396, (by decide : 1 + 0 ≤ _), (by decide : 4 + 0 ≤ _)⟩)
    dsimp only [Pt.U, Pt.locs, Pt.cells, Pt.slots] at X399 l399 y399 z399 st399 hQ399
    subst l399 y399 z399
    obtain ⟨rfl, N399q, hQ399⟩ := hQ399
    have N399 := Fr.app N396 N399q
    refine Rch.via (T' := T399) (g' := (mkF m 57 #[.val (.ref a1), .val (.int (Int32.ofNat k)), .val (.int p2), .val (.int p3), .val (.int (4 : Int32)), .val (.ref b387), .unset] [(.int (y 2)), (.int (2 : Int32)), (.ref b387)])) st399 ?_
    obtain ⟨cl402, Ar402, Sz402, Ha402⟩ := id V396
    obtain ⟨T402, h402, X402, e402, W402, st402⟩ := stC X399 hx hZ hQ399 Ar402 (j := (2 : Int32)) (oIn (i := 2) Sz402 (by decide) (by decide)) (g := (mkF m 57 #[.val (.ref a1), .val (.int (Int32.ofNat k)), .val (.int p2), .val (.int p3), .val (.int (4 : Int32)), .val (.ref b387), .unset] [(.int (y 2)), (.int (2 : Int32)), (.ref b387)])) rfl rfl (hb hby d_method_5_code_57)
    have V402 := Av.setI (i := 2) V396 (by decide) (by decide) W402
    obtain ⟨y402, hy402⟩ : ∃ zz_ : Nat → Int32, zz_ = fun q => if q = 2 then (y 2).toUInt32.toUInt16.toUInt32.toInt32 else y396 q := ⟨_, rfl⟩
    have V402 : Av Z h402 b387 .char 4 (fun q => .int (y402 q)) := by rw [hy402]; exact V402
    have N402 := Fr.snoc X402 N399 ge_b387
    have Sf403 : Safe Z consts_1 s.vm h396 b387 := (Safe.exa hZ.alike ((Q387.wr W391).wr W396) (by decide) (by decide))
    refine Rch.of (T' := T402) (g' := (mkF m 58 #[.val (.ref a1), .val (.int (Int32.ofNat k)), .val (.int p2), .val (.int p3), .val (.int (4 : Int32)), .val (.ref b387), .unset] [])) st402 ?_
    refine Rch.of (T' := T402) (g' := (mkF m 60 #[.val (.ref a1), .val (.int (Int32.ofNat k)), .val (.int p2), .val (.int p3), .val (.int (4 : Int32)), .val (.ref b387), .unset] [(.int (4 : Int32))])) (fun _ kt => XS.iload X402.here hx rfl (hb hby d_method_5_code_58) rfl  kt) ?_
    refine Rch.of (T' := T402) (g' := (mkF m 61 #[.val (.ref a1), .val (.int (Int32.ofNat k)), .val (.int p2), .val (.int p3), .val (.int (4 : Int32)), .val (.ref b387), .unset] [(.int (3 : Int32)), (.int (4 : Int32))])) (fun _ kt => XS.iconst X402.here hx rfl (hb hby d_method_5_code_60) kt) ?_
    refine Rch.of (T' := T402) (g' := (mkF m 64 #[.val (.ref a1), .val (.int (Int32.ofNat k)), .val (.int p2), .val (.int p3), .val (.int (4 : Int32)), .val (.ref b387), .unset] [])) (fun _ kt => XS.icmpNo X402.here hx rfl (hb hby d_method_5_code_61) rfl (tlt ((by decide) : (3 : Int32) < (4 : Int32))).2.2.2 kt) ?_
    refine Rch.of (T' := T402) (g' := (mkF m 66 #[.val (.ref a1), .val (.int (Int32.ofNat k)), .val (.int p2), .val (.int p3), .val (.int (4 : Int32)), .val (.ref b387), .unset] [(.ref b387)])) (fun _ kt => XS.aload X402.here hx rfl (hb hby d_method_5_code_64) rfl rfl kt) ?_
    refine Rch.of (T' := T402) (g' := (mkF m 67 #[.val (.ref a1), .val (.int (Int32.ofNat k)), .val (.int p2), .val (.int p3), .val (.int (4 : Int32)), .val (.ref b387), .unset] [(.int (3 : Int32)), (.ref b387)])) (fun _ kt => XS.iconst X402.here hx rfl (hb hby d_method_5_code_66) kt) ?_
    refine Rch.of (T' := T402) (g' := (mkF m 68 #[.val (.ref a1), .val (.int (Int32.ofNat k)), .val (.int p2), .val (.int p3), .val (.int (4 : Int32)), .val (.ref b387), .unset] [(.ref a1), (.int (3 : Int32)), (.ref b387)])) (fun _ kt => XS.aloadN X402.here hx rfl (hb hby d_method_5_code_67) rfl rfl kt) ?_
    refine Rch.of (T' := T402) (g' := (mkF m 69 #[.val (.ref a1), .val (.int (Int32.ofNat k)), .val (.int p2), .val (.int p3), .val (.int (4 : Int32)), .val (.ref b387), .unset] [(.int (3 : Int32)), (.ref a1), (.int (3 : Int32)), (.ref b387)])) (fun _ kt => XS.iconst X402.here hx rfl (hb hby d_method_5_code_68) kt) ?_
    have pr405 : 3 < 5 := by omega
    have pr406 : 5 ≤ 7 := by omega
    obtain ⟨cq404, kq404, q404a, q404b, q404c⟩ := isOf hZ e402 ((((E1.ext E387).wr W391).wr W396).wr W402)
    obtain ⟨_, _, ⟨T404, L404, k404, n404⟩, -, X404, ⟨Lc404, hQ404, l404, y404, z404⟩, st404⟩ := X402.virtualBack hx (y := (⟨"java/lang/String", "charAt", "(I)C"⟩ : MethodName)) (z := (⟨"java/lang/String", "charAt", "(I)C"⟩ : MethodName)) hown (mvT hZ (hw _ (List.mem_of_getElem? (i := 101) rfl))) (mvT hZ (hw _ (List.mem_of_getElem? (i := 102) rfl))) (notFace_of_selects (args := #[]) (mvT hZ (hw _ (List.mem_of_getElem? (i := 104) rfl)))) (mvT hZ (hw _ (List.mem_of_getElem? (i := 104) rfl))) (mvT hZ (hw _ (List.mem_of_getElem? (i := 103) rfl))) (by decide) (backOf (W := 2) (rqCA l Z a0 hw [] a1 b1 5 y 3 cs sv h402 n0 (Nat.le_trans (Nat.le_trans (Nat.le_trans (Nat.le_trans Z0 E387.1) (Keep.of_wr W391).1) (Keep.of_wr W396).1) (Keep.of_wr W402).1) ((((E1.ext E387).wr W391).wr W396).wr W402) ((((F1.ext E387).other W391 (Or.inl ne_a1_b387)).other W396 (Or.inl ne_a1_b387)).other W402 (Or.inl ne_a1_b387)) ((((F2.ext E387).other W391 (Or.inl ne_a1_b387)).other W396 (Or.inl ne_a1_b387)).other W402 (Or.inl ne_a1_b387)) ((((V1.ext E387).other W391 ne_b1_b387).other W396 ne_b1_b387).other W402 ne_b1_b387) pr405 pr406 hy ((((SC.ext E387).wr W391).wr W396).wr W402) hcs ((((SI.ext E387).wr W391).wr W396).wr W402) hsv) hZ (hw _ (List.mem_of_getElem? (i := 105) rfl)) (hw _ (List.mem_of_getElem? (i := 11) rfl)) (by decide) (by decide)) q404a q404c (g := (mkF m 69 #[.val (.ref a1), .val (.int (Int32.ofNat k)), .val (.int p2), .val (.int p3), .val (.int (4 : Int32)), .val (.ref b387), .unset] [(.int (3 : Int32)), (.ref a1), (.int (3 : Int32)), (.ref b387)])) rfl (by rw [hml]; rfl) (Steps.refl _) (argsL := [(.int (3 : Int32))]) (rest := [(.int (3 : Int32)), (.ref b387)]) (lenOf pd_18 rfl) rfl (by show 2 * 0 + _ ≤ _; exact Nat.le_of_eq rfl) (hb hby d_method_5_code_69) (fun _ _ => ⟨rfl, e402, (by decide : 1 + 0 ≤ _), (by decide : 4 + 0 ≤ _)⟩)
    dsimp only [Pt.U, Pt.locs, Pt.cells, Pt.slots] at X404 l404 y404 z404 st404 hQ404
    subst l404 y404 z404
    obtain ⟨rfl, N404q, hQ404⟩ := hQ404
    have N404 := Fr.app N402 N404q
    refine Rch.via (T' := T404) (g' := (mkF m 72 #[.val (.ref a1), .val (.int (Int32.ofNat k)), .val (.int p2), .val (.int p3), .val (.int (4 : Int32)), .val (.ref b387), .unset] [(.int (y 3)), (.int (3 : Int32)), (.ref b387)])) st404 ?_
    obtain ⟨cl407, Ar407, Sz407, Ha407⟩ := id V402
    obtain ⟨T407, h407, X407, e407, W407, st407⟩ := stC X404 hx hZ hQ404 Ar407 (j := (3 : Int32)) (oIn (i := 3) Sz407 (by decide) (by decide)) (g := (mkF m 72 #[.val (.ref a1), .val (.int (Int32.ofNat k)), .val (.int p2), .val (.int p3), .val (.int (4 : Int32)), .val (.ref b387), .unset] [(.int (y 3)), (.int (3 : Int32)), (.ref b387)])) rfl rfl (hb hby d_method_5_code_72)
    have V407 := Av.setI (i := 3) V402 (by decide) (by decide) W407
    obtain ⟨y407, hy407⟩ : ∃ zz_ : Nat → Int32, zz_ = fun q => if q = 3 then (y 3).toUInt32.toUInt16.toUInt32.toInt32 else y402 q := ⟨_, rfl⟩
    have V407 : Av Z h407 b387 .char 4 (fun q => .int (y407 q)) := by rw [hy407]; exact V407
    have N407 := Fr.snoc X407 N404 ge_b387
    have Sf408 : Safe Z consts_1 s.vm h402 b387 := (Safe.exa hZ.alike (((Q387.wr W391).wr W396).wr W402) (by decide) (by decide))
    have Fb409 := (Nat.le_trans (Nat.le_trans (Nat.le_trans (Nat.le_trans (Nat.le_trans hk0 E387.1) (Keep.of_wr W391).1) (Keep.of_wr W396).1) (Keep.of_wr W402).1) (Keep.of_wr W407).1)
    have Fb410 := (Nat.le_trans (Nat.le_trans (Nat.le_trans (Nat.le_trans (Nat.le_trans Z0 E387.1) (Keep.of_wr W391).1) (Keep.of_wr W396).1) (Keep.of_wr W402).1) (Keep.of_wr W407).1)
    refine Rch.of (T' := T407) (g' := (mkF m 73 #[.val (.ref a1), .val (.int (Int32.ofNat k)), .val (.int p2), .val (.int p3), .val (.int (4 : Int32)), .val (.ref b387), .unset] [])) st407 ?_
    refine Rch.of (T' := T407) (g' := (mkF m 75 #[.val (.ref a1), .val (.int (Int32.ofNat k)), .val (.int p2), .val (.int p3), .val (.int (4 : Int32)), .val (.ref b387), .unset] [(.int (4 : Int32))])) (fun _ kt => XS.iload X407.here hx rfl (hb hby d_method_5_code_73) rfl  kt) ?_
    refine Rch.of (T' := T407) (g' := (mkF m 76 #[.val (.ref a1), .val (.int (Int32.ofNat k)), .val (.int p2), .val (.int p3), .val (.int (4 : Int32)), .val (.ref b387), .unset] [(.int (4 : Int32)), (.int (4 : Int32))])) (fun _ kt => XS.iconst X407.here hx rfl (hb hby d_method_5_code_75) kt) ?_
    refine Rch.of (T' := T407) (g' := (mkF m 88 #[.val (.ref a1), .val (.int (Int32.ofNat k)), .val (.int p2), .val (.int p3), .val (.int (4 : Int32)), .val (.ref b387), .unset] [])) (fun _ kt => XS.icmpYes X407.here hx rfl (pc0 := 76) (pc' := 88) rfl (hb hby d_method_5_code_76) rfl (flt ((by decide) : ¬ ((4 : Int32) < (4 : Int32)))).2.2.2 (by decide) (by decide) kt) ?_
    refine Rch.of (T' := T407) (g' := (mkF m 90 #[.val (.ref a1), .val (.int (Int32.ofNat k)), .val (.int p2), .val (.int p3), .val (.int (4 : Int32)), .val (.ref b387), .unset] [(.int (4 : Int32))])) (fun _ kt => XS.iload X407.here hx rfl (hb hby d_method_5_code_88) rfl  kt) ?_
    refine Rch.of (T' := T407) (g' := (mkF m 91 #[.val (.ref a1), .val (.int (Int32.ofNat k)), .val (.int p2), .val (.int p3), .val (.int (4 : Int32)), .val (.ref b387), .unset] [(.int (5 : Int32)), (.int (4 : Int32))])) (fun _ kt => XS.iconst X407.here hx rfl (hb hby d_method_5_code_90) kt) ?_
    refine Rch.of (T' := T407) (g' := (mkF m 103 #[.val (.ref a1), .val (.int (Int32.ofNat k)), .val (.int p2), .val (.int p3), .val (.int (4 : Int32)), .val (.ref b387), .unset] [])) (fun _ kt => XS.icmpYes X407.here hx rfl (pc0 := 91) (pc' := 103) rfl (hb hby d_method_5_code_91) rfl (flt ((by decide) : ¬ ((5 : Int32) < (4 : Int32)))).2.2.2 (by decide) (by decide) kt) ?_
    refine Rch.of (T' := T407) (g' := (mkF m 105 #[.val (.ref a1), .val (.int (Int32.ofNat k)), .val (.int p2), .val (.int p3), .val (.int (4 : Int32)), .val (.ref b387), .unset] [(.int (4 : Int32))])) (fun _ kt => XS.iload X407.here hx rfl (hb hby d_method_5_code_103) rfl  kt) ?_
    refine Rch.of (T' := T407) (g' := (mkF m 107 #[.val (.ref a1), .val (.int (Int32.ofNat k)), .val (.int p2), .val (.int p3), .val (.int (4 : Int32)), .val (.ref b387), .unset] [(.int (6 : Int32)), (.int (4 : Int32))])) (fun _ kt => XS.bipush X407.here hx rfl (hb hby d_method_5_code_105) kt) ?_
    refine Rch.of (T' := T407) (g' := (mkF m 121 #[.val (.ref a1), .val (.int (Int32.ofNat k)), .val (.int p2), .val (.int p3), .val (.int (4 : Int32)), .val (.ref b387), .unset] [])) (fun _ kt => XS.icmpYes X407.here hx rfl (pc0 := 107) (pc' := 121) rfl (hb hby d_method_5_code_107) rfl (flt ((by decide) : ¬ ((6 : Int32) < (4 : Int32)))).2.2.2 (by decide) (by decide) kt) ?_
    refine Rch.of (T' := T407) (g' := (mkF m 122 #[.val (.ref a1), .val (.int (Int32.ofNat k)), .val (.int p2), .val (.int p3), .val (.int (4 : Int32)), .val (.ref b387), .unset] [(.int p2)])) (fun _ kt => XS.iloadN X407.here hx rfl (hb hby d_method_5_code_121) rfl  kt) ?_
    refine Rch.of (T' := T407) (g' := (mkF m 124 #[.val (.ref a1), .val (.int (Int32.ofNat k)), .val (.int p2), .val (.int p3), .val (.int (4 : Int32)), .val (.ref b387), .unset] [(.int (2147483647 : Int32)), (.int p2)])) (X407.ldcInt hx hown (mvT hZ (hw _ (List.mem_of_getElem? (i := 122) rfl))) (g := (mkF m 122 #[.val (.ref a1), .val (.int (Int32.ofNat k)), .val (.int p2), .val (.int p3), .val (.int (4 : Int32)), .val (.ref b387), .unset] [(.int p2)])) rfl (hb hby d_method_5_code_122)) ?_
    refine Rch.of (T' := T407) (g' := (mkF m 125 #[.val (.ref a1), .val (.int (Int32.ofNat k)), .val (.int p2), .val (.int p3), .val (.int (4 : Int32)), .val (.ref b387), .unset] [(.int (p2 &&& (2147483647 : Int32)))])) (fun _ kt => XS.iand X407.here hx rfl (hb hby d_method_5_code_124) rfl kt) ?_
    refine Rch.of (T' := T407) (g' := (mkF m 127 #[.val (.ref a1), .val (.int (Int32.ofNat k)), .val (.int p2), .val (.int p3), .val (.int (4 : Int32)), .val (.ref b387), .unset] [(.int (4 : Int32)), (.int (p2 &&& (2147483647 : Int32)))])) (fun _ kt => XS.iload X407.here hx rfl (hb hby d_method_5_code_125) rfl  kt) ?_
    refine Rch.of (T' := T407) (g' := (mkF m 128 #[.val (.ref a1), .val (.int (Int32.ofNat k)), .val (.int p2), .val (.int p3), .val (.int (4 : Int32)), .val (.ref b387), .unset] [(.int ((p2 &&& (2147483647 : Int32)) % (4 : Int32)))])) (fun _ kt => iremM X407 hx rfl (hb hby d_method_5_code_127) rfl (by decide) kt) ?_
    have hcl : own_ch 4 y407 := by
      intro q hq
      rw [hy407, hy402, hy396, hy391]
      rcases (show q = 0 ∨ q = 1 ∨ q = 2 ∨ q = 3 by omega) with rfl | rfl | rfl | rfl
      · exact own_c1i (hy.at (by decide : 0 < 5))
      · exact own_c1i (hy.at (by decide : 1 < 5))
      · exact own_c1i (hy.at (by decide : 2 < 5))
      · exact own_c1i (hy.at (by decide : 3 < 5))
    obtain ⟨j, hj, ej⟩ := own_rem p2 4 (by decide) (by decide)
    have sw411 : ((p2 &&& (2147483647 : Int32)) % (4 : Int32)) = (Int32.ofNat j) := ej
    rw [sw411]
    show Rch p e below K T407 (mkF m 128 #[.val (.ref a1), .val (.int (Int32.ofNat k)), .val (.int p2), .val (.int p3), .val (.int (4 : Int32)), .val (.ref b387), .unset] [(.int (Int32.ofNat j))])
    have tj : (Int32.ofNat j).toInt = (j : Int) := oTo (by omega)
    refine Rch.of (T' := T407) (g' := (mkF m 130 #[.val (.ref a1), .val (.int (Int32.ofNat k)), .val (.int p2), .val (.int p3), .val (.int (4 : Int32)), .val (.ref b387), .val (.int (Int32.ofNat j))] [])) (fun _ kt => XS.istore X407.here hx rfl (hb hby d_method_5_code_128) rfl (l' := #[.val (.ref a1), .val (.int (Int32.ofNat k)), .val (.int p2), .val (.int p3), .val (.int (4 : Int32)), .val (.ref b387), .val (.int (Int32.ofNat j))]) rfl kt) ?_
    refine Rch.of (T' := T407) (g' := (mkF m 132 #[.val (.ref a1), .val (.int (Int32.ofNat k)), .val (.int p2), .val (.int p3), .val (.int (4 : Int32)), .val (.ref b387), .val (.int (Int32.ofNat j))] [(.ref b387)])) (fun _ kt => XS.aload X407.here hx rfl (hb hby d_method_5_code_130) rfl rfl kt) ?_
    refine Rch.of (T' := T407) (g' := (mkF m 134 #[.val (.ref a1), .val (.int (Int32.ofNat k)), .val (.int p2), .val (.int p3), .val (.int (4 : Int32)), .val (.ref b387), .val (.int (Int32.ofNat j))] [(.int (Int32.ofNat j)), (.ref b387)])) (fun _ kt => XS.iload X407.here hx rfl (hb hby d_method_5_code_132) rfl  kt) ?_
    refine Rch.of (T' := T407) (g' := (mkF m 136 #[.val (.ref a1), .val (.int (Int32.ofNat k)), .val (.int p2), .val (.int p3), .val (.int (4 : Int32)), .val (.ref b387), .val (.int (Int32.ofNat j))] [(.ref b387), (.int (Int32.ofNat j)), (.ref b387)])) (fun _ kt => XS.aload X407.here hx rfl (hb hby d_method_5_code_134) rfl rfl kt) ?_
    refine Rch.of (T' := T407) (g' := (mkF m 138 #[.val (.ref a1), .val (.int (Int32.ofNat k)), .val (.int p2), .val (.int p3), .val (.int (4 : Int32)), .val (.ref b387), .val (.int (Int32.ofNat j))] [(.int (Int32.ofNat j)), (.ref b387), (.int (Int32.ofNat j)), (.ref b387)])) (fun _ kt => XS.iload X407.here hx rfl (hb hby d_method_5_code_136) rfl  kt) ?_
    obtain ⟨cl412, Ar412, Sz412, Ha412⟩ := id V407
    refine Rch.of (T' := T407) (g' := (mkF m 139 #[.val (.ref a1), .val (.int (Int32.ofNat k)), .val (.int p2), .val (.int p3), .val (.int (4 : Int32)), .val (.ref b387), .val (.int (Int32.ofNat j))] [(.int (y407 j)), (.int (Int32.ofNat j)), (.ref b387)])) (X407.caload hx (j := (Int32.ofNat j)) (v := (.int (y407 j))) (by rw [e407]; exact Ar412.1) (State.isArrayOf_alike hZ.alike Ar412.2.1) Ar412.2.2 (oIn (i := j) Sz412 tj hj) (oAt (i := j) Ha412 tj hj) (g := (mkF m 138 #[.val (.ref a1), .val (.int (Int32.ofNat k)), .val (.int p2), .val (.int p3), .val (.int (4 : Int32)), .val (.ref b387), .val (.int (Int32.ofNat j))] [(.int (Int32.ofNat j)), (.ref b387), (.int (Int32.ofNat j)), (.ref b387)])) rfl rfl (hb hby d_method_5_code_138)) ?_
    refine Rch.of (T' := T407) (g' := (mkF m 140 #[.val (.ref a1), .val (.int (Int32.ofNat k)), .val (.int p2), .val (.int p3), .val (.int (4 : Int32)), .val (.ref b387), .val (.int (Int32.ofNat j))] [(.int p3), (.int (y407 j)), (.int (Int32.ofNat j)), (.ref b387)])) (fun _ kt => XS.iloadN X407.here hx rfl (hb hby d_method_5_code_139) rfl  kt) ?_
    refine Rch.of (T' := T407) (g' := (mkF m 141 #[.val (.ref a1), .val (.int (Int32.ofNat k)), .val (.int p2), .val (.int p3), .val (.int (4 : Int32)), .val (.ref b387), .val (.int (Int32.ofNat j))] [(.int ((y407 j) ^^^ p3)), (.int (Int32.ofNat j)), (.ref b387)])) (fun _ kt => XS.ixor X407.here hx rfl (hb hby d_method_5_code_140) rfl kt) ?_
    refine Rch.of (T' := T407) (g' := (mkF m 142 #[.val (.ref a1), .val (.int (Int32.ofNat k)), .val (.int p2), .val (.int p3), .val (.int (4 : Int32)), .val (.ref b387), .val (.int (Int32.ofNat j))] [(.int (((y407 j) ^^^ p3).toUInt32.toUInt16.toUInt32.toInt32)), (.int (Int32.ofNat j)), (.ref b387)])) (fun _ kt => XS.i2c X407.here hx rfl (hb hby d_method_5_code_141) rfl kt) ?_
    obtain ⟨cl413, Ar413, Sz413, Ha413⟩ := id V407
    obtain ⟨T413, h413, X413, e413, W413, st413⟩ := stC X407 hx hZ e407 Ar413 (j := (Int32.ofNat j)) (oIn (i := j) Sz413 tj hj) (g := (mkF m 142 #[.val (.ref a1), .val (.int (Int32.ofNat k)), .val (.int p2), .val (.int p3), .val (.int (4 : Int32)), .val (.ref b387), .val (.int (Int32.ofNat j))] [(.int (((y407 j) ^^^ p3).toUInt32.toUInt16.toUInt32.toInt32)), (.int (Int32.ofNat j)), (.ref b387)])) rfl rfl (hb hby d_method_5_code_142)
    have V413 := Av.setI (i := j) V407 tj hj W413
    obtain ⟨y413, hy413⟩ : ∃ zz_ : Nat → Int32, zz_ = fun q => if q = j then (((y407 j) ^^^ p3).toUInt32.toUInt16.toUInt32.toInt32).toUInt32.toUInt16.toUInt32.toInt32 else y407 q := ⟨_, rfl⟩
    have V413 : Av Z h413 b387 .char 4 (fun q => .int (y413 q)) := by rw [hy413]; exact V413
    have N413 := Fr.snoc X413 N407 ge_b387
    have Sf414 : Safe Z consts_1 s.vm h407 b387 := (Safe.exa hZ.alike ((((Q387.wr W391).wr W396).wr W402).wr W407) (by decide) (by decide))
    have Rb415 := (((Rb398.trans (CHr.wr W402 Sf403 Rb398.1)).trans (CHr.wr W407 Sf408 (Rb398.trans (CHr.wr W402 Sf403 Rb398.1)).1)).trans (CHr.wr W413 Sf414 ((Rb398.trans (CHr.wr W402 Sf403 Rb398.1)).trans (CHr.wr W407 Sf408 (Rb398.trans (CHr.wr W402 Sf403 Rb398.1)).1)).1))
    have Fb416 := ((((((F1.ext E387).other W391 (Or.inl ne_a1_b387)).other W396 (Or.inl ne_a1_b387)).other W402 (Or.inl ne_a1_b387)).other W407 (Or.inl ne_a1_b387)).other W413 (Or.inl ne_a1_b387))
    have Fb417 := ((((((F2.ext E387).other W391 (Or.inl ne_a1_b387)).other W396 (Or.inl ne_a1_b387)).other W402 (Or.inl ne_a1_b387)).other W407 (Or.inl ne_a1_b387)).other W413 (Or.inl ne_a1_b387))
    have Fb418 := (((((((Keep.refl h0 []).ext E387).wr W391 (Or.inr sz_b387)).wr W396 (Or.inr sz_b387)).wr W402 (Or.inr sz_b387)).wr W407 (Or.inr sz_b387)).wr W413 (Or.inr sz_b387))
    refine Rch.of (T' := T413) (g' := (mkF m 143 #[.val (.ref a1), .val (.int (Int32.ofNat k)), .val (.int p2), .val (.int p3), .val (.int (4 : Int32)), .val (.ref b387), .val (.int (Int32.ofNat j))] [])) st413 ?_
    obtain ⟨T419, h419, X419, e419, E419, A419, D419, -, st419⟩ := newO X413 hx hZ hown (hw _ (List.mem_of_getElem? (i := 9) rfl)) (hw _ (List.mem_of_getElem? (i := 10) rfl)) (hw _ (List.mem_of_getElem? (i := 11) rfl)) e413 (g := (mkF m 143 #[.val (.ref a1), .val (.int (Int32.ofNat k)), .val (.int p2), .val (.int p3), .val (.int (4 : Int32)), .val (.ref b387), .val (.int (Int32.ofNat j))] [])) rfl (hb hby d_method_5_code_143) (by decide) (by decide)
    obtain ⟨b419, g419⟩ : ∃ zz_, zz_ = h413.size := ⟨_, rfl⟩
    have ne_a1_b419 : a1 ≠ b419 := Nat.ne_of_lt (Nat.lt_of_lt_of_le ((((((E1.ext E387).wr W391).wr W396).wr W402).wr W407).wr W413).lt (Nat.le_of_eq g419.symm))
    have ne_b1_b419 : b1 ≠ b419 := Nat.ne_of_lt (Nat.lt_of_lt_of_le ((((((V1.ext E387).other W391 ne_b1_b387).other W396 ne_b1_b387).other W402 ne_b1_b387).other W407 ne_b1_b387).other W413 ne_b1_b387).lt (Nat.le_of_eq g419.symm))
    have ne_b387_b419 : b387 ≠ b419 := Nat.ne_of_lt (Nat.lt_of_lt_of_le (((((Q387.wr W391).wr W396).wr W402).wr W407).wr W413).lt (Nat.le_of_eq g419.symm))
    have ge_b419 : n0 ≤ b419 := Nat.le_trans (Nat.le_trans Fb410 (Keep.of_wr W413).1) (Nat.le_of_eq g419.symm)
    have sz_b419 : h0.size ≤ b419 := Nat.le_trans Fb418.1 (Nat.le_of_eq g419.symm)
    rw [← g419] at A419 D419 st419
    have F419_coder : Fld Z h419 b419 "java/lang/String" "coder" "B" (.int (0 : Int32)) := D419 (Or.inr (hw _ (List.mem_of_getElem? (i := 35) rfl))) (ty := .byte) (by decide)
    have F419_value : Fld Z h419 b419 "java/lang/String" "value" "[B" .null := D419 (Or.inr (hw _ (List.mem_of_getElem? (i := 37) rfl))) (ty := (.array .byte)) (by decide)
    refine Rch.of (T' := T419) (g' := (mkF m 146 #[.val (.ref a1), .val (.int (Int32.ofNat k)), .val (.int p2), .val (.int p3), .val (.int (4 : Int32)), .val (.ref b387), .val (.int (Int32.ofNat j))] [(.ref b419)])) st419 ?_
    refine Rch.of (T' := T419) (g' := (mkF m 147 #[.val (.ref a1), .val (.int (Int32.ofNat k)), .val (.int p2), .val (.int p3), .val (.int (4 : Int32)), .val (.ref b387), .val (.int (Int32.ofNat j))] [(.ref b419), (.ref b419)])) (fun _ kt => XS.dup X419.here hx rfl (hb hby d_method_5_code_146) rfl rfl kt) ?_
    refine Rch.of (T' := T419) (g' := (mkF m 149 #[.val (.ref a1), .val (.int (Int32.ofNat k)), .val (.int p2), .val (.int p3), .val (.int (4 : Int32)), .val (.ref b387), .val (.int (Int32.ofNat j))] [(.ref b387), (.ref b419), (.ref b419)])) (fun _ kt => XS.aload X419.here hx rfl (hb hby d_method_5_code_147) rfl rfl kt) ?_
    have pr421 : 4 ≤ 7 := by omega
    have hch422 : own_ch 4 y413 := by
      intro q hq
      rw [hy413]
      by_cases u : q = j
      · simp only [u, if_true]; exact own_c1i (own_c1i (own_c1x (hcl j hj) hp3))
      · simp only [u, if_false]; exact hcl q hq
    obtain ⟨_, _, ⟨T420, L420, k420, n420⟩, -, X420, hT420, gr420, ⟨Lc420, hQ420, l420, y420, z420, cr420⟩, st420⟩ := X419.specialBackS hx (y := (⟨"java/lang/String", "<init>", "([C)V"⟩ : MethodName)) rfl hown (mvT hZ (hw _ (List.mem_of_getElem? (i := 12) rfl))) (mvT hZ (hw _ (List.mem_of_getElem? (i := 13) rfl))) (mvT hZ (hw _ (List.mem_of_getElem? (i := 14) rfl))) (by decide) (backOfSH (s := s) (vm0 := s.vm) (EL := consts_1) (W := 1) (rqN1 l Z a0 hw [] b419 b387 4 y413 (.int (0 : Int32)) cs h419 n0 (Nat.le_trans (Nat.le_trans Fb410 (Keep.of_wr W413).1) E419.1) A419 F419_coder F419_value ge_b419 (V413.ext E419) (((((((SC.ext E387).wr W391).wr W396).wr W402).wr W407).wr W413).ext E419) hcs pr421 hch422) hZ (hw _ (List.mem_of_getElem? (i := 14) rfl)) (hw _ (List.mem_of_getElem? (i := 11) rfl)) (by decide) (by decide) hEL (Rb415.trans (CHr.ext E419 Rb415.1)).1) (g := (mkF m 149 #[.val (.ref a1), .val (.int (Int32.ofNat k)), .val (.int p2), .val (.int p3), .val (.int (4 : Int32)), .val (.ref b387), .val (.int (Int32.ofNat j))] [(.ref b387), (.ref b419), (.ref b419)])) rfl (by rw [hml]; rfl) (Steps.refl _) (a := b419) (argsL := [(.ref b387)]) (rest := [(.ref b419)]) (lenOf pd_2 rfl) rfl (by show 2 * 0 + _ ≤ _; exact Nat.le_of_eq rfl) (hb hby d_method_5_code_149) (fun _ _ => ⟨rfl, e419, (by decide : 2 + 4 ≤ _), (by decide : 8 + 8 ≤ _)⟩)
    dsimp only [Pt.U, Pt.locs, Pt.cells, Pt.slots] at X420 hT420 gr420 l420 y420 z420 st420 hQ420 cr420
    subst l420 y420 z420
    obtain ⟨X420, hS420, hZ, hown⟩ := rebS hS0 (Nat.le_trans (Nat.le_trans Fb409 (Keep.of_wr W413).1) E419.1) X420 hT420 (by rw [← e419]; exact gr420) hZ hown
    obtain ⟨rb420, rfl, N420q, hQ420⟩ := hQ420
    have N420 := Fr.app N413 N420q
    obtain ⟨K420, Ex420, Fa420, Fb420, V420⟩ := hQ420
    have Fb423 := ((((((((V1.ext E387).other W391 ne_b1_b387).other W396 ne_b1_b387).other W402 ne_b1_b387).other W407 ne_b1_b387).other W413 ne_b1_b387).ext E419).keep K420 (ninS ne_b1_b419 nin0))
    refine Rch.via (T' := T420) (g' := (mkF m 152 #[.val (.ref a1), .val (.int (Int32.ofNat k)), .val (.int p2), .val (.int p3), .val (.int (4 : Int32)), .val (.ref b387), .val (.int (Int32.ofNat j))] [(.ref b419)])) st420 ?_
    exact Rch.retA X420 hx (w := (.ref b419)) hret rfl rfl hlk (hb hby d_method_5_code_152) (fun U hU hF => hK _ U _ _ _ (by show Q_rkN5 Z a1 b1 y k p2 p3 cs sv h0 n0 _ U.heap _; rw [hU]; exact ⟨b419, rb420, y413, 4, rfl, N420, ((Fb418.ext E419).trans K420 (allS (Or.inr sz_b419) all0)), Ex420, Fa420, Fb420, V420, hch422, by decide⟩) (own_endH hZ hEL ((Rb415.trans (CHr.ext E419 Rb415.1)).trans cr420) hU hF) (own_end hS420 (by rw [hU]; exact (Nat.le_refl _)) hF) (by decide) (by decide))
theorem ef_rkN7 (m : MethodId) (a1 : Addr) (p2 : Int32) (p3 : Int32) : entryFrame m #[(.ref a1), (.int (Int32.ofNat k)), (.int p2), (.int p3)] 7 = mkF m 0 #[.val (.ref a1), .val (.int (Int32.ofNat k)), .val (.int p2), .val (.int p3), .unset, .unset, .unset] [] := by first | (simp [entryFrame, mkF, argsToLocals, Value.category]; done) | rfl
def Q_rkN7 (Z : State) (a1 : Addr) (b1 : Addr) (y : Nat → Int32) (k : Nat) (p2 : Int32) (p3 : Int32) (cs : Int32) (sv : Value) (h0 : Heap) (n0 : Nat) (vv_ : Option Value) (h : Heap) (LL_ : List Loc) : Prop := ∃ r : Addr, ∃ b : Addr, ∃ t : Nat → Int32, ∃ nn : Nat, vv_ = some (.ref r) ∧ Fr n0 LL_ ∧ (Keep h0 h [] ∧ Exa Z h r "java/lang/String" ∧ Fld Z h r "java/lang/String" "coder" "B" (.int (0 : Int32)) ∧ Fld Z h r "java/lang/String" "value" "[B" (.ref b) ∧ Av Z h b .byte nn (fun q => .int ((t q).toInt8.toInt32)) ∧ own_ch nn t ∧ nn ≤ 7)
theorem d_method_5_code_94 : decode method_5_code 94 = .ok (.aload 5, 2) := by decide +kernel
theorem d_method_5_code_96 : decode method_5_code 96 = .ok (.iconst 5, 1) := by decide +kernel
theorem d_method_5_code_97 : decode method_5_code 97 = .ok (.aload_n 0, 1) := by decide +kernel
theorem d_method_5_code_98 : decode method_5_code 98 = .ok (.iconst 5, 1) := by decide +kernel
theorem d_method_5_code_99 : decode method_5_code 99 = .ok (.invokevirtual 63, 3) := by decide +kernel
theorem d_method_5_code_102 : decode method_5_code 102 = .ok (.castore, 1) := by decide +kernel
theorem d_method_5_code_110 : decode method_5_code 110 = .ok (.aload 5, 2) := by decide +kernel
theorem d_method_5_code_112 : decode method_5_code 112 = .ok (.bipush 6, 2) := by decide +kernel
theorem d_method_5_code_114 : decode method_5_code 114 = .ok (.aload_n 0, 1) := by decide +kernel
theorem d_method_5_code_115 : decode method_5_code 115 = .ok (.bipush 6, 2) := by decide +kernel
theorem d_method_5_code_117 : decode method_5_code 117 = .ok (.invokevirtual 63, 3) := by decide +kernel
theorem d_method_5_code_120 : decode method_5_code 120 = .ok (.castore, 1) := by decide +kernel
set_option maxRecDepth 65536 in
set_option maxHeartbeats 40000000 in
theorem rkN7 (l : Launch) (Z : State) (a0 : Array Value) (hw : ∀ d ∈ tables_1, d.before a0 Z = true) (ws : List Jvm.Cond) (a1 : Addr) (b1 : Addr) (y : Nat → Int32) (k : Nat) (p2 : Int32) (p3 : Int32) (cs : Int32) (sv : Value) (h0 : Heap) (n0 : Nat) (Z0 : n0 ≤ h0.size) (E1 : Exa Z h0 a1 "java/lang/String") (F1 : Fld Z h0 a1 "java/lang/String" "coder" "B" (.int (0 : Int32))) (F2 : Fld Z h0 a1 "java/lang/String" "value" "[B" (.ref b1)) (V1 : Av Z h0 b1 .byte 7 (fun q => .int ((y q).toInt8.toInt32))) (hy : own_ch 7 y) (hk : k ≤ 1) (hp3 : own_c1 p3) (SC : Sta Z h0 "java/lang/String" "COMPACT_STRINGS" "Z" (.int cs)) (hcs : ¬ cs = (0 : Int32)) (SI : Sta Z h0 "jdk/internal/util/Preconditions" "SIOOBE_FORMATTER" "Ljava/util/function/BiFunction;" sv) (hsv : sv.isRef = true) :
    MetFree l (⟨"com/example/isidore/isidore/SeverityLabelledPinLaw", "near", "(Ljava/lang/String;III)Ljava/lang/String;"⟩ : MethodName) (head1 (Jvm.Cond.code (⟨"com/example/isidore/isidore/SeverityLabelledPinLaw", "near", "(Ljava/lang/String;III)Ljava/lang/String;"⟩ : MethodName) method_5_code 7 (some (.object "java/lang/String")) :: ws) ({ frames := 4, cells := 6, slots := 19, locals := 66 } : Room)) (fun aa_ UU_ => aa_ = #[(.ref a1), (.int (Int32.ofNat k)), (.int p2), (.int p3)] ∧ Z.Warmed39 UU_.vm ∧ UU_.heap = h0 ∧ CHv Z consts_1 UU_.vm h0) (fun _ _ _ _ _ => True) (fun _ UU_ oo_ VV_ => ∃ vv_ LL_, oo_ = .returned vv_ ∧ Q_rkN7 Z a1 b1 y k p2 p3 cs sv h0 n0 vv_ VV_.heap LL_ ∧ CHr Z consts_1 UU_.vm UU_.heap VV_.vm VV_.heap ∧ ReturnedEndW UU_ oo_ VV_ LL_ ({ frames := 4, cells := 6, slots := 19, locals := 66 } : Room).cells ({ frames := 4, cells := 6, slots := 19, locals := 66 } : Room).slots) := by
  refine own_metH (y := (⟨"com/example/isidore/isidore/SeverityLabelledPinLaw", "near", "(Ljava/lang/String;III)Ljava/lang/String;"⟩ : MethodName)) (plainFor_of_name pn_4) ?_
  intro p e s m below meth c T0 K hx hby hml hret hlk hown hnm hZ X0 e0 C0 hK
  have N0 := Fr.nil n0
  have R0 := CHr.refl C0
  have hEL := own_EW hw
  have hS0 : s.Since s.vm 0 := (State.WarmedH.refl s).since 0
  have hk0 : 0 ≤ h0.size := Nat.zero_le _
  have wS : ∀ d ∈ Bundle.stringAtoms, d.before a0 Z = true := fun d hd => hw d ((by decide +kernel : ∀ d ∈ Bundle.stringAtoms, d ∈ tables_1) d hd)
  change Stand p l e ({ frames := 4, cells := 6, slots := 19, locals := 66 } : Room) (s.setVm s.vm) m #[(.ref a1), (.int (Int32.ofNat k)), (.int p2), (.int p3)] below meth c T0 [] 0 0 at X0
  change Z.Warmed39 (s.setVm s.vm).vm at hZ
  change (s.setVm s.vm).vm.findClass _ = some m.cls at hown
  refine Rch.cast (ef_rkN7 m a1 p2 p3) ?_
  rcases (show k = 0 ∨ k = 1 by omega) with ek | ek
  · skip
    refine Rch.of (T' := T0) (g' := (mkF m 1 #[.val (.ref a1), .val (.int (Int32.ofNat k)), .val (.int p2), .val (.int p3), .unset, .unset, .unset] [(.ref a1)])) (fun _ kt => XS.aloadN X0.here hx rfl (hb hby d_method_5_code_0) rfl rfl kt) ?_
    obtain ⟨cq424, kq424, q424a, q424b, q424c⟩ := isOf hZ e0 E1
    obtain ⟨_, _, ⟨T424, L424, k424, n424⟩, -, X424, ⟨Lc424, hQ424, l424, y424, z424⟩, st424⟩ := X0.virtualBack hx (y := (⟨"java/lang/String", "length", "()I"⟩ : MethodName)) (z := (⟨"java/lang/String", "length", "()I"⟩ : MethodName)) hown (mvT hZ (hw _ (List.mem_of_getElem? (i := 91) rfl))) (mvT hZ (hw _ (List.mem_of_getElem? (i := 92) rfl))) (notFace_of_selects (args := #[]) (mvT hZ (hw _ (List.mem_of_getElem? (i := 94) rfl)))) (mvT hZ (hw _ (List.mem_of_getElem? (i := 94) rfl))) (mvT hZ (hw _ (List.mem_of_getElem? (i := 93) rfl))) (by decide) (backOf (W := 0) (rqLE l Z a0 hw [] a1 b1 7 y cs h0 n0 Z0 E1 F1 F2 V1 SC hcs) hZ (hw _ (List.mem_of_getElem? (i := 95) rfl)) (hw _ (List.mem_of_getElem? (i := 11) rfl)) (by decide) (by decide)) q424a q424c (g := (mkF m 1 #[.val (.ref a1), .val (.int (Int32.ofNat k)), .val (.int p2), .val (.int p3), .unset, .unset, .unset] [(.ref a1)])) rfl (by rw [hml]; rfl) (Steps.refl _) (argsL := []) (rest := []) (lenOf pd_16 rfl) rfl (by show 2 * 0 + _ ≤ _; exact Nat.le_of_eq rfl) (hb hby d_method_5_code_1) (fun _ _ => ⟨rfl, e0, (by decide : 0 + 0 ≤ _), (by decide : 0 + 0 ≤ _)⟩)
    dsimp only [Pt.U, Pt.locs, Pt.cells, Pt.slots] at X424 l424 y424 z424 st424 hQ424
    subst l424 y424 z424
    obtain ⟨rfl, N424q, hQ424⟩ := hQ424
    have N424 := Fr.app N0 N424q
    refine Rch.via (T' := T424) (g' := (mkF m 4 #[.val (.ref a1), .val (.int (Int32.ofNat k)), .val (.int p2), .val (.int p3), .unset, .unset, .unset] [(.int (Int32.ofNat 7))])) st424 ?_
    refine Rch.of (T' := T424) (g' := (mkF m 5 #[.val (.ref a1), .val (.int (Int32.ofNat k)), .val (.int p2), .val (.int p3), .unset, .unset, .unset] [(.int (Int32.ofNat k)), (.int (Int32.ofNat 7))])) (fun _ kt => XS.iloadN X424.here hx rfl (hb hby d_method_5_code_4) rfl  kt) ?_
    refine Rch.of (T' := T424) (g' := (mkF m 6 #[.val (.ref a1), .val (.int (Int32.ofNat k)), .val (.int p2), .val (.int p3), .unset, .unset, .unset] [(.int ((Int32.ofNat 7) - (Int32.ofNat k)))])) (fun _ kt => XS.isub X424.here hx rfl (hb hby d_method_5_code_5) rfl kt) ?_
    have sw425 : ((Int32.ofNat 7) - (Int32.ofNat k)) = (7 : Int32) := by rw [ek]; decide
    rw [sw425]
    show Rch p e below K T424 (mkF m 6 #[.val (.ref a1), .val (.int (Int32.ofNat k)), .val (.int p2), .val (.int p3), .unset, .unset, .unset] [(.int (7 : Int32))])
    refine Rch.of (T' := T424) (g' := (mkF m 8 #[.val (.ref a1), .val (.int (Int32.ofNat k)), .val (.int p2), .val (.int p3), .val (.int (7 : Int32)), .unset, .unset] [])) (fun _ kt => XS.istore X424.here hx rfl (hb hby d_method_5_code_6) rfl (l' := #[.val (.ref a1), .val (.int (Int32.ofNat k)), .val (.int p2), .val (.int p3), .val (.int (7 : Int32)), .unset, .unset]) rfl kt) ?_
    refine Rch.of (T' := T424) (g' := (mkF m 10 #[.val (.ref a1), .val (.int (Int32.ofNat k)), .val (.int p2), .val (.int p3), .val (.int (7 : Int32)), .unset, .unset] [(.int (7 : Int32))])) (fun _ kt => XS.iload X424.here hx rfl (hb hby d_method_5_code_8) rfl  kt) ?_
    obtain ⟨T426, h426, k426, X426, e426, E426, A426, Q426, st426⟩ := newPE X424 hx hZ (hw _ (List.mem_of_getElem? (i := 4) rfl)) hQ424 (g := (mkF m 10 #[.val (.ref a1), .val (.int (Int32.ofNat k)), .val (.int p2), .val (.int p3), .val (.int (7 : Int32)), .unset, .unset] [(.int (7 : Int32))])) rfl (hb hby d_method_5_code_10) rfl (by decide) (cap := 7) (by decide) (by decide) (by decide) (by decide) (ad := "[C") rfl
    obtain ⟨b426, g426⟩ : ∃ zz_, zz_ = h0.size := ⟨_, rfl⟩
    have ne_a1_b426 : a1 ≠ b426 := Nat.ne_of_lt (Nat.lt_of_lt_of_le E1.lt (Nat.le_of_eq g426.symm))
    have ne_b1_b426 : b1 ≠ b426 := Nat.ne_of_lt (Nat.lt_of_lt_of_le V1.lt (Nat.le_of_eq g426.symm))
    have ge_b426 : n0 ≤ b426 := Nat.le_trans Z0 (Nat.le_of_eq g426.symm)
    have sz_b426 : h0.size ≤ b426 := Nat.le_trans (Keep.refl h0 []).1 (Nat.le_of_eq g426.symm)
    rw [← g426] at A426 Q426 st426
    have V426 : Av Z h426 b426 .char 7 (fun _ => (.int (0 : Int32))) := Av.new A426 (by decide)
    refine Rch.of (T' := T426) (g' := (mkF m 12 #[.val (.ref a1), .val (.int (Int32.ofNat k)), .val (.int p2), .val (.int p3), .val (.int (7 : Int32)), .unset, .unset] [(.ref b426)])) st426 ?_
    refine Rch.of (T' := T426) (g' := (mkF m 14 #[.val (.ref a1), .val (.int (Int32.ofNat k)), .val (.int p2), .val (.int p3), .val (.int (7 : Int32)), .val (.ref b426), .unset] [])) (fun _ kt => XS.astore X426.here hx rfl (hb hby d_method_5_code_12) rfl rfl (l' := #[.val (.ref a1), .val (.int (Int32.ofNat k)), .val (.int p2), .val (.int p3), .val (.int (7 : Int32)), .val (.ref b426), .unset]) rfl kt) ?_
    refine Rch.of (T' := T426) (g' := (mkF m 16 #[.val (.ref a1), .val (.int (Int32.ofNat k)), .val (.int p2), .val (.int p3), .val (.int (7 : Int32)), .val (.ref b426), .unset] [(.int (7 : Int32))])) (fun _ kt => XS.iload X426.here hx rfl (hb hby d_method_5_code_14) rfl  kt) ?_
    refine Rch.of (T' := T426) (g' := (mkF m 19 #[.val (.ref a1), .val (.int (Int32.ofNat k)), .val (.int p2), .val (.int p3), .val (.int (7 : Int32)), .val (.ref b426), .unset] [])) (fun _ kt => XS.ifNo X426.here hx rfl (hb hby d_method_5_code_16) rfl ((if0 _ _).trans (tlt ((by decide) : (0 : Int32) < (7 : Int32))).2.2.2) kt) ?_
    refine Rch.of (T' := T426) (g' := (mkF m 21 #[.val (.ref a1), .val (.int (Int32.ofNat k)), .val (.int p2), .val (.int p3), .val (.int (7 : Int32)), .val (.ref b426), .unset] [(.ref b426)])) (fun _ kt => XS.aload X426.here hx rfl (hb hby d_method_5_code_19) rfl rfl kt) ?_
    refine Rch.of (T' := T426) (g' := (mkF m 22 #[.val (.ref a1), .val (.int (Int32.ofNat k)), .val (.int p2), .val (.int p3), .val (.int (7 : Int32)), .val (.ref b426), .unset] [(.int (0 : Int32)), (.ref b426)])) (fun _ kt => XS.iconst X426.here hx rfl (hb hby d_method_5_code_21) kt) ?_
    refine Rch.of (T' := T426) (g' := (mkF m 23 #[.val (.ref a1), .val (.int (Int32.ofNat k)), .val (.int p2), .val (.int p3), .val (.int (7 : Int32)), .val (.ref b426), .unset] [(.ref a1), (.int (0 : Int32)), (.ref b426)])) (fun _ kt => XS.aloadN X426.here hx rfl (hb hby d_method_5_code_22) rfl rfl kt) ?_
    refine Rch.of (T' := T426) (g' := (mkF m 24 #[.val (.ref a1), .val (.int (Int32.ofNat k)), .val (.int p2), .val (.int p3), .val (.int (7 : Int32)), .val (.ref b426), .unset] [(.int (0 : Int32)), (.ref a1), (.int (0 : Int32)), (.ref b426)])) (fun _ kt => XS.iconst X426.here hx rfl (hb hby d_method_5_code_23) kt) ?_
    have pr428 : 0 < 7 := by omega
    have pr429 : 7 ≤ 7 := by omega
    obtain ⟨cq427, kq427, q427a, q427b, q427c⟩ := isOf hZ e426 (E1.ext E426)
    obtain ⟨_, _, ⟨T427, L427, k427, n427⟩, -, X427, ⟨Lc427, hQ427, l427, y427, z427⟩, st427⟩ := X426.virtualBack hx (y := (⟨"java/lang/String", "charAt", "(I)C"⟩ : MethodName)) (z := (⟨"java/lang/String", "charAt", "(I)C"⟩ : MethodName)) hown (mvT hZ (hw _ (List.mem_of_getElem? (i := 101) rfl))) (mvT hZ (hw _ (List.mem_of_getElem? (i := 102) rfl))) (notFace_of_selects (args := #[]) (mvT hZ (hw _ (List.mem_of_getElem? (i := 104) rfl)))) (mvT hZ (hw _ (List.mem_of_getElem? (i := 104) rfl))) (mvT hZ (hw _ (List.mem_of_getElem? (i := 103) rfl))) (by decide) (backOf (W := 2) (rqCA l Z a0 hw [] a1 b1 7 y 0 cs sv h426 n0 (Nat.le_trans Z0 E426.1) (E1.ext E426) (F1.ext E426) (F2.ext E426) (V1.ext E426) pr428 pr429 hy (SC.ext E426) hcs (SI.ext E426) hsv) hZ (hw _ (List.mem_of_getElem? (i := 105) rfl)) (hw _ (List.mem_of_getElem? (i := 11) rfl)) (by decide) (by decide)) q427a q427c (g := (mkF m 24 #[.val (.ref a1), .val (.int (Int32.ofNat k)), .val (.int p2), .val (.int p3), .val (.int (7 : Int32)), .val (.ref b426), .unset] [(.int (0 : Int32)), (.ref a1), (.int (0 : Int32)), (.ref b426)])) rfl (by rw [hml]; rfl) (Steps.refl _) (argsL := [(.int (0 : Int32))]) (rest := [(.int (0 : Int32)), (.ref b426)]) (lenOf pd_18 rfl) rfl (by show 2 * 0 + _ ≤ _; exact Nat.le_of_eq rfl) (hb hby d_method_5_code_24) (fun _ _ => ⟨rfl, e426, (by decide : 1 + 0 ≤ _), (by decide : 7 + 0 ≤ _)⟩)
    dsimp only [Pt.U, Pt.locs, Pt.cells, Pt.slots] at X427 l427 y427 z427 st427 hQ427
    subst l427 y427 z427
    obtain ⟨rfl, N427q, hQ427⟩ := hQ427
    have N427 := Fr.app N424 N427q
    refine Rch.via (T' := T427) (g' := (mkF m 27 #[.val (.ref a1), .val (.int (Int32.ofNat k)), .val (.int p2), .val (.int p3), .val (.int (7 : Int32)), .val (.ref b426), .unset] [(.int (y 0)), (.int (0 : Int32)), (.ref b426)])) st427 ?_
    obtain ⟨cl430, Ar430, Sz430, Ha430⟩ := id V426
    obtain ⟨T430, h430, X430, e430, W430, st430⟩ := stC X427 hx hZ hQ427 Ar430 (j := (0 : Int32)) (oIn (i := 0) Sz430 (by decide) (by decide)) (g := (mkF m 27 #[.val (.ref a1), .val (.int (Int32.ofNat k)), .val (.int p2), .val (.int p3), .val (.int (7 : Int32)), .val (.ref b426), .unset] [(.int (y 0)), (.int (0 : Int32)), (.ref b426)])) rfl rfl (hb hby d_method_5_code_27)
    have V430 := Av.setI (i := 0) V426 (by decide) (by decide) W430
    obtain ⟨y430, hy430⟩ : ∃ zz_ : Nat → Int32, zz_ = fun q => if q = 0 then (y 0).toUInt32.toUInt16.toUInt32.toInt32 else (fun _ => (0 : Int32)) q := ⟨_, rfl⟩
    have V430 : Av Z h430 b426 .char 7 (fun q => .int (y430 q)) := by rw [hy430]; exact V430
    have N430 := Fr.snoc X430 N427 ge_b426
    have Sf431 : Safe Z consts_1 s.vm h426 b426 := (Safe.exa hZ.alike Q426 (by decide) (by decide))
    refine Rch.of (T' := T430) (g' := (mkF m 28 #[.val (.ref a1), .val (.int (Int32.ofNat k)), .val (.int p2), .val (.int p3), .val (.int (7 : Int32)), .val (.ref b426), .unset] [])) st430 ?_
    refine Rch.of (T' := T430) (g' := (mkF m 30 #[.val (.ref a1), .val (.int (Int32.ofNat k)), .val (.int p2), .val (.int p3), .val (.int (7 : Int32)), .val (.ref b426), .unset] [(.int (7 : Int32))])) (fun _ kt => XS.iload X430.here hx rfl (hb hby d_method_5_code_28) rfl  kt) ?_
    refine Rch.of (T' := T430) (g' := (mkF m 31 #[.val (.ref a1), .val (.int (Int32.ofNat k)), .val (.int p2), .val (.int p3), .val (.int (7 : Int32)), .val (.ref b426), .unset] [(.int (1 : Int32)), (.int (7 : Int32))])) (fun _ kt => XS.iconst X430.here hx rfl (hb hby d_method_5_code_30) kt) ?_
    refine Rch.of (T' := T430) (g' := (mkF m 34 #[.val (.ref a1), .val (.int (Int32.ofNat k)), .val (.int p2), .val (.int p3), .val (.int (7 : Int32)), .val (.ref b426), .unset] [])) (fun _ kt => XS.icmpNo X430.here hx rfl (hb hby d_method_5_code_31) rfl (tlt ((by decide) : (1 : Int32) < (7 : Int32))).2.2.2 kt) ?_
    refine Rch.of (T' := T430) (g' := (mkF m 36 #[.val (.ref a1), .val (.int (Int32.ofNat k)), .val (.int p2), .val (.int p3), .val (.int (7 : Int32)), .val (.ref b426), .unset] [(.ref b426)])) (fun _ kt => XS.aload X430.here hx rfl (hb hby d_method_5_code_34) rfl rfl kt) ?_
    refine Rch.of (T' := T430) (g' := (mkF m 37 #[.val (.ref a1), .val (.int (Int32.ofNat k)), .val (.int p2), .val (.int p3), .val (.int (7 : Int32)), .val (.ref b426), .unset] [(.int (1 : Int32)), (.ref b426)])) (fun _ kt => XS.iconst X430.here hx rfl (hb hby d_method_5_code_36) kt) ?_
    refine Rch.of (T' := T430) (g' := (mkF m 38 #[.val (.ref a1), .val (.int (Int32.ofNat k)), .val (.int p2), .val (.int p3), .val (.int (7 : Int32)), .val (.ref b426), .unset] [(.ref a1), (.int (1 : Int32)), (.ref b426)])) (fun _ kt => XS.aloadN X430.here hx rfl (hb hby d_method_5_code_37) rfl rfl kt) ?_
    refine Rch.of (T' := T430) (g' := (mkF m 39 #[.val (.ref a1), .val (.int (Int32.ofNat k)), .val (.int p2), .val (.int p3), .val (.int (7 : Int32)), .val (.ref b426), .unset] [(.int (1 : Int32)), (.ref a1), (.int (1 : Int32)), (.ref b426)])) (fun _ kt => XS.iconst X430.here hx rfl (hb hby d_method_5_code_38) kt) ?_
    have pr433 : 1 < 7 := by omega
    have pr434 : 7 ≤ 7 := by omega
    obtain ⟨cq432, kq432, q432a, q432b, q432c⟩ := isOf hZ e430 ((E1.ext E426).wr W430)
    obtain ⟨_, _, ⟨T432, L432, k432, n432⟩, -, X432, ⟨Lc432, hQ432, l432, y432, z432⟩, st432⟩ := X430.virtualBack hx (y := (⟨"java/lang/String", "charAt", "(I)C"⟩ : MethodName)) (z := (⟨"java/lang/String", "charAt", "(I)C"⟩ : MethodName)) hown (mvT hZ (hw _ (List.mem_of_getElem? (i := 101) rfl))) (mvT hZ (hw _ (List.mem_of_getElem? (i := 102) rfl))) (notFace_of_selects (args := #[]) (mvT hZ (hw _ (List.mem_of_getElem? (i := 104) rfl)))) (mvT hZ (hw _ (List.mem_of_getElem? (i := 104) rfl))) (mvT hZ (hw _ (List.mem_of_getElem? (i := 103) rfl))) (by decide) (backOf (W := 2) (rqCA l Z a0 hw [] a1 b1 7 y 1 cs sv h430 n0 (Nat.le_trans (Nat.le_trans Z0 E426.1) (Keep.of_wr W430).1) ((E1.ext E426).wr W430) ((F1.ext E426).other W430 (Or.inl ne_a1_b426)) ((F2.ext E426).other W430 (Or.inl ne_a1_b426)) ((V1.ext E426).other W430 ne_b1_b426) pr433 pr434 hy ((SC.ext E426).wr W430) hcs ((SI.ext E426).wr W430) hsv) hZ (hw _ (List.mem_of_getElem? (i := 105) rfl)) (hw _ (List.mem_of_getElem? (i := 11) rfl)) (by decide) (by decide)) q432a q432c (g := (mkF m 39 #[.val (.ref a1), .val (.int (Int32.ofNat k)), .val (.int p2), .val (.int p3), .val (.int (7 : Int32)), .val (.ref b426), .unset] [(.int (1 : Int32)), (.ref a1), (.int (1 : Int32)), (.ref b426)])) rfl (by rw [hml]; rfl) (Steps.refl _) (argsL := [(.int (1 : Int32))]) (rest := [(.int (1 : Int32)), (.ref b426)]) (lenOf pd_18 rfl) rfl (by show 2 * 0 + _ ≤ _; exact Nat.le_of_eq rfl) (hb hby d_method_5_code_39) (fun _ _ => ⟨rfl, e430, (by decide : 1 + 0 ≤ _), (by decide : 7 + 0 ≤ _)⟩)
    dsimp only [Pt.U, Pt.locs, Pt.cells, Pt.slots] at X432 l432 y432 z432 st432 hQ432
    subst l432 y432 z432
    obtain ⟨rfl, N432q, hQ432⟩ := hQ432
    have N432 := Fr.app N430 N432q
    refine Rch.via (T' := T432) (g' := (mkF m 42 #[.val (.ref a1), .val (.int (Int32.ofNat k)), .val (.int p2), .val (.int p3), .val (.int (7 : Int32)), .val (.ref b426), .unset] [(.int (y 1)), (.int (1 : Int32)), (.ref b426)])) st432 ?_
    obtain ⟨cl435, Ar435, Sz435, Ha435⟩ := id V430
    obtain ⟨T435, h435, X435, e435, W435, st435⟩ := stC X432 hx hZ hQ432 Ar435 (j := (1 : Int32)) (oIn (i := 1) Sz435 (by decide) (by decide)) (g := (mkF m 42 #[.val (.ref a1), .val (.int (Int32.ofNat k)), .val (.int p2), .val (.int p3), .val (.int (7 : Int32)), .val (.ref b426), .unset] [(.int (y 1)), (.int (1 : Int32)), (.ref b426)])) rfl rfl (hb hby d_method_5_code_42)
    have V435 := Av.setI (i := 1) V430 (by decide) (by decide) W435
    obtain ⟨y435, hy435⟩ : ∃ zz_ : Nat → Int32, zz_ = fun q => if q = 1 then (y 1).toUInt32.toUInt16.toUInt32.toInt32 else y430 q := ⟨_, rfl⟩
    have V435 : Av Z h435 b426 .char 7 (fun q => .int (y435 q)) := by rw [hy435]; exact V435
    have N435 := Fr.snoc X435 N432 ge_b426
    have Sf436 : Safe Z consts_1 s.vm h430 b426 := (Safe.exa hZ.alike (Q426.wr W430) (by decide) (by decide))
    have Rb437 := (((R0.trans (CHr.ext E426 R0.1)).trans (CHr.wr W430 Sf431 (R0.trans (CHr.ext E426 R0.1)).1)).trans (CHr.wr W435 Sf436 ((R0.trans (CHr.ext E426 R0.1)).trans (CHr.wr W430 Sf431 (R0.trans (CHr.ext E426 R0.1)).1)).1))
    refine Rch.of (T' := T435) (g' := (mkF m 43 #[.val (.ref a1), .val (.int (Int32.ofNat k)), .val (.int p2), .val (.int p3), .val (.int (7 : Int32)), .val (.ref b426), .unset] [])) st435 ?_
    refine Rch.of (T' := T435) (g' := (mkF m 45 #[.val (.ref a1), .val (.int (Int32.ofNat k)), .val (.int p2), .val (.int p3), .val (.int (7 : Int32)), .val (.ref b426), .unset] [(.int (7 : Int32))])) (fun _ kt => XS.iload X435.here hx rfl (hb hby d_method_5_code_43) rfl  kt) ?_
    refine Rch.of (T' := T435) (g' := (mkF m 46 #[.val (.ref a1), .val (.int (Int32.ofNat k)), .val (.int p2), .val (.int p3), .val (.int (7 : Int32)), .val (.ref b426), .unset] [(.int (2 : Int32)), (.int (7 : Int32))])) (fun _ kt => XS.iconst X435.here hx rfl (hb hby d_method_5_code_45) kt) ?_
    refine Rch.of (T' := T435) (g' := (mkF m 49 #[.val (.ref a1), .val (.int (Int32.ofNat k)), .val (.int p2), .val (.int p3), .val (.int (7 : Int32)), .val (.ref b426), .unset] [])) (fun _ kt => XS.icmpNo X435.here hx rfl (hb hby d_method_5_code_46) rfl (tlt ((by decide) : (2 : Int32) < (7 : Int32))).2.2.2 kt) ?_
    refine Rch.of (T' := T435) (g' := (mkF m 51 #[.val (.ref a1), .val (.int (Int32.ofNat k)), .val (.int p2), .val (.int p3), .val (.int (7 : Int32)), .val (.ref b426), .unset] [(.ref b426)])) (fun _ kt => XS.aload X435.here hx rfl (hb hby d_method_5_code_49) rfl rfl kt) ?_
    refine Rch.of (T' := T435) (g' := (mkF m 52 #[.val (.ref a1), .val (.int (Int32.ofNat k)), .val (.int p2), .val (.int p3), .val (.int (7 : Int32)), .val (.ref b426), .unset] [(.int (2 : Int32)), (.ref b426)])) (fun _ kt => XS.iconst X435.here hx rfl (hb hby d_method_5_code_51) kt) ?_
    refine Rch.of (T' := T435) (g' := (mkF m 53 #[.val (.ref a1), .val (.int (Int32.ofNat k)), .val (.int p2), .val (.int p3), .val (.int (7 : Int32)), .val (.ref b426), .unset] [(.ref a1), (.int (2 : Int32)), (.ref b426)])) (fun _ kt => XS.aloadN X435.here hx rfl (hb hby d_method_5_code_52) rfl rfl kt) ?_
    refine Rch.of (T' := T435) (g' := (mkF m 54 #[.val (.ref a1), .val (.int (Int32.ofNat k)), .val (.int p2), .val (.int p3), .val (.int (7 : Int32)), .val (.ref b426), .unset] [(.int (2 : Int32)), (.ref a1), (.int (2 : Int32)), (.ref b426)])) (fun _ kt => XS.iconst X435.here hx rfl (hb hby d_method_5_code_53) kt) ?_
    have pr439 : 2 < 7 := by omega
    have pr440 : 7 ≤ 7 := by omega
    obtain ⟨cq438, kq438, q438a, q438b, q438c⟩ := isOf hZ e435 (((E1.ext E426).wr W430).wr W435)
    obtain ⟨_, _, ⟨T438, L438, k438, n438⟩, -, X438, ⟨Lc438, hQ438, l438, y438, z438⟩, st438⟩ := X435.virtualBack hx (y := (⟨"java/lang/String", "charAt", "(I)C"⟩ : MethodName)) (z := (⟨"java/lang/String", "charAt", "(I)C"⟩ : MethodName)) hown (mvT hZ (hw _ (List.mem_of_getElem? (i := 101) rfl))) (mvT hZ (hw _ (List.mem_of_getElem? (i := 102) rfl))) (notFace_of_selects (args := #[]) (mvT hZ (hw _ (List.mem_of_getElem? (i := 104) rfl)))) (mvT hZ (hw _ (List.mem_of_getElem? (i := 104) rfl))) (mvT hZ (hw _ (List.mem_of_getElem? (i := 103) rfl))) (by decide) (backOf (W := 2) (rqCA l Z a0 hw [] a1 b1 7 y 2 cs sv h435 n0 (Nat.le_trans (Nat.le_trans (Nat.le_trans Z0 E426.1) (Keep.of_wr W430).1) (Keep.of_wr W435).1) (((E1.ext E426).wr W430).wr W435) (((F1.ext E426).other W430 (Or.inl ne_a1_b426)).other W435 (Or.inl ne_a1_b426)) (((F2.ext E426).other W430 (Or.inl ne_a1_b426)).other W435 (Or.inl ne_a1_b426)) (((V1.ext E426).other W430 ne_b1_b426).other W435 ne_b1_b426) pr439 pr440 hy (((SC.ext E426).wr W430).wr W435) hcs (((SI.ext E426).wr W430).wr W435) hsv) hZ (hw _ (List.mem_of_getElem? (i := 105) rfl)) (hw _ (List.mem_of_getElem? (i := 11) rfl)) (by decide) (by decide)) q438a q438c (g := (mkF m 54 #[.val (.ref a1), .val (.int (Int32.ofNat k)), .val (.int p2), .val (.int p3), .val (.int (7 : Int32)), .val (.ref b426), .unset] [(.int (2 : Int32)), (.ref a1), (.int (2 : Int32)), (.ref b426)])) rfl (by rw [hml]; rfl) (Steps.refl _) (argsL := [(.int (2 : Int32))]) (rest := [(.int (2 : Int32)), (.ref b426)]) (lenOf pd_18 rfl) rfl (by show 2 * 0 + _ ≤ _; exact Nat.le_of_eq rfl) (hb hby d_method_5_code_54) (fun _ _ => ⟨rfl, e435, (by decide : 1 + 0 ≤ _), (by decide : 7 + 0 ≤ _)⟩)
    dsimp only [Pt.U, Pt.locs, Pt.cells, Pt.slots] at X438 l438 y438 z438 st438 hQ438
    subst l438 y438 z438
    obtain ⟨rfl, N438q, hQ438⟩ := hQ438
    have N438 := Fr.app N435 N438q
    refine Rch.via (T' := T438) (g' := (mkF m 57 #[.val (.ref a1), .val (.int (Int32.ofNat k)), .val (.int p2), .val (.int p3), .val (.int (7 : Int32)), .val (.ref b426), .unset] [(.int (y 2)), (.int (2 : Int32)), (.ref b426)])) st438 ?_
    obtain ⟨cl441, Ar441, Sz441, Ha441⟩ := id V435
    obtain ⟨T441, h441, X441, e441, W441, st441⟩ := stC X438 hx hZ hQ438 Ar441 (j := (2 : Int32)) (oIn (i := 2) Sz441 (by decide) (by decide)) (g := (mkF m 57 #[.val (.ref a1), .val (.int (Int32.ofNat k)), .val (.int p2), .val (.int p3), .val (.int (7 : Int32)), .val (.ref b426), .unset] [(.int (y 2)), (.int (2 : Int32)), (.ref b426)])) rfl rfl (hb hby d_method_5_code_57)
    have V441 := Av.setI (i := 2) V435 (by decide) (by decide) W441
    obtain ⟨y441, hy441⟩ : ∃ zz_ : Nat → Int32, zz_ = fun q => if q = 2 then (y 2).toUInt32.toUInt16.toUInt32.toInt32 else y435 q := ⟨_, rfl⟩
    have V441 : Av Z h441 b426 .char 7 (fun q => .int (y441 q)) := by rw [hy441]; exact V441
    have N441 := Fr.snoc X441 N438 ge_b426
    have Sf442 : Safe Z consts_1 s.vm h435 b426 := (Safe.exa hZ.alike ((Q426.wr W430).wr W435) (by decide) (by decide))
    refine Rch.of (T' := T441) (g' := (mkF m 58 #[.val (.ref a1), .val (.int (Int32.ofNat k)), .val (.int p2), .val (.int p3), .val (.int (7 : Int32)), .val (.ref b426), .unset] [])) st441 ?_
    refine Rch.of (T' := T441) (g' := (mkF m 60 #[.val (.ref a1), .val (.int (Int32.ofNat k)), .val (.int p2), .val (.int p3), .val (.int (7 : Int32)), .val (.ref b426), .unset] [(.int (7 : Int32))])) (fun _ kt => XS.iload X441.here hx rfl (hb hby d_method_5_code_58) rfl  kt) ?_
    refine Rch.of (T' := T441) (g' := (mkF m 61 #[.val (.ref a1), .val (.int (Int32.ofNat k)), .val (.int p2), .val (.int p3), .val (.int (7 : Int32)), .val (.ref b426), .unset] [(.int (3 : Int32)), (.int (7 : Int32))])) (fun _ kt => XS.iconst X441.here hx rfl (hb hby d_method_5_code_60) kt) ?_
    refine Rch.of (T' := T441) (g' := (mkF m 64 #[.val (.ref a1), .val (.int (Int32.ofNat k)), .val (.int p2), .val (.int p3), .val (.int (7 : Int32)), .val (.ref b426), .unset] [])) (fun _ kt => XS.icmpNo X441.here hx rfl (hb hby d_method_5_code_61) rfl (tlt ((by decide) : (3 : Int32) < (7 : Int32))).2.2.2 kt) ?_
    refine Rch.of (T' := T441) (g' := (mkF m 66 #[.val (.ref a1), .val (.int (Int32.ofNat k)), .val (.int p2), .val (.int p3), .val (.int (7 : Int32)), .val (.ref b426), .unset] [(.ref b426)])) (fun _ kt => XS.aload X441.here hx rfl (hb hby d_method_5_code_64) rfl rfl kt) ?_
    refine Rch.of (T' := T441) (g' := (mkF m 67 #[.val (.ref a1), .val (.int (Int32.ofNat k)), .val (.int p2), .val (.int p3), .val (.int (7 : Int32)), .val (.ref b426), .unset] [(.int (3 : Int32)), (.ref b426)])) (fun _ kt => XS.iconst X441.here hx rfl (hb hby d_method_5_code_66) kt) ?_
    refine Rch.of (T' := T441) (g' := (mkF m 68 #[.val (.ref a1), .val (.int (Int32.ofNat k)), .val (.int p2), .val (.int p3), .val (.int (7 : Int32)), .val (.ref b426), .unset] [(.ref a1), (.int (3 : Int32)), (.ref b426)])) (fun _ kt => XS.aloadN X441.here hx rfl (hb hby d_method_5_code_67) rfl rfl kt) ?_
    refine Rch.of (T' := T441) (g' := (mkF m 69 #[.val (.ref a1), .val (.int (Int32.ofNat k)), .val (.int p2), .val (.int p3), .val (.int (7 : Int32)), .val (.ref b426), .unset] [(.int (3 : Int32)), (.ref a1), (.int (3 : Int32)), (.ref b426)])) (fun _ kt => XS.iconst X441.here hx rfl (hb hby d_method_5_code_68) kt) ?_
    have pr444 : 3 < 7 := by omega
    have pr445 : 7 ≤ 7 := by omega
    obtain ⟨cq443, kq443, q443a, q443b, q443c⟩ := isOf hZ e441 ((((E1.ext E426).wr W430).wr W435).wr W441)
    obtain ⟨_, _, ⟨T443, L443, k443, n443⟩, -, X443, ⟨Lc443, hQ443, l443, y443, z443⟩, st443⟩ := X441.virtualBack hx (y := (⟨"java/lang/String", "charAt", "(I)C"⟩ : MethodName)) (z := (⟨"java/lang/String", "charAt", "(I)C"⟩ : MethodName)) hown (mvT hZ (hw _ (List.mem_of_getElem? (i := 101) rfl))) (mvT hZ (hw _ (List.mem_of_getElem? (i := 102) rfl))) (notFace_of_selects (args := #[]) (mvT hZ (hw _ (List.mem_of_getElem? (i := 104) rfl)))) (mvT hZ (hw _ (List.mem_of_getElem? (i := 104) rfl))) (mvT hZ (hw _ (List.mem_of_getElem? (i := 103) rfl))) (by decide) (backOf (W := 2) (rqCA l Z a0 hw [] a1 b1 7 y 3 cs sv h441 n0 (Nat.le_trans (Nat.le_trans (Nat.le_trans (Nat.le_trans Z0 E426.1) (Keep.of_wr W430).1) (Keep.of_wr W435).1) (Keep.of_wr W441).1) ((((E1.ext E426).wr W430).wr W435).wr W441) ((((F1.ext E426).other W430 (Or.inl ne_a1_b426)).other W435 (Or.inl ne_a1_b426)).other W441 (Or.inl ne_a1_b426)) ((((F2.ext E426).other W430 (Or.inl ne_a1_b426)).other W435 (Or.inl ne_a1_b426)).other W441 (Or.inl ne_a1_b426)) ((((V1.ext E426).other W430 ne_b1_b426).other W435 ne_b1_b426).other W441 ne_b1_b426) pr444 pr445 hy ((((SC.ext E426).wr W430).wr W435).wr W441) hcs ((((SI.ext E426).wr W430).wr W435).wr W441) hsv) hZ (hw _ (List.mem_of_getElem? (i := 105) rfl)) (hw _ (List.mem_of_getElem? (i := 11) rfl)) (by decide) (by decide)) q443a q443c (g := (mkF m 69 #[.val (.ref a1), .val (.int (Int32.ofNat k)), .val (.int p2), .val (.int p3), .val (.int (7 : Int32)), .val (.ref b426), .unset] [(.int (3 : Int32)), (.ref a1), (.int (3 : Int32)), (.ref b426)])) rfl (by rw [hml]; rfl) (Steps.refl _) (argsL := [(.int (3 : Int32))]) (rest := [(.int (3 : Int32)), (.ref b426)]) (lenOf pd_18 rfl) rfl (by show 2 * 0 + _ ≤ _; exact Nat.le_of_eq rfl) (hb hby d_method_5_code_69) (fun _ _ => ⟨rfl, e441, (by decide : 1 + 0 ≤ _), (by decide : 7 + 0 ≤ _)⟩)
    dsimp only [Pt.U, Pt.locs, Pt.cells, Pt.slots] at X443 l443 y443 z443 st443 hQ443
    subst l443 y443 z443
    obtain ⟨rfl, N443q, hQ443⟩ := hQ443
    have N443 := Fr.app N441 N443q
    refine Rch.via (T' := T443) (g' := (mkF m 72 #[.val (.ref a1), .val (.int (Int32.ofNat k)), .val (.int p2), .val (.int p3), .val (.int (7 : Int32)), .val (.ref b426), .unset] [(.int (y 3)), (.int (3 : Int32)), (.ref b426)])) st443 ?_
    obtain ⟨cl446, Ar446, Sz446, Ha446⟩ := id V441
    obtain ⟨T446, h446, X446, e446, W446, st446⟩ := stC X443 hx hZ hQ443 Ar446 (j := (3 : Int32)) (oIn (i := 3) Sz446 (by decide) (by decide)) (g := (mkF m 72 #[.val (.ref a1), .val (.int (Int32.ofNat k)), .val (.int p2), .val (.int p3), .val (.int (7 : Int32)), .val (.ref b426), .unset] [(.int (y 3)), (.int (3 : Int32)), (.ref b426)])) rfl rfl (hb hby d_method_5_code_72)
    have V446 := Av.setI (i := 3) V441 (by decide) (by decide) W446
    obtain ⟨y446, hy446⟩ : ∃ zz_ : Nat → Int32, zz_ = fun q => if q = 3 then (y 3).toUInt32.toUInt16.toUInt32.toInt32 else y441 q := ⟨_, rfl⟩
    have V446 : Av Z h446 b426 .char 7 (fun q => .int (y446 q)) := by rw [hy446]; exact V446
    have N446 := Fr.snoc X446 N443 ge_b426
    have Sf447 : Safe Z consts_1 s.vm h441 b426 := (Safe.exa hZ.alike (((Q426.wr W430).wr W435).wr W441) (by decide) (by decide))
    have Fb448 := (Nat.le_trans (Nat.le_trans (Nat.le_trans (Nat.le_trans (Nat.le_trans hk0 E426.1) (Keep.of_wr W430).1) (Keep.of_wr W435).1) (Keep.of_wr W441).1) (Keep.of_wr W446).1)
    have Fb449 := (Nat.le_trans (Nat.le_trans (Nat.le_trans (Nat.le_trans (Nat.le_trans Z0 E426.1) (Keep.of_wr W430).1) (Keep.of_wr W435).1) (Keep.of_wr W441).1) (Keep.of_wr W446).1)
    refine Rch.of (T' := T446) (g' := (mkF m 73 #[.val (.ref a1), .val (.int (Int32.ofNat k)), .val (.int p2), .val (.int p3), .val (.int (7 : Int32)), .val (.ref b426), .unset] [])) st446 ?_
    refine Rch.of (T' := T446) (g' := (mkF m 75 #[.val (.ref a1), .val (.int (Int32.ofNat k)), .val (.int p2), .val (.int p3), .val (.int (7 : Int32)), .val (.ref b426), .unset] [(.int (7 : Int32))])) (fun _ kt => XS.iload X446.here hx rfl (hb hby d_method_5_code_73) rfl  kt) ?_
    refine Rch.of (T' := T446) (g' := (mkF m 76 #[.val (.ref a1), .val (.int (Int32.ofNat k)), .val (.int p2), .val (.int p3), .val (.int (7 : Int32)), .val (.ref b426), .unset] [(.int (4 : Int32)), (.int (7 : Int32))])) (fun _ kt => XS.iconst X446.here hx rfl (hb hby d_method_5_code_75) kt) ?_
    refine Rch.of (T' := T446) (g' := (mkF m 79 #[.val (.ref a1), .val (.int (Int32.ofNat k)), .val (.int p2), .val (.int p3), .val (.int (7 : Int32)), .val (.ref b426), .unset] [])) (fun _ kt => XS.icmpNo X446.here hx rfl (hb hby d_method_5_code_76) rfl (tlt ((by decide) : (4 : Int32) < (7 : Int32))).2.2.2 kt) ?_
    refine Rch.of (T' := T446) (g' := (mkF m 81 #[.val (.ref a1), .val (.int (Int32.ofNat k)), .val (.int p2), .val (.int p3), .val (.int (7 : Int32)), .val (.ref b426), .unset] [(.ref b426)])) (fun _ kt => XS.aload X446.here hx rfl (hb hby d_method_5_code_79) rfl rfl kt) ?_
    refine Rch.of (T' := T446) (g' := (mkF m 82 #[.val (.ref a1), .val (.int (Int32.ofNat k)), .val (.int p2), .val (.int p3), .val (.int (7 : Int32)), .val (.ref b426), .unset] [(.int (4 : Int32)), (.ref b426)])) (fun _ kt => XS.iconst X446.here hx rfl (hb hby d_method_5_code_81) kt) ?_
    refine Rch.of (T' := T446) (g' := (mkF m 83 #[.val (.ref a1), .val (.int (Int32.ofNat k)), .val (.int p2), .val (.int p3), .val (.int (7 : Int32)), .val (.ref b426), .unset] [(.ref a1), (.int (4 : Int32)), (.ref b426)])) (fun _ kt => XS.aloadN X446.here hx rfl (hb hby d_method_5_code_82) rfl rfl kt) ?_
    refine Rch.of (T' := T446) (g' := (mkF m 84 #[.val (.ref a1), .val (.int (Int32.ofNat k)), .val (.int p2), .val (.int p3), .val (.int (7 : Int32)), .val (.ref b426), .unset] [(.int (4 : Int32)), (.ref a1), (.int (4 : Int32)), (.ref b426)])) (fun _ kt => XS.iconst X446.here hx rfl (hb hby d_method_5_code_83) kt) ?_
    have pr451 : 4 < 7 := by omega
    have pr452 : 7 ≤ 7 := by omega
    obtain ⟨cq450, kq450, q450a, q450b, q450c⟩ := isOf hZ e446 (((((E1.ext E426).wr W430).wr W435).wr W441).wr W446)
    obtain ⟨_, _, ⟨T450, L450, k450, n450⟩, -, X450, ⟨Lc450, hQ450, l450, y450, z450⟩, st450⟩ := X446.virtualBack hx (y := (⟨"java/lang/String", "charAt", "(I)C"⟩ : MethodName)) (z := (⟨"java/lang/String", "charAt", "(I)C"⟩ : MethodName)) hown (mvT hZ (hw _ (List.mem_of_getElem? (i := 101) rfl))) (mvT hZ (hw _ (List.mem_of_getElem? (i := 102) rfl))) (notFace_of_selects (args := #[]) (mvT hZ (hw _ (List.mem_of_getElem? (i := 104) rfl)))) (mvT hZ (hw _ (List.mem_of_getElem? (i := 104) rfl))) (mvT hZ (hw _ (List.mem_of_getElem? (i := 103) rfl))) (by decide) (backOf (W := 2) (rqCA l Z a0 hw [] a1 b1 7 y 4 cs sv h446 n0 Fb449 (((((E1.ext E426).wr W430).wr W435).wr W441).wr W446) (((((F1.ext E426).other W430 (Or.inl ne_a1_b426)).other W435 (Or.inl ne_a1_b426)).other W441 (Or.inl ne_a1_b426)).other W446 (Or.inl ne_a1_b426)) (((((F2.ext E426).other W430 (Or.inl ne_a1_b426)).other W435 (Or.inl ne_a1_b426)).other W441 (Or.inl ne_a1_b426)).other W446 (Or.inl ne_a1_b426)) (((((V1.ext E426).other W430 ne_b1_b426).other W435 ne_b1_b426).other W441 ne_b1_b426).other W446 ne_b1_b426) pr451 pr452 hy (((((SC.ext E426).wr W430).wr W435).wr W441).wr W446) hcs (((((SI.ext E426).wr W430).wr W435).wr W441).wr W446) hsv) hZ (hw _ (List.mem_of_getElem? (i := 105) rfl)) (hw _ (List.mem_of_getElem? (i := 11) rfl)) (by decide) (by decide)) q450a q450c (g := (mkF m 84 #[.val (.ref a1), .val (.int (Int32.ofNat k)), .val (.int p2), .val (.int p3), .val (.int (7 : Int32)), .val (.ref b426), .unset] [(.int (4 : Int32)), (.ref a1), (.int (4 : Int32)), (.ref b426)])) rfl (by rw [hml]; rfl) (Steps.refl _) (argsL := [(.int (4 : Int32))]) (rest := [(.int (4 : Int32)), (.ref b426)]) (lenOf pd_18 rfl) rfl (by show 2 * 0 + _ ≤ _; exact Nat.le_of_eq rfl) (hb hby d_method_5_code_84) (fun _ _ => ⟨rfl, e446, (by decide : 1 + 0 ≤ _), (by decide : 7 + 0 ≤ _)⟩)
    dsimp only [Pt.U, Pt.locs, Pt.cells, Pt.slots] at X450 l450 y450 z450 st450 hQ450
    subst l450 y450 z450
    obtain ⟨rfl, N450q, hQ450⟩ := hQ450
    have N450 := Fr.app N446 N450q
    refine Rch.via (T' := T450) (g' := (mkF m 87 #[.val (.ref a1), .val (.int (Int32.ofNat k)), .val (.int p2), .val (.int p3), .val (.int (7 : Int32)), .val (.ref b426), .unset] [(.int (y 4)), (.int (4 : Int32)), (.ref b426)])) st450 ?_
    obtain ⟨cl453, Ar453, Sz453, Ha453⟩ := id V446
    obtain ⟨T453, h453, X453, e453, W453, st453⟩ := stC X450 hx hZ hQ450 Ar453 (j := (4 : Int32)) (oIn (i := 4) Sz453 (by decide) (by decide)) (g := (mkF m 87 #[.val (.ref a1), .val (.int (Int32.ofNat k)), .val (.int p2), .val (.int p3), .val (.int (7 : Int32)), .val (.ref b426), .unset] [(.int (y 4)), (.int (4 : Int32)), (.ref b426)])) rfl rfl (hb hby d_method_5_code_87)
    have V453 := Av.setI (i := 4) V446 (by decide) (by decide) W453
    obtain ⟨y453, hy453⟩ : ∃ zz_ : Nat → Int32, zz_ = fun q => if q = 4 then (y 4).toUInt32.toUInt16.toUInt32.toInt32 else y446 q := ⟨_, rfl⟩
    have V453 : Av Z h453 b426 .char 7 (fun q => .int (y453 q)) := by rw [hy453]; exact V453
    have N453 := Fr.snoc X453 N450 ge_b426
    have Sf454 : Safe Z consts_1 s.vm h446 b426 := (Safe.exa hZ.alike ((((Q426.wr W430).wr W435).wr W441).wr W446) (by decide) (by decide))
    have Rb455 := (((Rb437.trans (CHr.wr W441 Sf442 Rb437.1)).trans (CHr.wr W446 Sf447 (Rb437.trans (CHr.wr W441 Sf442 Rb437.1)).1)).trans (CHr.wr W453 Sf454 ((Rb437.trans (CHr.wr W441 Sf442 Rb437.1)).trans (CHr.wr W446 Sf447 (Rb437.trans (CHr.wr W441 Sf442 Rb437.1)).1)).1))
    have Fb456 := ((((((F1.ext E426).other W430 (Or.inl ne_a1_b426)).other W435 (Or.inl ne_a1_b426)).other W441 (Or.inl ne_a1_b426)).other W446 (Or.inl ne_a1_b426)).other W453 (Or.inl ne_a1_b426))
    have Fb457 := ((((((F2.ext E426).other W430 (Or.inl ne_a1_b426)).other W435 (Or.inl ne_a1_b426)).other W441 (Or.inl ne_a1_b426)).other W446 (Or.inl ne_a1_b426)).other W453 (Or.inl ne_a1_b426))
    have Fb458 := (((((((Keep.refl h0 []).ext E426).wr W430 (Or.inr sz_b426)).wr W435 (Or.inr sz_b426)).wr W441 (Or.inr sz_b426)).wr W446 (Or.inr sz_b426)).wr W453 (Or.inr sz_b426))
    refine Rch.of (T' := T453) (g' := (mkF m 88 #[.val (.ref a1), .val (.int (Int32.ofNat k)), .val (.int p2), .val (.int p3), .val (.int (7 : Int32)), .val (.ref b426), .unset] [])) st453 ?_
    refine Rch.of (T' := T453) (g' := (mkF m 90 #[.val (.ref a1), .val (.int (Int32.ofNat k)), .val (.int p2), .val (.int p3), .val (.int (7 : Int32)), .val (.ref b426), .unset] [(.int (7 : Int32))])) (fun _ kt => XS.iload X453.here hx rfl (hb hby d_method_5_code_88) rfl  kt) ?_
    refine Rch.of (T' := T453) (g' := (mkF m 91 #[.val (.ref a1), .val (.int (Int32.ofNat k)), .val (.int p2), .val (.int p3), .val (.int (7 : Int32)), .val (.ref b426), .unset] [(.int (5 : Int32)), (.int (7 : Int32))])) (fun _ kt => XS.iconst X453.here hx rfl (hb hby d_method_5_code_90) kt) ?_
    refine Rch.of (T' := T453) (g' := (mkF m 94 #[.val (.ref a1), .val (.int (Int32.ofNat k)), .val (.int p2), .val (.int p3), .val (.int (7 : Int32)), .val (.ref b426), .unset] [])) (fun _ kt => XS.icmpNo X453.here hx rfl (hb hby d_method_5_code_91) rfl (tlt ((by decide) : (5 : Int32) < (7 : Int32))).2.2.2 kt) ?_
    refine Rch.of (T' := T453) (g' := (mkF m 96 #[.val (.ref a1), .val (.int (Int32.ofNat k)), .val (.int p2), .val (.int p3), .val (.int (7 : Int32)), .val (.ref b426), .unset] [(.ref b426)])) (fun _ kt => XS.aload X453.here hx rfl (hb hby d_method_5_code_94) rfl rfl kt) ?_
    refine Rch.of (T' := T453) (g' := (mkF m 97 #[.val (.ref a1), .val (.int (Int32.ofNat k)), .val (.int p2), .val (.int p3), .val (.int (7 : Int32)), .val (.ref b426), .unset] [(.int (5 : Int32)), (.ref b426)])) (fun _ kt => XS.iconst X453.here hx rfl (hb hby d_method_5_code_96) kt) ?_
    refine Rch.of (T' := T453) (g' := (mkF m 98 #[.val (.ref a1), .val (.int (Int32.ofNat k)), .val (.int p2), .val (.int p3), .val (.int (7 : Int32)), .val (.ref b426), .unset] [(.ref a1), (.int (5 : Int32)), (.ref b426)])) (fun _ kt => XS.aloadN X453.here hx rfl (hb hby d_method_5_code_97) rfl rfl kt) ?_
    refine Rch.of (T' := T453) (g' := (mkF m 99 #[.val (.ref a1), .val (.int (Int32.ofNat k)), .val (.int p2), .val (.int p3), .val (.int (7 : Int32)), .val (.ref b426), .unset] [(.int (5 : Int32)), (.ref a1), (.int (5 : Int32)), (.ref b426)])) (fun _ kt => XS.iconst X453.here hx rfl (hb hby d_method_5_code_98) kt) ?_
    have pr460 : 5 < 7 := by omega
    have pr461 : 7 ≤ 7 := by omega
    obtain ⟨cq459, kq459, q459a, q459b, q459c⟩ := isOf hZ e453 ((((((E1.ext E426).wr W430).wr W435).wr W441).wr W446).wr W453)
    obtain ⟨_, _, ⟨T459, L459, k459, n459⟩, -, X459, ⟨Lc459, hQ459, l459, y459, z459⟩, st459⟩ := X453.virtualBack hx (y := (⟨"java/lang/String", "charAt", "(I)C"⟩ : MethodName)) (z := (⟨"java/lang/String", "charAt", "(I)C"⟩ : MethodName)) hown (mvT hZ (hw _ (List.mem_of_getElem? (i := 101) rfl))) (mvT hZ (hw _ (List.mem_of_getElem? (i := 102) rfl))) (notFace_of_selects (args := #[]) (mvT hZ (hw _ (List.mem_of_getElem? (i := 104) rfl)))) (mvT hZ (hw _ (List.mem_of_getElem? (i := 104) rfl))) (mvT hZ (hw _ (List.mem_of_getElem? (i := 103) rfl))) (by decide) (backOf (W := 2) (rqCA l Z a0 hw [] a1 b1 7 y 5 cs sv h453 n0 (Nat.le_trans Fb449 (Keep.of_wr W453).1) ((((((E1.ext E426).wr W430).wr W435).wr W441).wr W446).wr W453) Fb456 Fb457 ((((((V1.ext E426).other W430 ne_b1_b426).other W435 ne_b1_b426).other W441 ne_b1_b426).other W446 ne_b1_b426).other W453 ne_b1_b426) pr460 pr461 hy ((((((SC.ext E426).wr W430).wr W435).wr W441).wr W446).wr W453) hcs ((((((SI.ext E426).wr W430).wr W435).wr W441).wr W446).wr W453) hsv) hZ (hw _ (List.mem_of_getElem? (i := 105) rfl)) (hw _ (List.mem_of_getElem? (i := 11) rfl)) (by decide) (by decide)) q459a q459c (g := (mkF m 99 #[.val (.ref a1), .val (.int (Int32.ofNat k)), .val (.int p2), .val (.int p3), .val (.int (7 : Int32)), .val (.ref b426), .unset] [(.int (5 : Int32)), (.ref a1), (.int (5 : Int32)), (.ref b426)])) rfl (by rw [hml]; rfl) (Steps.refl _) (argsL := [(.int (5 : Int32))]) (rest := [(.int (5 : Int32)), (.ref b426)]) (lenOf pd_18 rfl) rfl (by show 2 * 0 + _ ≤ _; exact Nat.le_of_eq rfl) (hb hby d_method_5_code_99) (fun _ _ => ⟨rfl, e453, (by decide : 1 + 0 ≤ _), (by decide : 7 + 0 ≤ _)⟩)
    dsimp only [Pt.U, Pt.locs, Pt.cells, Pt.slots] at X459 l459 y459 z459 st459 hQ459
    subst l459 y459 z459
    obtain ⟨rfl, N459q, hQ459⟩ := hQ459
    have N459 := Fr.app N453 N459q
    refine Rch.via (T' := T459) (g' := (mkF m 102 #[.val (.ref a1), .val (.int (Int32.ofNat k)), .val (.int p2), .val (.int p3), .val (.int (7 : Int32)), .val (.ref b426), .unset] [(.int (y 5)), (.int (5 : Int32)), (.ref b426)])) st459 ?_
    obtain ⟨cl462, Ar462, Sz462, Ha462⟩ := id V453
    obtain ⟨T462, h462, X462, e462, W462, st462⟩ := stC X459 hx hZ hQ459 Ar462 (j := (5 : Int32)) (oIn (i := 5) Sz462 (by decide) (by decide)) (g := (mkF m 102 #[.val (.ref a1), .val (.int (Int32.ofNat k)), .val (.int p2), .val (.int p3), .val (.int (7 : Int32)), .val (.ref b426), .unset] [(.int (y 5)), (.int (5 : Int32)), (.ref b426)])) rfl rfl (hb hby d_method_5_code_102)
    have V462 := Av.setI (i := 5) V453 (by decide) (by decide) W462
    obtain ⟨y462, hy462⟩ : ∃ zz_ : Nat → Int32, zz_ = fun q => if q = 5 then (y 5).toUInt32.toUInt16.toUInt32.toInt32 else y453 q := ⟨_, rfl⟩
    have V462 : Av Z h462 b426 .char 7 (fun q => .int (y462 q)) := by rw [hy462]; exact V462
    have N462 := Fr.snoc X462 N459 ge_b426
    have Sf463 : Safe Z consts_1 s.vm h453 b426 := (Safe.exa hZ.alike (((((Q426.wr W430).wr W435).wr W441).wr W446).wr W453) (by decide) (by decide))
    refine Rch.of (T' := T462) (g' := (mkF m 103 #[.val (.ref a1), .val (.int (Int32.ofNat k)), .val (.int p2), .val (.int p3), .val (.int (7 : Int32)), .val (.ref b426), .unset] [])) st462 ?_
    refine Rch.of (T' := T462) (g' := (mkF m 105 #[.val (.ref a1), .val (.int (Int32.ofNat k)), .val (.int p2), .val (.int p3), .val (.int (7 : Int32)), .val (.ref b426), .unset] [(.int (7 : Int32))])) (fun _ kt => XS.iload X462.here hx rfl (hb hby d_method_5_code_103) rfl  kt) ?_
    refine Rch.of (T' := T462) (g' := (mkF m 107 #[.val (.ref a1), .val (.int (Int32.ofNat k)), .val (.int p2), .val (.int p3), .val (.int (7 : Int32)), .val (.ref b426), .unset] [(.int (6 : Int32)), (.int (7 : Int32))])) (fun _ kt => XS.bipush X462.here hx rfl (hb hby d_method_5_code_105) kt) ?_
    refine Rch.of (T' := T462) (g' := (mkF m 110 #[.val (.ref a1), .val (.int (Int32.ofNat k)), .val (.int p2), .val (.int p3), .val (.int (7 : Int32)), .val (.ref b426), .unset] [])) (fun _ kt => XS.icmpNo X462.here hx rfl (hb hby d_method_5_code_107) rfl (tlt ((by decide) : (6 : Int32) < (7 : Int32))).2.2.2 kt) ?_
    refine Rch.of (T' := T462) (g' := (mkF m 112 #[.val (.ref a1), .val (.int (Int32.ofNat k)), .val (.int p2), .val (.int p3), .val (.int (7 : Int32)), .val (.ref b426), .unset] [(.ref b426)])) (fun _ kt => XS.aload X462.here hx rfl (hb hby d_method_5_code_110) rfl rfl kt) ?_
    refine Rch.of (T' := T462) (g' := (mkF m 114 #[.val (.ref a1), .val (.int (Int32.ofNat k)), .val (.int p2), .val (.int p3), .val (.int (7 : Int32)), .val (.ref b426), .unset] [(.int (6 : Int32)), (.ref b426)])) (fun _ kt => XS.bipush X462.here hx rfl (hb hby d_method_5_code_112) kt) ?_
    refine Rch.of (T' := T462) (g' := (mkF m 115 #[.val (.ref a1), .val (.int (Int32.ofNat k)), .val (.int p2), .val (.int p3), .val (.int (7 : Int32)), .val (.ref b426), .unset] [(.ref a1), (.int (6 : Int32)), (.ref b426)])) (fun _ kt => XS.aloadN X462.here hx rfl (hb hby d_method_5_code_114) rfl rfl kt) ?_
    refine Rch.of (T' := T462) (g' := (mkF m 117 #[.val (.ref a1), .val (.int (Int32.ofNat k)), .val (.int p2), .val (.int p3), .val (.int (7 : Int32)), .val (.ref b426), .unset] [(.int (6 : Int32)), (.ref a1), (.int (6 : Int32)), (.ref b426)])) (fun _ kt => XS.bipush X462.here hx rfl (hb hby d_method_5_code_115) kt) ?_
    have pr465 : 6 < 7 := by omega
    have pr466 : 7 ≤ 7 := by omega
    obtain ⟨cq464, kq464, q464a, q464b, q464c⟩ := isOf hZ e462 (((((((E1.ext E426).wr W430).wr W435).wr W441).wr W446).wr W453).wr W462)
    obtain ⟨_, _, ⟨T464, L464, k464, n464⟩, -, X464, ⟨Lc464, hQ464, l464, y464, z464⟩, st464⟩ := X462.virtualBack hx (y := (⟨"java/lang/String", "charAt", "(I)C"⟩ : MethodName)) (z := (⟨"java/lang/String", "charAt", "(I)C"⟩ : MethodName)) hown (mvT hZ (hw _ (List.mem_of_getElem? (i := 101) rfl))) (mvT hZ (hw _ (List.mem_of_getElem? (i := 102) rfl))) (notFace_of_selects (args := #[]) (mvT hZ (hw _ (List.mem_of_getElem? (i := 104) rfl)))) (mvT hZ (hw _ (List.mem_of_getElem? (i := 104) rfl))) (mvT hZ (hw _ (List.mem_of_getElem? (i := 103) rfl))) (by decide) (backOf (W := 2) (rqCA l Z a0 hw [] a1 b1 7 y 6 cs sv h462 n0 (Nat.le_trans (Nat.le_trans Fb449 (Keep.of_wr W453).1) (Keep.of_wr W462).1) (((((((E1.ext E426).wr W430).wr W435).wr W441).wr W446).wr W453).wr W462) (Fb456.other W462 (Or.inl ne_a1_b426)) (Fb457.other W462 (Or.inl ne_a1_b426)) (((((((V1.ext E426).other W430 ne_b1_b426).other W435 ne_b1_b426).other W441 ne_b1_b426).other W446 ne_b1_b426).other W453 ne_b1_b426).other W462 ne_b1_b426) pr465 pr466 hy (((((((SC.ext E426).wr W430).wr W435).wr W441).wr W446).wr W453).wr W462) hcs (((((((SI.ext E426).wr W430).wr W435).wr W441).wr W446).wr W453).wr W462) hsv) hZ (hw _ (List.mem_of_getElem? (i := 105) rfl)) (hw _ (List.mem_of_getElem? (i := 11) rfl)) (by decide) (by decide)) q464a q464c (g := (mkF m 117 #[.val (.ref a1), .val (.int (Int32.ofNat k)), .val (.int p2), .val (.int p3), .val (.int (7 : Int32)), .val (.ref b426), .unset] [(.int (6 : Int32)), (.ref a1), (.int (6 : Int32)), (.ref b426)])) rfl (by rw [hml]; rfl) (Steps.refl _) (argsL := [(.int (6 : Int32))]) (rest := [(.int (6 : Int32)), (.ref b426)]) (lenOf pd_18 rfl) rfl (by show 2 * 0 + _ ≤ _; exact Nat.le_of_eq rfl) (hb hby d_method_5_code_117) (fun _ _ => ⟨rfl, e462, (by decide : 1 + 0 ≤ _), (by decide : 7 + 0 ≤ _)⟩)
    dsimp only [Pt.U, Pt.locs, Pt.cells, Pt.slots] at X464 l464 y464 z464 st464 hQ464
    subst l464 y464 z464
    obtain ⟨rfl, N464q, hQ464⟩ := hQ464
    have N464 := Fr.app N462 N464q
    refine Rch.via (T' := T464) (g' := (mkF m 120 #[.val (.ref a1), .val (.int (Int32.ofNat k)), .val (.int p2), .val (.int p3), .val (.int (7 : Int32)), .val (.ref b426), .unset] [(.int (y 6)), (.int (6 : Int32)), (.ref b426)])) st464 ?_
    obtain ⟨cl467, Ar467, Sz467, Ha467⟩ := id V462
    obtain ⟨T467, h467, X467, e467, W467, st467⟩ := stC X464 hx hZ hQ464 Ar467 (j := (6 : Int32)) (oIn (i := 6) Sz467 (by decide) (by decide)) (g := (mkF m 120 #[.val (.ref a1), .val (.int (Int32.ofNat k)), .val (.int p2), .val (.int p3), .val (.int (7 : Int32)), .val (.ref b426), .unset] [(.int (y 6)), (.int (6 : Int32)), (.ref b426)])) rfl rfl (hb hby d_method_5_code_120)
    have V467 := Av.setI (i := 6) V462 (by decide) (by decide) W467
    obtain ⟨y467, hy467⟩ : ∃ zz_ : Nat → Int32, zz_ = fun q => if q = 6 then (y 6).toUInt32.toUInt16.toUInt32.toInt32 else y462 q := ⟨_, rfl⟩
    have V467 : Av Z h467 b426 .char 7 (fun q => .int (y467 q)) := by rw [hy467]; exact V467
    have N467 := Fr.snoc X467 N464 ge_b426
    have Sf468 : Safe Z consts_1 s.vm h462 b426 := (Safe.exa hZ.alike ((((((Q426.wr W430).wr W435).wr W441).wr W446).wr W453).wr W462) (by decide) (by decide))
    have Fb469 := ((((((((V1.ext E426).other W430 ne_b1_b426).other W435 ne_b1_b426).other W441 ne_b1_b426).other W446 ne_b1_b426).other W453 ne_b1_b426).other W462 ne_b1_b426).other W467 ne_b1_b426)
    refine Rch.of (T' := T467) (g' := (mkF m 121 #[.val (.ref a1), .val (.int (Int32.ofNat k)), .val (.int p2), .val (.int p3), .val (.int (7 : Int32)), .val (.ref b426), .unset] [])) st467 ?_
    refine Rch.of (T' := T467) (g' := (mkF m 122 #[.val (.ref a1), .val (.int (Int32.ofNat k)), .val (.int p2), .val (.int p3), .val (.int (7 : Int32)), .val (.ref b426), .unset] [(.int p2)])) (fun _ kt => XS.iloadN X467.here hx rfl (hb hby d_method_5_code_121) rfl  kt) ?_
    refine Rch.of (T' := T467) (g' := (mkF m 124 #[.val (.ref a1), .val (.int (Int32.ofNat k)), .val (.int p2), .val (.int p3), .val (.int (7 : Int32)), .val (.ref b426), .unset] [(.int (2147483647 : Int32)), (.int p2)])) (X467.ldcInt hx hown (mvT hZ (hw _ (List.mem_of_getElem? (i := 122) rfl))) (g := (mkF m 122 #[.val (.ref a1), .val (.int (Int32.ofNat k)), .val (.int p2), .val (.int p3), .val (.int (7 : Int32)), .val (.ref b426), .unset] [(.int p2)])) rfl (hb hby d_method_5_code_122)) ?_
    refine Rch.of (T' := T467) (g' := (mkF m 125 #[.val (.ref a1), .val (.int (Int32.ofNat k)), .val (.int p2), .val (.int p3), .val (.int (7 : Int32)), .val (.ref b426), .unset] [(.int (p2 &&& (2147483647 : Int32)))])) (fun _ kt => XS.iand X467.here hx rfl (hb hby d_method_5_code_124) rfl kt) ?_
    refine Rch.of (T' := T467) (g' := (mkF m 127 #[.val (.ref a1), .val (.int (Int32.ofNat k)), .val (.int p2), .val (.int p3), .val (.int (7 : Int32)), .val (.ref b426), .unset] [(.int (7 : Int32)), (.int (p2 &&& (2147483647 : Int32)))])) (fun _ kt => XS.iload X467.here hx rfl (hb hby d_method_5_code_125) rfl  kt) ?_
    refine Rch.of (T' := T467) (g' := (mkF m 128 #[.val (.ref a1), .val (.int (Int32.ofNat k)), .val (.int p2), .val (.int p3), .val (.int (7 : Int32)), .val (.ref b426), .unset] [(.int ((p2 &&& (2147483647 : Int32)) % (7 : Int32)))])) (fun _ kt => iremM X467 hx rfl (hb hby d_method_5_code_127) rfl (by decide) kt) ?_
    have hcl : own_ch 7 y467 := by
      intro q hq
      rw [hy467, hy462, hy453, hy446, hy441, hy435, hy430]
      rcases (show q = 0 ∨ q = 1 ∨ q = 2 ∨ q = 3 ∨ q = 4 ∨ q = 5 ∨ q = 6 by omega) with rfl | rfl | rfl | rfl | rfl | rfl | rfl
      · exact own_c1i (hy.at (by decide : 0 < 7))
      · exact own_c1i (hy.at (by decide : 1 < 7))
      · exact own_c1i (hy.at (by decide : 2 < 7))
      · exact own_c1i (hy.at (by decide : 3 < 7))
      · exact own_c1i (hy.at (by decide : 4 < 7))
      · exact own_c1i (hy.at (by decide : 5 < 7))
      · exact own_c1i (hy.at (by decide : 6 < 7))
    obtain ⟨j, hj, ej⟩ := own_rem p2 7 (by decide) (by decide)
    have sw470 : ((p2 &&& (2147483647 : Int32)) % (7 : Int32)) = (Int32.ofNat j) := ej
    rw [sw470]
    show Rch p e below K T467 (mkF m 128 #[.val (.ref a1), .val (.int (Int32.ofNat k)), .val (.int p2), .val (.int p3), .val (.int (7 : Int32)), .val (.ref b426), .unset] [(.int (Int32.ofNat j))])
    have tj : (Int32.ofNat j).toInt = (j : Int) := oTo (by omega)
    refine Rch.of (T' := T467) (g' := (mkF m 130 #[.val (.ref a1), .val (.int (Int32.ofNat k)), .val (.int p2), .val (.int p3), .val (.int (7 : Int32)), .val (.ref b426), .val (.int (Int32.ofNat j))] [])) (fun _ kt => XS.istore X467.here hx rfl (hb hby d_method_5_code_128) rfl (l' := #[.val (.ref a1), .val (.int (Int32.ofNat k)), .val (.int p2), .val (.int p3), .val (.int (7 : Int32)), .val (.ref b426), .val (.int (Int32.ofNat j))]) rfl kt) ?_
    refine Rch.of (T' := T467) (g' := (mkF m 132 #[.val (.ref a1), .val (.int (Int32.ofNat k)), .val (.int p2), .val (.int p3), .val (.int (7 : Int32)), .val (.ref b426), .val (.int (Int32.ofNat j))] [(.ref b426)])) (fun _ kt => XS.aload X467.here hx rfl (hb hby d_method_5_code_130) rfl rfl kt) ?_
    refine Rch.of (T' := T467) (g' := (mkF m 134 #[.val (.ref a1), .val (.int (Int32.ofNat k)), .val (.int p2), .val (.int p3), .val (.int (7 : Int32)), .val (.ref b426), .val (.int (Int32.ofNat j))] [(.int (Int32.ofNat j)), (.ref b426)])) (fun _ kt => XS.iload X467.here hx rfl (hb hby d_method_5_code_132) rfl  kt) ?_
    refine Rch.of (T' := T467) (g' := (mkF m 136 #[.val (.ref a1), .val (.int (Int32.ofNat k)), .val (.int p2), .val (.int p3), .val (.int (7 : Int32)), .val (.ref b426), .val (.int (Int32.ofNat j))] [(.ref b426), (.int (Int32.ofNat j)), (.ref b426)])) (fun _ kt => XS.aload X467.here hx rfl (hb hby d_method_5_code_134) rfl rfl kt) ?_
    refine Rch.of (T' := T467) (g' := (mkF m 138 #[.val (.ref a1), .val (.int (Int32.ofNat k)), .val (.int p2), .val (.int p3), .val (.int (7 : Int32)), .val (.ref b426), .val (.int (Int32.ofNat j))] [(.int (Int32.ofNat j)), (.ref b426), (.int (Int32.ofNat j)), (.ref b426)])) (fun _ kt => XS.iload X467.here hx rfl (hb hby d_method_5_code_136) rfl  kt) ?_
    obtain ⟨cl471, Ar471, Sz471, Ha471⟩ := id V467
    refine Rch.of (T' := T467) (g' := (mkF m 139 #[.val (.ref a1), .val (.int (Int32.ofNat k)), .val (.int p2), .val (.int p3), .val (.int (7 : Int32)), .val (.ref b426), .val (.int (Int32.ofNat j))] [(.int (y467 j)), (.int (Int32.ofNat j)), (.ref b426)])) (X467.caload hx (j := (Int32.ofNat j)) (v := (.int (y467 j))) (by rw [e467]; exact Ar471.1) (State.isArrayOf_alike hZ.alike Ar471.2.1) Ar471.2.2 (oIn (i := j) Sz471 tj hj) (oAt (i := j) Ha471 tj hj) (g := (mkF m 138 #[.val (.ref a1), .val (.int (Int32.ofNat k)), .val (.int p2), .val (.int p3), .val (.int (7 : Int32)), .val (.ref b426), .val (.int (Int32.ofNat j))] [(.int (Int32.ofNat j)), (.ref b426), (.int (Int32.ofNat j)), (.ref b426)])) rfl rfl (hb hby d_method_5_code_138)) ?_
    refine Rch.of (T' := T467) (g' := (mkF m 140 #[.val (.ref a1), .val (.int (Int32.ofNat k)), .val (.int p2), .val (.int p3), .val (.int (7 : Int32)), .val (.ref b426), .val (.int (Int32.ofNat j))] [(.int p3), (.int (y467 j)), (.int (Int32.ofNat j)), (.ref b426)])) (fun _ kt => XS.iloadN X467.here hx rfl (hb hby d_method_5_code_139) rfl  kt) ?_
    refine Rch.of (T' := T467) (g' := (mkF m 141 #[.val (.ref a1), .val (.int (Int32.ofNat k)), .val (.int p2), .val (.int p3), .val (.int (7 : Int32)), .val (.ref b426), .val (.int (Int32.ofNat j))] [(.int ((y467 j) ^^^ p3)), (.int (Int32.ofNat j)), (.ref b426)])) (fun _ kt => XS.ixor X467.here hx rfl (hb hby d_method_5_code_140) rfl kt) ?_
    refine Rch.of (T' := T467) (g' := (mkF m 142 #[.val (.ref a1), .val (.int (Int32.ofNat k)), .val (.int p2), .val (.int p3), .val (.int (7 : Int32)), .val (.ref b426), .val (.int (Int32.ofNat j))] [(.int (((y467 j) ^^^ p3).toUInt32.toUInt16.toUInt32.toInt32)), (.int (Int32.ofNat j)), (.ref b426)])) (fun _ kt => XS.i2c X467.here hx rfl (hb hby d_method_5_code_141) rfl kt) ?_
    obtain ⟨cl472, Ar472, Sz472, Ha472⟩ := id V467
    obtain ⟨T472, h472, X472, e472, W472, st472⟩ := stC X467 hx hZ e467 Ar472 (j := (Int32.ofNat j)) (oIn (i := j) Sz472 tj hj) (g := (mkF m 142 #[.val (.ref a1), .val (.int (Int32.ofNat k)), .val (.int p2), .val (.int p3), .val (.int (7 : Int32)), .val (.ref b426), .val (.int (Int32.ofNat j))] [(.int (((y467 j) ^^^ p3).toUInt32.toUInt16.toUInt32.toInt32)), (.int (Int32.ofNat j)), (.ref b426)])) rfl rfl (hb hby d_method_5_code_142)
    have V472 := Av.setI (i := j) V467 tj hj W472
    obtain ⟨y472, hy472⟩ : ∃ zz_ : Nat → Int32, zz_ = fun q => if q = j then (((y467 j) ^^^ p3).toUInt32.toUInt16.toUInt32.toInt32).toUInt32.toUInt16.toUInt32.toInt32 else y467 q := ⟨_, rfl⟩
    have V472 : Av Z h472 b426 .char 7 (fun q => .int (y472 q)) := by rw [hy472]; exact V472
    have N472 := Fr.snoc X472 N467 ge_b426
    have Sf473 : Safe Z consts_1 s.vm h467 b426 := (Safe.exa hZ.alike (((((((Q426.wr W430).wr W435).wr W441).wr W446).wr W453).wr W462).wr W467) (by decide) (by decide))
    have Rb474 := (((Rb455.trans (CHr.wr W462 Sf463 Rb455.1)).trans (CHr.wr W467 Sf468 (Rb455.trans (CHr.wr W462 Sf463 Rb455.1)).1)).trans (CHr.wr W472 Sf473 ((Rb455.trans (CHr.wr W462 Sf463 Rb455.1)).trans (CHr.wr W467 Sf468 (Rb455.trans (CHr.wr W462 Sf463 Rb455.1)).1)).1))
    refine Rch.of (T' := T472) (g' := (mkF m 143 #[.val (.ref a1), .val (.int (Int32.ofNat k)), .val (.int p2), .val (.int p3), .val (.int (7 : Int32)), .val (.ref b426), .val (.int (Int32.ofNat j))] [])) st472 ?_
    obtain ⟨T475, h475, X475, e475, E475, A475, D475, -, st475⟩ := newO X472 hx hZ hown (hw _ (List.mem_of_getElem? (i := 9) rfl)) (hw _ (List.mem_of_getElem? (i := 10) rfl)) (hw _ (List.mem_of_getElem? (i := 11) rfl)) e472 (g := (mkF m 143 #[.val (.ref a1), .val (.int (Int32.ofNat k)), .val (.int p2), .val (.int p3), .val (.int (7 : Int32)), .val (.ref b426), .val (.int (Int32.ofNat j))] [])) rfl (hb hby d_method_5_code_143) (by decide) (by decide)
    obtain ⟨b475, g475⟩ : ∃ zz_, zz_ = h472.size := ⟨_, rfl⟩
    have ne_a1_b475 : a1 ≠ b475 := Nat.ne_of_lt (Nat.lt_of_lt_of_le (((((((((E1.ext E426).wr W430).wr W435).wr W441).wr W446).wr W453).wr W462).wr W467).wr W472).lt (Nat.le_of_eq g475.symm))
    have ne_b1_b475 : b1 ≠ b475 := Nat.ne_of_lt (Nat.lt_of_lt_of_le (Fb469.other W472 ne_b1_b426).lt (Nat.le_of_eq g475.symm))
    have ne_b426_b475 : b426 ≠ b475 := Nat.ne_of_lt (Nat.lt_of_lt_of_le ((((((((Q426.wr W430).wr W435).wr W441).wr W446).wr W453).wr W462).wr W467).wr W472).lt (Nat.le_of_eq g475.symm))
    have ge_b475 : n0 ≤ b475 := Nat.le_trans (Nat.le_trans (Nat.le_trans (Nat.le_trans (Nat.le_trans Fb449 (Keep.of_wr W453).1) (Keep.of_wr W462).1) (Keep.of_wr W467).1) (Keep.of_wr W472).1) (Nat.le_of_eq g475.symm)
    have sz_b475 : h0.size ≤ b475 := Nat.le_trans (((Fb458.wr W462 (Or.inr sz_b426)).wr W467 (Or.inr sz_b426)).wr W472 (Or.inr sz_b426)).1 (Nat.le_of_eq g475.symm)
    rw [← g475] at A475 D475 st475
    have Fb476 := (Nat.le_trans (Nat.le_trans (Nat.le_trans (Nat.le_trans (Nat.le_trans Fb448 (Keep.of_wr W453).1) (Keep.of_wr W462).1) (Keep.of_wr W467).1) (Keep.of_wr W472).1) E475.1)
    have Fb477 := (Nat.le_trans (Nat.le_trans (Nat.le_trans (Nat.le_trans (Nat.le_trans Fb449 (Keep.of_wr W453).1) (Keep.of_wr W462).1) (Keep.of_wr W467).1) (Keep.of_wr W472).1) E475.1)
    have F475_coder : Fld Z h475 b475 "java/lang/String" "coder" "B" (.int (0 : Int32)) := D475 (Or.inr (hw _ (List.mem_of_getElem? (i := 35) rfl))) (ty := .byte) (by decide)
    have F475_value : Fld Z h475 b475 "java/lang/String" "value" "[B" .null := D475 (Or.inr (hw _ (List.mem_of_getElem? (i := 37) rfl))) (ty := (.array .byte)) (by decide)
    refine Rch.of (T' := T475) (g' := (mkF m 146 #[.val (.ref a1), .val (.int (Int32.ofNat k)), .val (.int p2), .val (.int p3), .val (.int (7 : Int32)), .val (.ref b426), .val (.int (Int32.ofNat j))] [(.ref b475)])) st475 ?_
    refine Rch.of (T' := T475) (g' := (mkF m 147 #[.val (.ref a1), .val (.int (Int32.ofNat k)), .val (.int p2), .val (.int p3), .val (.int (7 : Int32)), .val (.ref b426), .val (.int (Int32.ofNat j))] [(.ref b475), (.ref b475)])) (fun _ kt => XS.dup X475.here hx rfl (hb hby d_method_5_code_146) rfl rfl kt) ?_
    refine Rch.of (T' := T475) (g' := (mkF m 149 #[.val (.ref a1), .val (.int (Int32.ofNat k)), .val (.int p2), .val (.int p3), .val (.int (7 : Int32)), .val (.ref b426), .val (.int (Int32.ofNat j))] [(.ref b426), (.ref b475), (.ref b475)])) (fun _ kt => XS.aload X475.here hx rfl (hb hby d_method_5_code_147) rfl rfl kt) ?_
    have pr479 : 7 ≤ 7 := by omega
    have hch480 : own_ch 7 y472 := by
      intro q hq
      rw [hy472]
      by_cases u : q = j
      · simp only [u, if_true]; exact own_c1i (own_c1i (own_c1x (hcl j hj) hp3))
      · simp only [u, if_false]; exact hcl q hq
    obtain ⟨_, _, ⟨T478, L478, k478, n478⟩, -, X478, hT478, gr478, ⟨Lc478, hQ478, l478, y478, z478, cr478⟩, st478⟩ := X475.specialBackS hx (y := (⟨"java/lang/String", "<init>", "([C)V"⟩ : MethodName)) rfl hown (mvT hZ (hw _ (List.mem_of_getElem? (i := 12) rfl))) (mvT hZ (hw _ (List.mem_of_getElem? (i := 13) rfl))) (mvT hZ (hw _ (List.mem_of_getElem? (i := 14) rfl))) (by decide) (backOfSH (s := s) (vm0 := s.vm) (EL := consts_1) (W := 1) (rqN1 l Z a0 hw [] b475 b426 7 y472 (.int (0 : Int32)) cs h475 n0 Fb477 A475 F475_coder F475_value ge_b475 (V472.ext E475) ((((((((((SC.ext E426).wr W430).wr W435).wr W441).wr W446).wr W453).wr W462).wr W467).wr W472).ext E475) hcs pr479 hch480) hZ (hw _ (List.mem_of_getElem? (i := 14) rfl)) (hw _ (List.mem_of_getElem? (i := 11) rfl)) (by decide) (by decide) hEL (Rb474.trans (CHr.ext E475 Rb474.1)).1) (g := (mkF m 149 #[.val (.ref a1), .val (.int (Int32.ofNat k)), .val (.int p2), .val (.int p3), .val (.int (7 : Int32)), .val (.ref b426), .val (.int (Int32.ofNat j))] [(.ref b426), (.ref b475), (.ref b475)])) rfl (by rw [hml]; rfl) (Steps.refl _) (a := b475) (argsL := [(.ref b426)]) (rest := [(.ref b475)]) (lenOf pd_2 rfl) rfl (by show 2 * 0 + _ ≤ _; exact Nat.le_of_eq rfl) (hb hby d_method_5_code_149) (fun _ _ => ⟨rfl, e475, (by decide : 2 + 4 ≤ _), (by decide : 11 + 8 ≤ _)⟩)
    dsimp only [Pt.U, Pt.locs, Pt.cells, Pt.slots] at X478 hT478 gr478 l478 y478 z478 st478 hQ478 cr478
    subst l478 y478 z478
    obtain ⟨X478, hS478, hZ, hown⟩ := rebS hS0 Fb476 X478 hT478 (by rw [← e475]; exact gr478) hZ hown
    obtain ⟨rb478, rfl, N478q, hQ478⟩ := hQ478
    have N478 := Fr.app N472 N478q
    obtain ⟨K478, Ex478, Fa478, Fb478, V478⟩ := hQ478
    refine Rch.via (T' := T478) (g' := (mkF m 152 #[.val (.ref a1), .val (.int (Int32.ofNat k)), .val (.int p2), .val (.int p3), .val (.int (7 : Int32)), .val (.ref b426), .val (.int (Int32.ofNat j))] [(.ref b475)])) st478 ?_
    exact Rch.retA X478 hx (w := (.ref b475)) hret rfl rfl hlk (hb hby d_method_5_code_152) (fun U hU hF => hK _ U _ _ _ (by show Q_rkN7 Z a1 b1 y k p2 p3 cs sv h0 n0 _ U.heap _; rw [hU]; exact ⟨b475, rb478, y472, 7, rfl, N478, (((((Fb458.wr W462 (Or.inr sz_b426)).wr W467 (Or.inr sz_b426)).wr W472 (Or.inr sz_b426)).ext E475).trans K478 (allS (Or.inr sz_b475) all0)), Ex478, Fa478, Fb478, V478, hch480, by decide⟩) (own_endH hZ hEL ((Rb474.trans (CHr.ext E475 Rb474.1)).trans cr478) hU hF) (own_end hS478 (by rw [hU]; exact (Nat.le_refl _)) hF) (by decide) (by decide))
  · skip
    refine Rch.of (T' := T0) (g' := (mkF m 1 #[.val (.ref a1), .val (.int (Int32.ofNat k)), .val (.int p2), .val (.int p3), .unset, .unset, .unset] [(.ref a1)])) (fun _ kt => XS.aloadN X0.here hx rfl (hb hby d_method_5_code_0) rfl rfl kt) ?_
    obtain ⟨cq481, kq481, q481a, q481b, q481c⟩ := isOf hZ e0 E1
    obtain ⟨_, _, ⟨T481, L481, k481, n481⟩, -, X481, ⟨Lc481, hQ481, l481, y481, z481⟩, st481⟩ := X0.virtualBack hx (y := (⟨"java/lang/String", "length", "()I"⟩ : MethodName)) (z := (⟨"java/lang/String", "length", "()I"⟩ : MethodName)) hown (mvT hZ (hw _ (List.mem_of_getElem? (i := 91) rfl))) (mvT hZ (hw _ (List.mem_of_getElem? (i := 92) rfl))) (notFace_of_selects (args := #[]) (mvT hZ (hw _ (List.mem_of_getElem? (i := 94) rfl)))) (mvT hZ (hw _ (List.mem_of_getElem? (i := 94) rfl))) (mvT hZ (hw _ (List.mem_of_getElem? (i := 93) rfl))) (by decide) (backOf (W := 0) (rqLE l Z a0 hw [] a1 b1 7 y cs h0 n0 Z0 E1 F1 F2 V1 SC hcs) hZ (hw _ (List.mem_of_getElem? (i := 95) rfl)) (hw _ (List.mem_of_getElem? (i := 11) rfl)) (by decide) (by decide)) q481a q481c (g := (mkF m 1 #[.val (.ref a1), .val (.int (Int32.ofNat k)), .val (.int p2), .val (.int p3), .unset, .unset, .unset] [(.ref a1)])) rfl (by rw [hml]; rfl) (Steps.refl _) (argsL := []) (rest := []) (lenOf pd_16 rfl) rfl (by show 2 * 0 + _ ≤ _; exact Nat.le_of_eq rfl) (hb hby d_method_5_code_1) (fun _ _ => ⟨rfl, e0, (by decide : 0 + 0 ≤ _), (by decide : 0 + 0 ≤ _)⟩)
    dsimp only [Pt.U, Pt.locs, Pt.cells, Pt.slots] at X481 l481 y481 z481 st481 hQ481
    subst l481 y481 z481
    obtain ⟨rfl, N481q, hQ481⟩ := hQ481
    have N481 := Fr.app N0 N481q
    refine Rch.via (T' := T481) (g' := (mkF m 4 #[.val (.ref a1), .val (.int (Int32.ofNat k)), .val (.int p2), .val (.int p3), .unset, .unset, .unset] [(.int (Int32.ofNat 7))])) st481 ?_
    refine Rch.of (T' := T481) (g' := (mkF m 5 #[.val (.ref a1), .val (.int (Int32.ofNat k)), .val (.int p2), .val (.int p3), .unset, .unset, .unset] [(.int (Int32.ofNat k)), (.int (Int32.ofNat 7))])) (fun _ kt => XS.iloadN X481.here hx rfl (hb hby d_method_5_code_4) rfl  kt) ?_
    refine Rch.of (T' := T481) (g' := (mkF m 6 #[.val (.ref a1), .val (.int (Int32.ofNat k)), .val (.int p2), .val (.int p3), .unset, .unset, .unset] [(.int ((Int32.ofNat 7) - (Int32.ofNat k)))])) (fun _ kt => XS.isub X481.here hx rfl (hb hby d_method_5_code_5) rfl kt) ?_
    have sw482 : ((Int32.ofNat 7) - (Int32.ofNat k)) = (6 : Int32) := by rw [ek]; decide
    rw [sw482]
    show Rch p e below K T481 (mkF m 6 #[.val (.ref a1), .val (.int (Int32.ofNat k)), .val (.int p2), .val (.int p3), .unset, .unset, .unset] [(.int (6 : Int32))])
    refine Rch.of (T' := T481) (g' := (mkF m 8 #[.val (.ref a1), .val (.int (Int32.ofNat k)), .val (.int p2), .val (.int p3), .val (.int (6 : Int32)), .unset, .unset] [])) (fun _ kt => XS.istore X481.here hx rfl (hb hby d_method_5_code_6) rfl (l' := #[.val (.ref a1), .val (.int (Int32.ofNat k)), .val (.int p2), .val (.int p3), .val (.int (6 : Int32)), .unset, .unset]) rfl kt) ?_
    refine Rch.of (T' := T481) (g' := (mkF m 10 #[.val (.ref a1), .val (.int (Int32.ofNat k)), .val (.int p2), .val (.int p3), .val (.int (6 : Int32)), .unset, .unset] [(.int (6 : Int32))])) (fun _ kt => XS.iload X481.here hx rfl (hb hby d_method_5_code_8) rfl  kt) ?_
    obtain ⟨T483, h483, k483, X483, e483, E483, A483, Q483, st483⟩ := newPE X481 hx hZ (hw _ (List.mem_of_getElem? (i := 4) rfl)) hQ481 (g := (mkF m 10 #[.val (.ref a1), .val (.int (Int32.ofNat k)), .val (.int p2), .val (.int p3), .val (.int (6 : Int32)), .unset, .unset] [(.int (6 : Int32))])) rfl (hb hby d_method_5_code_10) rfl (by decide) (cap := 6) (by decide) (by decide) (by decide) (by decide) (ad := "[C") rfl
    obtain ⟨b483, g483⟩ : ∃ zz_, zz_ = h0.size := ⟨_, rfl⟩
    have ne_a1_b483 : a1 ≠ b483 := Nat.ne_of_lt (Nat.lt_of_lt_of_le E1.lt (Nat.le_of_eq g483.symm))
    have ne_b1_b483 : b1 ≠ b483 := Nat.ne_of_lt (Nat.lt_of_lt_of_le V1.lt (Nat.le_of_eq g483.symm))
    have ge_b483 : n0 ≤ b483 := Nat.le_trans Z0 (Nat.le_of_eq g483.symm)
    have sz_b483 : h0.size ≤ b483 := Nat.le_trans (Keep.refl h0 []).1 (Nat.le_of_eq g483.symm)
    rw [← g483] at A483 Q483 st483
    have V483 : Av Z h483 b483 .char 6 (fun _ => (.int (0 : Int32))) := Av.new A483 (by decide)
    refine Rch.of (T' := T483) (g' := (mkF m 12 #[.val (.ref a1), .val (.int (Int32.ofNat k)), .val (.int p2), .val (.int p3), .val (.int (6 : Int32)), .unset, .unset] [(.ref b483)])) st483 ?_
    refine Rch.of (T' := T483) (g' := (mkF m 14 #[.val (.ref a1), .val (.int (Int32.ofNat k)), .val (.int p2), .val (.int p3), .val (.int (6 : Int32)), .val (.ref b483), .unset] [])) (fun _ kt => XS.astore X483.here hx rfl (hb hby d_method_5_code_12) rfl rfl (l' := #[.val (.ref a1), .val (.int (Int32.ofNat k)), .val (.int p2), .val (.int p3), .val (.int (6 : Int32)), .val (.ref b483), .unset]) rfl kt) ?_
    refine Rch.of (T' := T483) (g' := (mkF m 16 #[.val (.ref a1), .val (.int (Int32.ofNat k)), .val (.int p2), .val (.int p3), .val (.int (6 : Int32)), .val (.ref b483), .unset] [(.int (6 : Int32))])) (fun _ kt => XS.iload X483.here hx rfl (hb hby d_method_5_code_14) rfl  kt) ?_
    refine Rch.of (T' := T483) (g' := (mkF m 19 #[.val (.ref a1), .val (.int (Int32.ofNat k)), .val (.int p2), .val (.int p3), .val (.int (6 : Int32)), .val (.ref b483), .unset] [])) (fun _ kt => XS.ifNo X483.here hx rfl (hb hby d_method_5_code_16) rfl ((if0 _ _).trans (tlt ((by decide) : (0 : Int32) < (6 : Int32))).2.2.2) kt) ?_
    refine Rch.of (T' := T483) (g' := (mkF m 21 #[.val (.ref a1), .val (.int (Int32.ofNat k)), .val (.int p2), .val (.int p3), .val (.int (6 : Int32)), .val (.ref b483), .unset] [(.ref b483)])) (fun _ kt => XS.aload X483.here hx rfl (hb hby d_method_5_code_19) rfl rfl kt) ?_
    refine Rch.of (T' := T483) (g' := (mkF m 22 #[.val (.ref a1), .val (.int (Int32.ofNat k)), .val (.int p2), .val (.int p3), .val (.int (6 : Int32)), .val (.ref b483), .unset] [(.int (0 : Int32)), (.ref b483)])) (fun _ kt => XS.iconst X483.here hx rfl (hb hby d_method_5_code_21) kt) ?_
    refine Rch.of (T' := T483) (g' := (mkF m 23 #[.val (.ref a1), .val (.int (Int32.ofNat k)), .val (.int p2), .val (.int p3), .val (.int (6 : Int32)), .val (.ref b483), .unset] [(.ref a1), (.int (0 : Int32)), (.ref b483)])) (fun _ kt => XS.aloadN X483.here hx rfl (hb hby d_method_5_code_22) rfl rfl kt) ?_
    refine Rch.of (T' := T483) (g' := (mkF m 24 #[.val (.ref a1), .val (.int (Int32.ofNat k)), .val (.int p2), .val (.int p3), .val (.int (6 : Int32)), .val (.ref b483), .unset] [(.int (0 : Int32)), (.ref a1), (.int (0 : Int32)), (.ref b483)])) (fun _ kt => XS.iconst X483.here hx rfl (hb hby d_method_5_code_23) kt) ?_
    have pr485 : 0 < 7 := by omega
    have pr486 : 7 ≤ 7 := by omega
    obtain ⟨cq484, kq484, q484a, q484b, q484c⟩ := isOf hZ e483 (E1.ext E483)
    obtain ⟨_, _, ⟨T484, L484, k484, n484⟩, -, X484, ⟨Lc484, hQ484, l484, y484, z484⟩, st484⟩ := X483.virtualBack hx (y := (⟨"java/lang/String", "charAt", "(I)C"⟩ : MethodName)) (z := (⟨"java/lang/String", "charAt", "(I)C"⟩ : MethodName)) hown (mvT hZ (hw _ (List.mem_of_getElem? (i := 101) rfl))) (mvT hZ (hw _ (List.mem_of_getElem? (i := 102) rfl))) (notFace_of_selects (args := #[]) (mvT hZ (hw _ (List.mem_of_getElem? (i := 104) rfl)))) (mvT hZ (hw _ (List.mem_of_getElem? (i := 104) rfl))) (mvT hZ (hw _ (List.mem_of_getElem? (i := 103) rfl))) (by decide) (backOf (W := 2) (rqCA l Z a0 hw [] a1 b1 7 y 0 cs sv h483 n0 (Nat.le_trans Z0 E483.1) (E1.ext E483) (F1.ext E483) (F2.ext E483) (V1.ext E483) pr485 pr486 hy (SC.ext E483) hcs (SI.ext E483) hsv) hZ (hw _ (List.mem_of_getElem? (i := 105) rfl)) (hw _ (List.mem_of_getElem? (i := 11) rfl)) (by decide) (by decide)) q484a q484c (g := (mkF m 24 #[.val (.ref a1), .val (.int (Int32.ofNat k)), .val (.int p2), .val (.int p3), .val (.int (6 : Int32)), .val (.ref b483), .unset] [(.int (0 : Int32)), (.ref a1), (.int (0 : Int32)), (.ref b483)])) rfl (by rw [hml]; rfl) (Steps.refl _) (argsL := [(.int (0 : Int32))]) (rest := [(.int (0 : Int32)), (.ref b483)]) (lenOf pd_18 rfl) rfl (by show 2 * 0 + _ ≤ _; exact Nat.le_of_eq rfl) (hb hby d_method_5_code_24) (fun _ _ => ⟨rfl, e483, (by decide : 1 + 0 ≤ _), (by decide : 6 + 0 ≤ _)⟩)
    dsimp only [Pt.U, Pt.locs, Pt.cells, Pt.slots] at X484 l484 y484 z484 st484 hQ484
    subst l484 y484 z484
    obtain ⟨rfl, N484q, hQ484⟩ := hQ484
    have N484 := Fr.app N481 N484q
    refine Rch.via (T' := T484) (g' := (mkF m 27 #[.val (.ref a1), .val (.int (Int32.ofNat k)), .val (.int p2), .val (.int p3), .val (.int (6 : Int32)), .val (.ref b483), .unset] [(.int (y 0)), (.int (0 : Int32)), (.ref b483)])) st484 ?_
    obtain ⟨cl487, Ar487, Sz487, Ha487⟩ := id V483
    obtain ⟨T487, h487, X487, e487, W487, st487⟩ := stC X484 hx hZ hQ484 Ar487 (j := (0 : Int32)) (oIn (i := 0) Sz487 (by decide) (by decide)) (g := (mkF m 27 #[.val (.ref a1), .val (.int (Int32.ofNat k)), .val (.int p2), .val (.int p3), .val (.int (6 : Int32)), .val (.ref b483), .unset] [(.int (y 0)), (.int (0 : Int32)), (.ref b483)])) rfl rfl (hb hby d_method_5_code_27)
    have V487 := Av.setI (i := 0) V483 (by decide) (by decide) W487
    obtain ⟨y487, hy487⟩ : ∃ zz_ : Nat → Int32, zz_ = fun q => if q = 0 then (y 0).toUInt32.toUInt16.toUInt32.toInt32 else (fun _ => (0 : Int32)) q := ⟨_, rfl⟩
    have V487 : Av Z h487 b483 .char 6 (fun q => .int (y487 q)) := by rw [hy487]; exact V487
    have N487 := Fr.snoc X487 N484 ge_b483
    have Sf488 : Safe Z consts_1 s.vm h483 b483 := (Safe.exa hZ.alike Q483 (by decide) (by decide))
    refine Rch.of (T' := T487) (g' := (mkF m 28 #[.val (.ref a1), .val (.int (Int32.ofNat k)), .val (.int p2), .val (.int p3), .val (.int (6 : Int32)), .val (.ref b483), .unset] [])) st487 ?_
    refine Rch.of (T' := T487) (g' := (mkF m 30 #[.val (.ref a1), .val (.int (Int32.ofNat k)), .val (.int p2), .val (.int p3), .val (.int (6 : Int32)), .val (.ref b483), .unset] [(.int (6 : Int32))])) (fun _ kt => XS.iload X487.here hx rfl (hb hby d_method_5_code_28) rfl  kt) ?_
    refine Rch.of (T' := T487) (g' := (mkF m 31 #[.val (.ref a1), .val (.int (Int32.ofNat k)), .val (.int p2), .val (.int p3), .val (.int (6 : Int32)), .val (.ref b483), .unset] [(.int (1 : Int32)), (.int (6 : Int32))])) (fun _ kt => XS.iconst X487.here hx rfl (hb hby d_method_5_code_30) kt) ?_
    refine Rch.of (T' := T487) (g' := (mkF m 34 #[.val (.ref a1), .val (.int (Int32.ofNat k)), .val (.int p2), .val (.int p3), .val (.int (6 : Int32)), .val (.ref b483), .unset] [])) (fun _ kt => XS.icmpNo X487.here hx rfl (hb hby d_method_5_code_31) rfl (tlt ((by decide) : (1 : Int32) < (6 : Int32))).2.2.2 kt) ?_
    refine Rch.of (T' := T487) (g' := (mkF m 36 #[.val (.ref a1), .val (.int (Int32.ofNat k)), .val (.int p2), .val (.int p3), .val (.int (6 : Int32)), .val (.ref b483), .unset] [(.ref b483)])) (fun _ kt => XS.aload X487.here hx rfl (hb hby d_method_5_code_34) rfl rfl kt) ?_
    refine Rch.of (T' := T487) (g' := (mkF m 37 #[.val (.ref a1), .val (.int (Int32.ofNat k)), .val (.int p2), .val (.int p3), .val (.int (6 : Int32)), .val (.ref b483), .unset] [(.int (1 : Int32)), (.ref b483)])) (fun _ kt => XS.iconst X487.here hx rfl (hb hby d_method_5_code_36) kt) ?_
    refine Rch.of (T' := T487) (g' := (mkF m 38 #[.val (.ref a1), .val (.int (Int32.ofNat k)), .val (.int p2), .val (.int p3), .val (.int (6 : Int32)), .val (.ref b483), .unset] [(.ref a1), (.int (1 : Int32)), (.ref b483)])) (fun _ kt => XS.aloadN X487.here hx rfl (hb hby d_method_5_code_37) rfl rfl kt) ?_
    refine Rch.of (T' := T487) (g' := (mkF m 39 #[.val (.ref a1), .val (.int (Int32.ofNat k)), .val (.int p2), .val (.int p3), .val (.int (6 : Int32)), .val (.ref b483), .unset] [(.int (1 : Int32)), (.ref a1), (.int (1 : Int32)), (.ref b483)])) (fun _ kt => XS.iconst X487.here hx rfl (hb hby d_method_5_code_38) kt) ?_
    have pr490 : 1 < 7 := by omega
    have pr491 : 7 ≤ 7 := by omega
    obtain ⟨cq489, kq489, q489a, q489b, q489c⟩ := isOf hZ e487 ((E1.ext E483).wr W487)
    obtain ⟨_, _, ⟨T489, L489, k489, n489⟩, -, X489, ⟨Lc489, hQ489, l489, y489, z489⟩, st489⟩ := X487.virtualBack hx (y := (⟨"java/lang/String", "charAt", "(I)C"⟩ : MethodName)) (z := (⟨"java/lang/String", "charAt", "(I)C"⟩ : MethodName)) hown (mvT hZ (hw _ (List.mem_of_getElem? (i := 101) rfl))) (mvT hZ (hw _ (List.mem_of_getElem? (i := 102) rfl))) (notFace_of_selects (args := #[]) (mvT hZ (hw _ (List.mem_of_getElem? (i := 104) rfl)))) (mvT hZ (hw _ (List.mem_of_getElem? (i := 104) rfl))) (mvT hZ (hw _ (List.mem_of_getElem? (i := 103) rfl))) (by decide) (backOf (W := 2) (rqCA l Z a0 hw [] a1 b1 7 y 1 cs sv h487 n0 (Nat.le_trans (Nat.le_trans Z0 E483.1) (Keep.of_wr W487).1) ((E1.ext E483).wr W487) ((F1.ext E483).other W487 (Or.inl ne_a1_b483)) ((F2.ext E483).other W487 (Or.inl ne_a1_b483)) ((V1.ext E483).other W487 ne_b1_b483) pr490 pr491 hy ((SC.ext E483).wr W487) hcs ((SI.ext E483).wr W487) hsv) hZ (hw _ (List.mem_of_getElem? (i := 105) rfl)) (hw _ (List.mem_of_getElem? (i := 11) rfl)) (by decide) (by decide)) q489a q489c (g := (mkF m 39 #[.val (.ref a1), .val (.int (Int32.ofNat k)), .val (.int p2), .val (.int p3), .val (.int (6 : Int32)), .val (.ref b483), .unset] [(.int (1 : Int32)), (.ref a1), (.int (1 : Int32)), (.ref b483)])) rfl (by rw [hml]; rfl) (Steps.refl _) (argsL := [(.int (1 : Int32))]) (rest := [(.int (1 : Int32)), (.ref b483)]) (lenOf pd_18 rfl) rfl (by show 2 * 0 + _ ≤ _; exact Nat.le_of_eq rfl) (hb hby d_method_5_code_39) (fun _ _ => ⟨rfl, e487, (by decide : 1 + 0 ≤ _), (by decide : 6 + 0 ≤ _)⟩)
    dsimp only [Pt.U, Pt.locs, Pt.cells, Pt.slots] at X489 l489 y489 z489 st489 hQ489
    subst l489 y489 z489
    obtain ⟨rfl, N489q, hQ489⟩ := hQ489
    have N489 := Fr.app N487 N489q
    refine Rch.via (T' := T489) (g' := (mkF m 42 #[.val (.ref a1), .val (.int (Int32.ofNat k)), .val (.int p2), .val (.int p3), .val (.int (6 : Int32)), .val (.ref b483), .unset] [(.int (y 1)), (.int (1 : Int32)), (.ref b483)])) st489 ?_
    obtain ⟨cl492, Ar492, Sz492, Ha492⟩ := id V487
    obtain ⟨T492, h492, X492, e492, W492, st492⟩ := stC X489 hx hZ hQ489 Ar492 (j := (1 : Int32)) (oIn (i := 1) Sz492 (by decide) (by decide)) (g := (mkF m 42 #[.val (.ref a1), .val (.int (Int32.ofNat k)), .val (.int p2), .val (.int p3), .val (.int (6 : Int32)), .val (.ref b483), .unset] [(.int (y 1)), (.int (1 : Int32)), (.ref b483)])) rfl rfl (hb hby d_method_5_code_42)
    have V492 := Av.setI (i := 1) V487 (by decide) (by decide) W492
    obtain ⟨y492, hy492⟩ : ∃ zz_ : Nat → Int32, zz_ = fun q => if q = 1 then (y 1).toUInt32.toUInt16.toUInt32.toInt32 else y487 q := ⟨_, rfl⟩
    have V492 : Av Z h492 b483 .char 6 (fun q => .int (y492 q)) := by rw [hy492]; exact V492
    have N492 := Fr.snoc X492 N489 ge_b483
    have Sf493 : Safe Z consts_1 s.vm h487 b483 := (Safe.exa hZ.alike (Q483.wr W487) (by decide) (by decide))
    have Rb494 := (((R0.trans (CHr.ext E483 R0.1)).trans (CHr.wr W487 Sf488 (R0.trans (CHr.ext E483 R0.1)).1)).trans (CHr.wr W492 Sf493 ((R0.trans (CHr.ext E483 R0.1)).trans (CHr.wr W487 Sf488 (R0.trans (CHr.ext E483 R0.1)).1)).1))
    refine Rch.of (T' := T492) (g' := (mkF m 43 #[.val (.ref a1), .val (.int (Int32.ofNat k)), .val (.int p2), .val (.int p3), .val (.int (6 : Int32)), .val (.ref b483), .unset] [])) st492 ?_
    refine Rch.of (T' := T492) (g' := (mkF m 45 #[.val (.ref a1), .val (.int (Int32.ofNat k)), .val (.int p2), .val (.int p3), .val (.int (6 : Int32)), .val (.ref b483), .unset] [(.int (6 : Int32))])) (fun _ kt => XS.iload X492.here hx rfl (hb hby d_method_5_code_43) rfl  kt) ?_
    refine Rch.of (T' := T492) (g' := (mkF m 46 #[.val (.ref a1), .val (.int (Int32.ofNat k)), .val (.int p2), .val (.int p3), .val (.int (6 : Int32)), .val (.ref b483), .unset] [(.int (2 : Int32)), (.int (6 : Int32))])) (fun _ kt => XS.iconst X492.here hx rfl (hb hby d_method_5_code_45) kt) ?_
    refine Rch.of (T' := T492) (g' := (mkF m 49 #[.val (.ref a1), .val (.int (Int32.ofNat k)), .val (.int p2), .val (.int p3), .val (.int (6 : Int32)), .val (.ref b483), .unset] [])) (fun _ kt => XS.icmpNo X492.here hx rfl (hb hby d_method_5_code_46) rfl (tlt ((by decide) : (2 : Int32) < (6 : Int32))).2.2.2 kt) ?_
    refine Rch.of (T' := T492) (g' := (mkF m 51 #[.val (.ref a1), .val (.int (Int32.ofNat k)), .val (.int p2), .val (.int p3), .val (.int (6 : Int32)), .val (.ref b483), .unset] [(.ref b483)])) (fun _ kt => XS.aload X492.here hx rfl (hb hby d_method_5_code_49) rfl rfl kt) ?_
    refine Rch.of (T' := T492) (g' := (mkF m 52 #[.val (.ref a1), .val (.int (Int32.ofNat k)), .val (.int p2), .val (.int p3), .val (.int (6 : Int32)), .val (.ref b483), .unset] [(.int (2 : Int32)), (.ref b483)])) (fun _ kt => XS.iconst X492.here hx rfl (hb hby d_method_5_code_51) kt) ?_
    refine Rch.of (T' := T492) (g' := (mkF m 53 #[.val (.ref a1), .val (.int (Int32.ofNat k)), .val (.int p2), .val (.int p3), .val (.int (6 : Int32)), .val (.ref b483), .unset] [(.ref a1), (.int (2 : Int32)), (.ref b483)])) (fun _ kt => XS.aloadN X492.here hx rfl (hb hby d_method_5_code_52) rfl rfl kt) ?_
    refine Rch.of (T' := T492) (g' := (mkF m 54 #[.val (.ref a1), .val (.int (Int32.ofNat k)), .val (.int p2), .val (.int p3), .val (.int (6 : Int32)), .val (.ref b483), .unset] [(.int (2 : Int32)), (.ref a1), (.int (2 : Int32)), (.ref b483)])) (fun _ kt => XS.iconst X492.here hx rfl (hb hby d_method_5_code_53) kt) ?_
    have pr496 : 2 < 7 := by omega
    have pr497 : 7 ≤ 7 := by omega
    obtain ⟨cq495, kq495, q495a, q495b, q495c⟩ := isOf hZ e492 (((E1.ext E483).wr W487).wr W492)
    obtain ⟨_, _, ⟨T495, L495, k495, n495⟩, -, X495, ⟨Lc495, hQ495, l495, y495, z495⟩, st495⟩ := X492.virtualBack hx (y := (⟨"java/lang/String", "charAt", "(I)C"⟩ : MethodName)) (z := (⟨"java/lang/String", "charAt", "(I)C"⟩ : MethodName)) hown (mvT hZ (hw _ (List.mem_of_getElem? (i := 101) rfl))) (mvT hZ (hw _ (List.mem_of_getElem? (i := 102) rfl))) (notFace_of_selects (args := #[]) (mvT hZ (hw _ (List.mem_of_getElem? (i := 104) rfl)))) (mvT hZ (hw _ (List.mem_of_getElem? (i := 104) rfl))) (mvT hZ (hw _ (List.mem_of_getElem? (i := 103) rfl))) (by decide) (backOf (W := 2) (rqCA l Z a0 hw [] a1 b1 7 y 2 cs sv h492 n0 (Nat.le_trans (Nat.le_trans (Nat.le_trans Z0 E483.1) (Keep.of_wr W487).1) (Keep.of_wr W492).1) (((E1.ext E483).wr W487).wr W492) (((F1.ext E483).other W487 (Or.inl ne_a1_b483)).other W492 (Or.inl ne_a1_b483)) (((F2.ext E483).other W487 (Or.inl ne_a1_b483)).other W492 (Or.inl ne_a1_b483)) (((V1.ext E483).other W487 ne_b1_b483).other W492 ne_b1_b483) pr496 pr497 hy (((SC.ext E483).wr W487).wr W492) hcs (((SI.ext E483).wr W487).wr W492) hsv) hZ (hw _ (List.mem_of_getElem? (i := 105) rfl)) (hw _ (List.mem_of_getElem? (i := 11) rfl)) (by decide) (by decide)) q495a q495c (g := (mkF m 54 #[.val (.ref a1), .val (.int (Int32.ofNat k)), .val (.int p2), .val (.int p3), .val (.int (6 : Int32)), .val (.ref b483), .unset] [(.int (2 : Int32)), (.ref a1), (.int (2 : Int32)), (.ref b483)])) rfl (by rw [hml]; rfl) (Steps.refl _) (argsL := [(.int (2 : Int32))]) (rest := [(.int (2 : Int32)), (.ref b483)]) (lenOf pd_18 rfl) rfl (by show 2 * 0 + _ ≤ _; exact Nat.le_of_eq rfl) (hb hby d_method_5_code_54) (fun _ _ => ⟨rfl, e492, (by decide : 1 + 0 ≤ _), (by decide : 6 + 0 ≤ _)⟩)
    dsimp only [Pt.U, Pt.locs, Pt.cells, Pt.slots] at X495 l495 y495 z495 st495 hQ495
    subst l495 y495 z495
    obtain ⟨rfl, N495q, hQ495⟩ := hQ495
    have N495 := Fr.app N492 N495q
    refine Rch.via (T' := T495) (g' := (mkF m 57 #[.val (.ref a1), .val (.int (Int32.ofNat k)), .val (.int p2), .val (.int p3), .val (.int (6 : Int32)), .val (.ref b483), .unset] [(.int (y 2)), (.int (2 : Int32)), (.ref b483)])) st495 ?_
    obtain ⟨cl498, Ar498, Sz498, Ha498⟩ := id V492
    obtain ⟨T498, h498, X498, e498, W498, st498⟩ := stC X495 hx hZ hQ495 Ar498 (j := (2 : Int32)) (oIn (i := 2) Sz498 (by decide) (by decide)) (g := (mkF m 57 #[.val (.ref a1), .val (.int (Int32.ofNat k)), .val (.int p2), .val (.int p3), .val (.int (6 : Int32)), .val (.ref b483), .unset] [(.int (y 2)), (.int (2 : Int32)), (.ref b483)])) rfl rfl (hb hby d_method_5_code_57)
    have V498 := Av.setI (i := 2) V492 (by decide) (by decide) W498
    obtain ⟨y498, hy498⟩ : ∃ zz_ : Nat → Int32, zz_ = fun q => if q = 2 then (y 2).toUInt32.toUInt16.toUInt32.toInt32 else y492 q := ⟨_, rfl⟩
    have V498 : Av Z h498 b483 .char 6 (fun q => .int (y498 q)) := by rw [hy498]; exact V498
    have N498 := Fr.snoc X498 N495 ge_b483
    have Sf499 : Safe Z consts_1 s.vm h492 b483 := (Safe.exa hZ.alike ((Q483.wr W487).wr W492) (by decide) (by decide))
    refine Rch.of (T' := T498) (g' := (mkF m 58 #[.val (.ref a1), .val (.int (Int32.ofNat k)), .val (.int p2), .val (.int p3), .val (.int (6 : Int32)), .val (.ref b483), .unset] [])) st498 ?_
    refine Rch.of (T' := T498) (g' := (mkF m 60 #[.val (.ref a1), .val (.int (Int32.ofNat k)), .val (.int p2), .val (.int p3), .val (.int (6 : Int32)), .val (.ref b483), .unset] [(.int (6 : Int32))])) (fun _ kt => XS.iload X498.here hx rfl (hb hby d_method_5_code_58) rfl  kt) ?_
    refine Rch.of (T' := T498) (g' := (mkF m 61 #[.val (.ref a1), .val (.int (Int32.ofNat k)), .val (.int p2), .val (.int p3), .val (.int (6 : Int32)), .val (.ref b483), .unset] [(.int (3 : Int32)), (.int (6 : Int32))])) (fun _ kt => XS.iconst X498.here hx rfl (hb hby d_method_5_code_60) kt) ?_
    refine Rch.of (T' := T498) (g' := (mkF m 64 #[.val (.ref a1), .val (.int (Int32.ofNat k)), .val (.int p2), .val (.int p3), .val (.int (6 : Int32)), .val (.ref b483), .unset] [])) (fun _ kt => XS.icmpNo X498.here hx rfl (hb hby d_method_5_code_61) rfl (tlt ((by decide) : (3 : Int32) < (6 : Int32))).2.2.2 kt) ?_
    refine Rch.of (T' := T498) (g' := (mkF m 66 #[.val (.ref a1), .val (.int (Int32.ofNat k)), .val (.int p2), .val (.int p3), .val (.int (6 : Int32)), .val (.ref b483), .unset] [(.ref b483)])) (fun _ kt => XS.aload X498.here hx rfl (hb hby d_method_5_code_64) rfl rfl kt) ?_
    refine Rch.of (T' := T498) (g' := (mkF m 67 #[.val (.ref a1), .val (.int (Int32.ofNat k)), .val (.int p2), .val (.int p3), .val (.int (6 : Int32)), .val (.ref b483), .unset] [(.int (3 : Int32)), (.ref b483)])) (fun _ kt => XS.iconst X498.here hx rfl (hb hby d_method_5_code_66) kt) ?_
    refine Rch.of (T' := T498) (g' := (mkF m 68 #[.val (.ref a1), .val (.int (Int32.ofNat k)), .val (.int p2), .val (.int p3), .val (.int (6 : Int32)), .val (.ref b483), .unset] [(.ref a1), (.int (3 : Int32)), (.ref b483)])) (fun _ kt => XS.aloadN X498.here hx rfl (hb hby d_method_5_code_67) rfl rfl kt) ?_
    refine Rch.of (T' := T498) (g' := (mkF m 69 #[.val (.ref a1), .val (.int (Int32.ofNat k)), .val (.int p2), .val (.int p3), .val (.int (6 : Int32)), .val (.ref b483), .unset] [(.int (3 : Int32)), (.ref a1), (.int (3 : Int32)), (.ref b483)])) (fun _ kt => XS.iconst X498.here hx rfl (hb hby d_method_5_code_68) kt) ?_
    have pr501 : 3 < 7 := by omega
    have pr502 : 7 ≤ 7 := by omega
    obtain ⟨cq500, kq500, q500a, q500b, q500c⟩ := isOf hZ e498 ((((E1.ext E483).wr W487).wr W492).wr W498)
    obtain ⟨_, _, ⟨T500, L500, k500, n500⟩, -, X500, ⟨Lc500, hQ500, l500, y500, z500⟩, st500⟩ := X498.virtualBack hx (y := (⟨"java/lang/String", "charAt", "(I)C"⟩ : MethodName)) (z := (⟨"java/lang/String", "charAt", "(I)C"⟩ : MethodName)) hown (mvT hZ (hw _ (List.mem_of_getElem? (i := 101) rfl))) (mvT hZ (hw _ (List.mem_of_getElem? (i := 102) rfl))) (notFace_of_selects (args := #[]) (mvT hZ (hw _ (List.mem_of_getElem? (i := 104) rfl)))) (mvT hZ (hw _ (List.mem_of_getElem? (i := 104) rfl))) (mvT hZ (hw _ (List.mem_of_getElem? (i := 103) rfl))) (by decide) (backOf (W := 2) (rqCA l Z a0 hw [] a1 b1 7 y 3 cs sv h498 n0 (Nat.le_trans (Nat.le_trans (Nat.le_trans (Nat.le_trans Z0 E483.1) (Keep.of_wr W487).1) (Keep.of_wr W492).1) (Keep.of_wr W498).1) ((((E1.ext E483).wr W487).wr W492).wr W498) ((((F1.ext E483).other W487 (Or.inl ne_a1_b483)).other W492 (Or.inl ne_a1_b483)).other W498 (Or.inl ne_a1_b483)) ((((F2.ext E483).other W487 (Or.inl ne_a1_b483)).other W492 (Or.inl ne_a1_b483)).other W498 (Or.inl ne_a1_b483)) ((((V1.ext E483).other W487 ne_b1_b483).other W492 ne_b1_b483).other W498 ne_b1_b483) pr501 pr502 hy ((((SC.ext E483).wr W487).wr W492).wr W498) hcs ((((SI.ext E483).wr W487).wr W492).wr W498) hsv) hZ (hw _ (List.mem_of_getElem? (i := 105) rfl)) (hw _ (List.mem_of_getElem? (i := 11) rfl)) (by decide) (by decide)) q500a q500c (g := (mkF m 69 #[.val (.ref a1), .val (.int (Int32.ofNat k)), .val (.int p2), .val (.int p3), .val (.int (6 : Int32)), .val (.ref b483), .unset] [(.int (3 : Int32)), (.ref a1), (.int (3 : Int32)), (.ref b483)])) rfl (by rw [hml]; rfl) (Steps.refl _) (argsL := [(.int (3 : Int32))]) (rest := [(.int (3 : Int32)), (.ref b483)]) (lenOf pd_18 rfl) rfl (by show 2 * 0 + _ ≤ _; exact Nat.le_of_eq rfl) (hb hby d_method_5_code_69) (fun _ _ => ⟨rfl, e498, (by decide : 1 + 0 ≤ _), (by decide : 6 + 0 ≤ _)⟩)
    dsimp only [Pt.U, Pt.locs, Pt.cells, Pt.slots] at X500 l500 y500 z500 st500 hQ500
    subst l500 y500 z500
    obtain ⟨rfl, N500q, hQ500⟩ := hQ500
    have N500 := Fr.app N498 N500q
    refine Rch.via (T' := T500) (g' := (mkF m 72 #[.val (.ref a1), .val (.int (Int32.ofNat k)), .val (.int p2), .val (.int p3), .val (.int (6 : Int32)), .val (.ref b483), .unset] [(.int (y 3)), (.int (3 : Int32)), (.ref b483)])) st500 ?_
    obtain ⟨cl503, Ar503, Sz503, Ha503⟩ := id V498
    obtain ⟨T503, h503, X503, e503, W503, st503⟩ := stC X500 hx hZ hQ500 Ar503 (j := (3 : Int32)) (oIn (i := 3) Sz503 (by decide) (by decide)) (g := (mkF m 72 #[.val (.ref a1), .val (.int (Int32.ofNat k)), .val (.int p2), .val (.int p3), .val (.int (6 : Int32)), .val (.ref b483), .unset] [(.int (y 3)), (.int (3 : Int32)), (.ref b483)])) rfl rfl (hb hby d_method_5_code_72)
    have V503 := Av.setI (i := 3) V498 (by decide) (by decide) W503
    obtain ⟨y503, hy503⟩ : ∃ zz_ : Nat → Int32, zz_ = fun q => if q = 3 then (y 3).toUInt32.toUInt16.toUInt32.toInt32 else y498 q := ⟨_, rfl⟩
    have V503 : Av Z h503 b483 .char 6 (fun q => .int (y503 q)) := by rw [hy503]; exact V503
    have N503 := Fr.snoc X503 N500 ge_b483
    have Sf504 : Safe Z consts_1 s.vm h498 b483 := (Safe.exa hZ.alike (((Q483.wr W487).wr W492).wr W498) (by decide) (by decide))
    have Fb505 := (Nat.le_trans (Nat.le_trans (Nat.le_trans (Nat.le_trans (Nat.le_trans hk0 E483.1) (Keep.of_wr W487).1) (Keep.of_wr W492).1) (Keep.of_wr W498).1) (Keep.of_wr W503).1)
    have Fb506 := (Nat.le_trans (Nat.le_trans (Nat.le_trans (Nat.le_trans (Nat.le_trans Z0 E483.1) (Keep.of_wr W487).1) (Keep.of_wr W492).1) (Keep.of_wr W498).1) (Keep.of_wr W503).1)
    refine Rch.of (T' := T503) (g' := (mkF m 73 #[.val (.ref a1), .val (.int (Int32.ofNat k)), .val (.int p2), .val (.int p3), .val (.int (6 : Int32)), .val (.ref b483), .unset] [])) st503 ?_
    refine Rch.of (T' := T503) (g' := (mkF m 75 #[.val (.ref a1), .val (.int (Int32.ofNat k)), .val (.int p2), .val (.int p3), .val (.int (6 : Int32)), .val (.ref b483), .unset] [(.int (6 : Int32))])) (fun _ kt => XS.iload X503.here hx rfl (hb hby d_method_5_code_73) rfl  kt) ?_
    refine Rch.of (T' := T503) (g' := (mkF m 76 #[.val (.ref a1), .val (.int (Int32.ofNat k)), .val (.int p2), .val (.int p3), .val (.int (6 : Int32)), .val (.ref b483), .unset] [(.int (4 : Int32)), (.int (6 : Int32))])) (fun _ kt => XS.iconst X503.here hx rfl (hb hby d_method_5_code_75) kt) ?_
    refine Rch.of (T' := T503) (g' := (mkF m 79 #[.val (.ref a1), .val (.int (Int32.ofNat k)), .val (.int p2), .val (.int p3), .val (.int (6 : Int32)), .val (.ref b483), .unset] [])) (fun _ kt => XS.icmpNo X503.here hx rfl (hb hby d_method_5_code_76) rfl (tlt ((by decide) : (4 : Int32) < (6 : Int32))).2.2.2 kt) ?_
    refine Rch.of (T' := T503) (g' := (mkF m 81 #[.val (.ref a1), .val (.int (Int32.ofNat k)), .val (.int p2), .val (.int p3), .val (.int (6 : Int32)), .val (.ref b483), .unset] [(.ref b483)])) (fun _ kt => XS.aload X503.here hx rfl (hb hby d_method_5_code_79) rfl rfl kt) ?_
    refine Rch.of (T' := T503) (g' := (mkF m 82 #[.val (.ref a1), .val (.int (Int32.ofNat k)), .val (.int p2), .val (.int p3), .val (.int (6 : Int32)), .val (.ref b483), .unset] [(.int (4 : Int32)), (.ref b483)])) (fun _ kt => XS.iconst X503.here hx rfl (hb hby d_method_5_code_81) kt) ?_
    refine Rch.of (T' := T503) (g' := (mkF m 83 #[.val (.ref a1), .val (.int (Int32.ofNat k)), .val (.int p2), .val (.int p3), .val (.int (6 : Int32)), .val (.ref b483), .unset] [(.ref a1), (.int (4 : Int32)), (.ref b483)])) (fun _ kt => XS.aloadN X503.here hx rfl (hb hby d_method_5_code_82) rfl rfl kt) ?_
    refine Rch.of (T' := T503) (g' := (mkF m 84 #[.val (.ref a1), .val (.int (Int32.ofNat k)), .val (.int p2), .val (.int p3), .val (.int (6 : Int32)), .val (.ref b483), .unset] [(.int (4 : Int32)), (.ref a1), (.int (4 : Int32)), (.ref b483)])) (fun _ kt => XS.iconst X503.here hx rfl (hb hby d_method_5_code_83) kt) ?_
    have pr508 : 4 < 7 := by omega
    have pr509 : 7 ≤ 7 := by omega
    obtain ⟨cq507, kq507, q507a, q507b, q507c⟩ := isOf hZ e503 (((((E1.ext E483).wr W487).wr W492).wr W498).wr W503)
    obtain ⟨_, _, ⟨T507, L507, k507, n507⟩, -, X507, ⟨Lc507, hQ507, l507, y507, z507⟩, st507⟩ := X503.virtualBack hx (y := (⟨"java/lang/String", "charAt", "(I)C"⟩ : MethodName)) (z := (⟨"java/lang/String", "charAt", "(I)C"⟩ : MethodName)) hown (mvT hZ (hw _ (List.mem_of_getElem? (i := 101) rfl))) (mvT hZ (hw _ (List.mem_of_getElem? (i := 102) rfl))) (notFace_of_selects (args := #[]) (mvT hZ (hw _ (List.mem_of_getElem? (i := 104) rfl)))) (mvT hZ (hw _ (List.mem_of_getElem? (i := 104) rfl))) (mvT hZ (hw _ (List.mem_of_getElem? (i := 103) rfl))) (by decide) (backOf (W := 2) (rqCA l Z a0 hw [] a1 b1 7 y 4 cs sv h503 n0 Fb506 (((((E1.ext E483).wr W487).wr W492).wr W498).wr W503) (((((F1.ext E483).other W487 (Or.inl ne_a1_b483)).other W492 (Or.inl ne_a1_b483)).other W498 (Or.inl ne_a1_b483)).other W503 (Or.inl ne_a1_b483)) (((((F2.ext E483).other W487 (Or.inl ne_a1_b483)).other W492 (Or.inl ne_a1_b483)).other W498 (Or.inl ne_a1_b483)).other W503 (Or.inl ne_a1_b483)) (((((V1.ext E483).other W487 ne_b1_b483).other W492 ne_b1_b483).other W498 ne_b1_b483).other W503 ne_b1_b483) pr508 pr509 hy (((((SC.ext E483).wr W487).wr W492).wr W498).wr W503) hcs (((((SI.ext E483).wr W487).wr W492).wr W498).wr W503) hsv) hZ (hw _ (List.mem_of_getElem? (i := 105) rfl)) (hw _ (List.mem_of_getElem? (i := 11) rfl)) (by decide) (by decide)) q507a q507c (g := (mkF m 84 #[.val (.ref a1), .val (.int (Int32.ofNat k)), .val (.int p2), .val (.int p3), .val (.int (6 : Int32)), .val (.ref b483), .unset] [(.int (4 : Int32)), (.ref a1), (.int (4 : Int32)), (.ref b483)])) rfl (by rw [hml]; rfl) (Steps.refl _) (argsL := [(.int (4 : Int32))]) (rest := [(.int (4 : Int32)), (.ref b483)]) (lenOf pd_18 rfl) rfl (by show 2 * 0 + _ ≤ _; exact Nat.le_of_eq rfl) (hb hby d_method_5_code_84) (fun _ _ => ⟨rfl, e503, (by decide : 1 + 0 ≤ _), (by decide : 6 + 0 ≤ _)⟩)
    dsimp only [Pt.U, Pt.locs, Pt.cells, Pt.slots] at X507 l507 y507 z507 st507 hQ507
    subst l507 y507 z507
    obtain ⟨rfl, N507q, hQ507⟩ := hQ507
    have N507 := Fr.app N503 N507q
    refine Rch.via (T' := T507) (g' := (mkF m 87 #[.val (.ref a1), .val (.int (Int32.ofNat k)), .val (.int p2), .val (.int p3), .val (.int (6 : Int32)), .val (.ref b483), .unset] [(.int (y 4)), (.int (4 : Int32)), (.ref b483)])) st507 ?_
    obtain ⟨cl510, Ar510, Sz510, Ha510⟩ := id V503
    obtain ⟨T510, h510, X510, e510, W510, st510⟩ := stC X507 hx hZ hQ507 Ar510 (j := (4 : Int32)) (oIn (i := 4) Sz510 (by decide) (by decide)) (g := (mkF m 87 #[.val (.ref a1), .val (.int (Int32.ofNat k)), .val (.int p2), .val (.int p3), .val (.int (6 : Int32)), .val (.ref b483), .unset] [(.int (y 4)), (.int (4 : Int32)), (.ref b483)])) rfl rfl (hb hby d_method_5_code_87)
    have V510 := Av.setI (i := 4) V503 (by decide) (by decide) W510
    obtain ⟨y510, hy510⟩ : ∃ zz_ : Nat → Int32, zz_ = fun q => if q = 4 then (y 4).toUInt32.toUInt16.toUInt32.toInt32 else y503 q := ⟨_, rfl⟩
    have V510 : Av Z h510 b483 .char 6 (fun q => .int (y510 q)) := by rw [hy510]; exact V510
    have N510 := Fr.snoc X510 N507 ge_b483
    have Sf511 : Safe Z consts_1 s.vm h503 b483 := (Safe.exa hZ.alike ((((Q483.wr W487).wr W492).wr W498).wr W503) (by decide) (by decide))
    have Rb512 := (((Rb494.trans (CHr.wr W498 Sf499 Rb494.1)).trans (CHr.wr W503 Sf504 (Rb494.trans (CHr.wr W498 Sf499 Rb494.1)).1)).trans (CHr.wr W510 Sf511 ((Rb494.trans (CHr.wr W498 Sf499 Rb494.1)).trans (CHr.wr W503 Sf504 (Rb494.trans (CHr.wr W498 Sf499 Rb494.1)).1)).1))
    have Fb513 := ((((((F1.ext E483).other W487 (Or.inl ne_a1_b483)).other W492 (Or.inl ne_a1_b483)).other W498 (Or.inl ne_a1_b483)).other W503 (Or.inl ne_a1_b483)).other W510 (Or.inl ne_a1_b483))
    have Fb514 := ((((((F2.ext E483).other W487 (Or.inl ne_a1_b483)).other W492 (Or.inl ne_a1_b483)).other W498 (Or.inl ne_a1_b483)).other W503 (Or.inl ne_a1_b483)).other W510 (Or.inl ne_a1_b483))
    have Fb515 := (((((((Keep.refl h0 []).ext E483).wr W487 (Or.inr sz_b483)).wr W492 (Or.inr sz_b483)).wr W498 (Or.inr sz_b483)).wr W503 (Or.inr sz_b483)).wr W510 (Or.inr sz_b483))
    refine Rch.of (T' := T510) (g' := (mkF m 88 #[.val (.ref a1), .val (.int (Int32.ofNat k)), .val (.int p2), .val (.int p3), .val (.int (6 : Int32)), .val (.ref b483), .unset] [])) st510 ?_
    refine Rch.of (T' := T510) (g' := (mkF m 90 #[.val (.ref a1), .val (.int (Int32.ofNat k)), .val (.int p2), .val (.int p3), .val (.int (6 : Int32)), .val (.ref b483), .unset] [(.int (6 : Int32))])) (fun _ kt => XS.iload X510.here hx rfl (hb hby d_method_5_code_88) rfl  kt) ?_
    refine Rch.of (T' := T510) (g' := (mkF m 91 #[.val (.ref a1), .val (.int (Int32.ofNat k)), .val (.int p2), .val (.int p3), .val (.int (6 : Int32)), .val (.ref b483), .unset] [(.int (5 : Int32)), (.int (6 : Int32))])) (fun _ kt => XS.iconst X510.here hx rfl (hb hby d_method_5_code_90) kt) ?_
    refine Rch.of (T' := T510) (g' := (mkF m 94 #[.val (.ref a1), .val (.int (Int32.ofNat k)), .val (.int p2), .val (.int p3), .val (.int (6 : Int32)), .val (.ref b483), .unset] [])) (fun _ kt => XS.icmpNo X510.here hx rfl (hb hby d_method_5_code_91) rfl (tlt ((by decide) : (5 : Int32) < (6 : Int32))).2.2.2 kt) ?_
    refine Rch.of (T' := T510) (g' := (mkF m 96 #[.val (.ref a1), .val (.int (Int32.ofNat k)), .val (.int p2), .val (.int p3), .val (.int (6 : Int32)), .val (.ref b483), .unset] [(.ref b483)])) (fun _ kt => XS.aload X510.here hx rfl (hb hby d_method_5_code_94) rfl rfl kt) ?_
    refine Rch.of (T' := T510) (g' := (mkF m 97 #[.val (.ref a1), .val (.int (Int32.ofNat k)), .val (.int p2), .val (.int p3), .val (.int (6 : Int32)), .val (.ref b483), .unset] [(.int (5 : Int32)), (.ref b483)])) (fun _ kt => XS.iconst X510.here hx rfl (hb hby d_method_5_code_96) kt) ?_
    refine Rch.of (T' := T510) (g' := (mkF m 98 #[.val (.ref a1), .val (.int (Int32.ofNat k)), .val (.int p2), .val (.int p3), .val (.int (6 : Int32)), .val (.ref b483), .unset] [(.ref a1), (.int (5 : Int32)), (.ref b483)])) (fun _ kt => XS.aloadN X510.here hx rfl (hb hby d_method_5_code_97) rfl rfl kt) ?_
    refine Rch.of (T' := T510) (g' := (mkF m 99 #[.val (.ref a1), .val (.int (Int32.ofNat k)), .val (.int p2), .val (.int p3), .val (.int (6 : Int32)), .val (.ref b483), .unset] [(.int (5 : Int32)), (.ref a1), (.int (5 : Int32)), (.ref b483)])) (fun _ kt => XS.iconst X510.here hx rfl (hb hby d_method_5_code_98) kt) ?_
    have pr517 : 5 < 7 := by omega
    have pr518 : 7 ≤ 7 := by omega
    obtain ⟨cq516, kq516, q516a, q516b, q516c⟩ := isOf hZ e510 ((((((E1.ext E483).wr W487).wr W492).wr W498).wr W503).wr W510)
    obtain ⟨_, _, ⟨T516, L516, k516, n516⟩, -, X516, ⟨Lc516, hQ516, l516, y516, z516⟩, st516⟩ := X510.virtualBack hx (y := (⟨"java/lang/String", "charAt", "(I)C"⟩ : MethodName)) (z := (⟨"java/lang/String", "charAt", "(I)C"⟩ : MethodName)) hown (mvT hZ (hw _ (List.mem_of_getElem? (i := 101) rfl))) (mvT hZ (hw _ (List.mem_of_getElem? (i := 102) rfl))) (notFace_of_selects (args := #[]) (mvT hZ (hw _ (List.mem_of_getElem? (i := 104) rfl)))) (mvT hZ (hw _ (List.mem_of_getElem? (i := 104) rfl))) (mvT hZ (hw _ (List.mem_of_getElem? (i := 103) rfl))) (by decide) (backOf (W := 2) (rqCA l Z a0 hw [] a1 b1 7 y 5 cs sv h510 n0 (Nat.le_trans Fb506 (Keep.of_wr W510).1) ((((((E1.ext E483).wr W487).wr W492).wr W498).wr W503).wr W510) Fb513 Fb514 ((((((V1.ext E483).other W487 ne_b1_b483).other W492 ne_b1_b483).other W498 ne_b1_b483).other W503 ne_b1_b483).other W510 ne_b1_b483) pr517 pr518 hy ((((((SC.ext E483).wr W487).wr W492).wr W498).wr W503).wr W510) hcs ((((((SI.ext E483).wr W487).wr W492).wr W498).wr W503).wr W510) hsv) hZ (hw _ (List.mem_of_getElem? (i := 105) rfl)) (hw _ (List.mem_of_getElem? (i := 11) rfl)) (by decide) (by decide)) q516a q516c (g := (mkF m 99 #[.val (.ref a1), .val (.int (Int32.ofNat k)), .val (.int p2), .val (.int p3), .val (.int (6 : Int32)), .val (.ref b483), .unset] [(.int (5 : Int32)), (.ref a1), (.int (5 : Int32)), (.ref b483)])) rfl (by rw [hml]; rfl) (Steps.refl _) (argsL := [(.int (5 : Int32))]) (rest := [(.int (5 : Int32)), (.ref b483)]) (lenOf pd_18 rfl) rfl (by show 2 * 0 + _ ≤ _; exact Nat.le_of_eq rfl) (hb hby d_method_5_code_99) (fun _ _ => ⟨rfl, e510, (by decide : 1 + 0 ≤ _), (by decide : 6 + 0 ≤ _)⟩)
    dsimp only [Pt.U, Pt.locs, Pt.cells, Pt.slots] at X516 l516 y516 z516 st516 hQ516
    subst l516 y516 z516
    obtain ⟨rfl, N516q, hQ516⟩ := hQ516
    have N516 := Fr.app N510 N516q
    refine Rch.via (T' := T516) (g' := (mkF m 102 #[.val (.ref a1), .val (.int (Int32.ofNat k)), .val (.int p2), .val (.int p3), .val (.int (6 : Int32)), .val (.ref b483), .unset] [(.int (y 5)), (.int (5 : Int32)), (.ref b483)])) st516 ?_
    obtain ⟨cl519, Ar519, Sz519, Ha519⟩ := id V510
    obtain ⟨T519, h519, X519, e519, W519, st519⟩ := stC X516 hx hZ hQ516 Ar519 (j := (5 : Int32)) (oIn (i := 5) Sz519 (by decide) (by decide)) (g := (mkF m 102 #[.val (.ref a1), .val (.int (Int32.ofNat k)), .val (.int p2), .val (.int p3), .val (.int (6 : Int32)), .val (.ref b483), .unset] [(.int (y 5)), (.int (5 : Int32)), (.ref b483)])) rfl rfl (hb hby d_method_5_code_102)
    have V519 := Av.setI (i := 5) V510 (by decide) (by decide) W519
    obtain ⟨y519, hy519⟩ : ∃ zz_ : Nat → Int32, zz_ = fun q => if q = 5 then (y 5).toUInt32.toUInt16.toUInt32.toInt32 else y510 q := ⟨_, rfl⟩
    have V519 : Av Z h519 b483 .char 6 (fun q => .int (y519 q)) := by rw [hy519]; exact V519
    have N519 := Fr.snoc X519 N516 ge_b483
    have Sf520 : Safe Z consts_1 s.vm h510 b483 := (Safe.exa hZ.alike (((((Q483.wr W487).wr W492).wr W498).wr W503).wr W510) (by decide) (by decide))
    refine Rch.of (T' := T519) (g' := (mkF m 103 #[.val (.ref a1), .val (.int (Int32.ofNat k)), .val (.int p2), .val (.int p3), .val (.int (6 : Int32)), .val (.ref b483), .unset] [])) st519 ?_
    refine Rch.of (T' := T519) (g' := (mkF m 105 #[.val (.ref a1), .val (.int (Int32.ofNat k)), .val (.int p2), .val (.int p3), .val (.int (6 : Int32)), .val (.ref b483), .unset] [(.int (6 : Int32))])) (fun _ kt => XS.iload X519.here hx rfl (hb hby d_method_5_code_103) rfl  kt) ?_
    refine Rch.of (T' := T519) (g' := (mkF m 107 #[.val (.ref a1), .val (.int (Int32.ofNat k)), .val (.int p2), .val (.int p3), .val (.int (6 : Int32)), .val (.ref b483), .unset] [(.int (6 : Int32)), (.int (6 : Int32))])) (fun _ kt => XS.bipush X519.here hx rfl (hb hby d_method_5_code_105) kt) ?_
    refine Rch.of (T' := T519) (g' := (mkF m 121 #[.val (.ref a1), .val (.int (Int32.ofNat k)), .val (.int p2), .val (.int p3), .val (.int (6 : Int32)), .val (.ref b483), .unset] [])) (fun _ kt => XS.icmpYes X519.here hx rfl (pc0 := 107) (pc' := 121) rfl (hb hby d_method_5_code_107) rfl (flt ((by decide) : ¬ ((6 : Int32) < (6 : Int32)))).2.2.2 (by decide) (by decide) kt) ?_
    refine Rch.of (T' := T519) (g' := (mkF m 122 #[.val (.ref a1), .val (.int (Int32.ofNat k)), .val (.int p2), .val (.int p3), .val (.int (6 : Int32)), .val (.ref b483), .unset] [(.int p2)])) (fun _ kt => XS.iloadN X519.here hx rfl (hb hby d_method_5_code_121) rfl  kt) ?_
    refine Rch.of (T' := T519) (g' := (mkF m 124 #[.val (.ref a1), .val (.int (Int32.ofNat k)), .val (.int p2), .val (.int p3), .val (.int (6 : Int32)), .val (.ref b483), .unset] [(.int (2147483647 : Int32)), (.int p2)])) (X519.ldcInt hx hown (mvT hZ (hw _ (List.mem_of_getElem? (i := 122) rfl))) (g := (mkF m 122 #[.val (.ref a1), .val (.int (Int32.ofNat k)), .val (.int p2), .val (.int p3), .val (.int (6 : Int32)), .val (.ref b483), .unset] [(.int p2)])) rfl (hb hby d_method_5_code_122)) ?_
    refine Rch.of (T' := T519) (g' := (mkF m 125 #[.val (.ref a1), .val (.int (Int32.ofNat k)), .val (.int p2), .val (.int p3), .val (.int (6 : Int32)), .val (.ref b483), .unset] [(.int (p2 &&& (2147483647 : Int32)))])) (fun _ kt => XS.iand X519.here hx rfl (hb hby d_method_5_code_124) rfl kt) ?_
    refine Rch.of (T' := T519) (g' := (mkF m 127 #[.val (.ref a1), .val (.int (Int32.ofNat k)), .val (.int p2), .val (.int p3), .val (.int (6 : Int32)), .val (.ref b483), .unset] [(.int (6 : Int32)), (.int (p2 &&& (2147483647 : Int32)))])) (fun _ kt => XS.iload X519.here hx rfl (hb hby d_method_5_code_125) rfl  kt) ?_
    refine Rch.of (T' := T519) (g' := (mkF m 128 #[.val (.ref a1), .val (.int (Int32.ofNat k)), .val (.int p2), .val (.int p3), .val (.int (6 : Int32)), .val (.ref b483), .unset] [(.int ((p2 &&& (2147483647 : Int32)) % (6 : Int32)))])) (fun _ kt => iremM X519 hx rfl (hb hby d_method_5_code_127) rfl (by decide) kt) ?_
    have hcl : own_ch 6 y519 := by
      intro q hq
      rw [hy519, hy510, hy503, hy498, hy492, hy487]
      rcases (show q = 0 ∨ q = 1 ∨ q = 2 ∨ q = 3 ∨ q = 4 ∨ q = 5 by omega) with rfl | rfl | rfl | rfl | rfl | rfl
      · exact own_c1i (hy.at (by decide : 0 < 7))
      · exact own_c1i (hy.at (by decide : 1 < 7))
      · exact own_c1i (hy.at (by decide : 2 < 7))
      · exact own_c1i (hy.at (by decide : 3 < 7))
      · exact own_c1i (hy.at (by decide : 4 < 7))
      · exact own_c1i (hy.at (by decide : 5 < 7))
    obtain ⟨j, hj, ej⟩ := own_rem p2 6 (by decide) (by decide)
    have sw521 : ((p2 &&& (2147483647 : Int32)) % (6 : Int32)) = (Int32.ofNat j) := ej
    rw [sw521]
    show Rch p e below K T519 (mkF m 128 #[.val (.ref a1), .val (.int (Int32.ofNat k)), .val (.int p2), .val (.int p3), .val (.int (6 : Int32)), .val (.ref b483), .unset] [(.int (Int32.ofNat j))])
    have tj : (Int32.ofNat j).toInt = (j : Int) := oTo (by omega)
    refine Rch.of (T' := T519) (g' := (mkF m 130 #[.val (.ref a1), .val (.int (Int32.ofNat k)), .val (.int p2), .val (.int p3), .val (.int (6 : Int32)), .val (.ref b483), .val (.int (Int32.ofNat j))] [])) (fun _ kt => XS.istore X519.here hx rfl (hb hby d_method_5_code_128) rfl (l' := #[.val (.ref a1), .val (.int (Int32.ofNat k)), .val (.int p2), .val (.int p3), .val (.int (6 : Int32)), .val (.ref b483), .val (.int (Int32.ofNat j))]) rfl kt) ?_
    refine Rch.of (T' := T519) (g' := (mkF m 132 #[.val (.ref a1), .val (.int (Int32.ofNat k)), .val (.int p2), .val (.int p3), .val (.int (6 : Int32)), .val (.ref b483), .val (.int (Int32.ofNat j))] [(.ref b483)])) (fun _ kt => XS.aload X519.here hx rfl (hb hby d_method_5_code_130) rfl rfl kt) ?_
    refine Rch.of (T' := T519) (g' := (mkF m 134 #[.val (.ref a1), .val (.int (Int32.ofNat k)), .val (.int p2), .val (.int p3), .val (.int (6 : Int32)), .val (.ref b483), .val (.int (Int32.ofNat j))] [(.int (Int32.ofNat j)), (.ref b483)])) (fun _ kt => XS.iload X519.here hx rfl (hb hby d_method_5_code_132) rfl  kt) ?_
    refine Rch.of (T' := T519) (g' := (mkF m 136 #[.val (.ref a1), .val (.int (Int32.ofNat k)), .val (.int p2), .val (.int p3), .val (.int (6 : Int32)), .val (.ref b483), .val (.int (Int32.ofNat j))] [(.ref b483), (.int (Int32.ofNat j)), (.ref b483)])) (fun _ kt => XS.aload X519.here hx rfl (hb hby d_method_5_code_134) rfl rfl kt) ?_
    refine Rch.of (T' := T519) (g' := (mkF m 138 #[.val (.ref a1), .val (.int (Int32.ofNat k)), .val (.int p2), .val (.int p3), .val (.int (6 : Int32)), .val (.ref b483), .val (.int (Int32.ofNat j))] [(.int (Int32.ofNat j)), (.ref b483), (.int (Int32.ofNat j)), (.ref b483)])) (fun _ kt => XS.iload X519.here hx rfl (hb hby d_method_5_code_136) rfl  kt) ?_
    obtain ⟨cl522, Ar522, Sz522, Ha522⟩ := id V519
    refine Rch.of (T' := T519) (g' := (mkF m 139 #[.val (.ref a1), .val (.int (Int32.ofNat k)), .val (.int p2), .val (.int p3), .val (.int (6 : Int32)), .val (.ref b483), .val (.int (Int32.ofNat j))] [(.int (y519 j)), (.int (Int32.ofNat j)), (.ref b483)])) (X519.caload hx (j := (Int32.ofNat j)) (v := (.int (y519 j))) (by rw [e519]; exact Ar522.1) (State.isArrayOf_alike hZ.alike Ar522.2.1) Ar522.2.2 (oIn (i := j) Sz522 tj hj) (oAt (i := j) Ha522 tj hj) (g := (mkF m 138 #[.val (.ref a1), .val (.int (Int32.ofNat k)), .val (.int p2), .val (.int p3), .val (.int (6 : Int32)), .val (.ref b483), .val (.int (Int32.ofNat j))] [(.int (Int32.ofNat j)), (.ref b483), (.int (Int32.ofNat j)), (.ref b483)])) rfl rfl (hb hby d_method_5_code_138)) ?_
    refine Rch.of (T' := T519) (g' := (mkF m 140 #[.val (.ref a1), .val (.int (Int32.ofNat k)), .val (.int p2), .val (.int p3), .val (.int (6 : Int32)), .val (.ref b483), .val (.int (Int32.ofNat j))] [(.int p3), (.int (y519 j)), (.int (Int32.ofNat j)), (.ref b483)])) (fun _ kt => XS.iloadN X519.here hx rfl (hb hby d_method_5_code_139) rfl  kt) ?_
    refine Rch.of (T' := T519) (g' := (mkF m 141 #[.val (.ref a1), .val (.int (Int32.ofNat k)), .val (.int p2), .val (.int p3), .val (.int (6 : Int32)), .val (.ref b483), .val (.int (Int32.ofNat j))] [(.int ((y519 j) ^^^ p3)), (.int (Int32.ofNat j)), (.ref b483)])) (fun _ kt => XS.ixor X519.here hx rfl (hb hby d_method_5_code_140) rfl kt) ?_
    refine Rch.of (T' := T519) (g' := (mkF m 142 #[.val (.ref a1), .val (.int (Int32.ofNat k)), .val (.int p2), .val (.int p3), .val (.int (6 : Int32)), .val (.ref b483), .val (.int (Int32.ofNat j))] [(.int (((y519 j) ^^^ p3).toUInt32.toUInt16.toUInt32.toInt32)), (.int (Int32.ofNat j)), (.ref b483)])) (fun _ kt => XS.i2c X519.here hx rfl (hb hby d_method_5_code_141) rfl kt) ?_
    obtain ⟨cl523, Ar523, Sz523, Ha523⟩ := id V519
    obtain ⟨T523, h523, X523, e523, W523, st523⟩ := stC X519 hx hZ e519 Ar523 (j := (Int32.ofNat j)) (oIn (i := j) Sz523 tj hj) (g := (mkF m 142 #[.val (.ref a1), .val (.int (Int32.ofNat k)), .val (.int p2), .val (.int p3), .val (.int (6 : Int32)), .val (.ref b483), .val (.int (Int32.ofNat j))] [(.int (((y519 j) ^^^ p3).toUInt32.toUInt16.toUInt32.toInt32)), (.int (Int32.ofNat j)), (.ref b483)])) rfl rfl (hb hby d_method_5_code_142)
    have V523 := Av.setI (i := j) V519 tj hj W523
    obtain ⟨y523, hy523⟩ : ∃ zz_ : Nat → Int32, zz_ = fun q => if q = j then (((y519 j) ^^^ p3).toUInt32.toUInt16.toUInt32.toInt32).toUInt32.toUInt16.toUInt32.toInt32 else y519 q := ⟨_, rfl⟩
    have V523 : Av Z h523 b483 .char 6 (fun q => .int (y523 q)) := by rw [hy523]; exact V523
    have N523 := Fr.snoc X523 N519 ge_b483
    have Sf524 : Safe Z consts_1 s.vm h519 b483 := (Safe.exa hZ.alike ((((((Q483.wr W487).wr W492).wr W498).wr W503).wr W510).wr W519) (by decide) (by decide))
    have Fb525 := ((((((((V1.ext E483).other W487 ne_b1_b483).other W492 ne_b1_b483).other W498 ne_b1_b483).other W503 ne_b1_b483).other W510 ne_b1_b483).other W519 ne_b1_b483).other W523 ne_b1_b483)
    refine Rch.of (T' := T523) (g' := (mkF m 143 #[.val (.ref a1), .val (.int (Int32.ofNat k)), .val (.int p2), .val (.int p3), .val (.int (6 : Int32)), .val (.ref b483), .val (.int (Int32.ofNat j))] [])) st523 ?_
    obtain ⟨T526, h526, X526, e526, E526, A526, D526, -, st526⟩ := newO X523 hx hZ hown (hw _ (List.mem_of_getElem? (i := 9) rfl)) (hw _ (List.mem_of_getElem? (i := 10) rfl)) (hw _ (List.mem_of_getElem? (i := 11) rfl)) e523 (g := (mkF m 143 #[.val (.ref a1), .val (.int (Int32.ofNat k)), .val (.int p2), .val (.int p3), .val (.int (6 : Int32)), .val (.ref b483), .val (.int (Int32.ofNat j))] [])) rfl (hb hby d_method_5_code_143) (by decide) (by decide)
    obtain ⟨b526, g526⟩ : ∃ zz_, zz_ = h523.size := ⟨_, rfl⟩
    have ne_a1_b526 : a1 ≠ b526 := Nat.ne_of_lt (Nat.lt_of_lt_of_le ((((((((E1.ext E483).wr W487).wr W492).wr W498).wr W503).wr W510).wr W519).wr W523).lt (Nat.le_of_eq g526.symm))
    have ne_b1_b526 : b1 ≠ b526 := Nat.ne_of_lt (Nat.lt_of_lt_of_le Fb525.lt (Nat.le_of_eq g526.symm))
    have ne_b483_b526 : b483 ≠ b526 := Nat.ne_of_lt (Nat.lt_of_lt_of_le (((((((Q483.wr W487).wr W492).wr W498).wr W503).wr W510).wr W519).wr W523).lt (Nat.le_of_eq g526.symm))
    have ge_b526 : n0 ≤ b526 := Nat.le_trans (Nat.le_trans (Nat.le_trans (Nat.le_trans Fb506 (Keep.of_wr W510).1) (Keep.of_wr W519).1) (Keep.of_wr W523).1) (Nat.le_of_eq g526.symm)
    have sz_b526 : h0.size ≤ b526 := Nat.le_trans ((Fb515.wr W519 (Or.inr sz_b483)).wr W523 (Or.inr sz_b483)).1 (Nat.le_of_eq g526.symm)
    rw [← g526] at A526 D526 st526
    have Rb527 := (((Rb512.trans (CHr.wr W519 Sf520 Rb512.1)).trans (CHr.wr W523 Sf524 (Rb512.trans (CHr.wr W519 Sf520 Rb512.1)).1)).trans (CHr.ext E526 ((Rb512.trans (CHr.wr W519 Sf520 Rb512.1)).trans (CHr.wr W523 Sf524 (Rb512.trans (CHr.wr W519 Sf520 Rb512.1)).1)).1))
    have F526_coder : Fld Z h526 b526 "java/lang/String" "coder" "B" (.int (0 : Int32)) := D526 (Or.inr (hw _ (List.mem_of_getElem? (i := 35) rfl))) (ty := .byte) (by decide)
    have F526_value : Fld Z h526 b526 "java/lang/String" "value" "[B" .null := D526 (Or.inr (hw _ (List.mem_of_getElem? (i := 37) rfl))) (ty := (.array .byte)) (by decide)
    refine Rch.of (T' := T526) (g' := (mkF m 146 #[.val (.ref a1), .val (.int (Int32.ofNat k)), .val (.int p2), .val (.int p3), .val (.int (6 : Int32)), .val (.ref b483), .val (.int (Int32.ofNat j))] [(.ref b526)])) st526 ?_
    refine Rch.of (T' := T526) (g' := (mkF m 147 #[.val (.ref a1), .val (.int (Int32.ofNat k)), .val (.int p2), .val (.int p3), .val (.int (6 : Int32)), .val (.ref b483), .val (.int (Int32.ofNat j))] [(.ref b526), (.ref b526)])) (fun _ kt => XS.dup X526.here hx rfl (hb hby d_method_5_code_146) rfl rfl kt) ?_
    refine Rch.of (T' := T526) (g' := (mkF m 149 #[.val (.ref a1), .val (.int (Int32.ofNat k)), .val (.int p2), .val (.int p3), .val (.int (6 : Int32)), .val (.ref b483), .val (.int (Int32.ofNat j))] [(.ref b483), (.ref b526), (.ref b526)])) (fun _ kt => XS.aload X526.here hx rfl (hb hby d_method_5_code_147) rfl rfl kt) ?_
    have pr529 : 6 ≤ 7 := by omega
    have hch530 : own_ch 6 y523 := by
      intro q hq
      rw [hy523]
      by_cases u : q = j
      · simp only [u, if_true]; exact own_c1i (own_c1i (own_c1x (hcl j hj) hp3))
      · simp only [u, if_false]; exact hcl q hq
    obtain ⟨_, _, ⟨T528, L528, k528, n528⟩, -, X528, hT528, gr528, ⟨Lc528, hQ528, l528, y528, z528, cr528⟩, st528⟩ := X526.specialBackS hx (y := (⟨"java/lang/String", "<init>", "([C)V"⟩ : MethodName)) rfl hown (mvT hZ (hw _ (List.mem_of_getElem? (i := 12) rfl))) (mvT hZ (hw _ (List.mem_of_getElem? (i := 13) rfl))) (mvT hZ (hw _ (List.mem_of_getElem? (i := 14) rfl))) (by decide) (backOfSH (s := s) (vm0 := s.vm) (EL := consts_1) (W := 1) (rqN1 l Z a0 hw [] b526 b483 6 y523 (.int (0 : Int32)) cs h526 n0 (Nat.le_trans (Nat.le_trans (Nat.le_trans (Nat.le_trans Fb506 (Keep.of_wr W510).1) (Keep.of_wr W519).1) (Keep.of_wr W523).1) E526.1) A526 F526_coder F526_value ge_b526 (V523.ext E526) (((((((((SC.ext E483).wr W487).wr W492).wr W498).wr W503).wr W510).wr W519).wr W523).ext E526) hcs pr529 hch530) hZ (hw _ (List.mem_of_getElem? (i := 14) rfl)) (hw _ (List.mem_of_getElem? (i := 11) rfl)) (by decide) (by decide) hEL Rb527.1) (g := (mkF m 149 #[.val (.ref a1), .val (.int (Int32.ofNat k)), .val (.int p2), .val (.int p3), .val (.int (6 : Int32)), .val (.ref b483), .val (.int (Int32.ofNat j))] [(.ref b483), (.ref b526), (.ref b526)])) rfl (by rw [hml]; rfl) (Steps.refl _) (a := b526) (argsL := [(.ref b483)]) (rest := [(.ref b526)]) (lenOf pd_2 rfl) rfl (by show 2 * 0 + _ ≤ _; exact Nat.le_of_eq rfl) (hb hby d_method_5_code_149) (fun _ _ => ⟨rfl, e526, (by decide : 2 + 4 ≤ _), (by decide : 10 + 8 ≤ _)⟩)
    dsimp only [Pt.U, Pt.locs, Pt.cells, Pt.slots] at X528 hT528 gr528 l528 y528 z528 st528 hQ528 cr528
    subst l528 y528 z528
    obtain ⟨X528, hS528, hZ, hown⟩ := rebS hS0 (Nat.le_trans (Nat.le_trans (Nat.le_trans (Nat.le_trans Fb505 (Keep.of_wr W510).1) (Keep.of_wr W519).1) (Keep.of_wr W523).1) E526.1) X528 hT528 (by rw [← e526]; exact gr528) hZ hown
    obtain ⟨rb528, rfl, N528q, hQ528⟩ := hQ528
    have N528 := Fr.app N523 N528q
    obtain ⟨K528, Ex528, Fa528, Fb528, V528⟩ := hQ528
    refine Rch.via (T' := T528) (g' := (mkF m 152 #[.val (.ref a1), .val (.int (Int32.ofNat k)), .val (.int p2), .val (.int p3), .val (.int (6 : Int32)), .val (.ref b483), .val (.int (Int32.ofNat j))] [(.ref b526)])) st528 ?_
    exact Rch.retA X528 hx (w := (.ref b526)) hret rfl rfl hlk (hb hby d_method_5_code_152) (fun U hU hF => hK _ U _ _ _ (by show Q_rkN7 Z a1 b1 y k p2 p3 cs sv h0 n0 _ U.heap _; rw [hU]; exact ⟨b526, rb528, y523, 6, rfl, N528, ((((Fb515.wr W519 (Or.inr sz_b483)).wr W523 (Or.inr sz_b483)).ext E526).trans K528 (allS (Or.inr sz_b526) all0)), Ex528, Fa528, Fb528, V528, hch530, by decide⟩) (own_endH hZ hEL (Rb527.trans cr528) hU hF) (own_end hS528 (by rw [hU]; exact (Nat.le_refl _)) hF) (by decide) (by decide))
theorem pn_5 : plainName "java/util/Optional" = true := by first | (simp [plainName, overriddenIn]; done) | decide +kernel
theorem ef_rkOE (m : MethodId)  : entryFrame m #[] 1 = mkF m 0 #[.unset] [] := by first | (simp [entryFrame, mkF, argsToLocals, Value.category]; done) | rfl
def Q_rkOE (Z : State) (em : Addr) (h0 : Heap) (n0 : Nat) (vv_ : Option Value) (h : Heap) (LL_ : List Loc) : Prop := vv_ = some (.ref em) ∧ Fr n0 LL_ ∧ (h = h0)
theorem d_jdk_32_method_1_code_0 : decode jdk_32_method_1_code 0 = .ok (.getstatic 1, 3) := by decide +kernel
theorem d_jdk_32_method_1_code_3 : decode jdk_32_method_1_code 3 = .ok (.astore_n 0, 1) := by decide +kernel
theorem d_jdk_32_method_1_code_4 : decode jdk_32_method_1_code 4 = .ok (.aload_n 0, 1) := by decide +kernel
theorem d_jdk_32_method_1_code_5 : decode jdk_32_method_1_code 5 = .ok (.areturn, 1) := by decide +kernel
set_option maxRecDepth 65536 in
set_option maxHeartbeats 40000000 in
theorem rkOE (l : Launch) (Z : State) (a0 : Array Value) (hw : ∀ d ∈ tables_1, d.before a0 Z = true) (ws : List Jvm.Cond) (em : Addr) (h0 : Heap) (n0 : Nat) (Z0 : n0 ≤ h0.size) (S5 : Sta Z h0 "java/util/Optional" "EMPTY" "Ljava/util/Optional;" (.ref em)) :
    MetFree l (⟨"java/util/Optional", "empty", "()Ljava/util/Optional;"⟩ : MethodName) (head1 (Jvm.Cond.code (⟨"java/util/Optional", "empty", "()Ljava/util/Optional;"⟩ : MethodName) jdk_32_method_1_code 1 (some (.object "java/util/Optional")) :: ws) ({ frames := 0, cells := 0, slots := 0, locals := 0 } : Room)) (fun aa_ UU_ => aa_ = #[] ∧ Z.Warmed39 UU_.vm ∧ UU_.heap = h0) (fun _ _ _ _ _ => True) (fun _ UU_ oo_ VV_ => ∃ vv_ LL_, oo_ = .returned vv_ ∧ Q_rkOE Z em h0 n0 vv_ VV_.heap LL_ ∧ FrameEnd UU_ oo_ VV_ LL_ ({ frames := 0, cells := 0, slots := 0, locals := 0 } : Room).cells ({ frames := 0, cells := 0, slots := 0, locals := 0 } : Room).slots) := by
  refine own_met (y := (⟨"java/util/Optional", "empty", "()Ljava/util/Optional;"⟩ : MethodName)) (plainFor_of_name pn_5) ?_
  intro p e s m below meth c T0 K hx hby hml hret hlk hown hnm hZ X0 e0 hK
  have N0 := Fr.nil n0
  refine Rch.cast (ef_rkOE m ) ?_
  obtain ⟨T531, X531, e531, st531⟩ := getS2 X0 hx hZ hown (host := "") (Or.inl (hw _ (List.mem_of_getElem? (i := 75) rfl))) Via.refl e0 S5 (g := (mkF m 0 #[.unset] [])) rfl (hb hby d_jdk_32_method_1_code_0)
  refine Rch.of (T' := T531) (g' := (mkF m 3 #[.unset] [(.ref em)])) st531 ?_
  refine Rch.of (T' := T531) (g' := (mkF m 4 #[.val (.ref em)] [])) (fun _ kt => XS.astoreN X531.here hx rfl (hb hby d_jdk_32_method_1_code_3) rfl rfl (l' := #[.val (.ref em)]) rfl kt) ?_
  refine Rch.of (T' := T531) (g' := (mkF m 5 #[.val (.ref em)] [(.ref em)])) (fun _ kt => XS.aloadN X531.here hx rfl (hb hby d_jdk_32_method_1_code_4) rfl rfl kt) ?_
  exact Rch.retA X531 hx (w := (.ref em)) hret rfl rfl hlk (hb hby d_jdk_32_method_1_code_5) (fun U hU hF => hK _ U _ _ _ (by show Q_rkOE Z em h0 n0 _ U.heap _; rw [hU, e531]; exact ⟨rfl, N0, rfl⟩) hF (by decide) (by decide))
theorem pn_6 : plainName "java/util/Objects" = true := by first | (simp [plainName, overriddenIn]; done) | decide +kernel
theorem ef_rkRN (m : MethodId) (a1 : Addr) : entryFrame m #[(.ref a1)] 1 = mkF m 0 #[.val (.ref a1)] [] := by first | (simp [entryFrame, mkF, argsToLocals, Value.category]; done) | rfl
def Q_rkRN (Z : State) (a1 : Addr) (h0 : Heap) (n0 : Nat) (vv_ : Option Value) (h : Heap) (LL_ : List Loc) : Prop := vv_ = some (.ref a1) ∧ Fr n0 LL_ ∧ (h = h0)
theorem d_jdk_31_method_10_code_0 : decode jdk_31_method_10_code 0 = .ok (.aload_n 0, 1) := by decide +kernel
theorem d_jdk_31_method_10_code_1 : decode jdk_31_method_10_code 1 = .ok (.ifnonnull 11, 3) := by decide +kernel
theorem d_jdk_31_method_10_code_12 : decode jdk_31_method_10_code 12 = .ok (.aload_n 0, 1) := by decide +kernel
theorem d_jdk_31_method_10_code_13 : decode jdk_31_method_10_code 13 = .ok (.areturn, 1) := by decide +kernel
set_option maxRecDepth 65536 in
set_option maxHeartbeats 40000000 in
theorem rkRN (l : Launch) (Z : State) (a0 : Array Value) (hw : ∀ d ∈ tables_1, d.before a0 Z = true) (ws : List Jvm.Cond) (a1 : Addr) (h0 : Heap) (n0 : Nat) (Z0 : n0 ≤ h0.size)  :
    MetFree l (⟨"java/util/Objects", "requireNonNull", "(Ljava/lang/Object;)Ljava/lang/Object;"⟩ : MethodName) (head1 (Jvm.Cond.code (⟨"java/util/Objects", "requireNonNull", "(Ljava/lang/Object;)Ljava/lang/Object;"⟩ : MethodName) jdk_31_method_10_code 1 (some (.object "java/lang/Object")) :: ws) ({ frames := 0, cells := 0, slots := 0, locals := 0 } : Room)) (fun aa_ UU_ => aa_ = #[(.ref a1)] ∧ Z.Warmed39 UU_.vm ∧ UU_.heap = h0) (fun _ _ _ _ _ => True) (fun _ UU_ oo_ VV_ => ∃ vv_ LL_, oo_ = .returned vv_ ∧ Q_rkRN Z a1 h0 n0 vv_ VV_.heap LL_ ∧ FrameEnd UU_ oo_ VV_ LL_ ({ frames := 0, cells := 0, slots := 0, locals := 0 } : Room).cells ({ frames := 0, cells := 0, slots := 0, locals := 0 } : Room).slots) := by
  refine own_met (y := (⟨"java/util/Objects", "requireNonNull", "(Ljava/lang/Object;)Ljava/lang/Object;"⟩ : MethodName)) (plainFor_of_name pn_6) ?_
  intro p e s m below meth c T0 K hx hby hml hret hlk hown hnm hZ X0 e0 hK
  have N0 := Fr.nil n0
  refine Rch.cast (ef_rkRN m a1) ?_
  refine Rch.of (T' := T0) (g' := (mkF m 1 #[.val (.ref a1)] [(.ref a1)])) (fun _ kt => XS.aloadN X0.here hx rfl (hb hby d_jdk_31_method_10_code_0) rfl rfl kt) ?_
  refine Rch.of (T' := T0) (g' := (mkF m 12 #[.val (.ref a1)] [])) (fun _ kt => XS.ifnonnullYes X0.here hx rfl (pc0 := 1) (pc' := 12) rfl (hb hby d_jdk_31_method_10_code_1) rfl (by decide) (by decide) kt) ?_
  refine Rch.of (T' := T0) (g' := (mkF m 13 #[.val (.ref a1)] [(.ref a1)])) (fun _ kt => XS.aloadN X0.here hx rfl (hb hby d_jdk_31_method_10_code_12) rfl rfl kt) ?_
  exact Rch.retA X0 hx (w := (.ref a1)) hret rfl rfl hlk (hb hby d_jdk_31_method_10_code_13) (fun U hU hF => hK _ U _ _ _ (by show Q_rkRN Z a1 h0 n0 _ U.heap _; rw [hU, e0]; exact ⟨rfl, N0, rfl⟩) hF (by decide) (by decide))
theorem ef_rkOI (m : MethodId) (a1 : Addr) (a2 : Addr) : entryFrame m #[(.ref a1), (.ref a2)] 2 = mkF m 0 #[.val (.ref a1), .val (.ref a2)] [] := by first | (simp [entryFrame, mkF, argsToLocals, Value.category]; done) | rfl
def Q_rkOI (Z : State) (a1 : Addr) (a2 : Addr) (u1 : Value) (h0 : Heap) (n0 : Nat) (vv_ : Option Value) (h : Heap) (LL_ : List Loc) : Prop := vv_ = none ∧ Fr n0 LL_ ∧ (Keep h0 h [a1] ∧ Exa Z h a1 "java/util/Optional" ∧ Fld Z h a1 "java/util/Optional" "value" "Ljava/lang/Object;" (.ref a2))
theorem d_jdk_32_method_2_code_0 : decode jdk_32_method_2_code 0 = .ok (.aload_n 0, 1) := by decide +kernel
theorem d_jdk_32_method_2_code_1 : decode jdk_32_method_2_code 1 = .ok (.invokespecial 7, 3) := by decide +kernel
theorem d_jdk_32_method_2_code_4 : decode jdk_32_method_2_code 4 = .ok (.aload_n 0, 1) := by decide +kernel
theorem d_jdk_32_method_2_code_5 : decode jdk_32_method_2_code 5 = .ok (.aload_n 1, 1) := by decide +kernel
theorem d_jdk_32_method_2_code_6 : decode jdk_32_method_2_code 6 = .ok (.putfield 13, 3) := by decide +kernel
theorem d_jdk_32_method_2_code_9 : decode jdk_32_method_2_code 9 = .ok (.return_, 1) := by decide +kernel
set_option maxRecDepth 65536 in
set_option maxHeartbeats 40000000 in
theorem rkOI (l : Launch) (Z : State) (a0 : Array Value) (hw : ∀ d ∈ tables_1, d.before a0 Z = true) (ws : List Jvm.Cond) (a1 : Addr) (a2 : Addr) (u1 : Value) (h0 : Heap) (n0 : Nat) (Z0 : n0 ≤ h0.size) (E1 : Exa Z h0 a1 "java/util/Optional") (F1 : Fld Z h0 a1 "java/util/Optional" "value" "Ljava/lang/Object;" u1) (g1 : n0 ≤ a1) :
    MetFree l (⟨"java/util/Optional", "<init>", "(Ljava/lang/Object;)V"⟩ : MethodName) (head1 (Jvm.Cond.code (⟨"java/util/Optional", "<init>", "(Ljava/lang/Object;)V"⟩ : MethodName) jdk_32_method_2_code 2 none :: ws) ({ frames := 1, cells := 0, slots := 0, locals := 12 } : Room)) (fun aa_ UU_ => aa_ = #[(.ref a1), (.ref a2)] ∧ Z.Warmed39 UU_.vm ∧ UU_.heap = h0) (fun _ _ _ _ _ => True) (fun _ UU_ oo_ VV_ => ∃ vv_ LL_, oo_ = .returned vv_ ∧ Q_rkOI Z a1 a2 u1 h0 n0 vv_ VV_.heap LL_ ∧ FrameEnd UU_ oo_ VV_ LL_ ({ frames := 1, cells := 0, slots := 0, locals := 12 } : Room).cells ({ frames := 1, cells := 0, slots := 0, locals := 12 } : Room).slots) := by
  refine own_met (y := (⟨"java/util/Optional", "<init>", "(Ljava/lang/Object;)V"⟩ : MethodName)) (plainFor_of_name pn_5) ?_
  intro p e s m below meth c T0 K hx hby hml hret hlk hown hnm hZ X0 e0 hK
  have N0 := Fr.nil n0
  refine Rch.cast (ef_rkOI m a1 a2) ?_
  refine Rch.of (T' := T0) (g' := (mkF m 1 #[.val (.ref a1), .val (.ref a2)] [(.ref a1)])) (fun _ kt => XS.aloadN X0.here hx rfl (hb hby d_jdk_32_method_2_code_0) rfl rfl kt) ?_
  obtain ⟨T532, X532, e532, st532⟩ := initO X0 hx hZ hown (hw _ (List.mem_of_getElem? (i := 136) rfl)) (hw _ (List.mem_of_getElem? (i := 20) rfl)) (hw _ (List.mem_of_getElem? (i := 21) rfl)) e0 (g := (mkF m 1 #[.val (.ref a1), .val (.ref a2)] [(.ref a1)])) rfl (by rw [hml]; rfl) rfl (hb hby d_jdk_32_method_2_code_1) (by decide) (W := 0) (by show 2 * 0 + _ ≤ _; exact Nat.le_of_eq rfl) (by decide)
  refine Rch.of (T' := T532) (g' := (mkF m 4 #[.val (.ref a1), .val (.ref a2)] [])) st532 ?_
  refine Rch.of (T' := T532) (g' := (mkF m 5 #[.val (.ref a1), .val (.ref a2)] [(.ref a1)])) (fun _ kt => XS.aloadN X532.here hx rfl (hb hby d_jdk_32_method_2_code_4) rfl rfl kt) ?_
  refine Rch.of (T' := T532) (g' := (mkF m 6 #[.val (.ref a1), .val (.ref a2)] [(.ref a2), (.ref a1)])) (fun _ kt => XS.aloadN X532.here hx rfl (hb hby d_jdk_32_method_2_code_5) rfl rfl kt) ?_
  obtain ⟨T533, h533, X533, e533, W533, st533⟩ := putF X532 hx hZ hown (host := "") (Or.inl (hw _ (List.mem_of_getElem? (i := 86) rfl))) Via.refl e532 F1 E1 (Or.inr ⟨(hw _ (List.mem_of_getElem? (i := 87) rfl)), rfl, hnm⟩) (hw _ (List.mem_of_getElem? (i := 127) rfl)) (ty := (.object "java/lang/Object")) (by decide) rfl rfl (g := (mkF m 6 #[.val (.ref a1), .val (.ref a2)] [(.ref a2), (.ref a1)])) rfl rfl (hb hby d_jdk_32_method_2_code_6)
  have N533 := Fr.snoc X533 N0 g1
  have Fw533 := Fld.same W533 F1
  refine Rch.of (T' := T533) (g' := (mkF m 9 #[.val (.ref a1), .val (.ref a2)] [])) st533 ?_
  exact Rch.retV X533 hx hret hlk (hb hby d_jdk_32_method_2_code_9) (fun U hU hF => hK _ U _ _ _ (by show Q_rkOI Z a1 a2 u1 h0 n0 _ U.heap _; rw [hU, e533]; exact ⟨rfl, N533, ((Keep.refl h0 [a1]).wr W533 (Or.inl (List.mem_of_getElem? (i := 0) rfl))), (E1.wr W533), Fw533⟩) hF (by decide) (by decide))
theorem ef_rkOF (m : MethodId) (a1 : Addr) : entryFrame m #[(.ref a1)] 1 = mkF m 0 #[.val (.ref a1)] [] := by first | (simp [entryFrame, mkF, argsToLocals, Value.category]; done) | rfl
def Q_rkOF (Z : State) (a1 : Addr) (h0 : Heap) (n0 : Nat) (vv_ : Option Value) (h : Heap) (LL_ : List Loc) : Prop := vv_ = some (.ref h0.size) ∧ Fr n0 LL_ ∧ (Keep h0 h [] ∧ Exa Z h h0.size "java/util/Optional" ∧ Fld Z h h0.size "java/util/Optional" "value" "Ljava/lang/Object;" (.ref a1))
theorem d_jdk_32_method_3_code_0 : decode jdk_32_method_3_code 0 = .ok (.new 2, 3) := by decide +kernel
theorem d_jdk_32_method_3_code_3 : decode jdk_32_method_3_code 3 = .ok (.dup, 1) := by decide +kernel
theorem d_jdk_32_method_3_code_4 : decode jdk_32_method_3_code 4 = .ok (.aload_n 0, 1) := by decide +kernel
theorem d_jdk_32_method_3_code_5 : decode jdk_32_method_3_code 5 = .ok (.invokestatic 17, 3) := by decide +kernel
theorem d_jdk_32_method_3_code_8 : decode jdk_32_method_3_code 8 = .ok (.invokespecial 23, 3) := by decide +kernel
theorem d_jdk_32_method_3_code_11 : decode jdk_32_method_3_code 11 = .ok (.areturn, 1) := by decide +kernel
set_option maxRecDepth 65536 in
set_option maxHeartbeats 40000000 in
theorem rkOF (l : Launch) (Z : State) (a0 : Array Value) (hw : ∀ d ∈ tables_1, d.before a0 Z = true) (ws : List Jvm.Cond) (a1 : Addr) (h0 : Heap) (n0 : Nat) (Z0 : n0 ≤ h0.size)  :
    MetFree l (⟨"java/util/Optional", "of", "(Ljava/lang/Object;)Ljava/util/Optional;"⟩ : MethodName) (head1 (Jvm.Cond.code (⟨"java/util/Optional", "of", "(Ljava/lang/Object;)Ljava/util/Optional;"⟩ : MethodName) jdk_32_method_3_code 1 (some (.object "java/util/Optional")) :: ws) ({ frames := 2, cells := 1, slots := 1, locals := 26 } : Room)) (fun aa_ UU_ => aa_ = #[(.ref a1)] ∧ Z.Warmed39 UU_.vm ∧ UU_.heap = h0) (fun _ _ _ _ _ => True) (fun _ UU_ oo_ VV_ => ∃ vv_ LL_, oo_ = .returned vv_ ∧ Q_rkOF Z a1 h0 n0 vv_ VV_.heap LL_ ∧ FrameEnd UU_ oo_ VV_ LL_ ({ frames := 2, cells := 1, slots := 1, locals := 26 } : Room).cells ({ frames := 2, cells := 1, slots := 1, locals := 26 } : Room).slots) := by
  refine own_met (y := (⟨"java/util/Optional", "of", "(Ljava/lang/Object;)Ljava/util/Optional;"⟩ : MethodName)) (plainFor_of_name pn_5) ?_
  intro p e s m below meth c T0 K hx hby hml hret hlk hown hnm hZ X0 e0 hK
  have N0 := Fr.nil n0
  refine Rch.cast (ef_rkOF m a1) ?_
  obtain ⟨T534, h534, X534, e534, E534, A534, D534, -, st534⟩ := newO X0 hx hZ hown (hw _ (List.mem_of_getElem? (i := 126) rfl)) (hw _ (List.mem_of_getElem? (i := 127) rfl)) (hw _ (List.mem_of_getElem? (i := 73) rfl)) e0 (g := (mkF m 0 #[.val (.ref a1)] [])) rfl (hb hby d_jdk_32_method_3_code_0) (by decide) (by decide)
  obtain ⟨b534, g534⟩ : ∃ zz_, zz_ = h0.size := ⟨_, rfl⟩
  have ge_b534 : n0 ≤ b534 := Nat.le_trans Z0 (Nat.le_of_eq g534.symm)
  have sz_b534 : h0.size ≤ b534 := Nat.le_trans (Keep.refl h0 []).1 (Nat.le_of_eq g534.symm)
  rw [← g534] at A534 D534 st534
  have F534_value : Fld Z h534 b534 "java/util/Optional" "value" "Ljava/lang/Object;" .null := D534 (Or.inr (hw _ (List.mem_of_getElem? (i := 87) rfl))) (ty := (.object "java/lang/Object")) (by decide)
  refine Rch.of (T' := T534) (g' := (mkF m 3 #[.val (.ref a1)] [(.ref b534)])) st534 ?_
  refine Rch.of (T' := T534) (g' := (mkF m 4 #[.val (.ref a1)] [(.ref b534), (.ref b534)])) (fun _ kt => XS.dup X534.here hx rfl (hb hby d_jdk_32_method_3_code_3) rfl rfl kt) ?_
  refine Rch.of (T' := T534) (g' := (mkF m 5 #[.val (.ref a1)] [(.ref a1), (.ref b534), (.ref b534)])) (fun _ kt => XS.aloadN X534.here hx rfl (hb hby d_jdk_32_method_3_code_4) rfl rfl kt) ?_
  obtain ⟨_, _, ⟨T535, L535, k535, n535⟩, -, X535, ⟨Lc535, hQ535, l535, y535, z535⟩, st535⟩ := Jvm.LawKit.callS X534 hx (y := (⟨"java/util/Objects", "requireNonNull", "(Ljava/lang/Object;)Ljava/lang/Object;"⟩ : MethodName)) hown (mvT hZ (hw _ (List.mem_of_getElem? (i := 128) rfl))) (mvT hZ (hw _ (List.mem_of_getElem? (i := 129) rfl))) (mvT hZ (hw _ (List.mem_of_getElem? (i := 130) rfl))) (mvT hZ (hw _ (List.mem_of_getElem? (i := 131) rfl))) (by decide) (backOf (W := 2) (rkRN l Z a0 hw [] a1 h534 n0 (Nat.le_trans Z0 E534.1) ) hZ (hw _ (List.mem_of_getElem? (i := 131) rfl)) (hw _ (List.mem_of_getElem? (i := 130) rfl)) (by decide) (by decide)) (g := (mkF m 5 #[.val (.ref a1)] [(.ref a1), (.ref b534), (.ref b534)])) rfl (by rw [hml]; rfl) (argsL := [(.ref a1)]) (rest := [(.ref b534), (.ref b534)]) (lenOf pd_23 rfl) rfl (by show 2 * 0 + _ ≤ _; exact Nat.le_of_eq rfl) (hb hby d_jdk_32_method_3_code_5) (fun _ _ => ⟨rfl, e534, (by decide : 1 + 0 ≤ _), (by decide : 1 + 0 ≤ _)⟩)
  dsimp only [Pt.U, Pt.locs, Pt.cells, Pt.slots] at X535 l535 y535 z535 st535 hQ535
  subst l535 y535 z535
  obtain ⟨rfl, N535q, hQ535⟩ := hQ535
  have N535 := Fr.app N0 N535q
  refine Rch.of (T' := T535) (g' := (mkF m 8 #[.val (.ref a1)] [(.ref a1), (.ref b534), (.ref b534)])) st535 ?_
  obtain ⟨_, _, ⟨T536, L536, k536, n536⟩, -, X536, ⟨Lc536, hQ536, l536, y536, z536⟩, st536⟩ := X535.specialBack hx (y := (⟨"java/util/Optional", "<init>", "(Ljava/lang/Object;)V"⟩ : MethodName)) rfl hown (mvT hZ (hw _ (List.mem_of_getElem? (i := 132) rfl))) (mvT hZ (hw _ (List.mem_of_getElem? (i := 133) rfl))) (mvT hZ (hw _ (List.mem_of_getElem? (i := 135) rfl))) (by decide) (backOf (W := 1) (rkOI l Z a0 hw [] b534 a1 .null h534 n0 (Nat.le_trans Z0 E534.1) A534 F534_value ge_b534) hZ (hw _ (List.mem_of_getElem? (i := 135) rfl)) (hw _ (List.mem_of_getElem? (i := 73) rfl)) (by decide) (by decide)) (g := (mkF m 8 #[.val (.ref a1)] [(.ref a1), (.ref b534), (.ref b534)])) rfl (by rw [hml]; rfl) (Steps.refl _) (a := b534) (argsL := [(.ref a1)]) (rest := [(.ref b534)]) (lenOf pd_24 rfl) rfl (by show 2 * 0 + _ ≤ _; exact Nat.le_of_eq rfl) (hb hby d_jdk_32_method_3_code_8) (fun _ _ => ⟨rfl, hQ535, (by decide : 1 + 0 ≤ _), (by decide : 1 + 0 ≤ _)⟩)
  dsimp only [Pt.U, Pt.locs, Pt.cells, Pt.slots] at X536 l536 y536 z536 st536 hQ536
  subst l536 y536 z536
  obtain ⟨rfl, N536q, hQ536⟩ := hQ536
  have N536 := Fr.app N535 N536q
  obtain ⟨K536, Ex536, Fa536⟩ := hQ536
  refine Rch.via (T' := T536) (g' := (mkF m 11 #[.val (.ref a1)] [(.ref b534)])) st536 ?_
  exact Rch.retA X536 hx (w := (.ref b534)) hret rfl rfl hlk (hb hby d_jdk_32_method_3_code_11) (fun U hU hF => hK _ U _ _ _ (by show Q_rkOF Z a1 h0 n0 _ U.heap _; rw [hU]; exact ⟨by rw [g534], N536, by rw [← g534]; exact ⟨(((Keep.refl h0 []).ext E534).trans K536 (allS (Or.inr sz_b534) all0)), Ex536, Fa536⟩⟩) hF (by decide) (by decide))
theorem ef_rkOPn (m : MethodId) (a1 : Addr) : entryFrame m #[(.ref a1)] 1 = mkF m 0 #[.val (.ref a1)] [] := by first | (simp [entryFrame, mkF, argsToLocals, Value.category]; done) | rfl
def Q_rkOPn (Z : State) (a1 : Addr) (h0 : Heap) (n0 : Nat) (vv_ : Option Value) (h : Heap) (LL_ : List Loc) : Prop := vv_ = some (.int (0 : Int32)) ∧ Fr n0 LL_ ∧ (h = h0)
theorem d_jdk_32_method_6_code_0 : decode jdk_32_method_6_code 0 = .ok (.aload_n 0, 1) := by decide +kernel
theorem d_jdk_32_method_6_code_1 : decode jdk_32_method_6_code 1 = .ok (.getfield 13, 3) := by decide +kernel
theorem d_jdk_32_method_6_code_4 : decode jdk_32_method_6_code 4 = .ok (.ifnull 7, 3) := by decide +kernel
theorem d_jdk_32_method_6_code_11 : decode jdk_32_method_6_code 11 = .ok (.iconst 0, 1) := by decide +kernel
theorem d_jdk_32_method_6_code_12 : decode jdk_32_method_6_code 12 = .ok (.ireturn, 1) := by decide +kernel
set_option maxRecDepth 65536 in
set_option maxHeartbeats 40000000 in
theorem rkOPn (l : Launch) (Z : State) (a0 : Array Value) (hw : ∀ d ∈ tables_1, d.before a0 Z = true) (ws : List Jvm.Cond) (a1 : Addr) (h0 : Heap) (n0 : Nat) (Z0 : n0 ≤ h0.size) (F1 : Fld Z h0 a1 "java/util/Optional" "value" "Ljava/lang/Object;" .null) :
    MetFree l (⟨"java/util/Optional", "isPresent", "()Z"⟩ : MethodName) (head1 (Jvm.Cond.code (⟨"java/util/Optional", "isPresent", "()Z"⟩ : MethodName) jdk_32_method_6_code 1 (some .boolean) :: ws) ({ frames := 0, cells := 0, slots := 0, locals := 0 } : Room)) (fun aa_ UU_ => aa_ = #[(.ref a1)] ∧ Z.Warmed39 UU_.vm ∧ UU_.heap = h0) (fun _ _ _ _ _ => True) (fun _ UU_ oo_ VV_ => ∃ vv_ LL_, oo_ = .returned vv_ ∧ Q_rkOPn Z a1 h0 n0 vv_ VV_.heap LL_ ∧ FrameEnd UU_ oo_ VV_ LL_ ({ frames := 0, cells := 0, slots := 0, locals := 0 } : Room).cells ({ frames := 0, cells := 0, slots := 0, locals := 0 } : Room).slots) := by
  refine own_met (y := (⟨"java/util/Optional", "isPresent", "()Z"⟩ : MethodName)) (plainFor_of_name pn_5) ?_
  intro p e s m below meth c T0 K hx hby hml hret hlk hown hnm hZ X0 e0 hK
  have N0 := Fr.nil n0
  refine Rch.cast (ef_rkOPn m a1) ?_
  refine Rch.of (T' := T0) (g' := (mkF m 1 #[.val (.ref a1)] [(.ref a1)])) (fun _ kt => XS.aloadN X0.here hx rfl (hb hby d_jdk_32_method_6_code_0) rfl rfl kt) ?_
  obtain ⟨T537, X537, e537, st537⟩ := getF X0 hx hZ hown (host := "") (Or.inl (hw _ (List.mem_of_getElem? (i := 86) rfl))) Via.refl e0 F1 (g := (mkF m 1 #[.val (.ref a1)] [(.ref a1)])) rfl rfl (hb hby d_jdk_32_method_6_code_1)
  refine Rch.of (T' := T537) (g' := (mkF m 4 #[.val (.ref a1)] [.null])) st537 ?_
  refine Rch.of (T' := T537) (g' := (mkF m 11 #[.val (.ref a1)] [])) (fun _ kt => XS.ifnullYes X537.here hx rfl (pc0 := 4) (pc' := 11) rfl (hb hby d_jdk_32_method_6_code_4) rfl (by decide) (by decide) kt) ?_
  refine Rch.of (T' := T537) (g' := (mkF m 12 #[.val (.ref a1)] [(.int (0 : Int32))])) (fun _ kt => XS.iconst X537.here hx rfl (hb hby d_jdk_32_method_6_code_11) kt) ?_
  exact Rch.retN X537 hx (t := .boolean) hret (by simp) hlk (hb hby d_jdk_32_method_6_code_12) (fun U hU hF => hK _ U _ _ _ (by show Q_rkOPn Z a1 h0 n0 _ U.heap _; rw [hU, e537]; exact ⟨rfl, N0, rfl⟩) hF (by decide) (by decide))
theorem ef_rkOPr (m : MethodId) (a1 : Addr) : entryFrame m #[(.ref a1)] 1 = mkF m 0 #[.val (.ref a1)] [] := by first | (simp [entryFrame, mkF, argsToLocals, Value.category]; done) | rfl
def Q_rkOPr (Z : State) (a1 : Addr) (w1 : Addr) (h0 : Heap) (n0 : Nat) (vv_ : Option Value) (h : Heap) (LL_ : List Loc) : Prop := vv_ = some (.int (1 : Int32)) ∧ Fr n0 LL_ ∧ (h = h0)
theorem d_jdk_32_method_6_code_7 : decode jdk_32_method_6_code 7 = .ok (.iconst 1, 1) := by decide +kernel
theorem d_jdk_32_method_6_code_8 : decode jdk_32_method_6_code 8 = .ok (.goto 4, 3) := by decide +kernel
set_option maxRecDepth 65536 in
set_option maxHeartbeats 40000000 in
theorem rkOPr (l : Launch) (Z : State) (a0 : Array Value) (hw : ∀ d ∈ tables_1, d.before a0 Z = true) (ws : List Jvm.Cond) (a1 : Addr) (w1 : Addr) (h0 : Heap) (n0 : Nat) (Z0 : n0 ≤ h0.size) (F1 : Fld Z h0 a1 "java/util/Optional" "value" "Ljava/lang/Object;" (.ref w1)) :
    MetFree l (⟨"java/util/Optional", "isPresent", "()Z"⟩ : MethodName) (head1 (Jvm.Cond.code (⟨"java/util/Optional", "isPresent", "()Z"⟩ : MethodName) jdk_32_method_6_code 1 (some .boolean) :: ws) ({ frames := 0, cells := 0, slots := 0, locals := 0 } : Room)) (fun aa_ UU_ => aa_ = #[(.ref a1)] ∧ Z.Warmed39 UU_.vm ∧ UU_.heap = h0) (fun _ _ _ _ _ => True) (fun _ UU_ oo_ VV_ => ∃ vv_ LL_, oo_ = .returned vv_ ∧ Q_rkOPr Z a1 w1 h0 n0 vv_ VV_.heap LL_ ∧ FrameEnd UU_ oo_ VV_ LL_ ({ frames := 0, cells := 0, slots := 0, locals := 0 } : Room).cells ({ frames := 0, cells := 0, slots := 0, locals := 0 } : Room).slots) := by
  refine own_met (y := (⟨"java/util/Optional", "isPresent", "()Z"⟩ : MethodName)) (plainFor_of_name pn_5) ?_
  intro p e s m below meth c T0 K hx hby hml hret hlk hown hnm hZ X0 e0 hK
  have N0 := Fr.nil n0
  refine Rch.cast (ef_rkOPr m a1) ?_
  refine Rch.of (T' := T0) (g' := (mkF m 1 #[.val (.ref a1)] [(.ref a1)])) (fun _ kt => XS.aloadN X0.here hx rfl (hb hby d_jdk_32_method_6_code_0) rfl rfl kt) ?_
  obtain ⟨T538, X538, e538, st538⟩ := getF X0 hx hZ hown (host := "") (Or.inl (hw _ (List.mem_of_getElem? (i := 86) rfl))) Via.refl e0 F1 (g := (mkF m 1 #[.val (.ref a1)] [(.ref a1)])) rfl rfl (hb hby d_jdk_32_method_6_code_1)
  refine Rch.of (T' := T538) (g' := (mkF m 4 #[.val (.ref a1)] [(.ref w1)])) st538 ?_
  refine Rch.of (T' := T538) (g' := (mkF m 7 #[.val (.ref a1)] [])) (fun _ kt => XS.ifnullNo X538.here hx rfl (hb hby d_jdk_32_method_6_code_4) rfl kt) ?_
  refine Rch.of (T' := T538) (g' := (mkF m 8 #[.val (.ref a1)] [(.int (1 : Int32))])) (fun _ kt => XS.iconst X538.here hx rfl (hb hby d_jdk_32_method_6_code_7) kt) ?_
  refine Rch.of (T' := T538) (g' := (mkF m 12 #[.val (.ref a1)] [(.int (1 : Int32))])) (fun _ kt => XS.goto X538.here hx rfl (pc0 := 8) (pc' := 12) rfl (hb hby d_jdk_32_method_6_code_8) (by decide) (by decide) kt) ?_
  exact Rch.retN X538 hx (t := .boolean) hret (by simp) hlk (hb hby d_jdk_32_method_6_code_12) (fun U hU hF => hK _ U _ _ _ (by show Q_rkOPr Z a1 w1 h0 n0 _ U.heap _; rw [hU, e538]; exact ⟨rfl, N0, rfl⟩) hF (by decide) (by decide))
theorem ef_rkOG (m : MethodId) (a1 : Addr) : entryFrame m #[(.ref a1)] 1 = mkF m 0 #[.val (.ref a1)] [] := by first | (simp [entryFrame, mkF, argsToLocals, Value.category]; done) | rfl
def Q_rkOG (Z : State) (a1 : Addr) (w1 : Addr) (h0 : Heap) (n0 : Nat) (vv_ : Option Value) (h : Heap) (LL_ : List Loc) : Prop := vv_ = some (.ref w1) ∧ Fr n0 LL_ ∧ (h = h0)
theorem d_jdk_32_method_5_code_0 : decode jdk_32_method_5_code 0 = .ok (.aload_n 0, 1) := by decide +kernel
theorem d_jdk_32_method_5_code_1 : decode jdk_32_method_5_code 1 = .ok (.getfield 13, 3) := by decide +kernel
theorem d_jdk_32_method_5_code_4 : decode jdk_32_method_5_code 4 = .ok (.ifnonnull 13, 3) := by decide +kernel
theorem d_jdk_32_method_5_code_17 : decode jdk_32_method_5_code 17 = .ok (.aload_n 0, 1) := by decide +kernel
theorem d_jdk_32_method_5_code_18 : decode jdk_32_method_5_code 18 = .ok (.getfield 13, 3) := by decide +kernel
theorem d_jdk_32_method_5_code_21 : decode jdk_32_method_5_code 21 = .ok (.areturn, 1) := by decide +kernel
set_option maxRecDepth 65536 in
set_option maxHeartbeats 40000000 in
theorem rkOG (l : Launch) (Z : State) (a0 : Array Value) (hw : ∀ d ∈ tables_1, d.before a0 Z = true) (ws : List Jvm.Cond) (a1 : Addr) (w1 : Addr) (h0 : Heap) (n0 : Nat) (Z0 : n0 ≤ h0.size) (F1 : Fld Z h0 a1 "java/util/Optional" "value" "Ljava/lang/Object;" (.ref w1)) :
    MetFree l (⟨"java/util/Optional", "get", "()Ljava/lang/Object;"⟩ : MethodName) (head1 (Jvm.Cond.code (⟨"java/util/Optional", "get", "()Ljava/lang/Object;"⟩ : MethodName) jdk_32_method_5_code 1 (some (.object "java/lang/Object")) :: ws) ({ frames := 0, cells := 0, slots := 0, locals := 0 } : Room)) (fun aa_ UU_ => aa_ = #[(.ref a1)] ∧ Z.Warmed39 UU_.vm ∧ UU_.heap = h0) (fun _ _ _ _ _ => True) (fun _ UU_ oo_ VV_ => ∃ vv_ LL_, oo_ = .returned vv_ ∧ Q_rkOG Z a1 w1 h0 n0 vv_ VV_.heap LL_ ∧ FrameEnd UU_ oo_ VV_ LL_ ({ frames := 0, cells := 0, slots := 0, locals := 0 } : Room).cells ({ frames := 0, cells := 0, slots := 0, locals := 0 } : Room).slots) := by
  refine own_met (y := (⟨"java/util/Optional", "get", "()Ljava/lang/Object;"⟩ : MethodName)) (plainFor_of_name pn_5) ?_
  intro p e s m below meth c T0 K hx hby hml hret hlk hown hnm hZ X0 e0 hK
  have N0 := Fr.nil n0
  refine Rch.cast (ef_rkOG m a1) ?_
  refine Rch.of (T' := T0) (g' := (mkF m 1 #[.val (.ref a1)] [(.ref a1)])) (fun _ kt => XS.aloadN X0.here hx rfl (hb hby d_jdk_32_method_5_code_0) rfl rfl kt) ?_
  obtain ⟨T539, X539, e539, st539⟩ := getF X0 hx hZ hown (host := "") (Or.inl (hw _ (List.mem_of_getElem? (i := 86) rfl))) Via.refl e0 F1 (g := (mkF m 1 #[.val (.ref a1)] [(.ref a1)])) rfl rfl (hb hby d_jdk_32_method_5_code_1)
  refine Rch.of (T' := T539) (g' := (mkF m 4 #[.val (.ref a1)] [(.ref w1)])) st539 ?_
  refine Rch.of (T' := T539) (g' := (mkF m 17 #[.val (.ref a1)] [])) (fun _ kt => XS.ifnonnullYes X539.here hx rfl (pc0 := 4) (pc' := 17) rfl (hb hby d_jdk_32_method_5_code_4) rfl (by decide) (by decide) kt) ?_
  refine Rch.of (T' := T539) (g' := (mkF m 18 #[.val (.ref a1)] [(.ref a1)])) (fun _ kt => XS.aloadN X539.here hx rfl (hb hby d_jdk_32_method_5_code_17) rfl rfl kt) ?_
  obtain ⟨T540, X540, e540, st540⟩ := getF X539 hx hZ hown (host := "") (Or.inl (hw _ (List.mem_of_getElem? (i := 86) rfl))) Via.refl e539 F1 (g := (mkF m 18 #[.val (.ref a1)] [(.ref a1)])) rfl rfl (hb hby d_jdk_32_method_5_code_18)
  refine Rch.of (T' := T540) (g' := (mkF m 21 #[.val (.ref a1)] [(.ref w1)])) st540 ?_
  exact Rch.retA X540 hx (w := (.ref w1)) hret rfl rfl hlk (hb hby d_jdk_32_method_5_code_21) (fun U hU hF => hK _ U _ _ _ (by show Q_rkOG Z a1 w1 h0 n0 _ U.heap _; rw [hU, e540]; exact ⟨rfl, N0, rfl⟩) hF (by decide) (by decide))
theorem pn_7 : plainName "com/example/isidore/isidore/Severity" = true := by first | (simp [plainName, overriddenIn]; done) | decide +kernel
theorem ef_rkVA (m : MethodId)  : entryFrame m #[] 0 = mkF m 0 #[] [] := by first | (simp [entryFrame, mkF, argsToLocals, Value.category]; done) | rfl
def Q_rkVA (Z : State) (av1 : Addr) (er : Addr) (wa : Addr) (h0 : Heap) (n0 : Nat) (vv_ : Option Value) (h : Heap) (LL_ : List Loc) : Prop := vv_ = some (.ref h0.size) ∧ Fr n0 LL_ ∧ (Keep h0 h [] ∧ Av Z h h0.size (.object "com/example/isidore/isidore/Severity") 2 (fun q => (fun q => if q = 0 then Value.ref er else Value.ref wa) q))
theorem d_prog_27_method_1_code_0 : decode prog_27_method_1_code 0 = .ok (.getstatic 10, 3) := by decide +kernel
theorem d_prog_27_method_1_code_3 : decode prog_27_method_1_code 3 = .ok (.invokevirtual 14, 3) := by decide +kernel
theorem d_prog_27_method_1_code_6 : decode prog_27_method_1_code 6 = .ok (.checkcast 15, 3) := by decide +kernel
theorem d_prog_27_method_1_code_9 : decode prog_27_method_1_code 9 = .ok (.areturn, 1) := by decide +kernel
set_option maxRecDepth 65536 in
set_option maxHeartbeats 40000000 in
theorem rkVA (l : Launch) (Z : State) (a0 : Array Value) (hw : ∀ d ∈ tables_1, d.before a0 Z = true) (ws : List Jvm.Cond) (av1 : Addr) (er : Addr) (wa : Addr) (h0 : Heap) (n0 : Nat) (Z0 : n0 ≤ h0.size) (S2 : Sta Z h0 "com/example/isidore/isidore/Severity" "$VALUES" "[Lcom/example/isidore/isidore/Severity;" (.ref av1)) (E3 : Exa Z h0 av1 "[Lcom/example/isidore/isidore/Severity;") (V3 : Av Z h0 av1 (.object "com/example/isidore/isidore/Severity") 2 (fun q => (fun q => if q = 0 then Value.ref er else Value.ref wa) q)) :
    MetFree l (⟨"com/example/isidore/isidore/Severity", "values", "()[Lcom/example/isidore/isidore/Severity;"⟩ : MethodName) (head1 (Jvm.Cond.code (⟨"com/example/isidore/isidore/Severity", "values", "()[Lcom/example/isidore/isidore/Severity;"⟩ : MethodName) prog_27_method_1_code 0 (some (.array (.object "com/example/isidore/isidore/Severity"))) :: ws) ({ frames := 1, cells := 1, slots := 2, locals := 14 } : Room)) (fun aa_ UU_ => aa_ = #[] ∧ Z.Warmed39 UU_.vm ∧ UU_.heap = h0) (fun _ _ _ _ _ => True) (fun _ UU_ oo_ VV_ => ∃ vv_ LL_, oo_ = .returned vv_ ∧ Q_rkVA Z av1 er wa h0 n0 vv_ VV_.heap LL_ ∧ FrameEnd UU_ oo_ VV_ LL_ ({ frames := 1, cells := 1, slots := 2, locals := 14 } : Room).cells ({ frames := 1, cells := 1, slots := 2, locals := 14 } : Room).slots) := by
  refine own_met (y := (⟨"com/example/isidore/isidore/Severity", "values", "()[Lcom/example/isidore/isidore/Severity;"⟩ : MethodName)) (plainFor_of_name pn_7) ?_
  intro p e s m below meth c T0 K hx hby hml hret hlk hown hnm hZ X0 e0 hK
  have N0 := Fr.nil n0
  refine Rch.cast (ef_rkVA m ) ?_
  obtain ⟨T541, X541, e541, st541⟩ := getS2 X0 hx hZ hown (host := "") (Or.inl (hw _ (List.mem_of_getElem? (i := 45) rfl))) Via.refl e0 S2 (g := (mkF m 0 #[] [])) rfl (hb hby d_prog_27_method_1_code_0)
  refine Rch.of (T' := T541) (g' := (mkF m 3 #[] [(.ref av1)])) st541 ?_
  obtain ⟨T542, h542, X542, e542, E542, V542, Q542, st542⟩ := own_clone X541 hx hZ hown (hw _ (List.mem_of_getElem? (i := 47) rfl)) (hw _ (List.mem_of_getElem? (i := 48) rfl)) (hw _ (List.mem_of_getElem? (i := 52) rfl)) (hw _ (List.mem_of_getElem? (i := 50) rfl)) (hw _ (List.mem_of_getElem? (i := 51) rfl)) (hw _ (List.mem_of_getElem? (i := 53) rfl)) e541 V3 (fun q _ => by by_cases u : q = 0 <;> simp only [u, if_true, if_false] <;> rfl) E3 (g := (mkF m 3 #[] [(.ref av1)])) rfl (by rw [hml]; rfl) rfl (hb hby d_prog_27_method_1_code_3) (by decide) (W := 0) (by show 2 * 0 + _ ≤ _; exact Nat.le_of_eq rfl) (by decide) (cap := 2) (Nat.le_refl _) (by decide) (by decide)
  obtain ⟨b542, g542⟩ : ∃ zz_, zz_ = h0.size := ⟨_, rfl⟩
  have ne_av1_b542 : av1 ≠ b542 := Nat.ne_of_lt (Nat.lt_of_lt_of_le E3.lt (Nat.le_of_eq g542.symm))
  have ge_b542 : n0 ≤ b542 := Nat.le_trans Z0 (Nat.le_of_eq g542.symm)
  have sz_b542 : h0.size ≤ b542 := Nat.le_trans (Keep.refl h0 []).1 (Nat.le_of_eq g542.symm)
  rw [← g542] at V542 Q542 st542
  refine Rch.of (T' := T542) (g' := (mkF m 6 #[] [(.ref b542)])) st542 ?_
  obtain ⟨T543, X543, e543, st543⟩ := castY X542 hx hZ hown (hw _ (List.mem_of_getElem? (i := 57) rfl)) e542 (Ins.of_exa Q542 (hw _ (List.mem_of_getElem? (i := 58) rfl))) (g := (mkF m 6 #[] [(.ref b542)])) rfl rfl (hb hby d_prog_27_method_1_code_6)
  refine Rch.of (T' := T543) (g' := (mkF m 9 #[] [(.ref b542)])) st543 ?_
  exact Rch.retA X543 hx (w := (.ref b542)) hret rfl rfl hlk (hb hby d_prog_27_method_1_code_9) (fun U hU hF => hK _ U _ _ _ (by show Q_rkVA Z av1 er wa h0 n0 _ U.heap _; rw [hU, e543]; exact ⟨by rw [g542], N0, by rw [← g542]; exact ⟨((Keep.refl h0 []).ext E542), V542⟩⟩) hF (by decide) (by decide))
theorem ef_rkLn (m : MethodId)  : entryFrame m #[.null] 5 = mkF m 0 #[.val .null, .unset, .unset, .unset, .unset] [] := by first | (simp [entryFrame, mkF, argsToLocals, Value.category]; done) | rfl
def Q_rkLn (Z : State) (av1 : Addr) (er : Addr) (wa : Addr) (le : Addr) (lw : Addr) (be : Addr) (bw : Addr) (em : Addr) (cs : Int32) (h0 : Heap) (n0 : Nat) (vv_ : Option Value) (h : Heap) (LL_ : List Loc) : Prop := ∃ r : Addr, ∃ v1 : Value, vv_ = some (.ref r) ∧ Fr n0 LL_ ∧ (Keep h0 h [] ∧ Exa Z h r "java/util/Optional" ∧ Fld Z h r "java/util/Optional" "value" "Ljava/lang/Object;" v1 ∧ v1 = .null)
theorem d_prog_27_method_5_code_0 : decode prog_27_method_5_code 0 = .ok (.invokestatic 33, 3) := by decide +kernel
theorem d_prog_27_method_5_code_3 : decode prog_27_method_5_code 3 = .ok (.astore_n 1, 1) := by decide +kernel
theorem d_prog_27_method_5_code_4 : decode prog_27_method_5_code 4 = .ok (.aload_n 1, 1) := by decide +kernel
theorem d_prog_27_method_5_code_5 : decode prog_27_method_5_code 5 = .ok (.arraylength, 1) := by decide +kernel
theorem d_prog_27_method_5_code_6 : decode prog_27_method_5_code 6 = .ok (.istore_n 2, 1) := by decide +kernel
theorem d_prog_27_method_5_code_7 : decode prog_27_method_5_code 7 = .ok (.iconst 0, 1) := by decide +kernel
theorem d_prog_27_method_5_code_8 : decode prog_27_method_5_code 8 = .ok (.istore_n 3, 1) := by decide +kernel
theorem d_prog_27_method_5_code_9 : decode prog_27_method_5_code 9 = .ok (.iload_n 3, 1) := by decide +kernel
theorem d_prog_27_method_5_code_10 : decode prog_27_method_5_code 10 = .ok (.iload_n 2, 1) := by decide +kernel
theorem d_prog_27_method_5_code_11 : decode prog_27_method_5_code 11 = .ok (.if_icmp .ge 32, 3) := by decide +kernel
theorem d_prog_27_method_5_code_14 : decode prog_27_method_5_code 14 = .ok (.aload_n 1, 1) := by decide +kernel
theorem d_prog_27_method_5_code_15 : decode prog_27_method_5_code 15 = .ok (.iload_n 3, 1) := by decide +kernel
theorem d_prog_27_method_5_code_16 : decode prog_27_method_5_code 16 = .ok (.aaload, 1) := by decide +kernel
theorem d_prog_27_method_5_code_17 : decode prog_27_method_5_code 17 = .ok (.astore 4, 2) := by decide +kernel
theorem d_prog_27_method_5_code_19 : decode prog_27_method_5_code 19 = .ok (.aload 4, 2) := by decide +kernel
theorem d_prog_27_method_5_code_21 : decode prog_27_method_5_code 21 = .ok (.getfield 29, 3) := by decide +kernel
theorem d_prog_27_method_5_code_24 : decode prog_27_method_5_code 24 = .ok (.aload_n 0, 1) := by decide +kernel
theorem d_prog_27_method_5_code_25 : decode prog_27_method_5_code 25 = .ok (.invokevirtual 37, 3) := by decide +kernel
theorem d_prog_27_method_5_code_28 : decode prog_27_method_5_code 28 = .ok (.ifCond .eq 9, 3) := by decide +kernel
theorem d_prog_27_method_5_code_37 : decode prog_27_method_5_code 37 = .ok (.iinc 3 1, 3) := by decide +kernel
theorem d_prog_27_method_5_code_40 : decode prog_27_method_5_code 40 = .ok (.goto (-31), 3) := by decide +kernel
theorem d_prog_27_method_5_code_43 : decode prog_27_method_5_code 43 = .ok (.invokestatic 49, 3) := by decide +kernel
theorem d_prog_27_method_5_code_46 : decode prog_27_method_5_code 46 = .ok (.areturn, 1) := by decide +kernel
set_option maxRecDepth 65536 in
set_option maxHeartbeats 40000000 in
theorem rkLn (l : Launch) (Z : State) (a0 : Array Value) (hw : ∀ d ∈ tables_1, d.before a0 Z = true) (ws : List Jvm.Cond) (av1 : Addr) (er : Addr) (wa : Addr) (le : Addr) (lw : Addr) (be : Addr) (bw : Addr) (em : Addr) (cs : Int32) (h0 : Heap) (n0 : Nat) (Z0 : n0 ≤ h0.size) (S2 : Sta Z h0 "com/example/isidore/isidore/Severity" "$VALUES" "[Lcom/example/isidore/isidore/Severity;" (.ref av1)) (E3 : Exa Z h0 av1 "[Lcom/example/isidore/isidore/Severity;") (V3 : Av Z h0 av1 (.object "com/example/isidore/isidore/Severity") 2 (fun q => (fun q => if q = 0 then Value.ref er else Value.ref wa) q)) (Fl1 : Fld Z h0 er "com/example/isidore/isidore/Severity" "label" "Ljava/lang/String;" (.ref le)) (Xl1 : Exa Z h0 le "java/lang/String") (Fc1 : Fld Z h0 le "java/lang/String" "coder" "B" (.int (0 : Int32))) (Fv1 : Fld Z h0 le "java/lang/String" "value" "[B" (.ref be)) (Vl1 : Av Z h0 be .byte 5 (fun q => .int ((own_t0 q).toInt8.toInt32))) (Fl2 : Fld Z h0 wa "com/example/isidore/isidore/Severity" "label" "Ljava/lang/String;" (.ref lw)) (Xl2 : Exa Z h0 lw "java/lang/String") (Fc2 : Fld Z h0 lw "java/lang/String" "coder" "B" (.int (0 : Int32))) (Fv2 : Fld Z h0 lw "java/lang/String" "value" "[B" (.ref bw)) (Vl2 : Av Z h0 bw .byte 7 (fun q => .int ((own_t1 q).toInt8.toInt32))) (S5 : Sta Z h0 "java/util/Optional" "EMPTY" "Ljava/util/Optional;" (.ref em)) (E5 : Exa Z h0 em "java/util/Optional") (F5 : Fld Z h0 em "java/util/Optional" "value" "Ljava/lang/Object;" .null) (SC : Sta Z h0 "java/lang/String" "COMPACT_STRINGS" "Z" (.int cs)) (hcs : ¬ cs = (0 : Int32)) :
    MetFree l (⟨"com/example/isidore/isidore/Severity", "labelled", "(Ljava/lang/String;)Ljava/util/Optional;"⟩ : MethodName) (head1 (Jvm.Cond.code (⟨"com/example/isidore/isidore/Severity", "labelled", "(Ljava/lang/String;)Ljava/util/Optional;"⟩ : MethodName) prog_27_method_5_code 5 (some (.object "java/util/Optional")) :: ws) ({ frames := 2, cells := 1, slots := 2, locals := 25 } : Room)) (fun aa_ UU_ => aa_ = #[.null] ∧ Z.Warmed39 UU_.vm ∧ UU_.heap = h0) (fun _ _ _ _ _ => True) (fun _ UU_ oo_ VV_ => ∃ vv_ LL_, oo_ = .returned vv_ ∧ Q_rkLn Z av1 er wa le lw be bw em cs h0 n0 vv_ VV_.heap LL_ ∧ FrameEnd UU_ oo_ VV_ LL_ ({ frames := 2, cells := 1, slots := 2, locals := 25 } : Room).cells ({ frames := 2, cells := 1, slots := 2, locals := 25 } : Room).slots) := by
  refine own_met (y := (⟨"com/example/isidore/isidore/Severity", "labelled", "(Ljava/lang/String;)Ljava/util/Optional;"⟩ : MethodName)) (plainFor_of_name pn_7) ?_
  intro p e s m below meth c T0 K hx hby hml hret hlk hown hnm hZ X0 e0 hK
  have N0 := Fr.nil n0
  refine Rch.cast (ef_rkLn m ) ?_
  obtain ⟨_, _, ⟨T544, L544, k544, n544⟩, -, X544, ⟨Lc544, hQ544, l544, y544, z544⟩, st544⟩ := Jvm.LawKit.callS X0 hx (y := (⟨"com/example/isidore/isidore/Severity", "values", "()[Lcom/example/isidore/isidore/Severity;"⟩ : MethodName)) hown (mvT hZ (hw _ (List.mem_of_getElem? (i := 42) rfl))) (mvT hZ (hw _ (List.mem_of_getElem? (i := 43) rfl))) (mvT hZ (hw _ (List.mem_of_getElem? (i := 40) rfl))) (mvT hZ (hw _ (List.mem_of_getElem? (i := 44) rfl))) (by decide) (backOf (W := 0) (rkVA l Z a0 hw [] av1 er wa h0 n0 Z0 S2 E3 V3) hZ (hw _ (List.mem_of_getElem? (i := 44) rfl)) (hw _ (List.mem_of_getElem? (i := 40) rfl)) (by decide) (by decide)) (g := (mkF m 0 #[.val .null, .unset, .unset, .unset, .unset] [])) rfl (by rw [hml]; rfl) (argsL := []) (rest := []) (lenOf pd_9 rfl) rfl (by show 2 * 0 + _ ≤ _; exact Nat.le_of_eq rfl) (hb hby d_prog_27_method_5_code_0) (fun _ _ => ⟨rfl, e0, (by decide : 0 + 1 ≤ _), (by decide : 0 + 2 ≤ _)⟩)
  dsimp only [Pt.U, Pt.locs, Pt.cells, Pt.slots] at X544 l544 y544 z544 st544 hQ544
  subst l544 y544 z544
  obtain ⟨rfl, N544q, hQ544⟩ := hQ544
  have N544 := Fr.app N0 N544q
  obtain ⟨K544, V544⟩ := hQ544
  obtain ⟨b544, g544⟩ : ∃ zz_, zz_ = h0.size := ⟨_, rfl⟩
  have ne_av1_b544 : av1 ≠ b544 := Nat.ne_of_lt (Nat.lt_of_lt_of_le E3.lt (Nat.le_of_eq g544.symm))
  have ne_er_b544 : er ≠ b544 := Nat.ne_of_lt (Nat.lt_of_lt_of_le Fl1.lt (Nat.le_of_eq g544.symm))
  have ne_le_b544 : le ≠ b544 := Nat.ne_of_lt (Nat.lt_of_lt_of_le Xl1.lt (Nat.le_of_eq g544.symm))
  have ne_be_b544 : be ≠ b544 := Nat.ne_of_lt (Nat.lt_of_lt_of_le Vl1.lt (Nat.le_of_eq g544.symm))
  have ne_wa_b544 : wa ≠ b544 := Nat.ne_of_lt (Nat.lt_of_lt_of_le Fl2.lt (Nat.le_of_eq g544.symm))
  have ne_lw_b544 : lw ≠ b544 := Nat.ne_of_lt (Nat.lt_of_lt_of_le Xl2.lt (Nat.le_of_eq g544.symm))
  have ne_bw_b544 : bw ≠ b544 := Nat.ne_of_lt (Nat.lt_of_lt_of_le Vl2.lt (Nat.le_of_eq g544.symm))
  have ne_em_b544 : em ≠ b544 := Nat.ne_of_lt (Nat.lt_of_lt_of_le E5.lt (Nat.le_of_eq g544.symm))
  have ge_b544 : n0 ≤ b544 := Nat.le_trans Z0 (Nat.le_of_eq g544.symm)
  have sz_b544 : h0.size ≤ b544 := Nat.le_trans (Keep.refl h0 []).1 (Nat.le_of_eq g544.symm)
  rw [← g544] at V544 st544
  refine Rch.of (T' := T544) (g' := (mkF m 3 #[.val .null, .unset, .unset, .unset, .unset] [(.ref b544)])) st544 ?_
  refine Rch.of (T' := T544) (g' := (mkF m 4 #[.val .null, .val (.ref b544), .unset, .unset, .unset] [])) (fun _ kt => XS.astoreN X544.here hx rfl (hb hby d_prog_27_method_5_code_3) rfl rfl (l' := #[.val .null, .val (.ref b544), .unset, .unset, .unset]) rfl kt) ?_
  refine Rch.of (T' := T544) (g' := (mkF m 5 #[.val .null, .val (.ref b544), .unset, .unset, .unset] [(.ref b544)])) (fun _ kt => XS.aloadN X544.here hx rfl (hb hby d_prog_27_method_5_code_4) rfl rfl kt) ?_
  obtain ⟨cl545, Ar545, Sz545, Ha545⟩ := id V544
  refine Rch.of (T' := T544) (g' := (mkF m 6 #[.val .null, .val (.ref b544), .unset, .unset, .unset] [(.int cl545.slots.size.toInt32)])) (X544.arraylength hx Ar545.1 (State.isArrayOf_alike hZ.alike Ar545.2.1) (g := (mkF m 5 #[.val .null, .val (.ref b544), .unset, .unset, .unset] [(.ref b544)])) rfl rfl (hb hby d_prog_27_method_5_code_5)) ?_
  rw [oLen Sz545]
  show Rch p e below K T544 (mkF m 6 #[.val .null, .val (.ref b544), .unset, .unset, .unset] [(.int (Int32.ofNat 2))])
  have sw546 : (Int32.ofNat 2) = (2 : Int32) := rfl
  rw [sw546]
  show Rch p e below K T544 (mkF m 6 #[.val .null, .val (.ref b544), .unset, .unset, .unset] [(.int (2 : Int32))])
  refine Rch.of (T' := T544) (g' := (mkF m 7 #[.val .null, .val (.ref b544), .val (.int (2 : Int32)), .unset, .unset] [])) (fun _ kt => XS.istoreN X544.here hx rfl (hb hby d_prog_27_method_5_code_6) rfl (l' := #[.val .null, .val (.ref b544), .val (.int (2 : Int32)), .unset, .unset]) rfl kt) ?_
  refine Rch.of (T' := T544) (g' := (mkF m 8 #[.val .null, .val (.ref b544), .val (.int (2 : Int32)), .unset, .unset] [(.int (0 : Int32))])) (fun _ kt => XS.iconst X544.here hx rfl (hb hby d_prog_27_method_5_code_7) kt) ?_
  refine Rch.of (T' := T544) (g' := (mkF m 9 #[.val .null, .val (.ref b544), .val (.int (2 : Int32)), .val (.int (0 : Int32)), .unset] [])) (fun _ kt => XS.istoreN X544.here hx rfl (hb hby d_prog_27_method_5_code_8) rfl (l' := #[.val .null, .val (.ref b544), .val (.int (2 : Int32)), .val (.int (0 : Int32)), .unset]) rfl kt) ?_
  refine Rch.of (T' := T544) (g' := (mkF m 10 #[.val .null, .val (.ref b544), .val (.int (2 : Int32)), .val (.int (0 : Int32)), .unset] [(.int (0 : Int32))])) (fun _ kt => XS.iloadN X544.here hx rfl (hb hby d_prog_27_method_5_code_9) rfl  kt) ?_
  refine Rch.of (T' := T544) (g' := (mkF m 11 #[.val .null, .val (.ref b544), .val (.int (2 : Int32)), .val (.int (0 : Int32)), .unset] [(.int (2 : Int32)), (.int (0 : Int32))])) (fun _ kt => XS.iloadN X544.here hx rfl (hb hby d_prog_27_method_5_code_10) rfl  kt) ?_
  refine Rch.of (T' := T544) (g' := (mkF m 14 #[.val .null, .val (.ref b544), .val (.int (2 : Int32)), .val (.int (0 : Int32)), .unset] [])) (fun _ kt => XS.icmpNo X544.here hx rfl (hb hby d_prog_27_method_5_code_11) rfl (tlt ((by decide) : (0 : Int32) < (2 : Int32))).2.1 kt) ?_
  refine Rch.of (T' := T544) (g' := (mkF m 15 #[.val .null, .val (.ref b544), .val (.int (2 : Int32)), .val (.int (0 : Int32)), .unset] [(.ref b544)])) (fun _ kt => XS.aloadN X544.here hx rfl (hb hby d_prog_27_method_5_code_14) rfl rfl kt) ?_
  refine Rch.of (T' := T544) (g' := (mkF m 16 #[.val .null, .val (.ref b544), .val (.int (2 : Int32)), .val (.int (0 : Int32)), .unset] [(.int (0 : Int32)), (.ref b544)])) (fun _ kt => XS.iloadN X544.here hx rfl (hb hby d_prog_27_method_5_code_15) rfl  kt) ?_
  obtain ⟨cl547, Ar547, Sz547, Ha547⟩ := id V544
  have hval547 : ((fun q => if q = 0 then Value.ref er else Value.ref wa)) 0 = (.ref er) := rfl
  refine Rch.of (T' := T544) (g' := (mkF m 17 #[.val .null, .val (.ref b544), .val (.int (2 : Int32)), .val (.int (0 : Int32)), .unset] [(.ref er)])) (X544.aaload hx (j := (0 : Int32)) (v := (.ref er)) Ar547.1 (State.isArrayOf_alike hZ.alike Ar547.2.1) rfl Ar547.2.2 (oIn (i := 0) Sz547 (by decide) (by decide)) (by rw [← hval547]; exact oAt (i := 0) Ha547 (by decide) (by decide)) (g := (mkF m 16 #[.val .null, .val (.ref b544), .val (.int (2 : Int32)), .val (.int (0 : Int32)), .unset] [(.int (0 : Int32)), (.ref b544)])) rfl rfl (hb hby d_prog_27_method_5_code_16)) ?_
  refine Rch.of (T' := T544) (g' := (mkF m 19 #[.val .null, .val (.ref b544), .val (.int (2 : Int32)), .val (.int (0 : Int32)), .val (.ref er)] [])) (fun _ kt => XS.astore X544.here hx rfl (hb hby d_prog_27_method_5_code_17) rfl rfl (l' := #[.val .null, .val (.ref b544), .val (.int (2 : Int32)), .val (.int (0 : Int32)), .val (.ref er)]) rfl kt) ?_
  refine Rch.of (T' := T544) (g' := (mkF m 21 #[.val .null, .val (.ref b544), .val (.int (2 : Int32)), .val (.int (0 : Int32)), .val (.ref er)] [(.ref er)])) (fun _ kt => XS.aload X544.here hx rfl (hb hby d_prog_27_method_5_code_19) rfl rfl kt) ?_
  obtain ⟨T548, X548, e548, st548⟩ := getF X544 hx hZ hown (host := "") (Or.inl (hw _ (List.mem_of_getElem? (i := 59) rfl))) Via.refl rfl (Fl1.keep K544 nin0) (g := (mkF m 21 #[.val .null, .val (.ref b544), .val (.int (2 : Int32)), .val (.int (0 : Int32)), .val (.ref er)] [(.ref er)])) rfl rfl (hb hby d_prog_27_method_5_code_21)
  refine Rch.of (T' := T548) (g' := (mkF m 24 #[.val .null, .val (.ref b544), .val (.int (2 : Int32)), .val (.int (0 : Int32)), .val (.ref er)] [(.ref le)])) st548 ?_
  refine Rch.of (T' := T548) (g' := (mkF m 25 #[.val .null, .val (.ref b544), .val (.int (2 : Int32)), .val (.int (0 : Int32)), .val (.ref er)] [.null, (.ref le)])) (fun _ kt => XS.aloadN X548.here hx rfl (hb hby d_prog_27_method_5_code_24) rfl rfl kt) ?_
  obtain ⟨cq549, kq549, q549a, q549b, q549c⟩ := isOf hZ e548 (Xl1.keep K544)
  obtain ⟨_, _, ⟨T549, L549, k549, n549⟩, -, X549, ⟨Lc549, hQ549, l549, y549, z549⟩, st549⟩ := X548.virtualBack hx (y := (⟨"java/lang/String", "equals", "(Ljava/lang/Object;)Z"⟩ : MethodName)) (z := (⟨"java/lang/String", "equals", "(Ljava/lang/Object;)Z"⟩ : MethodName)) hown (mvT hZ (hw _ (List.mem_of_getElem? (i := 61) rfl))) (mvT hZ (hw _ (List.mem_of_getElem? (i := 62) rfl))) (notFace_of_selects (args := #[]) (mvT hZ (hw _ (List.mem_of_getElem? (i := 64) rfl)))) (mvT hZ (hw _ (List.mem_of_getElem? (i := 64) rfl))) (mvT hZ (hw _ (List.mem_of_getElem? (i := 63) rfl))) (by decide) (backOf (W := 0) (rqEQn l Z a0 hw [] le T544.heap n0 (Nat.le_trans Z0 K544.1) ) hZ (hw _ (List.mem_of_getElem? (i := 65) rfl)) (hw _ (List.mem_of_getElem? (i := 11) rfl)) (by decide) (by decide)) q549a q549c (g := (mkF m 25 #[.val .null, .val (.ref b544), .val (.int (2 : Int32)), .val (.int (0 : Int32)), .val (.ref er)] [.null, (.ref le)])) rfl (by rw [hml]; rfl) (Steps.refl _) (argsL := [.null]) (rest := []) (lenOf pd_11 rfl) rfl (by show 2 * 0 + _ ≤ _; exact Nat.le_of_eq rfl) (hb hby d_prog_27_method_5_code_25) (fun _ _ => ⟨rfl, e548, (by decide : 1 + 0 ≤ _), (by decide : 2 + 0 ≤ _)⟩)
  dsimp only [Pt.U, Pt.locs, Pt.cells, Pt.slots] at X549 l549 y549 z549 st549 hQ549
  subst l549 y549 z549
  obtain ⟨rfl, N549q, hQ549⟩ := hQ549
  have N549 := Fr.app N544 N549q
  refine Rch.via (T' := T549) (g' := (mkF m 28 #[.val .null, .val (.ref b544), .val (.int (2 : Int32)), .val (.int (0 : Int32)), .val (.ref er)] [(.int (0 : Int32))])) st549 ?_
  refine Rch.of (T' := T549) (g' := (mkF m 37 #[.val .null, .val (.ref b544), .val (.int (2 : Int32)), .val (.int (0 : Int32)), .val (.ref er)] [])) (fun _ kt => XS.ifYes X549.here hx rfl (pc0 := 28) (pc' := 37) rfl (hb hby d_prog_27_method_5_code_28) rfl ((if0 _ _).trans (teq ((by decide) : (0 : Int32) = (0 : Int32))).1) (by decide) (by decide) kt) ?_
  refine Rch.of (T' := T549) (g' := (mkF m 40 #[.val .null, .val (.ref b544), .val (.int (2 : Int32)), .val (.int ((0 : Int32) + (1 : Int32))), .val (.ref er)] [])) (fun _ kt => XS.iinc X549.here hx rfl (hb hby d_prog_27_method_5_code_37) rfl (l' := #[.val .null, .val (.ref b544), .val (.int (2 : Int32)), .val (.int ((0 : Int32) + (1 : Int32))), .val (.ref er)]) rfl kt) ?_
  have sw550 : ((0 : Int32) + (1 : Int32)) = (1 : Int32) := by decide
  rw [sw550]
  show Rch p e below K T549 (mkF m 40 #[.val .null, .val (.ref b544), .val (.int (2 : Int32)), .val (.int (1 : Int32)), .val (.ref er)] [])
  refine Rch.of (T' := T549) (g' := (mkF m 9 #[.val .null, .val (.ref b544), .val (.int (2 : Int32)), .val (.int (1 : Int32)), .val (.ref er)] [])) (fun _ kt => XS.goto X549.here hx rfl (pc0 := 40) (pc' := 9) rfl (hb hby d_prog_27_method_5_code_40) (by decide) (by decide) kt) ?_
  refine Rch.of (T' := T549) (g' := (mkF m 10 #[.val .null, .val (.ref b544), .val (.int (2 : Int32)), .val (.int (1 : Int32)), .val (.ref er)] [(.int (1 : Int32))])) (fun _ kt => XS.iloadN X549.here hx rfl (hb hby d_prog_27_method_5_code_9) rfl  kt) ?_
  refine Rch.of (T' := T549) (g' := (mkF m 11 #[.val .null, .val (.ref b544), .val (.int (2 : Int32)), .val (.int (1 : Int32)), .val (.ref er)] [(.int (2 : Int32)), (.int (1 : Int32))])) (fun _ kt => XS.iloadN X549.here hx rfl (hb hby d_prog_27_method_5_code_10) rfl  kt) ?_
  refine Rch.of (T' := T549) (g' := (mkF m 14 #[.val .null, .val (.ref b544), .val (.int (2 : Int32)), .val (.int (1 : Int32)), .val (.ref er)] [])) (fun _ kt => XS.icmpNo X549.here hx rfl (hb hby d_prog_27_method_5_code_11) rfl (tlt ((by decide) : (1 : Int32) < (2 : Int32))).2.1 kt) ?_
  refine Rch.of (T' := T549) (g' := (mkF m 15 #[.val .null, .val (.ref b544), .val (.int (2 : Int32)), .val (.int (1 : Int32)), .val (.ref er)] [(.ref b544)])) (fun _ kt => XS.aloadN X549.here hx rfl (hb hby d_prog_27_method_5_code_14) rfl rfl kt) ?_
  refine Rch.of (T' := T549) (g' := (mkF m 16 #[.val .null, .val (.ref b544), .val (.int (2 : Int32)), .val (.int (1 : Int32)), .val (.ref er)] [(.int (1 : Int32)), (.ref b544)])) (fun _ kt => XS.iloadN X549.here hx rfl (hb hby d_prog_27_method_5_code_15) rfl  kt) ?_
  obtain ⟨cl551, Ar551, Sz551, Ha551⟩ := id V544
  have hval551 : ((fun q => if q = 0 then Value.ref er else Value.ref wa)) 1 = (.ref wa) := rfl
  refine Rch.of (T' := T549) (g' := (mkF m 17 #[.val .null, .val (.ref b544), .val (.int (2 : Int32)), .val (.int (1 : Int32)), .val (.ref er)] [(.ref wa)])) (X549.aaload hx (j := (1 : Int32)) (v := (.ref wa)) (by rw [hQ549]; exact Ar551.1) (State.isArrayOf_alike hZ.alike Ar551.2.1) rfl Ar551.2.2 (oIn (i := 1) Sz551 (by decide) (by decide)) (by rw [← hval551]; exact oAt (i := 1) Ha551 (by decide) (by decide)) (g := (mkF m 16 #[.val .null, .val (.ref b544), .val (.int (2 : Int32)), .val (.int (1 : Int32)), .val (.ref er)] [(.int (1 : Int32)), (.ref b544)])) rfl rfl (hb hby d_prog_27_method_5_code_16)) ?_
  refine Rch.of (T' := T549) (g' := (mkF m 19 #[.val .null, .val (.ref b544), .val (.int (2 : Int32)), .val (.int (1 : Int32)), .val (.ref wa)] [])) (fun _ kt => XS.astore X549.here hx rfl (hb hby d_prog_27_method_5_code_17) rfl rfl (l' := #[.val .null, .val (.ref b544), .val (.int (2 : Int32)), .val (.int (1 : Int32)), .val (.ref wa)]) rfl kt) ?_
  refine Rch.of (T' := T549) (g' := (mkF m 21 #[.val .null, .val (.ref b544), .val (.int (2 : Int32)), .val (.int (1 : Int32)), .val (.ref wa)] [(.ref wa)])) (fun _ kt => XS.aload X549.here hx rfl (hb hby d_prog_27_method_5_code_19) rfl rfl kt) ?_
  obtain ⟨T552, X552, e552, st552⟩ := getF X549 hx hZ hown (host := "") (Or.inl (hw _ (List.mem_of_getElem? (i := 59) rfl))) Via.refl hQ549 (Fl2.keep K544 nin0) (g := (mkF m 21 #[.val .null, .val (.ref b544), .val (.int (2 : Int32)), .val (.int (1 : Int32)), .val (.ref wa)] [(.ref wa)])) rfl rfl (hb hby d_prog_27_method_5_code_21)
  refine Rch.of (T' := T552) (g' := (mkF m 24 #[.val .null, .val (.ref b544), .val (.int (2 : Int32)), .val (.int (1 : Int32)), .val (.ref wa)] [(.ref lw)])) st552 ?_
  refine Rch.of (T' := T552) (g' := (mkF m 25 #[.val .null, .val (.ref b544), .val (.int (2 : Int32)), .val (.int (1 : Int32)), .val (.ref wa)] [.null, (.ref lw)])) (fun _ kt => XS.aloadN X552.here hx rfl (hb hby d_prog_27_method_5_code_24) rfl rfl kt) ?_
  obtain ⟨cq553, kq553, q553a, q553b, q553c⟩ := isOf hZ e552 (Xl2.keep K544)
  obtain ⟨_, _, ⟨T553, L553, k553, n553⟩, -, X553, ⟨Lc553, hQ553, l553, y553, z553⟩, st553⟩ := X552.virtualBack hx (y := (⟨"java/lang/String", "equals", "(Ljava/lang/Object;)Z"⟩ : MethodName)) (z := (⟨"java/lang/String", "equals", "(Ljava/lang/Object;)Z"⟩ : MethodName)) hown (mvT hZ (hw _ (List.mem_of_getElem? (i := 61) rfl))) (mvT hZ (hw _ (List.mem_of_getElem? (i := 62) rfl))) (notFace_of_selects (args := #[]) (mvT hZ (hw _ (List.mem_of_getElem? (i := 64) rfl)))) (mvT hZ (hw _ (List.mem_of_getElem? (i := 64) rfl))) (mvT hZ (hw _ (List.mem_of_getElem? (i := 63) rfl))) (by decide) (backOf (W := 0) (rqEQn l Z a0 hw [] lw T544.heap n0 (Nat.le_trans Z0 K544.1) ) hZ (hw _ (List.mem_of_getElem? (i := 65) rfl)) (hw _ (List.mem_of_getElem? (i := 11) rfl)) (by decide) (by decide)) q553a q553c (g := (mkF m 25 #[.val .null, .val (.ref b544), .val (.int (2 : Int32)), .val (.int (1 : Int32)), .val (.ref wa)] [.null, (.ref lw)])) rfl (by rw [hml]; rfl) (Steps.refl _) (argsL := [.null]) (rest := []) (lenOf pd_11 rfl) rfl (by show 2 * 0 + _ ≤ _; exact Nat.le_of_eq rfl) (hb hby d_prog_27_method_5_code_25) (fun _ _ => ⟨rfl, e552, (by decide : 1 + 0 ≤ _), (by decide : 2 + 0 ≤ _)⟩)
  dsimp only [Pt.U, Pt.locs, Pt.cells, Pt.slots] at X553 l553 y553 z553 st553 hQ553
  subst l553 y553 z553
  obtain ⟨rfl, N553q, hQ553⟩ := hQ553
  have N553 := Fr.app N549 N553q
  refine Rch.via (T' := T553) (g' := (mkF m 28 #[.val .null, .val (.ref b544), .val (.int (2 : Int32)), .val (.int (1 : Int32)), .val (.ref wa)] [(.int (0 : Int32))])) st553 ?_
  refine Rch.of (T' := T553) (g' := (mkF m 37 #[.val .null, .val (.ref b544), .val (.int (2 : Int32)), .val (.int (1 : Int32)), .val (.ref wa)] [])) (fun _ kt => XS.ifYes X553.here hx rfl (pc0 := 28) (pc' := 37) rfl (hb hby d_prog_27_method_5_code_28) rfl ((if0 _ _).trans (teq ((by decide) : (0 : Int32) = (0 : Int32))).1) (by decide) (by decide) kt) ?_
  refine Rch.of (T' := T553) (g' := (mkF m 40 #[.val .null, .val (.ref b544), .val (.int (2 : Int32)), .val (.int ((1 : Int32) + (1 : Int32))), .val (.ref wa)] [])) (fun _ kt => XS.iinc X553.here hx rfl (hb hby d_prog_27_method_5_code_37) rfl (l' := #[.val .null, .val (.ref b544), .val (.int (2 : Int32)), .val (.int ((1 : Int32) + (1 : Int32))), .val (.ref wa)]) rfl kt) ?_
  have sw554 : ((1 : Int32) + (1 : Int32)) = (2 : Int32) := by decide
  rw [sw554]
  show Rch p e below K T553 (mkF m 40 #[.val .null, .val (.ref b544), .val (.int (2 : Int32)), .val (.int (2 : Int32)), .val (.ref wa)] [])
  refine Rch.of (T' := T553) (g' := (mkF m 9 #[.val .null, .val (.ref b544), .val (.int (2 : Int32)), .val (.int (2 : Int32)), .val (.ref wa)] [])) (fun _ kt => XS.goto X553.here hx rfl (pc0 := 40) (pc' := 9) rfl (hb hby d_prog_27_method_5_code_40) (by decide) (by decide) kt) ?_
  refine Rch.of (T' := T553) (g' := (mkF m 10 #[.val .null, .val (.ref b544), .val (.int (2 : Int32)), .val (.int (2 : Int32)), .val (.ref wa)] [(.int (2 : Int32))])) (fun _ kt => XS.iloadN X553.here hx rfl (hb hby d_prog_27_method_5_code_9) rfl  kt) ?_
  refine Rch.of (T' := T553) (g' := (mkF m 11 #[.val .null, .val (.ref b544), .val (.int (2 : Int32)), .val (.int (2 : Int32)), .val (.ref wa)] [(.int (2 : Int32)), (.int (2 : Int32))])) (fun _ kt => XS.iloadN X553.here hx rfl (hb hby d_prog_27_method_5_code_10) rfl  kt) ?_
  refine Rch.of (T' := T553) (g' := (mkF m 43 #[.val .null, .val (.ref b544), .val (.int (2 : Int32)), .val (.int (2 : Int32)), .val (.ref wa)] [])) (fun _ kt => XS.icmpYes X553.here hx rfl (pc0 := 11) (pc' := 43) rfl (hb hby d_prog_27_method_5_code_11) rfl (flt ((by decide) : ¬ ((2 : Int32) < (2 : Int32)))).2.1 (by decide) (by decide) kt) ?_
  obtain ⟨_, _, ⟨T555, L555, k555, n555⟩, -, X555, ⟨Lc555, hQ555, l555, y555, z555⟩, st555⟩ := Jvm.LawKit.callS X553 hx (y := (⟨"java/util/Optional", "empty", "()Ljava/util/Optional;"⟩ : MethodName)) hown (mvT hZ (hw _ (List.mem_of_getElem? (i := 71) rfl))) (mvT hZ (hw _ (List.mem_of_getElem? (i := 72) rfl))) (mvT hZ (hw _ (List.mem_of_getElem? (i := 73) rfl))) (mvT hZ (hw _ (List.mem_of_getElem? (i := 74) rfl))) (by decide) (backOf (W := 0) (rkOE l Z a0 hw [] em T544.heap n0 (Nat.le_trans Z0 K544.1) (own_sta S5 K544 ns0)) hZ (hw _ (List.mem_of_getElem? (i := 74) rfl)) (hw _ (List.mem_of_getElem? (i := 73) rfl)) (by decide) (by decide)) (g := (mkF m 43 #[.val .null, .val (.ref b544), .val (.int (2 : Int32)), .val (.int (2 : Int32)), .val (.ref wa)] [])) rfl (by rw [hml]; rfl) (argsL := []) (rest := []) (lenOf pd_13 rfl) rfl (by show 2 * 0 + _ ≤ _; exact Nat.le_of_eq rfl) (hb hby d_prog_27_method_5_code_43) (fun _ _ => ⟨rfl, hQ553, (by decide : 1 + 0 ≤ _), (by decide : 2 + 0 ≤ _)⟩)
  dsimp only [Pt.U, Pt.locs, Pt.cells, Pt.slots] at X555 l555 y555 z555 st555 hQ555
  subst l555 y555 z555
  obtain ⟨rfl, N555q, hQ555⟩ := hQ555
  have N555 := Fr.app N553 N555q
  refine Rch.of (T' := T555) (g' := (mkF m 46 #[.val .null, .val (.ref b544), .val (.int (2 : Int32)), .val (.int (2 : Int32)), .val (.ref wa)] [(.ref em)])) st555 ?_
  exact Rch.retA X555 hx (w := (.ref em)) hret rfl rfl hlk (hb hby d_prog_27_method_5_code_46) (fun U hU hF => hK _ U _ _ _ (by show Q_rkLn Z av1 er wa le lw be bw em cs h0 n0 _ U.heap _; rw [hU, hQ555]; exact ⟨em, .null, rfl, N555, ((Keep.refl h0 []).trans K544 all0), (E5.keep K544), (F5.keep K544 nin0), rfl⟩) hF (by decide) (by decide))
theorem ef_rkLs (m : MethodId) (a1 : Addr) : entryFrame m #[(.ref a1)] 5 = mkF m 0 #[.val (.ref a1), .unset, .unset, .unset, .unset] [] := by first | (simp [entryFrame, mkF, argsToLocals, Value.category]; done) | rfl
def Q_rkLs (Z : State) (a1 : Addr) (b1 : Addr) (n : Nat) (y : Nat → Int32) (av1 : Addr) (er : Addr) (wa : Addr) (le : Addr) (lw : Addr) (be : Addr) (bw : Addr) (em : Addr) (cs : Int32) (h0 : Heap) (n0 : Nat) (vv_ : Option Value) (h : Heap) (LL_ : List Loc) : Prop := ∃ r : Addr, ∃ v1 : Value, vv_ = some (.ref r) ∧ Fr n0 LL_ ∧ (Keep h0 h [] ∧ Exa Z h r "java/util/Optional" ∧ Fld Z h r "java/util/Optional" "value" "Ljava/lang/Object;" v1 ∧ (¬ own_eqv 5 own_t0 n y = 0 → v1 = .ref er) ∧ (own_eqv 5 own_t0 n y = 0 → ¬ own_eqv 7 own_t1 n y = 0 → v1 = .ref wa) ∧ (own_eqv 5 own_t0 n y = 0 → own_eqv 7 own_t1 n y = 0 → v1 = .null))
theorem d_prog_27_method_5_code_31 : decode prog_27_method_5_code 31 = .ok (.aload 4, 2) := by decide +kernel
theorem d_prog_27_method_5_code_33 : decode prog_27_method_5_code 33 = .ok (.invokestatic 43, 3) := by decide +kernel
theorem d_prog_27_method_5_code_36 : decode prog_27_method_5_code 36 = .ok (.areturn, 1) := by decide +kernel
set_option maxRecDepth 65536 in
set_option maxHeartbeats 40000000 in
theorem rkLs (l : Launch) (Z : State) (a0 : Array Value) (hw : ∀ d ∈ tables_1, d.before a0 Z = true) (ws : List Jvm.Cond) (a1 : Addr) (b1 : Addr) (n : Nat) (y : Nat → Int32) (av1 : Addr) (er : Addr) (wa : Addr) (le : Addr) (lw : Addr) (be : Addr) (bw : Addr) (em : Addr) (cs : Int32) (h0 : Heap) (n0 : Nat) (Z0 : n0 ≤ h0.size) (E1 : Exa Z h0 a1 "java/lang/String") (F1 : Fld Z h0 a1 "java/lang/String" "coder" "B" (.int (0 : Int32))) (F2 : Fld Z h0 a1 "java/lang/String" "value" "[B" (.ref b1)) (V1 : Av Z h0 b1 .byte n (fun q => .int ((y q).toInt8.toInt32))) (S2 : Sta Z h0 "com/example/isidore/isidore/Severity" "$VALUES" "[Lcom/example/isidore/isidore/Severity;" (.ref av1)) (E3 : Exa Z h0 av1 "[Lcom/example/isidore/isidore/Severity;") (V3 : Av Z h0 av1 (.object "com/example/isidore/isidore/Severity") 2 (fun q => (fun q => if q = 0 then Value.ref er else Value.ref wa) q)) (Fl1 : Fld Z h0 er "com/example/isidore/isidore/Severity" "label" "Ljava/lang/String;" (.ref le)) (Xl1 : Exa Z h0 le "java/lang/String") (Fc1 : Fld Z h0 le "java/lang/String" "coder" "B" (.int (0 : Int32))) (Fv1 : Fld Z h0 le "java/lang/String" "value" "[B" (.ref be)) (Vl1 : Av Z h0 be .byte 5 (fun q => .int ((own_t0 q).toInt8.toInt32))) (Fl2 : Fld Z h0 wa "com/example/isidore/isidore/Severity" "label" "Ljava/lang/String;" (.ref lw)) (Xl2 : Exa Z h0 lw "java/lang/String") (Fc2 : Fld Z h0 lw "java/lang/String" "coder" "B" (.int (0 : Int32))) (Fv2 : Fld Z h0 lw "java/lang/String" "value" "[B" (.ref bw)) (Vl2 : Av Z h0 bw .byte 7 (fun q => .int ((own_t1 q).toInt8.toInt32))) (S5 : Sta Z h0 "java/util/Optional" "EMPTY" "Ljava/util/Optional;" (.ref em)) (E5 : Exa Z h0 em "java/util/Optional") (F5 : Fld Z h0 em "java/util/Optional" "value" "Ljava/lang/Object;" .null) (SC : Sta Z h0 "java/lang/String" "COMPACT_STRINGS" "Z" (.int cs)) (hcs : ¬ cs = (0 : Int32)) (hn : n ≤ 7) (hy : own_ch n y) :
    MetFree l (⟨"com/example/isidore/isidore/Severity", "labelled", "(Ljava/lang/String;)Ljava/util/Optional;"⟩ : MethodName) (head1 (Jvm.Cond.code (⟨"com/example/isidore/isidore/Severity", "labelled", "(Ljava/lang/String;)Ljava/util/Optional;"⟩ : MethodName) prog_27_method_5_code 5 (some (.object "java/util/Optional")) :: ws) ({ frames := 3, cells := 2, slots := 3, locals := 38 } : Room)) (fun aa_ UU_ => aa_ = #[(.ref a1)] ∧ Z.Warmed39 UU_.vm ∧ UU_.heap = h0) (fun _ _ _ _ _ => True) (fun _ UU_ oo_ VV_ => ∃ vv_ LL_, oo_ = .returned vv_ ∧ Q_rkLs Z a1 b1 n y av1 er wa le lw be bw em cs h0 n0 vv_ VV_.heap LL_ ∧ FrameEnd UU_ oo_ VV_ LL_ ({ frames := 3, cells := 2, slots := 3, locals := 38 } : Room).cells ({ frames := 3, cells := 2, slots := 3, locals := 38 } : Room).slots) := by
  refine own_met (y := (⟨"com/example/isidore/isidore/Severity", "labelled", "(Ljava/lang/String;)Ljava/util/Optional;"⟩ : MethodName)) (plainFor_of_name pn_7) ?_
  intro p e s m below meth c T0 K hx hby hml hret hlk hown hnm hZ X0 e0 hK
  have N0 := Fr.nil n0
  refine Rch.cast (ef_rkLs m a1) ?_
  obtain ⟨_, _, ⟨T556, L556, k556, n556⟩, -, X556, ⟨Lc556, hQ556, l556, y556, z556⟩, st556⟩ := Jvm.LawKit.callS X0 hx (y := (⟨"com/example/isidore/isidore/Severity", "values", "()[Lcom/example/isidore/isidore/Severity;"⟩ : MethodName)) hown (mvT hZ (hw _ (List.mem_of_getElem? (i := 42) rfl))) (mvT hZ (hw _ (List.mem_of_getElem? (i := 43) rfl))) (mvT hZ (hw _ (List.mem_of_getElem? (i := 40) rfl))) (mvT hZ (hw _ (List.mem_of_getElem? (i := 44) rfl))) (by decide) (backOf (W := 0) (rkVA l Z a0 hw [] av1 er wa h0 n0 Z0 S2 E3 V3) hZ (hw _ (List.mem_of_getElem? (i := 44) rfl)) (hw _ (List.mem_of_getElem? (i := 40) rfl)) (by decide) (by decide)) (g := (mkF m 0 #[.val (.ref a1), .unset, .unset, .unset, .unset] [])) rfl (by rw [hml]; rfl) (argsL := []) (rest := []) (lenOf pd_9 rfl) rfl (by show 2 * 0 + _ ≤ _; exact Nat.le_of_eq rfl) (hb hby d_prog_27_method_5_code_0) (fun _ _ => ⟨rfl, e0, (by decide : 0 + 1 ≤ _), (by decide : 0 + 2 ≤ _)⟩)
  dsimp only [Pt.U, Pt.locs, Pt.cells, Pt.slots] at X556 l556 y556 z556 st556 hQ556
  subst l556 y556 z556
  obtain ⟨rfl, N556q, hQ556⟩ := hQ556
  have N556 := Fr.app N0 N556q
  obtain ⟨K556, V556⟩ := hQ556
  obtain ⟨b556, g556⟩ : ∃ zz_, zz_ = h0.size := ⟨_, rfl⟩
  have ne_a1_b556 : a1 ≠ b556 := Nat.ne_of_lt (Nat.lt_of_lt_of_le E1.lt (Nat.le_of_eq g556.symm))
  have ne_b1_b556 : b1 ≠ b556 := Nat.ne_of_lt (Nat.lt_of_lt_of_le V1.lt (Nat.le_of_eq g556.symm))
  have ne_av1_b556 : av1 ≠ b556 := Nat.ne_of_lt (Nat.lt_of_lt_of_le E3.lt (Nat.le_of_eq g556.symm))
  have ne_er_b556 : er ≠ b556 := Nat.ne_of_lt (Nat.lt_of_lt_of_le Fl1.lt (Nat.le_of_eq g556.symm))
  have ne_le_b556 : le ≠ b556 := Nat.ne_of_lt (Nat.lt_of_lt_of_le Xl1.lt (Nat.le_of_eq g556.symm))
  have ne_be_b556 : be ≠ b556 := Nat.ne_of_lt (Nat.lt_of_lt_of_le Vl1.lt (Nat.le_of_eq g556.symm))
  have ne_wa_b556 : wa ≠ b556 := Nat.ne_of_lt (Nat.lt_of_lt_of_le Fl2.lt (Nat.le_of_eq g556.symm))
  have ne_lw_b556 : lw ≠ b556 := Nat.ne_of_lt (Nat.lt_of_lt_of_le Xl2.lt (Nat.le_of_eq g556.symm))
  have ne_bw_b556 : bw ≠ b556 := Nat.ne_of_lt (Nat.lt_of_lt_of_le Vl2.lt (Nat.le_of_eq g556.symm))
  have ne_em_b556 : em ≠ b556 := Nat.ne_of_lt (Nat.lt_of_lt_of_le E5.lt (Nat.le_of_eq g556.symm))
  have ge_b556 : n0 ≤ b556 := Nat.le_trans Z0 (Nat.le_of_eq g556.symm)
  have sz_b556 : h0.size ≤ b556 := Nat.le_trans (Keep.refl h0 []).1 (Nat.le_of_eq g556.symm)
  rw [← g556] at V556 st556
  refine Rch.of (T' := T556) (g' := (mkF m 3 #[.val (.ref a1), .unset, .unset, .unset, .unset] [(.ref b556)])) st556 ?_
  refine Rch.of (T' := T556) (g' := (mkF m 4 #[.val (.ref a1), .val (.ref b556), .unset, .unset, .unset] [])) (fun _ kt => XS.astoreN X556.here hx rfl (hb hby d_prog_27_method_5_code_3) rfl rfl (l' := #[.val (.ref a1), .val (.ref b556), .unset, .unset, .unset]) rfl kt) ?_
  refine Rch.of (T' := T556) (g' := (mkF m 5 #[.val (.ref a1), .val (.ref b556), .unset, .unset, .unset] [(.ref b556)])) (fun _ kt => XS.aloadN X556.here hx rfl (hb hby d_prog_27_method_5_code_4) rfl rfl kt) ?_
  obtain ⟨cl557, Ar557, Sz557, Ha557⟩ := id V556
  refine Rch.of (T' := T556) (g' := (mkF m 6 #[.val (.ref a1), .val (.ref b556), .unset, .unset, .unset] [(.int cl557.slots.size.toInt32)])) (X556.arraylength hx Ar557.1 (State.isArrayOf_alike hZ.alike Ar557.2.1) (g := (mkF m 5 #[.val (.ref a1), .val (.ref b556), .unset, .unset, .unset] [(.ref b556)])) rfl rfl (hb hby d_prog_27_method_5_code_5)) ?_
  rw [oLen Sz557]
  show Rch p e below K T556 (mkF m 6 #[.val (.ref a1), .val (.ref b556), .unset, .unset, .unset] [(.int (Int32.ofNat 2))])
  have sw558 : (Int32.ofNat 2) = (2 : Int32) := rfl
  rw [sw558]
  show Rch p e below K T556 (mkF m 6 #[.val (.ref a1), .val (.ref b556), .unset, .unset, .unset] [(.int (2 : Int32))])
  refine Rch.of (T' := T556) (g' := (mkF m 7 #[.val (.ref a1), .val (.ref b556), .val (.int (2 : Int32)), .unset, .unset] [])) (fun _ kt => XS.istoreN X556.here hx rfl (hb hby d_prog_27_method_5_code_6) rfl (l' := #[.val (.ref a1), .val (.ref b556), .val (.int (2 : Int32)), .unset, .unset]) rfl kt) ?_
  refine Rch.of (T' := T556) (g' := (mkF m 8 #[.val (.ref a1), .val (.ref b556), .val (.int (2 : Int32)), .unset, .unset] [(.int (0 : Int32))])) (fun _ kt => XS.iconst X556.here hx rfl (hb hby d_prog_27_method_5_code_7) kt) ?_
  refine Rch.of (T' := T556) (g' := (mkF m 9 #[.val (.ref a1), .val (.ref b556), .val (.int (2 : Int32)), .val (.int (0 : Int32)), .unset] [])) (fun _ kt => XS.istoreN X556.here hx rfl (hb hby d_prog_27_method_5_code_8) rfl (l' := #[.val (.ref a1), .val (.ref b556), .val (.int (2 : Int32)), .val (.int (0 : Int32)), .unset]) rfl kt) ?_
  refine Rch.of (T' := T556) (g' := (mkF m 10 #[.val (.ref a1), .val (.ref b556), .val (.int (2 : Int32)), .val (.int (0 : Int32)), .unset] [(.int (0 : Int32))])) (fun _ kt => XS.iloadN X556.here hx rfl (hb hby d_prog_27_method_5_code_9) rfl  kt) ?_
  refine Rch.of (T' := T556) (g' := (mkF m 11 #[.val (.ref a1), .val (.ref b556), .val (.int (2 : Int32)), .val (.int (0 : Int32)), .unset] [(.int (2 : Int32)), (.int (0 : Int32))])) (fun _ kt => XS.iloadN X556.here hx rfl (hb hby d_prog_27_method_5_code_10) rfl  kt) ?_
  refine Rch.of (T' := T556) (g' := (mkF m 14 #[.val (.ref a1), .val (.ref b556), .val (.int (2 : Int32)), .val (.int (0 : Int32)), .unset] [])) (fun _ kt => XS.icmpNo X556.here hx rfl (hb hby d_prog_27_method_5_code_11) rfl (tlt ((by decide) : (0 : Int32) < (2 : Int32))).2.1 kt) ?_
  refine Rch.of (T' := T556) (g' := (mkF m 15 #[.val (.ref a1), .val (.ref b556), .val (.int (2 : Int32)), .val (.int (0 : Int32)), .unset] [(.ref b556)])) (fun _ kt => XS.aloadN X556.here hx rfl (hb hby d_prog_27_method_5_code_14) rfl rfl kt) ?_
  refine Rch.of (T' := T556) (g' := (mkF m 16 #[.val (.ref a1), .val (.ref b556), .val (.int (2 : Int32)), .val (.int (0 : Int32)), .unset] [(.int (0 : Int32)), (.ref b556)])) (fun _ kt => XS.iloadN X556.here hx rfl (hb hby d_prog_27_method_5_code_15) rfl  kt) ?_
  obtain ⟨cl559, Ar559, Sz559, Ha559⟩ := id V556
  have hval559 : ((fun q => if q = 0 then Value.ref er else Value.ref wa)) 0 = (.ref er) := rfl
  refine Rch.of (T' := T556) (g' := (mkF m 17 #[.val (.ref a1), .val (.ref b556), .val (.int (2 : Int32)), .val (.int (0 : Int32)), .unset] [(.ref er)])) (X556.aaload hx (j := (0 : Int32)) (v := (.ref er)) Ar559.1 (State.isArrayOf_alike hZ.alike Ar559.2.1) rfl Ar559.2.2 (oIn (i := 0) Sz559 (by decide) (by decide)) (by rw [← hval559]; exact oAt (i := 0) Ha559 (by decide) (by decide)) (g := (mkF m 16 #[.val (.ref a1), .val (.ref b556), .val (.int (2 : Int32)), .val (.int (0 : Int32)), .unset] [(.int (0 : Int32)), (.ref b556)])) rfl rfl (hb hby d_prog_27_method_5_code_16)) ?_
  refine Rch.of (T' := T556) (g' := (mkF m 19 #[.val (.ref a1), .val (.ref b556), .val (.int (2 : Int32)), .val (.int (0 : Int32)), .val (.ref er)] [])) (fun _ kt => XS.astore X556.here hx rfl (hb hby d_prog_27_method_5_code_17) rfl rfl (l' := #[.val (.ref a1), .val (.ref b556), .val (.int (2 : Int32)), .val (.int (0 : Int32)), .val (.ref er)]) rfl kt) ?_
  refine Rch.of (T' := T556) (g' := (mkF m 21 #[.val (.ref a1), .val (.ref b556), .val (.int (2 : Int32)), .val (.int (0 : Int32)), .val (.ref er)] [(.ref er)])) (fun _ kt => XS.aload X556.here hx rfl (hb hby d_prog_27_method_5_code_19) rfl rfl kt) ?_
  obtain ⟨T560, X560, e560, st560⟩ := getF X556 hx hZ hown (host := "") (Or.inl (hw _ (List.mem_of_getElem? (i := 59) rfl))) Via.refl rfl (Fl1.keep K556 nin0) (g := (mkF m 21 #[.val (.ref a1), .val (.ref b556), .val (.int (2 : Int32)), .val (.int (0 : Int32)), .val (.ref er)] [(.ref er)])) rfl rfl (hb hby d_prog_27_method_5_code_21)
  refine Rch.of (T' := T560) (g' := (mkF m 24 #[.val (.ref a1), .val (.ref b556), .val (.int (2 : Int32)), .val (.int (0 : Int32)), .val (.ref er)] [(.ref le)])) st560 ?_
  refine Rch.of (T' := T560) (g' := (mkF m 25 #[.val (.ref a1), .val (.ref b556), .val (.int (2 : Int32)), .val (.int (0 : Int32)), .val (.ref er)] [(.ref a1), (.ref le)])) (fun _ kt => XS.aloadN X560.here hx rfl (hb hby d_prog_27_method_5_code_24) rfl rfl kt) ?_
  have pr562 : 5 ≤ 7 := by omega
  have pr563 : n ≤ 7 := by omega
  obtain ⟨cq561, kq561, q561a, q561b, q561c⟩ := isOf hZ e560 (Xl1.keep K556)
  obtain ⟨_, _, ⟨T561, L561, k561, n561⟩, -, X561, ⟨Lc561, hQ561, l561, y561, z561⟩, st561⟩ := X560.virtualBack hx (y := (⟨"java/lang/String", "equals", "(Ljava/lang/Object;)Z"⟩ : MethodName)) (z := (⟨"java/lang/String", "equals", "(Ljava/lang/Object;)Z"⟩ : MethodName)) hown (mvT hZ (hw _ (List.mem_of_getElem? (i := 61) rfl))) (mvT hZ (hw _ (List.mem_of_getElem? (i := 62) rfl))) (notFace_of_selects (args := #[]) (mvT hZ (hw _ (List.mem_of_getElem? (i := 64) rfl)))) (mvT hZ (hw _ (List.mem_of_getElem? (i := 64) rfl))) (mvT hZ (hw _ (List.mem_of_getElem? (i := 63) rfl))) (by decide) (backOf (W := 0) (rqEQ l Z a0 hw [] le be 5 own_t0 a1 b1 n y cs T556.heap n0 (Nat.le_trans Z0 K556.1) (Xl1.keep K556) (Fc1.keep K556 nin0) (Fv1.keep K556 nin0) (Vl1.keep K556 nin0) (E1.keep K556) (F1.keep K556 nin0) (F2.keep K556 nin0) (V1.keep K556 nin0) pr562 pr563 own_chE hy (own_sta SC K556 ns0) hcs) hZ (hw _ (List.mem_of_getElem? (i := 65) rfl)) (hw _ (List.mem_of_getElem? (i := 11) rfl)) (by decide) (by decide)) q561a q561c (g := (mkF m 25 #[.val (.ref a1), .val (.ref b556), .val (.int (2 : Int32)), .val (.int (0 : Int32)), .val (.ref er)] [(.ref a1), (.ref le)])) rfl (by rw [hml]; rfl) (Steps.refl _) (argsL := [(.ref a1)]) (rest := []) (lenOf pd_11 rfl) rfl (by show 2 * 0 + _ ≤ _; exact Nat.le_of_eq rfl) (hb hby d_prog_27_method_5_code_25) (fun _ _ => ⟨rfl, e560, (by decide : 1 + 0 ≤ _), (by decide : 2 + 0 ≤ _)⟩)
  dsimp only [Pt.U, Pt.locs, Pt.cells, Pt.slots] at X561 l561 y561 z561 st561 hQ561
  subst l561 y561 z561
  obtain ⟨rfl, N561q, hQ561⟩ := hQ561
  have N561 := Fr.app N556 N561q
  refine Rch.via (T' := T561) (g' := (mkF m 28 #[.val (.ref a1), .val (.ref b556), .val (.int (2 : Int32)), .val (.int (0 : Int32)), .val (.ref er)] [(.int (own_eqv 5 own_t0 n y))])) st561 ?_
  by_cases c564 : (own_eqv 5 own_t0 n y) = (0 : Int32)
  · skip
    refine Rch.of (T' := T561) (g' := (mkF m 37 #[.val (.ref a1), .val (.ref b556), .val (.int (2 : Int32)), .val (.int (0 : Int32)), .val (.ref er)] [])) (fun _ kt => XS.ifYes X561.here hx rfl (pc0 := 28) (pc' := 37) rfl (hb hby d_prog_27_method_5_code_28) rfl ((if0 _ _).trans (teq c564).1) (by decide) (by decide) kt) ?_
    refine Rch.of (T' := T561) (g' := (mkF m 40 #[.val (.ref a1), .val (.ref b556), .val (.int (2 : Int32)), .val (.int ((0 : Int32) + (1 : Int32))), .val (.ref er)] [])) (fun _ kt => XS.iinc X561.here hx rfl (hb hby d_prog_27_method_5_code_37) rfl (l' := #[.val (.ref a1), .val (.ref b556), .val (.int (2 : Int32)), .val (.int ((0 : Int32) + (1 : Int32))), .val (.ref er)]) rfl kt) ?_
    have sw565 : ((0 : Int32) + (1 : Int32)) = (1 : Int32) := by decide
    rw [sw565]
    show Rch p e below K T561 (mkF m 40 #[.val (.ref a1), .val (.ref b556), .val (.int (2 : Int32)), .val (.int (1 : Int32)), .val (.ref er)] [])
    refine Rch.of (T' := T561) (g' := (mkF m 9 #[.val (.ref a1), .val (.ref b556), .val (.int (2 : Int32)), .val (.int (1 : Int32)), .val (.ref er)] [])) (fun _ kt => XS.goto X561.here hx rfl (pc0 := 40) (pc' := 9) rfl (hb hby d_prog_27_method_5_code_40) (by decide) (by decide) kt) ?_
    refine Rch.of (T' := T561) (g' := (mkF m 10 #[.val (.ref a1), .val (.ref b556), .val (.int (2 : Int32)), .val (.int (1 : Int32)), .val (.ref er)] [(.int (1 : Int32))])) (fun _ kt => XS.iloadN X561.here hx rfl (hb hby d_prog_27_method_5_code_9) rfl  kt) ?_
    refine Rch.of (T' := T561) (g' := (mkF m 11 #[.val (.ref a1), .val (.ref b556), .val (.int (2 : Int32)), .val (.int (1 : Int32)), .val (.ref er)] [(.int (2 : Int32)), (.int (1 : Int32))])) (fun _ kt => XS.iloadN X561.here hx rfl (hb hby d_prog_27_method_5_code_10) rfl  kt) ?_
    refine Rch.of (T' := T561) (g' := (mkF m 14 #[.val (.ref a1), .val (.ref b556), .val (.int (2 : Int32)), .val (.int (1 : Int32)), .val (.ref er)] [])) (fun _ kt => XS.icmpNo X561.here hx rfl (hb hby d_prog_27_method_5_code_11) rfl (tlt ((by decide) : (1 : Int32) < (2 : Int32))).2.1 kt) ?_
    refine Rch.of (T' := T561) (g' := (mkF m 15 #[.val (.ref a1), .val (.ref b556), .val (.int (2 : Int32)), .val (.int (1 : Int32)), .val (.ref er)] [(.ref b556)])) (fun _ kt => XS.aloadN X561.here hx rfl (hb hby d_prog_27_method_5_code_14) rfl rfl kt) ?_
    refine Rch.of (T' := T561) (g' := (mkF m 16 #[.val (.ref a1), .val (.ref b556), .val (.int (2 : Int32)), .val (.int (1 : Int32)), .val (.ref er)] [(.int (1 : Int32)), (.ref b556)])) (fun _ kt => XS.iloadN X561.here hx rfl (hb hby d_prog_27_method_5_code_15) rfl  kt) ?_
    obtain ⟨cl566, Ar566, Sz566, Ha566⟩ := id V556
    have hval566 : ((fun q => if q = 0 then Value.ref er else Value.ref wa)) 1 = (.ref wa) := rfl
    refine Rch.of (T' := T561) (g' := (mkF m 17 #[.val (.ref a1), .val (.ref b556), .val (.int (2 : Int32)), .val (.int (1 : Int32)), .val (.ref er)] [(.ref wa)])) (X561.aaload hx (j := (1 : Int32)) (v := (.ref wa)) (by rw [hQ561]; exact Ar566.1) (State.isArrayOf_alike hZ.alike Ar566.2.1) rfl Ar566.2.2 (oIn (i := 1) Sz566 (by decide) (by decide)) (by rw [← hval566]; exact oAt (i := 1) Ha566 (by decide) (by decide)) (g := (mkF m 16 #[.val (.ref a1), .val (.ref b556), .val (.int (2 : Int32)), .val (.int (1 : Int32)), .val (.ref er)] [(.int (1 : Int32)), (.ref b556)])) rfl rfl (hb hby d_prog_27_method_5_code_16)) ?_
    refine Rch.of (T' := T561) (g' := (mkF m 19 #[.val (.ref a1), .val (.ref b556), .val (.int (2 : Int32)), .val (.int (1 : Int32)), .val (.ref wa)] [])) (fun _ kt => XS.astore X561.here hx rfl (hb hby d_prog_27_method_5_code_17) rfl rfl (l' := #[.val (.ref a1), .val (.ref b556), .val (.int (2 : Int32)), .val (.int (1 : Int32)), .val (.ref wa)]) rfl kt) ?_
    refine Rch.of (T' := T561) (g' := (mkF m 21 #[.val (.ref a1), .val (.ref b556), .val (.int (2 : Int32)), .val (.int (1 : Int32)), .val (.ref wa)] [(.ref wa)])) (fun _ kt => XS.aload X561.here hx rfl (hb hby d_prog_27_method_5_code_19) rfl rfl kt) ?_
    obtain ⟨T567, X567, e567, st567⟩ := getF X561 hx hZ hown (host := "") (Or.inl (hw _ (List.mem_of_getElem? (i := 59) rfl))) Via.refl hQ561 (Fl2.keep K556 nin0) (g := (mkF m 21 #[.val (.ref a1), .val (.ref b556), .val (.int (2 : Int32)), .val (.int (1 : Int32)), .val (.ref wa)] [(.ref wa)])) rfl rfl (hb hby d_prog_27_method_5_code_21)
    refine Rch.of (T' := T567) (g' := (mkF m 24 #[.val (.ref a1), .val (.ref b556), .val (.int (2 : Int32)), .val (.int (1 : Int32)), .val (.ref wa)] [(.ref lw)])) st567 ?_
    refine Rch.of (T' := T567) (g' := (mkF m 25 #[.val (.ref a1), .val (.ref b556), .val (.int (2 : Int32)), .val (.int (1 : Int32)), .val (.ref wa)] [(.ref a1), (.ref lw)])) (fun _ kt => XS.aloadN X567.here hx rfl (hb hby d_prog_27_method_5_code_24) rfl rfl kt) ?_
    have pr569 : 7 ≤ 7 := by omega
    have pr570 : n ≤ 7 := by omega
    obtain ⟨cq568, kq568, q568a, q568b, q568c⟩ := isOf hZ e567 (Xl2.keep K556)
    obtain ⟨_, _, ⟨T568, L568, k568, n568⟩, -, X568, ⟨Lc568, hQ568, l568, y568, z568⟩, st568⟩ := X567.virtualBack hx (y := (⟨"java/lang/String", "equals", "(Ljava/lang/Object;)Z"⟩ : MethodName)) (z := (⟨"java/lang/String", "equals", "(Ljava/lang/Object;)Z"⟩ : MethodName)) hown (mvT hZ (hw _ (List.mem_of_getElem? (i := 61) rfl))) (mvT hZ (hw _ (List.mem_of_getElem? (i := 62) rfl))) (notFace_of_selects (args := #[]) (mvT hZ (hw _ (List.mem_of_getElem? (i := 64) rfl)))) (mvT hZ (hw _ (List.mem_of_getElem? (i := 64) rfl))) (mvT hZ (hw _ (List.mem_of_getElem? (i := 63) rfl))) (by decide) (backOf (W := 0) (rqEQ l Z a0 hw [] lw bw 7 own_t1 a1 b1 n y cs T556.heap n0 (Nat.le_trans Z0 K556.1) (Xl2.keep K556) (Fc2.keep K556 nin0) (Fv2.keep K556 nin0) (Vl2.keep K556 nin0) (E1.keep K556) (F1.keep K556 nin0) (F2.keep K556 nin0) (V1.keep K556 nin0) pr569 pr570 own_chW hy (own_sta SC K556 ns0) hcs) hZ (hw _ (List.mem_of_getElem? (i := 65) rfl)) (hw _ (List.mem_of_getElem? (i := 11) rfl)) (by decide) (by decide)) q568a q568c (g := (mkF m 25 #[.val (.ref a1), .val (.ref b556), .val (.int (2 : Int32)), .val (.int (1 : Int32)), .val (.ref wa)] [(.ref a1), (.ref lw)])) rfl (by rw [hml]; rfl) (Steps.refl _) (argsL := [(.ref a1)]) (rest := []) (lenOf pd_11 rfl) rfl (by show 2 * 0 + _ ≤ _; exact Nat.le_of_eq rfl) (hb hby d_prog_27_method_5_code_25) (fun _ _ => ⟨rfl, e567, (by decide : 1 + 0 ≤ _), (by decide : 2 + 0 ≤ _)⟩)
    dsimp only [Pt.U, Pt.locs, Pt.cells, Pt.slots] at X568 l568 y568 z568 st568 hQ568
    subst l568 y568 z568
    obtain ⟨rfl, N568q, hQ568⟩ := hQ568
    have N568 := Fr.app N561 N568q
    refine Rch.via (T' := T568) (g' := (mkF m 28 #[.val (.ref a1), .val (.ref b556), .val (.int (2 : Int32)), .val (.int (1 : Int32)), .val (.ref wa)] [(.int (own_eqv 7 own_t1 n y))])) st568 ?_
    by_cases c571 : (own_eqv 7 own_t1 n y) = (0 : Int32)
    · skip
      refine Rch.of (T' := T568) (g' := (mkF m 37 #[.val (.ref a1), .val (.ref b556), .val (.int (2 : Int32)), .val (.int (1 : Int32)), .val (.ref wa)] [])) (fun _ kt => XS.ifYes X568.here hx rfl (pc0 := 28) (pc' := 37) rfl (hb hby d_prog_27_method_5_code_28) rfl ((if0 _ _).trans (teq c571).1) (by decide) (by decide) kt) ?_
      refine Rch.of (T' := T568) (g' := (mkF m 40 #[.val (.ref a1), .val (.ref b556), .val (.int (2 : Int32)), .val (.int ((1 : Int32) + (1 : Int32))), .val (.ref wa)] [])) (fun _ kt => XS.iinc X568.here hx rfl (hb hby d_prog_27_method_5_code_37) rfl (l' := #[.val (.ref a1), .val (.ref b556), .val (.int (2 : Int32)), .val (.int ((1 : Int32) + (1 : Int32))), .val (.ref wa)]) rfl kt) ?_
      have sw572 : ((1 : Int32) + (1 : Int32)) = (2 : Int32) := by decide
      rw [sw572]
      show Rch p e below K T568 (mkF m 40 #[.val (.ref a1), .val (.ref b556), .val (.int (2 : Int32)), .val (.int (2 : Int32)), .val (.ref wa)] [])
      refine Rch.of (T' := T568) (g' := (mkF m 9 #[.val (.ref a1), .val (.ref b556), .val (.int (2 : Int32)), .val (.int (2 : Int32)), .val (.ref wa)] [])) (fun _ kt => XS.goto X568.here hx rfl (pc0 := 40) (pc' := 9) rfl (hb hby d_prog_27_method_5_code_40) (by decide) (by decide) kt) ?_
      refine Rch.of (T' := T568) (g' := (mkF m 10 #[.val (.ref a1), .val (.ref b556), .val (.int (2 : Int32)), .val (.int (2 : Int32)), .val (.ref wa)] [(.int (2 : Int32))])) (fun _ kt => XS.iloadN X568.here hx rfl (hb hby d_prog_27_method_5_code_9) rfl  kt) ?_
      refine Rch.of (T' := T568) (g' := (mkF m 11 #[.val (.ref a1), .val (.ref b556), .val (.int (2 : Int32)), .val (.int (2 : Int32)), .val (.ref wa)] [(.int (2 : Int32)), (.int (2 : Int32))])) (fun _ kt => XS.iloadN X568.here hx rfl (hb hby d_prog_27_method_5_code_10) rfl  kt) ?_
      refine Rch.of (T' := T568) (g' := (mkF m 43 #[.val (.ref a1), .val (.ref b556), .val (.int (2 : Int32)), .val (.int (2 : Int32)), .val (.ref wa)] [])) (fun _ kt => XS.icmpYes X568.here hx rfl (pc0 := 11) (pc' := 43) rfl (hb hby d_prog_27_method_5_code_11) rfl (flt ((by decide) : ¬ ((2 : Int32) < (2 : Int32)))).2.1 (by decide) (by decide) kt) ?_
      obtain ⟨_, _, ⟨T573, L573, k573, n573⟩, -, X573, ⟨Lc573, hQ573, l573, y573, z573⟩, st573⟩ := Jvm.LawKit.callS X568 hx (y := (⟨"java/util/Optional", "empty", "()Ljava/util/Optional;"⟩ : MethodName)) hown (mvT hZ (hw _ (List.mem_of_getElem? (i := 71) rfl))) (mvT hZ (hw _ (List.mem_of_getElem? (i := 72) rfl))) (mvT hZ (hw _ (List.mem_of_getElem? (i := 73) rfl))) (mvT hZ (hw _ (List.mem_of_getElem? (i := 74) rfl))) (by decide) (backOf (W := 0) (rkOE l Z a0 hw [] em T556.heap n0 (Nat.le_trans Z0 K556.1) (own_sta S5 K556 ns0)) hZ (hw _ (List.mem_of_getElem? (i := 74) rfl)) (hw _ (List.mem_of_getElem? (i := 73) rfl)) (by decide) (by decide)) (g := (mkF m 43 #[.val (.ref a1), .val (.ref b556), .val (.int (2 : Int32)), .val (.int (2 : Int32)), .val (.ref wa)] [])) rfl (by rw [hml]; rfl) (argsL := []) (rest := []) (lenOf pd_13 rfl) rfl (by show 2 * 0 + _ ≤ _; exact Nat.le_of_eq rfl) (hb hby d_prog_27_method_5_code_43) (fun _ _ => ⟨rfl, hQ568, (by decide : 1 + 0 ≤ _), (by decide : 2 + 0 ≤ _)⟩)
      dsimp only [Pt.U, Pt.locs, Pt.cells, Pt.slots] at X573 l573 y573 z573 st573 hQ573
      subst l573 y573 z573
      obtain ⟨rfl, N573q, hQ573⟩ := hQ573
      have N573 := Fr.app N568 N573q
      refine Rch.of (T' := T573) (g' := (mkF m 46 #[.val (.ref a1), .val (.ref b556), .val (.int (2 : Int32)), .val (.int (2 : Int32)), .val (.ref wa)] [(.ref em)])) st573 ?_
      exact Rch.retA X573 hx (w := (.ref em)) hret rfl rfl hlk (hb hby d_prog_27_method_5_code_46) (fun U hU hF => hK _ U _ _ _ (by show Q_rkLs Z a1 b1 n y av1 er wa le lw be bw em cs h0 n0 _ U.heap _; rw [hU, hQ573]; exact ⟨em, .null, rfl, N573, ((Keep.refl h0 []).trans K556 all0), (E5.keep K556), (F5.keep K556 nin0), fun q => absurd c564 q, fun _ q => absurd c571 q, fun _ _ => rfl⟩) hF (by decide) (by decide))
    · skip
      refine Rch.of (T' := T568) (g' := (mkF m 31 #[.val (.ref a1), .val (.ref b556), .val (.int (2 : Int32)), .val (.int (1 : Int32)), .val (.ref wa)] [])) (fun _ kt => XS.ifNo X568.here hx rfl (hb hby d_prog_27_method_5_code_28) rfl ((if0 _ _).trans (feq c571).1) kt) ?_
      refine Rch.of (T' := T568) (g' := (mkF m 33 #[.val (.ref a1), .val (.ref b556), .val (.int (2 : Int32)), .val (.int (1 : Int32)), .val (.ref wa)] [(.ref wa)])) (fun _ kt => XS.aload X568.here hx rfl (hb hby d_prog_27_method_5_code_31) rfl rfl kt) ?_
      obtain ⟨_, _, ⟨T574, L574, k574, n574⟩, -, X574, ⟨Lc574, hQ574, l574, y574, z574⟩, st574⟩ := Jvm.LawKit.callS X568 hx (y := (⟨"java/util/Optional", "of", "(Ljava/lang/Object;)Ljava/util/Optional;"⟩ : MethodName)) hown (mvT hZ (hw _ (List.mem_of_getElem? (i := 123) rfl))) (mvT hZ (hw _ (List.mem_of_getElem? (i := 124) rfl))) (mvT hZ (hw _ (List.mem_of_getElem? (i := 73) rfl))) (mvT hZ (hw _ (List.mem_of_getElem? (i := 125) rfl))) (by decide) (backOf (W := 0) (rkOF l Z a0 hw [] wa T556.heap n0 (Nat.le_trans Z0 K556.1) ) hZ (hw _ (List.mem_of_getElem? (i := 125) rfl)) (hw _ (List.mem_of_getElem? (i := 73) rfl)) (by decide) (by decide)) (g := (mkF m 33 #[.val (.ref a1), .val (.ref b556), .val (.int (2 : Int32)), .val (.int (1 : Int32)), .val (.ref wa)] [(.ref wa)])) rfl (by rw [hml]; rfl) (argsL := [(.ref wa)]) (rest := []) (lenOf pd_22 rfl) rfl (by show 2 * 0 + _ ≤ _; exact Nat.le_of_eq rfl) (hb hby d_prog_27_method_5_code_33) (fun _ _ => ⟨rfl, hQ568, (by decide : 1 + 1 ≤ _), (by decide : 2 + 1 ≤ _)⟩)
      dsimp only [Pt.U, Pt.locs, Pt.cells, Pt.slots] at X574 l574 y574 z574 st574 hQ574
      subst l574 y574 z574
      obtain ⟨rfl, N574q, hQ574⟩ := hQ574
      have N574 := Fr.app N568 N574q
      obtain ⟨K574, Ex574, Fa574⟩ := hQ574
      obtain ⟨b574, g574⟩ : ∃ zz_, zz_ = T556.heap.size := ⟨_, rfl⟩
      have ne_a1_b574 : a1 ≠ b574 := Nat.ne_of_lt (Nat.lt_of_lt_of_le (E1.keep K556).lt (Nat.le_of_eq g574.symm))
      have ne_b1_b574 : b1 ≠ b574 := Nat.ne_of_lt (Nat.lt_of_lt_of_le (V1.keep K556 nin0).lt (Nat.le_of_eq g574.symm))
      have ne_av1_b574 : av1 ≠ b574 := Nat.ne_of_lt (Nat.lt_of_lt_of_le (E3.keep K556).lt (Nat.le_of_eq g574.symm))
      have ne_er_b574 : er ≠ b574 := Nat.ne_of_lt (Nat.lt_of_lt_of_le (Fl1.keep K556 nin0).lt (Nat.le_of_eq g574.symm))
      have ne_le_b574 : le ≠ b574 := Nat.ne_of_lt (Nat.lt_of_lt_of_le (Xl1.keep K556).lt (Nat.le_of_eq g574.symm))
      have ne_be_b574 : be ≠ b574 := Nat.ne_of_lt (Nat.lt_of_lt_of_le (Vl1.keep K556 nin0).lt (Nat.le_of_eq g574.symm))
      have ne_wa_b574 : wa ≠ b574 := Nat.ne_of_lt (Nat.lt_of_lt_of_le (Fl2.keep K556 nin0).lt (Nat.le_of_eq g574.symm))
      have ne_lw_b574 : lw ≠ b574 := Nat.ne_of_lt (Nat.lt_of_lt_of_le (Xl2.keep K556).lt (Nat.le_of_eq g574.symm))
      have ne_bw_b574 : bw ≠ b574 := Nat.ne_of_lt (Nat.lt_of_lt_of_le (Vl2.keep K556 nin0).lt (Nat.le_of_eq g574.symm))
      have ne_em_b574 : em ≠ b574 := Nat.ne_of_lt (Nat.lt_of_lt_of_le (E5.keep K556).lt (Nat.le_of_eq g574.symm))
      have ne_b556_b574 : b556 ≠ b574 := Nat.ne_of_lt (Nat.lt_of_lt_of_le V556.lt (Nat.le_of_eq g574.symm))
      have ge_b574 : n0 ≤ b574 := Nat.le_trans (Nat.le_trans Z0 K556.1) (Nat.le_of_eq g574.symm)
      have sz_b574 : h0.size ≤ b574 := Nat.le_trans ((Keep.refl h0 []).trans K556 all0).1 (Nat.le_of_eq g574.symm)
      rw [← g574] at Ex574 Fa574 st574
      refine Rch.of (T' := T574) (g' := (mkF m 36 #[.val (.ref a1), .val (.ref b556), .val (.int (2 : Int32)), .val (.int (1 : Int32)), .val (.ref wa)] [(.ref b574)])) st574 ?_
      exact Rch.retA X574 hx (w := (.ref b574)) hret rfl rfl hlk (hb hby d_prog_27_method_5_code_36) (fun U hU hF => hK _ U _ _ _ (by show Q_rkLs Z a1 b1 n y av1 er wa le lw be bw em cs h0 n0 _ U.heap _; rw [hU]; exact ⟨b574, (.ref wa), rfl, N574, (((Keep.refl h0 []).trans K556 all0).trans K574 all0), Ex574, Fa574, fun q => absurd c564 q, fun _ _ => rfl, fun _ q => absurd q c571⟩) hF (by decide) (by decide))
  · skip
    refine Rch.of (T' := T561) (g' := (mkF m 31 #[.val (.ref a1), .val (.ref b556), .val (.int (2 : Int32)), .val (.int (0 : Int32)), .val (.ref er)] [])) (fun _ kt => XS.ifNo X561.here hx rfl (hb hby d_prog_27_method_5_code_28) rfl ((if0 _ _).trans (feq c564).1) kt) ?_
    refine Rch.of (T' := T561) (g' := (mkF m 33 #[.val (.ref a1), .val (.ref b556), .val (.int (2 : Int32)), .val (.int (0 : Int32)), .val (.ref er)] [(.ref er)])) (fun _ kt => XS.aload X561.here hx rfl (hb hby d_prog_27_method_5_code_31) rfl rfl kt) ?_
    obtain ⟨_, _, ⟨T575, L575, k575, n575⟩, -, X575, ⟨Lc575, hQ575, l575, y575, z575⟩, st575⟩ := Jvm.LawKit.callS X561 hx (y := (⟨"java/util/Optional", "of", "(Ljava/lang/Object;)Ljava/util/Optional;"⟩ : MethodName)) hown (mvT hZ (hw _ (List.mem_of_getElem? (i := 123) rfl))) (mvT hZ (hw _ (List.mem_of_getElem? (i := 124) rfl))) (mvT hZ (hw _ (List.mem_of_getElem? (i := 73) rfl))) (mvT hZ (hw _ (List.mem_of_getElem? (i := 125) rfl))) (by decide) (backOf (W := 0) (rkOF l Z a0 hw [] er T556.heap n0 (Nat.le_trans Z0 K556.1) ) hZ (hw _ (List.mem_of_getElem? (i := 125) rfl)) (hw _ (List.mem_of_getElem? (i := 73) rfl)) (by decide) (by decide)) (g := (mkF m 33 #[.val (.ref a1), .val (.ref b556), .val (.int (2 : Int32)), .val (.int (0 : Int32)), .val (.ref er)] [(.ref er)])) rfl (by rw [hml]; rfl) (argsL := [(.ref er)]) (rest := []) (lenOf pd_22 rfl) rfl (by show 2 * 0 + _ ≤ _; exact Nat.le_of_eq rfl) (hb hby d_prog_27_method_5_code_33) (fun _ _ => ⟨rfl, hQ561, (by decide : 1 + 1 ≤ _), (by decide : 2 + 1 ≤ _)⟩)
    dsimp only [Pt.U, Pt.locs, Pt.cells, Pt.slots] at X575 l575 y575 z575 st575 hQ575
    subst l575 y575 z575
    obtain ⟨rfl, N575q, hQ575⟩ := hQ575
    have N575 := Fr.app N561 N575q
    obtain ⟨K575, Ex575, Fa575⟩ := hQ575
    obtain ⟨b575, g575⟩ : ∃ zz_, zz_ = T556.heap.size := ⟨_, rfl⟩
    have ne_a1_b575 : a1 ≠ b575 := Nat.ne_of_lt (Nat.lt_of_lt_of_le (E1.keep K556).lt (Nat.le_of_eq g575.symm))
    have ne_b1_b575 : b1 ≠ b575 := Nat.ne_of_lt (Nat.lt_of_lt_of_le (V1.keep K556 nin0).lt (Nat.le_of_eq g575.symm))
    have ne_av1_b575 : av1 ≠ b575 := Nat.ne_of_lt (Nat.lt_of_lt_of_le (E3.keep K556).lt (Nat.le_of_eq g575.symm))
    have ne_er_b575 : er ≠ b575 := Nat.ne_of_lt (Nat.lt_of_lt_of_le (Fl1.keep K556 nin0).lt (Nat.le_of_eq g575.symm))
    have ne_le_b575 : le ≠ b575 := Nat.ne_of_lt (Nat.lt_of_lt_of_le (Xl1.keep K556).lt (Nat.le_of_eq g575.symm))
    have ne_be_b575 : be ≠ b575 := Nat.ne_of_lt (Nat.lt_of_lt_of_le (Vl1.keep K556 nin0).lt (Nat.le_of_eq g575.symm))
    have ne_wa_b575 : wa ≠ b575 := Nat.ne_of_lt (Nat.lt_of_lt_of_le (Fl2.keep K556 nin0).lt (Nat.le_of_eq g575.symm))
    have ne_lw_b575 : lw ≠ b575 := Nat.ne_of_lt (Nat.lt_of_lt_of_le (Xl2.keep K556).lt (Nat.le_of_eq g575.symm))
    have ne_bw_b575 : bw ≠ b575 := Nat.ne_of_lt (Nat.lt_of_lt_of_le (Vl2.keep K556 nin0).lt (Nat.le_of_eq g575.symm))
    have ne_em_b575 : em ≠ b575 := Nat.ne_of_lt (Nat.lt_of_lt_of_le (E5.keep K556).lt (Nat.le_of_eq g575.symm))
    have ne_b556_b575 : b556 ≠ b575 := Nat.ne_of_lt (Nat.lt_of_lt_of_le V556.lt (Nat.le_of_eq g575.symm))
    have ge_b575 : n0 ≤ b575 := Nat.le_trans (Nat.le_trans Z0 K556.1) (Nat.le_of_eq g575.symm)
    have sz_b575 : h0.size ≤ b575 := Nat.le_trans ((Keep.refl h0 []).trans K556 all0).1 (Nat.le_of_eq g575.symm)
    rw [← g575] at Ex575 Fa575 st575
    refine Rch.of (T' := T575) (g' := (mkF m 36 #[.val (.ref a1), .val (.ref b556), .val (.int (2 : Int32)), .val (.int (0 : Int32)), .val (.ref er)] [(.ref b575)])) st575 ?_
    exact Rch.retA X575 hx (w := (.ref b575)) hret rfl rfl hlk (hb hby d_prog_27_method_5_code_36) (fun U hU hF => hK _ U _ _ _ (by show Q_rkLs Z a1 b1 n y av1 er wa le lw be bw em cs h0 n0 _ U.heap _; rw [hU]; exact ⟨b575, (.ref er), rfl, N575, (((Keep.refl h0 []).trans K556 all0).trans K575 all0), Ex575, Fa575, fun _ => rfl, fun q => absurd q c564, fun q => absurd q c564⟩) hF (by decide) (by decide))
theorem ef_rm0 (m : MethodId) (p0 : Int32) (p1 : Int64) (p2 : Int32) (p3 : Int32) (p4 : Int32) : entryFrame m #[(.int p0), (.long p1), (.int p2), (.int p3), (.int p4)] maxLocals = mkF m 0 #[.val (.int p0), .val (.long p1), .second, .val (.int p2), .val (.int p3), .val (.int p4), .unset, .unset, .unset, .unset] [] := by first | (simp [entryFrame, mkF, argsToLocals, Value.category, maxLocals]; done) | rfl
def Q_rm0 (Z : State) (p0 : Int32) (p1 : Int64) (p2 : Int32) (p3 : Int32) (p4 : Int32) (av1 : Addr) (er : Addr) (wa : Addr) (le : Addr) (lw : Addr) (be : Addr) (bw : Addr) (em : Addr) (cs : Int32) (sv : Value) (h0 : Heap) (n0 : Nat) (vv_ : Option Value) (h : Heap) (LL_ : List Loc) : Prop := vv_ = some (.int 1) ∧ Fr n0 LL_ ∧ (True)
set_option maxRecDepth 65536 in
set_option maxHeartbeats 40000000 in
theorem rm0 (l : Launch) (Z : State) (a0 : Array Value) (hw : ∀ d ∈ tables_1, d.before a0 Z = true) (ws : List Jvm.Cond) (p0 : Int32) (p1 : Int64) (p2 : Int32) (p3 : Int32) (p4 : Int32) (av1 : Addr) (er : Addr) (wa : Addr) (le : Addr) (lw : Addr) (be : Addr) (bw : Addr) (em : Addr) (cs : Int32) (sv : Value) (h0 : Heap) (n0 : Nat) (Z0 : n0 ≤ h0.size) (O0 : Old Z n0 h0) (S1 : Sta Z Z.heap "java/lang/String" "COMPACT_STRINGS" "Z" (.int cs)) (SI0 : Sta Z Z.heap "jdk/internal/util/Preconditions" "SIOOBE_FORMATTER" "Ljava/util/function/BiFunction;" sv) (S2 : Sta Z Z.heap "com/example/isidore/isidore/Severity" "$VALUES" "[Lcom/example/isidore/isidore/Severity;" (.ref av1)) (E3 : Exa Z Z.heap av1 "[Lcom/example/isidore/isidore/Severity;") (V3 : Av Z Z.heap av1 (.object "com/example/isidore/isidore/Severity") 2 (fun q => (fun q => if q = 0 then Value.ref er else Value.ref wa) q)) (Fl1 : Fld Z Z.heap er "com/example/isidore/isidore/Severity" "label" "Ljava/lang/String;" (.ref le)) (Xl1 : Exa Z Z.heap le "java/lang/String") (Fc1 : Fld Z Z.heap le "java/lang/String" "coder" "B" (.int (0 : Int32))) (Fv1 : Fld Z Z.heap le "java/lang/String" "value" "[B" (.ref be)) (Vl1 : Av Z Z.heap be .byte 5 (fun q => .int ((own_t0 q).toInt8.toInt32))) (Fl2 : Fld Z Z.heap wa "com/example/isidore/isidore/Severity" "label" "Ljava/lang/String;" (.ref lw)) (Xl2 : Exa Z Z.heap lw "java/lang/String") (Fc2 : Fld Z Z.heap lw "java/lang/String" "coder" "B" (.int (0 : Int32))) (Fv2 : Fld Z Z.heap lw "java/lang/String" "value" "[B" (.ref bw)) (Vl2 : Av Z Z.heap bw .byte 7 (fun q => .int ((own_t1 q).toInt8.toInt32))) (S5 : Sta Z Z.heap "java/util/Optional" "EMPTY" "Ljava/util/Optional;" (.ref em)) (E5 : Exa Z Z.heap em "java/util/Optional") (F5 : Fld Z Z.heap em "java/util/Optional" "value" "Ljava/lang/Object;" .null) (S6 : Sta Z Z.heap "com/example/isidore/isidore/Severity" "ERROR" "Lcom/example/isidore/isidore/Severity;" (.ref er)) (S7 : Sta Z Z.heap "com/example/isidore/isidore/Severity" "WARNING" "Lcom/example/isidore/isidore/Severity;" (.ref wa)) (hcs : ¬ cs = (0 : Int32)) (hsv : sv.isRef = true) :
    MetFree l x (head1 (Jvm.Cond.code x code maxLocals ret :: ws) room_1) (fun aa_ UU_ => aa_ = #[(.int p0), (.long p1), (.int p2), (.int p3), (.int p4)] ∧ Z.Warmed39 UU_.vm ∧ UU_.heap = h0 ∧ CHv Z consts_1 UU_.vm h0) (fun _ _ _ _ _ => True) (fun _ UU_ oo_ VV_ => ∃ vv_ LL_, oo_ = .returned vv_ ∧ Q_rm0 Z p0 p1 p2 p3 p4 av1 er wa le lw be bw em cs sv h0 n0 vv_ VV_.heap LL_ ∧ CHr Z consts_1 UU_.vm UU_.heap VV_.vm VV_.heap ∧ ReturnedEndW UU_ oo_ VV_ LL_ room_1.cells room_1.slots) := by
  refine own_metH (y := x) (plainFor_of_name pn_4) ?_
  intro p e s m below meth c T0 K hx hby hml hret hlk hown hnm hZ X0 e0 C0 hK
  have N0 := Fr.nil n0
  have R0 := CHr.refl C0
  have hEL := own_EW hw
  have hS0 : s.Since s.vm 0 := (State.WarmedH.refl s).since 0
  have hk0 : 0 ≤ h0.size := Nat.zero_le _
  have wS : ∀ d ∈ Bundle.stringAtoms, d.before a0 Z = true := fun d hd => hw d ((by decide +kernel : ∀ d ∈ Bundle.stringAtoms, d ∈ tables_1) d hd)
  change Stand p l e room_1 (s.setVm s.vm) m #[(.int p0), (.long p1), (.int p2), (.int p3), (.int p4)] below meth c T0 [] 0 0 at X0
  change Z.Warmed39 (s.setVm s.vm).vm at hZ
  change (s.setVm s.vm).vm.findClass _ = some m.cls at hown
  refine Rch.cast (ef_rm0 m p0 p1 p2 p3 p4) ?_
  refine Rch.of (T' := T0) (g' := (mkF m 1 #[.val (.int p0), .val (.long p1), .second, .val (.int p2), .val (.int p3), .val (.int p4), .unset, .unset, .unset, .unset] [(.int p0)])) (fun _ kt => XS.iloadN X0.here hx rfl (hb hby at_0) rfl  kt) ?_
  refine Rch.of (T' := T0) (g' := (mkF m 2 #[.val (.int p0), .val (.long p1), .second, .val (.int p2), .val (.int p3), .val (.int p4), .unset, .unset, .unset, .unset] [(.int (3 : Int32)), (.int p0)])) (fun _ kt => XS.iconst X0.here hx rfl (hb hby at_1) kt) ?_
  refine Rch.of (T' := T0) (g' := (mkF m 3 #[.val (.int p0), .val (.long p1), .second, .val (.int p2), .val (.int p3), .val (.int p4), .unset, .unset, .unset, .unset] [(.int (p0 &&& (3 : Int32)))])) (fun _ kt => XS.iand X0.here hx rfl (hb hby at_2) rfl kt) ?_
  refine Rch.of (T' := T0) (g' := (mkF m 5 #[.val (.int p0), .val (.long p1), .second, .val (.int p2), .val (.int p3), .val (.int p4), .val (.int (p0 &&& (3 : Int32))), .unset, .unset, .unset] [])) (fun _ kt => XS.istore X0.here hx rfl (hb hby at_3) rfl (l' := #[.val (.int p0), .val (.long p1), .second, .val (.int p2), .val (.int p3), .val (.int p4), .val (.int (p0 &&& (3 : Int32))), .unset, .unset, .unset]) rfl kt) ?_
  refine Rch.of (T' := T0) (g' := (mkF m 7 #[.val (.int p0), .val (.long p1), .second, .val (.int p2), .val (.int p3), .val (.int p4), .val (.int (p0 &&& (3 : Int32))), .unset, .unset, .unset] [(.int (p0 &&& (3 : Int32)))])) (fun _ kt => XS.iload X0.here hx rfl (hb hby at_5) rfl  kt) ?_
  refine Rch.of (T' := T0) (g' := (mkF m 8 #[.val (.int p0), .val (.long p1), .second, .val (.int p2), .val (.int p3), .val (.int p4), .val (.int (p0 &&& (3 : Int32))), .unset, .unset, .unset] [(.int (3 : Int32)), (.int (p0 &&& (3 : Int32)))])) (fun _ kt => XS.iconst X0.here hx rfl (hb hby at_7) kt) ?_
  by_cases c576 : (p0 &&& (3 : Int32)) = (3 : Int32)
  · skip
    refine Rch.of (T' := T0) (g' := (mkF m 11 #[.val (.int p0), .val (.long p1), .second, .val (.int p2), .val (.int p3), .val (.int p4), .val (.int (p0 &&& (3 : Int32))), .unset, .unset, .unset] [])) (fun _ kt => XS.icmpNo X0.here hx rfl (hb hby at_8) rfl (teq c576).2 kt) ?_
    refine Rch.of (T' := T0) (g' := (mkF m 12 #[.val (.int p0), .val (.long p1), .second, .val (.int p2), .val (.int p3), .val (.int p4), .val (.int (p0 &&& (3 : Int32))), .unset, .unset, .unset] [.null])) (fun _ kt => XS.aconstNull X0.here hx rfl (hb hby at_11) kt) ?_
    refine Rch.of (T' := T0) (g' := (mkF m 14 #[.val (.int p0), .val (.long p1), .second, .val (.int p2), .val (.int p3), .val (.int p4), .val (.int (p0 &&& (3 : Int32))), .val .null, .unset, .unset] [])) (fun _ kt => XS.astore X0.here hx rfl (hb hby at_12) rfl rfl (l' := #[.val (.int p0), .val (.long p1), .second, .val (.int p2), .val (.int p3), .val (.int p4), .val (.int (p0 &&& (3 : Int32))), .val .null, .unset, .unset]) rfl kt) ?_
    refine Rch.of (T' := T0) (g' := (mkF m 80 #[.val (.int p0), .val (.long p1), .second, .val (.int p2), .val (.int p3), .val (.int p4), .val (.int (p0 &&& (3 : Int32))), .val .null, .unset, .unset] [])) (fun _ kt => XS.goto X0.here hx rfl (pc0 := 14) (pc' := 80) rfl (hb hby at_14) (by decide) (by decide) kt) ?_
    refine Rch.of (T' := T0) (g' := (mkF m 82 #[.val (.int p0), .val (.long p1), .second, .val (.int p2), .val (.int p3), .val (.int p4), .val (.int (p0 &&& (3 : Int32))), .val .null, .unset, .unset] [.null])) (fun _ kt => XS.aload X0.here hx rfl (hb hby at_80) rfl rfl kt) ?_
    obtain ⟨_, _, ⟨T577, L577, k577, n577⟩, -, X577, ⟨Lc577, hQ577, l577, y577, z577⟩, st577⟩ := Jvm.LawKit.callS X0 hx (y := (⟨"com/example/isidore/isidore/Severity", "labelled", "(Ljava/lang/String;)Ljava/util/Optional;"⟩ : MethodName)) hown (mvT hZ (hw _ (List.mem_of_getElem? (i := 38) rfl))) (mvT hZ (hw _ (List.mem_of_getElem? (i := 39) rfl))) (mvT hZ (hw _ (List.mem_of_getElem? (i := 40) rfl))) (mvT hZ (hw _ (List.mem_of_getElem? (i := 41) rfl))) (by decide) (backOf (W := 0) (rkLn l Z a0 hw [] av1 er wa le lw be bw em cs h0 n0 Z0 (S2.ext O0.2) (E3.ext O0.2) (V3.ext O0.2) (Fl1.ext O0.2) (Xl1.ext O0.2) (Fc1.ext O0.2) (Fv1.ext O0.2) (Vl1.ext O0.2) (Fl2.ext O0.2) (Xl2.ext O0.2) (Fc2.ext O0.2) (Fv2.ext O0.2) (Vl2.ext O0.2) (S5.ext O0.2) (E5.ext O0.2) (F5.ext O0.2) (S1.ext O0.2) hcs) hZ (hw _ (List.mem_of_getElem? (i := 41) rfl)) (hw _ (List.mem_of_getElem? (i := 40) rfl)) (by decide) (by decide)) (g := (mkF m 82 #[.val (.int p0), .val (.long p1), .second, .val (.int p2), .val (.int p3), .val (.int p4), .val (.int (p0 &&& (3 : Int32))), .val .null, .unset, .unset] [.null])) rfl (by rw [hml]; rfl) (argsL := [.null]) (rest := []) (lenOf pd_8 rfl) rfl (by show 2 * 0 + _ ≤ _; exact Nat.le_of_eq rfl) (hb hby at_82) (fun _ _ => ⟨rfl, e0, (by decide : 0 + 1 ≤ _), (by decide : 0 + 2 ≤ _)⟩)
    dsimp only [Pt.U, Pt.locs, Pt.cells, Pt.slots] at X577 l577 y577 z577 st577 hQ577
    subst l577 y577 z577
    obtain ⟨rr577, rv1577, rfl, N577q, hQ577⟩ := hQ577
    have N577 := Fr.app N0 N577q
    obtain ⟨K577, Ex577, Fa577, In577⟩ := hQ577
    rw [In577] at Fa577
    refine Rch.of (T' := T577) (g' := (mkF m 85 #[.val (.int p0), .val (.long p1), .second, .val (.int p2), .val (.int p3), .val (.int p4), .val (.int (p0 &&& (3 : Int32))), .val .null, .unset, .unset] [(.ref rr577)])) st577 ?_
    refine Rch.of (T' := T577) (g' := (mkF m 87 #[.val (.int p0), .val (.long p1), .second, .val (.int p2), .val (.int p3), .val (.int p4), .val (.int (p0 &&& (3 : Int32))), .val .null, .val (.ref rr577), .unset] [])) (fun _ kt => XS.astore X577.here hx rfl (hb hby at_85) rfl rfl (l' := #[.val (.int p0), .val (.long p1), .second, .val (.int p2), .val (.int p3), .val (.int p4), .val (.int (p0 &&& (3 : Int32))), .val .null, .val (.ref rr577), .unset]) rfl kt) ?_
    refine Rch.of (T' := T577) (g' := (mkF m 89 #[.val (.int p0), .val (.long p1), .second, .val (.int p2), .val (.int p3), .val (.int p4), .val (.int (p0 &&& (3 : Int32))), .val .null, .val (.ref rr577), .unset] [(.ref rr577)])) (fun _ kt => XS.aload X577.here hx rfl (hb hby at_87) rfl rfl kt) ?_
    refine Rch.of (T' := T577) (g' := (mkF m 94 #[.val (.int p0), .val (.long p1), .second, .val (.int p2), .val (.int p3), .val (.int p4), .val (.int (p0 &&& (3 : Int32))), .val .null, .val (.ref rr577), .unset] [])) (fun _ kt => XS.ifnonnullYes X577.here hx rfl (pc0 := 89) (pc' := 94) rfl (hb hby at_89) rfl (by decide) (by decide) kt) ?_
    refine Rch.of (T' := T577) (g' := (mkF m 95 #[.val (.int p0), .val (.long p1), .second, .val (.int p2), .val (.int p3), .val (.int p4), .val (.int (p0 &&& (3 : Int32))), .val .null, .val (.ref rr577), .unset] [.null])) (fun _ kt => XS.aconstNull X577.here hx rfl (hb hby at_94) kt) ?_
    refine Rch.of (T' := T577) (g' := (mkF m 97 #[.val (.int p0), .val (.long p1), .second, .val (.int p2), .val (.int p3), .val (.int p4), .val (.int (p0 &&& (3 : Int32))), .val .null, .val (.ref rr577), .val .null] [])) (fun _ kt => XS.astore X577.here hx rfl (hb hby at_95) rfl rfl (l' := #[.val (.int p0), .val (.long p1), .second, .val (.int p2), .val (.int p3), .val (.int p4), .val (.int (p0 &&& (3 : Int32))), .val .null, .val (.ref rr577), .val .null]) rfl kt) ?_
    refine Rch.of (T' := T577) (g' := (mkF m 99 #[.val (.int p0), .val (.long p1), .second, .val (.int p2), .val (.int p3), .val (.int p4), .val (.int (p0 &&& (3 : Int32))), .val .null, .val (.ref rr577), .val .null] [.null])) (fun _ kt => XS.aload X577.here hx rfl (hb hby at_97) rfl rfl kt) ?_
    refine Rch.of (T' := T577) (g' := (mkF m 135 #[.val (.int p0), .val (.long p1), .second, .val (.int p2), .val (.int p3), .val (.int p4), .val (.int (p0 &&& (3 : Int32))), .val .null, .val (.ref rr577), .val .null] [])) (fun _ kt => XS.ifnullYes X577.here hx rfl (pc0 := 99) (pc' := 135) rfl (hb hby at_99) rfl (by decide) (by decide) kt) ?_
    refine Rch.of (T' := T577) (g' := (mkF m 137 #[.val (.int p0), .val (.long p1), .second, .val (.int p2), .val (.int p3), .val (.int p4), .val (.int (p0 &&& (3 : Int32))), .val .null, .val (.ref rr577), .val .null] [.null])) (fun _ kt => XS.aload X577.here hx rfl (hb hby at_135) rfl rfl kt) ?_
    refine Rch.of (T' := T577) (g' := (mkF m 140 #[.val (.int p0), .val (.long p1), .second, .val (.int p2), .val (.int p3), .val (.int p4), .val (.int (p0 &&& (3 : Int32))), .val .null, .val (.ref rr577), .val .null] [])) (fun _ kt => XS.ifnonnullNo X577.here hx rfl (hb hby at_137) rfl kt) ?_
    refine Rch.of (T' := T577) (g' := (mkF m 142 #[.val (.int p0), .val (.long p1), .second, .val (.int p2), .val (.int p3), .val (.int p4), .val (.int (p0 &&& (3 : Int32))), .val .null, .val (.ref rr577), .val .null] [(.ref rr577)])) (fun _ kt => XS.aload X577.here hx rfl (hb hby at_140) rfl rfl kt) ?_
    obtain ⟨cq578, kq578, q578a, q578b, q578c⟩ := isOf hZ rfl Ex577
    obtain ⟨_, _, ⟨T578, L578, k578, n578⟩, -, X578, ⟨Lc578, hQ578, l578, y578, z578⟩, st578⟩ := X577.virtualBack hx (y := (⟨"java/util/Optional", "isPresent", "()Z"⟩ : MethodName)) (z := (⟨"java/util/Optional", "isPresent", "()Z"⟩ : MethodName)) hown (mvT hZ (hw _ (List.mem_of_getElem? (i := 81) rfl))) (mvT hZ (hw _ (List.mem_of_getElem? (i := 82) rfl))) (notFace_of_selects (args := #[]) (mvT hZ (hw _ (List.mem_of_getElem? (i := 84) rfl)))) (mvT hZ (hw _ (List.mem_of_getElem? (i := 84) rfl))) (mvT hZ (hw _ (List.mem_of_getElem? (i := 83) rfl))) (by decide) (backOf (W := 0) (rkOPn l Z a0 hw [] rr577 T577.heap n0 (Nat.le_trans Z0 K577.1) Fa577) hZ (hw _ (List.mem_of_getElem? (i := 85) rfl)) (hw _ (List.mem_of_getElem? (i := 73) rfl)) (by decide) (by decide)) q578a q578c (g := (mkF m 142 #[.val (.int p0), .val (.long p1), .second, .val (.int p2), .val (.int p3), .val (.int p4), .val (.int (p0 &&& (3 : Int32))), .val .null, .val (.ref rr577), .val .null] [(.ref rr577)])) rfl (by rw [hml]; rfl) (Steps.refl _) (argsL := []) (rest := []) (lenOf pd_14 rfl) rfl (by show 2 * 0 + _ ≤ _; exact Nat.le_of_eq rfl) (hb hby at_142) (fun _ _ => ⟨rfl, rfl, (by decide : 1 + 0 ≤ _), (by decide : 2 + 0 ≤ _)⟩)
    dsimp only [Pt.U, Pt.locs, Pt.cells, Pt.slots] at X578 l578 y578 z578 st578 hQ578
    subst l578 y578 z578
    obtain ⟨rfl, N578q, hQ578⟩ := hQ578
    have N578 := Fr.app N577 N578q
    refine Rch.via (T' := T578) (g' := (mkF m 145 #[.val (.int p0), .val (.long p1), .second, .val (.int p2), .val (.int p3), .val (.int p4), .val (.int (p0 &&& (3 : Int32))), .val .null, .val (.ref rr577), .val .null] [(.int (0 : Int32))])) st578 ?_
    refine Rch.of (T' := T578) (g' := (mkF m 148 #[.val (.int p0), .val (.long p1), .second, .val (.int p2), .val (.int p3), .val (.int p4), .val (.int (p0 &&& (3 : Int32))), .val .null, .val (.ref rr577), .val .null] [])) (fun _ kt => XS.ifNo X578.here hx rfl (hb hby at_145) rfl ((if0 _ _).trans (teq ((by decide) : (0 : Int32) = (0 : Int32))).2) kt) ?_
    refine Rch.of (T' := T578) (g' := (mkF m 149 #[.val (.int p0), .val (.long p1), .second, .val (.int p2), .val (.int p3), .val (.int p4), .val (.int (p0 &&& (3 : Int32))), .val .null, .val (.ref rr577), .val .null] [(.int (1 : Int32))])) (fun _ kt => XS.iconst X578.here hx rfl (hb hby at_148) kt) ?_
    refine Rch.of (T' := T578) (g' := (mkF m 153 #[.val (.int p0), .val (.long p1), .second, .val (.int p2), .val (.int p3), .val (.int p4), .val (.int (p0 &&& (3 : Int32))), .val .null, .val (.ref rr577), .val .null] [(.int (1 : Int32))])) (fun _ kt => XS.goto X578.here hx rfl (pc0 := 149) (pc' := 153) rfl (hb hby at_149) (by decide) (by decide) kt) ?_
    exact Rch.retN X578 hx (t := .boolean) hret (by simp) hlk (hb hby at_153) (fun U hU hF => hK _ U _ _ _ (by show Q_rm0 Z p0 p1 p2 p3 p4 av1 er wa le lw be bw em cs sv h0 n0 _ U.heap _; rw [hU, hQ578]; exact ⟨rfl, N578, trivial⟩) (own_endH hZ hEL (R0.trans (CHr.keep K577 all0 R0.1)) (hU.trans hQ578) hF) (own_end hS0 (by rw [hU, hQ578]; exact (Nat.le_trans hk0 K577.1)) hF) (by decide) (by decide))
  · skip
    refine Rch.of (T' := T0) (g' := (mkF m 17 #[.val (.int p0), .val (.long p1), .second, .val (.int p2), .val (.int p3), .val (.int p4), .val (.int (p0 &&& (3 : Int32))), .unset, .unset, .unset] [])) (fun _ kt => XS.icmpYes X0.here hx rfl (pc0 := 8) (pc' := 17) rfl (hb hby at_8) rfl (feq c576).2 (by decide) (by decide) kt) ?_
    refine Rch.of (T' := T0) (g' := (mkF m 19 #[.val (.int p0), .val (.long p1), .second, .val (.int p2), .val (.int p3), .val (.int p4), .val (.int (p0 &&& (3 : Int32))), .unset, .unset, .unset] [(.int (p0 &&& (3 : Int32)))])) (fun _ kt => XS.iload X0.here hx rfl (hb hby at_17) rfl  kt) ?_
    by_cases c579 : (p0 &&& (3 : Int32)) = (0 : Int32)
    · skip
      refine Rch.of (T' := T0) (g' := (mkF m 22 #[.val (.int p0), .val (.long p1), .second, .val (.int p2), .val (.int p3), .val (.int p4), .val (.int (p0 &&& (3 : Int32))), .unset, .unset, .unset] [])) (fun _ kt => XS.ifNo X0.here hx rfl (hb hby at_19) rfl ((if0 _ _).trans (teq c579).2) kt) ?_
      refine Rch.of (T' := T0) (g' := (mkF m 23 #[.val (.int p0), .val (.long p1), .second, .val (.int p2), .val (.int p3), .val (.int p4), .val (.int (p0 &&& (3 : Int32))), .unset, .unset, .unset] [(.long p1)])) (fun _ kt => XS.lloadN X0.here hx rfl (hb hby at_22) rfl  kt) ?_
      refine Rch.of (T' := T0) (g' := (mkF m 24 #[.val (.int p0), .val (.long p1), .second, .val (.int p2), .val (.int p3), .val (.int p4), .val (.int (p0 &&& (3 : Int32))), .unset, .unset, .unset] [(.int p2), (.long p1)])) (fun _ kt => XS.iloadN X0.here hx rfl (hb hby at_23) rfl  kt) ?_
      refine Rch.of (T' := T0) (g' := (mkF m 26 #[.val (.int p0), .val (.long p1), .second, .val (.int p2), .val (.int p3), .val (.int p4), .val (.int (p0 &&& (3 : Int32))), .unset, .unset, .unset] [(.int (7 : Int32)), (.int p2), (.long p1)])) (fun _ kt => XS.bipush X0.here hx rfl (hb hby at_24) kt) ?_
      refine Rch.of (T' := T0) (g' := (mkF m 27 #[.val (.int p0), .val (.long p1), .second, .val (.int p2), .val (.int p3), .val (.int p4), .val (.int (p0 &&& (3 : Int32))), .unset, .unset, .unset] [(.int (p2 &&& (7 : Int32))), (.long p1)])) (fun _ kt => XS.iand X0.here hx rfl (hb hby at_26) rfl kt) ?_
      obtain ⟨k, hk, ek⟩ := own_andk p2 7 (by decide)
      have sw580 : (p2 &&& (7 : Int32)) = (Int32.ofNat k) := ek
      rw [sw580]
      show Rch p e below K T0 (mkF m 27 #[.val (.int p0), .val (.long p1), .second, .val (.int p2), .val (.int p3), .val (.int p4), .val (.int (p0 &&& (3 : Int32))), .unset, .unset, .unset] [(.int (Int32.ofNat k)), (.long p1)])
      have pr582 : k ≤ 7 := by omega
      obtain ⟨_, _, ⟨T581, L581, k581, n581⟩, -, X581, hT581, gr581, ⟨Lc581, hQ581, l581, y581, z581, cr581⟩, st581⟩ := callSS X0 hx (y := (⟨"com/example/isidore/isidore/SeverityLabelledPinLaw", "drawn", "(JI)Ljava/lang/String;"⟩ : MethodName)) hown (mvT hZ (hw _ (List.mem_of_getElem? (i := 0) rfl))) (mvT hZ (hw _ (List.mem_of_getElem? (i := 1) rfl))) (mvT hZ (hw _ (List.mem_of_getElem? (i := 2) rfl))) (mvT hZ (hw _ (List.mem_of_getElem? (i := 3) rfl))) (by decide) (backOfSH (s := s) (vm0 := s.vm) (EL := consts_1) (W := 0) (rk2 l Z a0 hw [] p1 k cs h0 n0 Z0 pr582 (S1.ext O0.2) hcs) hZ (hw _ (List.mem_of_getElem? (i := 3) rfl)) (hw _ (List.mem_of_getElem? (i := 2) rfl)) (by decide) (by decide) hEL R0.1) (g := (mkF m 27 #[.val (.int p0), .val (.long p1), .second, .val (.int p2), .val (.int p3), .val (.int p4), .val (.int (p0 &&& (3 : Int32))), .unset, .unset, .unset] [(.int (Int32.ofNat k)), (.long p1)])) rfl (by rw [hml]; rfl) (argsL := [(.long p1), (.int (Int32.ofNat k))]) (rest := []) (lenOf pd_0 rfl) rfl (by show 2 * 0 + _ ≤ _; exact Nat.le_of_eq rfl) (hb hby at_27) (fun _ _ => ⟨rfl, e0, (by decide : 0 + 6 ≤ _), (by decide : 0 + 19 ≤ _)⟩)
      dsimp only [Pt.U, Pt.locs, Pt.cells, Pt.slots] at X581 hT581 gr581 l581 y581 z581 st581 hQ581 cr581
      subst l581 y581 z581
      obtain ⟨X581, hS581, hZ, hown⟩ := rebS hS0 hk0 X581 hT581 (by rw [← e0]; exact gr581) hZ hown
      obtain ⟨rr581, rb581, rt581, rnn581, rfl, N581q, hQ581⟩ := hQ581
      have N581 := Fr.app N0 N581q
      obtain ⟨K581, Ex581, Fa581, Fb581, V581, Ch581, Le581⟩ := hQ581
      refine Rch.via (T' := T581) (g' := (mkF m 30 #[.val (.int p0), .val (.long p1), .second, .val (.int p2), .val (.int p3), .val (.int p4), .val (.int (p0 &&& (3 : Int32))), .unset, .unset, .unset] [(.ref rr581)])) st581 ?_
      refine Rch.of (T' := T581) (g' := (mkF m 32 #[.val (.int p0), .val (.long p1), .second, .val (.int p2), .val (.int p3), .val (.int p4), .val (.int (p0 &&& (3 : Int32))), .val (.ref rr581), .unset, .unset] [])) (fun _ kt => XS.astore X581.here hx rfl (hb hby at_30) rfl rfl (l' := #[.val (.int p0), .val (.long p1), .second, .val (.int p2), .val (.int p3), .val (.int p4), .val (.int (p0 &&& (3 : Int32))), .val (.ref rr581), .unset, .unset]) rfl kt) ?_
      refine Rch.of (T' := T581) (g' := (mkF m 80 #[.val (.int p0), .val (.long p1), .second, .val (.int p2), .val (.int p3), .val (.int p4), .val (.int (p0 &&& (3 : Int32))), .val (.ref rr581), .unset, .unset] [])) (fun _ kt => XS.goto X581.here hx rfl (pc0 := 32) (pc' := 80) rfl (hb hby at_32) (by decide) (by decide) kt) ?_
      have hle7 : rnn581 ≤ 7 := Le581
      refine Rch.of (T' := T581) (g' := (mkF m 82 #[.val (.int p0), .val (.long p1), .second, .val (.int p2), .val (.int p3), .val (.int p4), .val (.int (p0 &&& (3 : Int32))), .val (.ref rr581), .unset, .unset] [(.ref rr581)])) (fun _ kt => XS.aload X581.here hx rfl (hb hby at_80) rfl rfl kt) ?_
      have pr584 : rnn581 ≤ 7 := by omega
      obtain ⟨_, _, ⟨T583, L583, k583, n583⟩, -, X583, ⟨Lc583, hQ583, l583, y583, z583⟩, st583⟩ := Jvm.LawKit.callS X581 hx (y := (⟨"com/example/isidore/isidore/Severity", "labelled", "(Ljava/lang/String;)Ljava/util/Optional;"⟩ : MethodName)) hown (mvT hZ (hw _ (List.mem_of_getElem? (i := 38) rfl))) (mvT hZ (hw _ (List.mem_of_getElem? (i := 39) rfl))) (mvT hZ (hw _ (List.mem_of_getElem? (i := 40) rfl))) (mvT hZ (hw _ (List.mem_of_getElem? (i := 41) rfl))) (by decide) (backOf (W := 0) (rkLs l Z a0 hw [] rr581 rb581 rnn581 rt581 av1 er wa le lw be bw em cs T581.heap n0 (Nat.le_trans Z0 K581.1) Ex581 Fa581 Fb581 V581 (S2.ext (O0.keep K581 all0).2) ((E3.ext O0.2).keep K581) ((V3.ext O0.2).keep K581 nin0) ((Fl1.ext O0.2).keep K581 nin0) ((Xl1.ext O0.2).keep K581) ((Fc1.ext O0.2).keep K581 nin0) ((Fv1.ext O0.2).keep K581 nin0) ((Vl1.ext O0.2).keep K581 nin0) ((Fl2.ext O0.2).keep K581 nin0) ((Xl2.ext O0.2).keep K581) ((Fc2.ext O0.2).keep K581 nin0) ((Fv2.ext O0.2).keep K581 nin0) ((Vl2.ext O0.2).keep K581 nin0) (S5.ext (O0.keep K581 all0).2) ((E5.ext O0.2).keep K581) ((F5.ext O0.2).keep K581 nin0) (S1.ext (O0.keep K581 all0).2) hcs pr584 Ch581) hZ (hw _ (List.mem_of_getElem? (i := 41) rfl)) (hw _ (List.mem_of_getElem? (i := 40) rfl)) (by decide) (by decide)) (g := (mkF m 82 #[.val (.int p0), .val (.long p1), .second, .val (.int p2), .val (.int p3), .val (.int p4), .val (.int (p0 &&& (3 : Int32))), .val (.ref rr581), .unset, .unset] [(.ref rr581)])) rfl (by rw [hml]; rfl) (argsL := [(.ref rr581)]) (rest := []) (lenOf pd_8 rfl) rfl (by show 2 * 0 + _ ≤ _; exact Nat.le_of_eq rfl) (hb hby at_82) (fun _ _ => ⟨rfl, rfl, (by decide : 6 + 2 ≤ _), (by decide : 19 + 3 ≤ _)⟩)
      dsimp only [Pt.U, Pt.locs, Pt.cells, Pt.slots] at X583 l583 y583 z583 st583 hQ583
      subst l583 y583 z583
      obtain ⟨rr583, rv1583, rfl, N583q, hQ583⟩ := hQ583
      have N583 := Fr.app N581 N583q
      obtain ⟨K583, Ex583, Fa583, I1583, I2583, I3583⟩ := hQ583
      refine Rch.of (T' := T583) (g' := (mkF m 85 #[.val (.int p0), .val (.long p1), .second, .val (.int p2), .val (.int p3), .val (.int p4), .val (.int (p0 &&& (3 : Int32))), .val (.ref rr581), .unset, .unset] [(.ref rr583)])) st583 ?_
      refine Rch.of (T' := T583) (g' := (mkF m 87 #[.val (.int p0), .val (.long p1), .second, .val (.int p2), .val (.int p3), .val (.int p4), .val (.int (p0 &&& (3 : Int32))), .val (.ref rr581), .val (.ref rr583), .unset] [])) (fun _ kt => XS.astore X583.here hx rfl (hb hby at_85) rfl rfl (l' := #[.val (.int p0), .val (.long p1), .second, .val (.int p2), .val (.int p3), .val (.int p4), .val (.int (p0 &&& (3 : Int32))), .val (.ref rr581), .val (.ref rr583), .unset]) rfl kt) ?_
      refine Rch.of (T' := T583) (g' := (mkF m 89 #[.val (.int p0), .val (.long p1), .second, .val (.int p2), .val (.int p3), .val (.int p4), .val (.int (p0 &&& (3 : Int32))), .val (.ref rr581), .val (.ref rr583), .unset] [(.ref rr583)])) (fun _ kt => XS.aload X583.here hx rfl (hb hby at_87) rfl rfl kt) ?_
      refine Rch.of (T' := T583) (g' := (mkF m 94 #[.val (.int p0), .val (.long p1), .second, .val (.int p2), .val (.int p3), .val (.int p4), .val (.int (p0 &&& (3 : Int32))), .val (.ref rr581), .val (.ref rr583), .unset] [])) (fun _ kt => XS.ifnonnullYes X583.here hx rfl (pc0 := 89) (pc' := 94) rfl (hb hby at_89) rfl (by decide) (by decide) kt) ?_
      refine Rch.of (T' := T583) (g' := (mkF m 95 #[.val (.int p0), .val (.long p1), .second, .val (.int p2), .val (.int p3), .val (.int p4), .val (.int (p0 &&& (3 : Int32))), .val (.ref rr581), .val (.ref rr583), .unset] [.null])) (fun _ kt => XS.aconstNull X583.here hx rfl (hb hby at_94) kt) ?_
      refine Rch.of (T' := T583) (g' := (mkF m 97 #[.val (.int p0), .val (.long p1), .second, .val (.int p2), .val (.int p3), .val (.int p4), .val (.int (p0 &&& (3 : Int32))), .val (.ref rr581), .val (.ref rr583), .val .null] [])) (fun _ kt => XS.astore X583.here hx rfl (hb hby at_95) rfl rfl (l' := #[.val (.int p0), .val (.long p1), .second, .val (.int p2), .val (.int p3), .val (.int p4), .val (.int (p0 &&& (3 : Int32))), .val (.ref rr581), .val (.ref rr583), .val .null]) rfl kt) ?_
      refine Rch.of (T' := T583) (g' := (mkF m 99 #[.val (.int p0), .val (.long p1), .second, .val (.int p2), .val (.int p3), .val (.int p4), .val (.int (p0 &&& (3 : Int32))), .val (.ref rr581), .val (.ref rr583), .val .null] [(.ref rr581)])) (fun _ kt => XS.aload X583.here hx rfl (hb hby at_97) rfl rfl kt) ?_
      refine Rch.of (T' := T583) (g' := (mkF m 102 #[.val (.int p0), .val (.long p1), .second, .val (.int p2), .val (.int p3), .val (.int p4), .val (.int (p0 &&& (3 : Int32))), .val (.ref rr581), .val (.ref rr583), .val .null] [])) (fun _ kt => XS.ifnullNo X583.here hx rfl (hb hby at_99) rfl kt) ?_
      refine Rch.of (T' := T583) (g' := (mkF m 104 #[.val (.int p0), .val (.long p1), .second, .val (.int p2), .val (.int p3), .val (.int p4), .val (.int (p0 &&& (3 : Int32))), .val (.ref rr581), .val (.ref rr583), .val .null] [(.ref rr581)])) (fun _ kt => XS.aload X583.here hx rfl (hb hby at_102) rfl rfl kt) ?_
      obtain ⟨s585, T585, h585, k585, sb585, kc585, X585, e585, E585, hS585, hk585, hZ, hown, Ex585, Fa585, Fb585, Ar585, la585, lb585, cr585, Lt585, sf585, st585⟩ := ldcCH (s := s) (vm0 := T581.vm) X583 hx hZ hown (hw _ (List.mem_of_getElem? (i := 76) rfl)) wS rfl hS581 (Nat.le_trans (Nat.le_refl _) K583.1) hEL (List.mem_of_getElem? (i := 0) rfl) ((R0.trans cr581).trans (CHr.keep K583 all0 (R0.trans cr581).1)).1 (z := (5 : Int32)) own_t0_ok.1 (by decide) (by decide) (g := (mkF m 104 #[.val (.int p0), .val (.long p1), .second, .val (.int p2), .val (.int p3), .val (.int p4), .val (.int (p0 &&& (3 : Int32))), .val (.ref rr581), .val (.ref rr583), .val .null] [(.ref rr581)])) rfl (hb hby at_104) (n := 20) (by decide) (by decide) (by decide) (by decide)
      have V585 : Av Z h585 sb585 .byte 5 (fun q => .int ((own_t0 q).toInt8.toInt32)) := (Arv.av Ar585 (by decide)).congr own_t0_ok.2
      refine Rch.of (T' := T585) (g' := (mkF m 106 #[.val (.int p0), .val (.long p1), .second, .val (.int p2), .val (.int p3), .val (.int p4), .val (.int (p0 &&& (3 : Int32))), .val (.ref rr581), .val (.ref rr583), .val .null] [(.ref s585), (.ref rr581)])) st585 ?_
      have pr587 : rnn581 ≤ 7 := by omega
      have pr588 : 5 ≤ 7 := by omega
      obtain ⟨cq586, kq586, q586a, q586b, q586c⟩ := isOf hZ e585 ((Ex581.keep K583).ext E585)
      obtain ⟨_, _, ⟨T586, L586, k586, n586⟩, -, X586, ⟨Lc586, hQ586, l586, y586, z586⟩, st586⟩ := X585.virtualBack hx (y := (⟨"java/lang/String", "equals", "(Ljava/lang/Object;)Z"⟩ : MethodName)) (z := (⟨"java/lang/String", "equals", "(Ljava/lang/Object;)Z"⟩ : MethodName)) hown (mvT hZ (hw _ (List.mem_of_getElem? (i := 79) rfl))) (mvT hZ (hw _ (List.mem_of_getElem? (i := 62) rfl))) (notFace_of_selects (args := #[]) (mvT hZ (hw _ (List.mem_of_getElem? (i := 64) rfl)))) (mvT hZ (hw _ (List.mem_of_getElem? (i := 64) rfl))) (mvT hZ (hw _ (List.mem_of_getElem? (i := 63) rfl))) (by decide) (backOf (W := 0) (rqEQ l Z a0 hw [] rr581 rb581 rnn581 rt581 s585 sb585 5 own_t0 cs h585 n0 (Nat.le_trans (Nat.le_trans (Nat.le_trans Z0 K581.1) K583.1) E585.1) ((Ex581.keep K583).ext E585) ((Fa581.keep K583 nin0).ext E585) ((Fb581.keep K583 nin0).ext E585) ((V581.keep K583 nin0).ext E585) Ex585 Fa585 Fb585 V585 pr587 pr588 Ch581 own_chE ((S1.ext ((O0.keep K581 all0).keep K583 all0).2).ext E585) hcs) hZ (hw _ (List.mem_of_getElem? (i := 65) rfl)) (hw _ (List.mem_of_getElem? (i := 11) rfl)) (by decide) (by decide)) q586a q586c (g := (mkF m 106 #[.val (.int p0), .val (.long p1), .second, .val (.int p2), .val (.int p3), .val (.int p4), .val (.int (p0 &&& (3 : Int32))), .val (.ref rr581), .val (.ref rr583), .val .null] [(.ref s585), (.ref rr581)])) rfl (by rw [hml]; rfl) (Steps.refl _) (argsL := [(.ref s585)]) (rest := []) (lenOf pd_11 rfl) rfl (by show 2 * 0 + _ ≤ _; exact Nat.le_of_eq rfl) (hb hby at_106) (fun _ _ => ⟨rfl, e585, (by decide : 10 + 0 ≤ _), (by decide : 46 + 0 ≤ _)⟩)
      dsimp only [Pt.U, Pt.locs, Pt.cells, Pt.slots] at X586 l586 y586 z586 st586 hQ586
      subst l586 y586 z586
      obtain ⟨rfl, N586q, hQ586⟩ := hQ586
      have N586 := Fr.app N583 N586q
      refine Rch.via (T' := T586) (g' := (mkF m 109 #[.val (.int p0), .val (.long p1), .second, .val (.int p2), .val (.int p3), .val (.int p4), .val (.int (p0 &&& (3 : Int32))), .val (.ref rr581), .val (.ref rr583), .val .null] [(.int (own_eqv rnn581 rt581 5 own_t0))])) st586 ?_
      by_cases c589 : (own_eqv rnn581 rt581 5 own_t0) = (0 : Int32)
      · skip
        refine Rch.of (T' := T586) (g' := (mkF m 120 #[.val (.int p0), .val (.long p1), .second, .val (.int p2), .val (.int p3), .val (.int p4), .val (.int (p0 &&& (3 : Int32))), .val (.ref rr581), .val (.ref rr583), .val .null] [])) (fun _ kt => XS.ifYes X586.here hx rfl (pc0 := 109) (pc' := 120) rfl (hb hby at_109) rfl ((if0 _ _).trans (teq c589).1) (by decide) (by decide) kt) ?_
        have hE : own_eqv 5 own_t0 rnn581 rt581 = 0 := by rw [own_eqv_comm]; exact c589
        refine Rch.of (T' := T586) (g' := (mkF m 122 #[.val (.int p0), .val (.long p1), .second, .val (.int p2), .val (.int p3), .val (.int p4), .val (.int (p0 &&& (3 : Int32))), .val (.ref rr581), .val (.ref rr583), .val .null] [(.ref rr581)])) (fun _ kt => XS.aload X586.here hx rfl (hb hby at_120) rfl rfl kt) ?_
        obtain ⟨s590, T590, h590, k590, sb590, kc590, X590, e590, E590, hS590, hk590, hZ, hown, Ex590, Fa590, Fb590, Ar590, la590, lb590, cr590, Lt590, sf590, st590⟩ := ldcCH (s := s) (vm0 := T585.vm) X586 hx hZ hown (hw _ (List.mem_of_getElem? (i := 80) rfl)) wS hQ586 hS585 hk585 hEL (List.mem_of_getElem? (i := 1) rfl) (((R0.trans cr581).trans (CHr.keep K583 all0 (R0.trans cr581).1)).trans cr585).1 (z := (7 : Int32)) own_t1_ok.1 (by decide) (by decide) (g := (mkF m 122 #[.val (.int p0), .val (.long p1), .second, .val (.int p2), .val (.int p3), .val (.int p4), .val (.int (p0 &&& (3 : Int32))), .val (.ref rr581), .val (.ref rr583), .val .null] [(.ref rr581)])) rfl (hb hby at_122) (n := 28) (by decide) (by decide) (by decide) (by decide)
        have V590 : Av Z h590 sb590 .byte 7 (fun q => .int ((own_t1 q).toInt8.toInt32)) := (Arv.av Ar590 (by decide)).congr own_t1_ok.2
        refine Rch.of (T' := T590) (g' := (mkF m 124 #[.val (.int p0), .val (.long p1), .second, .val (.int p2), .val (.int p3), .val (.int p4), .val (.int (p0 &&& (3 : Int32))), .val (.ref rr581), .val (.ref rr583), .val .null] [(.ref s590), (.ref rr581)])) st590 ?_
        have pr592 : rnn581 ≤ 7 := by omega
        have pr593 : 7 ≤ 7 := by omega
        obtain ⟨cq591, kq591, q591a, q591b, q591c⟩ := isOf hZ e590 (((Ex581.keep K583).ext E585).ext E590)
        obtain ⟨_, _, ⟨T591, L591, k591, n591⟩, -, X591, ⟨Lc591, hQ591, l591, y591, z591⟩, st591⟩ := X590.virtualBack hx (y := (⟨"java/lang/String", "equals", "(Ljava/lang/Object;)Z"⟩ : MethodName)) (z := (⟨"java/lang/String", "equals", "(Ljava/lang/Object;)Z"⟩ : MethodName)) hown (mvT hZ (hw _ (List.mem_of_getElem? (i := 79) rfl))) (mvT hZ (hw _ (List.mem_of_getElem? (i := 62) rfl))) (notFace_of_selects (args := #[]) (mvT hZ (hw _ (List.mem_of_getElem? (i := 64) rfl)))) (mvT hZ (hw _ (List.mem_of_getElem? (i := 64) rfl))) (mvT hZ (hw _ (List.mem_of_getElem? (i := 63) rfl))) (by decide) (backOf (W := 0) (rqEQ l Z a0 hw [] rr581 rb581 rnn581 rt581 s590 sb590 7 own_t1 cs h590 n0 (Nat.le_trans (Nat.le_trans (Nat.le_trans (Nat.le_trans Z0 K581.1) K583.1) E585.1) E590.1) (((Ex581.keep K583).ext E585).ext E590) (((Fa581.keep K583 nin0).ext E585).ext E590) (((Fb581.keep K583 nin0).ext E585).ext E590) (((V581.keep K583 nin0).ext E585).ext E590) Ex590 Fa590 Fb590 V590 pr592 pr593 Ch581 own_chW (((S1.ext ((O0.keep K581 all0).keep K583 all0).2).ext E585).ext E590) hcs) hZ (hw _ (List.mem_of_getElem? (i := 65) rfl)) (hw _ (List.mem_of_getElem? (i := 11) rfl)) (by decide) (by decide)) q591a q591c (g := (mkF m 124 #[.val (.int p0), .val (.long p1), .second, .val (.int p2), .val (.int p3), .val (.int p4), .val (.int (p0 &&& (3 : Int32))), .val (.ref rr581), .val (.ref rr583), .val .null] [(.ref s590), (.ref rr581)])) rfl (by rw [hml]; rfl) (Steps.refl _) (argsL := [(.ref s590)]) (rest := []) (lenOf pd_11 rfl) rfl (by show 2 * 0 + _ ≤ _; exact Nat.le_of_eq rfl) (hb hby at_124) (fun _ _ => ⟨rfl, e590, (by decide : 12 + 0 ≤ _), (by decide : 78 + 0 ≤ _)⟩)
        dsimp only [Pt.U, Pt.locs, Pt.cells, Pt.slots] at X591 l591 y591 z591 st591 hQ591
        subst l591 y591 z591
        obtain ⟨rfl, N591q, hQ591⟩ := hQ591
        have N591 := Fr.app N586 N591q
        refine Rch.via (T' := T591) (g' := (mkF m 127 #[.val (.int p0), .val (.long p1), .second, .val (.int p2), .val (.int p3), .val (.int p4), .val (.int (p0 &&& (3 : Int32))), .val (.ref rr581), .val (.ref rr583), .val .null] [(.int (own_eqv rnn581 rt581 7 own_t1))])) st591 ?_
        by_cases c594 : (own_eqv rnn581 rt581 7 own_t1) = (0 : Int32)
        · skip
          refine Rch.of (T' := T591) (g' := (mkF m 135 #[.val (.int p0), .val (.long p1), .second, .val (.int p2), .val (.int p3), .val (.int p4), .val (.int (p0 &&& (3 : Int32))), .val (.ref rr581), .val (.ref rr583), .val .null] [])) (fun _ kt => XS.ifYes X591.here hx rfl (pc0 := 127) (pc' := 135) rfl (hb hby at_127) rfl ((if0 _ _).trans (teq c594).1) (by decide) (by decide) kt) ?_
          have hW : own_eqv 7 own_t1 rnn581 rt581 = 0 := by rw [own_eqv_comm]; exact c594
          have hv : rv1583 = .null := I3583 hE hW
          have Fv2 : Fld Z h590 rr583 "java/util/Optional" "value" "Ljava/lang/Object;" .null := by rw [← hv]; exact ((Fa583.ext E585).ext E590)
          refine Rch.of (T' := T591) (g' := (mkF m 137 #[.val (.int p0), .val (.long p1), .second, .val (.int p2), .val (.int p3), .val (.int p4), .val (.int (p0 &&& (3 : Int32))), .val (.ref rr581), .val (.ref rr583), .val .null] [.null])) (fun _ kt => XS.aload X591.here hx rfl (hb hby at_135) rfl rfl kt) ?_
          refine Rch.of (T' := T591) (g' := (mkF m 140 #[.val (.int p0), .val (.long p1), .second, .val (.int p2), .val (.int p3), .val (.int p4), .val (.int (p0 &&& (3 : Int32))), .val (.ref rr581), .val (.ref rr583), .val .null] [])) (fun _ kt => XS.ifnonnullNo X591.here hx rfl (hb hby at_137) rfl kt) ?_
          refine Rch.of (T' := T591) (g' := (mkF m 142 #[.val (.int p0), .val (.long p1), .second, .val (.int p2), .val (.int p3), .val (.int p4), .val (.int (p0 &&& (3 : Int32))), .val (.ref rr581), .val (.ref rr583), .val .null] [(.ref rr583)])) (fun _ kt => XS.aload X591.here hx rfl (hb hby at_140) rfl rfl kt) ?_
          obtain ⟨cq595, kq595, q595a, q595b, q595c⟩ := isOf hZ hQ591 ((Ex583.ext E585).ext E590)
          obtain ⟨_, _, ⟨T595, L595, k595, n595⟩, -, X595, ⟨Lc595, hQ595, l595, y595, z595⟩, st595⟩ := X591.virtualBack hx (y := (⟨"java/util/Optional", "isPresent", "()Z"⟩ : MethodName)) (z := (⟨"java/util/Optional", "isPresent", "()Z"⟩ : MethodName)) hown (mvT hZ (hw _ (List.mem_of_getElem? (i := 81) rfl))) (mvT hZ (hw _ (List.mem_of_getElem? (i := 82) rfl))) (notFace_of_selects (args := #[]) (mvT hZ (hw _ (List.mem_of_getElem? (i := 84) rfl)))) (mvT hZ (hw _ (List.mem_of_getElem? (i := 84) rfl))) (mvT hZ (hw _ (List.mem_of_getElem? (i := 83) rfl))) (by decide) (backOf (W := 0) (rkOPn l Z a0 hw [] rr583 h590 n0 (Nat.le_trans (Nat.le_trans (Nat.le_trans (Nat.le_trans Z0 K581.1) K583.1) E585.1) E590.1) Fv2) hZ (hw _ (List.mem_of_getElem? (i := 85) rfl)) (hw _ (List.mem_of_getElem? (i := 73) rfl)) (by decide) (by decide)) q595a q595c (g := (mkF m 142 #[.val (.int p0), .val (.long p1), .second, .val (.int p2), .val (.int p3), .val (.int p4), .val (.int (p0 &&& (3 : Int32))), .val (.ref rr581), .val (.ref rr583), .val .null] [(.ref rr583)])) rfl (by rw [hml]; rfl) (Steps.refl _) (argsL := []) (rest := []) (lenOf pd_14 rfl) rfl (by show 2 * 0 + _ ≤ _; exact Nat.le_of_eq rfl) (hb hby at_142) (fun _ _ => ⟨rfl, hQ591, (by decide : 12 + 0 ≤ _), (by decide : 78 + 0 ≤ _)⟩)
          dsimp only [Pt.U, Pt.locs, Pt.cells, Pt.slots] at X595 l595 y595 z595 st595 hQ595
          subst l595 y595 z595
          obtain ⟨rfl, N595q, hQ595⟩ := hQ595
          have N595 := Fr.app N591 N595q
          refine Rch.via (T' := T595) (g' := (mkF m 145 #[.val (.int p0), .val (.long p1), .second, .val (.int p2), .val (.int p3), .val (.int p4), .val (.int (p0 &&& (3 : Int32))), .val (.ref rr581), .val (.ref rr583), .val .null] [(.int (0 : Int32))])) st595 ?_
          refine Rch.of (T' := T595) (g' := (mkF m 148 #[.val (.int p0), .val (.long p1), .second, .val (.int p2), .val (.int p3), .val (.int p4), .val (.int (p0 &&& (3 : Int32))), .val (.ref rr581), .val (.ref rr583), .val .null] [])) (fun _ kt => XS.ifNo X595.here hx rfl (hb hby at_145) rfl ((if0 _ _).trans (teq ((by decide) : (0 : Int32) = (0 : Int32))).2) kt) ?_
          refine Rch.of (T' := T595) (g' := (mkF m 149 #[.val (.int p0), .val (.long p1), .second, .val (.int p2), .val (.int p3), .val (.int p4), .val (.int (p0 &&& (3 : Int32))), .val (.ref rr581), .val (.ref rr583), .val .null] [(.int (1 : Int32))])) (fun _ kt => XS.iconst X595.here hx rfl (hb hby at_148) kt) ?_
          refine Rch.of (T' := T595) (g' := (mkF m 153 #[.val (.int p0), .val (.long p1), .second, .val (.int p2), .val (.int p3), .val (.int p4), .val (.int (p0 &&& (3 : Int32))), .val (.ref rr581), .val (.ref rr583), .val .null] [(.int (1 : Int32))])) (fun _ kt => XS.goto X595.here hx rfl (pc0 := 149) (pc' := 153) rfl (hb hby at_149) (by decide) (by decide) kt) ?_
          exact Rch.retN X595 hx (t := .boolean) hret (by simp) hlk (hb hby at_153) (fun U hU hF => hK _ U _ _ _ (by show Q_rm0 Z p0 p1 p2 p3 p4 av1 er wa le lw be bw em cs sv h0 n0 _ U.heap _; rw [hU, hQ595]; exact ⟨rfl, N595, trivial⟩) (own_endH hZ hEL ((((R0.trans cr581).trans (CHr.keep K583 all0 (R0.trans cr581).1)).trans cr585).trans cr590) (hU.trans hQ595) hF) (own_end hS590 (by rw [hU, hQ595]; exact hk590) hF) (by decide) (by decide))
        · skip
          refine Rch.of (T' := T591) (g' := (mkF m 130 #[.val (.int p0), .val (.long p1), .second, .val (.int p2), .val (.int p3), .val (.int p4), .val (.int (p0 &&& (3 : Int32))), .val (.ref rr581), .val (.ref rr583), .val .null] [])) (fun _ kt => XS.ifNo X591.here hx rfl (hb hby at_127) rfl ((if0 _ _).trans (feq c594).1) kt) ?_
          have hW : ¬ own_eqv 7 own_t1 rnn581 rt581 = 0 := by rw [own_eqv_comm]; exact c594
          have hv : rv1583 = (.ref wa) := I2583 hE hW
          have Fv2 : Fld Z h590 rr583 "java/util/Optional" "value" "Ljava/lang/Object;" (.ref wa) := by rw [← hv]; exact ((Fa583.ext E585).ext E590)
          obtain ⟨T596, X596, e596, st596⟩ := getS2 X591 hx hZ hown (host := "") (Or.inl (hw _ (List.mem_of_getElem? (i := 137) rfl))) Via.refl hQ591 (((S7.ext ((O0.keep K581 all0).keep K583 all0).2).ext E585).ext E590) (g := (mkF m 130 #[.val (.int p0), .val (.long p1), .second, .val (.int p2), .val (.int p3), .val (.int p4), .val (.int (p0 &&& (3 : Int32))), .val (.ref rr581), .val (.ref rr583), .val .null] [])) rfl (hb hby at_130)
          refine Rch.of (T' := T596) (g' := (mkF m 133 #[.val (.int p0), .val (.long p1), .second, .val (.int p2), .val (.int p3), .val (.int p4), .val (.int (p0 &&& (3 : Int32))), .val (.ref rr581), .val (.ref rr583), .val .null] [(.ref wa)])) st596 ?_
          refine Rch.of (T' := T596) (g' := (mkF m 135 #[.val (.int p0), .val (.long p1), .second, .val (.int p2), .val (.int p3), .val (.int p4), .val (.int (p0 &&& (3 : Int32))), .val (.ref rr581), .val (.ref rr583), .val (.ref wa)] [])) (fun _ kt => XS.astore X596.here hx rfl (hb hby at_133) rfl rfl (l' := #[.val (.int p0), .val (.long p1), .second, .val (.int p2), .val (.int p3), .val (.int p4), .val (.int (p0 &&& (3 : Int32))), .val (.ref rr581), .val (.ref rr583), .val (.ref wa)]) rfl kt) ?_
          refine Rch.of (T' := T596) (g' := (mkF m 137 #[.val (.int p0), .val (.long p1), .second, .val (.int p2), .val (.int p3), .val (.int p4), .val (.int (p0 &&& (3 : Int32))), .val (.ref rr581), .val (.ref rr583), .val (.ref wa)] [(.ref wa)])) (fun _ kt => XS.aload X596.here hx rfl (hb hby at_135) rfl rfl kt) ?_
          refine Rch.of (T' := T596) (g' := (mkF m 154 #[.val (.int p0), .val (.long p1), .second, .val (.int p2), .val (.int p3), .val (.int p4), .val (.int (p0 &&& (3 : Int32))), .val (.ref rr581), .val (.ref rr583), .val (.ref wa)] [])) (fun _ kt => XS.ifnonnullYes X596.here hx rfl (pc0 := 137) (pc' := 154) rfl (hb hby at_137) rfl (by decide) (by decide) kt) ?_
          refine Rch.of (T' := T596) (g' := (mkF m 156 #[.val (.int p0), .val (.long p1), .second, .val (.int p2), .val (.int p3), .val (.int p4), .val (.int (p0 &&& (3 : Int32))), .val (.ref rr581), .val (.ref rr583), .val (.ref wa)] [(.ref rr583)])) (fun _ kt => XS.aload X596.here hx rfl (hb hby at_154) rfl rfl kt) ?_
          obtain ⟨cq597, kq597, q597a, q597b, q597c⟩ := isOf hZ e596 ((Ex583.ext E585).ext E590)
          obtain ⟨_, _, ⟨T597, L597, k597, n597⟩, -, X597, ⟨Lc597, hQ597, l597, y597, z597⟩, st597⟩ := X596.virtualBack hx (y := (⟨"java/util/Optional", "isPresent", "()Z"⟩ : MethodName)) (z := (⟨"java/util/Optional", "isPresent", "()Z"⟩ : MethodName)) hown (mvT hZ (hw _ (List.mem_of_getElem? (i := 81) rfl))) (mvT hZ (hw _ (List.mem_of_getElem? (i := 82) rfl))) (notFace_of_selects (args := #[]) (mvT hZ (hw _ (List.mem_of_getElem? (i := 84) rfl)))) (mvT hZ (hw _ (List.mem_of_getElem? (i := 84) rfl))) (mvT hZ (hw _ (List.mem_of_getElem? (i := 83) rfl))) (by decide) (backOf (W := 0) (rkOPr l Z a0 hw [] rr583 wa h590 n0 (Nat.le_trans (Nat.le_trans (Nat.le_trans (Nat.le_trans Z0 K581.1) K583.1) E585.1) E590.1) Fv2) hZ (hw _ (List.mem_of_getElem? (i := 85) rfl)) (hw _ (List.mem_of_getElem? (i := 73) rfl)) (by decide) (by decide)) q597a q597c (g := (mkF m 156 #[.val (.int p0), .val (.long p1), .second, .val (.int p2), .val (.int p3), .val (.int p4), .val (.int (p0 &&& (3 : Int32))), .val (.ref rr581), .val (.ref rr583), .val (.ref wa)] [(.ref rr583)])) rfl (by rw [hml]; rfl) (Steps.refl _) (argsL := []) (rest := []) (lenOf pd_14 rfl) rfl (by show 2 * 0 + _ ≤ _; exact Nat.le_of_eq rfl) (hb hby at_156) (fun _ _ => ⟨rfl, e596, (by decide : 12 + 0 ≤ _), (by decide : 78 + 0 ≤ _)⟩)
          dsimp only [Pt.U, Pt.locs, Pt.cells, Pt.slots] at X597 l597 y597 z597 st597 hQ597
          subst l597 y597 z597
          obtain ⟨rfl, N597q, hQ597⟩ := hQ597
          have N597 := Fr.app N591 N597q
          refine Rch.via (T' := T597) (g' := (mkF m 159 #[.val (.int p0), .val (.long p1), .second, .val (.int p2), .val (.int p3), .val (.int p4), .val (.int (p0 &&& (3 : Int32))), .val (.ref rr581), .val (.ref rr583), .val (.ref wa)] [(.int (1 : Int32))])) st597 ?_
          refine Rch.of (T' := T597) (g' := (mkF m 162 #[.val (.int p0), .val (.long p1), .second, .val (.int p2), .val (.int p3), .val (.int p4), .val (.int (p0 &&& (3 : Int32))), .val (.ref rr581), .val (.ref rr583), .val (.ref wa)] [])) (fun _ kt => XS.ifNo X597.here hx rfl (hb hby at_159) rfl ((if0 _ _).trans (feq ((by decide) : ¬ ((1 : Int32) = (0 : Int32)))).1) kt) ?_
          refine Rch.of (T' := T597) (g' := (mkF m 164 #[.val (.int p0), .val (.long p1), .second, .val (.int p2), .val (.int p3), .val (.int p4), .val (.int (p0 &&& (3 : Int32))), .val (.ref rr581), .val (.ref rr583), .val (.ref wa)] [(.ref rr583)])) (fun _ kt => XS.aload X597.here hx rfl (hb hby at_162) rfl rfl kt) ?_
          obtain ⟨cq598, kq598, q598a, q598b, q598c⟩ := isOf hZ hQ597 ((Ex583.ext E585).ext E590)
          obtain ⟨_, _, ⟨T598, L598, k598, n598⟩, -, X598, ⟨Lc598, hQ598, l598, y598, z598⟩, st598⟩ := X597.virtualBack hx (y := (⟨"java/util/Optional", "get", "()Ljava/lang/Object;"⟩ : MethodName)) (z := (⟨"java/util/Optional", "get", "()Ljava/lang/Object;"⟩ : MethodName)) hown (mvT hZ (hw _ (List.mem_of_getElem? (i := 138) rfl))) (mvT hZ (hw _ (List.mem_of_getElem? (i := 139) rfl))) (notFace_of_selects (args := #[]) (mvT hZ (hw _ (List.mem_of_getElem? (i := 141) rfl)))) (mvT hZ (hw _ (List.mem_of_getElem? (i := 141) rfl))) (mvT hZ (hw _ (List.mem_of_getElem? (i := 140) rfl))) (by decide) (backOf (W := 0) (rkOG l Z a0 hw [] rr583 wa h590 n0 (Nat.le_trans (Nat.le_trans (Nat.le_trans (Nat.le_trans Z0 K581.1) K583.1) E585.1) E590.1) Fv2) hZ (hw _ (List.mem_of_getElem? (i := 142) rfl)) (hw _ (List.mem_of_getElem? (i := 73) rfl)) (by decide) (by decide)) q598a q598c (g := (mkF m 164 #[.val (.int p0), .val (.long p1), .second, .val (.int p2), .val (.int p3), .val (.int p4), .val (.int (p0 &&& (3 : Int32))), .val (.ref rr581), .val (.ref rr583), .val (.ref wa)] [(.ref rr583)])) rfl (by rw [hml]; rfl) (Steps.refl _) (argsL := []) (rest := []) (lenOf pd_10 rfl) rfl (by show 2 * 0 + _ ≤ _; exact Nat.le_of_eq rfl) (hb hby at_164) (fun _ _ => ⟨rfl, hQ597, (by decide : 12 + 0 ≤ _), (by decide : 78 + 0 ≤ _)⟩)
          dsimp only [Pt.U, Pt.locs, Pt.cells, Pt.slots] at X598 l598 y598 z598 st598 hQ598
          subst l598 y598 z598
          obtain ⟨rfl, N598q, hQ598⟩ := hQ598
          have N598 := Fr.app N597 N598q
          refine Rch.via (T' := T598) (g' := (mkF m 167 #[.val (.int p0), .val (.long p1), .second, .val (.int p2), .val (.int p3), .val (.int p4), .val (.int (p0 &&& (3 : Int32))), .val (.ref rr581), .val (.ref rr583), .val (.ref wa)] [(.ref wa)])) st598 ?_
          refine Rch.of (T' := T598) (g' := (mkF m 169 #[.val (.int p0), .val (.long p1), .second, .val (.int p2), .val (.int p3), .val (.int p4), .val (.int (p0 &&& (3 : Int32))), .val (.ref rr581), .val (.ref rr583), .val (.ref wa)] [(.ref wa), (.ref wa)])) (fun _ kt => XS.aload X598.here hx rfl (hb hby at_167) rfl rfl kt) ?_
          refine Rch.of (T' := T598) (g' := (mkF m 172 #[.val (.int p0), .val (.long p1), .second, .val (.int p2), .val (.int p3), .val (.int p4), .val (.int (p0 &&& (3 : Int32))), .val (.ref rr581), .val (.ref rr583), .val (.ref wa)] [])) (fun _ kt => Jvm.RoadKit.acmp (g := (mkF m 169 #[.val (.int p0), .val (.long p1), .second, .val (.int p2), .val (.int p3), .val (.int p4), .val (.int (p0 &&& (3 : Int32))), .val (.ref rr581), .val (.ref rr583), .val (.ref wa)] [(.ref wa), (.ref wa)])) X598 hx rfl rfl rfl (pc0 := 169) (pc' := 172) (same := true) rfl (hb hby at_169) rfl (decide_eq_true rfl) (by decide) (by decide) kt) ?_
          refine Rch.of (T' := T598) (g' := (mkF m 173 #[.val (.int p0), .val (.long p1), .second, .val (.int p2), .val (.int p3), .val (.int p4), .val (.int (p0 &&& (3 : Int32))), .val (.ref rr581), .val (.ref rr583), .val (.ref wa)] [(.int (1 : Int32))])) (fun _ kt => XS.iconst X598.here hx rfl (hb hby at_172) kt) ?_
          refine Rch.of (T' := T598) (g' := (mkF m 177 #[.val (.int p0), .val (.long p1), .second, .val (.int p2), .val (.int p3), .val (.int p4), .val (.int (p0 &&& (3 : Int32))), .val (.ref rr581), .val (.ref rr583), .val (.ref wa)] [(.int (1 : Int32))])) (fun _ kt => XS.goto X598.here hx rfl (pc0 := 173) (pc' := 177) rfl (hb hby at_173) (by decide) (by decide) kt) ?_
          exact Rch.retN X598 hx (t := .boolean) hret (by simp) hlk (hb hby at_177) (fun U hU hF => hK _ U _ _ _ (by show Q_rm0 Z p0 p1 p2 p3 p4 av1 er wa le lw be bw em cs sv h0 n0 _ U.heap _; rw [hU, hQ598]; exact ⟨rfl, N598, trivial⟩) (own_endH hZ hEL ((((R0.trans cr581).trans (CHr.keep K583 all0 (R0.trans cr581).1)).trans cr585).trans cr590) (hU.trans hQ598) hF) (own_end hS590 (by rw [hU, hQ598]; exact hk590) hF) (by decide) (by decide))
      · skip
        refine Rch.of (T' := T586) (g' := (mkF m 112 #[.val (.int p0), .val (.long p1), .second, .val (.int p2), .val (.int p3), .val (.int p4), .val (.int (p0 &&& (3 : Int32))), .val (.ref rr581), .val (.ref rr583), .val .null] [])) (fun _ kt => XS.ifNo X586.here hx rfl (hb hby at_109) rfl ((if0 _ _).trans (feq c589).1) kt) ?_
        have hE : ¬ own_eqv 5 own_t0 rnn581 rt581 = 0 := by rw [own_eqv_comm]; exact c589
        have hv : rv1583 = (.ref er) := I1583 hE
        have Fv2 : Fld Z h585 rr583 "java/util/Optional" "value" "Ljava/lang/Object;" (.ref er) := by rw [← hv]; exact (Fa583.ext E585)
        obtain ⟨T599, X599, e599, st599⟩ := getS2 X586 hx hZ hown (host := "") (Or.inl (hw _ (List.mem_of_getElem? (i := 144) rfl))) Via.refl hQ586 ((S6.ext ((O0.keep K581 all0).keep K583 all0).2).ext E585) (g := (mkF m 112 #[.val (.int p0), .val (.long p1), .second, .val (.int p2), .val (.int p3), .val (.int p4), .val (.int (p0 &&& (3 : Int32))), .val (.ref rr581), .val (.ref rr583), .val .null] [])) rfl (hb hby at_112)
        refine Rch.of (T' := T599) (g' := (mkF m 115 #[.val (.int p0), .val (.long p1), .second, .val (.int p2), .val (.int p3), .val (.int p4), .val (.int (p0 &&& (3 : Int32))), .val (.ref rr581), .val (.ref rr583), .val .null] [(.ref er)])) st599 ?_
        refine Rch.of (T' := T599) (g' := (mkF m 117 #[.val (.int p0), .val (.long p1), .second, .val (.int p2), .val (.int p3), .val (.int p4), .val (.int (p0 &&& (3 : Int32))), .val (.ref rr581), .val (.ref rr583), .val (.ref er)] [])) (fun _ kt => XS.astore X599.here hx rfl (hb hby at_115) rfl rfl (l' := #[.val (.int p0), .val (.long p1), .second, .val (.int p2), .val (.int p3), .val (.int p4), .val (.int (p0 &&& (3 : Int32))), .val (.ref rr581), .val (.ref rr583), .val (.ref er)]) rfl kt) ?_
        refine Rch.of (T' := T599) (g' := (mkF m 135 #[.val (.int p0), .val (.long p1), .second, .val (.int p2), .val (.int p3), .val (.int p4), .val (.int (p0 &&& (3 : Int32))), .val (.ref rr581), .val (.ref rr583), .val (.ref er)] [])) (fun _ kt => XS.goto X599.here hx rfl (pc0 := 117) (pc' := 135) rfl (hb hby at_117) (by decide) (by decide) kt) ?_
        refine Rch.of (T' := T599) (g' := (mkF m 137 #[.val (.int p0), .val (.long p1), .second, .val (.int p2), .val (.int p3), .val (.int p4), .val (.int (p0 &&& (3 : Int32))), .val (.ref rr581), .val (.ref rr583), .val (.ref er)] [(.ref er)])) (fun _ kt => XS.aload X599.here hx rfl (hb hby at_135) rfl rfl kt) ?_
        refine Rch.of (T' := T599) (g' := (mkF m 154 #[.val (.int p0), .val (.long p1), .second, .val (.int p2), .val (.int p3), .val (.int p4), .val (.int (p0 &&& (3 : Int32))), .val (.ref rr581), .val (.ref rr583), .val (.ref er)] [])) (fun _ kt => XS.ifnonnullYes X599.here hx rfl (pc0 := 137) (pc' := 154) rfl (hb hby at_137) rfl (by decide) (by decide) kt) ?_
        refine Rch.of (T' := T599) (g' := (mkF m 156 #[.val (.int p0), .val (.long p1), .second, .val (.int p2), .val (.int p3), .val (.int p4), .val (.int (p0 &&& (3 : Int32))), .val (.ref rr581), .val (.ref rr583), .val (.ref er)] [(.ref rr583)])) (fun _ kt => XS.aload X599.here hx rfl (hb hby at_154) rfl rfl kt) ?_
        obtain ⟨cq600, kq600, q600a, q600b, q600c⟩ := isOf hZ e599 (Ex583.ext E585)
        obtain ⟨_, _, ⟨T600, L600, k600, n600⟩, -, X600, ⟨Lc600, hQ600, l600, y600, z600⟩, st600⟩ := X599.virtualBack hx (y := (⟨"java/util/Optional", "isPresent", "()Z"⟩ : MethodName)) (z := (⟨"java/util/Optional", "isPresent", "()Z"⟩ : MethodName)) hown (mvT hZ (hw _ (List.mem_of_getElem? (i := 81) rfl))) (mvT hZ (hw _ (List.mem_of_getElem? (i := 82) rfl))) (notFace_of_selects (args := #[]) (mvT hZ (hw _ (List.mem_of_getElem? (i := 84) rfl)))) (mvT hZ (hw _ (List.mem_of_getElem? (i := 84) rfl))) (mvT hZ (hw _ (List.mem_of_getElem? (i := 83) rfl))) (by decide) (backOf (W := 0) (rkOPr l Z a0 hw [] rr583 er h585 n0 (Nat.le_trans (Nat.le_trans (Nat.le_trans Z0 K581.1) K583.1) E585.1) Fv2) hZ (hw _ (List.mem_of_getElem? (i := 85) rfl)) (hw _ (List.mem_of_getElem? (i := 73) rfl)) (by decide) (by decide)) q600a q600c (g := (mkF m 156 #[.val (.int p0), .val (.long p1), .second, .val (.int p2), .val (.int p3), .val (.int p4), .val (.int (p0 &&& (3 : Int32))), .val (.ref rr581), .val (.ref rr583), .val (.ref er)] [(.ref rr583)])) rfl (by rw [hml]; rfl) (Steps.refl _) (argsL := []) (rest := []) (lenOf pd_14 rfl) rfl (by show 2 * 0 + _ ≤ _; exact Nat.le_of_eq rfl) (hb hby at_156) (fun _ _ => ⟨rfl, e599, (by decide : 10 + 0 ≤ _), (by decide : 46 + 0 ≤ _)⟩)
        dsimp only [Pt.U, Pt.locs, Pt.cells, Pt.slots] at X600 l600 y600 z600 st600 hQ600
        subst l600 y600 z600
        obtain ⟨rfl, N600q, hQ600⟩ := hQ600
        have N600 := Fr.app N586 N600q
        refine Rch.via (T' := T600) (g' := (mkF m 159 #[.val (.int p0), .val (.long p1), .second, .val (.int p2), .val (.int p3), .val (.int p4), .val (.int (p0 &&& (3 : Int32))), .val (.ref rr581), .val (.ref rr583), .val (.ref er)] [(.int (1 : Int32))])) st600 ?_
        refine Rch.of (T' := T600) (g' := (mkF m 162 #[.val (.int p0), .val (.long p1), .second, .val (.int p2), .val (.int p3), .val (.int p4), .val (.int (p0 &&& (3 : Int32))), .val (.ref rr581), .val (.ref rr583), .val (.ref er)] [])) (fun _ kt => XS.ifNo X600.here hx rfl (hb hby at_159) rfl ((if0 _ _).trans (feq ((by decide) : ¬ ((1 : Int32) = (0 : Int32)))).1) kt) ?_
        refine Rch.of (T' := T600) (g' := (mkF m 164 #[.val (.int p0), .val (.long p1), .second, .val (.int p2), .val (.int p3), .val (.int p4), .val (.int (p0 &&& (3 : Int32))), .val (.ref rr581), .val (.ref rr583), .val (.ref er)] [(.ref rr583)])) (fun _ kt => XS.aload X600.here hx rfl (hb hby at_162) rfl rfl kt) ?_
        obtain ⟨cq601, kq601, q601a, q601b, q601c⟩ := isOf hZ hQ600 (Ex583.ext E585)
        obtain ⟨_, _, ⟨T601, L601, k601, n601⟩, -, X601, ⟨Lc601, hQ601, l601, y601, z601⟩, st601⟩ := X600.virtualBack hx (y := (⟨"java/util/Optional", "get", "()Ljava/lang/Object;"⟩ : MethodName)) (z := (⟨"java/util/Optional", "get", "()Ljava/lang/Object;"⟩ : MethodName)) hown (mvT hZ (hw _ (List.mem_of_getElem? (i := 138) rfl))) (mvT hZ (hw _ (List.mem_of_getElem? (i := 139) rfl))) (notFace_of_selects (args := #[]) (mvT hZ (hw _ (List.mem_of_getElem? (i := 141) rfl)))) (mvT hZ (hw _ (List.mem_of_getElem? (i := 141) rfl))) (mvT hZ (hw _ (List.mem_of_getElem? (i := 140) rfl))) (by decide) (backOf (W := 0) (rkOG l Z a0 hw [] rr583 er h585 n0 (Nat.le_trans (Nat.le_trans (Nat.le_trans Z0 K581.1) K583.1) E585.1) Fv2) hZ (hw _ (List.mem_of_getElem? (i := 142) rfl)) (hw _ (List.mem_of_getElem? (i := 73) rfl)) (by decide) (by decide)) q601a q601c (g := (mkF m 164 #[.val (.int p0), .val (.long p1), .second, .val (.int p2), .val (.int p3), .val (.int p4), .val (.int (p0 &&& (3 : Int32))), .val (.ref rr581), .val (.ref rr583), .val (.ref er)] [(.ref rr583)])) rfl (by rw [hml]; rfl) (Steps.refl _) (argsL := []) (rest := []) (lenOf pd_10 rfl) rfl (by show 2 * 0 + _ ≤ _; exact Nat.le_of_eq rfl) (hb hby at_164) (fun _ _ => ⟨rfl, hQ600, (by decide : 10 + 0 ≤ _), (by decide : 46 + 0 ≤ _)⟩)
        dsimp only [Pt.U, Pt.locs, Pt.cells, Pt.slots] at X601 l601 y601 z601 st601 hQ601
        subst l601 y601 z601
        obtain ⟨rfl, N601q, hQ601⟩ := hQ601
        have N601 := Fr.app N600 N601q
        refine Rch.via (T' := T601) (g' := (mkF m 167 #[.val (.int p0), .val (.long p1), .second, .val (.int p2), .val (.int p3), .val (.int p4), .val (.int (p0 &&& (3 : Int32))), .val (.ref rr581), .val (.ref rr583), .val (.ref er)] [(.ref er)])) st601 ?_
        refine Rch.of (T' := T601) (g' := (mkF m 169 #[.val (.int p0), .val (.long p1), .second, .val (.int p2), .val (.int p3), .val (.int p4), .val (.int (p0 &&& (3 : Int32))), .val (.ref rr581), .val (.ref rr583), .val (.ref er)] [(.ref er), (.ref er)])) (fun _ kt => XS.aload X601.here hx rfl (hb hby at_167) rfl rfl kt) ?_
        refine Rch.of (T' := T601) (g' := (mkF m 172 #[.val (.int p0), .val (.long p1), .second, .val (.int p2), .val (.int p3), .val (.int p4), .val (.int (p0 &&& (3 : Int32))), .val (.ref rr581), .val (.ref rr583), .val (.ref er)] [])) (fun _ kt => Jvm.RoadKit.acmp (g := (mkF m 169 #[.val (.int p0), .val (.long p1), .second, .val (.int p2), .val (.int p3), .val (.int p4), .val (.int (p0 &&& (3 : Int32))), .val (.ref rr581), .val (.ref rr583), .val (.ref er)] [(.ref er), (.ref er)])) X601 hx rfl rfl rfl (pc0 := 169) (pc' := 172) (same := true) rfl (hb hby at_169) rfl (decide_eq_true rfl) (by decide) (by decide) kt) ?_
        refine Rch.of (T' := T601) (g' := (mkF m 173 #[.val (.int p0), .val (.long p1), .second, .val (.int p2), .val (.int p3), .val (.int p4), .val (.int (p0 &&& (3 : Int32))), .val (.ref rr581), .val (.ref rr583), .val (.ref er)] [(.int (1 : Int32))])) (fun _ kt => XS.iconst X601.here hx rfl (hb hby at_172) kt) ?_
        refine Rch.of (T' := T601) (g' := (mkF m 177 #[.val (.int p0), .val (.long p1), .second, .val (.int p2), .val (.int p3), .val (.int p4), .val (.int (p0 &&& (3 : Int32))), .val (.ref rr581), .val (.ref rr583), .val (.ref er)] [(.int (1 : Int32))])) (fun _ kt => XS.goto X601.here hx rfl (pc0 := 173) (pc' := 177) rfl (hb hby at_173) (by decide) (by decide) kt) ?_
        exact Rch.retN X601 hx (t := .boolean) hret (by simp) hlk (hb hby at_177) (fun U hU hF => hK _ U _ _ _ (by show Q_rm0 Z p0 p1 p2 p3 p4 av1 er wa le lw be bw em cs sv h0 n0 _ U.heap _; rw [hU, hQ601]; exact ⟨rfl, N601, trivial⟩) (own_endH hZ hEL (((R0.trans cr581).trans (CHr.keep K583 all0 (R0.trans cr581).1)).trans cr585) (hU.trans hQ601) hF) (own_end hS585 (by rw [hU, hQ601]; exact hk585) hF) (by decide) (by decide))
    · skip
      refine Rch.of (T' := T0) (g' := (mkF m 35 #[.val (.int p0), .val (.long p1), .second, .val (.int p2), .val (.int p3), .val (.int p4), .val (.int (p0 &&& (3 : Int32))), .unset, .unset, .unset] [])) (fun _ kt => XS.ifYes X0.here hx rfl (pc0 := 19) (pc' := 35) rfl (hb hby at_19) rfl ((if0 _ _).trans (feq c579).2) (by decide) (by decide) kt) ?_
      refine Rch.of (T' := T0) (g' := (mkF m 37 #[.val (.int p0), .val (.long p1), .second, .val (.int p2), .val (.int p3), .val (.int p4), .val (.int (p0 &&& (3 : Int32))), .unset, .unset, .unset] [(.int (p0 &&& (3 : Int32)))])) (fun _ kt => XS.iload X0.here hx rfl (hb hby at_35) rfl  kt) ?_
      refine Rch.of (T' := T0) (g' := (mkF m 38 #[.val (.int p0), .val (.long p1), .second, .val (.int p2), .val (.int p3), .val (.int p4), .val (.int (p0 &&& (3 : Int32))), .unset, .unset, .unset] [(.int (1 : Int32)), (.int (p0 &&& (3 : Int32)))])) (fun _ kt => XS.iconst X0.here hx rfl (hb hby at_37) kt) ?_
      by_cases c602 : (p0 &&& (3 : Int32)) = (1 : Int32)
      · skip
        refine Rch.of (T' := T0) (g' := (mkF m 41 #[.val (.int p0), .val (.long p1), .second, .val (.int p2), .val (.int p3), .val (.int p4), .val (.int (p0 &&& (3 : Int32))), .unset, .unset, .unset] [])) (fun _ kt => XS.icmpNo X0.here hx rfl (hb hby at_38) rfl (teq c602).2 kt) ?_
        obtain ⟨s603, T603, h603, k603, sb603, kc603, X603, e603, E603, hS603, hk603, hZ, hown, Ex603, Fa603, Fb603, Ar603, la603, lb603, cr603, Lt603, sf603, st603⟩ := ldcCH (s := s) (vm0 := s.vm) X0 hx hZ hown (hw _ (List.mem_of_getElem? (i := 76) rfl)) wS e0 hS0 hk0 hEL (List.mem_of_getElem? (i := 0) rfl) R0.1 (z := (5 : Int32)) own_t0_ok.1 (by decide) (by decide) (g := (mkF m 41 #[.val (.int p0), .val (.long p1), .second, .val (.int p2), .val (.int p3), .val (.int p4), .val (.int (p0 &&& (3 : Int32))), .unset, .unset, .unset] [])) rfl (hb hby at_41) (n := 20) (by decide) (by decide) (by decide) (by decide)
        have V603 : Av Z h603 sb603 .byte 5 (fun q => .int ((own_t0 q).toInt8.toInt32)) := (Arv.av Ar603 (by decide)).congr own_t0_ok.2
        refine Rch.of (T' := T603) (g' := (mkF m 43 #[.val (.int p0), .val (.long p1), .second, .val (.int p2), .val (.int p3), .val (.int p4), .val (.int (p0 &&& (3 : Int32))), .unset, .unset, .unset] [(.ref s603)])) st603 ?_
        refine Rch.of (T' := T603) (g' := (mkF m 44 #[.val (.int p0), .val (.long p1), .second, .val (.int p2), .val (.int p3), .val (.int p4), .val (.int (p0 &&& (3 : Int32))), .unset, .unset, .unset] [(.int p2), (.ref s603)])) (fun _ kt => XS.iloadN X603.here hx rfl (hb hby at_43) rfl  kt) ?_
        refine Rch.of (T' := T603) (g' := (mkF m 45 #[.val (.int p0), .val (.long p1), .second, .val (.int p2), .val (.int p3), .val (.int p4), .val (.int (p0 &&& (3 : Int32))), .unset, .unset, .unset] [(.int (1 : Int32)), (.int p2), (.ref s603)])) (fun _ kt => XS.iconst X603.here hx rfl (hb hby at_44) kt) ?_
        refine Rch.of (T' := T603) (g' := (mkF m 46 #[.val (.int p0), .val (.long p1), .second, .val (.int p2), .val (.int p3), .val (.int p4), .val (.int (p0 &&& (3 : Int32))), .unset, .unset, .unset] [(.int (p2 &&& (1 : Int32))), (.ref s603)])) (fun _ kt => XS.iand X603.here hx rfl (hb hby at_45) rfl kt) ?_
        obtain ⟨k, hk, ek⟩ := own_andk p2 1 (by decide)
        have sw604 : (p2 &&& (1 : Int32)) = (Int32.ofNat k) := ek
        rw [sw604]
        show Rch p e below K T603 (mkF m 46 #[.val (.int p0), .val (.long p1), .second, .val (.int p2), .val (.int p3), .val (.int p4), .val (.int (p0 &&& (3 : Int32))), .unset, .unset, .unset] [(.int (Int32.ofNat k)), (.ref s603)])
        refine Rch.of (T' := T603) (g' := (mkF m 48 #[.val (.int p0), .val (.long p1), .second, .val (.int p2), .val (.int p3), .val (.int p4), .val (.int (p0 &&& (3 : Int32))), .unset, .unset, .unset] [(.int p3), (.int (Int32.ofNat k)), (.ref s603)])) (fun _ kt => XS.iload X603.here hx rfl (hb hby at_46) rfl  kt) ?_
        refine Rch.of (T' := T603) (g' := (mkF m 50 #[.val (.int p0), .val (.long p1), .second, .val (.int p2), .val (.int p3), .val (.int p4), .val (.int (p0 &&& (3 : Int32))), .unset, .unset, .unset] [(.int p4), (.int p3), (.int (Int32.ofNat k)), (.ref s603)])) (fun _ kt => XS.iload X603.here hx rfl (hb hby at_48) rfl  kt) ?_
        refine Rch.of (T' := T603) (g' := (mkF m 53 #[.val (.int p0), .val (.long p1), .second, .val (.int p2), .val (.int p3), .val (.int p4), .val (.int (p0 &&& (3 : Int32))), .unset, .unset, .unset] [(.int (255 : Int32)), (.int p4), (.int p3), (.int (Int32.ofNat k)), (.ref s603)])) (fun _ kt => XS.sipush X603.here hx rfl (hb hby at_50) kt) ?_
        refine Rch.of (T' := T603) (g' := (mkF m 54 #[.val (.int p0), .val (.long p1), .second, .val (.int p2), .val (.int p3), .val (.int p4), .val (.int (p0 &&& (3 : Int32))), .unset, .unset, .unset] [(.int (p4 &&& (255 : Int32))), (.int p3), (.int (Int32.ofNat k)), (.ref s603)])) (fun _ kt => XS.iand X603.here hx rfl (hb hby at_53) rfl kt) ?_
        have pr606 : k ≤ 1 := by omega
        obtain ⟨_, _, ⟨T605, L605, k605, n605⟩, -, X605, hT605, gr605, ⟨Lc605, hQ605, l605, y605, z605, cr605⟩, st605⟩ := callSS X603 hx (y := (⟨"com/example/isidore/isidore/SeverityLabelledPinLaw", "near", "(Ljava/lang/String;III)Ljava/lang/String;"⟩ : MethodName)) hown (mvT hZ (hw _ (List.mem_of_getElem? (i := 88) rfl))) (mvT hZ (hw _ (List.mem_of_getElem? (i := 89) rfl))) (mvT hZ (hw _ (List.mem_of_getElem? (i := 2) rfl))) (mvT hZ (hw _ (List.mem_of_getElem? (i := 90) rfl))) (by decide) (backOfSH (s := s) (vm0 := T603.vm) (EL := consts_1) (W := 0) (rkN5 l Z a0 hw [] s603 sb603 own_t0 k p3 (p4 &&& (255 : Int32)) cs sv h603 n0 (Nat.le_trans Z0 E603.1) Ex603 Fa603 Fb603 V603 own_chE pr606 (own_and255 _) ((S1.ext O0.2).ext E603) hcs ((SI0.ext O0.2).ext E603) hsv) hZ (hw _ (List.mem_of_getElem? (i := 90) rfl)) (hw _ (List.mem_of_getElem? (i := 2) rfl)) (by decide) (by decide) hEL (R0.trans cr603).1) (g := (mkF m 54 #[.val (.int p0), .val (.long p1), .second, .val (.int p2), .val (.int p3), .val (.int p4), .val (.int (p0 &&& (3 : Int32))), .unset, .unset, .unset] [(.int (p4 &&& (255 : Int32))), (.int p3), (.int (Int32.ofNat k)), (.ref s603)])) rfl (by rw [hml]; rfl) (argsL := [(.ref s603), (.int (Int32.ofNat k)), (.int p3), (.int (p4 &&& (255 : Int32)))]) (rest := []) (lenOf pd_15 rfl) rfl (by show 2 * 0 + _ ≤ _; exact Nat.le_of_eq rfl) (hb hby at_54) (fun _ _ => ⟨rfl, e603, (by decide : 2 + 6 ≤ _), (by decide : 24 + 17 ≤ _)⟩)
        dsimp only [Pt.U, Pt.locs, Pt.cells, Pt.slots] at X605 hT605 gr605 l605 y605 z605 st605 hQ605 cr605
        subst l605 y605 z605
        obtain ⟨X605, hS605, hZ, hown⟩ := rebS hS603 hk603 X605 hT605 (by rw [← e603]; exact gr605) hZ hown
        obtain ⟨rr605, rb605, rt605, rnn605, rfl, N605q, hQ605⟩ := hQ605
        have N605 := Fr.app N0 N605q
        obtain ⟨K605, Ex605, Fa605, Fb605, V605, Ch605, Le605⟩ := hQ605
        refine Rch.via (T' := T605) (g' := (mkF m 57 #[.val (.int p0), .val (.long p1), .second, .val (.int p2), .val (.int p3), .val (.int p4), .val (.int (p0 &&& (3 : Int32))), .unset, .unset, .unset] [(.ref rr605)])) st605 ?_
        refine Rch.of (T' := T605) (g' := (mkF m 59 #[.val (.int p0), .val (.long p1), .second, .val (.int p2), .val (.int p3), .val (.int p4), .val (.int (p0 &&& (3 : Int32))), .val (.ref rr605), .unset, .unset] [])) (fun _ kt => XS.astore X605.here hx rfl (hb hby at_57) rfl rfl (l' := #[.val (.int p0), .val (.long p1), .second, .val (.int p2), .val (.int p3), .val (.int p4), .val (.int (p0 &&& (3 : Int32))), .val (.ref rr605), .unset, .unset]) rfl kt) ?_
        refine Rch.of (T' := T605) (g' := (mkF m 80 #[.val (.int p0), .val (.long p1), .second, .val (.int p2), .val (.int p3), .val (.int p4), .val (.int (p0 &&& (3 : Int32))), .val (.ref rr605), .unset, .unset] [])) (fun _ kt => XS.goto X605.here hx rfl (pc0 := 59) (pc' := 80) rfl (hb hby at_59) (by decide) (by decide) kt) ?_
        have hle7 : rnn605 ≤ 7 := Le605
        refine Rch.of (T' := T605) (g' := (mkF m 82 #[.val (.int p0), .val (.long p1), .second, .val (.int p2), .val (.int p3), .val (.int p4), .val (.int (p0 &&& (3 : Int32))), .val (.ref rr605), .unset, .unset] [(.ref rr605)])) (fun _ kt => XS.aload X605.here hx rfl (hb hby at_80) rfl rfl kt) ?_
        have pr608 : rnn605 ≤ 7 := by omega
        obtain ⟨_, _, ⟨T607, L607, k607, n607⟩, -, X607, ⟨Lc607, hQ607, l607, y607, z607⟩, st607⟩ := Jvm.LawKit.callS X605 hx (y := (⟨"com/example/isidore/isidore/Severity", "labelled", "(Ljava/lang/String;)Ljava/util/Optional;"⟩ : MethodName)) hown (mvT hZ (hw _ (List.mem_of_getElem? (i := 38) rfl))) (mvT hZ (hw _ (List.mem_of_getElem? (i := 39) rfl))) (mvT hZ (hw _ (List.mem_of_getElem? (i := 40) rfl))) (mvT hZ (hw _ (List.mem_of_getElem? (i := 41) rfl))) (by decide) (backOf (W := 0) (rkLs l Z a0 hw [] rr605 rb605 rnn605 rt605 av1 er wa le lw be bw em cs T605.heap n0 (Nat.le_trans (Nat.le_trans Z0 E603.1) K605.1) Ex605 Fa605 Fb605 V605 (S2.ext ((O0.ext E603).keep K605 all0).2) (((E3.ext O0.2).ext E603).keep K605) (((V3.ext O0.2).ext E603).keep K605 nin0) (((Fl1.ext O0.2).ext E603).keep K605 nin0) (((Xl1.ext O0.2).ext E603).keep K605) (((Fc1.ext O0.2).ext E603).keep K605 nin0) (((Fv1.ext O0.2).ext E603).keep K605 nin0) (((Vl1.ext O0.2).ext E603).keep K605 nin0) (((Fl2.ext O0.2).ext E603).keep K605 nin0) (((Xl2.ext O0.2).ext E603).keep K605) (((Fc2.ext O0.2).ext E603).keep K605 nin0) (((Fv2.ext O0.2).ext E603).keep K605 nin0) (((Vl2.ext O0.2).ext E603).keep K605 nin0) (S5.ext ((O0.ext E603).keep K605 all0).2) (((E5.ext O0.2).ext E603).keep K605) (((F5.ext O0.2).ext E603).keep K605 nin0) (S1.ext ((O0.ext E603).keep K605 all0).2) hcs pr608 Ch605) hZ (hw _ (List.mem_of_getElem? (i := 41) rfl)) (hw _ (List.mem_of_getElem? (i := 40) rfl)) (by decide) (by decide)) (g := (mkF m 82 #[.val (.int p0), .val (.long p1), .second, .val (.int p2), .val (.int p3), .val (.int p4), .val (.int (p0 &&& (3 : Int32))), .val (.ref rr605), .unset, .unset] [(.ref rr605)])) rfl (by rw [hml]; rfl) (argsL := [(.ref rr605)]) (rest := []) (lenOf pd_8 rfl) rfl (by show 2 * 0 + _ ≤ _; exact Nat.le_of_eq rfl) (hb hby at_82) (fun _ _ => ⟨rfl, rfl, (by decide : 8 + 2 ≤ _), (by decide : 41 + 3 ≤ _)⟩)
        dsimp only [Pt.U, Pt.locs, Pt.cells, Pt.slots] at X607 l607 y607 z607 st607 hQ607
        subst l607 y607 z607
        obtain ⟨rr607, rv1607, rfl, N607q, hQ607⟩ := hQ607
        have N607 := Fr.app N605 N607q
        obtain ⟨K607, Ex607, Fa607, I1607, I2607, I3607⟩ := hQ607
        refine Rch.of (T' := T607) (g' := (mkF m 85 #[.val (.int p0), .val (.long p1), .second, .val (.int p2), .val (.int p3), .val (.int p4), .val (.int (p0 &&& (3 : Int32))), .val (.ref rr605), .unset, .unset] [(.ref rr607)])) st607 ?_
        refine Rch.of (T' := T607) (g' := (mkF m 87 #[.val (.int p0), .val (.long p1), .second, .val (.int p2), .val (.int p3), .val (.int p4), .val (.int (p0 &&& (3 : Int32))), .val (.ref rr605), .val (.ref rr607), .unset] [])) (fun _ kt => XS.astore X607.here hx rfl (hb hby at_85) rfl rfl (l' := #[.val (.int p0), .val (.long p1), .second, .val (.int p2), .val (.int p3), .val (.int p4), .val (.int (p0 &&& (3 : Int32))), .val (.ref rr605), .val (.ref rr607), .unset]) rfl kt) ?_
        refine Rch.of (T' := T607) (g' := (mkF m 89 #[.val (.int p0), .val (.long p1), .second, .val (.int p2), .val (.int p3), .val (.int p4), .val (.int (p0 &&& (3 : Int32))), .val (.ref rr605), .val (.ref rr607), .unset] [(.ref rr607)])) (fun _ kt => XS.aload X607.here hx rfl (hb hby at_87) rfl rfl kt) ?_
        refine Rch.of (T' := T607) (g' := (mkF m 94 #[.val (.int p0), .val (.long p1), .second, .val (.int p2), .val (.int p3), .val (.int p4), .val (.int (p0 &&& (3 : Int32))), .val (.ref rr605), .val (.ref rr607), .unset] [])) (fun _ kt => XS.ifnonnullYes X607.here hx rfl (pc0 := 89) (pc' := 94) rfl (hb hby at_89) rfl (by decide) (by decide) kt) ?_
        refine Rch.of (T' := T607) (g' := (mkF m 95 #[.val (.int p0), .val (.long p1), .second, .val (.int p2), .val (.int p3), .val (.int p4), .val (.int (p0 &&& (3 : Int32))), .val (.ref rr605), .val (.ref rr607), .unset] [.null])) (fun _ kt => XS.aconstNull X607.here hx rfl (hb hby at_94) kt) ?_
        refine Rch.of (T' := T607) (g' := (mkF m 97 #[.val (.int p0), .val (.long p1), .second, .val (.int p2), .val (.int p3), .val (.int p4), .val (.int (p0 &&& (3 : Int32))), .val (.ref rr605), .val (.ref rr607), .val .null] [])) (fun _ kt => XS.astore X607.here hx rfl (hb hby at_95) rfl rfl (l' := #[.val (.int p0), .val (.long p1), .second, .val (.int p2), .val (.int p3), .val (.int p4), .val (.int (p0 &&& (3 : Int32))), .val (.ref rr605), .val (.ref rr607), .val .null]) rfl kt) ?_
        refine Rch.of (T' := T607) (g' := (mkF m 99 #[.val (.int p0), .val (.long p1), .second, .val (.int p2), .val (.int p3), .val (.int p4), .val (.int (p0 &&& (3 : Int32))), .val (.ref rr605), .val (.ref rr607), .val .null] [(.ref rr605)])) (fun _ kt => XS.aload X607.here hx rfl (hb hby at_97) rfl rfl kt) ?_
        refine Rch.of (T' := T607) (g' := (mkF m 102 #[.val (.int p0), .val (.long p1), .second, .val (.int p2), .val (.int p3), .val (.int p4), .val (.int (p0 &&& (3 : Int32))), .val (.ref rr605), .val (.ref rr607), .val .null] [])) (fun _ kt => XS.ifnullNo X607.here hx rfl (hb hby at_99) rfl kt) ?_
        refine Rch.of (T' := T607) (g' := (mkF m 104 #[.val (.int p0), .val (.long p1), .second, .val (.int p2), .val (.int p3), .val (.int p4), .val (.int (p0 &&& (3 : Int32))), .val (.ref rr605), .val (.ref rr607), .val .null] [(.ref rr605)])) (fun _ kt => XS.aload X607.here hx rfl (hb hby at_102) rfl rfl kt) ?_
        obtain ⟨s609, T609, h609, k609, sb609, kc609, X609, e609, E609, hS609, hk609, hZ, hown, Ex609, Fa609, Fb609, Ar609, la609, lb609, cr609, Lt609, sf609, st609⟩ := ldcCH (s := s) (vm0 := T605.vm) X607 hx hZ hown (hw _ (List.mem_of_getElem? (i := 76) rfl)) wS rfl hS605 (Nat.le_trans (Nat.le_refl _) K607.1) hEL (List.mem_of_getElem? (i := 0) rfl) (((R0.trans cr603).trans cr605).trans (CHr.keep K607 all0 ((R0.trans cr603).trans cr605).1)).1 (z := (5 : Int32)) own_t0_ok.1 (by decide) (by decide) (g := (mkF m 104 #[.val (.int p0), .val (.long p1), .second, .val (.int p2), .val (.int p3), .val (.int p4), .val (.int (p0 &&& (3 : Int32))), .val (.ref rr605), .val (.ref rr607), .val .null] [(.ref rr605)])) rfl (hb hby at_104) (n := 20) (by decide) (by decide) (by decide) (by decide)
        have V609 : Av Z h609 sb609 .byte 5 (fun q => .int ((own_t0 q).toInt8.toInt32)) := (Arv.av Ar609 (by decide)).congr own_t0_ok.2
        refine Rch.of (T' := T609) (g' := (mkF m 106 #[.val (.int p0), .val (.long p1), .second, .val (.int p2), .val (.int p3), .val (.int p4), .val (.int (p0 &&& (3 : Int32))), .val (.ref rr605), .val (.ref rr607), .val .null] [(.ref s609), (.ref rr605)])) st609 ?_
        have pr611 : rnn605 ≤ 7 := by omega
        have pr612 : 5 ≤ 7 := by omega
        obtain ⟨cq610, kq610, q610a, q610b, q610c⟩ := isOf hZ e609 ((Ex605.keep K607).ext E609)
        obtain ⟨_, _, ⟨T610, L610, k610, n610⟩, -, X610, ⟨Lc610, hQ610, l610, y610, z610⟩, st610⟩ := X609.virtualBack hx (y := (⟨"java/lang/String", "equals", "(Ljava/lang/Object;)Z"⟩ : MethodName)) (z := (⟨"java/lang/String", "equals", "(Ljava/lang/Object;)Z"⟩ : MethodName)) hown (mvT hZ (hw _ (List.mem_of_getElem? (i := 79) rfl))) (mvT hZ (hw _ (List.mem_of_getElem? (i := 62) rfl))) (notFace_of_selects (args := #[]) (mvT hZ (hw _ (List.mem_of_getElem? (i := 64) rfl)))) (mvT hZ (hw _ (List.mem_of_getElem? (i := 64) rfl))) (mvT hZ (hw _ (List.mem_of_getElem? (i := 63) rfl))) (by decide) (backOf (W := 0) (rqEQ l Z a0 hw [] rr605 rb605 rnn605 rt605 s609 sb609 5 own_t0 cs h609 n0 (Nat.le_trans (Nat.le_trans (Nat.le_trans (Nat.le_trans Z0 E603.1) K605.1) K607.1) E609.1) ((Ex605.keep K607).ext E609) ((Fa605.keep K607 nin0).ext E609) ((Fb605.keep K607 nin0).ext E609) ((V605.keep K607 nin0).ext E609) Ex609 Fa609 Fb609 V609 pr611 pr612 Ch605 own_chE ((S1.ext (((O0.ext E603).keep K605 all0).keep K607 all0).2).ext E609) hcs) hZ (hw _ (List.mem_of_getElem? (i := 65) rfl)) (hw _ (List.mem_of_getElem? (i := 11) rfl)) (by decide) (by decide)) q610a q610c (g := (mkF m 106 #[.val (.int p0), .val (.long p1), .second, .val (.int p2), .val (.int p3), .val (.int p4), .val (.int (p0 &&& (3 : Int32))), .val (.ref rr605), .val (.ref rr607), .val .null] [(.ref s609), (.ref rr605)])) rfl (by rw [hml]; rfl) (Steps.refl _) (argsL := [(.ref s609)]) (rest := []) (lenOf pd_11 rfl) rfl (by show 2 * 0 + _ ≤ _; exact Nat.le_of_eq rfl) (hb hby at_106) (fun _ _ => ⟨rfl, e609, (by decide : 12 + 0 ≤ _), (by decide : 68 + 0 ≤ _)⟩)
        dsimp only [Pt.U, Pt.locs, Pt.cells, Pt.slots] at X610 l610 y610 z610 st610 hQ610
        subst l610 y610 z610
        obtain ⟨rfl, N610q, hQ610⟩ := hQ610
        have N610 := Fr.app N607 N610q
        refine Rch.via (T' := T610) (g' := (mkF m 109 #[.val (.int p0), .val (.long p1), .second, .val (.int p2), .val (.int p3), .val (.int p4), .val (.int (p0 &&& (3 : Int32))), .val (.ref rr605), .val (.ref rr607), .val .null] [(.int (own_eqv rnn605 rt605 5 own_t0))])) st610 ?_
        by_cases c613 : (own_eqv rnn605 rt605 5 own_t0) = (0 : Int32)
        · skip
          refine Rch.of (T' := T610) (g' := (mkF m 120 #[.val (.int p0), .val (.long p1), .second, .val (.int p2), .val (.int p3), .val (.int p4), .val (.int (p0 &&& (3 : Int32))), .val (.ref rr605), .val (.ref rr607), .val .null] [])) (fun _ kt => XS.ifYes X610.here hx rfl (pc0 := 109) (pc' := 120) rfl (hb hby at_109) rfl ((if0 _ _).trans (teq c613).1) (by decide) (by decide) kt) ?_
          have hE : own_eqv 5 own_t0 rnn605 rt605 = 0 := by rw [own_eqv_comm]; exact c613
          refine Rch.of (T' := T610) (g' := (mkF m 122 #[.val (.int p0), .val (.long p1), .second, .val (.int p2), .val (.int p3), .val (.int p4), .val (.int (p0 &&& (3 : Int32))), .val (.ref rr605), .val (.ref rr607), .val .null] [(.ref rr605)])) (fun _ kt => XS.aload X610.here hx rfl (hb hby at_120) rfl rfl kt) ?_
          obtain ⟨s614, T614, h614, k614, sb614, kc614, X614, e614, E614, hS614, hk614, hZ, hown, Ex614, Fa614, Fb614, Ar614, la614, lb614, cr614, Lt614, sf614, st614⟩ := ldcCH (s := s) (vm0 := T609.vm) X610 hx hZ hown (hw _ (List.mem_of_getElem? (i := 80) rfl)) wS hQ610 hS609 hk609 hEL (List.mem_of_getElem? (i := 1) rfl) ((((R0.trans cr603).trans cr605).trans (CHr.keep K607 all0 ((R0.trans cr603).trans cr605).1)).trans cr609).1 (z := (7 : Int32)) own_t1_ok.1 (by decide) (by decide) (g := (mkF m 122 #[.val (.int p0), .val (.long p1), .second, .val (.int p2), .val (.int p3), .val (.int p4), .val (.int (p0 &&& (3 : Int32))), .val (.ref rr605), .val (.ref rr607), .val .null] [(.ref rr605)])) rfl (hb hby at_122) (n := 28) (by decide) (by decide) (by decide) (by decide)
          have V614 : Av Z h614 sb614 .byte 7 (fun q => .int ((own_t1 q).toInt8.toInt32)) := (Arv.av Ar614 (by decide)).congr own_t1_ok.2
          refine Rch.of (T' := T614) (g' := (mkF m 124 #[.val (.int p0), .val (.long p1), .second, .val (.int p2), .val (.int p3), .val (.int p4), .val (.int (p0 &&& (3 : Int32))), .val (.ref rr605), .val (.ref rr607), .val .null] [(.ref s614), (.ref rr605)])) st614 ?_
          have pr616 : rnn605 ≤ 7 := by omega
          have pr617 : 7 ≤ 7 := by omega
          obtain ⟨cq615, kq615, q615a, q615b, q615c⟩ := isOf hZ e614 (((Ex605.keep K607).ext E609).ext E614)
          obtain ⟨_, _, ⟨T615, L615, k615, n615⟩, -, X615, ⟨Lc615, hQ615, l615, y615, z615⟩, st615⟩ := X614.virtualBack hx (y := (⟨"java/lang/String", "equals", "(Ljava/lang/Object;)Z"⟩ : MethodName)) (z := (⟨"java/lang/String", "equals", "(Ljava/lang/Object;)Z"⟩ : MethodName)) hown (mvT hZ (hw _ (List.mem_of_getElem? (i := 79) rfl))) (mvT hZ (hw _ (List.mem_of_getElem? (i := 62) rfl))) (notFace_of_selects (args := #[]) (mvT hZ (hw _ (List.mem_of_getElem? (i := 64) rfl)))) (mvT hZ (hw _ (List.mem_of_getElem? (i := 64) rfl))) (mvT hZ (hw _ (List.mem_of_getElem? (i := 63) rfl))) (by decide) (backOf (W := 0) (rqEQ l Z a0 hw [] rr605 rb605 rnn605 rt605 s614 sb614 7 own_t1 cs h614 n0 (Nat.le_trans (Nat.le_trans (Nat.le_trans (Nat.le_trans (Nat.le_trans Z0 E603.1) K605.1) K607.1) E609.1) E614.1) (((Ex605.keep K607).ext E609).ext E614) (((Fa605.keep K607 nin0).ext E609).ext E614) (((Fb605.keep K607 nin0).ext E609).ext E614) (((V605.keep K607 nin0).ext E609).ext E614) Ex614 Fa614 Fb614 V614 pr616 pr617 Ch605 own_chW (((S1.ext (((O0.ext E603).keep K605 all0).keep K607 all0).2).ext E609).ext E614) hcs) hZ (hw _ (List.mem_of_getElem? (i := 65) rfl)) (hw _ (List.mem_of_getElem? (i := 11) rfl)) (by decide) (by decide)) q615a q615c (g := (mkF m 124 #[.val (.int p0), .val (.long p1), .second, .val (.int p2), .val (.int p3), .val (.int p4), .val (.int (p0 &&& (3 : Int32))), .val (.ref rr605), .val (.ref rr607), .val .null] [(.ref s614), (.ref rr605)])) rfl (by rw [hml]; rfl) (Steps.refl _) (argsL := [(.ref s614)]) (rest := []) (lenOf pd_11 rfl) rfl (by show 2 * 0 + _ ≤ _; exact Nat.le_of_eq rfl) (hb hby at_124) (fun _ _ => ⟨rfl, e614, (by decide : 14 + 0 ≤ _), (by decide : 100 + 0 ≤ _)⟩)
          dsimp only [Pt.U, Pt.locs, Pt.cells, Pt.slots] at X615 l615 y615 z615 st615 hQ615
          subst l615 y615 z615
          obtain ⟨rfl, N615q, hQ615⟩ := hQ615
          have N615 := Fr.app N610 N615q
          refine Rch.via (T' := T615) (g' := (mkF m 127 #[.val (.int p0), .val (.long p1), .second, .val (.int p2), .val (.int p3), .val (.int p4), .val (.int (p0 &&& (3 : Int32))), .val (.ref rr605), .val (.ref rr607), .val .null] [(.int (own_eqv rnn605 rt605 7 own_t1))])) st615 ?_
          by_cases c618 : (own_eqv rnn605 rt605 7 own_t1) = (0 : Int32)
          · skip
            refine Rch.of (T' := T615) (g' := (mkF m 135 #[.val (.int p0), .val (.long p1), .second, .val (.int p2), .val (.int p3), .val (.int p4), .val (.int (p0 &&& (3 : Int32))), .val (.ref rr605), .val (.ref rr607), .val .null] [])) (fun _ kt => XS.ifYes X615.here hx rfl (pc0 := 127) (pc' := 135) rfl (hb hby at_127) rfl ((if0 _ _).trans (teq c618).1) (by decide) (by decide) kt) ?_
            have hW : own_eqv 7 own_t1 rnn605 rt605 = 0 := by rw [own_eqv_comm]; exact c618
            have hv : rv1607 = .null := I3607 hE hW
            have Fv2 : Fld Z h614 rr607 "java/util/Optional" "value" "Ljava/lang/Object;" .null := by rw [← hv]; exact ((Fa607.ext E609).ext E614)
            refine Rch.of (T' := T615) (g' := (mkF m 137 #[.val (.int p0), .val (.long p1), .second, .val (.int p2), .val (.int p3), .val (.int p4), .val (.int (p0 &&& (3 : Int32))), .val (.ref rr605), .val (.ref rr607), .val .null] [.null])) (fun _ kt => XS.aload X615.here hx rfl (hb hby at_135) rfl rfl kt) ?_
            refine Rch.of (T' := T615) (g' := (mkF m 140 #[.val (.int p0), .val (.long p1), .second, .val (.int p2), .val (.int p3), .val (.int p4), .val (.int (p0 &&& (3 : Int32))), .val (.ref rr605), .val (.ref rr607), .val .null] [])) (fun _ kt => XS.ifnonnullNo X615.here hx rfl (hb hby at_137) rfl kt) ?_
            refine Rch.of (T' := T615) (g' := (mkF m 142 #[.val (.int p0), .val (.long p1), .second, .val (.int p2), .val (.int p3), .val (.int p4), .val (.int (p0 &&& (3 : Int32))), .val (.ref rr605), .val (.ref rr607), .val .null] [(.ref rr607)])) (fun _ kt => XS.aload X615.here hx rfl (hb hby at_140) rfl rfl kt) ?_
            obtain ⟨cq619, kq619, q619a, q619b, q619c⟩ := isOf hZ hQ615 ((Ex607.ext E609).ext E614)
            obtain ⟨_, _, ⟨T619, L619, k619, n619⟩, -, X619, ⟨Lc619, hQ619, l619, y619, z619⟩, st619⟩ := X615.virtualBack hx (y := (⟨"java/util/Optional", "isPresent", "()Z"⟩ : MethodName)) (z := (⟨"java/util/Optional", "isPresent", "()Z"⟩ : MethodName)) hown (mvT hZ (hw _ (List.mem_of_getElem? (i := 81) rfl))) (mvT hZ (hw _ (List.mem_of_getElem? (i := 82) rfl))) (notFace_of_selects (args := #[]) (mvT hZ (hw _ (List.mem_of_getElem? (i := 84) rfl)))) (mvT hZ (hw _ (List.mem_of_getElem? (i := 84) rfl))) (mvT hZ (hw _ (List.mem_of_getElem? (i := 83) rfl))) (by decide) (backOf (W := 0) (rkOPn l Z a0 hw [] rr607 h614 n0 (Nat.le_trans (Nat.le_trans (Nat.le_trans (Nat.le_trans (Nat.le_trans Z0 E603.1) K605.1) K607.1) E609.1) E614.1) Fv2) hZ (hw _ (List.mem_of_getElem? (i := 85) rfl)) (hw _ (List.mem_of_getElem? (i := 73) rfl)) (by decide) (by decide)) q619a q619c (g := (mkF m 142 #[.val (.int p0), .val (.long p1), .second, .val (.int p2), .val (.int p3), .val (.int p4), .val (.int (p0 &&& (3 : Int32))), .val (.ref rr605), .val (.ref rr607), .val .null] [(.ref rr607)])) rfl (by rw [hml]; rfl) (Steps.refl _) (argsL := []) (rest := []) (lenOf pd_14 rfl) rfl (by show 2 * 0 + _ ≤ _; exact Nat.le_of_eq rfl) (hb hby at_142) (fun _ _ => ⟨rfl, hQ615, (by decide : 14 + 0 ≤ _), (by decide : 100 + 0 ≤ _)⟩)
            dsimp only [Pt.U, Pt.locs, Pt.cells, Pt.slots] at X619 l619 y619 z619 st619 hQ619
            subst l619 y619 z619
            obtain ⟨rfl, N619q, hQ619⟩ := hQ619
            have N619 := Fr.app N615 N619q
            refine Rch.via (T' := T619) (g' := (mkF m 145 #[.val (.int p0), .val (.long p1), .second, .val (.int p2), .val (.int p3), .val (.int p4), .val (.int (p0 &&& (3 : Int32))), .val (.ref rr605), .val (.ref rr607), .val .null] [(.int (0 : Int32))])) st619 ?_
            refine Rch.of (T' := T619) (g' := (mkF m 148 #[.val (.int p0), .val (.long p1), .second, .val (.int p2), .val (.int p3), .val (.int p4), .val (.int (p0 &&& (3 : Int32))), .val (.ref rr605), .val (.ref rr607), .val .null] [])) (fun _ kt => XS.ifNo X619.here hx rfl (hb hby at_145) rfl ((if0 _ _).trans (teq ((by decide) : (0 : Int32) = (0 : Int32))).2) kt) ?_
            refine Rch.of (T' := T619) (g' := (mkF m 149 #[.val (.int p0), .val (.long p1), .second, .val (.int p2), .val (.int p3), .val (.int p4), .val (.int (p0 &&& (3 : Int32))), .val (.ref rr605), .val (.ref rr607), .val .null] [(.int (1 : Int32))])) (fun _ kt => XS.iconst X619.here hx rfl (hb hby at_148) kt) ?_
            refine Rch.of (T' := T619) (g' := (mkF m 153 #[.val (.int p0), .val (.long p1), .second, .val (.int p2), .val (.int p3), .val (.int p4), .val (.int (p0 &&& (3 : Int32))), .val (.ref rr605), .val (.ref rr607), .val .null] [(.int (1 : Int32))])) (fun _ kt => XS.goto X619.here hx rfl (pc0 := 149) (pc' := 153) rfl (hb hby at_149) (by decide) (by decide) kt) ?_
            exact Rch.retN X619 hx (t := .boolean) hret (by simp) hlk (hb hby at_153) (fun U hU hF => hK _ U _ _ _ (by show Q_rm0 Z p0 p1 p2 p3 p4 av1 er wa le lw be bw em cs sv h0 n0 _ U.heap _; rw [hU, hQ619]; exact ⟨rfl, N619, trivial⟩) (own_endH hZ hEL (((((R0.trans cr603).trans cr605).trans (CHr.keep K607 all0 ((R0.trans cr603).trans cr605).1)).trans cr609).trans cr614) (hU.trans hQ619) hF) (own_end hS614 (by rw [hU, hQ619]; exact hk614) hF) (by decide) (by decide))
          · skip
            refine Rch.of (T' := T615) (g' := (mkF m 130 #[.val (.int p0), .val (.long p1), .second, .val (.int p2), .val (.int p3), .val (.int p4), .val (.int (p0 &&& (3 : Int32))), .val (.ref rr605), .val (.ref rr607), .val .null] [])) (fun _ kt => XS.ifNo X615.here hx rfl (hb hby at_127) rfl ((if0 _ _).trans (feq c618).1) kt) ?_
            have hW : ¬ own_eqv 7 own_t1 rnn605 rt605 = 0 := by rw [own_eqv_comm]; exact c618
            have hv : rv1607 = (.ref wa) := I2607 hE hW
            have Fv2 : Fld Z h614 rr607 "java/util/Optional" "value" "Ljava/lang/Object;" (.ref wa) := by rw [← hv]; exact ((Fa607.ext E609).ext E614)
            obtain ⟨T620, X620, e620, st620⟩ := getS2 X615 hx hZ hown (host := "") (Or.inl (hw _ (List.mem_of_getElem? (i := 137) rfl))) Via.refl hQ615 (((S7.ext (((O0.ext E603).keep K605 all0).keep K607 all0).2).ext E609).ext E614) (g := (mkF m 130 #[.val (.int p0), .val (.long p1), .second, .val (.int p2), .val (.int p3), .val (.int p4), .val (.int (p0 &&& (3 : Int32))), .val (.ref rr605), .val (.ref rr607), .val .null] [])) rfl (hb hby at_130)
            refine Rch.of (T' := T620) (g' := (mkF m 133 #[.val (.int p0), .val (.long p1), .second, .val (.int p2), .val (.int p3), .val (.int p4), .val (.int (p0 &&& (3 : Int32))), .val (.ref rr605), .val (.ref rr607), .val .null] [(.ref wa)])) st620 ?_
            refine Rch.of (T' := T620) (g' := (mkF m 135 #[.val (.int p0), .val (.long p1), .second, .val (.int p2), .val (.int p3), .val (.int p4), .val (.int (p0 &&& (3 : Int32))), .val (.ref rr605), .val (.ref rr607), .val (.ref wa)] [])) (fun _ kt => XS.astore X620.here hx rfl (hb hby at_133) rfl rfl (l' := #[.val (.int p0), .val (.long p1), .second, .val (.int p2), .val (.int p3), .val (.int p4), .val (.int (p0 &&& (3 : Int32))), .val (.ref rr605), .val (.ref rr607), .val (.ref wa)]) rfl kt) ?_
            refine Rch.of (T' := T620) (g' := (mkF m 137 #[.val (.int p0), .val (.long p1), .second, .val (.int p2), .val (.int p3), .val (.int p4), .val (.int (p0 &&& (3 : Int32))), .val (.ref rr605), .val (.ref rr607), .val (.ref wa)] [(.ref wa)])) (fun _ kt => XS.aload X620.here hx rfl (hb hby at_135) rfl rfl kt) ?_
            refine Rch.of (T' := T620) (g' := (mkF m 154 #[.val (.int p0), .val (.long p1), .second, .val (.int p2), .val (.int p3), .val (.int p4), .val (.int (p0 &&& (3 : Int32))), .val (.ref rr605), .val (.ref rr607), .val (.ref wa)] [])) (fun _ kt => XS.ifnonnullYes X620.here hx rfl (pc0 := 137) (pc' := 154) rfl (hb hby at_137) rfl (by decide) (by decide) kt) ?_
            refine Rch.of (T' := T620) (g' := (mkF m 156 #[.val (.int p0), .val (.long p1), .second, .val (.int p2), .val (.int p3), .val (.int p4), .val (.int (p0 &&& (3 : Int32))), .val (.ref rr605), .val (.ref rr607), .val (.ref wa)] [(.ref rr607)])) (fun _ kt => XS.aload X620.here hx rfl (hb hby at_154) rfl rfl kt) ?_
            obtain ⟨cq621, kq621, q621a, q621b, q621c⟩ := isOf hZ e620 ((Ex607.ext E609).ext E614)
            obtain ⟨_, _, ⟨T621, L621, k621, n621⟩, -, X621, ⟨Lc621, hQ621, l621, y621, z621⟩, st621⟩ := X620.virtualBack hx (y := (⟨"java/util/Optional", "isPresent", "()Z"⟩ : MethodName)) (z := (⟨"java/util/Optional", "isPresent", "()Z"⟩ : MethodName)) hown (mvT hZ (hw _ (List.mem_of_getElem? (i := 81) rfl))) (mvT hZ (hw _ (List.mem_of_getElem? (i := 82) rfl))) (notFace_of_selects (args := #[]) (mvT hZ (hw _ (List.mem_of_getElem? (i := 84) rfl)))) (mvT hZ (hw _ (List.mem_of_getElem? (i := 84) rfl))) (mvT hZ (hw _ (List.mem_of_getElem? (i := 83) rfl))) (by decide) (backOf (W := 0) (rkOPr l Z a0 hw [] rr607 wa h614 n0 (Nat.le_trans (Nat.le_trans (Nat.le_trans (Nat.le_trans (Nat.le_trans Z0 E603.1) K605.1) K607.1) E609.1) E614.1) Fv2) hZ (hw _ (List.mem_of_getElem? (i := 85) rfl)) (hw _ (List.mem_of_getElem? (i := 73) rfl)) (by decide) (by decide)) q621a q621c (g := (mkF m 156 #[.val (.int p0), .val (.long p1), .second, .val (.int p2), .val (.int p3), .val (.int p4), .val (.int (p0 &&& (3 : Int32))), .val (.ref rr605), .val (.ref rr607), .val (.ref wa)] [(.ref rr607)])) rfl (by rw [hml]; rfl) (Steps.refl _) (argsL := []) (rest := []) (lenOf pd_14 rfl) rfl (by show 2 * 0 + _ ≤ _; exact Nat.le_of_eq rfl) (hb hby at_156) (fun _ _ => ⟨rfl, e620, (by decide : 14 + 0 ≤ _), (by decide : 100 + 0 ≤ _)⟩)
            dsimp only [Pt.U, Pt.locs, Pt.cells, Pt.slots] at X621 l621 y621 z621 st621 hQ621
            subst l621 y621 z621
            obtain ⟨rfl, N621q, hQ621⟩ := hQ621
            have N621 := Fr.app N615 N621q
            refine Rch.via (T' := T621) (g' := (mkF m 159 #[.val (.int p0), .val (.long p1), .second, .val (.int p2), .val (.int p3), .val (.int p4), .val (.int (p0 &&& (3 : Int32))), .val (.ref rr605), .val (.ref rr607), .val (.ref wa)] [(.int (1 : Int32))])) st621 ?_
            refine Rch.of (T' := T621) (g' := (mkF m 162 #[.val (.int p0), .val (.long p1), .second, .val (.int p2), .val (.int p3), .val (.int p4), .val (.int (p0 &&& (3 : Int32))), .val (.ref rr605), .val (.ref rr607), .val (.ref wa)] [])) (fun _ kt => XS.ifNo X621.here hx rfl (hb hby at_159) rfl ((if0 _ _).trans (feq ((by decide) : ¬ ((1 : Int32) = (0 : Int32)))).1) kt) ?_
            refine Rch.of (T' := T621) (g' := (mkF m 164 #[.val (.int p0), .val (.long p1), .second, .val (.int p2), .val (.int p3), .val (.int p4), .val (.int (p0 &&& (3 : Int32))), .val (.ref rr605), .val (.ref rr607), .val (.ref wa)] [(.ref rr607)])) (fun _ kt => XS.aload X621.here hx rfl (hb hby at_162) rfl rfl kt) ?_
            obtain ⟨cq622, kq622, q622a, q622b, q622c⟩ := isOf hZ hQ621 ((Ex607.ext E609).ext E614)
            obtain ⟨_, _, ⟨T622, L622, k622, n622⟩, -, X622, ⟨Lc622, hQ622, l622, y622, z622⟩, st622⟩ := X621.virtualBack hx (y := (⟨"java/util/Optional", "get", "()Ljava/lang/Object;"⟩ : MethodName)) (z := (⟨"java/util/Optional", "get", "()Ljava/lang/Object;"⟩ : MethodName)) hown (mvT hZ (hw _ (List.mem_of_getElem? (i := 138) rfl))) (mvT hZ (hw _ (List.mem_of_getElem? (i := 139) rfl))) (notFace_of_selects (args := #[]) (mvT hZ (hw _ (List.mem_of_getElem? (i := 141) rfl)))) (mvT hZ (hw _ (List.mem_of_getElem? (i := 141) rfl))) (mvT hZ (hw _ (List.mem_of_getElem? (i := 140) rfl))) (by decide) (backOf (W := 0) (rkOG l Z a0 hw [] rr607 wa h614 n0 (Nat.le_trans (Nat.le_trans (Nat.le_trans (Nat.le_trans (Nat.le_trans Z0 E603.1) K605.1) K607.1) E609.1) E614.1) Fv2) hZ (hw _ (List.mem_of_getElem? (i := 142) rfl)) (hw _ (List.mem_of_getElem? (i := 73) rfl)) (by decide) (by decide)) q622a q622c (g := (mkF m 164 #[.val (.int p0), .val (.long p1), .second, .val (.int p2), .val (.int p3), .val (.int p4), .val (.int (p0 &&& (3 : Int32))), .val (.ref rr605), .val (.ref rr607), .val (.ref wa)] [(.ref rr607)])) rfl (by rw [hml]; rfl) (Steps.refl _) (argsL := []) (rest := []) (lenOf pd_10 rfl) rfl (by show 2 * 0 + _ ≤ _; exact Nat.le_of_eq rfl) (hb hby at_164) (fun _ _ => ⟨rfl, hQ621, (by decide : 14 + 0 ≤ _), (by decide : 100 + 0 ≤ _)⟩)
            dsimp only [Pt.U, Pt.locs, Pt.cells, Pt.slots] at X622 l622 y622 z622 st622 hQ622
            subst l622 y622 z622
            obtain ⟨rfl, N622q, hQ622⟩ := hQ622
            have N622 := Fr.app N621 N622q
            refine Rch.via (T' := T622) (g' := (mkF m 167 #[.val (.int p0), .val (.long p1), .second, .val (.int p2), .val (.int p3), .val (.int p4), .val (.int (p0 &&& (3 : Int32))), .val (.ref rr605), .val (.ref rr607), .val (.ref wa)] [(.ref wa)])) st622 ?_
            refine Rch.of (T' := T622) (g' := (mkF m 169 #[.val (.int p0), .val (.long p1), .second, .val (.int p2), .val (.int p3), .val (.int p4), .val (.int (p0 &&& (3 : Int32))), .val (.ref rr605), .val (.ref rr607), .val (.ref wa)] [(.ref wa), (.ref wa)])) (fun _ kt => XS.aload X622.here hx rfl (hb hby at_167) rfl rfl kt) ?_
            refine Rch.of (T' := T622) (g' := (mkF m 172 #[.val (.int p0), .val (.long p1), .second, .val (.int p2), .val (.int p3), .val (.int p4), .val (.int (p0 &&& (3 : Int32))), .val (.ref rr605), .val (.ref rr607), .val (.ref wa)] [])) (fun _ kt => Jvm.RoadKit.acmp (g := (mkF m 169 #[.val (.int p0), .val (.long p1), .second, .val (.int p2), .val (.int p3), .val (.int p4), .val (.int (p0 &&& (3 : Int32))), .val (.ref rr605), .val (.ref rr607), .val (.ref wa)] [(.ref wa), (.ref wa)])) X622 hx rfl rfl rfl (pc0 := 169) (pc' := 172) (same := true) rfl (hb hby at_169) rfl (decide_eq_true rfl) (by decide) (by decide) kt) ?_
            refine Rch.of (T' := T622) (g' := (mkF m 173 #[.val (.int p0), .val (.long p1), .second, .val (.int p2), .val (.int p3), .val (.int p4), .val (.int (p0 &&& (3 : Int32))), .val (.ref rr605), .val (.ref rr607), .val (.ref wa)] [(.int (1 : Int32))])) (fun _ kt => XS.iconst X622.here hx rfl (hb hby at_172) kt) ?_
            refine Rch.of (T' := T622) (g' := (mkF m 177 #[.val (.int p0), .val (.long p1), .second, .val (.int p2), .val (.int p3), .val (.int p4), .val (.int (p0 &&& (3 : Int32))), .val (.ref rr605), .val (.ref rr607), .val (.ref wa)] [(.int (1 : Int32))])) (fun _ kt => XS.goto X622.here hx rfl (pc0 := 173) (pc' := 177) rfl (hb hby at_173) (by decide) (by decide) kt) ?_
            exact Rch.retN X622 hx (t := .boolean) hret (by simp) hlk (hb hby at_177) (fun U hU hF => hK _ U _ _ _ (by show Q_rm0 Z p0 p1 p2 p3 p4 av1 er wa le lw be bw em cs sv h0 n0 _ U.heap _; rw [hU, hQ622]; exact ⟨rfl, N622, trivial⟩) (own_endH hZ hEL (((((R0.trans cr603).trans cr605).trans (CHr.keep K607 all0 ((R0.trans cr603).trans cr605).1)).trans cr609).trans cr614) (hU.trans hQ622) hF) (own_end hS614 (by rw [hU, hQ622]; exact hk614) hF) (by decide) (by decide))
        · skip
          refine Rch.of (T' := T610) (g' := (mkF m 112 #[.val (.int p0), .val (.long p1), .second, .val (.int p2), .val (.int p3), .val (.int p4), .val (.int (p0 &&& (3 : Int32))), .val (.ref rr605), .val (.ref rr607), .val .null] [])) (fun _ kt => XS.ifNo X610.here hx rfl (hb hby at_109) rfl ((if0 _ _).trans (feq c613).1) kt) ?_
          have hE : ¬ own_eqv 5 own_t0 rnn605 rt605 = 0 := by rw [own_eqv_comm]; exact c613
          have hv : rv1607 = (.ref er) := I1607 hE
          have Fv2 : Fld Z h609 rr607 "java/util/Optional" "value" "Ljava/lang/Object;" (.ref er) := by rw [← hv]; exact (Fa607.ext E609)
          obtain ⟨T623, X623, e623, st623⟩ := getS2 X610 hx hZ hown (host := "") (Or.inl (hw _ (List.mem_of_getElem? (i := 144) rfl))) Via.refl hQ610 ((S6.ext (((O0.ext E603).keep K605 all0).keep K607 all0).2).ext E609) (g := (mkF m 112 #[.val (.int p0), .val (.long p1), .second, .val (.int p2), .val (.int p3), .val (.int p4), .val (.int (p0 &&& (3 : Int32))), .val (.ref rr605), .val (.ref rr607), .val .null] [])) rfl (hb hby at_112)
          refine Rch.of (T' := T623) (g' := (mkF m 115 #[.val (.int p0), .val (.long p1), .second, .val (.int p2), .val (.int p3), .val (.int p4), .val (.int (p0 &&& (3 : Int32))), .val (.ref rr605), .val (.ref rr607), .val .null] [(.ref er)])) st623 ?_
          refine Rch.of (T' := T623) (g' := (mkF m 117 #[.val (.int p0), .val (.long p1), .second, .val (.int p2), .val (.int p3), .val (.int p4), .val (.int (p0 &&& (3 : Int32))), .val (.ref rr605), .val (.ref rr607), .val (.ref er)] [])) (fun _ kt => XS.astore X623.here hx rfl (hb hby at_115) rfl rfl (l' := #[.val (.int p0), .val (.long p1), .second, .val (.int p2), .val (.int p3), .val (.int p4), .val (.int (p0 &&& (3 : Int32))), .val (.ref rr605), .val (.ref rr607), .val (.ref er)]) rfl kt) ?_
          refine Rch.of (T' := T623) (g' := (mkF m 135 #[.val (.int p0), .val (.long p1), .second, .val (.int p2), .val (.int p3), .val (.int p4), .val (.int (p0 &&& (3 : Int32))), .val (.ref rr605), .val (.ref rr607), .val (.ref er)] [])) (fun _ kt => XS.goto X623.here hx rfl (pc0 := 117) (pc' := 135) rfl (hb hby at_117) (by decide) (by decide) kt) ?_
          refine Rch.of (T' := T623) (g' := (mkF m 137 #[.val (.int p0), .val (.long p1), .second, .val (.int p2), .val (.int p3), .val (.int p4), .val (.int (p0 &&& (3 : Int32))), .val (.ref rr605), .val (.ref rr607), .val (.ref er)] [(.ref er)])) (fun _ kt => XS.aload X623.here hx rfl (hb hby at_135) rfl rfl kt) ?_
          refine Rch.of (T' := T623) (g' := (mkF m 154 #[.val (.int p0), .val (.long p1), .second, .val (.int p2), .val (.int p3), .val (.int p4), .val (.int (p0 &&& (3 : Int32))), .val (.ref rr605), .val (.ref rr607), .val (.ref er)] [])) (fun _ kt => XS.ifnonnullYes X623.here hx rfl (pc0 := 137) (pc' := 154) rfl (hb hby at_137) rfl (by decide) (by decide) kt) ?_
          refine Rch.of (T' := T623) (g' := (mkF m 156 #[.val (.int p0), .val (.long p1), .second, .val (.int p2), .val (.int p3), .val (.int p4), .val (.int (p0 &&& (3 : Int32))), .val (.ref rr605), .val (.ref rr607), .val (.ref er)] [(.ref rr607)])) (fun _ kt => XS.aload X623.here hx rfl (hb hby at_154) rfl rfl kt) ?_
          obtain ⟨cq624, kq624, q624a, q624b, q624c⟩ := isOf hZ e623 (Ex607.ext E609)
          obtain ⟨_, _, ⟨T624, L624, k624, n624⟩, -, X624, ⟨Lc624, hQ624, l624, y624, z624⟩, st624⟩ := X623.virtualBack hx (y := (⟨"java/util/Optional", "isPresent", "()Z"⟩ : MethodName)) (z := (⟨"java/util/Optional", "isPresent", "()Z"⟩ : MethodName)) hown (mvT hZ (hw _ (List.mem_of_getElem? (i := 81) rfl))) (mvT hZ (hw _ (List.mem_of_getElem? (i := 82) rfl))) (notFace_of_selects (args := #[]) (mvT hZ (hw _ (List.mem_of_getElem? (i := 84) rfl)))) (mvT hZ (hw _ (List.mem_of_getElem? (i := 84) rfl))) (mvT hZ (hw _ (List.mem_of_getElem? (i := 83) rfl))) (by decide) (backOf (W := 0) (rkOPr l Z a0 hw [] rr607 er h609 n0 (Nat.le_trans (Nat.le_trans (Nat.le_trans (Nat.le_trans Z0 E603.1) K605.1) K607.1) E609.1) Fv2) hZ (hw _ (List.mem_of_getElem? (i := 85) rfl)) (hw _ (List.mem_of_getElem? (i := 73) rfl)) (by decide) (by decide)) q624a q624c (g := (mkF m 156 #[.val (.int p0), .val (.long p1), .second, .val (.int p2), .val (.int p3), .val (.int p4), .val (.int (p0 &&& (3 : Int32))), .val (.ref rr605), .val (.ref rr607), .val (.ref er)] [(.ref rr607)])) rfl (by rw [hml]; rfl) (Steps.refl _) (argsL := []) (rest := []) (lenOf pd_14 rfl) rfl (by show 2 * 0 + _ ≤ _; exact Nat.le_of_eq rfl) (hb hby at_156) (fun _ _ => ⟨rfl, e623, (by decide : 12 + 0 ≤ _), (by decide : 68 + 0 ≤ _)⟩)
          dsimp only [Pt.U, Pt.locs, Pt.cells, Pt.slots] at X624 l624 y624 z624 st624 hQ624
          subst l624 y624 z624
          obtain ⟨rfl, N624q, hQ624⟩ := hQ624
          have N624 := Fr.app N610 N624q
          refine Rch.via (T' := T624) (g' := (mkF m 159 #[.val (.int p0), .val (.long p1), .second, .val (.int p2), .val (.int p3), .val (.int p4), .val (.int (p0 &&& (3 : Int32))), .val (.ref rr605), .val (.ref rr607), .val (.ref er)] [(.int (1 : Int32))])) st624 ?_
          refine Rch.of (T' := T624) (g' := (mkF m 162 #[.val (.int p0), .val (.long p1), .second, .val (.int p2), .val (.int p3), .val (.int p4), .val (.int (p0 &&& (3 : Int32))), .val (.ref rr605), .val (.ref rr607), .val (.ref er)] [])) (fun _ kt => XS.ifNo X624.here hx rfl (hb hby at_159) rfl ((if0 _ _).trans (feq ((by decide) : ¬ ((1 : Int32) = (0 : Int32)))).1) kt) ?_
          refine Rch.of (T' := T624) (g' := (mkF m 164 #[.val (.int p0), .val (.long p1), .second, .val (.int p2), .val (.int p3), .val (.int p4), .val (.int (p0 &&& (3 : Int32))), .val (.ref rr605), .val (.ref rr607), .val (.ref er)] [(.ref rr607)])) (fun _ kt => XS.aload X624.here hx rfl (hb hby at_162) rfl rfl kt) ?_
          obtain ⟨cq625, kq625, q625a, q625b, q625c⟩ := isOf hZ hQ624 (Ex607.ext E609)
          obtain ⟨_, _, ⟨T625, L625, k625, n625⟩, -, X625, ⟨Lc625, hQ625, l625, y625, z625⟩, st625⟩ := X624.virtualBack hx (y := (⟨"java/util/Optional", "get", "()Ljava/lang/Object;"⟩ : MethodName)) (z := (⟨"java/util/Optional", "get", "()Ljava/lang/Object;"⟩ : MethodName)) hown (mvT hZ (hw _ (List.mem_of_getElem? (i := 138) rfl))) (mvT hZ (hw _ (List.mem_of_getElem? (i := 139) rfl))) (notFace_of_selects (args := #[]) (mvT hZ (hw _ (List.mem_of_getElem? (i := 141) rfl)))) (mvT hZ (hw _ (List.mem_of_getElem? (i := 141) rfl))) (mvT hZ (hw _ (List.mem_of_getElem? (i := 140) rfl))) (by decide) (backOf (W := 0) (rkOG l Z a0 hw [] rr607 er h609 n0 (Nat.le_trans (Nat.le_trans (Nat.le_trans (Nat.le_trans Z0 E603.1) K605.1) K607.1) E609.1) Fv2) hZ (hw _ (List.mem_of_getElem? (i := 142) rfl)) (hw _ (List.mem_of_getElem? (i := 73) rfl)) (by decide) (by decide)) q625a q625c (g := (mkF m 164 #[.val (.int p0), .val (.long p1), .second, .val (.int p2), .val (.int p3), .val (.int p4), .val (.int (p0 &&& (3 : Int32))), .val (.ref rr605), .val (.ref rr607), .val (.ref er)] [(.ref rr607)])) rfl (by rw [hml]; rfl) (Steps.refl _) (argsL := []) (rest := []) (lenOf pd_10 rfl) rfl (by show 2 * 0 + _ ≤ _; exact Nat.le_of_eq rfl) (hb hby at_164) (fun _ _ => ⟨rfl, hQ624, (by decide : 12 + 0 ≤ _), (by decide : 68 + 0 ≤ _)⟩)
          dsimp only [Pt.U, Pt.locs, Pt.cells, Pt.slots] at X625 l625 y625 z625 st625 hQ625
          subst l625 y625 z625
          obtain ⟨rfl, N625q, hQ625⟩ := hQ625
          have N625 := Fr.app N624 N625q
          refine Rch.via (T' := T625) (g' := (mkF m 167 #[.val (.int p0), .val (.long p1), .second, .val (.int p2), .val (.int p3), .val (.int p4), .val (.int (p0 &&& (3 : Int32))), .val (.ref rr605), .val (.ref rr607), .val (.ref er)] [(.ref er)])) st625 ?_
          refine Rch.of (T' := T625) (g' := (mkF m 169 #[.val (.int p0), .val (.long p1), .second, .val (.int p2), .val (.int p3), .val (.int p4), .val (.int (p0 &&& (3 : Int32))), .val (.ref rr605), .val (.ref rr607), .val (.ref er)] [(.ref er), (.ref er)])) (fun _ kt => XS.aload X625.here hx rfl (hb hby at_167) rfl rfl kt) ?_
          refine Rch.of (T' := T625) (g' := (mkF m 172 #[.val (.int p0), .val (.long p1), .second, .val (.int p2), .val (.int p3), .val (.int p4), .val (.int (p0 &&& (3 : Int32))), .val (.ref rr605), .val (.ref rr607), .val (.ref er)] [])) (fun _ kt => Jvm.RoadKit.acmp (g := (mkF m 169 #[.val (.int p0), .val (.long p1), .second, .val (.int p2), .val (.int p3), .val (.int p4), .val (.int (p0 &&& (3 : Int32))), .val (.ref rr605), .val (.ref rr607), .val (.ref er)] [(.ref er), (.ref er)])) X625 hx rfl rfl rfl (pc0 := 169) (pc' := 172) (same := true) rfl (hb hby at_169) rfl (decide_eq_true rfl) (by decide) (by decide) kt) ?_
          refine Rch.of (T' := T625) (g' := (mkF m 173 #[.val (.int p0), .val (.long p1), .second, .val (.int p2), .val (.int p3), .val (.int p4), .val (.int (p0 &&& (3 : Int32))), .val (.ref rr605), .val (.ref rr607), .val (.ref er)] [(.int (1 : Int32))])) (fun _ kt => XS.iconst X625.here hx rfl (hb hby at_172) kt) ?_
          refine Rch.of (T' := T625) (g' := (mkF m 177 #[.val (.int p0), .val (.long p1), .second, .val (.int p2), .val (.int p3), .val (.int p4), .val (.int (p0 &&& (3 : Int32))), .val (.ref rr605), .val (.ref rr607), .val (.ref er)] [(.int (1 : Int32))])) (fun _ kt => XS.goto X625.here hx rfl (pc0 := 173) (pc' := 177) rfl (hb hby at_173) (by decide) (by decide) kt) ?_
          exact Rch.retN X625 hx (t := .boolean) hret (by simp) hlk (hb hby at_177) (fun U hU hF => hK _ U _ _ _ (by show Q_rm0 Z p0 p1 p2 p3 p4 av1 er wa le lw be bw em cs sv h0 n0 _ U.heap _; rw [hU, hQ625]; exact ⟨rfl, N625, trivial⟩) (own_endH hZ hEL ((((R0.trans cr603).trans cr605).trans (CHr.keep K607 all0 ((R0.trans cr603).trans cr605).1)).trans cr609) (hU.trans hQ625) hF) (own_end hS609 (by rw [hU, hQ625]; exact hk609) hF) (by decide) (by decide))
      · skip
        refine Rch.of (T' := T0) (g' := (mkF m 62 #[.val (.int p0), .val (.long p1), .second, .val (.int p2), .val (.int p3), .val (.int p4), .val (.int (p0 &&& (3 : Int32))), .unset, .unset, .unset] [])) (fun _ kt => XS.icmpYes X0.here hx rfl (pc0 := 38) (pc' := 62) rfl (hb hby at_38) rfl (feq c602).2 (by decide) (by decide) kt) ?_
        obtain ⟨s626, T626, h626, k626, sb626, kc626, X626, e626, E626, hS626, hk626, hZ, hown, Ex626, Fa626, Fb626, Ar626, la626, lb626, cr626, Lt626, sf626, st626⟩ := ldcCH (s := s) (vm0 := s.vm) X0 hx hZ hown (hw _ (List.mem_of_getElem? (i := 80) rfl)) wS e0 hS0 hk0 hEL (List.mem_of_getElem? (i := 1) rfl) R0.1 (z := (7 : Int32)) own_t1_ok.1 (by decide) (by decide) (g := (mkF m 62 #[.val (.int p0), .val (.long p1), .second, .val (.int p2), .val (.int p3), .val (.int p4), .val (.int (p0 &&& (3 : Int32))), .unset, .unset, .unset] [])) rfl (hb hby at_62) (n := 28) (by decide) (by decide) (by decide) (by decide)
        have V626 : Av Z h626 sb626 .byte 7 (fun q => .int ((own_t1 q).toInt8.toInt32)) := (Arv.av Ar626 (by decide)).congr own_t1_ok.2
        refine Rch.of (T' := T626) (g' := (mkF m 64 #[.val (.int p0), .val (.long p1), .second, .val (.int p2), .val (.int p3), .val (.int p4), .val (.int (p0 &&& (3 : Int32))), .unset, .unset, .unset] [(.ref s626)])) st626 ?_
        refine Rch.of (T' := T626) (g' := (mkF m 65 #[.val (.int p0), .val (.long p1), .second, .val (.int p2), .val (.int p3), .val (.int p4), .val (.int (p0 &&& (3 : Int32))), .unset, .unset, .unset] [(.int p2), (.ref s626)])) (fun _ kt => XS.iloadN X626.here hx rfl (hb hby at_64) rfl  kt) ?_
        refine Rch.of (T' := T626) (g' := (mkF m 66 #[.val (.int p0), .val (.long p1), .second, .val (.int p2), .val (.int p3), .val (.int p4), .val (.int (p0 &&& (3 : Int32))), .unset, .unset, .unset] [(.int (1 : Int32)), (.int p2), (.ref s626)])) (fun _ kt => XS.iconst X626.here hx rfl (hb hby at_65) kt) ?_
        refine Rch.of (T' := T626) (g' := (mkF m 67 #[.val (.int p0), .val (.long p1), .second, .val (.int p2), .val (.int p3), .val (.int p4), .val (.int (p0 &&& (3 : Int32))), .unset, .unset, .unset] [(.int (p2 &&& (1 : Int32))), (.ref s626)])) (fun _ kt => XS.iand X626.here hx rfl (hb hby at_66) rfl kt) ?_
        obtain ⟨k, hk, ek⟩ := own_andk p2 1 (by decide)
        have sw627 : (p2 &&& (1 : Int32)) = (Int32.ofNat k) := ek
        rw [sw627]
        show Rch p e below K T626 (mkF m 67 #[.val (.int p0), .val (.long p1), .second, .val (.int p2), .val (.int p3), .val (.int p4), .val (.int (p0 &&& (3 : Int32))), .unset, .unset, .unset] [(.int (Int32.ofNat k)), (.ref s626)])
        refine Rch.of (T' := T626) (g' := (mkF m 69 #[.val (.int p0), .val (.long p1), .second, .val (.int p2), .val (.int p3), .val (.int p4), .val (.int (p0 &&& (3 : Int32))), .unset, .unset, .unset] [(.int p3), (.int (Int32.ofNat k)), (.ref s626)])) (fun _ kt => XS.iload X626.here hx rfl (hb hby at_67) rfl  kt) ?_
        refine Rch.of (T' := T626) (g' := (mkF m 71 #[.val (.int p0), .val (.long p1), .second, .val (.int p2), .val (.int p3), .val (.int p4), .val (.int (p0 &&& (3 : Int32))), .unset, .unset, .unset] [(.int p4), (.int p3), (.int (Int32.ofNat k)), (.ref s626)])) (fun _ kt => XS.iload X626.here hx rfl (hb hby at_69) rfl  kt) ?_
        refine Rch.of (T' := T626) (g' := (mkF m 74 #[.val (.int p0), .val (.long p1), .second, .val (.int p2), .val (.int p3), .val (.int p4), .val (.int (p0 &&& (3 : Int32))), .unset, .unset, .unset] [(.int (255 : Int32)), (.int p4), (.int p3), (.int (Int32.ofNat k)), (.ref s626)])) (fun _ kt => XS.sipush X626.here hx rfl (hb hby at_71) kt) ?_
        refine Rch.of (T' := T626) (g' := (mkF m 75 #[.val (.int p0), .val (.long p1), .second, .val (.int p2), .val (.int p3), .val (.int p4), .val (.int (p0 &&& (3 : Int32))), .unset, .unset, .unset] [(.int (p4 &&& (255 : Int32))), (.int p3), (.int (Int32.ofNat k)), (.ref s626)])) (fun _ kt => XS.iand X626.here hx rfl (hb hby at_74) rfl kt) ?_
        have pr629 : k ≤ 1 := by omega
        obtain ⟨_, _, ⟨T628, L628, k628, n628⟩, -, X628, hT628, gr628, ⟨Lc628, hQ628, l628, y628, z628, cr628⟩, st628⟩ := callSS X626 hx (y := (⟨"com/example/isidore/isidore/SeverityLabelledPinLaw", "near", "(Ljava/lang/String;III)Ljava/lang/String;"⟩ : MethodName)) hown (mvT hZ (hw _ (List.mem_of_getElem? (i := 88) rfl))) (mvT hZ (hw _ (List.mem_of_getElem? (i := 89) rfl))) (mvT hZ (hw _ (List.mem_of_getElem? (i := 2) rfl))) (mvT hZ (hw _ (List.mem_of_getElem? (i := 90) rfl))) (by decide) (backOfSH (s := s) (vm0 := T626.vm) (EL := consts_1) (W := 0) (rkN7 l Z a0 hw [] s626 sb626 own_t1 k p3 (p4 &&& (255 : Int32)) cs sv h626 n0 (Nat.le_trans Z0 E626.1) Ex626 Fa626 Fb626 V626 own_chW pr629 (own_and255 _) ((S1.ext O0.2).ext E626) hcs ((SI0.ext O0.2).ext E626) hsv) hZ (hw _ (List.mem_of_getElem? (i := 90) rfl)) (hw _ (List.mem_of_getElem? (i := 2) rfl)) (by decide) (by decide) hEL (R0.trans cr626).1) (g := (mkF m 75 #[.val (.int p0), .val (.long p1), .second, .val (.int p2), .val (.int p3), .val (.int p4), .val (.int (p0 &&& (3 : Int32))), .unset, .unset, .unset] [(.int (p4 &&& (255 : Int32))), (.int p3), (.int (Int32.ofNat k)), (.ref s626)])) rfl (by rw [hml]; rfl) (argsL := [(.ref s626), (.int (Int32.ofNat k)), (.int p3), (.int (p4 &&& (255 : Int32)))]) (rest := []) (lenOf pd_15 rfl) rfl (by show 2 * 0 + _ ≤ _; exact Nat.le_of_eq rfl) (hb hby at_75) (fun _ _ => ⟨rfl, e626, (by decide : 2 + 6 ≤ _), (by decide : 32 + 19 ≤ _)⟩)
        dsimp only [Pt.U, Pt.locs, Pt.cells, Pt.slots] at X628 hT628 gr628 l628 y628 z628 st628 hQ628 cr628
        subst l628 y628 z628
        obtain ⟨X628, hS628, hZ, hown⟩ := rebS hS626 hk626 X628 hT628 (by rw [← e626]; exact gr628) hZ hown
        obtain ⟨rr628, rb628, rt628, rnn628, rfl, N628q, hQ628⟩ := hQ628
        have N628 := Fr.app N0 N628q
        obtain ⟨K628, Ex628, Fa628, Fb628, V628, Ch628, Le628⟩ := hQ628
        refine Rch.via (T' := T628) (g' := (mkF m 78 #[.val (.int p0), .val (.long p1), .second, .val (.int p2), .val (.int p3), .val (.int p4), .val (.int (p0 &&& (3 : Int32))), .unset, .unset, .unset] [(.ref rr628)])) st628 ?_
        refine Rch.of (T' := T628) (g' := (mkF m 80 #[.val (.int p0), .val (.long p1), .second, .val (.int p2), .val (.int p3), .val (.int p4), .val (.int (p0 &&& (3 : Int32))), .val (.ref rr628), .unset, .unset] [])) (fun _ kt => XS.astore X628.here hx rfl (hb hby at_78) rfl rfl (l' := #[.val (.int p0), .val (.long p1), .second, .val (.int p2), .val (.int p3), .val (.int p4), .val (.int (p0 &&& (3 : Int32))), .val (.ref rr628), .unset, .unset]) rfl kt) ?_
        have hle7 : rnn628 ≤ 7 := Le628
        refine Rch.of (T' := T628) (g' := (mkF m 82 #[.val (.int p0), .val (.long p1), .second, .val (.int p2), .val (.int p3), .val (.int p4), .val (.int (p0 &&& (3 : Int32))), .val (.ref rr628), .unset, .unset] [(.ref rr628)])) (fun _ kt => XS.aload X628.here hx rfl (hb hby at_80) rfl rfl kt) ?_
        have pr631 : rnn628 ≤ 7 := by omega
        obtain ⟨_, _, ⟨T630, L630, k630, n630⟩, -, X630, ⟨Lc630, hQ630, l630, y630, z630⟩, st630⟩ := Jvm.LawKit.callS X628 hx (y := (⟨"com/example/isidore/isidore/Severity", "labelled", "(Ljava/lang/String;)Ljava/util/Optional;"⟩ : MethodName)) hown (mvT hZ (hw _ (List.mem_of_getElem? (i := 38) rfl))) (mvT hZ (hw _ (List.mem_of_getElem? (i := 39) rfl))) (mvT hZ (hw _ (List.mem_of_getElem? (i := 40) rfl))) (mvT hZ (hw _ (List.mem_of_getElem? (i := 41) rfl))) (by decide) (backOf (W := 0) (rkLs l Z a0 hw [] rr628 rb628 rnn628 rt628 av1 er wa le lw be bw em cs T628.heap n0 (Nat.le_trans (Nat.le_trans Z0 E626.1) K628.1) Ex628 Fa628 Fb628 V628 (S2.ext ((O0.ext E626).keep K628 all0).2) (((E3.ext O0.2).ext E626).keep K628) (((V3.ext O0.2).ext E626).keep K628 nin0) (((Fl1.ext O0.2).ext E626).keep K628 nin0) (((Xl1.ext O0.2).ext E626).keep K628) (((Fc1.ext O0.2).ext E626).keep K628 nin0) (((Fv1.ext O0.2).ext E626).keep K628 nin0) (((Vl1.ext O0.2).ext E626).keep K628 nin0) (((Fl2.ext O0.2).ext E626).keep K628 nin0) (((Xl2.ext O0.2).ext E626).keep K628) (((Fc2.ext O0.2).ext E626).keep K628 nin0) (((Fv2.ext O0.2).ext E626).keep K628 nin0) (((Vl2.ext O0.2).ext E626).keep K628 nin0) (S5.ext ((O0.ext E626).keep K628 all0).2) (((E5.ext O0.2).ext E626).keep K628) (((F5.ext O0.2).ext E626).keep K628 nin0) (S1.ext ((O0.ext E626).keep K628 all0).2) hcs pr631 Ch628) hZ (hw _ (List.mem_of_getElem? (i := 41) rfl)) (hw _ (List.mem_of_getElem? (i := 40) rfl)) (by decide) (by decide)) (g := (mkF m 82 #[.val (.int p0), .val (.long p1), .second, .val (.int p2), .val (.int p3), .val (.int p4), .val (.int (p0 &&& (3 : Int32))), .val (.ref rr628), .unset, .unset] [(.ref rr628)])) rfl (by rw [hml]; rfl) (argsL := [(.ref rr628)]) (rest := []) (lenOf pd_8 rfl) rfl (by show 2 * 0 + _ ≤ _; exact Nat.le_of_eq rfl) (hb hby at_82) (fun _ _ => ⟨rfl, rfl, (by decide : 8 + 2 ≤ _), (by decide : 51 + 3 ≤ _)⟩)
        dsimp only [Pt.U, Pt.locs, Pt.cells, Pt.slots] at X630 l630 y630 z630 st630 hQ630
        subst l630 y630 z630
        obtain ⟨rr630, rv1630, rfl, N630q, hQ630⟩ := hQ630
        have N630 := Fr.app N628 N630q
        obtain ⟨K630, Ex630, Fa630, I1630, I2630, I3630⟩ := hQ630
        refine Rch.of (T' := T630) (g' := (mkF m 85 #[.val (.int p0), .val (.long p1), .second, .val (.int p2), .val (.int p3), .val (.int p4), .val (.int (p0 &&& (3 : Int32))), .val (.ref rr628), .unset, .unset] [(.ref rr630)])) st630 ?_
        refine Rch.of (T' := T630) (g' := (mkF m 87 #[.val (.int p0), .val (.long p1), .second, .val (.int p2), .val (.int p3), .val (.int p4), .val (.int (p0 &&& (3 : Int32))), .val (.ref rr628), .val (.ref rr630), .unset] [])) (fun _ kt => XS.astore X630.here hx rfl (hb hby at_85) rfl rfl (l' := #[.val (.int p0), .val (.long p1), .second, .val (.int p2), .val (.int p3), .val (.int p4), .val (.int (p0 &&& (3 : Int32))), .val (.ref rr628), .val (.ref rr630), .unset]) rfl kt) ?_
        refine Rch.of (T' := T630) (g' := (mkF m 89 #[.val (.int p0), .val (.long p1), .second, .val (.int p2), .val (.int p3), .val (.int p4), .val (.int (p0 &&& (3 : Int32))), .val (.ref rr628), .val (.ref rr630), .unset] [(.ref rr630)])) (fun _ kt => XS.aload X630.here hx rfl (hb hby at_87) rfl rfl kt) ?_
        refine Rch.of (T' := T630) (g' := (mkF m 94 #[.val (.int p0), .val (.long p1), .second, .val (.int p2), .val (.int p3), .val (.int p4), .val (.int (p0 &&& (3 : Int32))), .val (.ref rr628), .val (.ref rr630), .unset] [])) (fun _ kt => XS.ifnonnullYes X630.here hx rfl (pc0 := 89) (pc' := 94) rfl (hb hby at_89) rfl (by decide) (by decide) kt) ?_
        refine Rch.of (T' := T630) (g' := (mkF m 95 #[.val (.int p0), .val (.long p1), .second, .val (.int p2), .val (.int p3), .val (.int p4), .val (.int (p0 &&& (3 : Int32))), .val (.ref rr628), .val (.ref rr630), .unset] [.null])) (fun _ kt => XS.aconstNull X630.here hx rfl (hb hby at_94) kt) ?_
        refine Rch.of (T' := T630) (g' := (mkF m 97 #[.val (.int p0), .val (.long p1), .second, .val (.int p2), .val (.int p3), .val (.int p4), .val (.int (p0 &&& (3 : Int32))), .val (.ref rr628), .val (.ref rr630), .val .null] [])) (fun _ kt => XS.astore X630.here hx rfl (hb hby at_95) rfl rfl (l' := #[.val (.int p0), .val (.long p1), .second, .val (.int p2), .val (.int p3), .val (.int p4), .val (.int (p0 &&& (3 : Int32))), .val (.ref rr628), .val (.ref rr630), .val .null]) rfl kt) ?_
        refine Rch.of (T' := T630) (g' := (mkF m 99 #[.val (.int p0), .val (.long p1), .second, .val (.int p2), .val (.int p3), .val (.int p4), .val (.int (p0 &&& (3 : Int32))), .val (.ref rr628), .val (.ref rr630), .val .null] [(.ref rr628)])) (fun _ kt => XS.aload X630.here hx rfl (hb hby at_97) rfl rfl kt) ?_
        refine Rch.of (T' := T630) (g' := (mkF m 102 #[.val (.int p0), .val (.long p1), .second, .val (.int p2), .val (.int p3), .val (.int p4), .val (.int (p0 &&& (3 : Int32))), .val (.ref rr628), .val (.ref rr630), .val .null] [])) (fun _ kt => XS.ifnullNo X630.here hx rfl (hb hby at_99) rfl kt) ?_
        refine Rch.of (T' := T630) (g' := (mkF m 104 #[.val (.int p0), .val (.long p1), .second, .val (.int p2), .val (.int p3), .val (.int p4), .val (.int (p0 &&& (3 : Int32))), .val (.ref rr628), .val (.ref rr630), .val .null] [(.ref rr628)])) (fun _ kt => XS.aload X630.here hx rfl (hb hby at_102) rfl rfl kt) ?_
        obtain ⟨s632, T632, h632, k632, sb632, kc632, X632, e632, E632, hS632, hk632, hZ, hown, Ex632, Fa632, Fb632, Ar632, la632, lb632, cr632, Lt632, sf632, st632⟩ := ldcCH (s := s) (vm0 := T628.vm) X630 hx hZ hown (hw _ (List.mem_of_getElem? (i := 76) rfl)) wS rfl hS628 (Nat.le_trans (Nat.le_refl _) K630.1) hEL (List.mem_of_getElem? (i := 0) rfl) (((R0.trans cr626).trans cr628).trans (CHr.keep K630 all0 ((R0.trans cr626).trans cr628).1)).1 (z := (5 : Int32)) own_t0_ok.1 (by decide) (by decide) (g := (mkF m 104 #[.val (.int p0), .val (.long p1), .second, .val (.int p2), .val (.int p3), .val (.int p4), .val (.int (p0 &&& (3 : Int32))), .val (.ref rr628), .val (.ref rr630), .val .null] [(.ref rr628)])) rfl (hb hby at_104) (n := 20) (by decide) (by decide) (by decide) (by decide)
        have V632 : Av Z h632 sb632 .byte 5 (fun q => .int ((own_t0 q).toInt8.toInt32)) := (Arv.av Ar632 (by decide)).congr own_t0_ok.2
        refine Rch.of (T' := T632) (g' := (mkF m 106 #[.val (.int p0), .val (.long p1), .second, .val (.int p2), .val (.int p3), .val (.int p4), .val (.int (p0 &&& (3 : Int32))), .val (.ref rr628), .val (.ref rr630), .val .null] [(.ref s632), (.ref rr628)])) st632 ?_
        have pr634 : rnn628 ≤ 7 := by omega
        have pr635 : 5 ≤ 7 := by omega
        obtain ⟨cq633, kq633, q633a, q633b, q633c⟩ := isOf hZ e632 ((Ex628.keep K630).ext E632)
        obtain ⟨_, _, ⟨T633, L633, k633, n633⟩, -, X633, ⟨Lc633, hQ633, l633, y633, z633⟩, st633⟩ := X632.virtualBack hx (y := (⟨"java/lang/String", "equals", "(Ljava/lang/Object;)Z"⟩ : MethodName)) (z := (⟨"java/lang/String", "equals", "(Ljava/lang/Object;)Z"⟩ : MethodName)) hown (mvT hZ (hw _ (List.mem_of_getElem? (i := 79) rfl))) (mvT hZ (hw _ (List.mem_of_getElem? (i := 62) rfl))) (notFace_of_selects (args := #[]) (mvT hZ (hw _ (List.mem_of_getElem? (i := 64) rfl)))) (mvT hZ (hw _ (List.mem_of_getElem? (i := 64) rfl))) (mvT hZ (hw _ (List.mem_of_getElem? (i := 63) rfl))) (by decide) (backOf (W := 0) (rqEQ l Z a0 hw [] rr628 rb628 rnn628 rt628 s632 sb632 5 own_t0 cs h632 n0 (Nat.le_trans (Nat.le_trans (Nat.le_trans (Nat.le_trans Z0 E626.1) K628.1) K630.1) E632.1) ((Ex628.keep K630).ext E632) ((Fa628.keep K630 nin0).ext E632) ((Fb628.keep K630 nin0).ext E632) ((V628.keep K630 nin0).ext E632) Ex632 Fa632 Fb632 V632 pr634 pr635 Ch628 own_chE ((S1.ext (((O0.ext E626).keep K628 all0).keep K630 all0).2).ext E632) hcs) hZ (hw _ (List.mem_of_getElem? (i := 65) rfl)) (hw _ (List.mem_of_getElem? (i := 11) rfl)) (by decide) (by decide)) q633a q633c (g := (mkF m 106 #[.val (.int p0), .val (.long p1), .second, .val (.int p2), .val (.int p3), .val (.int p4), .val (.int (p0 &&& (3 : Int32))), .val (.ref rr628), .val (.ref rr630), .val .null] [(.ref s632), (.ref rr628)])) rfl (by rw [hml]; rfl) (Steps.refl _) (argsL := [(.ref s632)]) (rest := []) (lenOf pd_11 rfl) rfl (by show 2 * 0 + _ ≤ _; exact Nat.le_of_eq rfl) (hb hby at_106) (fun _ _ => ⟨rfl, e632, (by decide : 12 + 0 ≤ _), (by decide : 78 + 0 ≤ _)⟩)
        dsimp only [Pt.U, Pt.locs, Pt.cells, Pt.slots] at X633 l633 y633 z633 st633 hQ633
        subst l633 y633 z633
        obtain ⟨rfl, N633q, hQ633⟩ := hQ633
        have N633 := Fr.app N630 N633q
        refine Rch.via (T' := T633) (g' := (mkF m 109 #[.val (.int p0), .val (.long p1), .second, .val (.int p2), .val (.int p3), .val (.int p4), .val (.int (p0 &&& (3 : Int32))), .val (.ref rr628), .val (.ref rr630), .val .null] [(.int (own_eqv rnn628 rt628 5 own_t0))])) st633 ?_
        by_cases c636 : (own_eqv rnn628 rt628 5 own_t0) = (0 : Int32)
        · skip
          refine Rch.of (T' := T633) (g' := (mkF m 120 #[.val (.int p0), .val (.long p1), .second, .val (.int p2), .val (.int p3), .val (.int p4), .val (.int (p0 &&& (3 : Int32))), .val (.ref rr628), .val (.ref rr630), .val .null] [])) (fun _ kt => XS.ifYes X633.here hx rfl (pc0 := 109) (pc' := 120) rfl (hb hby at_109) rfl ((if0 _ _).trans (teq c636).1) (by decide) (by decide) kt) ?_
          have hE : own_eqv 5 own_t0 rnn628 rt628 = 0 := by rw [own_eqv_comm]; exact c636
          refine Rch.of (T' := T633) (g' := (mkF m 122 #[.val (.int p0), .val (.long p1), .second, .val (.int p2), .val (.int p3), .val (.int p4), .val (.int (p0 &&& (3 : Int32))), .val (.ref rr628), .val (.ref rr630), .val .null] [(.ref rr628)])) (fun _ kt => XS.aload X633.here hx rfl (hb hby at_120) rfl rfl kt) ?_
          obtain ⟨s637, T637, h637, k637, sb637, kc637, X637, e637, E637, hS637, hk637, hZ, hown, Ex637, Fa637, Fb637, Ar637, la637, lb637, cr637, Lt637, sf637, st637⟩ := ldcCH (s := s) (vm0 := T632.vm) X633 hx hZ hown (hw _ (List.mem_of_getElem? (i := 80) rfl)) wS hQ633 hS632 hk632 hEL (List.mem_of_getElem? (i := 1) rfl) ((((R0.trans cr626).trans cr628).trans (CHr.keep K630 all0 ((R0.trans cr626).trans cr628).1)).trans cr632).1 (z := (7 : Int32)) own_t1_ok.1 (by decide) (by decide) (g := (mkF m 122 #[.val (.int p0), .val (.long p1), .second, .val (.int p2), .val (.int p3), .val (.int p4), .val (.int (p0 &&& (3 : Int32))), .val (.ref rr628), .val (.ref rr630), .val .null] [(.ref rr628)])) rfl (hb hby at_122) (n := 28) (by decide) (by decide) (by decide) (by decide)
          have V637 : Av Z h637 sb637 .byte 7 (fun q => .int ((own_t1 q).toInt8.toInt32)) := (Arv.av Ar637 (by decide)).congr own_t1_ok.2
          refine Rch.of (T' := T637) (g' := (mkF m 124 #[.val (.int p0), .val (.long p1), .second, .val (.int p2), .val (.int p3), .val (.int p4), .val (.int (p0 &&& (3 : Int32))), .val (.ref rr628), .val (.ref rr630), .val .null] [(.ref s637), (.ref rr628)])) st637 ?_
          have pr639 : rnn628 ≤ 7 := by omega
          have pr640 : 7 ≤ 7 := by omega
          obtain ⟨cq638, kq638, q638a, q638b, q638c⟩ := isOf hZ e637 (((Ex628.keep K630).ext E632).ext E637)
          obtain ⟨_, _, ⟨T638, L638, k638, n638⟩, -, X638, ⟨Lc638, hQ638, l638, y638, z638⟩, st638⟩ := X637.virtualBack hx (y := (⟨"java/lang/String", "equals", "(Ljava/lang/Object;)Z"⟩ : MethodName)) (z := (⟨"java/lang/String", "equals", "(Ljava/lang/Object;)Z"⟩ : MethodName)) hown (mvT hZ (hw _ (List.mem_of_getElem? (i := 79) rfl))) (mvT hZ (hw _ (List.mem_of_getElem? (i := 62) rfl))) (notFace_of_selects (args := #[]) (mvT hZ (hw _ (List.mem_of_getElem? (i := 64) rfl)))) (mvT hZ (hw _ (List.mem_of_getElem? (i := 64) rfl))) (mvT hZ (hw _ (List.mem_of_getElem? (i := 63) rfl))) (by decide) (backOf (W := 0) (rqEQ l Z a0 hw [] rr628 rb628 rnn628 rt628 s637 sb637 7 own_t1 cs h637 n0 (Nat.le_trans (Nat.le_trans (Nat.le_trans (Nat.le_trans (Nat.le_trans Z0 E626.1) K628.1) K630.1) E632.1) E637.1) (((Ex628.keep K630).ext E632).ext E637) (((Fa628.keep K630 nin0).ext E632).ext E637) (((Fb628.keep K630 nin0).ext E632).ext E637) (((V628.keep K630 nin0).ext E632).ext E637) Ex637 Fa637 Fb637 V637 pr639 pr640 Ch628 own_chW (((S1.ext (((O0.ext E626).keep K628 all0).keep K630 all0).2).ext E632).ext E637) hcs) hZ (hw _ (List.mem_of_getElem? (i := 65) rfl)) (hw _ (List.mem_of_getElem? (i := 11) rfl)) (by decide) (by decide)) q638a q638c (g := (mkF m 124 #[.val (.int p0), .val (.long p1), .second, .val (.int p2), .val (.int p3), .val (.int p4), .val (.int (p0 &&& (3 : Int32))), .val (.ref rr628), .val (.ref rr630), .val .null] [(.ref s637), (.ref rr628)])) rfl (by rw [hml]; rfl) (Steps.refl _) (argsL := [(.ref s637)]) (rest := []) (lenOf pd_11 rfl) rfl (by show 2 * 0 + _ ≤ _; exact Nat.le_of_eq rfl) (hb hby at_124) (fun _ _ => ⟨rfl, e637, (by decide : 14 + 0 ≤ _), (by decide : 110 + 0 ≤ _)⟩)
          dsimp only [Pt.U, Pt.locs, Pt.cells, Pt.slots] at X638 l638 y638 z638 st638 hQ638
          subst l638 y638 z638
          obtain ⟨rfl, N638q, hQ638⟩ := hQ638
          have N638 := Fr.app N633 N638q
          refine Rch.via (T' := T638) (g' := (mkF m 127 #[.val (.int p0), .val (.long p1), .second, .val (.int p2), .val (.int p3), .val (.int p4), .val (.int (p0 &&& (3 : Int32))), .val (.ref rr628), .val (.ref rr630), .val .null] [(.int (own_eqv rnn628 rt628 7 own_t1))])) st638 ?_
          by_cases c641 : (own_eqv rnn628 rt628 7 own_t1) = (0 : Int32)
          · skip
            refine Rch.of (T' := T638) (g' := (mkF m 135 #[.val (.int p0), .val (.long p1), .second, .val (.int p2), .val (.int p3), .val (.int p4), .val (.int (p0 &&& (3 : Int32))), .val (.ref rr628), .val (.ref rr630), .val .null] [])) (fun _ kt => XS.ifYes X638.here hx rfl (pc0 := 127) (pc' := 135) rfl (hb hby at_127) rfl ((if0 _ _).trans (teq c641).1) (by decide) (by decide) kt) ?_
            have hW : own_eqv 7 own_t1 rnn628 rt628 = 0 := by rw [own_eqv_comm]; exact c641
            have hv : rv1630 = .null := I3630 hE hW
            have Fv2 : Fld Z h637 rr630 "java/util/Optional" "value" "Ljava/lang/Object;" .null := by rw [← hv]; exact ((Fa630.ext E632).ext E637)
            refine Rch.of (T' := T638) (g' := (mkF m 137 #[.val (.int p0), .val (.long p1), .second, .val (.int p2), .val (.int p3), .val (.int p4), .val (.int (p0 &&& (3 : Int32))), .val (.ref rr628), .val (.ref rr630), .val .null] [.null])) (fun _ kt => XS.aload X638.here hx rfl (hb hby at_135) rfl rfl kt) ?_
            refine Rch.of (T' := T638) (g' := (mkF m 140 #[.val (.int p0), .val (.long p1), .second, .val (.int p2), .val (.int p3), .val (.int p4), .val (.int (p0 &&& (3 : Int32))), .val (.ref rr628), .val (.ref rr630), .val .null] [])) (fun _ kt => XS.ifnonnullNo X638.here hx rfl (hb hby at_137) rfl kt) ?_
            refine Rch.of (T' := T638) (g' := (mkF m 142 #[.val (.int p0), .val (.long p1), .second, .val (.int p2), .val (.int p3), .val (.int p4), .val (.int (p0 &&& (3 : Int32))), .val (.ref rr628), .val (.ref rr630), .val .null] [(.ref rr630)])) (fun _ kt => XS.aload X638.here hx rfl (hb hby at_140) rfl rfl kt) ?_
            obtain ⟨cq642, kq642, q642a, q642b, q642c⟩ := isOf hZ hQ638 ((Ex630.ext E632).ext E637)
            obtain ⟨_, _, ⟨T642, L642, k642, n642⟩, -, X642, ⟨Lc642, hQ642, l642, y642, z642⟩, st642⟩ := X638.virtualBack hx (y := (⟨"java/util/Optional", "isPresent", "()Z"⟩ : MethodName)) (z := (⟨"java/util/Optional", "isPresent", "()Z"⟩ : MethodName)) hown (mvT hZ (hw _ (List.mem_of_getElem? (i := 81) rfl))) (mvT hZ (hw _ (List.mem_of_getElem? (i := 82) rfl))) (notFace_of_selects (args := #[]) (mvT hZ (hw _ (List.mem_of_getElem? (i := 84) rfl)))) (mvT hZ (hw _ (List.mem_of_getElem? (i := 84) rfl))) (mvT hZ (hw _ (List.mem_of_getElem? (i := 83) rfl))) (by decide) (backOf (W := 0) (rkOPn l Z a0 hw [] rr630 h637 n0 (Nat.le_trans (Nat.le_trans (Nat.le_trans (Nat.le_trans (Nat.le_trans Z0 E626.1) K628.1) K630.1) E632.1) E637.1) Fv2) hZ (hw _ (List.mem_of_getElem? (i := 85) rfl)) (hw _ (List.mem_of_getElem? (i := 73) rfl)) (by decide) (by decide)) q642a q642c (g := (mkF m 142 #[.val (.int p0), .val (.long p1), .second, .val (.int p2), .val (.int p3), .val (.int p4), .val (.int (p0 &&& (3 : Int32))), .val (.ref rr628), .val (.ref rr630), .val .null] [(.ref rr630)])) rfl (by rw [hml]; rfl) (Steps.refl _) (argsL := []) (rest := []) (lenOf pd_14 rfl) rfl (by show 2 * 0 + _ ≤ _; exact Nat.le_of_eq rfl) (hb hby at_142) (fun _ _ => ⟨rfl, hQ638, (by decide : 14 + 0 ≤ _), (by decide : 110 + 0 ≤ _)⟩)
            dsimp only [Pt.U, Pt.locs, Pt.cells, Pt.slots] at X642 l642 y642 z642 st642 hQ642
            subst l642 y642 z642
            obtain ⟨rfl, N642q, hQ642⟩ := hQ642
            have N642 := Fr.app N638 N642q
            refine Rch.via (T' := T642) (g' := (mkF m 145 #[.val (.int p0), .val (.long p1), .second, .val (.int p2), .val (.int p3), .val (.int p4), .val (.int (p0 &&& (3 : Int32))), .val (.ref rr628), .val (.ref rr630), .val .null] [(.int (0 : Int32))])) st642 ?_
            refine Rch.of (T' := T642) (g' := (mkF m 148 #[.val (.int p0), .val (.long p1), .second, .val (.int p2), .val (.int p3), .val (.int p4), .val (.int (p0 &&& (3 : Int32))), .val (.ref rr628), .val (.ref rr630), .val .null] [])) (fun _ kt => XS.ifNo X642.here hx rfl (hb hby at_145) rfl ((if0 _ _).trans (teq ((by decide) : (0 : Int32) = (0 : Int32))).2) kt) ?_
            refine Rch.of (T' := T642) (g' := (mkF m 149 #[.val (.int p0), .val (.long p1), .second, .val (.int p2), .val (.int p3), .val (.int p4), .val (.int (p0 &&& (3 : Int32))), .val (.ref rr628), .val (.ref rr630), .val .null] [(.int (1 : Int32))])) (fun _ kt => XS.iconst X642.here hx rfl (hb hby at_148) kt) ?_
            refine Rch.of (T' := T642) (g' := (mkF m 153 #[.val (.int p0), .val (.long p1), .second, .val (.int p2), .val (.int p3), .val (.int p4), .val (.int (p0 &&& (3 : Int32))), .val (.ref rr628), .val (.ref rr630), .val .null] [(.int (1 : Int32))])) (fun _ kt => XS.goto X642.here hx rfl (pc0 := 149) (pc' := 153) rfl (hb hby at_149) (by decide) (by decide) kt) ?_
            exact Rch.retN X642 hx (t := .boolean) hret (by simp) hlk (hb hby at_153) (fun U hU hF => hK _ U _ _ _ (by show Q_rm0 Z p0 p1 p2 p3 p4 av1 er wa le lw be bw em cs sv h0 n0 _ U.heap _; rw [hU, hQ642]; exact ⟨rfl, N642, trivial⟩) (own_endH hZ hEL (((((R0.trans cr626).trans cr628).trans (CHr.keep K630 all0 ((R0.trans cr626).trans cr628).1)).trans cr632).trans cr637) (hU.trans hQ642) hF) (own_end hS637 (by rw [hU, hQ642]; exact hk637) hF) (by decide) (by decide))
          · skip
            refine Rch.of (T' := T638) (g' := (mkF m 130 #[.val (.int p0), .val (.long p1), .second, .val (.int p2), .val (.int p3), .val (.int p4), .val (.int (p0 &&& (3 : Int32))), .val (.ref rr628), .val (.ref rr630), .val .null] [])) (fun _ kt => XS.ifNo X638.here hx rfl (hb hby at_127) rfl ((if0 _ _).trans (feq c641).1) kt) ?_
            have hW : ¬ own_eqv 7 own_t1 rnn628 rt628 = 0 := by rw [own_eqv_comm]; exact c641
            have hv : rv1630 = (.ref wa) := I2630 hE hW
            have Fv2 : Fld Z h637 rr630 "java/util/Optional" "value" "Ljava/lang/Object;" (.ref wa) := by rw [← hv]; exact ((Fa630.ext E632).ext E637)
            obtain ⟨T643, X643, e643, st643⟩ := getS2 X638 hx hZ hown (host := "") (Or.inl (hw _ (List.mem_of_getElem? (i := 137) rfl))) Via.refl hQ638 (((S7.ext (((O0.ext E626).keep K628 all0).keep K630 all0).2).ext E632).ext E637) (g := (mkF m 130 #[.val (.int p0), .val (.long p1), .second, .val (.int p2), .val (.int p3), .val (.int p4), .val (.int (p0 &&& (3 : Int32))), .val (.ref rr628), .val (.ref rr630), .val .null] [])) rfl (hb hby at_130)
            refine Rch.of (T' := T643) (g' := (mkF m 133 #[.val (.int p0), .val (.long p1), .second, .val (.int p2), .val (.int p3), .val (.int p4), .val (.int (p0 &&& (3 : Int32))), .val (.ref rr628), .val (.ref rr630), .val .null] [(.ref wa)])) st643 ?_
            refine Rch.of (T' := T643) (g' := (mkF m 135 #[.val (.int p0), .val (.long p1), .second, .val (.int p2), .val (.int p3), .val (.int p4), .val (.int (p0 &&& (3 : Int32))), .val (.ref rr628), .val (.ref rr630), .val (.ref wa)] [])) (fun _ kt => XS.astore X643.here hx rfl (hb hby at_133) rfl rfl (l' := #[.val (.int p0), .val (.long p1), .second, .val (.int p2), .val (.int p3), .val (.int p4), .val (.int (p0 &&& (3 : Int32))), .val (.ref rr628), .val (.ref rr630), .val (.ref wa)]) rfl kt) ?_
            refine Rch.of (T' := T643) (g' := (mkF m 137 #[.val (.int p0), .val (.long p1), .second, .val (.int p2), .val (.int p3), .val (.int p4), .val (.int (p0 &&& (3 : Int32))), .val (.ref rr628), .val (.ref rr630), .val (.ref wa)] [(.ref wa)])) (fun _ kt => XS.aload X643.here hx rfl (hb hby at_135) rfl rfl kt) ?_
            refine Rch.of (T' := T643) (g' := (mkF m 154 #[.val (.int p0), .val (.long p1), .second, .val (.int p2), .val (.int p3), .val (.int p4), .val (.int (p0 &&& (3 : Int32))), .val (.ref rr628), .val (.ref rr630), .val (.ref wa)] [])) (fun _ kt => XS.ifnonnullYes X643.here hx rfl (pc0 := 137) (pc' := 154) rfl (hb hby at_137) rfl (by decide) (by decide) kt) ?_
            refine Rch.of (T' := T643) (g' := (mkF m 156 #[.val (.int p0), .val (.long p1), .second, .val (.int p2), .val (.int p3), .val (.int p4), .val (.int (p0 &&& (3 : Int32))), .val (.ref rr628), .val (.ref rr630), .val (.ref wa)] [(.ref rr630)])) (fun _ kt => XS.aload X643.here hx rfl (hb hby at_154) rfl rfl kt) ?_
            obtain ⟨cq644, kq644, q644a, q644b, q644c⟩ := isOf hZ e643 ((Ex630.ext E632).ext E637)
            obtain ⟨_, _, ⟨T644, L644, k644, n644⟩, -, X644, ⟨Lc644, hQ644, l644, y644, z644⟩, st644⟩ := X643.virtualBack hx (y := (⟨"java/util/Optional", "isPresent", "()Z"⟩ : MethodName)) (z := (⟨"java/util/Optional", "isPresent", "()Z"⟩ : MethodName)) hown (mvT hZ (hw _ (List.mem_of_getElem? (i := 81) rfl))) (mvT hZ (hw _ (List.mem_of_getElem? (i := 82) rfl))) (notFace_of_selects (args := #[]) (mvT hZ (hw _ (List.mem_of_getElem? (i := 84) rfl)))) (mvT hZ (hw _ (List.mem_of_getElem? (i := 84) rfl))) (mvT hZ (hw _ (List.mem_of_getElem? (i := 83) rfl))) (by decide) (backOf (W := 0) (rkOPr l Z a0 hw [] rr630 wa h637 n0 (Nat.le_trans (Nat.le_trans (Nat.le_trans (Nat.le_trans (Nat.le_trans Z0 E626.1) K628.1) K630.1) E632.1) E637.1) Fv2) hZ (hw _ (List.mem_of_getElem? (i := 85) rfl)) (hw _ (List.mem_of_getElem? (i := 73) rfl)) (by decide) (by decide)) q644a q644c (g := (mkF m 156 #[.val (.int p0), .val (.long p1), .second, .val (.int p2), .val (.int p3), .val (.int p4), .val (.int (p0 &&& (3 : Int32))), .val (.ref rr628), .val (.ref rr630), .val (.ref wa)] [(.ref rr630)])) rfl (by rw [hml]; rfl) (Steps.refl _) (argsL := []) (rest := []) (lenOf pd_14 rfl) rfl (by show 2 * 0 + _ ≤ _; exact Nat.le_of_eq rfl) (hb hby at_156) (fun _ _ => ⟨rfl, e643, (by decide : 14 + 0 ≤ _), (by decide : 110 + 0 ≤ _)⟩)
            dsimp only [Pt.U, Pt.locs, Pt.cells, Pt.slots] at X644 l644 y644 z644 st644 hQ644
            subst l644 y644 z644
            obtain ⟨rfl, N644q, hQ644⟩ := hQ644
            have N644 := Fr.app N638 N644q
            refine Rch.via (T' := T644) (g' := (mkF m 159 #[.val (.int p0), .val (.long p1), .second, .val (.int p2), .val (.int p3), .val (.int p4), .val (.int (p0 &&& (3 : Int32))), .val (.ref rr628), .val (.ref rr630), .val (.ref wa)] [(.int (1 : Int32))])) st644 ?_
            refine Rch.of (T' := T644) (g' := (mkF m 162 #[.val (.int p0), .val (.long p1), .second, .val (.int p2), .val (.int p3), .val (.int p4), .val (.int (p0 &&& (3 : Int32))), .val (.ref rr628), .val (.ref rr630), .val (.ref wa)] [])) (fun _ kt => XS.ifNo X644.here hx rfl (hb hby at_159) rfl ((if0 _ _).trans (feq ((by decide) : ¬ ((1 : Int32) = (0 : Int32)))).1) kt) ?_
            refine Rch.of (T' := T644) (g' := (mkF m 164 #[.val (.int p0), .val (.long p1), .second, .val (.int p2), .val (.int p3), .val (.int p4), .val (.int (p0 &&& (3 : Int32))), .val (.ref rr628), .val (.ref rr630), .val (.ref wa)] [(.ref rr630)])) (fun _ kt => XS.aload X644.here hx rfl (hb hby at_162) rfl rfl kt) ?_
            obtain ⟨cq645, kq645, q645a, q645b, q645c⟩ := isOf hZ hQ644 ((Ex630.ext E632).ext E637)
            obtain ⟨_, _, ⟨T645, L645, k645, n645⟩, -, X645, ⟨Lc645, hQ645, l645, y645, z645⟩, st645⟩ := X644.virtualBack hx (y := (⟨"java/util/Optional", "get", "()Ljava/lang/Object;"⟩ : MethodName)) (z := (⟨"java/util/Optional", "get", "()Ljava/lang/Object;"⟩ : MethodName)) hown (mvT hZ (hw _ (List.mem_of_getElem? (i := 138) rfl))) (mvT hZ (hw _ (List.mem_of_getElem? (i := 139) rfl))) (notFace_of_selects (args := #[]) (mvT hZ (hw _ (List.mem_of_getElem? (i := 141) rfl)))) (mvT hZ (hw _ (List.mem_of_getElem? (i := 141) rfl))) (mvT hZ (hw _ (List.mem_of_getElem? (i := 140) rfl))) (by decide) (backOf (W := 0) (rkOG l Z a0 hw [] rr630 wa h637 n0 (Nat.le_trans (Nat.le_trans (Nat.le_trans (Nat.le_trans (Nat.le_trans Z0 E626.1) K628.1) K630.1) E632.1) E637.1) Fv2) hZ (hw _ (List.mem_of_getElem? (i := 142) rfl)) (hw _ (List.mem_of_getElem? (i := 73) rfl)) (by decide) (by decide)) q645a q645c (g := (mkF m 164 #[.val (.int p0), .val (.long p1), .second, .val (.int p2), .val (.int p3), .val (.int p4), .val (.int (p0 &&& (3 : Int32))), .val (.ref rr628), .val (.ref rr630), .val (.ref wa)] [(.ref rr630)])) rfl (by rw [hml]; rfl) (Steps.refl _) (argsL := []) (rest := []) (lenOf pd_10 rfl) rfl (by show 2 * 0 + _ ≤ _; exact Nat.le_of_eq rfl) (hb hby at_164) (fun _ _ => ⟨rfl, hQ644, (by decide : 14 + 0 ≤ _), (by decide : 110 + 0 ≤ _)⟩)
            dsimp only [Pt.U, Pt.locs, Pt.cells, Pt.slots] at X645 l645 y645 z645 st645 hQ645
            subst l645 y645 z645
            obtain ⟨rfl, N645q, hQ645⟩ := hQ645
            have N645 := Fr.app N644 N645q
            refine Rch.via (T' := T645) (g' := (mkF m 167 #[.val (.int p0), .val (.long p1), .second, .val (.int p2), .val (.int p3), .val (.int p4), .val (.int (p0 &&& (3 : Int32))), .val (.ref rr628), .val (.ref rr630), .val (.ref wa)] [(.ref wa)])) st645 ?_
            refine Rch.of (T' := T645) (g' := (mkF m 169 #[.val (.int p0), .val (.long p1), .second, .val (.int p2), .val (.int p3), .val (.int p4), .val (.int (p0 &&& (3 : Int32))), .val (.ref rr628), .val (.ref rr630), .val (.ref wa)] [(.ref wa), (.ref wa)])) (fun _ kt => XS.aload X645.here hx rfl (hb hby at_167) rfl rfl kt) ?_
            refine Rch.of (T' := T645) (g' := (mkF m 172 #[.val (.int p0), .val (.long p1), .second, .val (.int p2), .val (.int p3), .val (.int p4), .val (.int (p0 &&& (3 : Int32))), .val (.ref rr628), .val (.ref rr630), .val (.ref wa)] [])) (fun _ kt => Jvm.RoadKit.acmp (g := (mkF m 169 #[.val (.int p0), .val (.long p1), .second, .val (.int p2), .val (.int p3), .val (.int p4), .val (.int (p0 &&& (3 : Int32))), .val (.ref rr628), .val (.ref rr630), .val (.ref wa)] [(.ref wa), (.ref wa)])) X645 hx rfl rfl rfl (pc0 := 169) (pc' := 172) (same := true) rfl (hb hby at_169) rfl (decide_eq_true rfl) (by decide) (by decide) kt) ?_
            refine Rch.of (T' := T645) (g' := (mkF m 173 #[.val (.int p0), .val (.long p1), .second, .val (.int p2), .val (.int p3), .val (.int p4), .val (.int (p0 &&& (3 : Int32))), .val (.ref rr628), .val (.ref rr630), .val (.ref wa)] [(.int (1 : Int32))])) (fun _ kt => XS.iconst X645.here hx rfl (hb hby at_172) kt) ?_
            refine Rch.of (T' := T645) (g' := (mkF m 177 #[.val (.int p0), .val (.long p1), .second, .val (.int p2), .val (.int p3), .val (.int p4), .val (.int (p0 &&& (3 : Int32))), .val (.ref rr628), .val (.ref rr630), .val (.ref wa)] [(.int (1 : Int32))])) (fun _ kt => XS.goto X645.here hx rfl (pc0 := 173) (pc' := 177) rfl (hb hby at_173) (by decide) (by decide) kt) ?_
            exact Rch.retN X645 hx (t := .boolean) hret (by simp) hlk (hb hby at_177) (fun U hU hF => hK _ U _ _ _ (by show Q_rm0 Z p0 p1 p2 p3 p4 av1 er wa le lw be bw em cs sv h0 n0 _ U.heap _; rw [hU, hQ645]; exact ⟨rfl, N645, trivial⟩) (own_endH hZ hEL (((((R0.trans cr626).trans cr628).trans (CHr.keep K630 all0 ((R0.trans cr626).trans cr628).1)).trans cr632).trans cr637) (hU.trans hQ645) hF) (own_end hS637 (by rw [hU, hQ645]; exact hk637) hF) (by decide) (by decide))
        · skip
          refine Rch.of (T' := T633) (g' := (mkF m 112 #[.val (.int p0), .val (.long p1), .second, .val (.int p2), .val (.int p3), .val (.int p4), .val (.int (p0 &&& (3 : Int32))), .val (.ref rr628), .val (.ref rr630), .val .null] [])) (fun _ kt => XS.ifNo X633.here hx rfl (hb hby at_109) rfl ((if0 _ _).trans (feq c636).1) kt) ?_
          have hE : ¬ own_eqv 5 own_t0 rnn628 rt628 = 0 := by rw [own_eqv_comm]; exact c636
          have hv : rv1630 = (.ref er) := I1630 hE
          have Fv2 : Fld Z h632 rr630 "java/util/Optional" "value" "Ljava/lang/Object;" (.ref er) := by rw [← hv]; exact (Fa630.ext E632)
          obtain ⟨T646, X646, e646, st646⟩ := getS2 X633 hx hZ hown (host := "") (Or.inl (hw _ (List.mem_of_getElem? (i := 144) rfl))) Via.refl hQ633 ((S6.ext (((O0.ext E626).keep K628 all0).keep K630 all0).2).ext E632) (g := (mkF m 112 #[.val (.int p0), .val (.long p1), .second, .val (.int p2), .val (.int p3), .val (.int p4), .val (.int (p0 &&& (3 : Int32))), .val (.ref rr628), .val (.ref rr630), .val .null] [])) rfl (hb hby at_112)
          refine Rch.of (T' := T646) (g' := (mkF m 115 #[.val (.int p0), .val (.long p1), .second, .val (.int p2), .val (.int p3), .val (.int p4), .val (.int (p0 &&& (3 : Int32))), .val (.ref rr628), .val (.ref rr630), .val .null] [(.ref er)])) st646 ?_
          refine Rch.of (T' := T646) (g' := (mkF m 117 #[.val (.int p0), .val (.long p1), .second, .val (.int p2), .val (.int p3), .val (.int p4), .val (.int (p0 &&& (3 : Int32))), .val (.ref rr628), .val (.ref rr630), .val (.ref er)] [])) (fun _ kt => XS.astore X646.here hx rfl (hb hby at_115) rfl rfl (l' := #[.val (.int p0), .val (.long p1), .second, .val (.int p2), .val (.int p3), .val (.int p4), .val (.int (p0 &&& (3 : Int32))), .val (.ref rr628), .val (.ref rr630), .val (.ref er)]) rfl kt) ?_
          refine Rch.of (T' := T646) (g' := (mkF m 135 #[.val (.int p0), .val (.long p1), .second, .val (.int p2), .val (.int p3), .val (.int p4), .val (.int (p0 &&& (3 : Int32))), .val (.ref rr628), .val (.ref rr630), .val (.ref er)] [])) (fun _ kt => XS.goto X646.here hx rfl (pc0 := 117) (pc' := 135) rfl (hb hby at_117) (by decide) (by decide) kt) ?_
          refine Rch.of (T' := T646) (g' := (mkF m 137 #[.val (.int p0), .val (.long p1), .second, .val (.int p2), .val (.int p3), .val (.int p4), .val (.int (p0 &&& (3 : Int32))), .val (.ref rr628), .val (.ref rr630), .val (.ref er)] [(.ref er)])) (fun _ kt => XS.aload X646.here hx rfl (hb hby at_135) rfl rfl kt) ?_
          refine Rch.of (T' := T646) (g' := (mkF m 154 #[.val (.int p0), .val (.long p1), .second, .val (.int p2), .val (.int p3), .val (.int p4), .val (.int (p0 &&& (3 : Int32))), .val (.ref rr628), .val (.ref rr630), .val (.ref er)] [])) (fun _ kt => XS.ifnonnullYes X646.here hx rfl (pc0 := 137) (pc' := 154) rfl (hb hby at_137) rfl (by decide) (by decide) kt) ?_
          refine Rch.of (T' := T646) (g' := (mkF m 156 #[.val (.int p0), .val (.long p1), .second, .val (.int p2), .val (.int p3), .val (.int p4), .val (.int (p0 &&& (3 : Int32))), .val (.ref rr628), .val (.ref rr630), .val (.ref er)] [(.ref rr630)])) (fun _ kt => XS.aload X646.here hx rfl (hb hby at_154) rfl rfl kt) ?_
          obtain ⟨cq647, kq647, q647a, q647b, q647c⟩ := isOf hZ e646 (Ex630.ext E632)
          obtain ⟨_, _, ⟨T647, L647, k647, n647⟩, -, X647, ⟨Lc647, hQ647, l647, y647, z647⟩, st647⟩ := X646.virtualBack hx (y := (⟨"java/util/Optional", "isPresent", "()Z"⟩ : MethodName)) (z := (⟨"java/util/Optional", "isPresent", "()Z"⟩ : MethodName)) hown (mvT hZ (hw _ (List.mem_of_getElem? (i := 81) rfl))) (mvT hZ (hw _ (List.mem_of_getElem? (i := 82) rfl))) (notFace_of_selects (args := #[]) (mvT hZ (hw _ (List.mem_of_getElem? (i := 84) rfl)))) (mvT hZ (hw _ (List.mem_of_getElem? (i := 84) rfl))) (mvT hZ (hw _ (List.mem_of_getElem? (i := 83) rfl))) (by decide) (backOf (W := 0) (rkOPr l Z a0 hw [] rr630 er h632 n0 (Nat.le_trans (Nat.le_trans (Nat.le_trans (Nat.le_trans Z0 E626.1) K628.1) K630.1) E632.1) Fv2) hZ (hw _ (List.mem_of_getElem? (i := 85) rfl)) (hw _ (List.mem_of_getElem? (i := 73) rfl)) (by decide) (by decide)) q647a q647c (g := (mkF m 156 #[.val (.int p0), .val (.long p1), .second, .val (.int p2), .val (.int p3), .val (.int p4), .val (.int (p0 &&& (3 : Int32))), .val (.ref rr628), .val (.ref rr630), .val (.ref er)] [(.ref rr630)])) rfl (by rw [hml]; rfl) (Steps.refl _) (argsL := []) (rest := []) (lenOf pd_14 rfl) rfl (by show 2 * 0 + _ ≤ _; exact Nat.le_of_eq rfl) (hb hby at_156) (fun _ _ => ⟨rfl, e646, (by decide : 12 + 0 ≤ _), (by decide : 78 + 0 ≤ _)⟩)
          dsimp only [Pt.U, Pt.locs, Pt.cells, Pt.slots] at X647 l647 y647 z647 st647 hQ647
          subst l647 y647 z647
          obtain ⟨rfl, N647q, hQ647⟩ := hQ647
          have N647 := Fr.app N633 N647q
          refine Rch.via (T' := T647) (g' := (mkF m 159 #[.val (.int p0), .val (.long p1), .second, .val (.int p2), .val (.int p3), .val (.int p4), .val (.int (p0 &&& (3 : Int32))), .val (.ref rr628), .val (.ref rr630), .val (.ref er)] [(.int (1 : Int32))])) st647 ?_
          refine Rch.of (T' := T647) (g' := (mkF m 162 #[.val (.int p0), .val (.long p1), .second, .val (.int p2), .val (.int p3), .val (.int p4), .val (.int (p0 &&& (3 : Int32))), .val (.ref rr628), .val (.ref rr630), .val (.ref er)] [])) (fun _ kt => XS.ifNo X647.here hx rfl (hb hby at_159) rfl ((if0 _ _).trans (feq ((by decide) : ¬ ((1 : Int32) = (0 : Int32)))).1) kt) ?_
          refine Rch.of (T' := T647) (g' := (mkF m 164 #[.val (.int p0), .val (.long p1), .second, .val (.int p2), .val (.int p3), .val (.int p4), .val (.int (p0 &&& (3 : Int32))), .val (.ref rr628), .val (.ref rr630), .val (.ref er)] [(.ref rr630)])) (fun _ kt => XS.aload X647.here hx rfl (hb hby at_162) rfl rfl kt) ?_
          obtain ⟨cq648, kq648, q648a, q648b, q648c⟩ := isOf hZ hQ647 (Ex630.ext E632)
          obtain ⟨_, _, ⟨T648, L648, k648, n648⟩, -, X648, ⟨Lc648, hQ648, l648, y648, z648⟩, st648⟩ := X647.virtualBack hx (y := (⟨"java/util/Optional", "get", "()Ljava/lang/Object;"⟩ : MethodName)) (z := (⟨"java/util/Optional", "get", "()Ljava/lang/Object;"⟩ : MethodName)) hown (mvT hZ (hw _ (List.mem_of_getElem? (i := 138) rfl))) (mvT hZ (hw _ (List.mem_of_getElem? (i := 139) rfl))) (notFace_of_selects (args := #[]) (mvT hZ (hw _ (List.mem_of_getElem? (i := 141) rfl)))) (mvT hZ (hw _ (List.mem_of_getElem? (i := 141) rfl))) (mvT hZ (hw _ (List.mem_of_getElem? (i := 140) rfl))) (by decide) (backOf (W := 0) (rkOG l Z a0 hw [] rr630 er h632 n0 (Nat.le_trans (Nat.le_trans (Nat.le_trans (Nat.le_trans Z0 E626.1) K628.1) K630.1) E632.1) Fv2) hZ (hw _ (List.mem_of_getElem? (i := 142) rfl)) (hw _ (List.mem_of_getElem? (i := 73) rfl)) (by decide) (by decide)) q648a q648c (g := (mkF m 164 #[.val (.int p0), .val (.long p1), .second, .val (.int p2), .val (.int p3), .val (.int p4), .val (.int (p0 &&& (3 : Int32))), .val (.ref rr628), .val (.ref rr630), .val (.ref er)] [(.ref rr630)])) rfl (by rw [hml]; rfl) (Steps.refl _) (argsL := []) (rest := []) (lenOf pd_10 rfl) rfl (by show 2 * 0 + _ ≤ _; exact Nat.le_of_eq rfl) (hb hby at_164) (fun _ _ => ⟨rfl, hQ647, (by decide : 12 + 0 ≤ _), (by decide : 78 + 0 ≤ _)⟩)
          dsimp only [Pt.U, Pt.locs, Pt.cells, Pt.slots] at X648 l648 y648 z648 st648 hQ648
          subst l648 y648 z648
          obtain ⟨rfl, N648q, hQ648⟩ := hQ648
          have N648 := Fr.app N647 N648q
          refine Rch.via (T' := T648) (g' := (mkF m 167 #[.val (.int p0), .val (.long p1), .second, .val (.int p2), .val (.int p3), .val (.int p4), .val (.int (p0 &&& (3 : Int32))), .val (.ref rr628), .val (.ref rr630), .val (.ref er)] [(.ref er)])) st648 ?_
          refine Rch.of (T' := T648) (g' := (mkF m 169 #[.val (.int p0), .val (.long p1), .second, .val (.int p2), .val (.int p3), .val (.int p4), .val (.int (p0 &&& (3 : Int32))), .val (.ref rr628), .val (.ref rr630), .val (.ref er)] [(.ref er), (.ref er)])) (fun _ kt => XS.aload X648.here hx rfl (hb hby at_167) rfl rfl kt) ?_
          refine Rch.of (T' := T648) (g' := (mkF m 172 #[.val (.int p0), .val (.long p1), .second, .val (.int p2), .val (.int p3), .val (.int p4), .val (.int (p0 &&& (3 : Int32))), .val (.ref rr628), .val (.ref rr630), .val (.ref er)] [])) (fun _ kt => Jvm.RoadKit.acmp (g := (mkF m 169 #[.val (.int p0), .val (.long p1), .second, .val (.int p2), .val (.int p3), .val (.int p4), .val (.int (p0 &&& (3 : Int32))), .val (.ref rr628), .val (.ref rr630), .val (.ref er)] [(.ref er), (.ref er)])) X648 hx rfl rfl rfl (pc0 := 169) (pc' := 172) (same := true) rfl (hb hby at_169) rfl (decide_eq_true rfl) (by decide) (by decide) kt) ?_
          refine Rch.of (T' := T648) (g' := (mkF m 173 #[.val (.int p0), .val (.long p1), .second, .val (.int p2), .val (.int p3), .val (.int p4), .val (.int (p0 &&& (3 : Int32))), .val (.ref rr628), .val (.ref rr630), .val (.ref er)] [(.int (1 : Int32))])) (fun _ kt => XS.iconst X648.here hx rfl (hb hby at_172) kt) ?_
          refine Rch.of (T' := T648) (g' := (mkF m 177 #[.val (.int p0), .val (.long p1), .second, .val (.int p2), .val (.int p3), .val (.int p4), .val (.int (p0 &&& (3 : Int32))), .val (.ref rr628), .val (.ref rr630), .val (.ref er)] [(.int (1 : Int32))])) (fun _ kt => XS.goto X648.here hx rfl (pc0 := 173) (pc' := 177) rfl (hb hby at_173) (by decide) (by decide) kt) ?_
          exact Rch.retN X648 hx (t := .boolean) hret (by simp) hlk (hb hby at_177) (fun U hU hF => hK _ U _ _ _ (by show Q_rm0 Z p0 p1 p2 p3 p4 av1 er wa le lw be bw em cs sv h0 n0 _ U.heap _; rw [hU, hQ648]; exact ⟨rfl, N648, trivial⟩) (own_endH hZ hEL ((((R0.trans cr626).trans cr628).trans (CHr.keep K630 all0 ((R0.trans cr626).trans cr628).1)).trans cr632) (hU.trans hQ648) hF) (own_end hS632 (by rw [hU, hQ648]; exact hk632) hF) (by decide) (by decide))
set_option maxRecDepth 65536 in
set_option maxHeartbeats 40000000 in
theorem comes_1 {Post : Tables → Env → Array Value → State → Outcome → State → Prop} (hpost : ∀ tb e args s v u, (limb_1_1.after args s (.returned v) u = true ∧ limb_1_2.after args s (.returned v) u = true ∧ True) → ReturnedEndW s (.returned v) u (Jvm.fieldLocs frame_1_writes args s ++ Jvm.arrayLocs frame_1_arrays args s ++ Jvm.staticLocs frame_1_statics s) 24 3200 → Post tb e args s (.returned v) u) :
    ArmFor flags0 classFile x code maxLocals ret World_1 tables_1 room_1 Calls_1 rest_1 Pre_1 Post := by
  intro l hfl _ _ p e ha hc hk s m args below hf hA hF happ hP
  obtain ⟨hcalls, hrest, hpre⟩ := hP
  obtain ⟨-, -, -, hnamed, -, -, -, hat⟩ := (Spec.applies_iff hf).mp happ
  obtain ⟨hg, hn⟩ := and_e (Cond.before_iff.mp (show (Jvm.Cond.and given_1 narrow_1).before args s = true from hpre))
  obtain ⟨g0, hg0⟩ := and_e hg
  obtain ⟨ga0, hg1⟩ := and_e hg0
  obtain ⟨ga1, hg2⟩ := and_e hg1
  obtain ⟨ga2, hg3⟩ := and_e hg2
  obtain ⟨ga3, hg4⟩ := and_e hg3
  obtain ⟨w0, w1, w2, w3, w4, rfl⟩ : ∃ w0 w1 w2 w3 w4 : Value, args = #[w0, w1, w2, w3, w4] := by
    have hs : args.size = 5 := by simpa [Cond.value, given_1] using g0
    obtain ⟨L⟩ := args
    match L, hs with
    | [w0, w1, w2, w3, w4], _ => exact ⟨w0, w1, w2, w3, w4, rfl⟩
  have hw := fun d (hd : d ∈ tables_1) => atoms_spec (ws := Jvm.Cond.code x code maxLocals ret :: tables_1) hat d (List.mem_cons_of_mem _ hd)
  obtain ⟨hsets, hown0⟩ := atoms_of _ (rest_1_c_eq ▸ (show rest_1_c.before _ s = true from hrest))
  obtain ⟨i0, ei0⟩ := is_v ga0
  obtain rfl : w0 = (.int i0) := Option.some.inj ei0
  obtain ⟨i1, ei1⟩ := isL_v ga1
  obtain rfl : w1 = (.long i1) := Option.some.inj ei1
  obtain ⟨i2, ei2⟩ := is_v ga2
  obtain rfl : w2 = (.int i2) := Option.some.inj ei2
  obtain ⟨i3, ei3⟩ := is_v ga3
  obtain rfl : w3 = (.int i3) := Option.some.inj ei3
  obtain ⟨i4, ei4⟩ := is_v hg4
  obtain rfl : w4 = (.int i4) := Option.some.inj ei4
  have hfit : Fit s := fun {y c} hc i hi => by
    obtain ⟨ha, rfl⟩ := Array.getElem?_eq_some_iff.mp hc
    have q := List.all_eq_true.mp ((Array.all_eq_true_iff_forall_mem.mp hF) _ (Array.getElem_mem ha)) i (List.mem_range.mpr hi)
    simpa [Array.getElem?_eq_getElem hi] using q
  have q1 := Cond.before_iff.mp (hsets _ (List.mem_of_getElem? (i := 1) rfl))
  have q2 := Cond.before_iff.mp (hsets _ (List.mem_of_getElem? (i := 2) rfl))
  obtain ⟨cs, ec⟩ := is_v q1
  have Sc := Sta.start ec (Or.inl (hsets _ (List.mem_of_getElem? (i := 0) rfl)))
  have hcs : ¬ cs = (0 : Int32) := fun q => by
    have q3 := not_v q2
    rw [q] at ec
    rw [eq_i (y := .int 0) ec rfl rfl] at q3
    exact absurd q3 (by decide)
  obtain ⟨sv, esv, hsv⟩ := isR_v (Cond.before_iff.mp (hsets _ (List.mem_of_getElem? (i := 8) rfl)))
  have Si := Sta.start esv (Or.inl (hsets _ (List.mem_of_getElem? (i := 7) rfl)))
  have hC := CHv.start (own_EW hw) (fun q hq => hcalls.1 q hq) (hsets _ (List.mem_of_getElem? (i := 2) rfl)) (hw _ (List.mem_of_getElem? (i := 27) rfl)) (hw _ (List.mem_of_getElem? (i := 10) rfl))
  have o1 := Cond.before_iff.mp (hsets _ (List.mem_of_getElem? (i := 11) rfl))
  obtain ⟨em, eem⟩ := exa_v o1
  have Em := Exa.start eem o1
  have Sm := Sta.start eem (Or.inl (hsets _ (List.mem_of_getElem? (i := 10) rfl)))
  have Fm := Fld.start ((fld_at eem).symm.trans (null_v (Cond.before_iff.mp (hsets _ (List.mem_of_getElem? (i := 12) rfl)))))
  obtain ⟨n0, hn1⟩ := and_e hn
  obtain ⟨n1, hn2⟩ := and_e hn1
  obtain ⟨n2, hn3⟩ := and_e hn2
  obtain ⟨n3, hn4⟩ := and_e hn3
  obtain ⟨n4, hn5⟩ := and_e hn4
  obtain ⟨n5, hn6⟩ := and_e hn5
  obtain ⟨n6, hn7⟩ := and_e hn6
  obtain ⟨n7, hn8⟩ := and_e hn7
  obtain ⟨n8, hn9⟩ := and_e hn8
  obtain ⟨n9, hn10⟩ := and_e hn9
  obtain ⟨n10, hn11⟩ := and_e hn10
  obtain ⟨n11, hn12⟩ := and_e hn11
  obtain ⟨n12, hn13⟩ := and_e hn12
  obtain ⟨n13, hn14⟩ := and_e hn13
  obtain ⟨n14, hn15⟩ := and_e hn14
  obtain ⟨n15, hn16⟩ := and_e hn15
  obtain ⟨n16, hn17⟩ := and_e hn16
  obtain ⟨n17, hn18⟩ := and_e hn17
  obtain ⟨n18, hn19⟩ := and_e hn18
  obtain ⟨n19, hn20⟩ := and_e hn19
  obtain ⟨n20, hn21⟩ := and_e hn20
  obtain ⟨n21, hn22⟩ := and_e hn21
  obtain ⟨n22, hn23⟩ := and_e hn22
  obtain ⟨n23, hn24⟩ := and_e hn23
  obtain ⟨n24, hn25⟩ := and_e hn24
  obtain ⟨n25, hn26⟩ := and_e hn25
  obtain ⟨av1, eav⟩ := arr_v n0
  have Ea := Exa.start eav n1
  have Sv := Sta.start eav (Or.inr ⟨(hw _ (List.mem_of_getElem? (i := 40) rfl)), (hw _ (List.mem_of_getElem? (i := 46) rfl))⟩)
  obtain ⟨er, eer⟩ := exa_v n3
  have Se := Sta.start eer (Or.inr ⟨(hw _ (List.mem_of_getElem? (i := 40) rfl)), (hw _ (List.mem_of_getElem? (i := 54) rfl))⟩)
  obtain ⟨wa, ewa⟩ := exa_v n5
  have Sw := Sta.start ewa (Or.inr ⟨(hw _ (List.mem_of_getElem? (i := 40) rfl)), (hw _ (List.mem_of_getElem? (i := 55) rfl))⟩)
  have m0 := own_eqref eer n4
  have m1 := own_eqref ewa n6
  have Va : Av s s.heap av1 (.object "com/example/isidore/isidore/Severity") 2 (fun q => if q = 0 then Value.ref er else Value.ref wa) := own_startAv eav n0 n2 (by decide) (fun j hj => by
    rcases (show j = 0 ∨ j = 1 by omega) with rfl | rfl
    · exact m0
    · exact m1)
  obtain ⟨le, ele⟩ := exa_v n7
  have Xle := Exa.start ele n7
  have Fle := Fld.start ((fld_at eer).symm.trans ele)
  have Cle := Fld.start ((fld_at ele).symm.trans (eqv_i (F := .int 0) rfl n8))
  obtain ⟨be, ebe⟩ := arr_v n9
  have Gle := Fld.start ((fld_at ele).symm.trans ebe)
  have Vle : Av s s.heap be .byte 5 (fun q => .int ((own_t0 q).toInt8.toInt32)) := own_startAv ebe n9 n10 (by decide) (fun j hj => by
    rcases (show j = 0 ∨ j = 1 ∨ j = 2 ∨ j = 3 ∨ j = 4 by omega) with rfl | rfl | rfl | rfl | rfl
    · exact eqv_i (y := (101 : Int32)) rfl n15
    · exact eqv_i (y := (114 : Int32)) rfl n16
    · exact eqv_i (y := (114 : Int32)) rfl n17
    · exact eqv_i (y := (111 : Int32)) rfl n18
    · exact eqv_i (y := (114 : Int32)) rfl n19)
  obtain ⟨lw, elw⟩ := exa_v n11
  have Xlw := Exa.start elw n11
  have Flw := Fld.start ((fld_at ewa).symm.trans elw)
  have Clw := Fld.start ((fld_at elw).symm.trans (eqv_i (F := .int 0) rfl n12))
  obtain ⟨bw, ebw⟩ := arr_v n13
  have Glw := Fld.start ((fld_at elw).symm.trans ebw)
  have Vlw : Av s s.heap bw .byte 7 (fun q => .int ((own_t1 q).toInt8.toInt32)) := own_startAv ebw n13 n14 (by decide) (fun j hj => by
    rcases (show j = 0 ∨ j = 1 ∨ j = 2 ∨ j = 3 ∨ j = 4 ∨ j = 5 ∨ j = 6 by omega) with rfl | rfl | rfl | rfl | rfl | rfl | rfl
    · exact eqv_i (y := (119 : Int32)) rfl n20
    · exact eqv_i (y := (97 : Int32)) rfl n21
    · exact eqv_i (y := (114 : Int32)) rfl n22
    · exact eqv_i (y := (110 : Int32)) rfl n23
    · exact eqv_i (y := (105 : Int32)) rfl n24
    · exact eqv_i (y := (110 : Int32)) rfl n25
    · exact eqv_i (y := (103 : Int32)) rfl hn26)
  obtain ⟨n, o, h1, h2, h3, _, L, rfl, ⟨rfl, N, -⟩, -, hq⟩ := rm0 l s _ hw tables_1 i0 i1 i2 i3 i4 av1 er wa le lw be bw em cs sv s.heap s.heap.size (Nat.le_refl _) (Old.start s) Sc Si Sv Ea Va Fle Xle Cle Gle Vle Flw Xlw Clw Glw Vlw Sm Em Fm Se Sw hcs hsv p e ha hc hk s m _ below hf ((Spec.applies_iff_loose hf).mp happ).1 ⟨rfl, State.Warmed39.refl s, rfl, hC⟩ trivial
  refine ⟨n, _, h1, h2, h3, hpost _ _ _ _ _ _ ⟨Cond.after_iff.mpr rfl, Cond.after_iff.mpr (eq_i res_at (Term.int_eval (1)) rfl), trivial⟩ ⟨hq.1, hq.2.1, hq.2.2.1, (hq.2.2.2.sift fun y hy => Or.inr (N y hy)).mono (by decide) (by decide)⟩⟩
theorem main_1_1 : Claimed_1_1 := comes_1 fun _ _ _ _ _ _ h hF => ⟨h.1, hF⟩
theorem main_1_2 : Claimed_1_2 := comes_1 fun _ _ _ _ _ _ h hF => ⟨h.2.1, hF⟩
end Jvm.Pilot.@@N@@
namespace Jvm.Pilot.@@N@@
open Jvm Jvm.ClassFile Sem Op Lib Jvm.Free Jvm.Stand Jvm.Pilot.@@N@@.Jvm.D
/-! MADE BY PROGRAM (witnessworld.py) out of the Statement's table words and the real class files: 24 classes; the members and pool entries that the words name. The judged class is class 1, her method 1. -/
namespace start1
open Jvm.ClassFile
def u (s : String) : CpInfo := .utf8 (stringToUtf16 s)
/-- a pool by its gaps: so many unusable entries, then the entry; so many at the end -/
def gap : Nat → List CpInfo → List CpInfo
  | 0, r => r
  | n + 1, r => .unusable :: gap n r
def poolList (es : List (Nat × CpInfo)) (last : Nat) : List CpInfo := es.foldr (fun e r => gap e.1 (e.2 :: r)) (gap last [])
def pool (es : List (Nat × CpInfo)) (last : Nat) : Array CpInfo := ⟨poolList es last⟩
def fileOf (pool : Array CpInfo) (this : Nat) (attrs : Array Attribute := #[]) (ms : Array MethodInfo := #[]) (fl : Nat := 33) (sup : Nat := 0) (ifs : Array Nat := #[]) (fds : Array FieldInfo := #[]) : ClassFile where
  minorVersion := 0
  majorVersion := 65
  constantPool := pool
  accessFlags := fl
  thisClass := this
  superClass := sup
  interfaces := ifs
  fields := fds
  methods := ms
  attributes := attrs
def plain (name : String) (sup : Option ClassId) : Class where
  name := name
  kind := .ordinary
  loader := none
  accessFlags := 33
  super := sup
  interfaces := #[]
  cf := none
  fields := #[]
  methods := #[]
  instanceTypes := #[]
  staticTypes := #[]
  resolved := #[]
  callSites := []
  init := .initialized
  statics := none
  mirror := none

def pool0 : Array CpInfo := pool [(5, u "<init>"), (0, u "()V"), (1, .class_ 10), (1, u "java/lang/Object"), (85, u "clone"), (0, u "()Ljava/lang/Object;")] 26

def k0c0 : Code := { maxStack := 0, maxLocals := 1, code := object_method_1_code, exceptionTable := #[], attributes := #[] }
def k0m0 : Method := { name := "<init>", desc := "()V", sig := { parameters := [], returnType := none }, accessFlags := 1, code := some k0c0 }
def k0m1 : Method := { name := "clone", desc := "()Ljava/lang/Object;", sig := { parameters := [], returnType := some (.object "java/lang/Object") }, accessFlags := 260, code := none }
/-- java/lang/Object -/
def k0 : Class := { plain "java/lang/Object" none with
  accessFlags := 33
  interfaces := #[]
  cf := some (fileOf pool0 8 #[] #[{ accessFlags := 1, nameIndex := 5, descriptorIndex := 6, attributes := #[] }, { accessFlags := 260, nameIndex := 96, descriptorIndex := 97, attributes := #[] }] 33 0 #[] #[])
  fields := #[]
  methods := #[k0m0, k0m1]
  instanceTypes := #[]
  staticTypes := #[]
  resolved := Array.replicate 124 none
  statics := none }

def pool1 : Array CpInfo := pool [(2, .class_ 4), (1, u "java/lang/Object"), (0, u "<init>"), (0, u "()V"), (0, .methodref 8 9), (0, .class_ 10), (0, .nameAndType 11 12), (0, u "com/example/isidore/isidore/SeverityLabelledPinLaw"), (0, u "drawn"), (0, u "(JI)Ljava/lang/String;"), (0, .string 14), (0, u "error"), (0, .methodref 8 16), (0, .nameAndType 17 18), (0, u "near"), (0, u "(Ljava/lang/String;III)Ljava/lang/String;"), (0, .string 20), (0, u "warning"), (0, .methodref 22 23), (0, .class_ 24), (0, .nameAndType 25 26), (0, u "com/example/isidore/isidore/Severity"), (0, u "labelled"), (0, u "(Ljava/lang/String;)Ljava/util/Optional;"), (0, .methodref 28 29), (0, .class_ 30), (0, .nameAndType 31 32), (0, u "java/lang/String"), (0, u "equals"), (0, u "(Ljava/lang/Object;)Z"), (0, .fieldref 22 34), (0, .nameAndType 35 36), (0, u "ERROR"), (0, u "Lcom/example/isidore/isidore/Severity;"), (0, .fieldref 22 38), (0, .nameAndType 39 36), (0, u "WARNING"), (0, .methodref 41 42), (0, .class_ 43), (0, .nameAndType 44 45), (0, u "java/util/Optional"), (0, u "isPresent"), (0, u "()Z"), (0, .methodref 41 47), (0, .nameAndType 48 49), (0, u "get"), (0, u "()Ljava/lang/Object;"), (0, .long 255), (1, .methodref 8 53), (0, .nameAndType 54 55), (0, u "at"), (0, u "(JI)C"), (0, .methodref 28 57), (0, .nameAndType 5 58), (0, u "([C)V"), (0, .methodref 28 60), (0, .nameAndType 61 62), (0, u "length"), (0, u "()I"), (0, .methodref 28 64), (0, .nameAndType 65 66), (0, u "charAt"), (0, u "(I)C"), (0, .integer 2147483647), (2, u "law"), (0, u "(IJIII)Z")] 5

def k1m0 : Method := { name := "<init>", desc := "()V", sig := { parameters := [], returnType := none }, accessFlags := 1, code := none }
def k1c1 : Code := { maxStack := 5, maxLocals := 10, code := code, exceptionTable := #[], attributes := #[] }
def k1m1 : Method := { name := "law", desc := "(IJIII)Z", sig := { parameters := [.int, .long, .int, .int, .int], returnType := some .boolean }, accessFlags := 9, code := some k1c1 }
def k1c2 : Code := { maxStack := 4, maxLocals := 3, code := method_3_code, exceptionTable := #[], attributes := #[] }
def k1m2 : Method := { name := "at", desc := "(JI)C", sig := { parameters := [.long, .int], returnType := some .char }, accessFlags := 10, code := some k1c2 }
def k1c3 : Code := { maxStack := 5, maxLocals := 4, code := method_4_code, exceptionTable := #[], attributes := #[] }
def k1m3 : Method := { name := "drawn", desc := "(JI)Ljava/lang/String;", sig := { parameters := [.long, .int], returnType := some (.object "java/lang/String") }, accessFlags := 10, code := some k1c3 }
def k1c4 : Code := { maxStack := 4, maxLocals := 7, code := method_5_code, exceptionTable := #[], attributes := #[] }
def k1m4 : Method := { name := "near", desc := "(Ljava/lang/String;III)Ljava/lang/String;", sig := { parameters := [(.object "java/lang/String"), .int, .int, .int], returnType := some (.object "java/lang/String") }, accessFlags := 10, code := some k1c4 }
/-- com/example/isidore/isidore/SeverityLabelledPinLaw -/
def k1 : Class := { plain "com/example/isidore/isidore/SeverityLabelledPinLaw" (some 0) with
  accessFlags := 49
  interfaces := #[]
  cf := some (fileOf pool1 8 #[] #[{ accessFlags := 1, nameIndex := 5, descriptorIndex := 6, attributes := #[] }, { accessFlags := 9, nameIndex := 70, descriptorIndex := 71, attributes := #[] }, { accessFlags := 10, nameIndex := 54, descriptorIndex := 55, attributes := #[] }, { accessFlags := 10, nameIndex := 11, descriptorIndex := 12, attributes := #[] }, { accessFlags := 10, nameIndex := 17, descriptorIndex := 18, attributes := #[] }] 49 2 #[] #[])
  fields := #[]
  methods := #[k1m0, k1m1, k1m2, k1m3, k1m4]
  instanceTypes := #[]
  staticTypes := #[]
  resolved := Array.replicate 77 none
  statics := none }

def pool2 : Array CpInfo := pool [(1, .class_ 2), (0, u "java/io/Serializable"), (0, .class_ 4), (0, u "java/lang/Object")] 2

/-- java/io/Serializable -/
def k2 : Class := { plain "java/io/Serializable" (some 0) with
  accessFlags := 1537
  interfaces := #[]
  cf := some (fileOf pool2 1 #[] #[] 1537 3 #[] #[])
  fields := #[]
  methods := #[]
  instanceTypes := #[]
  staticTypes := #[]
  resolved := Array.replicate 7 none
  statics := none }

def pool3 : Array CpInfo := pool [(1, .class_ 2), (0, u "java/lang/Comparable"), (0, .class_ 4), (0, u "java/lang/Object")] 7

/-- java/lang/Comparable -/
def k3 : Class := { plain "java/lang/Comparable" (some 0) with
  accessFlags := 1537
  interfaces := #[]
  cf := some (fileOf pool3 1 #[] #[] 1537 3 #[] #[])
  fields := #[]
  methods := #[]
  instanceTypes := #[]
  staticTypes := #[]
  resolved := Array.replicate 12 none
  statics := none }

def pool4 : Array CpInfo := pool [(2, .class_ 4), (1, u "java/lang/CharSequence"), (42, .class_ 48), (0, u "java/lang/CharSequence$1CodePointIterator"), (10, .class_ 60), (0, u "java/lang/CharSequence$1CharIterator"), (5, .class_ 67), (0, u "java/lang/Object")] 63

/-- java/lang/CharSequence -/
def k4 : Class := { plain "java/lang/CharSequence" (some 0) with
  accessFlags := 1537
  interfaces := #[]
  cf := some (fileOf pool4 2 #[.nestMembers #[47, 59]] #[] 1537 66 #[] #[])
  fields := #[]
  methods := #[]
  instanceTypes := #[]
  staticTypes := #[]
  resolved := Array.replicate 131 none
  statics := none }

def pool5 : Array CpInfo := pool [(1, .class_ 2), (0, u "java/lang/constant/Constable"), (0, .class_ 4), (0, u "java/lang/Object")] 6

/-- java/lang/constant/Constable -/
def k5 : Class := { plain "java/lang/constant/Constable" (some 0) with
  accessFlags := 1537
  interfaces := #[]
  cf := some (fileOf pool5 1 #[] #[] 1537 3 #[] #[])
  fields := #[]
  methods := #[]
  instanceTypes := #[]
  staticTypes := #[]
  resolved := Array.replicate 11 none
  statics := none }

def pool6 : Array CpInfo := pool [(1, .class_ 2), (0, u "java/lang/constant/ConstantDesc"), (0, .class_ 4), (0, u "java/lang/Object")] 32

/-- java/lang/constant/ConstantDesc -/
def k6 : Class := { plain "java/lang/constant/ConstantDesc" (some 0) with
  accessFlags := 1537
  interfaces := #[]
  cf := some (fileOf pool6 1 #[] #[] 1537 3 #[] #[])
  fields := #[]
  methods := #[]
  instanceTypes := #[]
  staticTypes := #[]
  resolved := Array.replicate 37 none
  statics := none }

def pool7 : Array CpInfo := pool [(1, .methodref 2 3), (0, .class_ 4), (0, .nameAndType 5 6), (0, u "java/lang/Object"), (0, u "<init>"), (0, u "()V"), (0, .string 8), (0, u ""), (0, .fieldref 10 11), (0, .class_ 12), (0, .nameAndType 13 14), (0, u "java/lang/String"), (0, u "value"), (0, u "[B"), (0, .fieldref 10 16), (0, .nameAndType 17 18), (0, u "coder"), (0, u "B"), (2, u "hash"), (0, u "I"), (2, u "hashIsZero"), (0, u "Z"), (0, .methodref 10 28), (0, .nameAndType 5 29), (0, u "([CIILjava/lang/Void;)V"), (8, .fieldref 10 39), (0, .nameAndType 40 26), (0, u "COMPACT_STRINGS"), (1, .class_ 44), (1, u "java/lang/StringUTF16"), (0, u "compress"), (1, .methodref 42 48), (0, .nameAndType 49 50), (0, u "coderFromArrayLen"), (0, u "([BI)B"), (56, .class_ 109), (1, u "java/lang/StringLatin1"), (32, u "()Z"), (34, .methodref 42 178), (0, .nameAndType 45 179), (0, u "([CII)[B"), (154, u "()I"), (0, .methodref 10 336), (0, .nameAndType 17 337), (0, u "()B"), (25, u "([BI)C"), (27, u "(II)V"), (35, u "(I)C"), (64, .methodref 10 493), (0, .nameAndType 494 142), (0, u "isLatin1"), (0, .methodref 107 496), (0, .nameAndType 497 363), (0, u "charAt"), (3, u "checkIndex"), (5, u "length"), (33, .methodref 107 542), (0, .nameAndType 543 544), (0, u "equals"), (0, u "([B[B)Z"), (28, u "(Ljava/lang/Object;)Z"), (1, .class_ 576), (0, u "java/lang/CharSequence"), (22, u "CASE_INSENSITIVE_ORDER"), (0, u "Ljava/util/Comparator;"), (409, u "([C)V"), (42, .fieldref 1054 1055), (0, .class_ 1056), (0, .nameAndType 1057 1058), (0, u "jdk/internal/util/Preconditions"), (0, u "SIOOBE_FORMATTER"), (0, u "Ljava/util/function/BiFunction;"), (0, .methodref 1054 1060), (0, .nameAndType 501 1061), (0, u "(IILjava/util/function/BiFunction;)I"), (39, u "serialPersistentFields"), (0, u "[Ljava/io/ObjectStreamField;"), (0, .class_ 1104), (0, u "java/lang/String$CaseInsensitiveComparator"), (1, .class_ 1107), (0, u "java/io/Serializable"), (0, .class_ 1109), (0, u "java/lang/Comparable"), (0, .class_ 1111), (0, u "java/lang/constant/Constable"), (0, .class_ 1113), (0, u "java/lang/constant/ConstantDesc"), (2, u "serialVersionUID"), (0, u "J"), (3, u "REPL"), (0, u "C"), (2, u "LATIN1"), (1, u "UTF16")] 323

def k7m0 : Method := { name := "<init>", desc := "()V", sig := { parameters := [], returnType := none }, accessFlags := 1, code := none }
def k7c1 : Code := { maxStack := 5, maxLocals := 2, code := jdk_42_method_3_code, exceptionTable := #[], attributes := #[] }
def k7m1 : Method := { name := "<init>", desc := "([C)V", sig := { parameters := [(.array .char)], returnType := none }, accessFlags := 1, code := some k7c1 }
def k7c2 : Code := { maxStack := 2, maxLocals := 1, code := jdk_42_method_54_code, exceptionTable := #[], attributes := #[] }
def k7m2 : Method := { name := "length", desc := "()I", sig := { parameters := [], returnType := some .int }, accessFlags := 1, code := some k7c2 }
def k7c3 : Code := { maxStack := 2, maxLocals := 2, code := jdk_42_method_56_code, exceptionTable := #[], attributes := #[] }
def k7m3 : Method := { name := "charAt", desc := "(I)C", sig := { parameters := [.int], returnType := some .char }, accessFlags := 1, code := some k7c3 }
def k7c4 : Code := { maxStack := 2, maxLocals := 3, code := jdk_42_method_66_code, exceptionTable := #[], attributes := #[] }
def k7m4 : Method := { name := "equals", desc := "(Ljava/lang/Object;)Z", sig := { parameters := [(.object "java/lang/Object")], returnType := some .boolean }, accessFlags := 1, code := some k7c4 }
def k7c5 : Code := { maxStack := 4, maxLocals := 6, code := jdk_42_method_149_code, exceptionTable := #[], attributes := #[] }
def k7m5 : Method := { name := "<init>", desc := "([CIILjava/lang/Void;)V", sig := { parameters := [(.array .char), .int, .int, (.object "java/lang/Void")], returnType := none }, accessFlags := 2, code := some k7c5 }
def k7c6 : Code := { maxStack := 1, maxLocals := 1, code := jdk_42_method_152_code, exceptionTable := #[], attributes := #[] }
def k7m6 : Method := { name := "coder", desc := "()B", sig := { parameters := [], returnType := some .byte }, accessFlags := 0, code := some k7c6 }
def k7c7 : Code := { maxStack := 1, maxLocals := 1, code := jdk_42_method_154_code, exceptionTable := #[], attributes := #[] }
def k7m7 : Method := { name := "isLatin1", desc := "()Z", sig := { parameters := [], returnType := some .boolean }, accessFlags := 0, code := some k7c7 }
def k7c8 : Code := { maxStack := 3, maxLocals := 2, code := jdk_42_method_155_code, exceptionTable := #[], attributes := #[] }
def k7m8 : Method := { name := "checkIndex", desc := "(II)V", sig := { parameters := [.int, .int], returnType := none }, accessFlags := 8, code := some k7c8 }
/-- java/lang/String -/
def k7 : Class := { plain "java/lang/String" (some 0) with
  accessFlags := 49
  interfaces := #[2, 3, 4, 5, 6]
  cf := some (fileOf pool7 10 #[.nestMembers #[1103]] #[{ accessFlags := 1, nameIndex := 5, descriptorIndex := 6, attributes := #[] }, { accessFlags := 1, nameIndex := 5, descriptorIndex := 1010, attributes := #[] }, { accessFlags := 1, nameIndex := 507, descriptorIndex := 334, attributes := #[] }, { accessFlags := 1, nameIndex := 497, descriptorIndex := 427, attributes := #[] }, { accessFlags := 1, nameIndex := 543, descriptorIndex := 573, attributes := #[] }, { accessFlags := 2, nameIndex := 5, descriptorIndex := 29, attributes := #[] }, { accessFlags := 0, nameIndex := 17, descriptorIndex := 337, attributes := #[] }, { accessFlags := 0, nameIndex := 494, descriptorIndex := 142, attributes := #[] }, { accessFlags := 8, nameIndex := 501, descriptorIndex := 391, attributes := #[] }] 49 2 #[1106, 1108, 575, 1110, 1112] #[{ accessFlags := 18, nameIndex := 13, descriptorIndex := 14, attributes := #[] }, { accessFlags := 18, nameIndex := 17, descriptorIndex := 18, attributes := #[] }, { accessFlags := 2, nameIndex := 21, descriptorIndex := 22, attributes := #[] }, { accessFlags := 2, nameIndex := 25, descriptorIndex := 26, attributes := #[] }, { accessFlags := 26, nameIndex := 1116, descriptorIndex := 1117, attributes := #[] }, { accessFlags := 24, nameIndex := 40, descriptorIndex := 26, attributes := #[] }, { accessFlags := 26, nameIndex := 1101, descriptorIndex := 1102, attributes := #[] }, { accessFlags := 26, nameIndex := 1121, descriptorIndex := 1122, attributes := #[] }, { accessFlags := 25, nameIndex := 599, descriptorIndex := 600, attributes := #[] }, { accessFlags := 24, nameIndex := 1125, descriptorIndex := 18, attributes := #[] }, { accessFlags := 24, nameIndex := 1127, descriptorIndex := 18, attributes := #[] }])
  fields := #[{ name := "value", type := (.array .byte), accessFlags := 18, slot := 0, constantValue := 0 }, { name := "coder", type := .byte, accessFlags := 18, slot := 1, constantValue := 0 }, { name := "hash", type := .int, accessFlags := 2, slot := 2, constantValue := 0 }, { name := "hashIsZero", type := .boolean, accessFlags := 2, slot := 3, constantValue := 0 }, { name := "serialVersionUID", type := .long, accessFlags := 26, slot := 0, constantValue := 0 }, { name := "COMPACT_STRINGS", type := .boolean, accessFlags := 24, slot := 1, constantValue := 0 }, { name := "serialPersistentFields", type := (.array (.object "java/io/ObjectStreamField")), accessFlags := 26, slot := 2, constantValue := 0 }, { name := "REPL", type := .char, accessFlags := 26, slot := 3, constantValue := 0 }, { name := "CASE_INSENSITIVE_ORDER", type := (.object "java/util/Comparator"), accessFlags := 25, slot := 4, constantValue := 0 }, { name := "LATIN1", type := .byte, accessFlags := 24, slot := 5, constantValue := 0 }, { name := "UTF16", type := .byte, accessFlags := 24, slot := 6, constantValue := 0 }]
  methods := #[k7m0, k7m1, k7m2, k7m3, k7m4, k7m5, k7m6, k7m7, k7m8]
  instanceTypes := #[(.array .byte), .byte, .int, .boolean]
  staticTypes := #[.long, .boolean, (.array (.object "java/io/ObjectStreamField")), .char, (.object "java/util/Comparator"), .byte, .byte]
  resolved := Array.replicate 1451 none
  statics := some 0 }

def pool8 : Array CpInfo := pool [(6, .class_ 8), (1, u "java/lang/Object"), (0, u "<init>"), (0, u "()V"), (1, .class_ 14), (1, u "java/lang/StringUTF16"), (31, u "$assertionsDisabled"), (0, u "Z"), (13, u "HI_BYTE_SHIFT"), (0, u "I"), (2, u "LO_BYTE_SHIFT"), (49, .methodref 12 116), (0, .nameAndType 117 118), (0, u "compress"), (0, u "([CI[BII)I"), (3, u "([CII)[B"), (138, u "coderFromArrayLen"), (0, u "([BI)B"), (106, .class_ 371), (1, u "java/lang/StringUTF16$LinesSpliterator"), (58, u "MAX_LENGTH"), (196, .class_ 628), (0, u "java/lang/StringUTF16$CodePointsSpliterator"), (0, .class_ 630), (0, u "java/lang/StringUTF16$CharsSpliterator")] 4

def k8m0 : Method := { name := "<init>", desc := "()V", sig := { parameters := [], returnType := none }, accessFlags := 0, code := none }
def k8c1 : Code := { maxStack := 2, maxLocals := 2, code := jdk_52_method_15_code, exceptionTable := #[], attributes := #[] }
def k8m1 : Method := { name := "coderFromArrayLen", desc := "([BI)B", sig := { parameters := [(.array .byte), .int], returnType := some .byte }, accessFlags := 8, code := some k8c1 }
def k8c2 : Code := { maxStack := 5, maxLocals := 6, code := jdk_52_method_16_code, exceptionTable := #[], attributes := #[] }
def k8m2 : Method := { name := "compress", desc := "([CII)[B", sig := { parameters := [(.array .char), .int, .int], returnType := some (.array .byte) }, accessFlags := 9, code := some k8c2 }
def k8c3 : Code := { maxStack := 3, maxLocals := 7, code := jdk_52_method_21_code, exceptionTable := #[], attributes := #[] }
def k8m3 : Method := { name := "compress", desc := "([CI[BII)I", sig := { parameters := [(.array .char), .int, (.array .byte), .int, .int], returnType := some .int }, accessFlags := 9, code := some k8c3 }
/-- java/lang/StringUTF16 -/
def k8 : Class := { plain "java/lang/StringUTF16" (some 0) with
  accessFlags := 48
  interfaces := #[]
  cf := some (fileOf pool8 12 #[.nestMembers #[627, 629, 369]] #[{ accessFlags := 0, nameIndex := 9, descriptorIndex := 10, attributes := #[] }, { accessFlags := 8, nameIndex := 261, descriptorIndex := 262, attributes := #[] }, { accessFlags := 9, nameIndex := 117, descriptorIndex := 122, attributes := #[] }, { accessFlags := 9, nameIndex := 117, descriptorIndex := 118, attributes := #[] }] 48 6 #[] #[{ accessFlags := 26, nameIndex := 61, descriptorIndex := 62, attributes := #[] }, { accessFlags := 26, nameIndex := 65, descriptorIndex := 62, attributes := #[] }, { accessFlags := 24, nameIndex := 430, descriptorIndex := 62, attributes := #[] }, { accessFlags := 4120, nameIndex := 46, descriptorIndex := 47, attributes := #[] }])
  fields := #[{ name := "HI_BYTE_SHIFT", type := .int, accessFlags := 26, slot := 0, constantValue := 0 }, { name := "LO_BYTE_SHIFT", type := .int, accessFlags := 26, slot := 1, constantValue := 0 }, { name := "MAX_LENGTH", type := .int, accessFlags := 24, slot := 2, constantValue := 0 }, { name := "$assertionsDisabled", type := .boolean, accessFlags := 4120, slot := 3, constantValue := 0 }]
  methods := #[k8m0, k8m1, k8m2, k8m3]
  instanceTypes := #[]
  staticTypes := #[.int, .int, .int, .boolean]
  resolved := Array.replicate 635 none
  statics := none }

def pool9 : Array CpInfo := pool [(2, .class_ 4), (1, u "java/lang/Enum"), (0, u "name"), (0, u "Ljava/lang/String;"), (2, u "ordinal"), (0, u "I"), (1, .class_ 14), (1, u "java/lang/Object"), (4, u "hash"), (86, .class_ 108), (1, u "java/lang/Enum$EnumDesc"), (2, .class_ 112), (0, u "java/lang/constant/Constable"), (0, .class_ 114), (0, u "java/lang/Comparable"), (0, .class_ 116), (0, u "java/io/Serializable")] 87

/-- java/lang/Enum -/
def k9 : Class := { plain "java/lang/Enum" (some 0) with
  accessFlags := 1057
  interfaces := #[5, 3, 2]
  cf := some (fileOf pool9 2 #[.nestMembers #[106]] #[] 1057 12 #[111, 113, 115] #[{ accessFlags := 18, nameIndex := 5, descriptorIndex := 6, attributes := #[] }, { accessFlags := 18, nameIndex := 9, descriptorIndex := 10, attributes := #[] }, { accessFlags := 2, nameIndex := 19, descriptorIndex := 10, attributes := #[] }])
  fields := #[{ name := "name", type := (.object "java/lang/String"), accessFlags := 18, slot := 0, constantValue := 0 }, { name := "ordinal", type := .int, accessFlags := 18, slot := 1, constantValue := 0 }, { name := "hash", type := .int, accessFlags := 2, slot := 2, constantValue := 0 }]
  methods := #[]
  instanceTypes := #[(.object "java/lang/String"), .int, .int]
  staticTypes := #[]
  resolved := Array.replicate 204 none
  statics := none }

def pool10 : Array CpInfo := pool [(1, .class_ 2), (0, u "com/example/isidore/isidore/Severity"), (2, u "ERROR"), (0, u "Lcom/example/isidore/isidore/Severity;"), (2, u "WARNING"), (0, .fieldref 1 11), (0, .nameAndType 12 13), (0, u "$VALUES"), (0, u "[Lcom/example/isidore/isidore/Severity;"), (0, .methodref 15 16), (0, .class_ 13), (0, .nameAndType 17 18), (0, u "clone"), (0, u "()Ljava/lang/Object;"), (1, .class_ 22), (1, u "java/lang/Enum"), (6, .fieldref 1 30), (0, .nameAndType 31 32), (0, u "label"), (0, u "Ljava/lang/String;"), (0, .methodref 1 34), (0, .nameAndType 35 36), (0, u "values"), (0, u "()[Lcom/example/isidore/isidore/Severity;"), (0, .methodref 38 39), (0, .class_ 40), (0, .nameAndType 41 42), (0, u "java/lang/String"), (0, u "equals"), (0, u "(Ljava/lang/Object;)Z"), (0, .methodref 44 45), (0, .class_ 46), (0, .nameAndType 47 48), (0, u "java/util/Optional"), (0, u "of"), (0, u "(Ljava/lang/Object;)Ljava/util/Optional;"), (0, .methodref 44 50), (0, .nameAndType 51 52), (0, u "empty"), (0, u "()Ljava/util/Optional;"), (19, u "labelled"), (0, u "(Ljava/lang/String;)Ljava/util/Optional;")] 7

def k10c0 : Code := { maxStack := 1, maxLocals := 0, code := prog_27_method_1_code, exceptionTable := #[], attributes := #[] }
def k10m0 : Method := { name := "values", desc := "()[Lcom/example/isidore/isidore/Severity;", sig := { parameters := [], returnType := some (.array (.object "com/example/isidore/isidore/Severity")) }, accessFlags := 9, code := some k10c0 }
def k10c1 : Code := { maxStack := 2, maxLocals := 5, code := prog_27_method_5_code, exceptionTable := #[], attributes := #[] }
def k10m1 : Method := { name := "labelled", desc := "(Ljava/lang/String;)Ljava/util/Optional;", sig := { parameters := [(.object "java/lang/String")], returnType := some (.object "java/util/Optional") }, accessFlags := 9, code := some k10c1 }
/-- com/example/isidore/isidore/Severity -/
def k10 : Class := { plain "com/example/isidore/isidore/Severity" (some 9) with
  accessFlags := 16433
  interfaces := #[]
  cf := some (fileOf pool10 1 #[] #[{ accessFlags := 9, nameIndex := 35, descriptorIndex := 36, attributes := #[] }, { accessFlags := 9, nameIndex := 72, descriptorIndex := 73, attributes := #[] }] 16433 20 #[] #[{ accessFlags := 16409, nameIndex := 5, descriptorIndex := 6, attributes := #[] }, { accessFlags := 16409, nameIndex := 9, descriptorIndex := 6, attributes := #[] }, { accessFlags := 18, nameIndex := 31, descriptorIndex := 32, attributes := #[] }, { accessFlags := 4122, nameIndex := 12, descriptorIndex := 13, attributes := #[] }])
  fields := #[{ name := "ERROR", type := (.object "com/example/isidore/isidore/Severity"), accessFlags := 16409, slot := 0, constantValue := 0 }, { name := "WARNING", type := (.object "com/example/isidore/isidore/Severity"), accessFlags := 16409, slot := 1, constantValue := 0 }, { name := "label", type := (.object "java/lang/String"), accessFlags := 18, slot := 3, constantValue := 0 }, { name := "$VALUES", type := (.array (.object "com/example/isidore/isidore/Severity")), accessFlags := 4122, slot := 2, constantValue := 0 }]
  methods := #[k10m0, k10m1]
  instanceTypes := #[(.object "java/lang/String"), .int, .int, (.object "java/lang/String")]
  staticTypes := #[(.object "com/example/isidore/isidore/Severity"), (.object "com/example/isidore/isidore/Severity"), (.array (.object "com/example/isidore/isidore/Severity"))]
  resolved := Array.replicate 81 none
  statics := some 1 }

def pool11 : Array CpInfo := pool [(1, .class_ 2), (0, u "java/lang/Cloneable"), (0, .class_ 4), (0, u "java/lang/Object")] 2

/-- java/lang/Cloneable -/
def k11 : Class := { plain "java/lang/Cloneable" (some 0) with
  accessFlags := 1537
  interfaces := #[]
  cf := some (fileOf pool11 1 #[] #[] 1537 3 #[] #[])
  fields := #[]
  methods := #[]
  instanceTypes := #[]
  staticTypes := #[]
  resolved := Array.replicate 7 none
  statics := none }

def pool12 : Array CpInfo := pool [(1, .class_ 2), (0, u "java/lang/String"), (1, .class_ 6), (1, u "java/lang/Object"), (0, u "<init>"), (0, u "()V"), (0, .methodref 1 10), (0, .nameAndType 11 12), (0, u "checkIndex"), (0, u "(II)V"), (1, .class_ 16), (1, u "java/lang/StringLatin1"), (36, u "([BI)C"), (67, u "$assertionsDisabled"), (0, u "Z"), (98, .class_ 223), (1, u "java/lang/StringLatin1$LinesSpliterator"), (28, u "charAt"), (28, u "equals"), (0, u "([B[B)Z"), (107, .class_ 391), (0, u "java/lang/StringLatin1$CharsSpliterator")] 3

def k12m0 : Method := { name := "<init>", desc := "()V", sig := { parameters := [], returnType := none }, accessFlags := 0, code := none }
def k12c1 : Code := { maxStack := 2, maxLocals := 2, code := jdk_43_method_2_code, exceptionTable := #[], attributes := #[] }
def k12m1 : Method := { name := "charAt", desc := "([BI)C", sig := { parameters := [(.array .byte), .int], returnType := some .char }, accessFlags := 9, code := some k12c1 }
def k12c2 : Code := { maxStack := 3, maxLocals := 3, code := jdk_43_method_13_code, exceptionTable := #[], attributes := #[] }
def k12m2 : Method := { name := "equals", desc := "([B[B)Z", sig := { parameters := [(.array .byte), (.array .byte)], returnType := some .boolean }, accessFlags := 9, code := some k12c2 }
/-- java/lang/StringLatin1 -/
def k12 : Class := { plain "java/lang/StringLatin1" (some 0) with
  accessFlags := 48
  interfaces := #[]
  cf := some (fileOf pool12 14 #[.nestMembers #[390, 221]] #[{ accessFlags := 0, nameIndex := 7, descriptorIndex := 8, attributes := #[] }, { accessFlags := 9, nameIndex := 252, descriptorIndex := 53, attributes := #[] }, { accessFlags := 9, nameIndex := 281, descriptorIndex := 282, attributes := #[] }] 48 4 #[] #[{ accessFlags := 4120, nameIndex := 121, descriptorIndex := 122, attributes := #[] }])
  fields := #[{ name := "$assertionsDisabled", type := .boolean, accessFlags := 4120, slot := 0, constantValue := 0 }]
  methods := #[k12m0, k12m1, k12m2]
  instanceTypes := #[]
  staticTypes := #[.boolean]
  resolved := Array.replicate 395 none
  statics := none }

def pool13 : Array CpInfo := pool [(1, .fieldref 2 3), (0, .class_ 4), (0, .nameAndType 5 6), (0, u "java/util/Optional"), (0, u "EMPTY"), (0, u "Ljava/util/Optional;"), (0, .methodref 8 9), (0, .class_ 10), (0, .nameAndType 11 12), (0, u "java/lang/Object"), (0, u "<init>"), (0, u "()V"), (0, .fieldref 2 14), (0, .nameAndType 15 16), (0, u "value"), (0, u "Ljava/lang/Object;"), (0, .methodref 18 19), (0, .class_ 20), (0, .nameAndType 21 22), (0, u "java/util/Objects"), (0, u "requireNonNull"), (0, u "(Ljava/lang/Object;)Ljava/lang/Object;"), (0, .methodref 2 24), (0, .nameAndType 11 25), (0, u "(Ljava/lang/Object;)V"), (20, u "()Z"), (8, u "empty"), (0, u "()Ljava/util/Optional;"), (8, u "(Ljava/lang/Object;)Ljava/util/Optional;"), (2, u "isPresent"), (4, u "get"), (0, u "()Ljava/lang/Object;"), (7, u "of")] 104

def k13c0 : Code := { maxStack := 1, maxLocals := 1, code := jdk_32_method_1_code, exceptionTable := #[], attributes := #[] }
def k13m0 : Method := { name := "empty", desc := "()Ljava/util/Optional;", sig := { parameters := [], returnType := some (.object "java/util/Optional") }, accessFlags := 9, code := some k13c0 }
def k13c1 : Code := { maxStack := 2, maxLocals := 2, code := jdk_32_method_2_code, exceptionTable := #[], attributes := #[] }
def k13m1 : Method := { name := "<init>", desc := "(Ljava/lang/Object;)V", sig := { parameters := [(.object "java/lang/Object")], returnType := none }, accessFlags := 2, code := some k13c1 }
def k13c2 : Code := { maxStack := 3, maxLocals := 1, code := jdk_32_method_3_code, exceptionTable := #[], attributes := #[] }
def k13m2 : Method := { name := "of", desc := "(Ljava/lang/Object;)Ljava/util/Optional;", sig := { parameters := [(.object "java/lang/Object")], returnType := some (.object "java/util/Optional") }, accessFlags := 9, code := some k13c2 }
def k13c3 : Code := { maxStack := 3, maxLocals := 1, code := jdk_32_method_5_code, exceptionTable := #[], attributes := #[] }
def k13m3 : Method := { name := "get", desc := "()Ljava/lang/Object;", sig := { parameters := [], returnType := some (.object "java/lang/Object") }, accessFlags := 1, code := some k13c3 }
def k13c4 : Code := { maxStack := 1, maxLocals := 1, code := jdk_32_method_6_code, exceptionTable := #[], attributes := #[] }
def k13m4 : Method := { name := "isPresent", desc := "()Z", sig := { parameters := [], returnType := some .boolean }, accessFlags := 1, code := some k13c4 }
/-- java/util/Optional -/
def k13 : Class := { plain "java/util/Optional" (some 0) with
  accessFlags := 49
  interfaces := #[]
  cf := some (fileOf pool13 2 #[] #[{ accessFlags := 9, nameIndex := 55, descriptorIndex := 56, attributes := #[] }, { accessFlags := 2, nameIndex := 11, descriptorIndex := 25, attributes := #[] }, { accessFlags := 9, nameIndex := 82, descriptorIndex := 65, attributes := #[] }, { accessFlags := 1, nameIndex := 73, descriptorIndex := 74, attributes := #[] }, { accessFlags := 1, nameIndex := 68, descriptorIndex := 46, attributes := #[] }] 49 8 #[] #[{ accessFlags := 26, nameIndex := 5, descriptorIndex := 6, attributes := #[] }, { accessFlags := 18, nameIndex := 15, descriptorIndex := 16, attributes := #[] }])
  fields := #[{ name := "EMPTY", type := (.object "java/util/Optional"), accessFlags := 26, slot := 0, constantValue := 0 }, { name := "value", type := (.object "java/lang/Object"), accessFlags := 18, slot := 0, constantValue := 0 }]
  methods := #[k13m0, k13m1, k13m2, k13m3, k13m4]
  instanceTypes := #[(.object "java/lang/Object")]
  staticTypes := #[(.object "java/util/Optional")]
  resolved := Array.replicate 187 none
  statics := some 2 }

def pool14 : Array CpInfo := pool [(2, .class_ 4), (1, u "java/lang/Object"), (0, u "<init>"), (0, u "()V"), (17, .class_ 26), (1, u "jdk/internal/util/Preconditions"), (6, u "checkIndex"), (21, .class_ 56), (0, u "jdk/internal/util/Preconditions$4"), (57, .class_ 115), (0, u "jdk/internal/util/Preconditions$1"), (7, u "SIOOBE_FORMATTER"), (0, u "Ljava/util/function/BiFunction;"), (0, .class_ 126), (0, u "jdk/internal/util/Preconditions$2"), (3, u "AIOOBE_FORMATTER"), (0, .class_ 132), (0, u "jdk/internal/util/Preconditions$3"), (3, u "IOOBE_FORMATTER"), (41, u "(IILjava/util/function/BiFunction;)I")] 15

def k14m0 : Method := { name := "<init>", desc := "()V", sig := { parameters := [], returnType := none }, accessFlags := 1, code := none }
def k14c1 : Code := { maxStack := 3, maxLocals := 3, code := jdk_41_method_11_code, exceptionTable := #[], attributes := #[] }
def k14m1 : Method := { name := "checkIndex", desc := "(IILjava/util/function/BiFunction;)I", sig := { parameters := [.int, .int, (.object "java/util/function/BiFunction")], returnType := some .int }, accessFlags := 9, code := some k14c1 }
/-- jdk/internal/util/Preconditions -/
def k14 : Class := { plain "jdk/internal/util/Preconditions" (some 0) with
  accessFlags := 33
  interfaces := #[]
  cf := some (fileOf pool14 24 #[.nestMembers #[55, 131, 125, 114]] #[{ accessFlags := 1, nameIndex := 5, descriptorIndex := 6, attributes := #[] }, { accessFlags := 9, nameIndex := 33, descriptorIndex := 178, attributes := #[] }] 33 2 #[] #[{ accessFlags := 25, nameIndex := 123, descriptorIndex := 124, attributes := #[] }, { accessFlags := 25, nameIndex := 130, descriptorIndex := 124, attributes := #[] }, { accessFlags := 25, nameIndex := 136, descriptorIndex := 124, attributes := #[] }])
  fields := #[{ name := "SIOOBE_FORMATTER", type := (.object "java/util/function/BiFunction"), accessFlags := 25, slot := 0, constantValue := 0 }, { name := "AIOOBE_FORMATTER", type := (.object "java/util/function/BiFunction"), accessFlags := 25, slot := 1, constantValue := 0 }, { name := "IOOBE_FORMATTER", type := (.object "java/util/function/BiFunction"), accessFlags := 25, slot := 2, constantValue := 0 }]
  methods := #[k14m0, k14m1]
  instanceTypes := #[]
  staticTypes := #[(.object "java/util/function/BiFunction"), (.object "java/util/function/BiFunction"), (.object "java/util/function/BiFunction")]
  resolved := Array.replicate 194 none
  statics := some 3 }

def pool15 : Array CpInfo := pool [(2, .class_ 4), (1, u "java/lang/Object"), (0, u "<init>"), (0, u "()V"), (35, .class_ 44), (1, u "java/util/Objects"), (0, u "requireNonNull"), (0, u "(Ljava/lang/Object;)Ljava/lang/Object;")] 137

def k15m0 : Method := { name := "<init>", desc := "()V", sig := { parameters := [], returnType := none }, accessFlags := 2, code := none }
def k15c1 : Code := { maxStack := 2, maxLocals := 1, code := jdk_31_method_10_code, exceptionTable := #[], attributes := #[] }
def k15m1 : Method := { name := "requireNonNull", desc := "(Ljava/lang/Object;)Ljava/lang/Object;", sig := { parameters := [(.object "java/lang/Object")], returnType := some (.object "java/lang/Object") }, accessFlags := 9, code := some k15c1 }
/-- java/util/Objects -/
def k15 : Class := { plain "java/util/Objects" (some 0) with
  accessFlags := 49
  interfaces := #[]
  cf := some (fileOf pool15 42 #[] #[{ accessFlags := 2, nameIndex := 5, descriptorIndex := 6, attributes := #[] }, { accessFlags := 9, nameIndex := 45, descriptorIndex := 46, attributes := #[] }] 49 2 #[] #[])
  fields := #[]
  methods := #[k15m0, k15m1]
  instanceTypes := #[]
  staticTypes := #[]
  resolved := Array.replicate 184 none
  statics := none }

def pool16 : Array CpInfo := pool [(9, u "<init>"), (6, .class_ 18), (1, u "java/lang/Object"), (0, u "()V"), (1, .class_ 23), (1, u "jdk/internal/util/ArraysSupport"), (0, u "LOG2_ARRAY_LONG_INDEX_SCALE"), (0, u "I"), (2, u "U"), (0, u "Ljdk/internal/misc/Unsafe;"), (8, u "BIG_ENDIAN"), (0, u "Z"), (8, u "LOG2_BYTE_BIT_SIZE"), (4, u "LOG2_ARRAY_INT_INDEX_SCALE"), (54, u "JLA"), (0, u "Ljdk/internal/access/JavaLangAccess;"), (11, u "LOG2_ARRAY_BOOLEAN_INDEX_SCALE"), (9, u "LOG2_ARRAY_BYTE_INDEX_SCALE"), (5, u "LOG2_ARRAY_CHAR_INDEX_SCALE"), (5, u "LOG2_ARRAY_SHORT_INDEX_SCALE"), (18, u "LOG2_ARRAY_FLOAT_INDEX_SCALE"), (24, u "LOG2_ARRAY_DOUBLE_INDEX_SCALE"), (89, u "T_BOOLEAN"), (2, u "T_CHAR"), (1, u "T_FLOAT"), (1, u "T_DOUBLE"), (1, u "T_BYTE"), (1, u "T_SHORT"), (1, u "T_INT"), (1, u "T_LONG"), (1, u "SOFT_MAX_ARRAY_LENGTH")] 83

def k16m0 : Method := { name := "<init>", desc := "()V", sig := { parameters := [], returnType := none }, accessFlags := 2, code := none }
/-- jdk/internal/util/ArraysSupport -/
def k16 : Class := { plain "jdk/internal/util/ArraysSupport" (some 0) with
  accessFlags := 33
  interfaces := #[]
  cf := some (fileOf pool16 21 #[] #[{ accessFlags := 2, nameIndex := 9, descriptorIndex := 19, attributes := #[] }] 33 16 #[] #[{ accessFlags := 24, nameIndex := 28, descriptorIndex := 29, attributes := #[] }, { accessFlags := 26, nameIndex := 38, descriptorIndex := 39, attributes := #[] }, { accessFlags := 25, nameIndex := 121, descriptorIndex := 25, attributes := #[] }, { accessFlags := 25, nameIndex := 131, descriptorIndex := 25, attributes := #[] }, { accessFlags := 25, nameIndex := 137, descriptorIndex := 25, attributes := #[] }, { accessFlags := 25, nameIndex := 143, descriptorIndex := 25, attributes := #[] }, { accessFlags := 25, nameIndex := 53, descriptorIndex := 25, attributes := #[] }, { accessFlags := 25, nameIndex := 24, descriptorIndex := 25, attributes := #[] }, { accessFlags := 25, nameIndex := 162, descriptorIndex := 25, attributes := #[] }, { accessFlags := 25, nameIndex := 187, descriptorIndex := 25, attributes := #[] }, { accessFlags := 26, nameIndex := 48, descriptorIndex := 25, attributes := #[] }, { accessFlags := 25, nameIndex := 277, descriptorIndex := 25, attributes := #[] }, { accessFlags := 25, nameIndex := 280, descriptorIndex := 25, attributes := #[] }, { accessFlags := 25, nameIndex := 282, descriptorIndex := 25, attributes := #[] }, { accessFlags := 25, nameIndex := 284, descriptorIndex := 25, attributes := #[] }, { accessFlags := 25, nameIndex := 286, descriptorIndex := 25, attributes := #[] }, { accessFlags := 25, nameIndex := 288, descriptorIndex := 25, attributes := #[] }, { accessFlags := 25, nameIndex := 290, descriptorIndex := 25, attributes := #[] }, { accessFlags := 25, nameIndex := 292, descriptorIndex := 25, attributes := #[] }, { accessFlags := 26, nameIndex := 108, descriptorIndex := 109, attributes := #[] }, { accessFlags := 25, nameIndex := 294, descriptorIndex := 25, attributes := #[] }])
  fields := #[{ name := "U", type := (.object "jdk/internal/misc/Unsafe"), accessFlags := 24, slot := 0, constantValue := 0 }, { name := "BIG_ENDIAN", type := .boolean, accessFlags := 26, slot := 1, constantValue := 0 }, { name := "LOG2_ARRAY_BOOLEAN_INDEX_SCALE", type := .int, accessFlags := 25, slot := 2, constantValue := 0 }, { name := "LOG2_ARRAY_BYTE_INDEX_SCALE", type := .int, accessFlags := 25, slot := 3, constantValue := 0 }, { name := "LOG2_ARRAY_CHAR_INDEX_SCALE", type := .int, accessFlags := 25, slot := 4, constantValue := 0 }, { name := "LOG2_ARRAY_SHORT_INDEX_SCALE", type := .int, accessFlags := 25, slot := 5, constantValue := 0 }, { name := "LOG2_ARRAY_INT_INDEX_SCALE", type := .int, accessFlags := 25, slot := 6, constantValue := 0 }, { name := "LOG2_ARRAY_LONG_INDEX_SCALE", type := .int, accessFlags := 25, slot := 7, constantValue := 0 }, { name := "LOG2_ARRAY_FLOAT_INDEX_SCALE", type := .int, accessFlags := 25, slot := 8, constantValue := 0 }, { name := "LOG2_ARRAY_DOUBLE_INDEX_SCALE", type := .int, accessFlags := 25, slot := 9, constantValue := 0 }, { name := "LOG2_BYTE_BIT_SIZE", type := .int, accessFlags := 26, slot := 10, constantValue := 0 }, { name := "T_BOOLEAN", type := .int, accessFlags := 25, slot := 11, constantValue := 0 }, { name := "T_CHAR", type := .int, accessFlags := 25, slot := 12, constantValue := 0 }, { name := "T_FLOAT", type := .int, accessFlags := 25, slot := 13, constantValue := 0 }, { name := "T_DOUBLE", type := .int, accessFlags := 25, slot := 14, constantValue := 0 }, { name := "T_BYTE", type := .int, accessFlags := 25, slot := 15, constantValue := 0 }, { name := "T_SHORT", type := .int, accessFlags := 25, slot := 16, constantValue := 0 }, { name := "T_INT", type := .int, accessFlags := 25, slot := 17, constantValue := 0 }, { name := "T_LONG", type := .int, accessFlags := 25, slot := 18, constantValue := 0 }, { name := "JLA", type := (.object "jdk/internal/access/JavaLangAccess"), accessFlags := 26, slot := 19, constantValue := 0 }, { name := "SOFT_MAX_ARRAY_LENGTH", type := .int, accessFlags := 25, slot := 20, constantValue := 0 }]
  methods := #[k16m0]
  instanceTypes := #[]
  staticTypes := #[(.object "jdk/internal/misc/Unsafe"), .boolean, .int, .int, .int, .int, .int, .int, .int, .int, .int, .int, .int, .int, .int, .int, .int, .int, .int, (.object "jdk/internal/access/JavaLangAccess"), .int]
  resolved := Array.replicate 378 none
  statics := none }

/-- the primitive byte -/
def k17 : Class := { plain "byte" none with kind := .primitive 'B', accessFlags := 0x411 }
/-- [B -/
def k18 : Class := { plain "[B" (some 0) with kind := .array 17 .byte, interfaces := #[11, 2], accessFlags := 1041 }

/-- the primitive char -/
def k19 : Class := { plain "char" none with kind := .primitive 'C', accessFlags := 0x411 }
/-- [C -/
def k20 : Class := { plain "[C" (some 0) with kind := .array 19 .char, interfaces := #[11, 2], accessFlags := 1041 }

/-- the primitive int -/
def k21 : Class := { plain "int" none with kind := .primitive 'I', accessFlags := 0x411 }
/-- [I -/
def k22 : Class := { plain "[I" (some 0) with kind := .array 21 .int, interfaces := #[11, 2], accessFlags := 1041 }

/-- [Lcom/example/isidore/isidore/Severity; -/
def k23 : Class := { plain "[Lcom/example/isidore/isidore/Severity;" (some 0) with kind := .array 10 (.object "com/example/isidore/isidore/Severity"), interfaces := #[11, 2], accessFlags := 1041 }

def heap : Heap := #[{ cls := 7, slots := #[.long 0, .int 1, .null, .int 0, .null, .int 0, .int 0], vm := .statics 7 },
  { cls := 10, slots := #[.ref 5, .ref 6, .ref 4], vm := .statics 10 },
  { cls := 13, slots := #[.ref 11], vm := .statics 13 },
  { cls := 14, slots := #[.null, .null, .null], vm := .statics 14 },
  { cls := 23, slots := #[.ref 5, .ref 6], vm := .none },
  { cls := 10, slots := #[.null, .int 0, .int 0, .ref 7], vm := .none },
  { cls := 10, slots := #[.null, .int 1, .int 0, .ref 8], vm := .none },
  { cls := 7, slots := #[.ref 9, .int 0, .int 0, .int 0], vm := .none },
  { cls := 7, slots := #[.ref 10, .int 0, .int 0, .int 0], vm := .none },
  { cls := 18, slots := #[.int 101, .int 114, .int 114, .int 111, .int 114], vm := .none },
  { cls := 18, slots := #[.int 119, .int 97, .int 114, .int 110, .int 105, .int 110, .int 103], vm := .none },
  { cls := 13, slots := #[.null], vm := .none }]
def classes : Array Class := #[k0, k1, k2, k3, k4, k5, k6, k7, k8, k9, k10, k11, k12, k13, k14, k15, k16, k17, k18, k19, k20, k21, k22, k23]
def interned : List (Array UInt16 × Addr) := []
def slotsUsed : Nat := 45
def theMethod : MethodId := ⟨1, 1⟩
def args0 : Array Value := #[.int 0, .long 5, .int 6, .int 7, .int 8]
def aboutOver (below : List Frame) : State where
  vm := { classes := classes, interned := interned.toArray }
  heap := heap
  slotsUsed := slotsUsed
  threads := #[{ frames := .invoking theMethod args0 :: below }]
def below0 : List Frame := [.native { method := ⟨0, 0⟩, args := #[] }]
def about1 : State := aboutOver below0
def p0 : Program := .bare "" "" ""
def e0 : Env := launch0.env 0 0 0
theorem w_frames : about1.frames = Frame.invoking theMethod args0 :: below0 := rfl
set_option maxRecDepth 65536 in
theorem w_args : argsFit about1.vm theMethod args0 = true := by decide +kernel
set_option maxRecDepth 65536 in
theorem w_heap : heapFits about1 = true := by decide +kernel
set_option maxRecDepth 65536 in
theorem w_runnable : about1.curStatus? = some .runnable := by decide +kernel
set_option maxRecDepth 65536 in
theorem w_alone : about1.alone = true := by decide +kernel
set_option maxRecDepth 65536 in
theorem w_named : about1.methodNamed? x = some theMethod := by decide +kernel
set_option maxRecDepth 65536 in
theorem w_hears : about1.hears theMethod below0 = true := by decide +kernel
set_option maxRecDepth 65536 in
theorem w_ripe : about1.ripe theMethod args0 below0 = true := by decide +kernel
theorem w_running : about1.status = .running := rfl
set_option maxRecDepth 65536 in
theorem w_room : about1.hasRoom e0.platform room_1 = true :=
  launch0.hasRoom_least _ room_1 (by decide +kernel) (by decide +kernel) (by decide +kernel) (by decide +kernel) (by decide +kernel) (by decide +kernel)
theorem allAtoms_all (ts : List Jvm.Cond) (a : Array Jvm.Value) (st : Jvm.State) : (allAtoms ts).before a st = ts.all (fun c => c.before a st) := by
  induction ts with
  | nil => rfl
  | cons c t ih =>
    show (Jvm.Cond.and c (allAtoms t)).before a st = _
    rw [Jvm.Cond.before_and, ih, List.all_cons]
def words1 : List Jvm.Cond := Jvm.Cond.code x code maxLocals ret :: tables_1
/-- a 'code' word, met by the world's own term for the bytes: nothing is compared byte by byte -/
theorem code_word {y : MethodName} {bytes : ByteArray} {mx : Nat} {rt : Option FieldType} {a : Array Value} {s : State} {m : MethodId} {meth : Method} {c : Code} (h1 : s.methodNamed? y = some m) (h2 : s.vm.method? m = some meth) (h3 : meth.code = some c) (h4 : c.code = bytes)
    (h5 : (c.maxLocals == mx && c.exceptionTable.isEmpty && decide (c.maxStack ≤ mostOperands) && decide (meth.sig.returnType = rt) && !meth.locks && decide (parseMethodDescriptor y.desc = some meth.sig)) = true) : (Jvm.Cond.code y bytes mx rt).before a s = true := by
  simp only [Bool.and_eq_true, beq_iff_eq, Bool.not_eq_true', decide_eq_true_eq] at h5
  obtain ⟨⟨⟨⟨⟨g1, g2⟩, g3⟩, g4⟩, g5⟩, g6⟩ := h5
  simp [Cond.before, Cond.holds, Cond.value, h1, h2, h3, h4, g1, g2, g3, g4, g5, g6]
def isCode : Jvm.Cond → Bool
  | .code _ _ _ _ => true
  | _ => false
theorem all_split {L : List Jvm.Cond} {P : Jvm.Cond → Bool} (h1 : L.all (fun c => isCode c || P c) = true) (h2 : ∀ c ∈ L.filter isCode, P c = true) : L.all P = true := by
  refine List.all_eq_true.mpr fun c hc => ?_
  have h := List.all_eq_true.mp h1 c hc
  rcases Bool.eq_false_or_eq_true (isCode c) with hi | hi
  · exact h2 c (List.mem_filter.mpr ⟨hc, hi⟩)
  · simpa [hi] using h
set_option maxRecDepth 65536 in
theorem w_c0 : (Jvm.Cond.code x code maxLocals ret).before args0 about1 = true := code_word (m := ⟨1, 1⟩) (meth := k1m1) (c := k1c1) (by decide +kernel) rfl rfl rfl (by decide +kernel)
set_option maxRecDepth 65536 in
theorem w_c1 : (Jvm.Cond.code ({ cls := "com/example/isidore/isidore/SeverityLabelledPinLaw", name := "drawn", desc := "(JI)Ljava/lang/String;" } : Jvm.MethodName) method_4_code (4 : Nat) (Option.some (Jvm.ClassFile.FieldType.object "java/lang/String"))).before args0 about1 = true := code_word (m := ⟨1, 3⟩) (meth := k1m3) (c := k1c3) (by decide +kernel) rfl rfl rfl (by decide +kernel)
set_option maxRecDepth 65536 in
theorem w_c2 : (Jvm.Cond.code ({ cls := "com/example/isidore/isidore/SeverityLabelledPinLaw", name := "at", desc := "(JI)C" } : Jvm.MethodName) method_3_code (3 : Nat) (Option.some Jvm.ClassFile.FieldType.char)).before args0 about1 = true := code_word (m := ⟨1, 2⟩) (meth := k1m2) (c := k1c2) (by decide +kernel) rfl rfl rfl (by decide +kernel)
set_option maxRecDepth 65536 in
theorem w_c3 : (Jvm.Cond.code ({ cls := "java/lang/String", name := "<init>", desc := "([C)V" } : Jvm.MethodName) jdk_42_method_3_code (2 : Nat) (Option.none : Option Jvm.ClassFile.FieldType)).before args0 about1 = true := code_word (m := ⟨7, 1⟩) (meth := k7m1) (c := k7c1) (by decide +kernel) rfl rfl rfl (by decide +kernel)
set_option maxRecDepth 65536 in
theorem w_c4 : (Jvm.Cond.code ({ cls := "java/lang/String", name := "<init>", desc := "([CIILjava/lang/Void;)V" } : Jvm.MethodName) jdk_42_method_149_code (6 : Nat) (Option.none : Option Jvm.ClassFile.FieldType)).before args0 about1 = true := code_word (m := ⟨7, 5⟩) (meth := k7m5) (c := k7c5) (by decide +kernel) rfl rfl rfl (by decide +kernel)
set_option maxRecDepth 65536 in
theorem w_c5 : (Jvm.Cond.code ({ cls := "java/lang/Object", name := "<init>", desc := "()V" } : Jvm.MethodName) object_method_1_code (1 : Nat) (Option.none : Option Jvm.ClassFile.FieldType)).before args0 about1 = true := code_word (m := ⟨0, 0⟩) (meth := k0m0) (c := k0c0) (by decide +kernel) rfl rfl rfl (by decide +kernel)
set_option maxRecDepth 65536 in
theorem w_c6 : (Jvm.Cond.code ({ cls := "java/lang/StringUTF16", name := "compress", desc := "([CII)[B" } : Jvm.MethodName) jdk_52_method_16_code (6 : Nat) (Option.some (Jvm.ClassFile.FieldType.array Jvm.ClassFile.FieldType.byte))).before args0 about1 = true := code_word (m := ⟨8, 2⟩) (meth := k8m2) (c := k8c2) (by decide +kernel) rfl rfl rfl (by decide +kernel)
set_option maxRecDepth 65536 in
theorem w_c7 : (Jvm.Cond.code ({ cls := "java/lang/StringUTF16", name := "compress", desc := "([CI[BII)I" } : Jvm.MethodName) jdk_52_method_21_code (7 : Nat) (Option.some Jvm.ClassFile.FieldType.int)).before args0 about1 = true := code_word (m := ⟨8, 3⟩) (meth := k8m3) (c := k8c3) (by decide +kernel) rfl rfl rfl (by decide +kernel)
set_option maxRecDepth 65536 in
theorem w_c8 : (Jvm.Cond.code ({ cls := "java/lang/StringUTF16", name := "coderFromArrayLen", desc := "([BI)B" } : Jvm.MethodName) jdk_52_method_15_code (2 : Nat) (Option.some Jvm.ClassFile.FieldType.byte)).before args0 about1 = true := code_word (m := ⟨8, 1⟩) (meth := k8m1) (c := k8c1) (by decide +kernel) rfl rfl rfl (by decide +kernel)
set_option maxRecDepth 65536 in
theorem w_c9 : (Jvm.Cond.code ({ cls := "com/example/isidore/isidore/Severity", name := "labelled", desc := "(Ljava/lang/String;)Ljava/util/Optional;" } : Jvm.MethodName) prog_27_method_5_code (5 : Nat) (Option.some (Jvm.ClassFile.FieldType.object "java/util/Optional"))).before args0 about1 = true := code_word (m := ⟨10, 1⟩) (meth := k10m1) (c := k10c1) (by decide +kernel) rfl rfl rfl (by decide +kernel)
set_option maxRecDepth 65536 in
theorem w_c10 : (Jvm.Cond.code ({ cls := "com/example/isidore/isidore/Severity", name := "values", desc := "()[Lcom/example/isidore/isidore/Severity;" } : Jvm.MethodName) prog_27_method_1_code (0 : Nat) (Option.some (Jvm.ClassFile.FieldType.array (Jvm.ClassFile.FieldType.object "com/example/isidore/isidore/Severity")))).before args0 about1 = true := code_word (m := ⟨10, 0⟩) (meth := k10m0) (c := k10c0) (by decide +kernel) rfl rfl rfl (by decide +kernel)
set_option maxRecDepth 65536 in
theorem w_c11 : (Jvm.Cond.code ({ cls := "java/lang/String", name := "equals", desc := "(Ljava/lang/Object;)Z" } : Jvm.MethodName) jdk_42_method_66_code (3 : Nat) (Option.some Jvm.ClassFile.FieldType.boolean)).before args0 about1 = true := code_word (m := ⟨7, 4⟩) (meth := k7m4) (c := k7c4) (by decide +kernel) rfl rfl rfl (by decide +kernel)
set_option maxRecDepth 65536 in
theorem w_c12 : (Jvm.Cond.code ({ cls := "java/lang/StringLatin1", name := "equals", desc := "([B[B)Z" } : Jvm.MethodName) jdk_43_method_13_code (3 : Nat) (Option.some Jvm.ClassFile.FieldType.boolean)).before args0 about1 = true := code_word (m := ⟨12, 2⟩) (meth := k12m2) (c := k12c2) (by decide +kernel) rfl rfl rfl (by decide +kernel)
set_option maxRecDepth 65536 in
theorem w_c13 : (Jvm.Cond.code ({ cls := "java/util/Optional", name := "empty", desc := "()Ljava/util/Optional;" } : Jvm.MethodName) jdk_32_method_1_code (1 : Nat) (Option.some (Jvm.ClassFile.FieldType.object "java/util/Optional"))).before args0 about1 = true := code_word (m := ⟨13, 0⟩) (meth := k13m0) (c := k13c0) (by decide +kernel) rfl rfl rfl (by decide +kernel)
set_option maxRecDepth 65536 in
theorem w_c14 : (Jvm.Cond.code ({ cls := "java/util/Optional", name := "isPresent", desc := "()Z" } : Jvm.MethodName) jdk_32_method_6_code (1 : Nat) (Option.some Jvm.ClassFile.FieldType.boolean)).before args0 about1 = true := code_word (m := ⟨13, 4⟩) (meth := k13m4) (c := k13c4) (by decide +kernel) rfl rfl rfl (by decide +kernel)
set_option maxRecDepth 65536 in
theorem w_c15 : (Jvm.Cond.code ({ cls := "com/example/isidore/isidore/SeverityLabelledPinLaw", name := "near", desc := "(Ljava/lang/String;III)Ljava/lang/String;" } : Jvm.MethodName) method_5_code (7 : Nat) (Option.some (Jvm.ClassFile.FieldType.object "java/lang/String"))).before args0 about1 = true := code_word (m := ⟨1, 4⟩) (meth := k1m4) (c := k1c4) (by decide +kernel) rfl rfl rfl (by decide +kernel)
set_option maxRecDepth 65536 in
theorem w_c16 : (Jvm.Cond.code ({ cls := "java/lang/String", name := "length", desc := "()I" } : Jvm.MethodName) jdk_42_method_54_code (1 : Nat) (Option.some Jvm.ClassFile.FieldType.int)).before args0 about1 = true := code_word (m := ⟨7, 2⟩) (meth := k7m2) (c := k7c2) (by decide +kernel) rfl rfl rfl (by decide +kernel)
set_option maxRecDepth 65536 in
theorem w_c17 : (Jvm.Cond.code ({ cls := "java/lang/String", name := "coder", desc := "()B" } : Jvm.MethodName) jdk_42_method_152_code (1 : Nat) (Option.some Jvm.ClassFile.FieldType.byte)).before args0 about1 = true := code_word (m := ⟨7, 6⟩) (meth := k7m6) (c := k7c6) (by decide +kernel) rfl rfl rfl (by decide +kernel)
set_option maxRecDepth 65536 in
theorem w_c18 : (Jvm.Cond.code ({ cls := "java/lang/String", name := "charAt", desc := "(I)C" } : Jvm.MethodName) jdk_42_method_56_code (2 : Nat) (Option.some Jvm.ClassFile.FieldType.char)).before args0 about1 = true := code_word (m := ⟨7, 3⟩) (meth := k7m3) (c := k7c3) (by decide +kernel) rfl rfl rfl (by decide +kernel)
set_option maxRecDepth 65536 in
theorem w_c19 : (Jvm.Cond.code ({ cls := "java/lang/String", name := "isLatin1", desc := "()Z" } : Jvm.MethodName) jdk_42_method_154_code (1 : Nat) (Option.some Jvm.ClassFile.FieldType.boolean)).before args0 about1 = true := code_word (m := ⟨7, 7⟩) (meth := k7m7) (c := k7c7) (by decide +kernel) rfl rfl rfl (by decide +kernel)
set_option maxRecDepth 65536 in
theorem w_c20 : (Jvm.Cond.code ({ cls := "java/lang/StringLatin1", name := "charAt", desc := "([BI)C" } : Jvm.MethodName) jdk_43_method_2_code (2 : Nat) (Option.some Jvm.ClassFile.FieldType.char)).before args0 about1 = true := code_word (m := ⟨12, 1⟩) (meth := k12m1) (c := k12c1) (by decide +kernel) rfl rfl rfl (by decide +kernel)
set_option maxRecDepth 65536 in
theorem w_c21 : (Jvm.Cond.code ({ cls := "java/lang/String", name := "checkIndex", desc := "(II)V" } : Jvm.MethodName) jdk_42_method_155_code (2 : Nat) (Option.none : Option Jvm.ClassFile.FieldType)).before args0 about1 = true := code_word (m := ⟨7, 8⟩) (meth := k7m8) (c := k7c8) (by decide +kernel) rfl rfl rfl (by decide +kernel)
set_option maxRecDepth 65536 in
theorem w_c22 : (Jvm.Cond.code ({ cls := "jdk/internal/util/Preconditions", name := "checkIndex", desc := "(IILjava/util/function/BiFunction;)I" } : Jvm.MethodName) jdk_41_method_11_code (3 : Nat) (Option.some Jvm.ClassFile.FieldType.int)).before args0 about1 = true := code_word (m := ⟨14, 1⟩) (meth := k14m1) (c := k14c1) (by decide +kernel) rfl rfl rfl (by decide +kernel)
set_option maxRecDepth 65536 in
theorem w_c23 : (Jvm.Cond.code ({ cls := "java/util/Optional", name := "of", desc := "(Ljava/lang/Object;)Ljava/util/Optional;" } : Jvm.MethodName) jdk_32_method_3_code (1 : Nat) (Option.some (Jvm.ClassFile.FieldType.object "java/util/Optional"))).before args0 about1 = true := code_word (m := ⟨13, 2⟩) (meth := k13m2) (c := k13c2) (by decide +kernel) rfl rfl rfl (by decide +kernel)
set_option maxRecDepth 65536 in
theorem w_c24 : (Jvm.Cond.code ({ cls := "java/util/Objects", name := "requireNonNull", desc := "(Ljava/lang/Object;)Ljava/lang/Object;" } : Jvm.MethodName) jdk_31_method_10_code (1 : Nat) (Option.some (Jvm.ClassFile.FieldType.object "java/lang/Object"))).before args0 about1 = true := code_word (m := ⟨15, 1⟩) (meth := k15m1) (c := k15c1) (by decide +kernel) rfl rfl rfl (by decide +kernel)
set_option maxRecDepth 65536 in
theorem w_c25 : (Jvm.Cond.code ({ cls := "java/util/Optional", name := "<init>", desc := "(Ljava/lang/Object;)V" } : Jvm.MethodName) jdk_32_method_2_code (2 : Nat) (Option.none : Option Jvm.ClassFile.FieldType)).before args0 about1 = true := code_word (m := ⟨13, 1⟩) (meth := k13m1) (c := k13c1) (by decide +kernel) rfl rfl rfl (by decide +kernel)
set_option maxRecDepth 65536 in
theorem w_c26 : (Jvm.Cond.code ({ cls := "java/util/Optional", name := "get", desc := "()Ljava/lang/Object;" } : Jvm.MethodName) jdk_32_method_5_code (1 : Nat) (Option.some (Jvm.ClassFile.FieldType.object "java/lang/Object"))).before args0 about1 = true := code_word (m := ⟨13, 3⟩) (meth := k13m3) (c := k13c3) (by decide +kernel) rfl rfl rfl (by decide +kernel)
def codes1 : List Jvm.Cond := [Jvm.Cond.code x code maxLocals ret, Jvm.Cond.code ({ cls := "com/example/isidore/isidore/SeverityLabelledPinLaw", name := "drawn", desc := "(JI)Ljava/lang/String;" } : Jvm.MethodName) method_4_code (4 : Nat) (Option.some (Jvm.ClassFile.FieldType.object "java/lang/String")), Jvm.Cond.code ({ cls := "com/example/isidore/isidore/SeverityLabelledPinLaw", name := "at", desc := "(JI)C" } : Jvm.MethodName) method_3_code (3 : Nat) (Option.some Jvm.ClassFile.FieldType.char), Jvm.Cond.code ({ cls := "java/lang/String", name := "<init>", desc := "([C)V" } : Jvm.MethodName) jdk_42_method_3_code (2 : Nat) (Option.none : Option Jvm.ClassFile.FieldType), Jvm.Cond.code ({ cls := "java/lang/String", name := "<init>", desc := "([CIILjava/lang/Void;)V" } : Jvm.MethodName) jdk_42_method_149_code (6 : Nat) (Option.none : Option Jvm.ClassFile.FieldType), Jvm.Cond.code ({ cls := "java/lang/Object", name := "<init>", desc := "()V" } : Jvm.MethodName) object_method_1_code (1 : Nat) (Option.none : Option Jvm.ClassFile.FieldType), Jvm.Cond.code ({ cls := "java/lang/StringUTF16", name := "compress", desc := "([CII)[B" } : Jvm.MethodName) jdk_52_method_16_code (6 : Nat) (Option.some (Jvm.ClassFile.FieldType.array Jvm.ClassFile.FieldType.byte)), Jvm.Cond.code ({ cls := "java/lang/StringUTF16", name := "compress", desc := "([CI[BII)I" } : Jvm.MethodName) jdk_52_method_21_code (7 : Nat) (Option.some Jvm.ClassFile.FieldType.int), Jvm.Cond.code ({ cls := "java/lang/StringUTF16", name := "coderFromArrayLen", desc := "([BI)B" } : Jvm.MethodName) jdk_52_method_15_code (2 : Nat) (Option.some Jvm.ClassFile.FieldType.byte), Jvm.Cond.code ({ cls := "com/example/isidore/isidore/Severity", name := "labelled", desc := "(Ljava/lang/String;)Ljava/util/Optional;" } : Jvm.MethodName) prog_27_method_5_code (5 : Nat) (Option.some (Jvm.ClassFile.FieldType.object "java/util/Optional")), Jvm.Cond.code ({ cls := "com/example/isidore/isidore/Severity", name := "values", desc := "()[Lcom/example/isidore/isidore/Severity;" } : Jvm.MethodName) prog_27_method_1_code (0 : Nat) (Option.some (Jvm.ClassFile.FieldType.array (Jvm.ClassFile.FieldType.object "com/example/isidore/isidore/Severity"))), Jvm.Cond.code ({ cls := "java/lang/String", name := "equals", desc := "(Ljava/lang/Object;)Z" } : Jvm.MethodName) jdk_42_method_66_code (3 : Nat) (Option.some Jvm.ClassFile.FieldType.boolean), Jvm.Cond.code ({ cls := "java/lang/StringLatin1", name := "equals", desc := "([B[B)Z" } : Jvm.MethodName) jdk_43_method_13_code (3 : Nat) (Option.some Jvm.ClassFile.FieldType.boolean), Jvm.Cond.code ({ cls := "java/util/Optional", name := "empty", desc := "()Ljava/util/Optional;" } : Jvm.MethodName) jdk_32_method_1_code (1 : Nat) (Option.some (Jvm.ClassFile.FieldType.object "java/util/Optional")), Jvm.Cond.code ({ cls := "java/util/Optional", name := "isPresent", desc := "()Z" } : Jvm.MethodName) jdk_32_method_6_code (1 : Nat) (Option.some Jvm.ClassFile.FieldType.boolean), Jvm.Cond.code ({ cls := "com/example/isidore/isidore/SeverityLabelledPinLaw", name := "near", desc := "(Ljava/lang/String;III)Ljava/lang/String;" } : Jvm.MethodName) method_5_code (7 : Nat) (Option.some (Jvm.ClassFile.FieldType.object "java/lang/String")), Jvm.Cond.code ({ cls := "java/lang/String", name := "length", desc := "()I" } : Jvm.MethodName) jdk_42_method_54_code (1 : Nat) (Option.some Jvm.ClassFile.FieldType.int), Jvm.Cond.code ({ cls := "java/lang/String", name := "coder", desc := "()B" } : Jvm.MethodName) jdk_42_method_152_code (1 : Nat) (Option.some Jvm.ClassFile.FieldType.byte), Jvm.Cond.code ({ cls := "java/lang/String", name := "charAt", desc := "(I)C" } : Jvm.MethodName) jdk_42_method_56_code (2 : Nat) (Option.some Jvm.ClassFile.FieldType.char), Jvm.Cond.code ({ cls := "java/lang/String", name := "isLatin1", desc := "()Z" } : Jvm.MethodName) jdk_42_method_154_code (1 : Nat) (Option.some Jvm.ClassFile.FieldType.boolean), Jvm.Cond.code ({ cls := "java/lang/StringLatin1", name := "charAt", desc := "([BI)C" } : Jvm.MethodName) jdk_43_method_2_code (2 : Nat) (Option.some Jvm.ClassFile.FieldType.char), Jvm.Cond.code ({ cls := "java/lang/String", name := "checkIndex", desc := "(II)V" } : Jvm.MethodName) jdk_42_method_155_code (2 : Nat) (Option.none : Option Jvm.ClassFile.FieldType), Jvm.Cond.code ({ cls := "jdk/internal/util/Preconditions", name := "checkIndex", desc := "(IILjava/util/function/BiFunction;)I" } : Jvm.MethodName) jdk_41_method_11_code (3 : Nat) (Option.some Jvm.ClassFile.FieldType.int), Jvm.Cond.code ({ cls := "java/util/Optional", name := "of", desc := "(Ljava/lang/Object;)Ljava/util/Optional;" } : Jvm.MethodName) jdk_32_method_3_code (1 : Nat) (Option.some (Jvm.ClassFile.FieldType.object "java/util/Optional")), Jvm.Cond.code ({ cls := "java/util/Objects", name := "requireNonNull", desc := "(Ljava/lang/Object;)Ljava/lang/Object;" } : Jvm.MethodName) jdk_31_method_10_code (1 : Nat) (Option.some (Jvm.ClassFile.FieldType.object "java/lang/Object")), Jvm.Cond.code ({ cls := "java/util/Optional", name := "<init>", desc := "(Ljava/lang/Object;)V" } : Jvm.MethodName) jdk_32_method_2_code (2 : Nat) (Option.none : Option Jvm.ClassFile.FieldType), Jvm.Cond.code ({ cls := "java/util/Optional", name := "get", desc := "()Ljava/lang/Object;" } : Jvm.MethodName) jdk_32_method_5_code (1 : Nat) (Option.some (Jvm.ClassFile.FieldType.object "java/lang/Object"))]
set_option maxRecDepth 65536 in
theorem codes_eq : words1.filter isCode = codes1 := rfl
theorem w_codes : ∀ c ∈ words1.filter isCode, c.before args0 about1 = true := by
  rw [codes_eq]
  intro c hc
  simp only [codes1, List.mem_cons, List.not_mem_nil, or_false] at hc
  rcases hc with rfl | rfl | rfl | rfl | rfl | rfl | rfl | rfl | rfl | rfl | rfl | rfl | rfl | rfl | rfl | rfl | rfl | rfl | rfl | rfl | rfl | rfl | rfl | rfl | rfl | rfl | rfl
  · exact w_c0
  · exact w_c1
  · exact w_c2
  · exact w_c3
  · exact w_c4
  · exact w_c5
  · exact w_c6
  · exact w_c7
  · exact w_c8
  · exact w_c9
  · exact w_c10
  · exact w_c11
  · exact w_c12
  · exact w_c13
  · exact w_c14
  · exact w_c15
  · exact w_c16
  · exact w_c17
  · exact w_c18
  · exact w_c19
  · exact w_c20
  · exact w_c21
  · exact w_c22
  · exact w_c23
  · exact w_c24
  · exact w_c25
  · exact w_c26
set_option maxRecDepth 65536 in
theorem w_t1 : (words1.take 24).all (fun c => isCode c || c.before args0 about1) = true := by decide +kernel
set_option maxRecDepth 65536 in
theorem w_t2 : ((words1.drop 24).take 24).all (fun c => isCode c || c.before args0 about1) = true := by decide +kernel
set_option maxRecDepth 65536 in
theorem w_t3 : (((words1.drop 24).drop 24).take 24).all (fun c => isCode c || c.before args0 about1) = true := by decide +kernel
set_option maxRecDepth 65536 in
theorem w_t4 : ((((words1.drop 24).drop 24).drop 24).take 24).all (fun c => isCode c || c.before args0 about1) = true := by decide +kernel
set_option maxRecDepth 65536 in
theorem w_t5 : (((((words1.drop 24).drop 24).drop 24).drop 24).take 24).all (fun c => isCode c || c.before args0 about1) = true := by decide +kernel
set_option maxRecDepth 65536 in
theorem w_t6 : ((((((words1.drop 24).drop 24).drop 24).drop 24).drop 24).take 24).all (fun c => isCode c || c.before args0 about1) = true := by decide +kernel
set_option maxRecDepth 65536 in
theorem w_t7 : ((((((words1.drop 24).drop 24).drop 24).drop 24).drop 24).drop 24).all (fun c => isCode c || c.before args0 about1) = true := by decide +kernel
theorem w_tables : (allAtoms (Jvm.Cond.code x code maxLocals ret :: tables_1)).before args0 about1 = true := by
  rw [allAtoms_all]
  show words1.all (fun c => c.before args0 about1) = true
  refine all_split ?_ w_codes
  rw [← List.take_append_drop 24 words1, List.all_append, w_t1, ← List.take_append_drop 24 (words1.drop 24), List.all_append, w_t2, ← List.take_append_drop 24 ((words1.drop 24).drop 24), List.all_append, w_t3, ← List.take_append_drop 24 (((words1.drop 24).drop 24).drop 24), List.all_append, w_t4, ← List.take_append_drop 24 ((((words1.drop 24).drop 24).drop 24).drop 24), List.all_append, w_t5, ← List.take_append_drop 24 (((((words1.drop 24).drop 24).drop 24).drop 24).drop 24), List.all_append, w_t6, w_t7]
  rfl
set_option maxRecDepth 65536 in
theorem w_rest : rest_1_c.before args0 about1 = true := by decide +kernel
set_option maxRecDepth 65536 in
theorem w_case : (Jvm.Cond.and given_1 narrow_1).before args0 about1 = true := by decide +kernel
set_option maxRecDepth 65536 in
theorem w_consts : constsHeld consts_1 about1 := Jvm.Lit.constsHeldB_iff.mp (by decide +kernel)
theorem w_applies : (headSpec (Jvm.Cond.code x code maxLocals ret :: tables_1) room_1).applies x e0.platform about1 = true :=
  (Spec.applies_iff w_frames).mpr ⟨w_running, w_runnable, w_alone, w_named, w_hears, w_ripe, w_room, w_tables⟩
theorem atStart : AtStart classFile x code maxLocals ret World_1 tables_1 room_1 Calls_1 rest_1 Pre_1 launch0 p0 e0 about1 theMethod args0 below0 :=
  ⟨lists_1, trivial, launch0.admits_env _ _ _, launch0.least_env, fairChoices_fair.cas, fairChoices_fair.clock, w_frames, w_args, w_heap, w_applies, ⟨w_consts, trivial⟩, w_rest, w_case⟩
end start1
theorem witness_1 : WitnessClaimed_1 := ⟨start1.p0, start1.e0, start1.about1, start1.theMethod, start1.args0, start1.below0, start1.atStart⟩
end Jvm.Pilot.@@N@@
