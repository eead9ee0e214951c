import JvmDerived
import JvmDerived.Pilot.@@N@@Statement
import JvmDerived.Pilot.@@N@@Code
set_option linter.unusedVariables false
set_option linter.unusedSimpArgs false
namespace Jvm.RoadKit
open Sem ClassFile Op Lib Jvm.Stand Jvm.Free Jvm.LawKit
section New
variable {p : Program} {l : Launch} {e : Env} {R : Room} {s : State} {m : MethodId} {args : Array Value} {below : List Frame} {meth : Method} {c : Code} {T : State} {locs : List Loc} {cells slots : Nat} {K : Outcome → State → Prop}
theorem retI (X : Stand p l e R s m args below meth c T locs cells slots) (hx : p.tables.exec = Jvm.exec) {pc : Nat} {Ls : Array Slot} {z : Int32} {rest : List Value} (hret : meth.sig.returnType = some .int) (hd : decode c.code pc = .ok (.ireturn, 1)) {fs : List Frame}
    (hl : ∀ (f : JFrame) (acts : List Action), f.method = m → f.locked = none → f.entered = [] → (doReturn e (T.setTop f) acts (some (.int z))).1 = T.setFrames fs) : Steps p.tables e below (T.setTop (mkF m pc Ls (.int z :: rest))) (T.setFrames fs) := by
  have hm' : T.vm.method? m = some meth := X.method'
  have hn : narrow .int (.int z) = .int z := rfl
  show Steps p.tables e below (T.setTop { method := m, pc := pc, locals := Ls, stack := _ :: rest, locked := none }) _
  jvm_step X.here [X.here.top, hx, hd, hm', hret, hn]
  first | (intro acts; rw [hl _ acts rfl rfl rfl]) | rw [hl _ _ rfl rfl rfl]
  exact Steps.refl _
/-- from here the run comes to an end that K holds of -/
def Rch (p : Program) (e : Env) (below : List Frame) (K : Outcome → State → Prop) (T : State) (g : JFrame) : Prop := ∃ s₂ o, Steps p.tables e below (T.setTop g) s₂ ∧ s₂.status = .running ∧ Ended s₂ below o ∧ K o s₂
theorem Rch.of {T T' : State} {g g' : JFrame} (h : ∀ t, Steps p.tables e below (T'.setTop g') t → Steps p.tables e below (T.setTop g) t) (k : Rch p e below K T' g') : Rch p e below K T g := by
  obtain ⟨s₂, o, h1, h2⟩ := k
  exact ⟨s₂, o, h _ h1, h2⟩
theorem Rch.via {T T' : State} {g g' : JFrame} (h : Steps p.tables e below (T.setTop g) (T'.setTop g')) (k : Rch p e below K T' g') : Rch p e below K T g := Rch.of (fun _ kt => h.trans kt) k
theorem Rch.cast {T : State} {g g' : JFrame} (q : g = g') (k : Rch p e below K T g') : Rch p e below K T g := q ▸ k
theorem Rch.retN (X : Stand p l e R s m args below meth c T locs cells slots) (hx : p.tables.exec = Jvm.exec) {pc : Nat} {Ls : Array Slot} {z : Int32} {t : FieldType} {rest : List Value} (hret : meth.sig.returnType = some t) (ht : t = .boolean ∨ t = .byte ∨ t = .char ∨ t = .short) (hlk : meth.locks = false) (hd : decode c.code pc = .ok (.ireturn, 1))
    (k : ∀ U : State, U.heap = T.heap → FrameEnd s (.returned (some (.int (nar t z)))) U locs cells slots → K (.returned (some (.int (nar t z)))) U) : Rch p e below K T (mkF m pc Ls (.int z :: rest)) := by
  obtain ⟨fs, hr, hrun, hended, hW, hsame⟩ := X.leave (v := some (.int (nar t z))) (fun h => by rw [hret] at h; cases h) hlk
  exact ⟨_, _, Jvm.RoadKit.retN X hx hret ht hd hr, hrun, hended, k _ rfl ⟨⟨_, rfl⟩, hW, hsame⟩⟩
theorem Rch.retI (X : Stand p l e R s m args below meth c T locs cells slots) (hx : p.tables.exec = Jvm.exec) {pc : Nat} {Ls : Array Slot} {z : Int32} {rest : List Value} (hret : meth.sig.returnType = some .int) (hlk : meth.locks = false) (hd : decode c.code pc = .ok (.ireturn, 1))
    (k : ∀ U : State, U.heap = T.heap → FrameEnd s (.returned (some (.int z))) U locs cells slots → K (.returned (some (.int z))) U) : Rch p e below K T (mkF m pc Ls (.int z :: rest)) := by
  obtain ⟨fs, hr, hrun, hended, hW, hsame⟩ := X.leave (v := some (.int z)) (fun h => by rw [hret] at h; cases h) hlk
  exact ⟨_, _, Jvm.RoadKit.retI X hx hret hd hr, hrun, hended, k _ rfl ⟨⟨_, rfl⟩, hW, hsame⟩⟩
theorem Rch.retJ (X : Stand p l e R s m args below meth c T locs cells slots) (hx : p.tables.exec = Jvm.exec) {pc : Nat} {Ls : Array Slot} {z : Int64} {rest : List Value} (hret : meth.sig.returnType = some .long) (hlk : meth.locks = false) (hd : decode c.code pc = .ok (.lreturn, 1))
    (k : ∀ U : State, U.heap = T.heap → FrameEnd s (.returned (some (.long z))) U locs cells slots → K (.returned (some (.long z))) U) : Rch p e below K T (mkF m pc Ls (.long z :: rest)) := by
  obtain ⟨fs, hr, hrun, hended, hW, hsame⟩ := X.leave (v := some (.long z)) (fun h => by rw [hret] at h; cases h) hlk
  exact ⟨_, _, retOut X hx hret rfl (Or.inr (Or.inl ⟨rfl, rfl, z, rfl⟩)) hd hr, hrun, hended, k _ rfl ⟨⟨_, rfl⟩, hW, hsame⟩⟩
theorem Rch.retA (X : Stand p l e R s m args below meth c T locs cells slots) (hx : p.tables.exec = Jvm.exec) {pc : Nat} {Ls : Array Slot} {w : Value} {t : FieldType} {rest : List Value} (hret : meth.sig.returnType = some t) (ht : t.isReference = true) (hw : w.isRef = true) (hlk : meth.locks = false) (hd : decode c.code pc = .ok (.areturn, 1))
    (k : ∀ U : State, U.heap = T.heap → FrameEnd s (.returned (some w)) U locs cells slots → K (.returned (some w)) U) : Rch p e below K T (mkF m pc Ls (w :: rest)) := by
  obtain ⟨fs, hr, hrun, hended, hW, hsame⟩ := X.leave (v := some w) (fun h => by rw [hret] at h; cases h) hlk
  have hn : narrow t w = w := by
    rcases ref_cases hw with rfl | ⟨a, rfl⟩ <;> cases t <;> first | rfl | (simp [FieldType.isReference] at ht)
  exact ⟨_, _, retOut X hx hret hn (Or.inr (Or.inr (Or.inr (Or.inr ⟨rfl, ht, hw⟩)))) hd hr, hrun, hended, k _ rfl ⟨⟨_, rfl⟩, hW, hsame⟩⟩
theorem Rch.retV (X : Stand p l e R s m args below meth c T locs cells slots) (hx : p.tables.exec = Jvm.exec) {pc : Nat} {Ls : Array Slot} (hret : meth.sig.returnType = none) (hlk : meth.locks = false) (hd : decode c.code pc = .ok (.return_, 1))
    (k : ∀ U : State, U.heap = T.heap → FrameEnd s (.returned none) U locs cells slots → K (.returned none) U) : Rch p e below K T (mkF m pc Ls []) := by
  obtain ⟨fs, hr, hrun, hended, hW, hsame⟩ := X.leave (v := none) (fun _ => rfl) hlk
  exact ⟨_, _, X.returnOut hx hret hd hr, hrun, hended, k _ rfl ⟨⟨_, rfl⟩, hW, hsame⟩⟩
theorem own_met {y : MethodName} {bytes : ByteArray} {maxL : Nat} {ret : Option FieldType} {ws : List Cond} {rm : Room} {as' : Array Value} {Z : State} {h0 : Heap} {Q : Option Value → Heap → List Loc → Prop} {ck sk : Nat} (hn : plainFor y = true)
    (body : ∀ (p : Program) (e : Env) (s : State) (m : MethodId) (below : List Frame) (meth : Method) (c : Code) (T : State) (K : Outcome → State → Prop), p.tables.exec = Jvm.exec → c.code = bytes → c.maxLocals = maxL → meth.sig.returnType = ret → meth.locks = false → s.vm.findClass y.cls = some m.cls → meth.name = y.name → Z.Warmed39 s.vm → Stand p l e rm s m as' below meth c T [] 0 0 → T.heap = h0 →
      (∀ (v : Option Value) (U : State) (L : List Loc) (k n : Nat), Q v U.heap L → FrameEnd s (.returned v) U L k n → k ≤ ck → n ≤ sk → K (.returned v) U) → Rch p e below K T (entryFrame m as' maxL)) :
    MetFree l y (head1 (Cond.code y bytes maxL ret :: ws) rm) (fun a U => a = as' ∧ Z.Warmed39 U.vm ∧ U.heap = h0) (fun _ _ _ _ _ => True) (fun _ U o U' => ∃ v L, o = .returned v ∧ Q v U'.heap L ∧ FrameEnd U o U' L ck sk) := by
  refine MetFree.of_bodySF hn hisR ?_
  intro p e s m args below meth c s₁ Bd hml0 hP hK
  obtain ⟨rfl, hZ, hh⟩ := hP
  show Rch p e below (fun o U' => ∃ v L, o = .returned v ∧ Q v U'.heap L ∧ FrameEnd s o U' L ck sk) s₁ (entryFrame m args maxL)
  refine body p e s m below meth c s₁ _ Bd.exec Bd.bytes hml0 Bd.returns Bd.notSynchronized (findClass_of_methodNamed Bd.named) (name_of_methodNamed Bd.named Bd.method).1 hZ (Stand.of_body Bd) (by rw [← hh, Bd.state]; rfl) ?_
  intro v U L k n hQ hF hk hs
  exact ⟨v, L, rfl, hQ, hF.1, hF.2.1, hF.2.2.mono hk hs⟩
theorem own_metS {y : MethodName} {bytes : ByteArray} {maxL : Nat} {ret : Option FieldType} {ws : List Cond} {rm : Room} {as' : Array Value} {Z : State} {h0 : Heap} {Q : Option Value → Heap → List Loc → Prop} {ck sk : Nat} (hn : plainFor y = true)
    (body : ∀ (p : Program) (e : Env) (s : State) (m : MethodId) (below : List Frame) (meth : Method) (c : Code) (T : State) (K : Outcome → State → Prop), p.tables.exec = Jvm.exec → c.code = bytes → c.maxLocals = maxL → meth.sig.returnType = ret → meth.locks = false → s.vm.findClass y.cls = some m.cls → meth.name = y.name → Z.Warmed39 s.vm → Stand p l e rm s m as' below meth c T [] 0 0 → T.heap = h0 →
      (∀ (v : Option Value) (U : State) (L : List Loc) (k n : Nat), Q v U.heap L → ReturnedEndW s (.returned v) U L k n → k ≤ ck → n ≤ sk → K (.returned v) U) → Rch p e below K T (entryFrame m as' maxL)) :
    MetFree l y (head1 (Cond.code y bytes maxL ret :: ws) rm) (fun a U => a = as' ∧ Z.Warmed39 U.vm ∧ U.heap = h0) (fun _ _ _ _ _ => True) (fun _ U o U' => ∃ v L, o = .returned v ∧ Q v U'.heap L ∧ ReturnedEndW U o U' L ck sk) := by
  refine MetFree.of_bodySF hn hisR ?_
  intro p e s m args below meth c s₁ Bd hml0 hP hK
  obtain ⟨rfl, hZ, hh⟩ := hP
  show Rch p e below (fun o U' => ∃ v L, o = .returned v ∧ Q v U'.heap L ∧ ReturnedEndW s o U' L ck sk) s₁ (entryFrame m args maxL)
  refine body p e s m below meth c s₁ _ Bd.exec Bd.bytes hml0 Bd.returns Bd.notSynchronized (findClass_of_methodNamed Bd.named) (name_of_methodNamed Bd.named Bd.method).1 hZ (Stand.of_body Bd) (by rw [← hh, Bd.state]; rfl) ?_
  intro v U L k n hQ hF hk hs
  exact ⟨v, L, rfl, hQ, hF.1, hF.2.1, hF.2.2.1, hF.2.2.2.mono hk hs⟩
theorem own_end {vm1 : Vm} {n : Nat} (h : s.Since vm1 n) {U : State} {o : Outcome} {L : List Loc} {k c : Nat} (hn : n ≤ U.heap.size) (F : FrameEnd (s.setVm vm1) o U L k c) : ReturnedEndW s o U L k c := by
  obtain ⟨h1, h2, h3⟩ := F
  obtain ⟨g1, g2, g3⟩ := h.ended h2 hn h3
  exact ⟨h1, g1, g2, g3⟩
theorem own_narrowZ {z : Int32} (h : z = 0 ∨ z = 1) : narrow .boolean (.int z) = .int z := by rcases h with rfl | rfl <;> rfl
theorem own_fitZ {z : Int32} (h : z = 0 ∨ z = 1) : fits .boolean (.int z) = true := by rcases h with rfl | rfl <;> rfl
theorem own_narZ {z : Int32} (h : z = 0 ∨ z = 1) : nar .boolean z = z := by rcases h with rfl | rfl <;> rfl
/-- a truth as an int -/
def ob (P : Prop) [Decidable P] : Int32 := if P then 1 else 0
theorem ob_cases (P : Prop) [Decidable P] : (ob P = 1 ∧ P) ∨ (ob P = 0 ∧ ¬ P) := by
  by_cases h : P
  · exact Or.inl ⟨if_pos h, h⟩
  · exact Or.inr ⟨if_neg h, h⟩
theorem ob01 (P : Prop) [Decidable P] : ob P = 0 ∨ ob P = 1 := (ob_cases P).elim (fun h => Or.inr h.1) (fun h => Or.inl h.1)
theorem ob_pos {P : Prop} [Decidable P] (h : P) : ob P = 1 := if_pos h
theorem ob_neg {P : Prop} [Decidable P] (h : ¬ P) : ob P = 0 := if_neg h
theorem own_selP {args : Array Value} {y : MethodName} {n : Nat} (wi : (Cond.instantiable y.cls n).before args s = true) (hp : (Cond.privateMethod y).before args s = true) (hinst : (Cond.instanceMethod y).before args s = true) (hy : y.cls ≠ "java/lang/invoke/MethodHandle" ∧ y.cls ≠ "java/lang/invoke/VarHandle") : (Cond.selects y.cls y y).before args s = true := by
  obtain ⟨c, k, h1, h2, -, h4, -⟩ := Cond.instantiable_spec wi
  exact Jvm.Stand.selects_self_of_private h1 h2 (by cases hq : k.isInterface <;> simp [hq] at h4 ⊢) (Cond.privateMethod_at hp) hinst hy
end New
section Arrays
variable {Z : State} {h h' : Heap} {a b : Addr} {ty : FieldType} {n i : Nat} {f f' : Nat → Value} {sl : Nat} {v : Value} {ws : List Addr} {j : Int32} {c : Cell}
/-- the array at a has n places; place q holds f q -/
def Av (Z : State) (h : Heap) (a : Addr) (ty : FieldType) (n : Nat) (f : Nat → Value) : Prop := ∃ cl : Cell, Arr Z h a cl ty ∧ cl.slots.size = n ∧ ∀ j, j < n → cl.slots[j]? = some (f j)
theorem Av.ext (V : Av Z h a ty n f) (E : Ext h h') : Av Z h' a ty n f := by obtain ⟨c, A, r⟩ := V; exact ⟨c, A.ext E, r⟩
theorem Av.other (V : Av Z h b ty n f) (W : Wr h h' a sl v) (q : b ≠ a) : Av Z h' b ty n f := by obtain ⟨c, A, r⟩ := V; exact ⟨c, A.other W q, r⟩
theorem Av.keep (V : Av Z h a ty n f) (K : Keep h h' ws) (q : a ∉ ws) : Av Z h' a ty n f := by obtain ⟨c, A, r⟩ := V; exact ⟨c, ⟨K.2.1 a c A.1 q, A.2⟩, r⟩
theorem Av.lt (V : Av Z h a ty n f) : a < h.size := by obtain ⟨c, A, -⟩ := V; exact A.lt
theorem Av.congr (V : Av Z h a ty n f) (q : ∀ j, j < n → f j = f' j) : Av Z h a ty n f' := by obtain ⟨c, A, S, H⟩ := V; exact ⟨c, A, S, fun j hj => by rw [H j hj, q j hj]⟩
theorem Av.nostat (V : Av Z h a ty n f) : ∀ cell : Cell, h[a]? = some cell → cell.vm.isStatics = false := by
  obtain ⟨c, A, -⟩ := V
  exact Arr.nostat A
theorem own_sta {C nm d : String} (F : Sta Z h C nm d v) (K : Keep h h' ws) (hn : ∀ x ∈ ws, ∀ cell : Cell, h[x]? = some cell → cell.vm.isStatics = false) : Sta Z h' C nm d v := by
  obtain ⟨cf, i, k, f, st, cell, h1, h2, h3, h4, h5, h6, h7⟩ := F
  refine ⟨cf, i, k, f, st, cell, h1, h2, h3, h4, K.2.1 st cell h5 fun q => ?_, h6, h7⟩
  rw [hn st q cell h5] at h6
  cases h6
theorem oNat (e : j.toInt = (i : Int)) : j.toNatClampNeg = i := by simp only [Int32.toNatClampNeg]; omega
theorem oNn (e : j.toInt = (i : Int)) : ¬ j < 0 := by
  rw [Int32.lt_iff_toInt_lt]; have : (0 : Int32).toInt = 0 := rfl
  omega
theorem oIn (S : c.slots.size = n) (e : j.toInt = (i : Int)) (hi : i < n) : ¬ (j < 0 ∨ c.slots.size ≤ j.toNatClampNeg) := by
  rw [oNat e, S]; intro q
  rcases q with q | q
  · exact oNn e q
  · omega
theorem oAt (H : ∀ j, j < n → c.slots[j]? = some (f j)) (e : j.toInt = (i : Int)) (hi : i < n) : c.slots[j.toNatClampNeg]? = some (f i) := by rw [oNat e]; exact H i hi
theorem Av.set (V : Av Z h a ty n f) (e : j.toInt = (i : Int)) (hi : i < n) (W : Wr h h' a j.toNatClampNeg v) : Av Z h' a ty n (fun q => if q = i then v else f q) := by
  obtain ⟨c, A, S, H⟩ := V
  rw [oNat e] at W
  refine ⟨_, A.same W, by rw [sz_set]; exact S, fun k hk => ?_⟩
  by_cases u : k = i
  · subst u; simp [Cell.setSlot, S, hk]
  · simp only [u, if_false, Cell.setSlot]; rw [Array.getElem?_setIfInBounds_ne (Ne.symm u)]; exact H k hk
theorem Av.setI {y : Nat → Int32} {x : Int32} (V : Av Z h a ty n (fun q => .int (y q))) (e : j.toInt = (i : Int)) (hi : i < n) (W : Wr h h' a j.toNatClampNeg (.int x)) : Av Z h' a ty n (fun q => .int (if q = i then x else y q)) := (V.set e hi W).congr fun k _ => by
  by_cases u : k = i <;> simp [u]
theorem Av.setJ {y : Nat → Int64} {x : Int64} (V : Av Z h a ty n (fun q => .long (y q))) (e : j.toInt = (i : Int)) (hi : i < n) (W : Wr h h' a j.toNatClampNeg (.long x)) : Av Z h' a ty n (fun q => .long (if q = i then x else y q)) := (V.set e hi W).congr fun k _ => by
  by_cases u : k = i <;> simp [u]
theorem oLen (S : c.slots.size = n) : c.slots.size.toInt32 = Int32.ofNat n := by rw [S]
theorem Av.new {k : ClassId} {z : Int32} (A : Arr Z h a (newA k ty z) ty) (e : z.toInt = (n : Int)) : Av Z h a ty n (fun _ => defaultValue ty) :=
  ⟨_, A, by rw [sz_new]; exact oNat e, fun j hj => by have := oNat e; simp [newA, this, hj]⟩
/-- the array at a takes what is a C -/
def OvA (Z : State) (h : Heap) (a : Addr) (C : String) : Prop := ∃ cl : Cell, h[a]? = some cl ∧ Ovr Z cl.cls C
theorem OvA.ext {C : String} (F : OvA Z h a C) (E : Ext h h') : OvA Z h' a C := by obtain ⟨c, h1, h2⟩ := F; exact ⟨c, E.2 _ _ h1, h2⟩
theorem OvA.wr {C : String} (F : OvA Z h a C) (W : Wr h h' b sl v) : OvA Z h' a C := by
  obtain ⟨c, h1, h2⟩ := F
  obtain ⟨c', e1, e2, -⟩ := wr_at W h1
  exact ⟨c', e1, by rw [e2]; exact h2⟩
theorem OvA.keep {C : String} (F : OvA Z h a C) (K : Keep h h' ws) : OvA Z h' a C := by
  obtain ⟨c, h1, h2⟩ := F
  obtain ⟨c', e1, e2, -⟩ := K.2.2 a c h1
  exact ⟨c', e1, by rw [e2]; exact h2⟩
theorem OvA.at {C : String} (F : OvA Z h a C) (A : Arr Z h a c ty) : Ovr Z c.cls C := by
  obtain ⟨c', h1, h2⟩ := F
  cases h1.symm.trans A.1; exact h2
theorem oTo {n : Nat} (h : n < 2 ^ 31) : (Int32.ofNat n).toInt = (n : Int) := len_toInt h
end Arrays
end Jvm.RoadKit
namespace Jvm.RoadKit
open Sem ClassFile Op Lib Bundle Jvm.Stand Jvm.Free Jvm.LawKit Jvm.Free.SB Jvm.Free.SBG
section HeldOwn
variable {p : Program} {l : Launch} {e : Env} {R : Room} {s : State} {m : MethodId} {args : Array Value} {below : List Frame} {meth : Method} {c : Code} {T : State} {locs : List Loc} {cells slots : Nat} {Z : State} {EL : List (String × Nat)} {h h' h1 : Heap} {vm vm1 : Vm} {a b : Addr}
theorem own_metH {y : MethodName} {bytes : ByteArray} {maxL : Nat} {ret : Option FieldType} {ws : List Cond} {rm : Room} {as' : Array Value} {h0 : Heap} {Q : Option Value → Heap → List Loc → Prop} {ck sk : Nat} (hn : plainFor y = true)
    (body : ∀ (p : Program) (e : Env) (s : State) (m : MethodId) (below : List Frame) (meth : Method) (c : Code) (T : State) (K : Outcome → State → Prop), p.tables.exec = Jvm.exec → c.code = bytes → c.maxLocals = maxL → meth.sig.returnType = ret → meth.locks = false → s.vm.findClass y.cls = some m.cls → meth.name = y.name → Z.Warmed39 s.vm → Stand p l e rm s m as' below meth c T [] 0 0 → T.heap = h0 → CHv Z EL s.vm h0 →
      (∀ (v : Option Value) (U : State) (L : List Loc) (k n : Nat), Q v U.heap L → CHr Z EL s.vm h0 U.vm U.heap → ReturnedEndW s (.returned v) U L k n → k ≤ ck → n ≤ sk → K (.returned v) U) → Rch p e below K T (entryFrame m as' maxL)) :
    MetFree l y (head1 (Cond.code y bytes maxL ret :: ws) rm) (fun a U => a = as' ∧ Z.Warmed39 U.vm ∧ U.heap = h0 ∧ CHv Z EL U.vm h0) (fun _ _ _ _ _ => True) (fun _ U o U' => ∃ v L, o = .returned v ∧ Q v U'.heap L ∧ CHr Z EL U.vm U.heap U'.vm U'.heap ∧ ReturnedEndW U o U' L ck sk) := by
  refine MetFree.of_bodySF hn hisR ?_
  intro p e s m args below meth c s₁ Bd hml0 hP hK
  obtain ⟨rfl, hZ, hh, hC⟩ := hP
  show Rch p e below (fun o U' => ∃ v L, o = .returned v ∧ Q v U'.heap L ∧ CHr Z EL s.vm s.heap U'.vm U'.heap ∧ ReturnedEndW s o U' L ck sk) s₁ (entryFrame m args maxL)
  refine body p e s m below meth c s₁ _ Bd.exec Bd.bytes hml0 Bd.returns Bd.notSynchronized (findClass_of_methodNamed Bd.named) (name_of_methodNamed Bd.named Bd.method).1 hZ (Stand.of_body Bd) (by rw [← hh, Bd.state]; rfl) hC ?_
  intro v U L k n hQ hR hF hk hs
  exact ⟨v, L, rfl, hQ, by rw [hh]; exact hR, hF.1, hF.2.1, hF.2.2.1, hF.2.2.2.mono hk hs⟩
theorem own_endH {a0 : Array Value} (hZ : Z.Warmed39 (s.setVm vm1).vm) (hEL : EW Z a0 EL) (C : CHr Z EL vm h vm1 h1) {U : State} {o : Outcome} {L : List Loc} {k n : Nat} (hU : U.heap = h1) (F : FrameEnd (s.setVm vm1) o U L k n) : CHr Z EL vm h U.vm U.heap := by
  rw [hU]
  have q := CHv.later (h' := h1) (vm := vm1) hZ (hW := (show (Wst Z vm1 h1).Warmed39 U.vm from F.2.1.wide)) hEL ⟨Nat.le_refl _, fun _ _ q => q⟩ (Or.inl F.2.1.interned_eq) C.1
  exact C.trans ⟨q.1, Nat.le_refl _, q.2⟩
/-- a String whose value is null yet is no booked one -/
theorem own_safeNull (hal : Z.vm.Alike vm) (E : Exa Z h a "java/lang/String") (F : Fld Z h a "java/lang/String" "value" "[B" .null) : Safe Z EL vm h a := fun B => by
  obtain ⟨cell, k, e1, e2, e3, -, -⟩ := E
  obtain ⟨p, -, u, x, -, q, -, G, rfl | rfl⟩ := B
  · have hc := G.ha
    obtain ⟨cS, ⟨⟨-, -, -, ⟨c2, k2, i2, f2, -⟩, -, -, -, v2, -⟩, -⟩, -⟩ := G
    obtain ⟨c1, cf, k1, i1, f1, g1, g2, -, -, -, -, g7⟩ := F
    cases (show h[q.sa]? = some q.sC from hc).symm.trans g1
    obtain ⟨k3, e3', -⟩ := State.fieldFound?_setVm (s := Z) hal g2
    have e4 := (show (Wst Z vm h).fieldFound? _ _ _ = _ from e3').symm.trans f2
    simp only [Option.some.injEq, Prod.mk.injEq] at e4
    rw [← e4.2.2.2, g7] at v2
    cases v2
  · cases (show h[q.sd]? = some q.SA from G.hd).symm.trans e1
    obtain ⟨cS, -, -, f, -⟩ := G
    have f' : vm.findClass "[B" = some q.SA.cls := f
    rw [hal.findClass] at f'
    obtain ⟨k1, q1, q2⟩ := Vm.findClass_spec f'
    obtain ⟨k2, q3, q4⟩ := Vm.findClass_spec e2
    cases q1.symm.trans q3
    have := q2.symm.trans q4
    exact absurd this (by decide)
variable {ty : FieldType} {n : Nat} {f f' : Nat → Value} {k : ClassId} {z : Int32} {vs : List Value} {dv : Value}
theorem Av.safe (hal : Z.vm.Alike vm) (V : Av Z h a ty n f) (ht : ty ≠ .byte) : Safe Z EL vm h a := by
  obtain ⟨c, A, -⟩ := V
  exact Safe.arr hal A ht
theorem Av.arv (V : Av Z h a ty n f) (hn : n < 2 ^ 31) (G : ∀ q, q < n → fits ty (f q) = true) : ∃ k, Arv Z h a k ty (Int32.ofNat n) ((List.range n).map f) .null := by
  obtain ⟨c, A, S, H⟩ := V
  have e := oNat (oTo hn)
  refine ⟨c.cls, c, A, rfl, by rw [e]; exact S, oNn (oTo hn), fun j hj => ?_, fun j hj => ?_⟩
  · rw [S] at hj; rw [H j hj]; simp [hj]
  · rw [S] at hj; simpa [hj] using G j hj
theorem Arv.av (V : Arv Z h a k ty z vs dv) (e : z.toInt = (n : Int)) : Av Z h a ty n (fun j => vs.getD j dv) := by
  obtain ⟨c, A, -, S, -, H, -⟩ := V
  have S' : c.slots.size = n := by rw [S]; exact oNat e
  exact ⟨c, A, S', fun j hj => H j (by rw [S']; exact hj)⟩
theorem own_cp (X : Stand p l e R s m args below meth c T locs cells slots) (hx : p.tables.exec = Jvm.exec) (hZ : Z.Warmed39 s.vm) {a0 : Array Value} {own : String} {index : Nat} (hown : s.vm.findClass own = some m.cls)
    (w1 : (Cond.methodLink own index Jvm.Stand.acN).before a0 Z = true) (w2 : (Cond.native Jvm.Stand.acN).before a0 Z = true) (w3 : (Cond.static Jvm.Stand.acN).before a0 Z = true) (w4 : (Cond.initialized "java/lang/System").before a0 Z = true) (eT : T.heap = h)
    {n' i j k : Nat} {sp dp nn : Int32} (A : Av Z h a ty n f) (B : Av Z h b ty n' f') (hty : refKind ty = false) (hn : n < 2 ^ 31) (hn' : n' < 2 ^ 31) (Ga : ∀ q, q < n → fits ty (f q) = true) (Gb : ∀ q, q < n' → fits ty (f' q) = true)
    (es : sp.toInt = (i : Int)) (ed : dp.toInt = (j : Int)) (en : nn.toInt = (k : Int)) (h4 : i + k ≤ n) (h5 : j + k ≤ n') {n0 : Nat} (N : Fr n0 locs) (ge : n0 ≤ b)
    {g : JFrame} (hg : g.method = m) (hsize : g.locals.size = c.maxLocals) {rest : List Value} (hs : g.stack = .int nn :: .int dp :: .ref b :: .int sp :: .ref a :: rest) (hd : decode c.code g.pc = .ok (.invokestatic index, 3))
    (hf : 1 ≤ R.frames) {W : Nat} (hW : 2 * g.monitorRoom + (rest.map fun v => v.category).sum ≤ W) (hlo : W + (nativeFrameWords "java/lang/System" "arraycopy" 5 + 11) ≤ R.locals) :
    ∃ T' h' L, Stand p l e R s m args below meth c T' L cells slots ∧ T'.heap = h' ∧ Fr n0 L ∧ Keep h h' [b] ∧ Av Z h' b ty n' (fun q => if j ≤ q ∧ q < j + k then f (i + (q - j)) else f' q) ∧
      ∀ target, Steps p.tables e below (T'.setTop { g with pc := g.pc + 3, stack := rest }) target → Steps p.tables e below (T.setTop g) target := by
  obtain ⟨kA, A'⟩ := A.arv hn Ga
  obtain ⟨kB, B'⟩ := B.arv hn' Gb
  obtain ⟨T', h', L, r1, r2, r3, r4, r5, r6⟩ := cpA X hx hZ hown w1 w2 w3 w4 eT A' B' (Or.inl ⟨rfl, hty⟩) (oNn es) (oNn ed) (oNn en) (by rw [oNat es, oNat en, oNat (oTo hn)]; exact h4) (by rw [oNat ed, oNat en, oNat (oTo hn')]; exact h5) rfl (by rw [oNat ed, oNat en]; simpa using h5) N ge hg hsize hs hd hf hW hlo
  refine ⟨T', h', L, r1, r2, r3, r4, (Arv.av r5 (oTo hn')).congr (fun q hq => ?_), r6⟩
  rw [oNat es, oNat ed, oNat en]
  simp only [List.getD_eq_getElem?_getD]
  have l1 : (List.take j ((List.range n').map f')).length = j := by simp; omega
  by_cases c1 : q < j
  · rw [List.append_assoc, List.getElem?_append_left (by omega), List.getElem?_take_of_lt c1, if_neg (by omega)]
    simp [hq]
  · by_cases c2 : q < j + k
    · rw [List.getElem?_append_left (by rw [List.length_append, l1]; simp; omega), List.getElem?_append_right (by omega), l1, if_pos ⟨by omega, c2⟩]
      simp [show q - j < k by omega, show i + (q - j) < n by omega]
    · rw [List.getElem?_append_right (by rw [List.length_append, l1]; simp; omega), List.length_append, l1, List.getElem?_drop, if_neg (by omega)]
      simp [show j + k + (q - (j + k)) = q by omega, hq]
/-- a copy of no component -/
theorem own_cp0 (X : Stand p l e R s m args below meth c T locs cells slots) (hx : p.tables.exec = Jvm.exec) (hZ : Z.Warmed39 s.vm) {a0 : Array Value} {own : String} {index : Nat} (hown : s.vm.findClass own = some m.cls)
    (w1 : (Cond.methodLink own index Jvm.Stand.acN).before a0 Z = true) (w2 : (Cond.native Jvm.Stand.acN).before a0 Z = true) (w3 : (Cond.static Jvm.Stand.acN).before a0 Z = true) (w4 : (Cond.initialized "java/lang/System").before a0 Z = true) (eT : T.heap = h)
    {n' i j : Nat} {sp dp : Int32} (A : Av Z h a ty n f) (B : Av Z h b ty n' f') (hn : n < 2 ^ 31) (hn' : n' < 2 ^ 31) (Ga : ∀ q, q < n → fits ty (f q) = true) (Gb : ∀ q, q < n' → fits ty (f' q) = true)
    (es : sp.toInt = (i : Int)) (ed : dp.toInt = (j : Int)) (h4 : i ≤ n) (h5 : j ≤ n') {n0 : Nat} (N : Fr n0 locs) (ge : n0 ≤ b)
    {g : JFrame} (hg : g.method = m) (hsize : g.locals.size = c.maxLocals) {rest : List Value} (hs : g.stack = .int (0 : Int32) :: .int dp :: .ref b :: .int sp :: .ref a :: rest) (hd : decode c.code g.pc = .ok (.invokestatic index, 3))
    (hf : 1 ≤ R.frames) {W : Nat} (hW : 2 * g.monitorRoom + (rest.map fun v => v.category).sum ≤ W) (hlo : W + (nativeFrameWords "java/lang/System" "arraycopy" 5 + 11) ≤ R.locals) :
    ∃ T' h' L, Stand p l e R s m args below meth c T' L cells slots ∧ T'.heap = h' ∧ Fr n0 L ∧ Keep h h' [b] ∧ Av Z h' b ty n' f' ∧
      ∀ target, Steps p.tables e below (T'.setTop { g with pc := g.pc + 3, stack := rest }) target → Steps p.tables e below (T.setTop g) target := by
  obtain ⟨kA, A'⟩ := A.arv hn Ga
  obtain ⟨kB, B'⟩ := B.arv hn' Gb
  have en : (0 : Int32).toInt = ((0 : Nat) : Int) := rfl
  have hty : (ty = ty ∧ refKind ty = false) ∨ (refKind ty = true ∧ refKind ty = true ∧ StoL Z h b []) := by
    cases hk : refKind ty
    · exact Or.inl ⟨rfl, rfl⟩
    · exact Or.inr ⟨rfl, rfl, trivial⟩
  obtain ⟨T', h', L, r1, r2, r3, r4, r5, r6⟩ := cpA (us := []) X hx hZ hown w1 w2 w3 w4 eT A' B' hty (oNn es) (oNn ed) (oNn en) (by rw [oNat es, oNat en, oNat (oTo hn)]; omega) (by rw [oNat ed, oNat en, oNat (oTo hn')]; omega) rfl (by rw [oNat ed, oNat en]; simpa using h5) N ge hg hsize hs hd hf hW hlo
  refine ⟨T', h', L, r1, r2, r3, r4, (Arv.av r5 (oTo hn')).congr (fun q hq => ?_), r6⟩
  rw [oNat ed, oNat en]
  simp [hq]
theorem own_cpI (X : Stand p l e R s m args below meth c T locs cells slots) (hx : p.tables.exec = Jvm.exec) (hZ : Z.Warmed39 s.vm) {a0 : Array Value} {own : String} {index : Nat} (hown : s.vm.findClass own = some m.cls)
    (w1 : (Cond.methodLink own index Jvm.Stand.acN).before a0 Z = true) (w2 : (Cond.native Jvm.Stand.acN).before a0 Z = true) (w3 : (Cond.static Jvm.Stand.acN).before a0 Z = true) (w4 : (Cond.initialized "java/lang/System").before a0 Z = true) (eT : T.heap = h)
    {n' i j k : Nat} {sp dp nn : Int32} {y y' : Nat → Int32} (A : Av Z h a ty n (fun q => .int (y q))) (B : Av Z h b ty n' (fun q => .int (y' q))) (hty : refKind ty = false) (hn : n < 2 ^ 31) (hn' : n' < 2 ^ 31) (Ga : ∀ q, q < n → fits ty (.int (y q)) = true) (Gb : ∀ q, q < n' → fits ty (.int (y' q)) = true)
    (es : sp.toInt = (i : Int)) (ed : dp.toInt = (j : Int)) (en : nn.toInt = (k : Int)) (h4 : i + k ≤ n) (h5 : j + k ≤ n') {n0 : Nat} (N : Fr n0 locs) (ge : n0 ≤ b)
    {g : JFrame} (hg : g.method = m) (hsize : g.locals.size = c.maxLocals) {rest : List Value} (hs : g.stack = .int nn :: .int dp :: .ref b :: .int sp :: .ref a :: rest) (hd : decode c.code g.pc = .ok (.invokestatic index, 3))
    (hf : 1 ≤ R.frames) {W : Nat} (hW : 2 * g.monitorRoom + (rest.map fun v => v.category).sum ≤ W) (hlo : W + (nativeFrameWords "java/lang/System" "arraycopy" 5 + 11) ≤ R.locals) :
    ∃ T' h' L, Stand p l e R s m args below meth c T' L cells slots ∧ T'.heap = h' ∧ Fr n0 L ∧ Keep h h' [b] ∧ Av Z h' b ty n' (fun q => .int (if j ≤ q ∧ q < j + k then y (i + (q - j)) else y' q)) ∧
      ∀ target, Steps p.tables e below (T'.setTop { g with pc := g.pc + 3, stack := rest }) target → Steps p.tables e below (T.setTop g) target := by
  obtain ⟨T', h', L, r1, r2, r3, r4, r5, r6⟩ := own_cp X hx hZ hown w1 w2 w3 w4 eT A B hty hn hn' Ga Gb es ed en h4 h5 N ge hg hsize hs hd hf hW hlo
  refine ⟨T', h', L, r1, r2, r3, r4, r5.congr (fun q hq => ?_), r6⟩
  by_cases c1 : j ≤ q ∧ q < j + k
  · simp only [c1, and_self, if_true]
  · simp only [c1, if_false]
theorem own_clone (X : Stand p l e R s m args below meth c T locs cells slots) (hx : p.tables.exec = Jvm.exec) (hZ : Z.Warmed39 s.vm) {a0 : Array Value} {own ad : String} {index : Nat} (hown : s.vm.findClass own = some m.cls)
    (w1 : (Cond.methodLink own index ⟨ad, "clone", "()Ljava/lang/Object;"⟩).before a0 Z = true) (w2 : (Cond.sameMethod ad "java/lang/Object" "clone" "()Ljava/lang/Object;").before a0 Z = true) (w3 : (Cond.native ⟨"java/lang/Object", "clone", "()Ljava/lang/Object;"⟩).before a0 Z = true)
    (w4 : (Cond.instanceMethod ⟨"java/lang/Object", "clone", "()Ljava/lang/Object;"⟩).before a0 Z = true) (w5 : (Cond.selects ad ⟨ad, "clone", "()Ljava/lang/Object;"⟩ ⟨"java/lang/Object", "clone", "()Ljava/lang/Object;"⟩).before a0 Z = true) (w6 : (Cond.castable ad "java/lang/Cloneable").before a0 Z = true)
    (eT : T.heap = h) (V : Av Z h a ty n f) (G : ∀ q, q < n → fits ty (f q) = true) (E : Exa Z h a ad) {g : JFrame} (hg : g.method = m) (hsize : g.locals.size = c.maxLocals) {rest : List Value} (hs : g.stack = .ref a :: rest) (hd : decode c.code g.pc = .ok (.invokevirtual index, 3))
    (hf : 1 ≤ R.frames) {W cap : Nat} (hW : 2 * g.monitorRoom + (rest.map fun v => v.category).sum ≤ W) (hl : W + 14 ≤ R.locals) (hcap : n ≤ cap) (hc : cells + 1 ≤ R.cells) (hsl : slots + cap ≤ R.slots) :
    ∃ T' h', Stand p l e R s m args below meth c T' locs (cells + 1) (slots + cap) ∧ T'.heap = h' ∧ Ext h h' ∧ Av Z h' h.size ty n f ∧ Exa Z h' h.size ad ∧
      ∀ target, Steps p.tables e below (T'.setTop { g with pc := g.pc + 3, stack := .ref h.size :: rest }) target → Steps p.tables e below (T.setTop g) target := by
  obtain ⟨cl, A, S, H⟩ := V
  have FC : FitC Z cl := fitC_of A fun i hi v hv => by
    rw [S] at hi
    rw [H i hi] at hv
    cases hv
    exact G i hi
  obtain ⟨T', h', X', e', ex, A', E', st⟩ := cloneA X hx hZ hown w1 w2 w3 w4 w5 w6 eT A E FC hg hsize hs hd hf hW hl (by rw [S]; exact hcap) hc hsl
  exact ⟨T', h', X', e', ex, ⟨cloneOf cl, A', S, H⟩, E', st⟩
theorem own_sameF {C nm d : String} {v w : Value} (F : Fld Z h a C nm d v) (G : Fld Z h b C nm d w) (e : a = b) : v = w := Classical.byContradiction fun q => Fld.ne F G q e
theorem Av.same {ty' : FieldType} {n' : Nat} (V : Av Z h a ty n f) (W : Av Z h a ty' n' f') : n = n' ∧ ∀ q, q < n → f q = f' q := by
  obtain ⟨c, A, S, H⟩ := V
  obtain ⟨c', A', S', H'⟩ := W
  cases A.1.symm.trans A'.1
  have e : n = n' := S.symm.trans S'
  exact ⟨e, fun q hq => Option.some.inj ((H q hq).symm.trans (H' q (e ▸ hq)))⟩
theorem own_eqref {args : Array Value} {X F : Term} {r : Addr} (hF : F.eval args Z none [] Z = some (.ref r)) (h : (Cond.eq X F).value args Z none Z [] = some true) : X.eval args Z none [] Z = some (.ref r) := by
  simp only [Cond.value, hF] at h
  cases hx : X.eval args Z none [] Z with
  | none => simp [hx] at h
  | some x => cases x <;> simp [hx] at h ⊢ <;> first | exact h | exact h.symm
theorem own_startAv {args : Array Value} {t : Term} {k : Int32} (ev : t.eval args Z none [] Z = some (.ref a)) (ha : (Cond.arrayOf t ty).value args Z none Z [] = some true) (hl : (Cond.eq (.length t) (.int k)).value args Z none Z [] = some true) (ek : k.toInt = (n : Int))
    (he : ∀ j, j < n → (Term.elem t (.int (Int32.ofNat j))).eval args Z none [] Z = some (f j)) : Av Z Z.heap a ty n f := by
  obtain ⟨c, A⟩ := Arr.start ev ha
  have hlen := eqv_i (F := .int k) rfl hl
  obtain ⟨x, SA, e1, e2, -⟩ := Term.length_spec hlen
  cases ev.symm.trans e1
  have h31 := SBG.length_lt e1 e2 hlen
  cases A.1.symm.trans (Jvm.Joins.arrayAt_spec e2).1
  have e3 := Option.some.inj ((len_f e1 e2 h31).symm.trans hlen)
  have S : c.slots.size = n := by
    injection e3 with e3
    have e4 := congrArg Int32.toInt e3
    rw [len_toInt h31, ek] at e4
    omega
  refine ⟨c, A, S, fun j hj => ?_⟩
  have q := (elem_in (he j hj) ev rfl A.1).2
  rw [oNat (oTo (by omega))] at q
  exact q
theorem own_exane {C D : String} (E : Exa Z h a C) (F : Exa Z h b D) (q : C ≠ D) : a ≠ b := fun e => by
  subst e
  obtain ⟨c1, k1, e1, e2, -⟩ := E
  obtain ⟨c2, k2, f1, f2, -⟩ := F
  cases e1.symm.trans f1
  exact ids_ne e2 f2 q rfl
theorem own_nf {args : Array Value} {C : String} {y y' : MethodName} (hsel : (Cond.selects C y' y').before args s = true) (hc : y.cls = y'.cls) : NotFace s y := fun r0 h0 => by
  obtain ⟨c2, r2, m2, q1, q2, q3, q4, kP, hkP, hkPi⟩ := Cond.selects_spec hsel
  have a1 := findClass_of_methodNamed h0
  have a2 := findClass_of_methodNamed q3
  rw [hc, a2] at a1
  injection a1 with a1
  exact ⟨kP, by rw [← a1]; exact hkP, hkPi⟩
theorem own_selP2 {args : Array Value} {C : String} {y : MethodName} (hsel : (Cond.selects C y y).before args s = true) (hp : (Cond.privateMethod y).before args s = true) (hinst : (Cond.instanceMethod y).before args s = true) (hy : y.cls ≠ "java/lang/invoke/MethodHandle" ∧ y.cls ≠ "java/lang/invoke/VarHandle") : (Cond.selects y.cls y y).before args s = true := by
  obtain ⟨c2, r2, m2, q1, q2, q3, q4, kP, hkP, hkPi⟩ := Cond.selects_spec hsel
  exact Jvm.Stand.selects_self_of_private (findClass_of_methodNamed q3) hkP hkPi (Cond.privateMethod_at hp) hinst hy
theorem own_sameM {args : Array Value} {y : MethodName} (hinst : (Cond.instanceMethod y).before args s = true) (nf : NotFace s y) (hy : y.cls ≠ "java/lang/invoke/MethodHandle" ∧ y.cls ≠ "java/lang/invoke/VarHandle") : (Cond.sameMethod y.cls y.cls y.name y.desc).before args s = true := by
  obtain ⟨mk, methM, hnamed, hmethM, -, -⟩ := Cond.instanceMethod_spec hinst
  have hfound : s.methodFound? y.cls y.name y.desc = some mk := State.methodFound?_of_named hnamed hy
  obtain ⟨k, hk, hni⟩ := nf mk hnamed
  have hc := findClass_of_methodNamed hnamed
  have hn2 : s.methodNamed? ⟨y.cls, y.name, y.desc⟩ = some mk := hnamed
  simp only [Cond.before, Cond.holds, Cond.value, hc, hfound, hn2, hk]
  simp [hni]
theorem own_nsroot {a0 : Array Value} {O K : String} {nK : Nat} (w : (Cond.noSuperclass O).before a0 Z = true) (wk : (Cond.instantiable K nK).before a0 Z = true) (hn : O ≠ K) : NS Z O K := by
  obtain ⟨c, k, h1, h2, h3, -, -⟩ := Cond.noSuperclass_spec w
  obtain ⟨t, kI, g1, -⟩ := Cond.instantiable_spec wk
  have ne := ids_ne h1 g1 hn
  refine ⟨c, t, h1, g1, fun fuel => ?_⟩
  cases fuel with
  | zero => rfl
  | succ f => simp [Vm.isSubclassAux, ne, h2, h3]
theorem own_nsno {a0 : Array Value} {C S K : String} {nK : Nat} (w : (Cond.superclass C S).before a0 Z = true) (wk : (Cond.instantiable K nK).before a0 Z = true) (n : NS Z C K) (hn : C ≠ K) : ∃ c t, Z.vm.findClass C = some c ∧ Z.vm.findClass K = some t ∧ Z.vm.assignable c t = false := by
  obtain ⟨c, t, h0, g0, n3⟩ := n
  obtain ⟨p, k, kp, h1, h2, h3, h4, h5, -, h7⟩ := Cond.superclass_spec h0 w
  obtain ⟨cI, kI, hfI, hkI, hkindI, r4, -⟩ := Cond.instantiable_spec wk
  cases g0.symm.trans hfI
  have ne := ids_ne h0 g0 hn
  have hni : kI.isInterface = false := by cases hq : kI.isInterface <;> simp [hq] at r4 ⊢
  refine ⟨c, t, h0, g0, ?_⟩
  show Z.vm.assignableAux (255 + 1) c t = false
  simp [Vm.assignableAux, ne, h2, hkI, h5, hkindI, hni, Vm.isSubclass, n3]
end HeldOwn
end Jvm.RoadKit
namespace Jvm.Pilot.@@N@@
open Jvm Jvm.ClassFile Sem Op Lib Jvm.Free Jvm.Stand Jvm.LawKit Jvm.RoadKit Bundle Jvm.Pilot.@@N@@.Jvm.D
theorem own_one (i : Nat) : Int32.ofNat i + (1 : Int32) = Int32.ofNat (i + 1) := (Int32.ofNat_add i 1).symm
theorem own_olt2 {i n : Nat} (hi : i < 2 ^ 31) (hn : n < 2 ^ 31) : Int32.ofNat i < Int32.ofNat n ↔ i < n := by
  rw [Int32.lt_iff_toInt_lt, oTo hn, oTo hi]; omega
theorem own_neN {i j : Nat} (hi : i < 2 ^ 31) (hj : j < 2 ^ 31) : Int32.ofNat i = Int32.ofNat j ↔ i = j := by
  rw [← Int32.toInt_inj, oTo hi, oTo hj]; omega
theorem own_ne0 {n : Nat} (h1 : 1 ≤ n) (h : n < 2 ^ 31) : ¬ Int32.ofNat n = (0 : Int32) := fun q => by
  have := (own_neN (j := 0) h (by decide)).mp q
  omega
theorem own_b8 (x : Int32) : x.toInt8.toInt32.toInt8.toInt32 = x.toInt8.toInt32 := by simp
theorem own_put {α : Type} (i j : Nat) (p v : α) (f : Nat → α) (hj : j = i → p = f j) : (if j = i then p else if j < i then f j else v) = if j < i + 1 then f j else v := by
  by_cases h : j = i
  · subst h; simp [hj rfl]
  · by_cases h2 : j < i
    · simp [h, h2, show j < i + 1 by omega]
    · simp [h, h2, show ¬ j < i + 1 by omega]
theorem own_cod (n : Nat) : (((Int32.ofNat n - Int32.ofNat n).toUInt32 >>> ((31 : Int32) &&& 31).toUInt32).toInt32.toInt8.toInt32) = (0 : Int32) := by
  rw [Int32.sub_self]; decide
theorem own_sh0 (x : Int32) : x >>> ((0 : Int32) &&& 31) = x := by
  apply Int32.toInt_inj.mp
  rw [c_ishr x 0 0 (by decide)]
  simp
theorem own_le255 {x : Int32} (h : x.toInt ≤ 255) : ¬ (255 : Int32) < x := by
  rw [Int32.lt_iff_toInt_lt]
  have e : (255 : Int32).toInt = 255 := by decide
  omega
def own_ch (n : Nat) (y : Nat → Int32) : Prop := ∀ q, q < n → 0 ≤ (y q).toInt ∧ (y q).toInt ≤ 255
theorem own_antis {a b : Int32} (h1 : ¬ a < b) (h2 : ¬ b < a) : a = b := by
  rw [Int32.lt_iff_toInt_lt] at h1 h2
  apply Int32.toInt_inj.mp
  omega
theorem own_irr (a : Int32) : ¬ a < a := Int32.lt_irrefl
theorem own_nneg {i : Nat} (h : i < 2 ^ 31) : ¬ Int32.ofNat i < (0 : Int32) := oNn (oTo h)
theorem own_nlt {i j : Nat} (h : j ≤ i) (hi : i < 2 ^ 31) : ¬ Int32.ofNat i < Int32.ofNat j := fun q => by
  have := (own_olt2 hi (by omega)).mp q
  omega
theorem own_lt3 {i j : Nat} (h : i < j) (hj : j < 2 ^ 31) : Int32.ofNat i < Int32.ofNat j := (own_olt2 (by omega) hj).mpr h
theorem own_addN (i j : Nat) : Int32.ofNat i + Int32.ofNat j = Int32.ofNat (i + j) := (Int32.ofNat_add i j).symm
theorem own_subN {i j : Nat} (h : i ≤ j) : Int32.ofNat j - Int32.ofNat i = Int32.ofNat (j - i) := (Int32.ofNat_sub j i h).symm
theorem own_pred (k : Nat) : Int32.ofNat (k + 1) - (1 : Int32) = Int32.ofNat k := by
  rw [← own_one]; exact Int32.add_sub_cancel _ _
theorem own_m1 (k : Nat) : Int32.ofNat k + (-1 : Int32) = Int32.ofNat k - (1 : Int32) := Int32.add_neg_eq_sub
theorem own_pm (k : Nat) : Int32.ofNat k - (1 : Int32) + (1 : Int32) = Int32.ofNat k := Int32.sub_add_cancel _ _
def own_c1 (x : Int32) : Prop := 0 ≤ x.toInt ∧ x.toInt ≤ 255
theorem own_c1n {x : Int32} (h : own_c1 x) : ¬ x < (0 : Int32) := by
  rw [Int32.lt_iff_toInt_lt]
  have e : (0 : Int32).toInt = 0 := rfl
  have := h.1
  omega
theorem own_c1l {x : Int32} (h : own_c1 x) : ¬ (255 : Int32) < x := own_le255 h.2
theorem own_b8v (x : Int32) : x.toInt8.toInt32.toInt = x.toInt.bmod 256 := by
  rw [Int8.toInt_toInt32, Int32.toInt_toInt8]
theorem own_b8i {x y : Int32} (hx : own_c1 x) (hy : own_c1 y) (h : x.toInt8.toInt32 = y.toInt8.toInt32) : x = y := by
  have e := congrArg Int32.toInt h
  rw [own_b8v, own_b8v] at e
  have e1 := Int.bmod_emod (x := x.toInt) (m := 256)
  have e2 := Int.bmod_emod (x := y.toInt) (m := 256)
  rw [e, e2] at e1
  obtain ⟨h1, h2⟩ := hx
  obtain ⟨h3, h4⟩ := hy
  apply Int32.toInt_inj.mp
  omega
theorem own_chr {x : Int32} (h : own_c1 x) : nar .char ((x.toInt8.toInt32 &&& (255 : Int32)).toUInt32.toUInt16.toUInt32.toInt32) = x := by
  show (((x.toInt8.toInt32 &&& (255 : Int32)).toUInt32.toUInt16.toUInt32.toInt32).toUInt32.toUInt16.toUInt32.toInt32) = x
  rw [i2c_mask, i2c_mask]
  apply Int32.toInt_inj.mp
  rw [c_mask _ 255 8 (by decide) (by decide), own_b8v]
  have e1 := Int.bmod_emod (x := x.toInt) (m := 256)
  obtain ⟨h1, h2⟩ := h
  have e2 : ((2 ^ 8 : Nat) : Int) = ((256 : Nat) : Int) := rfl
  rw [e2, e1]
  omega
theorem own_i2c {x : Int32} (h : own_c1 x) : x.toUInt32.toUInt16.toUInt32.toInt32 = x := by
  have e : x &&& (255 : Int32) = x := by
    apply Int32.toInt_inj.mp
    rw [c_mask _ 255 8 (by decide) (by decide)]
    obtain ⟨h1, h2⟩ := h
    have e2 : ((2 ^ 8 : Nat) : Int) = 256 := rfl
    rw [e2]
    omega
  rw [← e]; exact i2c_mask x
theorem own_ch.at {n : Nat} {y : Nat → Int32} (h : own_ch n y) {i : Nat} (hi : i < n) : own_c1 (y i) := h i hi
/-- the last place below n (and one) that holds c, or 0 -/
def own_ls (y : Nat → Int32) (c : Int32) : Nat → Nat
  | 0 => 0
  | n + 1 => if y n = c then n + 1 else own_ls y c n
theorem own_ls_le (y : Nat → Int32) (c : Int32) (n : Nat) : own_ls y c n ≤ n := by
  induction n with
  | zero => exact Nat.le_refl _
  | succ n ih =>
    by_cases h : y n = c
    · simp [own_ls, h]
    · simp only [own_ls, h, if_false]; omega
theorem own_ls_none {y : Nat → Int32} {c : Int32} : ∀ {n : Nat}, (∀ q, q < n → y q ≠ c) → own_ls y c n = 0
  | 0, _ => rfl
  | n + 1, h => by
    simp only [own_ls, h n (by omega), if_false]
    exact own_ls_none fun q hq => h q (by omega)
theorem own_ls_at {y : Nat → Int32} {c : Int32} {k : Nat} (e : y k = c) : ∀ {n : Nat}, k < n → (∀ q, k + 1 ≤ q → q < n → y q ≠ c) → own_ls y c n = k + 1
  | 0, h, _ => by omega
  | n + 1, h, hn => by
    by_cases u : k = n
    · subst u; simp [own_ls, e]
    · simp only [own_ls, hn n (by omega) (by omega), if_false]
      exact own_ls_at e (by omega) fun q h1 h2 => hn q h1 (by omega)
/-- the first place below n that holds c, or n -/
def own_fN (y : Nat → Int32) (c : Int32) : Nat → Nat
  | 0 => 0
  | n + 1 => if own_fN y c n < n then own_fN y c n else if y n = c then n else n + 1
theorem own_fN_spec (y : Nat → Int32) (c : Int32) (n : Nat) : own_fN y c n ≤ n ∧ (own_fN y c n < n → y (own_fN y c n) = c) ∧ ∀ q, q < own_fN y c n → y q ≠ c := by
  induction n with
  | zero => exact ⟨Nat.le_refl _, fun h => absurd h (by simp [own_fN]), fun q h => absurd h (by simp [own_fN])⟩
  | succ n ih =>
    obtain ⟨h1, h2, h3⟩ := ih
    by_cases u : own_fN y c n < n
    · have e : own_fN y c (n + 1) = own_fN y c n := by simp [own_fN, u]
      rw [e]; exact ⟨by omega, fun _ => h2 u, h3⟩
    · have e0 : own_fN y c n = n := by omega
      rw [e0] at h3
      by_cases v : y n = c
      · have e : own_fN y c (n + 1) = n := by simp [own_fN, u, v]
        rw [e]; exact ⟨by omega, fun _ => v, h3⟩
      · have e : own_fN y c (n + 1) = n + 1 := by simp [own_fN, u, v]
        rw [e]
        refine ⟨Nat.le_refl _, fun h => absurd h (by omega), fun q hq => ?_⟩
        by_cases w : q = n
        · rw [w]; exact v
        · exact h3 q (by omega)
theorem own_fN_le (y : Nat → Int32) (c : Int32) (n : Nat) : own_fN y c n ≤ n := (own_fN_spec y c n).1
theorem own_fN_eq {y : Nat → Int32} {c : Int32} {n j : Nat} (hj : j ≤ n) (h1 : j < n → y j = c) (h2 : ∀ q, q < j → y q ≠ c) : own_fN y c n = j := by
  obtain ⟨a1, a2, a3⟩ := own_fN_spec y c n
  by_cases u : own_fN y c n < j
  · exact absurd (a2 (by omega)) (h2 _ u)
  · by_cases v : j < own_fN y c n
    · exact absurd (h1 (by omega)) (a3 _ v)
    · omega
theorem own_fN_congr {y z : Nat → Int32} {c : Int32} {n : Nat} (h : ∀ q, q < n → y q = z q) : own_fN y c n = own_fN z c n := by
  obtain ⟨a1, a2, a3⟩ := own_fN_spec z c n
  refine own_fN_eq a1 (fun q => ?_) (fun q hq => ?_)
  · rw [h _ q]; exact a2 q
  · rw [h q (by omega)]; exact a3 q hq
def own_ix (y : Nat → Int32) (c : Int32) (n : Nat) : Int32 := if own_fN y c n < n then Int32.ofNat (own_fN y c n) else (-1 : Int32)
theorem own_ix_at {y : Nat → Int32} {c : Int32} {n i : Nat} (hi : i < n) (h1 : y i = c) (h2 : ∀ q, q < i → y q ≠ c) : own_ix y c n = Int32.ofNat i := by
  have e := own_fN_eq (n := n) (Nat.le_of_lt hi) (fun _ => h1) h2
  simp [own_ix, e, hi]
theorem own_ix_no {y : Nat → Int32} {c : Int32} {n : Nat} (h2 : ∀ q, q < n → y q ≠ c) : own_ix y c n = (-1 : Int32) := by
  have e := own_fN_eq (n := n) (Nat.le_refl _) (fun h => absurd h (Nat.lt_irrefl _)) h2
  simp [own_ix, e]
theorem own_ix_neg {y : Nat → Int32} {c : Int32} {n : Nat} (hn : n < 2 ^ 31) (h : own_ix y c n < (0 : Int32)) : own_fN y c n = n := by
  have l := own_fN_le y c n
  by_cases u : own_fN y c n < n
  · simp only [own_ix, u, if_true] at h
    exact absurd h (own_nneg (by omega))
  · omega
theorem own_ix_pos {y : Nat → Int32} {c : Int32} {n : Nat} (h : ¬ own_ix y c n < (0 : Int32)) : own_ix y c n = Int32.ofNat (own_fN y c n) := by
  by_cases u : own_fN y c n < n
  · simp [own_ix, u]
  · simp only [own_ix, u, if_false] at h
    exact absurd (by decide : (-1 : Int32) < (0 : Int32)) h
/-- one behind the first place of c, or 0 -/
def own_kc (y : Nat → Int32) (c : Int32) (n : Nat) : Nat := if own_fN y c n < n then own_fN y c n + 1 else 0
theorem own_kc_le (y : Nat → Int32) (c : Int32) (n : Nat) : own_kc y c n ≤ n := by
  unfold own_kc
  by_cases u : own_fN y c n < n
  · simp only [u, if_true]; omega
  · simp [u]
theorem own_ix_kc (y : Nat → Int32) (c : Int32) (n : Nat) : own_ix y c n + (1 : Int32) = Int32.ofNat (own_kc y c n) := by
  by_cases u : own_fN y c n < n
  · simp only [own_ix, own_kc, u, if_true]; exact own_one _
  · simp only [own_ix, own_kc, u, if_false]; decide
theorem own_EW {a0 : Array Value} {Z : State} (hw : ∀ d ∈ tables_1, d.before a0 Z = true) : EW Z a0 consts_1 := EW.cons (hw _ (List.mem_of_getElem? (i := 21) rfl)) (by decide) (EW.cons (hw _ (List.mem_of_getElem? (i := 130) rfl)) (by decide) (EW.nil))
def own_t0 (q : Nat) : Int32 := ([] : List Int32).getD q 0
theorem own_t0_ok : ((∀ c ∈ ("" : String).toList, c.toNat < 256) ∧ ("" : String).toList.map (fun c => Value.int (Jvm.Lit.byteI c.toNat.toUInt16)) = ([] : List Value)) ∧ ∀ j, j < 0 → ([] : List Value).getD j (.int 0) = .int ((own_t0 j).toInt8.toInt32) := ⟨⟨by decide, rfl⟩, fun j hj => absurd hj (Nat.not_lt_zero j)⟩
theorem own_c47 : own_c1 (47 : Int32) := ⟨by decide, by decide⟩
theorem own_c58 : own_c1 (58 : Int32) := ⟨by decide, by decide⟩
theorem own_c61 : own_c1 (61 : Int32) := ⟨by decide, by decide⟩
theorem own_c1i {x : Int32} (h : own_c1 x) : own_c1 x.toUInt32.toUInt16.toUInt32.toInt32 := by rw [own_i2c h]; exact h
theorem own_lat (x : Int32) : own_c1 (nar .char ((x &&& (255 : Int32)).toUInt32.toUInt16.toUInt32.toInt32)) := by
  have h := c_and x (255 : Int32) (by decide)
  have e : (255 : Int32).toInt = 255 := by decide
  rw [e] at h
  have h1 : own_c1 (x &&& (255 : Int32)) := h
  rw [i2c_mask]
  exact own_c1i h1
theorem own_len (x : Int32) : ∃ k : Nat, k ≤ 5 ∧ (x &&& (7 : Int32)) % (6 : Int32) = Int32.ofNat k := by
  have h := c_and x (7 : Int32) (by decide)
  have e : (7 : Int32).toInt = 7 := by decide
  rw [e] at h
  generalize x &&& (7 : Int32) = z at h
  obtain ⟨j, hj, ej⟩ : ∃ j : Nat, j ≤ 7 ∧ z = Int32.ofNat j := by
    refine ⟨z.toInt.toNat, by omega, ?_⟩
    apply Int32.toInt_inj.mp
    rw [oTo (by omega)]
    omega
  subst ej
  rcases (show j = 0 ∨ j = 1 ∨ j = 2 ∨ j = 3 ∨ j = 4 ∨ j = 5 ∨ j = 6 ∨ j = 7 by omega) with rfl | rfl | rfl | rfl | rfl | rfl | rfl | rfl
  · exact ⟨0, by decide, by decide⟩
  · exact ⟨1, by decide, by decide⟩
  · exact ⟨2, by decide, by decide⟩
  · exact ⟨3, by decide, by decide⟩
  · exact ⟨4, by decide, by decide⟩
  · exact ⟨5, by decide, by decide⟩
  · exact ⟨0, by decide, by decide⟩
  · exact ⟨1, by decide, by decide⟩
theorem own_st_ge {y : Nat → Int32} {c : Int32} {j k : Nat} (h : k ≤ j) : own_ls y c (min (j + 1) k) = own_ls y c (min j k) := by rw [Nat.min_eq_right h, Nat.min_eq_right (by omega)]
theorem own_st_no {y : Nat → Int32} {c : Int32} {j k : Nat} (h : j < k) (e : ¬ y j = c) : own_ls y c (min (j + 1) k) = own_ls y c (min j k) := by
  rw [Nat.min_eq_left h, Nat.min_eq_left (Nat.le_of_lt h)]
  simp [own_ls, e]
theorem own_st_yes {y : Nat → Int32} {c : Int32} {j k : Nat} (h : j < k) (e : y j = c) : Int32.ofNat j = Int32.ofNat (own_ls y c (min (j + 1) k)) - (1 : Int32) := by
  rw [Nat.min_eq_left h]
  simp only [own_ls, e, if_true]
  exact (own_pred j).symm
def own_fF (y : Nat → Int32) (c : Int32) (i k : Nat) : Nat := i + own_fN (fun q => y (i + q)) c (k - i)
theorem own_fF_ge (y : Nat → Int32) (c : Int32) (i k : Nat) : i ≤ own_fF y c i k := Nat.le_add_right _ _
theorem own_fF_le {y : Nat → Int32} {c : Int32} {i k : Nat} (h : i ≤ k) : own_fF y c i k ≤ k := by
  have := own_fN_le (fun q => y (i + q)) c (k - i)
  unfold own_fF
  omega
theorem own_fF_at {y : Nat → Int32} {c : Int32} {i k j : Nat} (h1 : i ≤ j) (h2 : j < k) (e : y j = c) (hh : ∀ q, i ≤ q → q < j → y q ≠ c) : own_fF y c i k = j := by
  have := own_fN_eq (y := fun q => y (i + q)) (c := c) (n := k - i) (j := j - i) (by omega) (fun _ => by show y (i + (j - i)) = c; rw [show i + (j - i) = j by omega]; exact e) (fun q hq => hh _ (by omega) (by omega))
  unfold own_fF
  rw [this]; omega
theorem own_fF_none {y : Nat → Int32} {c : Int32} {i k : Nat} (h1 : i ≤ k) (hh : ∀ q, i ≤ q → q < k → y q ≠ c) : own_fF y c i k = k := by
  have := own_fN_eq (y := fun q => y (i + q)) (c := c) (n := k - i) (j := k - i) (Nat.le_refl _) (fun q => absurd q (Nat.lt_irrefl _)) (fun q hq => hh _ (by omega) (by omega))
  unfold own_fF
  rw [this]; omega
def own_m (y : Nat → Int32) (n : Nat) : Nat := own_fN (fun q => y (own_ls y (47 : Int32) n + q)) (61 : Int32) (n - own_ls y (47 : Int32) n)
def own_k (y : Nat → Int32) (n : Nat) : Nat := own_kc (fun q => y (own_ls y (47 : Int32) n + q)) (58 : Int32) (own_m y n)
def own_no (y : Nat → Int32) (n : Nat) : Nat := own_ls y (47 : Int32) n + own_k y n
def own_nl (y : Nat → Int32) (n : Nat) : Nat := own_m y n - own_k y n
theorem own_kc_congr {y z : Nat → Int32} {c : Int32} {n : Nat} (h : ∀ q, q < n → y q = z q) : own_kc y c n = own_kc z c n := by
  unfold own_kc
  rw [own_fN_congr h]
theorem own_kk (y : Nat → Int32) (n : Nat) : own_k y n ≤ own_m y n := own_kc_le _ _ _
theorem own_mm (y : Nat → Int32) (n : Nat) : own_ls y (47 : Int32) n + own_m y n ≤ n := by
  have h1 := own_fN_le (fun q => y (own_ls y (47 : Int32) n + q)) (61 : Int32) (n - own_ls y (47 : Int32) n)
  have h2 := own_ls_le y (47 : Int32) n
  unfold own_m
  omega
theorem own_sum (y : Nat → Int32) (n : Nat) : own_no y n + own_nl y n ≤ n := by
  have h1 := own_kk y n
  have h2 := own_mm y n
  unfold own_no own_nl
  omega
theorem own_en (y : Nat → Int32) (n : Nat) : own_fF y (61 : Int32) (own_ls y (47 : Int32) n) n = own_ls y (47 : Int32) n + own_m y n := rfl
theorem own_rl (y : Nat → Int32) (n : Nat) : own_no y n ≤ own_fF y (61 : Int32) (own_ls y (47 : Int32) n) n ∧ own_fF y (61 : Int32) (own_ls y (47 : Int32) n) n - own_no y n = own_nl y n := by
  have h1 := own_kk y n
  rw [own_en]
  unfold own_no own_nl
  omega
theorem own_kF (y : Nat → Int32) (n : Nat) : own_fF y (58 : Int32) (own_ls y (47 : Int32) n) (own_fF y (61 : Int32) (own_ls y (47 : Int32) n) n) = own_ls y (47 : Int32) n + own_fN (fun q => y (own_ls y (47 : Int32) n + q)) (58 : Int32) (own_m y n) := by
  rw [own_en]
  unfold own_fF
  rw [Nat.add_sub_cancel_left]
theorem own_s2y {y : Nat → Int32} {n : Nat} (h : own_fF y (58 : Int32) (own_ls y (47 : Int32) n) (own_fF y (61 : Int32) (own_ls y (47 : Int32) n) n) < own_fF y (61 : Int32) (own_ls y (47 : Int32) n) n) : own_fF y (58 : Int32) (own_ls y (47 : Int32) n) (own_fF y (61 : Int32) (own_ls y (47 : Int32) n) n) + 1 = own_no y n := by
  rw [own_kF, own_en] at h
  rw [own_kF]
  have u : own_fN (fun q => y (own_ls y (47 : Int32) n + q)) (58 : Int32) (own_m y n) < own_m y n := by omega
  unfold own_no own_k own_kc
  simp only [u, if_true]
  omega
theorem own_s2n {y : Nat → Int32} {n : Nat} (h : ¬ own_fF y (58 : Int32) (own_ls y (47 : Int32) n) (own_fF y (61 : Int32) (own_ls y (47 : Int32) n) n) < own_fF y (61 : Int32) (own_ls y (47 : Int32) n) n) : own_ls y (47 : Int32) n = own_no y n := by
  rw [own_kF, own_en] at h
  have u : ¬ own_fN (fun q => y (own_ls y (47 : Int32) n + q)) (58 : Int32) (own_m y n) < own_m y n := by omega
  unfold own_no own_k own_kc
  simp only [u, if_false]
  rfl
theorem pn_0 : plainName "java/lang/StringUTF16" = true := by first | (simp [plainName, overriddenIn]; done) | decide +kernel
theorem pd_0 : parseMethodDescriptor "(I)C" = some ⟨[.int], some .char⟩ := by decide +kernel
theorem pd_1 : parseMethodDescriptor "([CI)Ljava/lang/String;" = some ⟨[(.array .char), .int], some (.object "java/lang/String")⟩ := by decide +kernel
theorem pd_2 : parseMethodDescriptor "([C)V" = some ⟨[(.array .char)], none⟩ := by decide +kernel
theorem pd_3 : parseMethodDescriptor "([CIILjava/lang/Void;)V" = some ⟨[(.array .char), .int, .int, (.object "java/lang/Void")], none⟩ := by decide +kernel
theorem pd_4 : parseMethodDescriptor "()V" = some ⟨[], none⟩ := by decide +kernel
theorem pd_5 : parseMethodDescriptor "(Ljava/lang/String;)Ljava/lang/String;" = some ⟨[(.object "java/lang/String")], some (.object "java/lang/String")⟩ := by decide +kernel
theorem pd_6 : parseMethodDescriptor "(I)I" = some ⟨[.int], some .int⟩ := by decide +kernel
theorem pd_7 : parseMethodDescriptor "()I" = some ⟨[], some .int⟩ := by decide +kernel
theorem pd_8 : parseMethodDescriptor "()B" = some ⟨[], some .byte⟩ := by decide +kernel
theorem pd_9 : parseMethodDescriptor "(II)I" = some ⟨[.int, .int], some .int⟩ := by decide +kernel
theorem pd_10 : parseMethodDescriptor "()Z" = some ⟨[], some .boolean⟩ := by decide +kernel
theorem pd_11 : parseMethodDescriptor "([BII)I" = some ⟨[(.array .byte), .int, .int], some .int⟩ := by decide +kernel
theorem pd_12 : parseMethodDescriptor "(I)Z" = some ⟨[.int], some .boolean⟩ := by decide +kernel
theorem pd_13 : parseMethodDescriptor "(I)Ljava/lang/String;" = some ⟨[.int], some (.object "java/lang/String")⟩ := by decide +kernel
theorem pd_14 : parseMethodDescriptor "(II)Ljava/lang/String;" = some ⟨[.int, .int], some (.object "java/lang/String")⟩ := by decide +kernel
theorem pd_15 : parseMethodDescriptor "(III)V" = some ⟨[.int, .int, .int], none⟩ := by decide +kernel
theorem pd_16 : parseMethodDescriptor "(IIILjava/util/function/BiFunction;)I" = some ⟨[.int, .int, .int, (.object "java/util/function/BiFunction")], some .int⟩ := by decide +kernel
theorem pd_17 : parseMethodDescriptor "([BIII)I" = some ⟨[(.array .byte), .int, .int, .int], some .int⟩ := by decide +kernel
theorem pd_18 : parseMethodDescriptor "([CI)I" = some ⟨[(.array .char), .int], some .int⟩ := by decide +kernel
theorem pd_19 : parseMethodDescriptor "([CCII)I" = some ⟨[(.array .char), .char, .int, .int], some .int⟩ := by decide +kernel
theorem pd_20 : parseMethodDescriptor "(Ljava/lang/String;I[CII)Z" = some ⟨[(.object "java/lang/String"), .int, (.array .char), .int, .int], some .boolean⟩ := by decide +kernel
theorem pd_21 : parseMethodDescriptor "([CII)[B" = some ⟨[(.array .char), .int, .int], some (.array .byte)⟩ := by decide +kernel
theorem pd_22 : parseMethodDescriptor "([CI[BII)I" = some ⟨[(.array .char), .int, (.array .byte), .int, .int], some .int⟩ := by decide +kernel
theorem pd_23 : parseMethodDescriptor "([BI)B" = some ⟨[(.array .byte), .int], some .byte⟩ := by decide +kernel
theorem pd_24 : parseMethodDescriptor "([BII)Ljava/lang/String;" = some ⟨[(.array .byte), .int, .int], some (.object "java/lang/String")⟩ := by decide +kernel
theorem pd_25 : parseMethodDescriptor "([BII)[B" = some ⟨[(.array .byte), .int, .int], some (.array .byte)⟩ := by decide +kernel
theorem pd_26 : parseMethodDescriptor "(II)V" = some ⟨[.int, .int], none⟩ := by decide +kernel
theorem pd_27 : parseMethodDescriptor "(Ljava/lang/Object;ILjava/lang/Object;II)V" = some ⟨[(.object "java/lang/Object"), .int, (.object "java/lang/Object"), .int, .int], none⟩ := by decide +kernel
theorem pd_28 : parseMethodDescriptor "([BB)V" = some ⟨[(.array .byte), .byte], none⟩ := by decide +kernel
theorem pd_29 : parseMethodDescriptor "([BI)C" = some ⟨[(.array .byte), .int], some .char⟩ := by decide +kernel
theorem pd_30 : parseMethodDescriptor "(IILjava/util/function/BiFunction;)I" = some ⟨[.int, .int, (.object "java/util/function/BiFunction")], some .int⟩ := by decide +kernel
theorem ef_rmC5 (m : MethodId) (a1 : Addr) (a3 : Addr) : entryFrame m #[(.ref a1), (.int (0 : Int32)), (.ref a3), (.int (0 : Int32)), (.int (Int32.ofNat n))] 7 = mkF m 0 #[.val (.ref a1), .val (.int (0 : Int32)), .val (.ref a3), .val (.int (0 : Int32)), .val (.int (Int32.ofNat n)), .unset, .unset] [] := by first | (simp [entryFrame, mkF, argsToLocals, Value.category]; done) | rfl
def Q_rmC5 (Z : State) (a1 : Addr) (a3 : Addr) (n : Nat) (y : Nat → Int32) (z : Nat → Int32) (h0 : Heap) (n0 : Nat) (vv_ : Option Value) (h : Heap) (LL_ : List Loc) : Prop := vv_ = some (.int (Int32.ofNat n)) ∧ Fr n0 LL_ ∧ (Keep h0 h [a3] ∧ Av Z h a3 .byte n (fun q => .int ((y q).toInt8.toInt32)))
theorem d_jdk_52_method_21_code_0 : decode jdk_52_method_21_code 0 = .ok (.iconst 0, 1) := by decide +kernel
theorem d_jdk_52_method_21_code_1 : decode jdk_52_method_21_code 1 = .ok (.istore 5, 2) := by decide +kernel
theorem d_jdk_52_method_21_code_3 : decode jdk_52_method_21_code 3 = .ok (.iload 5, 2) := by decide +kernel
theorem d_jdk_52_method_21_code_5 : decode jdk_52_method_21_code 5 = .ok (.iload 4, 2) := by decide +kernel
theorem d_jdk_52_method_21_code_7 : decode jdk_52_method_21_code 7 = .ok (.if_icmp .ge 37, 3) := by decide +kernel
theorem d_jdk_52_method_21_code_10 : decode jdk_52_method_21_code 10 = .ok (.aload_n 0, 1) := by decide +kernel
theorem d_jdk_52_method_21_code_11 : decode jdk_52_method_21_code 11 = .ok (.iload_n 1, 1) := by decide +kernel
theorem d_jdk_52_method_21_code_12 : decode jdk_52_method_21_code 12 = .ok (.caload, 1) := by decide +kernel
theorem d_jdk_52_method_21_code_13 : decode jdk_52_method_21_code 13 = .ok (.istore 6, 2) := by decide +kernel
theorem d_jdk_52_method_21_code_15 : decode jdk_52_method_21_code 15 = .ok (.iload 6, 2) := by decide +kernel
theorem d_jdk_52_method_21_code_17 : decode jdk_52_method_21_code 17 = .ok (.sipush 255, 3) := by decide +kernel
theorem d_jdk_52_method_21_code_20 : decode jdk_52_method_21_code 20 = .ok (.if_icmp .le 6, 3) := by decide +kernel
theorem d_jdk_52_method_21_code_26 : decode jdk_52_method_21_code 26 = .ok (.aload_n 2, 1) := by decide +kernel
theorem d_jdk_52_method_21_code_27 : decode jdk_52_method_21_code 27 = .ok (.iload_n 3, 1) := by decide +kernel
theorem d_jdk_52_method_21_code_28 : decode jdk_52_method_21_code 28 = .ok (.iload 6, 2) := by decide +kernel
theorem d_jdk_52_method_21_code_30 : decode jdk_52_method_21_code 30 = .ok (.i2b, 1) := by decide +kernel
theorem d_jdk_52_method_21_code_31 : decode jdk_52_method_21_code 31 = .ok (.bastore, 1) := by decide +kernel
theorem d_jdk_52_method_21_code_32 : decode jdk_52_method_21_code 32 = .ok (.iinc 1 1, 3) := by decide +kernel
theorem d_jdk_52_method_21_code_35 : decode jdk_52_method_21_code 35 = .ok (.iinc 3 1, 3) := by decide +kernel
theorem d_jdk_52_method_21_code_38 : decode jdk_52_method_21_code 38 = .ok (.iinc 5 1, 3) := by decide +kernel
theorem d_jdk_52_method_21_code_41 : decode jdk_52_method_21_code 41 = .ok (.goto (-38), 3) := by decide +kernel
theorem d_jdk_52_method_21_code_44 : decode jdk_52_method_21_code 44 = .ok (.iload 4, 2) := by decide +kernel
theorem d_jdk_52_method_21_code_46 : decode jdk_52_method_21_code 46 = .ok (.ireturn, 1) := by decide +kernel
set_option maxRecDepth 65536 in
set_option maxHeartbeats 40000000 in
theorem rmC5 (l : Launch) (Z : State) (a0 : Array Value) (hw : ∀ d ∈ tables_1, d.before a0 Z = true) (ws : List Jvm.Cond) (a1 : Addr) (a3 : Addr) (n : Nat) (y : Nat → Int32) (z : Nat → Int32) (h0 : Heap) (n0 : Nat) (Z0 : n0 ≤ h0.size) (V1 : Av Z h0 a1 .char n (fun q => .int (y q))) (V2 : Av Z h0 a3 .byte n (fun q => .int (z q))) (g1 : n0 ≤ a3) (n1 : a1 ≠ a3) (hn : n ≤ 5) (hy : own_ch n y) :
    MetFree l (⟨"java/lang/StringUTF16", "compress", "([CI[BII)I"⟩ : MethodName) (head1 (Jvm.Cond.code (⟨"java/lang/StringUTF16", "compress", "([CI[BII)I"⟩ : MethodName) jdk_52_method_21_code 7 (some .int) :: ws) ({ frames := 0, cells := 0, slots := 0, locals := 0 } : Room)) (fun aa_ UU_ => aa_ = #[(.ref a1), (.int (0 : Int32)), (.ref a3), (.int (0 : Int32)), (.int (Int32.ofNat n))] ∧ Z.Warmed39 UU_.vm ∧ UU_.heap = h0) (fun _ _ _ _ _ => True) (fun _ UU_ oo_ VV_ => ∃ vv_ LL_, oo_ = .returned vv_ ∧ Q_rmC5 Z a1 a3 n y z h0 n0 vv_ VV_.heap LL_ ∧ FrameEnd UU_ oo_ VV_ LL_ ({ frames := 0, cells := 0, slots := 0, locals := 0 } : Room).cells ({ frames := 0, cells := 0, slots := 0, locals := 0 } : Room).slots) := by
  refine own_met (y := (⟨"java/lang/StringUTF16", "compress", "([CI[BII)I"⟩ : MethodName)) (plainFor_of_name pn_0) ?_
  intro p e s m below meth c T0 K hx hby hml hret hlk hown hnm hZ X0 e0 hK
  have N0 := Fr.nil n0
  refine Rch.cast (ef_rmC5 m a1 a3) ?_
  have loop : ∀ (k i : Nat) (hk : i + k = n) (T : State) (h : Heap) (locs : List Loc) (X : Stand p l e ({ frames := 0, cells := 0, slots := 0, locals := 0 } : Room) s m #[(.ref a1), (.int (0 : Int32)), (.ref a3), (.int (0 : Int32)), (.int (Int32.ofNat n))] below meth c T locs 0 0) (eT : T.heap = h) (N : Fr n0 locs) (Zh : n0 ≤ h.size) (Kh : Keep h0 h [a3]) (V : Av Z h a3 .byte n (fun q => .int (if q < i then (y q).toInt8.toInt32 else z q))) (s6 : Slot) (hs6 : One s6), Rch p e below K T (mkF m 3 #[.val (.ref a1), .val (.int (Int32.ofNat i)), .val (.ref a3), .val (.int (Int32.ofNat i)), .val (.int (Int32.ofNat n)), .val (.int (Int32.ofNat i)), s6] []) := by
    intro k
    induction k with
    | zero =>
      intro i hk T h locs X eT N Zh Kh V s6 hs6
      have hin : ¬ i < n := by omega
      refine Rch.of (T' := T) (g' := (mkF m 5 #[.val (.ref a1), .val (.int (Int32.ofNat i)), .val (.ref a3), .val (.int (Int32.ofNat i)), .val (.int (Int32.ofNat n)), .val (.int (Int32.ofNat i)), s6] [(.int (Int32.ofNat i))])) (fun _ kt => XS.iload X.here hx rfl (hb hby d_jdk_52_method_21_code_3) rfl  kt) ?_
      refine Rch.of (T' := T) (g' := (mkF m 7 #[.val (.ref a1), .val (.int (Int32.ofNat i)), .val (.ref a3), .val (.int (Int32.ofNat i)), .val (.int (Int32.ofNat n)), .val (.int (Int32.ofNat i)), s6] [(.int (Int32.ofNat n)), (.int (Int32.ofNat i))])) (fun _ kt => XS.iload X.here hx rfl (hb hby d_jdk_52_method_21_code_5) rfl  kt) ?_
      refine Rch.of (T' := T) (g' := (mkF m 44 #[.val (.ref a1), .val (.int (Int32.ofNat i)), .val (.ref a3), .val (.int (Int32.ofNat i)), .val (.int (Int32.ofNat n)), .val (.int (Int32.ofNat i)), s6] [])) (fun _ kt => XS.icmpYes X.here hx rfl (pc0 := 7) (pc' := 44) rfl (hb hby d_jdk_52_method_21_code_7) rfl (flt (fun q => hin ((own_olt2 (by omega) (by omega)).mp q))).2.1 (by decide) (by decide) kt) ?_
      refine Rch.of (T' := T) (g' := (mkF m 46 #[.val (.ref a1), .val (.int (Int32.ofNat i)), .val (.ref a3), .val (.int (Int32.ofNat i)), .val (.int (Int32.ofNat n)), .val (.int (Int32.ofNat i)), s6] [(.int (Int32.ofNat n))])) (fun _ kt => XS.iload X.here hx rfl (hb hby d_jdk_52_method_21_code_44) rfl  kt) ?_
      exact Rch.retI X hx hret hlk (hb hby d_jdk_52_method_21_code_46) (fun U hU hF => hK _ U _ _ _ (by show Q_rmC5 Z a1 a3 n y z h0 n0 _ U.heap _; rw [hU, eT]; exact ⟨rfl, N, Kh, V.congr (fun j hj => by simp [show j < i by omega])⟩) hF (by decide) (by decide))
    | succ k ih =>
      intro i hk T h locs X eT N Zh Kh V s6 hs6
      have hin : i < n := by omega
      refine Rch.of (T' := T) (g' := (mkF m 5 #[.val (.ref a1), .val (.int (Int32.ofNat i)), .val (.ref a3), .val (.int (Int32.ofNat i)), .val (.int (Int32.ofNat n)), .val (.int (Int32.ofNat i)), s6] [(.int (Int32.ofNat i))])) (fun _ kt => XS.iload X.here hx rfl (hb hby d_jdk_52_method_21_code_3) rfl  kt) ?_
      refine Rch.of (T' := T) (g' := (mkF m 7 #[.val (.ref a1), .val (.int (Int32.ofNat i)), .val (.ref a3), .val (.int (Int32.ofNat i)), .val (.int (Int32.ofNat n)), .val (.int (Int32.ofNat i)), s6] [(.int (Int32.ofNat n)), (.int (Int32.ofNat i))])) (fun _ kt => XS.iload X.here hx rfl (hb hby d_jdk_52_method_21_code_5) rfl  kt) ?_
      refine Rch.of (T' := T) (g' := (mkF m 10 #[.val (.ref a1), .val (.int (Int32.ofNat i)), .val (.ref a3), .val (.int (Int32.ofNat i)), .val (.int (Int32.ofNat n)), .val (.int (Int32.ofNat i)), s6] [])) (fun _ kt => XS.icmpNo X.here hx rfl (hb hby d_jdk_52_method_21_code_7) rfl (tlt ((own_olt2 (by omega) (by omega)).mpr hin)).2.1 kt) ?_
      refine Rch.of (T' := T) (g' := (mkF m 11 #[.val (.ref a1), .val (.int (Int32.ofNat i)), .val (.ref a3), .val (.int (Int32.ofNat i)), .val (.int (Int32.ofNat n)), .val (.int (Int32.ofNat i)), s6] [(.ref a1)])) (fun _ kt => XS.aloadN X.here hx rfl (hb hby d_jdk_52_method_21_code_10) rfl rfl kt) ?_
      refine Rch.of (T' := T) (g' := (mkF m 12 #[.val (.ref a1), .val (.int (Int32.ofNat i)), .val (.ref a3), .val (.int (Int32.ofNat i)), .val (.int (Int32.ofNat n)), .val (.int (Int32.ofNat i)), s6] [(.int (Int32.ofNat i)), (.ref a1)])) (fun _ kt => XS.iloadN X.here hx rfl (hb hby d_jdk_52_method_21_code_11) rfl  kt) ?_
      obtain ⟨cl101, Ar101, Sz101, Ha101⟩ := id (Av.keep V1 Kh (ninS n1 nin0))
      refine Rch.of (T' := T) (g' := (mkF m 13 #[.val (.ref a1), .val (.int (Int32.ofNat i)), .val (.ref a3), .val (.int (Int32.ofNat i)), .val (.int (Int32.ofNat n)), .val (.int (Int32.ofNat i)), s6] [(.int (y i))])) (X.caload hx (j := (Int32.ofNat i)) (v := (.int (y i))) (by rw [eT]; exact Ar101.1) (State.isArrayOf_alike hZ.alike Ar101.2.1) Ar101.2.2 (oIn (i := i) Sz101 (oTo (by omega)) hin) (oAt (i := i) Ha101 (oTo (by omega)) hin) (g := (mkF m 12 #[.val (.ref a1), .val (.int (Int32.ofNat i)), .val (.ref a3), .val (.int (Int32.ofNat i)), .val (.int (Int32.ofNat n)), .val (.int (Int32.ofNat i)), s6] [(.int (Int32.ofNat i)), (.ref a1)])) rfl rfl (hb hby d_jdk_52_method_21_code_12)) ?_
      refine Rch.of (T' := T) (g' := (mkF m 15 #[.val (.ref a1), .val (.int (Int32.ofNat i)), .val (.ref a3), .val (.int (Int32.ofNat i)), .val (.int (Int32.ofNat n)), .val (.int (Int32.ofNat i)), .val (.int (y i))] [])) (fun _ kt => XS.istore X.here hx rfl (hb hby d_jdk_52_method_21_code_13) rfl (l' := #[.val (.ref a1), .val (.int (Int32.ofNat i)), .val (.ref a3), .val (.int (Int32.ofNat i)), .val (.int (Int32.ofNat n)), .val (.int (Int32.ofNat i)), .val (.int (y i))]) (by rcases hs6 with rfl | ⟨w', rfl, hw'⟩ <;> first | rfl | (cases w' <;> first | rfl | (simp [Value.category] at hw'))) kt) ?_
      refine Rch.of (T' := T) (g' := (mkF m 17 #[.val (.ref a1), .val (.int (Int32.ofNat i)), .val (.ref a3), .val (.int (Int32.ofNat i)), .val (.int (Int32.ofNat n)), .val (.int (Int32.ofNat i)), .val (.int (y i))] [(.int (y i))])) (fun _ kt => XS.iload X.here hx rfl (hb hby d_jdk_52_method_21_code_15) rfl  kt) ?_
      refine Rch.of (T' := T) (g' := (mkF m 20 #[.val (.ref a1), .val (.int (Int32.ofNat i)), .val (.ref a3), .val (.int (Int32.ofNat i)), .val (.int (Int32.ofNat n)), .val (.int (Int32.ofNat i)), .val (.int (y i))] [(.int (255 : Int32)), (.int (y i))])) (fun _ kt => XS.sipush X.here hx rfl (hb hby d_jdk_52_method_21_code_17) kt) ?_
      refine Rch.of (T' := T) (g' := (mkF m 26 #[.val (.ref a1), .val (.int (Int32.ofNat i)), .val (.ref a3), .val (.int (Int32.ofNat i)), .val (.int (Int32.ofNat n)), .val (.int (Int32.ofNat i)), .val (.int (y i))] [])) (fun _ kt => XS.icmpYes X.here hx rfl (pc0 := 20) (pc' := 26) rfl (hb hby d_jdk_52_method_21_code_20) rfl (flt (own_le255 (hy i hin).2)).2.2.2 (by decide) (by decide) kt) ?_
      refine Rch.of (T' := T) (g' := (mkF m 27 #[.val (.ref a1), .val (.int (Int32.ofNat i)), .val (.ref a3), .val (.int (Int32.ofNat i)), .val (.int (Int32.ofNat n)), .val (.int (Int32.ofNat i)), .val (.int (y i))] [(.ref a3)])) (fun _ kt => XS.aloadN X.here hx rfl (hb hby d_jdk_52_method_21_code_26) rfl rfl kt) ?_
      refine Rch.of (T' := T) (g' := (mkF m 28 #[.val (.ref a1), .val (.int (Int32.ofNat i)), .val (.ref a3), .val (.int (Int32.ofNat i)), .val (.int (Int32.ofNat n)), .val (.int (Int32.ofNat i)), .val (.int (y i))] [(.int (Int32.ofNat i)), (.ref a3)])) (fun _ kt => XS.iloadN X.here hx rfl (hb hby d_jdk_52_method_21_code_27) rfl  kt) ?_
      refine Rch.of (T' := T) (g' := (mkF m 30 #[.val (.ref a1), .val (.int (Int32.ofNat i)), .val (.ref a3), .val (.int (Int32.ofNat i)), .val (.int (Int32.ofNat n)), .val (.int (Int32.ofNat i)), .val (.int (y i))] [(.int (y i)), (.int (Int32.ofNat i)), (.ref a3)])) (fun _ kt => XS.iload X.here hx rfl (hb hby d_jdk_52_method_21_code_28) rfl  kt) ?_
      refine Rch.of (T' := T) (g' := (mkF m 31 #[.val (.ref a1), .val (.int (Int32.ofNat i)), .val (.ref a3), .val (.int (Int32.ofNat i)), .val (.int (Int32.ofNat n)), .val (.int (Int32.ofNat i)), .val (.int (y i))] [(.int ((y i).toInt8.toInt32)), (.int (Int32.ofNat i)), (.ref a3)])) (fun _ kt => XS.i2b X.here hx rfl (hb hby d_jdk_52_method_21_code_30) rfl kt) ?_
      obtain ⟨cl102, Ar102, Sz102, Ha102⟩ := id V
      obtain ⟨T102, h102, X102, e102, W102, st102⟩ := stB X hx hZ eT Ar102 (j := (Int32.ofNat i)) (oIn (i := i) Sz102 (oTo (by omega)) hin) (g := (mkF m 31 #[.val (.ref a1), .val (.int (Int32.ofNat i)), .val (.ref a3), .val (.int (Int32.ofNat i)), .val (.int (Int32.ofNat n)), .val (.int (Int32.ofNat i)), .val (.int (y i))] [(.int ((y i).toInt8.toInt32)), (.int (Int32.ofNat i)), (.ref a3)])) rfl rfl (hb hby d_jdk_52_method_21_code_31)
      have V102 := Av.setI (i := i) V (oTo (by omega)) hin W102
      obtain ⟨y102, hy102⟩ : ∃ zz_ : Nat → Int32, zz_ = fun q => if q = i then ((y i).toInt8.toInt32).toInt8.toInt32 else (fun q => if q < i then (y q).toInt8.toInt32 else z q) q := ⟨_, rfl⟩
      have V102 : Av Z h102 a3 .byte n (fun q => .int (y102 q)) := by rw [hy102]; exact V102
      have N102 := Fr.snoc X102 N g1
      refine Rch.of (T' := T102) (g' := (mkF m 32 #[.val (.ref a1), .val (.int (Int32.ofNat i)), .val (.ref a3), .val (.int (Int32.ofNat i)), .val (.int (Int32.ofNat n)), .val (.int (Int32.ofNat i)), .val (.int (y i))] [])) st102 ?_
      refine Rch.of (T' := T102) (g' := (mkF m 35 #[.val (.ref a1), .val (.int ((Int32.ofNat i) + (1 : Int32))), .val (.ref a3), .val (.int (Int32.ofNat i)), .val (.int (Int32.ofNat n)), .val (.int (Int32.ofNat i)), .val (.int (y i))] [])) (fun _ kt => XS.iinc X102.here hx rfl (hb hby d_jdk_52_method_21_code_32) rfl (l' := #[.val (.ref a1), .val (.int ((Int32.ofNat i) + (1 : Int32))), .val (.ref a3), .val (.int (Int32.ofNat i)), .val (.int (Int32.ofNat n)), .val (.int (Int32.ofNat i)), .val (.int (y i))]) rfl kt) ?_
      refine Rch.of (T' := T102) (g' := (mkF m 38 #[.val (.ref a1), .val (.int ((Int32.ofNat i) + (1 : Int32))), .val (.ref a3), .val (.int ((Int32.ofNat i) + (1 : Int32))), .val (.int (Int32.ofNat n)), .val (.int (Int32.ofNat i)), .val (.int (y i))] [])) (fun _ kt => XS.iinc X102.here hx rfl (hb hby d_jdk_52_method_21_code_35) rfl (l' := #[.val (.ref a1), .val (.int ((Int32.ofNat i) + (1 : Int32))), .val (.ref a3), .val (.int ((Int32.ofNat i) + (1 : Int32))), .val (.int (Int32.ofNat n)), .val (.int (Int32.ofNat i)), .val (.int (y i))]) rfl kt) ?_
      refine Rch.of (T' := T102) (g' := (mkF m 41 #[.val (.ref a1), .val (.int ((Int32.ofNat i) + (1 : Int32))), .val (.ref a3), .val (.int ((Int32.ofNat i) + (1 : Int32))), .val (.int (Int32.ofNat n)), .val (.int ((Int32.ofNat i) + (1 : Int32))), .val (.int (y i))] [])) (fun _ kt => XS.iinc X102.here hx rfl (hb hby d_jdk_52_method_21_code_38) rfl (l' := #[.val (.ref a1), .val (.int ((Int32.ofNat i) + (1 : Int32))), .val (.ref a3), .val (.int ((Int32.ofNat i) + (1 : Int32))), .val (.int (Int32.ofNat n)), .val (.int ((Int32.ofNat i) + (1 : Int32))), .val (.int (y i))]) rfl kt) ?_
      refine Rch.of (T' := T102) (g' := (mkF m 3 #[.val (.ref a1), .val (.int ((Int32.ofNat i) + (1 : Int32))), .val (.ref a3), .val (.int ((Int32.ofNat i) + (1 : Int32))), .val (.int (Int32.ofNat n)), .val (.int ((Int32.ofNat i) + (1 : Int32))), .val (.int (y i))] [])) (fun _ kt => XS.goto X102.here hx rfl (pc0 := 41) (pc' := 3) rfl (hb hby d_jdk_52_method_21_code_41) (by decide) (by decide) kt) ?_
      rw [own_one i]
      exact ih (i + 1) (by omega) T102 _ _ X102 e102 N102 (Nat.le_trans Zh (Keep.of_wr W102).1) (Kh.wr W102 (Or.inl (List.mem_of_getElem? (i := 0) rfl))) (Av.congr V102 (fun j hj => by rw [hy102]; exact congrArg Value.int (own_put i j _ _ (fun q => (y q).toInt8.toInt32) (fun q => by rw [q]; exact own_b8 _)))) _ (One.val rfl)
  refine Rch.of (T' := T0) (g' := (mkF m 1 #[.val (.ref a1), .val (.int (0 : Int32)), .val (.ref a3), .val (.int (0 : Int32)), .val (.int (Int32.ofNat n)), .unset, .unset] [(.int (0 : Int32))])) (fun _ kt => XS.iconst X0.here hx rfl (hb hby d_jdk_52_method_21_code_0) kt) ?_
  refine Rch.of (T' := T0) (g' := (mkF m 3 #[.val (.ref a1), .val (.int (0 : Int32)), .val (.ref a3), .val (.int (0 : Int32)), .val (.int (Int32.ofNat n)), .val (.int (0 : Int32)), .unset] [])) (fun _ kt => XS.istore X0.here hx rfl (hb hby d_jdk_52_method_21_code_1) rfl (l' := #[.val (.ref a1), .val (.int (0 : Int32)), .val (.ref a3), .val (.int (0 : Int32)), .val (.int (Int32.ofNat n)), .val (.int (0 : Int32)), .unset]) rfl kt) ?_
  exact loop n 0 (by omega) T0 _ _ X0 e0 N0 Z0 (Keep.refl h0 [a3]) (V2.congr (fun j hj => by simp)) _ One.u
theorem ef_rmC3 (m : MethodId) (a1 : Addr) : entryFrame m #[(.ref a1), (.int (0 : Int32)), (.int (Int32.ofNat n))] 6 = mkF m 0 #[.val (.ref a1), .val (.int (0 : Int32)), .val (.int (Int32.ofNat n)), .unset, .unset, .unset] [] := by first | (simp [entryFrame, mkF, argsToLocals, Value.category]; done) | rfl
def Q_rmC3 (Z : State) (a1 : Addr) (n : Nat) (y : Nat → Int32) (h0 : Heap) (n0 : Nat) (vv_ : Option Value) (h : Heap) (LL_ : List Loc) : Prop := vv_ = some (.ref h0.size) ∧ Fr n0 LL_ ∧ (Keep h0 h [] ∧ Av Z h h0.size .byte n (fun q => .int ((y q).toInt8.toInt32)))
theorem d_jdk_52_method_16_code_0 : decode jdk_52_method_16_code 0 = .ok (.iload_n 2, 1) := by decide +kernel
theorem d_jdk_52_method_16_code_1 : decode jdk_52_method_16_code 1 = .ok (.newarray .byte, 2) := by decide +kernel
theorem d_jdk_52_method_16_code_3 : decode jdk_52_method_16_code 3 = .ok (.astore_n 3, 1) := by decide +kernel
theorem d_jdk_52_method_16_code_4 : decode jdk_52_method_16_code 4 = .ok (.aload_n 0, 1) := by decide +kernel
theorem d_jdk_52_method_16_code_5 : decode jdk_52_method_16_code 5 = .ok (.iload_n 1, 1) := by decide +kernel
theorem d_jdk_52_method_16_code_6 : decode jdk_52_method_16_code 6 = .ok (.aload_n 3, 1) := by decide +kernel
theorem d_jdk_52_method_16_code_7 : decode jdk_52_method_16_code 7 = .ok (.iconst 0, 1) := by decide +kernel
theorem d_jdk_52_method_16_code_8 : decode jdk_52_method_16_code 8 = .ok (.iload_n 2, 1) := by decide +kernel
theorem d_jdk_52_method_16_code_9 : decode jdk_52_method_16_code 9 = .ok (.invokestatic 115, 3) := by decide +kernel
theorem d_jdk_52_method_16_code_12 : decode jdk_52_method_16_code 12 = .ok (.istore 4, 2) := by decide +kernel
theorem d_jdk_52_method_16_code_14 : decode jdk_52_method_16_code 14 = .ok (.iload 4, 2) := by decide +kernel
theorem d_jdk_52_method_16_code_16 : decode jdk_52_method_16_code 16 = .ok (.iload_n 2, 1) := by decide +kernel
theorem d_jdk_52_method_16_code_17 : decode jdk_52_method_16_code 17 = .ok (.if_icmp .eq 40, 3) := by decide +kernel
theorem d_jdk_52_method_16_code_57 : decode jdk_52_method_16_code 57 = .ok (.aload_n 3, 1) := by decide +kernel
theorem d_jdk_52_method_16_code_58 : decode jdk_52_method_16_code 58 = .ok (.areturn, 1) := by decide +kernel
set_option maxRecDepth 65536 in
set_option maxHeartbeats 40000000 in
theorem rmC3 (l : Launch) (Z : State) (a0 : Array Value) (hw : ∀ d ∈ tables_1, d.before a0 Z = true) (ws : List Jvm.Cond) (a1 : Addr) (n : Nat) (y : Nat → Int32) (h0 : Heap) (n0 : Nat) (Z0 : n0 ≤ h0.size) (V1 : Av Z h0 a1 .char n (fun q => .int (y q))) (hn : n ≤ 5) (hy : own_ch n y) :
    MetFree l (⟨"java/lang/StringUTF16", "compress", "([CII)[B"⟩ : MethodName) (head1 (Jvm.Cond.code (⟨"java/lang/StringUTF16", "compress", "([CII)[B"⟩ : MethodName) jdk_52_method_16_code 6 (some (.array .byte)) :: ws) ({ frames := 1, cells := 1, slots := 5, locals := 18 } : Room)) (fun aa_ UU_ => aa_ = #[(.ref a1), (.int (0 : Int32)), (.int (Int32.ofNat n))] ∧ Z.Warmed39 UU_.vm ∧ UU_.heap = h0) (fun _ _ _ _ _ => True) (fun _ UU_ oo_ VV_ => ∃ vv_ LL_, oo_ = .returned vv_ ∧ Q_rmC3 Z a1 n y h0 n0 vv_ VV_.heap LL_ ∧ FrameEnd UU_ oo_ VV_ LL_ ({ frames := 1, cells := 1, slots := 5, locals := 18 } : Room).cells ({ frames := 1, cells := 1, slots := 5, locals := 18 } : Room).slots) := by
  refine own_met (y := (⟨"java/lang/StringUTF16", "compress", "([CII)[B"⟩ : MethodName)) (plainFor_of_name pn_0) ?_
  intro p e s m below meth c T0 K hx hby hml hret hlk hown hnm hZ X0 e0 hK
  have N0 := Fr.nil n0
  refine Rch.cast (ef_rmC3 m a1) ?_
  refine Rch.of (T' := T0) (g' := (mkF m 1 #[.val (.ref a1), .val (.int (0 : Int32)), .val (.int (Int32.ofNat n)), .unset, .unset, .unset] [(.int (Int32.ofNat n))])) (fun _ kt => XS.iloadN X0.here hx rfl (hb hby d_jdk_52_method_16_code_0) rfl  kt) ?_
  obtain ⟨T103, h103, k103, X103, e103, E103, A103, Q103, st103⟩ := newPE X0 hx hZ (hw _ (List.mem_of_getElem? (i := 22) rfl)) e0 (g := (mkF m 1 #[.val (.ref a1), .val (.int (0 : Int32)), .val (.int (Int32.ofNat n)), .unset, .unset, .unset] [(.int (Int32.ofNat n))])) rfl (hb hby d_jdk_52_method_16_code_1) rfl (oNn (oTo (by omega))) (cap := 5) (by rw [oNat (oTo (by omega))]; omega) (by decide) (by decide) (by decide) (ad := "[B") rfl
  obtain ⟨b103, g103⟩ : ∃ zz_, zz_ = h0.size := ⟨_, rfl⟩
  have ne_a1_b103 : a1 ≠ b103 := Nat.ne_of_lt (Nat.lt_of_lt_of_le V1.lt (Nat.le_of_eq g103.symm))
  have ge_b103 : n0 ≤ b103 := Nat.le_trans Z0 (Nat.le_of_eq g103.symm)
  have sz_b103 : h0.size ≤ b103 := Nat.le_trans (Keep.refl h0 []).1 (Nat.le_of_eq g103.symm)
  rw [← g103] at A103 Q103 st103
  have V103 : Av Z h103 b103 .byte n (fun _ => (.int (0 : Int32))) := Av.new A103 (oTo (by omega))
  refine Rch.of (T' := T103) (g' := (mkF m 3 #[.val (.ref a1), .val (.int (0 : Int32)), .val (.int (Int32.ofNat n)), .unset, .unset, .unset] [(.ref b103)])) st103 ?_
  refine Rch.of (T' := T103) (g' := (mkF m 4 #[.val (.ref a1), .val (.int (0 : Int32)), .val (.int (Int32.ofNat n)), .val (.ref b103), .unset, .unset] [])) (fun _ kt => XS.astoreN X103.here hx rfl (hb hby d_jdk_52_method_16_code_3) rfl rfl (l' := #[.val (.ref a1), .val (.int (0 : Int32)), .val (.int (Int32.ofNat n)), .val (.ref b103), .unset, .unset]) rfl kt) ?_
  refine Rch.of (T' := T103) (g' := (mkF m 5 #[.val (.ref a1), .val (.int (0 : Int32)), .val (.int (Int32.ofNat n)), .val (.ref b103), .unset, .unset] [(.ref a1)])) (fun _ kt => XS.aloadN X103.here hx rfl (hb hby d_jdk_52_method_16_code_4) rfl rfl kt) ?_
  refine Rch.of (T' := T103) (g' := (mkF m 6 #[.val (.ref a1), .val (.int (0 : Int32)), .val (.int (Int32.ofNat n)), .val (.ref b103), .unset, .unset] [(.int (0 : Int32)), (.ref a1)])) (fun _ kt => XS.iloadN X103.here hx rfl (hb hby d_jdk_52_method_16_code_5) rfl  kt) ?_
  refine Rch.of (T' := T103) (g' := (mkF m 7 #[.val (.ref a1), .val (.int (0 : Int32)), .val (.int (Int32.ofNat n)), .val (.ref b103), .unset, .unset] [(.ref b103), (.int (0 : Int32)), (.ref a1)])) (fun _ kt => XS.aloadN X103.here hx rfl (hb hby d_jdk_52_method_16_code_6) rfl rfl kt) ?_
  refine Rch.of (T' := T103) (g' := (mkF m 8 #[.val (.ref a1), .val (.int (0 : Int32)), .val (.int (Int32.ofNat n)), .val (.ref b103), .unset, .unset] [(.int (0 : Int32)), (.ref b103), (.int (0 : Int32)), (.ref a1)])) (fun _ kt => XS.iconst X103.here hx rfl (hb hby d_jdk_52_method_16_code_7) kt) ?_
  refine Rch.of (T' := T103) (g' := (mkF m 9 #[.val (.ref a1), .val (.int (0 : Int32)), .val (.int (Int32.ofNat n)), .val (.ref b103), .unset, .unset] [(.int (Int32.ofNat n)), (.int (0 : Int32)), (.ref b103), (.int (0 : Int32)), (.ref a1)])) (fun _ kt => XS.iloadN X103.here hx rfl (hb hby d_jdk_52_method_16_code_8) rfl  kt) ?_
  obtain ⟨_, _, ⟨T104, L104, k104, n104⟩, -, X104, ⟨Lc104, hQ104, l104, y104, z104⟩, st104⟩ := Jvm.LawKit.callS X103 hx (y := (⟨"java/lang/StringUTF16", "compress", "([CI[BII)I"⟩ : MethodName)) hown (mvT hZ (hw _ (List.mem_of_getElem? (i := 121) rfl))) (mvT hZ (hw _ (List.mem_of_getElem? (i := 122) rfl))) (mvT hZ (hw _ (List.mem_of_getElem? (i := 119) rfl))) (mvT hZ (hw _ (List.mem_of_getElem? (i := 123) rfl))) (by decide) (backOf (W := 0) (rmC5 l Z a0 hw [] a1 b103 n y (fun _ => (0 : Int32)) h103 n0 (Nat.le_trans Z0 E103.1) (V1.ext E103) V103 ge_b103 ne_a1_b103 hn hy) hZ (hw _ (List.mem_of_getElem? (i := 123) rfl)) (hw _ (List.mem_of_getElem? (i := 119) rfl)) (by decide) (by decide)) (g := (mkF m 9 #[.val (.ref a1), .val (.int (0 : Int32)), .val (.int (Int32.ofNat n)), .val (.ref b103), .unset, .unset] [(.int (Int32.ofNat n)), (.int (0 : Int32)), (.ref b103), (.int (0 : Int32)), (.ref a1)])) rfl (by rw [hml]; rfl) (argsL := [(.ref a1), (.int (0 : Int32)), (.ref b103), (.int (0 : Int32)), (.int (Int32.ofNat n))]) (rest := []) (lenOf pd_22 rfl) rfl (by show 2 * 0 + _ ≤ _; exact Nat.le_of_eq rfl) (hb hby d_jdk_52_method_16_code_9) (fun _ _ => ⟨rfl, e103, (by decide : 1 + 0 ≤ _), (by decide : 5 + 0 ≤ _)⟩)
  dsimp only [Pt.U, Pt.locs, Pt.cells, Pt.slots] at X104 l104 y104 z104 st104 hQ104
  subst l104 y104 z104
  obtain ⟨rfl, N104q, hQ104⟩ := hQ104
  have N104 := Fr.app N0 N104q
  obtain ⟨K104, V104⟩ := hQ104
  refine Rch.of (T' := T104) (g' := (mkF m 12 #[.val (.ref a1), .val (.int (0 : Int32)), .val (.int (Int32.ofNat n)), .val (.ref b103), .unset, .unset] [(.int (Int32.ofNat n))])) st104 ?_
  refine Rch.of (T' := T104) (g' := (mkF m 14 #[.val (.ref a1), .val (.int (0 : Int32)), .val (.int (Int32.ofNat n)), .val (.ref b103), .val (.int (Int32.ofNat n)), .unset] [])) (fun _ kt => XS.istore X104.here hx rfl (hb hby d_jdk_52_method_16_code_12) rfl (l' := #[.val (.ref a1), .val (.int (0 : Int32)), .val (.int (Int32.ofNat n)), .val (.ref b103), .val (.int (Int32.ofNat n)), .unset]) rfl kt) ?_
  refine Rch.of (T' := T104) (g' := (mkF m 16 #[.val (.ref a1), .val (.int (0 : Int32)), .val (.int (Int32.ofNat n)), .val (.ref b103), .val (.int (Int32.ofNat n)), .unset] [(.int (Int32.ofNat n))])) (fun _ kt => XS.iload X104.here hx rfl (hb hby d_jdk_52_method_16_code_14) rfl  kt) ?_
  refine Rch.of (T' := T104) (g' := (mkF m 17 #[.val (.ref a1), .val (.int (0 : Int32)), .val (.int (Int32.ofNat n)), .val (.ref b103), .val (.int (Int32.ofNat n)), .unset] [(.int (Int32.ofNat n)), (.int (Int32.ofNat n))])) (fun _ kt => XS.iloadN X104.here hx rfl (hb hby d_jdk_52_method_16_code_16) rfl  kt) ?_
  refine Rch.of (T' := T104) (g' := (mkF m 57 #[.val (.ref a1), .val (.int (0 : Int32)), .val (.int (Int32.ofNat n)), .val (.ref b103), .val (.int (Int32.ofNat n)), .unset] [])) (fun _ kt => XS.icmpYes X104.here hx rfl (pc0 := 17) (pc' := 57) rfl (hb hby d_jdk_52_method_16_code_17) rfl (teq (rfl : (Int32.ofNat n) = (Int32.ofNat n))).1 (by decide) (by decide) kt) ?_
  refine Rch.of (T' := T104) (g' := (mkF m 58 #[.val (.ref a1), .val (.int (0 : Int32)), .val (.int (Int32.ofNat n)), .val (.ref b103), .val (.int (Int32.ofNat n)), .unset] [(.ref b103)])) (fun _ kt => XS.aloadN X104.here hx rfl (hb hby d_jdk_52_method_16_code_57) rfl rfl kt) ?_
  exact Rch.retA X104 hx (w := (.ref b103)) hret rfl rfl hlk (hb hby d_jdk_52_method_16_code_58) (fun U hU hF => hK _ U _ _ _ (by show Q_rmC3 Z a1 n y h0 n0 _ U.heap _; rw [hU]; exact ⟨by rw [g103], N104, by rw [← g103]; exact ⟨(((Keep.refl h0 []).ext E103).trans K104 (allS (Or.inr sz_b103) all0)), V104⟩⟩) hF (by decide) (by decide))
theorem ef_rmCL (m : MethodId) (a1 : Addr) : entryFrame m #[(.ref a1), (.int (Int32.ofNat n))] 2 = mkF m 0 #[.val (.ref a1), .val (.int (Int32.ofNat n))] [] := by first | (simp [entryFrame, mkF, argsToLocals, Value.category]; done) | rfl
def Q_rmCL (Z : State) (a1 : Addr) (n : Nat) (y : Nat → Int32) (h0 : Heap) (n0 : Nat) (vv_ : Option Value) (h : Heap) (LL_ : List Loc) : Prop := vv_ = some (.int (0 : Int32)) ∧ Fr n0 LL_ ∧ (h = h0)
theorem d_jdk_52_method_15_code_0 : decode jdk_52_method_15_code 0 = .ok (.iload_n 1, 1) := by decide +kernel
theorem d_jdk_52_method_15_code_1 : decode jdk_52_method_15_code 1 = .ok (.aload_n 0, 1) := by decide +kernel
theorem d_jdk_52_method_15_code_2 : decode jdk_52_method_15_code 2 = .ok (.arraylength, 1) := by decide +kernel
theorem d_jdk_52_method_15_code_3 : decode jdk_52_method_15_code 3 = .ok (.isub, 1) := by decide +kernel
theorem d_jdk_52_method_15_code_4 : decode jdk_52_method_15_code 4 = .ok (.bipush 31, 2) := by decide +kernel
theorem d_jdk_52_method_15_code_6 : decode jdk_52_method_15_code 6 = .ok (.iushr, 1) := by decide +kernel
theorem d_jdk_52_method_15_code_7 : decode jdk_52_method_15_code 7 = .ok (.i2b, 1) := by decide +kernel
theorem d_jdk_52_method_15_code_8 : decode jdk_52_method_15_code 8 = .ok (.ireturn, 1) := by decide +kernel
set_option maxRecDepth 65536 in
set_option maxHeartbeats 40000000 in
theorem rmCL (l : Launch) (Z : State) (a0 : Array Value) (hw : ∀ d ∈ tables_1, d.before a0 Z = true) (ws : List Jvm.Cond) (a1 : Addr) (n : Nat) (y : Nat → Int32) (h0 : Heap) (n0 : Nat) (Z0 : n0 ≤ h0.size) (V1 : Av Z h0 a1 .byte n (fun q => .int (y q))) :
    MetFree l (⟨"java/lang/StringUTF16", "coderFromArrayLen", "([BI)B"⟩ : MethodName) (head1 (Jvm.Cond.code (⟨"java/lang/StringUTF16", "coderFromArrayLen", "([BI)B"⟩ : MethodName) jdk_52_method_15_code 2 (some .byte) :: ws) ({ frames := 0, cells := 0, slots := 0, locals := 0 } : Room)) (fun aa_ UU_ => aa_ = #[(.ref a1), (.int (Int32.ofNat n))] ∧ Z.Warmed39 UU_.vm ∧ UU_.heap = h0) (fun _ _ _ _ _ => True) (fun _ UU_ oo_ VV_ => ∃ vv_ LL_, oo_ = .returned vv_ ∧ Q_rmCL Z a1 n y h0 n0 vv_ VV_.heap LL_ ∧ FrameEnd UU_ oo_ VV_ LL_ ({ frames := 0, cells := 0, slots := 0, locals := 0 } : Room).cells ({ frames := 0, cells := 0, slots := 0, locals := 0 } : Room).slots) := by
  refine own_met (y := (⟨"java/lang/StringUTF16", "coderFromArrayLen", "([BI)B"⟩ : MethodName)) (plainFor_of_name pn_0) ?_
  intro p e s m below meth c T0 K hx hby hml hret hlk hown hnm hZ X0 e0 hK
  have N0 := Fr.nil n0
  refine Rch.cast (ef_rmCL m a1) ?_
  refine Rch.of (T' := T0) (g' := (mkF m 1 #[.val (.ref a1), .val (.int (Int32.ofNat n))] [(.int (Int32.ofNat n))])) (fun _ kt => XS.iloadN X0.here hx rfl (hb hby d_jdk_52_method_15_code_0) rfl  kt) ?_
  refine Rch.of (T' := T0) (g' := (mkF m 2 #[.val (.ref a1), .val (.int (Int32.ofNat n))] [(.ref a1), (.int (Int32.ofNat n))])) (fun _ kt => XS.aloadN X0.here hx rfl (hb hby d_jdk_52_method_15_code_1) rfl rfl kt) ?_
  obtain ⟨cl105, Ar105, Sz105, Ha105⟩ := id V1
  refine Rch.of (T' := T0) (g' := (mkF m 3 #[.val (.ref a1), .val (.int (Int32.ofNat n))] [(.int cl105.slots.size.toInt32), (.int (Int32.ofNat n))])) (X0.arraylength hx (by rw [e0]; exact Ar105.1) (State.isArrayOf_alike hZ.alike Ar105.2.1) (g := (mkF m 2 #[.val (.ref a1), .val (.int (Int32.ofNat n))] [(.ref a1), (.int (Int32.ofNat n))])) rfl rfl (hb hby d_jdk_52_method_15_code_2)) ?_
  rw [oLen Sz105]
  show Rch p e below K T0 (mkF m 3 #[.val (.ref a1), .val (.int (Int32.ofNat n))] [(.int (Int32.ofNat n)), (.int (Int32.ofNat n))])
  refine Rch.of (T' := T0) (g' := (mkF m 4 #[.val (.ref a1), .val (.int (Int32.ofNat n))] [(.int ((Int32.ofNat n) - (Int32.ofNat n)))])) (fun _ kt => XS.isub X0.here hx rfl (hb hby d_jdk_52_method_15_code_3) rfl kt) ?_
  refine Rch.of (T' := T0) (g' := (mkF m 6 #[.val (.ref a1), .val (.int (Int32.ofNat n))] [(.int (31 : Int32)), (.int ((Int32.ofNat n) - (Int32.ofNat n)))])) (fun _ kt => XS.bipush X0.here hx rfl (hb hby d_jdk_52_method_15_code_4) kt) ?_
  refine Rch.of (T' := T0) (g' := (mkF m 7 #[.val (.ref a1), .val (.int (Int32.ofNat n))] [(.int ((((Int32.ofNat n) - (Int32.ofNat n)).toUInt32 >>> ((31 : Int32) &&& 31).toUInt32).toInt32))])) (fun _ kt => XS.iushr X0.here hx rfl (hb hby d_jdk_52_method_15_code_6) rfl kt) ?_
  refine Rch.of (T' := T0) (g' := (mkF m 8 #[.val (.ref a1), .val (.int (Int32.ofNat n))] [(.int (((((Int32.ofNat n) - (Int32.ofNat n)).toUInt32 >>> ((31 : Int32) &&& 31).toUInt32).toInt32).toInt8.toInt32))])) (fun _ kt => XS.i2b X0.here hx rfl (hb hby d_jdk_52_method_15_code_7) rfl kt) ?_
  exact Rch.retN X0 hx (t := .byte) hret (by simp) hlk (hb hby d_jdk_52_method_15_code_8) (fun U hU hF => hK _ U _ _ _ (by show Q_rmCL Z a1 n y h0 n0 _ U.heap _; rw [hU, e0]; exact ⟨congrArg (fun q => some (Value.int q)) (show nar .byte _ = _ from (own_b8 _).trans (own_cod n)), N0, rfl⟩) hF (by decide) (by decide))
theorem pn_1 : plainName "java/lang/String" = true := by first | (simp [plainName, overriddenIn]; done) | decide +kernel
theorem ef_rmBB (m : MethodId) (a1 : Addr) (a2 : Addr) : entryFrame m #[(.ref a1), (.ref a2), (.int (0 : Int32))] 3 = mkF m 0 #[.val (.ref a1), .val (.ref a2), .val (.int (0 : Int32))] [] := by first | (simp [entryFrame, mkF, argsToLocals, Value.category]; done) | rfl
def Q_rmBB (Z : State) (a1 : Addr) (a2 : Addr) (u1 : Value) (u2 : Value) (h0 : Heap) (n0 : Nat) (vv_ : Option Value) (h : Heap) (LL_ : List Loc) : Prop := vv_ = none ∧ Fr n0 LL_ ∧ (Keep h0 h [a1] ∧ Exa Z h a1 "java/lang/String" ∧ Fld Z h a1 "java/lang/String" "coder" "B" (.int (0 : Int32)) ∧ Fld Z h a1 "java/lang/String" "value" "[B" (.ref a2))
theorem d_jdk_42_method_151_code_0 : decode jdk_42_method_151_code 0 = .ok (.aload_n 0, 1) := by decide +kernel
theorem d_jdk_42_method_151_code_1 : decode jdk_42_method_151_code 1 = .ok (.invokespecial 1, 3) := by decide +kernel
theorem d_jdk_42_method_151_code_4 : decode jdk_42_method_151_code 4 = .ok (.aload_n 0, 1) := by decide +kernel
theorem d_jdk_42_method_151_code_5 : decode jdk_42_method_151_code 5 = .ok (.aload_n 1, 1) := by decide +kernel
theorem d_jdk_42_method_151_code_6 : decode jdk_42_method_151_code 6 = .ok (.putfield 9, 3) := by decide +kernel
theorem d_jdk_42_method_151_code_9 : decode jdk_42_method_151_code 9 = .ok (.aload_n 0, 1) := by decide +kernel
theorem d_jdk_42_method_151_code_10 : decode jdk_42_method_151_code 10 = .ok (.iload_n 2, 1) := by decide +kernel
theorem d_jdk_42_method_151_code_11 : decode jdk_42_method_151_code 11 = .ok (.putfield 15, 3) := by decide +kernel
theorem d_jdk_42_method_151_code_14 : decode jdk_42_method_151_code 14 = .ok (.return_, 1) := by decide +kernel
set_option maxRecDepth 65536 in
set_option maxHeartbeats 40000000 in
theorem rmBB (l : Launch) (Z : State) (a0 : Array Value) (hw : ∀ d ∈ tables_1, d.before a0 Z = true) (ws : List Jvm.Cond) (a1 : Addr) (a2 : Addr) (u1 : Value) (u2 : Value) (h0 : Heap) (n0 : Nat) (Z0 : n0 ≤ h0.size) (E1 : Exa Z h0 a1 "java/lang/String") (F1 : Fld Z h0 a1 "java/lang/String" "coder" "B" u1) (F2 : Fld Z h0 a1 "java/lang/String" "value" "[B" u2) (g1 : n0 ≤ a1) :
    MetFree l (⟨"java/lang/String", "<init>", "([BB)V"⟩ : MethodName) (head1 (Jvm.Cond.code (⟨"java/lang/String", "<init>", "([BB)V"⟩ : MethodName) jdk_42_method_151_code 3 none :: ws) ({ frames := 1, cells := 0, slots := 0, locals := 12 } : Room)) (fun aa_ UU_ => aa_ = #[(.ref a1), (.ref a2), (.int (0 : Int32))] ∧ Z.Warmed39 UU_.vm ∧ UU_.heap = h0) (fun _ _ _ _ _ => True) (fun _ UU_ oo_ VV_ => ∃ vv_ LL_, oo_ = .returned vv_ ∧ Q_rmBB Z a1 a2 u1 u2 h0 n0 vv_ VV_.heap LL_ ∧ FrameEnd UU_ oo_ VV_ LL_ ({ frames := 1, cells := 0, slots := 0, locals := 12 } : Room).cells ({ frames := 1, cells := 0, slots := 0, locals := 12 } : Room).slots) := by
  refine own_met (y := (⟨"java/lang/String", "<init>", "([BB)V"⟩ : MethodName)) (plainFor_of_name pn_1) ?_
  intro p e s m below meth c T0 K hx hby hml hret hlk hown hnm hZ X0 e0 hK
  have N0 := Fr.nil n0
  refine Rch.cast (ef_rmBB m a1 a2) ?_
  refine Rch.of (T' := T0) (g' := (mkF m 1 #[.val (.ref a1), .val (.ref a2), .val (.int (0 : Int32))] [(.ref a1)])) (fun _ kt => XS.aloadN X0.here hx rfl (hb hby d_jdk_42_method_151_code_0) rfl rfl kt) ?_
  obtain ⟨T106, X106, e106, st106⟩ := initO X0 hx hZ hown (hw _ (List.mem_of_getElem? (i := 18) rfl)) (hw _ (List.mem_of_getElem? (i := 19) rfl)) (hw _ (List.mem_of_getElem? (i := 20) rfl)) e0 (g := (mkF m 1 #[.val (.ref a1), .val (.ref a2), .val (.int (0 : Int32))] [(.ref a1)])) rfl (by rw [hml]; rfl) rfl (hb hby d_jdk_42_method_151_code_1) (by decide) (W := 0) (by show 2 * 0 + _ ≤ _; exact Nat.le_of_eq rfl) (by decide)
  refine Rch.of (T' := T106) (g' := (mkF m 4 #[.val (.ref a1), .val (.ref a2), .val (.int (0 : Int32))] [])) st106 ?_
  refine Rch.of (T' := T106) (g' := (mkF m 5 #[.val (.ref a1), .val (.ref a2), .val (.int (0 : Int32))] [(.ref a1)])) (fun _ kt => XS.aloadN X106.here hx rfl (hb hby d_jdk_42_method_151_code_4) rfl rfl kt) ?_
  refine Rch.of (T' := T106) (g' := (mkF m 6 #[.val (.ref a1), .val (.ref a2), .val (.int (0 : Int32))] [(.ref a2), (.ref a1)])) (fun _ kt => XS.aloadN X106.here hx rfl (hb hby d_jdk_42_method_151_code_5) rfl rfl kt) ?_
  obtain ⟨T107, h107, X107, e107, W107, st107⟩ := putF X106 hx hZ hown (host := "") (Or.inl (hw _ (List.mem_of_getElem? (i := 27) rfl))) Via.refl e106 F2 E1 (Or.inr ⟨(hw _ (List.mem_of_getElem? (i := 23) rfl)), rfl, hnm⟩) (hw _ (List.mem_of_getElem? (i := 9) rfl)) (ty := (.array .byte)) (by decide) rfl rfl (g := (mkF m 6 #[.val (.ref a1), .val (.ref a2), .val (.int (0 : Int32))] [(.ref a2), (.ref a1)])) rfl rfl (hb hby d_jdk_42_method_151_code_6)
  have N107 := Fr.snoc X107 N0 g1
  have Fw107 := Fld.same W107 F2
  have Fb108 := (F1.other W107 (Or.inr (slot_ne (Or.inr (hw _ (List.mem_of_getElem? (i := 24) rfl))) (Or.inr (hw _ (List.mem_of_getElem? (i := 23) rfl))) (by decide) (t := .byte) (t' := (.array .byte)) (by decide) (by decide))))
  refine Rch.of (T' := T107) (g' := (mkF m 9 #[.val (.ref a1), .val (.ref a2), .val (.int (0 : Int32))] [])) st107 ?_
  refine Rch.of (T' := T107) (g' := (mkF m 10 #[.val (.ref a1), .val (.ref a2), .val (.int (0 : Int32))] [(.ref a1)])) (fun _ kt => XS.aloadN X107.here hx rfl (hb hby d_jdk_42_method_151_code_9) rfl rfl kt) ?_
  refine Rch.of (T' := T107) (g' := (mkF m 11 #[.val (.ref a1), .val (.ref a2), .val (.int (0 : Int32))] [(.int (0 : Int32)), (.ref a1)])) (fun _ kt => XS.iloadN X107.here hx rfl (hb hby d_jdk_42_method_151_code_10) rfl  kt) ?_
  obtain ⟨T109, h109, X109, e109, W109, st109⟩ := putFN X107 hx hZ hown (hw _ (List.mem_of_getElem? (i := 28) rfl)) Via.refl e107 Fb108 (E1.wr W107) (Or.inr ⟨(hw _ (List.mem_of_getElem? (i := 24) rfl)), rfl, hnm⟩) (hw _ (List.mem_of_getElem? (i := 9) rfl)) (ty := .byte) (v' := (.int (nar .byte (0 : Int32)))) (by decide) rfl (fits_nar_byte _) (g := (mkF m 11 #[.val (.ref a1), .val (.ref a2), .val (.int (0 : Int32))] [(.int (0 : Int32)), (.ref a1)])) rfl rfl (hb hby d_jdk_42_method_151_code_11)
  have N109 := Fr.snoc X109 N107 g1
  have Fw109 := Fld.same W109 Fb108
  have Fb110 := (Fw107.other W109 (Or.inr (slot_ne (Or.inr (hw _ (List.mem_of_getElem? (i := 23) rfl))) (Or.inr (hw _ (List.mem_of_getElem? (i := 24) rfl))) (by decide) (t := (.array .byte)) (t' := .byte) (by decide) (by decide))))
  refine Rch.of (T' := T109) (g' := (mkF m 14 #[.val (.ref a1), .val (.ref a2), .val (.int (0 : Int32))] [])) st109 ?_
  exact Rch.retV X109 hx hret hlk (hb hby d_jdk_42_method_151_code_14) (fun U hU hF => hK _ U _ _ _ (by show Q_rmBB Z a1 a2 u1 u2 h0 n0 _ U.heap _; rw [hU, e109]; exact ⟨rfl, N109, (((Keep.refl h0 [a1]).wr W107 (Or.inl (List.mem_of_getElem? (i := 0) rfl))).wr W109 (Or.inl (List.mem_of_getElem? (i := 0) rfl))), ((E1.wr W107).wr W109), Fw109, Fb110⟩) hF (by decide) (by decide))
theorem ef_rqCD (m : MethodId) (a1 : Addr) : entryFrame m #[(.ref a1)] 1 = mkF m 0 #[.val (.ref a1)] [] := by first | (simp [entryFrame, mkF, argsToLocals, Value.category]; done) | rfl
def Q_rqCD (Z : State) (a1 : Addr) (cs : Int32) (h0 : Heap) (n0 : Nat) (vv_ : Option Value) (h : Heap) (LL_ : List Loc) : Prop := vv_ = some (.int (0 : Int32)) ∧ Fr n0 LL_ ∧ (h = h0)
theorem d_jdk_42_method_152_code_0 : decode jdk_42_method_152_code 0 = .ok (.getstatic 38, 3) := by decide +kernel
theorem d_jdk_42_method_152_code_3 : decode jdk_42_method_152_code 3 = .ok (.ifCond .eq 10, 3) := by decide +kernel
theorem d_jdk_42_method_152_code_6 : decode jdk_42_method_152_code 6 = .ok (.aload_n 0, 1) := by decide +kernel
theorem d_jdk_42_method_152_code_7 : decode jdk_42_method_152_code 7 = .ok (.getfield 15, 3) := by decide +kernel
theorem d_jdk_42_method_152_code_10 : decode jdk_42_method_152_code 10 = .ok (.goto 4, 3) := by decide +kernel
theorem d_jdk_42_method_152_code_14 : decode jdk_42_method_152_code 14 = .ok (.ireturn, 1) := by decide +kernel
set_option maxRecDepth 65536 in
set_option maxHeartbeats 40000000 in
theorem rqCD (l : Launch) (Z : State) (a0 : Array Value) (hw : ∀ d ∈ tables_1, d.before a0 Z = true) (ws : List Jvm.Cond) (a1 : Addr) (cs : Int32) (h0 : Heap) (n0 : Nat) (Z0 : n0 ≤ h0.size) (F1 : Fld Z h0 a1 "java/lang/String" "coder" "B" (.int (0 : Int32))) (SC : Sta Z h0 "java/lang/String" "COMPACT_STRINGS" "Z" (.int cs)) (hcs : ¬ cs = (0 : Int32)) :
    MetFree l (⟨"java/lang/String", "coder", "()B"⟩ : MethodName) (head1 (Jvm.Cond.code (⟨"java/lang/String", "coder", "()B"⟩ : MethodName) jdk_42_method_152_code 1 (some .byte) :: ws) ({ frames := 0, cells := 0, slots := 0, locals := 0 } : Room)) (fun aa_ UU_ => aa_ = #[(.ref a1)] ∧ Z.Warmed39 UU_.vm ∧ UU_.heap = h0) (fun _ _ _ _ _ => True) (fun _ UU_ oo_ VV_ => ∃ vv_ LL_, oo_ = .returned vv_ ∧ Q_rqCD Z a1 cs h0 n0 vv_ VV_.heap LL_ ∧ FrameEnd UU_ oo_ VV_ LL_ ({ frames := 0, cells := 0, slots := 0, locals := 0 } : Room).cells ({ frames := 0, cells := 0, slots := 0, locals := 0 } : Room).slots) := by
  refine own_met (y := (⟨"java/lang/String", "coder", "()B"⟩ : MethodName)) (plainFor_of_name pn_1) ?_
  intro p e s m below meth c T0 K hx hby hml hret hlk hown hnm hZ X0 e0 hK
  have N0 := Fr.nil n0
  refine Rch.cast (ef_rqCD m a1) ?_
  obtain ⟨T111, X111, e111, st111⟩ := getS2 X0 hx hZ hown (host := "") (Or.inl (hw _ (List.mem_of_getElem? (i := 48) rfl))) Via.refl e0 SC (g := (mkF m 0 #[.val (.ref a1)] [])) rfl (hb hby d_jdk_42_method_152_code_0)
  refine Rch.of (T' := T111) (g' := (mkF m 3 #[.val (.ref a1)] [(.int cs)])) st111 ?_
  refine Rch.of (T' := T111) (g' := (mkF m 6 #[.val (.ref a1)] [])) (fun _ kt => XS.ifNo X111.here hx rfl (hb hby d_jdk_42_method_152_code_3) rfl ((if0 _ _).trans (feq hcs).1) kt) ?_
  refine Rch.of (T' := T111) (g' := (mkF m 7 #[.val (.ref a1)] [(.ref a1)])) (fun _ kt => XS.aloadN X111.here hx rfl (hb hby d_jdk_42_method_152_code_6) rfl rfl kt) ?_
  obtain ⟨T112, X112, e112, st112⟩ := getF X111 hx hZ hown (host := "") (Or.inl (hw _ (List.mem_of_getElem? (i := 28) rfl))) Via.refl e111 F1 (g := (mkF m 7 #[.val (.ref a1)] [(.ref a1)])) rfl rfl (hb hby d_jdk_42_method_152_code_7)
  refine Rch.of (T' := T112) (g' := (mkF m 10 #[.val (.ref a1)] [(.int (0 : Int32))])) st112 ?_
  refine Rch.of (T' := T112) (g' := (mkF m 14 #[.val (.ref a1)] [(.int (0 : Int32))])) (fun _ kt => XS.goto X112.here hx rfl (pc0 := 10) (pc' := 14) rfl (hb hby d_jdk_42_method_152_code_10) (by decide) (by decide) kt) ?_
  exact Rch.retN X112 hx (t := .byte) hret (by simp) hlk (hb hby d_jdk_42_method_152_code_14) (fun U hU hF => hK _ U _ _ _ (by show Q_rqCD Z a1 cs h0 n0 _ U.heap _; rw [hU, e112]; exact ⟨rfl, N0, rfl⟩) hF (by decide) (by decide))
theorem ef_rqLT (m : MethodId) (a1 : Addr) : entryFrame m #[(.ref a1)] 1 = mkF m 0 #[.val (.ref a1)] [] := by first | (simp [entryFrame, mkF, argsToLocals, Value.category]; done) | rfl
def Q_rqLT (Z : State) (a1 : Addr) (cs : Int32) (h0 : Heap) (n0 : Nat) (vv_ : Option Value) (h : Heap) (LL_ : List Loc) : Prop := vv_ = some (.int (1 : Int32)) ∧ Fr n0 LL_ ∧ (h = h0)
theorem d_jdk_42_method_154_code_0 : decode jdk_42_method_154_code 0 = .ok (.getstatic 38, 3) := by decide +kernel
theorem d_jdk_42_method_154_code_3 : decode jdk_42_method_154_code 3 = .ok (.ifCond .eq 14, 3) := by decide +kernel
theorem d_jdk_42_method_154_code_6 : decode jdk_42_method_154_code 6 = .ok (.aload_n 0, 1) := by decide +kernel
theorem d_jdk_42_method_154_code_7 : decode jdk_42_method_154_code 7 = .ok (.getfield 15, 3) := by decide +kernel
theorem d_jdk_42_method_154_code_10 : decode jdk_42_method_154_code 10 = .ok (.ifCond .ne 7, 3) := by decide +kernel
theorem d_jdk_42_method_154_code_13 : decode jdk_42_method_154_code 13 = .ok (.iconst 1, 1) := by decide +kernel
theorem d_jdk_42_method_154_code_14 : decode jdk_42_method_154_code 14 = .ok (.goto 4, 3) := by decide +kernel
theorem d_jdk_42_method_154_code_18 : decode jdk_42_method_154_code 18 = .ok (.ireturn, 1) := by decide +kernel
set_option maxRecDepth 65536 in
set_option maxHeartbeats 40000000 in
theorem rqLT (l : Launch) (Z : State) (a0 : Array Value) (hw : ∀ d ∈ tables_1, d.before a0 Z = true) (ws : List Jvm.Cond) (a1 : Addr) (cs : Int32) (h0 : Heap) (n0 : Nat) (Z0 : n0 ≤ h0.size) (F1 : Fld Z h0 a1 "java/lang/String" "coder" "B" (.int (0 : Int32))) (SC : Sta Z h0 "java/lang/String" "COMPACT_STRINGS" "Z" (.int cs)) (hcs : ¬ cs = (0 : Int32)) :
    MetFree l (⟨"java/lang/String", "isLatin1", "()Z"⟩ : MethodName) (head1 (Jvm.Cond.code (⟨"java/lang/String", "isLatin1", "()Z"⟩ : MethodName) jdk_42_method_154_code 1 (some .boolean) :: ws) ({ frames := 0, cells := 0, slots := 0, locals := 0 } : Room)) (fun aa_ UU_ => aa_ = #[(.ref a1)] ∧ Z.Warmed39 UU_.vm ∧ UU_.heap = h0) (fun _ _ _ _ _ => True) (fun _ UU_ oo_ VV_ => ∃ vv_ LL_, oo_ = .returned vv_ ∧ Q_rqLT Z a1 cs h0 n0 vv_ VV_.heap LL_ ∧ FrameEnd UU_ oo_ VV_ LL_ ({ frames := 0, cells := 0, slots := 0, locals := 0 } : Room).cells ({ frames := 0, cells := 0, slots := 0, locals := 0 } : Room).slots) := by
  refine own_met (y := (⟨"java/lang/String", "isLatin1", "()Z"⟩ : MethodName)) (plainFor_of_name pn_1) ?_
  intro p e s m below meth c T0 K hx hby hml hret hlk hown hnm hZ X0 e0 hK
  have N0 := Fr.nil n0
  refine Rch.cast (ef_rqLT m a1) ?_
  obtain ⟨T113, X113, e113, st113⟩ := getS2 X0 hx hZ hown (host := "") (Or.inl (hw _ (List.mem_of_getElem? (i := 48) rfl))) Via.refl e0 SC (g := (mkF m 0 #[.val (.ref a1)] [])) rfl (hb hby d_jdk_42_method_154_code_0)
  refine Rch.of (T' := T113) (g' := (mkF m 3 #[.val (.ref a1)] [(.int cs)])) st113 ?_
  refine Rch.of (T' := T113) (g' := (mkF m 6 #[.val (.ref a1)] [])) (fun _ kt => XS.ifNo X113.here hx rfl (hb hby d_jdk_42_method_154_code_3) rfl ((if0 _ _).trans (feq hcs).1) kt) ?_
  refine Rch.of (T' := T113) (g' := (mkF m 7 #[.val (.ref a1)] [(.ref a1)])) (fun _ kt => XS.aloadN X113.here hx rfl (hb hby d_jdk_42_method_154_code_6) rfl rfl kt) ?_
  obtain ⟨T114, X114, e114, st114⟩ := getF X113 hx hZ hown (host := "") (Or.inl (hw _ (List.mem_of_getElem? (i := 28) rfl))) Via.refl e113 F1 (g := (mkF m 7 #[.val (.ref a1)] [(.ref a1)])) rfl rfl (hb hby d_jdk_42_method_154_code_7)
  refine Rch.of (T' := T114) (g' := (mkF m 10 #[.val (.ref a1)] [(.int (0 : Int32))])) st114 ?_
  refine Rch.of (T' := T114) (g' := (mkF m 13 #[.val (.ref a1)] [])) (fun _ kt => XS.ifNo X114.here hx rfl (hb hby d_jdk_42_method_154_code_10) rfl ((if0 _ _).trans (teq ((by decide) : (0 : Int32) = (0 : Int32))).2) kt) ?_
  refine Rch.of (T' := T114) (g' := (mkF m 14 #[.val (.ref a1)] [(.int (1 : Int32))])) (fun _ kt => XS.iconst X114.here hx rfl (hb hby d_jdk_42_method_154_code_13) kt) ?_
  refine Rch.of (T' := T114) (g' := (mkF m 18 #[.val (.ref a1)] [(.int (1 : Int32))])) (fun _ kt => XS.goto X114.here hx rfl (pc0 := 14) (pc' := 18) rfl (hb hby d_jdk_42_method_154_code_14) (by decide) (by decide) kt) ?_
  exact Rch.retN X114 hx (t := .boolean) hret (by simp) hlk (hb hby d_jdk_42_method_154_code_18) (fun U hU hF => hK _ U _ _ _ (by show Q_rqLT Z a1 cs h0 n0 _ U.heap _; rw [hU, e114]; exact ⟨rfl, N0, rfl⟩) hF (by decide) (by decide))
theorem ef_rqLE (m : MethodId) (a1 : Addr) : entryFrame m #[(.ref a1)] 1 = mkF m 0 #[.val (.ref a1)] [] := by first | (simp [entryFrame, mkF, argsToLocals, Value.category]; done) | rfl
def Q_rqLE (Z : State) (a1 : Addr) (b1 : Addr) (n : Nat) (y : Nat → Int32) (cs : Int32) (h0 : Heap) (n0 : Nat) (vv_ : Option Value) (h : Heap) (LL_ : List Loc) : Prop := vv_ = some (.int (Int32.ofNat n)) ∧ Fr n0 LL_ ∧ (h = h0)
theorem d_jdk_42_method_54_code_0 : decode jdk_42_method_54_code 0 = .ok (.aload_n 0, 1) := by decide +kernel
theorem d_jdk_42_method_54_code_1 : decode jdk_42_method_54_code 1 = .ok (.getfield 9, 3) := by decide +kernel
theorem d_jdk_42_method_54_code_4 : decode jdk_42_method_54_code 4 = .ok (.arraylength, 1) := by decide +kernel
theorem d_jdk_42_method_54_code_5 : decode jdk_42_method_54_code 5 = .ok (.aload_n 0, 1) := by decide +kernel
theorem d_jdk_42_method_54_code_6 : decode jdk_42_method_54_code 6 = .ok (.invokevirtual 335, 3) := by decide +kernel
theorem d_jdk_42_method_54_code_9 : decode jdk_42_method_54_code 9 = .ok (.ishr, 1) := by decide +kernel
theorem d_jdk_42_method_54_code_10 : decode jdk_42_method_54_code 10 = .ok (.ireturn, 1) := by decide +kernel
set_option maxRecDepth 65536 in
set_option maxHeartbeats 40000000 in
theorem rqLE (l : Launch) (Z : State) (a0 : Array Value) (hw : ∀ d ∈ tables_1, d.before a0 Z = true) (ws : List Jvm.Cond) (a1 : Addr) (b1 : Addr) (n : Nat) (y : Nat → Int32) (cs : Int32) (h0 : Heap) (n0 : Nat) (Z0 : n0 ≤ h0.size) (E1 : Exa Z h0 a1 "java/lang/String") (F1 : Fld Z h0 a1 "java/lang/String" "coder" "B" (.int (0 : Int32))) (F2 : Fld Z h0 a1 "java/lang/String" "value" "[B" (.ref b1)) (V1 : Av Z h0 b1 .byte n (fun q => .int ((y q).toInt8.toInt32))) (SC : Sta Z h0 "java/lang/String" "COMPACT_STRINGS" "Z" (.int cs)) (hcs : ¬ cs = (0 : Int32)) :
    MetFree l (⟨"java/lang/String", "length", "()I"⟩ : MethodName) (head1 (Jvm.Cond.code (⟨"java/lang/String", "length", "()I"⟩ : MethodName) jdk_42_method_54_code 1 (some .int) :: ws) ({ frames := 1, cells := 0, slots := 0, locals := 13 } : Room)) (fun aa_ UU_ => aa_ = #[(.ref a1)] ∧ Z.Warmed39 UU_.vm ∧ UU_.heap = h0) (fun _ _ _ _ _ => True) (fun _ UU_ oo_ VV_ => ∃ vv_ LL_, oo_ = .returned vv_ ∧ Q_rqLE Z a1 b1 n y cs h0 n0 vv_ VV_.heap LL_ ∧ FrameEnd UU_ oo_ VV_ LL_ ({ frames := 1, cells := 0, slots := 0, locals := 13 } : Room).cells ({ frames := 1, cells := 0, slots := 0, locals := 13 } : Room).slots) := by
  refine own_met (y := (⟨"java/lang/String", "length", "()I"⟩ : MethodName)) (plainFor_of_name pn_1) ?_
  intro p e s m below meth c T0 K hx hby hml hret hlk hown hnm hZ X0 e0 hK
  have N0 := Fr.nil n0
  refine Rch.cast (ef_rqLE m a1) ?_
  refine Rch.of (T' := T0) (g' := (mkF m 1 #[.val (.ref a1)] [(.ref a1)])) (fun _ kt => XS.aloadN X0.here hx rfl (hb hby d_jdk_42_method_54_code_0) rfl rfl kt) ?_
  obtain ⟨T115, X115, e115, st115⟩ := getF X0 hx hZ hown (host := "") (Or.inl (hw _ (List.mem_of_getElem? (i := 27) rfl))) Via.refl e0 F2 (g := (mkF m 1 #[.val (.ref a1)] [(.ref a1)])) rfl rfl (hb hby d_jdk_42_method_54_code_1)
  refine Rch.of (T' := T115) (g' := (mkF m 4 #[.val (.ref a1)] [(.ref b1)])) st115 ?_
  obtain ⟨cl116, Ar116, Sz116, Ha116⟩ := id V1
  refine Rch.of (T' := T115) (g' := (mkF m 5 #[.val (.ref a1)] [(.int cl116.slots.size.toInt32)])) (X115.arraylength hx (by rw [e115]; exact Ar116.1) (State.isArrayOf_alike hZ.alike Ar116.2.1) (g := (mkF m 4 #[.val (.ref a1)] [(.ref b1)])) rfl rfl (hb hby d_jdk_42_method_54_code_4)) ?_
  rw [oLen Sz116]
  show Rch p e below K T115 (mkF m 5 #[.val (.ref a1)] [(.int (Int32.ofNat n))])
  refine Rch.of (T' := T115) (g' := (mkF m 6 #[.val (.ref a1)] [(.ref a1), (.int (Int32.ofNat n))])) (fun _ kt => XS.aloadN X115.here hx rfl (hb hby d_jdk_42_method_54_code_5) rfl rfl kt) ?_
  obtain ⟨cq117, kq117, q117a, q117b, q117c⟩ := isOf hZ e115 E1
  obtain ⟨_, _, ⟨T117, L117, k117, n117⟩, -, X117, ⟨Lc117, hQ117, l117, y117, z117⟩, st117⟩ := X115.virtualBack hx (y := (⟨"java/lang/String", "coder", "()B"⟩ : MethodName)) (z := (⟨"java/lang/String", "coder", "()B"⟩ : MethodName)) hown (mvT hZ (hw _ (List.mem_of_getElem? (i := 43) rfl))) (mvT hZ (hw _ (List.mem_of_getElem? (i := 44) rfl))) (notFace_of_selects (args := #[]) (mvT hZ (hw _ (List.mem_of_getElem? (i := 46) rfl)))) (mvT hZ (hw _ (List.mem_of_getElem? (i := 46) rfl))) (mvT hZ (hw _ (List.mem_of_getElem? (i := 45) rfl))) (by decide) (backOf (W := 1) (rqCD l Z a0 hw [] a1 cs h0 n0 Z0 F1 SC hcs) hZ (hw _ (List.mem_of_getElem? (i := 47) rfl)) (hw _ (List.mem_of_getElem? (i := 10) rfl)) (by decide) (by decide)) q117a q117c (g := (mkF m 6 #[.val (.ref a1)] [(.ref a1), (.int (Int32.ofNat n))])) rfl (by rw [hml]; rfl) (Steps.refl _) (argsL := []) (rest := [(.int (Int32.ofNat n))]) (lenOf pd_8 rfl) rfl (by show 2 * 0 + _ ≤ _; exact Nat.le_of_eq rfl) (hb hby d_jdk_42_method_54_code_6) (fun _ _ => ⟨rfl, e115, (by decide : 0 + 0 ≤ _), (by decide : 0 + 0 ≤ _)⟩)
  dsimp only [Pt.U, Pt.locs, Pt.cells, Pt.slots] at X117 l117 y117 z117 st117 hQ117
  subst l117 y117 z117
  obtain ⟨rfl, N117q, hQ117⟩ := hQ117
  have N117 := Fr.app N0 N117q
  refine Rch.via (T' := T117) (g' := (mkF m 9 #[.val (.ref a1)] [(.int (0 : Int32)), (.int (Int32.ofNat n))])) st117 ?_
  refine Rch.of (T' := T117) (g' := (mkF m 10 #[.val (.ref a1)] [(.int ((Int32.ofNat n) >>> ((0 : Int32) &&& 31)))])) (fun _ kt => XS.ishr X117.here hx rfl (hb hby d_jdk_42_method_54_code_9) rfl kt) ?_
  exact Rch.retI X117 hx hret hlk (hb hby d_jdk_42_method_54_code_10) (fun U hU hF => hK _ U _ _ _ (by show Q_rqLE Z a1 b1 n y cs h0 n0 _ U.heap _; rw [hU, hQ117]; exact ⟨congrArg (fun q => some (Value.int q)) (own_sh0 _), N117, rfl⟩) hF (by decide) (by decide))
theorem pn_2 : plainName "jdk/internal/util/Preconditions" = true := by first | (simp [plainName, overriddenIn]; done) | decide +kernel
theorem ef_rqK2n (m : MethodId)  : entryFrame m #[(.int (Int32.ofNat i)), (.int (Int32.ofNat n)), .null] 3 = mkF m 0 #[.val (.int (Int32.ofNat i)), .val (.int (Int32.ofNat n)), .val .null] [] := by first | (simp [entryFrame, mkF, argsToLocals, Value.category]; done) | rfl
def Q_rqK2n (Z : State) (i : Nat) (n : Nat) (h0 : Heap) (n0 : Nat) (vv_ : Option Value) (h : Heap) (LL_ : List Loc) : Prop := vv_ = some (.int (Int32.ofNat i)) ∧ Fr n0 LL_ ∧ (h = h0)
theorem d_jdk_41_method_11_code_0 : decode jdk_41_method_11_code 0 = .ok (.iload_n 0, 1) := by decide +kernel
theorem d_jdk_41_method_11_code_1 : decode jdk_41_method_11_code 1 = .ok (.ifCond .lt 8, 3) := by decide +kernel
theorem d_jdk_41_method_11_code_4 : decode jdk_41_method_11_code 4 = .ok (.iload_n 0, 1) := by decide +kernel
theorem d_jdk_41_method_11_code_5 : decode jdk_41_method_11_code 5 = .ok (.iload_n 1, 1) := by decide +kernel
theorem d_jdk_41_method_11_code_6 : decode jdk_41_method_11_code 6 = .ok (.if_icmp .lt 10, 3) := by decide +kernel
theorem d_jdk_41_method_11_code_16 : decode jdk_41_method_11_code 16 = .ok (.iload_n 0, 1) := by decide +kernel
theorem d_jdk_41_method_11_code_17 : decode jdk_41_method_11_code 17 = .ok (.ireturn, 1) := by decide +kernel
set_option maxRecDepth 65536 in
set_option maxHeartbeats 40000000 in
theorem rqK2n (l : Launch) (Z : State) (a0 : Array Value) (hw : ∀ d ∈ tables_1, d.before a0 Z = true) (ws : List Jvm.Cond) (i : Nat) (n : Nat) (h0 : Heap) (n0 : Nat) (Z0 : n0 ≤ h0.size) (hi : i < n) (hn : n ≤ 5) :
    MetFree l (⟨"jdk/internal/util/Preconditions", "checkIndex", "(IILjava/util/function/BiFunction;)I"⟩ : MethodName) (head1 (Jvm.Cond.code (⟨"jdk/internal/util/Preconditions", "checkIndex", "(IILjava/util/function/BiFunction;)I"⟩ : MethodName) jdk_41_method_11_code 3 (some .int) :: ws) ({ frames := 0, cells := 0, slots := 0, locals := 0 } : Room)) (fun aa_ UU_ => aa_ = #[(.int (Int32.ofNat i)), (.int (Int32.ofNat n)), .null] ∧ Z.Warmed39 UU_.vm ∧ UU_.heap = h0) (fun _ _ _ _ _ => True) (fun _ UU_ oo_ VV_ => ∃ vv_ LL_, oo_ = .returned vv_ ∧ Q_rqK2n Z i n h0 n0 vv_ VV_.heap LL_ ∧ FrameEnd UU_ oo_ VV_ LL_ ({ frames := 0, cells := 0, slots := 0, locals := 0 } : Room).cells ({ frames := 0, cells := 0, slots := 0, locals := 0 } : Room).slots) := by
  refine own_met (y := (⟨"jdk/internal/util/Preconditions", "checkIndex", "(IILjava/util/function/BiFunction;)I"⟩ : MethodName)) (plainFor_of_name pn_2) ?_
  intro p e s m below meth c T0 K hx hby hml hret hlk hown hnm hZ X0 e0 hK
  have N0 := Fr.nil n0
  refine Rch.cast (ef_rqK2n m ) ?_
  have kn118 : ¬ ((Int32.ofNat i) < (0 : Int32)) := own_nneg (by omega)
  have kn119 : (Int32.ofNat i) < (Int32.ofNat n) := own_lt3 hi (by omega)
  refine Rch.of (T' := T0) (g' := (mkF m 1 #[.val (.int (Int32.ofNat i)), .val (.int (Int32.ofNat n)), .val .null] [(.int (Int32.ofNat i))])) (fun _ kt => XS.iloadN X0.here hx rfl (hb hby d_jdk_41_method_11_code_0) rfl  kt) ?_
  refine Rch.of (T' := T0) (g' := (mkF m 4 #[.val (.int (Int32.ofNat i)), .val (.int (Int32.ofNat n)), .val .null] [])) (fun _ kt => XS.ifNo X0.here hx rfl (hb hby d_jdk_41_method_11_code_1) rfl ((if0 _ _).trans (flt kn118).1) kt) ?_
  refine Rch.of (T' := T0) (g' := (mkF m 5 #[.val (.int (Int32.ofNat i)), .val (.int (Int32.ofNat n)), .val .null] [(.int (Int32.ofNat i))])) (fun _ kt => XS.iloadN X0.here hx rfl (hb hby d_jdk_41_method_11_code_4) rfl  kt) ?_
  refine Rch.of (T' := T0) (g' := (mkF m 6 #[.val (.int (Int32.ofNat i)), .val (.int (Int32.ofNat n)), .val .null] [(.int (Int32.ofNat n)), (.int (Int32.ofNat i))])) (fun _ kt => XS.iloadN X0.here hx rfl (hb hby d_jdk_41_method_11_code_5) rfl  kt) ?_
  refine Rch.of (T' := T0) (g' := (mkF m 16 #[.val (.int (Int32.ofNat i)), .val (.int (Int32.ofNat n)), .val .null] [])) (fun _ kt => XS.icmpYes X0.here hx rfl (pc0 := 6) (pc' := 16) rfl (hb hby d_jdk_41_method_11_code_6) rfl (tlt kn119).1 (by decide) (by decide) kt) ?_
  refine Rch.of (T' := T0) (g' := (mkF m 17 #[.val (.int (Int32.ofNat i)), .val (.int (Int32.ofNat n)), .val .null] [(.int (Int32.ofNat i))])) (fun _ kt => XS.iloadN X0.here hx rfl (hb hby d_jdk_41_method_11_code_16) rfl  kt) ?_
  exact Rch.retI X0 hx hret hlk (hb hby d_jdk_41_method_11_code_17) (fun U hU hF => hK _ U _ _ _ (by show Q_rqK2n Z i n h0 n0 _ U.heap _; rw [hU, e0]; exact ⟨rfl, N0, rfl⟩) hF (by decide) (by decide))
theorem ef_rqK2r (m : MethodId) (a3 : Addr) : entryFrame m #[(.int (Int32.ofNat i)), (.int (Int32.ofNat n)), (.ref a3)] 3 = mkF m 0 #[.val (.int (Int32.ofNat i)), .val (.int (Int32.ofNat n)), .val (.ref a3)] [] := by first | (simp [entryFrame, mkF, argsToLocals, Value.category]; done) | rfl
def Q_rqK2r (Z : State) (i : Nat) (n : Nat) (a3 : Addr) (h0 : Heap) (n0 : Nat) (vv_ : Option Value) (h : Heap) (LL_ : List Loc) : Prop := vv_ = some (.int (Int32.ofNat i)) ∧ Fr n0 LL_ ∧ (h = h0)
set_option maxRecDepth 65536 in
set_option maxHeartbeats 40000000 in
theorem rqK2r (l : Launch) (Z : State) (a0 : Array Value) (hw : ∀ d ∈ tables_1, d.before a0 Z = true) (ws : List Jvm.Cond) (i : Nat) (n : Nat) (a3 : Addr) (h0 : Heap) (n0 : Nat) (Z0 : n0 ≤ h0.size) (hi : i < n) (hn : n ≤ 5) :
    MetFree l (⟨"jdk/internal/util/Preconditions", "checkIndex", "(IILjava/util/function/BiFunction;)I"⟩ : MethodName) (head1 (Jvm.Cond.code (⟨"jdk/internal/util/Preconditions", "checkIndex", "(IILjava/util/function/BiFunction;)I"⟩ : MethodName) jdk_41_method_11_code 3 (some .int) :: ws) ({ frames := 0, cells := 0, slots := 0, locals := 0 } : Room)) (fun aa_ UU_ => aa_ = #[(.int (Int32.ofNat i)), (.int (Int32.ofNat n)), (.ref a3)] ∧ Z.Warmed39 UU_.vm ∧ UU_.heap = h0) (fun _ _ _ _ _ => True) (fun _ UU_ oo_ VV_ => ∃ vv_ LL_, oo_ = .returned vv_ ∧ Q_rqK2r Z i n a3 h0 n0 vv_ VV_.heap LL_ ∧ FrameEnd UU_ oo_ VV_ LL_ ({ frames := 0, cells := 0, slots := 0, locals := 0 } : Room).cells ({ frames := 0, cells := 0, slots := 0, locals := 0 } : Room).slots) := by
  refine own_met (y := (⟨"jdk/internal/util/Preconditions", "checkIndex", "(IILjava/util/function/BiFunction;)I"⟩ : MethodName)) (plainFor_of_name pn_2) ?_
  intro p e s m below meth c T0 K hx hby hml hret hlk hown hnm hZ X0 e0 hK
  have N0 := Fr.nil n0
  refine Rch.cast (ef_rqK2r m a3) ?_
  have kn120 : ¬ ((Int32.ofNat i) < (0 : Int32)) := own_nneg (by omega)
  have kn121 : (Int32.ofNat i) < (Int32.ofNat n) := own_lt3 hi (by omega)
  refine Rch.of (T' := T0) (g' := (mkF m 1 #[.val (.int (Int32.ofNat i)), .val (.int (Int32.ofNat n)), .val (.ref a3)] [(.int (Int32.ofNat i))])) (fun _ kt => XS.iloadN X0.here hx rfl (hb hby d_jdk_41_method_11_code_0) rfl  kt) ?_
  refine Rch.of (T' := T0) (g' := (mkF m 4 #[.val (.int (Int32.ofNat i)), .val (.int (Int32.ofNat n)), .val (.ref a3)] [])) (fun _ kt => XS.ifNo X0.here hx rfl (hb hby d_jdk_41_method_11_code_1) rfl ((if0 _ _).trans (flt kn120).1) kt) ?_
  refine Rch.of (T' := T0) (g' := (mkF m 5 #[.val (.int (Int32.ofNat i)), .val (.int (Int32.ofNat n)), .val (.ref a3)] [(.int (Int32.ofNat i))])) (fun _ kt => XS.iloadN X0.here hx rfl (hb hby d_jdk_41_method_11_code_4) rfl  kt) ?_
  refine Rch.of (T' := T0) (g' := (mkF m 6 #[.val (.int (Int32.ofNat i)), .val (.int (Int32.ofNat n)), .val (.ref a3)] [(.int (Int32.ofNat n)), (.int (Int32.ofNat i))])) (fun _ kt => XS.iloadN X0.here hx rfl (hb hby d_jdk_41_method_11_code_5) rfl  kt) ?_
  refine Rch.of (T' := T0) (g' := (mkF m 16 #[.val (.int (Int32.ofNat i)), .val (.int (Int32.ofNat n)), .val (.ref a3)] [])) (fun _ kt => XS.icmpYes X0.here hx rfl (pc0 := 6) (pc' := 16) rfl (hb hby d_jdk_41_method_11_code_6) rfl (tlt kn121).1 (by decide) (by decide) kt) ?_
  refine Rch.of (T' := T0) (g' := (mkF m 17 #[.val (.int (Int32.ofNat i)), .val (.int (Int32.ofNat n)), .val (.ref a3)] [(.int (Int32.ofNat i))])) (fun _ kt => XS.iloadN X0.here hx rfl (hb hby d_jdk_41_method_11_code_16) rfl  kt) ?_
  exact Rch.retI X0 hx hret hlk (hb hby d_jdk_41_method_11_code_17) (fun U hU hF => hK _ U _ _ _ (by show Q_rqK2r Z i n a3 h0 n0 _ U.heap _; rw [hU, e0]; exact ⟨rfl, N0, rfl⟩) hF (by decide) (by decide))
theorem ef_rqK1 (m : MethodId)  : entryFrame m #[(.int (Int32.ofNat i)), (.int (Int32.ofNat n))] 2 = mkF m 0 #[.val (.int (Int32.ofNat i)), .val (.int (Int32.ofNat n))] [] := by first | (simp [entryFrame, mkF, argsToLocals, Value.category]; done) | rfl
def Q_rqK1 (Z : State) (i : Nat) (n : Nat) (sv : Value) (h0 : Heap) (n0 : Nat) (vv_ : Option Value) (h : Heap) (LL_ : List Loc) : Prop := vv_ = none ∧ Fr n0 LL_ ∧ (h = h0)
theorem d_jdk_42_method_155_code_0 : decode jdk_42_method_155_code 0 = .ok (.iload_n 0, 1) := by decide +kernel
theorem d_jdk_42_method_155_code_1 : decode jdk_42_method_155_code 1 = .ok (.iload_n 1, 1) := by decide +kernel
theorem d_jdk_42_method_155_code_2 : decode jdk_42_method_155_code 2 = .ok (.getstatic 1053, 3) := by decide +kernel
theorem d_jdk_42_method_155_code_5 : decode jdk_42_method_155_code 5 = .ok (.invokestatic 1059, 3) := by decide +kernel
theorem d_jdk_42_method_155_code_8 : decode jdk_42_method_155_code 8 = .ok (.pop, 1) := by decide +kernel
theorem d_jdk_42_method_155_code_9 : decode jdk_42_method_155_code 9 = .ok (.return_, 1) := by decide +kernel
set_option maxRecDepth 65536 in
set_option maxHeartbeats 40000000 in
theorem rqK1 (l : Launch) (Z : State) (a0 : Array Value) (hw : ∀ d ∈ tables_1, d.before a0 Z = true) (ws : List Jvm.Cond) (i : Nat) (n : Nat) (sv : Value) (h0 : Heap) (n0 : Nat) (Z0 : n0 ≤ h0.size) (hi : i < n) (hn : n ≤ 5) (SI : Sta Z h0 "jdk/internal/util/Preconditions" "SIOOBE_FORMATTER" "Ljava/util/function/BiFunction;" sv) (hsv : sv.isRef = true) :
    MetFree l (⟨"java/lang/String", "checkIndex", "(II)V"⟩ : MethodName) (head1 (Jvm.Cond.code (⟨"java/lang/String", "checkIndex", "(II)V"⟩ : MethodName) jdk_42_method_155_code 2 none :: ws) ({ frames := 1, cells := 0, slots := 0, locals := 14 } : Room)) (fun aa_ UU_ => aa_ = #[(.int (Int32.ofNat i)), (.int (Int32.ofNat n))] ∧ Z.Warmed39 UU_.vm ∧ UU_.heap = h0) (fun _ _ _ _ _ => True) (fun _ UU_ oo_ VV_ => ∃ vv_ LL_, oo_ = .returned vv_ ∧ Q_rqK1 Z i n sv h0 n0 vv_ VV_.heap LL_ ∧ FrameEnd UU_ oo_ VV_ LL_ ({ frames := 1, cells := 0, slots := 0, locals := 14 } : Room).cells ({ frames := 1, cells := 0, slots := 0, locals := 14 } : Room).slots) := by
  refine own_met (y := (⟨"java/lang/String", "checkIndex", "(II)V"⟩ : MethodName)) (plainFor_of_name pn_1) ?_
  intro p e s m below meth c T0 K hx hby hml hret hlk hown hnm hZ X0 e0 hK
  have N0 := Fr.nil n0
  refine Rch.cast (ef_rqK1 m ) ?_
  rcases ref_cases hsv with es_ | ⟨q1_, es_⟩
  · skip
    have SI2 : Sta Z h0 "jdk/internal/util/Preconditions" "SIOOBE_FORMATTER" "Ljava/util/function/BiFunction;" .null := by rw [← es_]; exact SI
    refine Rch.of (T' := T0) (g' := (mkF m 1 #[.val (.int (Int32.ofNat i)), .val (.int (Int32.ofNat n))] [(.int (Int32.ofNat i))])) (fun _ kt => XS.iloadN X0.here hx rfl (hb hby d_jdk_42_method_155_code_0) rfl  kt) ?_
    refine Rch.of (T' := T0) (g' := (mkF m 2 #[.val (.int (Int32.ofNat i)), .val (.int (Int32.ofNat n))] [(.int (Int32.ofNat n)), (.int (Int32.ofNat i))])) (fun _ kt => XS.iloadN X0.here hx rfl (hb hby d_jdk_42_method_155_code_1) rfl  kt) ?_
    obtain ⟨T122, X122, e122, st122⟩ := getS2 X0 hx hZ hown (host := "") (Or.inl (hw _ (List.mem_of_getElem? (i := 83) rfl))) Via.refl e0 SI2 (g := (mkF m 2 #[.val (.int (Int32.ofNat i)), .val (.int (Int32.ofNat n))] [(.int (Int32.ofNat n)), (.int (Int32.ofNat i))])) rfl (hb hby d_jdk_42_method_155_code_2)
    refine Rch.of (T' := T122) (g' := (mkF m 5 #[.val (.int (Int32.ofNat i)), .val (.int (Int32.ofNat n))] [.null, (.int (Int32.ofNat n)), (.int (Int32.ofNat i))])) st122 ?_
    have pr124 : i < n := by omega
    have pr125 : n ≤ 5 := by omega
    obtain ⟨_, _, ⟨T123, L123, k123, n123⟩, -, X123, ⟨Lc123, hQ123, l123, y123, z123⟩, st123⟩ := Jvm.LawKit.callS X122 hx (y := (⟨"jdk/internal/util/Preconditions", "checkIndex", "(IILjava/util/function/BiFunction;)I"⟩ : MethodName)) hown (mvT hZ (hw _ (List.mem_of_getElem? (i := 165) rfl))) (mvT hZ (hw _ (List.mem_of_getElem? (i := 166) rfl))) (mvT hZ (hw _ (List.mem_of_getElem? (i := 84) rfl))) (mvT hZ (hw _ (List.mem_of_getElem? (i := 167) rfl))) (by decide) (backOf (W := 0) (rqK2n l Z a0 hw [] i n h0 n0 Z0 pr124 pr125) hZ (hw _ (List.mem_of_getElem? (i := 167) rfl)) (hw _ (List.mem_of_getElem? (i := 84) rfl)) (by decide) (by decide)) (g := (mkF m 5 #[.val (.int (Int32.ofNat i)), .val (.int (Int32.ofNat n))] [.null, (.int (Int32.ofNat n)), (.int (Int32.ofNat i))])) rfl (by rw [hml]; rfl) (argsL := [(.int (Int32.ofNat i)), (.int (Int32.ofNat n)), .null]) (rest := []) (lenOf pd_30 rfl) rfl (by show 2 * 0 + _ ≤ _; exact Nat.le_of_eq rfl) (hb hby d_jdk_42_method_155_code_5) (fun _ _ => ⟨rfl, e122, (by decide : 0 + 0 ≤ _), (by decide : 0 + 0 ≤ _)⟩)
    dsimp only [Pt.U, Pt.locs, Pt.cells, Pt.slots] at X123 l123 y123 z123 st123 hQ123
    subst l123 y123 z123
    obtain ⟨rfl, N123q, hQ123⟩ := hQ123
    have N123 := Fr.app N0 N123q
    refine Rch.of (T' := T123) (g' := (mkF m 8 #[.val (.int (Int32.ofNat i)), .val (.int (Int32.ofNat n))] [(.int (Int32.ofNat i))])) st123 ?_
    refine Rch.of (T' := T123) (g' := (mkF m 9 #[.val (.int (Int32.ofNat i)), .val (.int (Int32.ofNat n))] [])) (fun _ kt => XS.pop X123.here hx rfl (hb hby d_jdk_42_method_155_code_8) rfl rfl kt) ?_
    exact Rch.retV X123 hx hret hlk (hb hby d_jdk_42_method_155_code_9) (fun U hU hF => hK _ U _ _ _ (by show Q_rqK1 Z i n sv h0 n0 _ U.heap _; rw [hU, hQ123]; exact ⟨rfl, N123, rfl⟩) hF (by decide) (by decide))
  · skip
    have SI2 : Sta Z h0 "jdk/internal/util/Preconditions" "SIOOBE_FORMATTER" "Ljava/util/function/BiFunction;" (.ref q1_) := by rw [← es_]; exact SI
    refine Rch.of (T' := T0) (g' := (mkF m 1 #[.val (.int (Int32.ofNat i)), .val (.int (Int32.ofNat n))] [(.int (Int32.ofNat i))])) (fun _ kt => XS.iloadN X0.here hx rfl (hb hby d_jdk_42_method_155_code_0) rfl  kt) ?_
    refine Rch.of (T' := T0) (g' := (mkF m 2 #[.val (.int (Int32.ofNat i)), .val (.int (Int32.ofNat n))] [(.int (Int32.ofNat n)), (.int (Int32.ofNat i))])) (fun _ kt => XS.iloadN X0.here hx rfl (hb hby d_jdk_42_method_155_code_1) rfl  kt) ?_
    obtain ⟨T126, X126, e126, st126⟩ := getS2 X0 hx hZ hown (host := "") (Or.inl (hw _ (List.mem_of_getElem? (i := 83) rfl))) Via.refl e0 SI2 (g := (mkF m 2 #[.val (.int (Int32.ofNat i)), .val (.int (Int32.ofNat n))] [(.int (Int32.ofNat n)), (.int (Int32.ofNat i))])) rfl (hb hby d_jdk_42_method_155_code_2)
    refine Rch.of (T' := T126) (g' := (mkF m 5 #[.val (.int (Int32.ofNat i)), .val (.int (Int32.ofNat n))] [(.ref q1_), (.int (Int32.ofNat n)), (.int (Int32.ofNat i))])) st126 ?_
    have pr128 : i < n := by omega
    have pr129 : n ≤ 5 := by omega
    obtain ⟨_, _, ⟨T127, L127, k127, n127⟩, -, X127, ⟨Lc127, hQ127, l127, y127, z127⟩, st127⟩ := Jvm.LawKit.callS X126 hx (y := (⟨"jdk/internal/util/Preconditions", "checkIndex", "(IILjava/util/function/BiFunction;)I"⟩ : MethodName)) hown (mvT hZ (hw _ (List.mem_of_getElem? (i := 165) rfl))) (mvT hZ (hw _ (List.mem_of_getElem? (i := 166) rfl))) (mvT hZ (hw _ (List.mem_of_getElem? (i := 84) rfl))) (mvT hZ (hw _ (List.mem_of_getElem? (i := 167) rfl))) (by decide) (backOf (W := 0) (rqK2r l Z a0 hw [] i n q1_ h0 n0 Z0 pr128 pr129) hZ (hw _ (List.mem_of_getElem? (i := 167) rfl)) (hw _ (List.mem_of_getElem? (i := 84) rfl)) (by decide) (by decide)) (g := (mkF m 5 #[.val (.int (Int32.ofNat i)), .val (.int (Int32.ofNat n))] [(.ref q1_), (.int (Int32.ofNat n)), (.int (Int32.ofNat i))])) rfl (by rw [hml]; rfl) (argsL := [(.int (Int32.ofNat i)), (.int (Int32.ofNat n)), (.ref q1_)]) (rest := []) (lenOf pd_30 rfl) rfl (by show 2 * 0 + _ ≤ _; exact Nat.le_of_eq rfl) (hb hby d_jdk_42_method_155_code_5) (fun _ _ => ⟨rfl, e126, (by decide : 0 + 0 ≤ _), (by decide : 0 + 0 ≤ _)⟩)
    dsimp only [Pt.U, Pt.locs, Pt.cells, Pt.slots] at X127 l127 y127 z127 st127 hQ127
    subst l127 y127 z127
    obtain ⟨rfl, N127q, hQ127⟩ := hQ127
    have N127 := Fr.app N0 N127q
    refine Rch.of (T' := T127) (g' := (mkF m 8 #[.val (.int (Int32.ofNat i)), .val (.int (Int32.ofNat n))] [(.int (Int32.ofNat i))])) st127 ?_
    refine Rch.of (T' := T127) (g' := (mkF m 9 #[.val (.int (Int32.ofNat i)), .val (.int (Int32.ofNat n))] [])) (fun _ kt => XS.pop X127.here hx rfl (hb hby d_jdk_42_method_155_code_8) rfl rfl kt) ?_
    exact Rch.retV X127 hx hret hlk (hb hby d_jdk_42_method_155_code_9) (fun U hU hF => hK _ U _ _ _ (by show Q_rqK1 Z i n sv h0 n0 _ U.heap _; rw [hU, hQ127]; exact ⟨rfl, N127, rfl⟩) hF (by decide) (by decide))
theorem pn_3 : plainName "java/lang/StringLatin1" = true := by first | (simp [plainName, overriddenIn]; done) | decide +kernel
theorem ef_rqC1 (m : MethodId) (b1 : Addr) : entryFrame m #[(.ref b1), (.int (Int32.ofNat i))] 2 = mkF m 0 #[.val (.ref b1), .val (.int (Int32.ofNat i))] [] := by first | (simp [entryFrame, mkF, argsToLocals, Value.category]; done) | rfl
def Q_rqC1 (Z : State) (b1 : Addr) (n : Nat) (y : Nat → Int32) (i : Nat) (sv : Value) (h0 : Heap) (n0 : Nat) (vv_ : Option Value) (h : Heap) (LL_ : List Loc) : Prop := vv_ = some (.int (y i)) ∧ Fr n0 LL_ ∧ (h = h0)
theorem d_jdk_43_method_2_code_0 : decode jdk_43_method_2_code 0 = .ok (.iload_n 1, 1) := by decide +kernel
theorem d_jdk_43_method_2_code_1 : decode jdk_43_method_2_code 1 = .ok (.aload_n 0, 1) := by decide +kernel
theorem d_jdk_43_method_2_code_2 : decode jdk_43_method_2_code 2 = .ok (.arraylength, 1) := by decide +kernel
theorem d_jdk_43_method_2_code_3 : decode jdk_43_method_2_code 3 = .ok (.invokestatic 9, 3) := by decide +kernel
theorem d_jdk_43_method_2_code_6 : decode jdk_43_method_2_code 6 = .ok (.aload_n 0, 1) := by decide +kernel
theorem d_jdk_43_method_2_code_7 : decode jdk_43_method_2_code 7 = .ok (.iload_n 1, 1) := by decide +kernel
theorem d_jdk_43_method_2_code_8 : decode jdk_43_method_2_code 8 = .ok (.baload, 1) := by decide +kernel
theorem d_jdk_43_method_2_code_9 : decode jdk_43_method_2_code 9 = .ok (.sipush 255, 3) := by decide +kernel
theorem d_jdk_43_method_2_code_12 : decode jdk_43_method_2_code 12 = .ok (.iand, 1) := by decide +kernel
theorem d_jdk_43_method_2_code_13 : decode jdk_43_method_2_code 13 = .ok (.i2c, 1) := by decide +kernel
theorem d_jdk_43_method_2_code_14 : decode jdk_43_method_2_code 14 = .ok (.ireturn, 1) := by decide +kernel
set_option maxRecDepth 65536 in
set_option maxHeartbeats 40000000 in
theorem rqC1 (l : Launch) (Z : State) (a0 : Array Value) (hw : ∀ d ∈ tables_1, d.before a0 Z = true) (ws : List Jvm.Cond) (b1 : Addr) (n : Nat) (y : Nat → Int32) (i : Nat) (sv : Value) (h0 : Heap) (n0 : Nat) (Z0 : n0 ≤ h0.size) (V1 : Av Z h0 b1 .byte n (fun q => .int ((y q).toInt8.toInt32))) (hi : i < n) (hn : n ≤ 5) (hy : own_ch n y) (SI : Sta Z h0 "jdk/internal/util/Preconditions" "SIOOBE_FORMATTER" "Ljava/util/function/BiFunction;" sv) (hsv : sv.isRef = true) :
    MetFree l (⟨"java/lang/StringLatin1", "charAt", "([BI)C"⟩ : MethodName) (head1 (Jvm.Cond.code (⟨"java/lang/StringLatin1", "charAt", "([BI)C"⟩ : MethodName) jdk_43_method_2_code 2 (some .char) :: ws) ({ frames := 2, cells := 0, slots := 0, locals := 27 } : Room)) (fun aa_ UU_ => aa_ = #[(.ref b1), (.int (Int32.ofNat i))] ∧ Z.Warmed39 UU_.vm ∧ UU_.heap = h0) (fun _ _ _ _ _ => True) (fun _ UU_ oo_ VV_ => ∃ vv_ LL_, oo_ = .returned vv_ ∧ Q_rqC1 Z b1 n y i sv h0 n0 vv_ VV_.heap LL_ ∧ FrameEnd UU_ oo_ VV_ LL_ ({ frames := 2, cells := 0, slots := 0, locals := 27 } : Room).cells ({ frames := 2, cells := 0, slots := 0, locals := 27 } : Room).slots) := by
  refine own_met (y := (⟨"java/lang/StringLatin1", "charAt", "([BI)C"⟩ : MethodName)) (plainFor_of_name pn_3) ?_
  intro p e s m below meth c T0 K hx hby hml hret hlk hown hnm hZ X0 e0 hK
  have N0 := Fr.nil n0
  refine Rch.cast (ef_rqC1 m b1) ?_
  have ti : (Int32.ofNat i).toInt = (i : Int) := oTo (by omega)
  refine Rch.of (T' := T0) (g' := (mkF m 1 #[.val (.ref b1), .val (.int (Int32.ofNat i))] [(.int (Int32.ofNat i))])) (fun _ kt => XS.iloadN X0.here hx rfl (hb hby d_jdk_43_method_2_code_0) rfl  kt) ?_
  refine Rch.of (T' := T0) (g' := (mkF m 2 #[.val (.ref b1), .val (.int (Int32.ofNat i))] [(.ref b1), (.int (Int32.ofNat i))])) (fun _ kt => XS.aloadN X0.here hx rfl (hb hby d_jdk_43_method_2_code_1) rfl rfl kt) ?_
  obtain ⟨cl130, Ar130, Sz130, Ha130⟩ := id V1
  refine Rch.of (T' := T0) (g' := (mkF m 3 #[.val (.ref b1), .val (.int (Int32.ofNat i))] [(.int cl130.slots.size.toInt32), (.int (Int32.ofNat i))])) (X0.arraylength hx (by rw [e0]; exact Ar130.1) (State.isArrayOf_alike hZ.alike Ar130.2.1) (g := (mkF m 2 #[.val (.ref b1), .val (.int (Int32.ofNat i))] [(.ref b1), (.int (Int32.ofNat i))])) rfl rfl (hb hby d_jdk_43_method_2_code_2)) ?_
  rw [oLen Sz130]
  show Rch p e below K T0 (mkF m 3 #[.val (.ref b1), .val (.int (Int32.ofNat i))] [(.int (Int32.ofNat n)), (.int (Int32.ofNat i))])
  have pr132 : i < n := by omega
  have pr133 : n ≤ 5 := by omega
  obtain ⟨_, _, ⟨T131, L131, k131, n131⟩, -, X131, ⟨Lc131, hQ131, l131, y131, z131⟩, st131⟩ := Jvm.LawKit.callS X0 hx (y := (⟨"java/lang/String", "checkIndex", "(II)V"⟩ : MethodName)) hown (mvT hZ (hw _ (List.mem_of_getElem? (i := 162) rfl))) (mvT hZ (hw _ (List.mem_of_getElem? (i := 163) rfl))) (mvT hZ (hw _ (List.mem_of_getElem? (i := 10) rfl))) (mvT hZ (hw _ (List.mem_of_getElem? (i := 164) rfl))) (by decide) (backOf (W := 0) (rqK1 l Z a0 hw [] i n sv h0 n0 Z0 pr132 pr133 SI hsv) hZ (hw _ (List.mem_of_getElem? (i := 164) rfl)) (hw _ (List.mem_of_getElem? (i := 10) rfl)) (by decide) (by decide)) (g := (mkF m 3 #[.val (.ref b1), .val (.int (Int32.ofNat i))] [(.int (Int32.ofNat n)), (.int (Int32.ofNat i))])) rfl (by rw [hml]; rfl) (argsL := [(.int (Int32.ofNat i)), (.int (Int32.ofNat n))]) (rest := []) (lenOf pd_26 rfl) rfl (by show 2 * 0 + _ ≤ _; exact Nat.le_of_eq rfl) (hb hby d_jdk_43_method_2_code_3) (fun _ _ => ⟨rfl, e0, (by decide : 0 + 0 ≤ _), (by decide : 0 + 0 ≤ _)⟩)
  dsimp only [Pt.U, Pt.locs, Pt.cells, Pt.slots] at X131 l131 y131 z131 st131 hQ131
  subst l131 y131 z131
  obtain ⟨rfl, N131q, hQ131⟩ := hQ131
  have N131 := Fr.app N0 N131q
  refine Rch.of (T' := T131) (g' := (mkF m 6 #[.val (.ref b1), .val (.int (Int32.ofNat i))] [])) st131 ?_
  refine Rch.of (T' := T131) (g' := (mkF m 7 #[.val (.ref b1), .val (.int (Int32.ofNat i))] [(.ref b1)])) (fun _ kt => XS.aloadN X131.here hx rfl (hb hby d_jdk_43_method_2_code_6) rfl rfl kt) ?_
  refine Rch.of (T' := T131) (g' := (mkF m 8 #[.val (.ref b1), .val (.int (Int32.ofNat i))] [(.int (Int32.ofNat i)), (.ref b1)])) (fun _ kt => XS.iloadN X131.here hx rfl (hb hby d_jdk_43_method_2_code_7) rfl  kt) ?_
  obtain ⟨cl134, Ar134, Sz134, Ha134⟩ := id V1
  refine Rch.of (T' := T131) (g' := (mkF m 9 #[.val (.ref b1), .val (.int (Int32.ofNat i))] [(.int ((fun q => (y q).toInt8.toInt32) i))])) (X131.baloadBytes hx (j := (Int32.ofNat i)) (v := (.int ((fun q => (y q).toInt8.toInt32) i))) (by rw [hQ131]; exact Ar134.1) (State.isArrayOf_alike hZ.alike Ar134.2.1) Ar134.2.2 (oIn (i := i) Sz134 ti hi) (oAt (i := i) Ha134 ti hi) (g := (mkF m 8 #[.val (.ref b1), .val (.int (Int32.ofNat i))] [(.int (Int32.ofNat i)), (.ref b1)])) rfl rfl (hb hby d_jdk_43_method_2_code_8)) ?_
  refine Rch.of (T' := T131) (g' := (mkF m 12 #[.val (.ref b1), .val (.int (Int32.ofNat i))] [(.int (255 : Int32)), (.int ((fun q => (y q).toInt8.toInt32) i))])) (fun _ kt => XS.sipush X131.here hx rfl (hb hby d_jdk_43_method_2_code_9) kt) ?_
  refine Rch.of (T' := T131) (g' := (mkF m 13 #[.val (.ref b1), .val (.int (Int32.ofNat i))] [(.int (((fun q => (y q).toInt8.toInt32) i) &&& (255 : Int32)))])) (fun _ kt => XS.iand X131.here hx rfl (hb hby d_jdk_43_method_2_code_12) rfl kt) ?_
  refine Rch.of (T' := T131) (g' := (mkF m 14 #[.val (.ref b1), .val (.int (Int32.ofNat i))] [(.int ((((fun q => (y q).toInt8.toInt32) i) &&& (255 : Int32)).toUInt32.toUInt16.toUInt32.toInt32))])) (fun _ kt => XS.i2c X131.here hx rfl (hb hby d_jdk_43_method_2_code_13) rfl kt) ?_
  exact Rch.retN X131 hx (t := .char) hret (by simp) hlk (hb hby d_jdk_43_method_2_code_14) (fun U hU hF => hK _ U _ _ _ (by show Q_rqC1 Z b1 n y i sv h0 n0 _ U.heap _; rw [hU, hQ131]; exact ⟨congrArg (fun q => some (Value.int q)) (own_chr (hy.at hi)), N131, rfl⟩) hF (by decide) (by decide))
theorem ef_rqCA (m : MethodId) (a1 : Addr) : entryFrame m #[(.ref a1), (.int (Int32.ofNat i))] 2 = mkF m 0 #[.val (.ref a1), .val (.int (Int32.ofNat i))] [] := by first | (simp [entryFrame, mkF, argsToLocals, Value.category]; done) | rfl
def Q_rqCA (Z : State) (a1 : Addr) (b1 : Addr) (n : Nat) (y : Nat → Int32) (i : Nat) (cs : Int32) (sv : Value) (h0 : Heap) (n0 : Nat) (vv_ : Option Value) (h : Heap) (LL_ : List Loc) : Prop := vv_ = some (.int (y i)) ∧ Fr n0 LL_ ∧ (h = h0)
theorem d_jdk_42_method_56_code_0 : decode jdk_42_method_56_code 0 = .ok (.aload_n 0, 1) := by decide +kernel
theorem d_jdk_42_method_56_code_1 : decode jdk_42_method_56_code 1 = .ok (.invokevirtual 492, 3) := by decide +kernel
theorem d_jdk_42_method_56_code_4 : decode jdk_42_method_56_code 4 = .ok (.ifCond .eq 12, 3) := by decide +kernel
theorem d_jdk_42_method_56_code_7 : decode jdk_42_method_56_code 7 = .ok (.aload_n 0, 1) := by decide +kernel
theorem d_jdk_42_method_56_code_8 : decode jdk_42_method_56_code 8 = .ok (.getfield 9, 3) := by decide +kernel
theorem d_jdk_42_method_56_code_11 : decode jdk_42_method_56_code 11 = .ok (.iload_n 1, 1) := by decide +kernel
theorem d_jdk_42_method_56_code_12 : decode jdk_42_method_56_code 12 = .ok (.invokestatic 495, 3) := by decide +kernel
theorem d_jdk_42_method_56_code_15 : decode jdk_42_method_56_code 15 = .ok (.ireturn, 1) := by decide +kernel
set_option maxRecDepth 65536 in
set_option maxHeartbeats 40000000 in
theorem rqCA (l : Launch) (Z : State) (a0 : Array Value) (hw : ∀ d ∈ tables_1, d.before a0 Z = true) (ws : List Jvm.Cond) (a1 : Addr) (b1 : Addr) (n : Nat) (y : Nat → Int32) (i : Nat) (cs : Int32) (sv : Value) (h0 : Heap) (n0 : Nat) (Z0 : n0 ≤ h0.size) (E1 : Exa Z h0 a1 "java/lang/String") (F1 : Fld Z h0 a1 "java/lang/String" "coder" "B" (.int (0 : Int32))) (F2 : Fld Z h0 a1 "java/lang/String" "value" "[B" (.ref b1)) (V1 : Av Z h0 b1 .byte n (fun q => .int ((y q).toInt8.toInt32))) (hi : i < n) (hn : n ≤ 5) (hy : own_ch n y) (SC : Sta Z h0 "java/lang/String" "COMPACT_STRINGS" "Z" (.int cs)) (hcs : ¬ cs = (0 : Int32)) (SI : Sta Z h0 "jdk/internal/util/Preconditions" "SIOOBE_FORMATTER" "Ljava/util/function/BiFunction;" sv) (hsv : sv.isRef = true) :
    MetFree l (⟨"java/lang/String", "charAt", "(I)C"⟩ : MethodName) (head1 (Jvm.Cond.code (⟨"java/lang/String", "charAt", "(I)C"⟩ : MethodName) jdk_42_method_56_code 2 (some .char) :: ws) ({ frames := 3, cells := 0, slots := 0, locals := 40 } : Room)) (fun aa_ UU_ => aa_ = #[(.ref a1), (.int (Int32.ofNat i))] ∧ Z.Warmed39 UU_.vm ∧ UU_.heap = h0) (fun _ _ _ _ _ => True) (fun _ UU_ oo_ VV_ => ∃ vv_ LL_, oo_ = .returned vv_ ∧ Q_rqCA Z a1 b1 n y i cs sv h0 n0 vv_ VV_.heap LL_ ∧ FrameEnd UU_ oo_ VV_ LL_ ({ frames := 3, cells := 0, slots := 0, locals := 40 } : Room).cells ({ frames := 3, cells := 0, slots := 0, locals := 40 } : Room).slots) := by
  refine own_met (y := (⟨"java/lang/String", "charAt", "(I)C"⟩ : MethodName)) (plainFor_of_name pn_1) ?_
  intro p e s m below meth c T0 K hx hby hml hret hlk hown hnm hZ X0 e0 hK
  have N0 := Fr.nil n0
  refine Rch.cast (ef_rqCA m a1) ?_
  refine Rch.of (T' := T0) (g' := (mkF m 1 #[.val (.ref a1), .val (.int (Int32.ofNat i))] [(.ref a1)])) (fun _ kt => XS.aloadN X0.here hx rfl (hb hby d_jdk_42_method_56_code_0) rfl rfl kt) ?_
  obtain ⟨cq135, kq135, q135a, q135b, q135c⟩ := isOf hZ e0 E1
  obtain ⟨_, _, ⟨T135, L135, k135, n135⟩, -, X135, ⟨Lc135, hQ135, l135, y135, z135⟩, st135⟩ := X0.virtualBack hx (y := (⟨"java/lang/String", "isLatin1", "()Z"⟩ : MethodName)) (z := (⟨"java/lang/String", "isLatin1", "()Z"⟩ : MethodName)) hown (mvT hZ (hw _ (List.mem_of_getElem? (i := 54) rfl))) (mvT hZ (hw _ (List.mem_of_getElem? (i := 55) rfl))) (notFace_of_selects (args := #[]) (mvT hZ (hw _ (List.mem_of_getElem? (i := 57) rfl)))) (mvT hZ (hw _ (List.mem_of_getElem? (i := 57) rfl))) (mvT hZ (hw _ (List.mem_of_getElem? (i := 56) rfl))) (by decide) (backOf (W := 0) (rqLT l Z a0 hw [] a1 cs h0 n0 Z0 F1 SC hcs) hZ (hw _ (List.mem_of_getElem? (i := 58) rfl)) (hw _ (List.mem_of_getElem? (i := 10) rfl)) (by decide) (by decide)) q135a q135c (g := (mkF m 1 #[.val (.ref a1), .val (.int (Int32.ofNat i))] [(.ref a1)])) rfl (by rw [hml]; rfl) (Steps.refl _) (argsL := []) (rest := []) (lenOf pd_10 rfl) rfl (by show 2 * 0 + _ ≤ _; exact Nat.le_of_eq rfl) (hb hby d_jdk_42_method_56_code_1) (fun _ _ => ⟨rfl, e0, (by decide : 0 + 0 ≤ _), (by decide : 0 + 0 ≤ _)⟩)
  dsimp only [Pt.U, Pt.locs, Pt.cells, Pt.slots] at X135 l135 y135 z135 st135 hQ135
  subst l135 y135 z135
  obtain ⟨rfl, N135q, hQ135⟩ := hQ135
  have N135 := Fr.app N0 N135q
  refine Rch.via (T' := T135) (g' := (mkF m 4 #[.val (.ref a1), .val (.int (Int32.ofNat i))] [(.int (1 : Int32))])) st135 ?_
  refine Rch.of (T' := T135) (g' := (mkF m 7 #[.val (.ref a1), .val (.int (Int32.ofNat i))] [])) (fun _ kt => XS.ifNo X135.here hx rfl (hb hby d_jdk_42_method_56_code_4) rfl ((if0 _ _).trans (feq ((by decide) : ¬ ((1 : Int32) = (0 : Int32)))).1) kt) ?_
  refine Rch.of (T' := T135) (g' := (mkF m 8 #[.val (.ref a1), .val (.int (Int32.ofNat i))] [(.ref a1)])) (fun _ kt => XS.aloadN X135.here hx rfl (hb hby d_jdk_42_method_56_code_7) rfl rfl kt) ?_
  obtain ⟨T136, X136, e136, st136⟩ := getF X135 hx hZ hown (host := "") (Or.inl (hw _ (List.mem_of_getElem? (i := 27) rfl))) Via.refl hQ135 F2 (g := (mkF m 8 #[.val (.ref a1), .val (.int (Int32.ofNat i))] [(.ref a1)])) rfl rfl (hb hby d_jdk_42_method_56_code_8)
  refine Rch.of (T' := T136) (g' := (mkF m 11 #[.val (.ref a1), .val (.int (Int32.ofNat i))] [(.ref b1)])) st136 ?_
  refine Rch.of (T' := T136) (g' := (mkF m 12 #[.val (.ref a1), .val (.int (Int32.ofNat i))] [(.int (Int32.ofNat i)), (.ref b1)])) (fun _ kt => XS.iloadN X136.here hx rfl (hb hby d_jdk_42_method_56_code_11) rfl  kt) ?_
  have pr138 : i < n := by omega
  have pr139 : n ≤ 5 := by omega
  obtain ⟨_, _, ⟨T137, L137, k137, n137⟩, -, X137, ⟨Lc137, hQ137, l137, y137, z137⟩, st137⟩ := Jvm.LawKit.callS X136 hx (y := (⟨"java/lang/StringLatin1", "charAt", "([BI)C"⟩ : MethodName)) hown (mvT hZ (hw _ (List.mem_of_getElem? (i := 159) rfl))) (mvT hZ (hw _ (List.mem_of_getElem? (i := 160) rfl))) (mvT hZ (hw _ (List.mem_of_getElem? (i := 61) rfl))) (mvT hZ (hw _ (List.mem_of_getElem? (i := 161) rfl))) (by decide) (backOf (W := 0) (rqC1 l Z a0 hw [] b1 n y i sv h0 n0 Z0 V1 pr138 pr139 hy SI hsv) hZ (hw _ (List.mem_of_getElem? (i := 161) rfl)) (hw _ (List.mem_of_getElem? (i := 61) rfl)) (by decide) (by decide)) (g := (mkF m 12 #[.val (.ref a1), .val (.int (Int32.ofNat i))] [(.int (Int32.ofNat i)), (.ref b1)])) rfl (by rw [hml]; rfl) (argsL := [(.ref b1), (.int (Int32.ofNat i))]) (rest := []) (lenOf pd_29 rfl) rfl (by show 2 * 0 + _ ≤ _; exact Nat.le_of_eq rfl) (hb hby d_jdk_42_method_56_code_12) (fun _ _ => ⟨rfl, e136, (by decide : 0 + 0 ≤ _), (by decide : 0 + 0 ≤ _)⟩)
  dsimp only [Pt.U, Pt.locs, Pt.cells, Pt.slots] at X137 l137 y137 z137 st137 hQ137
  subst l137 y137 z137
  obtain ⟨rfl, N137q, hQ137⟩ := hQ137
  have N137 := Fr.app N135 N137q
  refine Rch.of (T' := T137) (g' := (mkF m 15 #[.val (.ref a1), .val (.int (Int32.ofNat i))] [(.int (y i))])) st137 ?_
  exact Rch.retN X137 hx (t := .char) hret (by simp) hlk (hb hby d_jdk_42_method_56_code_15) (fun U hU hF => hK _ U _ _ _ (by show Q_rqCA Z a1 b1 n y i cs sv h0 n0 _ U.heap _; rw [hU, hQ137]; exact ⟨congrArg (fun q => some (Value.int q)) (own_i2c (hy.at hi)), N137, rfl⟩) hF (by decide) (by decide))
theorem ef_rqMN (m : MethodId) (p1 : Int32) (p2 : Int32) : entryFrame m #[(.int p1), (.int p2)] 2 = mkF m 0 #[.val (.int p1), .val (.int p2)] [] := by first | (simp [entryFrame, mkF, argsToLocals, Value.category]; done) | rfl
def Q_rqMN (Z : State) (p1 : Int32) (p2 : Int32) (h0 : Heap) (n0 : Nat) (vv_ : Option Value) (h : Heap) (LL_ : List Loc) : Prop := vv_ = some (.int p2) ∧ Fr n0 LL_ ∧ (h = h0)
theorem d_jdk_29_method_69_code_0 : decode jdk_29_method_69_code 0 = .ok (.iload_n 0, 1) := by decide +kernel
theorem d_jdk_29_method_69_code_1 : decode jdk_29_method_69_code 1 = .ok (.iload_n 1, 1) := by decide +kernel
theorem d_jdk_29_method_69_code_2 : decode jdk_29_method_69_code 2 = .ok (.if_icmp .gt 7, 3) := by decide +kernel
theorem d_jdk_29_method_69_code_5 : decode jdk_29_method_69_code 5 = .ok (.iload_n 0, 1) := by decide +kernel
theorem d_jdk_29_method_69_code_6 : decode jdk_29_method_69_code 6 = .ok (.goto 4, 3) := by decide +kernel
theorem d_jdk_29_method_69_code_9 : decode jdk_29_method_69_code 9 = .ok (.iload_n 1, 1) := by decide +kernel
theorem d_jdk_29_method_69_code_10 : decode jdk_29_method_69_code 10 = .ok (.ireturn, 1) := by decide +kernel
set_option maxRecDepth 65536 in
set_option maxHeartbeats 40000000 in
theorem rqMN (l : Launch) (Z : State) (a0 : Array Value) (hw : ∀ d ∈ tables_1, d.before a0 Z = true) (ws : List Jvm.Cond) (p1 : Int32) (p2 : Int32) (h0 : Heap) (n0 : Nat) (Z0 : n0 ≤ h0.size) (hle : ¬ p1 < p2) :
    MetFree l (⟨"java/lang/Math", "min", "(II)I"⟩ : MethodName) (head1 (Jvm.Cond.code (⟨"java/lang/Math", "min", "(II)I"⟩ : MethodName) jdk_29_method_69_code 2 (some .int) :: ws) ({ frames := 0, cells := 0, slots := 0, locals := 0 } : Room)) (fun aa_ UU_ => aa_ = #[(.int p1), (.int p2)] ∧ Z.Warmed39 UU_.vm ∧ UU_.heap = h0) (fun _ _ _ _ _ => True) (fun _ UU_ oo_ VV_ => ∃ vv_ LL_, oo_ = .returned vv_ ∧ Q_rqMN Z p1 p2 h0 n0 vv_ VV_.heap LL_ ∧ FrameEnd UU_ oo_ VV_ LL_ ({ frames := 0, cells := 0, slots := 0, locals := 0 } : Room).cells ({ frames := 0, cells := 0, slots := 0, locals := 0 } : Room).slots) := by
  refine own_met (y := (⟨"java/lang/Math", "min", "(II)I"⟩ : MethodName)) (Jvm.Free.JP.mathPlain rfl (by decide +kernel)) ?_
  intro p e s m below meth c T0 K hx hby hml hret hlk hown hnm hZ X0 e0 hK
  have N0 := Fr.nil n0
  refine Rch.cast (ef_rqMN m p1 p2) ?_
  refine Rch.of (T' := T0) (g' := (mkF m 1 #[.val (.int p1), .val (.int p2)] [(.int p1)])) (fun _ kt => XS.iloadN X0.here hx rfl (hb hby d_jdk_29_method_69_code_0) rfl  kt) ?_
  refine Rch.of (T' := T0) (g' := (mkF m 2 #[.val (.int p1), .val (.int p2)] [(.int p2), (.int p1)])) (fun _ kt => XS.iloadN X0.here hx rfl (hb hby d_jdk_29_method_69_code_1) rfl  kt) ?_
  by_cases c140 : p2 < p1
  · skip
    refine Rch.of (T' := T0) (g' := (mkF m 9 #[.val (.int p1), .val (.int p2)] [])) (fun _ kt => XS.icmpYes X0.here hx rfl (pc0 := 2) (pc' := 9) rfl (hb hby d_jdk_29_method_69_code_2) rfl (tlt c140).2.2.1 (by decide) (by decide) kt) ?_
    refine Rch.of (T' := T0) (g' := (mkF m 10 #[.val (.int p1), .val (.int p2)] [(.int p2)])) (fun _ kt => XS.iloadN X0.here hx rfl (hb hby d_jdk_29_method_69_code_9) rfl  kt) ?_
    exact Rch.retI X0 hx hret hlk (hb hby d_jdk_29_method_69_code_10) (fun U hU hF => hK _ U _ _ _ (by show Q_rqMN Z p1 p2 h0 n0 _ U.heap _; rw [hU, e0]; exact ⟨rfl, N0, rfl⟩) hF (by decide) (by decide))
  · skip
    refine Rch.of (T' := T0) (g' := (mkF m 5 #[.val (.int p1), .val (.int p2)] [])) (fun _ kt => XS.icmpNo X0.here hx rfl (hb hby d_jdk_29_method_69_code_2) rfl (flt c140).2.2.1 kt) ?_
    refine Rch.of (T' := T0) (g' := (mkF m 6 #[.val (.int p1), .val (.int p2)] [(.int p1)])) (fun _ kt => XS.iloadN X0.here hx rfl (hb hby d_jdk_29_method_69_code_5) rfl  kt) ?_
    refine Rch.of (T' := T0) (g' := (mkF m 10 #[.val (.int p1), .val (.int p2)] [(.int p1)])) (fun _ kt => XS.goto X0.here hx rfl (pc0 := 6) (pc' := 10) rfl (hb hby d_jdk_29_method_69_code_6) (by decide) (by decide) kt) ?_
    exact Rch.retI X0 hx hret hlk (hb hby d_jdk_29_method_69_code_10) (fun U hU hF => hK _ U _ _ _ (by show Q_rqMN Z p1 p2 h0 n0 _ U.heap _; rw [hU, e0]; exact ⟨congrArg (fun q => some (Value.int q)) (own_antis hle c140), N0, rfl⟩) hF (by decide) (by decide))
theorem ef_rqMX (m : MethodId) (p1 : Int32) (p2 : Int32) : entryFrame m #[(.int p1), (.int p2)] 2 = mkF m 0 #[.val (.int p1), .val (.int p2)] [] := by first | (simp [entryFrame, mkF, argsToLocals, Value.category]; done) | rfl
def Q_rqMX (Z : State) (p1 : Int32) (p2 : Int32) (h0 : Heap) (n0 : Nat) (vv_ : Option Value) (h : Heap) (LL_ : List Loc) : Prop := vv_ = some (.int p1) ∧ Fr n0 LL_ ∧ (h = h0)
theorem d_jdk_29_method_65_code_0 : decode jdk_29_method_65_code 0 = .ok (.iload_n 0, 1) := by decide +kernel
theorem d_jdk_29_method_65_code_1 : decode jdk_29_method_65_code 1 = .ok (.iload_n 1, 1) := by decide +kernel
theorem d_jdk_29_method_65_code_2 : decode jdk_29_method_65_code 2 = .ok (.if_icmp .lt 7, 3) := by decide +kernel
theorem d_jdk_29_method_65_code_5 : decode jdk_29_method_65_code 5 = .ok (.iload_n 0, 1) := by decide +kernel
theorem d_jdk_29_method_65_code_6 : decode jdk_29_method_65_code 6 = .ok (.goto 4, 3) := by decide +kernel
theorem d_jdk_29_method_65_code_10 : decode jdk_29_method_65_code 10 = .ok (.ireturn, 1) := by decide +kernel
set_option maxRecDepth 65536 in
set_option maxHeartbeats 40000000 in
theorem rqMX (l : Launch) (Z : State) (a0 : Array Value) (hw : ∀ d ∈ tables_1, d.before a0 Z = true) (ws : List Jvm.Cond) (p1 : Int32) (p2 : Int32) (h0 : Heap) (n0 : Nat) (Z0 : n0 ≤ h0.size) (hle : ¬ p1 < p2) :
    MetFree l (⟨"java/lang/Math", "max", "(II)I"⟩ : MethodName) (head1 (Jvm.Cond.code (⟨"java/lang/Math", "max", "(II)I"⟩ : MethodName) jdk_29_method_65_code 2 (some .int) :: ws) ({ frames := 0, cells := 0, slots := 0, locals := 0 } : Room)) (fun aa_ UU_ => aa_ = #[(.int p1), (.int p2)] ∧ Z.Warmed39 UU_.vm ∧ UU_.heap = h0) (fun _ _ _ _ _ => True) (fun _ UU_ oo_ VV_ => ∃ vv_ LL_, oo_ = .returned vv_ ∧ Q_rqMX Z p1 p2 h0 n0 vv_ VV_.heap LL_ ∧ FrameEnd UU_ oo_ VV_ LL_ ({ frames := 0, cells := 0, slots := 0, locals := 0 } : Room).cells ({ frames := 0, cells := 0, slots := 0, locals := 0 } : Room).slots) := by
  refine own_met (y := (⟨"java/lang/Math", "max", "(II)I"⟩ : MethodName)) (Jvm.Free.JP.mathPlain rfl (by decide +kernel)) ?_
  intro p e s m below meth c T0 K hx hby hml hret hlk hown hnm hZ X0 e0 hK
  have N0 := Fr.nil n0
  refine Rch.cast (ef_rqMX m p1 p2) ?_
  refine Rch.of (T' := T0) (g' := (mkF m 1 #[.val (.int p1), .val (.int p2)] [(.int p1)])) (fun _ kt => XS.iloadN X0.here hx rfl (hb hby d_jdk_29_method_65_code_0) rfl  kt) ?_
  refine Rch.of (T' := T0) (g' := (mkF m 2 #[.val (.int p1), .val (.int p2)] [(.int p2), (.int p1)])) (fun _ kt => XS.iloadN X0.here hx rfl (hb hby d_jdk_29_method_65_code_1) rfl  kt) ?_
  refine Rch.of (T' := T0) (g' := (mkF m 5 #[.val (.int p1), .val (.int p2)] [])) (fun _ kt => XS.icmpNo X0.here hx rfl (hb hby d_jdk_29_method_65_code_2) rfl (flt hle).1 kt) ?_
  refine Rch.of (T' := T0) (g' := (mkF m 6 #[.val (.int p1), .val (.int p2)] [(.int p1)])) (fun _ kt => XS.iloadN X0.here hx rfl (hb hby d_jdk_29_method_65_code_5) rfl  kt) ?_
  refine Rch.of (T' := T0) (g' := (mkF m 10 #[.val (.int p1), .val (.int p2)] [(.int p1)])) (fun _ kt => XS.goto X0.here hx rfl (pc0 := 6) (pc' := 10) rfl (hb hby d_jdk_29_method_65_code_6) (by decide) (by decide) kt) ?_
  exact Rch.retI X0 hx hret hlk (hb hby d_jdk_29_method_65_code_10) (fun U hU hF => hK _ U _ _ _ (by show Q_rqMX Z p1 p2 h0 n0 _ U.heap _; rw [hU, e0]; exact ⟨rfl, N0, rfl⟩) hF (by decide) (by decide))
theorem ef_rqCE (m : MethodId) (p1 : Int32) : entryFrame m #[(.int p1)] 1 = mkF m 0 #[.val (.int p1)] [] := by first | (simp [entryFrame, mkF, argsToLocals, Value.category]; done) | rfl
def Q_rqCE (Z : State) (p1 : Int32) (h0 : Heap) (n0 : Nat) (vv_ : Option Value) (h : Heap) (LL_ : List Loc) : Prop := vv_ = some (.int (1 : Int32)) ∧ Fr n0 LL_ ∧ (h = h0)
theorem d_jdk_43_method_4_code_0 : decode jdk_43_method_4_code 0 = .ok (.iload_n 0, 1) := by decide +kernel
theorem d_jdk_43_method_4_code_1 : decode jdk_43_method_4_code 1 = .ok (.ifCond .lt 14, 3) := by decide +kernel
theorem d_jdk_43_method_4_code_4 : decode jdk_43_method_4_code 4 = .ok (.iload_n 0, 1) := by decide +kernel
theorem d_jdk_43_method_4_code_5 : decode jdk_43_method_4_code 5 = .ok (.sipush 255, 3) := by decide +kernel
theorem d_jdk_43_method_4_code_8 : decode jdk_43_method_4_code 8 = .ok (.if_icmp .gt 7, 3) := by decide +kernel
theorem d_jdk_43_method_4_code_11 : decode jdk_43_method_4_code 11 = .ok (.iconst 1, 1) := by decide +kernel
theorem d_jdk_43_method_4_code_12 : decode jdk_43_method_4_code 12 = .ok (.goto 4, 3) := by decide +kernel
theorem d_jdk_43_method_4_code_16 : decode jdk_43_method_4_code 16 = .ok (.ireturn, 1) := by decide +kernel
set_option maxRecDepth 65536 in
set_option maxHeartbeats 40000000 in
theorem rqCE (l : Launch) (Z : State) (a0 : Array Value) (hw : ∀ d ∈ tables_1, d.before a0 Z = true) (ws : List Jvm.Cond) (p1 : Int32) (h0 : Heap) (n0 : Nat) (Z0 : n0 ≤ h0.size) (hp : own_c1 p1) :
    MetFree l (⟨"java/lang/StringLatin1", "canEncode", "(I)Z"⟩ : MethodName) (head1 (Jvm.Cond.code (⟨"java/lang/StringLatin1", "canEncode", "(I)Z"⟩ : MethodName) jdk_43_method_4_code 1 (some .boolean) :: ws) ({ frames := 0, cells := 0, slots := 0, locals := 0 } : Room)) (fun aa_ UU_ => aa_ = #[(.int p1)] ∧ Z.Warmed39 UU_.vm ∧ UU_.heap = h0) (fun _ _ _ _ _ => True) (fun _ UU_ oo_ VV_ => ∃ vv_ LL_, oo_ = .returned vv_ ∧ Q_rqCE Z p1 h0 n0 vv_ VV_.heap LL_ ∧ FrameEnd UU_ oo_ VV_ LL_ ({ frames := 0, cells := 0, slots := 0, locals := 0 } : Room).cells ({ frames := 0, cells := 0, slots := 0, locals := 0 } : Room).slots) := by
  refine own_met (y := (⟨"java/lang/StringLatin1", "canEncode", "(I)Z"⟩ : MethodName)) (plainFor_of_name pn_3) ?_
  intro p e s m below meth c T0 K hx hby hml hret hlk hown hnm hZ X0 e0 hK
  have N0 := Fr.nil n0
  refine Rch.cast (ef_rqCE m p1) ?_
  refine Rch.of (T' := T0) (g' := (mkF m 1 #[.val (.int p1)] [(.int p1)])) (fun _ kt => XS.iloadN X0.here hx rfl (hb hby d_jdk_43_method_4_code_0) rfl  kt) ?_
  refine Rch.of (T' := T0) (g' := (mkF m 4 #[.val (.int p1)] [])) (fun _ kt => XS.ifNo X0.here hx rfl (hb hby d_jdk_43_method_4_code_1) rfl ((if0 _ _).trans (flt (own_c1n hp)).1) kt) ?_
  refine Rch.of (T' := T0) (g' := (mkF m 5 #[.val (.int p1)] [(.int p1)])) (fun _ kt => XS.iloadN X0.here hx rfl (hb hby d_jdk_43_method_4_code_4) rfl  kt) ?_
  refine Rch.of (T' := T0) (g' := (mkF m 8 #[.val (.int p1)] [(.int (255 : Int32)), (.int p1)])) (fun _ kt => XS.sipush X0.here hx rfl (hb hby d_jdk_43_method_4_code_5) kt) ?_
  refine Rch.of (T' := T0) (g' := (mkF m 11 #[.val (.int p1)] [])) (fun _ kt => XS.icmpNo X0.here hx rfl (hb hby d_jdk_43_method_4_code_8) rfl (flt (own_c1l hp)).2.2.1 kt) ?_
  refine Rch.of (T' := T0) (g' := (mkF m 12 #[.val (.int p1)] [(.int (1 : Int32))])) (fun _ kt => XS.iconst X0.here hx rfl (hb hby d_jdk_43_method_4_code_11) kt) ?_
  refine Rch.of (T' := T0) (g' := (mkF m 16 #[.val (.int p1)] [(.int (1 : Int32))])) (fun _ kt => XS.goto X0.here hx rfl (pc0 := 12) (pc' := 16) rfl (hb hby d_jdk_43_method_4_code_12) (by decide) (by decide) kt) ?_
  exact Rch.retN X0 hx (t := .boolean) hret (by simp) hlk (hb hby d_jdk_43_method_4_code_16) (fun U hU hF => hK _ U _ _ _ (by show Q_rqCE Z p1 h0 n0 _ U.heap _; rw [hU, e0]; exact ⟨rfl, N0, rfl⟩) hF (by decide) (by decide))
theorem ef_rqLB (m : MethodId) (b1 : Addr) (p1 : Int32) : entryFrame m #[(.ref b1), (.int p1), (.int ((Int32.ofNat n) - (1 : Int32)))] 4 = mkF m 0 #[.val (.ref b1), .val (.int p1), .val (.int ((Int32.ofNat n) - (1 : Int32))), .unset] [] := by first | (simp [entryFrame, mkF, argsToLocals, Value.category]; done) | rfl
def Q_rqLB (Z : State) (b1 : Addr) (p1 : Int32) (n : Nat) (y : Nat → Int32) (h0 : Heap) (n0 : Nat) (vv_ : Option Value) (h : Heap) (LL_ : List Loc) : Prop := vv_ = some (.int (Int32.ofNat (own_ls y p1 n) - (1 : Int32))) ∧ Fr n0 LL_ ∧ (h = h0)
theorem d_jdk_43_method_27_code_0 : decode jdk_43_method_27_code 0 = .ok (.iload_n 1, 1) := by decide +kernel
theorem d_jdk_43_method_27_code_1 : decode jdk_43_method_27_code 1 = .ok (.invokestatic 88, 3) := by decide +kernel
theorem d_jdk_43_method_27_code_4 : decode jdk_43_method_27_code 4 = .ok (.ifCond .ne 5, 3) := by decide +kernel
theorem d_jdk_43_method_27_code_9 : decode jdk_43_method_27_code 9 = .ok (.iload_n 2, 1) := by decide +kernel
theorem d_jdk_43_method_27_code_10 : decode jdk_43_method_27_code 10 = .ok (.aload_n 0, 1) := by decide +kernel
theorem d_jdk_43_method_27_code_11 : decode jdk_43_method_27_code 11 = .ok (.arraylength, 1) := by decide +kernel
theorem d_jdk_43_method_27_code_12 : decode jdk_43_method_27_code 12 = .ok (.iconst 1, 1) := by decide +kernel
theorem d_jdk_43_method_27_code_13 : decode jdk_43_method_27_code 13 = .ok (.isub, 1) := by decide +kernel
theorem d_jdk_43_method_27_code_14 : decode jdk_43_method_27_code 14 = .ok (.invokestatic 38, 3) := by decide +kernel
theorem d_jdk_43_method_27_code_17 : decode jdk_43_method_27_code 17 = .ok (.istore_n 3, 1) := by decide +kernel
theorem d_jdk_43_method_27_code_18 : decode jdk_43_method_27_code 18 = .ok (.iload_n 3, 1) := by decide +kernel
theorem d_jdk_43_method_27_code_19 : decode jdk_43_method_27_code 19 = .ok (.ifCond .lt 19, 3) := by decide +kernel
theorem d_jdk_43_method_27_code_22 : decode jdk_43_method_27_code 22 = .ok (.aload_n 0, 1) := by decide +kernel
theorem d_jdk_43_method_27_code_23 : decode jdk_43_method_27_code 23 = .ok (.iload_n 3, 1) := by decide +kernel
theorem d_jdk_43_method_27_code_24 : decode jdk_43_method_27_code 24 = .ok (.baload, 1) := by decide +kernel
theorem d_jdk_43_method_27_code_25 : decode jdk_43_method_27_code 25 = .ok (.iload_n 1, 1) := by decide +kernel
theorem d_jdk_43_method_27_code_26 : decode jdk_43_method_27_code 26 = .ok (.i2b, 1) := by decide +kernel
theorem d_jdk_43_method_27_code_27 : decode jdk_43_method_27_code 27 = .ok (.if_icmp .ne 5, 3) := by decide +kernel
theorem d_jdk_43_method_27_code_30 : decode jdk_43_method_27_code 30 = .ok (.iload_n 3, 1) := by decide +kernel
theorem d_jdk_43_method_27_code_31 : decode jdk_43_method_27_code 31 = .ok (.ireturn, 1) := by decide +kernel
theorem d_jdk_43_method_27_code_32 : decode jdk_43_method_27_code 32 = .ok (.iinc 3 (-1), 3) := by decide +kernel
theorem d_jdk_43_method_27_code_35 : decode jdk_43_method_27_code 35 = .ok (.goto (-17), 3) := by decide +kernel
theorem d_jdk_43_method_27_code_38 : decode jdk_43_method_27_code 38 = .ok (.iconst (-1), 1) := by decide +kernel
theorem d_jdk_43_method_27_code_39 : decode jdk_43_method_27_code 39 = .ok (.ireturn, 1) := by decide +kernel
set_option maxRecDepth 65536 in
set_option maxHeartbeats 40000000 in
theorem rqLB (l : Launch) (Z : State) (a0 : Array Value) (hw : ∀ d ∈ tables_1, d.before a0 Z = true) (ws : List Jvm.Cond) (b1 : Addr) (p1 : Int32) (n : Nat) (y : Nat → Int32) (h0 : Heap) (n0 : Nat) (Z0 : n0 ≤ h0.size) (V1 : Av Z h0 b1 .byte n (fun q => .int ((y q).toInt8.toInt32))) (hn : n ≤ 5) (hy : own_ch n y) (hp : own_c1 p1) :
    MetFree l (⟨"java/lang/StringLatin1", "lastIndexOf", "([BII)I"⟩ : MethodName) (head1 (Jvm.Cond.code (⟨"java/lang/StringLatin1", "lastIndexOf", "([BII)I"⟩ : MethodName) jdk_43_method_27_code 4 (some .int) :: ws) ({ frames := 1, cells := 0, slots := 0, locals := 13 } : Room)) (fun aa_ UU_ => aa_ = #[(.ref b1), (.int p1), (.int ((Int32.ofNat n) - (1 : Int32)))] ∧ Z.Warmed39 UU_.vm ∧ UU_.heap = h0) (fun _ _ _ _ _ => True) (fun _ UU_ oo_ VV_ => ∃ vv_ LL_, oo_ = .returned vv_ ∧ Q_rqLB Z b1 p1 n y h0 n0 vv_ VV_.heap LL_ ∧ FrameEnd UU_ oo_ VV_ LL_ ({ frames := 1, cells := 0, slots := 0, locals := 13 } : Room).cells ({ frames := 1, cells := 0, slots := 0, locals := 13 } : Room).slots) := by
  refine own_met (y := (⟨"java/lang/StringLatin1", "lastIndexOf", "([BII)I"⟩ : MethodName)) (plainFor_of_name pn_3) ?_
  intro p e s m below meth c T0 K hx hby hml hret hlk hown hnm hZ X0 e0 hK
  have N0 := Fr.nil n0
  refine Rch.cast (ef_rqLB m b1 p1) ?_
  have loop : ∀ (k : Nat) (hk : k ≤ n) (hno : ∀ q, k ≤ q → q < n → y q ≠ p1) (T : State) (locs : List Loc) (X : Stand p l e ({ frames := 1, cells := 0, slots := 0, locals := 13 } : Room) s m #[(.ref b1), (.int p1), (.int ((Int32.ofNat n) - (1 : Int32)))] below meth c T locs 0 0) (eT : T.heap = h0) (N : Fr n0 locs), Rch p e below K T (mkF m 18 #[.val (.ref b1), .val (.int p1), .val (.int ((Int32.ofNat n) - (1 : Int32))), .val (.int (Int32.ofNat k - (1 : Int32)))] []) := by
    intro k
    induction k with
    | zero =>
      intro hk hno T locs X eT N
      have kn141 : ((Int32.ofNat 0) - (1 : Int32)) < (0 : Int32) := by decide
      refine Rch.of (T' := T) (g' := (mkF m 19 #[.val (.ref b1), .val (.int p1), .val (.int ((Int32.ofNat n) - (1 : Int32))), .val (.int ((Int32.ofNat 0) - (1 : Int32)))] [(.int ((Int32.ofNat 0) - (1 : Int32)))])) (fun _ kt => XS.iloadN X.here hx rfl (hb hby d_jdk_43_method_27_code_18) rfl  kt) ?_
      refine Rch.of (T' := T) (g' := (mkF m 38 #[.val (.ref b1), .val (.int p1), .val (.int ((Int32.ofNat n) - (1 : Int32))), .val (.int ((Int32.ofNat 0) - (1 : Int32)))] [])) (fun _ kt => XS.ifYes X.here hx rfl (pc0 := 19) (pc' := 38) rfl (hb hby d_jdk_43_method_27_code_19) rfl ((if0 _ _).trans (tlt kn141).1) (by decide) (by decide) kt) ?_
      refine Rch.of (T' := T) (g' := (mkF m 39 #[.val (.ref b1), .val (.int p1), .val (.int ((Int32.ofNat n) - (1 : Int32))), .val (.int ((Int32.ofNat 0) - (1 : Int32)))] [(.int (-1 : Int32))])) (fun _ kt => XS.iconst X.here hx rfl (hb hby d_jdk_43_method_27_code_38) kt) ?_
      exact Rch.retI X hx hret hlk (hb hby d_jdk_43_method_27_code_39) (fun U hU hF => hK _ U _ _ _ (by show Q_rqLB Z b1 p1 n y h0 n0 _ U.heap _; rw [hU, eT]; exact ⟨by rw [own_ls_none (fun q hq => hno q (Nat.zero_le q) hq)]; exact congrArg (fun q => some (Value.int q)) (by decide), N, rfl⟩) hF (by decide) (by decide))
    | succ k ih =>
      intro hk hno T locs X eT N
      have hkn : k < n := hk
      have sw142 : ((Int32.ofNat (k + 1)) - (1 : Int32)) = (Int32.ofNat k) := own_pred k
      rw [sw142]
      show Rch p e below K T (mkF m 18 #[.val (.ref b1), .val (.int p1), .val (.int ((Int32.ofNat n) - (1 : Int32))), .val (.int (Int32.ofNat k))] [])
      have kn143 : ¬ ((Int32.ofNat k) < (0 : Int32)) := own_nneg (by omega)
      have tk : (Int32.ofNat k).toInt = (k : Int) := oTo (by omega)
      refine Rch.of (T' := T) (g' := (mkF m 19 #[.val (.ref b1), .val (.int p1), .val (.int ((Int32.ofNat n) - (1 : Int32))), .val (.int (Int32.ofNat k))] [(.int (Int32.ofNat k))])) (fun _ kt => XS.iloadN X.here hx rfl (hb hby d_jdk_43_method_27_code_18) rfl  kt) ?_
      refine Rch.of (T' := T) (g' := (mkF m 22 #[.val (.ref b1), .val (.int p1), .val (.int ((Int32.ofNat n) - (1 : Int32))), .val (.int (Int32.ofNat k))] [])) (fun _ kt => XS.ifNo X.here hx rfl (hb hby d_jdk_43_method_27_code_19) rfl ((if0 _ _).trans (flt kn143).1) kt) ?_
      refine Rch.of (T' := T) (g' := (mkF m 23 #[.val (.ref b1), .val (.int p1), .val (.int ((Int32.ofNat n) - (1 : Int32))), .val (.int (Int32.ofNat k))] [(.ref b1)])) (fun _ kt => XS.aloadN X.here hx rfl (hb hby d_jdk_43_method_27_code_22) rfl rfl kt) ?_
      refine Rch.of (T' := T) (g' := (mkF m 24 #[.val (.ref b1), .val (.int p1), .val (.int ((Int32.ofNat n) - (1 : Int32))), .val (.int (Int32.ofNat k))] [(.int (Int32.ofNat k)), (.ref b1)])) (fun _ kt => XS.iloadN X.here hx rfl (hb hby d_jdk_43_method_27_code_23) rfl  kt) ?_
      obtain ⟨cl144, Ar144, Sz144, Ha144⟩ := id V1
      refine Rch.of (T' := T) (g' := (mkF m 25 #[.val (.ref b1), .val (.int p1), .val (.int ((Int32.ofNat n) - (1 : Int32))), .val (.int (Int32.ofNat k))] [(.int ((fun q => (y q).toInt8.toInt32) k))])) (X.baloadBytes hx (j := (Int32.ofNat k)) (v := (.int ((fun q => (y q).toInt8.toInt32) k))) (by rw [eT]; exact Ar144.1) (State.isArrayOf_alike hZ.alike Ar144.2.1) Ar144.2.2 (oIn (i := k) Sz144 tk hkn) (oAt (i := k) Ha144 tk hkn) (g := (mkF m 24 #[.val (.ref b1), .val (.int p1), .val (.int ((Int32.ofNat n) - (1 : Int32))), .val (.int (Int32.ofNat k))] [(.int (Int32.ofNat k)), (.ref b1)])) rfl rfl (hb hby d_jdk_43_method_27_code_24)) ?_
      refine Rch.of (T' := T) (g' := (mkF m 26 #[.val (.ref b1), .val (.int p1), .val (.int ((Int32.ofNat n) - (1 : Int32))), .val (.int (Int32.ofNat k))] [(.int p1), (.int ((fun q => (y q).toInt8.toInt32) k))])) (fun _ kt => XS.iloadN X.here hx rfl (hb hby d_jdk_43_method_27_code_25) rfl  kt) ?_
      refine Rch.of (T' := T) (g' := (mkF m 27 #[.val (.ref b1), .val (.int p1), .val (.int ((Int32.ofNat n) - (1 : Int32))), .val (.int (Int32.ofNat k))] [(.int (p1.toInt8.toInt32)), (.int ((fun q => (y q).toInt8.toInt32) k))])) (fun _ kt => XS.i2b X.here hx rfl (hb hby d_jdk_43_method_27_code_26) rfl kt) ?_
      by_cases c145 : ((fun q => (y q).toInt8.toInt32) k) = (p1.toInt8.toInt32)
      · skip
        refine Rch.of (T' := T) (g' := (mkF m 30 #[.val (.ref b1), .val (.int p1), .val (.int ((Int32.ofNat n) - (1 : Int32))), .val (.int (Int32.ofNat k))] [])) (fun _ kt => XS.icmpNo X.here hx rfl (hb hby d_jdk_43_method_27_code_27) rfl (teq c145).2 kt) ?_
        refine Rch.of (T' := T) (g' := (mkF m 31 #[.val (.ref b1), .val (.int p1), .val (.int ((Int32.ofNat n) - (1 : Int32))), .val (.int (Int32.ofNat k))] [(.int (Int32.ofNat k))])) (fun _ kt => XS.iloadN X.here hx rfl (hb hby d_jdk_43_method_27_code_30) rfl  kt) ?_
        exact Rch.retI X hx hret hlk (hb hby d_jdk_43_method_27_code_31) (fun U hU hF => hK _ U _ _ _ (by show Q_rqLB Z b1 p1 n y h0 n0 _ U.heap _; rw [hU, eT]; exact ⟨by rw [own_ls_at (own_b8i (hy.at hkn) hp c145) hkn hno]; exact congrArg (fun q => some (Value.int q)) (own_pred k).symm, N, rfl⟩) hF (by decide) (by decide))
      · skip
        refine Rch.of (T' := T) (g' := (mkF m 32 #[.val (.ref b1), .val (.int p1), .val (.int ((Int32.ofNat n) - (1 : Int32))), .val (.int (Int32.ofNat k))] [])) (fun _ kt => XS.icmpYes X.here hx rfl (pc0 := 27) (pc' := 32) rfl (hb hby d_jdk_43_method_27_code_27) rfl (feq c145).2 (by decide) (by decide) kt) ?_
        refine Rch.of (T' := T) (g' := (mkF m 35 #[.val (.ref b1), .val (.int p1), .val (.int ((Int32.ofNat n) - (1 : Int32))), .val (.int ((Int32.ofNat k) + (-1 : Int32)))] [])) (fun _ kt => XS.iinc X.here hx rfl (hb hby d_jdk_43_method_27_code_32) rfl (l' := #[.val (.ref b1), .val (.int p1), .val (.int ((Int32.ofNat n) - (1 : Int32))), .val (.int ((Int32.ofNat k) + (-1 : Int32)))]) rfl kt) ?_
        refine Rch.of (T' := T) (g' := (mkF m 18 #[.val (.ref b1), .val (.int p1), .val (.int ((Int32.ofNat n) - (1 : Int32))), .val (.int ((Int32.ofNat k) + (-1 : Int32)))] [])) (fun _ kt => XS.goto X.here hx rfl (pc0 := 35) (pc' := 18) rfl (hb hby d_jdk_43_method_27_code_35) (by decide) (by decide) kt) ?_
        rw [own_m1 k]
        exact ih (Nat.le_of_lt hkn) (fun q h1 h2 => if u : q = k then by rw [u]; exact fun e_ => c145 (congrArg (fun x : Int32 => x.toInt8.toInt32) e_) else hno q (by omega) h2) T _ X eT N
  refine Rch.of (T' := T0) (g' := (mkF m 1 #[.val (.ref b1), .val (.int p1), .val (.int ((Int32.ofNat n) - (1 : Int32))), .unset] [(.int p1)])) (fun _ kt => XS.iloadN X0.here hx rfl (hb hby d_jdk_43_method_27_code_0) rfl  kt) ?_
  obtain ⟨_, _, ⟨T146, L146, k146, n146⟩, -, X146, ⟨Lc146, hQ146, l146, y146, z146⟩, st146⟩ := Jvm.LawKit.callS X0 hx (y := (⟨"java/lang/StringLatin1", "canEncode", "(I)Z"⟩ : MethodName)) hown (mvT hZ (hw _ (List.mem_of_getElem? (i := 63) rfl))) (mvT hZ (hw _ (List.mem_of_getElem? (i := 64) rfl))) (mvT hZ (hw _ (List.mem_of_getElem? (i := 61) rfl))) (mvT hZ (hw _ (List.mem_of_getElem? (i := 65) rfl))) (by decide) (backOf (W := 0) (rqCE l Z a0 hw [] p1 h0 n0 Z0 hp) hZ (hw _ (List.mem_of_getElem? (i := 65) rfl)) (hw _ (List.mem_of_getElem? (i := 61) rfl)) (by decide) (by decide)) (g := (mkF m 1 #[.val (.ref b1), .val (.int p1), .val (.int ((Int32.ofNat n) - (1 : Int32))), .unset] [(.int p1)])) rfl (by rw [hml]; rfl) (argsL := [(.int p1)]) (rest := []) (lenOf pd_12 rfl) rfl (by show 2 * 0 + _ ≤ _; exact Nat.le_of_eq rfl) (hb hby d_jdk_43_method_27_code_1) (fun _ _ => ⟨rfl, e0, (by decide : 0 + 0 ≤ _), (by decide : 0 + 0 ≤ _)⟩)
  dsimp only [Pt.U, Pt.locs, Pt.cells, Pt.slots] at X146 l146 y146 z146 st146 hQ146
  subst l146 y146 z146
  obtain ⟨rfl, N146q, hQ146⟩ := hQ146
  have N146 := Fr.app N0 N146q
  refine Rch.of (T' := T146) (g' := (mkF m 4 #[.val (.ref b1), .val (.int p1), .val (.int ((Int32.ofNat n) - (1 : Int32))), .unset] [(.int (1 : Int32))])) st146 ?_
  refine Rch.of (T' := T146) (g' := (mkF m 9 #[.val (.ref b1), .val (.int p1), .val (.int ((Int32.ofNat n) - (1 : Int32))), .unset] [])) (fun _ kt => XS.ifYes X146.here hx rfl (pc0 := 4) (pc' := 9) rfl (hb hby d_jdk_43_method_27_code_4) rfl ((if0 _ _).trans (feq ((by decide) : ¬ ((1 : Int32) = (0 : Int32)))).2) (by decide) (by decide) kt) ?_
  refine Rch.of (T' := T146) (g' := (mkF m 10 #[.val (.ref b1), .val (.int p1), .val (.int ((Int32.ofNat n) - (1 : Int32))), .unset] [(.int ((Int32.ofNat n) - (1 : Int32)))])) (fun _ kt => XS.iloadN X146.here hx rfl (hb hby d_jdk_43_method_27_code_9) rfl  kt) ?_
  refine Rch.of (T' := T146) (g' := (mkF m 11 #[.val (.ref b1), .val (.int p1), .val (.int ((Int32.ofNat n) - (1 : Int32))), .unset] [(.ref b1), (.int ((Int32.ofNat n) - (1 : Int32)))])) (fun _ kt => XS.aloadN X146.here hx rfl (hb hby d_jdk_43_method_27_code_10) rfl rfl kt) ?_
  obtain ⟨cl147, Ar147, Sz147, Ha147⟩ := id V1
  refine Rch.of (T' := T146) (g' := (mkF m 12 #[.val (.ref b1), .val (.int p1), .val (.int ((Int32.ofNat n) - (1 : Int32))), .unset] [(.int cl147.slots.size.toInt32), (.int ((Int32.ofNat n) - (1 : Int32)))])) (X146.arraylength hx (by rw [hQ146]; exact Ar147.1) (State.isArrayOf_alike hZ.alike Ar147.2.1) (g := (mkF m 11 #[.val (.ref b1), .val (.int p1), .val (.int ((Int32.ofNat n) - (1 : Int32))), .unset] [(.ref b1), (.int ((Int32.ofNat n) - (1 : Int32)))])) rfl rfl (hb hby d_jdk_43_method_27_code_11)) ?_
  rw [oLen Sz147]
  show Rch p e below K T146 (mkF m 12 #[.val (.ref b1), .val (.int p1), .val (.int ((Int32.ofNat n) - (1 : Int32))), .unset] [(.int (Int32.ofNat n)), (.int ((Int32.ofNat n) - (1 : Int32)))])
  refine Rch.of (T' := T146) (g' := (mkF m 13 #[.val (.ref b1), .val (.int p1), .val (.int ((Int32.ofNat n) - (1 : Int32))), .unset] [(.int (1 : Int32)), (.int (Int32.ofNat n)), (.int ((Int32.ofNat n) - (1 : Int32)))])) (fun _ kt => XS.iconst X146.here hx rfl (hb hby d_jdk_43_method_27_code_12) kt) ?_
  refine Rch.of (T' := T146) (g' := (mkF m 14 #[.val (.ref b1), .val (.int p1), .val (.int ((Int32.ofNat n) - (1 : Int32))), .unset] [(.int ((Int32.ofNat n) - (1 : Int32))), (.int ((Int32.ofNat n) - (1 : Int32)))])) (fun _ kt => XS.isub X146.here hx rfl (hb hby d_jdk_43_method_27_code_13) rfl kt) ?_
  obtain ⟨_, _, ⟨T148, L148, k148, n148⟩, -, X148, ⟨Lc148, hQ148, l148, y148, z148⟩, st148⟩ := Jvm.LawKit.callS X146 hx (y := (⟨"java/lang/Math", "min", "(II)I"⟩ : MethodName)) hown (mvT hZ (hw _ (List.mem_of_getElem? (i := 66) rfl))) (mvT hZ (hw _ (List.mem_of_getElem? (i := 67) rfl))) (mvT hZ (hw _ (List.mem_of_getElem? (i := 68) rfl))) (mvT hZ (hw _ (List.mem_of_getElem? (i := 69) rfl))) (by decide) (backOf (W := 0) (rqMN l Z a0 hw [] ((Int32.ofNat n) - (1 : Int32)) ((Int32.ofNat n) - (1 : Int32)) h0 n0 Z0 (own_irr _)) hZ (hw _ (List.mem_of_getElem? (i := 69) rfl)) (hw _ (List.mem_of_getElem? (i := 68) rfl)) (by decide) (by decide)) (g := (mkF m 14 #[.val (.ref b1), .val (.int p1), .val (.int ((Int32.ofNat n) - (1 : Int32))), .unset] [(.int ((Int32.ofNat n) - (1 : Int32))), (.int ((Int32.ofNat n) - (1 : Int32)))])) rfl (by rw [hml]; rfl) (argsL := [(.int ((Int32.ofNat n) - (1 : Int32))), (.int ((Int32.ofNat n) - (1 : Int32)))]) (rest := []) (lenOf pd_9 rfl) rfl (by show 2 * 0 + _ ≤ _; exact Nat.le_of_eq rfl) (hb hby d_jdk_43_method_27_code_14) (fun _ _ => ⟨rfl, hQ146, (by decide : 0 + 0 ≤ _), (by decide : 0 + 0 ≤ _)⟩)
  dsimp only [Pt.U, Pt.locs, Pt.cells, Pt.slots] at X148 l148 y148 z148 st148 hQ148
  subst l148 y148 z148
  obtain ⟨rfl, N148q, hQ148⟩ := hQ148
  have N148 := Fr.app N146 N148q
  refine Rch.of (T' := T148) (g' := (mkF m 17 #[.val (.ref b1), .val (.int p1), .val (.int ((Int32.ofNat n) - (1 : Int32))), .unset] [(.int ((Int32.ofNat n) - (1 : Int32)))])) st148 ?_
  refine Rch.of (T' := T148) (g' := (mkF m 18 #[.val (.ref b1), .val (.int p1), .val (.int ((Int32.ofNat n) - (1 : Int32))), .val (.int ((Int32.ofNat n) - (1 : Int32)))] [])) (fun _ kt => XS.istoreN X148.here hx rfl (hb hby d_jdk_43_method_27_code_17) rfl (l' := #[.val (.ref b1), .val (.int p1), .val (.int ((Int32.ofNat n) - (1 : Int32))), .val (.int ((Int32.ofNat n) - (1 : Int32)))]) rfl kt) ?_
  exact loop n (Nat.le_refl _) (fun q h1 h2 => absurd h2 (by omega)) T148 _ X148 hQ148 N148
theorem ef_rqL2 (m : MethodId) (a1 : Addr) (p1 : Int32) : entryFrame m #[(.ref a1), (.int p1), (.int ((Int32.ofNat n) - (1 : Int32)))] 3 = mkF m 0 #[.val (.ref a1), .val (.int p1), .val (.int ((Int32.ofNat n) - (1 : Int32)))] [] := by first | (simp [entryFrame, mkF, argsToLocals, Value.category]; done) | rfl
def Q_rqL2 (Z : State) (a1 : Addr) (b1 : Addr) (n : Nat) (y : Nat → Int32) (p1 : Int32) (cs : Int32) (h0 : Heap) (n0 : Nat) (vv_ : Option Value) (h : Heap) (LL_ : List Loc) : Prop := vv_ = some (.int (Int32.ofNat (own_ls y p1 n) - (1 : Int32))) ∧ Fr n0 LL_ ∧ (h = h0)
theorem d_jdk_42_method_83_code_0 : decode jdk_42_method_83_code 0 = .ok (.aload_n 0, 1) := by decide +kernel
theorem d_jdk_42_method_83_code_1 : decode jdk_42_method_83_code 1 = .ok (.invokevirtual 492, 3) := by decide +kernel
theorem d_jdk_42_method_83_code_4 : decode jdk_42_method_83_code 4 = .ok (.ifCond .eq 15, 3) := by decide +kernel
theorem d_jdk_42_method_83_code_7 : decode jdk_42_method_83_code 7 = .ok (.aload_n 0, 1) := by decide +kernel
theorem d_jdk_42_method_83_code_8 : decode jdk_42_method_83_code 8 = .ok (.getfield 9, 3) := by decide +kernel
theorem d_jdk_42_method_83_code_11 : decode jdk_42_method_83_code 11 = .ok (.iload_n 1, 1) := by decide +kernel
theorem d_jdk_42_method_83_code_12 : decode jdk_42_method_83_code 12 = .ok (.iload_n 2, 1) := by decide +kernel
theorem d_jdk_42_method_83_code_13 : decode jdk_42_method_83_code 13 = .ok (.invokestatic 644, 3) := by decide +kernel
theorem d_jdk_42_method_83_code_16 : decode jdk_42_method_83_code 16 = .ok (.goto 12, 3) := by decide +kernel
theorem d_jdk_42_method_83_code_28 : decode jdk_42_method_83_code 28 = .ok (.ireturn, 1) := by decide +kernel
set_option maxRecDepth 65536 in
set_option maxHeartbeats 40000000 in
theorem rqL2 (l : Launch) (Z : State) (a0 : Array Value) (hw : ∀ d ∈ tables_1, d.before a0 Z = true) (ws : List Jvm.Cond) (a1 : Addr) (b1 : Addr) (n : Nat) (y : Nat → Int32) (p1 : Int32) (cs : Int32) (h0 : Heap) (n0 : Nat) (Z0 : n0 ≤ h0.size) (E1 : Exa Z h0 a1 "java/lang/String") (F1 : Fld Z h0 a1 "java/lang/String" "coder" "B" (.int (0 : Int32))) (F2 : Fld Z h0 a1 "java/lang/String" "value" "[B" (.ref b1)) (V1 : Av Z h0 b1 .byte n (fun q => .int ((y q).toInt8.toInt32))) (hn : n ≤ 5) (hy : own_ch n y) (hp : own_c1 p1) (SC : Sta Z h0 "java/lang/String" "COMPACT_STRINGS" "Z" (.int cs)) (hcs : ¬ cs = (0 : Int32)) :
    MetFree l (⟨"java/lang/String", "lastIndexOf", "(II)I"⟩ : MethodName) (head1 (Jvm.Cond.code (⟨"java/lang/String", "lastIndexOf", "(II)I"⟩ : MethodName) jdk_42_method_83_code 3 (some .int) :: ws) ({ frames := 2, cells := 0, slots := 0, locals := 28 } : Room)) (fun aa_ UU_ => aa_ = #[(.ref a1), (.int p1), (.int ((Int32.ofNat n) - (1 : Int32)))] ∧ Z.Warmed39 UU_.vm ∧ UU_.heap = h0) (fun _ _ _ _ _ => True) (fun _ UU_ oo_ VV_ => ∃ vv_ LL_, oo_ = .returned vv_ ∧ Q_rqL2 Z a1 b1 n y p1 cs h0 n0 vv_ VV_.heap LL_ ∧ FrameEnd UU_ oo_ VV_ LL_ ({ frames := 2, cells := 0, slots := 0, locals := 28 } : Room).cells ({ frames := 2, cells := 0, slots := 0, locals := 28 } : Room).slots) := by
  refine own_met (y := (⟨"java/lang/String", "lastIndexOf", "(II)I"⟩ : MethodName)) (plainFor_of_name pn_1) ?_
  intro p e s m below meth c T0 K hx hby hml hret hlk hown hnm hZ X0 e0 hK
  have N0 := Fr.nil n0
  refine Rch.cast (ef_rqL2 m a1 p1) ?_
  refine Rch.of (T' := T0) (g' := (mkF m 1 #[.val (.ref a1), .val (.int p1), .val (.int ((Int32.ofNat n) - (1 : Int32)))] [(.ref a1)])) (fun _ kt => XS.aloadN X0.here hx rfl (hb hby d_jdk_42_method_83_code_0) rfl rfl kt) ?_
  obtain ⟨cq149, kq149, q149a, q149b, q149c⟩ := isOf hZ e0 E1
  obtain ⟨_, _, ⟨T149, L149, k149, n149⟩, -, X149, ⟨Lc149, hQ149, l149, y149, z149⟩, st149⟩ := X0.virtualBack hx (y := (⟨"java/lang/String", "isLatin1", "()Z"⟩ : MethodName)) (z := (⟨"java/lang/String", "isLatin1", "()Z"⟩ : MethodName)) hown (mvT hZ (hw _ (List.mem_of_getElem? (i := 54) rfl))) (mvT hZ (hw _ (List.mem_of_getElem? (i := 55) rfl))) (notFace_of_selects (args := #[]) (mvT hZ (hw _ (List.mem_of_getElem? (i := 57) rfl)))) (mvT hZ (hw _ (List.mem_of_getElem? (i := 57) rfl))) (mvT hZ (hw _ (List.mem_of_getElem? (i := 56) rfl))) (by decide) (backOf (W := 0) (rqLT l Z a0 hw [] a1 cs h0 n0 Z0 F1 SC hcs) hZ (hw _ (List.mem_of_getElem? (i := 58) rfl)) (hw _ (List.mem_of_getElem? (i := 10) rfl)) (by decide) (by decide)) q149a q149c (g := (mkF m 1 #[.val (.ref a1), .val (.int p1), .val (.int ((Int32.ofNat n) - (1 : Int32)))] [(.ref a1)])) rfl (by rw [hml]; rfl) (Steps.refl _) (argsL := []) (rest := []) (lenOf pd_10 rfl) rfl (by show 2 * 0 + _ ≤ _; exact Nat.le_of_eq rfl) (hb hby d_jdk_42_method_83_code_1) (fun _ _ => ⟨rfl, e0, (by decide : 0 + 0 ≤ _), (by decide : 0 + 0 ≤ _)⟩)
  dsimp only [Pt.U, Pt.locs, Pt.cells, Pt.slots] at X149 l149 y149 z149 st149 hQ149
  subst l149 y149 z149
  obtain ⟨rfl, N149q, hQ149⟩ := hQ149
  have N149 := Fr.app N0 N149q
  refine Rch.via (T' := T149) (g' := (mkF m 4 #[.val (.ref a1), .val (.int p1), .val (.int ((Int32.ofNat n) - (1 : Int32)))] [(.int (1 : Int32))])) st149 ?_
  refine Rch.of (T' := T149) (g' := (mkF m 7 #[.val (.ref a1), .val (.int p1), .val (.int ((Int32.ofNat n) - (1 : Int32)))] [])) (fun _ kt => XS.ifNo X149.here hx rfl (hb hby d_jdk_42_method_83_code_4) rfl ((if0 _ _).trans (feq ((by decide) : ¬ ((1 : Int32) = (0 : Int32)))).1) kt) ?_
  refine Rch.of (T' := T149) (g' := (mkF m 8 #[.val (.ref a1), .val (.int p1), .val (.int ((Int32.ofNat n) - (1 : Int32)))] [(.ref a1)])) (fun _ kt => XS.aloadN X149.here hx rfl (hb hby d_jdk_42_method_83_code_7) rfl rfl kt) ?_
  obtain ⟨T150, X150, e150, st150⟩ := getF X149 hx hZ hown (host := "") (Or.inl (hw _ (List.mem_of_getElem? (i := 27) rfl))) Via.refl hQ149 F2 (g := (mkF m 8 #[.val (.ref a1), .val (.int p1), .val (.int ((Int32.ofNat n) - (1 : Int32)))] [(.ref a1)])) rfl rfl (hb hby d_jdk_42_method_83_code_8)
  refine Rch.of (T' := T150) (g' := (mkF m 11 #[.val (.ref a1), .val (.int p1), .val (.int ((Int32.ofNat n) - (1 : Int32)))] [(.ref b1)])) st150 ?_
  refine Rch.of (T' := T150) (g' := (mkF m 12 #[.val (.ref a1), .val (.int p1), .val (.int ((Int32.ofNat n) - (1 : Int32)))] [(.int p1), (.ref b1)])) (fun _ kt => XS.iloadN X150.here hx rfl (hb hby d_jdk_42_method_83_code_11) rfl  kt) ?_
  refine Rch.of (T' := T150) (g' := (mkF m 13 #[.val (.ref a1), .val (.int p1), .val (.int ((Int32.ofNat n) - (1 : Int32)))] [(.int ((Int32.ofNat n) - (1 : Int32))), (.int p1), (.ref b1)])) (fun _ kt => XS.iloadN X150.here hx rfl (hb hby d_jdk_42_method_83_code_12) rfl  kt) ?_
  have pr152 : n ≤ 5 := by omega
  obtain ⟨_, _, ⟨T151, L151, k151, n151⟩, -, X151, ⟨Lc151, hQ151, l151, y151, z151⟩, st151⟩ := Jvm.LawKit.callS X150 hx (y := (⟨"java/lang/StringLatin1", "lastIndexOf", "([BII)I"⟩ : MethodName)) hown (mvT hZ (hw _ (List.mem_of_getElem? (i := 59) rfl))) (mvT hZ (hw _ (List.mem_of_getElem? (i := 60) rfl))) (mvT hZ (hw _ (List.mem_of_getElem? (i := 61) rfl))) (mvT hZ (hw _ (List.mem_of_getElem? (i := 62) rfl))) (by decide) (backOf (W := 0) (rqLB l Z a0 hw [] b1 p1 n y h0 n0 Z0 V1 pr152 hy hp) hZ (hw _ (List.mem_of_getElem? (i := 62) rfl)) (hw _ (List.mem_of_getElem? (i := 61) rfl)) (by decide) (by decide)) (g := (mkF m 13 #[.val (.ref a1), .val (.int p1), .val (.int ((Int32.ofNat n) - (1 : Int32)))] [(.int ((Int32.ofNat n) - (1 : Int32))), (.int p1), (.ref b1)])) rfl (by rw [hml]; rfl) (argsL := [(.ref b1), (.int p1), (.int ((Int32.ofNat n) - (1 : Int32)))]) (rest := []) (lenOf pd_11 rfl) rfl (by show 2 * 0 + _ ≤ _; exact Nat.le_of_eq rfl) (hb hby d_jdk_42_method_83_code_13) (fun _ _ => ⟨rfl, e150, (by decide : 0 + 0 ≤ _), (by decide : 0 + 0 ≤ _)⟩)
  dsimp only [Pt.U, Pt.locs, Pt.cells, Pt.slots] at X151 l151 y151 z151 st151 hQ151
  subst l151 y151 z151
  obtain ⟨rfl, N151q, hQ151⟩ := hQ151
  have N151 := Fr.app N149 N151q
  refine Rch.of (T' := T151) (g' := (mkF m 16 #[.val (.ref a1), .val (.int p1), .val (.int ((Int32.ofNat n) - (1 : Int32)))] [(.int ((Int32.ofNat (own_ls y p1 n)) - (1 : Int32)))])) st151 ?_
  refine Rch.of (T' := T151) (g' := (mkF m 28 #[.val (.ref a1), .val (.int p1), .val (.int ((Int32.ofNat n) - (1 : Int32)))] [(.int ((Int32.ofNat (own_ls y p1 n)) - (1 : Int32)))])) (fun _ kt => XS.goto X151.here hx rfl (pc0 := 16) (pc' := 28) rfl (hb hby d_jdk_42_method_83_code_16) (by decide) (by decide) kt) ?_
  exact Rch.retI X151 hx hret hlk (hb hby d_jdk_42_method_83_code_28) (fun U hU hF => hK _ U _ _ _ (by show Q_rqL2 Z a1 b1 n y p1 cs h0 n0 _ U.heap _; rw [hU, hQ151]; exact ⟨rfl, N151, rfl⟩) hF (by decide) (by decide))
theorem ef_rqL1 (m : MethodId) (a1 : Addr) (p1 : Int32) : entryFrame m #[(.ref a1), (.int p1)] 2 = mkF m 0 #[.val (.ref a1), .val (.int p1)] [] := by first | (simp [entryFrame, mkF, argsToLocals, Value.category]; done) | rfl
def Q_rqL1 (Z : State) (a1 : Addr) (b1 : Addr) (n : Nat) (y : Nat → Int32) (p1 : Int32) (cs : Int32) (h0 : Heap) (n0 : Nat) (vv_ : Option Value) (h : Heap) (LL_ : List Loc) : Prop := vv_ = some (.int (Int32.ofNat (own_ls y p1 n) - (1 : Int32))) ∧ Fr n0 LL_ ∧ (h = h0)
theorem d_jdk_42_method_82_code_0 : decode jdk_42_method_82_code 0 = .ok (.aload_n 0, 1) := by decide +kernel
theorem d_jdk_42_method_82_code_1 : decode jdk_42_method_82_code 1 = .ok (.iload_n 1, 1) := by decide +kernel
theorem d_jdk_42_method_82_code_2 : decode jdk_42_method_82_code 2 = .ok (.aload_n 0, 1) := by decide +kernel
theorem d_jdk_42_method_82_code_3 : decode jdk_42_method_82_code 3 = .ok (.invokevirtual 505, 3) := by decide +kernel
theorem d_jdk_42_method_82_code_6 : decode jdk_42_method_82_code 6 = .ok (.iconst 1, 1) := by decide +kernel
theorem d_jdk_42_method_82_code_7 : decode jdk_42_method_82_code 7 = .ok (.isub, 1) := by decide +kernel
theorem d_jdk_42_method_82_code_8 : decode jdk_42_method_82_code 8 = .ok (.invokevirtual 641, 3) := by decide +kernel
theorem d_jdk_42_method_82_code_11 : decode jdk_42_method_82_code 11 = .ok (.ireturn, 1) := by decide +kernel
set_option maxRecDepth 65536 in
set_option maxHeartbeats 40000000 in
theorem rqL1 (l : Launch) (Z : State) (a0 : Array Value) (hw : ∀ d ∈ tables_1, d.before a0 Z = true) (ws : List Jvm.Cond) (a1 : Addr) (b1 : Addr) (n : Nat) (y : Nat → Int32) (p1 : Int32) (cs : Int32) (h0 : Heap) (n0 : Nat) (Z0 : n0 ≤ h0.size) (E1 : Exa Z h0 a1 "java/lang/String") (F1 : Fld Z h0 a1 "java/lang/String" "coder" "B" (.int (0 : Int32))) (F2 : Fld Z h0 a1 "java/lang/String" "value" "[B" (.ref b1)) (V1 : Av Z h0 b1 .byte n (fun q => .int ((y q).toInt8.toInt32))) (hn : n ≤ 5) (hy : own_ch n y) (hp : own_c1 p1) (SC : Sta Z h0 "java/lang/String" "COMPACT_STRINGS" "Z" (.int cs)) (hcs : ¬ cs = (0 : Int32)) :
    MetFree l (⟨"java/lang/String", "lastIndexOf", "(I)I"⟩ : MethodName) (head1 (Jvm.Cond.code (⟨"java/lang/String", "lastIndexOf", "(I)I"⟩ : MethodName) jdk_42_method_82_code 2 (some .int) :: ws) ({ frames := 3, cells := 0, slots := 0, locals := 42 } : Room)) (fun aa_ UU_ => aa_ = #[(.ref a1), (.int p1)] ∧ Z.Warmed39 UU_.vm ∧ UU_.heap = h0) (fun _ _ _ _ _ => True) (fun _ UU_ oo_ VV_ => ∃ vv_ LL_, oo_ = .returned vv_ ∧ Q_rqL1 Z a1 b1 n y p1 cs h0 n0 vv_ VV_.heap LL_ ∧ FrameEnd UU_ oo_ VV_ LL_ ({ frames := 3, cells := 0, slots := 0, locals := 42 } : Room).cells ({ frames := 3, cells := 0, slots := 0, locals := 42 } : Room).slots) := by
  refine own_met (y := (⟨"java/lang/String", "lastIndexOf", "(I)I"⟩ : MethodName)) (plainFor_of_name pn_1) ?_
  intro p e s m below meth c T0 K hx hby hml hret hlk hown hnm hZ X0 e0 hK
  have N0 := Fr.nil n0
  refine Rch.cast (ef_rqL1 m a1 p1) ?_
  refine Rch.of (T' := T0) (g' := (mkF m 1 #[.val (.ref a1), .val (.int p1)] [(.ref a1)])) (fun _ kt => XS.aloadN X0.here hx rfl (hb hby d_jdk_42_method_82_code_0) rfl rfl kt) ?_
  refine Rch.of (T' := T0) (g' := (mkF m 2 #[.val (.ref a1), .val (.int p1)] [(.int p1), (.ref a1)])) (fun _ kt => XS.iloadN X0.here hx rfl (hb hby d_jdk_42_method_82_code_1) rfl  kt) ?_
  refine Rch.of (T' := T0) (g' := (mkF m 3 #[.val (.ref a1), .val (.int p1)] [(.ref a1), (.int p1), (.ref a1)])) (fun _ kt => XS.aloadN X0.here hx rfl (hb hby d_jdk_42_method_82_code_2) rfl rfl kt) ?_
  obtain ⟨cq153, kq153, q153a, q153b, q153c⟩ := isOf hZ e0 E1
  obtain ⟨_, _, ⟨T153, L153, k153, n153⟩, -, X153, ⟨Lc153, hQ153, l153, y153, z153⟩, st153⟩ := X0.virtualBack hx (y := (⟨"java/lang/String", "length", "()I"⟩ : MethodName)) (z := (⟨"java/lang/String", "length", "()I"⟩ : MethodName)) hown (mvT hZ (hw _ (List.mem_of_getElem? (i := 38) rfl))) (mvT hZ (hw _ (List.mem_of_getElem? (i := 39) rfl))) (notFace_of_selects (args := #[]) (mvT hZ (hw _ (List.mem_of_getElem? (i := 41) rfl)))) (mvT hZ (hw _ (List.mem_of_getElem? (i := 41) rfl))) (mvT hZ (hw _ (List.mem_of_getElem? (i := 40) rfl))) (by decide) (backOf (W := 2) (rqLE l Z a0 hw [] a1 b1 n y cs h0 n0 Z0 E1 F1 F2 V1 SC hcs) hZ (hw _ (List.mem_of_getElem? (i := 42) rfl)) (hw _ (List.mem_of_getElem? (i := 10) rfl)) (by decide) (by decide)) q153a q153c (g := (mkF m 3 #[.val (.ref a1), .val (.int p1)] [(.ref a1), (.int p1), (.ref a1)])) rfl (by rw [hml]; rfl) (Steps.refl _) (argsL := []) (rest := [(.int p1), (.ref a1)]) (lenOf pd_7 rfl) rfl (by show 2 * 0 + _ ≤ _; exact Nat.le_of_eq rfl) (hb hby d_jdk_42_method_82_code_3) (fun _ _ => ⟨rfl, e0, (by decide : 0 + 0 ≤ _), (by decide : 0 + 0 ≤ _)⟩)
  dsimp only [Pt.U, Pt.locs, Pt.cells, Pt.slots] at X153 l153 y153 z153 st153 hQ153
  subst l153 y153 z153
  obtain ⟨rfl, N153q, hQ153⟩ := hQ153
  have N153 := Fr.app N0 N153q
  refine Rch.via (T' := T153) (g' := (mkF m 6 #[.val (.ref a1), .val (.int p1)] [(.int (Int32.ofNat n)), (.int p1), (.ref a1)])) st153 ?_
  refine Rch.of (T' := T153) (g' := (mkF m 7 #[.val (.ref a1), .val (.int p1)] [(.int (1 : Int32)), (.int (Int32.ofNat n)), (.int p1), (.ref a1)])) (fun _ kt => XS.iconst X153.here hx rfl (hb hby d_jdk_42_method_82_code_6) kt) ?_
  refine Rch.of (T' := T153) (g' := (mkF m 8 #[.val (.ref a1), .val (.int p1)] [(.int ((Int32.ofNat n) - (1 : Int32))), (.int p1), (.ref a1)])) (fun _ kt => XS.isub X153.here hx rfl (hb hby d_jdk_42_method_82_code_7) rfl kt) ?_
  have pr155 : n ≤ 5 := by omega
  obtain ⟨cq154, kq154, q154a, q154b, q154c⟩ := isOf hZ hQ153 E1
  obtain ⟨_, _, ⟨T154, L154, k154, n154⟩, -, X154, ⟨Lc154, hQ154, l154, y154, z154⟩, st154⟩ := X153.virtualBack hx (y := (⟨"java/lang/String", "lastIndexOf", "(II)I"⟩ : MethodName)) (z := (⟨"java/lang/String", "lastIndexOf", "(II)I"⟩ : MethodName)) hown (mvT hZ (hw _ (List.mem_of_getElem? (i := 49) rfl))) (mvT hZ (hw _ (List.mem_of_getElem? (i := 50) rfl))) (notFace_of_selects (args := #[]) (mvT hZ (hw _ (List.mem_of_getElem? (i := 52) rfl)))) (mvT hZ (hw _ (List.mem_of_getElem? (i := 52) rfl))) (mvT hZ (hw _ (List.mem_of_getElem? (i := 51) rfl))) (by decide) (backOf (W := 0) (rqL2 l Z a0 hw [] a1 b1 n y p1 cs h0 n0 Z0 E1 F1 F2 V1 pr155 hy hp SC hcs) hZ (hw _ (List.mem_of_getElem? (i := 53) rfl)) (hw _ (List.mem_of_getElem? (i := 10) rfl)) (by decide) (by decide)) q154a q154c (g := (mkF m 8 #[.val (.ref a1), .val (.int p1)] [(.int ((Int32.ofNat n) - (1 : Int32))), (.int p1), (.ref a1)])) rfl (by rw [hml]; rfl) (Steps.refl _) (argsL := [(.int p1), (.int ((Int32.ofNat n) - (1 : Int32)))]) (rest := []) (lenOf pd_9 rfl) rfl (by show 2 * 0 + _ ≤ _; exact Nat.le_of_eq rfl) (hb hby d_jdk_42_method_82_code_8) (fun _ _ => ⟨rfl, hQ153, (by decide : 0 + 0 ≤ _), (by decide : 0 + 0 ≤ _)⟩)
  dsimp only [Pt.U, Pt.locs, Pt.cells, Pt.slots] at X154 l154 y154 z154 st154 hQ154
  subst l154 y154 z154
  obtain ⟨rfl, N154q, hQ154⟩ := hQ154
  have N154 := Fr.app N153 N154q
  refine Rch.via (T' := T154) (g' := (mkF m 11 #[.val (.ref a1), .val (.int p1)] [(.int ((Int32.ofNat (own_ls y p1 n)) - (1 : Int32)))])) st154 ?_
  exact Rch.retI X154 hx hret hlk (hb hby d_jdk_42_method_82_code_11) (fun U hU hF => hK _ U _ _ _ (by show Q_rqL1 Z a1 b1 n y p1 cs h0 n0 _ U.heap _; rw [hU, hQ154]; exact ⟨rfl, N154, rfl⟩) hF (by decide) (by decide))
theorem ef_rqIC (m : MethodId) (b1 : Addr) (p1 : Int32) : entryFrame m #[(.ref b1), (.int p1), (.int (0 : Int32)), (.int (Int32.ofNat n))] 6 = mkF m 0 #[.val (.ref b1), .val (.int p1), .val (.int (0 : Int32)), .val (.int (Int32.ofNat n)), .unset, .unset] [] := by first | (simp [entryFrame, mkF, argsToLocals, Value.category]; done) | rfl
def Q_rqIC (Z : State) (b1 : Addr) (p1 : Int32) (n : Nat) (y : Nat → Int32) (h0 : Heap) (n0 : Nat) (vv_ : Option Value) (h : Heap) (LL_ : List Loc) : Prop := vv_ = some (.int (own_ix y p1 n)) ∧ Fr n0 LL_ ∧ (h = h0)
theorem d_jdk_43_method_23_code_0 : decode jdk_43_method_23_code 0 = .ok (.iload_n 1, 1) := by decide +kernel
theorem d_jdk_43_method_23_code_1 : decode jdk_43_method_23_code 1 = .ok (.i2b, 1) := by decide +kernel
theorem d_jdk_43_method_23_code_2 : decode jdk_43_method_23_code 2 = .ok (.istore 4, 2) := by decide +kernel
theorem d_jdk_43_method_23_code_4 : decode jdk_43_method_23_code 4 = .ok (.iload_n 2, 1) := by decide +kernel
theorem d_jdk_43_method_23_code_5 : decode jdk_43_method_23_code 5 = .ok (.istore 5, 2) := by decide +kernel
theorem d_jdk_43_method_23_code_7 : decode jdk_43_method_23_code 7 = .ok (.iload 5, 2) := by decide +kernel
theorem d_jdk_43_method_23_code_9 : decode jdk_43_method_23_code 9 = .ok (.iload_n 3, 1) := by decide +kernel
theorem d_jdk_43_method_23_code_10 : decode jdk_43_method_23_code 10 = .ok (.if_icmp .ge 21, 3) := by decide +kernel
theorem d_jdk_43_method_23_code_13 : decode jdk_43_method_23_code 13 = .ok (.aload_n 0, 1) := by decide +kernel
theorem d_jdk_43_method_23_code_14 : decode jdk_43_method_23_code 14 = .ok (.iload 5, 2) := by decide +kernel
theorem d_jdk_43_method_23_code_16 : decode jdk_43_method_23_code 16 = .ok (.baload, 1) := by decide +kernel
theorem d_jdk_43_method_23_code_17 : decode jdk_43_method_23_code 17 = .ok (.iload 4, 2) := by decide +kernel
theorem d_jdk_43_method_23_code_19 : decode jdk_43_method_23_code 19 = .ok (.if_icmp .ne 6, 3) := by decide +kernel
theorem d_jdk_43_method_23_code_22 : decode jdk_43_method_23_code 22 = .ok (.iload 5, 2) := by decide +kernel
theorem d_jdk_43_method_23_code_24 : decode jdk_43_method_23_code 24 = .ok (.ireturn, 1) := by decide +kernel
theorem d_jdk_43_method_23_code_25 : decode jdk_43_method_23_code 25 = .ok (.iinc 5 1, 3) := by decide +kernel
theorem d_jdk_43_method_23_code_28 : decode jdk_43_method_23_code 28 = .ok (.goto (-21), 3) := by decide +kernel
theorem d_jdk_43_method_23_code_31 : decode jdk_43_method_23_code 31 = .ok (.iconst (-1), 1) := by decide +kernel
theorem d_jdk_43_method_23_code_32 : decode jdk_43_method_23_code 32 = .ok (.ireturn, 1) := by decide +kernel
set_option maxRecDepth 65536 in
set_option maxHeartbeats 40000000 in
theorem rqIC (l : Launch) (Z : State) (a0 : Array Value) (hw : ∀ d ∈ tables_1, d.before a0 Z = true) (ws : List Jvm.Cond) (b1 : Addr) (p1 : Int32) (n : Nat) (y : Nat → Int32) (h0 : Heap) (n0 : Nat) (Z0 : n0 ≤ h0.size) (V1 : Av Z h0 b1 .byte n (fun q => .int ((y q).toInt8.toInt32))) (hn : n ≤ 5) (hy : own_ch n y) (hp : own_c1 p1) :
    MetFree l (⟨"java/lang/StringLatin1", "indexOfChar", "([BIII)I"⟩ : MethodName) (head1 (Jvm.Cond.code (⟨"java/lang/StringLatin1", "indexOfChar", "([BIII)I"⟩ : MethodName) jdk_43_method_23_code 6 (some .int) :: ws) ({ frames := 0, cells := 0, slots := 0, locals := 0 } : Room)) (fun aa_ UU_ => aa_ = #[(.ref b1), (.int p1), (.int (0 : Int32)), (.int (Int32.ofNat n))] ∧ Z.Warmed39 UU_.vm ∧ UU_.heap = h0) (fun _ _ _ _ _ => True) (fun _ UU_ oo_ VV_ => ∃ vv_ LL_, oo_ = .returned vv_ ∧ Q_rqIC Z b1 p1 n y h0 n0 vv_ VV_.heap LL_ ∧ FrameEnd UU_ oo_ VV_ LL_ ({ frames := 0, cells := 0, slots := 0, locals := 0 } : Room).cells ({ frames := 0, cells := 0, slots := 0, locals := 0 } : Room).slots) := by
  refine own_met (y := (⟨"java/lang/StringLatin1", "indexOfChar", "([BIII)I"⟩ : MethodName)) (plainFor_of_name pn_3) ?_
  intro p e s m below meth c T0 K hx hby hml hret hlk hown hnm hZ X0 e0 hK
  have N0 := Fr.nil n0
  refine Rch.cast (ef_rqIC m b1 p1) ?_
  have loop : ∀ (k i : Nat) (hk : i + k = n) (hno : ∀ q, q < i → y q ≠ p1) (T : State) (locs : List Loc) (X : Stand p l e ({ frames := 0, cells := 0, slots := 0, locals := 0 } : Room) s m #[(.ref b1), (.int p1), (.int (0 : Int32)), (.int (Int32.ofNat n))] below meth c T locs 0 0) (eT : T.heap = h0) (N : Fr n0 locs), Rch p e below K T (mkF m 7 #[.val (.ref b1), .val (.int p1), .val (.int (0 : Int32)), .val (.int (Int32.ofNat n)), .val (.int (p1.toInt8.toInt32)), .val (.int (Int32.ofNat i))] []) := by
    intro k
    induction k with
    | zero =>
      intro i hk hno T locs X eT N
      have kn156 : ¬ ((Int32.ofNat i) < (Int32.ofNat n)) := own_nlt (by omega) (by omega)
      refine Rch.of (T' := T) (g' := (mkF m 9 #[.val (.ref b1), .val (.int p1), .val (.int (0 : Int32)), .val (.int (Int32.ofNat n)), .val (.int (p1.toInt8.toInt32)), .val (.int (Int32.ofNat i))] [(.int (Int32.ofNat i))])) (fun _ kt => XS.iload X.here hx rfl (hb hby d_jdk_43_method_23_code_7) rfl  kt) ?_
      refine Rch.of (T' := T) (g' := (mkF m 10 #[.val (.ref b1), .val (.int p1), .val (.int (0 : Int32)), .val (.int (Int32.ofNat n)), .val (.int (p1.toInt8.toInt32)), .val (.int (Int32.ofNat i))] [(.int (Int32.ofNat n)), (.int (Int32.ofNat i))])) (fun _ kt => XS.iloadN X.here hx rfl (hb hby d_jdk_43_method_23_code_9) rfl  kt) ?_
      refine Rch.of (T' := T) (g' := (mkF m 31 #[.val (.ref b1), .val (.int p1), .val (.int (0 : Int32)), .val (.int (Int32.ofNat n)), .val (.int (p1.toInt8.toInt32)), .val (.int (Int32.ofNat i))] [])) (fun _ kt => XS.icmpYes X.here hx rfl (pc0 := 10) (pc' := 31) rfl (hb hby d_jdk_43_method_23_code_10) rfl (flt kn156).2.1 (by decide) (by decide) kt) ?_
      refine Rch.of (T' := T) (g' := (mkF m 32 #[.val (.ref b1), .val (.int p1), .val (.int (0 : Int32)), .val (.int (Int32.ofNat n)), .val (.int (p1.toInt8.toInt32)), .val (.int (Int32.ofNat i))] [(.int (-1 : Int32))])) (fun _ kt => XS.iconst X.here hx rfl (hb hby d_jdk_43_method_23_code_31) kt) ?_
      exact Rch.retI X hx hret hlk (hb hby d_jdk_43_method_23_code_32) (fun U hU hF => hK _ U _ _ _ (by show Q_rqIC Z b1 p1 n y h0 n0 _ U.heap _; rw [hU, eT]; exact ⟨by rw [own_ix_no (fun q hq => hno q (by omega))], N, rfl⟩) hF (by decide) (by decide))
    | succ k ih =>
      intro i hk hno T locs X eT N
      have hin : i < n := by omega
      have kn157 : (Int32.ofNat i) < (Int32.ofNat n) := own_lt3 hin (by omega)
      have ti : (Int32.ofNat i).toInt = (i : Int) := oTo (by omega)
      refine Rch.of (T' := T) (g' := (mkF m 9 #[.val (.ref b1), .val (.int p1), .val (.int (0 : Int32)), .val (.int (Int32.ofNat n)), .val (.int (p1.toInt8.toInt32)), .val (.int (Int32.ofNat i))] [(.int (Int32.ofNat i))])) (fun _ kt => XS.iload X.here hx rfl (hb hby d_jdk_43_method_23_code_7) rfl  kt) ?_
      refine Rch.of (T' := T) (g' := (mkF m 10 #[.val (.ref b1), .val (.int p1), .val (.int (0 : Int32)), .val (.int (Int32.ofNat n)), .val (.int (p1.toInt8.toInt32)), .val (.int (Int32.ofNat i))] [(.int (Int32.ofNat n)), (.int (Int32.ofNat i))])) (fun _ kt => XS.iloadN X.here hx rfl (hb hby d_jdk_43_method_23_code_9) rfl  kt) ?_
      refine Rch.of (T' := T) (g' := (mkF m 13 #[.val (.ref b1), .val (.int p1), .val (.int (0 : Int32)), .val (.int (Int32.ofNat n)), .val (.int (p1.toInt8.toInt32)), .val (.int (Int32.ofNat i))] [])) (fun _ kt => XS.icmpNo X.here hx rfl (hb hby d_jdk_43_method_23_code_10) rfl (tlt kn157).2.1 kt) ?_
      refine Rch.of (T' := T) (g' := (mkF m 14 #[.val (.ref b1), .val (.int p1), .val (.int (0 : Int32)), .val (.int (Int32.ofNat n)), .val (.int (p1.toInt8.toInt32)), .val (.int (Int32.ofNat i))] [(.ref b1)])) (fun _ kt => XS.aloadN X.here hx rfl (hb hby d_jdk_43_method_23_code_13) rfl rfl kt) ?_
      refine Rch.of (T' := T) (g' := (mkF m 16 #[.val (.ref b1), .val (.int p1), .val (.int (0 : Int32)), .val (.int (Int32.ofNat n)), .val (.int (p1.toInt8.toInt32)), .val (.int (Int32.ofNat i))] [(.int (Int32.ofNat i)), (.ref b1)])) (fun _ kt => XS.iload X.here hx rfl (hb hby d_jdk_43_method_23_code_14) rfl  kt) ?_
      obtain ⟨cl158, Ar158, Sz158, Ha158⟩ := id V1
      refine Rch.of (T' := T) (g' := (mkF m 17 #[.val (.ref b1), .val (.int p1), .val (.int (0 : Int32)), .val (.int (Int32.ofNat n)), .val (.int (p1.toInt8.toInt32)), .val (.int (Int32.ofNat i))] [(.int ((fun q => (y q).toInt8.toInt32) i))])) (X.baloadBytes hx (j := (Int32.ofNat i)) (v := (.int ((fun q => (y q).toInt8.toInt32) i))) (by rw [eT]; exact Ar158.1) (State.isArrayOf_alike hZ.alike Ar158.2.1) Ar158.2.2 (oIn (i := i) Sz158 ti hin) (oAt (i := i) Ha158 ti hin) (g := (mkF m 16 #[.val (.ref b1), .val (.int p1), .val (.int (0 : Int32)), .val (.int (Int32.ofNat n)), .val (.int (p1.toInt8.toInt32)), .val (.int (Int32.ofNat i))] [(.int (Int32.ofNat i)), (.ref b1)])) rfl rfl (hb hby d_jdk_43_method_23_code_16)) ?_
      refine Rch.of (T' := T) (g' := (mkF m 19 #[.val (.ref b1), .val (.int p1), .val (.int (0 : Int32)), .val (.int (Int32.ofNat n)), .val (.int (p1.toInt8.toInt32)), .val (.int (Int32.ofNat i))] [(.int (p1.toInt8.toInt32)), (.int ((fun q => (y q).toInt8.toInt32) i))])) (fun _ kt => XS.iload X.here hx rfl (hb hby d_jdk_43_method_23_code_17) rfl  kt) ?_
      by_cases c159 : ((fun q => (y q).toInt8.toInt32) i) = (p1.toInt8.toInt32)
      · skip
        refine Rch.of (T' := T) (g' := (mkF m 22 #[.val (.ref b1), .val (.int p1), .val (.int (0 : Int32)), .val (.int (Int32.ofNat n)), .val (.int (p1.toInt8.toInt32)), .val (.int (Int32.ofNat i))] [])) (fun _ kt => XS.icmpNo X.here hx rfl (hb hby d_jdk_43_method_23_code_19) rfl (teq c159).2 kt) ?_
        refine Rch.of (T' := T) (g' := (mkF m 24 #[.val (.ref b1), .val (.int p1), .val (.int (0 : Int32)), .val (.int (Int32.ofNat n)), .val (.int (p1.toInt8.toInt32)), .val (.int (Int32.ofNat i))] [(.int (Int32.ofNat i))])) (fun _ kt => XS.iload X.here hx rfl (hb hby d_jdk_43_method_23_code_22) rfl  kt) ?_
        exact Rch.retI X hx hret hlk (hb hby d_jdk_43_method_23_code_24) (fun U hU hF => hK _ U _ _ _ (by show Q_rqIC Z b1 p1 n y h0 n0 _ U.heap _; rw [hU, eT]; exact ⟨by rw [own_ix_at hin (own_b8i (hy.at hin) hp c159) hno], N, rfl⟩) hF (by decide) (by decide))
      · skip
        refine Rch.of (T' := T) (g' := (mkF m 25 #[.val (.ref b1), .val (.int p1), .val (.int (0 : Int32)), .val (.int (Int32.ofNat n)), .val (.int (p1.toInt8.toInt32)), .val (.int (Int32.ofNat i))] [])) (fun _ kt => XS.icmpYes X.here hx rfl (pc0 := 19) (pc' := 25) rfl (hb hby d_jdk_43_method_23_code_19) rfl (feq c159).2 (by decide) (by decide) kt) ?_
        refine Rch.of (T' := T) (g' := (mkF m 28 #[.val (.ref b1), .val (.int p1), .val (.int (0 : Int32)), .val (.int (Int32.ofNat n)), .val (.int (p1.toInt8.toInt32)), .val (.int ((Int32.ofNat i) + (1 : Int32)))] [])) (fun _ kt => XS.iinc X.here hx rfl (hb hby d_jdk_43_method_23_code_25) rfl (l' := #[.val (.ref b1), .val (.int p1), .val (.int (0 : Int32)), .val (.int (Int32.ofNat n)), .val (.int (p1.toInt8.toInt32)), .val (.int ((Int32.ofNat i) + (1 : Int32)))]) rfl kt) ?_
        refine Rch.of (T' := T) (g' := (mkF m 7 #[.val (.ref b1), .val (.int p1), .val (.int (0 : Int32)), .val (.int (Int32.ofNat n)), .val (.int (p1.toInt8.toInt32)), .val (.int ((Int32.ofNat i) + (1 : Int32)))] [])) (fun _ kt => XS.goto X.here hx rfl (pc0 := 28) (pc' := 7) rfl (hb hby d_jdk_43_method_23_code_28) (by decide) (by decide) kt) ?_
        rw [own_one i]
        exact ih (i + 1) (by omega) (fun q h1 => if u : q = i then by rw [u]; exact fun e_ => c159 (congrArg (fun x : Int32 => x.toInt8.toInt32) e_) else hno q (by omega)) T _ X eT N
  refine Rch.of (T' := T0) (g' := (mkF m 1 #[.val (.ref b1), .val (.int p1), .val (.int (0 : Int32)), .val (.int (Int32.ofNat n)), .unset, .unset] [(.int p1)])) (fun _ kt => XS.iloadN X0.here hx rfl (hb hby d_jdk_43_method_23_code_0) rfl  kt) ?_
  refine Rch.of (T' := T0) (g' := (mkF m 2 #[.val (.ref b1), .val (.int p1), .val (.int (0 : Int32)), .val (.int (Int32.ofNat n)), .unset, .unset] [(.int (p1.toInt8.toInt32))])) (fun _ kt => XS.i2b X0.here hx rfl (hb hby d_jdk_43_method_23_code_1) rfl kt) ?_
  refine Rch.of (T' := T0) (g' := (mkF m 4 #[.val (.ref b1), .val (.int p1), .val (.int (0 : Int32)), .val (.int (Int32.ofNat n)), .val (.int (p1.toInt8.toInt32)), .unset] [])) (fun _ kt => XS.istore X0.here hx rfl (hb hby d_jdk_43_method_23_code_2) rfl (l' := #[.val (.ref b1), .val (.int p1), .val (.int (0 : Int32)), .val (.int (Int32.ofNat n)), .val (.int (p1.toInt8.toInt32)), .unset]) rfl kt) ?_
  refine Rch.of (T' := T0) (g' := (mkF m 5 #[.val (.ref b1), .val (.int p1), .val (.int (0 : Int32)), .val (.int (Int32.ofNat n)), .val (.int (p1.toInt8.toInt32)), .unset] [(.int (0 : Int32))])) (fun _ kt => XS.iloadN X0.here hx rfl (hb hby d_jdk_43_method_23_code_4) rfl  kt) ?_
  refine Rch.of (T' := T0) (g' := (mkF m 7 #[.val (.ref b1), .val (.int p1), .val (.int (0 : Int32)), .val (.int (Int32.ofNat n)), .val (.int (p1.toInt8.toInt32)), .val (.int (0 : Int32))] [])) (fun _ kt => XS.istore X0.here hx rfl (hb hby d_jdk_43_method_23_code_5) rfl (l' := #[.val (.ref b1), .val (.int p1), .val (.int (0 : Int32)), .val (.int (Int32.ofNat n)), .val (.int (p1.toInt8.toInt32)), .val (.int (0 : Int32))]) rfl kt) ?_
  exact loop n 0 (by omega) (fun q h1 => absurd h1 (Nat.not_lt_zero q)) T0 _ X0 e0 N0
theorem ef_rqIB (m : MethodId) (b1 : Addr) (p1 : Int32) : entryFrame m #[(.ref b1), (.int p1), (.int (0 : Int32)), (.int (Int32.ofNat n))] 4 = mkF m 0 #[.val (.ref b1), .val (.int p1), .val (.int (0 : Int32)), .val (.int (Int32.ofNat n))] [] := by first | (simp [entryFrame, mkF, argsToLocals, Value.category]; done) | rfl
def Q_rqIB (Z : State) (b1 : Addr) (p1 : Int32) (n : Nat) (y : Nat → Int32) (h0 : Heap) (n0 : Nat) (vv_ : Option Value) (h : Heap) (LL_ : List Loc) : Prop := vv_ = some (.int (own_ix y p1 n)) ∧ Fr n0 LL_ ∧ (h = h0)
theorem d_jdk_43_method_22_code_0 : decode jdk_43_method_22_code 0 = .ok (.iload_n 1, 1) := by decide +kernel
theorem d_jdk_43_method_22_code_1 : decode jdk_43_method_22_code 1 = .ok (.invokestatic 88, 3) := by decide +kernel
theorem d_jdk_43_method_22_code_4 : decode jdk_43_method_22_code 4 = .ok (.ifCond .ne 5, 3) := by decide +kernel
theorem d_jdk_43_method_22_code_9 : decode jdk_43_method_22_code 9 = .ok (.iload_n 2, 1) := by decide +kernel
theorem d_jdk_43_method_22_code_10 : decode jdk_43_method_22_code 10 = .ok (.iconst 0, 1) := by decide +kernel
theorem d_jdk_43_method_22_code_11 : decode jdk_43_method_22_code 11 = .ok (.invokestatic 92, 3) := by decide +kernel
theorem d_jdk_43_method_22_code_14 : decode jdk_43_method_22_code 14 = .ok (.istore_n 2, 1) := by decide +kernel
theorem d_jdk_43_method_22_code_15 : decode jdk_43_method_22_code 15 = .ok (.iload_n 3, 1) := by decide +kernel
theorem d_jdk_43_method_22_code_16 : decode jdk_43_method_22_code 16 = .ok (.aload_n 0, 1) := by decide +kernel
theorem d_jdk_43_method_22_code_17 : decode jdk_43_method_22_code 17 = .ok (.arraylength, 1) := by decide +kernel
theorem d_jdk_43_method_22_code_18 : decode jdk_43_method_22_code 18 = .ok (.invokestatic 38, 3) := by decide +kernel
theorem d_jdk_43_method_22_code_21 : decode jdk_43_method_22_code 21 = .ok (.istore_n 3, 1) := by decide +kernel
theorem d_jdk_43_method_22_code_22 : decode jdk_43_method_22_code 22 = .ok (.iload_n 2, 1) := by decide +kernel
theorem d_jdk_43_method_22_code_23 : decode jdk_43_method_22_code 23 = .ok (.iload_n 3, 1) := by decide +kernel
theorem d_jdk_43_method_22_code_24 : decode jdk_43_method_22_code 24 = .ok (.if_icmp .lt 5, 3) := by decide +kernel
theorem d_jdk_43_method_22_code_27 : decode jdk_43_method_22_code 27 = .ok (.iconst (-1), 1) := by decide +kernel
theorem d_jdk_43_method_22_code_28 : decode jdk_43_method_22_code 28 = .ok (.ireturn, 1) := by decide +kernel
theorem d_jdk_43_method_22_code_29 : decode jdk_43_method_22_code 29 = .ok (.aload_n 0, 1) := by decide +kernel
theorem d_jdk_43_method_22_code_30 : decode jdk_43_method_22_code 30 = .ok (.iload_n 1, 1) := by decide +kernel
theorem d_jdk_43_method_22_code_31 : decode jdk_43_method_22_code 31 = .ok (.iload_n 2, 1) := by decide +kernel
theorem d_jdk_43_method_22_code_32 : decode jdk_43_method_22_code 32 = .ok (.iload_n 3, 1) := by decide +kernel
theorem d_jdk_43_method_22_code_33 : decode jdk_43_method_22_code 33 = .ok (.invokestatic 95, 3) := by decide +kernel
theorem d_jdk_43_method_22_code_36 : decode jdk_43_method_22_code 36 = .ok (.ireturn, 1) := by decide +kernel
set_option maxRecDepth 65536 in
set_option maxHeartbeats 40000000 in
theorem rqIB (l : Launch) (Z : State) (a0 : Array Value) (hw : ∀ d ∈ tables_1, d.before a0 Z = true) (ws : List Jvm.Cond) (b1 : Addr) (p1 : Int32) (n : Nat) (y : Nat → Int32) (h0 : Heap) (n0 : Nat) (Z0 : n0 ≤ h0.size) (V1 : Av Z h0 b1 .byte n (fun q => .int ((y q).toInt8.toInt32))) (hn : n ≤ 5) (hy : own_ch n y) (hp : own_c1 p1) :
    MetFree l (⟨"java/lang/StringLatin1", "indexOf", "([BIII)I"⟩ : MethodName) (head1 (Jvm.Cond.code (⟨"java/lang/StringLatin1", "indexOf", "([BIII)I"⟩ : MethodName) jdk_43_method_22_code 4 (some .int) :: ws) ({ frames := 1, cells := 0, slots := 0, locals := 17 } : Room)) (fun aa_ UU_ => aa_ = #[(.ref b1), (.int p1), (.int (0 : Int32)), (.int (Int32.ofNat n))] ∧ Z.Warmed39 UU_.vm ∧ UU_.heap = h0) (fun _ _ _ _ _ => True) (fun _ UU_ oo_ VV_ => ∃ vv_ LL_, oo_ = .returned vv_ ∧ Q_rqIB Z b1 p1 n y h0 n0 vv_ VV_.heap LL_ ∧ FrameEnd UU_ oo_ VV_ LL_ ({ frames := 1, cells := 0, slots := 0, locals := 17 } : Room).cells ({ frames := 1, cells := 0, slots := 0, locals := 17 } : Room).slots) := by
  refine own_met (y := (⟨"java/lang/StringLatin1", "indexOf", "([BIII)I"⟩ : MethodName)) (plainFor_of_name pn_3) ?_
  intro p e s m below meth c T0 K hx hby hml hret hlk hown hnm hZ X0 e0 hK
  have N0 := Fr.nil n0
  refine Rch.cast (ef_rqIB m b1 p1) ?_
  refine Rch.of (T' := T0) (g' := (mkF m 1 #[.val (.ref b1), .val (.int p1), .val (.int (0 : Int32)), .val (.int (Int32.ofNat n))] [(.int p1)])) (fun _ kt => XS.iloadN X0.here hx rfl (hb hby d_jdk_43_method_22_code_0) rfl  kt) ?_
  obtain ⟨_, _, ⟨T160, L160, k160, n160⟩, -, X160, ⟨Lc160, hQ160, l160, y160, z160⟩, st160⟩ := Jvm.LawKit.callS X0 hx (y := (⟨"java/lang/StringLatin1", "canEncode", "(I)Z"⟩ : MethodName)) hown (mvT hZ (hw _ (List.mem_of_getElem? (i := 63) rfl))) (mvT hZ (hw _ (List.mem_of_getElem? (i := 64) rfl))) (mvT hZ (hw _ (List.mem_of_getElem? (i := 61) rfl))) (mvT hZ (hw _ (List.mem_of_getElem? (i := 65) rfl))) (by decide) (backOf (W := 0) (rqCE l Z a0 hw [] p1 h0 n0 Z0 hp) hZ (hw _ (List.mem_of_getElem? (i := 65) rfl)) (hw _ (List.mem_of_getElem? (i := 61) rfl)) (by decide) (by decide)) (g := (mkF m 1 #[.val (.ref b1), .val (.int p1), .val (.int (0 : Int32)), .val (.int (Int32.ofNat n))] [(.int p1)])) rfl (by rw [hml]; rfl) (argsL := [(.int p1)]) (rest := []) (lenOf pd_12 rfl) rfl (by show 2 * 0 + _ ≤ _; exact Nat.le_of_eq rfl) (hb hby d_jdk_43_method_22_code_1) (fun _ _ => ⟨rfl, e0, (by decide : 0 + 0 ≤ _), (by decide : 0 + 0 ≤ _)⟩)
  dsimp only [Pt.U, Pt.locs, Pt.cells, Pt.slots] at X160 l160 y160 z160 st160 hQ160
  subst l160 y160 z160
  obtain ⟨rfl, N160q, hQ160⟩ := hQ160
  have N160 := Fr.app N0 N160q
  refine Rch.of (T' := T160) (g' := (mkF m 4 #[.val (.ref b1), .val (.int p1), .val (.int (0 : Int32)), .val (.int (Int32.ofNat n))] [(.int (1 : Int32))])) st160 ?_
  refine Rch.of (T' := T160) (g' := (mkF m 9 #[.val (.ref b1), .val (.int p1), .val (.int (0 : Int32)), .val (.int (Int32.ofNat n))] [])) (fun _ kt => XS.ifYes X160.here hx rfl (pc0 := 4) (pc' := 9) rfl (hb hby d_jdk_43_method_22_code_4) rfl ((if0 _ _).trans (feq ((by decide) : ¬ ((1 : Int32) = (0 : Int32)))).2) (by decide) (by decide) kt) ?_
  refine Rch.of (T' := T160) (g' := (mkF m 10 #[.val (.ref b1), .val (.int p1), .val (.int (0 : Int32)), .val (.int (Int32.ofNat n))] [(.int (0 : Int32))])) (fun _ kt => XS.iloadN X160.here hx rfl (hb hby d_jdk_43_method_22_code_9) rfl  kt) ?_
  refine Rch.of (T' := T160) (g' := (mkF m 11 #[.val (.ref b1), .val (.int p1), .val (.int (0 : Int32)), .val (.int (Int32.ofNat n))] [(.int (0 : Int32)), (.int (0 : Int32))])) (fun _ kt => XS.iconst X160.here hx rfl (hb hby d_jdk_43_method_22_code_10) kt) ?_
  obtain ⟨_, _, ⟨T161, L161, k161, n161⟩, -, X161, ⟨Lc161, hQ161, l161, y161, z161⟩, st161⟩ := Jvm.LawKit.callS X160 hx (y := (⟨"java/lang/Math", "max", "(II)I"⟩ : MethodName)) hown (mvT hZ (hw _ (List.mem_of_getElem? (i := 104) rfl))) (mvT hZ (hw _ (List.mem_of_getElem? (i := 105) rfl))) (mvT hZ (hw _ (List.mem_of_getElem? (i := 68) rfl))) (mvT hZ (hw _ (List.mem_of_getElem? (i := 106) rfl))) (by decide) (backOf (W := 0) (rqMX l Z a0 hw [] (0 : Int32) (0 : Int32) h0 n0 Z0 (own_irr _)) hZ (hw _ (List.mem_of_getElem? (i := 106) rfl)) (hw _ (List.mem_of_getElem? (i := 68) rfl)) (by decide) (by decide)) (g := (mkF m 11 #[.val (.ref b1), .val (.int p1), .val (.int (0 : Int32)), .val (.int (Int32.ofNat n))] [(.int (0 : Int32)), (.int (0 : Int32))])) rfl (by rw [hml]; rfl) (argsL := [(.int (0 : Int32)), (.int (0 : Int32))]) (rest := []) (lenOf pd_9 rfl) rfl (by show 2 * 0 + _ ≤ _; exact Nat.le_of_eq rfl) (hb hby d_jdk_43_method_22_code_11) (fun _ _ => ⟨rfl, hQ160, (by decide : 0 + 0 ≤ _), (by decide : 0 + 0 ≤ _)⟩)
  dsimp only [Pt.U, Pt.locs, Pt.cells, Pt.slots] at X161 l161 y161 z161 st161 hQ161
  subst l161 y161 z161
  obtain ⟨rfl, N161q, hQ161⟩ := hQ161
  have N161 := Fr.app N160 N161q
  refine Rch.of (T' := T161) (g' := (mkF m 14 #[.val (.ref b1), .val (.int p1), .val (.int (0 : Int32)), .val (.int (Int32.ofNat n))] [(.int (0 : Int32))])) st161 ?_
  refine Rch.of (T' := T161) (g' := (mkF m 15 #[.val (.ref b1), .val (.int p1), .val (.int (0 : Int32)), .val (.int (Int32.ofNat n))] [])) (fun _ kt => XS.istoreN X161.here hx rfl (hb hby d_jdk_43_method_22_code_14) rfl (l' := #[.val (.ref b1), .val (.int p1), .val (.int (0 : Int32)), .val (.int (Int32.ofNat n))]) rfl kt) ?_
  refine Rch.of (T' := T161) (g' := (mkF m 16 #[.val (.ref b1), .val (.int p1), .val (.int (0 : Int32)), .val (.int (Int32.ofNat n))] [(.int (Int32.ofNat n))])) (fun _ kt => XS.iloadN X161.here hx rfl (hb hby d_jdk_43_method_22_code_15) rfl  kt) ?_
  refine Rch.of (T' := T161) (g' := (mkF m 17 #[.val (.ref b1), .val (.int p1), .val (.int (0 : Int32)), .val (.int (Int32.ofNat n))] [(.ref b1), (.int (Int32.ofNat n))])) (fun _ kt => XS.aloadN X161.here hx rfl (hb hby d_jdk_43_method_22_code_16) rfl rfl kt) ?_
  obtain ⟨cl162, Ar162, Sz162, Ha162⟩ := id V1
  refine Rch.of (T' := T161) (g' := (mkF m 18 #[.val (.ref b1), .val (.int p1), .val (.int (0 : Int32)), .val (.int (Int32.ofNat n))] [(.int cl162.slots.size.toInt32), (.int (Int32.ofNat n))])) (X161.arraylength hx (by rw [hQ161]; exact Ar162.1) (State.isArrayOf_alike hZ.alike Ar162.2.1) (g := (mkF m 17 #[.val (.ref b1), .val (.int p1), .val (.int (0 : Int32)), .val (.int (Int32.ofNat n))] [(.ref b1), (.int (Int32.ofNat n))])) rfl rfl (hb hby d_jdk_43_method_22_code_17)) ?_
  rw [oLen Sz162]
  show Rch p e below K T161 (mkF m 18 #[.val (.ref b1), .val (.int p1), .val (.int (0 : Int32)), .val (.int (Int32.ofNat n))] [(.int (Int32.ofNat n)), (.int (Int32.ofNat n))])
  obtain ⟨_, _, ⟨T163, L163, k163, n163⟩, -, X163, ⟨Lc163, hQ163, l163, y163, z163⟩, st163⟩ := Jvm.LawKit.callS X161 hx (y := (⟨"java/lang/Math", "min", "(II)I"⟩ : MethodName)) hown (mvT hZ (hw _ (List.mem_of_getElem? (i := 66) rfl))) (mvT hZ (hw _ (List.mem_of_getElem? (i := 67) rfl))) (mvT hZ (hw _ (List.mem_of_getElem? (i := 68) rfl))) (mvT hZ (hw _ (List.mem_of_getElem? (i := 69) rfl))) (by decide) (backOf (W := 0) (rqMN l Z a0 hw [] (Int32.ofNat n) (Int32.ofNat n) h0 n0 Z0 (own_irr _)) hZ (hw _ (List.mem_of_getElem? (i := 69) rfl)) (hw _ (List.mem_of_getElem? (i := 68) rfl)) (by decide) (by decide)) (g := (mkF m 18 #[.val (.ref b1), .val (.int p1), .val (.int (0 : Int32)), .val (.int (Int32.ofNat n))] [(.int (Int32.ofNat n)), (.int (Int32.ofNat n))])) rfl (by rw [hml]; rfl) (argsL := [(.int (Int32.ofNat n)), (.int (Int32.ofNat n))]) (rest := []) (lenOf pd_9 rfl) rfl (by show 2 * 0 + _ ≤ _; exact Nat.le_of_eq rfl) (hb hby d_jdk_43_method_22_code_18) (fun _ _ => ⟨rfl, hQ161, (by decide : 0 + 0 ≤ _), (by decide : 0 + 0 ≤ _)⟩)
  dsimp only [Pt.U, Pt.locs, Pt.cells, Pt.slots] at X163 l163 y163 z163 st163 hQ163
  subst l163 y163 z163
  obtain ⟨rfl, N163q, hQ163⟩ := hQ163
  have N163 := Fr.app N161 N163q
  refine Rch.of (T' := T163) (g' := (mkF m 21 #[.val (.ref b1), .val (.int p1), .val (.int (0 : Int32)), .val (.int (Int32.ofNat n))] [(.int (Int32.ofNat n))])) st163 ?_
  refine Rch.of (T' := T163) (g' := (mkF m 22 #[.val (.ref b1), .val (.int p1), .val (.int (0 : Int32)), .val (.int (Int32.ofNat n))] [])) (fun _ kt => XS.istoreN X163.here hx rfl (hb hby d_jdk_43_method_22_code_21) rfl (l' := #[.val (.ref b1), .val (.int p1), .val (.int (0 : Int32)), .val (.int (Int32.ofNat n))]) rfl kt) ?_
  refine Rch.of (T' := T163) (g' := (mkF m 23 #[.val (.ref b1), .val (.int p1), .val (.int (0 : Int32)), .val (.int (Int32.ofNat n))] [(.int (0 : Int32))])) (fun _ kt => XS.iloadN X163.here hx rfl (hb hby d_jdk_43_method_22_code_22) rfl  kt) ?_
  refine Rch.of (T' := T163) (g' := (mkF m 24 #[.val (.ref b1), .val (.int p1), .val (.int (0 : Int32)), .val (.int (Int32.ofNat n))] [(.int (Int32.ofNat n)), (.int (0 : Int32))])) (fun _ kt => XS.iloadN X163.here hx rfl (hb hby d_jdk_43_method_22_code_23) rfl  kt) ?_
  by_cases c164 : (0 : Int32) < (Int32.ofNat n)
  · skip
    refine Rch.of (T' := T163) (g' := (mkF m 29 #[.val (.ref b1), .val (.int p1), .val (.int (0 : Int32)), .val (.int (Int32.ofNat n))] [])) (fun _ kt => XS.icmpYes X163.here hx rfl (pc0 := 24) (pc' := 29) rfl (hb hby d_jdk_43_method_22_code_24) rfl (tlt c164).1 (by decide) (by decide) kt) ?_
    refine Rch.of (T' := T163) (g' := (mkF m 30 #[.val (.ref b1), .val (.int p1), .val (.int (0 : Int32)), .val (.int (Int32.ofNat n))] [(.ref b1)])) (fun _ kt => XS.aloadN X163.here hx rfl (hb hby d_jdk_43_method_22_code_29) rfl rfl kt) ?_
    refine Rch.of (T' := T163) (g' := (mkF m 31 #[.val (.ref b1), .val (.int p1), .val (.int (0 : Int32)), .val (.int (Int32.ofNat n))] [(.int p1), (.ref b1)])) (fun _ kt => XS.iloadN X163.here hx rfl (hb hby d_jdk_43_method_22_code_30) rfl  kt) ?_
    refine Rch.of (T' := T163) (g' := (mkF m 32 #[.val (.ref b1), .val (.int p1), .val (.int (0 : Int32)), .val (.int (Int32.ofNat n))] [(.int (0 : Int32)), (.int p1), (.ref b1)])) (fun _ kt => XS.iloadN X163.here hx rfl (hb hby d_jdk_43_method_22_code_31) rfl  kt) ?_
    refine Rch.of (T' := T163) (g' := (mkF m 33 #[.val (.ref b1), .val (.int p1), .val (.int (0 : Int32)), .val (.int (Int32.ofNat n))] [(.int (Int32.ofNat n)), (.int (0 : Int32)), (.int p1), (.ref b1)])) (fun _ kt => XS.iloadN X163.here hx rfl (hb hby d_jdk_43_method_22_code_32) rfl  kt) ?_
    have pr166 : n ≤ 5 := by omega
    obtain ⟨_, _, ⟨T165, L165, k165, n165⟩, -, X165, ⟨Lc165, hQ165, l165, y165, z165⟩, st165⟩ := Jvm.LawKit.callS X163 hx (y := (⟨"java/lang/StringLatin1", "indexOfChar", "([BIII)I"⟩ : MethodName)) hown (mvT hZ (hw _ (List.mem_of_getElem? (i := 150) rfl))) (mvT hZ (hw _ (List.mem_of_getElem? (i := 151) rfl))) (mvT hZ (hw _ (List.mem_of_getElem? (i := 61) rfl))) (mvT hZ (hw _ (List.mem_of_getElem? (i := 152) rfl))) (by decide) (backOf (W := 0) (rqIC l Z a0 hw [] b1 p1 n y h0 n0 Z0 V1 pr166 hy hp) hZ (hw _ (List.mem_of_getElem? (i := 152) rfl)) (hw _ (List.mem_of_getElem? (i := 61) rfl)) (by decide) (by decide)) (g := (mkF m 33 #[.val (.ref b1), .val (.int p1), .val (.int (0 : Int32)), .val (.int (Int32.ofNat n))] [(.int (Int32.ofNat n)), (.int (0 : Int32)), (.int p1), (.ref b1)])) rfl (by rw [hml]; rfl) (argsL := [(.ref b1), (.int p1), (.int (0 : Int32)), (.int (Int32.ofNat n))]) (rest := []) (lenOf pd_17 rfl) rfl (by show 2 * 0 + _ ≤ _; exact Nat.le_of_eq rfl) (hb hby d_jdk_43_method_22_code_33) (fun _ _ => ⟨rfl, hQ163, (by decide : 0 + 0 ≤ _), (by decide : 0 + 0 ≤ _)⟩)
    dsimp only [Pt.U, Pt.locs, Pt.cells, Pt.slots] at X165 l165 y165 z165 st165 hQ165
    subst l165 y165 z165
    obtain ⟨rfl, N165q, hQ165⟩ := hQ165
    have N165 := Fr.app N163 N165q
    refine Rch.of (T' := T165) (g' := (mkF m 36 #[.val (.ref b1), .val (.int p1), .val (.int (0 : Int32)), .val (.int (Int32.ofNat n))] [(.int (own_ix y p1 n))])) st165 ?_
    exact Rch.retI X165 hx hret hlk (hb hby d_jdk_43_method_22_code_36) (fun U hU hF => hK _ U _ _ _ (by show Q_rqIB Z b1 p1 n y h0 n0 _ U.heap _; rw [hU, hQ165]; exact ⟨rfl, N165, rfl⟩) hF (by decide) (by decide))
  · skip
    refine Rch.of (T' := T163) (g' := (mkF m 27 #[.val (.ref b1), .val (.int p1), .val (.int (0 : Int32)), .val (.int (Int32.ofNat n))] [])) (fun _ kt => XS.icmpNo X163.here hx rfl (hb hby d_jdk_43_method_22_code_24) rfl (flt c164).1 kt) ?_
    refine Rch.of (T' := T163) (g' := (mkF m 28 #[.val (.ref b1), .val (.int p1), .val (.int (0 : Int32)), .val (.int (Int32.ofNat n))] [(.int (-1 : Int32))])) (fun _ kt => XS.iconst X163.here hx rfl (hb hby d_jdk_43_method_22_code_27) kt) ?_
    exact Rch.retI X163 hx hret hlk (hb hby d_jdk_43_method_22_code_28) (fun U hU hF => hK _ U _ _ _ (by show Q_rqIB Z b1 p1 n y h0 n0 _ U.heap _; rw [hU, hQ163]; exact ⟨by rw [own_ix_no (fun q hq => absurd (own_lt3 (i := 0) (by omega) (by omega)) c164)], N163, rfl⟩) hF (by decide) (by decide))
theorem ef_rqI2 (m : MethodId) (a1 : Addr) (p1 : Int32) : entryFrame m #[(.ref a1), (.int p1), (.int (0 : Int32))] 3 = mkF m 0 #[.val (.ref a1), .val (.int p1), .val (.int (0 : Int32))] [] := by first | (simp [entryFrame, mkF, argsToLocals, Value.category]; done) | rfl
def Q_rqI2 (Z : State) (a1 : Addr) (b1 : Addr) (n : Nat) (y : Nat → Int32) (p1 : Int32) (cs : Int32) (h0 : Heap) (n0 : Nat) (vv_ : Option Value) (h : Heap) (LL_ : List Loc) : Prop := vv_ = some (.int (own_ix y p1 n)) ∧ Fr n0 LL_ ∧ (h = h0)
theorem d_jdk_42_method_80_code_0 : decode jdk_42_method_80_code 0 = .ok (.aload_n 0, 1) := by decide +kernel
theorem d_jdk_42_method_80_code_1 : decode jdk_42_method_80_code 1 = .ok (.invokevirtual 492, 3) := by decide +kernel
theorem d_jdk_42_method_80_code_4 : decode jdk_42_method_80_code 4 = .ok (.ifCond .eq 19, 3) := by decide +kernel
theorem d_jdk_42_method_80_code_7 : decode jdk_42_method_80_code 7 = .ok (.aload_n 0, 1) := by decide +kernel
theorem d_jdk_42_method_80_code_8 : decode jdk_42_method_80_code 8 = .ok (.getfield 9, 3) := by decide +kernel
theorem d_jdk_42_method_80_code_11 : decode jdk_42_method_80_code 11 = .ok (.iload_n 1, 1) := by decide +kernel
theorem d_jdk_42_method_80_code_12 : decode jdk_42_method_80_code 12 = .ok (.iload_n 2, 1) := by decide +kernel
theorem d_jdk_42_method_80_code_13 : decode jdk_42_method_80_code 13 = .ok (.aload_n 0, 1) := by decide +kernel
theorem d_jdk_42_method_80_code_14 : decode jdk_42_method_80_code 14 = .ok (.invokevirtual 505, 3) := by decide +kernel
theorem d_jdk_42_method_80_code_17 : decode jdk_42_method_80_code 17 = .ok (.invokestatic 637, 3) := by decide +kernel
theorem d_jdk_42_method_80_code_20 : decode jdk_42_method_80_code 20 = .ok (.goto 16, 3) := by decide +kernel
theorem d_jdk_42_method_80_code_36 : decode jdk_42_method_80_code 36 = .ok (.ireturn, 1) := by decide +kernel
set_option maxRecDepth 65536 in
set_option maxHeartbeats 40000000 in
theorem rqI2 (l : Launch) (Z : State) (a0 : Array Value) (hw : ∀ d ∈ tables_1, d.before a0 Z = true) (ws : List Jvm.Cond) (a1 : Addr) (b1 : Addr) (n : Nat) (y : Nat → Int32) (p1 : Int32) (cs : Int32) (h0 : Heap) (n0 : Nat) (Z0 : n0 ≤ h0.size) (E1 : Exa Z h0 a1 "java/lang/String") (F1 : Fld Z h0 a1 "java/lang/String" "coder" "B" (.int (0 : Int32))) (F2 : Fld Z h0 a1 "java/lang/String" "value" "[B" (.ref b1)) (V1 : Av Z h0 b1 .byte n (fun q => .int ((y q).toInt8.toInt32))) (hn : n ≤ 5) (hy : own_ch n y) (hp : own_c1 p1) (SC : Sta Z h0 "java/lang/String" "COMPACT_STRINGS" "Z" (.int cs)) (hcs : ¬ cs = (0 : Int32)) :
    MetFree l (⟨"java/lang/String", "indexOf", "(II)I"⟩ : MethodName) (head1 (Jvm.Cond.code (⟨"java/lang/String", "indexOf", "(II)I"⟩ : MethodName) jdk_42_method_80_code 3 (some .int) :: ws) ({ frames := 2, cells := 0, slots := 0, locals := 32 } : Room)) (fun aa_ UU_ => aa_ = #[(.ref a1), (.int p1), (.int (0 : Int32))] ∧ Z.Warmed39 UU_.vm ∧ UU_.heap = h0) (fun _ _ _ _ _ => True) (fun _ UU_ oo_ VV_ => ∃ vv_ LL_, oo_ = .returned vv_ ∧ Q_rqI2 Z a1 b1 n y p1 cs h0 n0 vv_ VV_.heap LL_ ∧ FrameEnd UU_ oo_ VV_ LL_ ({ frames := 2, cells := 0, slots := 0, locals := 32 } : Room).cells ({ frames := 2, cells := 0, slots := 0, locals := 32 } : Room).slots) := by
  refine own_met (y := (⟨"java/lang/String", "indexOf", "(II)I"⟩ : MethodName)) (plainFor_of_name pn_1) ?_
  intro p e s m below meth c T0 K hx hby hml hret hlk hown hnm hZ X0 e0 hK
  have N0 := Fr.nil n0
  refine Rch.cast (ef_rqI2 m a1 p1) ?_
  refine Rch.of (T' := T0) (g' := (mkF m 1 #[.val (.ref a1), .val (.int p1), .val (.int (0 : Int32))] [(.ref a1)])) (fun _ kt => XS.aloadN X0.here hx rfl (hb hby d_jdk_42_method_80_code_0) rfl rfl kt) ?_
  obtain ⟨cq167, kq167, q167a, q167b, q167c⟩ := isOf hZ e0 E1
  obtain ⟨_, _, ⟨T167, L167, k167, n167⟩, -, X167, ⟨Lc167, hQ167, l167, y167, z167⟩, st167⟩ := X0.virtualBack hx (y := (⟨"java/lang/String", "isLatin1", "()Z"⟩ : MethodName)) (z := (⟨"java/lang/String", "isLatin1", "()Z"⟩ : MethodName)) hown (mvT hZ (hw _ (List.mem_of_getElem? (i := 54) rfl))) (mvT hZ (hw _ (List.mem_of_getElem? (i := 55) rfl))) (notFace_of_selects (args := #[]) (mvT hZ (hw _ (List.mem_of_getElem? (i := 57) rfl)))) (mvT hZ (hw _ (List.mem_of_getElem? (i := 57) rfl))) (mvT hZ (hw _ (List.mem_of_getElem? (i := 56) rfl))) (by decide) (backOf (W := 0) (rqLT l Z a0 hw [] a1 cs h0 n0 Z0 F1 SC hcs) hZ (hw _ (List.mem_of_getElem? (i := 58) rfl)) (hw _ (List.mem_of_getElem? (i := 10) rfl)) (by decide) (by decide)) q167a q167c (g := (mkF m 1 #[.val (.ref a1), .val (.int p1), .val (.int (0 : Int32))] [(.ref a1)])) rfl (by rw [hml]; rfl) (Steps.refl _) (argsL := []) (rest := []) (lenOf pd_10 rfl) rfl (by show 2 * 0 + _ ≤ _; exact Nat.le_of_eq rfl) (hb hby d_jdk_42_method_80_code_1) (fun _ _ => ⟨rfl, e0, (by decide : 0 + 0 ≤ _), (by decide : 0 + 0 ≤ _)⟩)
  dsimp only [Pt.U, Pt.locs, Pt.cells, Pt.slots] at X167 l167 y167 z167 st167 hQ167
  subst l167 y167 z167
  obtain ⟨rfl, N167q, hQ167⟩ := hQ167
  have N167 := Fr.app N0 N167q
  refine Rch.via (T' := T167) (g' := (mkF m 4 #[.val (.ref a1), .val (.int p1), .val (.int (0 : Int32))] [(.int (1 : Int32))])) st167 ?_
  refine Rch.of (T' := T167) (g' := (mkF m 7 #[.val (.ref a1), .val (.int p1), .val (.int (0 : Int32))] [])) (fun _ kt => XS.ifNo X167.here hx rfl (hb hby d_jdk_42_method_80_code_4) rfl ((if0 _ _).trans (feq ((by decide) : ¬ ((1 : Int32) = (0 : Int32)))).1) kt) ?_
  refine Rch.of (T' := T167) (g' := (mkF m 8 #[.val (.ref a1), .val (.int p1), .val (.int (0 : Int32))] [(.ref a1)])) (fun _ kt => XS.aloadN X167.here hx rfl (hb hby d_jdk_42_method_80_code_7) rfl rfl kt) ?_
  obtain ⟨T168, X168, e168, st168⟩ := getF X167 hx hZ hown (host := "") (Or.inl (hw _ (List.mem_of_getElem? (i := 27) rfl))) Via.refl hQ167 F2 (g := (mkF m 8 #[.val (.ref a1), .val (.int p1), .val (.int (0 : Int32))] [(.ref a1)])) rfl rfl (hb hby d_jdk_42_method_80_code_8)
  refine Rch.of (T' := T168) (g' := (mkF m 11 #[.val (.ref a1), .val (.int p1), .val (.int (0 : Int32))] [(.ref b1)])) st168 ?_
  refine Rch.of (T' := T168) (g' := (mkF m 12 #[.val (.ref a1), .val (.int p1), .val (.int (0 : Int32))] [(.int p1), (.ref b1)])) (fun _ kt => XS.iloadN X168.here hx rfl (hb hby d_jdk_42_method_80_code_11) rfl  kt) ?_
  refine Rch.of (T' := T168) (g' := (mkF m 13 #[.val (.ref a1), .val (.int p1), .val (.int (0 : Int32))] [(.int (0 : Int32)), (.int p1), (.ref b1)])) (fun _ kt => XS.iloadN X168.here hx rfl (hb hby d_jdk_42_method_80_code_12) rfl  kt) ?_
  refine Rch.of (T' := T168) (g' := (mkF m 14 #[.val (.ref a1), .val (.int p1), .val (.int (0 : Int32))] [(.ref a1), (.int (0 : Int32)), (.int p1), (.ref b1)])) (fun _ kt => XS.aloadN X168.here hx rfl (hb hby d_jdk_42_method_80_code_13) rfl rfl kt) ?_
  obtain ⟨cq169, kq169, q169a, q169b, q169c⟩ := isOf hZ e168 E1
  obtain ⟨_, _, ⟨T169, L169, k169, n169⟩, -, X169, ⟨Lc169, hQ169, l169, y169, z169⟩, st169⟩ := X168.virtualBack hx (y := (⟨"java/lang/String", "length", "()I"⟩ : MethodName)) (z := (⟨"java/lang/String", "length", "()I"⟩ : MethodName)) hown (mvT hZ (hw _ (List.mem_of_getElem? (i := 38) rfl))) (mvT hZ (hw _ (List.mem_of_getElem? (i := 39) rfl))) (notFace_of_selects (args := #[]) (mvT hZ (hw _ (List.mem_of_getElem? (i := 41) rfl)))) (mvT hZ (hw _ (List.mem_of_getElem? (i := 41) rfl))) (mvT hZ (hw _ (List.mem_of_getElem? (i := 40) rfl))) (by decide) (backOf (W := 3) (rqLE l Z a0 hw [] a1 b1 n y cs h0 n0 Z0 E1 F1 F2 V1 SC hcs) hZ (hw _ (List.mem_of_getElem? (i := 42) rfl)) (hw _ (List.mem_of_getElem? (i := 10) rfl)) (by decide) (by decide)) q169a q169c (g := (mkF m 14 #[.val (.ref a1), .val (.int p1), .val (.int (0 : Int32))] [(.ref a1), (.int (0 : Int32)), (.int p1), (.ref b1)])) rfl (by rw [hml]; rfl) (Steps.refl _) (argsL := []) (rest := [(.int (0 : Int32)), (.int p1), (.ref b1)]) (lenOf pd_7 rfl) rfl (by show 2 * 0 + _ ≤ _; exact Nat.le_of_eq rfl) (hb hby d_jdk_42_method_80_code_14) (fun _ _ => ⟨rfl, e168, (by decide : 0 + 0 ≤ _), (by decide : 0 + 0 ≤ _)⟩)
  dsimp only [Pt.U, Pt.locs, Pt.cells, Pt.slots] at X169 l169 y169 z169 st169 hQ169
  subst l169 y169 z169
  obtain ⟨rfl, N169q, hQ169⟩ := hQ169
  have N169 := Fr.app N167 N169q
  refine Rch.via (T' := T169) (g' := (mkF m 17 #[.val (.ref a1), .val (.int p1), .val (.int (0 : Int32))] [(.int (Int32.ofNat n)), (.int (0 : Int32)), (.int p1), (.ref b1)])) st169 ?_
  have pr171 : n ≤ 5 := by omega
  obtain ⟨_, _, ⟨T170, L170, k170, n170⟩, -, X170, ⟨Lc170, hQ170, l170, y170, z170⟩, st170⟩ := Jvm.LawKit.callS X169 hx (y := (⟨"java/lang/StringLatin1", "indexOf", "([BIII)I"⟩ : MethodName)) hown (mvT hZ (hw _ (List.mem_of_getElem? (i := 101) rfl))) (mvT hZ (hw _ (List.mem_of_getElem? (i := 102) rfl))) (mvT hZ (hw _ (List.mem_of_getElem? (i := 61) rfl))) (mvT hZ (hw _ (List.mem_of_getElem? (i := 103) rfl))) (by decide) (backOf (W := 0) (rqIB l Z a0 hw [] b1 p1 n y h0 n0 Z0 V1 pr171 hy hp) hZ (hw _ (List.mem_of_getElem? (i := 103) rfl)) (hw _ (List.mem_of_getElem? (i := 61) rfl)) (by decide) (by decide)) (g := (mkF m 17 #[.val (.ref a1), .val (.int p1), .val (.int (0 : Int32))] [(.int (Int32.ofNat n)), (.int (0 : Int32)), (.int p1), (.ref b1)])) rfl (by rw [hml]; rfl) (argsL := [(.ref b1), (.int p1), (.int (0 : Int32)), (.int (Int32.ofNat n))]) (rest := []) (lenOf pd_17 rfl) rfl (by show 2 * 0 + _ ≤ _; exact Nat.le_of_eq rfl) (hb hby d_jdk_42_method_80_code_17) (fun _ _ => ⟨rfl, hQ169, (by decide : 0 + 0 ≤ _), (by decide : 0 + 0 ≤ _)⟩)
  dsimp only [Pt.U, Pt.locs, Pt.cells, Pt.slots] at X170 l170 y170 z170 st170 hQ170
  subst l170 y170 z170
  obtain ⟨rfl, N170q, hQ170⟩ := hQ170
  have N170 := Fr.app N169 N170q
  refine Rch.of (T' := T170) (g' := (mkF m 20 #[.val (.ref a1), .val (.int p1), .val (.int (0 : Int32))] [(.int (own_ix y p1 n))])) st170 ?_
  refine Rch.of (T' := T170) (g' := (mkF m 36 #[.val (.ref a1), .val (.int p1), .val (.int (0 : Int32))] [(.int (own_ix y p1 n))])) (fun _ kt => XS.goto X170.here hx rfl (pc0 := 20) (pc' := 36) rfl (hb hby d_jdk_42_method_80_code_20) (by decide) (by decide) kt) ?_
  exact Rch.retI X170 hx hret hlk (hb hby d_jdk_42_method_80_code_36) (fun U hU hF => hK _ U _ _ _ (by show Q_rqI2 Z a1 b1 n y p1 cs h0 n0 _ U.heap _; rw [hU, hQ170]; exact ⟨rfl, N170, rfl⟩) hF (by decide) (by decide))
theorem ef_rqI1 (m : MethodId) (a1 : Addr) (p1 : Int32) : entryFrame m #[(.ref a1), (.int p1)] 2 = mkF m 0 #[.val (.ref a1), .val (.int p1)] [] := by first | (simp [entryFrame, mkF, argsToLocals, Value.category]; done) | rfl
def Q_rqI1 (Z : State) (a1 : Addr) (b1 : Addr) (n : Nat) (y : Nat → Int32) (p1 : Int32) (cs : Int32) (h0 : Heap) (n0 : Nat) (vv_ : Option Value) (h : Heap) (LL_ : List Loc) : Prop := vv_ = some (.int (own_ix y p1 n)) ∧ Fr n0 LL_ ∧ (h = h0)
theorem d_jdk_42_method_79_code_0 : decode jdk_42_method_79_code 0 = .ok (.aload_n 0, 1) := by decide +kernel
theorem d_jdk_42_method_79_code_1 : decode jdk_42_method_79_code 1 = .ok (.iload_n 1, 1) := by decide +kernel
theorem d_jdk_42_method_79_code_2 : decode jdk_42_method_79_code 2 = .ok (.iconst 0, 1) := by decide +kernel
theorem d_jdk_42_method_79_code_3 : decode jdk_42_method_79_code 3 = .ok (.invokevirtual 633, 3) := by decide +kernel
theorem d_jdk_42_method_79_code_6 : decode jdk_42_method_79_code 6 = .ok (.ireturn, 1) := by decide +kernel
set_option maxRecDepth 65536 in
set_option maxHeartbeats 40000000 in
theorem rqI1 (l : Launch) (Z : State) (a0 : Array Value) (hw : ∀ d ∈ tables_1, d.before a0 Z = true) (ws : List Jvm.Cond) (a1 : Addr) (b1 : Addr) (n : Nat) (y : Nat → Int32) (p1 : Int32) (cs : Int32) (h0 : Heap) (n0 : Nat) (Z0 : n0 ≤ h0.size) (E1 : Exa Z h0 a1 "java/lang/String") (F1 : Fld Z h0 a1 "java/lang/String" "coder" "B" (.int (0 : Int32))) (F2 : Fld Z h0 a1 "java/lang/String" "value" "[B" (.ref b1)) (V1 : Av Z h0 b1 .byte n (fun q => .int ((y q).toInt8.toInt32))) (hn : n ≤ 5) (hy : own_ch n y) (hp : own_c1 p1) (SC : Sta Z h0 "java/lang/String" "COMPACT_STRINGS" "Z" (.int cs)) (hcs : ¬ cs = (0 : Int32)) :
    MetFree l (⟨"java/lang/String", "indexOf", "(I)I"⟩ : MethodName) (head1 (Jvm.Cond.code (⟨"java/lang/String", "indexOf", "(I)I"⟩ : MethodName) jdk_42_method_79_code 2 (some .int) :: ws) ({ frames := 3, cells := 0, slots := 0, locals := 46 } : Room)) (fun aa_ UU_ => aa_ = #[(.ref a1), (.int p1)] ∧ Z.Warmed39 UU_.vm ∧ UU_.heap = h0) (fun _ _ _ _ _ => True) (fun _ UU_ oo_ VV_ => ∃ vv_ LL_, oo_ = .returned vv_ ∧ Q_rqI1 Z a1 b1 n y p1 cs h0 n0 vv_ VV_.heap LL_ ∧ FrameEnd UU_ oo_ VV_ LL_ ({ frames := 3, cells := 0, slots := 0, locals := 46 } : Room).cells ({ frames := 3, cells := 0, slots := 0, locals := 46 } : Room).slots) := by
  refine own_met (y := (⟨"java/lang/String", "indexOf", "(I)I"⟩ : MethodName)) (plainFor_of_name pn_1) ?_
  intro p e s m below meth c T0 K hx hby hml hret hlk hown hnm hZ X0 e0 hK
  have N0 := Fr.nil n0
  refine Rch.cast (ef_rqI1 m a1 p1) ?_
  refine Rch.of (T' := T0) (g' := (mkF m 1 #[.val (.ref a1), .val (.int p1)] [(.ref a1)])) (fun _ kt => XS.aloadN X0.here hx rfl (hb hby d_jdk_42_method_79_code_0) rfl rfl kt) ?_
  refine Rch.of (T' := T0) (g' := (mkF m 2 #[.val (.ref a1), .val (.int p1)] [(.int p1), (.ref a1)])) (fun _ kt => XS.iloadN X0.here hx rfl (hb hby d_jdk_42_method_79_code_1) rfl  kt) ?_
  refine Rch.of (T' := T0) (g' := (mkF m 3 #[.val (.ref a1), .val (.int p1)] [(.int (0 : Int32)), (.int p1), (.ref a1)])) (fun _ kt => XS.iconst X0.here hx rfl (hb hby d_jdk_42_method_79_code_2) kt) ?_
  have pr173 : n ≤ 5 := by omega
  obtain ⟨cq172, kq172, q172a, q172b, q172c⟩ := isOf hZ e0 E1
  obtain ⟨_, _, ⟨T172, L172, k172, n172⟩, -, X172, ⟨Lc172, hQ172, l172, y172, z172⟩, st172⟩ := X0.virtualBack hx (y := (⟨"java/lang/String", "indexOf", "(II)I"⟩ : MethodName)) (z := (⟨"java/lang/String", "indexOf", "(II)I"⟩ : MethodName)) hown (mvT hZ (hw _ (List.mem_of_getElem? (i := 96) rfl))) (mvT hZ (hw _ (List.mem_of_getElem? (i := 97) rfl))) (notFace_of_selects (args := #[]) (mvT hZ (hw _ (List.mem_of_getElem? (i := 99) rfl)))) (mvT hZ (hw _ (List.mem_of_getElem? (i := 99) rfl))) (mvT hZ (hw _ (List.mem_of_getElem? (i := 98) rfl))) (by decide) (backOf (W := 0) (rqI2 l Z a0 hw [] a1 b1 n y p1 cs h0 n0 Z0 E1 F1 F2 V1 pr173 hy hp SC hcs) hZ (hw _ (List.mem_of_getElem? (i := 100) rfl)) (hw _ (List.mem_of_getElem? (i := 10) rfl)) (by decide) (by decide)) q172a q172c (g := (mkF m 3 #[.val (.ref a1), .val (.int p1)] [(.int (0 : Int32)), (.int p1), (.ref a1)])) rfl (by rw [hml]; rfl) (Steps.refl _) (argsL := [(.int p1), (.int (0 : Int32))]) (rest := []) (lenOf pd_9 rfl) rfl (by show 2 * 0 + _ ≤ _; exact Nat.le_of_eq rfl) (hb hby d_jdk_42_method_79_code_3) (fun _ _ => ⟨rfl, e0, (by decide : 0 + 0 ≤ _), (by decide : 0 + 0 ≤ _)⟩)
  dsimp only [Pt.U, Pt.locs, Pt.cells, Pt.slots] at X172 l172 y172 z172 st172 hQ172
  subst l172 y172 z172
  obtain ⟨rfl, N172q, hQ172⟩ := hQ172
  have N172 := Fr.app N0 N172q
  refine Rch.via (T' := T172) (g' := (mkF m 6 #[.val (.ref a1), .val (.int p1)] [(.int (own_ix y p1 n))])) st172 ?_
  exact Rch.retI X172 hx hret hlk (hb hby d_jdk_42_method_79_code_6) (fun U hU hF => hK _ U _ _ _ (by show Q_rqI1 Z a1 b1 n y p1 cs h0 n0 _ U.heap _; rw [hU, hQ172]; exact ⟨rfl, N172, rfl⟩) hF (by decide) (by decide))
theorem pn_4 : plainName "java/util/Arrays" = true := by first | (simp [plainName, overriddenIn]; done) | decide +kernel
theorem ef_rqCL (m : MethodId)  : entryFrame m #[(.int (Int32.ofNat i)), (.int (Int32.ofNat j))] 2 = mkF m 0 #[.val (.int (Int32.ofNat i)), .val (.int (Int32.ofNat j))] [] := by first | (simp [entryFrame, mkF, argsToLocals, Value.category]; done) | rfl
def Q_rqCL (Z : State) (i : Nat) (j : Nat) (h0 : Heap) (n0 : Nat) (vv_ : Option Value) (h : Heap) (LL_ : List Loc) : Prop := vv_ = none ∧ Fr n0 LL_ ∧ (h = h0)
theorem d_jdk_65_method_131_code_0 : decode jdk_65_method_131_code 0 = .ok (.iload_n 1, 1) := by decide +kernel
theorem d_jdk_65_method_131_code_1 : decode jdk_65_method_131_code 1 = .ok (.iload_n 0, 1) := by decide +kernel
theorem d_jdk_65_method_131_code_2 : decode jdk_65_method_131_code 2 = .ok (.if_icmp .ge 35, 3) := by decide +kernel
theorem d_jdk_65_method_131_code_37 : decode jdk_65_method_131_code 37 = .ok (.return_, 1) := by decide +kernel
set_option maxRecDepth 65536 in
set_option maxHeartbeats 40000000 in
theorem rqCL (l : Launch) (Z : State) (a0 : Array Value) (hw : ∀ d ∈ tables_1, d.before a0 Z = true) (ws : List Jvm.Cond) (i : Nat) (j : Nat) (h0 : Heap) (n0 : Nat) (Z0 : n0 ≤ h0.size) (hij : i ≤ j) (hj : j ≤ 5) :
    MetFree l (⟨"java/util/Arrays", "checkLength", "(II)V"⟩ : MethodName) (head1 (Jvm.Cond.code (⟨"java/util/Arrays", "checkLength", "(II)V"⟩ : MethodName) jdk_65_method_131_code 2 none :: ws) ({ frames := 0, cells := 0, slots := 0, locals := 0 } : Room)) (fun aa_ UU_ => aa_ = #[(.int (Int32.ofNat i)), (.int (Int32.ofNat j))] ∧ Z.Warmed39 UU_.vm ∧ UU_.heap = h0) (fun _ _ _ _ _ => True) (fun _ UU_ oo_ VV_ => ∃ vv_ LL_, oo_ = .returned vv_ ∧ Q_rqCL Z i j h0 n0 vv_ VV_.heap LL_ ∧ FrameEnd UU_ oo_ VV_ LL_ ({ frames := 0, cells := 0, slots := 0, locals := 0 } : Room).cells ({ frames := 0, cells := 0, slots := 0, locals := 0 } : Room).slots) := by
  refine own_met (y := (⟨"java/util/Arrays", "checkLength", "(II)V"⟩ : MethodName)) (plainFor_of_name pn_4) ?_
  intro p e s m below meth c T0 K hx hby hml hret hlk hown hnm hZ X0 e0 hK
  have N0 := Fr.nil n0
  refine Rch.cast (ef_rqCL m ) ?_
  have kn174 : ¬ ((Int32.ofNat j) < (Int32.ofNat i)) := own_nlt hij (by omega)
  refine Rch.of (T' := T0) (g' := (mkF m 1 #[.val (.int (Int32.ofNat i)), .val (.int (Int32.ofNat j))] [(.int (Int32.ofNat j))])) (fun _ kt => XS.iloadN X0.here hx rfl (hb hby d_jdk_65_method_131_code_0) rfl  kt) ?_
  refine Rch.of (T' := T0) (g' := (mkF m 2 #[.val (.int (Int32.ofNat i)), .val (.int (Int32.ofNat j))] [(.int (Int32.ofNat i)), (.int (Int32.ofNat j))])) (fun _ kt => XS.iloadN X0.here hx rfl (hb hby d_jdk_65_method_131_code_1) rfl  kt) ?_
  refine Rch.of (T' := T0) (g' := (mkF m 37 #[.val (.int (Int32.ofNat i)), .val (.int (Int32.ofNat j))] [])) (fun _ kt => XS.icmpYes X0.here hx rfl (pc0 := 2) (pc' := 37) rfl (hb hby d_jdk_65_method_131_code_2) rfl (flt kn174).2.1 (by decide) (by decide) kt) ?_
  exact Rch.retV X0 hx hret hlk (hb hby d_jdk_65_method_131_code_37) (fun U hU hF => hK _ U _ _ _ (by show Q_rqCL Z i j h0 n0 _ U.heap _; rw [hU, e0]; exact ⟨rfl, N0, rfl⟩) hF (by decide) (by decide))
theorem ef_rqCB (m : MethodId) (b1 : Addr) : entryFrame m #[(.ref b1), (.int (Int32.ofNat i)), (.int (Int32.ofNat j))] 5 = mkF m 0 #[.val (.ref b1), .val (.int (Int32.ofNat i)), .val (.int (Int32.ofNat j)), .unset, .unset] [] := by first | (simp [entryFrame, mkF, argsToLocals, Value.category]; done) | rfl
def Q_rqCB (Z : State) (b1 : Addr) (n : Nat) (y : Nat → Int32) (i : Nat) (j : Nat) (h0 : Heap) (n0 : Nat) (vv_ : Option Value) (h : Heap) (LL_ : List Loc) : Prop := vv_ = some (.ref h0.size) ∧ Fr n0 LL_ ∧ (Keep h0 h [] ∧ Av Z h h0.size .byte (j - i) (fun q => .int ((y (i + q)).toInt8.toInt32)))
theorem d_jdk_65_method_133_code_0 : decode jdk_65_method_133_code 0 = .ok (.iload_n 1, 1) := by decide +kernel
theorem d_jdk_65_method_133_code_1 : decode jdk_65_method_133_code 1 = .ok (.iload_n 2, 1) := by decide +kernel
theorem d_jdk_65_method_133_code_2 : decode jdk_65_method_133_code 2 = .ok (.invokestatic 343, 3) := by decide +kernel
theorem d_jdk_65_method_133_code_5 : decode jdk_65_method_133_code 5 = .ok (.iload_n 2, 1) := by decide +kernel
theorem d_jdk_65_method_133_code_6 : decode jdk_65_method_133_code 6 = .ok (.iload_n 1, 1) := by decide +kernel
theorem d_jdk_65_method_133_code_7 : decode jdk_65_method_133_code 7 = .ok (.isub, 1) := by decide +kernel
theorem d_jdk_65_method_133_code_8 : decode jdk_65_method_133_code 8 = .ok (.istore_n 3, 1) := by decide +kernel
theorem d_jdk_65_method_133_code_9 : decode jdk_65_method_133_code 9 = .ok (.iload_n 3, 1) := by decide +kernel
theorem d_jdk_65_method_133_code_10 : decode jdk_65_method_133_code 10 = .ok (.newarray .byte, 2) := by decide +kernel
theorem d_jdk_65_method_133_code_12 : decode jdk_65_method_133_code 12 = .ok (.astore 4, 2) := by decide +kernel
theorem d_jdk_65_method_133_code_14 : decode jdk_65_method_133_code 14 = .ok (.aload_n 0, 1) := by decide +kernel
theorem d_jdk_65_method_133_code_15 : decode jdk_65_method_133_code 15 = .ok (.iload_n 1, 1) := by decide +kernel
theorem d_jdk_65_method_133_code_16 : decode jdk_65_method_133_code 16 = .ok (.aload 4, 2) := by decide +kernel
theorem d_jdk_65_method_133_code_18 : decode jdk_65_method_133_code 18 = .ok (.iconst 0, 1) := by decide +kernel
theorem d_jdk_65_method_133_code_19 : decode jdk_65_method_133_code 19 = .ok (.aload_n 0, 1) := by decide +kernel
theorem d_jdk_65_method_133_code_20 : decode jdk_65_method_133_code 20 = .ok (.arraylength, 1) := by decide +kernel
theorem d_jdk_65_method_133_code_21 : decode jdk_65_method_133_code 21 = .ok (.iload_n 1, 1) := by decide +kernel
theorem d_jdk_65_method_133_code_22 : decode jdk_65_method_133_code 22 = .ok (.isub, 1) := by decide +kernel
theorem d_jdk_65_method_133_code_23 : decode jdk_65_method_133_code 23 = .ok (.iload_n 3, 1) := by decide +kernel
theorem d_jdk_65_method_133_code_24 : decode jdk_65_method_133_code 24 = .ok (.invokestatic 304, 3) := by decide +kernel
theorem d_jdk_65_method_133_code_27 : decode jdk_65_method_133_code 27 = .ok (.invokestatic 150, 3) := by decide +kernel
theorem d_jdk_65_method_133_code_30 : decode jdk_65_method_133_code 30 = .ok (.aload 4, 2) := by decide +kernel
theorem d_jdk_65_method_133_code_32 : decode jdk_65_method_133_code 32 = .ok (.areturn, 1) := by decide +kernel
set_option maxRecDepth 65536 in
set_option maxHeartbeats 40000000 in
theorem rqCB (l : Launch) (Z : State) (a0 : Array Value) (hw : ∀ d ∈ tables_1, d.before a0 Z = true) (ws : List Jvm.Cond) (b1 : Addr) (n : Nat) (y : Nat → Int32) (i : Nat) (j : Nat) (h0 : Heap) (n0 : Nat) (Z0 : n0 ≤ h0.size) (V1 : Av Z h0 b1 .byte n (fun q => .int ((y q).toInt8.toInt32))) (hij : i ≤ j) (hjn : j ≤ n) (hn : n ≤ 5) :
    MetFree l (⟨"java/util/Arrays", "copyOfRangeByte", "([BII)[B"⟩ : MethodName) (head1 (Jvm.Cond.code (⟨"java/util/Arrays", "copyOfRangeByte", "([BII)[B"⟩ : MethodName) jdk_65_method_133_code 5 (some (.array .byte)) :: ws) ({ frames := 1, cells := 1, slots := 5, locals := 18 } : Room)) (fun aa_ UU_ => aa_ = #[(.ref b1), (.int (Int32.ofNat i)), (.int (Int32.ofNat j))] ∧ Z.Warmed39 UU_.vm ∧ UU_.heap = h0) (fun _ _ _ _ _ => True) (fun _ UU_ oo_ VV_ => ∃ vv_ LL_, oo_ = .returned vv_ ∧ Q_rqCB Z b1 n y i j h0 n0 vv_ VV_.heap LL_ ∧ FrameEnd UU_ oo_ VV_ LL_ ({ frames := 1, cells := 1, slots := 5, locals := 18 } : Room).cells ({ frames := 1, cells := 1, slots := 5, locals := 18 } : Room).slots) := by
  refine own_met (y := (⟨"java/util/Arrays", "copyOfRangeByte", "([BII)[B"⟩ : MethodName)) (plainFor_of_name pn_4) ?_
  intro p e s m below meth c T0 K hx hby hml hret hlk hown hnm hZ X0 e0 hK
  have N0 := Fr.nil n0
  refine Rch.cast (ef_rqCB m b1) ?_
  refine Rch.of (T' := T0) (g' := (mkF m 1 #[.val (.ref b1), .val (.int (Int32.ofNat i)), .val (.int (Int32.ofNat j)), .unset, .unset] [(.int (Int32.ofNat i))])) (fun _ kt => XS.iloadN X0.here hx rfl (hb hby d_jdk_65_method_133_code_0) rfl  kt) ?_
  refine Rch.of (T' := T0) (g' := (mkF m 2 #[.val (.ref b1), .val (.int (Int32.ofNat i)), .val (.int (Int32.ofNat j)), .unset, .unset] [(.int (Int32.ofNat j)), (.int (Int32.ofNat i))])) (fun _ kt => XS.iloadN X0.here hx rfl (hb hby d_jdk_65_method_133_code_1) rfl  kt) ?_
  have pr176 : i ≤ j := by omega
  have pr177 : j ≤ 5 := by omega
  obtain ⟨_, _, ⟨T175, L175, k175, n175⟩, -, X175, ⟨Lc175, hQ175, l175, y175, z175⟩, st175⟩ := Jvm.LawKit.callS X0 hx (y := (⟨"java/util/Arrays", "checkLength", "(II)V"⟩ : MethodName)) hown (mvT hZ (hw _ (List.mem_of_getElem? (i := 139) rfl))) (mvT hZ (hw _ (List.mem_of_getElem? (i := 140) rfl))) (mvT hZ (hw _ (List.mem_of_getElem? (i := 134) rfl))) (mvT hZ (hw _ (List.mem_of_getElem? (i := 141) rfl))) (by decide) (backOf (W := 0) (rqCL l Z a0 hw [] i j h0 n0 Z0 pr176 pr177) hZ (hw _ (List.mem_of_getElem? (i := 141) rfl)) (hw _ (List.mem_of_getElem? (i := 134) rfl)) (by decide) (by decide)) (g := (mkF m 2 #[.val (.ref b1), .val (.int (Int32.ofNat i)), .val (.int (Int32.ofNat j)), .unset, .unset] [(.int (Int32.ofNat j)), (.int (Int32.ofNat i))])) rfl (by rw [hml]; rfl) (argsL := [(.int (Int32.ofNat i)), (.int (Int32.ofNat j))]) (rest := []) (lenOf pd_26 rfl) rfl (by show 2 * 0 + _ ≤ _; exact Nat.le_of_eq rfl) (hb hby d_jdk_65_method_133_code_2) (fun _ _ => ⟨rfl, e0, (by decide : 0 + 0 ≤ _), (by decide : 0 + 0 ≤ _)⟩)
  dsimp only [Pt.U, Pt.locs, Pt.cells, Pt.slots] at X175 l175 y175 z175 st175 hQ175
  subst l175 y175 z175
  obtain ⟨rfl, N175q, hQ175⟩ := hQ175
  have N175 := Fr.app N0 N175q
  refine Rch.of (T' := T175) (g' := (mkF m 5 #[.val (.ref b1), .val (.int (Int32.ofNat i)), .val (.int (Int32.ofNat j)), .unset, .unset] [])) st175 ?_
  refine Rch.of (T' := T175) (g' := (mkF m 6 #[.val (.ref b1), .val (.int (Int32.ofNat i)), .val (.int (Int32.ofNat j)), .unset, .unset] [(.int (Int32.ofNat j))])) (fun _ kt => XS.iloadN X175.here hx rfl (hb hby d_jdk_65_method_133_code_5) rfl  kt) ?_
  refine Rch.of (T' := T175) (g' := (mkF m 7 #[.val (.ref b1), .val (.int (Int32.ofNat i)), .val (.int (Int32.ofNat j)), .unset, .unset] [(.int (Int32.ofNat i)), (.int (Int32.ofNat j))])) (fun _ kt => XS.iloadN X175.here hx rfl (hb hby d_jdk_65_method_133_code_6) rfl  kt) ?_
  refine Rch.of (T' := T175) (g' := (mkF m 8 #[.val (.ref b1), .val (.int (Int32.ofNat i)), .val (.int (Int32.ofNat j)), .unset, .unset] [(.int ((Int32.ofNat j) - (Int32.ofNat i)))])) (fun _ kt => XS.isub X175.here hx rfl (hb hby d_jdk_65_method_133_code_7) rfl kt) ?_
  have sw178 : ((Int32.ofNat j) - (Int32.ofNat i)) = (Int32.ofNat (j - i)) := own_subN hij
  rw [sw178]
  show Rch p e below K T175 (mkF m 8 #[.val (.ref b1), .val (.int (Int32.ofNat i)), .val (.int (Int32.ofNat j)), .unset, .unset] [(.int (Int32.ofNat (j - i)))])
  have tl : (Int32.ofNat (j - i)).toInt = ((j - i : Nat) : Int) := oTo (by omega)
  refine Rch.of (T' := T175) (g' := (mkF m 9 #[.val (.ref b1), .val (.int (Int32.ofNat i)), .val (.int (Int32.ofNat j)), .val (.int (Int32.ofNat (j - i))), .unset] [])) (fun _ kt => XS.istoreN X175.here hx rfl (hb hby d_jdk_65_method_133_code_8) rfl (l' := #[.val (.ref b1), .val (.int (Int32.ofNat i)), .val (.int (Int32.ofNat j)), .val (.int (Int32.ofNat (j - i))), .unset]) rfl kt) ?_
  refine Rch.of (T' := T175) (g' := (mkF m 10 #[.val (.ref b1), .val (.int (Int32.ofNat i)), .val (.int (Int32.ofNat j)), .val (.int (Int32.ofNat (j - i))), .unset] [(.int (Int32.ofNat (j - i)))])) (fun _ kt => XS.iloadN X175.here hx rfl (hb hby d_jdk_65_method_133_code_9) rfl  kt) ?_
  obtain ⟨T179, h179, k179, X179, e179, E179, A179, Q179, st179⟩ := newPE X175 hx hZ (hw _ (List.mem_of_getElem? (i := 22) rfl)) hQ175 (g := (mkF m 10 #[.val (.ref b1), .val (.int (Int32.ofNat i)), .val (.int (Int32.ofNat j)), .val (.int (Int32.ofNat (j - i))), .unset] [(.int (Int32.ofNat (j - i)))])) rfl (hb hby d_jdk_65_method_133_code_10) rfl (oNn tl) (cap := 5) (by rw [oNat tl]; omega) (by decide) (by decide) (by decide) (ad := "[B") rfl
  obtain ⟨b179, g179⟩ : ∃ zz_, zz_ = h0.size := ⟨_, rfl⟩
  have ne_b1_b179 : b1 ≠ b179 := Nat.ne_of_lt (Nat.lt_of_lt_of_le V1.lt (Nat.le_of_eq g179.symm))
  have ge_b179 : n0 ≤ b179 := Nat.le_trans Z0 (Nat.le_of_eq g179.symm)
  have sz_b179 : h0.size ≤ b179 := Nat.le_trans (Keep.refl h0 []).1 (Nat.le_of_eq g179.symm)
  rw [← g179] at A179 Q179 st179
  have V179 : Av Z h179 b179 .byte (j - i) (fun _ => (.int (0 : Int32))) := Av.new A179 tl
  refine Rch.of (T' := T179) (g' := (mkF m 12 #[.val (.ref b1), .val (.int (Int32.ofNat i)), .val (.int (Int32.ofNat j)), .val (.int (Int32.ofNat (j - i))), .unset] [(.ref b179)])) st179 ?_
  refine Rch.of (T' := T179) (g' := (mkF m 14 #[.val (.ref b1), .val (.int (Int32.ofNat i)), .val (.int (Int32.ofNat j)), .val (.int (Int32.ofNat (j - i))), .val (.ref b179)] [])) (fun _ kt => XS.astore X179.here hx rfl (hb hby d_jdk_65_method_133_code_12) rfl rfl (l' := #[.val (.ref b1), .val (.int (Int32.ofNat i)), .val (.int (Int32.ofNat j)), .val (.int (Int32.ofNat (j - i))), .val (.ref b179)]) rfl kt) ?_
  refine Rch.of (T' := T179) (g' := (mkF m 15 #[.val (.ref b1), .val (.int (Int32.ofNat i)), .val (.int (Int32.ofNat j)), .val (.int (Int32.ofNat (j - i))), .val (.ref b179)] [(.ref b1)])) (fun _ kt => XS.aloadN X179.here hx rfl (hb hby d_jdk_65_method_133_code_14) rfl rfl kt) ?_
  refine Rch.of (T' := T179) (g' := (mkF m 16 #[.val (.ref b1), .val (.int (Int32.ofNat i)), .val (.int (Int32.ofNat j)), .val (.int (Int32.ofNat (j - i))), .val (.ref b179)] [(.int (Int32.ofNat i)), (.ref b1)])) (fun _ kt => XS.iloadN X179.here hx rfl (hb hby d_jdk_65_method_133_code_15) rfl  kt) ?_
  refine Rch.of (T' := T179) (g' := (mkF m 18 #[.val (.ref b1), .val (.int (Int32.ofNat i)), .val (.int (Int32.ofNat j)), .val (.int (Int32.ofNat (j - i))), .val (.ref b179)] [(.ref b179), (.int (Int32.ofNat i)), (.ref b1)])) (fun _ kt => XS.aload X179.here hx rfl (hb hby d_jdk_65_method_133_code_16) rfl rfl kt) ?_
  refine Rch.of (T' := T179) (g' := (mkF m 19 #[.val (.ref b1), .val (.int (Int32.ofNat i)), .val (.int (Int32.ofNat j)), .val (.int (Int32.ofNat (j - i))), .val (.ref b179)] [(.int (0 : Int32)), (.ref b179), (.int (Int32.ofNat i)), (.ref b1)])) (fun _ kt => XS.iconst X179.here hx rfl (hb hby d_jdk_65_method_133_code_18) kt) ?_
  refine Rch.of (T' := T179) (g' := (mkF m 20 #[.val (.ref b1), .val (.int (Int32.ofNat i)), .val (.int (Int32.ofNat j)), .val (.int (Int32.ofNat (j - i))), .val (.ref b179)] [(.ref b1), (.int (0 : Int32)), (.ref b179), (.int (Int32.ofNat i)), (.ref b1)])) (fun _ kt => XS.aloadN X179.here hx rfl (hb hby d_jdk_65_method_133_code_19) rfl rfl kt) ?_
  obtain ⟨cl180, Ar180, Sz180, Ha180⟩ := id (V1.ext E179)
  refine Rch.of (T' := T179) (g' := (mkF m 21 #[.val (.ref b1), .val (.int (Int32.ofNat i)), .val (.int (Int32.ofNat j)), .val (.int (Int32.ofNat (j - i))), .val (.ref b179)] [(.int cl180.slots.size.toInt32), (.int (0 : Int32)), (.ref b179), (.int (Int32.ofNat i)), (.ref b1)])) (X179.arraylength hx (by rw [e179]; exact Ar180.1) (State.isArrayOf_alike hZ.alike Ar180.2.1) (g := (mkF m 20 #[.val (.ref b1), .val (.int (Int32.ofNat i)), .val (.int (Int32.ofNat j)), .val (.int (Int32.ofNat (j - i))), .val (.ref b179)] [(.ref b1), (.int (0 : Int32)), (.ref b179), (.int (Int32.ofNat i)), (.ref b1)])) rfl rfl (hb hby d_jdk_65_method_133_code_20)) ?_
  rw [oLen Sz180]
  show Rch p e below K T179 (mkF m 21 #[.val (.ref b1), .val (.int (Int32.ofNat i)), .val (.int (Int32.ofNat j)), .val (.int (Int32.ofNat (j - i))), .val (.ref b179)] [(.int (Int32.ofNat n)), (.int (0 : Int32)), (.ref b179), (.int (Int32.ofNat i)), (.ref b1)])
  refine Rch.of (T' := T179) (g' := (mkF m 22 #[.val (.ref b1), .val (.int (Int32.ofNat i)), .val (.int (Int32.ofNat j)), .val (.int (Int32.ofNat (j - i))), .val (.ref b179)] [(.int (Int32.ofNat i)), (.int (Int32.ofNat n)), (.int (0 : Int32)), (.ref b179), (.int (Int32.ofNat i)), (.ref b1)])) (fun _ kt => XS.iloadN X179.here hx rfl (hb hby d_jdk_65_method_133_code_21) rfl  kt) ?_
  refine Rch.of (T' := T179) (g' := (mkF m 23 #[.val (.ref b1), .val (.int (Int32.ofNat i)), .val (.int (Int32.ofNat j)), .val (.int (Int32.ofNat (j - i))), .val (.ref b179)] [(.int ((Int32.ofNat n) - (Int32.ofNat i))), (.int (0 : Int32)), (.ref b179), (.int (Int32.ofNat i)), (.ref b1)])) (fun _ kt => XS.isub X179.here hx rfl (hb hby d_jdk_65_method_133_code_22) rfl kt) ?_
  have hin : i ≤ n := by omega
  have sw181 : ((Int32.ofNat n) - (Int32.ofNat i)) = (Int32.ofNat (n - i)) := own_subN hin
  rw [sw181]
  show Rch p e below K T179 (mkF m 23 #[.val (.ref b1), .val (.int (Int32.ofNat i)), .val (.int (Int32.ofNat j)), .val (.int (Int32.ofNat (j - i))), .val (.ref b179)] [(.int (Int32.ofNat (n - i))), (.int (0 : Int32)), (.ref b179), (.int (Int32.ofNat i)), (.ref b1)])
  have hmn : ¬ (Int32.ofNat (n - i)) < (Int32.ofNat (j - i)) := own_nlt (by omega) (by omega)
  refine Rch.of (T' := T179) (g' := (mkF m 24 #[.val (.ref b1), .val (.int (Int32.ofNat i)), .val (.int (Int32.ofNat j)), .val (.int (Int32.ofNat (j - i))), .val (.ref b179)] [(.int (Int32.ofNat (j - i))), (.int (Int32.ofNat (n - i))), (.int (0 : Int32)), (.ref b179), (.int (Int32.ofNat i)), (.ref b1)])) (fun _ kt => XS.iloadN X179.here hx rfl (hb hby d_jdk_65_method_133_code_23) rfl  kt) ?_
  obtain ⟨_, _, ⟨T182, L182, k182, n182⟩, -, X182, ⟨Lc182, hQ182, l182, y182, z182⟩, st182⟩ := Jvm.LawKit.callS X179 hx (y := (⟨"java/lang/Math", "min", "(II)I"⟩ : MethodName)) hown (mvT hZ (hw _ (List.mem_of_getElem? (i := 142) rfl))) (mvT hZ (hw _ (List.mem_of_getElem? (i := 67) rfl))) (mvT hZ (hw _ (List.mem_of_getElem? (i := 68) rfl))) (mvT hZ (hw _ (List.mem_of_getElem? (i := 69) rfl))) (by decide) (backOf (W := 4) (rqMN l Z a0 hw [] (Int32.ofNat (n - i)) (Int32.ofNat (j - i)) h179 n0 (Nat.le_trans Z0 E179.1) hmn) hZ (hw _ (List.mem_of_getElem? (i := 69) rfl)) (hw _ (List.mem_of_getElem? (i := 68) rfl)) (by decide) (by decide)) (g := (mkF m 24 #[.val (.ref b1), .val (.int (Int32.ofNat i)), .val (.int (Int32.ofNat j)), .val (.int (Int32.ofNat (j - i))), .val (.ref b179)] [(.int (Int32.ofNat (j - i))), (.int (Int32.ofNat (n - i))), (.int (0 : Int32)), (.ref b179), (.int (Int32.ofNat i)), (.ref b1)])) rfl (by rw [hml]; rfl) (argsL := [(.int (Int32.ofNat (n - i))), (.int (Int32.ofNat (j - i)))]) (rest := [(.int (0 : Int32)), (.ref b179), (.int (Int32.ofNat i)), (.ref b1)]) (lenOf pd_9 rfl) rfl (by show 2 * 0 + _ ≤ _; exact Nat.le_of_eq rfl) (hb hby d_jdk_65_method_133_code_24) (fun _ _ => ⟨rfl, e179, (by decide : 1 + 0 ≤ _), (by decide : 5 + 0 ≤ _)⟩)
  dsimp only [Pt.U, Pt.locs, Pt.cells, Pt.slots] at X182 l182 y182 z182 st182 hQ182
  subst l182 y182 z182
  obtain ⟨rfl, N182q, hQ182⟩ := hQ182
  have N182 := Fr.app N175 N182q
  refine Rch.of (T' := T182) (g' := (mkF m 27 #[.val (.ref b1), .val (.int (Int32.ofNat i)), .val (.int (Int32.ofNat j)), .val (.int (Int32.ofNat (j - i))), .val (.ref b179)] [(.int (Int32.ofNat (j - i))), (.int (0 : Int32)), (.ref b179), (.int (Int32.ofNat i)), (.ref b1)])) st182 ?_
  have to184 : (Int32.ofNat i).toInt = ((i : Nat) : Int) := oTo (by omega)
  have to185 : (Int32.ofNat (j - i)).toInt = (((j - i) : Nat) : Int) := oTo (by omega)
  have hc4_183 : i + (j - i) ≤ n := by omega
  have hc5_183 : 0 + (j - i) ≤ (j - i) := by omega
  have hn1_183 : n < 2 ^ 31 := by omega
  have hn2_183 : (j - i) < 2 ^ 31 := by omega
  obtain ⟨T183, h183, L183, X183, e183, N183, K183, V183, st183⟩ := own_cpI X182 hx hZ hown (hw _ (List.mem_of_getElem? (i := 143) rfl)) (hw _ (List.mem_of_getElem? (i := 146) rfl)) (hw _ (List.mem_of_getElem? (i := 144) rfl)) (hw _ (List.mem_of_getElem? (i := 145) rfl)) hQ182 (y := (fun q => (y q).toInt8.toInt32)) (y' := (fun _ => (0 : Int32))) (i := i) (j := 0) (k := (j - i)) (V1.ext E179) V179 (by decide) hn1_183 hn2_183 (fun q _ => fits_nar_byte _) (fun q _ => rfl) to184 (by decide) to185 hc4_183 hc5_183 N182 ge_b179 (g := (mkF m 27 #[.val (.ref b1), .val (.int (Int32.ofNat i)), .val (.int (Int32.ofNat j)), .val (.int (Int32.ofNat (j - i))), .val (.ref b179)] [(.int (Int32.ofNat (j - i))), (.int (0 : Int32)), (.ref b179), (.int (Int32.ofNat i)), (.ref b1)])) rfl (by rw [hml]; rfl) rfl (hb hby d_jdk_65_method_133_code_27) (by decide) (W := 0) (by show 2 * 0 + _ ≤ _; exact Nat.le_of_eq rfl) (by decide)
  obtain ⟨y183, hy183⟩ : ∃ zz_ : Nat → Int32, zz_ = fun q => if 0 ≤ q ∧ q < 0 + (j - i) then (fun q => (y q).toInt8.toInt32) (i + (q - 0)) else (fun _ => (0 : Int32)) q := ⟨_, rfl⟩
  have V183 : Av Z h183 b179 .byte (j - i) (fun q => .int (y183 q)) := by rw [hy183]; exact V183
  refine Rch.of (T' := T183) (g' := (mkF m 30 #[.val (.ref b1), .val (.int (Int32.ofNat i)), .val (.int (Int32.ofNat j)), .val (.int (Int32.ofNat (j - i))), .val (.ref b179)] [])) st183 ?_
  refine Rch.of (T' := T183) (g' := (mkF m 32 #[.val (.ref b1), .val (.int (Int32.ofNat i)), .val (.int (Int32.ofNat j)), .val (.int (Int32.ofNat (j - i))), .val (.ref b179)] [(.ref b179)])) (fun _ kt => XS.aload X183.here hx rfl (hb hby d_jdk_65_method_133_code_30) rfl rfl kt) ?_
  exact Rch.retA X183 hx (w := (.ref b179)) hret rfl rfl hlk (hb hby d_jdk_65_method_133_code_32) (fun U hU hF => hK _ U _ _ _ (by show Q_rqCB Z b1 n y i j h0 n0 _ U.heap _; rw [hU, e183]; exact ⟨by rw [g179], N183, by rw [← g179]; exact ⟨(((Keep.refl h0 []).ext E179).trans K183 (allS (Or.inr sz_b179) all0)), Av.congr V183 (fun q hq => by rw [hy183]; simp [hq])⟩⟩) hF (by decide) (by decide))
theorem ef_rqCR (m : MethodId) (b1 : Addr) : entryFrame m #[(.ref b1), (.int (Int32.ofNat i)), (.int (Int32.ofNat j))] 3 = mkF m 0 #[.val (.ref b1), .val (.int (Int32.ofNat i)), .val (.int (Int32.ofNat j))] [] := by first | (simp [entryFrame, mkF, argsToLocals, Value.category]; done) | rfl
def Q_rqCR (Z : State) (b1 : Addr) (n : Nat) (y : Nat → Int32) (i : Nat) (j : Nat) (h0 : Heap) (n0 : Nat) (vv_ : Option Value) (h : Heap) (LL_ : List Loc) : Prop := vv_ = some (.ref h0.size) ∧ Fr n0 LL_ ∧ (Keep h0 h [] ∧ Av Z h h0.size .byte (j - i) (fun q => .int ((y (i + q)).toInt8.toInt32)))
theorem d_jdk_65_method_132_code_0 : decode jdk_65_method_132_code 0 = .ok (.iload_n 1, 1) := by decide +kernel
theorem d_jdk_65_method_132_code_1 : decode jdk_65_method_132_code 1 = .ok (.ifCond .ne 9, 3) := by decide +kernel
theorem d_jdk_65_method_132_code_4 : decode jdk_65_method_132_code 4 = .ok (.iload_n 2, 1) := by decide +kernel
theorem d_jdk_65_method_132_code_5 : decode jdk_65_method_132_code 5 = .ok (.aload_n 0, 1) := by decide +kernel
theorem d_jdk_65_method_132_code_6 : decode jdk_65_method_132_code 6 = .ok (.arraylength, 1) := by decide +kernel
theorem d_jdk_65_method_132_code_7 : decode jdk_65_method_132_code 7 = .ok (.if_icmp .eq 10, 3) := by decide +kernel
theorem d_jdk_65_method_132_code_10 : decode jdk_65_method_132_code 10 = .ok (.aload_n 0, 1) := by decide +kernel
theorem d_jdk_65_method_132_code_11 : decode jdk_65_method_132_code 11 = .ok (.iload_n 1, 1) := by decide +kernel
theorem d_jdk_65_method_132_code_12 : decode jdk_65_method_132_code 12 = .ok (.iload_n 2, 1) := by decide +kernel
theorem d_jdk_65_method_132_code_13 : decode jdk_65_method_132_code 13 = .ok (.invokestatic 339, 3) := by decide +kernel
theorem d_jdk_65_method_132_code_16 : decode jdk_65_method_132_code 16 = .ok (.areturn, 1) := by decide +kernel
set_option maxRecDepth 65536 in
set_option maxHeartbeats 40000000 in
theorem rqCR (l : Launch) (Z : State) (a0 : Array Value) (hw : ∀ d ∈ tables_1, d.before a0 Z = true) (ws : List Jvm.Cond) (b1 : Addr) (n : Nat) (y : Nat → Int32) (i : Nat) (j : Nat) (h0 : Heap) (n0 : Nat) (Z0 : n0 ≤ h0.size) (V1 : Av Z h0 b1 .byte n (fun q => .int ((y q).toInt8.toInt32))) (hij : i ≤ j) (hjn : j ≤ n) (hn : n ≤ 5) (hni : ¬ (i = 0 ∧ j = n)) :
    MetFree l (⟨"java/util/Arrays", "copyOfRange", "([BII)[B"⟩ : MethodName) (head1 (Jvm.Cond.code (⟨"java/util/Arrays", "copyOfRange", "([BII)[B"⟩ : MethodName) jdk_65_method_132_code 3 (some (.array .byte)) :: ws) ({ frames := 2, cells := 1, slots := 5, locals := 34 } : Room)) (fun aa_ UU_ => aa_ = #[(.ref b1), (.int (Int32.ofNat i)), (.int (Int32.ofNat j))] ∧ Z.Warmed39 UU_.vm ∧ UU_.heap = h0) (fun _ _ _ _ _ => True) (fun _ UU_ oo_ VV_ => ∃ vv_ LL_, oo_ = .returned vv_ ∧ Q_rqCR Z b1 n y i j h0 n0 vv_ VV_.heap LL_ ∧ FrameEnd UU_ oo_ VV_ LL_ ({ frames := 2, cells := 1, slots := 5, locals := 34 } : Room).cells ({ frames := 2, cells := 1, slots := 5, locals := 34 } : Room).slots) := by
  refine own_met (y := (⟨"java/util/Arrays", "copyOfRange", "([BII)[B"⟩ : MethodName)) (plainFor_of_name pn_4) ?_
  intro p e s m below meth c T0 K hx hby hml hret hlk hown hnm hZ X0 e0 hK
  have N0 := Fr.nil n0
  refine Rch.cast (ef_rqCR m b1) ?_
  refine Rch.of (T' := T0) (g' := (mkF m 1 #[.val (.ref b1), .val (.int (Int32.ofNat i)), .val (.int (Int32.ofNat j))] [(.int (Int32.ofNat i))])) (fun _ kt => XS.iloadN X0.here hx rfl (hb hby d_jdk_65_method_132_code_0) rfl  kt) ?_
  by_cases c186 : (Int32.ofNat i) = (0 : Int32)
  · skip
    refine Rch.of (T' := T0) (g' := (mkF m 4 #[.val (.ref b1), .val (.int (Int32.ofNat i)), .val (.int (Int32.ofNat j))] [])) (fun _ kt => XS.ifNo X0.here hx rfl (hb hby d_jdk_65_method_132_code_1) rfl ((if0 _ _).trans (teq c186).2) kt) ?_
    have hi0 : i = 0 := (own_neN (j := 0) (by omega) (by decide)).mp c186
    have kn187 : ¬ ((Int32.ofNat j) = (Int32.ofNat n)) := fun q => hni ⟨hi0, (own_neN (by omega) (by omega)).mp q⟩
    refine Rch.of (T' := T0) (g' := (mkF m 5 #[.val (.ref b1), .val (.int (Int32.ofNat i)), .val (.int (Int32.ofNat j))] [(.int (Int32.ofNat j))])) (fun _ kt => XS.iloadN X0.here hx rfl (hb hby d_jdk_65_method_132_code_4) rfl  kt) ?_
    refine Rch.of (T' := T0) (g' := (mkF m 6 #[.val (.ref b1), .val (.int (Int32.ofNat i)), .val (.int (Int32.ofNat j))] [(.ref b1), (.int (Int32.ofNat j))])) (fun _ kt => XS.aloadN X0.here hx rfl (hb hby d_jdk_65_method_132_code_5) rfl rfl kt) ?_
    obtain ⟨cl188, Ar188, Sz188, Ha188⟩ := id V1
    refine Rch.of (T' := T0) (g' := (mkF m 7 #[.val (.ref b1), .val (.int (Int32.ofNat i)), .val (.int (Int32.ofNat j))] [(.int cl188.slots.size.toInt32), (.int (Int32.ofNat j))])) (X0.arraylength hx (by rw [e0]; exact Ar188.1) (State.isArrayOf_alike hZ.alike Ar188.2.1) (g := (mkF m 6 #[.val (.ref b1), .val (.int (Int32.ofNat i)), .val (.int (Int32.ofNat j))] [(.ref b1), (.int (Int32.ofNat j))])) rfl rfl (hb hby d_jdk_65_method_132_code_6)) ?_
    rw [oLen Sz188]
    show Rch p e below K T0 (mkF m 7 #[.val (.ref b1), .val (.int (Int32.ofNat i)), .val (.int (Int32.ofNat j))] [(.int (Int32.ofNat n)), (.int (Int32.ofNat j))])
    refine Rch.of (T' := T0) (g' := (mkF m 10 #[.val (.ref b1), .val (.int (Int32.ofNat i)), .val (.int (Int32.ofNat j))] [])) (fun _ kt => XS.icmpNo X0.here hx rfl (hb hby d_jdk_65_method_132_code_7) rfl (feq kn187).1 kt) ?_
    refine Rch.of (T' := T0) (g' := (mkF m 11 #[.val (.ref b1), .val (.int (Int32.ofNat i)), .val (.int (Int32.ofNat j))] [(.ref b1)])) (fun _ kt => XS.aloadN X0.here hx rfl (hb hby d_jdk_65_method_132_code_10) rfl rfl kt) ?_
    refine Rch.of (T' := T0) (g' := (mkF m 12 #[.val (.ref b1), .val (.int (Int32.ofNat i)), .val (.int (Int32.ofNat j))] [(.int (Int32.ofNat i)), (.ref b1)])) (fun _ kt => XS.iloadN X0.here hx rfl (hb hby d_jdk_65_method_132_code_11) rfl  kt) ?_
    refine Rch.of (T' := T0) (g' := (mkF m 13 #[.val (.ref b1), .val (.int (Int32.ofNat i)), .val (.int (Int32.ofNat j))] [(.int (Int32.ofNat j)), (.int (Int32.ofNat i)), (.ref b1)])) (fun _ kt => XS.iloadN X0.here hx rfl (hb hby d_jdk_65_method_132_code_12) rfl  kt) ?_
    have pr190 : i ≤ j := by omega
    have pr191 : j ≤ n := by omega
    have pr192 : n ≤ 5 := by omega
    obtain ⟨_, _, ⟨T189, L189, k189, n189⟩, -, X189, ⟨Lc189, hQ189, l189, y189, z189⟩, st189⟩ := Jvm.LawKit.callS X0 hx (y := (⟨"java/util/Arrays", "copyOfRangeByte", "([BII)[B"⟩ : MethodName)) hown (mvT hZ (hw _ (List.mem_of_getElem? (i := 136) rfl))) (mvT hZ (hw _ (List.mem_of_getElem? (i := 137) rfl))) (mvT hZ (hw _ (List.mem_of_getElem? (i := 134) rfl))) (mvT hZ (hw _ (List.mem_of_getElem? (i := 138) rfl))) (by decide) (backOf (W := 0) (rqCB l Z a0 hw [] b1 n y i j h0 n0 Z0 V1 pr190 pr191 pr192) hZ (hw _ (List.mem_of_getElem? (i := 138) rfl)) (hw _ (List.mem_of_getElem? (i := 134) rfl)) (by decide) (by decide)) (g := (mkF m 13 #[.val (.ref b1), .val (.int (Int32.ofNat i)), .val (.int (Int32.ofNat j))] [(.int (Int32.ofNat j)), (.int (Int32.ofNat i)), (.ref b1)])) rfl (by rw [hml]; rfl) (argsL := [(.ref b1), (.int (Int32.ofNat i)), (.int (Int32.ofNat j))]) (rest := []) (lenOf pd_25 rfl) rfl (by show 2 * 0 + _ ≤ _; exact Nat.le_of_eq rfl) (hb hby d_jdk_65_method_132_code_13) (fun _ _ => ⟨rfl, e0, (by decide : 0 + 1 ≤ _), (by decide : 0 + 5 ≤ _)⟩)
    dsimp only [Pt.U, Pt.locs, Pt.cells, Pt.slots] at X189 l189 y189 z189 st189 hQ189
    subst l189 y189 z189
    obtain ⟨rfl, N189q, hQ189⟩ := hQ189
    have N189 := Fr.app N0 N189q
    obtain ⟨K189, V189⟩ := hQ189
    obtain ⟨b189, g189⟩ : ∃ zz_, zz_ = h0.size := ⟨_, rfl⟩
    have ne_b1_b189 : b1 ≠ b189 := Nat.ne_of_lt (Nat.lt_of_lt_of_le V1.lt (Nat.le_of_eq g189.symm))
    have ge_b189 : n0 ≤ b189 := Nat.le_trans Z0 (Nat.le_of_eq g189.symm)
    have sz_b189 : h0.size ≤ b189 := Nat.le_trans (Keep.refl h0 []).1 (Nat.le_of_eq g189.symm)
    rw [← g189] at V189 st189
    refine Rch.of (T' := T189) (g' := (mkF m 16 #[.val (.ref b1), .val (.int (Int32.ofNat i)), .val (.int (Int32.ofNat j))] [(.ref b189)])) st189 ?_
    exact Rch.retA X189 hx (w := (.ref b189)) hret rfl rfl hlk (hb hby d_jdk_65_method_132_code_16) (fun U hU hF => hK _ U _ _ _ (by show Q_rqCR Z b1 n y i j h0 n0 _ U.heap _; rw [hU]; exact ⟨by rw [g189], N189, by rw [← g189]; exact ⟨((Keep.refl h0 []).trans K189 all0), V189⟩⟩) hF (by decide) (by decide))
  · skip
    refine Rch.of (T' := T0) (g' := (mkF m 10 #[.val (.ref b1), .val (.int (Int32.ofNat i)), .val (.int (Int32.ofNat j))] [])) (fun _ kt => XS.ifYes X0.here hx rfl (pc0 := 1) (pc' := 10) rfl (hb hby d_jdk_65_method_132_code_1) rfl ((if0 _ _).trans (feq c186).2) (by decide) (by decide) kt) ?_
    refine Rch.of (T' := T0) (g' := (mkF m 11 #[.val (.ref b1), .val (.int (Int32.ofNat i)), .val (.int (Int32.ofNat j))] [(.ref b1)])) (fun _ kt => XS.aloadN X0.here hx rfl (hb hby d_jdk_65_method_132_code_10) rfl rfl kt) ?_
    refine Rch.of (T' := T0) (g' := (mkF m 12 #[.val (.ref b1), .val (.int (Int32.ofNat i)), .val (.int (Int32.ofNat j))] [(.int (Int32.ofNat i)), (.ref b1)])) (fun _ kt => XS.iloadN X0.here hx rfl (hb hby d_jdk_65_method_132_code_11) rfl  kt) ?_
    refine Rch.of (T' := T0) (g' := (mkF m 13 #[.val (.ref b1), .val (.int (Int32.ofNat i)), .val (.int (Int32.ofNat j))] [(.int (Int32.ofNat j)), (.int (Int32.ofNat i)), (.ref b1)])) (fun _ kt => XS.iloadN X0.here hx rfl (hb hby d_jdk_65_method_132_code_12) rfl  kt) ?_
    have pr194 : i ≤ j := by omega
    have pr195 : j ≤ n := by omega
    have pr196 : n ≤ 5 := by omega
    obtain ⟨_, _, ⟨T193, L193, k193, n193⟩, -, X193, ⟨Lc193, hQ193, l193, y193, z193⟩, st193⟩ := Jvm.LawKit.callS X0 hx (y := (⟨"java/util/Arrays", "copyOfRangeByte", "([BII)[B"⟩ : MethodName)) hown (mvT hZ (hw _ (List.mem_of_getElem? (i := 136) rfl))) (mvT hZ (hw _ (List.mem_of_getElem? (i := 137) rfl))) (mvT hZ (hw _ (List.mem_of_getElem? (i := 134) rfl))) (mvT hZ (hw _ (List.mem_of_getElem? (i := 138) rfl))) (by decide) (backOf (W := 0) (rqCB l Z a0 hw [] b1 n y i j h0 n0 Z0 V1 pr194 pr195 pr196) hZ (hw _ (List.mem_of_getElem? (i := 138) rfl)) (hw _ (List.mem_of_getElem? (i := 134) rfl)) (by decide) (by decide)) (g := (mkF m 13 #[.val (.ref b1), .val (.int (Int32.ofNat i)), .val (.int (Int32.ofNat j))] [(.int (Int32.ofNat j)), (.int (Int32.ofNat i)), (.ref b1)])) rfl (by rw [hml]; rfl) (argsL := [(.ref b1), (.int (Int32.ofNat i)), (.int (Int32.ofNat j))]) (rest := []) (lenOf pd_25 rfl) rfl (by show 2 * 0 + _ ≤ _; exact Nat.le_of_eq rfl) (hb hby d_jdk_65_method_132_code_13) (fun _ _ => ⟨rfl, e0, (by decide : 0 + 1 ≤ _), (by decide : 0 + 5 ≤ _)⟩)
    dsimp only [Pt.U, Pt.locs, Pt.cells, Pt.slots] at X193 l193 y193 z193 st193 hQ193
    subst l193 y193 z193
    obtain ⟨rfl, N193q, hQ193⟩ := hQ193
    have N193 := Fr.app N0 N193q
    obtain ⟨K193, V193⟩ := hQ193
    obtain ⟨b193, g193⟩ : ∃ zz_, zz_ = h0.size := ⟨_, rfl⟩
    have ne_b1_b193 : b1 ≠ b193 := Nat.ne_of_lt (Nat.lt_of_lt_of_le V1.lt (Nat.le_of_eq g193.symm))
    have ge_b193 : n0 ≤ b193 := Nat.le_trans Z0 (Nat.le_of_eq g193.symm)
    have sz_b193 : h0.size ≤ b193 := Nat.le_trans (Keep.refl h0 []).1 (Nat.le_of_eq g193.symm)
    rw [← g193] at V193 st193
    refine Rch.of (T' := T193) (g' := (mkF m 16 #[.val (.ref b1), .val (.int (Int32.ofNat i)), .val (.int (Int32.ofNat j))] [(.ref b193)])) st193 ?_
    exact Rch.retA X193 hx (w := (.ref b193)) hret rfl rfl hlk (hb hby d_jdk_65_method_132_code_16) (fun U hU hF => hK _ U _ _ _ (by show Q_rqCR Z b1 n y i j h0 n0 _ U.heap _; rw [hU]; exact ⟨by rw [g193], N193, by rw [← g193]; exact ⟨((Keep.refl h0 []).trans K193 all0), V193⟩⟩) hF (by decide) (by decide))
theorem ef_rqFTn (m : MethodId)  : entryFrame m #[(.int (Int32.ofNat i)), (.int (Int32.ofNat j)), (.int (Int32.ofNat n)), .null] 4 = mkF m 0 #[.val (.int (Int32.ofNat i)), .val (.int (Int32.ofNat j)), .val (.int (Int32.ofNat n)), .val .null] [] := by first | (simp [entryFrame, mkF, argsToLocals, Value.category]; done) | rfl
def Q_rqFTn (Z : State) (i : Nat) (j : Nat) (n : Nat) (h0 : Heap) (n0 : Nat) (vv_ : Option Value) (h : Heap) (LL_ : List Loc) : Prop := vv_ = some (.int (Int32.ofNat i)) ∧ Fr n0 LL_ ∧ (h = h0)
theorem d_jdk_41_method_12_code_0 : decode jdk_41_method_12_code 0 = .ok (.iload_n 0, 1) := by decide +kernel
theorem d_jdk_41_method_12_code_1 : decode jdk_41_method_12_code 1 = .ok (.ifCond .lt 13, 3) := by decide +kernel
theorem d_jdk_41_method_12_code_4 : decode jdk_41_method_12_code 4 = .ok (.iload_n 0, 1) := by decide +kernel
theorem d_jdk_41_method_12_code_5 : decode jdk_41_method_12_code 5 = .ok (.iload_n 1, 1) := by decide +kernel
theorem d_jdk_41_method_12_code_6 : decode jdk_41_method_12_code 6 = .ok (.if_icmp .gt 8, 3) := by decide +kernel
theorem d_jdk_41_method_12_code_9 : decode jdk_41_method_12_code 9 = .ok (.iload_n 1, 1) := by decide +kernel
theorem d_jdk_41_method_12_code_10 : decode jdk_41_method_12_code 10 = .ok (.iload_n 2, 1) := by decide +kernel
theorem d_jdk_41_method_12_code_11 : decode jdk_41_method_12_code 11 = .ok (.if_icmp .le 11, 3) := by decide +kernel
theorem d_jdk_41_method_12_code_22 : decode jdk_41_method_12_code 22 = .ok (.iload_n 0, 1) := by decide +kernel
theorem d_jdk_41_method_12_code_23 : decode jdk_41_method_12_code 23 = .ok (.ireturn, 1) := by decide +kernel
set_option maxRecDepth 65536 in
set_option maxHeartbeats 40000000 in
theorem rqFTn (l : Launch) (Z : State) (a0 : Array Value) (hw : ∀ d ∈ tables_1, d.before a0 Z = true) (ws : List Jvm.Cond) (i : Nat) (j : Nat) (n : Nat) (h0 : Heap) (n0 : Nat) (Z0 : n0 ≤ h0.size) (hij : i ≤ j) (hjn : j ≤ n) (hn : n ≤ 5) :
    MetFree l (⟨"jdk/internal/util/Preconditions", "checkFromToIndex", "(IIILjava/util/function/BiFunction;)I"⟩ : MethodName) (head1 (Jvm.Cond.code (⟨"jdk/internal/util/Preconditions", "checkFromToIndex", "(IIILjava/util/function/BiFunction;)I"⟩ : MethodName) jdk_41_method_12_code 4 (some .int) :: ws) ({ frames := 0, cells := 0, slots := 0, locals := 0 } : Room)) (fun aa_ UU_ => aa_ = #[(.int (Int32.ofNat i)), (.int (Int32.ofNat j)), (.int (Int32.ofNat n)), .null] ∧ Z.Warmed39 UU_.vm ∧ UU_.heap = h0) (fun _ _ _ _ _ => True) (fun _ UU_ oo_ VV_ => ∃ vv_ LL_, oo_ = .returned vv_ ∧ Q_rqFTn Z i j n h0 n0 vv_ VV_.heap LL_ ∧ FrameEnd UU_ oo_ VV_ LL_ ({ frames := 0, cells := 0, slots := 0, locals := 0 } : Room).cells ({ frames := 0, cells := 0, slots := 0, locals := 0 } : Room).slots) := by
  refine own_met (y := (⟨"jdk/internal/util/Preconditions", "checkFromToIndex", "(IIILjava/util/function/BiFunction;)I"⟩ : MethodName)) (plainFor_of_name pn_2) ?_
  intro p e s m below meth c T0 K hx hby hml hret hlk hown hnm hZ X0 e0 hK
  have N0 := Fr.nil n0
  refine Rch.cast (ef_rqFTn m ) ?_
  have kn197 : ¬ ((Int32.ofNat i) < (0 : Int32)) := own_nneg (by omega)
  have kn198 : ¬ ((Int32.ofNat j) < (Int32.ofNat i)) := own_nlt hij (by omega)
  have kn199 : ¬ ((Int32.ofNat n) < (Int32.ofNat j)) := own_nlt hjn (by omega)
  refine Rch.of (T' := T0) (g' := (mkF m 1 #[.val (.int (Int32.ofNat i)), .val (.int (Int32.ofNat j)), .val (.int (Int32.ofNat n)), .val .null] [(.int (Int32.ofNat i))])) (fun _ kt => XS.iloadN X0.here hx rfl (hb hby d_jdk_41_method_12_code_0) rfl  kt) ?_
  refine Rch.of (T' := T0) (g' := (mkF m 4 #[.val (.int (Int32.ofNat i)), .val (.int (Int32.ofNat j)), .val (.int (Int32.ofNat n)), .val .null] [])) (fun _ kt => XS.ifNo X0.here hx rfl (hb hby d_jdk_41_method_12_code_1) rfl ((if0 _ _).trans (flt kn197).1) kt) ?_
  refine Rch.of (T' := T0) (g' := (mkF m 5 #[.val (.int (Int32.ofNat i)), .val (.int (Int32.ofNat j)), .val (.int (Int32.ofNat n)), .val .null] [(.int (Int32.ofNat i))])) (fun _ kt => XS.iloadN X0.here hx rfl (hb hby d_jdk_41_method_12_code_4) rfl  kt) ?_
  refine Rch.of (T' := T0) (g' := (mkF m 6 #[.val (.int (Int32.ofNat i)), .val (.int (Int32.ofNat j)), .val (.int (Int32.ofNat n)), .val .null] [(.int (Int32.ofNat j)), (.int (Int32.ofNat i))])) (fun _ kt => XS.iloadN X0.here hx rfl (hb hby d_jdk_41_method_12_code_5) rfl  kt) ?_
  refine Rch.of (T' := T0) (g' := (mkF m 9 #[.val (.int (Int32.ofNat i)), .val (.int (Int32.ofNat j)), .val (.int (Int32.ofNat n)), .val .null] [])) (fun _ kt => XS.icmpNo X0.here hx rfl (hb hby d_jdk_41_method_12_code_6) rfl (flt kn198).2.2.1 kt) ?_
  refine Rch.of (T' := T0) (g' := (mkF m 10 #[.val (.int (Int32.ofNat i)), .val (.int (Int32.ofNat j)), .val (.int (Int32.ofNat n)), .val .null] [(.int (Int32.ofNat j))])) (fun _ kt => XS.iloadN X0.here hx rfl (hb hby d_jdk_41_method_12_code_9) rfl  kt) ?_
  refine Rch.of (T' := T0) (g' := (mkF m 11 #[.val (.int (Int32.ofNat i)), .val (.int (Int32.ofNat j)), .val (.int (Int32.ofNat n)), .val .null] [(.int (Int32.ofNat n)), (.int (Int32.ofNat j))])) (fun _ kt => XS.iloadN X0.here hx rfl (hb hby d_jdk_41_method_12_code_10) rfl  kt) ?_
  refine Rch.of (T' := T0) (g' := (mkF m 22 #[.val (.int (Int32.ofNat i)), .val (.int (Int32.ofNat j)), .val (.int (Int32.ofNat n)), .val .null] [])) (fun _ kt => XS.icmpYes X0.here hx rfl (pc0 := 11) (pc' := 22) rfl (hb hby d_jdk_41_method_12_code_11) rfl (flt kn199).2.2.2 (by decide) (by decide) kt) ?_
  refine Rch.of (T' := T0) (g' := (mkF m 23 #[.val (.int (Int32.ofNat i)), .val (.int (Int32.ofNat j)), .val (.int (Int32.ofNat n)), .val .null] [(.int (Int32.ofNat i))])) (fun _ kt => XS.iloadN X0.here hx rfl (hb hby d_jdk_41_method_12_code_22) rfl  kt) ?_
  exact Rch.retI X0 hx hret hlk (hb hby d_jdk_41_method_12_code_23) (fun U hU hF => hK _ U _ _ _ (by show Q_rqFTn Z i j n h0 n0 _ U.heap _; rw [hU, e0]; exact ⟨rfl, N0, rfl⟩) hF (by decide) (by decide))
theorem ef_rqFTr (m : MethodId) (a4 : Addr) : entryFrame m #[(.int (Int32.ofNat i)), (.int (Int32.ofNat j)), (.int (Int32.ofNat n)), (.ref a4)] 4 = mkF m 0 #[.val (.int (Int32.ofNat i)), .val (.int (Int32.ofNat j)), .val (.int (Int32.ofNat n)), .val (.ref a4)] [] := by first | (simp [entryFrame, mkF, argsToLocals, Value.category]; done) | rfl
def Q_rqFTr (Z : State) (i : Nat) (j : Nat) (n : Nat) (a4 : Addr) (h0 : Heap) (n0 : Nat) (vv_ : Option Value) (h : Heap) (LL_ : List Loc) : Prop := vv_ = some (.int (Int32.ofNat i)) ∧ Fr n0 LL_ ∧ (h = h0)
set_option maxRecDepth 65536 in
set_option maxHeartbeats 40000000 in
theorem rqFTr (l : Launch) (Z : State) (a0 : Array Value) (hw : ∀ d ∈ tables_1, d.before a0 Z = true) (ws : List Jvm.Cond) (i : Nat) (j : Nat) (n : Nat) (a4 : Addr) (h0 : Heap) (n0 : Nat) (Z0 : n0 ≤ h0.size) (hij : i ≤ j) (hjn : j ≤ n) (hn : n ≤ 5) :
    MetFree l (⟨"jdk/internal/util/Preconditions", "checkFromToIndex", "(IIILjava/util/function/BiFunction;)I"⟩ : MethodName) (head1 (Jvm.Cond.code (⟨"jdk/internal/util/Preconditions", "checkFromToIndex", "(IIILjava/util/function/BiFunction;)I"⟩ : MethodName) jdk_41_method_12_code 4 (some .int) :: ws) ({ frames := 0, cells := 0, slots := 0, locals := 0 } : Room)) (fun aa_ UU_ => aa_ = #[(.int (Int32.ofNat i)), (.int (Int32.ofNat j)), (.int (Int32.ofNat n)), (.ref a4)] ∧ Z.Warmed39 UU_.vm ∧ UU_.heap = h0) (fun _ _ _ _ _ => True) (fun _ UU_ oo_ VV_ => ∃ vv_ LL_, oo_ = .returned vv_ ∧ Q_rqFTr Z i j n a4 h0 n0 vv_ VV_.heap LL_ ∧ FrameEnd UU_ oo_ VV_ LL_ ({ frames := 0, cells := 0, slots := 0, locals := 0 } : Room).cells ({ frames := 0, cells := 0, slots := 0, locals := 0 } : Room).slots) := by
  refine own_met (y := (⟨"jdk/internal/util/Preconditions", "checkFromToIndex", "(IIILjava/util/function/BiFunction;)I"⟩ : MethodName)) (plainFor_of_name pn_2) ?_
  intro p e s m below meth c T0 K hx hby hml hret hlk hown hnm hZ X0 e0 hK
  have N0 := Fr.nil n0
  refine Rch.cast (ef_rqFTr m a4) ?_
  have kn200 : ¬ ((Int32.ofNat i) < (0 : Int32)) := own_nneg (by omega)
  have kn201 : ¬ ((Int32.ofNat j) < (Int32.ofNat i)) := own_nlt hij (by omega)
  have kn202 : ¬ ((Int32.ofNat n) < (Int32.ofNat j)) := own_nlt hjn (by omega)
  refine Rch.of (T' := T0) (g' := (mkF m 1 #[.val (.int (Int32.ofNat i)), .val (.int (Int32.ofNat j)), .val (.int (Int32.ofNat n)), .val (.ref a4)] [(.int (Int32.ofNat i))])) (fun _ kt => XS.iloadN X0.here hx rfl (hb hby d_jdk_41_method_12_code_0) rfl  kt) ?_
  refine Rch.of (T' := T0) (g' := (mkF m 4 #[.val (.int (Int32.ofNat i)), .val (.int (Int32.ofNat j)), .val (.int (Int32.ofNat n)), .val (.ref a4)] [])) (fun _ kt => XS.ifNo X0.here hx rfl (hb hby d_jdk_41_method_12_code_1) rfl ((if0 _ _).trans (flt kn200).1) kt) ?_
  refine Rch.of (T' := T0) (g' := (mkF m 5 #[.val (.int (Int32.ofNat i)), .val (.int (Int32.ofNat j)), .val (.int (Int32.ofNat n)), .val (.ref a4)] [(.int (Int32.ofNat i))])) (fun _ kt => XS.iloadN X0.here hx rfl (hb hby d_jdk_41_method_12_code_4) rfl  kt) ?_
  refine Rch.of (T' := T0) (g' := (mkF m 6 #[.val (.int (Int32.ofNat i)), .val (.int (Int32.ofNat j)), .val (.int (Int32.ofNat n)), .val (.ref a4)] [(.int (Int32.ofNat j)), (.int (Int32.ofNat i))])) (fun _ kt => XS.iloadN X0.here hx rfl (hb hby d_jdk_41_method_12_code_5) rfl  kt) ?_
  refine Rch.of (T' := T0) (g' := (mkF m 9 #[.val (.int (Int32.ofNat i)), .val (.int (Int32.ofNat j)), .val (.int (Int32.ofNat n)), .val (.ref a4)] [])) (fun _ kt => XS.icmpNo X0.here hx rfl (hb hby d_jdk_41_method_12_code_6) rfl (flt kn201).2.2.1 kt) ?_
  refine Rch.of (T' := T0) (g' := (mkF m 10 #[.val (.int (Int32.ofNat i)), .val (.int (Int32.ofNat j)), .val (.int (Int32.ofNat n)), .val (.ref a4)] [(.int (Int32.ofNat j))])) (fun _ kt => XS.iloadN X0.here hx rfl (hb hby d_jdk_41_method_12_code_9) rfl  kt) ?_
  refine Rch.of (T' := T0) (g' := (mkF m 11 #[.val (.int (Int32.ofNat i)), .val (.int (Int32.ofNat j)), .val (.int (Int32.ofNat n)), .val (.ref a4)] [(.int (Int32.ofNat n)), (.int (Int32.ofNat j))])) (fun _ kt => XS.iloadN X0.here hx rfl (hb hby d_jdk_41_method_12_code_10) rfl  kt) ?_
  refine Rch.of (T' := T0) (g' := (mkF m 22 #[.val (.int (Int32.ofNat i)), .val (.int (Int32.ofNat j)), .val (.int (Int32.ofNat n)), .val (.ref a4)] [])) (fun _ kt => XS.icmpYes X0.here hx rfl (pc0 := 11) (pc' := 22) rfl (hb hby d_jdk_41_method_12_code_11) rfl (flt kn202).2.2.2 (by decide) (by decide) kt) ?_
  refine Rch.of (T' := T0) (g' := (mkF m 23 #[.val (.int (Int32.ofNat i)), .val (.int (Int32.ofNat j)), .val (.int (Int32.ofNat n)), .val (.ref a4)] [(.int (Int32.ofNat i))])) (fun _ kt => XS.iloadN X0.here hx rfl (hb hby d_jdk_41_method_12_code_22) rfl  kt) ?_
  exact Rch.retI X0 hx hret hlk (hb hby d_jdk_41_method_12_code_23) (fun U hU hF => hK _ U _ _ _ (by show Q_rqFTr Z i j n a4 h0 n0 _ U.heap _; rw [hU, e0]; exact ⟨rfl, N0, rfl⟩) hF (by decide) (by decide))
theorem ef_rqFB (m : MethodId)  : entryFrame m #[(.int (Int32.ofNat i)), (.int (Int32.ofNat j)), (.int (Int32.ofNat n))] 3 = mkF m 0 #[.val (.int (Int32.ofNat i)), .val (.int (Int32.ofNat j)), .val (.int (Int32.ofNat n))] [] := by first | (simp [entryFrame, mkF, argsToLocals, Value.category]; done) | rfl
def Q_rqFB (Z : State) (i : Nat) (j : Nat) (n : Nat) (sv : Value) (h0 : Heap) (n0 : Nat) (vv_ : Option Value) (h : Heap) (LL_ : List Loc) : Prop := vv_ = none ∧ Fr n0 LL_ ∧ (h = h0)
theorem d_jdk_42_method_158_code_0 : decode jdk_42_method_158_code 0 = .ok (.iload_n 0, 1) := by decide +kernel
theorem d_jdk_42_method_158_code_1 : decode jdk_42_method_158_code 1 = .ok (.iload_n 1, 1) := by decide +kernel
theorem d_jdk_42_method_158_code_2 : decode jdk_42_method_158_code 2 = .ok (.iload_n 2, 1) := by decide +kernel
theorem d_jdk_42_method_158_code_3 : decode jdk_42_method_158_code 3 = .ok (.getstatic 1053, 3) := by decide +kernel
theorem d_jdk_42_method_158_code_6 : decode jdk_42_method_158_code 6 = .ok (.invokestatic 1062, 3) := by decide +kernel
theorem d_jdk_42_method_158_code_9 : decode jdk_42_method_158_code 9 = .ok (.pop, 1) := by decide +kernel
theorem d_jdk_42_method_158_code_10 : decode jdk_42_method_158_code 10 = .ok (.return_, 1) := by decide +kernel
set_option maxRecDepth 65536 in
set_option maxHeartbeats 40000000 in
theorem rqFB (l : Launch) (Z : State) (a0 : Array Value) (hw : ∀ d ∈ tables_1, d.before a0 Z = true) (ws : List Jvm.Cond) (i : Nat) (j : Nat) (n : Nat) (sv : Value) (h0 : Heap) (n0 : Nat) (Z0 : n0 ≤ h0.size) (hij : i ≤ j) (hjn : j ≤ n) (hn : n ≤ 5) (SI : Sta Z h0 "jdk/internal/util/Preconditions" "SIOOBE_FORMATTER" "Ljava/util/function/BiFunction;" sv) (hsv : sv.isRef = true) :
    MetFree l (⟨"java/lang/String", "checkBoundsBeginEnd", "(III)V"⟩ : MethodName) (head1 (Jvm.Cond.code (⟨"java/lang/String", "checkBoundsBeginEnd", "(III)V"⟩ : MethodName) jdk_42_method_158_code 3 none :: ws) ({ frames := 1, cells := 0, slots := 0, locals := 15 } : Room)) (fun aa_ UU_ => aa_ = #[(.int (Int32.ofNat i)), (.int (Int32.ofNat j)), (.int (Int32.ofNat n))] ∧ Z.Warmed39 UU_.vm ∧ UU_.heap = h0) (fun _ _ _ _ _ => True) (fun _ UU_ oo_ VV_ => ∃ vv_ LL_, oo_ = .returned vv_ ∧ Q_rqFB Z i j n sv h0 n0 vv_ VV_.heap LL_ ∧ FrameEnd UU_ oo_ VV_ LL_ ({ frames := 1, cells := 0, slots := 0, locals := 15 } : Room).cells ({ frames := 1, cells := 0, slots := 0, locals := 15 } : Room).slots) := by
  refine own_met (y := (⟨"java/lang/String", "checkBoundsBeginEnd", "(III)V"⟩ : MethodName)) (plainFor_of_name pn_1) ?_
  intro p e s m below meth c T0 K hx hby hml hret hlk hown hnm hZ X0 e0 hK
  have N0 := Fr.nil n0
  refine Rch.cast (ef_rqFB m ) ?_
  rcases ref_cases hsv with es_ | ⟨q1_, es_⟩
  · skip
    have SI2 : Sta Z h0 "jdk/internal/util/Preconditions" "SIOOBE_FORMATTER" "Ljava/util/function/BiFunction;" .null := by rw [← es_]; exact SI
    refine Rch.of (T' := T0) (g' := (mkF m 1 #[.val (.int (Int32.ofNat i)), .val (.int (Int32.ofNat j)), .val (.int (Int32.ofNat n))] [(.int (Int32.ofNat i))])) (fun _ kt => XS.iloadN X0.here hx rfl (hb hby d_jdk_42_method_158_code_0) rfl  kt) ?_
    refine Rch.of (T' := T0) (g' := (mkF m 2 #[.val (.int (Int32.ofNat i)), .val (.int (Int32.ofNat j)), .val (.int (Int32.ofNat n))] [(.int (Int32.ofNat j)), (.int (Int32.ofNat i))])) (fun _ kt => XS.iloadN X0.here hx rfl (hb hby d_jdk_42_method_158_code_1) rfl  kt) ?_
    refine Rch.of (T' := T0) (g' := (mkF m 3 #[.val (.int (Int32.ofNat i)), .val (.int (Int32.ofNat j)), .val (.int (Int32.ofNat n))] [(.int (Int32.ofNat n)), (.int (Int32.ofNat j)), (.int (Int32.ofNat i))])) (fun _ kt => XS.iloadN X0.here hx rfl (hb hby d_jdk_42_method_158_code_2) rfl  kt) ?_
    obtain ⟨T203, X203, e203, st203⟩ := getS2 X0 hx hZ hown (host := "") (Or.inl (hw _ (List.mem_of_getElem? (i := 83) rfl))) Via.refl e0 SI2 (g := (mkF m 3 #[.val (.int (Int32.ofNat i)), .val (.int (Int32.ofNat j)), .val (.int (Int32.ofNat n))] [(.int (Int32.ofNat n)), (.int (Int32.ofNat j)), (.int (Int32.ofNat i))])) rfl (hb hby d_jdk_42_method_158_code_3)
    refine Rch.of (T' := T203) (g' := (mkF m 6 #[.val (.int (Int32.ofNat i)), .val (.int (Int32.ofNat j)), .val (.int (Int32.ofNat n))] [.null, (.int (Int32.ofNat n)), (.int (Int32.ofNat j)), (.int (Int32.ofNat i))])) st203 ?_
    have pr205 : i ≤ j := by omega
    have pr206 : j ≤ n := by omega
    have pr207 : n ≤ 5 := by omega
    obtain ⟨_, _, ⟨T204, L204, k204, n204⟩, -, X204, ⟨Lc204, hQ204, l204, y204, z204⟩, st204⟩ := Jvm.LawKit.callS X203 hx (y := (⟨"jdk/internal/util/Preconditions", "checkFromToIndex", "(IIILjava/util/function/BiFunction;)I"⟩ : MethodName)) hown (mvT hZ (hw _ (List.mem_of_getElem? (i := 85) rfl))) (mvT hZ (hw _ (List.mem_of_getElem? (i := 86) rfl))) (mvT hZ (hw _ (List.mem_of_getElem? (i := 84) rfl))) (mvT hZ (hw _ (List.mem_of_getElem? (i := 87) rfl))) (by decide) (backOf (W := 0) (rqFTn l Z a0 hw [] i j n h0 n0 Z0 pr205 pr206 pr207) hZ (hw _ (List.mem_of_getElem? (i := 87) rfl)) (hw _ (List.mem_of_getElem? (i := 84) rfl)) (by decide) (by decide)) (g := (mkF m 6 #[.val (.int (Int32.ofNat i)), .val (.int (Int32.ofNat j)), .val (.int (Int32.ofNat n))] [.null, (.int (Int32.ofNat n)), (.int (Int32.ofNat j)), (.int (Int32.ofNat i))])) rfl (by rw [hml]; rfl) (argsL := [(.int (Int32.ofNat i)), (.int (Int32.ofNat j)), (.int (Int32.ofNat n)), .null]) (rest := []) (lenOf pd_16 rfl) rfl (by show 2 * 0 + _ ≤ _; exact Nat.le_of_eq rfl) (hb hby d_jdk_42_method_158_code_6) (fun _ _ => ⟨rfl, e203, (by decide : 0 + 0 ≤ _), (by decide : 0 + 0 ≤ _)⟩)
    dsimp only [Pt.U, Pt.locs, Pt.cells, Pt.slots] at X204 l204 y204 z204 st204 hQ204
    subst l204 y204 z204
    obtain ⟨rfl, N204q, hQ204⟩ := hQ204
    have N204 := Fr.app N0 N204q
    refine Rch.of (T' := T204) (g' := (mkF m 9 #[.val (.int (Int32.ofNat i)), .val (.int (Int32.ofNat j)), .val (.int (Int32.ofNat n))] [(.int (Int32.ofNat i))])) st204 ?_
    refine Rch.of (T' := T204) (g' := (mkF m 10 #[.val (.int (Int32.ofNat i)), .val (.int (Int32.ofNat j)), .val (.int (Int32.ofNat n))] [])) (fun _ kt => XS.pop X204.here hx rfl (hb hby d_jdk_42_method_158_code_9) rfl rfl kt) ?_
    exact Rch.retV X204 hx hret hlk (hb hby d_jdk_42_method_158_code_10) (fun U hU hF => hK _ U _ _ _ (by show Q_rqFB Z i j n sv h0 n0 _ U.heap _; rw [hU, hQ204]; exact ⟨rfl, N204, rfl⟩) hF (by decide) (by decide))
  · skip
    have SI2 : Sta Z h0 "jdk/internal/util/Preconditions" "SIOOBE_FORMATTER" "Ljava/util/function/BiFunction;" (.ref q1_) := by rw [← es_]; exact SI
    refine Rch.of (T' := T0) (g' := (mkF m 1 #[.val (.int (Int32.ofNat i)), .val (.int (Int32.ofNat j)), .val (.int (Int32.ofNat n))] [(.int (Int32.ofNat i))])) (fun _ kt => XS.iloadN X0.here hx rfl (hb hby d_jdk_42_method_158_code_0) rfl  kt) ?_
    refine Rch.of (T' := T0) (g' := (mkF m 2 #[.val (.int (Int32.ofNat i)), .val (.int (Int32.ofNat j)), .val (.int (Int32.ofNat n))] [(.int (Int32.ofNat j)), (.int (Int32.ofNat i))])) (fun _ kt => XS.iloadN X0.here hx rfl (hb hby d_jdk_42_method_158_code_1) rfl  kt) ?_
    refine Rch.of (T' := T0) (g' := (mkF m 3 #[.val (.int (Int32.ofNat i)), .val (.int (Int32.ofNat j)), .val (.int (Int32.ofNat n))] [(.int (Int32.ofNat n)), (.int (Int32.ofNat j)), (.int (Int32.ofNat i))])) (fun _ kt => XS.iloadN X0.here hx rfl (hb hby d_jdk_42_method_158_code_2) rfl  kt) ?_
    obtain ⟨T208, X208, e208, st208⟩ := getS2 X0 hx hZ hown (host := "") (Or.inl (hw _ (List.mem_of_getElem? (i := 83) rfl))) Via.refl e0 SI2 (g := (mkF m 3 #[.val (.int (Int32.ofNat i)), .val (.int (Int32.ofNat j)), .val (.int (Int32.ofNat n))] [(.int (Int32.ofNat n)), (.int (Int32.ofNat j)), (.int (Int32.ofNat i))])) rfl (hb hby d_jdk_42_method_158_code_3)
    refine Rch.of (T' := T208) (g' := (mkF m 6 #[.val (.int (Int32.ofNat i)), .val (.int (Int32.ofNat j)), .val (.int (Int32.ofNat n))] [(.ref q1_), (.int (Int32.ofNat n)), (.int (Int32.ofNat j)), (.int (Int32.ofNat i))])) st208 ?_
    have pr210 : i ≤ j := by omega
    have pr211 : j ≤ n := by omega
    have pr212 : n ≤ 5 := by omega
    obtain ⟨_, _, ⟨T209, L209, k209, n209⟩, -, X209, ⟨Lc209, hQ209, l209, y209, z209⟩, st209⟩ := Jvm.LawKit.callS X208 hx (y := (⟨"jdk/internal/util/Preconditions", "checkFromToIndex", "(IIILjava/util/function/BiFunction;)I"⟩ : MethodName)) hown (mvT hZ (hw _ (List.mem_of_getElem? (i := 85) rfl))) (mvT hZ (hw _ (List.mem_of_getElem? (i := 86) rfl))) (mvT hZ (hw _ (List.mem_of_getElem? (i := 84) rfl))) (mvT hZ (hw _ (List.mem_of_getElem? (i := 87) rfl))) (by decide) (backOf (W := 0) (rqFTr l Z a0 hw [] i j n q1_ h0 n0 Z0 pr210 pr211 pr212) hZ (hw _ (List.mem_of_getElem? (i := 87) rfl)) (hw _ (List.mem_of_getElem? (i := 84) rfl)) (by decide) (by decide)) (g := (mkF m 6 #[.val (.int (Int32.ofNat i)), .val (.int (Int32.ofNat j)), .val (.int (Int32.ofNat n))] [(.ref q1_), (.int (Int32.ofNat n)), (.int (Int32.ofNat j)), (.int (Int32.ofNat i))])) rfl (by rw [hml]; rfl) (argsL := [(.int (Int32.ofNat i)), (.int (Int32.ofNat j)), (.int (Int32.ofNat n)), (.ref q1_)]) (rest := []) (lenOf pd_16 rfl) rfl (by show 2 * 0 + _ ≤ _; exact Nat.le_of_eq rfl) (hb hby d_jdk_42_method_158_code_6) (fun _ _ => ⟨rfl, e208, (by decide : 0 + 0 ≤ _), (by decide : 0 + 0 ≤ _)⟩)
    dsimp only [Pt.U, Pt.locs, Pt.cells, Pt.slots] at X209 l209 y209 z209 st209 hQ209
    subst l209 y209 z209
    obtain ⟨rfl, N209q, hQ209⟩ := hQ209
    have N209 := Fr.app N0 N209q
    refine Rch.of (T' := T209) (g' := (mkF m 9 #[.val (.int (Int32.ofNat i)), .val (.int (Int32.ofNat j)), .val (.int (Int32.ofNat n))] [(.int (Int32.ofNat i))])) st209 ?_
    refine Rch.of (T' := T209) (g' := (mkF m 10 #[.val (.int (Int32.ofNat i)), .val (.int (Int32.ofNat j)), .val (.int (Int32.ofNat n))] [])) (fun _ kt => XS.pop X209.here hx rfl (hb hby d_jdk_42_method_158_code_9) rfl rfl kt) ?_
    exact Rch.retV X209 hx hret hlk (hb hby d_jdk_42_method_158_code_10) (fun U hU hF => hK _ U _ _ _ (by show Q_rqFB Z i j n sv h0 n0 _ U.heap _; rw [hU, hQ209]; exact ⟨rfl, N209, rfl⟩) hF (by decide) (by decide))
theorem ef_rqNS (m : MethodId) (b1 : Addr) : entryFrame m #[(.ref b1), (.int (Int32.ofNat i)), (.int (Int32.ofNat k))] 3 = mkF m 0 #[.val (.ref b1), .val (.int (Int32.ofNat i)), .val (.int (Int32.ofNat k))] [] := by first | (simp [entryFrame, mkF, argsToLocals, Value.category]; done) | rfl
def Q_rqNS (Z : State) (b1 : Addr) (n : Nat) (y : Nat → Int32) (i : Nat) (k : Nat) (h0 : Heap) (n0 : Nat) (vv_ : Option Value) (h : Heap) (LL_ : List Loc) : Prop := ∃ r : Addr, ∃ b : Addr, ∃ t : Nat → Int32, vv_ = some (.ref r) ∧ Fr n0 LL_ ∧ (Keep h0 h [] ∧ Exa Z h r "java/lang/String" ∧ Fld Z h r "java/lang/String" "coder" "B" (.int (0 : Int32)) ∧ Fld Z h r "java/lang/String" "value" "[B" (.ref b) ∧ Av Z h b .byte k (fun q => .int ((t q).toInt8.toInt32)) ∧ ∀ q, q < k → t q = y (i + q))
theorem d_jdk_43_method_47_code_0 : decode jdk_43_method_47_code 0 = .ok (.iload_n 2, 1) := by decide +kernel
theorem d_jdk_43_method_47_code_1 : decode jdk_43_method_47_code 1 = .ok (.ifCond .ne 6, 3) := by decide +kernel
theorem d_jdk_43_method_47_code_4 : decode jdk_43_method_47_code 4 = .ok (.ldc 151, 2) := by decide +kernel
theorem d_jdk_43_method_47_code_6 : decode jdk_43_method_47_code 6 = .ok (.areturn, 1) := by decide +kernel
theorem d_jdk_43_method_47_code_7 : decode jdk_43_method_47_code 7 = .ok (.new 1, 3) := by decide +kernel
theorem d_jdk_43_method_47_code_10 : decode jdk_43_method_47_code 10 = .ok (.dup, 1) := by decide +kernel
theorem d_jdk_43_method_47_code_11 : decode jdk_43_method_47_code 11 = .ok (.aload_n 0, 1) := by decide +kernel
theorem d_jdk_43_method_47_code_12 : decode jdk_43_method_47_code 12 = .ok (.iload_n 1, 1) := by decide +kernel
theorem d_jdk_43_method_47_code_13 : decode jdk_43_method_47_code 13 = .ok (.iload_n 1, 1) := by decide +kernel
theorem d_jdk_43_method_47_code_14 : decode jdk_43_method_47_code 14 = .ok (.iload_n 2, 1) := by decide +kernel
theorem d_jdk_43_method_47_code_15 : decode jdk_43_method_47_code 15 = .ok (.iadd, 1) := by decide +kernel
theorem d_jdk_43_method_47_code_16 : decode jdk_43_method_47_code 16 = .ok (.invokestatic 232, 3) := by decide +kernel
theorem d_jdk_43_method_47_code_19 : decode jdk_43_method_47_code 19 = .ok (.iconst 0, 1) := by decide +kernel
theorem d_jdk_43_method_47_code_20 : decode jdk_43_method_47_code 20 = .ok (.invokespecial 112, 3) := by decide +kernel
theorem d_jdk_43_method_47_code_23 : decode jdk_43_method_47_code 23 = .ok (.areturn, 1) := by decide +kernel
set_option maxRecDepth 65536 in
set_option maxHeartbeats 40000000 in
theorem rqNS (l : Launch) (Z : State) (a0 : Array Value) (hw : ∀ d ∈ tables_1, d.before a0 Z = true) (ws : List Jvm.Cond) (b1 : Addr) (n : Nat) (y : Nat → Int32) (i : Nat) (k : Nat) (h0 : Heap) (n0 : Nat) (Z0 : n0 ≤ h0.size) (V1 : Av Z h0 b1 .byte n (fun q => .int ((y q).toInt8.toInt32))) (hik : i + k ≤ n) (hn : n ≤ 5) (hni : ¬ (k ≠ 0 ∧ i = 0 ∧ i + k = n)) :
    MetFree l (⟨"java/lang/StringLatin1", "newString", "([BII)Ljava/lang/String;"⟩ : MethodName) (head1 (Jvm.Cond.code (⟨"java/lang/StringLatin1", "newString", "([BII)Ljava/lang/String;"⟩ : MethodName) jdk_43_method_47_code 3 (some (.object "java/lang/String")) :: ws) ({ frames := 3, cells := 2, slots := 9, locals := 50 } : Room)) (fun aa_ UU_ => aa_ = #[(.ref b1), (.int (Int32.ofNat i)), (.int (Int32.ofNat k))] ∧ Z.Warmed39 UU_.vm ∧ UU_.heap = h0 ∧ CHv Z consts_1 UU_.vm h0) (fun _ _ _ _ _ => True) (fun _ UU_ oo_ VV_ => ∃ vv_ LL_, oo_ = .returned vv_ ∧ Q_rqNS Z b1 n y i k h0 n0 vv_ VV_.heap LL_ ∧ CHr Z consts_1 UU_.vm UU_.heap VV_.vm VV_.heap ∧ ReturnedEndW UU_ oo_ VV_ LL_ ({ frames := 3, cells := 2, slots := 9, locals := 50 } : Room).cells ({ frames := 3, cells := 2, slots := 9, locals := 50 } : Room).slots) := by
  refine own_metH (y := (⟨"java/lang/StringLatin1", "newString", "([BII)Ljava/lang/String;"⟩ : MethodName)) (plainFor_of_name pn_3) ?_
  intro p e s m below meth c T0 K hx hby hml hret hlk hown hnm hZ X0 e0 C0 hK
  have N0 := Fr.nil n0
  have R0 := CHr.refl C0
  have hEL := own_EW hw
  have hS0 : s.Since s.vm 0 := (State.WarmedH.refl s).since 0
  have hk0 : 0 ≤ h0.size := Nat.zero_le _
  have wS : ∀ d ∈ Bundle.stringAtoms, d.before a0 Z = true := fun d hd => hw d ((by decide +kernel : ∀ d ∈ Bundle.stringAtoms, d ∈ tables_1) d hd)
  change Stand p l e ({ frames := 3, cells := 2, slots := 9, locals := 50 } : Room) (s.setVm s.vm) m #[(.ref b1), (.int (Int32.ofNat i)), (.int (Int32.ofNat k))] below meth c T0 [] 0 0 at X0
  change Z.Warmed39 (s.setVm s.vm).vm at hZ
  change (s.setVm s.vm).vm.findClass _ = some m.cls at hown
  refine Rch.cast (ef_rqNS m b1) ?_
  refine Rch.of (T' := T0) (g' := (mkF m 1 #[.val (.ref b1), .val (.int (Int32.ofNat i)), .val (.int (Int32.ofNat k))] [(.int (Int32.ofNat k))])) (fun _ kt => XS.iloadN X0.here hx rfl (hb hby d_jdk_43_method_47_code_0) rfl  kt) ?_
  by_cases c213 : (Int32.ofNat k) = (0 : Int32)
  · skip
    refine Rch.of (T' := T0) (g' := (mkF m 4 #[.val (.ref b1), .val (.int (Int32.ofNat i)), .val (.int (Int32.ofNat k))] [])) (fun _ kt => XS.ifNo X0.here hx rfl (hb hby d_jdk_43_method_47_code_1) rfl ((if0 _ _).trans (teq c213).2) kt) ?_
    have hkz : k = 0 := (own_neN (j := 0) (by omega) (by decide)).mp c213
    obtain ⟨s214, T214, h214, k214, sb214, kc214, X214, e214, E214, hS214, hk214, hZ, hown, Ex214, Fa214, Fb214, Ar214, la214, lb214, cr214, Lt214, sf214, st214⟩ := ldcCH (s := s) (vm0 := s.vm) X0 hx hZ hown (hw _ (List.mem_of_getElem? (i := 130) rfl)) wS e0 hS0 hk0 hEL (List.mem_of_getElem? (i := 1) rfl) R0.1 (z := (0 : Int32)) own_t0_ok.1 (by decide) (by decide) (g := (mkF m 4 #[.val (.ref b1), .val (.int (Int32.ofNat i)), .val (.int (Int32.ofNat k))] [])) rfl (hb hby d_jdk_43_method_47_code_4) (n := 0) (by decide) (by decide) (by decide) (by decide)
    have V214 : Av Z h214 sb214 .byte 0 (fun q => .int ((own_t0 q).toInt8.toInt32)) := (Arv.av Ar214 (by decide)).congr own_t0_ok.2
    refine Rch.of (T' := T214) (g' := (mkF m 6 #[.val (.ref b1), .val (.int (Int32.ofNat i)), .val (.int (Int32.ofNat k))] [(.ref s214)])) st214 ?_
    exact Rch.retA X214 hx (w := (.ref s214)) hret rfl rfl hlk (hb hby d_jdk_43_method_47_code_6) (fun U hU hF => hK _ U _ _ _ (by show Q_rqNS Z b1 n y i k h0 n0 _ U.heap _; rw [hU, e214]; exact ⟨s214, sb214, (fun q => y (i + q)), rfl, N0, ((Keep.refl h0 []).ext E214), Ex214, Fa214, Fb214, ((by rw [hkz]; exact Av.congr V214 (fun j hj => absurd hj (Nat.not_lt_zero j)))), fun q _ => rfl⟩) (own_endH hZ hEL (R0.trans cr214) (hU.trans e214) hF) (own_end hS214 (by rw [hU, e214]; exact hk214) hF) (by decide) (by decide))
  · skip
    refine Rch.of (T' := T0) (g' := (mkF m 7 #[.val (.ref b1), .val (.int (Int32.ofNat i)), .val (.int (Int32.ofNat k))] [])) (fun _ kt => XS.ifYes X0.here hx rfl (pc0 := 1) (pc' := 7) rfl (hb hby d_jdk_43_method_47_code_1) rfl ((if0 _ _).trans (feq c213).2) (by decide) (by decide) kt) ?_
    have hkz : ¬ k = 0 := fun q => c213 (by rw [q]; rfl)
    obtain ⟨T215, h215, X215, e215, E215, A215, D215, -, st215⟩ := newO X0 hx hZ hown (hw _ (List.mem_of_getElem? (i := 131) rfl)) (hw _ (List.mem_of_getElem? (i := 9) rfl)) (hw _ (List.mem_of_getElem? (i := 10) rfl)) e0 (g := (mkF m 7 #[.val (.ref b1), .val (.int (Int32.ofNat i)), .val (.int (Int32.ofNat k))] [])) rfl (hb hby d_jdk_43_method_47_code_7) (by decide) (by decide)
    obtain ⟨b215, g215⟩ : ∃ zz_, zz_ = h0.size := ⟨_, rfl⟩
    have ne_b1_b215 : b1 ≠ b215 := Nat.ne_of_lt (Nat.lt_of_lt_of_le V1.lt (Nat.le_of_eq g215.symm))
    have ge_b215 : n0 ≤ b215 := Nat.le_trans Z0 (Nat.le_of_eq g215.symm)
    have sz_b215 : h0.size ≤ b215 := Nat.le_trans (Keep.refl h0 []).1 (Nat.le_of_eq g215.symm)
    rw [← g215] at A215 D215 st215
    have F215_value : Fld Z h215 b215 "java/lang/String" "value" "[B" .null := D215 (Or.inr (hw _ (List.mem_of_getElem? (i := 23) rfl))) (ty := (.array .byte)) (by decide)
    have F215_coder : Fld Z h215 b215 "java/lang/String" "coder" "B" (.int (0 : Int32)) := D215 (Or.inr (hw _ (List.mem_of_getElem? (i := 24) rfl))) (ty := .byte) (by decide)
    refine Rch.of (T' := T215) (g' := (mkF m 10 #[.val (.ref b1), .val (.int (Int32.ofNat i)), .val (.int (Int32.ofNat k))] [(.ref b215)])) st215 ?_
    refine Rch.of (T' := T215) (g' := (mkF m 11 #[.val (.ref b1), .val (.int (Int32.ofNat i)), .val (.int (Int32.ofNat k))] [(.ref b215), (.ref b215)])) (fun _ kt => XS.dup X215.here hx rfl (hb hby d_jdk_43_method_47_code_10) rfl rfl kt) ?_
    refine Rch.of (T' := T215) (g' := (mkF m 12 #[.val (.ref b1), .val (.int (Int32.ofNat i)), .val (.int (Int32.ofNat k))] [(.ref b1), (.ref b215), (.ref b215)])) (fun _ kt => XS.aloadN X215.here hx rfl (hb hby d_jdk_43_method_47_code_11) rfl rfl kt) ?_
    refine Rch.of (T' := T215) (g' := (mkF m 13 #[.val (.ref b1), .val (.int (Int32.ofNat i)), .val (.int (Int32.ofNat k))] [(.int (Int32.ofNat i)), (.ref b1), (.ref b215), (.ref b215)])) (fun _ kt => XS.iloadN X215.here hx rfl (hb hby d_jdk_43_method_47_code_12) rfl  kt) ?_
    refine Rch.of (T' := T215) (g' := (mkF m 14 #[.val (.ref b1), .val (.int (Int32.ofNat i)), .val (.int (Int32.ofNat k))] [(.int (Int32.ofNat i)), (.int (Int32.ofNat i)), (.ref b1), (.ref b215), (.ref b215)])) (fun _ kt => XS.iloadN X215.here hx rfl (hb hby d_jdk_43_method_47_code_13) rfl  kt) ?_
    refine Rch.of (T' := T215) (g' := (mkF m 15 #[.val (.ref b1), .val (.int (Int32.ofNat i)), .val (.int (Int32.ofNat k))] [(.int (Int32.ofNat k)), (.int (Int32.ofNat i)), (.int (Int32.ofNat i)), (.ref b1), (.ref b215), (.ref b215)])) (fun _ kt => XS.iloadN X215.here hx rfl (hb hby d_jdk_43_method_47_code_14) rfl  kt) ?_
    refine Rch.of (T' := T215) (g' := (mkF m 16 #[.val (.ref b1), .val (.int (Int32.ofNat i)), .val (.int (Int32.ofNat k))] [(.int ((Int32.ofNat i) + (Int32.ofNat k))), (.int (Int32.ofNat i)), (.ref b1), (.ref b215), (.ref b215)])) (fun _ kt => XS.iadd X215.here hx rfl (hb hby d_jdk_43_method_47_code_15) rfl kt) ?_
    have sw216 : ((Int32.ofNat i) + (Int32.ofNat k)) = (Int32.ofNat (i + k)) := own_addN i k
    rw [sw216]
    show Rch p e below K T215 (mkF m 16 #[.val (.ref b1), .val (.int (Int32.ofNat i)), .val (.int (Int32.ofNat k))] [(.int (Int32.ofNat (i + k))), (.int (Int32.ofNat i)), (.ref b1), (.ref b215), (.ref b215)])
    have pr218 : i ≤ (i + k) := by omega
    have pr219 : (i + k) ≤ n := by omega
    have pr220 : n ≤ 5 := by omega
    have pr221 : ¬ (i = 0 ∧ (i + k) = n) := by omega
    obtain ⟨_, _, ⟨T217, L217, k217, n217⟩, -, X217, ⟨Lc217, hQ217, l217, y217, z217⟩, st217⟩ := Jvm.LawKit.callS X215 hx (y := (⟨"java/util/Arrays", "copyOfRange", "([BII)[B"⟩ : MethodName)) hown (mvT hZ (hw _ (List.mem_of_getElem? (i := 132) rfl))) (mvT hZ (hw _ (List.mem_of_getElem? (i := 133) rfl))) (mvT hZ (hw _ (List.mem_of_getElem? (i := 134) rfl))) (mvT hZ (hw _ (List.mem_of_getElem? (i := 135) rfl))) (by decide) (backOf (W := 2) (rqCR l Z a0 hw [] b1 n y i (i + k) h215 n0 (Nat.le_trans Z0 E215.1) (V1.ext E215) pr218 pr219 pr220 pr221) hZ (hw _ (List.mem_of_getElem? (i := 135) rfl)) (hw _ (List.mem_of_getElem? (i := 134) rfl)) (by decide) (by decide)) (g := (mkF m 16 #[.val (.ref b1), .val (.int (Int32.ofNat i)), .val (.int (Int32.ofNat k))] [(.int (Int32.ofNat (i + k))), (.int (Int32.ofNat i)), (.ref b1), (.ref b215), (.ref b215)])) rfl (by rw [hml]; rfl) (argsL := [(.ref b1), (.int (Int32.ofNat i)), (.int (Int32.ofNat (i + k)))]) (rest := [(.ref b215), (.ref b215)]) (lenOf pd_25 rfl) rfl (by show 2 * 0 + _ ≤ _; exact Nat.le_of_eq rfl) (hb hby d_jdk_43_method_47_code_16) (fun _ _ => ⟨rfl, e215, (by decide : 1 + 1 ≤ _), (by decide : 4 + 5 ≤ _)⟩)
    dsimp only [Pt.U, Pt.locs, Pt.cells, Pt.slots] at X217 l217 y217 z217 st217 hQ217
    subst l217 y217 z217
    obtain ⟨rfl, N217q, hQ217⟩ := hQ217
    have N217 := Fr.app N0 N217q
    obtain ⟨K217, V217⟩ := hQ217
    obtain ⟨b217, g217⟩ : ∃ zz_, zz_ = h215.size := ⟨_, rfl⟩
    have ne_b1_b217 : b1 ≠ b217 := Nat.ne_of_lt (Nat.lt_of_lt_of_le (V1.ext E215).lt (Nat.le_of_eq g217.symm))
    have ne_b215_b217 : b215 ≠ b217 := Nat.ne_of_lt (Nat.lt_of_lt_of_le A215.lt (Nat.le_of_eq g217.symm))
    have ge_b217 : n0 ≤ b217 := Nat.le_trans (Nat.le_trans Z0 E215.1) (Nat.le_of_eq g217.symm)
    have sz_b217 : h0.size ≤ b217 := Nat.le_trans ((Keep.refl h0 []).ext E215).1 (Nat.le_of_eq g217.symm)
    rw [← g217] at V217 st217
    refine Rch.of (T' := T217) (g' := (mkF m 19 #[.val (.ref b1), .val (.int (Int32.ofNat i)), .val (.int (Int32.ofNat k))] [(.ref b217), (.ref b215), (.ref b215)])) st217 ?_
    refine Rch.of (T' := T217) (g' := (mkF m 20 #[.val (.ref b1), .val (.int (Int32.ofNat i)), .val (.int (Int32.ofNat k))] [(.int (0 : Int32)), (.ref b217), (.ref b215), (.ref b215)])) (fun _ kt => XS.iconst X217.here hx rfl (hb hby d_jdk_43_method_47_code_19) kt) ?_
    obtain ⟨_, _, ⟨T222, L222, k222, n222⟩, -, X222, ⟨Lc222, hQ222, l222, y222, z222⟩, st222⟩ := X217.specialBack hx (y := (⟨"java/lang/String", "<init>", "([BB)V"⟩ : MethodName)) rfl hown (mvT hZ (hw _ (List.mem_of_getElem? (i := 147) rfl))) (mvT hZ (hw _ (List.mem_of_getElem? (i := 148) rfl))) (mvT hZ (hw _ (List.mem_of_getElem? (i := 149) rfl))) (by decide) (backOf (W := 1) (rmBB l Z a0 hw [] b215 b217 (.int (0 : Int32)) .null T217.heap n0 (Nat.le_trans (Nat.le_trans Z0 E215.1) K217.1) (A215.keep K217) (F215_coder.keep K217 nin0) (F215_value.keep K217 nin0) ge_b215) hZ (hw _ (List.mem_of_getElem? (i := 149) rfl)) (hw _ (List.mem_of_getElem? (i := 10) rfl)) (by decide) (by decide)) (g := (mkF m 20 #[.val (.ref b1), .val (.int (Int32.ofNat i)), .val (.int (Int32.ofNat k))] [(.int (0 : Int32)), (.ref b217), (.ref b215), (.ref b215)])) rfl (by rw [hml]; rfl) (Steps.refl _) (a := b215) (argsL := [(.ref b217), (.int (0 : Int32))]) (rest := [(.ref b215)]) (lenOf pd_28 rfl) rfl (by show 2 * 0 + _ ≤ _; exact Nat.le_of_eq rfl) (hb hby d_jdk_43_method_47_code_20) (fun _ _ => ⟨rfl, rfl, (by decide : 2 + 0 ≤ _), (by decide : 9 + 0 ≤ _)⟩)
    dsimp only [Pt.U, Pt.locs, Pt.cells, Pt.slots] at X222 l222 y222 z222 st222 hQ222
    subst l222 y222 z222
    obtain ⟨rfl, N222q, hQ222⟩ := hQ222
    have N222 := Fr.app N217 N222q
    obtain ⟨K222, Ex222, Fa222, Fb222⟩ := hQ222
    have Sf223 : Safe Z consts_1 s.vm T217.heap b215 := (own_safeNull hZ.alike (A215.keep K217) (F215_value.keep K217 nin0))
    have Rb224 := (((R0.trans (CHr.ext E215 R0.1)).trans (CHr.keep K217 all0 (R0.trans (CHr.ext E215 R0.1)).1)).trans (CHr.keep K222 (allS Sf223 all0) ((R0.trans (CHr.ext E215 R0.1)).trans (CHr.keep K217 all0 (R0.trans (CHr.ext E215 R0.1)).1)).1))
    refine Rch.via (T' := T222) (g' := (mkF m 23 #[.val (.ref b1), .val (.int (Int32.ofNat i)), .val (.int (Int32.ofNat k))] [(.ref b215)])) st222 ?_
    exact Rch.retA X222 hx (w := (.ref b215)) hret rfl rfl hlk (hb hby d_jdk_43_method_47_code_23) (fun U hU hF => hK _ U _ _ _ (by show Q_rqNS Z b1 n y i k h0 n0 _ U.heap _; rw [hU]; exact ⟨b215, b217, (fun q => y (i + q)), rfl, N222, ((((Keep.refl h0 []).ext E215).trans K217 all0).trans K222 (allS (Or.inr sz_b215) all0)), Ex222, Fa222, Fb222, ((by rw [show k = i + k - i by omega]; exact (V217.keep K222 (ninS (Ne.symm ne_b215_b217) nin0)))), fun q _ => rfl⟩) (own_endH hZ hEL Rb224 hU hF) (own_end hS0 (by rw [hU]; exact (Nat.le_trans (Nat.le_trans (Nat.le_trans hk0 E215.1) K217.1) K222.1)) hF) (by decide) (by decide))
theorem ef_rqS2 (m : MethodId) (a1 : Addr) : entryFrame m #[(.ref a1), (.int (Int32.ofNat i)), (.int (Int32.ofNat j))] 5 = mkF m 0 #[.val (.ref a1), .val (.int (Int32.ofNat i)), .val (.int (Int32.ofNat j)), .unset, .unset] [] := by first | (simp [entryFrame, mkF, argsToLocals, Value.category]; done) | rfl
def Q_rqS2 (Z : State) (a1 : Addr) (b1 : Addr) (n : Nat) (y : Nat → Int32) (i : Nat) (j : Nat) (cs : Int32) (sv : Value) (h0 : Heap) (n0 : Nat) (vv_ : Option Value) (h : Heap) (LL_ : List Loc) : Prop := ∃ r : Addr, ∃ b : Addr, ∃ t : Nat → Int32, vv_ = some (.ref r) ∧ Fr n0 LL_ ∧ (Keep h0 h [] ∧ Exa Z h r "java/lang/String" ∧ Fld Z h r "java/lang/String" "coder" "B" (.int (0 : Int32)) ∧ Fld Z h r "java/lang/String" "value" "[B" (.ref b) ∧ Av Z h b .byte (j - i) (fun q => .int ((t q).toInt8.toInt32)) ∧ ∀ q, q < (j - i) → t q = y (i + q))
theorem d_jdk_42_method_92_code_0 : decode jdk_42_method_92_code 0 = .ok (.aload_n 0, 1) := by decide +kernel
theorem d_jdk_42_method_92_code_1 : decode jdk_42_method_92_code 1 = .ok (.invokevirtual 505, 3) := by decide +kernel
theorem d_jdk_42_method_92_code_4 : decode jdk_42_method_92_code 4 = .ok (.istore_n 3, 1) := by decide +kernel
theorem d_jdk_42_method_92_code_5 : decode jdk_42_method_92_code 5 = .ok (.iload_n 1, 1) := by decide +kernel
theorem d_jdk_42_method_92_code_6 : decode jdk_42_method_92_code 6 = .ok (.iload_n 2, 1) := by decide +kernel
theorem d_jdk_42_method_92_code_7 : decode jdk_42_method_92_code 7 = .ok (.iload_n 3, 1) := by decide +kernel
theorem d_jdk_42_method_92_code_8 : decode jdk_42_method_92_code 8 = .ok (.invokestatic 521, 3) := by decide +kernel
theorem d_jdk_42_method_92_code_11 : decode jdk_42_method_92_code 11 = .ok (.iload_n 1, 1) := by decide +kernel
theorem d_jdk_42_method_92_code_12 : decode jdk_42_method_92_code 12 = .ok (.ifCond .ne 10, 3) := by decide +kernel
theorem d_jdk_42_method_92_code_15 : decode jdk_42_method_92_code 15 = .ok (.iload_n 2, 1) := by decide +kernel
theorem d_jdk_42_method_92_code_16 : decode jdk_42_method_92_code 16 = .ok (.iload_n 3, 1) := by decide +kernel
theorem d_jdk_42_method_92_code_17 : decode jdk_42_method_92_code 17 = .ok (.if_icmp .ne 5, 3) := by decide +kernel
theorem d_jdk_42_method_92_code_20 : decode jdk_42_method_92_code 20 = .ok (.aload_n 0, 1) := by decide +kernel
theorem d_jdk_42_method_92_code_21 : decode jdk_42_method_92_code 21 = .ok (.areturn, 1) := by decide +kernel
theorem d_jdk_42_method_92_code_22 : decode jdk_42_method_92_code 22 = .ok (.iload_n 2, 1) := by decide +kernel
theorem d_jdk_42_method_92_code_23 : decode jdk_42_method_92_code 23 = .ok (.iload_n 1, 1) := by decide +kernel
theorem d_jdk_42_method_92_code_24 : decode jdk_42_method_92_code 24 = .ok (.isub, 1) := by decide +kernel
theorem d_jdk_42_method_92_code_25 : decode jdk_42_method_92_code 25 = .ok (.istore 4, 2) := by decide +kernel
theorem d_jdk_42_method_92_code_27 : decode jdk_42_method_92_code 27 = .ok (.aload_n 0, 1) := by decide +kernel
theorem d_jdk_42_method_92_code_28 : decode jdk_42_method_92_code 28 = .ok (.invokevirtual 492, 3) := by decide +kernel
theorem d_jdk_42_method_92_code_31 : decode jdk_42_method_92_code 31 = .ok (.ifCond .eq 16, 3) := by decide +kernel
theorem d_jdk_42_method_92_code_34 : decode jdk_42_method_92_code 34 = .ok (.aload_n 0, 1) := by decide +kernel
theorem d_jdk_42_method_92_code_35 : decode jdk_42_method_92_code 35 = .ok (.getfield 9, 3) := by decide +kernel
theorem d_jdk_42_method_92_code_38 : decode jdk_42_method_92_code 38 = .ok (.iload_n 1, 1) := by decide +kernel
theorem d_jdk_42_method_92_code_39 : decode jdk_42_method_92_code 39 = .ok (.iload 4, 2) := by decide +kernel
theorem d_jdk_42_method_92_code_41 : decode jdk_42_method_92_code 41 = .ok (.invokestatic 685, 3) := by decide +kernel
theorem d_jdk_42_method_92_code_44 : decode jdk_42_method_92_code 44 = .ok (.goto 13, 3) := by decide +kernel
theorem d_jdk_42_method_92_code_57 : decode jdk_42_method_92_code 57 = .ok (.areturn, 1) := by decide +kernel
set_option maxRecDepth 65536 in
set_option maxHeartbeats 40000000 in
theorem rqS2 (l : Launch) (Z : State) (a0 : Array Value) (hw : ∀ d ∈ tables_1, d.before a0 Z = true) (ws : List Jvm.Cond) (a1 : Addr) (b1 : Addr) (n : Nat) (y : Nat → Int32) (i : Nat) (j : Nat) (cs : Int32) (sv : Value) (h0 : Heap) (n0 : Nat) (Z0 : n0 ≤ h0.size) (E1 : Exa Z h0 a1 "java/lang/String") (F1 : Fld Z h0 a1 "java/lang/String" "coder" "B" (.int (0 : Int32))) (F2 : Fld Z h0 a1 "java/lang/String" "value" "[B" (.ref b1)) (V1 : Av Z h0 b1 .byte n (fun q => .int ((y q).toInt8.toInt32))) (hij : i ≤ j) (hjn : j ≤ n) (hn : n ≤ 5) (SC : Sta Z h0 "java/lang/String" "COMPACT_STRINGS" "Z" (.int cs)) (hcs : ¬ cs = (0 : Int32)) (SI : Sta Z h0 "jdk/internal/util/Preconditions" "SIOOBE_FORMATTER" "Ljava/util/function/BiFunction;" sv) (hsv : sv.isRef = true) :
    MetFree l (⟨"java/lang/String", "substring", "(II)Ljava/lang/String;"⟩ : MethodName) (head1 (Jvm.Cond.code (⟨"java/lang/String", "substring", "(II)Ljava/lang/String;"⟩ : MethodName) jdk_42_method_92_code 5 (some (.object "java/lang/String")) :: ws) ({ frames := 4, cells := 2, slots := 9, locals := 64 } : Room)) (fun aa_ UU_ => aa_ = #[(.ref a1), (.int (Int32.ofNat i)), (.int (Int32.ofNat j))] ∧ Z.Warmed39 UU_.vm ∧ UU_.heap = h0 ∧ CHv Z consts_1 UU_.vm h0) (fun _ _ _ _ _ => True) (fun _ UU_ oo_ VV_ => ∃ vv_ LL_, oo_ = .returned vv_ ∧ Q_rqS2 Z a1 b1 n y i j cs sv h0 n0 vv_ VV_.heap LL_ ∧ CHr Z consts_1 UU_.vm UU_.heap VV_.vm VV_.heap ∧ ReturnedEndW UU_ oo_ VV_ LL_ ({ frames := 4, cells := 2, slots := 9, locals := 64 } : Room).cells ({ frames := 4, cells := 2, slots := 9, locals := 64 } : Room).slots) := by
  refine own_metH (y := (⟨"java/lang/String", "substring", "(II)Ljava/lang/String;"⟩ : MethodName)) (plainFor_of_name pn_1) ?_
  intro p e s m below meth c T0 K hx hby hml hret hlk hown hnm hZ X0 e0 C0 hK
  have N0 := Fr.nil n0
  have R0 := CHr.refl C0
  have hEL := own_EW hw
  have hS0 : s.Since s.vm 0 := (State.WarmedH.refl s).since 0
  have hk0 : 0 ≤ h0.size := Nat.zero_le _
  have wS : ∀ d ∈ Bundle.stringAtoms, d.before a0 Z = true := fun d hd => hw d ((by decide +kernel : ∀ d ∈ Bundle.stringAtoms, d ∈ tables_1) d hd)
  change Stand p l e ({ frames := 4, cells := 2, slots := 9, locals := 64 } : Room) (s.setVm s.vm) m #[(.ref a1), (.int (Int32.ofNat i)), (.int (Int32.ofNat j))] below meth c T0 [] 0 0 at X0
  change Z.Warmed39 (s.setVm s.vm).vm at hZ
  change (s.setVm s.vm).vm.findClass _ = some m.cls at hown
  refine Rch.cast (ef_rqS2 m a1) ?_
  refine Rch.of (T' := T0) (g' := (mkF m 1 #[.val (.ref a1), .val (.int (Int32.ofNat i)), .val (.int (Int32.ofNat j)), .unset, .unset] [(.ref a1)])) (fun _ kt => XS.aloadN X0.here hx rfl (hb hby d_jdk_42_method_92_code_0) rfl rfl kt) ?_
  obtain ⟨cq225, kq225, q225a, q225b, q225c⟩ := isOf hZ e0 E1
  obtain ⟨_, _, ⟨T225, L225, k225, n225⟩, -, X225, ⟨Lc225, hQ225, l225, y225, z225⟩, st225⟩ := X0.virtualBack hx (y := (⟨"java/lang/String", "length", "()I"⟩ : MethodName)) (z := (⟨"java/lang/String", "length", "()I"⟩ : MethodName)) hown (mvT hZ (hw _ (List.mem_of_getElem? (i := 38) rfl))) (mvT hZ (hw _ (List.mem_of_getElem? (i := 39) rfl))) (notFace_of_selects (args := #[]) (mvT hZ (hw _ (List.mem_of_getElem? (i := 41) rfl)))) (mvT hZ (hw _ (List.mem_of_getElem? (i := 41) rfl))) (mvT hZ (hw _ (List.mem_of_getElem? (i := 40) rfl))) (by decide) (backOf (W := 0) (rqLE l Z a0 hw [] a1 b1 n y cs h0 n0 Z0 E1 F1 F2 V1 SC hcs) hZ (hw _ (List.mem_of_getElem? (i := 42) rfl)) (hw _ (List.mem_of_getElem? (i := 10) rfl)) (by decide) (by decide)) q225a q225c (g := (mkF m 1 #[.val (.ref a1), .val (.int (Int32.ofNat i)), .val (.int (Int32.ofNat j)), .unset, .unset] [(.ref a1)])) rfl (by rw [hml]; rfl) (Steps.refl _) (argsL := []) (rest := []) (lenOf pd_7 rfl) rfl (by show 2 * 0 + _ ≤ _; exact Nat.le_of_eq rfl) (hb hby d_jdk_42_method_92_code_1) (fun _ _ => ⟨rfl, e0, (by decide : 0 + 0 ≤ _), (by decide : 0 + 0 ≤ _)⟩)
  dsimp only [Pt.U, Pt.locs, Pt.cells, Pt.slots] at X225 l225 y225 z225 st225 hQ225
  subst l225 y225 z225
  obtain ⟨rfl, N225q, hQ225⟩ := hQ225
  have N225 := Fr.app N0 N225q
  refine Rch.via (T' := T225) (g' := (mkF m 4 #[.val (.ref a1), .val (.int (Int32.ofNat i)), .val (.int (Int32.ofNat j)), .unset, .unset] [(.int (Int32.ofNat n))])) st225 ?_
  refine Rch.of (T' := T225) (g' := (mkF m 5 #[.val (.ref a1), .val (.int (Int32.ofNat i)), .val (.int (Int32.ofNat j)), .val (.int (Int32.ofNat n)), .unset] [])) (fun _ kt => XS.istoreN X225.here hx rfl (hb hby d_jdk_42_method_92_code_4) rfl (l' := #[.val (.ref a1), .val (.int (Int32.ofNat i)), .val (.int (Int32.ofNat j)), .val (.int (Int32.ofNat n)), .unset]) rfl kt) ?_
  refine Rch.of (T' := T225) (g' := (mkF m 6 #[.val (.ref a1), .val (.int (Int32.ofNat i)), .val (.int (Int32.ofNat j)), .val (.int (Int32.ofNat n)), .unset] [(.int (Int32.ofNat i))])) (fun _ kt => XS.iloadN X225.here hx rfl (hb hby d_jdk_42_method_92_code_5) rfl  kt) ?_
  refine Rch.of (T' := T225) (g' := (mkF m 7 #[.val (.ref a1), .val (.int (Int32.ofNat i)), .val (.int (Int32.ofNat j)), .val (.int (Int32.ofNat n)), .unset] [(.int (Int32.ofNat j)), (.int (Int32.ofNat i))])) (fun _ kt => XS.iloadN X225.here hx rfl (hb hby d_jdk_42_method_92_code_6) rfl  kt) ?_
  refine Rch.of (T' := T225) (g' := (mkF m 8 #[.val (.ref a1), .val (.int (Int32.ofNat i)), .val (.int (Int32.ofNat j)), .val (.int (Int32.ofNat n)), .unset] [(.int (Int32.ofNat n)), (.int (Int32.ofNat j)), (.int (Int32.ofNat i))])) (fun _ kt => XS.iloadN X225.here hx rfl (hb hby d_jdk_42_method_92_code_7) rfl  kt) ?_
  have pr227 : i ≤ j := by omega
  have pr228 : j ≤ n := by omega
  have pr229 : n ≤ 5 := by omega
  obtain ⟨_, _, ⟨T226, L226, k226, n226⟩, -, X226, ⟨Lc226, hQ226, l226, y226, z226⟩, st226⟩ := Jvm.LawKit.callS X225 hx (y := (⟨"java/lang/String", "checkBoundsBeginEnd", "(III)V"⟩ : MethodName)) hown (mvT hZ (hw _ (List.mem_of_getElem? (i := 80) rfl))) (mvT hZ (hw _ (List.mem_of_getElem? (i := 81) rfl))) (mvT hZ (hw _ (List.mem_of_getElem? (i := 10) rfl))) (mvT hZ (hw _ (List.mem_of_getElem? (i := 82) rfl))) (by decide) (backOf (W := 0) (rqFB l Z a0 hw [] i j n sv h0 n0 Z0 pr227 pr228 pr229 SI hsv) hZ (hw _ (List.mem_of_getElem? (i := 82) rfl)) (hw _ (List.mem_of_getElem? (i := 10) rfl)) (by decide) (by decide)) (g := (mkF m 8 #[.val (.ref a1), .val (.int (Int32.ofNat i)), .val (.int (Int32.ofNat j)), .val (.int (Int32.ofNat n)), .unset] [(.int (Int32.ofNat n)), (.int (Int32.ofNat j)), (.int (Int32.ofNat i))])) rfl (by rw [hml]; rfl) (argsL := [(.int (Int32.ofNat i)), (.int (Int32.ofNat j)), (.int (Int32.ofNat n))]) (rest := []) (lenOf pd_15 rfl) rfl (by show 2 * 0 + _ ≤ _; exact Nat.le_of_eq rfl) (hb hby d_jdk_42_method_92_code_8) (fun _ _ => ⟨rfl, hQ225, (by decide : 0 + 0 ≤ _), (by decide : 0 + 0 ≤ _)⟩)
  dsimp only [Pt.U, Pt.locs, Pt.cells, Pt.slots] at X226 l226 y226 z226 st226 hQ226
  subst l226 y226 z226
  obtain ⟨rfl, N226q, hQ226⟩ := hQ226
  have N226 := Fr.app N225 N226q
  refine Rch.of (T' := T226) (g' := (mkF m 11 #[.val (.ref a1), .val (.int (Int32.ofNat i)), .val (.int (Int32.ofNat j)), .val (.int (Int32.ofNat n)), .unset] [])) st226 ?_
  refine Rch.of (T' := T226) (g' := (mkF m 12 #[.val (.ref a1), .val (.int (Int32.ofNat i)), .val (.int (Int32.ofNat j)), .val (.int (Int32.ofNat n)), .unset] [(.int (Int32.ofNat i))])) (fun _ kt => XS.iloadN X226.here hx rfl (hb hby d_jdk_42_method_92_code_11) rfl  kt) ?_
  by_cases c230 : (Int32.ofNat i) = (0 : Int32)
  · skip
    refine Rch.of (T' := T226) (g' := (mkF m 15 #[.val (.ref a1), .val (.int (Int32.ofNat i)), .val (.int (Int32.ofNat j)), .val (.int (Int32.ofNat n)), .unset] [])) (fun _ kt => XS.ifNo X226.here hx rfl (hb hby d_jdk_42_method_92_code_12) rfl ((if0 _ _).trans (teq c230).2) kt) ?_
    have hz1 : i = 0 := (own_neN (j := 0) (by omega) (by decide)).mp c230
    refine Rch.of (T' := T226) (g' := (mkF m 16 #[.val (.ref a1), .val (.int (Int32.ofNat i)), .val (.int (Int32.ofNat j)), .val (.int (Int32.ofNat n)), .unset] [(.int (Int32.ofNat j))])) (fun _ kt => XS.iloadN X226.here hx rfl (hb hby d_jdk_42_method_92_code_15) rfl  kt) ?_
    refine Rch.of (T' := T226) (g' := (mkF m 17 #[.val (.ref a1), .val (.int (Int32.ofNat i)), .val (.int (Int32.ofNat j)), .val (.int (Int32.ofNat n)), .unset] [(.int (Int32.ofNat n)), (.int (Int32.ofNat j))])) (fun _ kt => XS.iloadN X226.here hx rfl (hb hby d_jdk_42_method_92_code_16) rfl  kt) ?_
    by_cases c231 : (Int32.ofNat j) = (Int32.ofNat n)
    · skip
      refine Rch.of (T' := T226) (g' := (mkF m 20 #[.val (.ref a1), .val (.int (Int32.ofNat i)), .val (.int (Int32.ofNat j)), .val (.int (Int32.ofNat n)), .unset] [])) (fun _ kt => XS.icmpNo X226.here hx rfl (hb hby d_jdk_42_method_92_code_17) rfl (teq c231).2 kt) ?_
      have hw1 : j = n := (own_neN (by omega) (by omega)).mp c231
      refine Rch.of (T' := T226) (g' := (mkF m 21 #[.val (.ref a1), .val (.int (Int32.ofNat i)), .val (.int (Int32.ofNat j)), .val (.int (Int32.ofNat n)), .unset] [(.ref a1)])) (fun _ kt => XS.aloadN X226.here hx rfl (hb hby d_jdk_42_method_92_code_20) rfl rfl kt) ?_
      exact Rch.retA X226 hx (w := (.ref a1)) hret rfl rfl hlk (hb hby d_jdk_42_method_92_code_21) (fun U hU hF => hK _ U _ _ _ (by show Q_rqS2 Z a1 b1 n y i j cs sv h0 n0 _ U.heap _; rw [hU, hQ226]; exact ⟨a1, b1, y, rfl, N226, (Keep.refl h0 []), E1, F1, F2, (by rw [show j - i = n by omega]; exact V1), fun q _ => by rw [hz1, Nat.zero_add]⟩) (own_endH hZ hEL R0 (hU.trans hQ226) hF) (own_end hS0 (by rw [hU, hQ226]; exact hk0) hF) (by decide) (by decide))
    · skip
      refine Rch.of (T' := T226) (g' := (mkF m 22 #[.val (.ref a1), .val (.int (Int32.ofNat i)), .val (.int (Int32.ofNat j)), .val (.int (Int32.ofNat n)), .unset] [])) (fun _ kt => XS.icmpYes X226.here hx rfl (pc0 := 17) (pc' := 22) rfl (hb hby d_jdk_42_method_92_code_17) rfl (feq c231).2 (by decide) (by decide) kt) ?_
      have hw0 : ¬ j = n := fun q => c231 (by rw [q])
      refine Rch.of (T' := T226) (g' := (mkF m 23 #[.val (.ref a1), .val (.int (Int32.ofNat i)), .val (.int (Int32.ofNat j)), .val (.int (Int32.ofNat n)), .unset] [(.int (Int32.ofNat j))])) (fun _ kt => XS.iloadN X226.here hx rfl (hb hby d_jdk_42_method_92_code_22) rfl  kt) ?_
      refine Rch.of (T' := T226) (g' := (mkF m 24 #[.val (.ref a1), .val (.int (Int32.ofNat i)), .val (.int (Int32.ofNat j)), .val (.int (Int32.ofNat n)), .unset] [(.int (Int32.ofNat i)), (.int (Int32.ofNat j))])) (fun _ kt => XS.iloadN X226.here hx rfl (hb hby d_jdk_42_method_92_code_23) rfl  kt) ?_
      refine Rch.of (T' := T226) (g' := (mkF m 25 #[.val (.ref a1), .val (.int (Int32.ofNat i)), .val (.int (Int32.ofNat j)), .val (.int (Int32.ofNat n)), .unset] [(.int ((Int32.ofNat j) - (Int32.ofNat i)))])) (fun _ kt => XS.isub X226.here hx rfl (hb hby d_jdk_42_method_92_code_24) rfl kt) ?_
      have sw232 : ((Int32.ofNat j) - (Int32.ofNat i)) = (Int32.ofNat (j - i)) := own_subN hij
      rw [sw232]
      show Rch p e below K T226 (mkF m 25 #[.val (.ref a1), .val (.int (Int32.ofNat i)), .val (.int (Int32.ofNat j)), .val (.int (Int32.ofNat n)), .unset] [(.int (Int32.ofNat (j - i)))])
      refine Rch.of (T' := T226) (g' := (mkF m 27 #[.val (.ref a1), .val (.int (Int32.ofNat i)), .val (.int (Int32.ofNat j)), .val (.int (Int32.ofNat n)), .val (.int (Int32.ofNat (j - i)))] [])) (fun _ kt => XS.istore X226.here hx rfl (hb hby d_jdk_42_method_92_code_25) rfl (l' := #[.val (.ref a1), .val (.int (Int32.ofNat i)), .val (.int (Int32.ofNat j)), .val (.int (Int32.ofNat n)), .val (.int (Int32.ofNat (j - i)))]) rfl kt) ?_
      refine Rch.of (T' := T226) (g' := (mkF m 28 #[.val (.ref a1), .val (.int (Int32.ofNat i)), .val (.int (Int32.ofNat j)), .val (.int (Int32.ofNat n)), .val (.int (Int32.ofNat (j - i)))] [(.ref a1)])) (fun _ kt => XS.aloadN X226.here hx rfl (hb hby d_jdk_42_method_92_code_27) rfl rfl kt) ?_
      obtain ⟨cq233, kq233, q233a, q233b, q233c⟩ := isOf hZ hQ226 E1
      obtain ⟨_, _, ⟨T233, L233, k233, n233⟩, -, X233, ⟨Lc233, hQ233, l233, y233, z233⟩, st233⟩ := X226.virtualBack hx (y := (⟨"java/lang/String", "isLatin1", "()Z"⟩ : MethodName)) (z := (⟨"java/lang/String", "isLatin1", "()Z"⟩ : MethodName)) hown (mvT hZ (hw _ (List.mem_of_getElem? (i := 54) rfl))) (mvT hZ (hw _ (List.mem_of_getElem? (i := 55) rfl))) (notFace_of_selects (args := #[]) (mvT hZ (hw _ (List.mem_of_getElem? (i := 57) rfl)))) (mvT hZ (hw _ (List.mem_of_getElem? (i := 57) rfl))) (mvT hZ (hw _ (List.mem_of_getElem? (i := 56) rfl))) (by decide) (backOf (W := 0) (rqLT l Z a0 hw [] a1 cs h0 n0 Z0 F1 SC hcs) hZ (hw _ (List.mem_of_getElem? (i := 58) rfl)) (hw _ (List.mem_of_getElem? (i := 10) rfl)) (by decide) (by decide)) q233a q233c (g := (mkF m 28 #[.val (.ref a1), .val (.int (Int32.ofNat i)), .val (.int (Int32.ofNat j)), .val (.int (Int32.ofNat n)), .val (.int (Int32.ofNat (j - i)))] [(.ref a1)])) rfl (by rw [hml]; rfl) (Steps.refl _) (argsL := []) (rest := []) (lenOf pd_10 rfl) rfl (by show 2 * 0 + _ ≤ _; exact Nat.le_of_eq rfl) (hb hby d_jdk_42_method_92_code_28) (fun _ _ => ⟨rfl, hQ226, (by decide : 0 + 0 ≤ _), (by decide : 0 + 0 ≤ _)⟩)
      dsimp only [Pt.U, Pt.locs, Pt.cells, Pt.slots] at X233 l233 y233 z233 st233 hQ233
      subst l233 y233 z233
      obtain ⟨rfl, N233q, hQ233⟩ := hQ233
      have N233 := Fr.app N226 N233q
      refine Rch.via (T' := T233) (g' := (mkF m 31 #[.val (.ref a1), .val (.int (Int32.ofNat i)), .val (.int (Int32.ofNat j)), .val (.int (Int32.ofNat n)), .val (.int (Int32.ofNat (j - i)))] [(.int (1 : Int32))])) st233 ?_
      refine Rch.of (T' := T233) (g' := (mkF m 34 #[.val (.ref a1), .val (.int (Int32.ofNat i)), .val (.int (Int32.ofNat j)), .val (.int (Int32.ofNat n)), .val (.int (Int32.ofNat (j - i)))] [])) (fun _ kt => XS.ifNo X233.here hx rfl (hb hby d_jdk_42_method_92_code_31) rfl ((if0 _ _).trans (feq ((by decide) : ¬ ((1 : Int32) = (0 : Int32)))).1) kt) ?_
      refine Rch.of (T' := T233) (g' := (mkF m 35 #[.val (.ref a1), .val (.int (Int32.ofNat i)), .val (.int (Int32.ofNat j)), .val (.int (Int32.ofNat n)), .val (.int (Int32.ofNat (j - i)))] [(.ref a1)])) (fun _ kt => XS.aloadN X233.here hx rfl (hb hby d_jdk_42_method_92_code_34) rfl rfl kt) ?_
      obtain ⟨T234, X234, e234, st234⟩ := getF X233 hx hZ hown (host := "") (Or.inl (hw _ (List.mem_of_getElem? (i := 27) rfl))) Via.refl hQ233 F2 (g := (mkF m 35 #[.val (.ref a1), .val (.int (Int32.ofNat i)), .val (.int (Int32.ofNat j)), .val (.int (Int32.ofNat n)), .val (.int (Int32.ofNat (j - i)))] [(.ref a1)])) rfl rfl (hb hby d_jdk_42_method_92_code_35)
      refine Rch.of (T' := T234) (g' := (mkF m 38 #[.val (.ref a1), .val (.int (Int32.ofNat i)), .val (.int (Int32.ofNat j)), .val (.int (Int32.ofNat n)), .val (.int (Int32.ofNat (j - i)))] [(.ref b1)])) st234 ?_
      refine Rch.of (T' := T234) (g' := (mkF m 39 #[.val (.ref a1), .val (.int (Int32.ofNat i)), .val (.int (Int32.ofNat j)), .val (.int (Int32.ofNat n)), .val (.int (Int32.ofNat (j - i)))] [(.int (Int32.ofNat i)), (.ref b1)])) (fun _ kt => XS.iloadN X234.here hx rfl (hb hby d_jdk_42_method_92_code_38) rfl  kt) ?_
      refine Rch.of (T' := T234) (g' := (mkF m 41 #[.val (.ref a1), .val (.int (Int32.ofNat i)), .val (.int (Int32.ofNat j)), .val (.int (Int32.ofNat n)), .val (.int (Int32.ofNat (j - i)))] [(.int (Int32.ofNat (j - i))), (.int (Int32.ofNat i)), (.ref b1)])) (fun _ kt => XS.iload X234.here hx rfl (hb hby d_jdk_42_method_92_code_39) rfl  kt) ?_
      have pr236 : i + (j - i) ≤ n := by omega
      have pr237 : n ≤ 5 := by omega
      have pr238 : ¬ ((j - i) ≠ 0 ∧ i = 0 ∧ i + (j - i) = n) := by omega
      obtain ⟨_, _, ⟨T235, L235, k235, n235⟩, -, X235, hT235, gr235, ⟨Lc235, hQ235, l235, y235, z235, cr235⟩, st235⟩ := callSS X234 hx (y := (⟨"java/lang/StringLatin1", "newString", "([BII)Ljava/lang/String;"⟩ : MethodName)) hown (mvT hZ (hw _ (List.mem_of_getElem? (i := 127) rfl))) (mvT hZ (hw _ (List.mem_of_getElem? (i := 128) rfl))) (mvT hZ (hw _ (List.mem_of_getElem? (i := 61) rfl))) (mvT hZ (hw _ (List.mem_of_getElem? (i := 129) rfl))) (by decide) (backOfSH (s := s) (vm0 := s.vm) (EL := consts_1) (W := 0) (rqNS l Z a0 hw [] b1 n y i (j - i) h0 n0 Z0 V1 pr236 pr237 pr238) hZ (hw _ (List.mem_of_getElem? (i := 129) rfl)) (hw _ (List.mem_of_getElem? (i := 61) rfl)) (by decide) (by decide) hEL R0.1) (g := (mkF m 41 #[.val (.ref a1), .val (.int (Int32.ofNat i)), .val (.int (Int32.ofNat j)), .val (.int (Int32.ofNat n)), .val (.int (Int32.ofNat (j - i)))] [(.int (Int32.ofNat (j - i))), (.int (Int32.ofNat i)), (.ref b1)])) rfl (by rw [hml]; rfl) (argsL := [(.ref b1), (.int (Int32.ofNat i)), (.int (Int32.ofNat (j - i)))]) (rest := []) (lenOf pd_24 rfl) rfl (by show 2 * 0 + _ ≤ _; exact Nat.le_of_eq rfl) (hb hby d_jdk_42_method_92_code_41) (fun _ _ => ⟨rfl, e234, (by decide : 0 + 2 ≤ _), (by decide : 0 + 9 ≤ _)⟩)
      dsimp only [Pt.U, Pt.locs, Pt.cells, Pt.slots] at X235 hT235 gr235 l235 y235 z235 st235 hQ235 cr235
      subst l235 y235 z235
      obtain ⟨X235, hS235, hZ, hown⟩ := rebS hS0 hk0 X235 hT235 (by rw [← e234]; exact gr235) hZ hown
      obtain ⟨rr235, rb235, rt235, rfl, N235q, hQ235⟩ := hQ235
      have N235 := Fr.app N233 N235q
      obtain ⟨K235, Ex235, Fa235, Fb235, V235, Eq235⟩ := hQ235
      refine Rch.via (T' := T235) (g' := (mkF m 44 #[.val (.ref a1), .val (.int (Int32.ofNat i)), .val (.int (Int32.ofNat j)), .val (.int (Int32.ofNat n)), .val (.int (Int32.ofNat (j - i)))] [(.ref rr235)])) st235 ?_
      refine Rch.of (T' := T235) (g' := (mkF m 57 #[.val (.ref a1), .val (.int (Int32.ofNat i)), .val (.int (Int32.ofNat j)), .val (.int (Int32.ofNat n)), .val (.int (Int32.ofNat (j - i)))] [(.ref rr235)])) (fun _ kt => XS.goto X235.here hx rfl (pc0 := 44) (pc' := 57) rfl (hb hby d_jdk_42_method_92_code_44) (by decide) (by decide) kt) ?_
      exact Rch.retA X235 hx (w := (.ref rr235)) hret rfl rfl hlk (hb hby d_jdk_42_method_92_code_57) (fun U hU hF => hK _ U _ _ _ (by show Q_rqS2 Z a1 b1 n y i j cs sv h0 n0 _ U.heap _; rw [hU]; exact ⟨rr235, rb235, rt235, rfl, N235, ((Keep.refl h0 []).trans K235 all0), Ex235, Fa235, Fb235, V235, Eq235⟩) (own_endH hZ hEL (R0.trans cr235) hU hF) (own_end hS235 (by rw [hU]; exact (Nat.le_refl _)) hF) (by decide) (by decide))
  · skip
    refine Rch.of (T' := T226) (g' := (mkF m 22 #[.val (.ref a1), .val (.int (Int32.ofNat i)), .val (.int (Int32.ofNat j)), .val (.int (Int32.ofNat n)), .unset] [])) (fun _ kt => XS.ifYes X226.here hx rfl (pc0 := 12) (pc' := 22) rfl (hb hby d_jdk_42_method_92_code_12) rfl ((if0 _ _).trans (feq c230).2) (by decide) (by decide) kt) ?_
    have hz0 : ¬ i = 0 := fun q => c230 (by rw [q]; rfl)
    refine Rch.of (T' := T226) (g' := (mkF m 23 #[.val (.ref a1), .val (.int (Int32.ofNat i)), .val (.int (Int32.ofNat j)), .val (.int (Int32.ofNat n)), .unset] [(.int (Int32.ofNat j))])) (fun _ kt => XS.iloadN X226.here hx rfl (hb hby d_jdk_42_method_92_code_22) rfl  kt) ?_
    refine Rch.of (T' := T226) (g' := (mkF m 24 #[.val (.ref a1), .val (.int (Int32.ofNat i)), .val (.int (Int32.ofNat j)), .val (.int (Int32.ofNat n)), .unset] [(.int (Int32.ofNat i)), (.int (Int32.ofNat j))])) (fun _ kt => XS.iloadN X226.here hx rfl (hb hby d_jdk_42_method_92_code_23) rfl  kt) ?_
    refine Rch.of (T' := T226) (g' := (mkF m 25 #[.val (.ref a1), .val (.int (Int32.ofNat i)), .val (.int (Int32.ofNat j)), .val (.int (Int32.ofNat n)), .unset] [(.int ((Int32.ofNat j) - (Int32.ofNat i)))])) (fun _ kt => XS.isub X226.here hx rfl (hb hby d_jdk_42_method_92_code_24) rfl kt) ?_
    have sw239 : ((Int32.ofNat j) - (Int32.ofNat i)) = (Int32.ofNat (j - i)) := own_subN hij
    rw [sw239]
    show Rch p e below K T226 (mkF m 25 #[.val (.ref a1), .val (.int (Int32.ofNat i)), .val (.int (Int32.ofNat j)), .val (.int (Int32.ofNat n)), .unset] [(.int (Int32.ofNat (j - i)))])
    refine Rch.of (T' := T226) (g' := (mkF m 27 #[.val (.ref a1), .val (.int (Int32.ofNat i)), .val (.int (Int32.ofNat j)), .val (.int (Int32.ofNat n)), .val (.int (Int32.ofNat (j - i)))] [])) (fun _ kt => XS.istore X226.here hx rfl (hb hby d_jdk_42_method_92_code_25) rfl (l' := #[.val (.ref a1), .val (.int (Int32.ofNat i)), .val (.int (Int32.ofNat j)), .val (.int (Int32.ofNat n)), .val (.int (Int32.ofNat (j - i)))]) rfl kt) ?_
    refine Rch.of (T' := T226) (g' := (mkF m 28 #[.val (.ref a1), .val (.int (Int32.ofNat i)), .val (.int (Int32.ofNat j)), .val (.int (Int32.ofNat n)), .val (.int (Int32.ofNat (j - i)))] [(.ref a1)])) (fun _ kt => XS.aloadN X226.here hx rfl (hb hby d_jdk_42_method_92_code_27) rfl rfl kt) ?_
    obtain ⟨cq240, kq240, q240a, q240b, q240c⟩ := isOf hZ hQ226 E1
    obtain ⟨_, _, ⟨T240, L240, k240, n240⟩, -, X240, ⟨Lc240, hQ240, l240, y240, z240⟩, st240⟩ := X226.virtualBack hx (y := (⟨"java/lang/String", "isLatin1", "()Z"⟩ : MethodName)) (z := (⟨"java/lang/String", "isLatin1", "()Z"⟩ : MethodName)) hown (mvT hZ (hw _ (List.mem_of_getElem? (i := 54) rfl))) (mvT hZ (hw _ (List.mem_of_getElem? (i := 55) rfl))) (notFace_of_selects (args := #[]) (mvT hZ (hw _ (List.mem_of_getElem? (i := 57) rfl)))) (mvT hZ (hw _ (List.mem_of_getElem? (i := 57) rfl))) (mvT hZ (hw _ (List.mem_of_getElem? (i := 56) rfl))) (by decide) (backOf (W := 0) (rqLT l Z a0 hw [] a1 cs h0 n0 Z0 F1 SC hcs) hZ (hw _ (List.mem_of_getElem? (i := 58) rfl)) (hw _ (List.mem_of_getElem? (i := 10) rfl)) (by decide) (by decide)) q240a q240c (g := (mkF m 28 #[.val (.ref a1), .val (.int (Int32.ofNat i)), .val (.int (Int32.ofNat j)), .val (.int (Int32.ofNat n)), .val (.int (Int32.ofNat (j - i)))] [(.ref a1)])) rfl (by rw [hml]; rfl) (Steps.refl _) (argsL := []) (rest := []) (lenOf pd_10 rfl) rfl (by show 2 * 0 + _ ≤ _; exact Nat.le_of_eq rfl) (hb hby d_jdk_42_method_92_code_28) (fun _ _ => ⟨rfl, hQ226, (by decide : 0 + 0 ≤ _), (by decide : 0 + 0 ≤ _)⟩)
    dsimp only [Pt.U, Pt.locs, Pt.cells, Pt.slots] at X240 l240 y240 z240 st240 hQ240
    subst l240 y240 z240
    obtain ⟨rfl, N240q, hQ240⟩ := hQ240
    have N240 := Fr.app N226 N240q
    refine Rch.via (T' := T240) (g' := (mkF m 31 #[.val (.ref a1), .val (.int (Int32.ofNat i)), .val (.int (Int32.ofNat j)), .val (.int (Int32.ofNat n)), .val (.int (Int32.ofNat (j - i)))] [(.int (1 : Int32))])) st240 ?_
    refine Rch.of (T' := T240) (g' := (mkF m 34 #[.val (.ref a1), .val (.int (Int32.ofNat i)), .val (.int (Int32.ofNat j)), .val (.int (Int32.ofNat n)), .val (.int (Int32.ofNat (j - i)))] [])) (fun _ kt => XS.ifNo X240.here hx rfl (hb hby d_jdk_42_method_92_code_31) rfl ((if0 _ _).trans (feq ((by decide) : ¬ ((1 : Int32) = (0 : Int32)))).1) kt) ?_
    refine Rch.of (T' := T240) (g' := (mkF m 35 #[.val (.ref a1), .val (.int (Int32.ofNat i)), .val (.int (Int32.ofNat j)), .val (.int (Int32.ofNat n)), .val (.int (Int32.ofNat (j - i)))] [(.ref a1)])) (fun _ kt => XS.aloadN X240.here hx rfl (hb hby d_jdk_42_method_92_code_34) rfl rfl kt) ?_
    obtain ⟨T241, X241, e241, st241⟩ := getF X240 hx hZ hown (host := "") (Or.inl (hw _ (List.mem_of_getElem? (i := 27) rfl))) Via.refl hQ240 F2 (g := (mkF m 35 #[.val (.ref a1), .val (.int (Int32.ofNat i)), .val (.int (Int32.ofNat j)), .val (.int (Int32.ofNat n)), .val (.int (Int32.ofNat (j - i)))] [(.ref a1)])) rfl rfl (hb hby d_jdk_42_method_92_code_35)
    refine Rch.of (T' := T241) (g' := (mkF m 38 #[.val (.ref a1), .val (.int (Int32.ofNat i)), .val (.int (Int32.ofNat j)), .val (.int (Int32.ofNat n)), .val (.int (Int32.ofNat (j - i)))] [(.ref b1)])) st241 ?_
    refine Rch.of (T' := T241) (g' := (mkF m 39 #[.val (.ref a1), .val (.int (Int32.ofNat i)), .val (.int (Int32.ofNat j)), .val (.int (Int32.ofNat n)), .val (.int (Int32.ofNat (j - i)))] [(.int (Int32.ofNat i)), (.ref b1)])) (fun _ kt => XS.iloadN X241.here hx rfl (hb hby d_jdk_42_method_92_code_38) rfl  kt) ?_
    refine Rch.of (T' := T241) (g' := (mkF m 41 #[.val (.ref a1), .val (.int (Int32.ofNat i)), .val (.int (Int32.ofNat j)), .val (.int (Int32.ofNat n)), .val (.int (Int32.ofNat (j - i)))] [(.int (Int32.ofNat (j - i))), (.int (Int32.ofNat i)), (.ref b1)])) (fun _ kt => XS.iload X241.here hx rfl (hb hby d_jdk_42_method_92_code_39) rfl  kt) ?_
    have pr243 : i + (j - i) ≤ n := by omega
    have pr244 : n ≤ 5 := by omega
    have pr245 : ¬ ((j - i) ≠ 0 ∧ i = 0 ∧ i + (j - i) = n) := by omega
    obtain ⟨_, _, ⟨T242, L242, k242, n242⟩, -, X242, hT242, gr242, ⟨Lc242, hQ242, l242, y242, z242, cr242⟩, st242⟩ := callSS X241 hx (y := (⟨"java/lang/StringLatin1", "newString", "([BII)Ljava/lang/String;"⟩ : MethodName)) hown (mvT hZ (hw _ (List.mem_of_getElem? (i := 127) rfl))) (mvT hZ (hw _ (List.mem_of_getElem? (i := 128) rfl))) (mvT hZ (hw _ (List.mem_of_getElem? (i := 61) rfl))) (mvT hZ (hw _ (List.mem_of_getElem? (i := 129) rfl))) (by decide) (backOfSH (s := s) (vm0 := s.vm) (EL := consts_1) (W := 0) (rqNS l Z a0 hw [] b1 n y i (j - i) h0 n0 Z0 V1 pr243 pr244 pr245) hZ (hw _ (List.mem_of_getElem? (i := 129) rfl)) (hw _ (List.mem_of_getElem? (i := 61) rfl)) (by decide) (by decide) hEL R0.1) (g := (mkF m 41 #[.val (.ref a1), .val (.int (Int32.ofNat i)), .val (.int (Int32.ofNat j)), .val (.int (Int32.ofNat n)), .val (.int (Int32.ofNat (j - i)))] [(.int (Int32.ofNat (j - i))), (.int (Int32.ofNat i)), (.ref b1)])) rfl (by rw [hml]; rfl) (argsL := [(.ref b1), (.int (Int32.ofNat i)), (.int (Int32.ofNat (j - i)))]) (rest := []) (lenOf pd_24 rfl) rfl (by show 2 * 0 + _ ≤ _; exact Nat.le_of_eq rfl) (hb hby d_jdk_42_method_92_code_41) (fun _ _ => ⟨rfl, e241, (by decide : 0 + 2 ≤ _), (by decide : 0 + 9 ≤ _)⟩)
    dsimp only [Pt.U, Pt.locs, Pt.cells, Pt.slots] at X242 hT242 gr242 l242 y242 z242 st242 hQ242 cr242
    subst l242 y242 z242
    obtain ⟨X242, hS242, hZ, hown⟩ := rebS hS0 hk0 X242 hT242 (by rw [← e241]; exact gr242) hZ hown
    obtain ⟨rr242, rb242, rt242, rfl, N242q, hQ242⟩ := hQ242
    have N242 := Fr.app N240 N242q
    obtain ⟨K242, Ex242, Fa242, Fb242, V242, Eq242⟩ := hQ242
    refine Rch.via (T' := T242) (g' := (mkF m 44 #[.val (.ref a1), .val (.int (Int32.ofNat i)), .val (.int (Int32.ofNat j)), .val (.int (Int32.ofNat n)), .val (.int (Int32.ofNat (j - i)))] [(.ref rr242)])) st242 ?_
    refine Rch.of (T' := T242) (g' := (mkF m 57 #[.val (.ref a1), .val (.int (Int32.ofNat i)), .val (.int (Int32.ofNat j)), .val (.int (Int32.ofNat n)), .val (.int (Int32.ofNat (j - i)))] [(.ref rr242)])) (fun _ kt => XS.goto X242.here hx rfl (pc0 := 44) (pc' := 57) rfl (hb hby d_jdk_42_method_92_code_44) (by decide) (by decide) kt) ?_
    exact Rch.retA X242 hx (w := (.ref rr242)) hret rfl rfl hlk (hb hby d_jdk_42_method_92_code_57) (fun U hU hF => hK _ U _ _ _ (by show Q_rqS2 Z a1 b1 n y i j cs sv h0 n0 _ U.heap _; rw [hU]; exact ⟨rr242, rb242, rt242, rfl, N242, ((Keep.refl h0 []).trans K242 all0), Ex242, Fa242, Fb242, V242, Eq242⟩) (own_endH hZ hEL (R0.trans cr242) hU hF) (own_end hS242 (by rw [hU]; exact (Nat.le_refl _)) hF) (by decide) (by decide))
theorem ef_rqS1 (m : MethodId) (a1 : Addr) : entryFrame m #[(.ref a1), (.int (Int32.ofNat i))] 2 = mkF m 0 #[.val (.ref a1), .val (.int (Int32.ofNat i))] [] := by first | (simp [entryFrame, mkF, argsToLocals, Value.category]; done) | rfl
def Q_rqS1 (Z : State) (a1 : Addr) (b1 : Addr) (n : Nat) (y : Nat → Int32) (i : Nat) (cs : Int32) (sv : Value) (h0 : Heap) (n0 : Nat) (vv_ : Option Value) (h : Heap) (LL_ : List Loc) : Prop := ∃ r : Addr, ∃ b : Addr, ∃ t : Nat → Int32, vv_ = some (.ref r) ∧ Fr n0 LL_ ∧ (Keep h0 h [] ∧ Exa Z h r "java/lang/String" ∧ Fld Z h r "java/lang/String" "coder" "B" (.int (0 : Int32)) ∧ Fld Z h r "java/lang/String" "value" "[B" (.ref b) ∧ Av Z h b .byte (n - i) (fun q => .int ((t q).toInt8.toInt32)) ∧ ∀ q, q < (n - i) → t q = y (i + q))
theorem d_jdk_42_method_91_code_0 : decode jdk_42_method_91_code 0 = .ok (.aload_n 0, 1) := by decide +kernel
theorem d_jdk_42_method_91_code_1 : decode jdk_42_method_91_code 1 = .ok (.iload_n 1, 1) := by decide +kernel
theorem d_jdk_42_method_91_code_2 : decode jdk_42_method_91_code 2 = .ok (.aload_n 0, 1) := by decide +kernel
theorem d_jdk_42_method_91_code_3 : decode jdk_42_method_91_code 3 = .ok (.invokevirtual 505, 3) := by decide +kernel
theorem d_jdk_42_method_91_code_6 : decode jdk_42_method_91_code 6 = .ok (.invokevirtual 681, 3) := by decide +kernel
theorem d_jdk_42_method_91_code_9 : decode jdk_42_method_91_code 9 = .ok (.areturn, 1) := by decide +kernel
set_option maxRecDepth 65536 in
set_option maxHeartbeats 40000000 in
theorem rqS1 (l : Launch) (Z : State) (a0 : Array Value) (hw : ∀ d ∈ tables_1, d.before a0 Z = true) (ws : List Jvm.Cond) (a1 : Addr) (b1 : Addr) (n : Nat) (y : Nat → Int32) (i : Nat) (cs : Int32) (sv : Value) (h0 : Heap) (n0 : Nat) (Z0 : n0 ≤ h0.size) (E1 : Exa Z h0 a1 "java/lang/String") (F1 : Fld Z h0 a1 "java/lang/String" "coder" "B" (.int (0 : Int32))) (F2 : Fld Z h0 a1 "java/lang/String" "value" "[B" (.ref b1)) (V1 : Av Z h0 b1 .byte n (fun q => .int ((y q).toInt8.toInt32))) (hin : i ≤ n) (hn : n ≤ 5) (SC : Sta Z h0 "java/lang/String" "COMPACT_STRINGS" "Z" (.int cs)) (hcs : ¬ cs = (0 : Int32)) (SI : Sta Z h0 "jdk/internal/util/Preconditions" "SIOOBE_FORMATTER" "Ljava/util/function/BiFunction;" sv) (hsv : sv.isRef = true) :
    MetFree l (⟨"java/lang/String", "substring", "(I)Ljava/lang/String;"⟩ : MethodName) (head1 (Jvm.Cond.code (⟨"java/lang/String", "substring", "(I)Ljava/lang/String;"⟩ : MethodName) jdk_42_method_91_code 2 (some (.object "java/lang/String")) :: ws) ({ frames := 5, cells := 2, slots := 9, locals := 80 } : Room)) (fun aa_ UU_ => aa_ = #[(.ref a1), (.int (Int32.ofNat i))] ∧ Z.Warmed39 UU_.vm ∧ UU_.heap = h0 ∧ CHv Z consts_1 UU_.vm h0) (fun _ _ _ _ _ => True) (fun _ UU_ oo_ VV_ => ∃ vv_ LL_, oo_ = .returned vv_ ∧ Q_rqS1 Z a1 b1 n y i cs sv h0 n0 vv_ VV_.heap LL_ ∧ CHr Z consts_1 UU_.vm UU_.heap VV_.vm VV_.heap ∧ ReturnedEndW UU_ oo_ VV_ LL_ ({ frames := 5, cells := 2, slots := 9, locals := 80 } : Room).cells ({ frames := 5, cells := 2, slots := 9, locals := 80 } : Room).slots) := by
  refine own_metH (y := (⟨"java/lang/String", "substring", "(I)Ljava/lang/String;"⟩ : MethodName)) (plainFor_of_name pn_1) ?_
  intro p e s m below meth c T0 K hx hby hml hret hlk hown hnm hZ X0 e0 C0 hK
  have N0 := Fr.nil n0
  have R0 := CHr.refl C0
  have hEL := own_EW hw
  have hS0 : s.Since s.vm 0 := (State.WarmedH.refl s).since 0
  have hk0 : 0 ≤ h0.size := Nat.zero_le _
  have wS : ∀ d ∈ Bundle.stringAtoms, d.before a0 Z = true := fun d hd => hw d ((by decide +kernel : ∀ d ∈ Bundle.stringAtoms, d ∈ tables_1) d hd)
  change Stand p l e ({ frames := 5, cells := 2, slots := 9, locals := 80 } : Room) (s.setVm s.vm) m #[(.ref a1), (.int (Int32.ofNat i))] below meth c T0 [] 0 0 at X0
  change Z.Warmed39 (s.setVm s.vm).vm at hZ
  change (s.setVm s.vm).vm.findClass _ = some m.cls at hown
  refine Rch.cast (ef_rqS1 m a1) ?_
  refine Rch.of (T' := T0) (g' := (mkF m 1 #[.val (.ref a1), .val (.int (Int32.ofNat i))] [(.ref a1)])) (fun _ kt => XS.aloadN X0.here hx rfl (hb hby d_jdk_42_method_91_code_0) rfl rfl kt) ?_
  refine Rch.of (T' := T0) (g' := (mkF m 2 #[.val (.ref a1), .val (.int (Int32.ofNat i))] [(.int (Int32.ofNat i)), (.ref a1)])) (fun _ kt => XS.iloadN X0.here hx rfl (hb hby d_jdk_42_method_91_code_1) rfl  kt) ?_
  refine Rch.of (T' := T0) (g' := (mkF m 3 #[.val (.ref a1), .val (.int (Int32.ofNat i))] [(.ref a1), (.int (Int32.ofNat i)), (.ref a1)])) (fun _ kt => XS.aloadN X0.here hx rfl (hb hby d_jdk_42_method_91_code_2) rfl rfl kt) ?_
  obtain ⟨cq246, kq246, q246a, q246b, q246c⟩ := isOf hZ e0 E1
  obtain ⟨_, _, ⟨T246, L246, k246, n246⟩, -, X246, ⟨Lc246, hQ246, l246, y246, z246⟩, st246⟩ := X0.virtualBack hx (y := (⟨"java/lang/String", "length", "()I"⟩ : MethodName)) (z := (⟨"java/lang/String", "length", "()I"⟩ : MethodName)) hown (mvT hZ (hw _ (List.mem_of_getElem? (i := 38) rfl))) (mvT hZ (hw _ (List.mem_of_getElem? (i := 39) rfl))) (notFace_of_selects (args := #[]) (mvT hZ (hw _ (List.mem_of_getElem? (i := 41) rfl)))) (mvT hZ (hw _ (List.mem_of_getElem? (i := 41) rfl))) (mvT hZ (hw _ (List.mem_of_getElem? (i := 40) rfl))) (by decide) (backOf (W := 2) (rqLE l Z a0 hw [] a1 b1 n y cs h0 n0 Z0 E1 F1 F2 V1 SC hcs) hZ (hw _ (List.mem_of_getElem? (i := 42) rfl)) (hw _ (List.mem_of_getElem? (i := 10) rfl)) (by decide) (by decide)) q246a q246c (g := (mkF m 3 #[.val (.ref a1), .val (.int (Int32.ofNat i))] [(.ref a1), (.int (Int32.ofNat i)), (.ref a1)])) rfl (by rw [hml]; rfl) (Steps.refl _) (argsL := []) (rest := [(.int (Int32.ofNat i)), (.ref a1)]) (lenOf pd_7 rfl) rfl (by show 2 * 0 + _ ≤ _; exact Nat.le_of_eq rfl) (hb hby d_jdk_42_method_91_code_3) (fun _ _ => ⟨rfl, e0, (by decide : 0 + 0 ≤ _), (by decide : 0 + 0 ≤ _)⟩)
  dsimp only [Pt.U, Pt.locs, Pt.cells, Pt.slots] at X246 l246 y246 z246 st246 hQ246
  subst l246 y246 z246
  obtain ⟨rfl, N246q, hQ246⟩ := hQ246
  have N246 := Fr.app N0 N246q
  refine Rch.via (T' := T246) (g' := (mkF m 6 #[.val (.ref a1), .val (.int (Int32.ofNat i))] [(.int (Int32.ofNat n)), (.int (Int32.ofNat i)), (.ref a1)])) st246 ?_
  have pr248 : i ≤ n := by omega
  have pr249 : n ≤ n := by omega
  have pr250 : n ≤ 5 := by omega
  obtain ⟨cq247, kq247, q247a, q247b, q247c⟩ := isOf hZ hQ246 E1
  obtain ⟨_, _, ⟨T247, L247, k247, n247⟩, -, X247, hT247, gr247, ⟨Lc247, hQ247, l247, y247, z247, cr247⟩, st247⟩ := X246.virtualBackS hx (y := (⟨"java/lang/String", "substring", "(II)Ljava/lang/String;"⟩ : MethodName)) (z := (⟨"java/lang/String", "substring", "(II)Ljava/lang/String;"⟩ : MethodName)) hown (mvT hZ (hw _ (List.mem_of_getElem? (i := 75) rfl))) (mvT hZ (hw _ (List.mem_of_getElem? (i := 76) rfl))) (notFace_of_selects (args := #[]) (mvT hZ (hw _ (List.mem_of_getElem? (i := 78) rfl)))) (mvT hZ (hw _ (List.mem_of_getElem? (i := 78) rfl))) (mvT hZ (hw _ (List.mem_of_getElem? (i := 77) rfl))) (by decide) (backOfSH (s := s) (vm0 := s.vm) (EL := consts_1) (W := 0) (rqS2 l Z a0 hw [] a1 b1 n y i n cs sv h0 n0 Z0 E1 F1 F2 V1 pr248 pr249 pr250 SC hcs SI hsv) hZ (hw _ (List.mem_of_getElem? (i := 79) rfl)) (hw _ (List.mem_of_getElem? (i := 10) rfl)) (by decide) (by decide) hEL R0.1) q247a q247c (g := (mkF m 6 #[.val (.ref a1), .val (.int (Int32.ofNat i))] [(.int (Int32.ofNat n)), (.int (Int32.ofNat i)), (.ref a1)])) rfl (by rw [hml]; rfl) (Steps.refl _) (argsL := [(.int (Int32.ofNat i)), (.int (Int32.ofNat n))]) (rest := []) (lenOf pd_14 rfl) rfl (by show 2 * 0 + _ ≤ _; exact Nat.le_of_eq rfl) (hb hby d_jdk_42_method_91_code_6) (fun _ _ => ⟨rfl, hQ246, (by decide : 0 + 2 ≤ _), (by decide : 0 + 9 ≤ _)⟩)
  dsimp only [Pt.U, Pt.locs, Pt.cells, Pt.slots] at X247 hT247 gr247 l247 y247 z247 st247 hQ247 cr247
  subst l247 y247 z247
  obtain ⟨X247, hS247, hZ, hown⟩ := rebS hS0 hk0 X247 hT247 (by rw [← hQ246]; exact gr247) hZ hown
  obtain ⟨rr247, rb247, rt247, rfl, N247q, hQ247⟩ := hQ247
  have N247 := Fr.app N246 N247q
  obtain ⟨K247, Ex247, Fa247, Fb247, V247, Eq247⟩ := hQ247
  refine Rch.via (T' := T247) (g' := (mkF m 9 #[.val (.ref a1), .val (.int (Int32.ofNat i))] [(.ref rr247)])) st247 ?_
  exact Rch.retA X247 hx (w := (.ref rr247)) hret rfl rfl hlk (hb hby d_jdk_42_method_91_code_9) (fun U hU hF => hK _ U _ _ _ (by show Q_rqS1 Z a1 b1 n y i cs sv h0 n0 _ U.heap _; rw [hU]; exact ⟨rr247, rb247, rt247, rfl, N247, ((Keep.refl h0 []).trans K247 all0), Ex247, Fa247, Fb247, V247, Eq247⟩) (own_endH hZ hEL (R0.trans cr247) hU hF) (own_end hS247 (by rw [hU]; exact (Nat.le_refl _)) hF) (by decide) (by decide))
theorem ef_rqN4 (m : MethodId) (a1 : Addr) (a2 : Addr) : entryFrame m #[(.ref a1), (.ref a2), (.int (0 : Int32)), (.int (Int32.ofNat n)), .null] 6 = mkF m 0 #[.val (.ref a1), .val (.ref a2), .val (.int (0 : Int32)), .val (.int (Int32.ofNat n)), .val .null, .unset] [] := by first | (simp [entryFrame, mkF, argsToLocals, Value.category]; done) | rfl
def Q_rqN4 (Z : State) (a1 : Addr) (a2 : Addr) (n : Nat) (y : Nat → Int32) (u1 : Value) (cs : Int32) (h0 : Heap) (n0 : Nat) (vv_ : Option Value) (h : Heap) (LL_ : List Loc) : Prop := ∃ b : Addr, vv_ = none ∧ Fr n0 LL_ ∧ (Keep h0 h [a1] ∧ Exa Z h a1 "java/lang/String" ∧ Fld Z h a1 "java/lang/String" "coder" "B" (.int (0 : Int32)) ∧ Fld Z h a1 "java/lang/String" "value" "[B" (.ref b) ∧ Av Z h b .byte n (fun q => .int ((y q).toInt8.toInt32)))
theorem d_jdk_42_method_149_code_0 : decode jdk_42_method_149_code 0 = .ok (.aload_n 0, 1) := by decide +kernel
theorem d_jdk_42_method_149_code_1 : decode jdk_42_method_149_code 1 = .ok (.invokespecial 1, 3) := by decide +kernel
theorem d_jdk_42_method_149_code_4 : decode jdk_42_method_149_code 4 = .ok (.iload_n 3, 1) := by decide +kernel
theorem d_jdk_42_method_149_code_5 : decode jdk_42_method_149_code 5 = .ok (.ifCond .ne 22, 3) := by decide +kernel
theorem d_jdk_42_method_149_code_8 : decode jdk_42_method_149_code 8 = .ok (.aload_n 0, 1) := by decide +kernel
theorem d_jdk_42_method_149_code_9 : decode jdk_42_method_149_code 9 = .ok (.ldc 7, 2) := by decide +kernel
theorem d_jdk_42_method_149_code_11 : decode jdk_42_method_149_code 11 = .ok (.getfield 9, 3) := by decide +kernel
theorem d_jdk_42_method_149_code_14 : decode jdk_42_method_149_code 14 = .ok (.putfield 9, 3) := by decide +kernel
theorem d_jdk_42_method_149_code_17 : decode jdk_42_method_149_code 17 = .ok (.aload_n 0, 1) := by decide +kernel
theorem d_jdk_42_method_149_code_18 : decode jdk_42_method_149_code 18 = .ok (.ldc 7, 2) := by decide +kernel
theorem d_jdk_42_method_149_code_20 : decode jdk_42_method_149_code 20 = .ok (.getfield 15, 3) := by decide +kernel
theorem d_jdk_42_method_149_code_23 : decode jdk_42_method_149_code 23 = .ok (.putfield 15, 3) := by decide +kernel
theorem d_jdk_42_method_149_code_26 : decode jdk_42_method_149_code 26 = .ok (.return_, 1) := by decide +kernel
theorem d_jdk_42_method_149_code_27 : decode jdk_42_method_149_code 27 = .ok (.getstatic 38, 3) := by decide +kernel
theorem d_jdk_42_method_149_code_30 : decode jdk_42_method_149_code 30 = .ok (.ifCond .eq 28, 3) := by decide +kernel
theorem d_jdk_42_method_149_code_33 : decode jdk_42_method_149_code 33 = .ok (.aload_n 1, 1) := by decide +kernel
theorem d_jdk_42_method_149_code_34 : decode jdk_42_method_149_code 34 = .ok (.iload_n 2, 1) := by decide +kernel
theorem d_jdk_42_method_149_code_35 : decode jdk_42_method_149_code 35 = .ok (.iload_n 3, 1) := by decide +kernel
theorem d_jdk_42_method_149_code_36 : decode jdk_42_method_149_code 36 = .ok (.invokestatic 177, 3) := by decide +kernel
theorem d_jdk_42_method_149_code_39 : decode jdk_42_method_149_code 39 = .ok (.astore 5, 2) := by decide +kernel
theorem d_jdk_42_method_149_code_41 : decode jdk_42_method_149_code 41 = .ok (.aload_n 0, 1) := by decide +kernel
theorem d_jdk_42_method_149_code_42 : decode jdk_42_method_149_code 42 = .ok (.aload 5, 2) := by decide +kernel
theorem d_jdk_42_method_149_code_44 : decode jdk_42_method_149_code 44 = .ok (.iload_n 3, 1) := by decide +kernel
theorem d_jdk_42_method_149_code_45 : decode jdk_42_method_149_code 45 = .ok (.invokestatic 47, 3) := by decide +kernel
theorem d_jdk_42_method_149_code_48 : decode jdk_42_method_149_code 48 = .ok (.putfield 15, 3) := by decide +kernel
theorem d_jdk_42_method_149_code_51 : decode jdk_42_method_149_code 51 = .ok (.aload_n 0, 1) := by decide +kernel
theorem d_jdk_42_method_149_code_52 : decode jdk_42_method_149_code 52 = .ok (.aload 5, 2) := by decide +kernel
theorem d_jdk_42_method_149_code_54 : decode jdk_42_method_149_code 54 = .ok (.putfield 9, 3) := by decide +kernel
theorem d_jdk_42_method_149_code_57 : decode jdk_42_method_149_code 57 = .ok (.return_, 1) := by decide +kernel
set_option maxRecDepth 65536 in
set_option maxHeartbeats 40000000 in
theorem rqN4 (l : Launch) (Z : State) (a0 : Array Value) (hw : ∀ d ∈ tables_1, d.before a0 Z = true) (ws : List Jvm.Cond) (a1 : Addr) (a2 : Addr) (n : Nat) (y : Nat → Int32) (u1 : Value) (cs : Int32) (h0 : Heap) (n0 : Nat) (Z0 : n0 ≤ h0.size) (E1 : Exa Z h0 a1 "java/lang/String") (F1 : Fld Z h0 a1 "java/lang/String" "coder" "B" u1) (F2 : Fld Z h0 a1 "java/lang/String" "value" "[B" .null) (g1 : n0 ≤ a1) (V1 : Av Z h0 a2 .char n (fun q => .int (y q))) (SC : Sta Z h0 "java/lang/String" "COMPACT_STRINGS" "Z" (.int cs)) (hcs : ¬ cs = (0 : Int32)) (hn : n ≤ 5) (hy : own_ch n y) :
    MetFree l (⟨"java/lang/String", "<init>", "([CIILjava/lang/Void;)V"⟩ : MethodName) (head1 (Jvm.Cond.code (⟨"java/lang/String", "<init>", "([CIILjava/lang/Void;)V"⟩ : MethodName) jdk_42_method_149_code 6 none :: ws) ({ frames := 2, cells := 4, slots := 8, locals := 35 } : Room)) (fun aa_ UU_ => aa_ = #[(.ref a1), (.ref a2), (.int (0 : Int32)), (.int (Int32.ofNat n)), .null] ∧ Z.Warmed39 UU_.vm ∧ UU_.heap = h0 ∧ CHv Z consts_1 UU_.vm h0) (fun _ _ _ _ _ => True) (fun _ UU_ oo_ VV_ => ∃ vv_ LL_, oo_ = .returned vv_ ∧ Q_rqN4 Z a1 a2 n y u1 cs h0 n0 vv_ VV_.heap LL_ ∧ CHr Z consts_1 UU_.vm UU_.heap VV_.vm VV_.heap ∧ ReturnedEndW UU_ oo_ VV_ LL_ ({ frames := 2, cells := 4, slots := 8, locals := 35 } : Room).cells ({ frames := 2, cells := 4, slots := 8, locals := 35 } : Room).slots) := by
  refine own_metH (y := (⟨"java/lang/String", "<init>", "([CIILjava/lang/Void;)V"⟩ : MethodName)) (plainFor_of_name pn_1) ?_
  intro p e s m below meth c T0 K hx hby hml hret hlk hown hnm hZ X0 e0 C0 hK
  have N0 := Fr.nil n0
  have R0 := CHr.refl C0
  have hEL := own_EW hw
  have hS0 : s.Since s.vm 0 := (State.WarmedH.refl s).since 0
  have hk0 : 0 ≤ h0.size := Nat.zero_le _
  have wS : ∀ d ∈ Bundle.stringAtoms, d.before a0 Z = true := fun d hd => hw d ((by decide +kernel : ∀ d ∈ Bundle.stringAtoms, d ∈ tables_1) d hd)
  change Stand p l e ({ frames := 2, cells := 4, slots := 8, locals := 35 } : Room) (s.setVm s.vm) m #[(.ref a1), (.ref a2), (.int (0 : Int32)), (.int (Int32.ofNat n)), .null] below meth c T0 [] 0 0 at X0
  change Z.Warmed39 (s.setVm s.vm).vm at hZ
  change (s.setVm s.vm).vm.findClass _ = some m.cls at hown
  refine Rch.cast (ef_rqN4 m a1 a2) ?_
  have Sf0 : Safe Z consts_1 s.vm h0 a1 := own_safeNull hZ.alike E1 F2
  refine Rch.of (T' := T0) (g' := (mkF m 1 #[.val (.ref a1), .val (.ref a2), .val (.int (0 : Int32)), .val (.int (Int32.ofNat n)), .val .null, .unset] [(.ref a1)])) (fun _ kt => XS.aloadN X0.here hx rfl (hb hby d_jdk_42_method_149_code_0) rfl rfl kt) ?_
  obtain ⟨T251, X251, e251, st251⟩ := initO X0 hx hZ hown (hw _ (List.mem_of_getElem? (i := 18) rfl)) (hw _ (List.mem_of_getElem? (i := 19) rfl)) (hw _ (List.mem_of_getElem? (i := 20) rfl)) e0 (g := (mkF m 1 #[.val (.ref a1), .val (.ref a2), .val (.int (0 : Int32)), .val (.int (Int32.ofNat n)), .val .null, .unset] [(.ref a1)])) rfl (by rw [hml]; rfl) rfl (hb hby d_jdk_42_method_149_code_1) (by decide) (W := 0) (by show 2 * 0 + _ ≤ _; exact Nat.le_of_eq rfl) (by decide)
  refine Rch.of (T' := T251) (g' := (mkF m 4 #[.val (.ref a1), .val (.ref a2), .val (.int (0 : Int32)), .val (.int (Int32.ofNat n)), .val .null, .unset] [])) st251 ?_
  refine Rch.of (T' := T251) (g' := (mkF m 5 #[.val (.ref a1), .val (.ref a2), .val (.int (0 : Int32)), .val (.int (Int32.ofNat n)), .val .null, .unset] [(.int (Int32.ofNat n))])) (fun _ kt => XS.iloadN X251.here hx rfl (hb hby d_jdk_42_method_149_code_4) rfl  kt) ?_
  by_cases c252 : (Int32.ofNat n) = (0 : Int32)
  · skip
    refine Rch.of (T' := T251) (g' := (mkF m 8 #[.val (.ref a1), .val (.ref a2), .val (.int (0 : Int32)), .val (.int (Int32.ofNat n)), .val .null, .unset] [])) (fun _ kt => XS.ifNo X251.here hx rfl (hb hby d_jdk_42_method_149_code_5) rfl ((if0 _ _).trans (teq c252).2) kt) ?_
    have hkz : n = 0 := (own_neN (j := 0) (by omega) (by decide)).mp c252
    refine Rch.of (T' := T251) (g' := (mkF m 9 #[.val (.ref a1), .val (.ref a2), .val (.int (0 : Int32)), .val (.int (Int32.ofNat n)), .val .null, .unset] [(.ref a1)])) (fun _ kt => XS.aloadN X251.here hx rfl (hb hby d_jdk_42_method_149_code_8) rfl rfl kt) ?_
    obtain ⟨s253, T253, h253, k253, sb253, kc253, X253, e253, E253, hS253, hk253, hZ, hown, Ex253, Fa253, Fb253, Ar253, la253, lb253, cr253, Lt253, sf253, st253⟩ := ldcCH (s := s) (vm0 := s.vm) X251 hx hZ hown (hw _ (List.mem_of_getElem? (i := 21) rfl)) wS e251 hS0 hk0 hEL (List.mem_of_getElem? (i := 0) rfl) R0.1 (z := (0 : Int32)) own_t0_ok.1 (by decide) (by decide) (g := (mkF m 9 #[.val (.ref a1), .val (.ref a2), .val (.int (0 : Int32)), .val (.int (Int32.ofNat n)), .val .null, .unset] [(.ref a1)])) rfl (hb hby d_jdk_42_method_149_code_9) (n := 0) (by decide) (by decide) (by decide) (by decide)
    have V253 : Av Z h253 sb253 .byte 0 (fun q => .int ((own_t0 q).toInt8.toInt32)) := (Arv.av Ar253 (by decide)).congr own_t0_ok.2
    have nl_a1_253 := sf253 a1 (CHr.safe cr253 E1.lt Sf0)
    refine Rch.of (T' := T253) (g' := (mkF m 11 #[.val (.ref a1), .val (.ref a2), .val (.int (0 : Int32)), .val (.int (Int32.ofNat n)), .val .null, .unset] [(.ref s253), (.ref a1)])) st253 ?_
    obtain ⟨T254, X254, e254, st254⟩ := getF X253 hx hZ hown (host := "") (Or.inl (hw _ (List.mem_of_getElem? (i := 27) rfl))) Via.refl e253 Fb253 (g := (mkF m 11 #[.val (.ref a1), .val (.ref a2), .val (.int (0 : Int32)), .val (.int (Int32.ofNat n)), .val .null, .unset] [(.ref s253), (.ref a1)])) rfl rfl (hb hby d_jdk_42_method_149_code_11)
    refine Rch.of (T' := T254) (g' := (mkF m 14 #[.val (.ref a1), .val (.ref a2), .val (.int (0 : Int32)), .val (.int (Int32.ofNat n)), .val .null, .unset] [(.ref sb253), (.ref a1)])) st254 ?_
    obtain ⟨T255, h255, X255, e255, W255, st255⟩ := putF X254 hx hZ hown (host := "") (Or.inl (hw _ (List.mem_of_getElem? (i := 27) rfl))) Via.refl e254 (F2.ext E253) (E1.ext E253) (Or.inr ⟨(hw _ (List.mem_of_getElem? (i := 23) rfl)), rfl, hnm⟩) (hw _ (List.mem_of_getElem? (i := 9) rfl)) (ty := (.array .byte)) (by decide) rfl rfl (g := (mkF m 14 #[.val (.ref a1), .val (.ref a2), .val (.int (0 : Int32)), .val (.int (Int32.ofNat n)), .val .null, .unset] [(.ref sb253), (.ref a1)])) rfl rfl (hb hby d_jdk_42_method_149_code_14)
    have N255 := Fr.snoc X255 N0 g1
    have Fw255 := Fld.same W255 (F2.ext E253)
    have Sf256 : Safe Z consts_1 T253.vm h253 a1 := (CHr.safe cr253 E1.lt Sf0)
    have Fb257 := ((F1.ext E253).other W255 (Or.inr (slot_ne (Or.inr (hw _ (List.mem_of_getElem? (i := 24) rfl))) (Or.inr (hw _ (List.mem_of_getElem? (i := 23) rfl))) (by decide) (t := .byte) (t' := (.array .byte)) (by decide) (by decide))))
    refine Rch.of (T' := T255) (g' := (mkF m 17 #[.val (.ref a1), .val (.ref a2), .val (.int (0 : Int32)), .val (.int (Int32.ofNat n)), .val .null, .unset] [])) st255 ?_
    refine Rch.of (T' := T255) (g' := (mkF m 18 #[.val (.ref a1), .val (.ref a2), .val (.int (0 : Int32)), .val (.int (Int32.ofNat n)), .val .null, .unset] [(.ref a1)])) (fun _ kt => XS.aloadN X255.here hx rfl (hb hby d_jdk_42_method_149_code_17) rfl rfl kt) ?_
    obtain ⟨s258, T258, h258, k258, sb258, kc258, X258, e258, E258, hS258, hk258, hZ, hown, Ex258, Fa258, Fb258, Ar258, la258, lb258, cr258, Lt258, sf258, st258⟩ := ldcCH (s := s) (vm0 := T253.vm) X255 hx hZ hown (hw _ (List.mem_of_getElem? (i := 21) rfl)) wS e255 hS253 (Nat.le_trans hk253 (Keep.of_wr W255).1) hEL (List.mem_of_getElem? (i := 0) rfl) ((R0.trans cr253).trans (CHr.wr W255 Sf256 (R0.trans cr253).1)).1 (z := (0 : Int32)) own_t0_ok.1 (by decide) (by decide) (g := (mkF m 18 #[.val (.ref a1), .val (.ref a2), .val (.int (0 : Int32)), .val (.int (Int32.ofNat n)), .val .null, .unset] [(.ref a1)])) rfl (hb hby d_jdk_42_method_149_code_18) (n := 0) (by decide) (by decide) (by decide) (by decide)
    have V258 : Av Z h258 sb258 .byte 0 (fun q => .int ((own_t0 q).toInt8.toInt32)) := (Arv.av Ar258 (by decide)).congr own_t0_ok.2
    have nl_a1_258 := sf258 a1 (CHr.safe cr258 ((E1.ext E253).wr W255).lt (Safe.wr W255 Sf256 (R0.trans cr253).1 Sf256))
    refine Rch.of (T' := T258) (g' := (mkF m 20 #[.val (.ref a1), .val (.ref a2), .val (.int (0 : Int32)), .val (.int (Int32.ofNat n)), .val .null, .unset] [(.ref s258), (.ref a1)])) st258 ?_
    obtain ⟨T259, X259, e259, st259⟩ := getF X258 hx hZ hown (host := "") (Or.inl (hw _ (List.mem_of_getElem? (i := 28) rfl))) Via.refl e258 Fa258 (g := (mkF m 20 #[.val (.ref a1), .val (.ref a2), .val (.int (0 : Int32)), .val (.int (Int32.ofNat n)), .val .null, .unset] [(.ref s258), (.ref a1)])) rfl rfl (hb hby d_jdk_42_method_149_code_20)
    refine Rch.of (T' := T259) (g' := (mkF m 23 #[.val (.ref a1), .val (.ref a2), .val (.int (0 : Int32)), .val (.int (Int32.ofNat n)), .val .null, .unset] [(.int (0 : Int32)), (.ref a1)])) st259 ?_
    obtain ⟨T260, h260, X260, e260, W260, st260⟩ := putFN X259 hx hZ hown (hw _ (List.mem_of_getElem? (i := 28) rfl)) Via.refl e259 (Fb257.ext E258) (((E1.ext E253).wr W255).ext E258) (Or.inr ⟨(hw _ (List.mem_of_getElem? (i := 24) rfl)), rfl, hnm⟩) (hw _ (List.mem_of_getElem? (i := 9) rfl)) (ty := .byte) (v' := (.int (nar .byte (0 : Int32)))) (by decide) rfl (fits_nar_byte _) (g := (mkF m 23 #[.val (.ref a1), .val (.ref a2), .val (.int (0 : Int32)), .val (.int (Int32.ofNat n)), .val .null, .unset] [(.int (0 : Int32)), (.ref a1)])) rfl rfl (hb hby d_jdk_42_method_149_code_23)
    have N260 := Fr.snoc X260 N255 g1
    have Fw260 := Fld.same W260 (Fb257.ext E258)
    have Sf261 : Safe Z consts_1 T258.vm h258 a1 := (CHr.safe cr258 ((E1.ext E253).wr W255).lt (Safe.wr W255 Sf256 (R0.trans cr253).1 Sf256))
    have Rb262 := ((((R0.trans cr253).trans (CHr.wr W255 Sf256 (R0.trans cr253).1)).trans cr258).trans (CHr.wr W260 Sf261 (((R0.trans cr253).trans (CHr.wr W255 Sf256 (R0.trans cr253).1)).trans cr258).1))
    have Fb263 := ((Fw255.ext E258).other W260 (Or.inr (slot_ne (Or.inr (hw _ (List.mem_of_getElem? (i := 23) rfl))) (Or.inr (hw _ (List.mem_of_getElem? (i := 24) rfl))) (by decide) (t := (.array .byte)) (t' := .byte) (by decide) (by decide))))
    refine Rch.of (T' := T260) (g' := (mkF m 26 #[.val (.ref a1), .val (.ref a2), .val (.int (0 : Int32)), .val (.int (Int32.ofNat n)), .val .null, .unset] [])) st260 ?_
    exact Rch.retV X260 hx hret hlk (hb hby d_jdk_42_method_149_code_26) (fun U hU hF => hK _ U _ _ _ (by show Q_rqN4 Z a1 a2 n y u1 cs h0 n0 _ U.heap _; rw [hU, e260]; exact ⟨sb253, rfl, N260, (((((Keep.refl h0 [a1]).ext E253).wr W255 (Or.inl (List.mem_of_getElem? (i := 0) rfl))).ext E258).wr W260 (Or.inl (List.mem_of_getElem? (i := 0) rfl))), ((((E1.ext E253).wr W255).ext E258).wr W260), Fw260, Fb263, (by rw [hkz]; exact Av.congr (((V253.other W255 (Ne.symm nl_a1_253.2)).ext E258).other W260 (Ne.symm nl_a1_253.2)) (fun j hj => absurd hj (Nat.not_lt_zero j)))⟩) (own_endH hZ hEL Rb262 (hU.trans e260) hF) (own_end hS258 (by rw [hU, e260]; exact (Nat.le_trans hk258 (Keep.of_wr W260).1)) hF) (by decide) (by decide))
  · skip
    refine Rch.of (T' := T251) (g' := (mkF m 27 #[.val (.ref a1), .val (.ref a2), .val (.int (0 : Int32)), .val (.int (Int32.ofNat n)), .val .null, .unset] [])) (fun _ kt => XS.ifYes X251.here hx rfl (pc0 := 5) (pc' := 27) rfl (hb hby d_jdk_42_method_149_code_5) rfl ((if0 _ _).trans (feq c252).2) (by decide) (by decide) kt) ?_
    have h1 : 1 ≤ n := Nat.one_le_iff_ne_zero.mpr (fun q => c252 (by rw [q]; rfl))
    obtain ⟨T264, X264, e264, st264⟩ := getS2 X251 hx hZ hown (host := "") (Or.inl (hw _ (List.mem_of_getElem? (i := 48) rfl))) Via.refl e251 SC (g := (mkF m 27 #[.val (.ref a1), .val (.ref a2), .val (.int (0 : Int32)), .val (.int (Int32.ofNat n)), .val .null, .unset] [])) rfl (hb hby d_jdk_42_method_149_code_27)
    refine Rch.of (T' := T264) (g' := (mkF m 30 #[.val (.ref a1), .val (.ref a2), .val (.int (0 : Int32)), .val (.int (Int32.ofNat n)), .val .null, .unset] [(.int cs)])) st264 ?_
    refine Rch.of (T' := T264) (g' := (mkF m 33 #[.val (.ref a1), .val (.ref a2), .val (.int (0 : Int32)), .val (.int (Int32.ofNat n)), .val .null, .unset] [])) (fun _ kt => XS.ifNo X264.here hx rfl (hb hby d_jdk_42_method_149_code_30) rfl ((if0 _ _).trans (feq hcs).1) kt) ?_
    refine Rch.of (T' := T264) (g' := (mkF m 34 #[.val (.ref a1), .val (.ref a2), .val (.int (0 : Int32)), .val (.int (Int32.ofNat n)), .val .null, .unset] [(.ref a2)])) (fun _ kt => XS.aloadN X264.here hx rfl (hb hby d_jdk_42_method_149_code_33) rfl rfl kt) ?_
    refine Rch.of (T' := T264) (g' := (mkF m 35 #[.val (.ref a1), .val (.ref a2), .val (.int (0 : Int32)), .val (.int (Int32.ofNat n)), .val .null, .unset] [(.int (0 : Int32)), (.ref a2)])) (fun _ kt => XS.iloadN X264.here hx rfl (hb hby d_jdk_42_method_149_code_34) rfl  kt) ?_
    refine Rch.of (T' := T264) (g' := (mkF m 36 #[.val (.ref a1), .val (.ref a2), .val (.int (0 : Int32)), .val (.int (Int32.ofNat n)), .val .null, .unset] [(.int (Int32.ofNat n)), (.int (0 : Int32)), (.ref a2)])) (fun _ kt => XS.iloadN X264.here hx rfl (hb hby d_jdk_42_method_149_code_35) rfl  kt) ?_
    obtain ⟨_, _, ⟨T265, L265, k265, n265⟩, -, X265, ⟨Lc265, hQ265, l265, y265, z265⟩, st265⟩ := Jvm.LawKit.callS X264 hx (y := (⟨"java/lang/StringUTF16", "compress", "([CII)[B"⟩ : MethodName)) hown (mvT hZ (hw _ (List.mem_of_getElem? (i := 117) rfl))) (mvT hZ (hw _ (List.mem_of_getElem? (i := 118) rfl))) (mvT hZ (hw _ (List.mem_of_getElem? (i := 119) rfl))) (mvT hZ (hw _ (List.mem_of_getElem? (i := 120) rfl))) (by decide) (backOf (W := 0) (rmC3 l Z a0 hw [] a2 n y h0 n0 Z0 V1 hn hy) hZ (hw _ (List.mem_of_getElem? (i := 120) rfl)) (hw _ (List.mem_of_getElem? (i := 119) rfl)) (by decide) (by decide)) (g := (mkF m 36 #[.val (.ref a1), .val (.ref a2), .val (.int (0 : Int32)), .val (.int (Int32.ofNat n)), .val .null, .unset] [(.int (Int32.ofNat n)), (.int (0 : Int32)), (.ref a2)])) rfl (by rw [hml]; rfl) (argsL := [(.ref a2), (.int (0 : Int32)), (.int (Int32.ofNat n))]) (rest := []) (lenOf pd_21 rfl) rfl (by show 2 * 0 + _ ≤ _; exact Nat.le_of_eq rfl) (hb hby d_jdk_42_method_149_code_36) (fun _ _ => ⟨rfl, e264, (by decide : 0 + 1 ≤ _), (by decide : 0 + 5 ≤ _)⟩)
    dsimp only [Pt.U, Pt.locs, Pt.cells, Pt.slots] at X265 l265 y265 z265 st265 hQ265
    subst l265 y265 z265
    obtain ⟨rfl, N265q, hQ265⟩ := hQ265
    have N265 := Fr.app N0 N265q
    obtain ⟨K265, V265⟩ := hQ265
    obtain ⟨b265, g265⟩ : ∃ zz_, zz_ = h0.size := ⟨_, rfl⟩
    have ne_a1_b265 : a1 ≠ b265 := Nat.ne_of_lt (Nat.lt_of_lt_of_le E1.lt (Nat.le_of_eq g265.symm))
    have ne_a2_b265 : a2 ≠ b265 := Nat.ne_of_lt (Nat.lt_of_lt_of_le V1.lt (Nat.le_of_eq g265.symm))
    have ge_b265 : n0 ≤ b265 := Nat.le_trans Z0 (Nat.le_of_eq g265.symm)
    have sz_b265 : h0.size ≤ b265 := Nat.le_trans (Keep.refl h0 [a1]).1 (Nat.le_of_eq g265.symm)
    rw [← g265] at V265 st265
    refine Rch.of (T' := T265) (g' := (mkF m 39 #[.val (.ref a1), .val (.ref a2), .val (.int (0 : Int32)), .val (.int (Int32.ofNat n)), .val .null, .unset] [(.ref b265)])) st265 ?_
    refine Rch.of (T' := T265) (g' := (mkF m 41 #[.val (.ref a1), .val (.ref a2), .val (.int (0 : Int32)), .val (.int (Int32.ofNat n)), .val .null, .val (.ref b265)] [])) (fun _ kt => XS.astore X265.here hx rfl (hb hby d_jdk_42_method_149_code_39) rfl rfl (l' := #[.val (.ref a1), .val (.ref a2), .val (.int (0 : Int32)), .val (.int (Int32.ofNat n)), .val .null, .val (.ref b265)]) rfl kt) ?_
    refine Rch.of (T' := T265) (g' := (mkF m 42 #[.val (.ref a1), .val (.ref a2), .val (.int (0 : Int32)), .val (.int (Int32.ofNat n)), .val .null, .val (.ref b265)] [(.ref a1)])) (fun _ kt => XS.aloadN X265.here hx rfl (hb hby d_jdk_42_method_149_code_41) rfl rfl kt) ?_
    refine Rch.of (T' := T265) (g' := (mkF m 44 #[.val (.ref a1), .val (.ref a2), .val (.int (0 : Int32)), .val (.int (Int32.ofNat n)), .val .null, .val (.ref b265)] [(.ref b265), (.ref a1)])) (fun _ kt => XS.aload X265.here hx rfl (hb hby d_jdk_42_method_149_code_42) rfl rfl kt) ?_
    refine Rch.of (T' := T265) (g' := (mkF m 45 #[.val (.ref a1), .val (.ref a2), .val (.int (0 : Int32)), .val (.int (Int32.ofNat n)), .val .null, .val (.ref b265)] [(.int (Int32.ofNat n)), (.ref b265), (.ref a1)])) (fun _ kt => XS.iloadN X265.here hx rfl (hb hby d_jdk_42_method_149_code_44) rfl  kt) ?_
    obtain ⟨_, _, ⟨T266, L266, k266, n266⟩, -, X266, ⟨Lc266, hQ266, l266, y266, z266⟩, st266⟩ := Jvm.LawKit.callS X265 hx (y := (⟨"java/lang/StringUTF16", "coderFromArrayLen", "([BI)B"⟩ : MethodName)) hown (mvT hZ (hw _ (List.mem_of_getElem? (i := 124) rfl))) (mvT hZ (hw _ (List.mem_of_getElem? (i := 125) rfl))) (mvT hZ (hw _ (List.mem_of_getElem? (i := 119) rfl))) (mvT hZ (hw _ (List.mem_of_getElem? (i := 126) rfl))) (by decide) (backOf (W := 1) (rmCL l Z a0 hw [] b265 n (fun q => (y q).toInt8.toInt32) T265.heap n0 (Nat.le_trans Z0 K265.1) V265) hZ (hw _ (List.mem_of_getElem? (i := 126) rfl)) (hw _ (List.mem_of_getElem? (i := 119) rfl)) (by decide) (by decide)) (g := (mkF m 45 #[.val (.ref a1), .val (.ref a2), .val (.int (0 : Int32)), .val (.int (Int32.ofNat n)), .val .null, .val (.ref b265)] [(.int (Int32.ofNat n)), (.ref b265), (.ref a1)])) rfl (by rw [hml]; rfl) (argsL := [(.ref b265), (.int (Int32.ofNat n))]) (rest := [(.ref a1)]) (lenOf pd_23 rfl) rfl (by show 2 * 0 + _ ≤ _; exact Nat.le_of_eq rfl) (hb hby d_jdk_42_method_149_code_45) (fun _ _ => ⟨rfl, rfl, (by decide : 1 + 0 ≤ _), (by decide : 5 + 0 ≤ _)⟩)
    dsimp only [Pt.U, Pt.locs, Pt.cells, Pt.slots] at X266 l266 y266 z266 st266 hQ266
    subst l266 y266 z266
    obtain ⟨rfl, N266q, hQ266⟩ := hQ266
    have N266 := Fr.app N265 N266q
    refine Rch.of (T' := T266) (g' := (mkF m 48 #[.val (.ref a1), .val (.ref a2), .val (.int (0 : Int32)), .val (.int (Int32.ofNat n)), .val .null, .val (.ref b265)] [(.int (0 : Int32)), (.ref a1)])) st266 ?_
    obtain ⟨T267, h267, X267, e267, W267, st267⟩ := putFN X266 hx hZ hown (hw _ (List.mem_of_getElem? (i := 28) rfl)) Via.refl hQ266 (F1.keep K265 nin0) (E1.keep K265) (Or.inr ⟨(hw _ (List.mem_of_getElem? (i := 24) rfl)), rfl, hnm⟩) (hw _ (List.mem_of_getElem? (i := 9) rfl)) (ty := .byte) (v' := (.int (nar .byte (0 : Int32)))) (by decide) rfl (fits_nar_byte _) (g := (mkF m 48 #[.val (.ref a1), .val (.ref a2), .val (.int (0 : Int32)), .val (.int (Int32.ofNat n)), .val .null, .val (.ref b265)] [(.int (0 : Int32)), (.ref a1)])) rfl rfl (hb hby d_jdk_42_method_149_code_48)
    have N267 := Fr.snoc X267 N266 g1
    have Fw267 := Fld.same W267 (F1.keep K265 nin0)
    have Sf268 : Safe Z consts_1 s.vm T265.heap a1 := (Safe.keep K265 all0 R0.1 Sf0)
    have Fb269 := ((F2.keep K265 nin0).other W267 (Or.inr (slot_ne (Or.inr (hw _ (List.mem_of_getElem? (i := 23) rfl))) (Or.inr (hw _ (List.mem_of_getElem? (i := 24) rfl))) (by decide) (t := (.array .byte)) (t' := .byte) (by decide) (by decide))))
    refine Rch.of (T' := T267) (g' := (mkF m 51 #[.val (.ref a1), .val (.ref a2), .val (.int (0 : Int32)), .val (.int (Int32.ofNat n)), .val .null, .val (.ref b265)] [])) st267 ?_
    refine Rch.of (T' := T267) (g' := (mkF m 52 #[.val (.ref a1), .val (.ref a2), .val (.int (0 : Int32)), .val (.int (Int32.ofNat n)), .val .null, .val (.ref b265)] [(.ref a1)])) (fun _ kt => XS.aloadN X267.here hx rfl (hb hby d_jdk_42_method_149_code_51) rfl rfl kt) ?_
    refine Rch.of (T' := T267) (g' := (mkF m 54 #[.val (.ref a1), .val (.ref a2), .val (.int (0 : Int32)), .val (.int (Int32.ofNat n)), .val .null, .val (.ref b265)] [(.ref b265), (.ref a1)])) (fun _ kt => XS.aload X267.here hx rfl (hb hby d_jdk_42_method_149_code_52) rfl rfl kt) ?_
    obtain ⟨T270, h270, X270, e270, W270, st270⟩ := putF X267 hx hZ hown (host := "") (Or.inl (hw _ (List.mem_of_getElem? (i := 27) rfl))) Via.refl e267 Fb269 ((E1.keep K265).wr W267) (Or.inr ⟨(hw _ (List.mem_of_getElem? (i := 23) rfl)), rfl, hnm⟩) (hw _ (List.mem_of_getElem? (i := 9) rfl)) (ty := (.array .byte)) (by decide) rfl rfl (g := (mkF m 54 #[.val (.ref a1), .val (.ref a2), .val (.int (0 : Int32)), .val (.int (Int32.ofNat n)), .val .null, .val (.ref b265)] [(.ref b265), (.ref a1)])) rfl rfl (hb hby d_jdk_42_method_149_code_54)
    have N270 := Fr.snoc X270 N267 g1
    have Fw270 := Fld.same W270 Fb269
    have Sf271 : Safe Z consts_1 s.vm h267 a1 := (Safe.wr W267 Sf268 (R0.trans (CHr.keep K265 all0 R0.1)).1 Sf268)
    have Rb272 := (((R0.trans (CHr.keep K265 all0 R0.1)).trans (CHr.wr W267 Sf268 (R0.trans (CHr.keep K265 all0 R0.1)).1)).trans (CHr.wr W270 Sf271 ((R0.trans (CHr.keep K265 all0 R0.1)).trans (CHr.wr W267 Sf268 (R0.trans (CHr.keep K265 all0 R0.1)).1)).1))
    have Fb273 := (Fw267.other W270 (Or.inr (slot_ne (Or.inr (hw _ (List.mem_of_getElem? (i := 24) rfl))) (Or.inr (hw _ (List.mem_of_getElem? (i := 23) rfl))) (by decide) (t := .byte) (t' := (.array .byte)) (by decide) (by decide))))
    refine Rch.of (T' := T270) (g' := (mkF m 57 #[.val (.ref a1), .val (.ref a2), .val (.int (0 : Int32)), .val (.int (Int32.ofNat n)), .val .null, .val (.ref b265)] [])) st270 ?_
    exact Rch.retV X270 hx hret hlk (hb hby d_jdk_42_method_149_code_57) (fun U hU hF => hK _ U _ _ _ (by show Q_rqN4 Z a1 a2 n y u1 cs h0 n0 _ U.heap _; rw [hU, e270]; exact ⟨b265, rfl, N270, ((((Keep.refl h0 [a1]).trans K265 all0).wr W267 (Or.inl (List.mem_of_getElem? (i := 0) rfl))).wr W270 (Or.inl (List.mem_of_getElem? (i := 0) rfl))), (((E1.keep K265).wr W267).wr W270), Fb273, Fw270, (((V265.other W267 (Ne.symm ne_a1_b265)).other W270 (Ne.symm ne_a1_b265)))⟩) (own_endH hZ hEL Rb272 (hU.trans e270) hF) (own_end hS0 (by rw [hU, e270]; exact (Nat.le_trans (Nat.le_trans (Nat.le_trans hk0 K265.1) (Keep.of_wr W267).1) (Keep.of_wr W270).1)) hF) (by decide) (by decide))
theorem ef_rqN1 (m : MethodId) (a1 : Addr) (a2 : Addr) : entryFrame m #[(.ref a1), (.ref a2)] 2 = mkF m 0 #[.val (.ref a1), .val (.ref a2)] [] := by first | (simp [entryFrame, mkF, argsToLocals, Value.category]; done) | rfl
def Q_rqN1 (Z : State) (a1 : Addr) (a2 : Addr) (n : Nat) (y : Nat → Int32) (u1 : Value) (cs : Int32) (h0 : Heap) (n0 : Nat) (vv_ : Option Value) (h : Heap) (LL_ : List Loc) : Prop := ∃ b : Addr, vv_ = none ∧ Fr n0 LL_ ∧ (Keep h0 h [a1] ∧ Exa Z h a1 "java/lang/String" ∧ Fld Z h a1 "java/lang/String" "coder" "B" (.int (0 : Int32)) ∧ Fld Z h a1 "java/lang/String" "value" "[B" (.ref b) ∧ Av Z h b .byte n (fun q => .int ((y q).toInt8.toInt32)))
theorem d_jdk_42_method_3_code_0 : decode jdk_42_method_3_code 0 = .ok (.aload_n 0, 1) := by decide +kernel
theorem d_jdk_42_method_3_code_1 : decode jdk_42_method_3_code 1 = .ok (.aload_n 1, 1) := by decide +kernel
theorem d_jdk_42_method_3_code_2 : decode jdk_42_method_3_code 2 = .ok (.iconst 0, 1) := by decide +kernel
theorem d_jdk_42_method_3_code_3 : decode jdk_42_method_3_code 3 = .ok (.aload_n 1, 1) := by decide +kernel
theorem d_jdk_42_method_3_code_4 : decode jdk_42_method_3_code 4 = .ok (.arraylength, 1) := by decide +kernel
theorem d_jdk_42_method_3_code_5 : decode jdk_42_method_3_code 5 = .ok (.aconst_null, 1) := by decide +kernel
theorem d_jdk_42_method_3_code_6 : decode jdk_42_method_3_code 6 = .ok (.invokespecial 27, 3) := by decide +kernel
theorem d_jdk_42_method_3_code_9 : decode jdk_42_method_3_code 9 = .ok (.return_, 1) := by decide +kernel
set_option maxRecDepth 65536 in
set_option maxHeartbeats 40000000 in
theorem rqN1 (l : Launch) (Z : State) (a0 : Array Value) (hw : ∀ d ∈ tables_1, d.before a0 Z = true) (ws : List Jvm.Cond) (a1 : Addr) (a2 : Addr) (n : Nat) (y : Nat → Int32) (u1 : Value) (cs : Int32) (h0 : Heap) (n0 : Nat) (Z0 : n0 ≤ h0.size) (E1 : Exa Z h0 a1 "java/lang/String") (F1 : Fld Z h0 a1 "java/lang/String" "coder" "B" u1) (F2 : Fld Z h0 a1 "java/lang/String" "value" "[B" .null) (g1 : n0 ≤ a1) (V1 : Av Z h0 a2 .char n (fun q => .int (y q))) (SC : Sta Z h0 "java/lang/String" "COMPACT_STRINGS" "Z" (.int cs)) (hcs : ¬ cs = (0 : Int32)) (hn : n ≤ 5) (hy : own_ch n y) :
    MetFree l (⟨"java/lang/String", "<init>", "([C)V"⟩ : MethodName) (head1 (Jvm.Cond.code (⟨"java/lang/String", "<init>", "([C)V"⟩ : MethodName) jdk_42_method_3_code 2 none :: ws) ({ frames := 3, cells := 4, slots := 8, locals := 52 } : Room)) (fun aa_ UU_ => aa_ = #[(.ref a1), (.ref a2)] ∧ Z.Warmed39 UU_.vm ∧ UU_.heap = h0 ∧ CHv Z consts_1 UU_.vm h0) (fun _ _ _ _ _ => True) (fun _ UU_ oo_ VV_ => ∃ vv_ LL_, oo_ = .returned vv_ ∧ Q_rqN1 Z a1 a2 n y u1 cs h0 n0 vv_ VV_.heap LL_ ∧ CHr Z consts_1 UU_.vm UU_.heap VV_.vm VV_.heap ∧ ReturnedEndW UU_ oo_ VV_ LL_ ({ frames := 3, cells := 4, slots := 8, locals := 52 } : Room).cells ({ frames := 3, cells := 4, slots := 8, locals := 52 } : Room).slots) := by
  refine own_metH (y := (⟨"java/lang/String", "<init>", "([C)V"⟩ : MethodName)) (plainFor_of_name pn_1) ?_
  intro p e s m below meth c T0 K hx hby hml hret hlk hown hnm hZ X0 e0 C0 hK
  have N0 := Fr.nil n0
  have R0 := CHr.refl C0
  have hEL := own_EW hw
  have hS0 : s.Since s.vm 0 := (State.WarmedH.refl s).since 0
  have hk0 : 0 ≤ h0.size := Nat.zero_le _
  have wS : ∀ d ∈ Bundle.stringAtoms, d.before a0 Z = true := fun d hd => hw d ((by decide +kernel : ∀ d ∈ Bundle.stringAtoms, d ∈ tables_1) d hd)
  change Stand p l e ({ frames := 3, cells := 4, slots := 8, locals := 52 } : Room) (s.setVm s.vm) m #[(.ref a1), (.ref a2)] below meth c T0 [] 0 0 at X0
  change Z.Warmed39 (s.setVm s.vm).vm at hZ
  change (s.setVm s.vm).vm.findClass _ = some m.cls at hown
  refine Rch.cast (ef_rqN1 m a1 a2) ?_
  refine Rch.of (T' := T0) (g' := (mkF m 1 #[.val (.ref a1), .val (.ref a2)] [(.ref a1)])) (fun _ kt => XS.aloadN X0.here hx rfl (hb hby d_jdk_42_method_3_code_0) rfl rfl kt) ?_
  refine Rch.of (T' := T0) (g' := (mkF m 2 #[.val (.ref a1), .val (.ref a2)] [(.ref a2), (.ref a1)])) (fun _ kt => XS.aloadN X0.here hx rfl (hb hby d_jdk_42_method_3_code_1) rfl rfl kt) ?_
  refine Rch.of (T' := T0) (g' := (mkF m 3 #[.val (.ref a1), .val (.ref a2)] [(.int (0 : Int32)), (.ref a2), (.ref a1)])) (fun _ kt => XS.iconst X0.here hx rfl (hb hby d_jdk_42_method_3_code_2) kt) ?_
  refine Rch.of (T' := T0) (g' := (mkF m 4 #[.val (.ref a1), .val (.ref a2)] [(.ref a2), (.int (0 : Int32)), (.ref a2), (.ref a1)])) (fun _ kt => XS.aloadN X0.here hx rfl (hb hby d_jdk_42_method_3_code_3) rfl rfl kt) ?_
  obtain ⟨cl274, Ar274, Sz274, Ha274⟩ := id V1
  refine Rch.of (T' := T0) (g' := (mkF m 5 #[.val (.ref a1), .val (.ref a2)] [(.int cl274.slots.size.toInt32), (.int (0 : Int32)), (.ref a2), (.ref a1)])) (X0.arraylength hx (by rw [e0]; exact Ar274.1) (State.isArrayOf_alike hZ.alike Ar274.2.1) (g := (mkF m 4 #[.val (.ref a1), .val (.ref a2)] [(.ref a2), (.int (0 : Int32)), (.ref a2), (.ref a1)])) rfl rfl (hb hby d_jdk_42_method_3_code_4)) ?_
  rw [oLen Sz274]
  show Rch p e below K T0 (mkF m 5 #[.val (.ref a1), .val (.ref a2)] [(.int (Int32.ofNat n)), (.int (0 : Int32)), (.ref a2), (.ref a1)])
  refine Rch.of (T' := T0) (g' := (mkF m 6 #[.val (.ref a1), .val (.ref a2)] [.null, (.int (Int32.ofNat n)), (.int (0 : Int32)), (.ref a2), (.ref a1)])) (fun _ kt => XS.aconstNull X0.here hx rfl (hb hby d_jdk_42_method_3_code_5) kt) ?_
  have pr276 : n ≤ 5 := by omega
  obtain ⟨_, _, ⟨T275, L275, k275, n275⟩, -, X275, hT275, gr275, ⟨Lc275, hQ275, l275, y275, z275, cr275⟩, st275⟩ := X0.specialBackS hx (y := (⟨"java/lang/String", "<init>", "([CIILjava/lang/Void;)V"⟩ : MethodName)) rfl hown (mvT hZ (hw _ (List.mem_of_getElem? (i := 14) rfl))) (mvT hZ (hw _ (List.mem_of_getElem? (i := 15) rfl))) (mvT hZ (hw _ (List.mem_of_getElem? (i := 17) rfl))) (by decide) (backOfSH (s := s) (vm0 := s.vm) (EL := consts_1) (W := 0) (rqN4 l Z a0 hw [] a1 a2 n y u1 cs h0 n0 Z0 E1 F1 F2 g1 V1 SC hcs pr276 hy) hZ (hw _ (List.mem_of_getElem? (i := 17) rfl)) (hw _ (List.mem_of_getElem? (i := 10) rfl)) (by decide) (by decide) hEL R0.1) (g := (mkF m 6 #[.val (.ref a1), .val (.ref a2)] [.null, (.int (Int32.ofNat n)), (.int (0 : Int32)), (.ref a2), (.ref a1)])) rfl (by rw [hml]; rfl) (Steps.refl _) (a := a1) (argsL := [(.ref a2), (.int (0 : Int32)), (.int (Int32.ofNat n)), .null]) (rest := []) (lenOf pd_3 rfl) rfl (by show 2 * 0 + _ ≤ _; exact Nat.le_of_eq rfl) (hb hby d_jdk_42_method_3_code_6) (fun _ _ => ⟨rfl, e0, (by decide : 0 + 4 ≤ _), (by decide : 0 + 8 ≤ _)⟩)
  dsimp only [Pt.U, Pt.locs, Pt.cells, Pt.slots] at X275 hT275 gr275 l275 y275 z275 st275 hQ275 cr275
  subst l275 y275 z275
  obtain ⟨X275, hS275, hZ, hown⟩ := rebS hS0 hk0 X275 hT275 (by rw [← e0]; exact gr275) hZ hown
  obtain ⟨rb275, rfl, N275q, hQ275⟩ := hQ275
  have N275 := Fr.app N0 N275q
  obtain ⟨K275, Ex275, Fa275, Fb275, V275⟩ := hQ275
  refine Rch.via (T' := T275) (g' := (mkF m 9 #[.val (.ref a1), .val (.ref a2)] [])) st275 ?_
  exact Rch.retV X275 hx hret hlk (hb hby d_jdk_42_method_3_code_9) (fun U hU hF => hK _ U _ _ _ (by show Q_rqN1 Z a1 a2 n y u1 cs h0 n0 _ U.heap _; rw [hU]; exact ⟨rb275, rfl, N275, ((Keep.refl h0 [a1]).trans K275 (allS (Or.inl (List.mem_of_getElem? (i := 0) rfl)) all0)), Ex275, Fa275, Fb275, V275⟩) (own_endH hZ hEL (R0.trans cr275) hU hF) (own_end hS275 (by rw [hU]; exact (Nat.le_refl _)) hF) (by decide) (by decide))
theorem pn_5 : plainName "com/example/isidore/isidore/rulesets/mwsdn/PathNamesNodePinLaw" = true := by first | (simp [plainName, overriddenIn]; done) | decide +kernel
theorem ef_rk1 (m : MethodId) (p1 : Int32) : entryFrame m #[(.int p1)] 2 = mkF m 0 #[.val (.int p1), .unset] [] := by first | (simp [entryFrame, mkF, argsToLocals, Value.category]; done) | rfl
def Q_rk1 (Z : State) (p1 : Int32) (h0 : Heap) (n0 : Nat) (vv_ : Option Value) (h : Heap) (LL_ : List Loc) : Prop := ∃ t : Int32, vv_ = some (.int t) ∧ Fr n0 LL_ ∧ (h = h0 ∧ own_c1 t)
theorem d_method_2_code_0 : decode method_2_code 0 = .ok (.iload_n 0, 1) := by decide +kernel
theorem d_method_2_code_1 : decode method_2_code 1 = .ok (.bipush 8, 2) := by decide +kernel
theorem d_method_2_code_3 : decode method_2_code 3 = .ok (.iushr, 1) := by decide +kernel
theorem d_method_2_code_4 : decode method_2_code 4 = .ok (.iconst 3, 1) := by decide +kernel
theorem d_method_2_code_5 : decode method_2_code 5 = .ok (.iand, 1) := by decide +kernel
theorem d_method_2_code_6 : decode method_2_code 6 = .ok (.istore_n 1, 1) := by decide +kernel
theorem d_method_2_code_7 : decode method_2_code 7 = .ok (.iload_n 1, 1) := by decide +kernel
theorem d_method_2_code_8 : decode method_2_code 8 = .ok (.ifCond .ne 6, 3) := by decide +kernel
theorem d_method_2_code_11 : decode method_2_code 11 = .ok (.bipush 47, 2) := by decide +kernel
theorem d_method_2_code_13 : decode method_2_code 13 = .ok (.ireturn, 1) := by decide +kernel
theorem d_method_2_code_14 : decode method_2_code 14 = .ok (.iload_n 1, 1) := by decide +kernel
theorem d_method_2_code_15 : decode method_2_code 15 = .ok (.iconst 1, 1) := by decide +kernel
theorem d_method_2_code_16 : decode method_2_code 16 = .ok (.if_icmp .ne 6, 3) := by decide +kernel
theorem d_method_2_code_19 : decode method_2_code 19 = .ok (.bipush 61, 2) := by decide +kernel
theorem d_method_2_code_21 : decode method_2_code 21 = .ok (.ireturn, 1) := by decide +kernel
theorem d_method_2_code_22 : decode method_2_code 22 = .ok (.iload_n 1, 1) := by decide +kernel
theorem d_method_2_code_23 : decode method_2_code 23 = .ok (.iconst 2, 1) := by decide +kernel
theorem d_method_2_code_24 : decode method_2_code 24 = .ok (.if_icmp .ne 6, 3) := by decide +kernel
theorem d_method_2_code_27 : decode method_2_code 27 = .ok (.bipush 58, 2) := by decide +kernel
theorem d_method_2_code_29 : decode method_2_code 29 = .ok (.ireturn, 1) := by decide +kernel
theorem d_method_2_code_30 : decode method_2_code 30 = .ok (.iload_n 0, 1) := by decide +kernel
theorem d_method_2_code_31 : decode method_2_code 31 = .ok (.sipush 255, 3) := by decide +kernel
theorem d_method_2_code_34 : decode method_2_code 34 = .ok (.iand, 1) := by decide +kernel
theorem d_method_2_code_35 : decode method_2_code 35 = .ok (.i2c, 1) := by decide +kernel
theorem d_method_2_code_36 : decode method_2_code 36 = .ok (.ireturn, 1) := by decide +kernel
set_option maxRecDepth 65536 in
set_option maxHeartbeats 40000000 in
theorem rk1 (l : Launch) (Z : State) (a0 : Array Value) (hw : ∀ d ∈ tables_1, d.before a0 Z = true) (ws : List Jvm.Cond) (p1 : Int32) (h0 : Heap) (n0 : Nat) (Z0 : n0 ≤ h0.size)  :
    MetFree l (⟨"com/example/isidore/isidore/rulesets/mwsdn/PathNamesNodePinLaw", "ch", "(I)C"⟩ : MethodName) (head1 (Jvm.Cond.code (⟨"com/example/isidore/isidore/rulesets/mwsdn/PathNamesNodePinLaw", "ch", "(I)C"⟩ : MethodName) method_2_code 2 (some .char) :: ws) ({ frames := 0, cells := 0, slots := 0, locals := 0 } : Room)) (fun aa_ UU_ => aa_ = #[(.int p1)] ∧ Z.Warmed39 UU_.vm ∧ UU_.heap = h0) (fun _ _ _ _ _ => True) (fun _ UU_ oo_ VV_ => ∃ vv_ LL_, oo_ = .returned vv_ ∧ Q_rk1 Z p1 h0 n0 vv_ VV_.heap LL_ ∧ FrameEnd UU_ oo_ VV_ LL_ ({ frames := 0, cells := 0, slots := 0, locals := 0 } : Room).cells ({ frames := 0, cells := 0, slots := 0, locals := 0 } : Room).slots) := by
  refine own_met (y := (⟨"com/example/isidore/isidore/rulesets/mwsdn/PathNamesNodePinLaw", "ch", "(I)C"⟩ : MethodName)) (plainFor_of_name pn_5) ?_
  intro p e s m below meth c T0 K hx hby hml hret hlk hown hnm hZ X0 e0 hK
  have N0 := Fr.nil n0
  refine Rch.cast (ef_rk1 m p1) ?_
  refine Rch.of (T' := T0) (g' := (mkF m 1 #[.val (.int p1), .unset] [(.int p1)])) (fun _ kt => XS.iloadN X0.here hx rfl (hb hby d_method_2_code_0) rfl  kt) ?_
  refine Rch.of (T' := T0) (g' := (mkF m 3 #[.val (.int p1), .unset] [(.int (8 : Int32)), (.int p1)])) (fun _ kt => XS.bipush X0.here hx rfl (hb hby d_method_2_code_1) kt) ?_
  refine Rch.of (T' := T0) (g' := (mkF m 4 #[.val (.int p1), .unset] [(.int ((p1.toUInt32 >>> ((8 : Int32) &&& 31).toUInt32).toInt32))])) (fun _ kt => XS.iushr X0.here hx rfl (hb hby d_method_2_code_3) rfl kt) ?_
  refine Rch.of (T' := T0) (g' := (mkF m 5 #[.val (.int p1), .unset] [(.int (3 : Int32)), (.int ((p1.toUInt32 >>> ((8 : Int32) &&& 31).toUInt32).toInt32))])) (fun _ kt => XS.iconst X0.here hx rfl (hb hby d_method_2_code_4) kt) ?_
  refine Rch.of (T' := T0) (g' := (mkF m 6 #[.val (.int p1), .unset] [(.int (((p1.toUInt32 >>> ((8 : Int32) &&& 31).toUInt32).toInt32) &&& (3 : Int32)))])) (fun _ kt => XS.iand X0.here hx rfl (hb hby d_method_2_code_5) rfl kt) ?_
  refine Rch.of (T' := T0) (g' := (mkF m 7 #[.val (.int p1), .val (.int (((p1.toUInt32 >>> ((8 : Int32) &&& 31).toUInt32).toInt32) &&& (3 : Int32)))] [])) (fun _ kt => XS.istoreN X0.here hx rfl (hb hby d_method_2_code_6) rfl (l' := #[.val (.int p1), .val (.int (((p1.toUInt32 >>> ((8 : Int32) &&& 31).toUInt32).toInt32) &&& (3 : Int32)))]) rfl kt) ?_
  refine Rch.of (T' := T0) (g' := (mkF m 8 #[.val (.int p1), .val (.int (((p1.toUInt32 >>> ((8 : Int32) &&& 31).toUInt32).toInt32) &&& (3 : Int32)))] [(.int (((p1.toUInt32 >>> ((8 : Int32) &&& 31).toUInt32).toInt32) &&& (3 : Int32)))])) (fun _ kt => XS.iloadN X0.here hx rfl (hb hby d_method_2_code_7) rfl  kt) ?_
  by_cases c277 : (((p1.toUInt32 >>> ((8 : Int32) &&& 31).toUInt32).toInt32) &&& (3 : Int32)) = (0 : Int32)
  · skip
    refine Rch.of (T' := T0) (g' := (mkF m 11 #[.val (.int p1), .val (.int (((p1.toUInt32 >>> ((8 : Int32) &&& 31).toUInt32).toInt32) &&& (3 : Int32)))] [])) (fun _ kt => XS.ifNo X0.here hx rfl (hb hby d_method_2_code_8) rfl ((if0 _ _).trans (teq c277).2) kt) ?_
    refine Rch.of (T' := T0) (g' := (mkF m 13 #[.val (.int p1), .val (.int (((p1.toUInt32 >>> ((8 : Int32) &&& 31).toUInt32).toInt32) &&& (3 : Int32)))] [(.int (47 : Int32))])) (fun _ kt => XS.bipush X0.here hx rfl (hb hby d_method_2_code_11) kt) ?_
    exact Rch.retN X0 hx (t := .char) hret (by simp) hlk (hb hby d_method_2_code_13) (fun U hU hF => hK _ U _ _ _ (by show Q_rk1 Z p1 h0 n0 _ U.heap _; rw [hU, e0]; exact ⟨(nar .char (47 : Int32)), rfl, N0, rfl, own_c47⟩) hF (by decide) (by decide))
  · skip
    refine Rch.of (T' := T0) (g' := (mkF m 14 #[.val (.int p1), .val (.int (((p1.toUInt32 >>> ((8 : Int32) &&& 31).toUInt32).toInt32) &&& (3 : Int32)))] [])) (fun _ kt => XS.ifYes X0.here hx rfl (pc0 := 8) (pc' := 14) rfl (hb hby d_method_2_code_8) rfl ((if0 _ _).trans (feq c277).2) (by decide) (by decide) kt) ?_
    refine Rch.of (T' := T0) (g' := (mkF m 15 #[.val (.int p1), .val (.int (((p1.toUInt32 >>> ((8 : Int32) &&& 31).toUInt32).toInt32) &&& (3 : Int32)))] [(.int (((p1.toUInt32 >>> ((8 : Int32) &&& 31).toUInt32).toInt32) &&& (3 : Int32)))])) (fun _ kt => XS.iloadN X0.here hx rfl (hb hby d_method_2_code_14) rfl  kt) ?_
    refine Rch.of (T' := T0) (g' := (mkF m 16 #[.val (.int p1), .val (.int (((p1.toUInt32 >>> ((8 : Int32) &&& 31).toUInt32).toInt32) &&& (3 : Int32)))] [(.int (1 : Int32)), (.int (((p1.toUInt32 >>> ((8 : Int32) &&& 31).toUInt32).toInt32) &&& (3 : Int32)))])) (fun _ kt => XS.iconst X0.here hx rfl (hb hby d_method_2_code_15) kt) ?_
    by_cases c278 : (((p1.toUInt32 >>> ((8 : Int32) &&& 31).toUInt32).toInt32) &&& (3 : Int32)) = (1 : Int32)
    · skip
      refine Rch.of (T' := T0) (g' := (mkF m 19 #[.val (.int p1), .val (.int (((p1.toUInt32 >>> ((8 : Int32) &&& 31).toUInt32).toInt32) &&& (3 : Int32)))] [])) (fun _ kt => XS.icmpNo X0.here hx rfl (hb hby d_method_2_code_16) rfl (teq c278).2 kt) ?_
      refine Rch.of (T' := T0) (g' := (mkF m 21 #[.val (.int p1), .val (.int (((p1.toUInt32 >>> ((8 : Int32) &&& 31).toUInt32).toInt32) &&& (3 : Int32)))] [(.int (61 : Int32))])) (fun _ kt => XS.bipush X0.here hx rfl (hb hby d_method_2_code_19) kt) ?_
      exact Rch.retN X0 hx (t := .char) hret (by simp) hlk (hb hby d_method_2_code_21) (fun U hU hF => hK _ U _ _ _ (by show Q_rk1 Z p1 h0 n0 _ U.heap _; rw [hU, e0]; exact ⟨(nar .char (61 : Int32)), rfl, N0, rfl, own_c61⟩) hF (by decide) (by decide))
    · skip
      refine Rch.of (T' := T0) (g' := (mkF m 22 #[.val (.int p1), .val (.int (((p1.toUInt32 >>> ((8 : Int32) &&& 31).toUInt32).toInt32) &&& (3 : Int32)))] [])) (fun _ kt => XS.icmpYes X0.here hx rfl (pc0 := 16) (pc' := 22) rfl (hb hby d_method_2_code_16) rfl (feq c278).2 (by decide) (by decide) kt) ?_
      refine Rch.of (T' := T0) (g' := (mkF m 23 #[.val (.int p1), .val (.int (((p1.toUInt32 >>> ((8 : Int32) &&& 31).toUInt32).toInt32) &&& (3 : Int32)))] [(.int (((p1.toUInt32 >>> ((8 : Int32) &&& 31).toUInt32).toInt32) &&& (3 : Int32)))])) (fun _ kt => XS.iloadN X0.here hx rfl (hb hby d_method_2_code_22) rfl  kt) ?_
      refine Rch.of (T' := T0) (g' := (mkF m 24 #[.val (.int p1), .val (.int (((p1.toUInt32 >>> ((8 : Int32) &&& 31).toUInt32).toInt32) &&& (3 : Int32)))] [(.int (2 : Int32)), (.int (((p1.toUInt32 >>> ((8 : Int32) &&& 31).toUInt32).toInt32) &&& (3 : Int32)))])) (fun _ kt => XS.iconst X0.here hx rfl (hb hby d_method_2_code_23) kt) ?_
      by_cases c279 : (((p1.toUInt32 >>> ((8 : Int32) &&& 31).toUInt32).toInt32) &&& (3 : Int32)) = (2 : Int32)
      · skip
        refine Rch.of (T' := T0) (g' := (mkF m 27 #[.val (.int p1), .val (.int (((p1.toUInt32 >>> ((8 : Int32) &&& 31).toUInt32).toInt32) &&& (3 : Int32)))] [])) (fun _ kt => XS.icmpNo X0.here hx rfl (hb hby d_method_2_code_24) rfl (teq c279).2 kt) ?_
        refine Rch.of (T' := T0) (g' := (mkF m 29 #[.val (.int p1), .val (.int (((p1.toUInt32 >>> ((8 : Int32) &&& 31).toUInt32).toInt32) &&& (3 : Int32)))] [(.int (58 : Int32))])) (fun _ kt => XS.bipush X0.here hx rfl (hb hby d_method_2_code_27) kt) ?_
        exact Rch.retN X0 hx (t := .char) hret (by simp) hlk (hb hby d_method_2_code_29) (fun U hU hF => hK _ U _ _ _ (by show Q_rk1 Z p1 h0 n0 _ U.heap _; rw [hU, e0]; exact ⟨(nar .char (58 : Int32)), rfl, N0, rfl, own_c58⟩) hF (by decide) (by decide))
      · skip
        refine Rch.of (T' := T0) (g' := (mkF m 30 #[.val (.int p1), .val (.int (((p1.toUInt32 >>> ((8 : Int32) &&& 31).toUInt32).toInt32) &&& (3 : Int32)))] [])) (fun _ kt => XS.icmpYes X0.here hx rfl (pc0 := 24) (pc' := 30) rfl (hb hby d_method_2_code_24) rfl (feq c279).2 (by decide) (by decide) kt) ?_
        refine Rch.of (T' := T0) (g' := (mkF m 31 #[.val (.int p1), .val (.int (((p1.toUInt32 >>> ((8 : Int32) &&& 31).toUInt32).toInt32) &&& (3 : Int32)))] [(.int p1)])) (fun _ kt => XS.iloadN X0.here hx rfl (hb hby d_method_2_code_30) rfl  kt) ?_
        refine Rch.of (T' := T0) (g' := (mkF m 34 #[.val (.int p1), .val (.int (((p1.toUInt32 >>> ((8 : Int32) &&& 31).toUInt32).toInt32) &&& (3 : Int32)))] [(.int (255 : Int32)), (.int p1)])) (fun _ kt => XS.sipush X0.here hx rfl (hb hby d_method_2_code_31) kt) ?_
        refine Rch.of (T' := T0) (g' := (mkF m 35 #[.val (.int p1), .val (.int (((p1.toUInt32 >>> ((8 : Int32) &&& 31).toUInt32).toInt32) &&& (3 : Int32)))] [(.int (p1 &&& (255 : Int32)))])) (fun _ kt => XS.iand X0.here hx rfl (hb hby d_method_2_code_34) rfl kt) ?_
        refine Rch.of (T' := T0) (g' := (mkF m 36 #[.val (.int p1), .val (.int (((p1.toUInt32 >>> ((8 : Int32) &&& 31).toUInt32).toInt32) &&& (3 : Int32)))] [(.int ((p1 &&& (255 : Int32)).toUInt32.toUInt16.toUInt32.toInt32))])) (fun _ kt => XS.i2c X0.here hx rfl (hb hby d_method_2_code_35) rfl kt) ?_
        exact Rch.retN X0 hx (t := .char) hret (by simp) hlk (hb hby d_method_2_code_36) (fun U hU hF => hK _ U _ _ _ (by show Q_rk1 Z p1 h0 n0 _ U.heap _; rw [hU, e0]; exact ⟨(nar .char ((p1 &&& (255 : Int32)).toUInt32.toUInt16.toUInt32.toInt32)), rfl, N0, rfl, own_lat p1⟩) hF (by decide) (by decide))
theorem ef_rk2 (m : MethodId) (a1 : Addr) : entryFrame m #[(.ref a1), (.int (Int32.ofNat k))] 2 = mkF m 0 #[.val (.ref a1), .val (.int (Int32.ofNat k))] [] := by first | (simp [entryFrame, mkF, argsToLocals, Value.category]; done) | rfl
def Q_rk2 (Z : State) (a1 : Addr) (y : Nat → Int32) (k : Nat) (cs : Int32) (h0 : Heap) (n0 : Nat) (vv_ : Option Value) (h : Heap) (LL_ : List Loc) : Prop := ∃ r : Addr, ∃ b : Addr, vv_ = some (.ref r) ∧ Fr n0 LL_ ∧ (Keep h0 h [] ∧ Exa Z h r "java/lang/String" ∧ Fld Z h r "java/lang/String" "coder" "B" (.int (0 : Int32)) ∧ Fld Z h r "java/lang/String" "value" "[B" (.ref b) ∧ Av Z h b .byte k (fun q => .int ((y q).toInt8.toInt32)))
theorem d_method_3_code_0 : decode method_3_code 0 = .ok (.iload_n 1, 1) := by decide +kernel
theorem d_method_3_code_1 : decode method_3_code 1 = .ok (.ifCond .ne 14, 3) := by decide +kernel
theorem d_method_3_code_4 : decode method_3_code 4 = .ok (.new 7, 3) := by decide +kernel
theorem d_method_3_code_7 : decode method_3_code 7 = .ok (.dup, 1) := by decide +kernel
theorem d_method_3_code_8 : decode method_3_code 8 = .ok (.iconst 0, 1) := by decide +kernel
theorem d_method_3_code_9 : decode method_3_code 9 = .ok (.newarray .char, 2) := by decide +kernel
theorem d_method_3_code_11 : decode method_3_code 11 = .ok (.invokespecial 9, 3) := by decide +kernel
theorem d_method_3_code_14 : decode method_3_code 14 = .ok (.areturn, 1) := by decide +kernel
theorem d_method_3_code_15 : decode method_3_code 15 = .ok (.iload_n 1, 1) := by decide +kernel
theorem d_method_3_code_16 : decode method_3_code 16 = .ok (.iconst 1, 1) := by decide +kernel
theorem d_method_3_code_17 : decode method_3_code 17 = .ok (.if_icmp .ne 20, 3) := by decide +kernel
theorem d_method_3_code_20 : decode method_3_code 20 = .ok (.new 7, 3) := by decide +kernel
theorem d_method_3_code_23 : decode method_3_code 23 = .ok (.dup, 1) := by decide +kernel
theorem d_method_3_code_24 : decode method_3_code 24 = .ok (.iconst 1, 1) := by decide +kernel
theorem d_method_3_code_25 : decode method_3_code 25 = .ok (.newarray .char, 2) := by decide +kernel
theorem d_method_3_code_27 : decode method_3_code 27 = .ok (.dup, 1) := by decide +kernel
theorem d_method_3_code_28 : decode method_3_code 28 = .ok (.iconst 0, 1) := by decide +kernel
theorem d_method_3_code_29 : decode method_3_code 29 = .ok (.aload_n 0, 1) := by decide +kernel
theorem d_method_3_code_30 : decode method_3_code 30 = .ok (.iconst 0, 1) := by decide +kernel
theorem d_method_3_code_31 : decode method_3_code 31 = .ok (.caload, 1) := by decide +kernel
theorem d_method_3_code_32 : decode method_3_code 32 = .ok (.castore, 1) := by decide +kernel
theorem d_method_3_code_33 : decode method_3_code 33 = .ok (.invokespecial 9, 3) := by decide +kernel
theorem d_method_3_code_36 : decode method_3_code 36 = .ok (.areturn, 1) := by decide +kernel
theorem d_method_3_code_37 : decode method_3_code 37 = .ok (.iload_n 1, 1) := by decide +kernel
theorem d_method_3_code_38 : decode method_3_code 38 = .ok (.iconst 2, 1) := by decide +kernel
theorem d_method_3_code_39 : decode method_3_code 39 = .ok (.if_icmp .ne 26, 3) := by decide +kernel
theorem d_method_3_code_42 : decode method_3_code 42 = .ok (.new 7, 3) := by decide +kernel
theorem d_method_3_code_45 : decode method_3_code 45 = .ok (.dup, 1) := by decide +kernel
theorem d_method_3_code_46 : decode method_3_code 46 = .ok (.iconst 2, 1) := by decide +kernel
theorem d_method_3_code_47 : decode method_3_code 47 = .ok (.newarray .char, 2) := by decide +kernel
theorem d_method_3_code_49 : decode method_3_code 49 = .ok (.dup, 1) := by decide +kernel
theorem d_method_3_code_50 : decode method_3_code 50 = .ok (.iconst 0, 1) := by decide +kernel
theorem d_method_3_code_51 : decode method_3_code 51 = .ok (.aload_n 0, 1) := by decide +kernel
theorem d_method_3_code_52 : decode method_3_code 52 = .ok (.iconst 0, 1) := by decide +kernel
theorem d_method_3_code_53 : decode method_3_code 53 = .ok (.caload, 1) := by decide +kernel
theorem d_method_3_code_54 : decode method_3_code 54 = .ok (.castore, 1) := by decide +kernel
theorem d_method_3_code_55 : decode method_3_code 55 = .ok (.dup, 1) := by decide +kernel
theorem d_method_3_code_56 : decode method_3_code 56 = .ok (.iconst 1, 1) := by decide +kernel
theorem d_method_3_code_57 : decode method_3_code 57 = .ok (.aload_n 0, 1) := by decide +kernel
theorem d_method_3_code_58 : decode method_3_code 58 = .ok (.iconst 1, 1) := by decide +kernel
theorem d_method_3_code_59 : decode method_3_code 59 = .ok (.caload, 1) := by decide +kernel
theorem d_method_3_code_60 : decode method_3_code 60 = .ok (.castore, 1) := by decide +kernel
theorem d_method_3_code_61 : decode method_3_code 61 = .ok (.invokespecial 9, 3) := by decide +kernel
theorem d_method_3_code_64 : decode method_3_code 64 = .ok (.areturn, 1) := by decide +kernel
theorem d_method_3_code_65 : decode method_3_code 65 = .ok (.iload_n 1, 1) := by decide +kernel
theorem d_method_3_code_66 : decode method_3_code 66 = .ok (.iconst 3, 1) := by decide +kernel
theorem d_method_3_code_67 : decode method_3_code 67 = .ok (.if_icmp .ne 32, 3) := by decide +kernel
theorem d_method_3_code_70 : decode method_3_code 70 = .ok (.new 7, 3) := by decide +kernel
theorem d_method_3_code_73 : decode method_3_code 73 = .ok (.dup, 1) := by decide +kernel
theorem d_method_3_code_74 : decode method_3_code 74 = .ok (.iconst 3, 1) := by decide +kernel
theorem d_method_3_code_75 : decode method_3_code 75 = .ok (.newarray .char, 2) := by decide +kernel
theorem d_method_3_code_77 : decode method_3_code 77 = .ok (.dup, 1) := by decide +kernel
theorem d_method_3_code_78 : decode method_3_code 78 = .ok (.iconst 0, 1) := by decide +kernel
theorem d_method_3_code_79 : decode method_3_code 79 = .ok (.aload_n 0, 1) := by decide +kernel
theorem d_method_3_code_80 : decode method_3_code 80 = .ok (.iconst 0, 1) := by decide +kernel
theorem d_method_3_code_81 : decode method_3_code 81 = .ok (.caload, 1) := by decide +kernel
theorem d_method_3_code_82 : decode method_3_code 82 = .ok (.castore, 1) := by decide +kernel
theorem d_method_3_code_83 : decode method_3_code 83 = .ok (.dup, 1) := by decide +kernel
theorem d_method_3_code_84 : decode method_3_code 84 = .ok (.iconst 1, 1) := by decide +kernel
theorem d_method_3_code_85 : decode method_3_code 85 = .ok (.aload_n 0, 1) := by decide +kernel
theorem d_method_3_code_86 : decode method_3_code 86 = .ok (.iconst 1, 1) := by decide +kernel
theorem d_method_3_code_87 : decode method_3_code 87 = .ok (.caload, 1) := by decide +kernel
theorem d_method_3_code_88 : decode method_3_code 88 = .ok (.castore, 1) := by decide +kernel
theorem d_method_3_code_89 : decode method_3_code 89 = .ok (.dup, 1) := by decide +kernel
theorem d_method_3_code_90 : decode method_3_code 90 = .ok (.iconst 2, 1) := by decide +kernel
theorem d_method_3_code_91 : decode method_3_code 91 = .ok (.aload_n 0, 1) := by decide +kernel
theorem d_method_3_code_92 : decode method_3_code 92 = .ok (.iconst 2, 1) := by decide +kernel
theorem d_method_3_code_93 : decode method_3_code 93 = .ok (.caload, 1) := by decide +kernel
theorem d_method_3_code_94 : decode method_3_code 94 = .ok (.castore, 1) := by decide +kernel
theorem d_method_3_code_95 : decode method_3_code 95 = .ok (.invokespecial 9, 3) := by decide +kernel
theorem d_method_3_code_98 : decode method_3_code 98 = .ok (.areturn, 1) := by decide +kernel
theorem d_method_3_code_99 : decode method_3_code 99 = .ok (.iload_n 1, 1) := by decide +kernel
theorem d_method_3_code_100 : decode method_3_code 100 = .ok (.iconst 4, 1) := by decide +kernel
theorem d_method_3_code_101 : decode method_3_code 101 = .ok (.if_icmp .ne 38, 3) := by decide +kernel
theorem d_method_3_code_104 : decode method_3_code 104 = .ok (.new 7, 3) := by decide +kernel
theorem d_method_3_code_107 : decode method_3_code 107 = .ok (.dup, 1) := by decide +kernel
theorem d_method_3_code_108 : decode method_3_code 108 = .ok (.iconst 4, 1) := by decide +kernel
theorem d_method_3_code_109 : decode method_3_code 109 = .ok (.newarray .char, 2) := by decide +kernel
theorem d_method_3_code_111 : decode method_3_code 111 = .ok (.dup, 1) := by decide +kernel
theorem d_method_3_code_112 : decode method_3_code 112 = .ok (.iconst 0, 1) := by decide +kernel
theorem d_method_3_code_113 : decode method_3_code 113 = .ok (.aload_n 0, 1) := by decide +kernel
theorem d_method_3_code_114 : decode method_3_code 114 = .ok (.iconst 0, 1) := by decide +kernel
theorem d_method_3_code_115 : decode method_3_code 115 = .ok (.caload, 1) := by decide +kernel
theorem d_method_3_code_116 : decode method_3_code 116 = .ok (.castore, 1) := by decide +kernel
theorem d_method_3_code_117 : decode method_3_code 117 = .ok (.dup, 1) := by decide +kernel
theorem d_method_3_code_118 : decode method_3_code 118 = .ok (.iconst 1, 1) := by decide +kernel
theorem d_method_3_code_119 : decode method_3_code 119 = .ok (.aload_n 0, 1) := by decide +kernel
theorem d_method_3_code_120 : decode method_3_code 120 = .ok (.iconst 1, 1) := by decide +kernel
theorem d_method_3_code_121 : decode method_3_code 121 = .ok (.caload, 1) := by decide +kernel
theorem d_method_3_code_122 : decode method_3_code 122 = .ok (.castore, 1) := by decide +kernel
theorem d_method_3_code_123 : decode method_3_code 123 = .ok (.dup, 1) := by decide +kernel
theorem d_method_3_code_124 : decode method_3_code 124 = .ok (.iconst 2, 1) := by decide +kernel
theorem d_method_3_code_125 : decode method_3_code 125 = .ok (.aload_n 0, 1) := by decide +kernel
theorem d_method_3_code_126 : decode method_3_code 126 = .ok (.iconst 2, 1) := by decide +kernel
theorem d_method_3_code_127 : decode method_3_code 127 = .ok (.caload, 1) := by decide +kernel
theorem d_method_3_code_128 : decode method_3_code 128 = .ok (.castore, 1) := by decide +kernel
theorem d_method_3_code_129 : decode method_3_code 129 = .ok (.dup, 1) := by decide +kernel
theorem d_method_3_code_130 : decode method_3_code 130 = .ok (.iconst 3, 1) := by decide +kernel
theorem d_method_3_code_131 : decode method_3_code 131 = .ok (.aload_n 0, 1) := by decide +kernel
theorem d_method_3_code_132 : decode method_3_code 132 = .ok (.iconst 3, 1) := by decide +kernel
theorem d_method_3_code_133 : decode method_3_code 133 = .ok (.caload, 1) := by decide +kernel
theorem d_method_3_code_134 : decode method_3_code 134 = .ok (.castore, 1) := by decide +kernel
theorem d_method_3_code_135 : decode method_3_code 135 = .ok (.invokespecial 9, 3) := by decide +kernel
theorem d_method_3_code_138 : decode method_3_code 138 = .ok (.areturn, 1) := by decide +kernel
theorem d_method_3_code_139 : decode method_3_code 139 = .ok (.new 7, 3) := by decide +kernel
theorem d_method_3_code_142 : decode method_3_code 142 = .ok (.dup, 1) := by decide +kernel
theorem d_method_3_code_143 : decode method_3_code 143 = .ok (.iconst 5, 1) := by decide +kernel
theorem d_method_3_code_144 : decode method_3_code 144 = .ok (.newarray .char, 2) := by decide +kernel
theorem d_method_3_code_146 : decode method_3_code 146 = .ok (.dup, 1) := by decide +kernel
theorem d_method_3_code_147 : decode method_3_code 147 = .ok (.iconst 0, 1) := by decide +kernel
theorem d_method_3_code_148 : decode method_3_code 148 = .ok (.aload_n 0, 1) := by decide +kernel
theorem d_method_3_code_149 : decode method_3_code 149 = .ok (.iconst 0, 1) := by decide +kernel
theorem d_method_3_code_150 : decode method_3_code 150 = .ok (.caload, 1) := by decide +kernel
theorem d_method_3_code_151 : decode method_3_code 151 = .ok (.castore, 1) := by decide +kernel
theorem d_method_3_code_152 : decode method_3_code 152 = .ok (.dup, 1) := by decide +kernel
theorem d_method_3_code_153 : decode method_3_code 153 = .ok (.iconst 1, 1) := by decide +kernel
theorem d_method_3_code_154 : decode method_3_code 154 = .ok (.aload_n 0, 1) := by decide +kernel
theorem d_method_3_code_155 : decode method_3_code 155 = .ok (.iconst 1, 1) := by decide +kernel
theorem d_method_3_code_156 : decode method_3_code 156 = .ok (.caload, 1) := by decide +kernel
theorem d_method_3_code_157 : decode method_3_code 157 = .ok (.castore, 1) := by decide +kernel
theorem d_method_3_code_158 : decode method_3_code 158 = .ok (.dup, 1) := by decide +kernel
theorem d_method_3_code_159 : decode method_3_code 159 = .ok (.iconst 2, 1) := by decide +kernel
theorem d_method_3_code_160 : decode method_3_code 160 = .ok (.aload_n 0, 1) := by decide +kernel
theorem d_method_3_code_161 : decode method_3_code 161 = .ok (.iconst 2, 1) := by decide +kernel
theorem d_method_3_code_162 : decode method_3_code 162 = .ok (.caload, 1) := by decide +kernel
theorem d_method_3_code_163 : decode method_3_code 163 = .ok (.castore, 1) := by decide +kernel
theorem d_method_3_code_164 : decode method_3_code 164 = .ok (.dup, 1) := by decide +kernel
theorem d_method_3_code_165 : decode method_3_code 165 = .ok (.iconst 3, 1) := by decide +kernel
theorem d_method_3_code_166 : decode method_3_code 166 = .ok (.aload_n 0, 1) := by decide +kernel
theorem d_method_3_code_167 : decode method_3_code 167 = .ok (.iconst 3, 1) := by decide +kernel
theorem d_method_3_code_168 : decode method_3_code 168 = .ok (.caload, 1) := by decide +kernel
theorem d_method_3_code_169 : decode method_3_code 169 = .ok (.castore, 1) := by decide +kernel
theorem d_method_3_code_170 : decode method_3_code 170 = .ok (.dup, 1) := by decide +kernel
theorem d_method_3_code_171 : decode method_3_code 171 = .ok (.iconst 4, 1) := by decide +kernel
theorem d_method_3_code_172 : decode method_3_code 172 = .ok (.aload_n 0, 1) := by decide +kernel
theorem d_method_3_code_173 : decode method_3_code 173 = .ok (.iconst 4, 1) := by decide +kernel
theorem d_method_3_code_174 : decode method_3_code 174 = .ok (.caload, 1) := by decide +kernel
theorem d_method_3_code_175 : decode method_3_code 175 = .ok (.castore, 1) := by decide +kernel
theorem d_method_3_code_176 : decode method_3_code 176 = .ok (.invokespecial 9, 3) := by decide +kernel
theorem d_method_3_code_179 : decode method_3_code 179 = .ok (.areturn, 1) := by decide +kernel
set_option maxRecDepth 65536 in
set_option maxHeartbeats 40000000 in
theorem rk2 (l : Launch) (Z : State) (a0 : Array Value) (hw : ∀ d ∈ tables_1, d.before a0 Z = true) (ws : List Jvm.Cond) (a1 : Addr) (y : Nat → Int32) (k : Nat) (cs : Int32) (h0 : Heap) (n0 : Nat) (Z0 : n0 ≤ h0.size) (V1 : Av Z h0 a1 .char 5 (fun q => .int (y q))) (hy : own_ch 5 y) (hk : k ≤ 5) (SC : Sta Z h0 "java/lang/String" "COMPACT_STRINGS" "Z" (.int cs)) (hcs : ¬ cs = (0 : Int32)) :
    MetFree l (⟨"com/example/isidore/isidore/rulesets/mwsdn/PathNamesNodePinLaw", "str", "([CI)Ljava/lang/String;"⟩ : MethodName) (head1 (Jvm.Cond.code (⟨"com/example/isidore/isidore/rulesets/mwsdn/PathNamesNodePinLaw", "str", "([CI)Ljava/lang/String;"⟩ : MethodName) method_3_code 2 (some (.object "java/lang/String")) :: ws) ({ frames := 4, cells := 6, slots := 17, locals := 66 } : Room)) (fun aa_ UU_ => aa_ = #[(.ref a1), (.int (Int32.ofNat k))] ∧ Z.Warmed39 UU_.vm ∧ UU_.heap = h0 ∧ CHv Z consts_1 UU_.vm h0) (fun _ _ _ _ _ => True) (fun _ UU_ oo_ VV_ => ∃ vv_ LL_, oo_ = .returned vv_ ∧ Q_rk2 Z a1 y k cs h0 n0 vv_ VV_.heap LL_ ∧ CHr Z consts_1 UU_.vm UU_.heap VV_.vm VV_.heap ∧ ReturnedEndW UU_ oo_ VV_ LL_ ({ frames := 4, cells := 6, slots := 17, locals := 66 } : Room).cells ({ frames := 4, cells := 6, slots := 17, locals := 66 } : Room).slots) := by
  refine own_metH (y := (⟨"com/example/isidore/isidore/rulesets/mwsdn/PathNamesNodePinLaw", "str", "([CI)Ljava/lang/String;"⟩ : MethodName)) (plainFor_of_name pn_5) ?_
  intro p e s m below meth c T0 K hx hby hml hret hlk hown hnm hZ X0 e0 C0 hK
  have N0 := Fr.nil n0
  have R0 := CHr.refl C0
  have hEL := own_EW hw
  have hS0 : s.Since s.vm 0 := (State.WarmedH.refl s).since 0
  have hk0 : 0 ≤ h0.size := Nat.zero_le _
  have wS : ∀ d ∈ Bundle.stringAtoms, d.before a0 Z = true := fun d hd => hw d ((by decide +kernel : ∀ d ∈ Bundle.stringAtoms, d ∈ tables_1) d hd)
  change Stand p l e ({ frames := 4, cells := 6, slots := 17, locals := 66 } : Room) (s.setVm s.vm) m #[(.ref a1), (.int (Int32.ofNat k))] below meth c T0 [] 0 0 at X0
  change Z.Warmed39 (s.setVm s.vm).vm at hZ
  change (s.setVm s.vm).vm.findClass _ = some m.cls at hown
  refine Rch.cast (ef_rk2 m a1) ?_
  rcases (show k = 0 ∨ k = 1 ∨ k = 2 ∨ k = 3 ∨ k = 4 ∨ k = 5 by omega) with ek | ek | ek | ek | ek | ek
  · skip
    have sw280 : (Int32.ofNat k) = (0 : Int32) := by rw [ek]; rfl
    rw [sw280]
    show Rch p e below K T0 (mkF m 0 #[.val (.ref a1), .val (.int (0 : Int32))] [])
    refine Rch.of (T' := T0) (g' := (mkF m 1 #[.val (.ref a1), .val (.int (0 : Int32))] [(.int (0 : Int32))])) (fun _ kt => XS.iloadN X0.here hx rfl (hb hby d_method_3_code_0) rfl  kt) ?_
    refine Rch.of (T' := T0) (g' := (mkF m 4 #[.val (.ref a1), .val (.int (0 : Int32))] [])) (fun _ kt => XS.ifNo X0.here hx rfl (hb hby d_method_3_code_1) rfl ((if0 _ _).trans (teq ((by decide) : (0 : Int32) = (0 : Int32))).2) kt) ?_
    obtain ⟨T281, h281, X281, e281, E281, A281, D281, -, st281⟩ := newO X0 hx hZ hown (hw _ (List.mem_of_getElem? (i := 8) rfl)) (hw _ (List.mem_of_getElem? (i := 9) rfl)) (hw _ (List.mem_of_getElem? (i := 10) rfl)) e0 (g := (mkF m 4 #[.val (.ref a1), .val (.int (0 : Int32))] [])) rfl (hb hby d_method_3_code_4) (by decide) (by decide)
    obtain ⟨b281, g281⟩ : ∃ zz_, zz_ = h0.size := ⟨_, rfl⟩
    have ne_a1_b281 : a1 ≠ b281 := Nat.ne_of_lt (Nat.lt_of_lt_of_le V1.lt (Nat.le_of_eq g281.symm))
    have ge_b281 : n0 ≤ b281 := Nat.le_trans Z0 (Nat.le_of_eq g281.symm)
    have sz_b281 : h0.size ≤ b281 := Nat.le_trans (Keep.refl h0 []).1 (Nat.le_of_eq g281.symm)
    rw [← g281] at A281 D281 st281
    have F281_value : Fld Z h281 b281 "java/lang/String" "value" "[B" .null := D281 (Or.inr (hw _ (List.mem_of_getElem? (i := 23) rfl))) (ty := (.array .byte)) (by decide)
    have F281_coder : Fld Z h281 b281 "java/lang/String" "coder" "B" (.int (0 : Int32)) := D281 (Or.inr (hw _ (List.mem_of_getElem? (i := 24) rfl))) (ty := .byte) (by decide)
    refine Rch.of (T' := T281) (g' := (mkF m 7 #[.val (.ref a1), .val (.int (0 : Int32))] [(.ref b281)])) st281 ?_
    refine Rch.of (T' := T281) (g' := (mkF m 8 #[.val (.ref a1), .val (.int (0 : Int32))] [(.ref b281), (.ref b281)])) (fun _ kt => XS.dup X281.here hx rfl (hb hby d_method_3_code_7) rfl rfl kt) ?_
    refine Rch.of (T' := T281) (g' := (mkF m 9 #[.val (.ref a1), .val (.int (0 : Int32))] [(.int (0 : Int32)), (.ref b281), (.ref b281)])) (fun _ kt => XS.iconst X281.here hx rfl (hb hby d_method_3_code_8) kt) ?_
    obtain ⟨T282, h282, k282, X282, e282, E282, A282, Q282, st282⟩ := newPE X281 hx hZ (hw _ (List.mem_of_getElem? (i := 0) rfl)) e281 (g := (mkF m 9 #[.val (.ref a1), .val (.int (0 : Int32))] [(.int (0 : Int32)), (.ref b281), (.ref b281)])) rfl (hb hby d_method_3_code_9) rfl (by decide) (cap := 0) (by decide) (by decide) (by decide) (by decide) (ad := "[C") rfl
    obtain ⟨b282, g282⟩ : ∃ zz_, zz_ = h281.size := ⟨_, rfl⟩
    have ne_a1_b282 : a1 ≠ b282 := Nat.ne_of_lt (Nat.lt_of_lt_of_le (V1.ext E281).lt (Nat.le_of_eq g282.symm))
    have ne_b281_b282 : b281 ≠ b282 := Nat.ne_of_lt (Nat.lt_of_lt_of_le A281.lt (Nat.le_of_eq g282.symm))
    have ge_b282 : n0 ≤ b282 := Nat.le_trans (Nat.le_trans Z0 E281.1) (Nat.le_of_eq g282.symm)
    have sz_b282 : h0.size ≤ b282 := Nat.le_trans ((Keep.refl h0 []).ext E281).1 (Nat.le_of_eq g282.symm)
    rw [← g282] at A282 Q282 st282
    have V282 : Av Z h282 b282 .char 0 (fun _ => (.int (0 : Int32))) := Av.new A282 (by decide)
    refine Rch.of (T' := T282) (g' := (mkF m 11 #[.val (.ref a1), .val (.int (0 : Int32))] [(.ref b282), (.ref b281), (.ref b281)])) st282 ?_
    have pr284 : 0 ≤ 5 := by omega
    have hch285 : own_ch 0 (fun _ => (0 : Int32)) := fun q hq => absurd hq (Nat.not_lt_zero q)
    obtain ⟨_, _, ⟨T283, L283, k283, n283⟩, -, X283, hT283, gr283, ⟨Lc283, hQ283, l283, y283, z283, cr283⟩, st283⟩ := X282.specialBackS hx (y := (⟨"java/lang/String", "<init>", "([C)V"⟩ : MethodName)) rfl hown (mvT hZ (hw _ (List.mem_of_getElem? (i := 11) rfl))) (mvT hZ (hw _ (List.mem_of_getElem? (i := 12) rfl))) (mvT hZ (hw _ (List.mem_of_getElem? (i := 13) rfl))) (by decide) (backOfSH (s := s) (vm0 := s.vm) (EL := consts_1) (W := 1) (rqN1 l Z a0 hw [] b281 b282 0 (fun _ => (0 : Int32)) (.int (0 : Int32)) cs h282 n0 (Nat.le_trans (Nat.le_trans Z0 E281.1) E282.1) (A281.ext E282) (F281_coder.ext E282) (F281_value.ext E282) ge_b281 V282 ((SC.ext E281).ext E282) hcs pr284 hch285) hZ (hw _ (List.mem_of_getElem? (i := 13) rfl)) (hw _ (List.mem_of_getElem? (i := 10) rfl)) (by decide) (by decide) hEL ((R0.trans (CHr.ext E281 R0.1)).trans (CHr.ext E282 (R0.trans (CHr.ext E281 R0.1)).1)).1) (g := (mkF m 11 #[.val (.ref a1), .val (.int (0 : Int32))] [(.ref b282), (.ref b281), (.ref b281)])) rfl (by rw [hml]; rfl) (Steps.refl _) (a := b281) (argsL := [(.ref b282)]) (rest := [(.ref b281)]) (lenOf pd_2 rfl) rfl (by show 2 * 0 + _ ≤ _; exact Nat.le_of_eq rfl) (hb hby d_method_3_code_11) (fun _ _ => ⟨rfl, e282, (by decide : 2 + 4 ≤ _), (by decide : 4 + 8 ≤ _)⟩)
    dsimp only [Pt.U, Pt.locs, Pt.cells, Pt.slots] at X283 hT283 gr283 l283 y283 z283 st283 hQ283 cr283
    subst l283 y283 z283
    obtain ⟨X283, hS283, hZ, hown⟩ := rebS hS0 (Nat.le_trans (Nat.le_trans hk0 E281.1) E282.1) X283 hT283 (by rw [← e282]; exact gr283) hZ hown
    obtain ⟨rb283, rfl, N283q, hQ283⟩ := hQ283
    have N283 := Fr.app N0 N283q
    obtain ⟨K283, Ex283, Fa283, Fb283, V283⟩ := hQ283
    refine Rch.via (T' := T283) (g' := (mkF m 14 #[.val (.ref a1), .val (.int (0 : Int32))] [(.ref b281)])) st283 ?_
    have hcg286 : ∀ q, q < 0 → Value.int (((fun _ => (0 : Int32)) q).toInt8.toInt32) = Value.int ((y q).toInt8.toInt32) := fun q hq => absurd hq (Nat.not_lt_zero q)
    exact Rch.retA X283 hx (w := (.ref b281)) hret rfl rfl hlk (hb hby d_method_3_code_14) (fun U hU hF => hK _ U _ _ _ (by show Q_rk2 Z a1 y k cs h0 n0 _ U.heap _; rw [hU]; exact ⟨b281, rb283, rfl, N283, ((((Keep.refl h0 []).ext E281).ext E282).trans K283 (allS (Or.inr sz_b281) all0)), Ex283, Fa283, Fb283, (by rw [ek]; exact Av.congr V283 hcg286)⟩) (own_endH hZ hEL (((R0.trans (CHr.ext E281 R0.1)).trans (CHr.ext E282 (R0.trans (CHr.ext E281 R0.1)).1)).trans cr283) hU hF) (own_end hS283 (by rw [hU]; exact (Nat.le_refl _)) hF) (by decide) (by decide))
  · skip
    have sw287 : (Int32.ofNat k) = (1 : Int32) := by rw [ek]; rfl
    rw [sw287]
    show Rch p e below K T0 (mkF m 0 #[.val (.ref a1), .val (.int (1 : Int32))] [])
    refine Rch.of (T' := T0) (g' := (mkF m 1 #[.val (.ref a1), .val (.int (1 : Int32))] [(.int (1 : Int32))])) (fun _ kt => XS.iloadN X0.here hx rfl (hb hby d_method_3_code_0) rfl  kt) ?_
    refine Rch.of (T' := T0) (g' := (mkF m 15 #[.val (.ref a1), .val (.int (1 : Int32))] [])) (fun _ kt => XS.ifYes X0.here hx rfl (pc0 := 1) (pc' := 15) rfl (hb hby d_method_3_code_1) rfl ((if0 _ _).trans (feq ((by decide) : ¬ ((1 : Int32) = (0 : Int32)))).2) (by decide) (by decide) kt) ?_
    refine Rch.of (T' := T0) (g' := (mkF m 16 #[.val (.ref a1), .val (.int (1 : Int32))] [(.int (1 : Int32))])) (fun _ kt => XS.iloadN X0.here hx rfl (hb hby d_method_3_code_15) rfl  kt) ?_
    refine Rch.of (T' := T0) (g' := (mkF m 17 #[.val (.ref a1), .val (.int (1 : Int32))] [(.int (1 : Int32)), (.int (1 : Int32))])) (fun _ kt => XS.iconst X0.here hx rfl (hb hby d_method_3_code_16) kt) ?_
    refine Rch.of (T' := T0) (g' := (mkF m 20 #[.val (.ref a1), .val (.int (1 : Int32))] [])) (fun _ kt => XS.icmpNo X0.here hx rfl (hb hby d_method_3_code_17) rfl (teq ((by decide) : (1 : Int32) = (1 : Int32))).2 kt) ?_
    obtain ⟨T288, h288, X288, e288, E288, A288, D288, -, st288⟩ := newO X0 hx hZ hown (hw _ (List.mem_of_getElem? (i := 8) rfl)) (hw _ (List.mem_of_getElem? (i := 9) rfl)) (hw _ (List.mem_of_getElem? (i := 10) rfl)) e0 (g := (mkF m 20 #[.val (.ref a1), .val (.int (1 : Int32))] [])) rfl (hb hby d_method_3_code_20) (by decide) (by decide)
    obtain ⟨b288, g288⟩ : ∃ zz_, zz_ = h0.size := ⟨_, rfl⟩
    have ne_a1_b288 : a1 ≠ b288 := Nat.ne_of_lt (Nat.lt_of_lt_of_le V1.lt (Nat.le_of_eq g288.symm))
    have ge_b288 : n0 ≤ b288 := Nat.le_trans Z0 (Nat.le_of_eq g288.symm)
    have sz_b288 : h0.size ≤ b288 := Nat.le_trans (Keep.refl h0 []).1 (Nat.le_of_eq g288.symm)
    rw [← g288] at A288 D288 st288
    have F288_value : Fld Z h288 b288 "java/lang/String" "value" "[B" .null := D288 (Or.inr (hw _ (List.mem_of_getElem? (i := 23) rfl))) (ty := (.array .byte)) (by decide)
    have F288_coder : Fld Z h288 b288 "java/lang/String" "coder" "B" (.int (0 : Int32)) := D288 (Or.inr (hw _ (List.mem_of_getElem? (i := 24) rfl))) (ty := .byte) (by decide)
    refine Rch.of (T' := T288) (g' := (mkF m 23 #[.val (.ref a1), .val (.int (1 : Int32))] [(.ref b288)])) st288 ?_
    refine Rch.of (T' := T288) (g' := (mkF m 24 #[.val (.ref a1), .val (.int (1 : Int32))] [(.ref b288), (.ref b288)])) (fun _ kt => XS.dup X288.here hx rfl (hb hby d_method_3_code_23) rfl rfl kt) ?_
    refine Rch.of (T' := T288) (g' := (mkF m 25 #[.val (.ref a1), .val (.int (1 : Int32))] [(.int (1 : Int32)), (.ref b288), (.ref b288)])) (fun _ kt => XS.iconst X288.here hx rfl (hb hby d_method_3_code_24) kt) ?_
    obtain ⟨T289, h289, k289, X289, e289, E289, A289, Q289, st289⟩ := newPE X288 hx hZ (hw _ (List.mem_of_getElem? (i := 0) rfl)) e288 (g := (mkF m 25 #[.val (.ref a1), .val (.int (1 : Int32))] [(.int (1 : Int32)), (.ref b288), (.ref b288)])) rfl (hb hby d_method_3_code_25) rfl (by decide) (cap := 1) (by decide) (by decide) (by decide) (by decide) (ad := "[C") rfl
    obtain ⟨b289, g289⟩ : ∃ zz_, zz_ = h288.size := ⟨_, rfl⟩
    have ne_a1_b289 : a1 ≠ b289 := Nat.ne_of_lt (Nat.lt_of_lt_of_le (V1.ext E288).lt (Nat.le_of_eq g289.symm))
    have ne_b288_b289 : b288 ≠ b289 := Nat.ne_of_lt (Nat.lt_of_lt_of_le A288.lt (Nat.le_of_eq g289.symm))
    have ge_b289 : n0 ≤ b289 := Nat.le_trans (Nat.le_trans Z0 E288.1) (Nat.le_of_eq g289.symm)
    have sz_b289 : h0.size ≤ b289 := Nat.le_trans ((Keep.refl h0 []).ext E288).1 (Nat.le_of_eq g289.symm)
    rw [← g289] at A289 Q289 st289
    have V289 : Av Z h289 b289 .char 1 (fun _ => (.int (0 : Int32))) := Av.new A289 (by decide)
    refine Rch.of (T' := T289) (g' := (mkF m 27 #[.val (.ref a1), .val (.int (1 : Int32))] [(.ref b289), (.ref b288), (.ref b288)])) st289 ?_
    refine Rch.of (T' := T289) (g' := (mkF m 28 #[.val (.ref a1), .val (.int (1 : Int32))] [(.ref b289), (.ref b289), (.ref b288), (.ref b288)])) (fun _ kt => XS.dup X289.here hx rfl (hb hby d_method_3_code_27) rfl rfl kt) ?_
    refine Rch.of (T' := T289) (g' := (mkF m 29 #[.val (.ref a1), .val (.int (1 : Int32))] [(.int (0 : Int32)), (.ref b289), (.ref b289), (.ref b288), (.ref b288)])) (fun _ kt => XS.iconst X289.here hx rfl (hb hby d_method_3_code_28) kt) ?_
    refine Rch.of (T' := T289) (g' := (mkF m 30 #[.val (.ref a1), .val (.int (1 : Int32))] [(.ref a1), (.int (0 : Int32)), (.ref b289), (.ref b289), (.ref b288), (.ref b288)])) (fun _ kt => XS.aloadN X289.here hx rfl (hb hby d_method_3_code_29) rfl rfl kt) ?_
    refine Rch.of (T' := T289) (g' := (mkF m 31 #[.val (.ref a1), .val (.int (1 : Int32))] [(.int (0 : Int32)), (.ref a1), (.int (0 : Int32)), (.ref b289), (.ref b289), (.ref b288), (.ref b288)])) (fun _ kt => XS.iconst X289.here hx rfl (hb hby d_method_3_code_30) kt) ?_
    obtain ⟨cl290, Ar290, Sz290, Ha290⟩ := id ((V1.ext E288).ext E289)
    refine Rch.of (T' := T289) (g' := (mkF m 32 #[.val (.ref a1), .val (.int (1 : Int32))] [(.int (y 0)), (.int (0 : Int32)), (.ref b289), (.ref b289), (.ref b288), (.ref b288)])) (X289.caload hx (j := (0 : Int32)) (v := (.int (y 0))) (by rw [e289]; exact Ar290.1) (State.isArrayOf_alike hZ.alike Ar290.2.1) Ar290.2.2 (oIn (i := 0) Sz290 (by decide) (by decide)) (oAt (i := 0) Ha290 (by decide) (by decide)) (g := (mkF m 31 #[.val (.ref a1), .val (.int (1 : Int32))] [(.int (0 : Int32)), (.ref a1), (.int (0 : Int32)), (.ref b289), (.ref b289), (.ref b288), (.ref b288)])) rfl rfl (hb hby d_method_3_code_31)) ?_
    obtain ⟨cl291, Ar291, Sz291, Ha291⟩ := id V289
    obtain ⟨T291, h291, X291, e291, W291, st291⟩ := stC X289 hx hZ e289 Ar291 (j := (0 : Int32)) (oIn (i := 0) Sz291 (by decide) (by decide)) (g := (mkF m 32 #[.val (.ref a1), .val (.int (1 : Int32))] [(.int (y 0)), (.int (0 : Int32)), (.ref b289), (.ref b289), (.ref b288), (.ref b288)])) rfl rfl (hb hby d_method_3_code_32)
    have V291 := Av.setI (i := 0) V289 (by decide) (by decide) W291
    obtain ⟨y291, hy291⟩ : ∃ zz_ : Nat → Int32, zz_ = fun q => if q = 0 then (y 0).toUInt32.toUInt16.toUInt32.toInt32 else (fun _ => (0 : Int32)) q := ⟨_, rfl⟩
    have V291 : Av Z h291 b289 .char 1 (fun q => .int (y291 q)) := by rw [hy291]; exact V291
    have N291 := Fr.snoc X291 N0 ge_b289
    have Sf292 : Safe Z consts_1 s.vm h289 b289 := (Safe.exa hZ.alike Q289 (by decide) (by decide))
    have Rb293 := (((R0.trans (CHr.ext E288 R0.1)).trans (CHr.ext E289 (R0.trans (CHr.ext E288 R0.1)).1)).trans (CHr.wr W291 Sf292 ((R0.trans (CHr.ext E288 R0.1)).trans (CHr.ext E289 (R0.trans (CHr.ext E288 R0.1)).1)).1))
    refine Rch.of (T' := T291) (g' := (mkF m 33 #[.val (.ref a1), .val (.int (1 : Int32))] [(.ref b289), (.ref b288), (.ref b288)])) st291 ?_
    have pr295 : 1 ≤ 5 := by omega
    have hch296 : own_ch 1 y291 := by
      intro q hq
      rw [hy291]
      rcases (show q = 0 by omega) with rfl
      · exact own_c1i (hy.at (by decide : 0 < 5))
    obtain ⟨_, _, ⟨T294, L294, k294, n294⟩, -, X294, hT294, gr294, ⟨Lc294, hQ294, l294, y294, z294, cr294⟩, st294⟩ := X291.specialBackS hx (y := (⟨"java/lang/String", "<init>", "([C)V"⟩ : MethodName)) rfl hown (mvT hZ (hw _ (List.mem_of_getElem? (i := 11) rfl))) (mvT hZ (hw _ (List.mem_of_getElem? (i := 12) rfl))) (mvT hZ (hw _ (List.mem_of_getElem? (i := 13) rfl))) (by decide) (backOfSH (s := s) (vm0 := s.vm) (EL := consts_1) (W := 1) (rqN1 l Z a0 hw [] b288 b289 1 y291 (.int (0 : Int32)) cs h291 n0 (Nat.le_trans (Nat.le_trans (Nat.le_trans Z0 E288.1) E289.1) (Keep.of_wr W291).1) ((A288.ext E289).wr W291) ((F288_coder.ext E289).other W291 (Or.inl ne_b288_b289)) ((F288_value.ext E289).other W291 (Or.inl ne_b288_b289)) ge_b288 V291 (((SC.ext E288).ext E289).wr W291) hcs pr295 hch296) hZ (hw _ (List.mem_of_getElem? (i := 13) rfl)) (hw _ (List.mem_of_getElem? (i := 10) rfl)) (by decide) (by decide) hEL Rb293.1) (g := (mkF m 33 #[.val (.ref a1), .val (.int (1 : Int32))] [(.ref b289), (.ref b288), (.ref b288)])) rfl (by rw [hml]; rfl) (Steps.refl _) (a := b288) (argsL := [(.ref b289)]) (rest := [(.ref b288)]) (lenOf pd_2 rfl) rfl (by show 2 * 0 + _ ≤ _; exact Nat.le_of_eq rfl) (hb hby d_method_3_code_33) (fun _ _ => ⟨rfl, e291, (by decide : 2 + 4 ≤ _), (by decide : 5 + 8 ≤ _)⟩)
    dsimp only [Pt.U, Pt.locs, Pt.cells, Pt.slots] at X294 hT294 gr294 l294 y294 z294 st294 hQ294 cr294
    subst l294 y294 z294
    obtain ⟨X294, hS294, hZ, hown⟩ := rebS hS0 (Nat.le_trans (Nat.le_trans (Nat.le_trans hk0 E288.1) E289.1) (Keep.of_wr W291).1) X294 hT294 (by rw [← e291]; exact gr294) hZ hown
    obtain ⟨rb294, rfl, N294q, hQ294⟩ := hQ294
    have N294 := Fr.app N291 N294q
    obtain ⟨K294, Ex294, Fa294, Fb294, V294⟩ := hQ294
    refine Rch.via (T' := T294) (g' := (mkF m 36 #[.val (.ref a1), .val (.int (1 : Int32))] [(.ref b288)])) st294 ?_
    have hcg297 : ∀ q, q < 1 → Value.int ((y291 q).toInt8.toInt32) = Value.int ((y q).toInt8.toInt32) := by
      intro q hq
      rw [hy291]
      rcases (show q = 0 by omega) with rfl
      · exact congrArg (fun x : Int32 => Value.int x.toInt8.toInt32) (own_i2c (hy.at (by decide : 0 < 5)))
    exact Rch.retA X294 hx (w := (.ref b288)) hret rfl rfl hlk (hb hby d_method_3_code_36) (fun U hU hF => hK _ U _ _ _ (by show Q_rk2 Z a1 y k cs h0 n0 _ U.heap _; rw [hU]; exact ⟨b288, rb294, rfl, N294, (((((Keep.refl h0 []).ext E288).ext E289).wr W291 (Or.inr sz_b289)).trans K294 (allS (Or.inr sz_b288) all0)), Ex294, Fa294, Fb294, (by rw [ek]; exact Av.congr V294 hcg297)⟩) (own_endH hZ hEL (Rb293.trans cr294) hU hF) (own_end hS294 (by rw [hU]; exact (Nat.le_refl _)) hF) (by decide) (by decide))
  · skip
    have sw298 : (Int32.ofNat k) = (2 : Int32) := by rw [ek]; rfl
    rw [sw298]
    show Rch p e below K T0 (mkF m 0 #[.val (.ref a1), .val (.int (2 : Int32))] [])
    refine Rch.of (T' := T0) (g' := (mkF m 1 #[.val (.ref a1), .val (.int (2 : Int32))] [(.int (2 : Int32))])) (fun _ kt => XS.iloadN X0.here hx rfl (hb hby d_method_3_code_0) rfl  kt) ?_
    refine Rch.of (T' := T0) (g' := (mkF m 15 #[.val (.ref a1), .val (.int (2 : Int32))] [])) (fun _ kt => XS.ifYes X0.here hx rfl (pc0 := 1) (pc' := 15) rfl (hb hby d_method_3_code_1) rfl ((if0 _ _).trans (feq ((by decide) : ¬ ((2 : Int32) = (0 : Int32)))).2) (by decide) (by decide) kt) ?_
    refine Rch.of (T' := T0) (g' := (mkF m 16 #[.val (.ref a1), .val (.int (2 : Int32))] [(.int (2 : Int32))])) (fun _ kt => XS.iloadN X0.here hx rfl (hb hby d_method_3_code_15) rfl  kt) ?_
    refine Rch.of (T' := T0) (g' := (mkF m 17 #[.val (.ref a1), .val (.int (2 : Int32))] [(.int (1 : Int32)), (.int (2 : Int32))])) (fun _ kt => XS.iconst X0.here hx rfl (hb hby d_method_3_code_16) kt) ?_
    refine Rch.of (T' := T0) (g' := (mkF m 37 #[.val (.ref a1), .val (.int (2 : Int32))] [])) (fun _ kt => XS.icmpYes X0.here hx rfl (pc0 := 17) (pc' := 37) rfl (hb hby d_method_3_code_17) rfl (feq ((by decide) : ¬ ((2 : Int32) = (1 : Int32)))).2 (by decide) (by decide) kt) ?_
    refine Rch.of (T' := T0) (g' := (mkF m 38 #[.val (.ref a1), .val (.int (2 : Int32))] [(.int (2 : Int32))])) (fun _ kt => XS.iloadN X0.here hx rfl (hb hby d_method_3_code_37) rfl  kt) ?_
    refine Rch.of (T' := T0) (g' := (mkF m 39 #[.val (.ref a1), .val (.int (2 : Int32))] [(.int (2 : Int32)), (.int (2 : Int32))])) (fun _ kt => XS.iconst X0.here hx rfl (hb hby d_method_3_code_38) kt) ?_
    refine Rch.of (T' := T0) (g' := (mkF m 42 #[.val (.ref a1), .val (.int (2 : Int32))] [])) (fun _ kt => XS.icmpNo X0.here hx rfl (hb hby d_method_3_code_39) rfl (teq ((by decide) : (2 : Int32) = (2 : Int32))).2 kt) ?_
    obtain ⟨T299, h299, X299, e299, E299, A299, D299, -, st299⟩ := newO X0 hx hZ hown (hw _ (List.mem_of_getElem? (i := 8) rfl)) (hw _ (List.mem_of_getElem? (i := 9) rfl)) (hw _ (List.mem_of_getElem? (i := 10) rfl)) e0 (g := (mkF m 42 #[.val (.ref a1), .val (.int (2 : Int32))] [])) rfl (hb hby d_method_3_code_42) (by decide) (by decide)
    obtain ⟨b299, g299⟩ : ∃ zz_, zz_ = h0.size := ⟨_, rfl⟩
    have ne_a1_b299 : a1 ≠ b299 := Nat.ne_of_lt (Nat.lt_of_lt_of_le V1.lt (Nat.le_of_eq g299.symm))
    have ge_b299 : n0 ≤ b299 := Nat.le_trans Z0 (Nat.le_of_eq g299.symm)
    have sz_b299 : h0.size ≤ b299 := Nat.le_trans (Keep.refl h0 []).1 (Nat.le_of_eq g299.symm)
    rw [← g299] at A299 D299 st299
    have F299_value : Fld Z h299 b299 "java/lang/String" "value" "[B" .null := D299 (Or.inr (hw _ (List.mem_of_getElem? (i := 23) rfl))) (ty := (.array .byte)) (by decide)
    have F299_coder : Fld Z h299 b299 "java/lang/String" "coder" "B" (.int (0 : Int32)) := D299 (Or.inr (hw _ (List.mem_of_getElem? (i := 24) rfl))) (ty := .byte) (by decide)
    refine Rch.of (T' := T299) (g' := (mkF m 45 #[.val (.ref a1), .val (.int (2 : Int32))] [(.ref b299)])) st299 ?_
    refine Rch.of (T' := T299) (g' := (mkF m 46 #[.val (.ref a1), .val (.int (2 : Int32))] [(.ref b299), (.ref b299)])) (fun _ kt => XS.dup X299.here hx rfl (hb hby d_method_3_code_45) rfl rfl kt) ?_
    refine Rch.of (T' := T299) (g' := (mkF m 47 #[.val (.ref a1), .val (.int (2 : Int32))] [(.int (2 : Int32)), (.ref b299), (.ref b299)])) (fun _ kt => XS.iconst X299.here hx rfl (hb hby d_method_3_code_46) kt) ?_
    obtain ⟨T300, h300, k300, X300, e300, E300, A300, Q300, st300⟩ := newPE X299 hx hZ (hw _ (List.mem_of_getElem? (i := 0) rfl)) e299 (g := (mkF m 47 #[.val (.ref a1), .val (.int (2 : Int32))] [(.int (2 : Int32)), (.ref b299), (.ref b299)])) rfl (hb hby d_method_3_code_47) rfl (by decide) (cap := 2) (by decide) (by decide) (by decide) (by decide) (ad := "[C") rfl
    obtain ⟨b300, g300⟩ : ∃ zz_, zz_ = h299.size := ⟨_, rfl⟩
    have ne_a1_b300 : a1 ≠ b300 := Nat.ne_of_lt (Nat.lt_of_lt_of_le (V1.ext E299).lt (Nat.le_of_eq g300.symm))
    have ne_b299_b300 : b299 ≠ b300 := Nat.ne_of_lt (Nat.lt_of_lt_of_le A299.lt (Nat.le_of_eq g300.symm))
    have ge_b300 : n0 ≤ b300 := Nat.le_trans (Nat.le_trans Z0 E299.1) (Nat.le_of_eq g300.symm)
    have sz_b300 : h0.size ≤ b300 := Nat.le_trans ((Keep.refl h0 []).ext E299).1 (Nat.le_of_eq g300.symm)
    rw [← g300] at A300 Q300 st300
    have V300 : Av Z h300 b300 .char 2 (fun _ => (.int (0 : Int32))) := Av.new A300 (by decide)
    refine Rch.of (T' := T300) (g' := (mkF m 49 #[.val (.ref a1), .val (.int (2 : Int32))] [(.ref b300), (.ref b299), (.ref b299)])) st300 ?_
    refine Rch.of (T' := T300) (g' := (mkF m 50 #[.val (.ref a1), .val (.int (2 : Int32))] [(.ref b300), (.ref b300), (.ref b299), (.ref b299)])) (fun _ kt => XS.dup X300.here hx rfl (hb hby d_method_3_code_49) rfl rfl kt) ?_
    refine Rch.of (T' := T300) (g' := (mkF m 51 #[.val (.ref a1), .val (.int (2 : Int32))] [(.int (0 : Int32)), (.ref b300), (.ref b300), (.ref b299), (.ref b299)])) (fun _ kt => XS.iconst X300.here hx rfl (hb hby d_method_3_code_50) kt) ?_
    refine Rch.of (T' := T300) (g' := (mkF m 52 #[.val (.ref a1), .val (.int (2 : Int32))] [(.ref a1), (.int (0 : Int32)), (.ref b300), (.ref b300), (.ref b299), (.ref b299)])) (fun _ kt => XS.aloadN X300.here hx rfl (hb hby d_method_3_code_51) rfl rfl kt) ?_
    refine Rch.of (T' := T300) (g' := (mkF m 53 #[.val (.ref a1), .val (.int (2 : Int32))] [(.int (0 : Int32)), (.ref a1), (.int (0 : Int32)), (.ref b300), (.ref b300), (.ref b299), (.ref b299)])) (fun _ kt => XS.iconst X300.here hx rfl (hb hby d_method_3_code_52) kt) ?_
    obtain ⟨cl301, Ar301, Sz301, Ha301⟩ := id ((V1.ext E299).ext E300)
    refine Rch.of (T' := T300) (g' := (mkF m 54 #[.val (.ref a1), .val (.int (2 : Int32))] [(.int (y 0)), (.int (0 : Int32)), (.ref b300), (.ref b300), (.ref b299), (.ref b299)])) (X300.caload hx (j := (0 : Int32)) (v := (.int (y 0))) (by rw [e300]; exact Ar301.1) (State.isArrayOf_alike hZ.alike Ar301.2.1) Ar301.2.2 (oIn (i := 0) Sz301 (by decide) (by decide)) (oAt (i := 0) Ha301 (by decide) (by decide)) (g := (mkF m 53 #[.val (.ref a1), .val (.int (2 : Int32))] [(.int (0 : Int32)), (.ref a1), (.int (0 : Int32)), (.ref b300), (.ref b300), (.ref b299), (.ref b299)])) rfl rfl (hb hby d_method_3_code_53)) ?_
    obtain ⟨cl302, Ar302, Sz302, Ha302⟩ := id V300
    obtain ⟨T302, h302, X302, e302, W302, st302⟩ := stC X300 hx hZ e300 Ar302 (j := (0 : Int32)) (oIn (i := 0) Sz302 (by decide) (by decide)) (g := (mkF m 54 #[.val (.ref a1), .val (.int (2 : Int32))] [(.int (y 0)), (.int (0 : Int32)), (.ref b300), (.ref b300), (.ref b299), (.ref b299)])) rfl rfl (hb hby d_method_3_code_54)
    have V302 := Av.setI (i := 0) V300 (by decide) (by decide) W302
    obtain ⟨y302, hy302⟩ : ∃ zz_ : Nat → Int32, zz_ = fun q => if q = 0 then (y 0).toUInt32.toUInt16.toUInt32.toInt32 else (fun _ => (0 : Int32)) q := ⟨_, rfl⟩
    have V302 : Av Z h302 b300 .char 2 (fun q => .int (y302 q)) := by rw [hy302]; exact V302
    have N302 := Fr.snoc X302 N0 ge_b300
    have Sf303 : Safe Z consts_1 s.vm h300 b300 := (Safe.exa hZ.alike Q300 (by decide) (by decide))
    have Rb304 := (((R0.trans (CHr.ext E299 R0.1)).trans (CHr.ext E300 (R0.trans (CHr.ext E299 R0.1)).1)).trans (CHr.wr W302 Sf303 ((R0.trans (CHr.ext E299 R0.1)).trans (CHr.ext E300 (R0.trans (CHr.ext E299 R0.1)).1)).1))
    refine Rch.of (T' := T302) (g' := (mkF m 55 #[.val (.ref a1), .val (.int (2 : Int32))] [(.ref b300), (.ref b299), (.ref b299)])) st302 ?_
    refine Rch.of (T' := T302) (g' := (mkF m 56 #[.val (.ref a1), .val (.int (2 : Int32))] [(.ref b300), (.ref b300), (.ref b299), (.ref b299)])) (fun _ kt => XS.dup X302.here hx rfl (hb hby d_method_3_code_55) rfl rfl kt) ?_
    refine Rch.of (T' := T302) (g' := (mkF m 57 #[.val (.ref a1), .val (.int (2 : Int32))] [(.int (1 : Int32)), (.ref b300), (.ref b300), (.ref b299), (.ref b299)])) (fun _ kt => XS.iconst X302.here hx rfl (hb hby d_method_3_code_56) kt) ?_
    refine Rch.of (T' := T302) (g' := (mkF m 58 #[.val (.ref a1), .val (.int (2 : Int32))] [(.ref a1), (.int (1 : Int32)), (.ref b300), (.ref b300), (.ref b299), (.ref b299)])) (fun _ kt => XS.aloadN X302.here hx rfl (hb hby d_method_3_code_57) rfl rfl kt) ?_
    refine Rch.of (T' := T302) (g' := (mkF m 59 #[.val (.ref a1), .val (.int (2 : Int32))] [(.int (1 : Int32)), (.ref a1), (.int (1 : Int32)), (.ref b300), (.ref b300), (.ref b299), (.ref b299)])) (fun _ kt => XS.iconst X302.here hx rfl (hb hby d_method_3_code_58) kt) ?_
    obtain ⟨cl305, Ar305, Sz305, Ha305⟩ := id (((V1.ext E299).ext E300).other W302 ne_a1_b300)
    refine Rch.of (T' := T302) (g' := (mkF m 60 #[.val (.ref a1), .val (.int (2 : Int32))] [(.int (y 1)), (.int (1 : Int32)), (.ref b300), (.ref b300), (.ref b299), (.ref b299)])) (X302.caload hx (j := (1 : Int32)) (v := (.int (y 1))) (by rw [e302]; exact Ar305.1) (State.isArrayOf_alike hZ.alike Ar305.2.1) Ar305.2.2 (oIn (i := 1) Sz305 (by decide) (by decide)) (oAt (i := 1) Ha305 (by decide) (by decide)) (g := (mkF m 59 #[.val (.ref a1), .val (.int (2 : Int32))] [(.int (1 : Int32)), (.ref a1), (.int (1 : Int32)), (.ref b300), (.ref b300), (.ref b299), (.ref b299)])) rfl rfl (hb hby d_method_3_code_59)) ?_
    obtain ⟨cl306, Ar306, Sz306, Ha306⟩ := id V302
    obtain ⟨T306, h306, X306, e306, W306, st306⟩ := stC X302 hx hZ e302 Ar306 (j := (1 : Int32)) (oIn (i := 1) Sz306 (by decide) (by decide)) (g := (mkF m 60 #[.val (.ref a1), .val (.int (2 : Int32))] [(.int (y 1)), (.int (1 : Int32)), (.ref b300), (.ref b300), (.ref b299), (.ref b299)])) rfl rfl (hb hby d_method_3_code_60)
    have V306 := Av.setI (i := 1) V302 (by decide) (by decide) W306
    obtain ⟨y306, hy306⟩ : ∃ zz_ : Nat → Int32, zz_ = fun q => if q = 1 then (y 1).toUInt32.toUInt16.toUInt32.toInt32 else y302 q := ⟨_, rfl⟩
    have V306 : Av Z h306 b300 .char 2 (fun q => .int (y306 q)) := by rw [hy306]; exact V306
    have N306 := Fr.snoc X306 N302 ge_b300
    have Sf307 : Safe Z consts_1 s.vm h302 b300 := (Safe.exa hZ.alike (Q300.wr W302) (by decide) (by decide))
    refine Rch.of (T' := T306) (g' := (mkF m 61 #[.val (.ref a1), .val (.int (2 : Int32))] [(.ref b300), (.ref b299), (.ref b299)])) st306 ?_
    have pr309 : 2 ≤ 5 := by omega
    have hch310 : own_ch 2 y306 := by
      intro q hq
      rw [hy306, hy302]
      rcases (show q = 0 ∨ q = 1 by omega) with rfl | rfl
      · exact own_c1i (hy.at (by decide : 0 < 5))
      · exact own_c1i (hy.at (by decide : 1 < 5))
    obtain ⟨_, _, ⟨T308, L308, k308, n308⟩, -, X308, hT308, gr308, ⟨Lc308, hQ308, l308, y308, z308, cr308⟩, st308⟩ := X306.specialBackS hx (y := (⟨"java/lang/String", "<init>", "([C)V"⟩ : MethodName)) rfl hown (mvT hZ (hw _ (List.mem_of_getElem? (i := 11) rfl))) (mvT hZ (hw _ (List.mem_of_getElem? (i := 12) rfl))) (mvT hZ (hw _ (List.mem_of_getElem? (i := 13) rfl))) (by decide) (backOfSH (s := s) (vm0 := s.vm) (EL := consts_1) (W := 1) (rqN1 l Z a0 hw [] b299 b300 2 y306 (.int (0 : Int32)) cs h306 n0 (Nat.le_trans (Nat.le_trans (Nat.le_trans (Nat.le_trans Z0 E299.1) E300.1) (Keep.of_wr W302).1) (Keep.of_wr W306).1) (((A299.ext E300).wr W302).wr W306) (((F299_coder.ext E300).other W302 (Or.inl ne_b299_b300)).other W306 (Or.inl ne_b299_b300)) (((F299_value.ext E300).other W302 (Or.inl ne_b299_b300)).other W306 (Or.inl ne_b299_b300)) ge_b299 V306 ((((SC.ext E299).ext E300).wr W302).wr W306) hcs pr309 hch310) hZ (hw _ (List.mem_of_getElem? (i := 13) rfl)) (hw _ (List.mem_of_getElem? (i := 10) rfl)) (by decide) (by decide) hEL (Rb304.trans (CHr.wr W306 Sf307 Rb304.1)).1) (g := (mkF m 61 #[.val (.ref a1), .val (.int (2 : Int32))] [(.ref b300), (.ref b299), (.ref b299)])) rfl (by rw [hml]; rfl) (Steps.refl _) (a := b299) (argsL := [(.ref b300)]) (rest := [(.ref b299)]) (lenOf pd_2 rfl) rfl (by show 2 * 0 + _ ≤ _; exact Nat.le_of_eq rfl) (hb hby d_method_3_code_61) (fun _ _ => ⟨rfl, e306, (by decide : 2 + 4 ≤ _), (by decide : 6 + 8 ≤ _)⟩)
    dsimp only [Pt.U, Pt.locs, Pt.cells, Pt.slots] at X308 hT308 gr308 l308 y308 z308 st308 hQ308 cr308
    subst l308 y308 z308
    obtain ⟨X308, hS308, hZ, hown⟩ := rebS hS0 (Nat.le_trans (Nat.le_trans (Nat.le_trans (Nat.le_trans hk0 E299.1) E300.1) (Keep.of_wr W302).1) (Keep.of_wr W306).1) X308 hT308 (by rw [← e306]; exact gr308) hZ hown
    obtain ⟨rb308, rfl, N308q, hQ308⟩ := hQ308
    have N308 := Fr.app N306 N308q
    obtain ⟨K308, Ex308, Fa308, Fb308, V308⟩ := hQ308
    refine Rch.via (T' := T308) (g' := (mkF m 64 #[.val (.ref a1), .val (.int (2 : Int32))] [(.ref b299)])) st308 ?_
    have hcg311 : ∀ q, q < 2 → Value.int ((y306 q).toInt8.toInt32) = Value.int ((y q).toInt8.toInt32) := by
      intro q hq
      rw [hy306, hy302]
      rcases (show q = 0 ∨ q = 1 by omega) with rfl | rfl
      · exact congrArg (fun x : Int32 => Value.int x.toInt8.toInt32) (own_i2c (hy.at (by decide : 0 < 5)))
      · exact congrArg (fun x : Int32 => Value.int x.toInt8.toInt32) (own_i2c (hy.at (by decide : 1 < 5)))
    exact Rch.retA X308 hx (w := (.ref b299)) hret rfl rfl hlk (hb hby d_method_3_code_64) (fun U hU hF => hK _ U _ _ _ (by show Q_rk2 Z a1 y k cs h0 n0 _ U.heap _; rw [hU]; exact ⟨b299, rb308, rfl, N308, ((((((Keep.refl h0 []).ext E299).ext E300).wr W302 (Or.inr sz_b300)).wr W306 (Or.inr sz_b300)).trans K308 (allS (Or.inr sz_b299) all0)), Ex308, Fa308, Fb308, (by rw [ek]; exact Av.congr V308 hcg311)⟩) (own_endH hZ hEL ((Rb304.trans (CHr.wr W306 Sf307 Rb304.1)).trans cr308) hU hF) (own_end hS308 (by rw [hU]; exact (Nat.le_refl _)) hF) (by decide) (by decide))
  · skip
    have sw312 : (Int32.ofNat k) = (3 : Int32) := by rw [ek]; rfl
    rw [sw312]
    show Rch p e below K T0 (mkF m 0 #[.val (.ref a1), .val (.int (3 : Int32))] [])
    refine Rch.of (T' := T0) (g' := (mkF m 1 #[.val (.ref a1), .val (.int (3 : Int32))] [(.int (3 : Int32))])) (fun _ kt => XS.iloadN X0.here hx rfl (hb hby d_method_3_code_0) rfl  kt) ?_
    refine Rch.of (T' := T0) (g' := (mkF m 15 #[.val (.ref a1), .val (.int (3 : Int32))] [])) (fun _ kt => XS.ifYes X0.here hx rfl (pc0 := 1) (pc' := 15) rfl (hb hby d_method_3_code_1) rfl ((if0 _ _).trans (feq ((by decide) : ¬ ((3 : Int32) = (0 : Int32)))).2) (by decide) (by decide) kt) ?_
    refine Rch.of (T' := T0) (g' := (mkF m 16 #[.val (.ref a1), .val (.int (3 : Int32))] [(.int (3 : Int32))])) (fun _ kt => XS.iloadN X0.here hx rfl (hb hby d_method_3_code_15) rfl  kt) ?_
    refine Rch.of (T' := T0) (g' := (mkF m 17 #[.val (.ref a1), .val (.int (3 : Int32))] [(.int (1 : Int32)), (.int (3 : Int32))])) (fun _ kt => XS.iconst X0.here hx rfl (hb hby d_method_3_code_16) kt) ?_
    refine Rch.of (T' := T0) (g' := (mkF m 37 #[.val (.ref a1), .val (.int (3 : Int32))] [])) (fun _ kt => XS.icmpYes X0.here hx rfl (pc0 := 17) (pc' := 37) rfl (hb hby d_method_3_code_17) rfl (feq ((by decide) : ¬ ((3 : Int32) = (1 : Int32)))).2 (by decide) (by decide) kt) ?_
    refine Rch.of (T' := T0) (g' := (mkF m 38 #[.val (.ref a1), .val (.int (3 : Int32))] [(.int (3 : Int32))])) (fun _ kt => XS.iloadN X0.here hx rfl (hb hby d_method_3_code_37) rfl  kt) ?_
    refine Rch.of (T' := T0) (g' := (mkF m 39 #[.val (.ref a1), .val (.int (3 : Int32))] [(.int (2 : Int32)), (.int (3 : Int32))])) (fun _ kt => XS.iconst X0.here hx rfl (hb hby d_method_3_code_38) kt) ?_
    refine Rch.of (T' := T0) (g' := (mkF m 65 #[.val (.ref a1), .val (.int (3 : Int32))] [])) (fun _ kt => XS.icmpYes X0.here hx rfl (pc0 := 39) (pc' := 65) rfl (hb hby d_method_3_code_39) rfl (feq ((by decide) : ¬ ((3 : Int32) = (2 : Int32)))).2 (by decide) (by decide) kt) ?_
    refine Rch.of (T' := T0) (g' := (mkF m 66 #[.val (.ref a1), .val (.int (3 : Int32))] [(.int (3 : Int32))])) (fun _ kt => XS.iloadN X0.here hx rfl (hb hby d_method_3_code_65) rfl  kt) ?_
    refine Rch.of (T' := T0) (g' := (mkF m 67 #[.val (.ref a1), .val (.int (3 : Int32))] [(.int (3 : Int32)), (.int (3 : Int32))])) (fun _ kt => XS.iconst X0.here hx rfl (hb hby d_method_3_code_66) kt) ?_
    refine Rch.of (T' := T0) (g' := (mkF m 70 #[.val (.ref a1), .val (.int (3 : Int32))] [])) (fun _ kt => XS.icmpNo X0.here hx rfl (hb hby d_method_3_code_67) rfl (teq ((by decide) : (3 : Int32) = (3 : Int32))).2 kt) ?_
    obtain ⟨T313, h313, X313, e313, E313, A313, D313, -, st313⟩ := newO X0 hx hZ hown (hw _ (List.mem_of_getElem? (i := 8) rfl)) (hw _ (List.mem_of_getElem? (i := 9) rfl)) (hw _ (List.mem_of_getElem? (i := 10) rfl)) e0 (g := (mkF m 70 #[.val (.ref a1), .val (.int (3 : Int32))] [])) rfl (hb hby d_method_3_code_70) (by decide) (by decide)
    obtain ⟨b313, g313⟩ : ∃ zz_, zz_ = h0.size := ⟨_, rfl⟩
    have ne_a1_b313 : a1 ≠ b313 := Nat.ne_of_lt (Nat.lt_of_lt_of_le V1.lt (Nat.le_of_eq g313.symm))
    have ge_b313 : n0 ≤ b313 := Nat.le_trans Z0 (Nat.le_of_eq g313.symm)
    have sz_b313 : h0.size ≤ b313 := Nat.le_trans (Keep.refl h0 []).1 (Nat.le_of_eq g313.symm)
    rw [← g313] at A313 D313 st313
    have F313_value : Fld Z h313 b313 "java/lang/String" "value" "[B" .null := D313 (Or.inr (hw _ (List.mem_of_getElem? (i := 23) rfl))) (ty := (.array .byte)) (by decide)
    have F313_coder : Fld Z h313 b313 "java/lang/String" "coder" "B" (.int (0 : Int32)) := D313 (Or.inr (hw _ (List.mem_of_getElem? (i := 24) rfl))) (ty := .byte) (by decide)
    refine Rch.of (T' := T313) (g' := (mkF m 73 #[.val (.ref a1), .val (.int (3 : Int32))] [(.ref b313)])) st313 ?_
    refine Rch.of (T' := T313) (g' := (mkF m 74 #[.val (.ref a1), .val (.int (3 : Int32))] [(.ref b313), (.ref b313)])) (fun _ kt => XS.dup X313.here hx rfl (hb hby d_method_3_code_73) rfl rfl kt) ?_
    refine Rch.of (T' := T313) (g' := (mkF m 75 #[.val (.ref a1), .val (.int (3 : Int32))] [(.int (3 : Int32)), (.ref b313), (.ref b313)])) (fun _ kt => XS.iconst X313.here hx rfl (hb hby d_method_3_code_74) kt) ?_
    obtain ⟨T314, h314, k314, X314, e314, E314, A314, Q314, st314⟩ := newPE X313 hx hZ (hw _ (List.mem_of_getElem? (i := 0) rfl)) e313 (g := (mkF m 75 #[.val (.ref a1), .val (.int (3 : Int32))] [(.int (3 : Int32)), (.ref b313), (.ref b313)])) rfl (hb hby d_method_3_code_75) rfl (by decide) (cap := 3) (by decide) (by decide) (by decide) (by decide) (ad := "[C") rfl
    obtain ⟨b314, g314⟩ : ∃ zz_, zz_ = h313.size := ⟨_, rfl⟩
    have ne_a1_b314 : a1 ≠ b314 := Nat.ne_of_lt (Nat.lt_of_lt_of_le (V1.ext E313).lt (Nat.le_of_eq g314.symm))
    have ne_b313_b314 : b313 ≠ b314 := Nat.ne_of_lt (Nat.lt_of_lt_of_le A313.lt (Nat.le_of_eq g314.symm))
    have ge_b314 : n0 ≤ b314 := Nat.le_trans (Nat.le_trans Z0 E313.1) (Nat.le_of_eq g314.symm)
    have sz_b314 : h0.size ≤ b314 := Nat.le_trans ((Keep.refl h0 []).ext E313).1 (Nat.le_of_eq g314.symm)
    rw [← g314] at A314 Q314 st314
    have V314 : Av Z h314 b314 .char 3 (fun _ => (.int (0 : Int32))) := Av.new A314 (by decide)
    refine Rch.of (T' := T314) (g' := (mkF m 77 #[.val (.ref a1), .val (.int (3 : Int32))] [(.ref b314), (.ref b313), (.ref b313)])) st314 ?_
    refine Rch.of (T' := T314) (g' := (mkF m 78 #[.val (.ref a1), .val (.int (3 : Int32))] [(.ref b314), (.ref b314), (.ref b313), (.ref b313)])) (fun _ kt => XS.dup X314.here hx rfl (hb hby d_method_3_code_77) rfl rfl kt) ?_
    refine Rch.of (T' := T314) (g' := (mkF m 79 #[.val (.ref a1), .val (.int (3 : Int32))] [(.int (0 : Int32)), (.ref b314), (.ref b314), (.ref b313), (.ref b313)])) (fun _ kt => XS.iconst X314.here hx rfl (hb hby d_method_3_code_78) kt) ?_
    refine Rch.of (T' := T314) (g' := (mkF m 80 #[.val (.ref a1), .val (.int (3 : Int32))] [(.ref a1), (.int (0 : Int32)), (.ref b314), (.ref b314), (.ref b313), (.ref b313)])) (fun _ kt => XS.aloadN X314.here hx rfl (hb hby d_method_3_code_79) rfl rfl kt) ?_
    refine Rch.of (T' := T314) (g' := (mkF m 81 #[.val (.ref a1), .val (.int (3 : Int32))] [(.int (0 : Int32)), (.ref a1), (.int (0 : Int32)), (.ref b314), (.ref b314), (.ref b313), (.ref b313)])) (fun _ kt => XS.iconst X314.here hx rfl (hb hby d_method_3_code_80) kt) ?_
    obtain ⟨cl315, Ar315, Sz315, Ha315⟩ := id ((V1.ext E313).ext E314)
    refine Rch.of (T' := T314) (g' := (mkF m 82 #[.val (.ref a1), .val (.int (3 : Int32))] [(.int (y 0)), (.int (0 : Int32)), (.ref b314), (.ref b314), (.ref b313), (.ref b313)])) (X314.caload hx (j := (0 : Int32)) (v := (.int (y 0))) (by rw [e314]; exact Ar315.1) (State.isArrayOf_alike hZ.alike Ar315.2.1) Ar315.2.2 (oIn (i := 0) Sz315 (by decide) (by decide)) (oAt (i := 0) Ha315 (by decide) (by decide)) (g := (mkF m 81 #[.val (.ref a1), .val (.int (3 : Int32))] [(.int (0 : Int32)), (.ref a1), (.int (0 : Int32)), (.ref b314), (.ref b314), (.ref b313), (.ref b313)])) rfl rfl (hb hby d_method_3_code_81)) ?_
    obtain ⟨cl316, Ar316, Sz316, Ha316⟩ := id V314
    obtain ⟨T316, h316, X316, e316, W316, st316⟩ := stC X314 hx hZ e314 Ar316 (j := (0 : Int32)) (oIn (i := 0) Sz316 (by decide) (by decide)) (g := (mkF m 82 #[.val (.ref a1), .val (.int (3 : Int32))] [(.int (y 0)), (.int (0 : Int32)), (.ref b314), (.ref b314), (.ref b313), (.ref b313)])) rfl rfl (hb hby d_method_3_code_82)
    have V316 := Av.setI (i := 0) V314 (by decide) (by decide) W316
    obtain ⟨y316, hy316⟩ : ∃ zz_ : Nat → Int32, zz_ = fun q => if q = 0 then (y 0).toUInt32.toUInt16.toUInt32.toInt32 else (fun _ => (0 : Int32)) q := ⟨_, rfl⟩
    have V316 : Av Z h316 b314 .char 3 (fun q => .int (y316 q)) := by rw [hy316]; exact V316
    have N316 := Fr.snoc X316 N0 ge_b314
    have Sf317 : Safe Z consts_1 s.vm h314 b314 := (Safe.exa hZ.alike Q314 (by decide) (by decide))
    have Rb318 := (((R0.trans (CHr.ext E313 R0.1)).trans (CHr.ext E314 (R0.trans (CHr.ext E313 R0.1)).1)).trans (CHr.wr W316 Sf317 ((R0.trans (CHr.ext E313 R0.1)).trans (CHr.ext E314 (R0.trans (CHr.ext E313 R0.1)).1)).1))
    refine Rch.of (T' := T316) (g' := (mkF m 83 #[.val (.ref a1), .val (.int (3 : Int32))] [(.ref b314), (.ref b313), (.ref b313)])) st316 ?_
    refine Rch.of (T' := T316) (g' := (mkF m 84 #[.val (.ref a1), .val (.int (3 : Int32))] [(.ref b314), (.ref b314), (.ref b313), (.ref b313)])) (fun _ kt => XS.dup X316.here hx rfl (hb hby d_method_3_code_83) rfl rfl kt) ?_
    refine Rch.of (T' := T316) (g' := (mkF m 85 #[.val (.ref a1), .val (.int (3 : Int32))] [(.int (1 : Int32)), (.ref b314), (.ref b314), (.ref b313), (.ref b313)])) (fun _ kt => XS.iconst X316.here hx rfl (hb hby d_method_3_code_84) kt) ?_
    refine Rch.of (T' := T316) (g' := (mkF m 86 #[.val (.ref a1), .val (.int (3 : Int32))] [(.ref a1), (.int (1 : Int32)), (.ref b314), (.ref b314), (.ref b313), (.ref b313)])) (fun _ kt => XS.aloadN X316.here hx rfl (hb hby d_method_3_code_85) rfl rfl kt) ?_
    refine Rch.of (T' := T316) (g' := (mkF m 87 #[.val (.ref a1), .val (.int (3 : Int32))] [(.int (1 : Int32)), (.ref a1), (.int (1 : Int32)), (.ref b314), (.ref b314), (.ref b313), (.ref b313)])) (fun _ kt => XS.iconst X316.here hx rfl (hb hby d_method_3_code_86) kt) ?_
    obtain ⟨cl319, Ar319, Sz319, Ha319⟩ := id (((V1.ext E313).ext E314).other W316 ne_a1_b314)
    refine Rch.of (T' := T316) (g' := (mkF m 88 #[.val (.ref a1), .val (.int (3 : Int32))] [(.int (y 1)), (.int (1 : Int32)), (.ref b314), (.ref b314), (.ref b313), (.ref b313)])) (X316.caload hx (j := (1 : Int32)) (v := (.int (y 1))) (by rw [e316]; exact Ar319.1) (State.isArrayOf_alike hZ.alike Ar319.2.1) Ar319.2.2 (oIn (i := 1) Sz319 (by decide) (by decide)) (oAt (i := 1) Ha319 (by decide) (by decide)) (g := (mkF m 87 #[.val (.ref a1), .val (.int (3 : Int32))] [(.int (1 : Int32)), (.ref a1), (.int (1 : Int32)), (.ref b314), (.ref b314), (.ref b313), (.ref b313)])) rfl rfl (hb hby d_method_3_code_87)) ?_
    obtain ⟨cl320, Ar320, Sz320, Ha320⟩ := id V316
    obtain ⟨T320, h320, X320, e320, W320, st320⟩ := stC X316 hx hZ e316 Ar320 (j := (1 : Int32)) (oIn (i := 1) Sz320 (by decide) (by decide)) (g := (mkF m 88 #[.val (.ref a1), .val (.int (3 : Int32))] [(.int (y 1)), (.int (1 : Int32)), (.ref b314), (.ref b314), (.ref b313), (.ref b313)])) rfl rfl (hb hby d_method_3_code_88)
    have V320 := Av.setI (i := 1) V316 (by decide) (by decide) W320
    obtain ⟨y320, hy320⟩ : ∃ zz_ : Nat → Int32, zz_ = fun q => if q = 1 then (y 1).toUInt32.toUInt16.toUInt32.toInt32 else y316 q := ⟨_, rfl⟩
    have V320 : Av Z h320 b314 .char 3 (fun q => .int (y320 q)) := by rw [hy320]; exact V320
    have N320 := Fr.snoc X320 N316 ge_b314
    have Sf321 : Safe Z consts_1 s.vm h316 b314 := (Safe.exa hZ.alike (Q314.wr W316) (by decide) (by decide))
    refine Rch.of (T' := T320) (g' := (mkF m 89 #[.val (.ref a1), .val (.int (3 : Int32))] [(.ref b314), (.ref b313), (.ref b313)])) st320 ?_
    refine Rch.of (T' := T320) (g' := (mkF m 90 #[.val (.ref a1), .val (.int (3 : Int32))] [(.ref b314), (.ref b314), (.ref b313), (.ref b313)])) (fun _ kt => XS.dup X320.here hx rfl (hb hby d_method_3_code_89) rfl rfl kt) ?_
    refine Rch.of (T' := T320) (g' := (mkF m 91 #[.val (.ref a1), .val (.int (3 : Int32))] [(.int (2 : Int32)), (.ref b314), (.ref b314), (.ref b313), (.ref b313)])) (fun _ kt => XS.iconst X320.here hx rfl (hb hby d_method_3_code_90) kt) ?_
    refine Rch.of (T' := T320) (g' := (mkF m 92 #[.val (.ref a1), .val (.int (3 : Int32))] [(.ref a1), (.int (2 : Int32)), (.ref b314), (.ref b314), (.ref b313), (.ref b313)])) (fun _ kt => XS.aloadN X320.here hx rfl (hb hby d_method_3_code_91) rfl rfl kt) ?_
    refine Rch.of (T' := T320) (g' := (mkF m 93 #[.val (.ref a1), .val (.int (3 : Int32))] [(.int (2 : Int32)), (.ref a1), (.int (2 : Int32)), (.ref b314), (.ref b314), (.ref b313), (.ref b313)])) (fun _ kt => XS.iconst X320.here hx rfl (hb hby d_method_3_code_92) kt) ?_
    obtain ⟨cl322, Ar322, Sz322, Ha322⟩ := id ((((V1.ext E313).ext E314).other W316 ne_a1_b314).other W320 ne_a1_b314)
    refine Rch.of (T' := T320) (g' := (mkF m 94 #[.val (.ref a1), .val (.int (3 : Int32))] [(.int (y 2)), (.int (2 : Int32)), (.ref b314), (.ref b314), (.ref b313), (.ref b313)])) (X320.caload hx (j := (2 : Int32)) (v := (.int (y 2))) (by rw [e320]; exact Ar322.1) (State.isArrayOf_alike hZ.alike Ar322.2.1) Ar322.2.2 (oIn (i := 2) Sz322 (by decide) (by decide)) (oAt (i := 2) Ha322 (by decide) (by decide)) (g := (mkF m 93 #[.val (.ref a1), .val (.int (3 : Int32))] [(.int (2 : Int32)), (.ref a1), (.int (2 : Int32)), (.ref b314), (.ref b314), (.ref b313), (.ref b313)])) rfl rfl (hb hby d_method_3_code_93)) ?_
    obtain ⟨cl323, Ar323, Sz323, Ha323⟩ := id V320
    obtain ⟨T323, h323, X323, e323, W323, st323⟩ := stC X320 hx hZ e320 Ar323 (j := (2 : Int32)) (oIn (i := 2) Sz323 (by decide) (by decide)) (g := (mkF m 94 #[.val (.ref a1), .val (.int (3 : Int32))] [(.int (y 2)), (.int (2 : Int32)), (.ref b314), (.ref b314), (.ref b313), (.ref b313)])) rfl rfl (hb hby d_method_3_code_94)
    have V323 := Av.setI (i := 2) V320 (by decide) (by decide) W323
    obtain ⟨y323, hy323⟩ : ∃ zz_ : Nat → Int32, zz_ = fun q => if q = 2 then (y 2).toUInt32.toUInt16.toUInt32.toInt32 else y320 q := ⟨_, rfl⟩
    have V323 : Av Z h323 b314 .char 3 (fun q => .int (y323 q)) := by rw [hy323]; exact V323
    have N323 := Fr.snoc X323 N320 ge_b314
    have Sf324 : Safe Z consts_1 s.vm h320 b314 := (Safe.exa hZ.alike ((Q314.wr W316).wr W320) (by decide) (by decide))
    refine Rch.of (T' := T323) (g' := (mkF m 95 #[.val (.ref a1), .val (.int (3 : Int32))] [(.ref b314), (.ref b313), (.ref b313)])) st323 ?_
    have pr326 : 3 ≤ 5 := by omega
    have hch327 : own_ch 3 y323 := by
      intro q hq
      rw [hy323, hy320, hy316]
      rcases (show q = 0 ∨ q = 1 ∨ q = 2 by omega) with rfl | rfl | rfl
      · exact own_c1i (hy.at (by decide : 0 < 5))
      · exact own_c1i (hy.at (by decide : 1 < 5))
      · exact own_c1i (hy.at (by decide : 2 < 5))
    obtain ⟨_, _, ⟨T325, L325, k325, n325⟩, -, X325, hT325, gr325, ⟨Lc325, hQ325, l325, y325, z325, cr325⟩, st325⟩ := X323.specialBackS hx (y := (⟨"java/lang/String", "<init>", "([C)V"⟩ : MethodName)) rfl hown (mvT hZ (hw _ (List.mem_of_getElem? (i := 11) rfl))) (mvT hZ (hw _ (List.mem_of_getElem? (i := 12) rfl))) (mvT hZ (hw _ (List.mem_of_getElem? (i := 13) rfl))) (by decide) (backOfSH (s := s) (vm0 := s.vm) (EL := consts_1) (W := 1) (rqN1 l Z a0 hw [] b313 b314 3 y323 (.int (0 : Int32)) cs h323 n0 (Nat.le_trans (Nat.le_trans (Nat.le_trans (Nat.le_trans (Nat.le_trans Z0 E313.1) E314.1) (Keep.of_wr W316).1) (Keep.of_wr W320).1) (Keep.of_wr W323).1) ((((A313.ext E314).wr W316).wr W320).wr W323) ((((F313_coder.ext E314).other W316 (Or.inl ne_b313_b314)).other W320 (Or.inl ne_b313_b314)).other W323 (Or.inl ne_b313_b314)) ((((F313_value.ext E314).other W316 (Or.inl ne_b313_b314)).other W320 (Or.inl ne_b313_b314)).other W323 (Or.inl ne_b313_b314)) ge_b313 V323 (((((SC.ext E313).ext E314).wr W316).wr W320).wr W323) hcs pr326 hch327) hZ (hw _ (List.mem_of_getElem? (i := 13) rfl)) (hw _ (List.mem_of_getElem? (i := 10) rfl)) (by decide) (by decide) hEL ((Rb318.trans (CHr.wr W320 Sf321 Rb318.1)).trans (CHr.wr W323 Sf324 (Rb318.trans (CHr.wr W320 Sf321 Rb318.1)).1)).1) (g := (mkF m 95 #[.val (.ref a1), .val (.int (3 : Int32))] [(.ref b314), (.ref b313), (.ref b313)])) rfl (by rw [hml]; rfl) (Steps.refl _) (a := b313) (argsL := [(.ref b314)]) (rest := [(.ref b313)]) (lenOf pd_2 rfl) rfl (by show 2 * 0 + _ ≤ _; exact Nat.le_of_eq rfl) (hb hby d_method_3_code_95) (fun _ _ => ⟨rfl, e323, (by decide : 2 + 4 ≤ _), (by decide : 7 + 8 ≤ _)⟩)
    dsimp only [Pt.U, Pt.locs, Pt.cells, Pt.slots] at X325 hT325 gr325 l325 y325 z325 st325 hQ325 cr325
    subst l325 y325 z325
    obtain ⟨X325, hS325, hZ, hown⟩ := rebS hS0 (Nat.le_trans (Nat.le_trans (Nat.le_trans (Nat.le_trans (Nat.le_trans hk0 E313.1) E314.1) (Keep.of_wr W316).1) (Keep.of_wr W320).1) (Keep.of_wr W323).1) X325 hT325 (by rw [← e323]; exact gr325) hZ hown
    obtain ⟨rb325, rfl, N325q, hQ325⟩ := hQ325
    have N325 := Fr.app N323 N325q
    obtain ⟨K325, Ex325, Fa325, Fb325, V325⟩ := hQ325
    have Fb328 := (Nat.le_trans (Nat.le_trans (Nat.le_trans (Nat.le_trans (Nat.le_trans (Nat.le_trans hk0 E313.1) E314.1) (Keep.of_wr W316).1) (Keep.of_wr W320).1) (Keep.of_wr W323).1) K325.1)
    have Fb329 := (Nat.le_trans (Nat.le_trans (Nat.le_trans (Nat.le_trans (Nat.le_trans (Nat.le_trans Z0 E313.1) E314.1) (Keep.of_wr W316).1) (Keep.of_wr W320).1) (Keep.of_wr W323).1) K325.1)
    have Fb330 := (((((((Keep.refl h0 []).ext E313).ext E314).wr W316 (Or.inr sz_b314)).wr W320 (Or.inr sz_b314)).wr W323 (Or.inr sz_b314)).trans K325 (allS (Or.inr sz_b313) all0))
    refine Rch.via (T' := T325) (g' := (mkF m 98 #[.val (.ref a1), .val (.int (3 : Int32))] [(.ref b313)])) st325 ?_
    have hcg331 : ∀ q, q < 3 → Value.int ((y323 q).toInt8.toInt32) = Value.int ((y q).toInt8.toInt32) := by
      intro q hq
      rw [hy323, hy320, hy316]
      rcases (show q = 0 ∨ q = 1 ∨ q = 2 by omega) with rfl | rfl | rfl
      · exact congrArg (fun x : Int32 => Value.int x.toInt8.toInt32) (own_i2c (hy.at (by decide : 0 < 5)))
      · exact congrArg (fun x : Int32 => Value.int x.toInt8.toInt32) (own_i2c (hy.at (by decide : 1 < 5)))
      · exact congrArg (fun x : Int32 => Value.int x.toInt8.toInt32) (own_i2c (hy.at (by decide : 2 < 5)))
    exact Rch.retA X325 hx (w := (.ref b313)) hret rfl rfl hlk (hb hby d_method_3_code_98) (fun U hU hF => hK _ U _ _ _ (by show Q_rk2 Z a1 y k cs h0 n0 _ U.heap _; rw [hU]; exact ⟨b313, rb325, rfl, N325, Fb330, Ex325, Fa325, Fb325, (by rw [ek]; exact Av.congr V325 hcg331)⟩) (own_endH hZ hEL (((Rb318.trans (CHr.wr W320 Sf321 Rb318.1)).trans (CHr.wr W323 Sf324 (Rb318.trans (CHr.wr W320 Sf321 Rb318.1)).1)).trans cr325) hU hF) (own_end hS325 (by rw [hU]; exact (Nat.le_refl _)) hF) (by decide) (by decide))
  · skip
    have sw332 : (Int32.ofNat k) = (4 : Int32) := by rw [ek]; rfl
    rw [sw332]
    show Rch p e below K T0 (mkF m 0 #[.val (.ref a1), .val (.int (4 : Int32))] [])
    refine Rch.of (T' := T0) (g' := (mkF m 1 #[.val (.ref a1), .val (.int (4 : Int32))] [(.int (4 : Int32))])) (fun _ kt => XS.iloadN X0.here hx rfl (hb hby d_method_3_code_0) rfl  kt) ?_
    refine Rch.of (T' := T0) (g' := (mkF m 15 #[.val (.ref a1), .val (.int (4 : Int32))] [])) (fun _ kt => XS.ifYes X0.here hx rfl (pc0 := 1) (pc' := 15) rfl (hb hby d_method_3_code_1) rfl ((if0 _ _).trans (feq ((by decide) : ¬ ((4 : Int32) = (0 : Int32)))).2) (by decide) (by decide) kt) ?_
    refine Rch.of (T' := T0) (g' := (mkF m 16 #[.val (.ref a1), .val (.int (4 : Int32))] [(.int (4 : Int32))])) (fun _ kt => XS.iloadN X0.here hx rfl (hb hby d_method_3_code_15) rfl  kt) ?_
    refine Rch.of (T' := T0) (g' := (mkF m 17 #[.val (.ref a1), .val (.int (4 : Int32))] [(.int (1 : Int32)), (.int (4 : Int32))])) (fun _ kt => XS.iconst X0.here hx rfl (hb hby d_method_3_code_16) kt) ?_
    refine Rch.of (T' := T0) (g' := (mkF m 37 #[.val (.ref a1), .val (.int (4 : Int32))] [])) (fun _ kt => XS.icmpYes X0.here hx rfl (pc0 := 17) (pc' := 37) rfl (hb hby d_method_3_code_17) rfl (feq ((by decide) : ¬ ((4 : Int32) = (1 : Int32)))).2 (by decide) (by decide) kt) ?_
    refine Rch.of (T' := T0) (g' := (mkF m 38 #[.val (.ref a1), .val (.int (4 : Int32))] [(.int (4 : Int32))])) (fun _ kt => XS.iloadN X0.here hx rfl (hb hby d_method_3_code_37) rfl  kt) ?_
    refine Rch.of (T' := T0) (g' := (mkF m 39 #[.val (.ref a1), .val (.int (4 : Int32))] [(.int (2 : Int32)), (.int (4 : Int32))])) (fun _ kt => XS.iconst X0.here hx rfl (hb hby d_method_3_code_38) kt) ?_
    refine Rch.of (T' := T0) (g' := (mkF m 65 #[.val (.ref a1), .val (.int (4 : Int32))] [])) (fun _ kt => XS.icmpYes X0.here hx rfl (pc0 := 39) (pc' := 65) rfl (hb hby d_method_3_code_39) rfl (feq ((by decide) : ¬ ((4 : Int32) = (2 : Int32)))).2 (by decide) (by decide) kt) ?_
    refine Rch.of (T' := T0) (g' := (mkF m 66 #[.val (.ref a1), .val (.int (4 : Int32))] [(.int (4 : Int32))])) (fun _ kt => XS.iloadN X0.here hx rfl (hb hby d_method_3_code_65) rfl  kt) ?_
    refine Rch.of (T' := T0) (g' := (mkF m 67 #[.val (.ref a1), .val (.int (4 : Int32))] [(.int (3 : Int32)), (.int (4 : Int32))])) (fun _ kt => XS.iconst X0.here hx rfl (hb hby d_method_3_code_66) kt) ?_
    refine Rch.of (T' := T0) (g' := (mkF m 99 #[.val (.ref a1), .val (.int (4 : Int32))] [])) (fun _ kt => XS.icmpYes X0.here hx rfl (pc0 := 67) (pc' := 99) rfl (hb hby d_method_3_code_67) rfl (feq ((by decide) : ¬ ((4 : Int32) = (3 : Int32)))).2 (by decide) (by decide) kt) ?_
    refine Rch.of (T' := T0) (g' := (mkF m 100 #[.val (.ref a1), .val (.int (4 : Int32))] [(.int (4 : Int32))])) (fun _ kt => XS.iloadN X0.here hx rfl (hb hby d_method_3_code_99) rfl  kt) ?_
    refine Rch.of (T' := T0) (g' := (mkF m 101 #[.val (.ref a1), .val (.int (4 : Int32))] [(.int (4 : Int32)), (.int (4 : Int32))])) (fun _ kt => XS.iconst X0.here hx rfl (hb hby d_method_3_code_100) kt) ?_
    refine Rch.of (T' := T0) (g' := (mkF m 104 #[.val (.ref a1), .val (.int (4 : Int32))] [])) (fun _ kt => XS.icmpNo X0.here hx rfl (hb hby d_method_3_code_101) rfl (teq ((by decide) : (4 : Int32) = (4 : Int32))).2 kt) ?_
    obtain ⟨T333, h333, X333, e333, E333, A333, D333, -, st333⟩ := newO X0 hx hZ hown (hw _ (List.mem_of_getElem? (i := 8) rfl)) (hw _ (List.mem_of_getElem? (i := 9) rfl)) (hw _ (List.mem_of_getElem? (i := 10) rfl)) e0 (g := (mkF m 104 #[.val (.ref a1), .val (.int (4 : Int32))] [])) rfl (hb hby d_method_3_code_104) (by decide) (by decide)
    obtain ⟨b333, g333⟩ : ∃ zz_, zz_ = h0.size := ⟨_, rfl⟩
    have ne_a1_b333 : a1 ≠ b333 := Nat.ne_of_lt (Nat.lt_of_lt_of_le V1.lt (Nat.le_of_eq g333.symm))
    have ge_b333 : n0 ≤ b333 := Nat.le_trans Z0 (Nat.le_of_eq g333.symm)
    have sz_b333 : h0.size ≤ b333 := Nat.le_trans (Keep.refl h0 []).1 (Nat.le_of_eq g333.symm)
    rw [← g333] at A333 D333 st333
    have F333_value : Fld Z h333 b333 "java/lang/String" "value" "[B" .null := D333 (Or.inr (hw _ (List.mem_of_getElem? (i := 23) rfl))) (ty := (.array .byte)) (by decide)
    have F333_coder : Fld Z h333 b333 "java/lang/String" "coder" "B" (.int (0 : Int32)) := D333 (Or.inr (hw _ (List.mem_of_getElem? (i := 24) rfl))) (ty := .byte) (by decide)
    refine Rch.of (T' := T333) (g' := (mkF m 107 #[.val (.ref a1), .val (.int (4 : Int32))] [(.ref b333)])) st333 ?_
    refine Rch.of (T' := T333) (g' := (mkF m 108 #[.val (.ref a1), .val (.int (4 : Int32))] [(.ref b333), (.ref b333)])) (fun _ kt => XS.dup X333.here hx rfl (hb hby d_method_3_code_107) rfl rfl kt) ?_
    refine Rch.of (T' := T333) (g' := (mkF m 109 #[.val (.ref a1), .val (.int (4 : Int32))] [(.int (4 : Int32)), (.ref b333), (.ref b333)])) (fun _ kt => XS.iconst X333.here hx rfl (hb hby d_method_3_code_108) kt) ?_
    obtain ⟨T334, h334, k334, X334, e334, E334, A334, Q334, st334⟩ := newPE X333 hx hZ (hw _ (List.mem_of_getElem? (i := 0) rfl)) e333 (g := (mkF m 109 #[.val (.ref a1), .val (.int (4 : Int32))] [(.int (4 : Int32)), (.ref b333), (.ref b333)])) rfl (hb hby d_method_3_code_109) rfl (by decide) (cap := 4) (by decide) (by decide) (by decide) (by decide) (ad := "[C") rfl
    obtain ⟨b334, g334⟩ : ∃ zz_, zz_ = h333.size := ⟨_, rfl⟩
    have ne_a1_b334 : a1 ≠ b334 := Nat.ne_of_lt (Nat.lt_of_lt_of_le (V1.ext E333).lt (Nat.le_of_eq g334.symm))
    have ne_b333_b334 : b333 ≠ b334 := Nat.ne_of_lt (Nat.lt_of_lt_of_le A333.lt (Nat.le_of_eq g334.symm))
    have ge_b334 : n0 ≤ b334 := Nat.le_trans (Nat.le_trans Z0 E333.1) (Nat.le_of_eq g334.symm)
    have sz_b334 : h0.size ≤ b334 := Nat.le_trans ((Keep.refl h0 []).ext E333).1 (Nat.le_of_eq g334.symm)
    rw [← g334] at A334 Q334 st334
    have V334 : Av Z h334 b334 .char 4 (fun _ => (.int (0 : Int32))) := Av.new A334 (by decide)
    refine Rch.of (T' := T334) (g' := (mkF m 111 #[.val (.ref a1), .val (.int (4 : Int32))] [(.ref b334), (.ref b333), (.ref b333)])) st334 ?_
    refine Rch.of (T' := T334) (g' := (mkF m 112 #[.val (.ref a1), .val (.int (4 : Int32))] [(.ref b334), (.ref b334), (.ref b333), (.ref b333)])) (fun _ kt => XS.dup X334.here hx rfl (hb hby d_method_3_code_111) rfl rfl kt) ?_
    refine Rch.of (T' := T334) (g' := (mkF m 113 #[.val (.ref a1), .val (.int (4 : Int32))] [(.int (0 : Int32)), (.ref b334), (.ref b334), (.ref b333), (.ref b333)])) (fun _ kt => XS.iconst X334.here hx rfl (hb hby d_method_3_code_112) kt) ?_
    refine Rch.of (T' := T334) (g' := (mkF m 114 #[.val (.ref a1), .val (.int (4 : Int32))] [(.ref a1), (.int (0 : Int32)), (.ref b334), (.ref b334), (.ref b333), (.ref b333)])) (fun _ kt => XS.aloadN X334.here hx rfl (hb hby d_method_3_code_113) rfl rfl kt) ?_
    refine Rch.of (T' := T334) (g' := (mkF m 115 #[.val (.ref a1), .val (.int (4 : Int32))] [(.int (0 : Int32)), (.ref a1), (.int (0 : Int32)), (.ref b334), (.ref b334), (.ref b333), (.ref b333)])) (fun _ kt => XS.iconst X334.here hx rfl (hb hby d_method_3_code_114) kt) ?_
    obtain ⟨cl335, Ar335, Sz335, Ha335⟩ := id ((V1.ext E333).ext E334)
    refine Rch.of (T' := T334) (g' := (mkF m 116 #[.val (.ref a1), .val (.int (4 : Int32))] [(.int (y 0)), (.int (0 : Int32)), (.ref b334), (.ref b334), (.ref b333), (.ref b333)])) (X334.caload hx (j := (0 : Int32)) (v := (.int (y 0))) (by rw [e334]; exact Ar335.1) (State.isArrayOf_alike hZ.alike Ar335.2.1) Ar335.2.2 (oIn (i := 0) Sz335 (by decide) (by decide)) (oAt (i := 0) Ha335 (by decide) (by decide)) (g := (mkF m 115 #[.val (.ref a1), .val (.int (4 : Int32))] [(.int (0 : Int32)), (.ref a1), (.int (0 : Int32)), (.ref b334), (.ref b334), (.ref b333), (.ref b333)])) rfl rfl (hb hby d_method_3_code_115)) ?_
    obtain ⟨cl336, Ar336, Sz336, Ha336⟩ := id V334
    obtain ⟨T336, h336, X336, e336, W336, st336⟩ := stC X334 hx hZ e334 Ar336 (j := (0 : Int32)) (oIn (i := 0) Sz336 (by decide) (by decide)) (g := (mkF m 116 #[.val (.ref a1), .val (.int (4 : Int32))] [(.int (y 0)), (.int (0 : Int32)), (.ref b334), (.ref b334), (.ref b333), (.ref b333)])) rfl rfl (hb hby d_method_3_code_116)
    have V336 := Av.setI (i := 0) V334 (by decide) (by decide) W336
    obtain ⟨y336, hy336⟩ : ∃ zz_ : Nat → Int32, zz_ = fun q => if q = 0 then (y 0).toUInt32.toUInt16.toUInt32.toInt32 else (fun _ => (0 : Int32)) q := ⟨_, rfl⟩
    have V336 : Av Z h336 b334 .char 4 (fun q => .int (y336 q)) := by rw [hy336]; exact V336
    have N336 := Fr.snoc X336 N0 ge_b334
    have Sf337 : Safe Z consts_1 s.vm h334 b334 := (Safe.exa hZ.alike Q334 (by decide) (by decide))
    have Rb338 := (((R0.trans (CHr.ext E333 R0.1)).trans (CHr.ext E334 (R0.trans (CHr.ext E333 R0.1)).1)).trans (CHr.wr W336 Sf337 ((R0.trans (CHr.ext E333 R0.1)).trans (CHr.ext E334 (R0.trans (CHr.ext E333 R0.1)).1)).1))
    refine Rch.of (T' := T336) (g' := (mkF m 117 #[.val (.ref a1), .val (.int (4 : Int32))] [(.ref b334), (.ref b333), (.ref b333)])) st336 ?_
    refine Rch.of (T' := T336) (g' := (mkF m 118 #[.val (.ref a1), .val (.int (4 : Int32))] [(.ref b334), (.ref b334), (.ref b333), (.ref b333)])) (fun _ kt => XS.dup X336.here hx rfl (hb hby d_method_3_code_117) rfl rfl kt) ?_
    refine Rch.of (T' := T336) (g' := (mkF m 119 #[.val (.ref a1), .val (.int (4 : Int32))] [(.int (1 : Int32)), (.ref b334), (.ref b334), (.ref b333), (.ref b333)])) (fun _ kt => XS.iconst X336.here hx rfl (hb hby d_method_3_code_118) kt) ?_
    refine Rch.of (T' := T336) (g' := (mkF m 120 #[.val (.ref a1), .val (.int (4 : Int32))] [(.ref a1), (.int (1 : Int32)), (.ref b334), (.ref b334), (.ref b333), (.ref b333)])) (fun _ kt => XS.aloadN X336.here hx rfl (hb hby d_method_3_code_119) rfl rfl kt) ?_
    refine Rch.of (T' := T336) (g' := (mkF m 121 #[.val (.ref a1), .val (.int (4 : Int32))] [(.int (1 : Int32)), (.ref a1), (.int (1 : Int32)), (.ref b334), (.ref b334), (.ref b333), (.ref b333)])) (fun _ kt => XS.iconst X336.here hx rfl (hb hby d_method_3_code_120) kt) ?_
    obtain ⟨cl339, Ar339, Sz339, Ha339⟩ := id (((V1.ext E333).ext E334).other W336 ne_a1_b334)
    refine Rch.of (T' := T336) (g' := (mkF m 122 #[.val (.ref a1), .val (.int (4 : Int32))] [(.int (y 1)), (.int (1 : Int32)), (.ref b334), (.ref b334), (.ref b333), (.ref b333)])) (X336.caload hx (j := (1 : Int32)) (v := (.int (y 1))) (by rw [e336]; exact Ar339.1) (State.isArrayOf_alike hZ.alike Ar339.2.1) Ar339.2.2 (oIn (i := 1) Sz339 (by decide) (by decide)) (oAt (i := 1) Ha339 (by decide) (by decide)) (g := (mkF m 121 #[.val (.ref a1), .val (.int (4 : Int32))] [(.int (1 : Int32)), (.ref a1), (.int (1 : Int32)), (.ref b334), (.ref b334), (.ref b333), (.ref b333)])) rfl rfl (hb hby d_method_3_code_121)) ?_
    obtain ⟨cl340, Ar340, Sz340, Ha340⟩ := id V336
    obtain ⟨T340, h340, X340, e340, W340, st340⟩ := stC X336 hx hZ e336 Ar340 (j := (1 : Int32)) (oIn (i := 1) Sz340 (by decide) (by decide)) (g := (mkF m 122 #[.val (.ref a1), .val (.int (4 : Int32))] [(.int (y 1)), (.int (1 : Int32)), (.ref b334), (.ref b334), (.ref b333), (.ref b333)])) rfl rfl (hb hby d_method_3_code_122)
    have V340 := Av.setI (i := 1) V336 (by decide) (by decide) W340
    obtain ⟨y340, hy340⟩ : ∃ zz_ : Nat → Int32, zz_ = fun q => if q = 1 then (y 1).toUInt32.toUInt16.toUInt32.toInt32 else y336 q := ⟨_, rfl⟩
    have V340 : Av Z h340 b334 .char 4 (fun q => .int (y340 q)) := by rw [hy340]; exact V340
    have N340 := Fr.snoc X340 N336 ge_b334
    have Sf341 : Safe Z consts_1 s.vm h336 b334 := (Safe.exa hZ.alike (Q334.wr W336) (by decide) (by decide))
    refine Rch.of (T' := T340) (g' := (mkF m 123 #[.val (.ref a1), .val (.int (4 : Int32))] [(.ref b334), (.ref b333), (.ref b333)])) st340 ?_
    refine Rch.of (T' := T340) (g' := (mkF m 124 #[.val (.ref a1), .val (.int (4 : Int32))] [(.ref b334), (.ref b334), (.ref b333), (.ref b333)])) (fun _ kt => XS.dup X340.here hx rfl (hb hby d_method_3_code_123) rfl rfl kt) ?_
    refine Rch.of (T' := T340) (g' := (mkF m 125 #[.val (.ref a1), .val (.int (4 : Int32))] [(.int (2 : Int32)), (.ref b334), (.ref b334), (.ref b333), (.ref b333)])) (fun _ kt => XS.iconst X340.here hx rfl (hb hby d_method_3_code_124) kt) ?_
    refine Rch.of (T' := T340) (g' := (mkF m 126 #[.val (.ref a1), .val (.int (4 : Int32))] [(.ref a1), (.int (2 : Int32)), (.ref b334), (.ref b334), (.ref b333), (.ref b333)])) (fun _ kt => XS.aloadN X340.here hx rfl (hb hby d_method_3_code_125) rfl rfl kt) ?_
    refine Rch.of (T' := T340) (g' := (mkF m 127 #[.val (.ref a1), .val (.int (4 : Int32))] [(.int (2 : Int32)), (.ref a1), (.int (2 : Int32)), (.ref b334), (.ref b334), (.ref b333), (.ref b333)])) (fun _ kt => XS.iconst X340.here hx rfl (hb hby d_method_3_code_126) kt) ?_
    obtain ⟨cl342, Ar342, Sz342, Ha342⟩ := id ((((V1.ext E333).ext E334).other W336 ne_a1_b334).other W340 ne_a1_b334)
    refine Rch.of (T' := T340) (g' := (mkF m 128 #[.val (.ref a1), .val (.int (4 : Int32))] [(.int (y 2)), (.int (2 : Int32)), (.ref b334), (.ref b334), (.ref b333), (.ref b333)])) (X340.caload hx (j := (2 : Int32)) (v := (.int (y 2))) (by rw [e340]; exact Ar342.1) (State.isArrayOf_alike hZ.alike Ar342.2.1) Ar342.2.2 (oIn (i := 2) Sz342 (by decide) (by decide)) (oAt (i := 2) Ha342 (by decide) (by decide)) (g := (mkF m 127 #[.val (.ref a1), .val (.int (4 : Int32))] [(.int (2 : Int32)), (.ref a1), (.int (2 : Int32)), (.ref b334), (.ref b334), (.ref b333), (.ref b333)])) rfl rfl (hb hby d_method_3_code_127)) ?_
    obtain ⟨cl343, Ar343, Sz343, Ha343⟩ := id V340
    obtain ⟨T343, h343, X343, e343, W343, st343⟩ := stC X340 hx hZ e340 Ar343 (j := (2 : Int32)) (oIn (i := 2) Sz343 (by decide) (by decide)) (g := (mkF m 128 #[.val (.ref a1), .val (.int (4 : Int32))] [(.int (y 2)), (.int (2 : Int32)), (.ref b334), (.ref b334), (.ref b333), (.ref b333)])) rfl rfl (hb hby d_method_3_code_128)
    have V343 := Av.setI (i := 2) V340 (by decide) (by decide) W343
    obtain ⟨y343, hy343⟩ : ∃ zz_ : Nat → Int32, zz_ = fun q => if q = 2 then (y 2).toUInt32.toUInt16.toUInt32.toInt32 else y340 q := ⟨_, rfl⟩
    have V343 : Av Z h343 b334 .char 4 (fun q => .int (y343 q)) := by rw [hy343]; exact V343
    have N343 := Fr.snoc X343 N340 ge_b334
    have Sf344 : Safe Z consts_1 s.vm h340 b334 := (Safe.exa hZ.alike ((Q334.wr W336).wr W340) (by decide) (by decide))
    refine Rch.of (T' := T343) (g' := (mkF m 129 #[.val (.ref a1), .val (.int (4 : Int32))] [(.ref b334), (.ref b333), (.ref b333)])) st343 ?_
    refine Rch.of (T' := T343) (g' := (mkF m 130 #[.val (.ref a1), .val (.int (4 : Int32))] [(.ref b334), (.ref b334), (.ref b333), (.ref b333)])) (fun _ kt => XS.dup X343.here hx rfl (hb hby d_method_3_code_129) rfl rfl kt) ?_
    refine Rch.of (T' := T343) (g' := (mkF m 131 #[.val (.ref a1), .val (.int (4 : Int32))] [(.int (3 : Int32)), (.ref b334), (.ref b334), (.ref b333), (.ref b333)])) (fun _ kt => XS.iconst X343.here hx rfl (hb hby d_method_3_code_130) kt) ?_
    refine Rch.of (T' := T343) (g' := (mkF m 132 #[.val (.ref a1), .val (.int (4 : Int32))] [(.ref a1), (.int (3 : Int32)), (.ref b334), (.ref b334), (.ref b333), (.ref b333)])) (fun _ kt => XS.aloadN X343.here hx rfl (hb hby d_method_3_code_131) rfl rfl kt) ?_
    refine Rch.of (T' := T343) (g' := (mkF m 133 #[.val (.ref a1), .val (.int (4 : Int32))] [(.int (3 : Int32)), (.ref a1), (.int (3 : Int32)), (.ref b334), (.ref b334), (.ref b333), (.ref b333)])) (fun _ kt => XS.iconst X343.here hx rfl (hb hby d_method_3_code_132) kt) ?_
    obtain ⟨cl345, Ar345, Sz345, Ha345⟩ := id (((((V1.ext E333).ext E334).other W336 ne_a1_b334).other W340 ne_a1_b334).other W343 ne_a1_b334)
    refine Rch.of (T' := T343) (g' := (mkF m 134 #[.val (.ref a1), .val (.int (4 : Int32))] [(.int (y 3)), (.int (3 : Int32)), (.ref b334), (.ref b334), (.ref b333), (.ref b333)])) (X343.caload hx (j := (3 : Int32)) (v := (.int (y 3))) (by rw [e343]; exact Ar345.1) (State.isArrayOf_alike hZ.alike Ar345.2.1) Ar345.2.2 (oIn (i := 3) Sz345 (by decide) (by decide)) (oAt (i := 3) Ha345 (by decide) (by decide)) (g := (mkF m 133 #[.val (.ref a1), .val (.int (4 : Int32))] [(.int (3 : Int32)), (.ref a1), (.int (3 : Int32)), (.ref b334), (.ref b334), (.ref b333), (.ref b333)])) rfl rfl (hb hby d_method_3_code_133)) ?_
    obtain ⟨cl346, Ar346, Sz346, Ha346⟩ := id V343
    obtain ⟨T346, h346, X346, e346, W346, st346⟩ := stC X343 hx hZ e343 Ar346 (j := (3 : Int32)) (oIn (i := 3) Sz346 (by decide) (by decide)) (g := (mkF m 134 #[.val (.ref a1), .val (.int (4 : Int32))] [(.int (y 3)), (.int (3 : Int32)), (.ref b334), (.ref b334), (.ref b333), (.ref b333)])) rfl rfl (hb hby d_method_3_code_134)
    have V346 := Av.setI (i := 3) V343 (by decide) (by decide) W346
    obtain ⟨y346, hy346⟩ : ∃ zz_ : Nat → Int32, zz_ = fun q => if q = 3 then (y 3).toUInt32.toUInt16.toUInt32.toInt32 else y343 q := ⟨_, rfl⟩
    have V346 : Av Z h346 b334 .char 4 (fun q => .int (y346 q)) := by rw [hy346]; exact V346
    have N346 := Fr.snoc X346 N343 ge_b334
    have Sf347 : Safe Z consts_1 s.vm h343 b334 := (Safe.exa hZ.alike (((Q334.wr W336).wr W340).wr W343) (by decide) (by decide))
    have Rb348 := (((Rb338.trans (CHr.wr W340 Sf341 Rb338.1)).trans (CHr.wr W343 Sf344 (Rb338.trans (CHr.wr W340 Sf341 Rb338.1)).1)).trans (CHr.wr W346 Sf347 ((Rb338.trans (CHr.wr W340 Sf341 Rb338.1)).trans (CHr.wr W343 Sf344 (Rb338.trans (CHr.wr W340 Sf341 Rb338.1)).1)).1))
    have Fb349 := (Nat.le_trans (Nat.le_trans (Nat.le_trans (Nat.le_trans (Nat.le_trans (Nat.le_trans hk0 E333.1) E334.1) (Keep.of_wr W336).1) (Keep.of_wr W340).1) (Keep.of_wr W343).1) (Keep.of_wr W346).1)
    have Fb350 := (((((F333_value.ext E334).other W336 (Or.inl ne_b333_b334)).other W340 (Or.inl ne_b333_b334)).other W343 (Or.inl ne_b333_b334)).other W346 (Or.inl ne_b333_b334))
    have Fb351 := (((((F333_coder.ext E334).other W336 (Or.inl ne_b333_b334)).other W340 (Or.inl ne_b333_b334)).other W343 (Or.inl ne_b333_b334)).other W346 (Or.inl ne_b333_b334))
    have Fb352 := (Nat.le_trans (Nat.le_trans (Nat.le_trans (Nat.le_trans (Nat.le_trans (Nat.le_trans Z0 E333.1) E334.1) (Keep.of_wr W336).1) (Keep.of_wr W340).1) (Keep.of_wr W343).1) (Keep.of_wr W346).1)
    refine Rch.of (T' := T346) (g' := (mkF m 135 #[.val (.ref a1), .val (.int (4 : Int32))] [(.ref b334), (.ref b333), (.ref b333)])) st346 ?_
    have pr354 : 4 ≤ 5 := by omega
    have hch355 : own_ch 4 y346 := by
      intro q hq
      rw [hy346, hy343, hy340, hy336]
      rcases (show q = 0 ∨ q = 1 ∨ q = 2 ∨ q = 3 by omega) with rfl | rfl | rfl | rfl
      · exact own_c1i (hy.at (by decide : 0 < 5))
      · exact own_c1i (hy.at (by decide : 1 < 5))
      · exact own_c1i (hy.at (by decide : 2 < 5))
      · exact own_c1i (hy.at (by decide : 3 < 5))
    obtain ⟨_, _, ⟨T353, L353, k353, n353⟩, -, X353, hT353, gr353, ⟨Lc353, hQ353, l353, y353, z353, cr353⟩, st353⟩ := X346.specialBackS hx (y := (⟨"java/lang/String", "<init>", "([C)V"⟩ : MethodName)) rfl hown (mvT hZ (hw _ (List.mem_of_getElem? (i := 11) rfl))) (mvT hZ (hw _ (List.mem_of_getElem? (i := 12) rfl))) (mvT hZ (hw _ (List.mem_of_getElem? (i := 13) rfl))) (by decide) (backOfSH (s := s) (vm0 := s.vm) (EL := consts_1) (W := 1) (rqN1 l Z a0 hw [] b333 b334 4 y346 (.int (0 : Int32)) cs h346 n0 Fb352 (((((A333.ext E334).wr W336).wr W340).wr W343).wr W346) Fb351 Fb350 ge_b333 V346 ((((((SC.ext E333).ext E334).wr W336).wr W340).wr W343).wr W346) hcs pr354 hch355) hZ (hw _ (List.mem_of_getElem? (i := 13) rfl)) (hw _ (List.mem_of_getElem? (i := 10) rfl)) (by decide) (by decide) hEL Rb348.1) (g := (mkF m 135 #[.val (.ref a1), .val (.int (4 : Int32))] [(.ref b334), (.ref b333), (.ref b333)])) rfl (by rw [hml]; rfl) (Steps.refl _) (a := b333) (argsL := [(.ref b334)]) (rest := [(.ref b333)]) (lenOf pd_2 rfl) rfl (by show 2 * 0 + _ ≤ _; exact Nat.le_of_eq rfl) (hb hby d_method_3_code_135) (fun _ _ => ⟨rfl, e346, (by decide : 2 + 4 ≤ _), (by decide : 8 + 8 ≤ _)⟩)
    dsimp only [Pt.U, Pt.locs, Pt.cells, Pt.slots] at X353 hT353 gr353 l353 y353 z353 st353 hQ353 cr353
    subst l353 y353 z353
    obtain ⟨X353, hS353, hZ, hown⟩ := rebS hS0 Fb349 X353 hT353 (by rw [← e346]; exact gr353) hZ hown
    obtain ⟨rb353, rfl, N353q, hQ353⟩ := hQ353
    have N353 := Fr.app N346 N353q
    obtain ⟨K353, Ex353, Fa353, Fb353, V353⟩ := hQ353
    have Fb356 := ((((((((Keep.refl h0 []).ext E333).ext E334).wr W336 (Or.inr sz_b334)).wr W340 (Or.inr sz_b334)).wr W343 (Or.inr sz_b334)).wr W346 (Or.inr sz_b334)).trans K353 (allS (Or.inr sz_b333) all0))
    refine Rch.via (T' := T353) (g' := (mkF m 138 #[.val (.ref a1), .val (.int (4 : Int32))] [(.ref b333)])) st353 ?_
    have hcg357 : ∀ q, q < 4 → Value.int ((y346 q).toInt8.toInt32) = Value.int ((y q).toInt8.toInt32) := by
      intro q hq
      rw [hy346, hy343, hy340, hy336]
      rcases (show q = 0 ∨ q = 1 ∨ q = 2 ∨ q = 3 by omega) with rfl | rfl | rfl | rfl
      · exact congrArg (fun x : Int32 => Value.int x.toInt8.toInt32) (own_i2c (hy.at (by decide : 0 < 5)))
      · exact congrArg (fun x : Int32 => Value.int x.toInt8.toInt32) (own_i2c (hy.at (by decide : 1 < 5)))
      · exact congrArg (fun x : Int32 => Value.int x.toInt8.toInt32) (own_i2c (hy.at (by decide : 2 < 5)))
      · exact congrArg (fun x : Int32 => Value.int x.toInt8.toInt32) (own_i2c (hy.at (by decide : 3 < 5)))
    exact Rch.retA X353 hx (w := (.ref b333)) hret rfl rfl hlk (hb hby d_method_3_code_138) (fun U hU hF => hK _ U _ _ _ (by show Q_rk2 Z a1 y k cs h0 n0 _ U.heap _; rw [hU]; exact ⟨b333, rb353, rfl, N353, Fb356, Ex353, Fa353, Fb353, (by rw [ek]; exact Av.congr V353 hcg357)⟩) (own_endH hZ hEL (Rb348.trans cr353) hU hF) (own_end hS353 (by rw [hU]; exact (Nat.le_refl _)) hF) (by decide) (by decide))
  · skip
    have sw358 : (Int32.ofNat k) = (5 : Int32) := by rw [ek]; rfl
    rw [sw358]
    show Rch p e below K T0 (mkF m 0 #[.val (.ref a1), .val (.int (5 : Int32))] [])
    refine Rch.of (T' := T0) (g' := (mkF m 1 #[.val (.ref a1), .val (.int (5 : Int32))] [(.int (5 : Int32))])) (fun _ kt => XS.iloadN X0.here hx rfl (hb hby d_method_3_code_0) rfl  kt) ?_
    refine Rch.of (T' := T0) (g' := (mkF m 15 #[.val (.ref a1), .val (.int (5 : Int32))] [])) (fun _ kt => XS.ifYes X0.here hx rfl (pc0 := 1) (pc' := 15) rfl (hb hby d_method_3_code_1) rfl ((if0 _ _).trans (feq ((by decide) : ¬ ((5 : Int32) = (0 : Int32)))).2) (by decide) (by decide) kt) ?_
    refine Rch.of (T' := T0) (g' := (mkF m 16 #[.val (.ref a1), .val (.int (5 : Int32))] [(.int (5 : Int32))])) (fun _ kt => XS.iloadN X0.here hx rfl (hb hby d_method_3_code_15) rfl  kt) ?_
    refine Rch.of (T' := T0) (g' := (mkF m 17 #[.val (.ref a1), .val (.int (5 : Int32))] [(.int (1 : Int32)), (.int (5 : Int32))])) (fun _ kt => XS.iconst X0.here hx rfl (hb hby d_method_3_code_16) kt) ?_
    refine Rch.of (T' := T0) (g' := (mkF m 37 #[.val (.ref a1), .val (.int (5 : Int32))] [])) (fun _ kt => XS.icmpYes X0.here hx rfl (pc0 := 17) (pc' := 37) rfl (hb hby d_method_3_code_17) rfl (feq ((by decide) : ¬ ((5 : Int32) = (1 : Int32)))).2 (by decide) (by decide) kt) ?_
    refine Rch.of (T' := T0) (g' := (mkF m 38 #[.val (.ref a1), .val (.int (5 : Int32))] [(.int (5 : Int32))])) (fun _ kt => XS.iloadN X0.here hx rfl (hb hby d_method_3_code_37) rfl  kt) ?_
    refine Rch.of (T' := T0) (g' := (mkF m 39 #[.val (.ref a1), .val (.int (5 : Int32))] [(.int (2 : Int32)), (.int (5 : Int32))])) (fun _ kt => XS.iconst X0.here hx rfl (hb hby d_method_3_code_38) kt) ?_
    refine Rch.of (T' := T0) (g' := (mkF m 65 #[.val (.ref a1), .val (.int (5 : Int32))] [])) (fun _ kt => XS.icmpYes X0.here hx rfl (pc0 := 39) (pc' := 65) rfl (hb hby d_method_3_code_39) rfl (feq ((by decide) : ¬ ((5 : Int32) = (2 : Int32)))).2 (by decide) (by decide) kt) ?_
    refine Rch.of (T' := T0) (g' := (mkF m 66 #[.val (.ref a1), .val (.int (5 : Int32))] [(.int (5 : Int32))])) (fun _ kt => XS.iloadN X0.here hx rfl (hb hby d_method_3_code_65) rfl  kt) ?_
    refine Rch.of (T' := T0) (g' := (mkF m 67 #[.val (.ref a1), .val (.int (5 : Int32))] [(.int (3 : Int32)), (.int (5 : Int32))])) (fun _ kt => XS.iconst X0.here hx rfl (hb hby d_method_3_code_66) kt) ?_
    refine Rch.of (T' := T0) (g' := (mkF m 99 #[.val (.ref a1), .val (.int (5 : Int32))] [])) (fun _ kt => XS.icmpYes X0.here hx rfl (pc0 := 67) (pc' := 99) rfl (hb hby d_method_3_code_67) rfl (feq ((by decide) : ¬ ((5 : Int32) = (3 : Int32)))).2 (by decide) (by decide) kt) ?_
    refine Rch.of (T' := T0) (g' := (mkF m 100 #[.val (.ref a1), .val (.int (5 : Int32))] [(.int (5 : Int32))])) (fun _ kt => XS.iloadN X0.here hx rfl (hb hby d_method_3_code_99) rfl  kt) ?_
    refine Rch.of (T' := T0) (g' := (mkF m 101 #[.val (.ref a1), .val (.int (5 : Int32))] [(.int (4 : Int32)), (.int (5 : Int32))])) (fun _ kt => XS.iconst X0.here hx rfl (hb hby d_method_3_code_100) kt) ?_
    refine Rch.of (T' := T0) (g' := (mkF m 139 #[.val (.ref a1), .val (.int (5 : Int32))] [])) (fun _ kt => XS.icmpYes X0.here hx rfl (pc0 := 101) (pc' := 139) rfl (hb hby d_method_3_code_101) rfl (feq ((by decide) : ¬ ((5 : Int32) = (4 : Int32)))).2 (by decide) (by decide) kt) ?_
    obtain ⟨T359, h359, X359, e359, E359, A359, D359, -, st359⟩ := newO X0 hx hZ hown (hw _ (List.mem_of_getElem? (i := 8) rfl)) (hw _ (List.mem_of_getElem? (i := 9) rfl)) (hw _ (List.mem_of_getElem? (i := 10) rfl)) e0 (g := (mkF m 139 #[.val (.ref a1), .val (.int (5 : Int32))] [])) rfl (hb hby d_method_3_code_139) (by decide) (by decide)
    obtain ⟨b359, g359⟩ : ∃ zz_, zz_ = h0.size := ⟨_, rfl⟩
    have ne_a1_b359 : a1 ≠ b359 := Nat.ne_of_lt (Nat.lt_of_lt_of_le V1.lt (Nat.le_of_eq g359.symm))
    have ge_b359 : n0 ≤ b359 := Nat.le_trans Z0 (Nat.le_of_eq g359.symm)
    have sz_b359 : h0.size ≤ b359 := Nat.le_trans (Keep.refl h0 []).1 (Nat.le_of_eq g359.symm)
    rw [← g359] at A359 D359 st359
    have F359_value : Fld Z h359 b359 "java/lang/String" "value" "[B" .null := D359 (Or.inr (hw _ (List.mem_of_getElem? (i := 23) rfl))) (ty := (.array .byte)) (by decide)
    have F359_coder : Fld Z h359 b359 "java/lang/String" "coder" "B" (.int (0 : Int32)) := D359 (Or.inr (hw _ (List.mem_of_getElem? (i := 24) rfl))) (ty := .byte) (by decide)
    refine Rch.of (T' := T359) (g' := (mkF m 142 #[.val (.ref a1), .val (.int (5 : Int32))] [(.ref b359)])) st359 ?_
    refine Rch.of (T' := T359) (g' := (mkF m 143 #[.val (.ref a1), .val (.int (5 : Int32))] [(.ref b359), (.ref b359)])) (fun _ kt => XS.dup X359.here hx rfl (hb hby d_method_3_code_142) rfl rfl kt) ?_
    refine Rch.of (T' := T359) (g' := (mkF m 144 #[.val (.ref a1), .val (.int (5 : Int32))] [(.int (5 : Int32)), (.ref b359), (.ref b359)])) (fun _ kt => XS.iconst X359.here hx rfl (hb hby d_method_3_code_143) kt) ?_
    obtain ⟨T360, h360, k360, X360, e360, E360, A360, Q360, st360⟩ := newPE X359 hx hZ (hw _ (List.mem_of_getElem? (i := 0) rfl)) e359 (g := (mkF m 144 #[.val (.ref a1), .val (.int (5 : Int32))] [(.int (5 : Int32)), (.ref b359), (.ref b359)])) rfl (hb hby d_method_3_code_144) rfl (by decide) (cap := 5) (by decide) (by decide) (by decide) (by decide) (ad := "[C") rfl
    obtain ⟨b360, g360⟩ : ∃ zz_, zz_ = h359.size := ⟨_, rfl⟩
    have ne_a1_b360 : a1 ≠ b360 := Nat.ne_of_lt (Nat.lt_of_lt_of_le (V1.ext E359).lt (Nat.le_of_eq g360.symm))
    have ne_b359_b360 : b359 ≠ b360 := Nat.ne_of_lt (Nat.lt_of_lt_of_le A359.lt (Nat.le_of_eq g360.symm))
    have ge_b360 : n0 ≤ b360 := Nat.le_trans (Nat.le_trans Z0 E359.1) (Nat.le_of_eq g360.symm)
    have sz_b360 : h0.size ≤ b360 := Nat.le_trans ((Keep.refl h0 []).ext E359).1 (Nat.le_of_eq g360.symm)
    rw [← g360] at A360 Q360 st360
    have V360 : Av Z h360 b360 .char 5 (fun _ => (.int (0 : Int32))) := Av.new A360 (by decide)
    refine Rch.of (T' := T360) (g' := (mkF m 146 #[.val (.ref a1), .val (.int (5 : Int32))] [(.ref b360), (.ref b359), (.ref b359)])) st360 ?_
    refine Rch.of (T' := T360) (g' := (mkF m 147 #[.val (.ref a1), .val (.int (5 : Int32))] [(.ref b360), (.ref b360), (.ref b359), (.ref b359)])) (fun _ kt => XS.dup X360.here hx rfl (hb hby d_method_3_code_146) rfl rfl kt) ?_
    refine Rch.of (T' := T360) (g' := (mkF m 148 #[.val (.ref a1), .val (.int (5 : Int32))] [(.int (0 : Int32)), (.ref b360), (.ref b360), (.ref b359), (.ref b359)])) (fun _ kt => XS.iconst X360.here hx rfl (hb hby d_method_3_code_147) kt) ?_
    refine Rch.of (T' := T360) (g' := (mkF m 149 #[.val (.ref a1), .val (.int (5 : Int32))] [(.ref a1), (.int (0 : Int32)), (.ref b360), (.ref b360), (.ref b359), (.ref b359)])) (fun _ kt => XS.aloadN X360.here hx rfl (hb hby d_method_3_code_148) rfl rfl kt) ?_
    refine Rch.of (T' := T360) (g' := (mkF m 150 #[.val (.ref a1), .val (.int (5 : Int32))] [(.int (0 : Int32)), (.ref a1), (.int (0 : Int32)), (.ref b360), (.ref b360), (.ref b359), (.ref b359)])) (fun _ kt => XS.iconst X360.here hx rfl (hb hby d_method_3_code_149) kt) ?_
    obtain ⟨cl361, Ar361, Sz361, Ha361⟩ := id ((V1.ext E359).ext E360)
    refine Rch.of (T' := T360) (g' := (mkF m 151 #[.val (.ref a1), .val (.int (5 : Int32))] [(.int (y 0)), (.int (0 : Int32)), (.ref b360), (.ref b360), (.ref b359), (.ref b359)])) (X360.caload hx (j := (0 : Int32)) (v := (.int (y 0))) (by rw [e360]; exact Ar361.1) (State.isArrayOf_alike hZ.alike Ar361.2.1) Ar361.2.2 (oIn (i := 0) Sz361 (by decide) (by decide)) (oAt (i := 0) Ha361 (by decide) (by decide)) (g := (mkF m 150 #[.val (.ref a1), .val (.int (5 : Int32))] [(.int (0 : Int32)), (.ref a1), (.int (0 : Int32)), (.ref b360), (.ref b360), (.ref b359), (.ref b359)])) rfl rfl (hb hby d_method_3_code_150)) ?_
    obtain ⟨cl362, Ar362, Sz362, Ha362⟩ := id V360
    obtain ⟨T362, h362, X362, e362, W362, st362⟩ := stC X360 hx hZ e360 Ar362 (j := (0 : Int32)) (oIn (i := 0) Sz362 (by decide) (by decide)) (g := (mkF m 151 #[.val (.ref a1), .val (.int (5 : Int32))] [(.int (y 0)), (.int (0 : Int32)), (.ref b360), (.ref b360), (.ref b359), (.ref b359)])) rfl rfl (hb hby d_method_3_code_151)
    have V362 := Av.setI (i := 0) V360 (by decide) (by decide) W362
    obtain ⟨y362, hy362⟩ : ∃ zz_ : Nat → Int32, zz_ = fun q => if q = 0 then (y 0).toUInt32.toUInt16.toUInt32.toInt32 else (fun _ => (0 : Int32)) q := ⟨_, rfl⟩
    have V362 : Av Z h362 b360 .char 5 (fun q => .int (y362 q)) := by rw [hy362]; exact V362
    have N362 := Fr.snoc X362 N0 ge_b360
    have Sf363 : Safe Z consts_1 s.vm h360 b360 := (Safe.exa hZ.alike Q360 (by decide) (by decide))
    have Rb364 := (((R0.trans (CHr.ext E359 R0.1)).trans (CHr.ext E360 (R0.trans (CHr.ext E359 R0.1)).1)).trans (CHr.wr W362 Sf363 ((R0.trans (CHr.ext E359 R0.1)).trans (CHr.ext E360 (R0.trans (CHr.ext E359 R0.1)).1)).1))
    refine Rch.of (T' := T362) (g' := (mkF m 152 #[.val (.ref a1), .val (.int (5 : Int32))] [(.ref b360), (.ref b359), (.ref b359)])) st362 ?_
    refine Rch.of (T' := T362) (g' := (mkF m 153 #[.val (.ref a1), .val (.int (5 : Int32))] [(.ref b360), (.ref b360), (.ref b359), (.ref b359)])) (fun _ kt => XS.dup X362.here hx rfl (hb hby d_method_3_code_152) rfl rfl kt) ?_
    refine Rch.of (T' := T362) (g' := (mkF m 154 #[.val (.ref a1), .val (.int (5 : Int32))] [(.int (1 : Int32)), (.ref b360), (.ref b360), (.ref b359), (.ref b359)])) (fun _ kt => XS.iconst X362.here hx rfl (hb hby d_method_3_code_153) kt) ?_
    refine Rch.of (T' := T362) (g' := (mkF m 155 #[.val (.ref a1), .val (.int (5 : Int32))] [(.ref a1), (.int (1 : Int32)), (.ref b360), (.ref b360), (.ref b359), (.ref b359)])) (fun _ kt => XS.aloadN X362.here hx rfl (hb hby d_method_3_code_154) rfl rfl kt) ?_
    refine Rch.of (T' := T362) (g' := (mkF m 156 #[.val (.ref a1), .val (.int (5 : Int32))] [(.int (1 : Int32)), (.ref a1), (.int (1 : Int32)), (.ref b360), (.ref b360), (.ref b359), (.ref b359)])) (fun _ kt => XS.iconst X362.here hx rfl (hb hby d_method_3_code_155) kt) ?_
    obtain ⟨cl365, Ar365, Sz365, Ha365⟩ := id (((V1.ext E359).ext E360).other W362 ne_a1_b360)
    refine Rch.of (T' := T362) (g' := (mkF m 157 #[.val (.ref a1), .val (.int (5 : Int32))] [(.int (y 1)), (.int (1 : Int32)), (.ref b360), (.ref b360), (.ref b359), (.ref b359)])) (X362.caload hx (j := (1 : Int32)) (v := (.int (y 1))) (by rw [e362]; exact Ar365.1) (State.isArrayOf_alike hZ.alike Ar365.2.1) Ar365.2.2 (oIn (i := 1) Sz365 (by decide) (by decide)) (oAt (i := 1) Ha365 (by decide) (by decide)) (g := (mkF m 156 #[.val (.ref a1), .val (.int (5 : Int32))] [(.int (1 : Int32)), (.ref a1), (.int (1 : Int32)), (.ref b360), (.ref b360), (.ref b359), (.ref b359)])) rfl rfl (hb hby d_method_3_code_156)) ?_
    obtain ⟨cl366, Ar366, Sz366, Ha366⟩ := id V362
    obtain ⟨T366, h366, X366, e366, W366, st366⟩ := stC X362 hx hZ e362 Ar366 (j := (1 : Int32)) (oIn (i := 1) Sz366 (by decide) (by decide)) (g := (mkF m 157 #[.val (.ref a1), .val (.int (5 : Int32))] [(.int (y 1)), (.int (1 : Int32)), (.ref b360), (.ref b360), (.ref b359), (.ref b359)])) rfl rfl (hb hby d_method_3_code_157)
    have V366 := Av.setI (i := 1) V362 (by decide) (by decide) W366
    obtain ⟨y366, hy366⟩ : ∃ zz_ : Nat → Int32, zz_ = fun q => if q = 1 then (y 1).toUInt32.toUInt16.toUInt32.toInt32 else y362 q := ⟨_, rfl⟩
    have V366 : Av Z h366 b360 .char 5 (fun q => .int (y366 q)) := by rw [hy366]; exact V366
    have N366 := Fr.snoc X366 N362 ge_b360
    have Sf367 : Safe Z consts_1 s.vm h362 b360 := (Safe.exa hZ.alike (Q360.wr W362) (by decide) (by decide))
    refine Rch.of (T' := T366) (g' := (mkF m 158 #[.val (.ref a1), .val (.int (5 : Int32))] [(.ref b360), (.ref b359), (.ref b359)])) st366 ?_
    refine Rch.of (T' := T366) (g' := (mkF m 159 #[.val (.ref a1), .val (.int (5 : Int32))] [(.ref b360), (.ref b360), (.ref b359), (.ref b359)])) (fun _ kt => XS.dup X366.here hx rfl (hb hby d_method_3_code_158) rfl rfl kt) ?_
    refine Rch.of (T' := T366) (g' := (mkF m 160 #[.val (.ref a1), .val (.int (5 : Int32))] [(.int (2 : Int32)), (.ref b360), (.ref b360), (.ref b359), (.ref b359)])) (fun _ kt => XS.iconst X366.here hx rfl (hb hby d_method_3_code_159) kt) ?_
    refine Rch.of (T' := T366) (g' := (mkF m 161 #[.val (.ref a1), .val (.int (5 : Int32))] [(.ref a1), (.int (2 : Int32)), (.ref b360), (.ref b360), (.ref b359), (.ref b359)])) (fun _ kt => XS.aloadN X366.here hx rfl (hb hby d_method_3_code_160) rfl rfl kt) ?_
    refine Rch.of (T' := T366) (g' := (mkF m 162 #[.val (.ref a1), .val (.int (5 : Int32))] [(.int (2 : Int32)), (.ref a1), (.int (2 : Int32)), (.ref b360), (.ref b360), (.ref b359), (.ref b359)])) (fun _ kt => XS.iconst X366.here hx rfl (hb hby d_method_3_code_161) kt) ?_
    obtain ⟨cl368, Ar368, Sz368, Ha368⟩ := id ((((V1.ext E359).ext E360).other W362 ne_a1_b360).other W366 ne_a1_b360)
    refine Rch.of (T' := T366) (g' := (mkF m 163 #[.val (.ref a1), .val (.int (5 : Int32))] [(.int (y 2)), (.int (2 : Int32)), (.ref b360), (.ref b360), (.ref b359), (.ref b359)])) (X366.caload hx (j := (2 : Int32)) (v := (.int (y 2))) (by rw [e366]; exact Ar368.1) (State.isArrayOf_alike hZ.alike Ar368.2.1) Ar368.2.2 (oIn (i := 2) Sz368 (by decide) (by decide)) (oAt (i := 2) Ha368 (by decide) (by decide)) (g := (mkF m 162 #[.val (.ref a1), .val (.int (5 : Int32))] [(.int (2 : Int32)), (.ref a1), (.int (2 : Int32)), (.ref b360), (.ref b360), (.ref b359), (.ref b359)])) rfl rfl (hb hby d_method_3_code_162)) ?_
    obtain ⟨cl369, Ar369, Sz369, Ha369⟩ := id V366
    obtain ⟨T369, h369, X369, e369, W369, st369⟩ := stC X366 hx hZ e366 Ar369 (j := (2 : Int32)) (oIn (i := 2) Sz369 (by decide) (by decide)) (g := (mkF m 163 #[.val (.ref a1), .val (.int (5 : Int32))] [(.int (y 2)), (.int (2 : Int32)), (.ref b360), (.ref b360), (.ref b359), (.ref b359)])) rfl rfl (hb hby d_method_3_code_163)
    have V369 := Av.setI (i := 2) V366 (by decide) (by decide) W369
    obtain ⟨y369, hy369⟩ : ∃ zz_ : Nat → Int32, zz_ = fun q => if q = 2 then (y 2).toUInt32.toUInt16.toUInt32.toInt32 else y366 q := ⟨_, rfl⟩
    have V369 : Av Z h369 b360 .char 5 (fun q => .int (y369 q)) := by rw [hy369]; exact V369
    have N369 := Fr.snoc X369 N366 ge_b360
    have Sf370 : Safe Z consts_1 s.vm h366 b360 := (Safe.exa hZ.alike ((Q360.wr W362).wr W366) (by decide) (by decide))
    refine Rch.of (T' := T369) (g' := (mkF m 164 #[.val (.ref a1), .val (.int (5 : Int32))] [(.ref b360), (.ref b359), (.ref b359)])) st369 ?_
    refine Rch.of (T' := T369) (g' := (mkF m 165 #[.val (.ref a1), .val (.int (5 : Int32))] [(.ref b360), (.ref b360), (.ref b359), (.ref b359)])) (fun _ kt => XS.dup X369.here hx rfl (hb hby d_method_3_code_164) rfl rfl kt) ?_
    refine Rch.of (T' := T369) (g' := (mkF m 166 #[.val (.ref a1), .val (.int (5 : Int32))] [(.int (3 : Int32)), (.ref b360), (.ref b360), (.ref b359), (.ref b359)])) (fun _ kt => XS.iconst X369.here hx rfl (hb hby d_method_3_code_165) kt) ?_
    refine Rch.of (T' := T369) (g' := (mkF m 167 #[.val (.ref a1), .val (.int (5 : Int32))] [(.ref a1), (.int (3 : Int32)), (.ref b360), (.ref b360), (.ref b359), (.ref b359)])) (fun _ kt => XS.aloadN X369.here hx rfl (hb hby d_method_3_code_166) rfl rfl kt) ?_
    refine Rch.of (T' := T369) (g' := (mkF m 168 #[.val (.ref a1), .val (.int (5 : Int32))] [(.int (3 : Int32)), (.ref a1), (.int (3 : Int32)), (.ref b360), (.ref b360), (.ref b359), (.ref b359)])) (fun _ kt => XS.iconst X369.here hx rfl (hb hby d_method_3_code_167) kt) ?_
    obtain ⟨cl371, Ar371, Sz371, Ha371⟩ := id (((((V1.ext E359).ext E360).other W362 ne_a1_b360).other W366 ne_a1_b360).other W369 ne_a1_b360)
    refine Rch.of (T' := T369) (g' := (mkF m 169 #[.val (.ref a1), .val (.int (5 : Int32))] [(.int (y 3)), (.int (3 : Int32)), (.ref b360), (.ref b360), (.ref b359), (.ref b359)])) (X369.caload hx (j := (3 : Int32)) (v := (.int (y 3))) (by rw [e369]; exact Ar371.1) (State.isArrayOf_alike hZ.alike Ar371.2.1) Ar371.2.2 (oIn (i := 3) Sz371 (by decide) (by decide)) (oAt (i := 3) Ha371 (by decide) (by decide)) (g := (mkF m 168 #[.val (.ref a1), .val (.int (5 : Int32))] [(.int (3 : Int32)), (.ref a1), (.int (3 : Int32)), (.ref b360), (.ref b360), (.ref b359), (.ref b359)])) rfl rfl (hb hby d_method_3_code_168)) ?_
    obtain ⟨cl372, Ar372, Sz372, Ha372⟩ := id V369
    obtain ⟨T372, h372, X372, e372, W372, st372⟩ := stC X369 hx hZ e369 Ar372 (j := (3 : Int32)) (oIn (i := 3) Sz372 (by decide) (by decide)) (g := (mkF m 169 #[.val (.ref a1), .val (.int (5 : Int32))] [(.int (y 3)), (.int (3 : Int32)), (.ref b360), (.ref b360), (.ref b359), (.ref b359)])) rfl rfl (hb hby d_method_3_code_169)
    have V372 := Av.setI (i := 3) V369 (by decide) (by decide) W372
    obtain ⟨y372, hy372⟩ : ∃ zz_ : Nat → Int32, zz_ = fun q => if q = 3 then (y 3).toUInt32.toUInt16.toUInt32.toInt32 else y369 q := ⟨_, rfl⟩
    have V372 : Av Z h372 b360 .char 5 (fun q => .int (y372 q)) := by rw [hy372]; exact V372
    have N372 := Fr.snoc X372 N369 ge_b360
    have Sf373 : Safe Z consts_1 s.vm h369 b360 := (Safe.exa hZ.alike (((Q360.wr W362).wr W366).wr W369) (by decide) (by decide))
    have Rb374 := (((Rb364.trans (CHr.wr W366 Sf367 Rb364.1)).trans (CHr.wr W369 Sf370 (Rb364.trans (CHr.wr W366 Sf367 Rb364.1)).1)).trans (CHr.wr W372 Sf373 ((Rb364.trans (CHr.wr W366 Sf367 Rb364.1)).trans (CHr.wr W369 Sf370 (Rb364.trans (CHr.wr W366 Sf367 Rb364.1)).1)).1))
    have Fb375 := (Nat.le_trans (Nat.le_trans (Nat.le_trans (Nat.le_trans (Nat.le_trans (Nat.le_trans hk0 E359.1) E360.1) (Keep.of_wr W362).1) (Keep.of_wr W366).1) (Keep.of_wr W369).1) (Keep.of_wr W372).1)
    have Fb376 := (((((F359_value.ext E360).other W362 (Or.inl ne_b359_b360)).other W366 (Or.inl ne_b359_b360)).other W369 (Or.inl ne_b359_b360)).other W372 (Or.inl ne_b359_b360))
    have Fb377 := (((((F359_coder.ext E360).other W362 (Or.inl ne_b359_b360)).other W366 (Or.inl ne_b359_b360)).other W369 (Or.inl ne_b359_b360)).other W372 (Or.inl ne_b359_b360))
    have Fb378 := (Nat.le_trans (Nat.le_trans (Nat.le_trans (Nat.le_trans (Nat.le_trans (Nat.le_trans Z0 E359.1) E360.1) (Keep.of_wr W362).1) (Keep.of_wr W366).1) (Keep.of_wr W369).1) (Keep.of_wr W372).1)
    refine Rch.of (T' := T372) (g' := (mkF m 170 #[.val (.ref a1), .val (.int (5 : Int32))] [(.ref b360), (.ref b359), (.ref b359)])) st372 ?_
    refine Rch.of (T' := T372) (g' := (mkF m 171 #[.val (.ref a1), .val (.int (5 : Int32))] [(.ref b360), (.ref b360), (.ref b359), (.ref b359)])) (fun _ kt => XS.dup X372.here hx rfl (hb hby d_method_3_code_170) rfl rfl kt) ?_
    refine Rch.of (T' := T372) (g' := (mkF m 172 #[.val (.ref a1), .val (.int (5 : Int32))] [(.int (4 : Int32)), (.ref b360), (.ref b360), (.ref b359), (.ref b359)])) (fun _ kt => XS.iconst X372.here hx rfl (hb hby d_method_3_code_171) kt) ?_
    refine Rch.of (T' := T372) (g' := (mkF m 173 #[.val (.ref a1), .val (.int (5 : Int32))] [(.ref a1), (.int (4 : Int32)), (.ref b360), (.ref b360), (.ref b359), (.ref b359)])) (fun _ kt => XS.aloadN X372.here hx rfl (hb hby d_method_3_code_172) rfl rfl kt) ?_
    refine Rch.of (T' := T372) (g' := (mkF m 174 #[.val (.ref a1), .val (.int (5 : Int32))] [(.int (4 : Int32)), (.ref a1), (.int (4 : Int32)), (.ref b360), (.ref b360), (.ref b359), (.ref b359)])) (fun _ kt => XS.iconst X372.here hx rfl (hb hby d_method_3_code_173) kt) ?_
    obtain ⟨cl379, Ar379, Sz379, Ha379⟩ := id ((((((V1.ext E359).ext E360).other W362 ne_a1_b360).other W366 ne_a1_b360).other W369 ne_a1_b360).other W372 ne_a1_b360)
    refine Rch.of (T' := T372) (g' := (mkF m 175 #[.val (.ref a1), .val (.int (5 : Int32))] [(.int (y 4)), (.int (4 : Int32)), (.ref b360), (.ref b360), (.ref b359), (.ref b359)])) (X372.caload hx (j := (4 : Int32)) (v := (.int (y 4))) (by rw [e372]; exact Ar379.1) (State.isArrayOf_alike hZ.alike Ar379.2.1) Ar379.2.2 (oIn (i := 4) Sz379 (by decide) (by decide)) (oAt (i := 4) Ha379 (by decide) (by decide)) (g := (mkF m 174 #[.val (.ref a1), .val (.int (5 : Int32))] [(.int (4 : Int32)), (.ref a1), (.int (4 : Int32)), (.ref b360), (.ref b360), (.ref b359), (.ref b359)])) rfl rfl (hb hby d_method_3_code_174)) ?_
    obtain ⟨cl380, Ar380, Sz380, Ha380⟩ := id V372
    obtain ⟨T380, h380, X380, e380, W380, st380⟩ := stC X372 hx hZ e372 Ar380 (j := (4 : Int32)) (oIn (i := 4) Sz380 (by decide) (by decide)) (g := (mkF m 175 #[.val (.ref a1), .val (.int (5 : Int32))] [(.int (y 4)), (.int (4 : Int32)), (.ref b360), (.ref b360), (.ref b359), (.ref b359)])) rfl rfl (hb hby d_method_3_code_175)
    have V380 := Av.setI (i := 4) V372 (by decide) (by decide) W380
    obtain ⟨y380, hy380⟩ : ∃ zz_ : Nat → Int32, zz_ = fun q => if q = 4 then (y 4).toUInt32.toUInt16.toUInt32.toInt32 else y372 q := ⟨_, rfl⟩
    have V380 : Av Z h380 b360 .char 5 (fun q => .int (y380 q)) := by rw [hy380]; exact V380
    have N380 := Fr.snoc X380 N372 ge_b360
    have Sf381 : Safe Z consts_1 s.vm h372 b360 := (Safe.exa hZ.alike ((((Q360.wr W362).wr W366).wr W369).wr W372) (by decide) (by decide))
    have Fb382 := ((((((((Keep.refl h0 []).ext E359).ext E360).wr W362 (Or.inr sz_b360)).wr W366 (Or.inr sz_b360)).wr W369 (Or.inr sz_b360)).wr W372 (Or.inr sz_b360)).wr W380 (Or.inr sz_b360))
    refine Rch.of (T' := T380) (g' := (mkF m 176 #[.val (.ref a1), .val (.int (5 : Int32))] [(.ref b360), (.ref b359), (.ref b359)])) st380 ?_
    have pr384 : 5 ≤ 5 := by omega
    have hch385 : own_ch 5 y380 := by
      intro q hq
      rw [hy380, hy372, hy369, hy366, hy362]
      rcases (show q = 0 ∨ q = 1 ∨ q = 2 ∨ q = 3 ∨ q = 4 by omega) with rfl | rfl | rfl | rfl | rfl
      · exact own_c1i (hy.at (by decide : 0 < 5))
      · exact own_c1i (hy.at (by decide : 1 < 5))
      · exact own_c1i (hy.at (by decide : 2 < 5))
      · exact own_c1i (hy.at (by decide : 3 < 5))
      · exact own_c1i (hy.at (by decide : 4 < 5))
    obtain ⟨_, _, ⟨T383, L383, k383, n383⟩, -, X383, hT383, gr383, ⟨Lc383, hQ383, l383, y383, z383, cr383⟩, st383⟩ := X380.specialBackS hx (y := (⟨"java/lang/String", "<init>", "([C)V"⟩ : MethodName)) rfl hown (mvT hZ (hw _ (List.mem_of_getElem? (i := 11) rfl))) (mvT hZ (hw _ (List.mem_of_getElem? (i := 12) rfl))) (mvT hZ (hw _ (List.mem_of_getElem? (i := 13) rfl))) (by decide) (backOfSH (s := s) (vm0 := s.vm) (EL := consts_1) (W := 1) (rqN1 l Z a0 hw [] b359 b360 5 y380 (.int (0 : Int32)) cs h380 n0 (Nat.le_trans Fb378 (Keep.of_wr W380).1) ((((((A359.ext E360).wr W362).wr W366).wr W369).wr W372).wr W380) (Fb377.other W380 (Or.inl ne_b359_b360)) (Fb376.other W380 (Or.inl ne_b359_b360)) ge_b359 V380 (((((((SC.ext E359).ext E360).wr W362).wr W366).wr W369).wr W372).wr W380) hcs pr384 hch385) hZ (hw _ (List.mem_of_getElem? (i := 13) rfl)) (hw _ (List.mem_of_getElem? (i := 10) rfl)) (by decide) (by decide) hEL (Rb374.trans (CHr.wr W380 Sf381 Rb374.1)).1) (g := (mkF m 176 #[.val (.ref a1), .val (.int (5 : Int32))] [(.ref b360), (.ref b359), (.ref b359)])) rfl (by rw [hml]; rfl) (Steps.refl _) (a := b359) (argsL := [(.ref b360)]) (rest := [(.ref b359)]) (lenOf pd_2 rfl) rfl (by show 2 * 0 + _ ≤ _; exact Nat.le_of_eq rfl) (hb hby d_method_3_code_176) (fun _ _ => ⟨rfl, e380, (by decide : 2 + 4 ≤ _), (by decide : 9 + 8 ≤ _)⟩)
    dsimp only [Pt.U, Pt.locs, Pt.cells, Pt.slots] at X383 hT383 gr383 l383 y383 z383 st383 hQ383 cr383
    subst l383 y383 z383
    obtain ⟨X383, hS383, hZ, hown⟩ := rebS hS0 (Nat.le_trans Fb375 (Keep.of_wr W380).1) X383 hT383 (by rw [← e380]; exact gr383) hZ hown
    obtain ⟨rb383, rfl, N383q, hQ383⟩ := hQ383
    have N383 := Fr.app N380 N383q
    obtain ⟨K383, Ex383, Fa383, Fb383, V383⟩ := hQ383
    have Fb386 := ((((((((V1.ext E359).ext E360).other W362 ne_a1_b360).other W366 ne_a1_b360).other W369 ne_a1_b360).other W372 ne_a1_b360).other W380 ne_a1_b360).keep K383 (ninS ne_a1_b359 nin0))
    have Fb387 := (own_sta (((((((SC.ext E359).ext E360).wr W362).wr W366).wr W369).wr W372).wr W380) K383 (nsS (Exa.nostat ((((((A359.ext E360).wr W362).wr W366).wr W369).wr W372).wr W380)) ns0))
    refine Rch.via (T' := T383) (g' := (mkF m 179 #[.val (.ref a1), .val (.int (5 : Int32))] [(.ref b359)])) st383 ?_
    have hcg388 : ∀ q, q < 5 → Value.int ((y380 q).toInt8.toInt32) = Value.int ((y q).toInt8.toInt32) := by
      intro q hq
      rw [hy380, hy372, hy369, hy366, hy362]
      rcases (show q = 0 ∨ q = 1 ∨ q = 2 ∨ q = 3 ∨ q = 4 by omega) with rfl | rfl | rfl | rfl | rfl
      · exact congrArg (fun x : Int32 => Value.int x.toInt8.toInt32) (own_i2c (hy.at (by decide : 0 < 5)))
      · exact congrArg (fun x : Int32 => Value.int x.toInt8.toInt32) (own_i2c (hy.at (by decide : 1 < 5)))
      · exact congrArg (fun x : Int32 => Value.int x.toInt8.toInt32) (own_i2c (hy.at (by decide : 2 < 5)))
      · exact congrArg (fun x : Int32 => Value.int x.toInt8.toInt32) (own_i2c (hy.at (by decide : 3 < 5)))
      · exact congrArg (fun x : Int32 => Value.int x.toInt8.toInt32) (own_i2c (hy.at (by decide : 4 < 5)))
    exact Rch.retA X383 hx (w := (.ref b359)) hret rfl rfl hlk (hb hby d_method_3_code_179) (fun U hU hF => hK _ U _ _ _ (by show Q_rk2 Z a1 y k cs h0 n0 _ U.heap _; rw [hU]; exact ⟨b359, rb383, rfl, N383, (Fb382.trans K383 (allS (Or.inr sz_b359) all0)), Ex383, Fa383, Fb383, (by rw [ek]; exact Av.congr V383 hcg388)⟩) (own_endH hZ hEL ((Rb374.trans (CHr.wr W380 Sf381 Rb374.1)).trans cr383) hU hF) (own_end hS383 (by rw [hU]; exact (Nat.le_refl _)) hF) (by decide) (by decide))
theorem ef_rk3 (m : MethodId) (a1 : Addr) : entryFrame m #[(.ref a1), (.int (Int32.ofNat k))] 3 = mkF m 0 #[.val (.ref a1), .val (.int (Int32.ofNat k)), .unset] [] := by first | (simp [entryFrame, mkF, argsToLocals, Value.category]; done) | rfl
def Q_rk3 (Z : State) (a1 : Addr) (y : Nat → Int32) (k : Nat) (h0 : Heap) (n0 : Nat) (vv_ : Option Value) (h : Heap) (LL_ : List Loc) : Prop := vv_ = some (.int (Int32.ofNat (own_ls y (47 : Int32) k) - (1 : Int32))) ∧ Fr n0 LL_ ∧ (h = h0)
theorem d_method_4_code_0 : decode method_4_code 0 = .ok (.iconst (-1), 1) := by decide +kernel
theorem d_method_4_code_1 : decode method_4_code 1 = .ok (.istore_n 2, 1) := by decide +kernel
theorem d_method_4_code_2 : decode method_4_code 2 = .ok (.iload_n 1, 1) := by decide +kernel
theorem d_method_4_code_3 : decode method_4_code 3 = .ok (.ifCond .le 13, 3) := by decide +kernel
theorem d_method_4_code_6 : decode method_4_code 6 = .ok (.aload_n 0, 1) := by decide +kernel
theorem d_method_4_code_7 : decode method_4_code 7 = .ok (.iconst 0, 1) := by decide +kernel
theorem d_method_4_code_8 : decode method_4_code 8 = .ok (.caload, 1) := by decide +kernel
theorem d_method_4_code_9 : decode method_4_code 9 = .ok (.bipush 47, 2) := by decide +kernel
theorem d_method_4_code_11 : decode method_4_code 11 = .ok (.if_icmp .ne 5, 3) := by decide +kernel
theorem d_method_4_code_14 : decode method_4_code 14 = .ok (.iconst 0, 1) := by decide +kernel
theorem d_method_4_code_15 : decode method_4_code 15 = .ok (.istore_n 2, 1) := by decide +kernel
theorem d_method_4_code_16 : decode method_4_code 16 = .ok (.iload_n 1, 1) := by decide +kernel
theorem d_method_4_code_17 : decode method_4_code 17 = .ok (.iconst 1, 1) := by decide +kernel
theorem d_method_4_code_18 : decode method_4_code 18 = .ok (.if_icmp .le 13, 3) := by decide +kernel
theorem d_method_4_code_21 : decode method_4_code 21 = .ok (.aload_n 0, 1) := by decide +kernel
theorem d_method_4_code_22 : decode method_4_code 22 = .ok (.iconst 1, 1) := by decide +kernel
theorem d_method_4_code_23 : decode method_4_code 23 = .ok (.caload, 1) := by decide +kernel
theorem d_method_4_code_24 : decode method_4_code 24 = .ok (.bipush 47, 2) := by decide +kernel
theorem d_method_4_code_26 : decode method_4_code 26 = .ok (.if_icmp .ne 5, 3) := by decide +kernel
theorem d_method_4_code_29 : decode method_4_code 29 = .ok (.iconst 1, 1) := by decide +kernel
theorem d_method_4_code_30 : decode method_4_code 30 = .ok (.istore_n 2, 1) := by decide +kernel
theorem d_method_4_code_31 : decode method_4_code 31 = .ok (.iload_n 1, 1) := by decide +kernel
theorem d_method_4_code_32 : decode method_4_code 32 = .ok (.iconst 2, 1) := by decide +kernel
theorem d_method_4_code_33 : decode method_4_code 33 = .ok (.if_icmp .le 13, 3) := by decide +kernel
theorem d_method_4_code_36 : decode method_4_code 36 = .ok (.aload_n 0, 1) := by decide +kernel
theorem d_method_4_code_37 : decode method_4_code 37 = .ok (.iconst 2, 1) := by decide +kernel
theorem d_method_4_code_38 : decode method_4_code 38 = .ok (.caload, 1) := by decide +kernel
theorem d_method_4_code_39 : decode method_4_code 39 = .ok (.bipush 47, 2) := by decide +kernel
theorem d_method_4_code_41 : decode method_4_code 41 = .ok (.if_icmp .ne 5, 3) := by decide +kernel
theorem d_method_4_code_44 : decode method_4_code 44 = .ok (.iconst 2, 1) := by decide +kernel
theorem d_method_4_code_45 : decode method_4_code 45 = .ok (.istore_n 2, 1) := by decide +kernel
theorem d_method_4_code_46 : decode method_4_code 46 = .ok (.iload_n 1, 1) := by decide +kernel
theorem d_method_4_code_47 : decode method_4_code 47 = .ok (.iconst 3, 1) := by decide +kernel
theorem d_method_4_code_48 : decode method_4_code 48 = .ok (.if_icmp .le 13, 3) := by decide +kernel
theorem d_method_4_code_51 : decode method_4_code 51 = .ok (.aload_n 0, 1) := by decide +kernel
theorem d_method_4_code_52 : decode method_4_code 52 = .ok (.iconst 3, 1) := by decide +kernel
theorem d_method_4_code_53 : decode method_4_code 53 = .ok (.caload, 1) := by decide +kernel
theorem d_method_4_code_54 : decode method_4_code 54 = .ok (.bipush 47, 2) := by decide +kernel
theorem d_method_4_code_56 : decode method_4_code 56 = .ok (.if_icmp .ne 5, 3) := by decide +kernel
theorem d_method_4_code_59 : decode method_4_code 59 = .ok (.iconst 3, 1) := by decide +kernel
theorem d_method_4_code_60 : decode method_4_code 60 = .ok (.istore_n 2, 1) := by decide +kernel
theorem d_method_4_code_61 : decode method_4_code 61 = .ok (.iload_n 1, 1) := by decide +kernel
theorem d_method_4_code_62 : decode method_4_code 62 = .ok (.iconst 4, 1) := by decide +kernel
theorem d_method_4_code_63 : decode method_4_code 63 = .ok (.if_icmp .le 13, 3) := by decide +kernel
theorem d_method_4_code_66 : decode method_4_code 66 = .ok (.aload_n 0, 1) := by decide +kernel
theorem d_method_4_code_67 : decode method_4_code 67 = .ok (.iconst 4, 1) := by decide +kernel
theorem d_method_4_code_68 : decode method_4_code 68 = .ok (.caload, 1) := by decide +kernel
theorem d_method_4_code_69 : decode method_4_code 69 = .ok (.bipush 47, 2) := by decide +kernel
theorem d_method_4_code_71 : decode method_4_code 71 = .ok (.if_icmp .ne 5, 3) := by decide +kernel
theorem d_method_4_code_74 : decode method_4_code 74 = .ok (.iconst 4, 1) := by decide +kernel
theorem d_method_4_code_75 : decode method_4_code 75 = .ok (.istore_n 2, 1) := by decide +kernel
theorem d_method_4_code_76 : decode method_4_code 76 = .ok (.iload_n 2, 1) := by decide +kernel
theorem d_method_4_code_77 : decode method_4_code 77 = .ok (.ireturn, 1) := by decide +kernel
set_option maxRecDepth 65536 in
set_option maxHeartbeats 40000000 in
theorem rk3 (l : Launch) (Z : State) (a0 : Array Value) (hw : ∀ d ∈ tables_1, d.before a0 Z = true) (ws : List Jvm.Cond) (a1 : Addr) (y : Nat → Int32) (k : Nat) (h0 : Heap) (n0 : Nat) (Z0 : n0 ≤ h0.size) (V1 : Av Z h0 a1 .char 5 (fun q => .int (y q))) (hk : k ≤ 5) :
    MetFree l (⟨"com/example/isidore/isidore/rulesets/mwsdn/PathNamesNodePinLaw", "lastSlash", "([CI)I"⟩ : MethodName) (head1 (Jvm.Cond.code (⟨"com/example/isidore/isidore/rulesets/mwsdn/PathNamesNodePinLaw", "lastSlash", "([CI)I"⟩ : MethodName) method_4_code 3 (some .int) :: ws) ({ frames := 0, cells := 0, slots := 0, locals := 0 } : Room)) (fun aa_ UU_ => aa_ = #[(.ref a1), (.int (Int32.ofNat k))] ∧ Z.Warmed39 UU_.vm ∧ UU_.heap = h0) (fun _ _ _ _ _ => True) (fun _ UU_ oo_ VV_ => ∃ vv_ LL_, oo_ = .returned vv_ ∧ Q_rk3 Z a1 y k h0 n0 vv_ VV_.heap LL_ ∧ FrameEnd UU_ oo_ VV_ LL_ ({ frames := 0, cells := 0, slots := 0, locals := 0 } : Room).cells ({ frames := 0, cells := 0, slots := 0, locals := 0 } : Room).slots) := by
  refine own_met (y := (⟨"com/example/isidore/isidore/rulesets/mwsdn/PathNamesNodePinLaw", "lastSlash", "([CI)I"⟩ : MethodName)) (plainFor_of_name pn_5) ?_
  intro p e s m below meth c T0 K hx hby hml hret hlk hown hnm hZ X0 e0 hK
  have N0 := Fr.nil n0
  refine Rch.cast (ef_rk3 m a1) ?_
  refine Rch.of (T' := T0) (g' := (mkF m 1 #[.val (.ref a1), .val (.int (Int32.ofNat k)), .unset] [(.int (-1 : Int32))])) (fun _ kt => XS.iconst X0.here hx rfl (hb hby d_method_4_code_0) kt) ?_
  refine Rch.of (T' := T0) (g' := (mkF m 2 #[.val (.ref a1), .val (.int (Int32.ofNat k)), .val (.int (-1 : Int32))] [])) (fun _ kt => XS.istoreN X0.here hx rfl (hb hby d_method_4_code_1) rfl (l' := #[.val (.ref a1), .val (.int (Int32.ofNat k)), .val (.int (-1 : Int32))]) rfl kt) ?_
  have J5 : ∀ s2 : Int32, s2 = Int32.ofNat (own_ls y (47 : Int32) (min 5 k)) - (1 : Int32) → Rch p e below K T0 (mkF m 76 #[.val (.ref a1), .val (.int (Int32.ofNat k)), .val (.int s2)] []) := by
    intro s2 hs
    refine Rch.of (T' := T0) (g' := (mkF m 77 #[.val (.ref a1), .val (.int (Int32.ofNat k)), .val (.int s2)] [(.int s2)])) (fun _ kt => XS.iloadN X0.here hx rfl (hb hby d_method_4_code_76) rfl  kt) ?_
    exact Rch.retI X0 hx hret hlk (hb hby d_method_4_code_77) (fun U hU hF => hK _ U _ _ _ (by show Q_rk3 Z a1 y k h0 n0 _ U.heap _; rw [hU, e0]; exact ⟨by rw [hs, Nat.min_eq_right hk], N0, rfl⟩) hF (by decide) (by decide))
  have J4 : ∀ s2 : Int32, s2 = Int32.ofNat (own_ls y (47 : Int32) (min 4 k)) - (1 : Int32) → Rch p e below K T0 (mkF m 61 #[.val (.ref a1), .val (.int (Int32.ofNat k)), .val (.int s2)] []) := by
    intro s2 hs
    refine Rch.of (T' := T0) (g' := (mkF m 62 #[.val (.ref a1), .val (.int (Int32.ofNat k)), .val (.int s2)] [(.int (Int32.ofNat k))])) (fun _ kt => XS.iloadN X0.here hx rfl (hb hby d_method_4_code_61) rfl  kt) ?_
    refine Rch.of (T' := T0) (g' := (mkF m 63 #[.val (.ref a1), .val (.int (Int32.ofNat k)), .val (.int s2)] [(.int (4 : Int32)), (.int (Int32.ofNat k))])) (fun _ kt => XS.iconst X0.here hx rfl (hb hby d_method_4_code_62) kt) ?_
    by_cases c389 : (4 : Int32) < (Int32.ofNat k)
    · skip
      refine Rch.of (T' := T0) (g' := (mkF m 66 #[.val (.ref a1), .val (.int (Int32.ofNat k)), .val (.int s2)] [])) (fun _ kt => XS.icmpNo X0.here hx rfl (hb hby d_method_4_code_63) rfl (tlt c389).2.2.2 kt) ?_
      refine Rch.of (T' := T0) (g' := (mkF m 67 #[.val (.ref a1), .val (.int (Int32.ofNat k)), .val (.int s2)] [(.ref a1)])) (fun _ kt => XS.aloadN X0.here hx rfl (hb hby d_method_4_code_66) rfl rfl kt) ?_
      refine Rch.of (T' := T0) (g' := (mkF m 68 #[.val (.ref a1), .val (.int (Int32.ofNat k)), .val (.int s2)] [(.int (4 : Int32)), (.ref a1)])) (fun _ kt => XS.iconst X0.here hx rfl (hb hby d_method_4_code_67) kt) ?_
      obtain ⟨cl390, Ar390, Sz390, Ha390⟩ := id V1
      refine Rch.of (T' := T0) (g' := (mkF m 69 #[.val (.ref a1), .val (.int (Int32.ofNat k)), .val (.int s2)] [(.int (y 4))])) (X0.caload hx (j := (4 : Int32)) (v := (.int (y 4))) (by rw [e0]; exact Ar390.1) (State.isArrayOf_alike hZ.alike Ar390.2.1) Ar390.2.2 (oIn (i := 4) Sz390 (by decide) (by decide)) (oAt (i := 4) Ha390 (by decide) (by decide)) (g := (mkF m 68 #[.val (.ref a1), .val (.int (Int32.ofNat k)), .val (.int s2)] [(.int (4 : Int32)), (.ref a1)])) rfl rfl (hb hby d_method_4_code_68)) ?_
      refine Rch.of (T' := T0) (g' := (mkF m 71 #[.val (.ref a1), .val (.int (Int32.ofNat k)), .val (.int s2)] [(.int (47 : Int32)), (.int (y 4))])) (fun _ kt => XS.bipush X0.here hx rfl (hb hby d_method_4_code_69) kt) ?_
      by_cases c391 : (y 4) = (47 : Int32)
      · skip
        refine Rch.of (T' := T0) (g' := (mkF m 74 #[.val (.ref a1), .val (.int (Int32.ofNat k)), .val (.int s2)] [])) (fun _ kt => XS.icmpNo X0.here hx rfl (hb hby d_method_4_code_71) rfl (teq c391).2 kt) ?_
        refine Rch.of (T' := T0) (g' := (mkF m 75 #[.val (.ref a1), .val (.int (Int32.ofNat k)), .val (.int s2)] [(.int (4 : Int32))])) (fun _ kt => XS.iconst X0.here hx rfl (hb hby d_method_4_code_74) kt) ?_
        refine Rch.of (T' := T0) (g' := (mkF m 76 #[.val (.ref a1), .val (.int (Int32.ofNat k)), .val (.int (4 : Int32))] [])) (fun _ kt => XS.istoreN X0.here hx rfl (hb hby d_method_4_code_75) rfl (l' := #[.val (.ref a1), .val (.int (Int32.ofNat k)), .val (.int (4 : Int32))]) rfl kt) ?_
        have hjk : 4 < k := (own_olt2 (i := 4) (by decide) (by omega)).mp c389
        exact J5 _ (own_st_yes hjk c391)
      · skip
        refine Rch.of (T' := T0) (g' := (mkF m 76 #[.val (.ref a1), .val (.int (Int32.ofNat k)), .val (.int s2)] [])) (fun _ kt => XS.icmpYes X0.here hx rfl (pc0 := 71) (pc' := 76) rfl (hb hby d_method_4_code_71) rfl (feq c391).2 (by decide) (by decide) kt) ?_
        have hjk : 4 < k := (own_olt2 (i := 4) (by decide) (by omega)).mp c389
        exact J5 _ (by rw [hs, own_st_no (j := 4) hjk c391])
    · skip
      refine Rch.of (T' := T0) (g' := (mkF m 76 #[.val (.ref a1), .val (.int (Int32.ofNat k)), .val (.int s2)] [])) (fun _ kt => XS.icmpYes X0.here hx rfl (pc0 := 63) (pc' := 76) rfl (hb hby d_method_4_code_63) rfl (flt c389).2.2.2 (by decide) (by decide) kt) ?_
      exact J5 _ (by rw [hs, own_st_ge (j := 4) (Nat.le_of_not_lt (fun q => c389 (own_lt3 q (by omega))))])
  have J3 : ∀ s2 : Int32, s2 = Int32.ofNat (own_ls y (47 : Int32) (min 3 k)) - (1 : Int32) → Rch p e below K T0 (mkF m 46 #[.val (.ref a1), .val (.int (Int32.ofNat k)), .val (.int s2)] []) := by
    intro s2 hs
    refine Rch.of (T' := T0) (g' := (mkF m 47 #[.val (.ref a1), .val (.int (Int32.ofNat k)), .val (.int s2)] [(.int (Int32.ofNat k))])) (fun _ kt => XS.iloadN X0.here hx rfl (hb hby d_method_4_code_46) rfl  kt) ?_
    refine Rch.of (T' := T0) (g' := (mkF m 48 #[.val (.ref a1), .val (.int (Int32.ofNat k)), .val (.int s2)] [(.int (3 : Int32)), (.int (Int32.ofNat k))])) (fun _ kt => XS.iconst X0.here hx rfl (hb hby d_method_4_code_47) kt) ?_
    by_cases c392 : (3 : Int32) < (Int32.ofNat k)
    · skip
      refine Rch.of (T' := T0) (g' := (mkF m 51 #[.val (.ref a1), .val (.int (Int32.ofNat k)), .val (.int s2)] [])) (fun _ kt => XS.icmpNo X0.here hx rfl (hb hby d_method_4_code_48) rfl (tlt c392).2.2.2 kt) ?_
      refine Rch.of (T' := T0) (g' := (mkF m 52 #[.val (.ref a1), .val (.int (Int32.ofNat k)), .val (.int s2)] [(.ref a1)])) (fun _ kt => XS.aloadN X0.here hx rfl (hb hby d_method_4_code_51) rfl rfl kt) ?_
      refine Rch.of (T' := T0) (g' := (mkF m 53 #[.val (.ref a1), .val (.int (Int32.ofNat k)), .val (.int s2)] [(.int (3 : Int32)), (.ref a1)])) (fun _ kt => XS.iconst X0.here hx rfl (hb hby d_method_4_code_52) kt) ?_
      obtain ⟨cl393, Ar393, Sz393, Ha393⟩ := id V1
      refine Rch.of (T' := T0) (g' := (mkF m 54 #[.val (.ref a1), .val (.int (Int32.ofNat k)), .val (.int s2)] [(.int (y 3))])) (X0.caload hx (j := (3 : Int32)) (v := (.int (y 3))) (by rw [e0]; exact Ar393.1) (State.isArrayOf_alike hZ.alike Ar393.2.1) Ar393.2.2 (oIn (i := 3) Sz393 (by decide) (by decide)) (oAt (i := 3) Ha393 (by decide) (by decide)) (g := (mkF m 53 #[.val (.ref a1), .val (.int (Int32.ofNat k)), .val (.int s2)] [(.int (3 : Int32)), (.ref a1)])) rfl rfl (hb hby d_method_4_code_53)) ?_
      refine Rch.of (T' := T0) (g' := (mkF m 56 #[.val (.ref a1), .val (.int (Int32.ofNat k)), .val (.int s2)] [(.int (47 : Int32)), (.int (y 3))])) (fun _ kt => XS.bipush X0.here hx rfl (hb hby d_method_4_code_54) kt) ?_
      by_cases c394 : (y 3) = (47 : Int32)
      · skip
        refine Rch.of (T' := T0) (g' := (mkF m 59 #[.val (.ref a1), .val (.int (Int32.ofNat k)), .val (.int s2)] [])) (fun _ kt => XS.icmpNo X0.here hx rfl (hb hby d_method_4_code_56) rfl (teq c394).2 kt) ?_
        refine Rch.of (T' := T0) (g' := (mkF m 60 #[.val (.ref a1), .val (.int (Int32.ofNat k)), .val (.int s2)] [(.int (3 : Int32))])) (fun _ kt => XS.iconst X0.here hx rfl (hb hby d_method_4_code_59) kt) ?_
        refine Rch.of (T' := T0) (g' := (mkF m 61 #[.val (.ref a1), .val (.int (Int32.ofNat k)), .val (.int (3 : Int32))] [])) (fun _ kt => XS.istoreN X0.here hx rfl (hb hby d_method_4_code_60) rfl (l' := #[.val (.ref a1), .val (.int (Int32.ofNat k)), .val (.int (3 : Int32))]) rfl kt) ?_
        have hjk : 3 < k := (own_olt2 (i := 3) (by decide) (by omega)).mp c392
        exact J4 _ (own_st_yes hjk c394)
      · skip
        refine Rch.of (T' := T0) (g' := (mkF m 61 #[.val (.ref a1), .val (.int (Int32.ofNat k)), .val (.int s2)] [])) (fun _ kt => XS.icmpYes X0.here hx rfl (pc0 := 56) (pc' := 61) rfl (hb hby d_method_4_code_56) rfl (feq c394).2 (by decide) (by decide) kt) ?_
        have hjk : 3 < k := (own_olt2 (i := 3) (by decide) (by omega)).mp c392
        exact J4 _ (by rw [hs, own_st_no (j := 3) hjk c394])
    · skip
      refine Rch.of (T' := T0) (g' := (mkF m 61 #[.val (.ref a1), .val (.int (Int32.ofNat k)), .val (.int s2)] [])) (fun _ kt => XS.icmpYes X0.here hx rfl (pc0 := 48) (pc' := 61) rfl (hb hby d_method_4_code_48) rfl (flt c392).2.2.2 (by decide) (by decide) kt) ?_
      exact J4 _ (by rw [hs, own_st_ge (j := 3) (Nat.le_of_not_lt (fun q => c392 (own_lt3 q (by omega))))])
  have J2 : ∀ s2 : Int32, s2 = Int32.ofNat (own_ls y (47 : Int32) (min 2 k)) - (1 : Int32) → Rch p e below K T0 (mkF m 31 #[.val (.ref a1), .val (.int (Int32.ofNat k)), .val (.int s2)] []) := by
    intro s2 hs
    refine Rch.of (T' := T0) (g' := (mkF m 32 #[.val (.ref a1), .val (.int (Int32.ofNat k)), .val (.int s2)] [(.int (Int32.ofNat k))])) (fun _ kt => XS.iloadN X0.here hx rfl (hb hby d_method_4_code_31) rfl  kt) ?_
    refine Rch.of (T' := T0) (g' := (mkF m 33 #[.val (.ref a1), .val (.int (Int32.ofNat k)), .val (.int s2)] [(.int (2 : Int32)), (.int (Int32.ofNat k))])) (fun _ kt => XS.iconst X0.here hx rfl (hb hby d_method_4_code_32) kt) ?_
    by_cases c395 : (2 : Int32) < (Int32.ofNat k)
    · skip
      refine Rch.of (T' := T0) (g' := (mkF m 36 #[.val (.ref a1), .val (.int (Int32.ofNat k)), .val (.int s2)] [])) (fun _ kt => XS.icmpNo X0.here hx rfl (hb hby d_method_4_code_33) rfl (tlt c395).2.2.2 kt) ?_
      refine Rch.of (T' := T0) (g' := (mkF m 37 #[.val (.ref a1), .val (.int (Int32.ofNat k)), .val (.int s2)] [(.ref a1)])) (fun _ kt => XS.aloadN X0.here hx rfl (hb hby d_method_4_code_36) rfl rfl kt) ?_
      refine Rch.of (T' := T0) (g' := (mkF m 38 #[.val (.ref a1), .val (.int (Int32.ofNat k)), .val (.int s2)] [(.int (2 : Int32)), (.ref a1)])) (fun _ kt => XS.iconst X0.here hx rfl (hb hby d_method_4_code_37) kt) ?_
      obtain ⟨cl396, Ar396, Sz396, Ha396⟩ := id V1
      refine Rch.of (T' := T0) (g' := (mkF m 39 #[.val (.ref a1), .val (.int (Int32.ofNat k)), .val (.int s2)] [(.int (y 2))])) (X0.caload hx (j := (2 : Int32)) (v := (.int (y 2))) (by rw [e0]; exact Ar396.1) (State.isArrayOf_alike hZ.alike Ar396.2.1) Ar396.2.2 (oIn (i := 2) Sz396 (by decide) (by decide)) (oAt (i := 2) Ha396 (by decide) (by decide)) (g := (mkF m 38 #[.val (.ref a1), .val (.int (Int32.ofNat k)), .val (.int s2)] [(.int (2 : Int32)), (.ref a1)])) rfl rfl (hb hby d_method_4_code_38)) ?_
      refine Rch.of (T' := T0) (g' := (mkF m 41 #[.val (.ref a1), .val (.int (Int32.ofNat k)), .val (.int s2)] [(.int (47 : Int32)), (.int (y 2))])) (fun _ kt => XS.bipush X0.here hx rfl (hb hby d_method_4_code_39) kt) ?_
      by_cases c397 : (y 2) = (47 : Int32)
      · skip
        refine Rch.of (T' := T0) (g' := (mkF m 44 #[.val (.ref a1), .val (.int (Int32.ofNat k)), .val (.int s2)] [])) (fun _ kt => XS.icmpNo X0.here hx rfl (hb hby d_method_4_code_41) rfl (teq c397).2 kt) ?_
        refine Rch.of (T' := T0) (g' := (mkF m 45 #[.val (.ref a1), .val (.int (Int32.ofNat k)), .val (.int s2)] [(.int (2 : Int32))])) (fun _ kt => XS.iconst X0.here hx rfl (hb hby d_method_4_code_44) kt) ?_
        refine Rch.of (T' := T0) (g' := (mkF m 46 #[.val (.ref a1), .val (.int (Int32.ofNat k)), .val (.int (2 : Int32))] [])) (fun _ kt => XS.istoreN X0.here hx rfl (hb hby d_method_4_code_45) rfl (l' := #[.val (.ref a1), .val (.int (Int32.ofNat k)), .val (.int (2 : Int32))]) rfl kt) ?_
        have hjk : 2 < k := (own_olt2 (i := 2) (by decide) (by omega)).mp c395
        exact J3 _ (own_st_yes hjk c397)
      · skip
        refine Rch.of (T' := T0) (g' := (mkF m 46 #[.val (.ref a1), .val (.int (Int32.ofNat k)), .val (.int s2)] [])) (fun _ kt => XS.icmpYes X0.here hx rfl (pc0 := 41) (pc' := 46) rfl (hb hby d_method_4_code_41) rfl (feq c397).2 (by decide) (by decide) kt) ?_
        have hjk : 2 < k := (own_olt2 (i := 2) (by decide) (by omega)).mp c395
        exact J3 _ (by rw [hs, own_st_no (j := 2) hjk c397])
    · skip
      refine Rch.of (T' := T0) (g' := (mkF m 46 #[.val (.ref a1), .val (.int (Int32.ofNat k)), .val (.int s2)] [])) (fun _ kt => XS.icmpYes X0.here hx rfl (pc0 := 33) (pc' := 46) rfl (hb hby d_method_4_code_33) rfl (flt c395).2.2.2 (by decide) (by decide) kt) ?_
      exact J3 _ (by rw [hs, own_st_ge (j := 2) (Nat.le_of_not_lt (fun q => c395 (own_lt3 q (by omega))))])
  have J1 : ∀ s2 : Int32, s2 = Int32.ofNat (own_ls y (47 : Int32) (min 1 k)) - (1 : Int32) → Rch p e below K T0 (mkF m 16 #[.val (.ref a1), .val (.int (Int32.ofNat k)), .val (.int s2)] []) := by
    intro s2 hs
    refine Rch.of (T' := T0) (g' := (mkF m 17 #[.val (.ref a1), .val (.int (Int32.ofNat k)), .val (.int s2)] [(.int (Int32.ofNat k))])) (fun _ kt => XS.iloadN X0.here hx rfl (hb hby d_method_4_code_16) rfl  kt) ?_
    refine Rch.of (T' := T0) (g' := (mkF m 18 #[.val (.ref a1), .val (.int (Int32.ofNat k)), .val (.int s2)] [(.int (1 : Int32)), (.int (Int32.ofNat k))])) (fun _ kt => XS.iconst X0.here hx rfl (hb hby d_method_4_code_17) kt) ?_
    by_cases c398 : (1 : Int32) < (Int32.ofNat k)
    · skip
      refine Rch.of (T' := T0) (g' := (mkF m 21 #[.val (.ref a1), .val (.int (Int32.ofNat k)), .val (.int s2)] [])) (fun _ kt => XS.icmpNo X0.here hx rfl (hb hby d_method_4_code_18) rfl (tlt c398).2.2.2 kt) ?_
      refine Rch.of (T' := T0) (g' := (mkF m 22 #[.val (.ref a1), .val (.int (Int32.ofNat k)), .val (.int s2)] [(.ref a1)])) (fun _ kt => XS.aloadN X0.here hx rfl (hb hby d_method_4_code_21) rfl rfl kt) ?_
      refine Rch.of (T' := T0) (g' := (mkF m 23 #[.val (.ref a1), .val (.int (Int32.ofNat k)), .val (.int s2)] [(.int (1 : Int32)), (.ref a1)])) (fun _ kt => XS.iconst X0.here hx rfl (hb hby d_method_4_code_22) kt) ?_
      obtain ⟨cl399, Ar399, Sz399, Ha399⟩ := id V1
      refine Rch.of (T' := T0) (g' := (mkF m 24 #[.val (.ref a1), .val (.int (Int32.ofNat k)), .val (.int s2)] [(.int (y 1))])) (X0.caload hx (j := (1 : Int32)) (v := (.int (y 1))) (by rw [e0]; exact Ar399.1) (State.isArrayOf_alike hZ.alike Ar399.2.1) Ar399.2.2 (oIn (i := 1) Sz399 (by decide) (by decide)) (oAt (i := 1) Ha399 (by decide) (by decide)) (g := (mkF m 23 #[.val (.ref a1), .val (.int (Int32.ofNat k)), .val (.int s2)] [(.int (1 : Int32)), (.ref a1)])) rfl rfl (hb hby d_method_4_code_23)) ?_
      refine Rch.of (T' := T0) (g' := (mkF m 26 #[.val (.ref a1), .val (.int (Int32.ofNat k)), .val (.int s2)] [(.int (47 : Int32)), (.int (y 1))])) (fun _ kt => XS.bipush X0.here hx rfl (hb hby d_method_4_code_24) kt) ?_
      by_cases c400 : (y 1) = (47 : Int32)
      · skip
        refine Rch.of (T' := T0) (g' := (mkF m 29 #[.val (.ref a1), .val (.int (Int32.ofNat k)), .val (.int s2)] [])) (fun _ kt => XS.icmpNo X0.here hx rfl (hb hby d_method_4_code_26) rfl (teq c400).2 kt) ?_
        refine Rch.of (T' := T0) (g' := (mkF m 30 #[.val (.ref a1), .val (.int (Int32.ofNat k)), .val (.int s2)] [(.int (1 : Int32))])) (fun _ kt => XS.iconst X0.here hx rfl (hb hby d_method_4_code_29) kt) ?_
        refine Rch.of (T' := T0) (g' := (mkF m 31 #[.val (.ref a1), .val (.int (Int32.ofNat k)), .val (.int (1 : Int32))] [])) (fun _ kt => XS.istoreN X0.here hx rfl (hb hby d_method_4_code_30) rfl (l' := #[.val (.ref a1), .val (.int (Int32.ofNat k)), .val (.int (1 : Int32))]) rfl kt) ?_
        have hjk : 1 < k := (own_olt2 (i := 1) (by decide) (by omega)).mp c398
        exact J2 _ (own_st_yes hjk c400)
      · skip
        refine Rch.of (T' := T0) (g' := (mkF m 31 #[.val (.ref a1), .val (.int (Int32.ofNat k)), .val (.int s2)] [])) (fun _ kt => XS.icmpYes X0.here hx rfl (pc0 := 26) (pc' := 31) rfl (hb hby d_method_4_code_26) rfl (feq c400).2 (by decide) (by decide) kt) ?_
        have hjk : 1 < k := (own_olt2 (i := 1) (by decide) (by omega)).mp c398
        exact J2 _ (by rw [hs, own_st_no (j := 1) hjk c400])
    · skip
      refine Rch.of (T' := T0) (g' := (mkF m 31 #[.val (.ref a1), .val (.int (Int32.ofNat k)), .val (.int s2)] [])) (fun _ kt => XS.icmpYes X0.here hx rfl (pc0 := 18) (pc' := 31) rfl (hb hby d_method_4_code_18) rfl (flt c398).2.2.2 (by decide) (by decide) kt) ?_
      exact J2 _ (by rw [hs, own_st_ge (j := 1) (Nat.le_of_not_lt (fun q => c398 (own_lt3 q (by omega))))])
  have J0 : ∀ s2 : Int32, s2 = Int32.ofNat (own_ls y (47 : Int32) (min 0 k)) - (1 : Int32) → Rch p e below K T0 (mkF m 2 #[.val (.ref a1), .val (.int (Int32.ofNat k)), .val (.int s2)] []) := by
    intro s2 hs
    refine Rch.of (T' := T0) (g' := (mkF m 3 #[.val (.ref a1), .val (.int (Int32.ofNat k)), .val (.int s2)] [(.int (Int32.ofNat k))])) (fun _ kt => XS.iloadN X0.here hx rfl (hb hby d_method_4_code_2) rfl  kt) ?_
    by_cases c401 : (0 : Int32) < (Int32.ofNat k)
    · skip
      refine Rch.of (T' := T0) (g' := (mkF m 6 #[.val (.ref a1), .val (.int (Int32.ofNat k)), .val (.int s2)] [])) (fun _ kt => XS.ifNo X0.here hx rfl (hb hby d_method_4_code_3) rfl ((if0 _ _).trans (tlt c401).2.2.2) kt) ?_
      refine Rch.of (T' := T0) (g' := (mkF m 7 #[.val (.ref a1), .val (.int (Int32.ofNat k)), .val (.int s2)] [(.ref a1)])) (fun _ kt => XS.aloadN X0.here hx rfl (hb hby d_method_4_code_6) rfl rfl kt) ?_
      refine Rch.of (T' := T0) (g' := (mkF m 8 #[.val (.ref a1), .val (.int (Int32.ofNat k)), .val (.int s2)] [(.int (0 : Int32)), (.ref a1)])) (fun _ kt => XS.iconst X0.here hx rfl (hb hby d_method_4_code_7) kt) ?_
      obtain ⟨cl402, Ar402, Sz402, Ha402⟩ := id V1
      refine Rch.of (T' := T0) (g' := (mkF m 9 #[.val (.ref a1), .val (.int (Int32.ofNat k)), .val (.int s2)] [(.int (y 0))])) (X0.caload hx (j := (0 : Int32)) (v := (.int (y 0))) (by rw [e0]; exact Ar402.1) (State.isArrayOf_alike hZ.alike Ar402.2.1) Ar402.2.2 (oIn (i := 0) Sz402 (by decide) (by decide)) (oAt (i := 0) Ha402 (by decide) (by decide)) (g := (mkF m 8 #[.val (.ref a1), .val (.int (Int32.ofNat k)), .val (.int s2)] [(.int (0 : Int32)), (.ref a1)])) rfl rfl (hb hby d_method_4_code_8)) ?_
      refine Rch.of (T' := T0) (g' := (mkF m 11 #[.val (.ref a1), .val (.int (Int32.ofNat k)), .val (.int s2)] [(.int (47 : Int32)), (.int (y 0))])) (fun _ kt => XS.bipush X0.here hx rfl (hb hby d_method_4_code_9) kt) ?_
      by_cases c403 : (y 0) = (47 : Int32)
      · skip
        refine Rch.of (T' := T0) (g' := (mkF m 14 #[.val (.ref a1), .val (.int (Int32.ofNat k)), .val (.int s2)] [])) (fun _ kt => XS.icmpNo X0.here hx rfl (hb hby d_method_4_code_11) rfl (teq c403).2 kt) ?_
        refine Rch.of (T' := T0) (g' := (mkF m 15 #[.val (.ref a1), .val (.int (Int32.ofNat k)), .val (.int s2)] [(.int (0 : Int32))])) (fun _ kt => XS.iconst X0.here hx rfl (hb hby d_method_4_code_14) kt) ?_
        refine Rch.of (T' := T0) (g' := (mkF m 16 #[.val (.ref a1), .val (.int (Int32.ofNat k)), .val (.int (0 : Int32))] [])) (fun _ kt => XS.istoreN X0.here hx rfl (hb hby d_method_4_code_15) rfl (l' := #[.val (.ref a1), .val (.int (Int32.ofNat k)), .val (.int (0 : Int32))]) rfl kt) ?_
        have hjk : 0 < k := (own_olt2 (i := 0) (by decide) (by omega)).mp c401
        exact J1 _ (own_st_yes hjk c403)
      · skip
        refine Rch.of (T' := T0) (g' := (mkF m 16 #[.val (.ref a1), .val (.int (Int32.ofNat k)), .val (.int s2)] [])) (fun _ kt => XS.icmpYes X0.here hx rfl (pc0 := 11) (pc' := 16) rfl (hb hby d_method_4_code_11) rfl (feq c403).2 (by decide) (by decide) kt) ?_
        have hjk : 0 < k := (own_olt2 (i := 0) (by decide) (by omega)).mp c401
        exact J1 _ (by rw [hs, own_st_no (j := 0) hjk c403])
    · skip
      refine Rch.of (T' := T0) (g' := (mkF m 16 #[.val (.ref a1), .val (.int (Int32.ofNat k)), .val (.int s2)] [])) (fun _ kt => XS.ifYes X0.here hx rfl (pc0 := 3) (pc' := 16) rfl (hb hby d_method_4_code_3) rfl ((if0 _ _).trans (flt c401).2.2.2) (by decide) (by decide) kt) ?_
      exact J1 _ (by rw [hs, own_st_ge (j := 0) (Nat.le_of_not_lt (fun q => c401 (own_lt3 q (by omega))))])
  exact J0 _ (by rw [Nat.zero_min]; exact (by decide : (-1 : Int32) = Int32.ofNat 0 - (1 : Int32)))
theorem ef_rk4 (m : MethodId) (a1 : Addr) (p2 : Int32) : entryFrame m #[(.ref a1), (.int p2), (.int (Int32.ofNat i)), (.int (Int32.ofNat k))] 4 = mkF m 0 #[.val (.ref a1), .val (.int p2), .val (.int (Int32.ofNat i)), .val (.int (Int32.ofNat k))] [] := by first | (simp [entryFrame, mkF, argsToLocals, Value.category]; done) | rfl
def Q_rk4 (Z : State) (a1 : Addr) (p2 : Int32) (i : Nat) (k : Nat) (y : Nat → Int32) (h0 : Heap) (n0 : Nat) (vv_ : Option Value) (h : Heap) (LL_ : List Loc) : Prop := vv_ = some (.int (Int32.ofNat (own_fF y p2 i k))) ∧ Fr n0 LL_ ∧ (h = h0)
theorem d_method_5_code_0 : decode method_5_code 0 = .ok (.iload_n 2, 1) := by decide +kernel
theorem d_method_5_code_1 : decode method_5_code 1 = .ok (.ifCond .gt 17, 3) := by decide +kernel
theorem d_method_5_code_4 : decode method_5_code 4 = .ok (.iconst 0, 1) := by decide +kernel
theorem d_method_5_code_5 : decode method_5_code 5 = .ok (.iload_n 3, 1) := by decide +kernel
theorem d_method_5_code_6 : decode method_5_code 6 = .ok (.if_icmp .ge 12, 3) := by decide +kernel
theorem d_method_5_code_9 : decode method_5_code 9 = .ok (.aload_n 0, 1) := by decide +kernel
theorem d_method_5_code_10 : decode method_5_code 10 = .ok (.iconst 0, 1) := by decide +kernel
theorem d_method_5_code_11 : decode method_5_code 11 = .ok (.caload, 1) := by decide +kernel
theorem d_method_5_code_12 : decode method_5_code 12 = .ok (.iload_n 1, 1) := by decide +kernel
theorem d_method_5_code_13 : decode method_5_code 13 = .ok (.if_icmp .ne 5, 3) := by decide +kernel
theorem d_method_5_code_16 : decode method_5_code 16 = .ok (.iconst 0, 1) := by decide +kernel
theorem d_method_5_code_17 : decode method_5_code 17 = .ok (.ireturn, 1) := by decide +kernel
theorem d_method_5_code_18 : decode method_5_code 18 = .ok (.iload_n 2, 1) := by decide +kernel
theorem d_method_5_code_19 : decode method_5_code 19 = .ok (.iconst 1, 1) := by decide +kernel
theorem d_method_5_code_20 : decode method_5_code 20 = .ok (.if_icmp .gt 17, 3) := by decide +kernel
theorem d_method_5_code_23 : decode method_5_code 23 = .ok (.iconst 1, 1) := by decide +kernel
theorem d_method_5_code_24 : decode method_5_code 24 = .ok (.iload_n 3, 1) := by decide +kernel
theorem d_method_5_code_25 : decode method_5_code 25 = .ok (.if_icmp .ge 12, 3) := by decide +kernel
theorem d_method_5_code_28 : decode method_5_code 28 = .ok (.aload_n 0, 1) := by decide +kernel
theorem d_method_5_code_29 : decode method_5_code 29 = .ok (.iconst 1, 1) := by decide +kernel
theorem d_method_5_code_30 : decode method_5_code 30 = .ok (.caload, 1) := by decide +kernel
theorem d_method_5_code_31 : decode method_5_code 31 = .ok (.iload_n 1, 1) := by decide +kernel
theorem d_method_5_code_32 : decode method_5_code 32 = .ok (.if_icmp .ne 5, 3) := by decide +kernel
theorem d_method_5_code_35 : decode method_5_code 35 = .ok (.iconst 1, 1) := by decide +kernel
theorem d_method_5_code_36 : decode method_5_code 36 = .ok (.ireturn, 1) := by decide +kernel
theorem d_method_5_code_37 : decode method_5_code 37 = .ok (.iload_n 2, 1) := by decide +kernel
theorem d_method_5_code_38 : decode method_5_code 38 = .ok (.iconst 2, 1) := by decide +kernel
theorem d_method_5_code_39 : decode method_5_code 39 = .ok (.if_icmp .gt 17, 3) := by decide +kernel
theorem d_method_5_code_42 : decode method_5_code 42 = .ok (.iconst 2, 1) := by decide +kernel
theorem d_method_5_code_43 : decode method_5_code 43 = .ok (.iload_n 3, 1) := by decide +kernel
theorem d_method_5_code_44 : decode method_5_code 44 = .ok (.if_icmp .ge 12, 3) := by decide +kernel
theorem d_method_5_code_47 : decode method_5_code 47 = .ok (.aload_n 0, 1) := by decide +kernel
theorem d_method_5_code_48 : decode method_5_code 48 = .ok (.iconst 2, 1) := by decide +kernel
theorem d_method_5_code_49 : decode method_5_code 49 = .ok (.caload, 1) := by decide +kernel
theorem d_method_5_code_50 : decode method_5_code 50 = .ok (.iload_n 1, 1) := by decide +kernel
theorem d_method_5_code_51 : decode method_5_code 51 = .ok (.if_icmp .ne 5, 3) := by decide +kernel
theorem d_method_5_code_54 : decode method_5_code 54 = .ok (.iconst 2, 1) := by decide +kernel
theorem d_method_5_code_55 : decode method_5_code 55 = .ok (.ireturn, 1) := by decide +kernel
theorem d_method_5_code_56 : decode method_5_code 56 = .ok (.iload_n 2, 1) := by decide +kernel
theorem d_method_5_code_57 : decode method_5_code 57 = .ok (.iconst 3, 1) := by decide +kernel
theorem d_method_5_code_58 : decode method_5_code 58 = .ok (.if_icmp .gt 17, 3) := by decide +kernel
theorem d_method_5_code_61 : decode method_5_code 61 = .ok (.iconst 3, 1) := by decide +kernel
theorem d_method_5_code_62 : decode method_5_code 62 = .ok (.iload_n 3, 1) := by decide +kernel
theorem d_method_5_code_63 : decode method_5_code 63 = .ok (.if_icmp .ge 12, 3) := by decide +kernel
theorem d_method_5_code_66 : decode method_5_code 66 = .ok (.aload_n 0, 1) := by decide +kernel
theorem d_method_5_code_67 : decode method_5_code 67 = .ok (.iconst 3, 1) := by decide +kernel
theorem d_method_5_code_68 : decode method_5_code 68 = .ok (.caload, 1) := by decide +kernel
theorem d_method_5_code_69 : decode method_5_code 69 = .ok (.iload_n 1, 1) := by decide +kernel
theorem d_method_5_code_70 : decode method_5_code 70 = .ok (.if_icmp .ne 5, 3) := by decide +kernel
theorem d_method_5_code_73 : decode method_5_code 73 = .ok (.iconst 3, 1) := by decide +kernel
theorem d_method_5_code_74 : decode method_5_code 74 = .ok (.ireturn, 1) := by decide +kernel
theorem d_method_5_code_75 : decode method_5_code 75 = .ok (.iload_n 2, 1) := by decide +kernel
theorem d_method_5_code_76 : decode method_5_code 76 = .ok (.iconst 4, 1) := by decide +kernel
theorem d_method_5_code_77 : decode method_5_code 77 = .ok (.if_icmp .gt 17, 3) := by decide +kernel
theorem d_method_5_code_80 : decode method_5_code 80 = .ok (.iconst 4, 1) := by decide +kernel
theorem d_method_5_code_81 : decode method_5_code 81 = .ok (.iload_n 3, 1) := by decide +kernel
theorem d_method_5_code_82 : decode method_5_code 82 = .ok (.if_icmp .ge 12, 3) := by decide +kernel
theorem d_method_5_code_85 : decode method_5_code 85 = .ok (.aload_n 0, 1) := by decide +kernel
theorem d_method_5_code_86 : decode method_5_code 86 = .ok (.iconst 4, 1) := by decide +kernel
theorem d_method_5_code_87 : decode method_5_code 87 = .ok (.caload, 1) := by decide +kernel
theorem d_method_5_code_88 : decode method_5_code 88 = .ok (.iload_n 1, 1) := by decide +kernel
theorem d_method_5_code_89 : decode method_5_code 89 = .ok (.if_icmp .ne 5, 3) := by decide +kernel
theorem d_method_5_code_92 : decode method_5_code 92 = .ok (.iconst 4, 1) := by decide +kernel
theorem d_method_5_code_93 : decode method_5_code 93 = .ok (.ireturn, 1) := by decide +kernel
theorem d_method_5_code_94 : decode method_5_code 94 = .ok (.iload_n 3, 1) := by decide +kernel
theorem d_method_5_code_95 : decode method_5_code 95 = .ok (.ireturn, 1) := by decide +kernel
set_option maxRecDepth 65536 in
set_option maxHeartbeats 40000000 in
theorem rk4 (l : Launch) (Z : State) (a0 : Array Value) (hw : ∀ d ∈ tables_1, d.before a0 Z = true) (ws : List Jvm.Cond) (a1 : Addr) (p2 : Int32) (i : Nat) (k : Nat) (y : Nat → Int32) (h0 : Heap) (n0 : Nat) (Z0 : n0 ≤ h0.size) (V1 : Av Z h0 a1 .char 5 (fun q => .int (y q))) (hik : i ≤ k) (hk : k ≤ 5) :
    MetFree l (⟨"com/example/isidore/isidore/rulesets/mwsdn/PathNamesNodePinLaw", "firstFrom", "([CCII)I"⟩ : MethodName) (head1 (Jvm.Cond.code (⟨"com/example/isidore/isidore/rulesets/mwsdn/PathNamesNodePinLaw", "firstFrom", "([CCII)I"⟩ : MethodName) method_5_code 4 (some .int) :: ws) ({ frames := 0, cells := 0, slots := 0, locals := 0 } : Room)) (fun aa_ UU_ => aa_ = #[(.ref a1), (.int p2), (.int (Int32.ofNat i)), (.int (Int32.ofNat k))] ∧ Z.Warmed39 UU_.vm ∧ UU_.heap = h0) (fun _ _ _ _ _ => True) (fun _ UU_ oo_ VV_ => ∃ vv_ LL_, oo_ = .returned vv_ ∧ Q_rk4 Z a1 p2 i k y h0 n0 vv_ VV_.heap LL_ ∧ FrameEnd UU_ oo_ VV_ LL_ ({ frames := 0, cells := 0, slots := 0, locals := 0 } : Room).cells ({ frames := 0, cells := 0, slots := 0, locals := 0 } : Room).slots) := by
  refine own_met (y := (⟨"com/example/isidore/isidore/rulesets/mwsdn/PathNamesNodePinLaw", "firstFrom", "([CCII)I"⟩ : MethodName)) (plainFor_of_name pn_5) ?_
  intro p e s m below meth c T0 K hx hby hml hret hlk hown hnm hZ X0 e0 hK
  have N0 := Fr.nil n0
  refine Rch.cast (ef_rk4 m a1 p2) ?_
  have J5 : ∀ _u : Unit, (∀ q, q < 5 → i ≤ q → q < k → y q ≠ p2) → Rch p e below K T0 (mkF m 94 #[.val (.ref a1), .val (.int p2), .val (.int (Int32.ofNat i)), .val (.int (Int32.ofNat k))] []) := by
    intro _
    intro hh
    refine Rch.of (T' := T0) (g' := (mkF m 95 #[.val (.ref a1), .val (.int p2), .val (.int (Int32.ofNat i)), .val (.int (Int32.ofNat k))] [(.int (Int32.ofNat k))])) (fun _ kt => XS.iloadN X0.here hx rfl (hb hby d_method_5_code_94) rfl  kt) ?_
    exact Rch.retI X0 hx hret hlk (hb hby d_method_5_code_95) (fun U hU hF => hK _ U _ _ _ (by show Q_rk4 Z a1 p2 i k y h0 n0 _ U.heap _; rw [hU, e0]; exact ⟨congrArg (fun q : Nat => some (Value.int (Int32.ofNat q))) (own_fF_none hik (fun q h1 h2 => hh q (by omega) h1 h2)).symm, N0, rfl⟩) hF (by decide) (by decide))
  have J4 : ∀ _u : Unit, (∀ q, q < 4 → i ≤ q → q < k → y q ≠ p2) → Rch p e below K T0 (mkF m 75 #[.val (.ref a1), .val (.int p2), .val (.int (Int32.ofNat i)), .val (.int (Int32.ofNat k))] []) := by
    intro _
    intro hh
    refine Rch.of (T' := T0) (g' := (mkF m 76 #[.val (.ref a1), .val (.int p2), .val (.int (Int32.ofNat i)), .val (.int (Int32.ofNat k))] [(.int (Int32.ofNat i))])) (fun _ kt => XS.iloadN X0.here hx rfl (hb hby d_method_5_code_75) rfl  kt) ?_
    refine Rch.of (T' := T0) (g' := (mkF m 77 #[.val (.ref a1), .val (.int p2), .val (.int (Int32.ofNat i)), .val (.int (Int32.ofNat k))] [(.int (4 : Int32)), (.int (Int32.ofNat i))])) (fun _ kt => XS.iconst X0.here hx rfl (hb hby d_method_5_code_76) kt) ?_
    by_cases c404 : (4 : Int32) < (Int32.ofNat i)
    · skip
      refine Rch.of (T' := T0) (g' := (mkF m 94 #[.val (.ref a1), .val (.int p2), .val (.int (Int32.ofNat i)), .val (.int (Int32.ofNat k))] [])) (fun _ kt => XS.icmpYes X0.here hx rfl (pc0 := 77) (pc' := 94) rfl (hb hby d_method_5_code_77) rfl (tlt c404).2.2.1 (by decide) (by decide) kt) ?_
      exact J5 () (fun q hq h1 h2 => if u : q = 4 then absurd ((own_olt2 (i := 4) (by decide) (by omega)).mp c404) (by omega) else hh q (by omega) h1 h2)
    · skip
      refine Rch.of (T' := T0) (g' := (mkF m 80 #[.val (.ref a1), .val (.int p2), .val (.int (Int32.ofNat i)), .val (.int (Int32.ofNat k))] [])) (fun _ kt => XS.icmpNo X0.here hx rfl (hb hby d_method_5_code_77) rfl (flt c404).2.2.1 kt) ?_
      refine Rch.of (T' := T0) (g' := (mkF m 81 #[.val (.ref a1), .val (.int p2), .val (.int (Int32.ofNat i)), .val (.int (Int32.ofNat k))] [(.int (4 : Int32))])) (fun _ kt => XS.iconst X0.here hx rfl (hb hby d_method_5_code_80) kt) ?_
      refine Rch.of (T' := T0) (g' := (mkF m 82 #[.val (.ref a1), .val (.int p2), .val (.int (Int32.ofNat i)), .val (.int (Int32.ofNat k))] [(.int (Int32.ofNat k)), (.int (4 : Int32))])) (fun _ kt => XS.iloadN X0.here hx rfl (hb hby d_method_5_code_81) rfl  kt) ?_
      by_cases c405 : (4 : Int32) < (Int32.ofNat k)
      · skip
        refine Rch.of (T' := T0) (g' := (mkF m 85 #[.val (.ref a1), .val (.int p2), .val (.int (Int32.ofNat i)), .val (.int (Int32.ofNat k))] [])) (fun _ kt => XS.icmpNo X0.here hx rfl (hb hby d_method_5_code_82) rfl (tlt c405).2.1 kt) ?_
        refine Rch.of (T' := T0) (g' := (mkF m 86 #[.val (.ref a1), .val (.int p2), .val (.int (Int32.ofNat i)), .val (.int (Int32.ofNat k))] [(.ref a1)])) (fun _ kt => XS.aloadN X0.here hx rfl (hb hby d_method_5_code_85) rfl rfl kt) ?_
        refine Rch.of (T' := T0) (g' := (mkF m 87 #[.val (.ref a1), .val (.int p2), .val (.int (Int32.ofNat i)), .val (.int (Int32.ofNat k))] [(.int (4 : Int32)), (.ref a1)])) (fun _ kt => XS.iconst X0.here hx rfl (hb hby d_method_5_code_86) kt) ?_
        obtain ⟨cl406, Ar406, Sz406, Ha406⟩ := id V1
        refine Rch.of (T' := T0) (g' := (mkF m 88 #[.val (.ref a1), .val (.int p2), .val (.int (Int32.ofNat i)), .val (.int (Int32.ofNat k))] [(.int (y 4))])) (X0.caload hx (j := (4 : Int32)) (v := (.int (y 4))) (by rw [e0]; exact Ar406.1) (State.isArrayOf_alike hZ.alike Ar406.2.1) Ar406.2.2 (oIn (i := 4) Sz406 (by decide) (by decide)) (oAt (i := 4) Ha406 (by decide) (by decide)) (g := (mkF m 87 #[.val (.ref a1), .val (.int p2), .val (.int (Int32.ofNat i)), .val (.int (Int32.ofNat k))] [(.int (4 : Int32)), (.ref a1)])) rfl rfl (hb hby d_method_5_code_87)) ?_
        refine Rch.of (T' := T0) (g' := (mkF m 89 #[.val (.ref a1), .val (.int p2), .val (.int (Int32.ofNat i)), .val (.int (Int32.ofNat k))] [(.int p2), (.int (y 4))])) (fun _ kt => XS.iloadN X0.here hx rfl (hb hby d_method_5_code_88) rfl  kt) ?_
        by_cases c407 : (y 4) = p2
        · skip
          refine Rch.of (T' := T0) (g' := (mkF m 92 #[.val (.ref a1), .val (.int p2), .val (.int (Int32.ofNat i)), .val (.int (Int32.ofNat k))] [])) (fun _ kt => XS.icmpNo X0.here hx rfl (hb hby d_method_5_code_89) rfl (teq c407).2 kt) ?_
          refine Rch.of (T' := T0) (g' := (mkF m 93 #[.val (.ref a1), .val (.int p2), .val (.int (Int32.ofNat i)), .val (.int (Int32.ofNat k))] [(.int (4 : Int32))])) (fun _ kt => XS.iconst X0.here hx rfl (hb hby d_method_5_code_92) kt) ?_
          have hij : i ≤ 4 := Nat.le_of_not_lt (fun q => c404 (own_lt3 q (by omega)))
          have hjk : 4 < k := (own_olt2 (i := 4) (by decide) (by omega)).mp c405
          exact Rch.retI X0 hx hret hlk (hb hby d_method_5_code_93) (fun U hU hF => hK _ U _ _ _ (by show Q_rk4 Z a1 p2 i k y h0 n0 _ U.heap _; rw [hU, e0]; exact ⟨congrArg (fun q : Nat => some (Value.int (Int32.ofNat q))) (own_fF_at hij hjk c407 (fun q h1 h2 => hh q h2 h1 (by omega))).symm, N0, rfl⟩) hF (by decide) (by decide))
        · skip
          refine Rch.of (T' := T0) (g' := (mkF m 94 #[.val (.ref a1), .val (.int p2), .val (.int (Int32.ofNat i)), .val (.int (Int32.ofNat k))] [])) (fun _ kt => XS.icmpYes X0.here hx rfl (pc0 := 89) (pc' := 94) rfl (hb hby d_method_5_code_89) rfl (feq c407).2 (by decide) (by decide) kt) ?_
          exact J5 () (fun q hq h1 h2 => if u : q = 4 then by rw [u]; exact c407 else hh q (by omega) h1 h2)
      · skip
        refine Rch.of (T' := T0) (g' := (mkF m 94 #[.val (.ref a1), .val (.int p2), .val (.int (Int32.ofNat i)), .val (.int (Int32.ofNat k))] [])) (fun _ kt => XS.icmpYes X0.here hx rfl (pc0 := 82) (pc' := 94) rfl (hb hby d_method_5_code_82) rfl (flt c405).2.1 (by decide) (by decide) kt) ?_
        exact J5 () (fun q hq h1 h2 => if u : q = 4 then absurd (own_lt3 (i := 4) (by omega) (by omega)) c405 else hh q (by omega) h1 h2)
  have J3 : ∀ _u : Unit, (∀ q, q < 3 → i ≤ q → q < k → y q ≠ p2) → Rch p e below K T0 (mkF m 56 #[.val (.ref a1), .val (.int p2), .val (.int (Int32.ofNat i)), .val (.int (Int32.ofNat k))] []) := by
    intro _
    intro hh
    refine Rch.of (T' := T0) (g' := (mkF m 57 #[.val (.ref a1), .val (.int p2), .val (.int (Int32.ofNat i)), .val (.int (Int32.ofNat k))] [(.int (Int32.ofNat i))])) (fun _ kt => XS.iloadN X0.here hx rfl (hb hby d_method_5_code_56) rfl  kt) ?_
    refine Rch.of (T' := T0) (g' := (mkF m 58 #[.val (.ref a1), .val (.int p2), .val (.int (Int32.ofNat i)), .val (.int (Int32.ofNat k))] [(.int (3 : Int32)), (.int (Int32.ofNat i))])) (fun _ kt => XS.iconst X0.here hx rfl (hb hby d_method_5_code_57) kt) ?_
    by_cases c408 : (3 : Int32) < (Int32.ofNat i)
    · skip
      refine Rch.of (T' := T0) (g' := (mkF m 75 #[.val (.ref a1), .val (.int p2), .val (.int (Int32.ofNat i)), .val (.int (Int32.ofNat k))] [])) (fun _ kt => XS.icmpYes X0.here hx rfl (pc0 := 58) (pc' := 75) rfl (hb hby d_method_5_code_58) rfl (tlt c408).2.2.1 (by decide) (by decide) kt) ?_
      exact J4 () (fun q hq h1 h2 => if u : q = 3 then absurd ((own_olt2 (i := 3) (by decide) (by omega)).mp c408) (by omega) else hh q (by omega) h1 h2)
    · skip
      refine Rch.of (T' := T0) (g' := (mkF m 61 #[.val (.ref a1), .val (.int p2), .val (.int (Int32.ofNat i)), .val (.int (Int32.ofNat k))] [])) (fun _ kt => XS.icmpNo X0.here hx rfl (hb hby d_method_5_code_58) rfl (flt c408).2.2.1 kt) ?_
      refine Rch.of (T' := T0) (g' := (mkF m 62 #[.val (.ref a1), .val (.int p2), .val (.int (Int32.ofNat i)), .val (.int (Int32.ofNat k))] [(.int (3 : Int32))])) (fun _ kt => XS.iconst X0.here hx rfl (hb hby d_method_5_code_61) kt) ?_
      refine Rch.of (T' := T0) (g' := (mkF m 63 #[.val (.ref a1), .val (.int p2), .val (.int (Int32.ofNat i)), .val (.int (Int32.ofNat k))] [(.int (Int32.ofNat k)), (.int (3 : Int32))])) (fun _ kt => XS.iloadN X0.here hx rfl (hb hby d_method_5_code_62) rfl  kt) ?_
      by_cases c409 : (3 : Int32) < (Int32.ofNat k)
      · skip
        refine Rch.of (T' := T0) (g' := (mkF m 66 #[.val (.ref a1), .val (.int p2), .val (.int (Int32.ofNat i)), .val (.int (Int32.ofNat k))] [])) (fun _ kt => XS.icmpNo X0.here hx rfl (hb hby d_method_5_code_63) rfl (tlt c409).2.1 kt) ?_
        refine Rch.of (T' := T0) (g' := (mkF m 67 #[.val (.ref a1), .val (.int p2), .val (.int (Int32.ofNat i)), .val (.int (Int32.ofNat k))] [(.ref a1)])) (fun _ kt => XS.aloadN X0.here hx rfl (hb hby d_method_5_code_66) rfl rfl kt) ?_
        refine Rch.of (T' := T0) (g' := (mkF m 68 #[.val (.ref a1), .val (.int p2), .val (.int (Int32.ofNat i)), .val (.int (Int32.ofNat k))] [(.int (3 : Int32)), (.ref a1)])) (fun _ kt => XS.iconst X0.here hx rfl (hb hby d_method_5_code_67) kt) ?_
        obtain ⟨cl410, Ar410, Sz410, Ha410⟩ := id V1
        refine Rch.of (T' := T0) (g' := (mkF m 69 #[.val (.ref a1), .val (.int p2), .val (.int (Int32.ofNat i)), .val (.int (Int32.ofNat k))] [(.int (y 3))])) (X0.caload hx (j := (3 : Int32)) (v := (.int (y 3))) (by rw [e0]; exact Ar410.1) (State.isArrayOf_alike hZ.alike Ar410.2.1) Ar410.2.2 (oIn (i := 3) Sz410 (by decide) (by decide)) (oAt (i := 3) Ha410 (by decide) (by decide)) (g := (mkF m 68 #[.val (.ref a1), .val (.int p2), .val (.int (Int32.ofNat i)), .val (.int (Int32.ofNat k))] [(.int (3 : Int32)), (.ref a1)])) rfl rfl (hb hby d_method_5_code_68)) ?_
        refine Rch.of (T' := T0) (g' := (mkF m 70 #[.val (.ref a1), .val (.int p2), .val (.int (Int32.ofNat i)), .val (.int (Int32.ofNat k))] [(.int p2), (.int (y 3))])) (fun _ kt => XS.iloadN X0.here hx rfl (hb hby d_method_5_code_69) rfl  kt) ?_
        by_cases c411 : (y 3) = p2
        · skip
          refine Rch.of (T' := T0) (g' := (mkF m 73 #[.val (.ref a1), .val (.int p2), .val (.int (Int32.ofNat i)), .val (.int (Int32.ofNat k))] [])) (fun _ kt => XS.icmpNo X0.here hx rfl (hb hby d_method_5_code_70) rfl (teq c411).2 kt) ?_
          refine Rch.of (T' := T0) (g' := (mkF m 74 #[.val (.ref a1), .val (.int p2), .val (.int (Int32.ofNat i)), .val (.int (Int32.ofNat k))] [(.int (3 : Int32))])) (fun _ kt => XS.iconst X0.here hx rfl (hb hby d_method_5_code_73) kt) ?_
          have hij : i ≤ 3 := Nat.le_of_not_lt (fun q => c408 (own_lt3 q (by omega)))
          have hjk : 3 < k := (own_olt2 (i := 3) (by decide) (by omega)).mp c409
          exact Rch.retI X0 hx hret hlk (hb hby d_method_5_code_74) (fun U hU hF => hK _ U _ _ _ (by show Q_rk4 Z a1 p2 i k y h0 n0 _ U.heap _; rw [hU, e0]; exact ⟨congrArg (fun q : Nat => some (Value.int (Int32.ofNat q))) (own_fF_at hij hjk c411 (fun q h1 h2 => hh q h2 h1 (by omega))).symm, N0, rfl⟩) hF (by decide) (by decide))
        · skip
          refine Rch.of (T' := T0) (g' := (mkF m 75 #[.val (.ref a1), .val (.int p2), .val (.int (Int32.ofNat i)), .val (.int (Int32.ofNat k))] [])) (fun _ kt => XS.icmpYes X0.here hx rfl (pc0 := 70) (pc' := 75) rfl (hb hby d_method_5_code_70) rfl (feq c411).2 (by decide) (by decide) kt) ?_
          exact J4 () (fun q hq h1 h2 => if u : q = 3 then by rw [u]; exact c411 else hh q (by omega) h1 h2)
      · skip
        refine Rch.of (T' := T0) (g' := (mkF m 75 #[.val (.ref a1), .val (.int p2), .val (.int (Int32.ofNat i)), .val (.int (Int32.ofNat k))] [])) (fun _ kt => XS.icmpYes X0.here hx rfl (pc0 := 63) (pc' := 75) rfl (hb hby d_method_5_code_63) rfl (flt c409).2.1 (by decide) (by decide) kt) ?_
        exact J4 () (fun q hq h1 h2 => if u : q = 3 then absurd (own_lt3 (i := 3) (by omega) (by omega)) c409 else hh q (by omega) h1 h2)
  have J2 : ∀ _u : Unit, (∀ q, q < 2 → i ≤ q → q < k → y q ≠ p2) → Rch p e below K T0 (mkF m 37 #[.val (.ref a1), .val (.int p2), .val (.int (Int32.ofNat i)), .val (.int (Int32.ofNat k))] []) := by
    intro _
    intro hh
    refine Rch.of (T' := T0) (g' := (mkF m 38 #[.val (.ref a1), .val (.int p2), .val (.int (Int32.ofNat i)), .val (.int (Int32.ofNat k))] [(.int (Int32.ofNat i))])) (fun _ kt => XS.iloadN X0.here hx rfl (hb hby d_method_5_code_37) rfl  kt) ?_
    refine Rch.of (T' := T0) (g' := (mkF m 39 #[.val (.ref a1), .val (.int p2), .val (.int (Int32.ofNat i)), .val (.int (Int32.ofNat k))] [(.int (2 : Int32)), (.int (Int32.ofNat i))])) (fun _ kt => XS.iconst X0.here hx rfl (hb hby d_method_5_code_38) kt) ?_
    by_cases c412 : (2 : Int32) < (Int32.ofNat i)
    · skip
      refine Rch.of (T' := T0) (g' := (mkF m 56 #[.val (.ref a1), .val (.int p2), .val (.int (Int32.ofNat i)), .val (.int (Int32.ofNat k))] [])) (fun _ kt => XS.icmpYes X0.here hx rfl (pc0 := 39) (pc' := 56) rfl (hb hby d_method_5_code_39) rfl (tlt c412).2.2.1 (by decide) (by decide) kt) ?_
      exact J3 () (fun q hq h1 h2 => if u : q = 2 then absurd ((own_olt2 (i := 2) (by decide) (by omega)).mp c412) (by omega) else hh q (by omega) h1 h2)
    · skip
      refine Rch.of (T' := T0) (g' := (mkF m 42 #[.val (.ref a1), .val (.int p2), .val (.int (Int32.ofNat i)), .val (.int (Int32.ofNat k))] [])) (fun _ kt => XS.icmpNo X0.here hx rfl (hb hby d_method_5_code_39) rfl (flt c412).2.2.1 kt) ?_
      refine Rch.of (T' := T0) (g' := (mkF m 43 #[.val (.ref a1), .val (.int p2), .val (.int (Int32.ofNat i)), .val (.int (Int32.ofNat k))] [(.int (2 : Int32))])) (fun _ kt => XS.iconst X0.here hx rfl (hb hby d_method_5_code_42) kt) ?_
      refine Rch.of (T' := T0) (g' := (mkF m 44 #[.val (.ref a1), .val (.int p2), .val (.int (Int32.ofNat i)), .val (.int (Int32.ofNat k))] [(.int (Int32.ofNat k)), (.int (2 : Int32))])) (fun _ kt => XS.iloadN X0.here hx rfl (hb hby d_method_5_code_43) rfl  kt) ?_
      by_cases c413 : (2 : Int32) < (Int32.ofNat k)
      · skip
        refine Rch.of (T' := T0) (g' := (mkF m 47 #[.val (.ref a1), .val (.int p2), .val (.int (Int32.ofNat i)), .val (.int (Int32.ofNat k))] [])) (fun _ kt => XS.icmpNo X0.here hx rfl (hb hby d_method_5_code_44) rfl (tlt c413).2.1 kt) ?_
        refine Rch.of (T' := T0) (g' := (mkF m 48 #[.val (.ref a1), .val (.int p2), .val (.int (Int32.ofNat i)), .val (.int (Int32.ofNat k))] [(.ref a1)])) (fun _ kt => XS.aloadN X0.here hx rfl (hb hby d_method_5_code_47) rfl rfl kt) ?_
        refine Rch.of (T' := T0) (g' := (mkF m 49 #[.val (.ref a1), .val (.int p2), .val (.int (Int32.ofNat i)), .val (.int (Int32.ofNat k))] [(.int (2 : Int32)), (.ref a1)])) (fun _ kt => XS.iconst X0.here hx rfl (hb hby d_method_5_code_48) kt) ?_
        obtain ⟨cl414, Ar414, Sz414, Ha414⟩ := id V1
        refine Rch.of (T' := T0) (g' := (mkF m 50 #[.val (.ref a1), .val (.int p2), .val (.int (Int32.ofNat i)), .val (.int (Int32.ofNat k))] [(.int (y 2))])) (X0.caload hx (j := (2 : Int32)) (v := (.int (y 2))) (by rw [e0]; exact Ar414.1) (State.isArrayOf_alike hZ.alike Ar414.2.1) Ar414.2.2 (oIn (i := 2) Sz414 (by decide) (by decide)) (oAt (i := 2) Ha414 (by decide) (by decide)) (g := (mkF m 49 #[.val (.ref a1), .val (.int p2), .val (.int (Int32.ofNat i)), .val (.int (Int32.ofNat k))] [(.int (2 : Int32)), (.ref a1)])) rfl rfl (hb hby d_method_5_code_49)) ?_
        refine Rch.of (T' := T0) (g' := (mkF m 51 #[.val (.ref a1), .val (.int p2), .val (.int (Int32.ofNat i)), .val (.int (Int32.ofNat k))] [(.int p2), (.int (y 2))])) (fun _ kt => XS.iloadN X0.here hx rfl (hb hby d_method_5_code_50) rfl  kt) ?_
        by_cases c415 : (y 2) = p2
        · skip
          refine Rch.of (T' := T0) (g' := (mkF m 54 #[.val (.ref a1), .val (.int p2), .val (.int (Int32.ofNat i)), .val (.int (Int32.ofNat k))] [])) (fun _ kt => XS.icmpNo X0.here hx rfl (hb hby d_method_5_code_51) rfl (teq c415).2 kt) ?_
          refine Rch.of (T' := T0) (g' := (mkF m 55 #[.val (.ref a1), .val (.int p2), .val (.int (Int32.ofNat i)), .val (.int (Int32.ofNat k))] [(.int (2 : Int32))])) (fun _ kt => XS.iconst X0.here hx rfl (hb hby d_method_5_code_54) kt) ?_
          have hij : i ≤ 2 := Nat.le_of_not_lt (fun q => c412 (own_lt3 q (by omega)))
          have hjk : 2 < k := (own_olt2 (i := 2) (by decide) (by omega)).mp c413
          exact Rch.retI X0 hx hret hlk (hb hby d_method_5_code_55) (fun U hU hF => hK _ U _ _ _ (by show Q_rk4 Z a1 p2 i k y h0 n0 _ U.heap _; rw [hU, e0]; exact ⟨congrArg (fun q : Nat => some (Value.int (Int32.ofNat q))) (own_fF_at hij hjk c415 (fun q h1 h2 => hh q h2 h1 (by omega))).symm, N0, rfl⟩) hF (by decide) (by decide))
        · skip
          refine Rch.of (T' := T0) (g' := (mkF m 56 #[.val (.ref a1), .val (.int p2), .val (.int (Int32.ofNat i)), .val (.int (Int32.ofNat k))] [])) (fun _ kt => XS.icmpYes X0.here hx rfl (pc0 := 51) (pc' := 56) rfl (hb hby d_method_5_code_51) rfl (feq c415).2 (by decide) (by decide) kt) ?_
          exact J3 () (fun q hq h1 h2 => if u : q = 2 then by rw [u]; exact c415 else hh q (by omega) h1 h2)
      · skip
        refine Rch.of (T' := T0) (g' := (mkF m 56 #[.val (.ref a1), .val (.int p2), .val (.int (Int32.ofNat i)), .val (.int (Int32.ofNat k))] [])) (fun _ kt => XS.icmpYes X0.here hx rfl (pc0 := 44) (pc' := 56) rfl (hb hby d_method_5_code_44) rfl (flt c413).2.1 (by decide) (by decide) kt) ?_
        exact J3 () (fun q hq h1 h2 => if u : q = 2 then absurd (own_lt3 (i := 2) (by omega) (by omega)) c413 else hh q (by omega) h1 h2)
  have J1 : ∀ _u : Unit, (∀ q, q < 1 → i ≤ q → q < k → y q ≠ p2) → Rch p e below K T0 (mkF m 18 #[.val (.ref a1), .val (.int p2), .val (.int (Int32.ofNat i)), .val (.int (Int32.ofNat k))] []) := by
    intro _
    intro hh
    refine Rch.of (T' := T0) (g' := (mkF m 19 #[.val (.ref a1), .val (.int p2), .val (.int (Int32.ofNat i)), .val (.int (Int32.ofNat k))] [(.int (Int32.ofNat i))])) (fun _ kt => XS.iloadN X0.here hx rfl (hb hby d_method_5_code_18) rfl  kt) ?_
    refine Rch.of (T' := T0) (g' := (mkF m 20 #[.val (.ref a1), .val (.int p2), .val (.int (Int32.ofNat i)), .val (.int (Int32.ofNat k))] [(.int (1 : Int32)), (.int (Int32.ofNat i))])) (fun _ kt => XS.iconst X0.here hx rfl (hb hby d_method_5_code_19) kt) ?_
    by_cases c416 : (1 : Int32) < (Int32.ofNat i)
    · skip
      refine Rch.of (T' := T0) (g' := (mkF m 37 #[.val (.ref a1), .val (.int p2), .val (.int (Int32.ofNat i)), .val (.int (Int32.ofNat k))] [])) (fun _ kt => XS.icmpYes X0.here hx rfl (pc0 := 20) (pc' := 37) rfl (hb hby d_method_5_code_20) rfl (tlt c416).2.2.1 (by decide) (by decide) kt) ?_
      exact J2 () (fun q hq h1 h2 => if u : q = 1 then absurd ((own_olt2 (i := 1) (by decide) (by omega)).mp c416) (by omega) else hh q (by omega) h1 h2)
    · skip
      refine Rch.of (T' := T0) (g' := (mkF m 23 #[.val (.ref a1), .val (.int p2), .val (.int (Int32.ofNat i)), .val (.int (Int32.ofNat k))] [])) (fun _ kt => XS.icmpNo X0.here hx rfl (hb hby d_method_5_code_20) rfl (flt c416).2.2.1 kt) ?_
      refine Rch.of (T' := T0) (g' := (mkF m 24 #[.val (.ref a1), .val (.int p2), .val (.int (Int32.ofNat i)), .val (.int (Int32.ofNat k))] [(.int (1 : Int32))])) (fun _ kt => XS.iconst X0.here hx rfl (hb hby d_method_5_code_23) kt) ?_
      refine Rch.of (T' := T0) (g' := (mkF m 25 #[.val (.ref a1), .val (.int p2), .val (.int (Int32.ofNat i)), .val (.int (Int32.ofNat k))] [(.int (Int32.ofNat k)), (.int (1 : Int32))])) (fun _ kt => XS.iloadN X0.here hx rfl (hb hby d_method_5_code_24) rfl  kt) ?_
      by_cases c417 : (1 : Int32) < (Int32.ofNat k)
      · skip
        refine Rch.of (T' := T0) (g' := (mkF m 28 #[.val (.ref a1), .val (.int p2), .val (.int (Int32.ofNat i)), .val (.int (Int32.ofNat k))] [])) (fun _ kt => XS.icmpNo X0.here hx rfl (hb hby d_method_5_code_25) rfl (tlt c417).2.1 kt) ?_
        refine Rch.of (T' := T0) (g' := (mkF m 29 #[.val (.ref a1), .val (.int p2), .val (.int (Int32.ofNat i)), .val (.int (Int32.ofNat k))] [(.ref a1)])) (fun _ kt => XS.aloadN X0.here hx rfl (hb hby d_method_5_code_28) rfl rfl kt) ?_
        refine Rch.of (T' := T0) (g' := (mkF m 30 #[.val (.ref a1), .val (.int p2), .val (.int (Int32.ofNat i)), .val (.int (Int32.ofNat k))] [(.int (1 : Int32)), (.ref a1)])) (fun _ kt => XS.iconst X0.here hx rfl (hb hby d_method_5_code_29) kt) ?_
        obtain ⟨cl418, Ar418, Sz418, Ha418⟩ := id V1
        refine Rch.of (T' := T0) (g' := (mkF m 31 #[.val (.ref a1), .val (.int p2), .val (.int (Int32.ofNat i)), .val (.int (Int32.ofNat k))] [(.int (y 1))])) (X0.caload hx (j := (1 : Int32)) (v := (.int (y 1))) (by rw [e0]; exact Ar418.1) (State.isArrayOf_alike hZ.alike Ar418.2.1) Ar418.2.2 (oIn (i := 1) Sz418 (by decide) (by decide)) (oAt (i := 1) Ha418 (by decide) (by decide)) (g := (mkF m 30 #[.val (.ref a1), .val (.int p2), .val (.int (Int32.ofNat i)), .val (.int (Int32.ofNat k))] [(.int (1 : Int32)), (.ref a1)])) rfl rfl (hb hby d_method_5_code_30)) ?_
        refine Rch.of (T' := T0) (g' := (mkF m 32 #[.val (.ref a1), .val (.int p2), .val (.int (Int32.ofNat i)), .val (.int (Int32.ofNat k))] [(.int p2), (.int (y 1))])) (fun _ kt => XS.iloadN X0.here hx rfl (hb hby d_method_5_code_31) rfl  kt) ?_
        by_cases c419 : (y 1) = p2
        · skip
          refine Rch.of (T' := T0) (g' := (mkF m 35 #[.val (.ref a1), .val (.int p2), .val (.int (Int32.ofNat i)), .val (.int (Int32.ofNat k))] [])) (fun _ kt => XS.icmpNo X0.here hx rfl (hb hby d_method_5_code_32) rfl (teq c419).2 kt) ?_
          refine Rch.of (T' := T0) (g' := (mkF m 36 #[.val (.ref a1), .val (.int p2), .val (.int (Int32.ofNat i)), .val (.int (Int32.ofNat k))] [(.int (1 : Int32))])) (fun _ kt => XS.iconst X0.here hx rfl (hb hby d_method_5_code_35) kt) ?_
          have hij : i ≤ 1 := Nat.le_of_not_lt (fun q => c416 (own_lt3 q (by omega)))
          have hjk : 1 < k := (own_olt2 (i := 1) (by decide) (by omega)).mp c417
          exact Rch.retI X0 hx hret hlk (hb hby d_method_5_code_36) (fun U hU hF => hK _ U _ _ _ (by show Q_rk4 Z a1 p2 i k y h0 n0 _ U.heap _; rw [hU, e0]; exact ⟨congrArg (fun q : Nat => some (Value.int (Int32.ofNat q))) (own_fF_at hij hjk c419 (fun q h1 h2 => hh q h2 h1 (by omega))).symm, N0, rfl⟩) hF (by decide) (by decide))
        · skip
          refine Rch.of (T' := T0) (g' := (mkF m 37 #[.val (.ref a1), .val (.int p2), .val (.int (Int32.ofNat i)), .val (.int (Int32.ofNat k))] [])) (fun _ kt => XS.icmpYes X0.here hx rfl (pc0 := 32) (pc' := 37) rfl (hb hby d_method_5_code_32) rfl (feq c419).2 (by decide) (by decide) kt) ?_
          exact J2 () (fun q hq h1 h2 => if u : q = 1 then by rw [u]; exact c419 else hh q (by omega) h1 h2)
      · skip
        refine Rch.of (T' := T0) (g' := (mkF m 37 #[.val (.ref a1), .val (.int p2), .val (.int (Int32.ofNat i)), .val (.int (Int32.ofNat k))] [])) (fun _ kt => XS.icmpYes X0.here hx rfl (pc0 := 25) (pc' := 37) rfl (hb hby d_method_5_code_25) rfl (flt c417).2.1 (by decide) (by decide) kt) ?_
        exact J2 () (fun q hq h1 h2 => if u : q = 1 then absurd (own_lt3 (i := 1) (by omega) (by omega)) c417 else hh q (by omega) h1 h2)
  have J0 : ∀ _u : Unit, (∀ q, q < 0 → i ≤ q → q < k → y q ≠ p2) → Rch p e below K T0 (mkF m 0 #[.val (.ref a1), .val (.int p2), .val (.int (Int32.ofNat i)), .val (.int (Int32.ofNat k))] []) := by
    intro _
    intro hh
    refine Rch.of (T' := T0) (g' := (mkF m 1 #[.val (.ref a1), .val (.int p2), .val (.int (Int32.ofNat i)), .val (.int (Int32.ofNat k))] [(.int (Int32.ofNat i))])) (fun _ kt => XS.iloadN X0.here hx rfl (hb hby d_method_5_code_0) rfl  kt) ?_
    by_cases c420 : (0 : Int32) < (Int32.ofNat i)
    · skip
      refine Rch.of (T' := T0) (g' := (mkF m 18 #[.val (.ref a1), .val (.int p2), .val (.int (Int32.ofNat i)), .val (.int (Int32.ofNat k))] [])) (fun _ kt => XS.ifYes X0.here hx rfl (pc0 := 1) (pc' := 18) rfl (hb hby d_method_5_code_1) rfl ((if0 _ _).trans (tlt c420).2.2.1) (by decide) (by decide) kt) ?_
      exact J1 () (fun q hq h1 h2 => if u : q = 0 then absurd ((own_olt2 (i := 0) (by decide) (by omega)).mp c420) (by omega) else hh q (by omega) h1 h2)
    · skip
      refine Rch.of (T' := T0) (g' := (mkF m 4 #[.val (.ref a1), .val (.int p2), .val (.int (Int32.ofNat i)), .val (.int (Int32.ofNat k))] [])) (fun _ kt => XS.ifNo X0.here hx rfl (hb hby d_method_5_code_1) rfl ((if0 _ _).trans (flt c420).2.2.1) kt) ?_
      refine Rch.of (T' := T0) (g' := (mkF m 5 #[.val (.ref a1), .val (.int p2), .val (.int (Int32.ofNat i)), .val (.int (Int32.ofNat k))] [(.int (0 : Int32))])) (fun _ kt => XS.iconst X0.here hx rfl (hb hby d_method_5_code_4) kt) ?_
      refine Rch.of (T' := T0) (g' := (mkF m 6 #[.val (.ref a1), .val (.int p2), .val (.int (Int32.ofNat i)), .val (.int (Int32.ofNat k))] [(.int (Int32.ofNat k)), (.int (0 : Int32))])) (fun _ kt => XS.iloadN X0.here hx rfl (hb hby d_method_5_code_5) rfl  kt) ?_
      by_cases c421 : (0 : Int32) < (Int32.ofNat k)
      · skip
        refine Rch.of (T' := T0) (g' := (mkF m 9 #[.val (.ref a1), .val (.int p2), .val (.int (Int32.ofNat i)), .val (.int (Int32.ofNat k))] [])) (fun _ kt => XS.icmpNo X0.here hx rfl (hb hby d_method_5_code_6) rfl (tlt c421).2.1 kt) ?_
        refine Rch.of (T' := T0) (g' := (mkF m 10 #[.val (.ref a1), .val (.int p2), .val (.int (Int32.ofNat i)), .val (.int (Int32.ofNat k))] [(.ref a1)])) (fun _ kt => XS.aloadN X0.here hx rfl (hb hby d_method_5_code_9) rfl rfl kt) ?_
        refine Rch.of (T' := T0) (g' := (mkF m 11 #[.val (.ref a1), .val (.int p2), .val (.int (Int32.ofNat i)), .val (.int (Int32.ofNat k))] [(.int (0 : Int32)), (.ref a1)])) (fun _ kt => XS.iconst X0.here hx rfl (hb hby d_method_5_code_10) kt) ?_
        obtain ⟨cl422, Ar422, Sz422, Ha422⟩ := id V1
        refine Rch.of (T' := T0) (g' := (mkF m 12 #[.val (.ref a1), .val (.int p2), .val (.int (Int32.ofNat i)), .val (.int (Int32.ofNat k))] [(.int (y 0))])) (X0.caload hx (j := (0 : Int32)) (v := (.int (y 0))) (by rw [e0]; exact Ar422.1) (State.isArrayOf_alike hZ.alike Ar422.2.1) Ar422.2.2 (oIn (i := 0) Sz422 (by decide) (by decide)) (oAt (i := 0) Ha422 (by decide) (by decide)) (g := (mkF m 11 #[.val (.ref a1), .val (.int p2), .val (.int (Int32.ofNat i)), .val (.int (Int32.ofNat k))] [(.int (0 : Int32)), (.ref a1)])) rfl rfl (hb hby d_method_5_code_11)) ?_
        refine Rch.of (T' := T0) (g' := (mkF m 13 #[.val (.ref a1), .val (.int p2), .val (.int (Int32.ofNat i)), .val (.int (Int32.ofNat k))] [(.int p2), (.int (y 0))])) (fun _ kt => XS.iloadN X0.here hx rfl (hb hby d_method_5_code_12) rfl  kt) ?_
        by_cases c423 : (y 0) = p2
        · skip
          refine Rch.of (T' := T0) (g' := (mkF m 16 #[.val (.ref a1), .val (.int p2), .val (.int (Int32.ofNat i)), .val (.int (Int32.ofNat k))] [])) (fun _ kt => XS.icmpNo X0.here hx rfl (hb hby d_method_5_code_13) rfl (teq c423).2 kt) ?_
          refine Rch.of (T' := T0) (g' := (mkF m 17 #[.val (.ref a1), .val (.int p2), .val (.int (Int32.ofNat i)), .val (.int (Int32.ofNat k))] [(.int (0 : Int32))])) (fun _ kt => XS.iconst X0.here hx rfl (hb hby d_method_5_code_16) kt) ?_
          have hij : i ≤ 0 := Nat.le_of_not_lt (fun q => c420 (own_lt3 q (by omega)))
          have hjk : 0 < k := (own_olt2 (i := 0) (by decide) (by omega)).mp c421
          exact Rch.retI X0 hx hret hlk (hb hby d_method_5_code_17) (fun U hU hF => hK _ U _ _ _ (by show Q_rk4 Z a1 p2 i k y h0 n0 _ U.heap _; rw [hU, e0]; exact ⟨congrArg (fun q : Nat => some (Value.int (Int32.ofNat q))) (own_fF_at hij hjk c423 (fun q h1 h2 => hh q h2 h1 (by omega))).symm, N0, rfl⟩) hF (by decide) (by decide))
        · skip
          refine Rch.of (T' := T0) (g' := (mkF m 18 #[.val (.ref a1), .val (.int p2), .val (.int (Int32.ofNat i)), .val (.int (Int32.ofNat k))] [])) (fun _ kt => XS.icmpYes X0.here hx rfl (pc0 := 13) (pc' := 18) rfl (hb hby d_method_5_code_13) rfl (feq c423).2 (by decide) (by decide) kt) ?_
          exact J1 () (fun q hq h1 h2 => if u : q = 0 then by rw [u]; exact c423 else hh q (by omega) h1 h2)
      · skip
        refine Rch.of (T' := T0) (g' := (mkF m 18 #[.val (.ref a1), .val (.int p2), .val (.int (Int32.ofNat i)), .val (.int (Int32.ofNat k))] [])) (fun _ kt => XS.icmpYes X0.here hx rfl (pc0 := 6) (pc' := 18) rfl (hb hby d_method_5_code_6) rfl (flt c421).2.1 (by decide) (by decide) kt) ?_
        exact J1 () (fun q hq h1 h2 => if u : q = 0 then absurd (own_lt3 (i := 0) (by omega) (by omega)) c421 else hh q (by omega) h1 h2)
  exact J0 () (fun q hq => absurd hq (Nat.not_lt_zero q))
theorem ef_rk5 (m : MethodId) (a1 : Addr) (a3 : Addr) : entryFrame m #[(.ref a1), (.int (Int32.ofNat n)), (.ref a3), (.int (Int32.ofNat j)), (.int (Int32.ofNat i))] 5 = mkF m 0 #[.val (.ref a1), .val (.int (Int32.ofNat n)), .val (.ref a3), .val (.int (Int32.ofNat j)), .val (.int (Int32.ofNat i))] [] := by first | (simp [entryFrame, mkF, argsToLocals, Value.category]; done) | rfl
def Q_rk5 (Z : State) (a1 : Addr) (b1 : Addr) (n : Nat) (y : Nat → Int32) (a3 : Addr) (ya : Nat → Int32) (j : Nat) (i : Nat) (cs : Int32) (sv : Value) (h0 : Heap) (n0 : Nat) (vv_ : Option Value) (h : Heap) (LL_ : List Loc) : Prop := vv_ = some (.int (1 : Int32)) ∧ Fr n0 LL_ ∧ (h = h0)
theorem d_method_6_code_0 : decode method_6_code 0 = .ok (.iload 4, 2) := by decide +kernel
theorem d_method_6_code_2 : decode method_6_code 2 = .ok (.iload_n 1, 1) := by decide +kernel
theorem d_method_6_code_3 : decode method_6_code 3 = .ok (.if_icmp .ge 18, 3) := by decide +kernel
theorem d_method_6_code_6 : decode method_6_code 6 = .ok (.aload_n 0, 1) := by decide +kernel
theorem d_method_6_code_7 : decode method_6_code 7 = .ok (.iload 4, 2) := by decide +kernel
theorem d_method_6_code_9 : decode method_6_code 9 = .ok (.invokevirtual 12, 3) := by decide +kernel
theorem d_method_6_code_12 : decode method_6_code 12 = .ok (.aload_n 2, 1) := by decide +kernel
theorem d_method_6_code_13 : decode method_6_code 13 = .ok (.iload_n 3, 1) := by decide +kernel
theorem d_method_6_code_14 : decode method_6_code 14 = .ok (.iload 4, 2) := by decide +kernel
theorem d_method_6_code_16 : decode method_6_code 16 = .ok (.iadd, 1) := by decide +kernel
theorem d_method_6_code_17 : decode method_6_code 17 = .ok (.caload, 1) := by decide +kernel
theorem d_method_6_code_18 : decode method_6_code 18 = .ok (.if_icmp .ne 7, 3) := by decide +kernel
theorem d_method_6_code_21 : decode method_6_code 21 = .ok (.iconst 1, 1) := by decide +kernel
theorem d_method_6_code_22 : decode method_6_code 22 = .ok (.goto 4, 3) := by decide +kernel
theorem d_method_6_code_26 : decode method_6_code 26 = .ok (.ireturn, 1) := by decide +kernel
set_option maxRecDepth 65536 in
set_option maxHeartbeats 40000000 in
theorem rk5 (l : Launch) (Z : State) (a0 : Array Value) (hw : ∀ d ∈ tables_1, d.before a0 Z = true) (ws : List Jvm.Cond) (a1 : Addr) (b1 : Addr) (n : Nat) (y : Nat → Int32) (a3 : Addr) (ya : Nat → Int32) (j : Nat) (i : Nat) (cs : Int32) (sv : Value) (h0 : Heap) (n0 : Nat) (Z0 : n0 ≤ h0.size) (E1 : Exa Z h0 a1 "java/lang/String") (F1 : Fld Z h0 a1 "java/lang/String" "coder" "B" (.int (0 : Int32))) (F2 : Fld Z h0 a1 "java/lang/String" "value" "[B" (.ref b1)) (V1 : Av Z h0 b1 .byte n (fun q => .int ((y q).toInt8.toInt32))) (V3 : Av Z h0 a3 .char 5 (fun q => .int (ya q))) (hrel : ∀ q, q < n → y q = ya (j + q)) (hjn : j + n ≤ 5) (hi4 : i ≤ 4) (hy : own_ch n y) (SC : Sta Z h0 "java/lang/String" "COMPACT_STRINGS" "Z" (.int cs)) (hcs : ¬ cs = (0 : Int32)) (SI : Sta Z h0 "jdk/internal/util/Preconditions" "SIOOBE_FORMATTER" "Ljava/util/function/BiFunction;" sv) (hsv : sv.isRef = true) :
    MetFree l (⟨"com/example/isidore/isidore/rulesets/mwsdn/PathNamesNodePinLaw", "at", "(Ljava/lang/String;I[CII)Z"⟩ : MethodName) (head1 (Jvm.Cond.code (⟨"com/example/isidore/isidore/rulesets/mwsdn/PathNamesNodePinLaw", "at", "(Ljava/lang/String;I[CII)Z"⟩ : MethodName) method_6_code 5 (some .boolean) :: ws) ({ frames := 4, cells := 0, slots := 0, locals := 53 } : Room)) (fun aa_ UU_ => aa_ = #[(.ref a1), (.int (Int32.ofNat n)), (.ref a3), (.int (Int32.ofNat j)), (.int (Int32.ofNat i))] ∧ Z.Warmed39 UU_.vm ∧ UU_.heap = h0) (fun _ _ _ _ _ => True) (fun _ UU_ oo_ VV_ => ∃ vv_ LL_, oo_ = .returned vv_ ∧ Q_rk5 Z a1 b1 n y a3 ya j i cs sv h0 n0 vv_ VV_.heap LL_ ∧ FrameEnd UU_ oo_ VV_ LL_ ({ frames := 4, cells := 0, slots := 0, locals := 53 } : Room).cells ({ frames := 4, cells := 0, slots := 0, locals := 53 } : Room).slots) := by
  refine own_met (y := (⟨"com/example/isidore/isidore/rulesets/mwsdn/PathNamesNodePinLaw", "at", "(Ljava/lang/String;I[CII)Z"⟩ : MethodName)) (plainFor_of_name pn_5) ?_
  intro p e s m below meth c T0 K hx hby hml hret hlk hown hnm hZ X0 e0 hK
  have N0 := Fr.nil n0
  refine Rch.cast (ef_rk5 m a1 a3) ?_
  refine Rch.of (T' := T0) (g' := (mkF m 2 #[.val (.ref a1), .val (.int (Int32.ofNat n)), .val (.ref a3), .val (.int (Int32.ofNat j)), .val (.int (Int32.ofNat i))] [(.int (Int32.ofNat i))])) (fun _ kt => XS.iload X0.here hx rfl (hb hby d_method_6_code_0) rfl  kt) ?_
  refine Rch.of (T' := T0) (g' := (mkF m 3 #[.val (.ref a1), .val (.int (Int32.ofNat n)), .val (.ref a3), .val (.int (Int32.ofNat j)), .val (.int (Int32.ofNat i))] [(.int (Int32.ofNat n)), (.int (Int32.ofNat i))])) (fun _ kt => XS.iloadN X0.here hx rfl (hb hby d_method_6_code_2) rfl  kt) ?_
  by_cases c424 : (Int32.ofNat i) < (Int32.ofNat n)
  · skip
    refine Rch.of (T' := T0) (g' := (mkF m 6 #[.val (.ref a1), .val (.int (Int32.ofNat n)), .val (.ref a3), .val (.int (Int32.ofNat j)), .val (.int (Int32.ofNat i))] [])) (fun _ kt => XS.icmpNo X0.here hx rfl (hb hby d_method_6_code_3) rfl (tlt c424).2.1 kt) ?_
    have hin : i < n := (own_olt2 (by omega) (by omega)).mp c424
    have hji : j + i < 5 := by omega
    have tji : (Int32.ofNat j + Int32.ofNat i).toInt = ((j + i : Nat) : Int) := by rw [own_addN]; exact oTo (by omega)
    have kn425 : (y i) = (ya (j + i)) := hrel i hin
    refine Rch.of (T' := T0) (g' := (mkF m 7 #[.val (.ref a1), .val (.int (Int32.ofNat n)), .val (.ref a3), .val (.int (Int32.ofNat j)), .val (.int (Int32.ofNat i))] [(.ref a1)])) (fun _ kt => XS.aloadN X0.here hx rfl (hb hby d_method_6_code_6) rfl rfl kt) ?_
    refine Rch.of (T' := T0) (g' := (mkF m 9 #[.val (.ref a1), .val (.int (Int32.ofNat n)), .val (.ref a3), .val (.int (Int32.ofNat j)), .val (.int (Int32.ofNat i))] [(.int (Int32.ofNat i)), (.ref a1)])) (fun _ kt => XS.iload X0.here hx rfl (hb hby d_method_6_code_7) rfl  kt) ?_
    have pr427 : i < n := by omega
    have pr428 : n ≤ 5 := by omega
    obtain ⟨cq426, kq426, q426a, q426b, q426c⟩ := isOf hZ e0 E1
    obtain ⟨_, _, ⟨T426, L426, k426, n426⟩, -, X426, ⟨Lc426, hQ426, l426, y426, z426⟩, st426⟩ := X0.virtualBack hx (y := (⟨"java/lang/String", "charAt", "(I)C"⟩ : MethodName)) (z := (⟨"java/lang/String", "charAt", "(I)C"⟩ : MethodName)) hown (mvT hZ (hw _ (List.mem_of_getElem? (i := 154) rfl))) (mvT hZ (hw _ (List.mem_of_getElem? (i := 155) rfl))) (notFace_of_selects (args := #[]) (mvT hZ (hw _ (List.mem_of_getElem? (i := 157) rfl)))) (mvT hZ (hw _ (List.mem_of_getElem? (i := 157) rfl))) (mvT hZ (hw _ (List.mem_of_getElem? (i := 156) rfl))) (by decide) (backOf (W := 0) (rqCA l Z a0 hw [] a1 b1 n y i cs sv h0 n0 Z0 E1 F1 F2 V1 pr427 pr428 hy SC hcs SI hsv) hZ (hw _ (List.mem_of_getElem? (i := 158) rfl)) (hw _ (List.mem_of_getElem? (i := 10) rfl)) (by decide) (by decide)) q426a q426c (g := (mkF m 9 #[.val (.ref a1), .val (.int (Int32.ofNat n)), .val (.ref a3), .val (.int (Int32.ofNat j)), .val (.int (Int32.ofNat i))] [(.int (Int32.ofNat i)), (.ref a1)])) rfl (by rw [hml]; rfl) (Steps.refl _) (argsL := [(.int (Int32.ofNat i))]) (rest := []) (lenOf pd_0 rfl) rfl (by show 2 * 0 + _ ≤ _; exact Nat.le_of_eq rfl) (hb hby d_method_6_code_9) (fun _ _ => ⟨rfl, e0, (by decide : 0 + 0 ≤ _), (by decide : 0 + 0 ≤ _)⟩)
    dsimp only [Pt.U, Pt.locs, Pt.cells, Pt.slots] at X426 l426 y426 z426 st426 hQ426
    subst l426 y426 z426
    obtain ⟨rfl, N426q, hQ426⟩ := hQ426
    have N426 := Fr.app N0 N426q
    refine Rch.via (T' := T426) (g' := (mkF m 12 #[.val (.ref a1), .val (.int (Int32.ofNat n)), .val (.ref a3), .val (.int (Int32.ofNat j)), .val (.int (Int32.ofNat i))] [(.int (y i))])) st426 ?_
    refine Rch.of (T' := T426) (g' := (mkF m 13 #[.val (.ref a1), .val (.int (Int32.ofNat n)), .val (.ref a3), .val (.int (Int32.ofNat j)), .val (.int (Int32.ofNat i))] [(.ref a3), (.int (y i))])) (fun _ kt => XS.aloadN X426.here hx rfl (hb hby d_method_6_code_12) rfl rfl kt) ?_
    refine Rch.of (T' := T426) (g' := (mkF m 14 #[.val (.ref a1), .val (.int (Int32.ofNat n)), .val (.ref a3), .val (.int (Int32.ofNat j)), .val (.int (Int32.ofNat i))] [(.int (Int32.ofNat j)), (.ref a3), (.int (y i))])) (fun _ kt => XS.iloadN X426.here hx rfl (hb hby d_method_6_code_13) rfl  kt) ?_
    refine Rch.of (T' := T426) (g' := (mkF m 16 #[.val (.ref a1), .val (.int (Int32.ofNat n)), .val (.ref a3), .val (.int (Int32.ofNat j)), .val (.int (Int32.ofNat i))] [(.int (Int32.ofNat i)), (.int (Int32.ofNat j)), (.ref a3), (.int (y i))])) (fun _ kt => XS.iload X426.here hx rfl (hb hby d_method_6_code_14) rfl  kt) ?_
    refine Rch.of (T' := T426) (g' := (mkF m 17 #[.val (.ref a1), .val (.int (Int32.ofNat n)), .val (.ref a3), .val (.int (Int32.ofNat j)), .val (.int (Int32.ofNat i))] [(.int ((Int32.ofNat j) + (Int32.ofNat i))), (.ref a3), (.int (y i))])) (fun _ kt => XS.iadd X426.here hx rfl (hb hby d_method_6_code_16) rfl kt) ?_
    obtain ⟨cl429, Ar429, Sz429, Ha429⟩ := id V3
    refine Rch.of (T' := T426) (g' := (mkF m 18 #[.val (.ref a1), .val (.int (Int32.ofNat n)), .val (.ref a3), .val (.int (Int32.ofNat j)), .val (.int (Int32.ofNat i))] [(.int (ya (j + i))), (.int (y i))])) (X426.caload hx (j := ((Int32.ofNat j) + (Int32.ofNat i))) (v := (.int (ya (j + i)))) (by rw [hQ426]; exact Ar429.1) (State.isArrayOf_alike hZ.alike Ar429.2.1) Ar429.2.2 (oIn (i := (j + i)) Sz429 tji hji) (oAt (i := (j + i)) Ha429 tji hji) (g := (mkF m 17 #[.val (.ref a1), .val (.int (Int32.ofNat n)), .val (.ref a3), .val (.int (Int32.ofNat j)), .val (.int (Int32.ofNat i))] [(.int ((Int32.ofNat j) + (Int32.ofNat i))), (.ref a3), (.int (y i))])) rfl rfl (hb hby d_method_6_code_17)) ?_
    refine Rch.of (T' := T426) (g' := (mkF m 21 #[.val (.ref a1), .val (.int (Int32.ofNat n)), .val (.ref a3), .val (.int (Int32.ofNat j)), .val (.int (Int32.ofNat i))] [])) (fun _ kt => XS.icmpNo X426.here hx rfl (hb hby d_method_6_code_18) rfl (teq kn425).2 kt) ?_
    refine Rch.of (T' := T426) (g' := (mkF m 22 #[.val (.ref a1), .val (.int (Int32.ofNat n)), .val (.ref a3), .val (.int (Int32.ofNat j)), .val (.int (Int32.ofNat i))] [(.int (1 : Int32))])) (fun _ kt => XS.iconst X426.here hx rfl (hb hby d_method_6_code_21) kt) ?_
    refine Rch.of (T' := T426) (g' := (mkF m 26 #[.val (.ref a1), .val (.int (Int32.ofNat n)), .val (.ref a3), .val (.int (Int32.ofNat j)), .val (.int (Int32.ofNat i))] [(.int (1 : Int32))])) (fun _ kt => XS.goto X426.here hx rfl (pc0 := 22) (pc' := 26) rfl (hb hby d_method_6_code_22) (by decide) (by decide) kt) ?_
    exact Rch.retN X426 hx (t := .boolean) hret (by simp) hlk (hb hby d_method_6_code_26) (fun U hU hF => hK _ U _ _ _ (by show Q_rk5 Z a1 b1 n y a3 ya j i cs sv h0 n0 _ U.heap _; rw [hU, hQ426]; exact ⟨rfl, N426, rfl⟩) hF (by decide) (by decide))
  · skip
    refine Rch.of (T' := T0) (g' := (mkF m 21 #[.val (.ref a1), .val (.int (Int32.ofNat n)), .val (.ref a3), .val (.int (Int32.ofNat j)), .val (.int (Int32.ofNat i))] [])) (fun _ kt => XS.icmpYes X0.here hx rfl (pc0 := 3) (pc' := 21) rfl (hb hby d_method_6_code_3) rfl (flt c424).2.1 (by decide) (by decide) kt) ?_
    refine Rch.of (T' := T0) (g' := (mkF m 22 #[.val (.ref a1), .val (.int (Int32.ofNat n)), .val (.ref a3), .val (.int (Int32.ofNat j)), .val (.int (Int32.ofNat i))] [(.int (1 : Int32))])) (fun _ kt => XS.iconst X0.here hx rfl (hb hby d_method_6_code_21) kt) ?_
    refine Rch.of (T' := T0) (g' := (mkF m 26 #[.val (.ref a1), .val (.int (Int32.ofNat n)), .val (.ref a3), .val (.int (Int32.ofNat j)), .val (.int (Int32.ofNat i))] [(.int (1 : Int32))])) (fun _ kt => XS.goto X0.here hx rfl (pc0 := 22) (pc' := 26) rfl (hb hby d_method_6_code_22) (by decide) (by decide) kt) ?_
    exact Rch.retN X0 hx (t := .boolean) hret (by simp) hlk (hb hby d_method_6_code_26) (fun U hU hF => hK _ U _ _ _ (by show Q_rk5 Z a1 b1 n y a3 ya j i cs sv h0 n0 _ U.heap _; rw [hU, e0]; exact ⟨rfl, N0, rfl⟩) hF (by decide) (by decide))
theorem pn_6 : plainName "com/example/isidore/isidore/rulesets/mwsdn/PathNames" = true := by first | (simp [plainName, overriddenIn]; done) | decide +kernel
theorem ef_rk6 (m : MethodId) (a1 : Addr) : entryFrame m #[(.ref a1)] 3 = mkF m 0 #[.val (.ref a1), .unset, .unset] [] := by first | (simp [entryFrame, mkF, argsToLocals, Value.category]; done) | rfl
def Q_rk6 (Z : State) (a1 : Addr) (b1 : Addr) (n : Nat) (y : Nat → Int32) (cs : Int32) (sv : Value) (h0 : Heap) (n0 : Nat) (vv_ : Option Value) (h : Heap) (LL_ : List Loc) : Prop := ∃ r : Addr, ∃ b : Addr, ∃ t : Nat → Int32, vv_ = some (.ref r) ∧ Fr n0 LL_ ∧ (Keep h0 h [] ∧ Exa Z h r "java/lang/String" ∧ Fld Z h r "java/lang/String" "coder" "B" (.int (0 : Int32)) ∧ Fld Z h r "java/lang/String" "value" "[B" (.ref b) ∧ Av Z h b .byte (own_fN y (61 : Int32) n) (fun q => .int ((t q).toInt8.toInt32)) ∧ ∀ q, q < (own_fN y (61 : Int32) n) → t q = y q)
theorem d_prog_71_method_8_code_0 : decode prog_71_method_8_code 0 = .ok (.aload_n 0, 1) := by decide +kernel
theorem d_prog_71_method_8_code_1 : decode prog_71_method_8_code 1 = .ok (.bipush 61, 2) := by decide +kernel
theorem d_prog_71_method_8_code_3 : decode prog_71_method_8_code 3 = .ok (.invokevirtual 23, 3) := by decide +kernel
theorem d_prog_71_method_8_code_6 : decode prog_71_method_8_code 6 = .ok (.istore_n 1, 1) := by decide +kernel
theorem d_prog_71_method_8_code_7 : decode prog_71_method_8_code 7 = .ok (.aload_n 0, 1) := by decide +kernel
theorem d_prog_71_method_8_code_8 : decode prog_71_method_8_code 8 = .ok (.astore_n 2, 1) := by decide +kernel
theorem d_prog_71_method_8_code_9 : decode prog_71_method_8_code 9 = .ok (.iload_n 1, 1) := by decide +kernel
theorem d_prog_71_method_8_code_10 : decode prog_71_method_8_code 10 = .ok (.ifCond .lt 10, 3) := by decide +kernel
theorem d_prog_71_method_8_code_13 : decode prog_71_method_8_code 13 = .ok (.aload_n 0, 1) := by decide +kernel
theorem d_prog_71_method_8_code_14 : decode prog_71_method_8_code 14 = .ok (.iconst 0, 1) := by decide +kernel
theorem d_prog_71_method_8_code_15 : decode prog_71_method_8_code 15 = .ok (.iload_n 1, 1) := by decide +kernel
theorem d_prog_71_method_8_code_16 : decode prog_71_method_8_code 16 = .ok (.invokevirtual 34, 3) := by decide +kernel
theorem d_prog_71_method_8_code_19 : decode prog_71_method_8_code 19 = .ok (.astore_n 2, 1) := by decide +kernel
theorem d_prog_71_method_8_code_20 : decode prog_71_method_8_code 20 = .ok (.aload_n 2, 1) := by decide +kernel
theorem d_prog_71_method_8_code_21 : decode prog_71_method_8_code 21 = .ok (.areturn, 1) := by decide +kernel
set_option maxRecDepth 65536 in
set_option maxHeartbeats 40000000 in
theorem rk6 (l : Launch) (Z : State) (a0 : Array Value) (hw : ∀ d ∈ tables_1, d.before a0 Z = true) (ws : List Jvm.Cond) (a1 : Addr) (b1 : Addr) (n : Nat) (y : Nat → Int32) (cs : Int32) (sv : Value) (h0 : Heap) (n0 : Nat) (Z0 : n0 ≤ h0.size) (E1 : Exa Z h0 a1 "java/lang/String") (F1 : Fld Z h0 a1 "java/lang/String" "coder" "B" (.int (0 : Int32))) (F2 : Fld Z h0 a1 "java/lang/String" "value" "[B" (.ref b1)) (V1 : Av Z h0 b1 .byte n (fun q => .int ((y q).toInt8.toInt32))) (hn : n ≤ 5) (hy : own_ch n y) (SC : Sta Z h0 "java/lang/String" "COMPACT_STRINGS" "Z" (.int cs)) (hcs : ¬ cs = (0 : Int32)) (SI : Sta Z h0 "jdk/internal/util/Preconditions" "SIOOBE_FORMATTER" "Ljava/util/function/BiFunction;" sv) (hsv : sv.isRef = true) :
    MetFree l (⟨"com/example/isidore/isidore/rulesets/mwsdn/PathNames", "withoutKeys", "(Ljava/lang/String;)Ljava/lang/String;"⟩ : MethodName) (head1 (Jvm.Cond.code (⟨"com/example/isidore/isidore/rulesets/mwsdn/PathNames", "withoutKeys", "(Ljava/lang/String;)Ljava/lang/String;"⟩ : MethodName) prog_71_method_8_code 3 (some (.object "java/lang/String")) :: ws) ({ frames := 5, cells := 2, slots := 9, locals := 80 } : Room)) (fun aa_ UU_ => aa_ = #[(.ref a1)] ∧ Z.Warmed39 UU_.vm ∧ UU_.heap = h0 ∧ CHv Z consts_1 UU_.vm h0) (fun _ _ _ _ _ => True) (fun _ UU_ oo_ VV_ => ∃ vv_ LL_, oo_ = .returned vv_ ∧ Q_rk6 Z a1 b1 n y cs sv h0 n0 vv_ VV_.heap LL_ ∧ CHr Z consts_1 UU_.vm UU_.heap VV_.vm VV_.heap ∧ ReturnedEndW UU_ oo_ VV_ LL_ ({ frames := 5, cells := 2, slots := 9, locals := 80 } : Room).cells ({ frames := 5, cells := 2, slots := 9, locals := 80 } : Room).slots) := by
  refine own_metH (y := (⟨"com/example/isidore/isidore/rulesets/mwsdn/PathNames", "withoutKeys", "(Ljava/lang/String;)Ljava/lang/String;"⟩ : MethodName)) (plainFor_of_name pn_6) ?_
  intro p e s m below meth c T0 K hx hby hml hret hlk hown hnm hZ X0 e0 C0 hK
  have N0 := Fr.nil n0
  have R0 := CHr.refl C0
  have hEL := own_EW hw
  have hS0 : s.Since s.vm 0 := (State.WarmedH.refl s).since 0
  have hk0 : 0 ≤ h0.size := Nat.zero_le _
  have wS : ∀ d ∈ Bundle.stringAtoms, d.before a0 Z = true := fun d hd => hw d ((by decide +kernel : ∀ d ∈ Bundle.stringAtoms, d ∈ tables_1) d hd)
  change Stand p l e ({ frames := 5, cells := 2, slots := 9, locals := 80 } : Room) (s.setVm s.vm) m #[(.ref a1)] below meth c T0 [] 0 0 at X0
  change Z.Warmed39 (s.setVm s.vm).vm at hZ
  change (s.setVm s.vm).vm.findClass _ = some m.cls at hown
  refine Rch.cast (ef_rk6 m a1) ?_
  have fle := own_fN_le y (61 : Int32) n
  refine Rch.of (T' := T0) (g' := (mkF m 1 #[.val (.ref a1), .unset, .unset] [(.ref a1)])) (fun _ kt => XS.aloadN X0.here hx rfl (hb hby d_prog_71_method_8_code_0) rfl rfl kt) ?_
  refine Rch.of (T' := T0) (g' := (mkF m 3 #[.val (.ref a1), .unset, .unset] [(.int (61 : Int32)), (.ref a1)])) (fun _ kt => XS.bipush X0.here hx rfl (hb hby d_prog_71_method_8_code_1) kt) ?_
  have pr431 : n ≤ 5 := by omega
  obtain ⟨cq430, kq430, q430a, q430b, q430c⟩ := isOf hZ e0 E1
  obtain ⟨_, _, ⟨T430, L430, k430, n430⟩, -, X430, ⟨Lc430, hQ430, l430, y430, z430⟩, st430⟩ := X0.virtualBack hx (y := (⟨"java/lang/String", "indexOf", "(I)I"⟩ : MethodName)) (z := (⟨"java/lang/String", "indexOf", "(I)I"⟩ : MethodName)) hown (mvT hZ (hw _ (List.mem_of_getElem? (i := 91) rfl))) (mvT hZ (hw _ (List.mem_of_getElem? (i := 92) rfl))) (notFace_of_selects (args := #[]) (mvT hZ (hw _ (List.mem_of_getElem? (i := 94) rfl)))) (mvT hZ (hw _ (List.mem_of_getElem? (i := 94) rfl))) (mvT hZ (hw _ (List.mem_of_getElem? (i := 93) rfl))) (by decide) (backOf (W := 0) (rqI1 l Z a0 hw [] a1 b1 n y (61 : Int32) cs h0 n0 Z0 E1 F1 F2 V1 pr431 hy own_c61 SC hcs) hZ (hw _ (List.mem_of_getElem? (i := 95) rfl)) (hw _ (List.mem_of_getElem? (i := 10) rfl)) (by decide) (by decide)) q430a q430c (g := (mkF m 3 #[.val (.ref a1), .unset, .unset] [(.int (61 : Int32)), (.ref a1)])) rfl (by rw [hml]; rfl) (Steps.refl _) (argsL := [(.int (61 : Int32))]) (rest := []) (lenOf pd_6 rfl) rfl (by show 2 * 0 + _ ≤ _; exact Nat.le_of_eq rfl) (hb hby d_prog_71_method_8_code_3) (fun _ _ => ⟨rfl, e0, (by decide : 0 + 0 ≤ _), (by decide : 0 + 0 ≤ _)⟩)
  dsimp only [Pt.U, Pt.locs, Pt.cells, Pt.slots] at X430 l430 y430 z430 st430 hQ430
  subst l430 y430 z430
  obtain ⟨rfl, N430q, hQ430⟩ := hQ430
  have N430 := Fr.app N0 N430q
  refine Rch.via (T' := T430) (g' := (mkF m 6 #[.val (.ref a1), .unset, .unset] [(.int (own_ix y (61 : Int32) n))])) st430 ?_
  refine Rch.of (T' := T430) (g' := (mkF m 7 #[.val (.ref a1), .val (.int (own_ix y (61 : Int32) n)), .unset] [])) (fun _ kt => XS.istoreN X430.here hx rfl (hb hby d_prog_71_method_8_code_6) rfl (l' := #[.val (.ref a1), .val (.int (own_ix y (61 : Int32) n)), .unset]) rfl kt) ?_
  refine Rch.of (T' := T430) (g' := (mkF m 8 #[.val (.ref a1), .val (.int (own_ix y (61 : Int32) n)), .unset] [(.ref a1)])) (fun _ kt => XS.aloadN X430.here hx rfl (hb hby d_prog_71_method_8_code_7) rfl rfl kt) ?_
  refine Rch.of (T' := T430) (g' := (mkF m 9 #[.val (.ref a1), .val (.int (own_ix y (61 : Int32) n)), .val (.ref a1)] [])) (fun _ kt => XS.astoreN X430.here hx rfl (hb hby d_prog_71_method_8_code_8) rfl rfl (l' := #[.val (.ref a1), .val (.int (own_ix y (61 : Int32) n)), .val (.ref a1)]) rfl kt) ?_
  refine Rch.of (T' := T430) (g' := (mkF m 10 #[.val (.ref a1), .val (.int (own_ix y (61 : Int32) n)), .val (.ref a1)] [(.int (own_ix y (61 : Int32) n))])) (fun _ kt => XS.iloadN X430.here hx rfl (hb hby d_prog_71_method_8_code_9) rfl  kt) ?_
  by_cases c432 : (own_ix y (61 : Int32) n) < (0 : Int32)
  · skip
    refine Rch.of (T' := T430) (g' := (mkF m 20 #[.val (.ref a1), .val (.int (own_ix y (61 : Int32) n)), .val (.ref a1)] [])) (fun _ kt => XS.ifYes X430.here hx rfl (pc0 := 10) (pc' := 20) rfl (hb hby d_prog_71_method_8_code_10) rfl ((if0 _ _).trans (tlt c432).1) (by decide) (by decide) kt) ?_
    refine Rch.of (T' := T430) (g' := (mkF m 21 #[.val (.ref a1), .val (.int (own_ix y (61 : Int32) n)), .val (.ref a1)] [(.ref a1)])) (fun _ kt => XS.aloadN X430.here hx rfl (hb hby d_prog_71_method_8_code_20) rfl rfl kt) ?_
    exact Rch.retA X430 hx (w := (.ref a1)) hret rfl rfl hlk (hb hby d_prog_71_method_8_code_21) (fun U hU hF => hK _ U _ _ _ (by show Q_rk6 Z a1 b1 n y cs sv h0 n0 _ U.heap _; rw [hU, hQ430]; exact ⟨a1, b1, y, rfl, N430, (Keep.refl h0 []), E1, F1, F2, (by rw [own_ix_neg (by omega) c432]; exact V1), fun q _ => rfl⟩) (own_endH hZ hEL R0 (hU.trans hQ430) hF) (own_end hS0 (by rw [hU, hQ430]; exact hk0) hF) (by decide) (by decide))
  · skip
    refine Rch.of (T' := T430) (g' := (mkF m 13 #[.val (.ref a1), .val (.int (own_ix y (61 : Int32) n)), .val (.ref a1)] [])) (fun _ kt => XS.ifNo X430.here hx rfl (hb hby d_prog_71_method_8_code_10) rfl ((if0 _ _).trans (flt c432).1) kt) ?_
    have sw433 : (own_ix y (61 : Int32) n) = (Int32.ofNat (own_fN y (61 : Int32) n)) := own_ix_pos c432
    rw [sw433]
    show Rch p e below K T430 (mkF m 13 #[.val (.ref a1), .val (.int (Int32.ofNat (own_fN y (61 : Int32) n))), .val (.ref a1)] [])
    refine Rch.of (T' := T430) (g' := (mkF m 14 #[.val (.ref a1), .val (.int (Int32.ofNat (own_fN y (61 : Int32) n))), .val (.ref a1)] [(.ref a1)])) (fun _ kt => XS.aloadN X430.here hx rfl (hb hby d_prog_71_method_8_code_13) rfl rfl kt) ?_
    refine Rch.of (T' := T430) (g' := (mkF m 15 #[.val (.ref a1), .val (.int (Int32.ofNat (own_fN y (61 : Int32) n))), .val (.ref a1)] [(.int (0 : Int32)), (.ref a1)])) (fun _ kt => XS.iconst X430.here hx rfl (hb hby d_prog_71_method_8_code_14) kt) ?_
    refine Rch.of (T' := T430) (g' := (mkF m 16 #[.val (.ref a1), .val (.int (Int32.ofNat (own_fN y (61 : Int32) n))), .val (.ref a1)] [(.int (Int32.ofNat (own_fN y (61 : Int32) n))), (.int (0 : Int32)), (.ref a1)])) (fun _ kt => XS.iloadN X430.here hx rfl (hb hby d_prog_71_method_8_code_15) rfl  kt) ?_
    have pr435 : 0 ≤ (own_fN y (61 : Int32) n) := by omega
    have pr436 : (own_fN y (61 : Int32) n) ≤ n := by omega
    have pr437 : n ≤ 5 := by omega
    obtain ⟨cq434, kq434, q434a, q434b, q434c⟩ := isOf hZ hQ430 E1
    obtain ⟨_, _, ⟨T434, L434, k434, n434⟩, -, X434, hT434, gr434, ⟨Lc434, hQ434, l434, y434, z434, cr434⟩, st434⟩ := X430.virtualBackS hx (y := (⟨"java/lang/String", "substring", "(II)Ljava/lang/String;"⟩ : MethodName)) (z := (⟨"java/lang/String", "substring", "(II)Ljava/lang/String;"⟩ : MethodName)) hown (mvT hZ (hw _ (List.mem_of_getElem? (i := 153) rfl))) (mvT hZ (hw _ (List.mem_of_getElem? (i := 76) rfl))) (notFace_of_selects (args := #[]) (mvT hZ (hw _ (List.mem_of_getElem? (i := 78) rfl)))) (mvT hZ (hw _ (List.mem_of_getElem? (i := 78) rfl))) (mvT hZ (hw _ (List.mem_of_getElem? (i := 77) rfl))) (by decide) (backOfSH (s := s) (vm0 := s.vm) (EL := consts_1) (W := 0) (rqS2 l Z a0 hw [] a1 b1 n y 0 (own_fN y (61 : Int32) n) cs sv h0 n0 Z0 E1 F1 F2 V1 pr435 pr436 pr437 SC hcs SI hsv) hZ (hw _ (List.mem_of_getElem? (i := 79) rfl)) (hw _ (List.mem_of_getElem? (i := 10) rfl)) (by decide) (by decide) hEL R0.1) q434a q434c (g := (mkF m 16 #[.val (.ref a1), .val (.int (Int32.ofNat (own_fN y (61 : Int32) n))), .val (.ref a1)] [(.int (Int32.ofNat (own_fN y (61 : Int32) n))), (.int (0 : Int32)), (.ref a1)])) rfl (by rw [hml]; rfl) (Steps.refl _) (argsL := [(.int (0 : Int32)), (.int (Int32.ofNat (own_fN y (61 : Int32) n)))]) (rest := []) (lenOf pd_14 rfl) rfl (by show 2 * 0 + _ ≤ _; exact Nat.le_of_eq rfl) (hb hby d_prog_71_method_8_code_16) (fun _ _ => ⟨rfl, hQ430, (by decide : 0 + 2 ≤ _), (by decide : 0 + 9 ≤ _)⟩)
    dsimp only [Pt.U, Pt.locs, Pt.cells, Pt.slots] at X434 hT434 gr434 l434 y434 z434 st434 hQ434 cr434
    subst l434 y434 z434
    obtain ⟨X434, hS434, hZ, hown⟩ := rebS hS0 hk0 X434 hT434 (by rw [← hQ430]; exact gr434) hZ hown
    obtain ⟨rr434, rb434, rt434, rfl, N434q, hQ434⟩ := hQ434
    have N434 := Fr.app N430 N434q
    obtain ⟨K434, Ex434, Fa434, Fb434, V434, Eq434⟩ := hQ434
    refine Rch.via (T' := T434) (g' := (mkF m 19 #[.val (.ref a1), .val (.int (Int32.ofNat (own_fN y (61 : Int32) n))), .val (.ref a1)] [(.ref rr434)])) st434 ?_
    refine Rch.of (T' := T434) (g' := (mkF m 20 #[.val (.ref a1), .val (.int (Int32.ofNat (own_fN y (61 : Int32) n))), .val (.ref rr434)] [])) (fun _ kt => XS.astoreN X434.here hx rfl (hb hby d_prog_71_method_8_code_19) rfl rfl (l' := #[.val (.ref a1), .val (.int (Int32.ofNat (own_fN y (61 : Int32) n))), .val (.ref rr434)]) rfl kt) ?_
    refine Rch.of (T' := T434) (g' := (mkF m 21 #[.val (.ref a1), .val (.int (Int32.ofNat (own_fN y (61 : Int32) n))), .val (.ref rr434)] [(.ref rr434)])) (fun _ kt => XS.aloadN X434.here hx rfl (hb hby d_prog_71_method_8_code_20) rfl rfl kt) ?_
    exact Rch.retA X434 hx (w := (.ref rr434)) hret rfl rfl hlk (hb hby d_prog_71_method_8_code_21) (fun U hU hF => hK _ U _ _ _ (by show Q_rk6 Z a1 b1 n y cs sv h0 n0 _ U.heap _; rw [hU]; exact ⟨rr434, rb434, rt434, rfl, N434, ((Keep.refl h0 []).trans K434 all0), Ex434, Fa434, Fb434, V434, fun q hq => by rw [Eq434 q hq, Nat.zero_add]⟩) (own_endH hZ hEL (R0.trans cr434) hU hF) (own_end hS434 (by rw [hU]; exact (Nat.le_refl _)) hF) (by decide) (by decide))
theorem ef_rk7 (m : MethodId) (a1 : Addr) : entryFrame m #[(.ref a1)] 2 = mkF m 0 #[.val (.ref a1), .unset] [] := by first | (simp [entryFrame, mkF, argsToLocals, Value.category]; done) | rfl
def Q_rk7 (Z : State) (a1 : Addr) (b1 : Addr) (n : Nat) (y : Nat → Int32) (cs : Int32) (sv : Value) (h0 : Heap) (n0 : Nat) (vv_ : Option Value) (h : Heap) (LL_ : List Loc) : Prop := ∃ r : Addr, ∃ b : Addr, ∃ t : Nat → Int32, vv_ = some (.ref r) ∧ Fr n0 LL_ ∧ (Keep h0 h [] ∧ Exa Z h r "java/lang/String" ∧ Fld Z h r "java/lang/String" "coder" "B" (.int (0 : Int32)) ∧ Fld Z h r "java/lang/String" "value" "[B" (.ref b) ∧ Av Z h b .byte (own_nl y n) (fun q => .int ((t q).toInt8.toInt32)) ∧ ∀ q, q < own_nl y n → t q = y (own_no y n + q))
theorem d_prog_71_method_2_code_0 : decode prog_71_method_2_code 0 = .ok (.aload_n 0, 1) := by decide +kernel
theorem d_prog_71_method_2_code_1 : decode prog_71_method_2_code 1 = .ok (.aload_n 0, 1) := by decide +kernel
theorem d_prog_71_method_2_code_2 : decode prog_71_method_2_code 2 = .ok (.bipush 47, 2) := by decide +kernel
theorem d_prog_71_method_2_code_4 : decode prog_71_method_2_code 4 = .ok (.invokevirtual 7, 3) := by decide +kernel
theorem d_prog_71_method_2_code_7 : decode prog_71_method_2_code 7 = .ok (.iconst 1, 1) := by decide +kernel
theorem d_prog_71_method_2_code_8 : decode prog_71_method_2_code 8 = .ok (.iadd, 1) := by decide +kernel
theorem d_prog_71_method_2_code_9 : decode prog_71_method_2_code 9 = .ok (.invokevirtual 13, 3) := by decide +kernel
theorem d_prog_71_method_2_code_12 : decode prog_71_method_2_code 12 = .ok (.invokestatic 17, 3) := by decide +kernel
theorem d_prog_71_method_2_code_15 : decode prog_71_method_2_code 15 = .ok (.astore_n 1, 1) := by decide +kernel
theorem d_prog_71_method_2_code_16 : decode prog_71_method_2_code 16 = .ok (.aload_n 1, 1) := by decide +kernel
theorem d_prog_71_method_2_code_17 : decode prog_71_method_2_code 17 = .ok (.aload_n 1, 1) := by decide +kernel
theorem d_prog_71_method_2_code_18 : decode prog_71_method_2_code 18 = .ok (.bipush 58, 2) := by decide +kernel
theorem d_prog_71_method_2_code_20 : decode prog_71_method_2_code 20 = .ok (.invokevirtual 23, 3) := by decide +kernel
theorem d_prog_71_method_2_code_23 : decode prog_71_method_2_code 23 = .ok (.iconst 1, 1) := by decide +kernel
theorem d_prog_71_method_2_code_24 : decode prog_71_method_2_code 24 = .ok (.iadd, 1) := by decide +kernel
theorem d_prog_71_method_2_code_25 : decode prog_71_method_2_code 25 = .ok (.invokevirtual 13, 3) := by decide +kernel
theorem d_prog_71_method_2_code_28 : decode prog_71_method_2_code 28 = .ok (.areturn, 1) := by decide +kernel
set_option maxRecDepth 65536 in
set_option maxHeartbeats 40000000 in
theorem rk7 (l : Launch) (Z : State) (a0 : Array Value) (hw : ∀ d ∈ tables_1, d.before a0 Z = true) (ws : List Jvm.Cond) (a1 : Addr) (b1 : Addr) (n : Nat) (y : Nat → Int32) (cs : Int32) (sv : Value) (h0 : Heap) (n0 : Nat) (Z0 : n0 ≤ h0.size) (E1 : Exa Z h0 a1 "java/lang/String") (F1 : Fld Z h0 a1 "java/lang/String" "coder" "B" (.int (0 : Int32))) (F2 : Fld Z h0 a1 "java/lang/String" "value" "[B" (.ref b1)) (V1 : Av Z h0 b1 .byte n (fun q => .int ((y q).toInt8.toInt32))) (hn : n ≤ 5) (hy : own_ch n y) (SC : Sta Z h0 "java/lang/String" "COMPACT_STRINGS" "Z" (.int cs)) (hcs : ¬ cs = (0 : Int32)) (SI : Sta Z h0 "jdk/internal/util/Preconditions" "SIOOBE_FORMATTER" "Ljava/util/function/BiFunction;" sv) (hsv : sv.isRef = true) :
    MetFree l (⟨"com/example/isidore/isidore/rulesets/mwsdn/PathNames", "node", "(Ljava/lang/String;)Ljava/lang/String;"⟩ : MethodName) (head1 (Jvm.Cond.code (⟨"com/example/isidore/isidore/rulesets/mwsdn/PathNames", "node", "(Ljava/lang/String;)Ljava/lang/String;"⟩ : MethodName) prog_71_method_2_code 2 (some (.object "java/lang/String")) :: ws) ({ frames := 6, cells := 6, slots := 27, locals := 94 } : Room)) (fun aa_ UU_ => aa_ = #[(.ref a1)] ∧ Z.Warmed39 UU_.vm ∧ UU_.heap = h0 ∧ CHv Z consts_1 UU_.vm h0) (fun _ _ _ _ _ => True) (fun _ UU_ oo_ VV_ => ∃ vv_ LL_, oo_ = .returned vv_ ∧ Q_rk7 Z a1 b1 n y cs sv h0 n0 vv_ VV_.heap LL_ ∧ CHr Z consts_1 UU_.vm UU_.heap VV_.vm VV_.heap ∧ ReturnedEndW UU_ oo_ VV_ LL_ ({ frames := 6, cells := 6, slots := 27, locals := 94 } : Room).cells ({ frames := 6, cells := 6, slots := 27, locals := 94 } : Room).slots) := by
  refine own_metH (y := (⟨"com/example/isidore/isidore/rulesets/mwsdn/PathNames", "node", "(Ljava/lang/String;)Ljava/lang/String;"⟩ : MethodName)) (plainFor_of_name pn_6) ?_
  intro p e s m below meth c T0 K hx hby hml hret hlk hown hnm hZ X0 e0 C0 hK
  have N0 := Fr.nil n0
  have R0 := CHr.refl C0
  have hEL := own_EW hw
  have hS0 : s.Since s.vm 0 := (State.WarmedH.refl s).since 0
  have hk0 : 0 ≤ h0.size := Nat.zero_le _
  have wS : ∀ d ∈ Bundle.stringAtoms, d.before a0 Z = true := fun d hd => hw d ((by decide +kernel : ∀ d ∈ Bundle.stringAtoms, d ∈ tables_1) d hd)
  change Stand p l e ({ frames := 6, cells := 6, slots := 27, locals := 94 } : Room) (s.setVm s.vm) m #[(.ref a1)] below meth c T0 [] 0 0 at X0
  change Z.Warmed39 (s.setVm s.vm).vm at hZ
  change (s.setVm s.vm).vm.findClass _ = some m.cls at hown
  refine Rch.cast (ef_rk7 m a1) ?_
  have sle := own_ls_le y (47 : Int32) n
  refine Rch.of (T' := T0) (g' := (mkF m 1 #[.val (.ref a1), .unset] [(.ref a1)])) (fun _ kt => XS.aloadN X0.here hx rfl (hb hby d_prog_71_method_2_code_0) rfl rfl kt) ?_
  refine Rch.of (T' := T0) (g' := (mkF m 2 #[.val (.ref a1), .unset] [(.ref a1), (.ref a1)])) (fun _ kt => XS.aloadN X0.here hx rfl (hb hby d_prog_71_method_2_code_1) rfl rfl kt) ?_
  refine Rch.of (T' := T0) (g' := (mkF m 4 #[.val (.ref a1), .unset] [(.int (47 : Int32)), (.ref a1), (.ref a1)])) (fun _ kt => XS.bipush X0.here hx rfl (hb hby d_prog_71_method_2_code_2) kt) ?_
  have pr439 : n ≤ 5 := by omega
  obtain ⟨cq438, kq438, q438a, q438b, q438c⟩ := isOf hZ e0 E1
  obtain ⟨_, _, ⟨T438, L438, k438, n438⟩, -, X438, ⟨Lc438, hQ438, l438, y438, z438⟩, st438⟩ := X0.virtualBack hx (y := (⟨"java/lang/String", "lastIndexOf", "(I)I"⟩ : MethodName)) (z := (⟨"java/lang/String", "lastIndexOf", "(I)I"⟩ : MethodName)) hown (mvT hZ (hw _ (List.mem_of_getElem? (i := 33) rfl))) (mvT hZ (hw _ (List.mem_of_getElem? (i := 34) rfl))) (notFace_of_selects (args := #[]) (mvT hZ (hw _ (List.mem_of_getElem? (i := 36) rfl)))) (mvT hZ (hw _ (List.mem_of_getElem? (i := 36) rfl))) (mvT hZ (hw _ (List.mem_of_getElem? (i := 35) rfl))) (by decide) (backOf (W := 1) (rqL1 l Z a0 hw [] a1 b1 n y (47 : Int32) cs h0 n0 Z0 E1 F1 F2 V1 pr439 hy own_c47 SC hcs) hZ (hw _ (List.mem_of_getElem? (i := 37) rfl)) (hw _ (List.mem_of_getElem? (i := 10) rfl)) (by decide) (by decide)) q438a q438c (g := (mkF m 4 #[.val (.ref a1), .unset] [(.int (47 : Int32)), (.ref a1), (.ref a1)])) rfl (by rw [hml]; rfl) (Steps.refl _) (argsL := [(.int (47 : Int32))]) (rest := [(.ref a1)]) (lenOf pd_6 rfl) rfl (by show 2 * 0 + _ ≤ _; exact Nat.le_of_eq rfl) (hb hby d_prog_71_method_2_code_4) (fun _ _ => ⟨rfl, e0, (by decide : 0 + 0 ≤ _), (by decide : 0 + 0 ≤ _)⟩)
  dsimp only [Pt.U, Pt.locs, Pt.cells, Pt.slots] at X438 l438 y438 z438 st438 hQ438
  subst l438 y438 z438
  obtain ⟨rfl, N438q, hQ438⟩ := hQ438
  have N438 := Fr.app N0 N438q
  refine Rch.via (T' := T438) (g' := (mkF m 7 #[.val (.ref a1), .unset] [(.int ((Int32.ofNat (own_ls y (47 : Int32) n)) - (1 : Int32))), (.ref a1)])) st438 ?_
  refine Rch.of (T' := T438) (g' := (mkF m 8 #[.val (.ref a1), .unset] [(.int (1 : Int32)), (.int ((Int32.ofNat (own_ls y (47 : Int32) n)) - (1 : Int32))), (.ref a1)])) (fun _ kt => XS.iconst X438.here hx rfl (hb hby d_prog_71_method_2_code_7) kt) ?_
  refine Rch.of (T' := T438) (g' := (mkF m 9 #[.val (.ref a1), .unset] [(.int (((Int32.ofNat (own_ls y (47 : Int32) n)) - (1 : Int32)) + (1 : Int32))), (.ref a1)])) (fun _ kt => XS.iadd X438.here hx rfl (hb hby d_prog_71_method_2_code_8) rfl kt) ?_
  have sw440 : (((Int32.ofNat (own_ls y (47 : Int32) n)) - (1 : Int32)) + (1 : Int32)) = (Int32.ofNat (own_ls y (47 : Int32) n)) := own_pm _
  rw [sw440]
  show Rch p e below K T438 (mkF m 9 #[.val (.ref a1), .unset] [(.int (Int32.ofNat (own_ls y (47 : Int32) n))), (.ref a1)])
  have pr442 : (own_ls y (47 : Int32) n) ≤ n := by omega
  have pr443 : n ≤ 5 := by omega
  obtain ⟨cq441, kq441, q441a, q441b, q441c⟩ := isOf hZ hQ438 E1
  obtain ⟨_, _, ⟨T441, L441, k441, n441⟩, -, X441, hT441, gr441, ⟨Lc441, hQ441, l441, y441, z441, cr441⟩, st441⟩ := X438.virtualBackS hx (y := (⟨"java/lang/String", "substring", "(I)Ljava/lang/String;"⟩ : MethodName)) (z := (⟨"java/lang/String", "substring", "(I)Ljava/lang/String;"⟩ : MethodName)) hown (mvT hZ (hw _ (List.mem_of_getElem? (i := 70) rfl))) (mvT hZ (hw _ (List.mem_of_getElem? (i := 71) rfl))) (notFace_of_selects (args := #[]) (mvT hZ (hw _ (List.mem_of_getElem? (i := 73) rfl)))) (mvT hZ (hw _ (List.mem_of_getElem? (i := 73) rfl))) (mvT hZ (hw _ (List.mem_of_getElem? (i := 72) rfl))) (by decide) (backOfSH (s := s) (vm0 := s.vm) (EL := consts_1) (W := 0) (rqS1 l Z a0 hw [] a1 b1 n y (own_ls y (47 : Int32) n) cs sv h0 n0 Z0 E1 F1 F2 V1 pr442 pr443 SC hcs SI hsv) hZ (hw _ (List.mem_of_getElem? (i := 74) rfl)) (hw _ (List.mem_of_getElem? (i := 10) rfl)) (by decide) (by decide) hEL R0.1) q441a q441c (g := (mkF m 9 #[.val (.ref a1), .unset] [(.int (Int32.ofNat (own_ls y (47 : Int32) n))), (.ref a1)])) rfl (by rw [hml]; rfl) (Steps.refl _) (argsL := [(.int (Int32.ofNat (own_ls y (47 : Int32) n)))]) (rest := []) (lenOf pd_13 rfl) rfl (by show 2 * 0 + _ ≤ _; exact Nat.le_of_eq rfl) (hb hby d_prog_71_method_2_code_9) (fun _ _ => ⟨rfl, hQ438, (by decide : 0 + 2 ≤ _), (by decide : 0 + 9 ≤ _)⟩)
  dsimp only [Pt.U, Pt.locs, Pt.cells, Pt.slots] at X441 hT441 gr441 l441 y441 z441 st441 hQ441 cr441
  subst l441 y441 z441
  obtain ⟨X441, hS441, hZ, hown⟩ := rebS hS0 hk0 X441 hT441 (by rw [← hQ438]; exact gr441) hZ hown
  obtain ⟨rr441, rb441, rt441, rfl, N441q, hQ441⟩ := hQ441
  have N441 := Fr.app N438 N441q
  obtain ⟨K441, Ex441, Fa441, Fb441, V441, Eq441⟩ := hQ441
  refine Rch.via (T' := T441) (g' := (mkF m 12 #[.val (.ref a1), .unset] [(.ref rr441)])) st441 ?_
  have hcA : own_ch (n - (own_ls y (47 : Int32) n)) rt441 := fun q hq => by rw [Eq441 q hq]; exact hy _ (by omega)
  have pr445 : (n - (own_ls y (47 : Int32) n)) ≤ 5 := by omega
  obtain ⟨_, _, ⟨T444, L444, k444, n444⟩, -, X444, hT444, gr444, ⟨Lc444, hQ444, l444, y444, z444, cr444⟩, st444⟩ := callSS X441 hx (y := (⟨"com/example/isidore/isidore/rulesets/mwsdn/PathNames", "withoutKeys", "(Ljava/lang/String;)Ljava/lang/String;"⟩ : MethodName)) hown (mvT hZ (hw _ (List.mem_of_getElem? (i := 88) rfl))) (mvT hZ (hw _ (List.mem_of_getElem? (i := 89) rfl))) (mvT hZ (hw _ (List.mem_of_getElem? (i := 31) rfl))) (mvT hZ (hw _ (List.mem_of_getElem? (i := 90) rfl))) (by decide) (backOfSH (s := s) (vm0 := T441.vm) (EL := consts_1) (W := 0) (rk6 l Z a0 hw [] rr441 rb441 (n - (own_ls y (47 : Int32) n)) rt441 cs sv T441.heap n0 (Nat.le_trans Z0 K441.1) Ex441 Fa441 Fb441 V441 pr445 hcA (own_sta SC K441 ns0) hcs (own_sta SI K441 ns0) hsv) hZ (hw _ (List.mem_of_getElem? (i := 90) rfl)) (hw _ (List.mem_of_getElem? (i := 31) rfl)) (by decide) (by decide) hEL (R0.trans cr441).1) (g := (mkF m 12 #[.val (.ref a1), .unset] [(.ref rr441)])) rfl (by rw [hml]; rfl) (argsL := [(.ref rr441)]) (rest := []) (lenOf pd_5 rfl) rfl (by show 2 * 0 + _ ≤ _; exact Nat.le_of_eq rfl) (hb hby d_prog_71_method_2_code_12) (fun _ _ => ⟨rfl, rfl, (by decide : 2 + 2 ≤ _), (by decide : 9 + 9 ≤ _)⟩)
  dsimp only [Pt.U, Pt.locs, Pt.cells, Pt.slots] at X444 hT444 gr444 l444 y444 z444 st444 hQ444 cr444
  subst l444 y444 z444
  obtain ⟨X444, hS444, hZ, hown⟩ := rebS hS441 (Nat.le_refl _) X444 hT444 gr444 hZ hown
  obtain ⟨rr444, rb444, rt444, rfl, N444q, hQ444⟩ := hQ444
  have N444 := Fr.app N441 N444q
  obtain ⟨K444, Ex444, Fa444, Fb444, V444, Eq444⟩ := hQ444
  refine Rch.via (T' := T444) (g' := (mkF m 15 #[.val (.ref a1), .unset] [(.ref rr444)])) st444 ?_
  have mle := own_fN_le rt441 (61 : Int32) (n - (own_ls y (47 : Int32) n))
  have hcB : own_ch (own_fN rt441 (61 : Int32) (n - (own_ls y (47 : Int32) n))) rt444 := fun q hq => by rw [Eq444 q hq]; exact hcA _ (by omega)
  refine Rch.of (T' := T444) (g' := (mkF m 16 #[.val (.ref a1), .val (.ref rr444)] [])) (fun _ kt => XS.astoreN X444.here hx rfl (hb hby d_prog_71_method_2_code_15) rfl rfl (l' := #[.val (.ref a1), .val (.ref rr444)]) rfl kt) ?_
  refine Rch.of (T' := T444) (g' := (mkF m 17 #[.val (.ref a1), .val (.ref rr444)] [(.ref rr444)])) (fun _ kt => XS.aloadN X444.here hx rfl (hb hby d_prog_71_method_2_code_16) rfl rfl kt) ?_
  refine Rch.of (T' := T444) (g' := (mkF m 18 #[.val (.ref a1), .val (.ref rr444)] [(.ref rr444), (.ref rr444)])) (fun _ kt => XS.aloadN X444.here hx rfl (hb hby d_prog_71_method_2_code_17) rfl rfl kt) ?_
  refine Rch.of (T' := T444) (g' := (mkF m 20 #[.val (.ref a1), .val (.ref rr444)] [(.int (58 : Int32)), (.ref rr444), (.ref rr444)])) (fun _ kt => XS.bipush X444.here hx rfl (hb hby d_prog_71_method_2_code_18) kt) ?_
  have pr447 : (own_fN rt441 (61 : Int32) (n - (own_ls y (47 : Int32) n))) ≤ 5 := by omega
  obtain ⟨cq446, kq446, q446a, q446b, q446c⟩ := isOf hZ rfl Ex444
  obtain ⟨_, _, ⟨T446, L446, k446, n446⟩, -, X446, ⟨Lc446, hQ446, l446, y446, z446⟩, st446⟩ := X444.virtualBack hx (y := (⟨"java/lang/String", "indexOf", "(I)I"⟩ : MethodName)) (z := (⟨"java/lang/String", "indexOf", "(I)I"⟩ : MethodName)) hown (mvT hZ (hw _ (List.mem_of_getElem? (i := 91) rfl))) (mvT hZ (hw _ (List.mem_of_getElem? (i := 92) rfl))) (notFace_of_selects (args := #[]) (mvT hZ (hw _ (List.mem_of_getElem? (i := 94) rfl)))) (mvT hZ (hw _ (List.mem_of_getElem? (i := 94) rfl))) (mvT hZ (hw _ (List.mem_of_getElem? (i := 93) rfl))) (by decide) (backOf (W := 1) (rqI1 l Z a0 hw [] rr444 rb444 (own_fN rt441 (61 : Int32) (n - (own_ls y (47 : Int32) n))) rt444 (58 : Int32) cs T444.heap n0 (Nat.le_trans (Nat.le_trans Z0 K441.1) K444.1) Ex444 Fa444 Fb444 V444 pr447 hcB own_c58 (own_sta (own_sta SC K441 ns0) K444 ns0) hcs) hZ (hw _ (List.mem_of_getElem? (i := 95) rfl)) (hw _ (List.mem_of_getElem? (i := 10) rfl)) (by decide) (by decide)) q446a q446c (g := (mkF m 20 #[.val (.ref a1), .val (.ref rr444)] [(.int (58 : Int32)), (.ref rr444), (.ref rr444)])) rfl (by rw [hml]; rfl) (Steps.refl _) (argsL := [(.int (58 : Int32))]) (rest := [(.ref rr444)]) (lenOf pd_6 rfl) rfl (by show 2 * 0 + _ ≤ _; exact Nat.le_of_eq rfl) (hb hby d_prog_71_method_2_code_20) (fun _ _ => ⟨rfl, rfl, (by decide : 4 + 0 ≤ _), (by decide : 18 + 0 ≤ _)⟩)
  dsimp only [Pt.U, Pt.locs, Pt.cells, Pt.slots] at X446 l446 y446 z446 st446 hQ446
  subst l446 y446 z446
  obtain ⟨rfl, N446q, hQ446⟩ := hQ446
  have N446 := Fr.app N444 N446q
  refine Rch.via (T' := T446) (g' := (mkF m 23 #[.val (.ref a1), .val (.ref rr444)] [(.int (own_ix rt444 (58 : Int32) ((own_fN rt441 (61 : Int32) (n - (own_ls y (47 : Int32) n)))))), (.ref rr444)])) st446 ?_
  refine Rch.of (T' := T446) (g' := (mkF m 24 #[.val (.ref a1), .val (.ref rr444)] [(.int (1 : Int32)), (.int (own_ix rt444 (58 : Int32) ((own_fN rt441 (61 : Int32) (n - (own_ls y (47 : Int32) n)))))), (.ref rr444)])) (fun _ kt => XS.iconst X446.here hx rfl (hb hby d_prog_71_method_2_code_23) kt) ?_
  refine Rch.of (T' := T446) (g' := (mkF m 25 #[.val (.ref a1), .val (.ref rr444)] [(.int ((own_ix rt444 (58 : Int32) ((own_fN rt441 (61 : Int32) (n - (own_ls y (47 : Int32) n))))) + (1 : Int32))), (.ref rr444)])) (fun _ kt => XS.iadd X446.here hx rfl (hb hby d_prog_71_method_2_code_24) rfl kt) ?_
  have kle := own_kc_le rt444 (58 : Int32) (own_fN rt441 (61 : Int32) (n - (own_ls y (47 : Int32) n)))
  have sw448 : ((own_ix rt444 (58 : Int32) ((own_fN rt441 (61 : Int32) (n - (own_ls y (47 : Int32) n))))) + (1 : Int32)) = (Int32.ofNat (own_kc rt444 (58 : Int32) (own_fN rt441 (61 : Int32) (n - (own_ls y (47 : Int32) n))))) := own_ix_kc _ _ _
  rw [sw448]
  show Rch p e below K T446 (mkF m 25 #[.val (.ref a1), .val (.ref rr444)] [(.int (Int32.ofNat (own_kc rt444 (58 : Int32) (own_fN rt441 (61 : Int32) (n - (own_ls y (47 : Int32) n)))))), (.ref rr444)])
  have pr450 : (own_kc rt444 (58 : Int32) (own_fN rt441 (61 : Int32) (n - (own_ls y (47 : Int32) n)))) ≤ (own_fN rt441 (61 : Int32) (n - (own_ls y (47 : Int32) n))) := by omega
  have pr451 : (own_fN rt441 (61 : Int32) (n - (own_ls y (47 : Int32) n))) ≤ 5 := by omega
  obtain ⟨cq449, kq449, q449a, q449b, q449c⟩ := isOf hZ hQ446 Ex444
  obtain ⟨_, _, ⟨T449, L449, k449, n449⟩, -, X449, hT449, gr449, ⟨Lc449, hQ449, l449, y449, z449, cr449⟩, st449⟩ := X446.virtualBackS hx (y := (⟨"java/lang/String", "substring", "(I)Ljava/lang/String;"⟩ : MethodName)) (z := (⟨"java/lang/String", "substring", "(I)Ljava/lang/String;"⟩ : MethodName)) hown (mvT hZ (hw _ (List.mem_of_getElem? (i := 70) rfl))) (mvT hZ (hw _ (List.mem_of_getElem? (i := 71) rfl))) (notFace_of_selects (args := #[]) (mvT hZ (hw _ (List.mem_of_getElem? (i := 73) rfl)))) (mvT hZ (hw _ (List.mem_of_getElem? (i := 73) rfl))) (mvT hZ (hw _ (List.mem_of_getElem? (i := 72) rfl))) (by decide) (backOfSH (s := s) (vm0 := T444.vm) (EL := consts_1) (W := 0) (rqS1 l Z a0 hw [] rr444 rb444 (own_fN rt441 (61 : Int32) (n - (own_ls y (47 : Int32) n))) rt444 (own_kc rt444 (58 : Int32) (own_fN rt441 (61 : Int32) (n - (own_ls y (47 : Int32) n)))) cs sv T444.heap n0 (Nat.le_trans (Nat.le_trans Z0 K441.1) K444.1) Ex444 Fa444 Fb444 V444 pr450 pr451 (own_sta (own_sta SC K441 ns0) K444 ns0) hcs (own_sta (own_sta SI K441 ns0) K444 ns0) hsv) hZ (hw _ (List.mem_of_getElem? (i := 74) rfl)) (hw _ (List.mem_of_getElem? (i := 10) rfl)) (by decide) (by decide) hEL ((R0.trans cr441).trans cr444).1) q449a q449c (g := (mkF m 25 #[.val (.ref a1), .val (.ref rr444)] [(.int (Int32.ofNat (own_kc rt444 (58 : Int32) (own_fN rt441 (61 : Int32) (n - (own_ls y (47 : Int32) n)))))), (.ref rr444)])) rfl (by rw [hml]; rfl) (Steps.refl _) (argsL := [(.int (Int32.ofNat (own_kc rt444 (58 : Int32) (own_fN rt441 (61 : Int32) (n - (own_ls y (47 : Int32) n))))))]) (rest := []) (lenOf pd_13 rfl) rfl (by show 2 * 0 + _ ≤ _; exact Nat.le_of_eq rfl) (hb hby d_prog_71_method_2_code_25) (fun _ _ => ⟨rfl, hQ446, (by decide : 4 + 2 ≤ _), (by decide : 18 + 9 ≤ _)⟩)
  dsimp only [Pt.U, Pt.locs, Pt.cells, Pt.slots] at X449 hT449 gr449 l449 y449 z449 st449 hQ449 cr449
  subst l449 y449 z449
  obtain ⟨X449, hS449, hZ, hown⟩ := rebS hS444 (Nat.le_refl _) X449 hT449 (by rw [← hQ446]; exact gr449) hZ hown
  obtain ⟨rr449, rb449, rt449, rfl, N449q, hQ449⟩ := hQ449
  have N449 := Fr.app N446 N449q
  obtain ⟨K449, Ex449, Fa449, Fb449, V449, Eq449⟩ := hQ449
  refine Rch.via (T' := T449) (g' := (mkF m 28 #[.val (.ref a1), .val (.ref rr444)] [(.ref rr449)])) st449 ?_
  have em : (own_fN rt441 (61 : Int32) (n - (own_ls y (47 : Int32) n))) = own_m y n := own_fN_congr Eq441
  have ekk : (own_kc rt444 (58 : Int32) (own_fN rt441 (61 : Int32) (n - (own_ls y (47 : Int32) n)))) = own_k y n := by rw [own_kc_congr (z := fun q => y ((own_ls y (47 : Int32) n) + q)) (fun q hq => by rw [Eq444 q hq, Eq441 q (by omega)]), em]; rfl
  have enl : (own_fN rt441 (61 : Int32) (n - (own_ls y (47 : Int32) n))) - (own_kc rt444 (58 : Int32) (own_fN rt441 (61 : Int32) (n - (own_ls y (47 : Int32) n)))) = own_nl y n := by rw [ekk, em]; rfl
  have efin : ∀ q, q < own_nl y n → rt449 q = y (own_no y n + q) := fun q hq => by rw [Eq449 q (by rw [enl]; exact hq), Eq444 _ (by omega), Eq441 _ (by omega), ekk, ← Nat.add_assoc]; rfl
  exact Rch.retA X449 hx (w := (.ref rr449)) hret rfl rfl hlk (hb hby d_prog_71_method_2_code_28) (fun U hU hF => hK _ U _ _ _ (by show Q_rk7 Z a1 b1 n y cs sv h0 n0 _ U.heap _; rw [hU]; exact ⟨rr449, rb449, rt449, rfl, N449, ((((Keep.refl h0 []).trans K441 all0).trans K444 all0).trans K449 all0), Ex449, Fa449, Fb449, (by rw [← enl]; exact V449), efin⟩) (own_endH hZ hEL (((R0.trans cr441).trans cr444).trans cr449) hU hF) (own_end hS449 (by rw [hU]; exact (Nat.le_refl _)) hF) (by decide) (by decide))
theorem ef_rm0 (m : MethodId) (p0 : Int32) (p1 : Int32) (p2 : Int32) (p3 : Int32) (p4 : Int32) (p5 : Int32) : entryFrame m #[(.int p0), (.int p1), (.int p2), (.int p3), (.int p4), (.int p5)] maxLocals = mkF m 0 #[.val (.int p0), .val (.int p1), .val (.int p2), .val (.int p3), .val (.int p4), .val (.int p5), .unset, .unset, .unset, .unset, .unset, .unset, .unset, .unset, .unset] [] := by first | (simp [entryFrame, mkF, argsToLocals, Value.category, maxLocals]; done) | rfl
def Q_rm0 (Z : State) (p0 : Int32) (p1 : Int32) (p2 : Int32) (p3 : Int32) (p4 : Int32) (p5 : Int32) (cs : Int32) (sv : Value) (h0 : Heap) (n0 : Nat) (vv_ : Option Value) (h : Heap) (LL_ : List Loc) : Prop := vv_ = some (.int 1) ∧ Fr n0 LL_ ∧ (True)
set_option maxRecDepth 65536 in
set_option maxHeartbeats 40000000 in
theorem rm0 (l : Launch) (Z : State) (a0 : Array Value) (hw : ∀ d ∈ tables_1, d.before a0 Z = true) (ws : List Jvm.Cond) (p0 : Int32) (p1 : Int32) (p2 : Int32) (p3 : Int32) (p4 : Int32) (p5 : Int32) (cs : Int32) (sv : Value) (h0 : Heap) (n0 : Nat) (Z0 : n0 ≤ h0.size) (O0 : Old Z n0 h0) (S1 : Sta Z Z.heap "java/lang/String" "COMPACT_STRINGS" "Z" (.int cs)) (hcs : ¬ cs = (0 : Int32)) (SI0 : Sta Z Z.heap "jdk/internal/util/Preconditions" "SIOOBE_FORMATTER" "Ljava/util/function/BiFunction;" sv) (hsv : sv.isRef = true) :
    MetFree l x (head1 (Jvm.Cond.code x code maxLocals ret :: ws) room_1) (fun aa_ UU_ => aa_ = #[(.int p0), (.int p1), (.int p2), (.int p3), (.int p4), (.int p5)] ∧ Z.Warmed39 UU_.vm ∧ UU_.heap = h0 ∧ CHv Z consts_1 UU_.vm h0) (fun _ _ _ _ _ => True) (fun _ UU_ oo_ VV_ => ∃ vv_ LL_, oo_ = .returned vv_ ∧ Q_rm0 Z p0 p1 p2 p3 p4 p5 cs sv h0 n0 vv_ VV_.heap LL_ ∧ CHr Z consts_1 UU_.vm UU_.heap VV_.vm VV_.heap ∧ ReturnedEndW UU_ oo_ VV_ LL_ room_1.cells room_1.slots) := by
  refine own_metH (y := x) (plainFor_of_name pn_5) ?_
  intro p e s m below meth c T0 K hx hby hml hret hlk hown hnm hZ X0 e0 C0 hK
  have N0 := Fr.nil n0
  have R0 := CHr.refl C0
  have hEL := own_EW hw
  have hS0 : s.Since s.vm 0 := (State.WarmedH.refl s).since 0
  have hk0 : 0 ≤ h0.size := Nat.zero_le _
  have wS : ∀ d ∈ Bundle.stringAtoms, d.before a0 Z = true := fun d hd => hw d ((by decide +kernel : ∀ d ∈ Bundle.stringAtoms, d ∈ tables_1) d hd)
  change Stand p l e room_1 (s.setVm s.vm) m #[(.int p0), (.int p1), (.int p2), (.int p3), (.int p4), (.int p5)] below meth c T0 [] 0 0 at X0
  change Z.Warmed39 (s.setVm s.vm).vm at hZ
  change (s.setVm s.vm).vm.findClass _ = some m.cls at hown
  refine Rch.cast (ef_rm0 m p0 p1 p2 p3 p4 p5) ?_
  refine Rch.of (T' := T0) (g' := (mkF m 1 #[.val (.int p0), .val (.int p1), .val (.int p2), .val (.int p3), .val (.int p4), .val (.int p5), .unset, .unset, .unset, .unset, .unset, .unset, .unset, .unset, .unset] [(.int p0)])) (fun _ kt => XS.iloadN X0.here hx rfl (hb hby at_0) rfl  kt) ?_
  refine Rch.of (T' := T0) (g' := (mkF m 3 #[.val (.int p0), .val (.int p1), .val (.int p2), .val (.int p3), .val (.int p4), .val (.int p5), .unset, .unset, .unset, .unset, .unset, .unset, .unset, .unset, .unset] [(.int (7 : Int32)), (.int p0)])) (fun _ kt => XS.bipush X0.here hx rfl (hb hby at_1) kt) ?_
  refine Rch.of (T' := T0) (g' := (mkF m 4 #[.val (.int p0), .val (.int p1), .val (.int p2), .val (.int p3), .val (.int p4), .val (.int p5), .unset, .unset, .unset, .unset, .unset, .unset, .unset, .unset, .unset] [(.int (p0 &&& (7 : Int32)))])) (fun _ kt => XS.iand X0.here hx rfl (hb hby at_3) rfl kt) ?_
  refine Rch.of (T' := T0) (g' := (mkF m 6 #[.val (.int p0), .val (.int p1), .val (.int p2), .val (.int p3), .val (.int p4), .val (.int p5), .unset, .unset, .unset, .unset, .unset, .unset, .unset, .unset, .unset] [(.int (6 : Int32)), (.int (p0 &&& (7 : Int32)))])) (fun _ kt => XS.bipush X0.here hx rfl (hb hby at_4) kt) ?_
  refine Rch.of (T' := T0) (g' := (mkF m 7 #[.val (.int p0), .val (.int p1), .val (.int p2), .val (.int p3), .val (.int p4), .val (.int p5), .unset, .unset, .unset, .unset, .unset, .unset, .unset, .unset, .unset] [(.int ((p0 &&& (7 : Int32)) % (6 : Int32)))])) (fun _ kt => iremM X0 hx rfl (hb hby at_6) rfl (by decide) kt) ?_
  obtain ⟨k, hk, ek⟩ := own_len p0
  have sw452 : ((p0 &&& (7 : Int32)) % (6 : Int32)) = (Int32.ofNat k) := ek
  rw [sw452]
  show Rch p e below K T0 (mkF m 7 #[.val (.int p0), .val (.int p1), .val (.int p2), .val (.int p3), .val (.int p4), .val (.int p5), .unset, .unset, .unset, .unset, .unset, .unset, .unset, .unset, .unset] [(.int (Int32.ofNat k))])
  refine Rch.of (T' := T0) (g' := (mkF m 9 #[.val (.int p0), .val (.int p1), .val (.int p2), .val (.int p3), .val (.int p4), .val (.int p5), .val (.int (Int32.ofNat k)), .unset, .unset, .unset, .unset, .unset, .unset, .unset, .unset] [])) (fun _ kt => XS.istore X0.here hx rfl (hb hby at_7) rfl (l' := #[.val (.int p0), .val (.int p1), .val (.int p2), .val (.int p3), .val (.int p4), .val (.int p5), .val (.int (Int32.ofNat k)), .unset, .unset, .unset, .unset, .unset, .unset, .unset, .unset]) rfl kt) ?_
  refine Rch.of (T' := T0) (g' := (mkF m 10 #[.val (.int p0), .val (.int p1), .val (.int p2), .val (.int p3), .val (.int p4), .val (.int p5), .val (.int (Int32.ofNat k)), .unset, .unset, .unset, .unset, .unset, .unset, .unset, .unset] [(.int (5 : Int32))])) (fun _ kt => XS.iconst X0.here hx rfl (hb hby at_9) kt) ?_
  obtain ⟨T453, h453, k453, X453, e453, E453, A453, Q453, st453⟩ := newPE X0 hx hZ (hw _ (List.mem_of_getElem? (i := 0) rfl)) e0 (g := (mkF m 10 #[.val (.int p0), .val (.int p1), .val (.int p2), .val (.int p3), .val (.int p4), .val (.int p5), .val (.int (Int32.ofNat k)), .unset, .unset, .unset, .unset, .unset, .unset, .unset, .unset] [(.int (5 : Int32))])) rfl (hb hby at_10) rfl (by decide) (cap := 5) (by decide) (by decide) (by decide) (by decide) (ad := "[C") rfl
  obtain ⟨b453, g453⟩ : ∃ zz_, zz_ = h0.size := ⟨_, rfl⟩
  have ge_b453 : n0 ≤ b453 := Nat.le_trans Z0 (Nat.le_of_eq g453.symm)
  rw [← g453] at A453 Q453 st453
  have V453 : Av Z h453 b453 .char 5 (fun _ => (.int (0 : Int32))) := Av.new A453 (by decide)
  refine Rch.of (T' := T453) (g' := (mkF m 12 #[.val (.int p0), .val (.int p1), .val (.int p2), .val (.int p3), .val (.int p4), .val (.int p5), .val (.int (Int32.ofNat k)), .unset, .unset, .unset, .unset, .unset, .unset, .unset, .unset] [(.ref b453)])) st453 ?_
  refine Rch.of (T' := T453) (g' := (mkF m 14 #[.val (.int p0), .val (.int p1), .val (.int p2), .val (.int p3), .val (.int p4), .val (.int p5), .val (.int (Int32.ofNat k)), .val (.ref b453), .unset, .unset, .unset, .unset, .unset, .unset, .unset] [])) (fun _ kt => XS.astore X453.here hx rfl (hb hby at_12) rfl rfl (l' := #[.val (.int p0), .val (.int p1), .val (.int p2), .val (.int p3), .val (.int p4), .val (.int p5), .val (.int (Int32.ofNat k)), .val (.ref b453), .unset, .unset, .unset, .unset, .unset, .unset, .unset]) rfl kt) ?_
  refine Rch.of (T' := T453) (g' := (mkF m 16 #[.val (.int p0), .val (.int p1), .val (.int p2), .val (.int p3), .val (.int p4), .val (.int p5), .val (.int (Int32.ofNat k)), .val (.ref b453), .unset, .unset, .unset, .unset, .unset, .unset, .unset] [(.ref b453)])) (fun _ kt => XS.aload X453.here hx rfl (hb hby at_14) rfl rfl kt) ?_
  refine Rch.of (T' := T453) (g' := (mkF m 17 #[.val (.int p0), .val (.int p1), .val (.int p2), .val (.int p3), .val (.int p4), .val (.int p5), .val (.int (Int32.ofNat k)), .val (.ref b453), .unset, .unset, .unset, .unset, .unset, .unset, .unset] [(.int (0 : Int32)), (.ref b453)])) (fun _ kt => XS.iconst X453.here hx rfl (hb hby at_16) kt) ?_
  refine Rch.of (T' := T453) (g' := (mkF m 18 #[.val (.int p0), .val (.int p1), .val (.int p2), .val (.int p3), .val (.int p4), .val (.int p5), .val (.int (Int32.ofNat k)), .val (.ref b453), .unset, .unset, .unset, .unset, .unset, .unset, .unset] [(.int p1), (.int (0 : Int32)), (.ref b453)])) (fun _ kt => XS.iloadN X453.here hx rfl (hb hby at_17) rfl  kt) ?_
  obtain ⟨_, _, ⟨T454, L454, k454, n454⟩, -, X454, ⟨Lc454, hQ454, l454, y454, z454⟩, st454⟩ := Jvm.LawKit.callS X453 hx (y := (⟨"com/example/isidore/isidore/rulesets/mwsdn/PathNamesNodePinLaw", "ch", "(I)C"⟩ : MethodName)) hown (mvT hZ (hw _ (List.mem_of_getElem? (i := 1) rfl))) (mvT hZ (hw _ (List.mem_of_getElem? (i := 2) rfl))) (mvT hZ (hw _ (List.mem_of_getElem? (i := 3) rfl))) (mvT hZ (hw _ (List.mem_of_getElem? (i := 4) rfl))) (by decide) (backOf (W := 2) (rk1 l Z a0 hw [] p1 h453 n0 (Nat.le_trans Z0 E453.1) ) hZ (hw _ (List.mem_of_getElem? (i := 4) rfl)) (hw _ (List.mem_of_getElem? (i := 3) rfl)) (by decide) (by decide)) (g := (mkF m 18 #[.val (.int p0), .val (.int p1), .val (.int p2), .val (.int p3), .val (.int p4), .val (.int p5), .val (.int (Int32.ofNat k)), .val (.ref b453), .unset, .unset, .unset, .unset, .unset, .unset, .unset] [(.int p1), (.int (0 : Int32)), (.ref b453)])) rfl (by rw [hml]; rfl) (argsL := [(.int p1)]) (rest := [(.int (0 : Int32)), (.ref b453)]) (lenOf pd_0 rfl) rfl (by show 2 * 0 + _ ≤ _; exact Nat.le_of_eq rfl) (hb hby at_18) (fun _ _ => ⟨rfl, e453, (by decide : 1 + 0 ≤ _), (by decide : 5 + 0 ≤ _)⟩)
  dsimp only [Pt.U, Pt.locs, Pt.cells, Pt.slots] at X454 l454 y454 z454 st454 hQ454
  subst l454 y454 z454
  obtain ⟨rt454, rfl, N454q, hQ454⟩ := hQ454
  have N454 := Fr.app N0 N454q
  obtain ⟨hh454, c1454⟩ := hQ454
  refine Rch.of (T' := T454) (g' := (mkF m 21 #[.val (.int p0), .val (.int p1), .val (.int p2), .val (.int p3), .val (.int p4), .val (.int p5), .val (.int (Int32.ofNat k)), .val (.ref b453), .unset, .unset, .unset, .unset, .unset, .unset, .unset] [(.int rt454), (.int (0 : Int32)), (.ref b453)])) st454 ?_
  obtain ⟨cl455, Ar455, Sz455, Ha455⟩ := id V453
  obtain ⟨T455, h455, X455, e455, W455, st455⟩ := stC X454 hx hZ hh454 Ar455 (j := (0 : Int32)) (oIn (i := 0) Sz455 (by decide) (by decide)) (g := (mkF m 21 #[.val (.int p0), .val (.int p1), .val (.int p2), .val (.int p3), .val (.int p4), .val (.int p5), .val (.int (Int32.ofNat k)), .val (.ref b453), .unset, .unset, .unset, .unset, .unset, .unset, .unset] [(.int rt454), (.int (0 : Int32)), (.ref b453)])) rfl rfl (hb hby at_21)
  have V455 := Av.setI (i := 0) V453 (by decide) (by decide) W455
  obtain ⟨y455, hy455⟩ : ∃ zz_ : Nat → Int32, zz_ = fun q => if q = 0 then rt454.toUInt32.toUInt16.toUInt32.toInt32 else (fun _ => (0 : Int32)) q := ⟨_, rfl⟩
  have V455 : Av Z h455 b453 .char 5 (fun q => .int (y455 q)) := by rw [hy455]; exact V455
  have N455 := Fr.snoc X455 N454 ge_b453
  have Sf456 : Safe Z consts_1 s.vm h453 b453 := (Safe.exa hZ.alike Q453 (by decide) (by decide))
  refine Rch.of (T' := T455) (g' := (mkF m 22 #[.val (.int p0), .val (.int p1), .val (.int p2), .val (.int p3), .val (.int p4), .val (.int p5), .val (.int (Int32.ofNat k)), .val (.ref b453), .unset, .unset, .unset, .unset, .unset, .unset, .unset] [])) st455 ?_
  refine Rch.of (T' := T455) (g' := (mkF m 24 #[.val (.int p0), .val (.int p1), .val (.int p2), .val (.int p3), .val (.int p4), .val (.int p5), .val (.int (Int32.ofNat k)), .val (.ref b453), .unset, .unset, .unset, .unset, .unset, .unset, .unset] [(.ref b453)])) (fun _ kt => XS.aload X455.here hx rfl (hb hby at_22) rfl rfl kt) ?_
  refine Rch.of (T' := T455) (g' := (mkF m 25 #[.val (.int p0), .val (.int p1), .val (.int p2), .val (.int p3), .val (.int p4), .val (.int p5), .val (.int (Int32.ofNat k)), .val (.ref b453), .unset, .unset, .unset, .unset, .unset, .unset, .unset] [(.int (1 : Int32)), (.ref b453)])) (fun _ kt => XS.iconst X455.here hx rfl (hb hby at_24) kt) ?_
  refine Rch.of (T' := T455) (g' := (mkF m 26 #[.val (.int p0), .val (.int p1), .val (.int p2), .val (.int p3), .val (.int p4), .val (.int p5), .val (.int (Int32.ofNat k)), .val (.ref b453), .unset, .unset, .unset, .unset, .unset, .unset, .unset] [(.int p2), (.int (1 : Int32)), (.ref b453)])) (fun _ kt => XS.iloadN X455.here hx rfl (hb hby at_25) rfl  kt) ?_
  obtain ⟨_, _, ⟨T457, L457, k457, n457⟩, -, X457, ⟨Lc457, hQ457, l457, y457, z457⟩, st457⟩ := Jvm.LawKit.callS X455 hx (y := (⟨"com/example/isidore/isidore/rulesets/mwsdn/PathNamesNodePinLaw", "ch", "(I)C"⟩ : MethodName)) hown (mvT hZ (hw _ (List.mem_of_getElem? (i := 1) rfl))) (mvT hZ (hw _ (List.mem_of_getElem? (i := 2) rfl))) (mvT hZ (hw _ (List.mem_of_getElem? (i := 3) rfl))) (mvT hZ (hw _ (List.mem_of_getElem? (i := 4) rfl))) (by decide) (backOf (W := 2) (rk1 l Z a0 hw [] p2 h455 n0 (Nat.le_trans (Nat.le_trans Z0 E453.1) (Keep.of_wr W455).1) ) hZ (hw _ (List.mem_of_getElem? (i := 4) rfl)) (hw _ (List.mem_of_getElem? (i := 3) rfl)) (by decide) (by decide)) (g := (mkF m 26 #[.val (.int p0), .val (.int p1), .val (.int p2), .val (.int p3), .val (.int p4), .val (.int p5), .val (.int (Int32.ofNat k)), .val (.ref b453), .unset, .unset, .unset, .unset, .unset, .unset, .unset] [(.int p2), (.int (1 : Int32)), (.ref b453)])) rfl (by rw [hml]; rfl) (argsL := [(.int p2)]) (rest := [(.int (1 : Int32)), (.ref b453)]) (lenOf pd_0 rfl) rfl (by show 2 * 0 + _ ≤ _; exact Nat.le_of_eq rfl) (hb hby at_26) (fun _ _ => ⟨rfl, e455, (by decide : 1 + 0 ≤ _), (by decide : 5 + 0 ≤ _)⟩)
  dsimp only [Pt.U, Pt.locs, Pt.cells, Pt.slots] at X457 l457 y457 z457 st457 hQ457
  subst l457 y457 z457
  obtain ⟨rt457, rfl, N457q, hQ457⟩ := hQ457
  have N457 := Fr.app N455 N457q
  obtain ⟨hh457, c1457⟩ := hQ457
  refine Rch.of (T' := T457) (g' := (mkF m 29 #[.val (.int p0), .val (.int p1), .val (.int p2), .val (.int p3), .val (.int p4), .val (.int p5), .val (.int (Int32.ofNat k)), .val (.ref b453), .unset, .unset, .unset, .unset, .unset, .unset, .unset] [(.int rt457), (.int (1 : Int32)), (.ref b453)])) st457 ?_
  obtain ⟨cl458, Ar458, Sz458, Ha458⟩ := id V455
  obtain ⟨T458, h458, X458, e458, W458, st458⟩ := stC X457 hx hZ hh457 Ar458 (j := (1 : Int32)) (oIn (i := 1) Sz458 (by decide) (by decide)) (g := (mkF m 29 #[.val (.int p0), .val (.int p1), .val (.int p2), .val (.int p3), .val (.int p4), .val (.int p5), .val (.int (Int32.ofNat k)), .val (.ref b453), .unset, .unset, .unset, .unset, .unset, .unset, .unset] [(.int rt457), (.int (1 : Int32)), (.ref b453)])) rfl rfl (hb hby at_29)
  have V458 := Av.setI (i := 1) V455 (by decide) (by decide) W458
  obtain ⟨y458, hy458⟩ : ∃ zz_ : Nat → Int32, zz_ = fun q => if q = 1 then rt457.toUInt32.toUInt16.toUInt32.toInt32 else y455 q := ⟨_, rfl⟩
  have V458 : Av Z h458 b453 .char 5 (fun q => .int (y458 q)) := by rw [hy458]; exact V458
  have N458 := Fr.snoc X458 N457 ge_b453
  have Sf459 : Safe Z consts_1 s.vm h455 b453 := (Safe.exa hZ.alike (Q453.wr W455) (by decide) (by decide))
  have Rb460 := (((R0.trans (CHr.ext E453 R0.1)).trans (CHr.wr W455 Sf456 (R0.trans (CHr.ext E453 R0.1)).1)).trans (CHr.wr W458 Sf459 ((R0.trans (CHr.ext E453 R0.1)).trans (CHr.wr W455 Sf456 (R0.trans (CHr.ext E453 R0.1)).1)).1))
  refine Rch.of (T' := T458) (g' := (mkF m 30 #[.val (.int p0), .val (.int p1), .val (.int p2), .val (.int p3), .val (.int p4), .val (.int p5), .val (.int (Int32.ofNat k)), .val (.ref b453), .unset, .unset, .unset, .unset, .unset, .unset, .unset] [])) st458 ?_
  refine Rch.of (T' := T458) (g' := (mkF m 32 #[.val (.int p0), .val (.int p1), .val (.int p2), .val (.int p3), .val (.int p4), .val (.int p5), .val (.int (Int32.ofNat k)), .val (.ref b453), .unset, .unset, .unset, .unset, .unset, .unset, .unset] [(.ref b453)])) (fun _ kt => XS.aload X458.here hx rfl (hb hby at_30) rfl rfl kt) ?_
  refine Rch.of (T' := T458) (g' := (mkF m 33 #[.val (.int p0), .val (.int p1), .val (.int p2), .val (.int p3), .val (.int p4), .val (.int p5), .val (.int (Int32.ofNat k)), .val (.ref b453), .unset, .unset, .unset, .unset, .unset, .unset, .unset] [(.int (2 : Int32)), (.ref b453)])) (fun _ kt => XS.iconst X458.here hx rfl (hb hby at_32) kt) ?_
  refine Rch.of (T' := T458) (g' := (mkF m 34 #[.val (.int p0), .val (.int p1), .val (.int p2), .val (.int p3), .val (.int p4), .val (.int p5), .val (.int (Int32.ofNat k)), .val (.ref b453), .unset, .unset, .unset, .unset, .unset, .unset, .unset] [(.int p3), (.int (2 : Int32)), (.ref b453)])) (fun _ kt => XS.iloadN X458.here hx rfl (hb hby at_33) rfl  kt) ?_
  obtain ⟨_, _, ⟨T461, L461, k461, n461⟩, -, X461, ⟨Lc461, hQ461, l461, y461, z461⟩, st461⟩ := Jvm.LawKit.callS X458 hx (y := (⟨"com/example/isidore/isidore/rulesets/mwsdn/PathNamesNodePinLaw", "ch", "(I)C"⟩ : MethodName)) hown (mvT hZ (hw _ (List.mem_of_getElem? (i := 1) rfl))) (mvT hZ (hw _ (List.mem_of_getElem? (i := 2) rfl))) (mvT hZ (hw _ (List.mem_of_getElem? (i := 3) rfl))) (mvT hZ (hw _ (List.mem_of_getElem? (i := 4) rfl))) (by decide) (backOf (W := 2) (rk1 l Z a0 hw [] p3 h458 n0 (Nat.le_trans (Nat.le_trans (Nat.le_trans Z0 E453.1) (Keep.of_wr W455).1) (Keep.of_wr W458).1) ) hZ (hw _ (List.mem_of_getElem? (i := 4) rfl)) (hw _ (List.mem_of_getElem? (i := 3) rfl)) (by decide) (by decide)) (g := (mkF m 34 #[.val (.int p0), .val (.int p1), .val (.int p2), .val (.int p3), .val (.int p4), .val (.int p5), .val (.int (Int32.ofNat k)), .val (.ref b453), .unset, .unset, .unset, .unset, .unset, .unset, .unset] [(.int p3), (.int (2 : Int32)), (.ref b453)])) rfl (by rw [hml]; rfl) (argsL := [(.int p3)]) (rest := [(.int (2 : Int32)), (.ref b453)]) (lenOf pd_0 rfl) rfl (by show 2 * 0 + _ ≤ _; exact Nat.le_of_eq rfl) (hb hby at_34) (fun _ _ => ⟨rfl, e458, (by decide : 1 + 0 ≤ _), (by decide : 5 + 0 ≤ _)⟩)
  dsimp only [Pt.U, Pt.locs, Pt.cells, Pt.slots] at X461 l461 y461 z461 st461 hQ461
  subst l461 y461 z461
  obtain ⟨rt461, rfl, N461q, hQ461⟩ := hQ461
  have N461 := Fr.app N458 N461q
  obtain ⟨hh461, c1461⟩ := hQ461
  refine Rch.of (T' := T461) (g' := (mkF m 37 #[.val (.int p0), .val (.int p1), .val (.int p2), .val (.int p3), .val (.int p4), .val (.int p5), .val (.int (Int32.ofNat k)), .val (.ref b453), .unset, .unset, .unset, .unset, .unset, .unset, .unset] [(.int rt461), (.int (2 : Int32)), (.ref b453)])) st461 ?_
  obtain ⟨cl462, Ar462, Sz462, Ha462⟩ := id V458
  obtain ⟨T462, h462, X462, e462, W462, st462⟩ := stC X461 hx hZ hh461 Ar462 (j := (2 : Int32)) (oIn (i := 2) Sz462 (by decide) (by decide)) (g := (mkF m 37 #[.val (.int p0), .val (.int p1), .val (.int p2), .val (.int p3), .val (.int p4), .val (.int p5), .val (.int (Int32.ofNat k)), .val (.ref b453), .unset, .unset, .unset, .unset, .unset, .unset, .unset] [(.int rt461), (.int (2 : Int32)), (.ref b453)])) rfl rfl (hb hby at_37)
  have V462 := Av.setI (i := 2) V458 (by decide) (by decide) W462
  obtain ⟨y462, hy462⟩ : ∃ zz_ : Nat → Int32, zz_ = fun q => if q = 2 then rt461.toUInt32.toUInt16.toUInt32.toInt32 else y458 q := ⟨_, rfl⟩
  have V462 : Av Z h462 b453 .char 5 (fun q => .int (y462 q)) := by rw [hy462]; exact V462
  have N462 := Fr.snoc X462 N461 ge_b453
  have Sf463 : Safe Z consts_1 s.vm h458 b453 := (Safe.exa hZ.alike ((Q453.wr W455).wr W458) (by decide) (by decide))
  refine Rch.of (T' := T462) (g' := (mkF m 38 #[.val (.int p0), .val (.int p1), .val (.int p2), .val (.int p3), .val (.int p4), .val (.int p5), .val (.int (Int32.ofNat k)), .val (.ref b453), .unset, .unset, .unset, .unset, .unset, .unset, .unset] [])) st462 ?_
  refine Rch.of (T' := T462) (g' := (mkF m 40 #[.val (.int p0), .val (.int p1), .val (.int p2), .val (.int p3), .val (.int p4), .val (.int p5), .val (.int (Int32.ofNat k)), .val (.ref b453), .unset, .unset, .unset, .unset, .unset, .unset, .unset] [(.ref b453)])) (fun _ kt => XS.aload X462.here hx rfl (hb hby at_38) rfl rfl kt) ?_
  refine Rch.of (T' := T462) (g' := (mkF m 41 #[.val (.int p0), .val (.int p1), .val (.int p2), .val (.int p3), .val (.int p4), .val (.int p5), .val (.int (Int32.ofNat k)), .val (.ref b453), .unset, .unset, .unset, .unset, .unset, .unset, .unset] [(.int (3 : Int32)), (.ref b453)])) (fun _ kt => XS.iconst X462.here hx rfl (hb hby at_40) kt) ?_
  refine Rch.of (T' := T462) (g' := (mkF m 43 #[.val (.int p0), .val (.int p1), .val (.int p2), .val (.int p3), .val (.int p4), .val (.int p5), .val (.int (Int32.ofNat k)), .val (.ref b453), .unset, .unset, .unset, .unset, .unset, .unset, .unset] [(.int p4), (.int (3 : Int32)), (.ref b453)])) (fun _ kt => XS.iload X462.here hx rfl (hb hby at_41) rfl  kt) ?_
  obtain ⟨_, _, ⟨T464, L464, k464, n464⟩, -, X464, ⟨Lc464, hQ464, l464, y464, z464⟩, st464⟩ := Jvm.LawKit.callS X462 hx (y := (⟨"com/example/isidore/isidore/rulesets/mwsdn/PathNamesNodePinLaw", "ch", "(I)C"⟩ : MethodName)) hown (mvT hZ (hw _ (List.mem_of_getElem? (i := 1) rfl))) (mvT hZ (hw _ (List.mem_of_getElem? (i := 2) rfl))) (mvT hZ (hw _ (List.mem_of_getElem? (i := 3) rfl))) (mvT hZ (hw _ (List.mem_of_getElem? (i := 4) rfl))) (by decide) (backOf (W := 2) (rk1 l Z a0 hw [] p4 h462 n0 (Nat.le_trans (Nat.le_trans (Nat.le_trans (Nat.le_trans Z0 E453.1) (Keep.of_wr W455).1) (Keep.of_wr W458).1) (Keep.of_wr W462).1) ) hZ (hw _ (List.mem_of_getElem? (i := 4) rfl)) (hw _ (List.mem_of_getElem? (i := 3) rfl)) (by decide) (by decide)) (g := (mkF m 43 #[.val (.int p0), .val (.int p1), .val (.int p2), .val (.int p3), .val (.int p4), .val (.int p5), .val (.int (Int32.ofNat k)), .val (.ref b453), .unset, .unset, .unset, .unset, .unset, .unset, .unset] [(.int p4), (.int (3 : Int32)), (.ref b453)])) rfl (by rw [hml]; rfl) (argsL := [(.int p4)]) (rest := [(.int (3 : Int32)), (.ref b453)]) (lenOf pd_0 rfl) rfl (by show 2 * 0 + _ ≤ _; exact Nat.le_of_eq rfl) (hb hby at_43) (fun _ _ => ⟨rfl, e462, (by decide : 1 + 0 ≤ _), (by decide : 5 + 0 ≤ _)⟩)
  dsimp only [Pt.U, Pt.locs, Pt.cells, Pt.slots] at X464 l464 y464 z464 st464 hQ464
  subst l464 y464 z464
  obtain ⟨rt464, rfl, N464q, hQ464⟩ := hQ464
  have N464 := Fr.app N462 N464q
  obtain ⟨hh464, c1464⟩ := hQ464
  refine Rch.of (T' := T464) (g' := (mkF m 46 #[.val (.int p0), .val (.int p1), .val (.int p2), .val (.int p3), .val (.int p4), .val (.int p5), .val (.int (Int32.ofNat k)), .val (.ref b453), .unset, .unset, .unset, .unset, .unset, .unset, .unset] [(.int rt464), (.int (3 : Int32)), (.ref b453)])) st464 ?_
  obtain ⟨cl465, Ar465, Sz465, Ha465⟩ := id V462
  obtain ⟨T465, h465, X465, e465, W465, st465⟩ := stC X464 hx hZ hh464 Ar465 (j := (3 : Int32)) (oIn (i := 3) Sz465 (by decide) (by decide)) (g := (mkF m 46 #[.val (.int p0), .val (.int p1), .val (.int p2), .val (.int p3), .val (.int p4), .val (.int p5), .val (.int (Int32.ofNat k)), .val (.ref b453), .unset, .unset, .unset, .unset, .unset, .unset, .unset] [(.int rt464), (.int (3 : Int32)), (.ref b453)])) rfl rfl (hb hby at_46)
  have V465 := Av.setI (i := 3) V462 (by decide) (by decide) W465
  obtain ⟨y465, hy465⟩ : ∃ zz_ : Nat → Int32, zz_ = fun q => if q = 3 then rt464.toUInt32.toUInt16.toUInt32.toInt32 else y462 q := ⟨_, rfl⟩
  have V465 : Av Z h465 b453 .char 5 (fun q => .int (y465 q)) := by rw [hy465]; exact V465
  have N465 := Fr.snoc X465 N464 ge_b453
  have Sf466 : Safe Z consts_1 s.vm h462 b453 := (Safe.exa hZ.alike (((Q453.wr W455).wr W458).wr W462) (by decide) (by decide))
  have Fb467 := (Nat.le_trans (Nat.le_trans (Nat.le_trans (Nat.le_trans (Nat.le_trans hk0 E453.1) (Keep.of_wr W455).1) (Keep.of_wr W458).1) (Keep.of_wr W462).1) (Keep.of_wr W465).1)
  have Fb468 := (Nat.le_trans (Nat.le_trans (Nat.le_trans (Nat.le_trans (Nat.le_trans Z0 E453.1) (Keep.of_wr W455).1) (Keep.of_wr W458).1) (Keep.of_wr W462).1) (Keep.of_wr W465).1)
  refine Rch.of (T' := T465) (g' := (mkF m 47 #[.val (.int p0), .val (.int p1), .val (.int p2), .val (.int p3), .val (.int p4), .val (.int p5), .val (.int (Int32.ofNat k)), .val (.ref b453), .unset, .unset, .unset, .unset, .unset, .unset, .unset] [])) st465 ?_
  refine Rch.of (T' := T465) (g' := (mkF m 49 #[.val (.int p0), .val (.int p1), .val (.int p2), .val (.int p3), .val (.int p4), .val (.int p5), .val (.int (Int32.ofNat k)), .val (.ref b453), .unset, .unset, .unset, .unset, .unset, .unset, .unset] [(.ref b453)])) (fun _ kt => XS.aload X465.here hx rfl (hb hby at_47) rfl rfl kt) ?_
  refine Rch.of (T' := T465) (g' := (mkF m 50 #[.val (.int p0), .val (.int p1), .val (.int p2), .val (.int p3), .val (.int p4), .val (.int p5), .val (.int (Int32.ofNat k)), .val (.ref b453), .unset, .unset, .unset, .unset, .unset, .unset, .unset] [(.int (4 : Int32)), (.ref b453)])) (fun _ kt => XS.iconst X465.here hx rfl (hb hby at_49) kt) ?_
  refine Rch.of (T' := T465) (g' := (mkF m 52 #[.val (.int p0), .val (.int p1), .val (.int p2), .val (.int p3), .val (.int p4), .val (.int p5), .val (.int (Int32.ofNat k)), .val (.ref b453), .unset, .unset, .unset, .unset, .unset, .unset, .unset] [(.int p5), (.int (4 : Int32)), (.ref b453)])) (fun _ kt => XS.iload X465.here hx rfl (hb hby at_50) rfl  kt) ?_
  obtain ⟨_, _, ⟨T469, L469, k469, n469⟩, -, X469, ⟨Lc469, hQ469, l469, y469, z469⟩, st469⟩ := Jvm.LawKit.callS X465 hx (y := (⟨"com/example/isidore/isidore/rulesets/mwsdn/PathNamesNodePinLaw", "ch", "(I)C"⟩ : MethodName)) hown (mvT hZ (hw _ (List.mem_of_getElem? (i := 1) rfl))) (mvT hZ (hw _ (List.mem_of_getElem? (i := 2) rfl))) (mvT hZ (hw _ (List.mem_of_getElem? (i := 3) rfl))) (mvT hZ (hw _ (List.mem_of_getElem? (i := 4) rfl))) (by decide) (backOf (W := 2) (rk1 l Z a0 hw [] p5 h465 n0 Fb468 ) hZ (hw _ (List.mem_of_getElem? (i := 4) rfl)) (hw _ (List.mem_of_getElem? (i := 3) rfl)) (by decide) (by decide)) (g := (mkF m 52 #[.val (.int p0), .val (.int p1), .val (.int p2), .val (.int p3), .val (.int p4), .val (.int p5), .val (.int (Int32.ofNat k)), .val (.ref b453), .unset, .unset, .unset, .unset, .unset, .unset, .unset] [(.int p5), (.int (4 : Int32)), (.ref b453)])) rfl (by rw [hml]; rfl) (argsL := [(.int p5)]) (rest := [(.int (4 : Int32)), (.ref b453)]) (lenOf pd_0 rfl) rfl (by show 2 * 0 + _ ≤ _; exact Nat.le_of_eq rfl) (hb hby at_52) (fun _ _ => ⟨rfl, e465, (by decide : 1 + 0 ≤ _), (by decide : 5 + 0 ≤ _)⟩)
  dsimp only [Pt.U, Pt.locs, Pt.cells, Pt.slots] at X469 l469 y469 z469 st469 hQ469
  subst l469 y469 z469
  obtain ⟨rt469, rfl, N469q, hQ469⟩ := hQ469
  have N469 := Fr.app N465 N469q
  obtain ⟨hh469, c1469⟩ := hQ469
  refine Rch.of (T' := T469) (g' := (mkF m 55 #[.val (.int p0), .val (.int p1), .val (.int p2), .val (.int p3), .val (.int p4), .val (.int p5), .val (.int (Int32.ofNat k)), .val (.ref b453), .unset, .unset, .unset, .unset, .unset, .unset, .unset] [(.int rt469), (.int (4 : Int32)), (.ref b453)])) st469 ?_
  obtain ⟨cl470, Ar470, Sz470, Ha470⟩ := id V465
  obtain ⟨T470, h470, X470, e470, W470, st470⟩ := stC X469 hx hZ hh469 Ar470 (j := (4 : Int32)) (oIn (i := 4) Sz470 (by decide) (by decide)) (g := (mkF m 55 #[.val (.int p0), .val (.int p1), .val (.int p2), .val (.int p3), .val (.int p4), .val (.int p5), .val (.int (Int32.ofNat k)), .val (.ref b453), .unset, .unset, .unset, .unset, .unset, .unset, .unset] [(.int rt469), (.int (4 : Int32)), (.ref b453)])) rfl rfl (hb hby at_55)
  have V470 := Av.setI (i := 4) V465 (by decide) (by decide) W470
  obtain ⟨y470, hy470⟩ : ∃ zz_ : Nat → Int32, zz_ = fun q => if q = 4 then rt469.toUInt32.toUInt16.toUInt32.toInt32 else y465 q := ⟨_, rfl⟩
  have V470 : Av Z h470 b453 .char 5 (fun q => .int (y470 q)) := by rw [hy470]; exact V470
  have N470 := Fr.snoc X470 N469 ge_b453
  have Sf471 : Safe Z consts_1 s.vm h465 b453 := (Safe.exa hZ.alike ((((Q453.wr W455).wr W458).wr W462).wr W465) (by decide) (by decide))
  have Rb472 := (((Rb460.trans (CHr.wr W462 Sf463 Rb460.1)).trans (CHr.wr W465 Sf466 (Rb460.trans (CHr.wr W462 Sf463 Rb460.1)).1)).trans (CHr.wr W470 Sf471 ((Rb460.trans (CHr.wr W462 Sf463 Rb460.1)).trans (CHr.wr W465 Sf466 (Rb460.trans (CHr.wr W462 Sf463 Rb460.1)).1)).1))
  refine Rch.of (T' := T470) (g' := (mkF m 56 #[.val (.int p0), .val (.int p1), .val (.int p2), .val (.int p3), .val (.int p4), .val (.int p5), .val (.int (Int32.ofNat k)), .val (.ref b453), .unset, .unset, .unset, .unset, .unset, .unset, .unset] [])) st470 ?_
  refine Rch.of (T' := T470) (g' := (mkF m 58 #[.val (.int p0), .val (.int p1), .val (.int p2), .val (.int p3), .val (.int p4), .val (.int p5), .val (.int (Int32.ofNat k)), .val (.ref b453), .unset, .unset, .unset, .unset, .unset, .unset, .unset] [(.ref b453)])) (fun _ kt => XS.aload X470.here hx rfl (hb hby at_56) rfl rfl kt) ?_
  refine Rch.of (T' := T470) (g' := (mkF m 60 #[.val (.int p0), .val (.int p1), .val (.int p2), .val (.int p3), .val (.int p4), .val (.int p5), .val (.int (Int32.ofNat k)), .val (.ref b453), .unset, .unset, .unset, .unset, .unset, .unset, .unset] [(.int (Int32.ofNat k)), (.ref b453)])) (fun _ kt => XS.iload X470.here hx rfl (hb hby at_58) rfl  kt) ?_
  have hch474 : own_ch 5 y470 := by
    intro q hq
    rw [hy470, hy465, hy462, hy458, hy455]
    rcases (show q = 0 ∨ q = 1 ∨ q = 2 ∨ q = 3 ∨ q = 4 by omega) with rfl | rfl | rfl | rfl | rfl
    · exact own_c1i c1454
    · exact own_c1i c1457
    · exact own_c1i c1461
    · exact own_c1i c1464
    · exact own_c1i c1469
  have pr475 : k ≤ 5 := by omega
  obtain ⟨_, _, ⟨T473, L473, k473, n473⟩, -, X473, hT473, gr473, ⟨Lc473, hQ473, l473, y473, z473, cr473⟩, st473⟩ := callSS X470 hx (y := (⟨"com/example/isidore/isidore/rulesets/mwsdn/PathNamesNodePinLaw", "str", "([CI)Ljava/lang/String;"⟩ : MethodName)) hown (mvT hZ (hw _ (List.mem_of_getElem? (i := 5) rfl))) (mvT hZ (hw _ (List.mem_of_getElem? (i := 6) rfl))) (mvT hZ (hw _ (List.mem_of_getElem? (i := 3) rfl))) (mvT hZ (hw _ (List.mem_of_getElem? (i := 7) rfl))) (by decide) (backOfSH (s := s) (vm0 := s.vm) (EL := consts_1) (W := 0) (rk2 l Z a0 hw [] b453 y470 k cs h470 n0 (Nat.le_trans Fb468 (Keep.of_wr W470).1) V470 hch474 pr475 (((((((S1.ext O0.2).ext E453).wr W455).wr W458).wr W462).wr W465).wr W470) hcs) hZ (hw _ (List.mem_of_getElem? (i := 7) rfl)) (hw _ (List.mem_of_getElem? (i := 3) rfl)) (by decide) (by decide) hEL Rb472.1) (g := (mkF m 60 #[.val (.int p0), .val (.int p1), .val (.int p2), .val (.int p3), .val (.int p4), .val (.int p5), .val (.int (Int32.ofNat k)), .val (.ref b453), .unset, .unset, .unset, .unset, .unset, .unset, .unset] [(.int (Int32.ofNat k)), (.ref b453)])) rfl (by rw [hml]; rfl) (argsL := [(.ref b453), (.int (Int32.ofNat k))]) (rest := []) (lenOf pd_1 rfl) rfl (by show 2 * 0 + _ ≤ _; exact Nat.le_of_eq rfl) (hb hby at_60) (fun _ _ => ⟨rfl, e470, (by decide : 1 + 6 ≤ _), (by decide : 5 + 17 ≤ _)⟩)
  dsimp only [Pt.U, Pt.locs, Pt.cells, Pt.slots] at X473 hT473 gr473 l473 y473 z473 st473 hQ473 cr473
  subst l473 y473 z473
  obtain ⟨X473, hS473, hZ, hown⟩ := rebS hS0 (Nat.le_trans Fb467 (Keep.of_wr W470).1) X473 hT473 (by rw [← e470]; exact gr473) hZ hown
  obtain ⟨rr473, rb473, rfl, N473q, hQ473⟩ := hQ473
  have N473 := Fr.app N470 N473q
  obtain ⟨K473, Ex473, Fa473, Fb473, V473⟩ := hQ473
  refine Rch.via (T' := T473) (g' := (mkF m 63 #[.val (.int p0), .val (.int p1), .val (.int p2), .val (.int p3), .val (.int p4), .val (.int p5), .val (.int (Int32.ofNat k)), .val (.ref b453), .unset, .unset, .unset, .unset, .unset, .unset, .unset] [(.ref rr473)])) st473 ?_
  refine Rch.of (T' := T473) (g' := (mkF m 65 #[.val (.int p0), .val (.int p1), .val (.int p2), .val (.int p3), .val (.int p4), .val (.int p5), .val (.int (Int32.ofNat k)), .val (.ref b453), .val (.ref rr473), .unset, .unset, .unset, .unset, .unset, .unset] [])) (fun _ kt => XS.astore X473.here hx rfl (hb hby at_63) rfl rfl (l' := #[.val (.int p0), .val (.int p1), .val (.int p2), .val (.int p3), .val (.int p4), .val (.int p5), .val (.int (Int32.ofNat k)), .val (.ref b453), .val (.ref rr473), .unset, .unset, .unset, .unset, .unset, .unset]) rfl kt) ?_
  refine Rch.of (T' := T473) (g' := (mkF m 67 #[.val (.int p0), .val (.int p1), .val (.int p2), .val (.int p3), .val (.int p4), .val (.int p5), .val (.int (Int32.ofNat k)), .val (.ref b453), .val (.ref rr473), .unset, .unset, .unset, .unset, .unset, .unset] [(.ref rr473)])) (fun _ kt => XS.aload X473.here hx rfl (hb hby at_65) rfl rfl kt) ?_
  have pr477 : k ≤ 5 := by omega
  have hch478 : own_ch k y470 := fun q hq => hch474 q (by omega)
  obtain ⟨_, _, ⟨T476, L476, k476, n476⟩, -, X476, hT476, gr476, ⟨Lc476, hQ476, l476, y476, z476, cr476⟩, st476⟩ := callSS X473 hx (y := (⟨"com/example/isidore/isidore/rulesets/mwsdn/PathNames", "node", "(Ljava/lang/String;)Ljava/lang/String;"⟩ : MethodName)) hown (mvT hZ (hw _ (List.mem_of_getElem? (i := 29) rfl))) (mvT hZ (hw _ (List.mem_of_getElem? (i := 30) rfl))) (mvT hZ (hw _ (List.mem_of_getElem? (i := 31) rfl))) (mvT hZ (hw _ (List.mem_of_getElem? (i := 32) rfl))) (by decide) (backOfSH (s := s) (vm0 := T473.vm) (EL := consts_1) (W := 0) (rk7 l Z a0 hw [] rr473 rb473 k y470 cs sv T473.heap n0 (Nat.le_trans (Nat.le_trans Fb468 (Keep.of_wr W470).1) K473.1) Ex473 Fa473 Fb473 V473 pr477 hch478 (S1.ext (((((((O0.ext E453).wr W455 ge_b453).wr W458 ge_b453).wr W462 ge_b453).wr W465 ge_b453).wr W470 ge_b453).keep K473 all0).2) hcs (SI0.ext (((((((O0.ext E453).wr W455 ge_b453).wr W458 ge_b453).wr W462 ge_b453).wr W465 ge_b453).wr W470 ge_b453).keep K473 all0).2) hsv) hZ (hw _ (List.mem_of_getElem? (i := 32) rfl)) (hw _ (List.mem_of_getElem? (i := 31) rfl)) (by decide) (by decide) hEL (Rb472.trans cr473).1) (g := (mkF m 67 #[.val (.int p0), .val (.int p1), .val (.int p2), .val (.int p3), .val (.int p4), .val (.int p5), .val (.int (Int32.ofNat k)), .val (.ref b453), .val (.ref rr473), .unset, .unset, .unset, .unset, .unset, .unset] [(.ref rr473)])) rfl (by rw [hml]; rfl) (argsL := [(.ref rr473)]) (rest := []) (lenOf pd_5 rfl) rfl (by show 2 * 0 + _ ≤ _; exact Nat.le_of_eq rfl) (hb hby at_67) (fun _ _ => ⟨rfl, rfl, (by decide : 7 + 6 ≤ _), (by decide : 22 + 27 ≤ _)⟩)
  dsimp only [Pt.U, Pt.locs, Pt.cells, Pt.slots] at X476 hT476 gr476 l476 y476 z476 st476 hQ476 cr476
  subst l476 y476 z476
  obtain ⟨X476, hS476, hZ, hown⟩ := rebS hS473 (Nat.le_refl _) X476 hT476 gr476 hZ hown
  obtain ⟨rr476, rb476, rt476, rfl, N476q, hQ476⟩ := hQ476
  have N476 := Fr.app N473 N476q
  obtain ⟨K476, Ex476, Fa476, Fb476, V476, Eq476⟩ := hQ476
  refine Rch.via (T' := T476) (g' := (mkF m 70 #[.val (.int p0), .val (.int p1), .val (.int p2), .val (.int p3), .val (.int p4), .val (.int p5), .val (.int (Int32.ofNat k)), .val (.ref b453), .val (.ref rr473), .unset, .unset, .unset, .unset, .unset, .unset] [(.ref rr476)])) st476 ?_
  refine Rch.of (T' := T476) (g' := (mkF m 72 #[.val (.int p0), .val (.int p1), .val (.int p2), .val (.int p3), .val (.int p4), .val (.int p5), .val (.int (Int32.ofNat k)), .val (.ref b453), .val (.ref rr473), .val (.ref rr476), .unset, .unset, .unset, .unset, .unset] [])) (fun _ kt => XS.astore X476.here hx rfl (hb hby at_70) rfl rfl (l' := #[.val (.int p0), .val (.int p1), .val (.int p2), .val (.int p3), .val (.int p4), .val (.int p5), .val (.int (Int32.ofNat k)), .val (.ref b453), .val (.ref rr473), .val (.ref rr476), .unset, .unset, .unset, .unset, .unset]) rfl kt) ?_
  refine Rch.of (T' := T476) (g' := (mkF m 74 #[.val (.int p0), .val (.int p1), .val (.int p2), .val (.int p3), .val (.int p4), .val (.int p5), .val (.int (Int32.ofNat k)), .val (.ref b453), .val (.ref rr473), .val (.ref rr476), .unset, .unset, .unset, .unset, .unset] [(.ref b453)])) (fun _ kt => XS.aload X476.here hx rfl (hb hby at_72) rfl rfl kt) ?_
  refine Rch.of (T' := T476) (g' := (mkF m 76 #[.val (.int p0), .val (.int p1), .val (.int p2), .val (.int p3), .val (.int p4), .val (.int p5), .val (.int (Int32.ofNat k)), .val (.ref b453), .val (.ref rr473), .val (.ref rr476), .unset, .unset, .unset, .unset, .unset] [(.int (Int32.ofNat k)), (.ref b453)])) (fun _ kt => XS.iload X476.here hx rfl (hb hby at_74) rfl  kt) ?_
  have pr480 : k ≤ 5 := by omega
  obtain ⟨_, _, ⟨T479, L479, k479, n479⟩, -, X479, ⟨Lc479, hQ479, l479, y479, z479⟩, st479⟩ := Jvm.LawKit.callS X476 hx (y := (⟨"com/example/isidore/isidore/rulesets/mwsdn/PathNamesNodePinLaw", "lastSlash", "([CI)I"⟩ : MethodName)) hown (mvT hZ (hw _ (List.mem_of_getElem? (i := 107) rfl))) (mvT hZ (hw _ (List.mem_of_getElem? (i := 108) rfl))) (mvT hZ (hw _ (List.mem_of_getElem? (i := 3) rfl))) (mvT hZ (hw _ (List.mem_of_getElem? (i := 109) rfl))) (by decide) (backOf (W := 0) (rk3 l Z a0 hw [] b453 y470 k T476.heap n0 (Nat.le_trans (Nat.le_trans (Nat.le_trans Fb468 (Keep.of_wr W470).1) K473.1) K476.1) ((V470.keep K473 nin0).keep K476 nin0) pr480) hZ (hw _ (List.mem_of_getElem? (i := 109) rfl)) (hw _ (List.mem_of_getElem? (i := 3) rfl)) (by decide) (by decide)) (g := (mkF m 76 #[.val (.int p0), .val (.int p1), .val (.int p2), .val (.int p3), .val (.int p4), .val (.int p5), .val (.int (Int32.ofNat k)), .val (.ref b453), .val (.ref rr473), .val (.ref rr476), .unset, .unset, .unset, .unset, .unset] [(.int (Int32.ofNat k)), (.ref b453)])) rfl (by rw [hml]; rfl) (argsL := [(.ref b453), (.int (Int32.ofNat k))]) (rest := []) (lenOf pd_18 rfl) rfl (by show 2 * 0 + _ ≤ _; exact Nat.le_of_eq rfl) (hb hby at_76) (fun _ _ => ⟨rfl, rfl, (by decide : 13 + 0 ≤ _), (by decide : 49 + 0 ≤ _)⟩)
  dsimp only [Pt.U, Pt.locs, Pt.cells, Pt.slots] at X479 l479 y479 z479 st479 hQ479
  subst l479 y479 z479
  obtain ⟨rfl, N479q, hQ479⟩ := hQ479
  have N479 := Fr.app N476 N479q
  refine Rch.of (T' := T479) (g' := (mkF m 79 #[.val (.int p0), .val (.int p1), .val (.int p2), .val (.int p3), .val (.int p4), .val (.int p5), .val (.int (Int32.ofNat k)), .val (.ref b453), .val (.ref rr473), .val (.ref rr476), .unset, .unset, .unset, .unset, .unset] [(.int ((Int32.ofNat (own_ls y470 (47 : Int32) k)) - (1 : Int32)))])) st479 ?_
  refine Rch.of (T' := T479) (g' := (mkF m 80 #[.val (.int p0), .val (.int p1), .val (.int p2), .val (.int p3), .val (.int p4), .val (.int p5), .val (.int (Int32.ofNat k)), .val (.ref b453), .val (.ref rr473), .val (.ref rr476), .unset, .unset, .unset, .unset, .unset] [(.int (1 : Int32)), (.int ((Int32.ofNat (own_ls y470 (47 : Int32) k)) - (1 : Int32)))])) (fun _ kt => XS.iconst X479.here hx rfl (hb hby at_79) kt) ?_
  refine Rch.of (T' := T479) (g' := (mkF m 81 #[.val (.int p0), .val (.int p1), .val (.int p2), .val (.int p3), .val (.int p4), .val (.int p5), .val (.int (Int32.ofNat k)), .val (.ref b453), .val (.ref rr473), .val (.ref rr476), .unset, .unset, .unset, .unset, .unset] [(.int (((Int32.ofNat (own_ls y470 (47 : Int32) k)) - (1 : Int32)) + (1 : Int32)))])) (fun _ kt => XS.iadd X479.here hx rfl (hb hby at_80) rfl kt) ?_
  have sle := own_ls_le y470 (47 : Int32) k
  have sum5 := own_sum y470 k
  have sw481 : (((Int32.ofNat (own_ls y470 (47 : Int32) k)) - (1 : Int32)) + (1 : Int32)) = (Int32.ofNat (own_ls y470 (47 : Int32) k)) := own_pm _
  rw [sw481]
  show Rch p e below K T479 (mkF m 81 #[.val (.int p0), .val (.int p1), .val (.int p2), .val (.int p3), .val (.int p4), .val (.int p5), .val (.int (Int32.ofNat k)), .val (.ref b453), .val (.ref rr473), .val (.ref rr476), .unset, .unset, .unset, .unset, .unset] [(.int (Int32.ofNat (own_ls y470 (47 : Int32) k)))])
  refine Rch.of (T' := T479) (g' := (mkF m 83 #[.val (.int p0), .val (.int p1), .val (.int p2), .val (.int p3), .val (.int p4), .val (.int p5), .val (.int (Int32.ofNat k)), .val (.ref b453), .val (.ref rr473), .val (.ref rr476), .val (.int (Int32.ofNat (own_ls y470 (47 : Int32) k))), .unset, .unset, .unset, .unset] [])) (fun _ kt => XS.istore X479.here hx rfl (hb hby at_81) rfl (l' := #[.val (.int p0), .val (.int p1), .val (.int p2), .val (.int p3), .val (.int p4), .val (.int p5), .val (.int (Int32.ofNat k)), .val (.ref b453), .val (.ref rr473), .val (.ref rr476), .val (.int (Int32.ofNat (own_ls y470 (47 : Int32) k))), .unset, .unset, .unset, .unset]) rfl kt) ?_
  refine Rch.of (T' := T479) (g' := (mkF m 85 #[.val (.int p0), .val (.int p1), .val (.int p2), .val (.int p3), .val (.int p4), .val (.int p5), .val (.int (Int32.ofNat k)), .val (.ref b453), .val (.ref rr473), .val (.ref rr476), .val (.int (Int32.ofNat (own_ls y470 (47 : Int32) k))), .unset, .unset, .unset, .unset] [(.ref b453)])) (fun _ kt => XS.aload X479.here hx rfl (hb hby at_83) rfl rfl kt) ?_
  refine Rch.of (T' := T479) (g' := (mkF m 87 #[.val (.int p0), .val (.int p1), .val (.int p2), .val (.int p3), .val (.int p4), .val (.int p5), .val (.int (Int32.ofNat k)), .val (.ref b453), .val (.ref rr473), .val (.ref rr476), .val (.int (Int32.ofNat (own_ls y470 (47 : Int32) k))), .unset, .unset, .unset, .unset] [(.int (61 : Int32)), (.ref b453)])) (fun _ kt => XS.bipush X479.here hx rfl (hb hby at_85) kt) ?_
  refine Rch.of (T' := T479) (g' := (mkF m 89 #[.val (.int p0), .val (.int p1), .val (.int p2), .val (.int p3), .val (.int p4), .val (.int p5), .val (.int (Int32.ofNat k)), .val (.ref b453), .val (.ref rr473), .val (.ref rr476), .val (.int (Int32.ofNat (own_ls y470 (47 : Int32) k))), .unset, .unset, .unset, .unset] [(.int (Int32.ofNat (own_ls y470 (47 : Int32) k))), (.int (61 : Int32)), (.ref b453)])) (fun _ kt => XS.iload X479.here hx rfl (hb hby at_87) rfl  kt) ?_
  refine Rch.of (T' := T479) (g' := (mkF m 91 #[.val (.int p0), .val (.int p1), .val (.int p2), .val (.int p3), .val (.int p4), .val (.int p5), .val (.int (Int32.ofNat k)), .val (.ref b453), .val (.ref rr473), .val (.ref rr476), .val (.int (Int32.ofNat (own_ls y470 (47 : Int32) k))), .unset, .unset, .unset, .unset] [(.int (Int32.ofNat k)), (.int (Int32.ofNat (own_ls y470 (47 : Int32) k))), (.int (61 : Int32)), (.ref b453)])) (fun _ kt => XS.iload X479.here hx rfl (hb hby at_89) rfl  kt) ?_
  have pr483 : (own_ls y470 (47 : Int32) k) ≤ k := by omega
  have pr484 : k ≤ 5 := by omega
  obtain ⟨_, _, ⟨T482, L482, k482, n482⟩, -, X482, ⟨Lc482, hQ482, l482, y482, z482⟩, st482⟩ := Jvm.LawKit.callS X479 hx (y := (⟨"com/example/isidore/isidore/rulesets/mwsdn/PathNamesNodePinLaw", "firstFrom", "([CCII)I"⟩ : MethodName)) hown (mvT hZ (hw _ (List.mem_of_getElem? (i := 110) rfl))) (mvT hZ (hw _ (List.mem_of_getElem? (i := 111) rfl))) (mvT hZ (hw _ (List.mem_of_getElem? (i := 3) rfl))) (mvT hZ (hw _ (List.mem_of_getElem? (i := 112) rfl))) (by decide) (backOf (W := 0) (rk4 l Z a0 hw [] b453 (61 : Int32) (own_ls y470 (47 : Int32) k) k y470 T476.heap n0 (Nat.le_trans (Nat.le_trans (Nat.le_trans Fb468 (Keep.of_wr W470).1) K473.1) K476.1) ((V470.keep K473 nin0).keep K476 nin0) pr483 pr484) hZ (hw _ (List.mem_of_getElem? (i := 112) rfl)) (hw _ (List.mem_of_getElem? (i := 3) rfl)) (by decide) (by decide)) (g := (mkF m 91 #[.val (.int p0), .val (.int p1), .val (.int p2), .val (.int p3), .val (.int p4), .val (.int p5), .val (.int (Int32.ofNat k)), .val (.ref b453), .val (.ref rr473), .val (.ref rr476), .val (.int (Int32.ofNat (own_ls y470 (47 : Int32) k))), .unset, .unset, .unset, .unset] [(.int (Int32.ofNat k)), (.int (Int32.ofNat (own_ls y470 (47 : Int32) k))), (.int (61 : Int32)), (.ref b453)])) rfl (by rw [hml]; rfl) (argsL := [(.ref b453), (.int (61 : Int32)), (.int (Int32.ofNat (own_ls y470 (47 : Int32) k))), (.int (Int32.ofNat k))]) (rest := []) (lenOf pd_19 rfl) rfl (by show 2 * 0 + _ ≤ _; exact Nat.le_of_eq rfl) (hb hby at_91) (fun _ _ => ⟨rfl, hQ479, (by decide : 13 + 0 ≤ _), (by decide : 49 + 0 ≤ _)⟩)
  dsimp only [Pt.U, Pt.locs, Pt.cells, Pt.slots] at X482 l482 y482 z482 st482 hQ482
  subst l482 y482 z482
  obtain ⟨rfl, N482q, hQ482⟩ := hQ482
  have N482 := Fr.app N479 N482q
  refine Rch.of (T' := T482) (g' := (mkF m 94 #[.val (.int p0), .val (.int p1), .val (.int p2), .val (.int p3), .val (.int p4), .val (.int p5), .val (.int (Int32.ofNat k)), .val (.ref b453), .val (.ref rr473), .val (.ref rr476), .val (.int (Int32.ofNat (own_ls y470 (47 : Int32) k))), .unset, .unset, .unset, .unset] [(.int (Int32.ofNat (own_fF y470 (61 : Int32) (own_ls y470 (47 : Int32) k) k)))])) st482 ?_
  have ele := own_fF_le (y := y470) (c := (61 : Int32)) sle
  have ege := own_fF_ge y470 (61 : Int32) (own_ls y470 (47 : Int32) k) k
  refine Rch.of (T' := T482) (g' := (mkF m 96 #[.val (.int p0), .val (.int p1), .val (.int p2), .val (.int p3), .val (.int p4), .val (.int p5), .val (.int (Int32.ofNat k)), .val (.ref b453), .val (.ref rr473), .val (.ref rr476), .val (.int (Int32.ofNat (own_ls y470 (47 : Int32) k))), .val (.int (Int32.ofNat (own_fF y470 (61 : Int32) (own_ls y470 (47 : Int32) k) k))), .unset, .unset, .unset] [])) (fun _ kt => XS.istore X482.here hx rfl (hb hby at_94) rfl (l' := #[.val (.int p0), .val (.int p1), .val (.int p2), .val (.int p3), .val (.int p4), .val (.int p5), .val (.int (Int32.ofNat k)), .val (.ref b453), .val (.ref rr473), .val (.ref rr476), .val (.int (Int32.ofNat (own_ls y470 (47 : Int32) k))), .val (.int (Int32.ofNat (own_fF y470 (61 : Int32) (own_ls y470 (47 : Int32) k) k))), .unset, .unset, .unset]) rfl kt) ?_
  refine Rch.of (T' := T482) (g' := (mkF m 98 #[.val (.int p0), .val (.int p1), .val (.int p2), .val (.int p3), .val (.int p4), .val (.int p5), .val (.int (Int32.ofNat k)), .val (.ref b453), .val (.ref rr473), .val (.ref rr476), .val (.int (Int32.ofNat (own_ls y470 (47 : Int32) k))), .val (.int (Int32.ofNat (own_fF y470 (61 : Int32) (own_ls y470 (47 : Int32) k) k))), .unset, .unset, .unset] [(.ref b453)])) (fun _ kt => XS.aload X482.here hx rfl (hb hby at_96) rfl rfl kt) ?_
  refine Rch.of (T' := T482) (g' := (mkF m 100 #[.val (.int p0), .val (.int p1), .val (.int p2), .val (.int p3), .val (.int p4), .val (.int p5), .val (.int (Int32.ofNat k)), .val (.ref b453), .val (.ref rr473), .val (.ref rr476), .val (.int (Int32.ofNat (own_ls y470 (47 : Int32) k))), .val (.int (Int32.ofNat (own_fF y470 (61 : Int32) (own_ls y470 (47 : Int32) k) k))), .unset, .unset, .unset] [(.int (58 : Int32)), (.ref b453)])) (fun _ kt => XS.bipush X482.here hx rfl (hb hby at_98) kt) ?_
  refine Rch.of (T' := T482) (g' := (mkF m 102 #[.val (.int p0), .val (.int p1), .val (.int p2), .val (.int p3), .val (.int p4), .val (.int p5), .val (.int (Int32.ofNat k)), .val (.ref b453), .val (.ref rr473), .val (.ref rr476), .val (.int (Int32.ofNat (own_ls y470 (47 : Int32) k))), .val (.int (Int32.ofNat (own_fF y470 (61 : Int32) (own_ls y470 (47 : Int32) k) k))), .unset, .unset, .unset] [(.int (Int32.ofNat (own_ls y470 (47 : Int32) k))), (.int (58 : Int32)), (.ref b453)])) (fun _ kt => XS.iload X482.here hx rfl (hb hby at_100) rfl  kt) ?_
  refine Rch.of (T' := T482) (g' := (mkF m 104 #[.val (.int p0), .val (.int p1), .val (.int p2), .val (.int p3), .val (.int p4), .val (.int p5), .val (.int (Int32.ofNat k)), .val (.ref b453), .val (.ref rr473), .val (.ref rr476), .val (.int (Int32.ofNat (own_ls y470 (47 : Int32) k))), .val (.int (Int32.ofNat (own_fF y470 (61 : Int32) (own_ls y470 (47 : Int32) k) k))), .unset, .unset, .unset] [(.int (Int32.ofNat (own_fF y470 (61 : Int32) (own_ls y470 (47 : Int32) k) k))), (.int (Int32.ofNat (own_ls y470 (47 : Int32) k))), (.int (58 : Int32)), (.ref b453)])) (fun _ kt => XS.iload X482.here hx rfl (hb hby at_102) rfl  kt) ?_
  have pr486 : (own_ls y470 (47 : Int32) k) ≤ (own_fF y470 (61 : Int32) (own_ls y470 (47 : Int32) k) k) := by omega
  have pr487 : (own_fF y470 (61 : Int32) (own_ls y470 (47 : Int32) k) k) ≤ 5 := by omega
  obtain ⟨_, _, ⟨T485, L485, k485, n485⟩, -, X485, ⟨Lc485, hQ485, l485, y485, z485⟩, st485⟩ := Jvm.LawKit.callS X482 hx (y := (⟨"com/example/isidore/isidore/rulesets/mwsdn/PathNamesNodePinLaw", "firstFrom", "([CCII)I"⟩ : MethodName)) hown (mvT hZ (hw _ (List.mem_of_getElem? (i := 110) rfl))) (mvT hZ (hw _ (List.mem_of_getElem? (i := 111) rfl))) (mvT hZ (hw _ (List.mem_of_getElem? (i := 3) rfl))) (mvT hZ (hw _ (List.mem_of_getElem? (i := 112) rfl))) (by decide) (backOf (W := 0) (rk4 l Z a0 hw [] b453 (58 : Int32) (own_ls y470 (47 : Int32) k) (own_fF y470 (61 : Int32) (own_ls y470 (47 : Int32) k) k) y470 T476.heap n0 (Nat.le_trans (Nat.le_trans (Nat.le_trans Fb468 (Keep.of_wr W470).1) K473.1) K476.1) ((V470.keep K473 nin0).keep K476 nin0) pr486 pr487) hZ (hw _ (List.mem_of_getElem? (i := 112) rfl)) (hw _ (List.mem_of_getElem? (i := 3) rfl)) (by decide) (by decide)) (g := (mkF m 104 #[.val (.int p0), .val (.int p1), .val (.int p2), .val (.int p3), .val (.int p4), .val (.int p5), .val (.int (Int32.ofNat k)), .val (.ref b453), .val (.ref rr473), .val (.ref rr476), .val (.int (Int32.ofNat (own_ls y470 (47 : Int32) k))), .val (.int (Int32.ofNat (own_fF y470 (61 : Int32) (own_ls y470 (47 : Int32) k) k))), .unset, .unset, .unset] [(.int (Int32.ofNat (own_fF y470 (61 : Int32) (own_ls y470 (47 : Int32) k) k))), (.int (Int32.ofNat (own_ls y470 (47 : Int32) k))), (.int (58 : Int32)), (.ref b453)])) rfl (by rw [hml]; rfl) (argsL := [(.ref b453), (.int (58 : Int32)), (.int (Int32.ofNat (own_ls y470 (47 : Int32) k))), (.int (Int32.ofNat (own_fF y470 (61 : Int32) (own_ls y470 (47 : Int32) k) k)))]) (rest := []) (lenOf pd_19 rfl) rfl (by show 2 * 0 + _ ≤ _; exact Nat.le_of_eq rfl) (hb hby at_104) (fun _ _ => ⟨rfl, hQ482, (by decide : 13 + 0 ≤ _), (by decide : 49 + 0 ≤ _)⟩)
  dsimp only [Pt.U, Pt.locs, Pt.cells, Pt.slots] at X485 l485 y485 z485 st485 hQ485
  subst l485 y485 z485
  obtain ⟨rfl, N485q, hQ485⟩ := hQ485
  have N485 := Fr.app N482 N485q
  refine Rch.of (T' := T485) (g' := (mkF m 107 #[.val (.int p0), .val (.int p1), .val (.int p2), .val (.int p3), .val (.int p4), .val (.int p5), .val (.int (Int32.ofNat k)), .val (.ref b453), .val (.ref rr473), .val (.ref rr476), .val (.int (Int32.ofNat (own_ls y470 (47 : Int32) k))), .val (.int (Int32.ofNat (own_fF y470 (61 : Int32) (own_ls y470 (47 : Int32) k) k))), .unset, .unset, .unset] [(.int (Int32.ofNat (own_fF y470 (58 : Int32) (own_ls y470 (47 : Int32) k) (own_fF y470 (61 : Int32) (own_ls y470 (47 : Int32) k) k))))])) st485 ?_
  refine Rch.of (T' := T485) (g' := (mkF m 109 #[.val (.int p0), .val (.int p1), .val (.int p2), .val (.int p3), .val (.int p4), .val (.int p5), .val (.int (Int32.ofNat k)), .val (.ref b453), .val (.ref rr473), .val (.ref rr476), .val (.int (Int32.ofNat (own_ls y470 (47 : Int32) k))), .val (.int (Int32.ofNat (own_fF y470 (61 : Int32) (own_ls y470 (47 : Int32) k) k))), .val (.int (Int32.ofNat (own_fF y470 (58 : Int32) (own_ls y470 (47 : Int32) k) (own_fF y470 (61 : Int32) (own_ls y470 (47 : Int32) k) k)))), .unset, .unset] [])) (fun _ kt => XS.istore X485.here hx rfl (hb hby at_107) rfl (l' := #[.val (.int p0), .val (.int p1), .val (.int p2), .val (.int p3), .val (.int p4), .val (.int p5), .val (.int (Int32.ofNat k)), .val (.ref b453), .val (.ref rr473), .val (.ref rr476), .val (.int (Int32.ofNat (own_ls y470 (47 : Int32) k))), .val (.int (Int32.ofNat (own_fF y470 (61 : Int32) (own_ls y470 (47 : Int32) k) k))), .val (.int (Int32.ofNat (own_fF y470 (58 : Int32) (own_ls y470 (47 : Int32) k) (own_fF y470 (61 : Int32) (own_ls y470 (47 : Int32) k) k)))), .unset, .unset]) rfl kt) ?_
  refine Rch.of (T' := T485) (g' := (mkF m 111 #[.val (.int p0), .val (.int p1), .val (.int p2), .val (.int p3), .val (.int p4), .val (.int p5), .val (.int (Int32.ofNat k)), .val (.ref b453), .val (.ref rr473), .val (.ref rr476), .val (.int (Int32.ofNat (own_ls y470 (47 : Int32) k))), .val (.int (Int32.ofNat (own_fF y470 (61 : Int32) (own_ls y470 (47 : Int32) k) k))), .val (.int (Int32.ofNat (own_fF y470 (58 : Int32) (own_ls y470 (47 : Int32) k) (own_fF y470 (61 : Int32) (own_ls y470 (47 : Int32) k) k)))), .unset, .unset] [(.int (Int32.ofNat (own_ls y470 (47 : Int32) k)))])) (fun _ kt => XS.iload X485.here hx rfl (hb hby at_109) rfl  kt) ?_
  refine Rch.of (T' := T485) (g' := (mkF m 113 #[.val (.int p0), .val (.int p1), .val (.int p2), .val (.int p3), .val (.int p4), .val (.int p5), .val (.int (Int32.ofNat k)), .val (.ref b453), .val (.ref rr473), .val (.ref rr476), .val (.int (Int32.ofNat (own_ls y470 (47 : Int32) k))), .val (.int (Int32.ofNat (own_fF y470 (61 : Int32) (own_ls y470 (47 : Int32) k) k))), .val (.int (Int32.ofNat (own_fF y470 (58 : Int32) (own_ls y470 (47 : Int32) k) (own_fF y470 (61 : Int32) (own_ls y470 (47 : Int32) k) k)))), .val (.int (Int32.ofNat (own_ls y470 (47 : Int32) k))), .unset] [])) (fun _ kt => XS.istore X485.here hx rfl (hb hby at_111) rfl (l' := #[.val (.int p0), .val (.int p1), .val (.int p2), .val (.int p3), .val (.int p4), .val (.int p5), .val (.int (Int32.ofNat k)), .val (.ref b453), .val (.ref rr473), .val (.ref rr476), .val (.int (Int32.ofNat (own_ls y470 (47 : Int32) k))), .val (.int (Int32.ofNat (own_fF y470 (61 : Int32) (own_ls y470 (47 : Int32) k) k))), .val (.int (Int32.ofNat (own_fF y470 (58 : Int32) (own_ls y470 (47 : Int32) k) (own_fF y470 (61 : Int32) (own_ls y470 (47 : Int32) k) k)))), .val (.int (Int32.ofNat (own_ls y470 (47 : Int32) k))), .unset]) rfl kt) ?_
  refine Rch.of (T' := T485) (g' := (mkF m 115 #[.val (.int p0), .val (.int p1), .val (.int p2), .val (.int p3), .val (.int p4), .val (.int p5), .val (.int (Int32.ofNat k)), .val (.ref b453), .val (.ref rr473), .val (.ref rr476), .val (.int (Int32.ofNat (own_ls y470 (47 : Int32) k))), .val (.int (Int32.ofNat (own_fF y470 (61 : Int32) (own_ls y470 (47 : Int32) k) k))), .val (.int (Int32.ofNat (own_fF y470 (58 : Int32) (own_ls y470 (47 : Int32) k) (own_fF y470 (61 : Int32) (own_ls y470 (47 : Int32) k) k)))), .val (.int (Int32.ofNat (own_ls y470 (47 : Int32) k))), .unset] [(.int (Int32.ofNat (own_fF y470 (58 : Int32) (own_ls y470 (47 : Int32) k) (own_fF y470 (61 : Int32) (own_ls y470 (47 : Int32) k) k))))])) (fun _ kt => XS.iload X485.here hx rfl (hb hby at_113) rfl  kt) ?_
  refine Rch.of (T' := T485) (g' := (mkF m 117 #[.val (.int p0), .val (.int p1), .val (.int p2), .val (.int p3), .val (.int p4), .val (.int p5), .val (.int (Int32.ofNat k)), .val (.ref b453), .val (.ref rr473), .val (.ref rr476), .val (.int (Int32.ofNat (own_ls y470 (47 : Int32) k))), .val (.int (Int32.ofNat (own_fF y470 (61 : Int32) (own_ls y470 (47 : Int32) k) k))), .val (.int (Int32.ofNat (own_fF y470 (58 : Int32) (own_ls y470 (47 : Int32) k) (own_fF y470 (61 : Int32) (own_ls y470 (47 : Int32) k) k)))), .val (.int (Int32.ofNat (own_ls y470 (47 : Int32) k))), .unset] [(.int (Int32.ofNat (own_fF y470 (61 : Int32) (own_ls y470 (47 : Int32) k) k))), (.int (Int32.ofNat (own_fF y470 (58 : Int32) (own_ls y470 (47 : Int32) k) (own_fF y470 (61 : Int32) (own_ls y470 (47 : Int32) k) k))))])) (fun _ kt => XS.iload X485.here hx rfl (hb hby at_115) rfl  kt) ?_
  by_cases c488 : (Int32.ofNat (own_fF y470 (58 : Int32) (own_ls y470 (47 : Int32) k) (own_fF y470 (61 : Int32) (own_ls y470 (47 : Int32) k) k))) < (Int32.ofNat (own_fF y470 (61 : Int32) (own_ls y470 (47 : Int32) k) k))
  · skip
    refine Rch.of (T' := T485) (g' := (mkF m 120 #[.val (.int p0), .val (.int p1), .val (.int p2), .val (.int p3), .val (.int p4), .val (.int p5), .val (.int (Int32.ofNat k)), .val (.ref b453), .val (.ref rr473), .val (.ref rr476), .val (.int (Int32.ofNat (own_ls y470 (47 : Int32) k))), .val (.int (Int32.ofNat (own_fF y470 (61 : Int32) (own_ls y470 (47 : Int32) k) k))), .val (.int (Int32.ofNat (own_fF y470 (58 : Int32) (own_ls y470 (47 : Int32) k) (own_fF y470 (61 : Int32) (own_ls y470 (47 : Int32) k) k)))), .val (.int (Int32.ofNat (own_ls y470 (47 : Int32) k))), .unset] [])) (fun _ kt => XS.icmpNo X485.here hx rfl (hb hby at_117) rfl (tlt c488).2.1 kt) ?_
    have kle := own_fF_le (y := y470) (c := (58 : Int32)) ege
    have hlt : (own_fF y470 (58 : Int32) (own_ls y470 (47 : Int32) k) (own_fF y470 (61 : Int32) (own_ls y470 (47 : Int32) k) k)) < (own_fF y470 (61 : Int32) (own_ls y470 (47 : Int32) k) k) := (own_olt2 (by omega) (by omega)).mp c488
    refine Rch.of (T' := T485) (g' := (mkF m 122 #[.val (.int p0), .val (.int p1), .val (.int p2), .val (.int p3), .val (.int p4), .val (.int p5), .val (.int (Int32.ofNat k)), .val (.ref b453), .val (.ref rr473), .val (.ref rr476), .val (.int (Int32.ofNat (own_ls y470 (47 : Int32) k))), .val (.int (Int32.ofNat (own_fF y470 (61 : Int32) (own_ls y470 (47 : Int32) k) k))), .val (.int (Int32.ofNat (own_fF y470 (58 : Int32) (own_ls y470 (47 : Int32) k) (own_fF y470 (61 : Int32) (own_ls y470 (47 : Int32) k) k)))), .val (.int (Int32.ofNat (own_ls y470 (47 : Int32) k))), .unset] [(.int (Int32.ofNat (own_fF y470 (58 : Int32) (own_ls y470 (47 : Int32) k) (own_fF y470 (61 : Int32) (own_ls y470 (47 : Int32) k) k))))])) (fun _ kt => XS.iload X485.here hx rfl (hb hby at_120) rfl  kt) ?_
    refine Rch.of (T' := T485) (g' := (mkF m 123 #[.val (.int p0), .val (.int p1), .val (.int p2), .val (.int p3), .val (.int p4), .val (.int p5), .val (.int (Int32.ofNat k)), .val (.ref b453), .val (.ref rr473), .val (.ref rr476), .val (.int (Int32.ofNat (own_ls y470 (47 : Int32) k))), .val (.int (Int32.ofNat (own_fF y470 (61 : Int32) (own_ls y470 (47 : Int32) k) k))), .val (.int (Int32.ofNat (own_fF y470 (58 : Int32) (own_ls y470 (47 : Int32) k) (own_fF y470 (61 : Int32) (own_ls y470 (47 : Int32) k) k)))), .val (.int (Int32.ofNat (own_ls y470 (47 : Int32) k))), .unset] [(.int (1 : Int32)), (.int (Int32.ofNat (own_fF y470 (58 : Int32) (own_ls y470 (47 : Int32) k) (own_fF y470 (61 : Int32) (own_ls y470 (47 : Int32) k) k))))])) (fun _ kt => XS.iconst X485.here hx rfl (hb hby at_122) kt) ?_
    refine Rch.of (T' := T485) (g' := (mkF m 124 #[.val (.int p0), .val (.int p1), .val (.int p2), .val (.int p3), .val (.int p4), .val (.int p5), .val (.int (Int32.ofNat k)), .val (.ref b453), .val (.ref rr473), .val (.ref rr476), .val (.int (Int32.ofNat (own_ls y470 (47 : Int32) k))), .val (.int (Int32.ofNat (own_fF y470 (61 : Int32) (own_ls y470 (47 : Int32) k) k))), .val (.int (Int32.ofNat (own_fF y470 (58 : Int32) (own_ls y470 (47 : Int32) k) (own_fF y470 (61 : Int32) (own_ls y470 (47 : Int32) k) k)))), .val (.int (Int32.ofNat (own_ls y470 (47 : Int32) k))), .unset] [(.int ((Int32.ofNat (own_fF y470 (58 : Int32) (own_ls y470 (47 : Int32) k) (own_fF y470 (61 : Int32) (own_ls y470 (47 : Int32) k) k))) + (1 : Int32)))])) (fun _ kt => XS.iadd X485.here hx rfl (hb hby at_123) rfl kt) ?_
    refine Rch.of (T' := T485) (g' := (mkF m 126 #[.val (.int p0), .val (.int p1), .val (.int p2), .val (.int p3), .val (.int p4), .val (.int p5), .val (.int (Int32.ofNat k)), .val (.ref b453), .val (.ref rr473), .val (.ref rr476), .val (.int (Int32.ofNat (own_ls y470 (47 : Int32) k))), .val (.int (Int32.ofNat (own_fF y470 (61 : Int32) (own_ls y470 (47 : Int32) k) k))), .val (.int (Int32.ofNat (own_fF y470 (58 : Int32) (own_ls y470 (47 : Int32) k) (own_fF y470 (61 : Int32) (own_ls y470 (47 : Int32) k) k)))), .val (.int ((Int32.ofNat (own_fF y470 (58 : Int32) (own_ls y470 (47 : Int32) k) (own_fF y470 (61 : Int32) (own_ls y470 (47 : Int32) k) k))) + (1 : Int32))), .unset] [])) (fun _ kt => XS.istore X485.here hx rfl (hb hby at_124) rfl (l' := #[.val (.int p0), .val (.int p1), .val (.int p2), .val (.int p3), .val (.int p4), .val (.int p5), .val (.int (Int32.ofNat k)), .val (.ref b453), .val (.ref rr473), .val (.ref rr476), .val (.int (Int32.ofNat (own_ls y470 (47 : Int32) k))), .val (.int (Int32.ofNat (own_fF y470 (61 : Int32) (own_ls y470 (47 : Int32) k) k))), .val (.int (Int32.ofNat (own_fF y470 (58 : Int32) (own_ls y470 (47 : Int32) k) (own_fF y470 (61 : Int32) (own_ls y470 (47 : Int32) k) k)))), .val (.int ((Int32.ofNat (own_fF y470 (58 : Int32) (own_ls y470 (47 : Int32) k) (own_fF y470 (61 : Int32) (own_ls y470 (47 : Int32) k) k))) + (1 : Int32))), .unset]) rfl kt) ?_
    have sw489 : ((Int32.ofNat (own_fF y470 (58 : Int32) (own_ls y470 (47 : Int32) k) (own_fF y470 (61 : Int32) (own_ls y470 (47 : Int32) k) k))) + (1 : Int32)) = (Int32.ofNat (own_no y470 k)) := (own_one _).trans (congrArg Int32.ofNat (own_s2y hlt))
    rw [sw489]
    show Rch p e below K T485 (mkF m 126 #[.val (.int p0), .val (.int p1), .val (.int p2), .val (.int p3), .val (.int p4), .val (.int p5), .val (.int (Int32.ofNat k)), .val (.ref b453), .val (.ref rr473), .val (.ref rr476), .val (.int (Int32.ofNat (own_ls y470 (47 : Int32) k))), .val (.int (Int32.ofNat (own_fF y470 (61 : Int32) (own_ls y470 (47 : Int32) k) k))), .val (.int (Int32.ofNat (own_fF y470 (58 : Int32) (own_ls y470 (47 : Int32) k) (own_fF y470 (61 : Int32) (own_ls y470 (47 : Int32) k) k)))), .val (.int (Int32.ofNat (own_no y470 k))), .unset] [])
    have rl2 := own_rl y470 k
    refine Rch.of (T' := T485) (g' := (mkF m 128 #[.val (.int p0), .val (.int p1), .val (.int p2), .val (.int p3), .val (.int p4), .val (.int p5), .val (.int (Int32.ofNat k)), .val (.ref b453), .val (.ref rr473), .val (.ref rr476), .val (.int (Int32.ofNat (own_ls y470 (47 : Int32) k))), .val (.int (Int32.ofNat (own_fF y470 (61 : Int32) (own_ls y470 (47 : Int32) k) k))), .val (.int (Int32.ofNat (own_fF y470 (58 : Int32) (own_ls y470 (47 : Int32) k) (own_fF y470 (61 : Int32) (own_ls y470 (47 : Int32) k) k)))), .val (.int (Int32.ofNat (own_no y470 k))), .unset] [(.int (Int32.ofNat (own_fF y470 (61 : Int32) (own_ls y470 (47 : Int32) k) k)))])) (fun _ kt => XS.iload X485.here hx rfl (hb hby at_126) rfl  kt) ?_
    refine Rch.of (T' := T485) (g' := (mkF m 130 #[.val (.int p0), .val (.int p1), .val (.int p2), .val (.int p3), .val (.int p4), .val (.int p5), .val (.int (Int32.ofNat k)), .val (.ref b453), .val (.ref rr473), .val (.ref rr476), .val (.int (Int32.ofNat (own_ls y470 (47 : Int32) k))), .val (.int (Int32.ofNat (own_fF y470 (61 : Int32) (own_ls y470 (47 : Int32) k) k))), .val (.int (Int32.ofNat (own_fF y470 (58 : Int32) (own_ls y470 (47 : Int32) k) (own_fF y470 (61 : Int32) (own_ls y470 (47 : Int32) k) k)))), .val (.int (Int32.ofNat (own_no y470 k))), .unset] [(.int (Int32.ofNat (own_no y470 k))), (.int (Int32.ofNat (own_fF y470 (61 : Int32) (own_ls y470 (47 : Int32) k) k)))])) (fun _ kt => XS.iload X485.here hx rfl (hb hby at_128) rfl  kt) ?_
    refine Rch.of (T' := T485) (g' := (mkF m 131 #[.val (.int p0), .val (.int p1), .val (.int p2), .val (.int p3), .val (.int p4), .val (.int p5), .val (.int (Int32.ofNat k)), .val (.ref b453), .val (.ref rr473), .val (.ref rr476), .val (.int (Int32.ofNat (own_ls y470 (47 : Int32) k))), .val (.int (Int32.ofNat (own_fF y470 (61 : Int32) (own_ls y470 (47 : Int32) k) k))), .val (.int (Int32.ofNat (own_fF y470 (58 : Int32) (own_ls y470 (47 : Int32) k) (own_fF y470 (61 : Int32) (own_ls y470 (47 : Int32) k) k)))), .val (.int (Int32.ofNat (own_no y470 k))), .unset] [(.int ((Int32.ofNat (own_fF y470 (61 : Int32) (own_ls y470 (47 : Int32) k) k)) - (Int32.ofNat (own_no y470 k))))])) (fun _ kt => XS.isub X485.here hx rfl (hb hby at_130) rfl kt) ?_
    have sw490 : ((Int32.ofNat (own_fF y470 (61 : Int32) (own_ls y470 (47 : Int32) k) k)) - (Int32.ofNat (own_no y470 k))) = (Int32.ofNat (own_nl y470 k)) := (own_subN rl2.1).trans (congrArg Int32.ofNat rl2.2)
    rw [sw490]
    show Rch p e below K T485 (mkF m 131 #[.val (.int p0), .val (.int p1), .val (.int p2), .val (.int p3), .val (.int p4), .val (.int p5), .val (.int (Int32.ofNat k)), .val (.ref b453), .val (.ref rr473), .val (.ref rr476), .val (.int (Int32.ofNat (own_ls y470 (47 : Int32) k))), .val (.int (Int32.ofNat (own_fF y470 (61 : Int32) (own_ls y470 (47 : Int32) k) k))), .val (.int (Int32.ofNat (own_fF y470 (58 : Int32) (own_ls y470 (47 : Int32) k) (own_fF y470 (61 : Int32) (own_ls y470 (47 : Int32) k) k)))), .val (.int (Int32.ofNat (own_no y470 k))), .unset] [(.int (Int32.ofNat (own_nl y470 k)))])
    refine Rch.of (T' := T485) (g' := (mkF m 133 #[.val (.int p0), .val (.int p1), .val (.int p2), .val (.int p3), .val (.int p4), .val (.int p5), .val (.int (Int32.ofNat k)), .val (.ref b453), .val (.ref rr473), .val (.ref rr476), .val (.int (Int32.ofNat (own_ls y470 (47 : Int32) k))), .val (.int (Int32.ofNat (own_fF y470 (61 : Int32) (own_ls y470 (47 : Int32) k) k))), .val (.int (Int32.ofNat (own_fF y470 (58 : Int32) (own_ls y470 (47 : Int32) k) (own_fF y470 (61 : Int32) (own_ls y470 (47 : Int32) k) k)))), .val (.int (Int32.ofNat (own_no y470 k))), .val (.int (Int32.ofNat (own_nl y470 k)))] [])) (fun _ kt => XS.istore X485.here hx rfl (hb hby at_131) rfl (l' := #[.val (.int p0), .val (.int p1), .val (.int p2), .val (.int p3), .val (.int p4), .val (.int p5), .val (.int (Int32.ofNat k)), .val (.ref b453), .val (.ref rr473), .val (.ref rr476), .val (.int (Int32.ofNat (own_ls y470 (47 : Int32) k))), .val (.int (Int32.ofNat (own_fF y470 (61 : Int32) (own_ls y470 (47 : Int32) k) k))), .val (.int (Int32.ofNat (own_fF y470 (58 : Int32) (own_ls y470 (47 : Int32) k) (own_fF y470 (61 : Int32) (own_ls y470 (47 : Int32) k) k)))), .val (.int (Int32.ofNat (own_no y470 k))), .val (.int (Int32.ofNat (own_nl y470 k)))]) rfl kt) ?_
    refine Rch.of (T' := T485) (g' := (mkF m 135 #[.val (.int p0), .val (.int p1), .val (.int p2), .val (.int p3), .val (.int p4), .val (.int p5), .val (.int (Int32.ofNat k)), .val (.ref b453), .val (.ref rr473), .val (.ref rr476), .val (.int (Int32.ofNat (own_ls y470 (47 : Int32) k))), .val (.int (Int32.ofNat (own_fF y470 (61 : Int32) (own_ls y470 (47 : Int32) k) k))), .val (.int (Int32.ofNat (own_fF y470 (58 : Int32) (own_ls y470 (47 : Int32) k) (own_fF y470 (61 : Int32) (own_ls y470 (47 : Int32) k) k)))), .val (.int (Int32.ofNat (own_no y470 k))), .val (.int (Int32.ofNat (own_nl y470 k)))] [(.ref rr476)])) (fun _ kt => XS.aload X485.here hx rfl (hb hby at_133) rfl rfl kt) ?_
    obtain ⟨cq491, kq491, q491a, q491b, q491c⟩ := isOf hZ hQ485 Ex476
    obtain ⟨_, _, ⟨T491, L491, k491, n491⟩, -, X491, ⟨Lc491, hQ491, l491, y491, z491⟩, st491⟩ := X485.virtualBack hx (y := (⟨"java/lang/String", "length", "()I"⟩ : MethodName)) (z := (⟨"java/lang/String", "length", "()I"⟩ : MethodName)) hown (mvT hZ (hw _ (List.mem_of_getElem? (i := 113) rfl))) (mvT hZ (hw _ (List.mem_of_getElem? (i := 39) rfl))) (notFace_of_selects (args := #[]) (mvT hZ (hw _ (List.mem_of_getElem? (i := 41) rfl)))) (mvT hZ (hw _ (List.mem_of_getElem? (i := 41) rfl))) (mvT hZ (hw _ (List.mem_of_getElem? (i := 40) rfl))) (by decide) (backOf (W := 0) (rqLE l Z a0 hw [] rr476 rb476 (own_nl y470 k) rt476 cs T476.heap n0 (Nat.le_trans (Nat.le_trans (Nat.le_trans Fb468 (Keep.of_wr W470).1) K473.1) K476.1) Ex476 Fa476 Fb476 V476 (S1.ext ((((((((O0.ext E453).wr W455 ge_b453).wr W458 ge_b453).wr W462 ge_b453).wr W465 ge_b453).wr W470 ge_b453).keep K473 all0).keep K476 all0).2) hcs) hZ (hw _ (List.mem_of_getElem? (i := 42) rfl)) (hw _ (List.mem_of_getElem? (i := 10) rfl)) (by decide) (by decide)) q491a q491c (g := (mkF m 135 #[.val (.int p0), .val (.int p1), .val (.int p2), .val (.int p3), .val (.int p4), .val (.int p5), .val (.int (Int32.ofNat k)), .val (.ref b453), .val (.ref rr473), .val (.ref rr476), .val (.int (Int32.ofNat (own_ls y470 (47 : Int32) k))), .val (.int (Int32.ofNat (own_fF y470 (61 : Int32) (own_ls y470 (47 : Int32) k) k))), .val (.int (Int32.ofNat (own_fF y470 (58 : Int32) (own_ls y470 (47 : Int32) k) (own_fF y470 (61 : Int32) (own_ls y470 (47 : Int32) k) k)))), .val (.int (Int32.ofNat (own_no y470 k))), .val (.int (Int32.ofNat (own_nl y470 k)))] [(.ref rr476)])) rfl (by rw [hml]; rfl) (Steps.refl _) (argsL := []) (rest := []) (lenOf pd_7 rfl) rfl (by show 2 * 0 + _ ≤ _; exact Nat.le_of_eq rfl) (hb hby at_135) (fun _ _ => ⟨rfl, hQ485, (by decide : 13 + 0 ≤ _), (by decide : 49 + 0 ≤ _)⟩)
    dsimp only [Pt.U, Pt.locs, Pt.cells, Pt.slots] at X491 l491 y491 z491 st491 hQ491
    subst l491 y491 z491
    obtain ⟨rfl, N491q, hQ491⟩ := hQ491
    have N491 := Fr.app N485 N491q
    refine Rch.via (T' := T491) (g' := (mkF m 138 #[.val (.int p0), .val (.int p1), .val (.int p2), .val (.int p3), .val (.int p4), .val (.int p5), .val (.int (Int32.ofNat k)), .val (.ref b453), .val (.ref rr473), .val (.ref rr476), .val (.int (Int32.ofNat (own_ls y470 (47 : Int32) k))), .val (.int (Int32.ofNat (own_fF y470 (61 : Int32) (own_ls y470 (47 : Int32) k) k))), .val (.int (Int32.ofNat (own_fF y470 (58 : Int32) (own_ls y470 (47 : Int32) k) (own_fF y470 (61 : Int32) (own_ls y470 (47 : Int32) k) k)))), .val (.int (Int32.ofNat (own_no y470 k))), .val (.int (Int32.ofNat (own_nl y470 k)))] [(.int (Int32.ofNat (own_nl y470 k)))])) st491 ?_
    refine Rch.of (T' := T491) (g' := (mkF m 140 #[.val (.int p0), .val (.int p1), .val (.int p2), .val (.int p3), .val (.int p4), .val (.int p5), .val (.int (Int32.ofNat k)), .val (.ref b453), .val (.ref rr473), .val (.ref rr476), .val (.int (Int32.ofNat (own_ls y470 (47 : Int32) k))), .val (.int (Int32.ofNat (own_fF y470 (61 : Int32) (own_ls y470 (47 : Int32) k) k))), .val (.int (Int32.ofNat (own_fF y470 (58 : Int32) (own_ls y470 (47 : Int32) k) (own_fF y470 (61 : Int32) (own_ls y470 (47 : Int32) k) k)))), .val (.int (Int32.ofNat (own_no y470 k))), .val (.int (Int32.ofNat (own_nl y470 k)))] [(.int (Int32.ofNat (own_nl y470 k))), (.int (Int32.ofNat (own_nl y470 k)))])) (fun _ kt => XS.iload X491.here hx rfl (hb hby at_138) rfl  kt) ?_
    refine Rch.of (T' := T491) (g' := (mkF m 145 #[.val (.int p0), .val (.int p1), .val (.int p2), .val (.int p3), .val (.int p4), .val (.int p5), .val (.int (Int32.ofNat k)), .val (.ref b453), .val (.ref rr473), .val (.ref rr476), .val (.int (Int32.ofNat (own_ls y470 (47 : Int32) k))), .val (.int (Int32.ofNat (own_fF y470 (61 : Int32) (own_ls y470 (47 : Int32) k) k))), .val (.int (Int32.ofNat (own_fF y470 (58 : Int32) (own_ls y470 (47 : Int32) k) (own_fF y470 (61 : Int32) (own_ls y470 (47 : Int32) k) k)))), .val (.int (Int32.ofNat (own_no y470 k))), .val (.int (Int32.ofNat (own_nl y470 k)))] [])) (fun _ kt => XS.icmpYes X491.here hx rfl (pc0 := 140) (pc' := 145) rfl (hb hby at_140) rfl (teq (rfl : (Int32.ofNat (own_nl y470 k)) = (Int32.ofNat (own_nl y470 k)))).1 (by decide) (by decide) kt) ?_
    refine Rch.of (T' := T491) (g' := (mkF m 147 #[.val (.int p0), .val (.int p1), .val (.int p2), .val (.int p3), .val (.int p4), .val (.int p5), .val (.int (Int32.ofNat k)), .val (.ref b453), .val (.ref rr473), .val (.ref rr476), .val (.int (Int32.ofNat (own_ls y470 (47 : Int32) k))), .val (.int (Int32.ofNat (own_fF y470 (61 : Int32) (own_ls y470 (47 : Int32) k) k))), .val (.int (Int32.ofNat (own_fF y470 (58 : Int32) (own_ls y470 (47 : Int32) k) (own_fF y470 (61 : Int32) (own_ls y470 (47 : Int32) k) k)))), .val (.int (Int32.ofNat (own_no y470 k))), .val (.int (Int32.ofNat (own_nl y470 k)))] [(.ref rr476)])) (fun _ kt => XS.aload X491.here hx rfl (hb hby at_145) rfl rfl kt) ?_
    refine Rch.of (T' := T491) (g' := (mkF m 149 #[.val (.int p0), .val (.int p1), .val (.int p2), .val (.int p3), .val (.int p4), .val (.int p5), .val (.int (Int32.ofNat k)), .val (.ref b453), .val (.ref rr473), .val (.ref rr476), .val (.int (Int32.ofNat (own_ls y470 (47 : Int32) k))), .val (.int (Int32.ofNat (own_fF y470 (61 : Int32) (own_ls y470 (47 : Int32) k) k))), .val (.int (Int32.ofNat (own_fF y470 (58 : Int32) (own_ls y470 (47 : Int32) k) (own_fF y470 (61 : Int32) (own_ls y470 (47 : Int32) k) k)))), .val (.int (Int32.ofNat (own_no y470 k))), .val (.int (Int32.ofNat (own_nl y470 k)))] [(.int (Int32.ofNat (own_nl y470 k))), (.ref rr476)])) (fun _ kt => XS.iload X491.here hx rfl (hb hby at_147) rfl  kt) ?_
    refine Rch.of (T' := T491) (g' := (mkF m 151 #[.val (.int p0), .val (.int p1), .val (.int p2), .val (.int p3), .val (.int p4), .val (.int p5), .val (.int (Int32.ofNat k)), .val (.ref b453), .val (.ref rr473), .val (.ref rr476), .val (.int (Int32.ofNat (own_ls y470 (47 : Int32) k))), .val (.int (Int32.ofNat (own_fF y470 (61 : Int32) (own_ls y470 (47 : Int32) k) k))), .val (.int (Int32.ofNat (own_fF y470 (58 : Int32) (own_ls y470 (47 : Int32) k) (own_fF y470 (61 : Int32) (own_ls y470 (47 : Int32) k) k)))), .val (.int (Int32.ofNat (own_no y470 k))), .val (.int (Int32.ofNat (own_nl y470 k)))] [(.ref b453), (.int (Int32.ofNat (own_nl y470 k))), (.ref rr476)])) (fun _ kt => XS.aload X491.here hx rfl (hb hby at_149) rfl rfl kt) ?_
    refine Rch.of (T' := T491) (g' := (mkF m 153 #[.val (.int p0), .val (.int p1), .val (.int p2), .val (.int p3), .val (.int p4), .val (.int p5), .val (.int (Int32.ofNat k)), .val (.ref b453), .val (.ref rr473), .val (.ref rr476), .val (.int (Int32.ofNat (own_ls y470 (47 : Int32) k))), .val (.int (Int32.ofNat (own_fF y470 (61 : Int32) (own_ls y470 (47 : Int32) k) k))), .val (.int (Int32.ofNat (own_fF y470 (58 : Int32) (own_ls y470 (47 : Int32) k) (own_fF y470 (61 : Int32) (own_ls y470 (47 : Int32) k) k)))), .val (.int (Int32.ofNat (own_no y470 k))), .val (.int (Int32.ofNat (own_nl y470 k)))] [(.int (Int32.ofNat (own_no y470 k))), (.ref b453), (.int (Int32.ofNat (own_nl y470 k))), (.ref rr476)])) (fun _ kt => XS.iload X491.here hx rfl (hb hby at_151) rfl  kt) ?_
    refine Rch.of (T' := T491) (g' := (mkF m 154 #[.val (.int p0), .val (.int p1), .val (.int p2), .val (.int p3), .val (.int p4), .val (.int p5), .val (.int (Int32.ofNat k)), .val (.ref b453), .val (.ref rr473), .val (.ref rr476), .val (.int (Int32.ofNat (own_ls y470 (47 : Int32) k))), .val (.int (Int32.ofNat (own_fF y470 (61 : Int32) (own_ls y470 (47 : Int32) k) k))), .val (.int (Int32.ofNat (own_fF y470 (58 : Int32) (own_ls y470 (47 : Int32) k) (own_fF y470 (61 : Int32) (own_ls y470 (47 : Int32) k) k)))), .val (.int (Int32.ofNat (own_no y470 k))), .val (.int (Int32.ofNat (own_nl y470 k)))] [(.int (0 : Int32)), (.int (Int32.ofNat (own_no y470 k))), (.ref b453), (.int (Int32.ofNat (own_nl y470 k))), (.ref rr476)])) (fun _ kt => XS.iconst X491.here hx rfl (hb hby at_153) kt) ?_
    have pr493 : (own_no y470 k) + (own_nl y470 k) ≤ 5 := by omega
    have pr494 : 0 ≤ 4 := by omega
    have hch495 : own_ch (own_nl y470 k) rt476 := fun q hq => by rw [Eq476 q hq]; exact hch474 _ (by omega)
    obtain ⟨_, _, ⟨T492, L492, k492, n492⟩, -, X492, ⟨Lc492, hQ492, l492, y492, z492⟩, st492⟩ := Jvm.LawKit.callS X491 hx (y := (⟨"com/example/isidore/isidore/rulesets/mwsdn/PathNamesNodePinLaw", "at", "(Ljava/lang/String;I[CII)Z"⟩ : MethodName)) hown (mvT hZ (hw _ (List.mem_of_getElem? (i := 114) rfl))) (mvT hZ (hw _ (List.mem_of_getElem? (i := 115) rfl))) (mvT hZ (hw _ (List.mem_of_getElem? (i := 3) rfl))) (mvT hZ (hw _ (List.mem_of_getElem? (i := 116) rfl))) (by decide) (backOf (W := 0) (rk5 l Z a0 hw [] rr476 rb476 (own_nl y470 k) rt476 b453 y470 (own_no y470 k) 0 cs sv T476.heap n0 (Nat.le_trans (Nat.le_trans (Nat.le_trans Fb468 (Keep.of_wr W470).1) K473.1) K476.1) Ex476 Fa476 Fb476 V476 ((V470.keep K473 nin0).keep K476 nin0) Eq476 pr493 pr494 hch495 (S1.ext ((((((((O0.ext E453).wr W455 ge_b453).wr W458 ge_b453).wr W462 ge_b453).wr W465 ge_b453).wr W470 ge_b453).keep K473 all0).keep K476 all0).2) hcs (SI0.ext ((((((((O0.ext E453).wr W455 ge_b453).wr W458 ge_b453).wr W462 ge_b453).wr W465 ge_b453).wr W470 ge_b453).keep K473 all0).keep K476 all0).2) hsv) hZ (hw _ (List.mem_of_getElem? (i := 116) rfl)) (hw _ (List.mem_of_getElem? (i := 3) rfl)) (by decide) (by decide)) (g := (mkF m 154 #[.val (.int p0), .val (.int p1), .val (.int p2), .val (.int p3), .val (.int p4), .val (.int p5), .val (.int (Int32.ofNat k)), .val (.ref b453), .val (.ref rr473), .val (.ref rr476), .val (.int (Int32.ofNat (own_ls y470 (47 : Int32) k))), .val (.int (Int32.ofNat (own_fF y470 (61 : Int32) (own_ls y470 (47 : Int32) k) k))), .val (.int (Int32.ofNat (own_fF y470 (58 : Int32) (own_ls y470 (47 : Int32) k) (own_fF y470 (61 : Int32) (own_ls y470 (47 : Int32) k) k)))), .val (.int (Int32.ofNat (own_no y470 k))), .val (.int (Int32.ofNat (own_nl y470 k)))] [(.int (0 : Int32)), (.int (Int32.ofNat (own_no y470 k))), (.ref b453), (.int (Int32.ofNat (own_nl y470 k))), (.ref rr476)])) rfl (by rw [hml]; rfl) (argsL := [(.ref rr476), (.int (Int32.ofNat (own_nl y470 k))), (.ref b453), (.int (Int32.ofNat (own_no y470 k))), (.int (0 : Int32))]) (rest := []) (lenOf pd_20 rfl) rfl (by show 2 * 0 + _ ≤ _; exact Nat.le_of_eq rfl) (hb hby at_154) (fun _ _ => ⟨rfl, hQ491, (by decide : 13 + 0 ≤ _), (by decide : 49 + 0 ≤ _)⟩)
    dsimp only [Pt.U, Pt.locs, Pt.cells, Pt.slots] at X492 l492 y492 z492 st492 hQ492
    subst l492 y492 z492
    obtain ⟨rfl, N492q, hQ492⟩ := hQ492
    have N492 := Fr.app N491 N492q
    refine Rch.of (T' := T492) (g' := (mkF m 157 #[.val (.int p0), .val (.int p1), .val (.int p2), .val (.int p3), .val (.int p4), .val (.int p5), .val (.int (Int32.ofNat k)), .val (.ref b453), .val (.ref rr473), .val (.ref rr476), .val (.int (Int32.ofNat (own_ls y470 (47 : Int32) k))), .val (.int (Int32.ofNat (own_fF y470 (61 : Int32) (own_ls y470 (47 : Int32) k) k))), .val (.int (Int32.ofNat (own_fF y470 (58 : Int32) (own_ls y470 (47 : Int32) k) (own_fF y470 (61 : Int32) (own_ls y470 (47 : Int32) k) k)))), .val (.int (Int32.ofNat (own_no y470 k))), .val (.int (Int32.ofNat (own_nl y470 k)))] [(.int (1 : Int32))])) st492 ?_
    refine Rch.of (T' := T492) (g' := (mkF m 160 #[.val (.int p0), .val (.int p1), .val (.int p2), .val (.int p3), .val (.int p4), .val (.int p5), .val (.int (Int32.ofNat k)), .val (.ref b453), .val (.ref rr473), .val (.ref rr476), .val (.int (Int32.ofNat (own_ls y470 (47 : Int32) k))), .val (.int (Int32.ofNat (own_fF y470 (61 : Int32) (own_ls y470 (47 : Int32) k) k))), .val (.int (Int32.ofNat (own_fF y470 (58 : Int32) (own_ls y470 (47 : Int32) k) (own_fF y470 (61 : Int32) (own_ls y470 (47 : Int32) k) k)))), .val (.int (Int32.ofNat (own_no y470 k))), .val (.int (Int32.ofNat (own_nl y470 k)))] [])) (fun _ kt => XS.ifNo X492.here hx rfl (hb hby at_157) rfl ((if0 _ _).trans (feq ((by decide) : ¬ ((1 : Int32) = (0 : Int32)))).1) kt) ?_
    refine Rch.of (T' := T492) (g' := (mkF m 162 #[.val (.int p0), .val (.int p1), .val (.int p2), .val (.int p3), .val (.int p4), .val (.int p5), .val (.int (Int32.ofNat k)), .val (.ref b453), .val (.ref rr473), .val (.ref rr476), .val (.int (Int32.ofNat (own_ls y470 (47 : Int32) k))), .val (.int (Int32.ofNat (own_fF y470 (61 : Int32) (own_ls y470 (47 : Int32) k) k))), .val (.int (Int32.ofNat (own_fF y470 (58 : Int32) (own_ls y470 (47 : Int32) k) (own_fF y470 (61 : Int32) (own_ls y470 (47 : Int32) k) k)))), .val (.int (Int32.ofNat (own_no y470 k))), .val (.int (Int32.ofNat (own_nl y470 k)))] [(.ref rr476)])) (fun _ kt => XS.aload X492.here hx rfl (hb hby at_160) rfl rfl kt) ?_
    refine Rch.of (T' := T492) (g' := (mkF m 164 #[.val (.int p0), .val (.int p1), .val (.int p2), .val (.int p3), .val (.int p4), .val (.int p5), .val (.int (Int32.ofNat k)), .val (.ref b453), .val (.ref rr473), .val (.ref rr476), .val (.int (Int32.ofNat (own_ls y470 (47 : Int32) k))), .val (.int (Int32.ofNat (own_fF y470 (61 : Int32) (own_ls y470 (47 : Int32) k) k))), .val (.int (Int32.ofNat (own_fF y470 (58 : Int32) (own_ls y470 (47 : Int32) k) (own_fF y470 (61 : Int32) (own_ls y470 (47 : Int32) k) k)))), .val (.int (Int32.ofNat (own_no y470 k))), .val (.int (Int32.ofNat (own_nl y470 k)))] [(.int (Int32.ofNat (own_nl y470 k))), (.ref rr476)])) (fun _ kt => XS.iload X492.here hx rfl (hb hby at_162) rfl  kt) ?_
    refine Rch.of (T' := T492) (g' := (mkF m 166 #[.val (.int p0), .val (.int p1), .val (.int p2), .val (.int p3), .val (.int p4), .val (.int p5), .val (.int (Int32.ofNat k)), .val (.ref b453), .val (.ref rr473), .val (.ref rr476), .val (.int (Int32.ofNat (own_ls y470 (47 : Int32) k))), .val (.int (Int32.ofNat (own_fF y470 (61 : Int32) (own_ls y470 (47 : Int32) k) k))), .val (.int (Int32.ofNat (own_fF y470 (58 : Int32) (own_ls y470 (47 : Int32) k) (own_fF y470 (61 : Int32) (own_ls y470 (47 : Int32) k) k)))), .val (.int (Int32.ofNat (own_no y470 k))), .val (.int (Int32.ofNat (own_nl y470 k)))] [(.ref b453), (.int (Int32.ofNat (own_nl y470 k))), (.ref rr476)])) (fun _ kt => XS.aload X492.here hx rfl (hb hby at_164) rfl rfl kt) ?_
    refine Rch.of (T' := T492) (g' := (mkF m 168 #[.val (.int p0), .val (.int p1), .val (.int p2), .val (.int p3), .val (.int p4), .val (.int p5), .val (.int (Int32.ofNat k)), .val (.ref b453), .val (.ref rr473), .val (.ref rr476), .val (.int (Int32.ofNat (own_ls y470 (47 : Int32) k))), .val (.int (Int32.ofNat (own_fF y470 (61 : Int32) (own_ls y470 (47 : Int32) k) k))), .val (.int (Int32.ofNat (own_fF y470 (58 : Int32) (own_ls y470 (47 : Int32) k) (own_fF y470 (61 : Int32) (own_ls y470 (47 : Int32) k) k)))), .val (.int (Int32.ofNat (own_no y470 k))), .val (.int (Int32.ofNat (own_nl y470 k)))] [(.int (Int32.ofNat (own_no y470 k))), (.ref b453), (.int (Int32.ofNat (own_nl y470 k))), (.ref rr476)])) (fun _ kt => XS.iload X492.here hx rfl (hb hby at_166) rfl  kt) ?_
    refine Rch.of (T' := T492) (g' := (mkF m 169 #[.val (.int p0), .val (.int p1), .val (.int p2), .val (.int p3), .val (.int p4), .val (.int p5), .val (.int (Int32.ofNat k)), .val (.ref b453), .val (.ref rr473), .val (.ref rr476), .val (.int (Int32.ofNat (own_ls y470 (47 : Int32) k))), .val (.int (Int32.ofNat (own_fF y470 (61 : Int32) (own_ls y470 (47 : Int32) k) k))), .val (.int (Int32.ofNat (own_fF y470 (58 : Int32) (own_ls y470 (47 : Int32) k) (own_fF y470 (61 : Int32) (own_ls y470 (47 : Int32) k) k)))), .val (.int (Int32.ofNat (own_no y470 k))), .val (.int (Int32.ofNat (own_nl y470 k)))] [(.int (1 : Int32)), (.int (Int32.ofNat (own_no y470 k))), (.ref b453), (.int (Int32.ofNat (own_nl y470 k))), (.ref rr476)])) (fun _ kt => XS.iconst X492.here hx rfl (hb hby at_168) kt) ?_
    have pr497 : (own_no y470 k) + (own_nl y470 k) ≤ 5 := by omega
    have pr498 : 1 ≤ 4 := by omega
    obtain ⟨_, _, ⟨T496, L496, k496, n496⟩, -, X496, ⟨Lc496, hQ496, l496, y496, z496⟩, st496⟩ := Jvm.LawKit.callS X492 hx (y := (⟨"com/example/isidore/isidore/rulesets/mwsdn/PathNamesNodePinLaw", "at", "(Ljava/lang/String;I[CII)Z"⟩ : MethodName)) hown (mvT hZ (hw _ (List.mem_of_getElem? (i := 114) rfl))) (mvT hZ (hw _ (List.mem_of_getElem? (i := 115) rfl))) (mvT hZ (hw _ (List.mem_of_getElem? (i := 3) rfl))) (mvT hZ (hw _ (List.mem_of_getElem? (i := 116) rfl))) (by decide) (backOf (W := 0) (rk5 l Z a0 hw [] rr476 rb476 (own_nl y470 k) rt476 b453 y470 (own_no y470 k) 1 cs sv T476.heap n0 (Nat.le_trans (Nat.le_trans (Nat.le_trans Fb468 (Keep.of_wr W470).1) K473.1) K476.1) Ex476 Fa476 Fb476 V476 ((V470.keep K473 nin0).keep K476 nin0) Eq476 pr497 pr498 hch495 (S1.ext ((((((((O0.ext E453).wr W455 ge_b453).wr W458 ge_b453).wr W462 ge_b453).wr W465 ge_b453).wr W470 ge_b453).keep K473 all0).keep K476 all0).2) hcs (SI0.ext ((((((((O0.ext E453).wr W455 ge_b453).wr W458 ge_b453).wr W462 ge_b453).wr W465 ge_b453).wr W470 ge_b453).keep K473 all0).keep K476 all0).2) hsv) hZ (hw _ (List.mem_of_getElem? (i := 116) rfl)) (hw _ (List.mem_of_getElem? (i := 3) rfl)) (by decide) (by decide)) (g := (mkF m 169 #[.val (.int p0), .val (.int p1), .val (.int p2), .val (.int p3), .val (.int p4), .val (.int p5), .val (.int (Int32.ofNat k)), .val (.ref b453), .val (.ref rr473), .val (.ref rr476), .val (.int (Int32.ofNat (own_ls y470 (47 : Int32) k))), .val (.int (Int32.ofNat (own_fF y470 (61 : Int32) (own_ls y470 (47 : Int32) k) k))), .val (.int (Int32.ofNat (own_fF y470 (58 : Int32) (own_ls y470 (47 : Int32) k) (own_fF y470 (61 : Int32) (own_ls y470 (47 : Int32) k) k)))), .val (.int (Int32.ofNat (own_no y470 k))), .val (.int (Int32.ofNat (own_nl y470 k)))] [(.int (1 : Int32)), (.int (Int32.ofNat (own_no y470 k))), (.ref b453), (.int (Int32.ofNat (own_nl y470 k))), (.ref rr476)])) rfl (by rw [hml]; rfl) (argsL := [(.ref rr476), (.int (Int32.ofNat (own_nl y470 k))), (.ref b453), (.int (Int32.ofNat (own_no y470 k))), (.int (1 : Int32))]) (rest := []) (lenOf pd_20 rfl) rfl (by show 2 * 0 + _ ≤ _; exact Nat.le_of_eq rfl) (hb hby at_169) (fun _ _ => ⟨rfl, hQ492, (by decide : 13 + 0 ≤ _), (by decide : 49 + 0 ≤ _)⟩)
    dsimp only [Pt.U, Pt.locs, Pt.cells, Pt.slots] at X496 l496 y496 z496 st496 hQ496
    subst l496 y496 z496
    obtain ⟨rfl, N496q, hQ496⟩ := hQ496
    have N496 := Fr.app N492 N496q
    refine Rch.of (T' := T496) (g' := (mkF m 172 #[.val (.int p0), .val (.int p1), .val (.int p2), .val (.int p3), .val (.int p4), .val (.int p5), .val (.int (Int32.ofNat k)), .val (.ref b453), .val (.ref rr473), .val (.ref rr476), .val (.int (Int32.ofNat (own_ls y470 (47 : Int32) k))), .val (.int (Int32.ofNat (own_fF y470 (61 : Int32) (own_ls y470 (47 : Int32) k) k))), .val (.int (Int32.ofNat (own_fF y470 (58 : Int32) (own_ls y470 (47 : Int32) k) (own_fF y470 (61 : Int32) (own_ls y470 (47 : Int32) k) k)))), .val (.int (Int32.ofNat (own_no y470 k))), .val (.int (Int32.ofNat (own_nl y470 k)))] [(.int (1 : Int32))])) st496 ?_
    refine Rch.of (T' := T496) (g' := (mkF m 175 #[.val (.int p0), .val (.int p1), .val (.int p2), .val (.int p3), .val (.int p4), .val (.int p5), .val (.int (Int32.ofNat k)), .val (.ref b453), .val (.ref rr473), .val (.ref rr476), .val (.int (Int32.ofNat (own_ls y470 (47 : Int32) k))), .val (.int (Int32.ofNat (own_fF y470 (61 : Int32) (own_ls y470 (47 : Int32) k) k))), .val (.int (Int32.ofNat (own_fF y470 (58 : Int32) (own_ls y470 (47 : Int32) k) (own_fF y470 (61 : Int32) (own_ls y470 (47 : Int32) k) k)))), .val (.int (Int32.ofNat (own_no y470 k))), .val (.int (Int32.ofNat (own_nl y470 k)))] [])) (fun _ kt => XS.ifNo X496.here hx rfl (hb hby at_172) rfl ((if0 _ _).trans (feq ((by decide) : ¬ ((1 : Int32) = (0 : Int32)))).1) kt) ?_
    refine Rch.of (T' := T496) (g' := (mkF m 177 #[.val (.int p0), .val (.int p1), .val (.int p2), .val (.int p3), .val (.int p4), .val (.int p5), .val (.int (Int32.ofNat k)), .val (.ref b453), .val (.ref rr473), .val (.ref rr476), .val (.int (Int32.ofNat (own_ls y470 (47 : Int32) k))), .val (.int (Int32.ofNat (own_fF y470 (61 : Int32) (own_ls y470 (47 : Int32) k) k))), .val (.int (Int32.ofNat (own_fF y470 (58 : Int32) (own_ls y470 (47 : Int32) k) (own_fF y470 (61 : Int32) (own_ls y470 (47 : Int32) k) k)))), .val (.int (Int32.ofNat (own_no y470 k))), .val (.int (Int32.ofNat (own_nl y470 k)))] [(.ref rr476)])) (fun _ kt => XS.aload X496.here hx rfl (hb hby at_175) rfl rfl kt) ?_
    refine Rch.of (T' := T496) (g' := (mkF m 179 #[.val (.int p0), .val (.int p1), .val (.int p2), .val (.int p3), .val (.int p4), .val (.int p5), .val (.int (Int32.ofNat k)), .val (.ref b453), .val (.ref rr473), .val (.ref rr476), .val (.int (Int32.ofNat (own_ls y470 (47 : Int32) k))), .val (.int (Int32.ofNat (own_fF y470 (61 : Int32) (own_ls y470 (47 : Int32) k) k))), .val (.int (Int32.ofNat (own_fF y470 (58 : Int32) (own_ls y470 (47 : Int32) k) (own_fF y470 (61 : Int32) (own_ls y470 (47 : Int32) k) k)))), .val (.int (Int32.ofNat (own_no y470 k))), .val (.int (Int32.ofNat (own_nl y470 k)))] [(.int (Int32.ofNat (own_nl y470 k))), (.ref rr476)])) (fun _ kt => XS.iload X496.here hx rfl (hb hby at_177) rfl  kt) ?_
    refine Rch.of (T' := T496) (g' := (mkF m 181 #[.val (.int p0), .val (.int p1), .val (.int p2), .val (.int p3), .val (.int p4), .val (.int p5), .val (.int (Int32.ofNat k)), .val (.ref b453), .val (.ref rr473), .val (.ref rr476), .val (.int (Int32.ofNat (own_ls y470 (47 : Int32) k))), .val (.int (Int32.ofNat (own_fF y470 (61 : Int32) (own_ls y470 (47 : Int32) k) k))), .val (.int (Int32.ofNat (own_fF y470 (58 : Int32) (own_ls y470 (47 : Int32) k) (own_fF y470 (61 : Int32) (own_ls y470 (47 : Int32) k) k)))), .val (.int (Int32.ofNat (own_no y470 k))), .val (.int (Int32.ofNat (own_nl y470 k)))] [(.ref b453), (.int (Int32.ofNat (own_nl y470 k))), (.ref rr476)])) (fun _ kt => XS.aload X496.here hx rfl (hb hby at_179) rfl rfl kt) ?_
    refine Rch.of (T' := T496) (g' := (mkF m 183 #[.val (.int p0), .val (.int p1), .val (.int p2), .val (.int p3), .val (.int p4), .val (.int p5), .val (.int (Int32.ofNat k)), .val (.ref b453), .val (.ref rr473), .val (.ref rr476), .val (.int (Int32.ofNat (own_ls y470 (47 : Int32) k))), .val (.int (Int32.ofNat (own_fF y470 (61 : Int32) (own_ls y470 (47 : Int32) k) k))), .val (.int (Int32.ofNat (own_fF y470 (58 : Int32) (own_ls y470 (47 : Int32) k) (own_fF y470 (61 : Int32) (own_ls y470 (47 : Int32) k) k)))), .val (.int (Int32.ofNat (own_no y470 k))), .val (.int (Int32.ofNat (own_nl y470 k)))] [(.int (Int32.ofNat (own_no y470 k))), (.ref b453), (.int (Int32.ofNat (own_nl y470 k))), (.ref rr476)])) (fun _ kt => XS.iload X496.here hx rfl (hb hby at_181) rfl  kt) ?_
    refine Rch.of (T' := T496) (g' := (mkF m 184 #[.val (.int p0), .val (.int p1), .val (.int p2), .val (.int p3), .val (.int p4), .val (.int p5), .val (.int (Int32.ofNat k)), .val (.ref b453), .val (.ref rr473), .val (.ref rr476), .val (.int (Int32.ofNat (own_ls y470 (47 : Int32) k))), .val (.int (Int32.ofNat (own_fF y470 (61 : Int32) (own_ls y470 (47 : Int32) k) k))), .val (.int (Int32.ofNat (own_fF y470 (58 : Int32) (own_ls y470 (47 : Int32) k) (own_fF y470 (61 : Int32) (own_ls y470 (47 : Int32) k) k)))), .val (.int (Int32.ofNat (own_no y470 k))), .val (.int (Int32.ofNat (own_nl y470 k)))] [(.int (2 : Int32)), (.int (Int32.ofNat (own_no y470 k))), (.ref b453), (.int (Int32.ofNat (own_nl y470 k))), (.ref rr476)])) (fun _ kt => XS.iconst X496.here hx rfl (hb hby at_183) kt) ?_
    have pr500 : (own_no y470 k) + (own_nl y470 k) ≤ 5 := by omega
    have pr501 : 2 ≤ 4 := by omega
    obtain ⟨_, _, ⟨T499, L499, k499, n499⟩, -, X499, ⟨Lc499, hQ499, l499, y499, z499⟩, st499⟩ := Jvm.LawKit.callS X496 hx (y := (⟨"com/example/isidore/isidore/rulesets/mwsdn/PathNamesNodePinLaw", "at", "(Ljava/lang/String;I[CII)Z"⟩ : MethodName)) hown (mvT hZ (hw _ (List.mem_of_getElem? (i := 114) rfl))) (mvT hZ (hw _ (List.mem_of_getElem? (i := 115) rfl))) (mvT hZ (hw _ (List.mem_of_getElem? (i := 3) rfl))) (mvT hZ (hw _ (List.mem_of_getElem? (i := 116) rfl))) (by decide) (backOf (W := 0) (rk5 l Z a0 hw [] rr476 rb476 (own_nl y470 k) rt476 b453 y470 (own_no y470 k) 2 cs sv T476.heap n0 (Nat.le_trans (Nat.le_trans (Nat.le_trans Fb468 (Keep.of_wr W470).1) K473.1) K476.1) Ex476 Fa476 Fb476 V476 ((V470.keep K473 nin0).keep K476 nin0) Eq476 pr500 pr501 hch495 (S1.ext ((((((((O0.ext E453).wr W455 ge_b453).wr W458 ge_b453).wr W462 ge_b453).wr W465 ge_b453).wr W470 ge_b453).keep K473 all0).keep K476 all0).2) hcs (SI0.ext ((((((((O0.ext E453).wr W455 ge_b453).wr W458 ge_b453).wr W462 ge_b453).wr W465 ge_b453).wr W470 ge_b453).keep K473 all0).keep K476 all0).2) hsv) hZ (hw _ (List.mem_of_getElem? (i := 116) rfl)) (hw _ (List.mem_of_getElem? (i := 3) rfl)) (by decide) (by decide)) (g := (mkF m 184 #[.val (.int p0), .val (.int p1), .val (.int p2), .val (.int p3), .val (.int p4), .val (.int p5), .val (.int (Int32.ofNat k)), .val (.ref b453), .val (.ref rr473), .val (.ref rr476), .val (.int (Int32.ofNat (own_ls y470 (47 : Int32) k))), .val (.int (Int32.ofNat (own_fF y470 (61 : Int32) (own_ls y470 (47 : Int32) k) k))), .val (.int (Int32.ofNat (own_fF y470 (58 : Int32) (own_ls y470 (47 : Int32) k) (own_fF y470 (61 : Int32) (own_ls y470 (47 : Int32) k) k)))), .val (.int (Int32.ofNat (own_no y470 k))), .val (.int (Int32.ofNat (own_nl y470 k)))] [(.int (2 : Int32)), (.int (Int32.ofNat (own_no y470 k))), (.ref b453), (.int (Int32.ofNat (own_nl y470 k))), (.ref rr476)])) rfl (by rw [hml]; rfl) (argsL := [(.ref rr476), (.int (Int32.ofNat (own_nl y470 k))), (.ref b453), (.int (Int32.ofNat (own_no y470 k))), (.int (2 : Int32))]) (rest := []) (lenOf pd_20 rfl) rfl (by show 2 * 0 + _ ≤ _; exact Nat.le_of_eq rfl) (hb hby at_184) (fun _ _ => ⟨rfl, hQ496, (by decide : 13 + 0 ≤ _), (by decide : 49 + 0 ≤ _)⟩)
    dsimp only [Pt.U, Pt.locs, Pt.cells, Pt.slots] at X499 l499 y499 z499 st499 hQ499
    subst l499 y499 z499
    obtain ⟨rfl, N499q, hQ499⟩ := hQ499
    have N499 := Fr.app N496 N499q
    refine Rch.of (T' := T499) (g' := (mkF m 187 #[.val (.int p0), .val (.int p1), .val (.int p2), .val (.int p3), .val (.int p4), .val (.int p5), .val (.int (Int32.ofNat k)), .val (.ref b453), .val (.ref rr473), .val (.ref rr476), .val (.int (Int32.ofNat (own_ls y470 (47 : Int32) k))), .val (.int (Int32.ofNat (own_fF y470 (61 : Int32) (own_ls y470 (47 : Int32) k) k))), .val (.int (Int32.ofNat (own_fF y470 (58 : Int32) (own_ls y470 (47 : Int32) k) (own_fF y470 (61 : Int32) (own_ls y470 (47 : Int32) k) k)))), .val (.int (Int32.ofNat (own_no y470 k))), .val (.int (Int32.ofNat (own_nl y470 k)))] [(.int (1 : Int32))])) st499 ?_
    refine Rch.of (T' := T499) (g' := (mkF m 190 #[.val (.int p0), .val (.int p1), .val (.int p2), .val (.int p3), .val (.int p4), .val (.int p5), .val (.int (Int32.ofNat k)), .val (.ref b453), .val (.ref rr473), .val (.ref rr476), .val (.int (Int32.ofNat (own_ls y470 (47 : Int32) k))), .val (.int (Int32.ofNat (own_fF y470 (61 : Int32) (own_ls y470 (47 : Int32) k) k))), .val (.int (Int32.ofNat (own_fF y470 (58 : Int32) (own_ls y470 (47 : Int32) k) (own_fF y470 (61 : Int32) (own_ls y470 (47 : Int32) k) k)))), .val (.int (Int32.ofNat (own_no y470 k))), .val (.int (Int32.ofNat (own_nl y470 k)))] [])) (fun _ kt => XS.ifNo X499.here hx rfl (hb hby at_187) rfl ((if0 _ _).trans (feq ((by decide) : ¬ ((1 : Int32) = (0 : Int32)))).1) kt) ?_
    refine Rch.of (T' := T499) (g' := (mkF m 192 #[.val (.int p0), .val (.int p1), .val (.int p2), .val (.int p3), .val (.int p4), .val (.int p5), .val (.int (Int32.ofNat k)), .val (.ref b453), .val (.ref rr473), .val (.ref rr476), .val (.int (Int32.ofNat (own_ls y470 (47 : Int32) k))), .val (.int (Int32.ofNat (own_fF y470 (61 : Int32) (own_ls y470 (47 : Int32) k) k))), .val (.int (Int32.ofNat (own_fF y470 (58 : Int32) (own_ls y470 (47 : Int32) k) (own_fF y470 (61 : Int32) (own_ls y470 (47 : Int32) k) k)))), .val (.int (Int32.ofNat (own_no y470 k))), .val (.int (Int32.ofNat (own_nl y470 k)))] [(.ref rr476)])) (fun _ kt => XS.aload X499.here hx rfl (hb hby at_190) rfl rfl kt) ?_
    refine Rch.of (T' := T499) (g' := (mkF m 194 #[.val (.int p0), .val (.int p1), .val (.int p2), .val (.int p3), .val (.int p4), .val (.int p5), .val (.int (Int32.ofNat k)), .val (.ref b453), .val (.ref rr473), .val (.ref rr476), .val (.int (Int32.ofNat (own_ls y470 (47 : Int32) k))), .val (.int (Int32.ofNat (own_fF y470 (61 : Int32) (own_ls y470 (47 : Int32) k) k))), .val (.int (Int32.ofNat (own_fF y470 (58 : Int32) (own_ls y470 (47 : Int32) k) (own_fF y470 (61 : Int32) (own_ls y470 (47 : Int32) k) k)))), .val (.int (Int32.ofNat (own_no y470 k))), .val (.int (Int32.ofNat (own_nl y470 k)))] [(.int (Int32.ofNat (own_nl y470 k))), (.ref rr476)])) (fun _ kt => XS.iload X499.here hx rfl (hb hby at_192) rfl  kt) ?_
    refine Rch.of (T' := T499) (g' := (mkF m 196 #[.val (.int p0), .val (.int p1), .val (.int p2), .val (.int p3), .val (.int p4), .val (.int p5), .val (.int (Int32.ofNat k)), .val (.ref b453), .val (.ref rr473), .val (.ref rr476), .val (.int (Int32.ofNat (own_ls y470 (47 : Int32) k))), .val (.int (Int32.ofNat (own_fF y470 (61 : Int32) (own_ls y470 (47 : Int32) k) k))), .val (.int (Int32.ofNat (own_fF y470 (58 : Int32) (own_ls y470 (47 : Int32) k) (own_fF y470 (61 : Int32) (own_ls y470 (47 : Int32) k) k)))), .val (.int (Int32.ofNat (own_no y470 k))), .val (.int (Int32.ofNat (own_nl y470 k)))] [(.ref b453), (.int (Int32.ofNat (own_nl y470 k))), (.ref rr476)])) (fun _ kt => XS.aload X499.here hx rfl (hb hby at_194) rfl rfl kt) ?_
    refine Rch.of (T' := T499) (g' := (mkF m 198 #[.val (.int p0), .val (.int p1), .val (.int p2), .val (.int p3), .val (.int p4), .val (.int p5), .val (.int (Int32.ofNat k)), .val (.ref b453), .val (.ref rr473), .val (.ref rr476), .val (.int (Int32.ofNat (own_ls y470 (47 : Int32) k))), .val (.int (Int32.ofNat (own_fF y470 (61 : Int32) (own_ls y470 (47 : Int32) k) k))), .val (.int (Int32.ofNat (own_fF y470 (58 : Int32) (own_ls y470 (47 : Int32) k) (own_fF y470 (61 : Int32) (own_ls y470 (47 : Int32) k) k)))), .val (.int (Int32.ofNat (own_no y470 k))), .val (.int (Int32.ofNat (own_nl y470 k)))] [(.int (Int32.ofNat (own_no y470 k))), (.ref b453), (.int (Int32.ofNat (own_nl y470 k))), (.ref rr476)])) (fun _ kt => XS.iload X499.here hx rfl (hb hby at_196) rfl  kt) ?_
    refine Rch.of (T' := T499) (g' := (mkF m 199 #[.val (.int p0), .val (.int p1), .val (.int p2), .val (.int p3), .val (.int p4), .val (.int p5), .val (.int (Int32.ofNat k)), .val (.ref b453), .val (.ref rr473), .val (.ref rr476), .val (.int (Int32.ofNat (own_ls y470 (47 : Int32) k))), .val (.int (Int32.ofNat (own_fF y470 (61 : Int32) (own_ls y470 (47 : Int32) k) k))), .val (.int (Int32.ofNat (own_fF y470 (58 : Int32) (own_ls y470 (47 : Int32) k) (own_fF y470 (61 : Int32) (own_ls y470 (47 : Int32) k) k)))), .val (.int (Int32.ofNat (own_no y470 k))), .val (.int (Int32.ofNat (own_nl y470 k)))] [(.int (3 : Int32)), (.int (Int32.ofNat (own_no y470 k))), (.ref b453), (.int (Int32.ofNat (own_nl y470 k))), (.ref rr476)])) (fun _ kt => XS.iconst X499.here hx rfl (hb hby at_198) kt) ?_
    have pr503 : (own_no y470 k) + (own_nl y470 k) ≤ 5 := by omega
    have pr504 : 3 ≤ 4 := by omega
    obtain ⟨_, _, ⟨T502, L502, k502, n502⟩, -, X502, ⟨Lc502, hQ502, l502, y502, z502⟩, st502⟩ := Jvm.LawKit.callS X499 hx (y := (⟨"com/example/isidore/isidore/rulesets/mwsdn/PathNamesNodePinLaw", "at", "(Ljava/lang/String;I[CII)Z"⟩ : MethodName)) hown (mvT hZ (hw _ (List.mem_of_getElem? (i := 114) rfl))) (mvT hZ (hw _ (List.mem_of_getElem? (i := 115) rfl))) (mvT hZ (hw _ (List.mem_of_getElem? (i := 3) rfl))) (mvT hZ (hw _ (List.mem_of_getElem? (i := 116) rfl))) (by decide) (backOf (W := 0) (rk5 l Z a0 hw [] rr476 rb476 (own_nl y470 k) rt476 b453 y470 (own_no y470 k) 3 cs sv T476.heap n0 (Nat.le_trans (Nat.le_trans (Nat.le_trans Fb468 (Keep.of_wr W470).1) K473.1) K476.1) Ex476 Fa476 Fb476 V476 ((V470.keep K473 nin0).keep K476 nin0) Eq476 pr503 pr504 hch495 (S1.ext ((((((((O0.ext E453).wr W455 ge_b453).wr W458 ge_b453).wr W462 ge_b453).wr W465 ge_b453).wr W470 ge_b453).keep K473 all0).keep K476 all0).2) hcs (SI0.ext ((((((((O0.ext E453).wr W455 ge_b453).wr W458 ge_b453).wr W462 ge_b453).wr W465 ge_b453).wr W470 ge_b453).keep K473 all0).keep K476 all0).2) hsv) hZ (hw _ (List.mem_of_getElem? (i := 116) rfl)) (hw _ (List.mem_of_getElem? (i := 3) rfl)) (by decide) (by decide)) (g := (mkF m 199 #[.val (.int p0), .val (.int p1), .val (.int p2), .val (.int p3), .val (.int p4), .val (.int p5), .val (.int (Int32.ofNat k)), .val (.ref b453), .val (.ref rr473), .val (.ref rr476), .val (.int (Int32.ofNat (own_ls y470 (47 : Int32) k))), .val (.int (Int32.ofNat (own_fF y470 (61 : Int32) (own_ls y470 (47 : Int32) k) k))), .val (.int (Int32.ofNat (own_fF y470 (58 : Int32) (own_ls y470 (47 : Int32) k) (own_fF y470 (61 : Int32) (own_ls y470 (47 : Int32) k) k)))), .val (.int (Int32.ofNat (own_no y470 k))), .val (.int (Int32.ofNat (own_nl y470 k)))] [(.int (3 : Int32)), (.int (Int32.ofNat (own_no y470 k))), (.ref b453), (.int (Int32.ofNat (own_nl y470 k))), (.ref rr476)])) rfl (by rw [hml]; rfl) (argsL := [(.ref rr476), (.int (Int32.ofNat (own_nl y470 k))), (.ref b453), (.int (Int32.ofNat (own_no y470 k))), (.int (3 : Int32))]) (rest := []) (lenOf pd_20 rfl) rfl (by show 2 * 0 + _ ≤ _; exact Nat.le_of_eq rfl) (hb hby at_199) (fun _ _ => ⟨rfl, hQ499, (by decide : 13 + 0 ≤ _), (by decide : 49 + 0 ≤ _)⟩)
    dsimp only [Pt.U, Pt.locs, Pt.cells, Pt.slots] at X502 l502 y502 z502 st502 hQ502
    subst l502 y502 z502
    obtain ⟨rfl, N502q, hQ502⟩ := hQ502
    have N502 := Fr.app N499 N502q
    refine Rch.of (T' := T502) (g' := (mkF m 202 #[.val (.int p0), .val (.int p1), .val (.int p2), .val (.int p3), .val (.int p4), .val (.int p5), .val (.int (Int32.ofNat k)), .val (.ref b453), .val (.ref rr473), .val (.ref rr476), .val (.int (Int32.ofNat (own_ls y470 (47 : Int32) k))), .val (.int (Int32.ofNat (own_fF y470 (61 : Int32) (own_ls y470 (47 : Int32) k) k))), .val (.int (Int32.ofNat (own_fF y470 (58 : Int32) (own_ls y470 (47 : Int32) k) (own_fF y470 (61 : Int32) (own_ls y470 (47 : Int32) k) k)))), .val (.int (Int32.ofNat (own_no y470 k))), .val (.int (Int32.ofNat (own_nl y470 k)))] [(.int (1 : Int32))])) st502 ?_
    refine Rch.of (T' := T502) (g' := (mkF m 205 #[.val (.int p0), .val (.int p1), .val (.int p2), .val (.int p3), .val (.int p4), .val (.int p5), .val (.int (Int32.ofNat k)), .val (.ref b453), .val (.ref rr473), .val (.ref rr476), .val (.int (Int32.ofNat (own_ls y470 (47 : Int32) k))), .val (.int (Int32.ofNat (own_fF y470 (61 : Int32) (own_ls y470 (47 : Int32) k) k))), .val (.int (Int32.ofNat (own_fF y470 (58 : Int32) (own_ls y470 (47 : Int32) k) (own_fF y470 (61 : Int32) (own_ls y470 (47 : Int32) k) k)))), .val (.int (Int32.ofNat (own_no y470 k))), .val (.int (Int32.ofNat (own_nl y470 k)))] [])) (fun _ kt => XS.ifNo X502.here hx rfl (hb hby at_202) rfl ((if0 _ _).trans (feq ((by decide) : ¬ ((1 : Int32) = (0 : Int32)))).1) kt) ?_
    refine Rch.of (T' := T502) (g' := (mkF m 207 #[.val (.int p0), .val (.int p1), .val (.int p2), .val (.int p3), .val (.int p4), .val (.int p5), .val (.int (Int32.ofNat k)), .val (.ref b453), .val (.ref rr473), .val (.ref rr476), .val (.int (Int32.ofNat (own_ls y470 (47 : Int32) k))), .val (.int (Int32.ofNat (own_fF y470 (61 : Int32) (own_ls y470 (47 : Int32) k) k))), .val (.int (Int32.ofNat (own_fF y470 (58 : Int32) (own_ls y470 (47 : Int32) k) (own_fF y470 (61 : Int32) (own_ls y470 (47 : Int32) k) k)))), .val (.int (Int32.ofNat (own_no y470 k))), .val (.int (Int32.ofNat (own_nl y470 k)))] [(.ref rr476)])) (fun _ kt => XS.aload X502.here hx rfl (hb hby at_205) rfl rfl kt) ?_
    refine Rch.of (T' := T502) (g' := (mkF m 209 #[.val (.int p0), .val (.int p1), .val (.int p2), .val (.int p3), .val (.int p4), .val (.int p5), .val (.int (Int32.ofNat k)), .val (.ref b453), .val (.ref rr473), .val (.ref rr476), .val (.int (Int32.ofNat (own_ls y470 (47 : Int32) k))), .val (.int (Int32.ofNat (own_fF y470 (61 : Int32) (own_ls y470 (47 : Int32) k) k))), .val (.int (Int32.ofNat (own_fF y470 (58 : Int32) (own_ls y470 (47 : Int32) k) (own_fF y470 (61 : Int32) (own_ls y470 (47 : Int32) k) k)))), .val (.int (Int32.ofNat (own_no y470 k))), .val (.int (Int32.ofNat (own_nl y470 k)))] [(.int (Int32.ofNat (own_nl y470 k))), (.ref rr476)])) (fun _ kt => XS.iload X502.here hx rfl (hb hby at_207) rfl  kt) ?_
    refine Rch.of (T' := T502) (g' := (mkF m 211 #[.val (.int p0), .val (.int p1), .val (.int p2), .val (.int p3), .val (.int p4), .val (.int p5), .val (.int (Int32.ofNat k)), .val (.ref b453), .val (.ref rr473), .val (.ref rr476), .val (.int (Int32.ofNat (own_ls y470 (47 : Int32) k))), .val (.int (Int32.ofNat (own_fF y470 (61 : Int32) (own_ls y470 (47 : Int32) k) k))), .val (.int (Int32.ofNat (own_fF y470 (58 : Int32) (own_ls y470 (47 : Int32) k) (own_fF y470 (61 : Int32) (own_ls y470 (47 : Int32) k) k)))), .val (.int (Int32.ofNat (own_no y470 k))), .val (.int (Int32.ofNat (own_nl y470 k)))] [(.ref b453), (.int (Int32.ofNat (own_nl y470 k))), (.ref rr476)])) (fun _ kt => XS.aload X502.here hx rfl (hb hby at_209) rfl rfl kt) ?_
    refine Rch.of (T' := T502) (g' := (mkF m 213 #[.val (.int p0), .val (.int p1), .val (.int p2), .val (.int p3), .val (.int p4), .val (.int p5), .val (.int (Int32.ofNat k)), .val (.ref b453), .val (.ref rr473), .val (.ref rr476), .val (.int (Int32.ofNat (own_ls y470 (47 : Int32) k))), .val (.int (Int32.ofNat (own_fF y470 (61 : Int32) (own_ls y470 (47 : Int32) k) k))), .val (.int (Int32.ofNat (own_fF y470 (58 : Int32) (own_ls y470 (47 : Int32) k) (own_fF y470 (61 : Int32) (own_ls y470 (47 : Int32) k) k)))), .val (.int (Int32.ofNat (own_no y470 k))), .val (.int (Int32.ofNat (own_nl y470 k)))] [(.int (Int32.ofNat (own_no y470 k))), (.ref b453), (.int (Int32.ofNat (own_nl y470 k))), (.ref rr476)])) (fun _ kt => XS.iload X502.here hx rfl (hb hby at_211) rfl  kt) ?_
    refine Rch.of (T' := T502) (g' := (mkF m 214 #[.val (.int p0), .val (.int p1), .val (.int p2), .val (.int p3), .val (.int p4), .val (.int p5), .val (.int (Int32.ofNat k)), .val (.ref b453), .val (.ref rr473), .val (.ref rr476), .val (.int (Int32.ofNat (own_ls y470 (47 : Int32) k))), .val (.int (Int32.ofNat (own_fF y470 (61 : Int32) (own_ls y470 (47 : Int32) k) k))), .val (.int (Int32.ofNat (own_fF y470 (58 : Int32) (own_ls y470 (47 : Int32) k) (own_fF y470 (61 : Int32) (own_ls y470 (47 : Int32) k) k)))), .val (.int (Int32.ofNat (own_no y470 k))), .val (.int (Int32.ofNat (own_nl y470 k)))] [(.int (4 : Int32)), (.int (Int32.ofNat (own_no y470 k))), (.ref b453), (.int (Int32.ofNat (own_nl y470 k))), (.ref rr476)])) (fun _ kt => XS.iconst X502.here hx rfl (hb hby at_213) kt) ?_
    have pr506 : (own_no y470 k) + (own_nl y470 k) ≤ 5 := by omega
    have pr507 : 4 ≤ 4 := by omega
    obtain ⟨_, _, ⟨T505, L505, k505, n505⟩, -, X505, ⟨Lc505, hQ505, l505, y505, z505⟩, st505⟩ := Jvm.LawKit.callS X502 hx (y := (⟨"com/example/isidore/isidore/rulesets/mwsdn/PathNamesNodePinLaw", "at", "(Ljava/lang/String;I[CII)Z"⟩ : MethodName)) hown (mvT hZ (hw _ (List.mem_of_getElem? (i := 114) rfl))) (mvT hZ (hw _ (List.mem_of_getElem? (i := 115) rfl))) (mvT hZ (hw _ (List.mem_of_getElem? (i := 3) rfl))) (mvT hZ (hw _ (List.mem_of_getElem? (i := 116) rfl))) (by decide) (backOf (W := 0) (rk5 l Z a0 hw [] rr476 rb476 (own_nl y470 k) rt476 b453 y470 (own_no y470 k) 4 cs sv T476.heap n0 (Nat.le_trans (Nat.le_trans (Nat.le_trans Fb468 (Keep.of_wr W470).1) K473.1) K476.1) Ex476 Fa476 Fb476 V476 ((V470.keep K473 nin0).keep K476 nin0) Eq476 pr506 pr507 hch495 (S1.ext ((((((((O0.ext E453).wr W455 ge_b453).wr W458 ge_b453).wr W462 ge_b453).wr W465 ge_b453).wr W470 ge_b453).keep K473 all0).keep K476 all0).2) hcs (SI0.ext ((((((((O0.ext E453).wr W455 ge_b453).wr W458 ge_b453).wr W462 ge_b453).wr W465 ge_b453).wr W470 ge_b453).keep K473 all0).keep K476 all0).2) hsv) hZ (hw _ (List.mem_of_getElem? (i := 116) rfl)) (hw _ (List.mem_of_getElem? (i := 3) rfl)) (by decide) (by decide)) (g := (mkF m 214 #[.val (.int p0), .val (.int p1), .val (.int p2), .val (.int p3), .val (.int p4), .val (.int p5), .val (.int (Int32.ofNat k)), .val (.ref b453), .val (.ref rr473), .val (.ref rr476), .val (.int (Int32.ofNat (own_ls y470 (47 : Int32) k))), .val (.int (Int32.ofNat (own_fF y470 (61 : Int32) (own_ls y470 (47 : Int32) k) k))), .val (.int (Int32.ofNat (own_fF y470 (58 : Int32) (own_ls y470 (47 : Int32) k) (own_fF y470 (61 : Int32) (own_ls y470 (47 : Int32) k) k)))), .val (.int (Int32.ofNat (own_no y470 k))), .val (.int (Int32.ofNat (own_nl y470 k)))] [(.int (4 : Int32)), (.int (Int32.ofNat (own_no y470 k))), (.ref b453), (.int (Int32.ofNat (own_nl y470 k))), (.ref rr476)])) rfl (by rw [hml]; rfl) (argsL := [(.ref rr476), (.int (Int32.ofNat (own_nl y470 k))), (.ref b453), (.int (Int32.ofNat (own_no y470 k))), (.int (4 : Int32))]) (rest := []) (lenOf pd_20 rfl) rfl (by show 2 * 0 + _ ≤ _; exact Nat.le_of_eq rfl) (hb hby at_214) (fun _ _ => ⟨rfl, hQ502, (by decide : 13 + 0 ≤ _), (by decide : 49 + 0 ≤ _)⟩)
    dsimp only [Pt.U, Pt.locs, Pt.cells, Pt.slots] at X505 l505 y505 z505 st505 hQ505
    subst l505 y505 z505
    obtain ⟨rfl, N505q, hQ505⟩ := hQ505
    have N505 := Fr.app N502 N505q
    refine Rch.of (T' := T505) (g' := (mkF m 217 #[.val (.int p0), .val (.int p1), .val (.int p2), .val (.int p3), .val (.int p4), .val (.int p5), .val (.int (Int32.ofNat k)), .val (.ref b453), .val (.ref rr473), .val (.ref rr476), .val (.int (Int32.ofNat (own_ls y470 (47 : Int32) k))), .val (.int (Int32.ofNat (own_fF y470 (61 : Int32) (own_ls y470 (47 : Int32) k) k))), .val (.int (Int32.ofNat (own_fF y470 (58 : Int32) (own_ls y470 (47 : Int32) k) (own_fF y470 (61 : Int32) (own_ls y470 (47 : Int32) k) k)))), .val (.int (Int32.ofNat (own_no y470 k))), .val (.int (Int32.ofNat (own_nl y470 k)))] [(.int (1 : Int32))])) st505 ?_
    refine Rch.of (T' := T505) (g' := (mkF m 220 #[.val (.int p0), .val (.int p1), .val (.int p2), .val (.int p3), .val (.int p4), .val (.int p5), .val (.int (Int32.ofNat k)), .val (.ref b453), .val (.ref rr473), .val (.ref rr476), .val (.int (Int32.ofNat (own_ls y470 (47 : Int32) k))), .val (.int (Int32.ofNat (own_fF y470 (61 : Int32) (own_ls y470 (47 : Int32) k) k))), .val (.int (Int32.ofNat (own_fF y470 (58 : Int32) (own_ls y470 (47 : Int32) k) (own_fF y470 (61 : Int32) (own_ls y470 (47 : Int32) k) k)))), .val (.int (Int32.ofNat (own_no y470 k))), .val (.int (Int32.ofNat (own_nl y470 k)))] [])) (fun _ kt => XS.ifNo X505.here hx rfl (hb hby at_217) rfl ((if0 _ _).trans (feq ((by decide) : ¬ ((1 : Int32) = (0 : Int32)))).1) kt) ?_
    refine Rch.of (T' := T505) (g' := (mkF m 221 #[.val (.int p0), .val (.int p1), .val (.int p2), .val (.int p3), .val (.int p4), .val (.int p5), .val (.int (Int32.ofNat k)), .val (.ref b453), .val (.ref rr473), .val (.ref rr476), .val (.int (Int32.ofNat (own_ls y470 (47 : Int32) k))), .val (.int (Int32.ofNat (own_fF y470 (61 : Int32) (own_ls y470 (47 : Int32) k) k))), .val (.int (Int32.ofNat (own_fF y470 (58 : Int32) (own_ls y470 (47 : Int32) k) (own_fF y470 (61 : Int32) (own_ls y470 (47 : Int32) k) k)))), .val (.int (Int32.ofNat (own_no y470 k))), .val (.int (Int32.ofNat (own_nl y470 k)))] [(.int (1 : Int32))])) (fun _ kt => XS.iconst X505.here hx rfl (hb hby at_220) kt) ?_
    refine Rch.of (T' := T505) (g' := (mkF m 225 #[.val (.int p0), .val (.int p1), .val (.int p2), .val (.int p3), .val (.int p4), .val (.int p5), .val (.int (Int32.ofNat k)), .val (.ref b453), .val (.ref rr473), .val (.ref rr476), .val (.int (Int32.ofNat (own_ls y470 (47 : Int32) k))), .val (.int (Int32.ofNat (own_fF y470 (61 : Int32) (own_ls y470 (47 : Int32) k) k))), .val (.int (Int32.ofNat (own_fF y470 (58 : Int32) (own_ls y470 (47 : Int32) k) (own_fF y470 (61 : Int32) (own_ls y470 (47 : Int32) k) k)))), .val (.int (Int32.ofNat (own_no y470 k))), .val (.int (Int32.ofNat (own_nl y470 k)))] [(.int (1 : Int32))])) (fun _ kt => XS.goto X505.here hx rfl (pc0 := 221) (pc' := 225) rfl (hb hby at_221) (by decide) (by decide) kt) ?_
    exact Rch.retN X505 hx (t := .boolean) hret (by simp) hlk (hb hby at_225) (fun U hU hF => hK _ U _ _ _ (by show Q_rm0 Z p0 p1 p2 p3 p4 p5 cs sv h0 n0 _ U.heap _; rw [hU, hQ505]; exact ⟨rfl, N505, trivial⟩) (own_endH hZ hEL ((Rb472.trans cr473).trans cr476) (hU.trans hQ505) hF) (own_end hS476 (by rw [hU, hQ505]; exact (Nat.le_refl _)) hF) (by decide) (by decide))
  · skip
    refine Rch.of (T' := T485) (g' := (mkF m 126 #[.val (.int p0), .val (.int p1), .val (.int p2), .val (.int p3), .val (.int p4), .val (.int p5), .val (.int (Int32.ofNat k)), .val (.ref b453), .val (.ref rr473), .val (.ref rr476), .val (.int (Int32.ofNat (own_ls y470 (47 : Int32) k))), .val (.int (Int32.ofNat (own_fF y470 (61 : Int32) (own_ls y470 (47 : Int32) k) k))), .val (.int (Int32.ofNat (own_fF y470 (58 : Int32) (own_ls y470 (47 : Int32) k) (own_fF y470 (61 : Int32) (own_ls y470 (47 : Int32) k) k)))), .val (.int (Int32.ofNat (own_ls y470 (47 : Int32) k))), .unset] [])) (fun _ kt => XS.icmpYes X485.here hx rfl (pc0 := 117) (pc' := 126) rfl (hb hby at_117) rfl (flt c488).2.1 (by decide) (by decide) kt) ?_
    have kle := own_fF_le (y := y470) (c := (58 : Int32)) ege
    have hlt : ¬ (own_fF y470 (58 : Int32) (own_ls y470 (47 : Int32) k) (own_fF y470 (61 : Int32) (own_ls y470 (47 : Int32) k) k)) < (own_fF y470 (61 : Int32) (own_ls y470 (47 : Int32) k) k) := fun q => c488 (own_lt3 q (by omega))
    have sw13 : Int32.ofNat (own_ls y470 (47 : Int32) k) = (Int32.ofNat (own_no y470 k)) := congrArg Int32.ofNat (own_s2n hlt)
    rw [sw13]
    show Rch p e below K T485 (mkF m 126 #[.val (.int p0), .val (.int p1), .val (.int p2), .val (.int p3), .val (.int p4), .val (.int p5), .val (.int (Int32.ofNat k)), .val (.ref b453), .val (.ref rr473), .val (.ref rr476), .val (.int (Int32.ofNat (own_no y470 k))), .val (.int (Int32.ofNat (own_fF y470 (61 : Int32) (own_ls y470 (47 : Int32) k) k))), .val (.int (Int32.ofNat (own_fF y470 (58 : Int32) (own_ls y470 (47 : Int32) k) (own_fF y470 (61 : Int32) (own_ls y470 (47 : Int32) k) k)))), .val (.int (Int32.ofNat (own_no y470 k))), .unset] [])
    have rl2 := own_rl y470 k
    refine Rch.of (T' := T485) (g' := (mkF m 128 #[.val (.int p0), .val (.int p1), .val (.int p2), .val (.int p3), .val (.int p4), .val (.int p5), .val (.int (Int32.ofNat k)), .val (.ref b453), .val (.ref rr473), .val (.ref rr476), .val (.int (Int32.ofNat (own_no y470 k))), .val (.int (Int32.ofNat (own_fF y470 (61 : Int32) (own_ls y470 (47 : Int32) k) k))), .val (.int (Int32.ofNat (own_fF y470 (58 : Int32) (own_ls y470 (47 : Int32) k) (own_fF y470 (61 : Int32) (own_ls y470 (47 : Int32) k) k)))), .val (.int (Int32.ofNat (own_no y470 k))), .unset] [(.int (Int32.ofNat (own_fF y470 (61 : Int32) (own_ls y470 (47 : Int32) k) k)))])) (fun _ kt => XS.iload X485.here hx rfl (hb hby at_126) rfl  kt) ?_
    refine Rch.of (T' := T485) (g' := (mkF m 130 #[.val (.int p0), .val (.int p1), .val (.int p2), .val (.int p3), .val (.int p4), .val (.int p5), .val (.int (Int32.ofNat k)), .val (.ref b453), .val (.ref rr473), .val (.ref rr476), .val (.int (Int32.ofNat (own_no y470 k))), .val (.int (Int32.ofNat (own_fF y470 (61 : Int32) (own_ls y470 (47 : Int32) k) k))), .val (.int (Int32.ofNat (own_fF y470 (58 : Int32) (own_ls y470 (47 : Int32) k) (own_fF y470 (61 : Int32) (own_ls y470 (47 : Int32) k) k)))), .val (.int (Int32.ofNat (own_no y470 k))), .unset] [(.int (Int32.ofNat (own_no y470 k))), (.int (Int32.ofNat (own_fF y470 (61 : Int32) (own_ls y470 (47 : Int32) k) k)))])) (fun _ kt => XS.iload X485.here hx rfl (hb hby at_128) rfl  kt) ?_
    refine Rch.of (T' := T485) (g' := (mkF m 131 #[.val (.int p0), .val (.int p1), .val (.int p2), .val (.int p3), .val (.int p4), .val (.int p5), .val (.int (Int32.ofNat k)), .val (.ref b453), .val (.ref rr473), .val (.ref rr476), .val (.int (Int32.ofNat (own_no y470 k))), .val (.int (Int32.ofNat (own_fF y470 (61 : Int32) (own_ls y470 (47 : Int32) k) k))), .val (.int (Int32.ofNat (own_fF y470 (58 : Int32) (own_ls y470 (47 : Int32) k) (own_fF y470 (61 : Int32) (own_ls y470 (47 : Int32) k) k)))), .val (.int (Int32.ofNat (own_no y470 k))), .unset] [(.int ((Int32.ofNat (own_fF y470 (61 : Int32) (own_ls y470 (47 : Int32) k) k)) - (Int32.ofNat (own_no y470 k))))])) (fun _ kt => XS.isub X485.here hx rfl (hb hby at_130) rfl kt) ?_
    have sw508 : ((Int32.ofNat (own_fF y470 (61 : Int32) (own_ls y470 (47 : Int32) k) k)) - (Int32.ofNat (own_no y470 k))) = (Int32.ofNat (own_nl y470 k)) := (own_subN rl2.1).trans (congrArg Int32.ofNat rl2.2)
    rw [sw508]
    show Rch p e below K T485 (mkF m 131 #[.val (.int p0), .val (.int p1), .val (.int p2), .val (.int p3), .val (.int p4), .val (.int p5), .val (.int (Int32.ofNat k)), .val (.ref b453), .val (.ref rr473), .val (.ref rr476), .val (.int (Int32.ofNat (own_no y470 k))), .val (.int (Int32.ofNat (own_fF y470 (61 : Int32) (own_ls y470 (47 : Int32) k) k))), .val (.int (Int32.ofNat (own_fF y470 (58 : Int32) (own_ls y470 (47 : Int32) k) (own_fF y470 (61 : Int32) (own_ls y470 (47 : Int32) k) k)))), .val (.int (Int32.ofNat (own_no y470 k))), .unset] [(.int (Int32.ofNat (own_nl y470 k)))])
    refine Rch.of (T' := T485) (g' := (mkF m 133 #[.val (.int p0), .val (.int p1), .val (.int p2), .val (.int p3), .val (.int p4), .val (.int p5), .val (.int (Int32.ofNat k)), .val (.ref b453), .val (.ref rr473), .val (.ref rr476), .val (.int (Int32.ofNat (own_no y470 k))), .val (.int (Int32.ofNat (own_fF y470 (61 : Int32) (own_ls y470 (47 : Int32) k) k))), .val (.int (Int32.ofNat (own_fF y470 (58 : Int32) (own_ls y470 (47 : Int32) k) (own_fF y470 (61 : Int32) (own_ls y470 (47 : Int32) k) k)))), .val (.int (Int32.ofNat (own_no y470 k))), .val (.int (Int32.ofNat (own_nl y470 k)))] [])) (fun _ kt => XS.istore X485.here hx rfl (hb hby at_131) rfl (l' := #[.val (.int p0), .val (.int p1), .val (.int p2), .val (.int p3), .val (.int p4), .val (.int p5), .val (.int (Int32.ofNat k)), .val (.ref b453), .val (.ref rr473), .val (.ref rr476), .val (.int (Int32.ofNat (own_no y470 k))), .val (.int (Int32.ofNat (own_fF y470 (61 : Int32) (own_ls y470 (47 : Int32) k) k))), .val (.int (Int32.ofNat (own_fF y470 (58 : Int32) (own_ls y470 (47 : Int32) k) (own_fF y470 (61 : Int32) (own_ls y470 (47 : Int32) k) k)))), .val (.int (Int32.ofNat (own_no y470 k))), .val (.int (Int32.ofNat (own_nl y470 k)))]) rfl kt) ?_
    refine Rch.of (T' := T485) (g' := (mkF m 135 #[.val (.int p0), .val (.int p1), .val (.int p2), .val (.int p3), .val (.int p4), .val (.int p5), .val (.int (Int32.ofNat k)), .val (.ref b453), .val (.ref rr473), .val (.ref rr476), .val (.int (Int32.ofNat (own_no y470 k))), .val (.int (Int32.ofNat (own_fF y470 (61 : Int32) (own_ls y470 (47 : Int32) k) k))), .val (.int (Int32.ofNat (own_fF y470 (58 : Int32) (own_ls y470 (47 : Int32) k) (own_fF y470 (61 : Int32) (own_ls y470 (47 : Int32) k) k)))), .val (.int (Int32.ofNat (own_no y470 k))), .val (.int (Int32.ofNat (own_nl y470 k)))] [(.ref rr476)])) (fun _ kt => XS.aload X485.here hx rfl (hb hby at_133) rfl rfl kt) ?_
    obtain ⟨cq509, kq509, q509a, q509b, q509c⟩ := isOf hZ hQ485 Ex476
    obtain ⟨_, _, ⟨T509, L509, k509, n509⟩, -, X509, ⟨Lc509, hQ509, l509, y509, z509⟩, st509⟩ := X485.virtualBack hx (y := (⟨"java/lang/String", "length", "()I"⟩ : MethodName)) (z := (⟨"java/lang/String", "length", "()I"⟩ : MethodName)) hown (mvT hZ (hw _ (List.mem_of_getElem? (i := 113) rfl))) (mvT hZ (hw _ (List.mem_of_getElem? (i := 39) rfl))) (notFace_of_selects (args := #[]) (mvT hZ (hw _ (List.mem_of_getElem? (i := 41) rfl)))) (mvT hZ (hw _ (List.mem_of_getElem? (i := 41) rfl))) (mvT hZ (hw _ (List.mem_of_getElem? (i := 40) rfl))) (by decide) (backOf (W := 0) (rqLE l Z a0 hw [] rr476 rb476 (own_nl y470 k) rt476 cs T476.heap n0 (Nat.le_trans (Nat.le_trans (Nat.le_trans Fb468 (Keep.of_wr W470).1) K473.1) K476.1) Ex476 Fa476 Fb476 V476 (S1.ext ((((((((O0.ext E453).wr W455 ge_b453).wr W458 ge_b453).wr W462 ge_b453).wr W465 ge_b453).wr W470 ge_b453).keep K473 all0).keep K476 all0).2) hcs) hZ (hw _ (List.mem_of_getElem? (i := 42) rfl)) (hw _ (List.mem_of_getElem? (i := 10) rfl)) (by decide) (by decide)) q509a q509c (g := (mkF m 135 #[.val (.int p0), .val (.int p1), .val (.int p2), .val (.int p3), .val (.int p4), .val (.int p5), .val (.int (Int32.ofNat k)), .val (.ref b453), .val (.ref rr473), .val (.ref rr476), .val (.int (Int32.ofNat (own_no y470 k))), .val (.int (Int32.ofNat (own_fF y470 (61 : Int32) (own_ls y470 (47 : Int32) k) k))), .val (.int (Int32.ofNat (own_fF y470 (58 : Int32) (own_ls y470 (47 : Int32) k) (own_fF y470 (61 : Int32) (own_ls y470 (47 : Int32) k) k)))), .val (.int (Int32.ofNat (own_no y470 k))), .val (.int (Int32.ofNat (own_nl y470 k)))] [(.ref rr476)])) rfl (by rw [hml]; rfl) (Steps.refl _) (argsL := []) (rest := []) (lenOf pd_7 rfl) rfl (by show 2 * 0 + _ ≤ _; exact Nat.le_of_eq rfl) (hb hby at_135) (fun _ _ => ⟨rfl, hQ485, (by decide : 13 + 0 ≤ _), (by decide : 49 + 0 ≤ _)⟩)
    dsimp only [Pt.U, Pt.locs, Pt.cells, Pt.slots] at X509 l509 y509 z509 st509 hQ509
    subst l509 y509 z509
    obtain ⟨rfl, N509q, hQ509⟩ := hQ509
    have N509 := Fr.app N485 N509q
    refine Rch.via (T' := T509) (g' := (mkF m 138 #[.val (.int p0), .val (.int p1), .val (.int p2), .val (.int p3), .val (.int p4), .val (.int p5), .val (.int (Int32.ofNat k)), .val (.ref b453), .val (.ref rr473), .val (.ref rr476), .val (.int (Int32.ofNat (own_no y470 k))), .val (.int (Int32.ofNat (own_fF y470 (61 : Int32) (own_ls y470 (47 : Int32) k) k))), .val (.int (Int32.ofNat (own_fF y470 (58 : Int32) (own_ls y470 (47 : Int32) k) (own_fF y470 (61 : Int32) (own_ls y470 (47 : Int32) k) k)))), .val (.int (Int32.ofNat (own_no y470 k))), .val (.int (Int32.ofNat (own_nl y470 k)))] [(.int (Int32.ofNat (own_nl y470 k)))])) st509 ?_
    refine Rch.of (T' := T509) (g' := (mkF m 140 #[.val (.int p0), .val (.int p1), .val (.int p2), .val (.int p3), .val (.int p4), .val (.int p5), .val (.int (Int32.ofNat k)), .val (.ref b453), .val (.ref rr473), .val (.ref rr476), .val (.int (Int32.ofNat (own_no y470 k))), .val (.int (Int32.ofNat (own_fF y470 (61 : Int32) (own_ls y470 (47 : Int32) k) k))), .val (.int (Int32.ofNat (own_fF y470 (58 : Int32) (own_ls y470 (47 : Int32) k) (own_fF y470 (61 : Int32) (own_ls y470 (47 : Int32) k) k)))), .val (.int (Int32.ofNat (own_no y470 k))), .val (.int (Int32.ofNat (own_nl y470 k)))] [(.int (Int32.ofNat (own_nl y470 k))), (.int (Int32.ofNat (own_nl y470 k)))])) (fun _ kt => XS.iload X509.here hx rfl (hb hby at_138) rfl  kt) ?_
    refine Rch.of (T' := T509) (g' := (mkF m 145 #[.val (.int p0), .val (.int p1), .val (.int p2), .val (.int p3), .val (.int p4), .val (.int p5), .val (.int (Int32.ofNat k)), .val (.ref b453), .val (.ref rr473), .val (.ref rr476), .val (.int (Int32.ofNat (own_no y470 k))), .val (.int (Int32.ofNat (own_fF y470 (61 : Int32) (own_ls y470 (47 : Int32) k) k))), .val (.int (Int32.ofNat (own_fF y470 (58 : Int32) (own_ls y470 (47 : Int32) k) (own_fF y470 (61 : Int32) (own_ls y470 (47 : Int32) k) k)))), .val (.int (Int32.ofNat (own_no y470 k))), .val (.int (Int32.ofNat (own_nl y470 k)))] [])) (fun _ kt => XS.icmpYes X509.here hx rfl (pc0 := 140) (pc' := 145) rfl (hb hby at_140) rfl (teq (rfl : (Int32.ofNat (own_nl y470 k)) = (Int32.ofNat (own_nl y470 k)))).1 (by decide) (by decide) kt) ?_
    refine Rch.of (T' := T509) (g' := (mkF m 147 #[.val (.int p0), .val (.int p1), .val (.int p2), .val (.int p3), .val (.int p4), .val (.int p5), .val (.int (Int32.ofNat k)), .val (.ref b453), .val (.ref rr473), .val (.ref rr476), .val (.int (Int32.ofNat (own_no y470 k))), .val (.int (Int32.ofNat (own_fF y470 (61 : Int32) (own_ls y470 (47 : Int32) k) k))), .val (.int (Int32.ofNat (own_fF y470 (58 : Int32) (own_ls y470 (47 : Int32) k) (own_fF y470 (61 : Int32) (own_ls y470 (47 : Int32) k) k)))), .val (.int (Int32.ofNat (own_no y470 k))), .val (.int (Int32.ofNat (own_nl y470 k)))] [(.ref rr476)])) (fun _ kt => XS.aload X509.here hx rfl (hb hby at_145) rfl rfl kt) ?_
    refine Rch.of (T' := T509) (g' := (mkF m 149 #[.val (.int p0), .val (.int p1), .val (.int p2), .val (.int p3), .val (.int p4), .val (.int p5), .val (.int (Int32.ofNat k)), .val (.ref b453), .val (.ref rr473), .val (.ref rr476), .val (.int (Int32.ofNat (own_no y470 k))), .val (.int (Int32.ofNat (own_fF y470 (61 : Int32) (own_ls y470 (47 : Int32) k) k))), .val (.int (Int32.ofNat (own_fF y470 (58 : Int32) (own_ls y470 (47 : Int32) k) (own_fF y470 (61 : Int32) (own_ls y470 (47 : Int32) k) k)))), .val (.int (Int32.ofNat (own_no y470 k))), .val (.int (Int32.ofNat (own_nl y470 k)))] [(.int (Int32.ofNat (own_nl y470 k))), (.ref rr476)])) (fun _ kt => XS.iload X509.here hx rfl (hb hby at_147) rfl  kt) ?_
    refine Rch.of (T' := T509) (g' := (mkF m 151 #[.val (.int p0), .val (.int p1), .val (.int p2), .val (.int p3), .val (.int p4), .val (.int p5), .val (.int (Int32.ofNat k)), .val (.ref b453), .val (.ref rr473), .val (.ref rr476), .val (.int (Int32.ofNat (own_no y470 k))), .val (.int (Int32.ofNat (own_fF y470 (61 : Int32) (own_ls y470 (47 : Int32) k) k))), .val (.int (Int32.ofNat (own_fF y470 (58 : Int32) (own_ls y470 (47 : Int32) k) (own_fF y470 (61 : Int32) (own_ls y470 (47 : Int32) k) k)))), .val (.int (Int32.ofNat (own_no y470 k))), .val (.int (Int32.ofNat (own_nl y470 k)))] [(.ref b453), (.int (Int32.ofNat (own_nl y470 k))), (.ref rr476)])) (fun _ kt => XS.aload X509.here hx rfl (hb hby at_149) rfl rfl kt) ?_
    refine Rch.of (T' := T509) (g' := (mkF m 153 #[.val (.int p0), .val (.int p1), .val (.int p2), .val (.int p3), .val (.int p4), .val (.int p5), .val (.int (Int32.ofNat k)), .val (.ref b453), .val (.ref rr473), .val (.ref rr476), .val (.int (Int32.ofNat (own_no y470 k))), .val (.int (Int32.ofNat (own_fF y470 (61 : Int32) (own_ls y470 (47 : Int32) k) k))), .val (.int (Int32.ofNat (own_fF y470 (58 : Int32) (own_ls y470 (47 : Int32) k) (own_fF y470 (61 : Int32) (own_ls y470 (47 : Int32) k) k)))), .val (.int (Int32.ofNat (own_no y470 k))), .val (.int (Int32.ofNat (own_nl y470 k)))] [(.int (Int32.ofNat (own_no y470 k))), (.ref b453), (.int (Int32.ofNat (own_nl y470 k))), (.ref rr476)])) (fun _ kt => XS.iload X509.here hx rfl (hb hby at_151) rfl  kt) ?_
    refine Rch.of (T' := T509) (g' := (mkF m 154 #[.val (.int p0), .val (.int p1), .val (.int p2), .val (.int p3), .val (.int p4), .val (.int p5), .val (.int (Int32.ofNat k)), .val (.ref b453), .val (.ref rr473), .val (.ref rr476), .val (.int (Int32.ofNat (own_no y470 k))), .val (.int (Int32.ofNat (own_fF y470 (61 : Int32) (own_ls y470 (47 : Int32) k) k))), .val (.int (Int32.ofNat (own_fF y470 (58 : Int32) (own_ls y470 (47 : Int32) k) (own_fF y470 (61 : Int32) (own_ls y470 (47 : Int32) k) k)))), .val (.int (Int32.ofNat (own_no y470 k))), .val (.int (Int32.ofNat (own_nl y470 k)))] [(.int (0 : Int32)), (.int (Int32.ofNat (own_no y470 k))), (.ref b453), (.int (Int32.ofNat (own_nl y470 k))), (.ref rr476)])) (fun _ kt => XS.iconst X509.here hx rfl (hb hby at_153) kt) ?_
    have pr511 : (own_no y470 k) + (own_nl y470 k) ≤ 5 := by omega
    have pr512 : 0 ≤ 4 := by omega
    have hch513 : own_ch (own_nl y470 k) rt476 := fun q hq => by rw [Eq476 q hq]; exact hch474 _ (by omega)
    obtain ⟨_, _, ⟨T510, L510, k510, n510⟩, -, X510, ⟨Lc510, hQ510, l510, y510, z510⟩, st510⟩ := Jvm.LawKit.callS X509 hx (y := (⟨"com/example/isidore/isidore/rulesets/mwsdn/PathNamesNodePinLaw", "at", "(Ljava/lang/String;I[CII)Z"⟩ : MethodName)) hown (mvT hZ (hw _ (List.mem_of_getElem? (i := 114) rfl))) (mvT hZ (hw _ (List.mem_of_getElem? (i := 115) rfl))) (mvT hZ (hw _ (List.mem_of_getElem? (i := 3) rfl))) (mvT hZ (hw _ (List.mem_of_getElem? (i := 116) rfl))) (by decide) (backOf (W := 0) (rk5 l Z a0 hw [] rr476 rb476 (own_nl y470 k) rt476 b453 y470 (own_no y470 k) 0 cs sv T476.heap n0 (Nat.le_trans (Nat.le_trans (Nat.le_trans Fb468 (Keep.of_wr W470).1) K473.1) K476.1) Ex476 Fa476 Fb476 V476 ((V470.keep K473 nin0).keep K476 nin0) Eq476 pr511 pr512 hch513 (S1.ext ((((((((O0.ext E453).wr W455 ge_b453).wr W458 ge_b453).wr W462 ge_b453).wr W465 ge_b453).wr W470 ge_b453).keep K473 all0).keep K476 all0).2) hcs (SI0.ext ((((((((O0.ext E453).wr W455 ge_b453).wr W458 ge_b453).wr W462 ge_b453).wr W465 ge_b453).wr W470 ge_b453).keep K473 all0).keep K476 all0).2) hsv) hZ (hw _ (List.mem_of_getElem? (i := 116) rfl)) (hw _ (List.mem_of_getElem? (i := 3) rfl)) (by decide) (by decide)) (g := (mkF m 154 #[.val (.int p0), .val (.int p1), .val (.int p2), .val (.int p3), .val (.int p4), .val (.int p5), .val (.int (Int32.ofNat k)), .val (.ref b453), .val (.ref rr473), .val (.ref rr476), .val (.int (Int32.ofNat (own_no y470 k))), .val (.int (Int32.ofNat (own_fF y470 (61 : Int32) (own_ls y470 (47 : Int32) k) k))), .val (.int (Int32.ofNat (own_fF y470 (58 : Int32) (own_ls y470 (47 : Int32) k) (own_fF y470 (61 : Int32) (own_ls y470 (47 : Int32) k) k)))), .val (.int (Int32.ofNat (own_no y470 k))), .val (.int (Int32.ofNat (own_nl y470 k)))] [(.int (0 : Int32)), (.int (Int32.ofNat (own_no y470 k))), (.ref b453), (.int (Int32.ofNat (own_nl y470 k))), (.ref rr476)])) rfl (by rw [hml]; rfl) (argsL := [(.ref rr476), (.int (Int32.ofNat (own_nl y470 k))), (.ref b453), (.int (Int32.ofNat (own_no y470 k))), (.int (0 : Int32))]) (rest := []) (lenOf pd_20 rfl) rfl (by show 2 * 0 + _ ≤ _; exact Nat.le_of_eq rfl) (hb hby at_154) (fun _ _ => ⟨rfl, hQ509, (by decide : 13 + 0 ≤ _), (by decide : 49 + 0 ≤ _)⟩)
    dsimp only [Pt.U, Pt.locs, Pt.cells, Pt.slots] at X510 l510 y510 z510 st510 hQ510
    subst l510 y510 z510
    obtain ⟨rfl, N510q, hQ510⟩ := hQ510
    have N510 := Fr.app N509 N510q
    refine Rch.of (T' := T510) (g' := (mkF m 157 #[.val (.int p0), .val (.int p1), .val (.int p2), .val (.int p3), .val (.int p4), .val (.int p5), .val (.int (Int32.ofNat k)), .val (.ref b453), .val (.ref rr473), .val (.ref rr476), .val (.int (Int32.ofNat (own_no y470 k))), .val (.int (Int32.ofNat (own_fF y470 (61 : Int32) (own_ls y470 (47 : Int32) k) k))), .val (.int (Int32.ofNat (own_fF y470 (58 : Int32) (own_ls y470 (47 : Int32) k) (own_fF y470 (61 : Int32) (own_ls y470 (47 : Int32) k) k)))), .val (.int (Int32.ofNat (own_no y470 k))), .val (.int (Int32.ofNat (own_nl y470 k)))] [(.int (1 : Int32))])) st510 ?_
    refine Rch.of (T' := T510) (g' := (mkF m 160 #[.val (.int p0), .val (.int p1), .val (.int p2), .val (.int p3), .val (.int p4), .val (.int p5), .val (.int (Int32.ofNat k)), .val (.ref b453), .val (.ref rr473), .val (.ref rr476), .val (.int (Int32.ofNat (own_no y470 k))), .val (.int (Int32.ofNat (own_fF y470 (61 : Int32) (own_ls y470 (47 : Int32) k) k))), .val (.int (Int32.ofNat (own_fF y470 (58 : Int32) (own_ls y470 (47 : Int32) k) (own_fF y470 (61 : Int32) (own_ls y470 (47 : Int32) k) k)))), .val (.int (Int32.ofNat (own_no y470 k))), .val (.int (Int32.ofNat (own_nl y470 k)))] [])) (fun _ kt => XS.ifNo X510.here hx rfl (hb hby at_157) rfl ((if0 _ _).trans (feq ((by decide) : ¬ ((1 : Int32) = (0 : Int32)))).1) kt) ?_
    refine Rch.of (T' := T510) (g' := (mkF m 162 #[.val (.int p0), .val (.int p1), .val (.int p2), .val (.int p3), .val (.int p4), .val (.int p5), .val (.int (Int32.ofNat k)), .val (.ref b453), .val (.ref rr473), .val (.ref rr476), .val (.int (Int32.ofNat (own_no y470 k))), .val (.int (Int32.ofNat (own_fF y470 (61 : Int32) (own_ls y470 (47 : Int32) k) k))), .val (.int (Int32.ofNat (own_fF y470 (58 : Int32) (own_ls y470 (47 : Int32) k) (own_fF y470 (61 : Int32) (own_ls y470 (47 : Int32) k) k)))), .val (.int (Int32.ofNat (own_no y470 k))), .val (.int (Int32.ofNat (own_nl y470 k)))] [(.ref rr476)])) (fun _ kt => XS.aload X510.here hx rfl (hb hby at_160) rfl rfl kt) ?_
    refine Rch.of (T' := T510) (g' := (mkF m 164 #[.val (.int p0), .val (.int p1), .val (.int p2), .val (.int p3), .val (.int p4), .val (.int p5), .val (.int (Int32.ofNat k)), .val (.ref b453), .val (.ref rr473), .val (.ref rr476), .val (.int (Int32.ofNat (own_no y470 k))), .val (.int (Int32.ofNat (own_fF y470 (61 : Int32) (own_ls y470 (47 : Int32) k) k))), .val (.int (Int32.ofNat (own_fF y470 (58 : Int32) (own_ls y470 (47 : Int32) k) (own_fF y470 (61 : Int32) (own_ls y470 (47 : Int32) k) k)))), .val (.int (Int32.ofNat (own_no y470 k))), .val (.int (Int32.ofNat (own_nl y470 k)))] [(.int (Int32.ofNat (own_nl y470 k))), (.ref rr476)])) (fun _ kt => XS.iload X510.here hx rfl (hb hby at_162) rfl  kt) ?_
    refine Rch.of (T' := T510) (g' := (mkF m 166 #[.val (.int p0), .val (.int p1), .val (.int p2), .val (.int p3), .val (.int p4), .val (.int p5), .val (.int (Int32.ofNat k)), .val (.ref b453), .val (.ref rr473), .val (.ref rr476), .val (.int (Int32.ofNat (own_no y470 k))), .val (.int (Int32.ofNat (own_fF y470 (61 : Int32) (own_ls y470 (47 : Int32) k) k))), .val (.int (Int32.ofNat (own_fF y470 (58 : Int32) (own_ls y470 (47 : Int32) k) (own_fF y470 (61 : Int32) (own_ls y470 (47 : Int32) k) k)))), .val (.int (Int32.ofNat (own_no y470 k))), .val (.int (Int32.ofNat (own_nl y470 k)))] [(.ref b453), (.int (Int32.ofNat (own_nl y470 k))), (.ref rr476)])) (fun _ kt => XS.aload X510.here hx rfl (hb hby at_164) rfl rfl kt) ?_
    refine Rch.of (T' := T510) (g' := (mkF m 168 #[.val (.int p0), .val (.int p1), .val (.int p2), .val (.int p3), .val (.int p4), .val (.int p5), .val (.int (Int32.ofNat k)), .val (.ref b453), .val (.ref rr473), .val (.ref rr476), .val (.int (Int32.ofNat (own_no y470 k))), .val (.int (Int32.ofNat (own_fF y470 (61 : Int32) (own_ls y470 (47 : Int32) k) k))), .val (.int (Int32.ofNat (own_fF y470 (58 : Int32) (own_ls y470 (47 : Int32) k) (own_fF y470 (61 : Int32) (own_ls y470 (47 : Int32) k) k)))), .val (.int (Int32.ofNat (own_no y470 k))), .val (.int (Int32.ofNat (own_nl y470 k)))] [(.int (Int32.ofNat (own_no y470 k))), (.ref b453), (.int (Int32.ofNat (own_nl y470 k))), (.ref rr476)])) (fun _ kt => XS.iload X510.here hx rfl (hb hby at_166) rfl  kt) ?_
    refine Rch.of (T' := T510) (g' := (mkF m 169 #[.val (.int p0), .val (.int p1), .val (.int p2), .val (.int p3), .val (.int p4), .val (.int p5), .val (.int (Int32.ofNat k)), .val (.ref b453), .val (.ref rr473), .val (.ref rr476), .val (.int (Int32.ofNat (own_no y470 k))), .val (.int (Int32.ofNat (own_fF y470 (61 : Int32) (own_ls y470 (47 : Int32) k) k))), .val (.int (Int32.ofNat (own_fF y470 (58 : Int32) (own_ls y470 (47 : Int32) k) (own_fF y470 (61 : Int32) (own_ls y470 (47 : Int32) k) k)))), .val (.int (Int32.ofNat (own_no y470 k))), .val (.int (Int32.ofNat (own_nl y470 k)))] [(.int (1 : Int32)), (.int (Int32.ofNat (own_no y470 k))), (.ref b453), (.int (Int32.ofNat (own_nl y470 k))), (.ref rr476)])) (fun _ kt => XS.iconst X510.here hx rfl (hb hby at_168) kt) ?_
    have pr515 : (own_no y470 k) + (own_nl y470 k) ≤ 5 := by omega
    have pr516 : 1 ≤ 4 := by omega
    obtain ⟨_, _, ⟨T514, L514, k514, n514⟩, -, X514, ⟨Lc514, hQ514, l514, y514, z514⟩, st514⟩ := Jvm.LawKit.callS X510 hx (y := (⟨"com/example/isidore/isidore/rulesets/mwsdn/PathNamesNodePinLaw", "at", "(Ljava/lang/String;I[CII)Z"⟩ : MethodName)) hown (mvT hZ (hw _ (List.mem_of_getElem? (i := 114) rfl))) (mvT hZ (hw _ (List.mem_of_getElem? (i := 115) rfl))) (mvT hZ (hw _ (List.mem_of_getElem? (i := 3) rfl))) (mvT hZ (hw _ (List.mem_of_getElem? (i := 116) rfl))) (by decide) (backOf (W := 0) (rk5 l Z a0 hw [] rr476 rb476 (own_nl y470 k) rt476 b453 y470 (own_no y470 k) 1 cs sv T476.heap n0 (Nat.le_trans (Nat.le_trans (Nat.le_trans Fb468 (Keep.of_wr W470).1) K473.1) K476.1) Ex476 Fa476 Fb476 V476 ((V470.keep K473 nin0).keep K476 nin0) Eq476 pr515 pr516 hch513 (S1.ext ((((((((O0.ext E453).wr W455 ge_b453).wr W458 ge_b453).wr W462 ge_b453).wr W465 ge_b453).wr W470 ge_b453).keep K473 all0).keep K476 all0).2) hcs (SI0.ext ((((((((O0.ext E453).wr W455 ge_b453).wr W458 ge_b453).wr W462 ge_b453).wr W465 ge_b453).wr W470 ge_b453).keep K473 all0).keep K476 all0).2) hsv) hZ (hw _ (List.mem_of_getElem? (i := 116) rfl)) (hw _ (List.mem_of_getElem? (i := 3) rfl)) (by decide) (by decide)) (g := (mkF m 169 #[.val (.int p0), .val (.int p1), .val (.int p2), .val (.int p3), .val (.int p4), .val (.int p5), .val (.int (Int32.ofNat k)), .val (.ref b453), .val (.ref rr473), .val (.ref rr476), .val (.int (Int32.ofNat (own_no y470 k))), .val (.int (Int32.ofNat (own_fF y470 (61 : Int32) (own_ls y470 (47 : Int32) k) k))), .val (.int (Int32.ofNat (own_fF y470 (58 : Int32) (own_ls y470 (47 : Int32) k) (own_fF y470 (61 : Int32) (own_ls y470 (47 : Int32) k) k)))), .val (.int (Int32.ofNat (own_no y470 k))), .val (.int (Int32.ofNat (own_nl y470 k)))] [(.int (1 : Int32)), (.int (Int32.ofNat (own_no y470 k))), (.ref b453), (.int (Int32.ofNat (own_nl y470 k))), (.ref rr476)])) rfl (by rw [hml]; rfl) (argsL := [(.ref rr476), (.int (Int32.ofNat (own_nl y470 k))), (.ref b453), (.int (Int32.ofNat (own_no y470 k))), (.int (1 : Int32))]) (rest := []) (lenOf pd_20 rfl) rfl (by show 2 * 0 + _ ≤ _; exact Nat.le_of_eq rfl) (hb hby at_169) (fun _ _ => ⟨rfl, hQ510, (by decide : 13 + 0 ≤ _), (by decide : 49 + 0 ≤ _)⟩)
    dsimp only [Pt.U, Pt.locs, Pt.cells, Pt.slots] at X514 l514 y514 z514 st514 hQ514
    subst l514 y514 z514
    obtain ⟨rfl, N514q, hQ514⟩ := hQ514
    have N514 := Fr.app N510 N514q
    refine Rch.of (T' := T514) (g' := (mkF m 172 #[.val (.int p0), .val (.int p1), .val (.int p2), .val (.int p3), .val (.int p4), .val (.int p5), .val (.int (Int32.ofNat k)), .val (.ref b453), .val (.ref rr473), .val (.ref rr476), .val (.int (Int32.ofNat (own_no y470 k))), .val (.int (Int32.ofNat (own_fF y470 (61 : Int32) (own_ls y470 (47 : Int32) k) k))), .val (.int (Int32.ofNat (own_fF y470 (58 : Int32) (own_ls y470 (47 : Int32) k) (own_fF y470 (61 : Int32) (own_ls y470 (47 : Int32) k) k)))), .val (.int (Int32.ofNat (own_no y470 k))), .val (.int (Int32.ofNat (own_nl y470 k)))] [(.int (1 : Int32))])) st514 ?_
    refine Rch.of (T' := T514) (g' := (mkF m 175 #[.val (.int p0), .val (.int p1), .val (.int p2), .val (.int p3), .val (.int p4), .val (.int p5), .val (.int (Int32.ofNat k)), .val (.ref b453), .val (.ref rr473), .val (.ref rr476), .val (.int (Int32.ofNat (own_no y470 k))), .val (.int (Int32.ofNat (own_fF y470 (61 : Int32) (own_ls y470 (47 : Int32) k) k))), .val (.int (Int32.ofNat (own_fF y470 (58 : Int32) (own_ls y470 (47 : Int32) k) (own_fF y470 (61 : Int32) (own_ls y470 (47 : Int32) k) k)))), .val (.int (Int32.ofNat (own_no y470 k))), .val (.int (Int32.ofNat (own_nl y470 k)))] [])) (fun _ kt => XS.ifNo X514.here hx rfl (hb hby at_172) rfl ((if0 _ _).trans (feq ((by decide) : ¬ ((1 : Int32) = (0 : Int32)))).1) kt) ?_
    refine Rch.of (T' := T514) (g' := (mkF m 177 #[.val (.int p0), .val (.int p1), .val (.int p2), .val (.int p3), .val (.int p4), .val (.int p5), .val (.int (Int32.ofNat k)), .val (.ref b453), .val (.ref rr473), .val (.ref rr476), .val (.int (Int32.ofNat (own_no y470 k))), .val (.int (Int32.ofNat (own_fF y470 (61 : Int32) (own_ls y470 (47 : Int32) k) k))), .val (.int (Int32.ofNat (own_fF y470 (58 : Int32) (own_ls y470 (47 : Int32) k) (own_fF y470 (61 : Int32) (own_ls y470 (47 : Int32) k) k)))), .val (.int (Int32.ofNat (own_no y470 k))), .val (.int (Int32.ofNat (own_nl y470 k)))] [(.ref rr476)])) (fun _ kt => XS.aload X514.here hx rfl (hb hby at_175) rfl rfl kt) ?_
    refine Rch.of (T' := T514) (g' := (mkF m 179 #[.val (.int p0), .val (.int p1), .val (.int p2), .val (.int p3), .val (.int p4), .val (.int p5), .val (.int (Int32.ofNat k)), .val (.ref b453), .val (.ref rr473), .val (.ref rr476), .val (.int (Int32.ofNat (own_no y470 k))), .val (.int (Int32.ofNat (own_fF y470 (61 : Int32) (own_ls y470 (47 : Int32) k) k))), .val (.int (Int32.ofNat (own_fF y470 (58 : Int32) (own_ls y470 (47 : Int32) k) (own_fF y470 (61 : Int32) (own_ls y470 (47 : Int32) k) k)))), .val (.int (Int32.ofNat (own_no y470 k))), .val (.int (Int32.ofNat (own_nl y470 k)))] [(.int (Int32.ofNat (own_nl y470 k))), (.ref rr476)])) (fun _ kt => XS.iload X514.here hx rfl (hb hby at_177) rfl  kt) ?_
    refine Rch.of (T' := T514) (g' := (mkF m 181 #[.val (.int p0), .val (.int p1), .val (.int p2), .val (.int p3), .val (.int p4), .val (.int p5), .val (.int (Int32.ofNat k)), .val (.ref b453), .val (.ref rr473), .val (.ref rr476), .val (.int (Int32.ofNat (own_no y470 k))), .val (.int (Int32.ofNat (own_fF y470 (61 : Int32) (own_ls y470 (47 : Int32) k) k))), .val (.int (Int32.ofNat (own_fF y470 (58 : Int32) (own_ls y470 (47 : Int32) k) (own_fF y470 (61 : Int32) (own_ls y470 (47 : Int32) k) k)))), .val (.int (Int32.ofNat (own_no y470 k))), .val (.int (Int32.ofNat (own_nl y470 k)))] [(.ref b453), (.int (Int32.ofNat (own_nl y470 k))), (.ref rr476)])) (fun _ kt => XS.aload X514.here hx rfl (hb hby at_179) rfl rfl kt) ?_
    refine Rch.of (T' := T514) (g' := (mkF m 183 #[.val (.int p0), .val (.int p1), .val (.int p2), .val (.int p3), .val (.int p4), .val (.int p5), .val (.int (Int32.ofNat k)), .val (.ref b453), .val (.ref rr473), .val (.ref rr476), .val (.int (Int32.ofNat (own_no y470 k))), .val (.int (Int32.ofNat (own_fF y470 (61 : Int32) (own_ls y470 (47 : Int32) k) k))), .val (.int (Int32.ofNat (own_fF y470 (58 : Int32) (own_ls y470 (47 : Int32) k) (own_fF y470 (61 : Int32) (own_ls y470 (47 : Int32) k) k)))), .val (.int (Int32.ofNat (own_no y470 k))), .val (.int (Int32.ofNat (own_nl y470 k)))] [(.int (Int32.ofNat (own_no y470 k))), (.ref b453), (.int (Int32.ofNat (own_nl y470 k))), (.ref rr476)])) (fun _ kt => XS.iload X514.here hx rfl (hb hby at_181) rfl  kt) ?_
    refine Rch.of (T' := T514) (g' := (mkF m 184 #[.val (.int p0), .val (.int p1), .val (.int p2), .val (.int p3), .val (.int p4), .val (.int p5), .val (.int (Int32.ofNat k)), .val (.ref b453), .val (.ref rr473), .val (.ref rr476), .val (.int (Int32.ofNat (own_no y470 k))), .val (.int (Int32.ofNat (own_fF y470 (61 : Int32) (own_ls y470 (47 : Int32) k) k))), .val (.int (Int32.ofNat (own_fF y470 (58 : Int32) (own_ls y470 (47 : Int32) k) (own_fF y470 (61 : Int32) (own_ls y470 (47 : Int32) k) k)))), .val (.int (Int32.ofNat (own_no y470 k))), .val (.int (Int32.ofNat (own_nl y470 k)))] [(.int (2 : Int32)), (.int (Int32.ofNat (own_no y470 k))), (.ref b453), (.int (Int32.ofNat (own_nl y470 k))), (.ref rr476)])) (fun _ kt => XS.iconst X514.here hx rfl (hb hby at_183) kt) ?_
    have pr518 : (own_no y470 k) + (own_nl y470 k) ≤ 5 := by omega
    have pr519 : 2 ≤ 4 := by omega
    obtain ⟨_, _, ⟨T517, L517, k517, n517⟩, -, X517, ⟨Lc517, hQ517, l517, y517, z517⟩, st517⟩ := Jvm.LawKit.callS X514 hx (y := (⟨"com/example/isidore/isidore/rulesets/mwsdn/PathNamesNodePinLaw", "at", "(Ljava/lang/String;I[CII)Z"⟩ : MethodName)) hown (mvT hZ (hw _ (List.mem_of_getElem? (i := 114) rfl))) (mvT hZ (hw _ (List.mem_of_getElem? (i := 115) rfl))) (mvT hZ (hw _ (List.mem_of_getElem? (i := 3) rfl))) (mvT hZ (hw _ (List.mem_of_getElem? (i := 116) rfl))) (by decide) (backOf (W := 0) (rk5 l Z a0 hw [] rr476 rb476 (own_nl y470 k) rt476 b453 y470 (own_no y470 k) 2 cs sv T476.heap n0 (Nat.le_trans (Nat.le_trans (Nat.le_trans Fb468 (Keep.of_wr W470).1) K473.1) K476.1) Ex476 Fa476 Fb476 V476 ((V470.keep K473 nin0).keep K476 nin0) Eq476 pr518 pr519 hch513 (S1.ext ((((((((O0.ext E453).wr W455 ge_b453).wr W458 ge_b453).wr W462 ge_b453).wr W465 ge_b453).wr W470 ge_b453).keep K473 all0).keep K476 all0).2) hcs (SI0.ext ((((((((O0.ext E453).wr W455 ge_b453).wr W458 ge_b453).wr W462 ge_b453).wr W465 ge_b453).wr W470 ge_b453).keep K473 all0).keep K476 all0).2) hsv) hZ (hw _ (List.mem_of_getElem? (i := 116) rfl)) (hw _ (List.mem_of_getElem? (i := 3) rfl)) (by decide) (by decide)) (g := (mkF m 184 #[.val (.int p0), .val (.int p1), .val (.int p2), .val (.int p3), .val (.int p4), .val (.int p5), .val (.int (Int32.ofNat k)), .val (.ref b453), .val (.ref rr473), .val (.ref rr476), .val (.int (Int32.ofNat (own_no y470 k))), .val (.int (Int32.ofNat (own_fF y470 (61 : Int32) (own_ls y470 (47 : Int32) k) k))), .val (.int (Int32.ofNat (own_fF y470 (58 : Int32) (own_ls y470 (47 : Int32) k) (own_fF y470 (61 : Int32) (own_ls y470 (47 : Int32) k) k)))), .val (.int (Int32.ofNat (own_no y470 k))), .val (.int (Int32.ofNat (own_nl y470 k)))] [(.int (2 : Int32)), (.int (Int32.ofNat (own_no y470 k))), (.ref b453), (.int (Int32.ofNat (own_nl y470 k))), (.ref rr476)])) rfl (by rw [hml]; rfl) (argsL := [(.ref rr476), (.int (Int32.ofNat (own_nl y470 k))), (.ref b453), (.int (Int32.ofNat (own_no y470 k))), (.int (2 : Int32))]) (rest := []) (lenOf pd_20 rfl) rfl (by show 2 * 0 + _ ≤ _; exact Nat.le_of_eq rfl) (hb hby at_184) (fun _ _ => ⟨rfl, hQ514, (by decide : 13 + 0 ≤ _), (by decide : 49 + 0 ≤ _)⟩)
    dsimp only [Pt.U, Pt.locs, Pt.cells, Pt.slots] at X517 l517 y517 z517 st517 hQ517
    subst l517 y517 z517
    obtain ⟨rfl, N517q, hQ517⟩ := hQ517
    have N517 := Fr.app N514 N517q
    refine Rch.of (T' := T517) (g' := (mkF m 187 #[.val (.int p0), .val (.int p1), .val (.int p2), .val (.int p3), .val (.int p4), .val (.int p5), .val (.int (Int32.ofNat k)), .val (.ref b453), .val (.ref rr473), .val (.ref rr476), .val (.int (Int32.ofNat (own_no y470 k))), .val (.int (Int32.ofNat (own_fF y470 (61 : Int32) (own_ls y470 (47 : Int32) k) k))), .val (.int (Int32.ofNat (own_fF y470 (58 : Int32) (own_ls y470 (47 : Int32) k) (own_fF y470 (61 : Int32) (own_ls y470 (47 : Int32) k) k)))), .val (.int (Int32.ofNat (own_no y470 k))), .val (.int (Int32.ofNat (own_nl y470 k)))] [(.int (1 : Int32))])) st517 ?_
    refine Rch.of (T' := T517) (g' := (mkF m 190 #[.val (.int p0), .val (.int p1), .val (.int p2), .val (.int p3), .val (.int p4), .val (.int p5), .val (.int (Int32.ofNat k)), .val (.ref b453), .val (.ref rr473), .val (.ref rr476), .val (.int (Int32.ofNat (own_no y470 k))), .val (.int (Int32.ofNat (own_fF y470 (61 : Int32) (own_ls y470 (47 : Int32) k) k))), .val (.int (Int32.ofNat (own_fF y470 (58 : Int32) (own_ls y470 (47 : Int32) k) (own_fF y470 (61 : Int32) (own_ls y470 (47 : Int32) k) k)))), .val (.int (Int32.ofNat (own_no y470 k))), .val (.int (Int32.ofNat (own_nl y470 k)))] [])) (fun _ kt => XS.ifNo X517.here hx rfl (hb hby at_187) rfl ((if0 _ _).trans (feq ((by decide) : ¬ ((1 : Int32) = (0 : Int32)))).1) kt) ?_
    refine Rch.of (T' := T517) (g' := (mkF m 192 #[.val (.int p0), .val (.int p1), .val (.int p2), .val (.int p3), .val (.int p4), .val (.int p5), .val (.int (Int32.ofNat k)), .val (.ref b453), .val (.ref rr473), .val (.ref rr476), .val (.int (Int32.ofNat (own_no y470 k))), .val (.int (Int32.ofNat (own_fF y470 (61 : Int32) (own_ls y470 (47 : Int32) k) k))), .val (.int (Int32.ofNat (own_fF y470 (58 : Int32) (own_ls y470 (47 : Int32) k) (own_fF y470 (61 : Int32) (own_ls y470 (47 : Int32) k) k)))), .val (.int (Int32.ofNat (own_no y470 k))), .val (.int (Int32.ofNat (own_nl y470 k)))] [(.ref rr476)])) (fun _ kt => XS.aload X517.here hx rfl (hb hby at_190) rfl rfl kt) ?_
    refine Rch.of (T' := T517) (g' := (mkF m 194 #[.val (.int p0), .val (.int p1), .val (.int p2), .val (.int p3), .val (.int p4), .val (.int p5), .val (.int (Int32.ofNat k)), .val (.ref b453), .val (.ref rr473), .val (.ref rr476), .val (.int (Int32.ofNat (own_no y470 k))), .val (.int (Int32.ofNat (own_fF y470 (61 : Int32) (own_ls y470 (47 : Int32) k) k))), .val (.int (Int32.ofNat (own_fF y470 (58 : Int32) (own_ls y470 (47 : Int32) k) (own_fF y470 (61 : Int32) (own_ls y470 (47 : Int32) k) k)))), .val (.int (Int32.ofNat (own_no y470 k))), .val (.int (Int32.ofNat (own_nl y470 k)))] [(.int (Int32.ofNat (own_nl y470 k))), (.ref rr476)])) (fun _ kt => XS.iload X517.here hx rfl (hb hby at_192) rfl  kt) ?_
    refine Rch.of (T' := T517) (g' := (mkF m 196 #[.val (.int p0), .val (.int p1), .val (.int p2), .val (.int p3), .val (.int p4), .val (.int p5), .val (.int (Int32.ofNat k)), .val (.ref b453), .val (.ref rr473), .val (.ref rr476), .val (.int (Int32.ofNat (own_no y470 k))), .val (.int (Int32.ofNat (own_fF y470 (61 : Int32) (own_ls y470 (47 : Int32) k) k))), .val (.int (Int32.ofNat (own_fF y470 (58 : Int32) (own_ls y470 (47 : Int32) k) (own_fF y470 (61 : Int32) (own_ls y470 (47 : Int32) k) k)))), .val (.int (Int32.ofNat (own_no y470 k))), .val (.int (Int32.ofNat (own_nl y470 k)))] [(.ref b453), (.int (Int32.ofNat (own_nl y470 k))), (.ref rr476)])) (fun _ kt => XS.aload X517.here hx rfl (hb hby at_194) rfl rfl kt) ?_
    refine Rch.of (T' := T517) (g' := (mkF m 198 #[.val (.int p0), .val (.int p1), .val (.int p2), .val (.int p3), .val (.int p4), .val (.int p5), .val (.int (Int32.ofNat k)), .val (.ref b453), .val (.ref rr473), .val (.ref rr476), .val (.int (Int32.ofNat (own_no y470 k))), .val (.int (Int32.ofNat (own_fF y470 (61 : Int32) (own_ls y470 (47 : Int32) k) k))), .val (.int (Int32.ofNat (own_fF y470 (58 : Int32) (own_ls y470 (47 : Int32) k) (own_fF y470 (61 : Int32) (own_ls y470 (47 : Int32) k) k)))), .val (.int (Int32.ofNat (own_no y470 k))), .val (.int (Int32.ofNat (own_nl y470 k)))] [(.int (Int32.ofNat (own_no y470 k))), (.ref b453), (.int (Int32.ofNat (own_nl y470 k))), (.ref rr476)])) (fun _ kt => XS.iload X517.here hx rfl (hb hby at_196) rfl  kt) ?_
    refine Rch.of (T' := T517) (g' := (mkF m 199 #[.val (.int p0), .val (.int p1), .val (.int p2), .val (.int p3), .val (.int p4), .val (.int p5), .val (.int (Int32.ofNat k)), .val (.ref b453), .val (.ref rr473), .val (.ref rr476), .val (.int (Int32.ofNat (own_no y470 k))), .val (.int (Int32.ofNat (own_fF y470 (61 : Int32) (own_ls y470 (47 : Int32) k) k))), .val (.int (Int32.ofNat (own_fF y470 (58 : Int32) (own_ls y470 (47 : Int32) k) (own_fF y470 (61 : Int32) (own_ls y470 (47 : Int32) k) k)))), .val (.int (Int32.ofNat (own_no y470 k))), .val (.int (Int32.ofNat (own_nl y470 k)))] [(.int (3 : Int32)), (.int (Int32.ofNat (own_no y470 k))), (.ref b453), (.int (Int32.ofNat (own_nl y470 k))), (.ref rr476)])) (fun _ kt => XS.iconst X517.here hx rfl (hb hby at_198) kt) ?_
    have pr521 : (own_no y470 k) + (own_nl y470 k) ≤ 5 := by omega
    have pr522 : 3 ≤ 4 := by omega
    obtain ⟨_, _, ⟨T520, L520, k520, n520⟩, -, X520, ⟨Lc520, hQ520, l520, y520, z520⟩, st520⟩ := Jvm.LawKit.callS X517 hx (y := (⟨"com/example/isidore/isidore/rulesets/mwsdn/PathNamesNodePinLaw", "at", "(Ljava/lang/String;I[CII)Z"⟩ : MethodName)) hown (mvT hZ (hw _ (List.mem_of_getElem? (i := 114) rfl))) (mvT hZ (hw _ (List.mem_of_getElem? (i := 115) rfl))) (mvT hZ (hw _ (List.mem_of_getElem? (i := 3) rfl))) (mvT hZ (hw _ (List.mem_of_getElem? (i := 116) rfl))) (by decide) (backOf (W := 0) (rk5 l Z a0 hw [] rr476 rb476 (own_nl y470 k) rt476 b453 y470 (own_no y470 k) 3 cs sv T476.heap n0 (Nat.le_trans (Nat.le_trans (Nat.le_trans Fb468 (Keep.of_wr W470).1) K473.1) K476.1) Ex476 Fa476 Fb476 V476 ((V470.keep K473 nin0).keep K476 nin0) Eq476 pr521 pr522 hch513 (S1.ext ((((((((O0.ext E453).wr W455 ge_b453).wr W458 ge_b453).wr W462 ge_b453).wr W465 ge_b453).wr W470 ge_b453).keep K473 all0).keep K476 all0).2) hcs (SI0.ext ((((((((O0.ext E453).wr W455 ge_b453).wr W458 ge_b453).wr W462 ge_b453).wr W465 ge_b453).wr W470 ge_b453).keep K473 all0).keep K476 all0).2) hsv) hZ (hw _ (List.mem_of_getElem? (i := 116) rfl)) (hw _ (List.mem_of_getElem? (i := 3) rfl)) (by decide) (by decide)) (g := (mkF m 199 #[.val (.int p0), .val (.int p1), .val (.int p2), .val (.int p3), .val (.int p4), .val (.int p5), .val (.int (Int32.ofNat k)), .val (.ref b453), .val (.ref rr473), .val (.ref rr476), .val (.int (Int32.ofNat (own_no y470 k))), .val (.int (Int32.ofNat (own_fF y470 (61 : Int32) (own_ls y470 (47 : Int32) k) k))), .val (.int (Int32.ofNat (own_fF y470 (58 : Int32) (own_ls y470 (47 : Int32) k) (own_fF y470 (61 : Int32) (own_ls y470 (47 : Int32) k) k)))), .val (.int (Int32.ofNat (own_no y470 k))), .val (.int (Int32.ofNat (own_nl y470 k)))] [(.int (3 : Int32)), (.int (Int32.ofNat (own_no y470 k))), (.ref b453), (.int (Int32.ofNat (own_nl y470 k))), (.ref rr476)])) rfl (by rw [hml]; rfl) (argsL := [(.ref rr476), (.int (Int32.ofNat (own_nl y470 k))), (.ref b453), (.int (Int32.ofNat (own_no y470 k))), (.int (3 : Int32))]) (rest := []) (lenOf pd_20 rfl) rfl (by show 2 * 0 + _ ≤ _; exact Nat.le_of_eq rfl) (hb hby at_199) (fun _ _ => ⟨rfl, hQ517, (by decide : 13 + 0 ≤ _), (by decide : 49 + 0 ≤ _)⟩)
    dsimp only [Pt.U, Pt.locs, Pt.cells, Pt.slots] at X520 l520 y520 z520 st520 hQ520
    subst l520 y520 z520
    obtain ⟨rfl, N520q, hQ520⟩ := hQ520
    have N520 := Fr.app N517 N520q
    refine Rch.of (T' := T520) (g' := (mkF m 202 #[.val (.int p0), .val (.int p1), .val (.int p2), .val (.int p3), .val (.int p4), .val (.int p5), .val (.int (Int32.ofNat k)), .val (.ref b453), .val (.ref rr473), .val (.ref rr476), .val (.int (Int32.ofNat (own_no y470 k))), .val (.int (Int32.ofNat (own_fF y470 (61 : Int32) (own_ls y470 (47 : Int32) k) k))), .val (.int (Int32.ofNat (own_fF y470 (58 : Int32) (own_ls y470 (47 : Int32) k) (own_fF y470 (61 : Int32) (own_ls y470 (47 : Int32) k) k)))), .val (.int (Int32.ofNat (own_no y470 k))), .val (.int (Int32.ofNat (own_nl y470 k)))] [(.int (1 : Int32))])) st520 ?_
    refine Rch.of (T' := T520) (g' := (mkF m 205 #[.val (.int p0), .val (.int p1), .val (.int p2), .val (.int p3), .val (.int p4), .val (.int p5), .val (.int (Int32.ofNat k)), .val (.ref b453), .val (.ref rr473), .val (.ref rr476), .val (.int (Int32.ofNat (own_no y470 k))), .val (.int (Int32.ofNat (own_fF y470 (61 : Int32) (own_ls y470 (47 : Int32) k) k))), .val (.int (Int32.ofNat (own_fF y470 (58 : Int32) (own_ls y470 (47 : Int32) k) (own_fF y470 (61 : Int32) (own_ls y470 (47 : Int32) k) k)))), .val (.int (Int32.ofNat (own_no y470 k))), .val (.int (Int32.ofNat (own_nl y470 k)))] [])) (fun _ kt => XS.ifNo X520.here hx rfl (hb hby at_202) rfl ((if0 _ _).trans (feq ((by decide) : ¬ ((1 : Int32) = (0 : Int32)))).1) kt) ?_
    refine Rch.of (T' := T520) (g' := (mkF m 207 #[.val (.int p0), .val (.int p1), .val (.int p2), .val (.int p3), .val (.int p4), .val (.int p5), .val (.int (Int32.ofNat k)), .val (.ref b453), .val (.ref rr473), .val (.ref rr476), .val (.int (Int32.ofNat (own_no y470 k))), .val (.int (Int32.ofNat (own_fF y470 (61 : Int32) (own_ls y470 (47 : Int32) k) k))), .val (.int (Int32.ofNat (own_fF y470 (58 : Int32) (own_ls y470 (47 : Int32) k) (own_fF y470 (61 : Int32) (own_ls y470 (47 : Int32) k) k)))), .val (.int (Int32.ofNat (own_no y470 k))), .val (.int (Int32.ofNat (own_nl y470 k)))] [(.ref rr476)])) (fun _ kt => XS.aload X520.here hx rfl (hb hby at_205) rfl rfl kt) ?_
    refine Rch.of (T' := T520) (g' := (mkF m 209 #[.val (.int p0), .val (.int p1), .val (.int p2), .val (.int p3), .val (.int p4), .val (.int p5), .val (.int (Int32.ofNat k)), .val (.ref b453), .val (.ref rr473), .val (.ref rr476), .val (.int (Int32.ofNat (own_no y470 k))), .val (.int (Int32.ofNat (own_fF y470 (61 : Int32) (own_ls y470 (47 : Int32) k) k))), .val (.int (Int32.ofNat (own_fF y470 (58 : Int32) (own_ls y470 (47 : Int32) k) (own_fF y470 (61 : Int32) (own_ls y470 (47 : Int32) k) k)))), .val (.int (Int32.ofNat (own_no y470 k))), .val (.int (Int32.ofNat (own_nl y470 k)))] [(.int (Int32.ofNat (own_nl y470 k))), (.ref rr476)])) (fun _ kt => XS.iload X520.here hx rfl (hb hby at_207) rfl  kt) ?_
    refine Rch.of (T' := T520) (g' := (mkF m 211 #[.val (.int p0), .val (.int p1), .val (.int p2), .val (.int p3), .val (.int p4), .val (.int p5), .val (.int (Int32.ofNat k)), .val (.ref b453), .val (.ref rr473), .val (.ref rr476), .val (.int (Int32.ofNat (own_no y470 k))), .val (.int (Int32.ofNat (own_fF y470 (61 : Int32) (own_ls y470 (47 : Int32) k) k))), .val (.int (Int32.ofNat (own_fF y470 (58 : Int32) (own_ls y470 (47 : Int32) k) (own_fF y470 (61 : Int32) (own_ls y470 (47 : Int32) k) k)))), .val (.int (Int32.ofNat (own_no y470 k))), .val (.int (Int32.ofNat (own_nl y470 k)))] [(.ref b453), (.int (Int32.ofNat (own_nl y470 k))), (.ref rr476)])) (fun _ kt => XS.aload X520.here hx rfl (hb hby at_209) rfl rfl kt) ?_
    refine Rch.of (T' := T520) (g' := (mkF m 213 #[.val (.int p0), .val (.int p1), .val (.int p2), .val (.int p3), .val (.int p4), .val (.int p5), .val (.int (Int32.ofNat k)), .val (.ref b453), .val (.ref rr473), .val (.ref rr476), .val (.int (Int32.ofNat (own_no y470 k))), .val (.int (Int32.ofNat (own_fF y470 (61 : Int32) (own_ls y470 (47 : Int32) k) k))), .val (.int (Int32.ofNat (own_fF y470 (58 : Int32) (own_ls y470 (47 : Int32) k) (own_fF y470 (61 : Int32) (own_ls y470 (47 : Int32) k) k)))), .val (.int (Int32.ofNat (own_no y470 k))), .val (.int (Int32.ofNat (own_nl y470 k)))] [(.int (Int32.ofNat (own_no y470 k))), (.ref b453), (.int (Int32.ofNat (own_nl y470 k))), (.ref rr476)])) (fun _ kt => XS.iload X520.here hx rfl (hb hby at_211) rfl  kt) ?_
    refine Rch.of (T' := T520) (g' := (mkF m 214 #[.val (.int p0), .val (.int p1), .val (.int p2), .val (.int p3), .val (.int p4), .val (.int p5), .val (.int (Int32.ofNat k)), .val (.ref b453), .val (.ref rr473), .val (.ref rr476), .val (.int (Int32.ofNat (own_no y470 k))), .val (.int (Int32.ofNat (own_fF y470 (61 : Int32) (own_ls y470 (47 : Int32) k) k))), .val (.int (Int32.ofNat (own_fF y470 (58 : Int32) (own_ls y470 (47 : Int32) k) (own_fF y470 (61 : Int32) (own_ls y470 (47 : Int32) k) k)))), .val (.int (Int32.ofNat (own_no y470 k))), .val (.int (Int32.ofNat (own_nl y470 k)))] [(.int (4 : Int32)), (.int (Int32.ofNat (own_no y470 k))), (.ref b453), (.int (Int32.ofNat (own_nl y470 k))), (.ref rr476)])) (fun _ kt => XS.iconst X520.here hx rfl (hb hby at_213) kt) ?_
    have pr524 : (own_no y470 k) + (own_nl y470 k) ≤ 5 := by omega
    have pr525 : 4 ≤ 4 := by omega
    obtain ⟨_, _, ⟨T523, L523, k523, n523⟩, -, X523, ⟨Lc523, hQ523, l523, y523, z523⟩, st523⟩ := Jvm.LawKit.callS X520 hx (y := (⟨"com/example/isidore/isidore/rulesets/mwsdn/PathNamesNodePinLaw", "at", "(Ljava/lang/String;I[CII)Z"⟩ : MethodName)) hown (mvT hZ (hw _ (List.mem_of_getElem? (i := 114) rfl))) (mvT hZ (hw _ (List.mem_of_getElem? (i := 115) rfl))) (mvT hZ (hw _ (List.mem_of_getElem? (i := 3) rfl))) (mvT hZ (hw _ (List.mem_of_getElem? (i := 116) rfl))) (by decide) (backOf (W := 0) (rk5 l Z a0 hw [] rr476 rb476 (own_nl y470 k) rt476 b453 y470 (own_no y470 k) 4 cs sv T476.heap n0 (Nat.le_trans (Nat.le_trans (Nat.le_trans Fb468 (Keep.of_wr W470).1) K473.1) K476.1) Ex476 Fa476 Fb476 V476 ((V470.keep K473 nin0).keep K476 nin0) Eq476 pr524 pr525 hch513 (S1.ext ((((((((O0.ext E453).wr W455 ge_b453).wr W458 ge_b453).wr W462 ge_b453).wr W465 ge_b453).wr W470 ge_b453).keep K473 all0).keep K476 all0).2) hcs (SI0.ext ((((((((O0.ext E453).wr W455 ge_b453).wr W458 ge_b453).wr W462 ge_b453).wr W465 ge_b453).wr W470 ge_b453).keep K473 all0).keep K476 all0).2) hsv) hZ (hw _ (List.mem_of_getElem? (i := 116) rfl)) (hw _ (List.mem_of_getElem? (i := 3) rfl)) (by decide) (by decide)) (g := (mkF m 214 #[.val (.int p0), .val (.int p1), .val (.int p2), .val (.int p3), .val (.int p4), .val (.int p5), .val (.int (Int32.ofNat k)), .val (.ref b453), .val (.ref rr473), .val (.ref rr476), .val (.int (Int32.ofNat (own_no y470 k))), .val (.int (Int32.ofNat (own_fF y470 (61 : Int32) (own_ls y470 (47 : Int32) k) k))), .val (.int (Int32.ofNat (own_fF y470 (58 : Int32) (own_ls y470 (47 : Int32) k) (own_fF y470 (61 : Int32) (own_ls y470 (47 : Int32) k) k)))), .val (.int (Int32.ofNat (own_no y470 k))), .val (.int (Int32.ofNat (own_nl y470 k)))] [(.int (4 : Int32)), (.int (Int32.ofNat (own_no y470 k))), (.ref b453), (.int (Int32.ofNat (own_nl y470 k))), (.ref rr476)])) rfl (by rw [hml]; rfl) (argsL := [(.ref rr476), (.int (Int32.ofNat (own_nl y470 k))), (.ref b453), (.int (Int32.ofNat (own_no y470 k))), (.int (4 : Int32))]) (rest := []) (lenOf pd_20 rfl) rfl (by show 2 * 0 + _ ≤ _; exact Nat.le_of_eq rfl) (hb hby at_214) (fun _ _ => ⟨rfl, hQ520, (by decide : 13 + 0 ≤ _), (by decide : 49 + 0 ≤ _)⟩)
    dsimp only [Pt.U, Pt.locs, Pt.cells, Pt.slots] at X523 l523 y523 z523 st523 hQ523
    subst l523 y523 z523
    obtain ⟨rfl, N523q, hQ523⟩ := hQ523
    have N523 := Fr.app N520 N523q
    refine Rch.of (T' := T523) (g' := (mkF m 217 #[.val (.int p0), .val (.int p1), .val (.int p2), .val (.int p3), .val (.int p4), .val (.int p5), .val (.int (Int32.ofNat k)), .val (.ref b453), .val (.ref rr473), .val (.ref rr476), .val (.int (Int32.ofNat (own_no y470 k))), .val (.int (Int32.ofNat (own_fF y470 (61 : Int32) (own_ls y470 (47 : Int32) k) k))), .val (.int (Int32.ofNat (own_fF y470 (58 : Int32) (own_ls y470 (47 : Int32) k) (own_fF y470 (61 : Int32) (own_ls y470 (47 : Int32) k) k)))), .val (.int (Int32.ofNat (own_no y470 k))), .val (.int (Int32.ofNat (own_nl y470 k)))] [(.int (1 : Int32))])) st523 ?_
    refine Rch.of (T' := T523) (g' := (mkF m 220 #[.val (.int p0), .val (.int p1), .val (.int p2), .val (.int p3), .val (.int p4), .val (.int p5), .val (.int (Int32.ofNat k)), .val (.ref b453), .val (.ref rr473), .val (.ref rr476), .val (.int (Int32.ofNat (own_no y470 k))), .val (.int (Int32.ofNat (own_fF y470 (61 : Int32) (own_ls y470 (47 : Int32) k) k))), .val (.int (Int32.ofNat (own_fF y470 (58 : Int32) (own_ls y470 (47 : Int32) k) (own_fF y470 (61 : Int32) (own_ls y470 (47 : Int32) k) k)))), .val (.int (Int32.ofNat (own_no y470 k))), .val (.int (Int32.ofNat (own_nl y470 k)))] [])) (fun _ kt => XS.ifNo X523.here hx rfl (hb hby at_217) rfl ((if0 _ _).trans (feq ((by decide) : ¬ ((1 : Int32) = (0 : Int32)))).1) kt) ?_
    refine Rch.of (T' := T523) (g' := (mkF m 221 #[.val (.int p0), .val (.int p1), .val (.int p2), .val (.int p3), .val (.int p4), .val (.int p5), .val (.int (Int32.ofNat k)), .val (.ref b453), .val (.ref rr473), .val (.ref rr476), .val (.int (Int32.ofNat (own_no y470 k))), .val (.int (Int32.ofNat (own_fF y470 (61 : Int32) (own_ls y470 (47 : Int32) k) k))), .val (.int (Int32.ofNat (own_fF y470 (58 : Int32) (own_ls y470 (47 : Int32) k) (own_fF y470 (61 : Int32) (own_ls y470 (47 : Int32) k) k)))), .val (.int (Int32.ofNat (own_no y470 k))), .val (.int (Int32.ofNat (own_nl y470 k)))] [(.int (1 : Int32))])) (fun _ kt => XS.iconst X523.here hx rfl (hb hby at_220) kt) ?_
    refine Rch.of (T' := T523) (g' := (mkF m 225 #[.val (.int p0), .val (.int p1), .val (.int p2), .val (.int p3), .val (.int p4), .val (.int p5), .val (.int (Int32.ofNat k)), .val (.ref b453), .val (.ref rr473), .val (.ref rr476), .val (.int (Int32.ofNat (own_no y470 k))), .val (.int (Int32.ofNat (own_fF y470 (61 : Int32) (own_ls y470 (47 : Int32) k) k))), .val (.int (Int32.ofNat (own_fF y470 (58 : Int32) (own_ls y470 (47 : Int32) k) (own_fF y470 (61 : Int32) (own_ls y470 (47 : Int32) k) k)))), .val (.int (Int32.ofNat (own_no y470 k))), .val (.int (Int32.ofNat (own_nl y470 k)))] [(.int (1 : Int32))])) (fun _ kt => XS.goto X523.here hx rfl (pc0 := 221) (pc' := 225) rfl (hb hby at_221) (by decide) (by decide) kt) ?_
    exact Rch.retN X523 hx (t := .boolean) hret (by simp) hlk (hb hby at_225) (fun U hU hF => hK _ U _ _ _ (by show Q_rm0 Z p0 p1 p2 p3 p4 p5 cs sv h0 n0 _ U.heap _; rw [hU, hQ523]; exact ⟨rfl, N523, trivial⟩) (own_endH hZ hEL ((Rb472.trans cr473).trans cr476) (hU.trans hQ523) hF) (own_end hS476 (by rw [hU, hQ523]; exact (Nat.le_refl _)) hF) (by decide) (by decide))
set_option maxRecDepth 65536 in
set_option maxHeartbeats 40000000 in
theorem comes_1 {Post : Tables → Env → Array Value → State → Outcome → State → Prop} (hpost : ∀ tb e args s v u, (limb_1_1.after args s (.returned v) u = true ∧ limb_1_2.after args s (.returned v) u = true ∧ True) → ReturnedEndW s (.returned v) u (Jvm.fieldLocs frame_1_writes args s ++ Jvm.arrayLocs frame_1_arrays args s ++ Jvm.staticLocs frame_1_statics s) 32 2240 → Post tb e args s (.returned v) u) :
    ArmFor flags0 classFile x code maxLocals ret World_1 tables_1 room_1 Calls_1 rest_1 Pre_1 Post := by
  intro l hfl _ _ p e ha hc hk s m args below hf hA hF happ hP
  obtain ⟨hcalls, hrest, hpre⟩ := hP
  obtain ⟨-, -, -, hnamed, -, -, -, hat⟩ := (Spec.applies_iff hf).mp happ
  obtain ⟨hg, hn⟩ := and_e (Cond.before_iff.mp (show (Jvm.Cond.and given_1 narrow_1).before args s = true from hpre))
  obtain ⟨g0, hg0⟩ := and_e hg
  obtain ⟨ga0, hg1⟩ := and_e hg0
  obtain ⟨ga1, hg2⟩ := and_e hg1
  obtain ⟨ga2, hg3⟩ := and_e hg2
  obtain ⟨ga3, hg4⟩ := and_e hg3
  obtain ⟨ga4, hg5⟩ := and_e hg4
  obtain ⟨w0, w1, w2, w3, w4, w5, rfl⟩ : ∃ w0 w1 w2 w3 w4 w5 : Value, args = #[w0, w1, w2, w3, w4, w5] := by
    have hs : args.size = 6 := by simpa [Cond.value, given_1] using g0
    obtain ⟨L⟩ := args
    match L, hs with
    | [w0, w1, w2, w3, w4, w5], _ => exact ⟨w0, w1, w2, w3, w4, w5, rfl⟩
  have hw := fun d (hd : d ∈ tables_1) => atoms_spec (ws := Jvm.Cond.code x code maxLocals ret :: tables_1) hat d (List.mem_cons_of_mem _ hd)
  obtain ⟨hsets, hown0⟩ := atoms_of _ (rest_1_c_eq ▸ (show rest_1_c.before _ s = true from hrest))
  obtain ⟨i0, ei0⟩ := is_v ga0
  obtain rfl : w0 = (.int i0) := Option.some.inj ei0
  obtain ⟨i1, ei1⟩ := is_v ga1
  obtain rfl : w1 = (.int i1) := Option.some.inj ei1
  obtain ⟨i2, ei2⟩ := is_v ga2
  obtain rfl : w2 = (.int i2) := Option.some.inj ei2
  obtain ⟨i3, ei3⟩ := is_v ga3
  obtain rfl : w3 = (.int i3) := Option.some.inj ei3
  obtain ⟨i4, ei4⟩ := is_v ga4
  obtain rfl : w4 = (.int i4) := Option.some.inj ei4
  obtain ⟨i5, ei5⟩ := is_v hg5
  obtain rfl : w5 = (.int i5) := Option.some.inj ei5
  have hfit : Fit s := fun {y c} hc i hi => by
    obtain ⟨ha, rfl⟩ := Array.getElem?_eq_some_iff.mp hc
    have q := List.all_eq_true.mp ((Array.all_eq_true_iff_forall_mem.mp hF) _ (Array.getElem_mem ha)) i (List.mem_range.mpr hi)
    simpa [Array.getElem?_eq_getElem hi] using q
  have q1 := Cond.before_iff.mp (hsets _ (List.mem_of_getElem? (i := 1) rfl))
  have q2 := Cond.before_iff.mp (hsets _ (List.mem_of_getElem? (i := 2) rfl))
  obtain ⟨cs, ec⟩ := is_v q1
  have Sc := Sta.start ec (Or.inl (hsets _ (List.mem_of_getElem? (i := 0) rfl)))
  have hcs : ¬ cs = (0 : Int32) := fun q => by
    have q3 := not_v q2
    rw [q] at ec
    rw [eq_i (y := .int 0) ec rfl rfl] at q3
    exact absurd q3 (by decide)
  obtain ⟨sv, esv, hsv⟩ := isR_v (Cond.before_iff.mp (hsets _ (List.mem_of_getElem? (i := 8) rfl)))
  have Si := Sta.start esv (Or.inl (hsets _ (List.mem_of_getElem? (i := 7) rfl)))
  have hC := CHv.start (own_EW hw) (fun q hq => hcalls.1 q hq) (hsets _ (List.mem_of_getElem? (i := 2) rfl)) (hw _ (List.mem_of_getElem? (i := 22) rfl)) (hw _ (List.mem_of_getElem? (i := 9) rfl))
  obtain ⟨n, o, h1, h2, h3, _, L, rfl, ⟨rfl, N, -⟩, -, hq⟩ := rm0 l s _ hw tables_1 i0 i1 i2 i3 i4 i5 cs sv s.heap s.heap.size (Nat.le_refl _) (Old.start s) Sc hcs Si hsv p e ha hc hk s m _ below hf ((Spec.applies_iff_loose hf).mp happ).1 ⟨rfl, State.Warmed39.refl s, rfl, hC⟩ trivial
  refine ⟨n, _, h1, h2, h3, hpost _ _ _ _ _ _ ⟨Cond.after_iff.mpr rfl, Cond.after_iff.mpr (eq_i res_at (Term.int_eval (1)) rfl), trivial⟩ ⟨hq.1, hq.2.1, hq.2.2.1, (hq.2.2.2.sift fun y hy => Or.inr (N y hy)).mono (by decide) (by decide)⟩⟩
theorem main_1_1 : Claimed_1_1 := comes_1 fun _ _ _ _ _ _ h hF => ⟨h.1, hF⟩
theorem main_1_2 : Claimed_1_2 := comes_1 fun _ _ _ _ _ _ h hF => ⟨h.2.1, hF⟩
end Jvm.Pilot.@@N@@
namespace Jvm.Pilot.@@N@@
open Jvm Jvm.ClassFile Sem Op Lib Jvm.Free Jvm.Stand Jvm.Pilot.@@N@@.Jvm.D
/-! MADE BY PROGRAM (witnessworld.py) out of the Statement's table words and the real class files: 23 classes; the members and pool entries that the words name. The judged class is class 1, her method 6. -/
namespace start1
open Jvm.ClassFile
def u (s : String) : CpInfo := .utf8 (stringToUtf16 s)
/-- a pool by its gaps: so many unusable entries, then the entry; so many at the end -/
def gap : Nat → List CpInfo → List CpInfo
  | 0, r => r
  | n + 1, r => .unusable :: gap n r
def poolList (es : List (Nat × CpInfo)) (last : Nat) : List CpInfo := es.foldr (fun e r => gap e.1 (e.2 :: r)) (gap last [])
def pool (es : List (Nat × CpInfo)) (last : Nat) : Array CpInfo := ⟨poolList es last⟩
def fileOf (pool : Array CpInfo) (this : Nat) (attrs : Array Attribute := #[]) (ms : Array MethodInfo := #[]) (fl : Nat := 33) (sup : Nat := 0) (ifs : Array Nat := #[]) (fds : Array FieldInfo := #[]) : ClassFile where
  minorVersion := 0
  majorVersion := 65
  constantPool := pool
  accessFlags := fl
  thisClass := this
  superClass := sup
  interfaces := ifs
  fields := fds
  methods := ms
  attributes := attrs
def plain (name : String) (sup : Option ClassId) : Class where
  name := name
  kind := .ordinary
  loader := none
  accessFlags := 33
  super := sup
  interfaces := #[]
  cf := none
  fields := #[]
  methods := #[]
  instanceTypes := #[]
  staticTypes := #[]
  resolved := #[]
  callSites := []
  init := .initialized
  statics := none
  mirror := none

def pool0 : Array CpInfo := pool [(5, u "<init>"), (0, u "()V"), (1, .class_ 10), (1, u "java/lang/Object")] 113

def k0c0 : Code := { maxStack := 0, maxLocals := 1, code := object_method_1_code, exceptionTable := #[], attributes := #[] }
def k0m0 : Method := { name := "<init>", desc := "()V", sig := { parameters := [], returnType := none }, accessFlags := 1, code := some k0c0 }
/-- java/lang/Object -/
def k0 : Class := { plain "java/lang/Object" none with
  accessFlags := 33
  interfaces := #[]
  cf := some (fileOf pool0 8 #[] #[{ accessFlags := 1, nameIndex := 5, descriptorIndex := 6, attributes := #[] }] 33 0 #[] #[])
  fields := #[]
  methods := #[k0m0]
  instanceTypes := #[]
  staticTypes := #[]
  resolved := Array.replicate 124 none
  statics := none }

def pool1 : Array CpInfo := pool [(2, .class_ 4), (1, u "java/lang/Object"), (0, u "<init>"), (0, u "()V"), (0, .class_ 8), (0, u "java/lang/String"), (0, .methodref 7 10), (0, .nameAndType 5 11), (0, u "([C)V"), (0, .methodref 7 13), (0, .nameAndType 14 15), (0, u "charAt"), (0, u "(I)C"), (0, .methodref 17 18), (0, .class_ 19), (0, .nameAndType 20 15), (0, u "com/example/isidore/isidore/rulesets/mwsdn/PathNamesNodePinLaw"), (0, u "ch"), (0, .methodref 17 22), (0, .nameAndType 23 24), (0, u "str"), (0, u "([CI)Ljava/lang/String;"), (0, .methodref 26 27), (0, .class_ 28), (0, .nameAndType 29 30), (0, u "com/example/isidore/isidore/rulesets/mwsdn/PathNames"), (0, u "node"), (0, u "(Ljava/lang/String;)Ljava/lang/String;"), (0, .methodref 17 32), (0, .nameAndType 33 34), (0, u "lastSlash"), (0, u "([CI)I"), (0, .methodref 17 36), (0, .nameAndType 37 38), (0, u "firstFrom"), (0, u "([CCII)I"), (0, .methodref 7 40), (0, .nameAndType 41 42), (0, u "length"), (0, u "()I"), (0, .methodref 17 44), (0, .nameAndType 45 46), (0, u "at"), (0, u "(Ljava/lang/String;I[CII)Z"), (3, u "law"), (0, u "(IIIIII)Z")] 4

def k1m0 : Method := { name := "<init>", desc := "()V", sig := { parameters := [], returnType := none }, accessFlags := 2, code := none }
def k1c1 : Code := { maxStack := 2, maxLocals := 2, code := method_2_code, exceptionTable := #[], attributes := #[] }
def k1m1 : Method := { name := "ch", desc := "(I)C", sig := { parameters := [.int], returnType := some .char }, accessFlags := 10, code := some k1c1 }
def k1c2 : Code := { maxStack := 7, maxLocals := 2, code := method_3_code, exceptionTable := #[], attributes := #[] }
def k1m2 : Method := { name := "str", desc := "([CI)Ljava/lang/String;", sig := { parameters := [(.array .char), .int], returnType := some (.object "java/lang/String") }, accessFlags := 10, code := some k1c2 }
def k1c3 : Code := { maxStack := 2, maxLocals := 3, code := method_4_code, exceptionTable := #[], attributes := #[] }
def k1m3 : Method := { name := "lastSlash", desc := "([CI)I", sig := { parameters := [(.array .char), .int], returnType := some .int }, accessFlags := 10, code := some k1c3 }
def k1c4 : Code := { maxStack := 2, maxLocals := 4, code := method_5_code, exceptionTable := #[], attributes := #[] }
def k1m4 : Method := { name := "firstFrom", desc := "([CCII)I", sig := { parameters := [(.array .char), .char, .int, .int], returnType := some .int }, accessFlags := 10, code := some k1c4 }
def k1c5 : Code := { maxStack := 4, maxLocals := 5, code := method_6_code, exceptionTable := #[], attributes := #[] }
def k1m5 : Method := { name := "at", desc := "(Ljava/lang/String;I[CII)Z", sig := { parameters := [(.object "java/lang/String"), .int, (.array .char), .int, .int], returnType := some .boolean }, accessFlags := 10, code := some k1c5 }
def k1c6 : Code := { maxStack := 5, maxLocals := 15, code := code, exceptionTable := #[], attributes := #[] }
def k1m6 : Method := { name := "law", desc := "(IIIIII)Z", sig := { parameters := [.int, .int, .int, .int, .int, .int], returnType := some .boolean }, accessFlags := 9, code := some k1c6 }
/-- com/example/isidore/isidore/rulesets/mwsdn/PathNamesNodePinLaw -/
def k1 : Class := { plain "com/example/isidore/isidore/rulesets/mwsdn/PathNamesNodePinLaw" (some 0) with
  accessFlags := 49
  interfaces := #[]
  cf := some (fileOf pool1 17 #[] #[{ accessFlags := 2, nameIndex := 5, descriptorIndex := 6, attributes := #[] }, { accessFlags := 10, nameIndex := 20, descriptorIndex := 15, attributes := #[] }, { accessFlags := 10, nameIndex := 23, descriptorIndex := 24, attributes := #[] }, { accessFlags := 10, nameIndex := 33, descriptorIndex := 34, attributes := #[] }, { accessFlags := 10, nameIndex := 37, descriptorIndex := 38, attributes := #[] }, { accessFlags := 10, nameIndex := 45, descriptorIndex := 46, attributes := #[] }, { accessFlags := 9, nameIndex := 50, descriptorIndex := 51, attributes := #[] }] 49 2 #[] #[])
  fields := #[]
  methods := #[k1m0, k1m1, k1m2, k1m3, k1m4, k1m5, k1m6]
  instanceTypes := #[]
  staticTypes := #[]
  resolved := Array.replicate 56 none
  statics := none }

def pool2 : Array CpInfo := pool [(1, .class_ 2), (0, u "java/io/Serializable"), (0, .class_ 4), (0, u "java/lang/Object")] 2

/-- java/io/Serializable -/
def k2 : Class := { plain "java/io/Serializable" (some 0) with
  accessFlags := 1537
  interfaces := #[]
  cf := some (fileOf pool2 1 #[] #[] 1537 3 #[] #[])
  fields := #[]
  methods := #[]
  instanceTypes := #[]
  staticTypes := #[]
  resolved := Array.replicate 7 none
  statics := none }

def pool3 : Array CpInfo := pool [(1, .class_ 2), (0, u "java/lang/Comparable"), (0, .class_ 4), (0, u "java/lang/Object")] 7

/-- java/lang/Comparable -/
def k3 : Class := { plain "java/lang/Comparable" (some 0) with
  accessFlags := 1537
  interfaces := #[]
  cf := some (fileOf pool3 1 #[] #[] 1537 3 #[] #[])
  fields := #[]
  methods := #[]
  instanceTypes := #[]
  staticTypes := #[]
  resolved := Array.replicate 12 none
  statics := none }

def pool4 : Array CpInfo := pool [(2, .class_ 4), (1, u "java/lang/CharSequence"), (42, .class_ 48), (0, u "java/lang/CharSequence$1CodePointIterator"), (10, .class_ 60), (0, u "java/lang/CharSequence$1CharIterator"), (5, .class_ 67), (0, u "java/lang/Object")] 63

/-- java/lang/CharSequence -/
def k4 : Class := { plain "java/lang/CharSequence" (some 0) with
  accessFlags := 1537
  interfaces := #[]
  cf := some (fileOf pool4 2 #[.nestMembers #[47, 59]] #[] 1537 66 #[] #[])
  fields := #[]
  methods := #[]
  instanceTypes := #[]
  staticTypes := #[]
  resolved := Array.replicate 131 none
  statics := none }

def pool5 : Array CpInfo := pool [(1, .class_ 2), (0, u "java/lang/constant/Constable"), (0, .class_ 4), (0, u "java/lang/Object")] 6

/-- java/lang/constant/Constable -/
def k5 : Class := { plain "java/lang/constant/Constable" (some 0) with
  accessFlags := 1537
  interfaces := #[]
  cf := some (fileOf pool5 1 #[] #[] 1537 3 #[] #[])
  fields := #[]
  methods := #[]
  instanceTypes := #[]
  staticTypes := #[]
  resolved := Array.replicate 11 none
  statics := none }

def pool6 : Array CpInfo := pool [(1, .class_ 2), (0, u "java/lang/constant/ConstantDesc"), (0, .class_ 4), (0, u "java/lang/Object")] 32

/-- java/lang/constant/ConstantDesc -/
def k6 : Class := { plain "java/lang/constant/ConstantDesc" (some 0) with
  accessFlags := 1537
  interfaces := #[]
  cf := some (fileOf pool6 1 #[] #[] 1537 3 #[] #[])
  fields := #[]
  methods := #[]
  instanceTypes := #[]
  staticTypes := #[]
  resolved := Array.replicate 37 none
  statics := none }

def pool7 : Array CpInfo := pool [(1, .methodref 2 3), (0, .class_ 4), (0, .nameAndType 5 6), (0, u "java/lang/Object"), (0, u "<init>"), (0, u "()V"), (0, .string 8), (0, u ""), (0, .fieldref 10 11), (0, .class_ 12), (0, .nameAndType 13 14), (0, u "java/lang/String"), (0, u "value"), (0, u "[B"), (0, .fieldref 10 16), (0, .nameAndType 17 18), (0, u "coder"), (0, u "B"), (2, u "hash"), (0, u "I"), (2, u "hashIsZero"), (0, u "Z"), (0, .methodref 10 28), (0, .nameAndType 5 29), (0, u "([CIILjava/lang/Void;)V"), (8, .fieldref 10 39), (0, .nameAndType 40 26), (0, u "COMPACT_STRINGS"), (1, .class_ 44), (1, u "java/lang/StringUTF16"), (0, u "compress"), (1, .methodref 42 48), (0, .nameAndType 49 50), (0, u "coderFromArrayLen"), (0, u "([BI)B"), (46, u "([BII)I"), (9, .class_ 109), (1, u "java/lang/StringLatin1"), (32, u "()Z"), (34, .methodref 42 178), (0, .nameAndType 45 179), (0, u "([CII)[B"), (31, u "([BB)V"), (122, u "()I"), (0, .methodref 10 336), (0, .nameAndType 17 337), (0, u "()B"), (25, u "([BI)C"), (27, u "(II)V"), (35, u "(I)C"), (64, .methodref 10 493), (0, .nameAndType 494 142), (0, u "isLatin1"), (0, .methodref 107 496), (0, .nameAndType 497 363), (0, u "charAt"), (3, u "checkIndex"), (3, .methodref 10 506), (0, .nameAndType 507 334), (0, u "length"), (5, u "checkFromToIndex"), (7, .methodref 10 522), (0, .nameAndType 523 524), (0, u "checkBoundsBeginEnd"), (0, u "(III)V"), (50, .class_ 576), (0, u "java/lang/CharSequence"), (22, u "CASE_INSENSITIVE_ORDER"), (0, u "Ljava/util/Comparator;"), (32, .methodref 10 634), (0, .nameAndType 635 636), (0, u "indexOf"), (0, u "(II)I"), (0, .methodref 107 638), (0, .nameAndType 635 639), (0, u "([BIII)I"), (1, .methodref 10 642), (0, .nameAndType 643 636), (0, u "lastIndexOf"), (0, .methodref 107 645), (0, .nameAndType 643 97), (35, .methodref 10 682), (0, .nameAndType 683 684), (0, u "substring"), (0, u "(II)Ljava/lang/String;"), (0, .methodref 107 686), (0, .nameAndType 687 688), (0, u "newString"), (0, u "([BII)Ljava/lang/String;"), (76, u "(I)I"), (126, u "(I)Ljava/lang/String;"), (117, u "([C)V"), (42, .fieldref 1054 1055), (0, .class_ 1056), (0, .nameAndType 1057 1058), (0, u "jdk/internal/util/Preconditions"), (0, u "SIOOBE_FORMATTER"), (0, u "Ljava/util/function/BiFunction;"), (0, .methodref 1054 1060), (0, .nameAndType 501 1061), (0, u "(IILjava/util/function/BiFunction;)I"), (0, .methodref 1054 1063), (0, .nameAndType 513 1064), (0, u "(IIILjava/util/function/BiFunction;)I"), (36, u "serialPersistentFields"), (0, u "[Ljava/io/ObjectStreamField;"), (0, .class_ 1104), (0, u "java/lang/String$CaseInsensitiveComparator"), (1, .class_ 1107), (0, u "java/io/Serializable"), (0, .class_ 1109), (0, u "java/lang/Comparable"), (0, .class_ 1111), (0, u "java/lang/constant/Constable"), (0, .class_ 1113), (0, u "java/lang/constant/ConstantDesc"), (2, u "serialVersionUID"), (0, u "J"), (3, u "REPL"), (0, u "C"), (2, u "LATIN1"), (1, u "UTF16")] 323

def k7m0 : Method := { name := "<init>", desc := "()V", sig := { parameters := [], returnType := none }, accessFlags := 1, code := none }
def k7c1 : Code := { maxStack := 5, maxLocals := 2, code := jdk_42_method_3_code, exceptionTable := #[], attributes := #[] }
def k7m1 : Method := { name := "<init>", desc := "([C)V", sig := { parameters := [(.array .char)], returnType := none }, accessFlags := 1, code := some k7c1 }
def k7c2 : Code := { maxStack := 2, maxLocals := 1, code := jdk_42_method_54_code, exceptionTable := #[], attributes := #[] }
def k7m2 : Method := { name := "length", desc := "()I", sig := { parameters := [], returnType := some .int }, accessFlags := 1, code := some k7c2 }
def k7c3 : Code := { maxStack := 2, maxLocals := 2, code := jdk_42_method_56_code, exceptionTable := #[], attributes := #[] }
def k7m3 : Method := { name := "charAt", desc := "(I)C", sig := { parameters := [.int], returnType := some .char }, accessFlags := 1, code := some k7c3 }
def k7c4 : Code := { maxStack := 3, maxLocals := 2, code := jdk_42_method_79_code, exceptionTable := #[], attributes := #[] }
def k7m4 : Method := { name := "indexOf", desc := "(I)I", sig := { parameters := [.int], returnType := some .int }, accessFlags := 1, code := some k7c4 }
def k7c5 : Code := { maxStack := 4, maxLocals := 3, code := jdk_42_method_80_code, exceptionTable := #[], attributes := #[] }
def k7m5 : Method := { name := "indexOf", desc := "(II)I", sig := { parameters := [.int, .int], returnType := some .int }, accessFlags := 1, code := some k7c5 }
def k7c6 : Code := { maxStack := 4, maxLocals := 2, code := jdk_42_method_82_code, exceptionTable := #[], attributes := #[] }
def k7m6 : Method := { name := "lastIndexOf", desc := "(I)I", sig := { parameters := [.int], returnType := some .int }, accessFlags := 1, code := some k7c6 }
def k7c7 : Code := { maxStack := 3, maxLocals := 3, code := jdk_42_method_83_code, exceptionTable := #[], attributes := #[] }
def k7m7 : Method := { name := "lastIndexOf", desc := "(II)I", sig := { parameters := [.int, .int], returnType := some .int }, accessFlags := 1, code := some k7c7 }
def k7c8 : Code := { maxStack := 3, maxLocals := 2, code := jdk_42_method_91_code, exceptionTable := #[], attributes := #[] }
def k7m8 : Method := { name := "substring", desc := "(I)Ljava/lang/String;", sig := { parameters := [.int], returnType := some (.object "java/lang/String") }, accessFlags := 1, code := some k7c8 }
def k7c9 : Code := { maxStack := 3, maxLocals := 5, code := jdk_42_method_92_code, exceptionTable := #[], attributes := #[] }
def k7m9 : Method := { name := "substring", desc := "(II)Ljava/lang/String;", sig := { parameters := [.int, .int], returnType := some (.object "java/lang/String") }, accessFlags := 1, code := some k7c9 }
def k7c10 : Code := { maxStack := 4, maxLocals := 6, code := jdk_42_method_149_code, exceptionTable := #[], attributes := #[] }
def k7m10 : Method := { name := "<init>", desc := "([CIILjava/lang/Void;)V", sig := { parameters := [(.array .char), .int, .int, (.object "java/lang/Void")], returnType := none }, accessFlags := 2, code := some k7c10 }
def k7c11 : Code := { maxStack := 2, maxLocals := 3, code := jdk_42_method_151_code, exceptionTable := #[], attributes := #[] }
def k7m11 : Method := { name := "<init>", desc := "([BB)V", sig := { parameters := [(.array .byte), .byte], returnType := none }, accessFlags := 0, code := some k7c11 }
def k7c12 : Code := { maxStack := 1, maxLocals := 1, code := jdk_42_method_152_code, exceptionTable := #[], attributes := #[] }
def k7m12 : Method := { name := "coder", desc := "()B", sig := { parameters := [], returnType := some .byte }, accessFlags := 0, code := some k7c12 }
def k7c13 : Code := { maxStack := 1, maxLocals := 1, code := jdk_42_method_154_code, exceptionTable := #[], attributes := #[] }
def k7m13 : Method := { name := "isLatin1", desc := "()Z", sig := { parameters := [], returnType := some .boolean }, accessFlags := 0, code := some k7c13 }
def k7c14 : Code := { maxStack := 3, maxLocals := 2, code := jdk_42_method_155_code, exceptionTable := #[], attributes := #[] }
def k7m14 : Method := { name := "checkIndex", desc := "(II)V", sig := { parameters := [.int, .int], returnType := none }, accessFlags := 8, code := some k7c14 }
def k7c15 : Code := { maxStack := 4, maxLocals := 3, code := jdk_42_method_158_code, exceptionTable := #[], attributes := #[] }
def k7m15 : Method := { name := "checkBoundsBeginEnd", desc := "(III)V", sig := { parameters := [.int, .int, .int], returnType := none }, accessFlags := 8, code := some k7c15 }
/-- java/lang/String -/
def k7 : Class := { plain "java/lang/String" (some 0) with
  accessFlags := 49
  interfaces := #[2, 3, 4, 5, 6]
  cf := some (fileOf pool7 10 #[.nestMembers #[1103]] #[{ accessFlags := 1, nameIndex := 5, descriptorIndex := 6, attributes := #[] }, { accessFlags := 1, nameIndex := 5, descriptorIndex := 1010, attributes := #[] }, { accessFlags := 1, nameIndex := 507, descriptorIndex := 334, attributes := #[] }, { accessFlags := 1, nameIndex := 497, descriptorIndex := 427, attributes := #[] }, { accessFlags := 1, nameIndex := 635, descriptorIndex := 765, attributes := #[] }, { accessFlags := 1, nameIndex := 635, descriptorIndex := 636, attributes := #[] }, { accessFlags := 1, nameIndex := 643, descriptorIndex := 765, attributes := #[] }, { accessFlags := 1, nameIndex := 643, descriptorIndex := 636, attributes := #[] }, { accessFlags := 1, nameIndex := 683, descriptorIndex := 892, attributes := #[] }, { accessFlags := 1, nameIndex := 683, descriptorIndex := 684, attributes := #[] }, { accessFlags := 2, nameIndex := 5, descriptorIndex := 29, attributes := #[] }, { accessFlags := 0, nameIndex := 5, descriptorIndex := 211, attributes := #[] }, { accessFlags := 0, nameIndex := 17, descriptorIndex := 337, attributes := #[] }, { accessFlags := 0, nameIndex := 494, descriptorIndex := 142, attributes := #[] }, { accessFlags := 8, nameIndex := 501, descriptorIndex := 391, attributes := #[] }, { accessFlags := 8, nameIndex := 523, descriptorIndex := 524, attributes := #[] }] 49 2 #[1106, 1108, 575, 1110, 1112] #[{ accessFlags := 18, nameIndex := 13, descriptorIndex := 14, attributes := #[] }, { accessFlags := 18, nameIndex := 17, descriptorIndex := 18, attributes := #[] }, { accessFlags := 2, nameIndex := 21, descriptorIndex := 22, attributes := #[] }, { accessFlags := 2, nameIndex := 25, descriptorIndex := 26, attributes := #[] }, { accessFlags := 26, nameIndex := 1116, descriptorIndex := 1117, attributes := #[] }, { accessFlags := 24, nameIndex := 40, descriptorIndex := 26, attributes := #[] }, { accessFlags := 26, nameIndex := 1101, descriptorIndex := 1102, attributes := #[] }, { accessFlags := 26, nameIndex := 1121, descriptorIndex := 1122, attributes := #[] }, { accessFlags := 25, nameIndex := 599, descriptorIndex := 600, attributes := #[] }, { accessFlags := 24, nameIndex := 1125, descriptorIndex := 18, attributes := #[] }, { accessFlags := 24, nameIndex := 1127, descriptorIndex := 18, attributes := #[] }])
  fields := #[{ name := "value", type := (.array .byte), accessFlags := 18, slot := 0, constantValue := 0 }, { name := "coder", type := .byte, accessFlags := 18, slot := 1, constantValue := 0 }, { name := "hash", type := .int, accessFlags := 2, slot := 2, constantValue := 0 }, { name := "hashIsZero", type := .boolean, accessFlags := 2, slot := 3, constantValue := 0 }, { name := "serialVersionUID", type := .long, accessFlags := 26, slot := 0, constantValue := 0 }, { name := "COMPACT_STRINGS", type := .boolean, accessFlags := 24, slot := 1, constantValue := 0 }, { name := "serialPersistentFields", type := (.array (.object "java/io/ObjectStreamField")), accessFlags := 26, slot := 2, constantValue := 0 }, { name := "REPL", type := .char, accessFlags := 26, slot := 3, constantValue := 0 }, { name := "CASE_INSENSITIVE_ORDER", type := (.object "java/util/Comparator"), accessFlags := 25, slot := 4, constantValue := 0 }, { name := "LATIN1", type := .byte, accessFlags := 24, slot := 5, constantValue := 0 }, { name := "UTF16", type := .byte, accessFlags := 24, slot := 6, constantValue := 0 }]
  methods := #[k7m0, k7m1, k7m2, k7m3, k7m4, k7m5, k7m6, k7m7, k7m8, k7m9, k7m10, k7m11, k7m12, k7m13, k7m14, k7m15]
  instanceTypes := #[(.array .byte), .byte, .int, .boolean]
  staticTypes := #[.long, .boolean, (.array (.object "java/io/ObjectStreamField")), .char, (.object "java/util/Comparator"), .byte, .byte]
  resolved := Array.replicate 1451 none
  statics := some 0 }

def pool8 : Array CpInfo := pool [(2, .class_ 4), (1, u "java/lang/Object"), (0, u "<init>"), (0, u "()V"), (0, .methodref 8 9), (0, .class_ 10), (0, .nameAndType 11 12), (0, u "java/lang/String"), (0, u "lastIndexOf"), (0, u "(I)I"), (0, .methodref 8 14), (0, .nameAndType 15 16), (0, u "substring"), (0, u "(I)Ljava/lang/String;"), (0, .methodref 18 19), (0, .class_ 20), (0, .nameAndType 21 22), (0, u "com/example/isidore/isidore/rulesets/mwsdn/PathNames"), (0, u "withoutKeys"), (0, u "(Ljava/lang/String;)Ljava/lang/String;"), (0, .methodref 8 24), (0, .nameAndType 25 12), (0, u "indexOf"), (8, .methodref 8 35), (0, .nameAndType 15 36), (0, u "(II)Ljava/lang/String;"), (87, u "node")] 10

def k8m0 : Method := { name := "<init>", desc := "()V", sig := { parameters := [], returnType := none }, accessFlags := 2, code := none }
def k8c1 : Code := { maxStack := 3, maxLocals := 2, code := prog_71_method_2_code, exceptionTable := #[], attributes := #[] }
def k8m1 : Method := { name := "node", desc := "(Ljava/lang/String;)Ljava/lang/String;", sig := { parameters := [(.object "java/lang/String")], returnType := some (.object "java/lang/String") }, accessFlags := 8, code := some k8c1 }
def k8c2 : Code := { maxStack := 3, maxLocals := 3, code := prog_71_method_8_code, exceptionTable := #[], attributes := #[] }
def k8m2 : Method := { name := "withoutKeys", desc := "(Ljava/lang/String;)Ljava/lang/String;", sig := { parameters := [(.object "java/lang/String")], returnType := some (.object "java/lang/String") }, accessFlags := 10, code := some k8c2 }
/-- com/example/isidore/isidore/rulesets/mwsdn/PathNames -/
def k8 : Class := { plain "com/example/isidore/isidore/rulesets/mwsdn/PathNames" (some 0) with
  accessFlags := 48
  interfaces := #[]
  cf := some (fileOf pool8 18 #[] #[{ accessFlags := 2, nameIndex := 5, descriptorIndex := 6, attributes := #[] }, { accessFlags := 8, nameIndex := 124, descriptorIndex := 22, attributes := #[] }, { accessFlags := 10, nameIndex := 21, descriptorIndex := 22, attributes := #[] }] 48 2 #[] #[])
  fields := #[]
  methods := #[k8m0, k8m1, k8m2]
  instanceTypes := #[]
  staticTypes := #[]
  resolved := Array.replicate 135 none
  statics := none }

def pool9 : Array CpInfo := pool [(1, .class_ 2), (0, u "java/lang/String"), (1, .class_ 6), (1, u "java/lang/Object"), (0, u "<init>"), (0, u "()V"), (0, .methodref 1 10), (0, .nameAndType 11 12), (0, u "checkIndex"), (0, u "(II)V"), (1, .class_ 16), (1, u "java/lang/StringLatin1"), (21, .methodref 39 40), (0, .class_ 41), (0, .nameAndType 42 43), (0, u "java/lang/Math"), (0, u "min"), (0, u "(II)I"), (9, u "([BI)C"), (34, .methodref 14 89), (0, .nameAndType 90 91), (0, u "canEncode"), (0, u "(I)Z"), (0, .methodref 39 93), (0, .nameAndType 94 43), (0, u "max"), (0, .methodref 14 96), (0, .nameAndType 97 98), (0, u "indexOfChar"), (0, u "([BIII)I"), (2, u "indexOf"), (10, .methodref 1 113), (0, .nameAndType 7 114), (0, u "([BB)V"), (6, u "$assertionsDisabled"), (0, u "Z"), (8, .class_ 133), (1, u "java/util/Arrays"), (17, .string 152), (0, u ""), (43, u "newString"), (0, u "([BII)Ljava/lang/String;"), (23, .class_ 223), (1, u "java/lang/StringLatin1$LinesSpliterator"), (8, .methodref 131 233), (0, .nameAndType 234 235), (0, u "copyOfRange"), (0, u "([BII)[B"), (16, u "charAt"), (8, u "([BII)I"), (47, u "lastIndexOf"), (80, .class_ 391), (0, u "java/lang/StringLatin1$CharsSpliterator")] 3

def k9m0 : Method := { name := "<init>", desc := "()V", sig := { parameters := [], returnType := none }, accessFlags := 0, code := none }
def k9c1 : Code := { maxStack := 2, maxLocals := 2, code := jdk_43_method_2_code, exceptionTable := #[], attributes := #[] }
def k9m1 : Method := { name := "charAt", desc := "([BI)C", sig := { parameters := [(.array .byte), .int], returnType := some .char }, accessFlags := 9, code := some k9c1 }
def k9c2 : Code := { maxStack := 2, maxLocals := 1, code := jdk_43_method_4_code, exceptionTable := #[], attributes := #[] }
def k9m2 : Method := { name := "canEncode", desc := "(I)Z", sig := { parameters := [.int], returnType := some .boolean }, accessFlags := 9, code := some k9c2 }
def k9c3 : Code := { maxStack := 4, maxLocals := 4, code := jdk_43_method_22_code, exceptionTable := #[], attributes := #[] }
def k9m3 : Method := { name := "indexOf", desc := "([BIII)I", sig := { parameters := [(.array .byte), .int, .int, .int], returnType := some .int }, accessFlags := 9, code := some k9c3 }
def k9c4 : Code := { maxStack := 2, maxLocals := 6, code := jdk_43_method_23_code, exceptionTable := #[], attributes := #[] }
def k9m4 : Method := { name := "indexOfChar", desc := "([BIII)I", sig := { parameters := [(.array .byte), .int, .int, .int], returnType := some .int }, accessFlags := 10, code := some k9c4 }
def k9c5 : Code := { maxStack := 3, maxLocals := 4, code := jdk_43_method_27_code, exceptionTable := #[], attributes := #[] }
def k9m5 : Method := { name := "lastIndexOf", desc := "([BII)I", sig := { parameters := [(.array .byte), .int, .int], returnType := some .int }, accessFlags := 9, code := some k9c5 }
def k9c6 : Code := { maxStack := 6, maxLocals := 3, code := jdk_43_method_47_code, exceptionTable := #[], attributes := #[] }
def k9m6 : Method := { name := "newString", desc := "([BII)Ljava/lang/String;", sig := { parameters := [(.array .byte), .int, .int], returnType := some (.object "java/lang/String") }, accessFlags := 9, code := some k9c6 }
/-- java/lang/StringLatin1 -/
def k9 : Class := { plain "java/lang/StringLatin1" (some 0) with
  accessFlags := 48
  interfaces := #[]
  cf := some (fileOf pool9 14 #[.nestMembers #[390, 221]] #[{ accessFlags := 0, nameIndex := 7, descriptorIndex := 8, attributes := #[] }, { accessFlags := 9, nameIndex := 252, descriptorIndex := 53, attributes := #[] }, { accessFlags := 9, nameIndex := 90, descriptorIndex := 91, attributes := #[] }, { accessFlags := 9, nameIndex := 101, descriptorIndex := 98, attributes := #[] }, { accessFlags := 10, nameIndex := 97, descriptorIndex := 98, attributes := #[] }, { accessFlags := 9, nameIndex := 309, descriptorIndex := 261, attributes := #[] }, { accessFlags := 9, nameIndex := 196, descriptorIndex := 197, attributes := #[] }] 48 4 #[] #[{ accessFlags := 4120, nameIndex := 121, descriptorIndex := 122, attributes := #[] }])
  fields := #[{ name := "$assertionsDisabled", type := .boolean, accessFlags := 4120, slot := 0, constantValue := 0 }]
  methods := #[k9m0, k9m1, k9m2, k9m3, k9m4, k9m5, k9m6]
  instanceTypes := #[]
  staticTypes := #[.boolean]
  resolved := Array.replicate 395 none
  statics := none }

def pool10 : Array CpInfo := pool [(1, .class_ 2), (0, u "java/lang/Math"), (1, .class_ 6), (1, u "java/lang/Object"), (0, u "<init>"), (0, u "()V"), (89, .class_ 100), (1, u "java/lang/Math$RandomNumberGeneratorHolder"), (71, u "negativeZeroFloatBits"), (0, u "J"), (2, u "negativeZeroDoubleBits"), (21, u "max"), (2, u "min"), (43, u "$assertionsDisabled"), (0, u "Z"), (88, u "(II)I"), (2, u "twoToTheDoubleScaleDown"), (0, u "D"), (4, u "twoToTheDoubleScaleUp"), (9, u "E"), (3, u "PI"), (2, u "TAU"), (2, u "DEGREES_TO_RADIANS"), (0, u "RADIANS_TO_DEGREES")] 94

def k10m0 : Method := { name := "<init>", desc := "()V", sig := { parameters := [], returnType := none }, accessFlags := 2, code := none }
def k10c1 : Code := { maxStack := 2, maxLocals := 2, code := jdk_29_method_65_code, exceptionTable := #[], attributes := #[] }
def k10m1 : Method := { name := "max", desc := "(II)I", sig := { parameters := [.int, .int], returnType := some .int }, accessFlags := 9, code := some k10c1 }
def k10c2 : Code := { maxStack := 2, maxLocals := 2, code := jdk_29_method_69_code, exceptionTable := #[], attributes := #[] }
def k10m2 : Method := { name := "min", desc := "(II)I", sig := { parameters := [.int, .int], returnType := some .int }, accessFlags := 9, code := some k10c2 }
/-- java/lang/Math -/
def k10 : Class := { plain "java/lang/Math" (some 0) with
  accessFlags := 49
  interfaces := #[]
  cf := some (fileOf pool10 1 #[.nestMembers #[98]] #[{ accessFlags := 2, nameIndex := 7, descriptorIndex := 8, attributes := #[] }, { accessFlags := 9, nameIndex := 198, descriptorIndex := 335, attributes := #[] }, { accessFlags := 9, nameIndex := 201, descriptorIndex := 335, attributes := #[] }] 49 4 #[] #[{ accessFlags := 25, nameIndex := 354, descriptorIndex := 339, attributes := #[] }, { accessFlags := 25, nameIndex := 358, descriptorIndex := 339, attributes := #[] }, { accessFlags := 25, nameIndex := 361, descriptorIndex := 339, attributes := #[] }, { accessFlags := 26, nameIndex := 364, descriptorIndex := 339, attributes := #[] }, { accessFlags := 26, nameIndex := 365, descriptorIndex := 339, attributes := #[] }, { accessFlags := 26, nameIndex := 172, descriptorIndex := 173, attributes := #[] }, { accessFlags := 26, nameIndex := 176, descriptorIndex := 173, attributes := #[] }, { accessFlags := 8, nameIndex := 344, descriptorIndex := 339, attributes := #[] }, { accessFlags := 8, nameIndex := 338, descriptorIndex := 339, attributes := #[] }, { accessFlags := 4120, nameIndex := 245, descriptorIndex := 246, attributes := #[] }])
  fields := #[{ name := "E", type := .double, accessFlags := 25, slot := 0, constantValue := 0 }, { name := "PI", type := .double, accessFlags := 25, slot := 1, constantValue := 0 }, { name := "TAU", type := .double, accessFlags := 25, slot := 2, constantValue := 0 }, { name := "DEGREES_TO_RADIANS", type := .double, accessFlags := 26, slot := 3, constantValue := 0 }, { name := "RADIANS_TO_DEGREES", type := .double, accessFlags := 26, slot := 4, constantValue := 0 }, { name := "negativeZeroFloatBits", type := .long, accessFlags := 26, slot := 5, constantValue := 0 }, { name := "negativeZeroDoubleBits", type := .long, accessFlags := 26, slot := 6, constantValue := 0 }, { name := "twoToTheDoubleScaleUp", type := .double, accessFlags := 8, slot := 7, constantValue := 0 }, { name := "twoToTheDoubleScaleDown", type := .double, accessFlags := 8, slot := 8, constantValue := 0 }, { name := "$assertionsDisabled", type := .boolean, accessFlags := 4120, slot := 9, constantValue := 0 }]
  methods := #[k10m0, k10m1, k10m2]
  instanceTypes := #[]
  staticTypes := #[.double, .double, .double, .double, .double, .long, .long, .double, .double, .boolean]
  resolved := Array.replicate 460 none
  statics := none }

def pool11 : Array CpInfo := pool [(2, .class_ 4), (1, u "java/lang/Object"), (0, u "<init>"), (0, u "()V"), (17, .class_ 26), (1, u "jdk/internal/util/Preconditions"), (6, u "checkIndex"), (13, u "checkFromToIndex"), (7, .class_ 56), (0, u "jdk/internal/util/Preconditions$4"), (57, .class_ 115), (0, u "jdk/internal/util/Preconditions$1"), (7, u "SIOOBE_FORMATTER"), (0, u "Ljava/util/function/BiFunction;"), (0, .class_ 126), (0, u "jdk/internal/util/Preconditions$2"), (3, u "AIOOBE_FORMATTER"), (0, .class_ 132), (0, u "jdk/internal/util/Preconditions$3"), (3, u "IOOBE_FORMATTER"), (41, u "(IILjava/util/function/BiFunction;)I"), (4, u "(IIILjava/util/function/BiFunction;)I")] 10

def k11m0 : Method := { name := "<init>", desc := "()V", sig := { parameters := [], returnType := none }, accessFlags := 1, code := none }
def k11c1 : Code := { maxStack := 3, maxLocals := 3, code := jdk_41_method_11_code, exceptionTable := #[], attributes := #[] }
def k11m1 : Method := { name := "checkIndex", desc := "(IILjava/util/function/BiFunction;)I", sig := { parameters := [.int, .int, (.object "java/util/function/BiFunction")], returnType := some .int }, accessFlags := 9, code := some k11c1 }
def k11c2 : Code := { maxStack := 4, maxLocals := 4, code := jdk_41_method_12_code, exceptionTable := #[], attributes := #[] }
def k11m2 : Method := { name := "checkFromToIndex", desc := "(IIILjava/util/function/BiFunction;)I", sig := { parameters := [.int, .int, .int, (.object "java/util/function/BiFunction")], returnType := some .int }, accessFlags := 9, code := some k11c2 }
/-- jdk/internal/util/Preconditions -/
def k11 : Class := { plain "jdk/internal/util/Preconditions" (some 0) with
  accessFlags := 33
  interfaces := #[]
  cf := some (fileOf pool11 24 #[.nestMembers #[55, 131, 125, 114]] #[{ accessFlags := 1, nameIndex := 5, descriptorIndex := 6, attributes := #[] }, { accessFlags := 9, nameIndex := 33, descriptorIndex := 178, attributes := #[] }, { accessFlags := 9, nameIndex := 47, descriptorIndex := 183, attributes := #[] }] 33 2 #[] #[{ accessFlags := 25, nameIndex := 123, descriptorIndex := 124, attributes := #[] }, { accessFlags := 25, nameIndex := 130, descriptorIndex := 124, attributes := #[] }, { accessFlags := 25, nameIndex := 136, descriptorIndex := 124, attributes := #[] }])
  fields := #[{ name := "SIOOBE_FORMATTER", type := (.object "java/util/function/BiFunction"), accessFlags := 25, slot := 0, constantValue := 0 }, { name := "AIOOBE_FORMATTER", type := (.object "java/util/function/BiFunction"), accessFlags := 25, slot := 1, constantValue := 0 }, { name := "IOOBE_FORMATTER", type := (.object "java/util/function/BiFunction"), accessFlags := 25, slot := 2, constantValue := 0 }]
  methods := #[k11m0, k11m1, k11m2]
  instanceTypes := #[]
  staticTypes := #[(.object "java/util/function/BiFunction"), (.object "java/util/function/BiFunction"), (.object "java/util/function/BiFunction")]
  resolved := Array.replicate 194 none
  statics := some 1 }

def pool12 : Array CpInfo := pool [(6, .class_ 8), (1, u "java/lang/Object"), (0, u "<init>"), (0, u "()V"), (1, .class_ 14), (1, u "java/lang/StringUTF16"), (31, u "$assertionsDisabled"), (0, u "Z"), (13, u "HI_BYTE_SHIFT"), (0, u "I"), (2, u "LO_BYTE_SHIFT"), (49, .methodref 12 116), (0, .nameAndType 117 118), (0, u "compress"), (0, u "([CI[BII)I"), (3, u "([CII)[B"), (138, u "coderFromArrayLen"), (0, u "([BI)B"), (106, .class_ 371), (1, u "java/lang/StringUTF16$LinesSpliterator"), (58, u "MAX_LENGTH"), (196, .class_ 628), (0, u "java/lang/StringUTF16$CodePointsSpliterator"), (0, .class_ 630), (0, u "java/lang/StringUTF16$CharsSpliterator")] 4

def k12m0 : Method := { name := "<init>", desc := "()V", sig := { parameters := [], returnType := none }, accessFlags := 0, code := none }
def k12c1 : Code := { maxStack := 2, maxLocals := 2, code := jdk_52_method_15_code, exceptionTable := #[], attributes := #[] }
def k12m1 : Method := { name := "coderFromArrayLen", desc := "([BI)B", sig := { parameters := [(.array .byte), .int], returnType := some .byte }, accessFlags := 8, code := some k12c1 }
def k12c2 : Code := { maxStack := 5, maxLocals := 6, code := jdk_52_method_16_code, exceptionTable := #[], attributes := #[] }
def k12m2 : Method := { name := "compress", desc := "([CII)[B", sig := { parameters := [(.array .char), .int, .int], returnType := some (.array .byte) }, accessFlags := 9, code := some k12c2 }
def k12c3 : Code := { maxStack := 3, maxLocals := 7, code := jdk_52_method_21_code, exceptionTable := #[], attributes := #[] }
def k12m3 : Method := { name := "compress", desc := "([CI[BII)I", sig := { parameters := [(.array .char), .int, (.array .byte), .int, .int], returnType := some .int }, accessFlags := 9, code := some k12c3 }
/-- java/lang/StringUTF16 -/
def k12 : Class := { plain "java/lang/StringUTF16" (some 0) with
  accessFlags := 48
  interfaces := #[]
  cf := some (fileOf pool12 12 #[.nestMembers #[627, 629, 369]] #[{ accessFlags := 0, nameIndex := 9, descriptorIndex := 10, attributes := #[] }, { accessFlags := 8, nameIndex := 261, descriptorIndex := 262, attributes := #[] }, { accessFlags := 9, nameIndex := 117, descriptorIndex := 122, attributes := #[] }, { accessFlags := 9, nameIndex := 117, descriptorIndex := 118, attributes := #[] }] 48 6 #[] #[{ accessFlags := 26, nameIndex := 61, descriptorIndex := 62, attributes := #[] }, { accessFlags := 26, nameIndex := 65, descriptorIndex := 62, attributes := #[] }, { accessFlags := 24, nameIndex := 430, descriptorIndex := 62, attributes := #[] }, { accessFlags := 4120, nameIndex := 46, descriptorIndex := 47, attributes := #[] }])
  fields := #[{ name := "HI_BYTE_SHIFT", type := .int, accessFlags := 26, slot := 0, constantValue := 0 }, { name := "LO_BYTE_SHIFT", type := .int, accessFlags := 26, slot := 1, constantValue := 0 }, { name := "MAX_LENGTH", type := .int, accessFlags := 24, slot := 2, constantValue := 0 }, { name := "$assertionsDisabled", type := .boolean, accessFlags := 4120, slot := 3, constantValue := 0 }]
  methods := #[k12m0, k12m1, k12m2, k12m3]
  instanceTypes := #[]
  staticTypes := #[.int, .int, .int, .boolean]
  resolved := Array.replicate 635 none
  statics := none }

def pool13 : Array CpInfo := pool [(2, .class_ 4), (1, u "java/lang/Object"), (0, u "<init>"), (0, u "()V"), (7, .class_ 16), (1, u "java/util/Arrays"), (57, .class_ 76), (1, u "java/util/Arrays$NaturalOrder"), (36, .class_ 115), (1, u "java/util/Arrays$LegacyMergeSort"), (1, u "Z"), (21, u "copyOfRange"), (10, .methodref 151 152), (0, .class_ 153), (0, .nameAndType 154 155), (0, u "java/lang/System"), (0, u "arraycopy"), (0, u "(Ljava/lang/Object;ILjava/lang/Object;II)V"), (148, .methodref 305 306), (0, .class_ 307), (0, .nameAndType 308 309), (0, u "java/lang/Math"), (0, u "min"), (0, u "(II)I"), (29, .methodref 14 340), (0, .nameAndType 341 342), (0, u "copyOfRangeByte"), (0, u "([BII)[B"), (0, .methodref 14 344), (0, .nameAndType 345 346), (0, u "checkLength"), (0, u "(II)V"), (28, .class_ 376), (0, u "java/util/Arrays$ArrayList"), (68, u "$assertionsDisabled"), (269, u "MIN_ARRAY_SORT_GRAN"), (0, u "I"), (2, u "INSERTIONSORT_THRESHOLD"), (255, .class_ 976), (0, u "java/util/Arrays$ArrayItr")] 52

def k13m0 : Method := { name := "<init>", desc := "()V", sig := { parameters := [], returnType := none }, accessFlags := 2, code := none }
def k13c1 : Code := { maxStack := 4, maxLocals := 2, code := jdk_65_method_131_code, exceptionTable := #[], attributes := #[] }
def k13m1 : Method := { name := "checkLength", desc := "(II)V", sig := { parameters := [.int, .int], returnType := none }, accessFlags := 10, code := some k13c1 }
def k13c2 : Code := { maxStack := 3, maxLocals := 3, code := jdk_65_method_132_code, exceptionTable := #[], attributes := #[] }
def k13m2 : Method := { name := "copyOfRange", desc := "([BII)[B", sig := { parameters := [(.array .byte), .int, .int], returnType := some (.array .byte) }, accessFlags := 9, code := some k13c2 }
def k13c3 : Code := { maxStack := 6, maxLocals := 5, code := jdk_65_method_133_code, exceptionTable := #[], attributes := #[] }
def k13m3 : Method := { name := "copyOfRangeByte", desc := "([BII)[B", sig := { parameters := [(.array .byte), .int, .int], returnType := some (.array .byte) }, accessFlags := 10, code := some k13c3 }
/-- java/util/Arrays -/
def k13 : Class := { plain "java/util/Arrays" (some 0) with
  accessFlags := 49
  interfaces := #[]
  cf := some (fileOf pool13 14 #[.nestMembers #[975, 375, 113, 74]] #[{ accessFlags := 2, nameIndex := 5, descriptorIndex := 6, attributes := #[] }, { accessFlags := 10, nameIndex := 345, descriptorIndex := 346, attributes := #[] }, { accessFlags := 9, nameIndex := 139, descriptorIndex := 342, attributes := #[] }, { accessFlags := 10, nameIndex := 341, descriptorIndex := 342, attributes := #[] }] 49 2 #[] #[{ accessFlags := 26, nameIndex := 715, descriptorIndex := 716, attributes := #[] }, { accessFlags := 26, nameIndex := 719, descriptorIndex := 716, attributes := #[] }, { accessFlags := 4120, nameIndex := 445, descriptorIndex := 117, attributes := #[] }])
  fields := #[{ name := "MIN_ARRAY_SORT_GRAN", type := .int, accessFlags := 26, slot := 0, constantValue := 0 }, { name := "INSERTIONSORT_THRESHOLD", type := .int, accessFlags := 26, slot := 1, constantValue := 0 }, { name := "$assertionsDisabled", type := .boolean, accessFlags := 4120, slot := 2, constantValue := 0 }]
  methods := #[k13m0, k13m1, k13m2, k13m3]
  instanceTypes := #[]
  staticTypes := #[.int, .int, .boolean]
  resolved := Array.replicate 1029 none
  statics := none }

def pool14 : Array CpInfo := pool [(2, .class_ 4), (1, u "java/lang/Object"), (0, u "<init>"), (0, u "()V"), (1, .class_ 10), (1, u "java/lang/System"), (0, u "allowSecurityManager"), (0, u "I"), (16, u "cons"), (0, u "Ljava/io/Console;"), (77, .class_ 110), (1, u "java/lang/System$CallersHolder"), (43, u "initialErrStream"), (0, u "Ljava/io/PrintStream;"), (19, u "security"), (0, u "Ljava/lang/SecurityManager;"), (31, .class_ 209), (0, u "java/lang/System$1"), (7, u "props"), (0, u "Ljava/util/Properties;"), (2, u "lineSeparator"), (0, u "Ljava/lang/String;"), (96, .class_ 321), (1, u "java/lang/System$LoggerFinder"), (5, .class_ 328), (0, u "java/lang/System$Logger"), (67, u "err"), (2, u "out"), (91, u "notSupportedJnuEncoding"), (15, u "in"), (17, u "initialIn"), (0, u "Ljava/io/InputStream;"), (35, u "bootLayer"), (0, u "Ljava/lang/ModuleLayer;"), (99, .class_ 664), (0, u "java/lang/System$2"), (9, u "NEVER"), (2, u "MAYBE"), (49, u "arraycopy"), (0, u "(Ljava/lang/Object;ILjava/lang/Object;II)V"), (72, .class_ 802), (0, u "java/lang/System$Logger$Level")] 31

def k14m0 : Method := { name := "<init>", desc := "()V", sig := { parameters := [], returnType := none }, accessFlags := 2, code := none }
def k14m1 : Method := { name := "arraycopy", desc := "(Ljava/lang/Object;ILjava/lang/Object;II)V", sig := { parameters := [(.object "java/lang/Object"), .int, (.object "java/lang/Object"), .int, .int], returnType := none }, accessFlags := 265, code := none }
/-- java/lang/System -/
def k14 : Class := { plain "java/lang/System" (some 0) with
  accessFlags := 49
  interfaces := #[]
  cf := some (fileOf pool14 8 #[.nestMembers #[319, 327, 801, 108, 663, 208]] #[{ accessFlags := 2, nameIndex := 5, descriptorIndex := 6, attributes := #[] }, { accessFlags := 265, nameIndex := 727, descriptorIndex := 728, attributes := #[] }] 49 2 #[] #[{ accessFlags := 25, nameIndex := 507, descriptorIndex := 526, attributes := #[] }, { accessFlags := 25, nameIndex := 399, descriptorIndex := 155, attributes := #[] }, { accessFlags := 25, nameIndex := 396, descriptorIndex := 155, attributes := #[] }, { accessFlags := 10, nameIndex := 525, descriptorIndex := 526, attributes := #[] }, { accessFlags := 26, nameIndex := 674, descriptorIndex := 12, attributes := #[] }, { accessFlags := 26, nameIndex := 677, descriptorIndex := 12, attributes := #[] }, { accessFlags := 10, nameIndex := 11, descriptorIndex := 12, attributes := #[] }, { accessFlags := 74, nameIndex := 175, descriptorIndex := 176, attributes := #[] }, { accessFlags := 10, nameIndex := 491, descriptorIndex := 222, attributes := #[] }, { accessFlags := 74, nameIndex := 29, descriptorIndex := 30, attributes := #[] }, { accessFlags := 74, nameIndex := 154, descriptorIndex := 155, attributes := #[] }, { accessFlags := 10, nameIndex := 217, descriptorIndex := 218, attributes := #[] }, { accessFlags := 10, nameIndex := 221, descriptorIndex := 222, attributes := #[] }, { accessFlags := 8, nameIndex := 562, descriptorIndex := 563, attributes := #[] }])
  fields := #[{ name := "in", type := (.object "java/io/InputStream"), accessFlags := 25, slot := 0, constantValue := 0 }, { name := "out", type := (.object "java/io/PrintStream"), accessFlags := 25, slot := 1, constantValue := 0 }, { name := "err", type := (.object "java/io/PrintStream"), accessFlags := 25, slot := 2, constantValue := 0 }, { name := "initialIn", type := (.object "java/io/InputStream"), accessFlags := 10, slot := 3, constantValue := 0 }, { name := "NEVER", type := .int, accessFlags := 26, slot := 4, constantValue := 0 }, { name := "MAYBE", type := .int, accessFlags := 26, slot := 5, constantValue := 0 }, { name := "allowSecurityManager", type := .int, accessFlags := 10, slot := 6, constantValue := 0 }, { name := "security", type := (.object "java/lang/SecurityManager"), accessFlags := 74, slot := 7, constantValue := 0 }, { name := "notSupportedJnuEncoding", type := (.object "java/lang/String"), accessFlags := 10, slot := 8, constantValue := 0 }, { name := "cons", type := (.object "java/io/Console"), accessFlags := 74, slot := 9, constantValue := 0 }, { name := "initialErrStream", type := (.object "java/io/PrintStream"), accessFlags := 74, slot := 10, constantValue := 0 }, { name := "props", type := (.object "java/util/Properties"), accessFlags := 10, slot := 11, constantValue := 0 }, { name := "lineSeparator", type := (.object "java/lang/String"), accessFlags := 10, slot := 12, constantValue := 0 }, { name := "bootLayer", type := (.object "java/lang/ModuleLayer"), accessFlags := 8, slot := 13, constantValue := 0 }]
  methods := #[k14m0, k14m1]
  instanceTypes := #[]
  staticTypes := #[(.object "java/io/InputStream"), (.object "java/io/PrintStream"), (.object "java/io/PrintStream"), (.object "java/io/InputStream"), .int, .int, .int, (.object "java/lang/SecurityManager"), (.object "java/lang/String"), (.object "java/io/Console"), (.object "java/io/PrintStream"), (.object "java/util/Properties"), (.object "java/lang/String"), (.object "java/lang/ModuleLayer")]
  resolved := Array.replicate 834 none
  statics := none }

def pool15 : Array CpInfo := pool [(9, u "<init>"), (6, .class_ 18), (1, u "java/lang/Object"), (0, u "()V"), (1, .class_ 23), (1, u "jdk/internal/util/ArraysSupport"), (0, u "LOG2_ARRAY_LONG_INDEX_SCALE"), (0, u "I"), (2, u "U"), (0, u "Ljdk/internal/misc/Unsafe;"), (8, u "BIG_ENDIAN"), (0, u "Z"), (8, u "LOG2_BYTE_BIT_SIZE"), (4, u "LOG2_ARRAY_INT_INDEX_SCALE"), (54, u "JLA"), (0, u "Ljdk/internal/access/JavaLangAccess;"), (11, u "LOG2_ARRAY_BOOLEAN_INDEX_SCALE"), (9, u "LOG2_ARRAY_BYTE_INDEX_SCALE"), (5, u "LOG2_ARRAY_CHAR_INDEX_SCALE"), (5, u "LOG2_ARRAY_SHORT_INDEX_SCALE"), (18, u "LOG2_ARRAY_FLOAT_INDEX_SCALE"), (24, u "LOG2_ARRAY_DOUBLE_INDEX_SCALE"), (89, u "T_BOOLEAN"), (2, u "T_CHAR"), (1, u "T_FLOAT"), (1, u "T_DOUBLE"), (1, u "T_BYTE"), (1, u "T_SHORT"), (1, u "T_INT"), (1, u "T_LONG"), (1, u "SOFT_MAX_ARRAY_LENGTH")] 83

def k15m0 : Method := { name := "<init>", desc := "()V", sig := { parameters := [], returnType := none }, accessFlags := 2, code := none }
/-- jdk/internal/util/ArraysSupport -/
def k15 : Class := { plain "jdk/internal/util/ArraysSupport" (some 0) with
  accessFlags := 33
  interfaces := #[]
  cf := some (fileOf pool15 21 #[] #[{ accessFlags := 2, nameIndex := 9, descriptorIndex := 19, attributes := #[] }] 33 16 #[] #[{ accessFlags := 24, nameIndex := 28, descriptorIndex := 29, attributes := #[] }, { accessFlags := 26, nameIndex := 38, descriptorIndex := 39, attributes := #[] }, { accessFlags := 25, nameIndex := 121, descriptorIndex := 25, attributes := #[] }, { accessFlags := 25, nameIndex := 131, descriptorIndex := 25, attributes := #[] }, { accessFlags := 25, nameIndex := 137, descriptorIndex := 25, attributes := #[] }, { accessFlags := 25, nameIndex := 143, descriptorIndex := 25, attributes := #[] }, { accessFlags := 25, nameIndex := 53, descriptorIndex := 25, attributes := #[] }, { accessFlags := 25, nameIndex := 24, descriptorIndex := 25, attributes := #[] }, { accessFlags := 25, nameIndex := 162, descriptorIndex := 25, attributes := #[] }, { accessFlags := 25, nameIndex := 187, descriptorIndex := 25, attributes := #[] }, { accessFlags := 26, nameIndex := 48, descriptorIndex := 25, attributes := #[] }, { accessFlags := 25, nameIndex := 277, descriptorIndex := 25, attributes := #[] }, { accessFlags := 25, nameIndex := 280, descriptorIndex := 25, attributes := #[] }, { accessFlags := 25, nameIndex := 282, descriptorIndex := 25, attributes := #[] }, { accessFlags := 25, nameIndex := 284, descriptorIndex := 25, attributes := #[] }, { accessFlags := 25, nameIndex := 286, descriptorIndex := 25, attributes := #[] }, { accessFlags := 25, nameIndex := 288, descriptorIndex := 25, attributes := #[] }, { accessFlags := 25, nameIndex := 290, descriptorIndex := 25, attributes := #[] }, { accessFlags := 25, nameIndex := 292, descriptorIndex := 25, attributes := #[] }, { accessFlags := 26, nameIndex := 108, descriptorIndex := 109, attributes := #[] }, { accessFlags := 25, nameIndex := 294, descriptorIndex := 25, attributes := #[] }])
  fields := #[{ name := "U", type := (.object "jdk/internal/misc/Unsafe"), accessFlags := 24, slot := 0, constantValue := 0 }, { name := "BIG_ENDIAN", type := .boolean, accessFlags := 26, slot := 1, constantValue := 0 }, { name := "LOG2_ARRAY_BOOLEAN_INDEX_SCALE", type := .int, accessFlags := 25, slot := 2, constantValue := 0 }, { name := "LOG2_ARRAY_BYTE_INDEX_SCALE", type := .int, accessFlags := 25, slot := 3, constantValue := 0 }, { name := "LOG2_ARRAY_CHAR_INDEX_SCALE", type := .int, accessFlags := 25, slot := 4, constantValue := 0 }, { name := "LOG2_ARRAY_SHORT_INDEX_SCALE", type := .int, accessFlags := 25, slot := 5, constantValue := 0 }, { name := "LOG2_ARRAY_INT_INDEX_SCALE", type := .int, accessFlags := 25, slot := 6, constantValue := 0 }, { name := "LOG2_ARRAY_LONG_INDEX_SCALE", type := .int, accessFlags := 25, slot := 7, constantValue := 0 }, { name := "LOG2_ARRAY_FLOAT_INDEX_SCALE", type := .int, accessFlags := 25, slot := 8, constantValue := 0 }, { name := "LOG2_ARRAY_DOUBLE_INDEX_SCALE", type := .int, accessFlags := 25, slot := 9, constantValue := 0 }, { name := "LOG2_BYTE_BIT_SIZE", type := .int, accessFlags := 26, slot := 10, constantValue := 0 }, { name := "T_BOOLEAN", type := .int, accessFlags := 25, slot := 11, constantValue := 0 }, { name := "T_CHAR", type := .int, accessFlags := 25, slot := 12, constantValue := 0 }, { name := "T_FLOAT", type := .int, accessFlags := 25, slot := 13, constantValue := 0 }, { name := "T_DOUBLE", type := .int, accessFlags := 25, slot := 14, constantValue := 0 }, { name := "T_BYTE", type := .int, accessFlags := 25, slot := 15, constantValue := 0 }, { name := "T_SHORT", type := .int, accessFlags := 25, slot := 16, constantValue := 0 }, { name := "T_INT", type := .int, accessFlags := 25, slot := 17, constantValue := 0 }, { name := "T_LONG", type := .int, accessFlags := 25, slot := 18, constantValue := 0 }, { name := "JLA", type := (.object "jdk/internal/access/JavaLangAccess"), accessFlags := 26, slot := 19, constantValue := 0 }, { name := "SOFT_MAX_ARRAY_LENGTH", type := .int, accessFlags := 25, slot := 20, constantValue := 0 }]
  methods := #[k15m0]
  instanceTypes := #[]
  staticTypes := #[(.object "jdk/internal/misc/Unsafe"), .boolean, .int, .int, .int, .int, .int, .int, .int, .int, .int, .int, .int, .int, .int, .int, .int, .int, .int, (.object "jdk/internal/access/JavaLangAccess"), .int]
  resolved := Array.replicate 378 none
  statics := none }

def pool16 : Array CpInfo := pool [(1, u "java/lang/Cloneable"), (0, .class_ 1), (0, u "java/lang/Object"), (0, .class_ 3)] 3

/-- java/lang/Cloneable -/
def k16 : Class := { plain "java/lang/Cloneable" (some 0) with
  accessFlags := 1537
  interfaces := #[]
  cf := some (fileOf pool16 2 #[] #[] 1537 4 #[] #[])
  fields := #[]
  methods := #[]
  instanceTypes := #[]
  staticTypes := #[]
  resolved := Array.replicate 8 none
  statics := none }

/-- the primitive byte -/
def k17 : Class := { plain "byte" none with kind := .primitive 'B', accessFlags := 0x411 }
/-- [B -/
def k18 : Class := { plain "[B" (some 0) with kind := .array 17 .byte, interfaces := #[16, 2], accessFlags := 1041 }

/-- the primitive char -/
def k19 : Class := { plain "char" none with kind := .primitive 'C', accessFlags := 0x411 }
/-- [C -/
def k20 : Class := { plain "[C" (some 0) with kind := .array 19 .char, interfaces := #[16, 2], accessFlags := 1041 }

/-- the primitive int -/
def k21 : Class := { plain "int" none with kind := .primitive 'I', accessFlags := 0x411 }
/-- [I -/
def k22 : Class := { plain "[I" (some 0) with kind := .array 21 .int, interfaces := #[16, 2], accessFlags := 1041 }

def heap : Heap := #[{ cls := 7, slots := #[.long 0, .int 1, .null, .int 0, .null, .int 0, .int 0], vm := .statics 7 },
  { cls := 11, slots := #[.null, .null, .null], vm := .statics 11 }]
def classes : Array Class := #[k0, k1, k2, k3, k4, k5, k6, k7, k8, k9, k10, k11, k12, k13, k14, k15, k16, k17, k18, k19, k20, k21, k22]
def interned : List (Array UInt16 × Addr) := []
def slotsUsed : Nat := 10
def theMethod : MethodId := ⟨1, 6⟩
def args0 : Array Value := #[.int 5, .int 6, .int 7, .int 8, .int 9, .int 10]
def aboutOver (below : List Frame) : State where
  vm := { classes := classes, interned := interned.toArray }
  heap := heap
  slotsUsed := slotsUsed
  threads := #[{ frames := .invoking theMethod args0 :: below }]
def below0 : List Frame := [.native { method := ⟨0, 0⟩, args := #[] }]
def about1 : State := aboutOver below0
def p0 : Program := .bare "" "" ""
def e0 : Env := launch0.env 0 0 0
theorem w_frames : about1.frames = Frame.invoking theMethod args0 :: below0 := rfl
set_option maxRecDepth 65536 in
theorem w_args : argsFit about1.vm theMethod args0 = true := by decide +kernel
set_option maxRecDepth 65536 in
theorem w_heap : heapFits about1 = true := by decide +kernel
set_option maxRecDepth 65536 in
theorem w_runnable : about1.curStatus? = some .runnable := by decide +kernel
set_option maxRecDepth 65536 in
theorem w_alone : about1.alone = true := by decide +kernel
set_option maxRecDepth 65536 in
theorem w_named : about1.methodNamed? x = some theMethod := by decide +kernel
set_option maxRecDepth 65536 in
theorem w_hears : about1.hears theMethod below0 = true := by decide +kernel
set_option maxRecDepth 65536 in
theorem w_ripe : about1.ripe theMethod args0 below0 = true := by decide +kernel
theorem w_running : about1.status = .running := rfl
set_option maxRecDepth 65536 in
theorem w_room : about1.hasRoom e0.platform room_1 = true :=
  launch0.hasRoom_least _ room_1 (by decide +kernel) (by decide +kernel) (by decide +kernel) (by decide +kernel) (by decide +kernel) (by decide +kernel)
theorem allAtoms_all (ts : List Jvm.Cond) (a : Array Jvm.Value) (st : Jvm.State) : (allAtoms ts).before a st = ts.all (fun c => c.before a st) := by
  induction ts with
  | nil => rfl
  | cons c t ih =>
    show (Jvm.Cond.and c (allAtoms t)).before a st = _
    rw [Jvm.Cond.before_and, ih, List.all_cons]
def words1 : List Jvm.Cond := Jvm.Cond.code x code maxLocals ret :: tables_1
/-- a 'code' word, met by the world's own term for the bytes: nothing is compared byte by byte -/
theorem code_word {y : MethodName} {bytes : ByteArray} {mx : Nat} {rt : Option FieldType} {a : Array Value} {s : State} {m : MethodId} {meth : Method} {c : Code} (h1 : s.methodNamed? y = some m) (h2 : s.vm.method? m = some meth) (h3 : meth.code = some c) (h4 : c.code = bytes)
    (h5 : (c.maxLocals == mx && c.exceptionTable.isEmpty && decide (c.maxStack ≤ mostOperands) && decide (meth.sig.returnType = rt) && !meth.locks && decide (parseMethodDescriptor y.desc = some meth.sig)) = true) : (Jvm.Cond.code y bytes mx rt).before a s = true := by
  simp only [Bool.and_eq_true, beq_iff_eq, Bool.not_eq_true', decide_eq_true_eq] at h5
  obtain ⟨⟨⟨⟨⟨g1, g2⟩, g3⟩, g4⟩, g5⟩, g6⟩ := h5
  simp [Cond.before, Cond.holds, Cond.value, h1, h2, h3, h4, g1, g2, g3, g4, g5, g6]
def isCode : Jvm.Cond → Bool
  | .code _ _ _ _ => true
  | _ => false
theorem all_split {L : List Jvm.Cond} {P : Jvm.Cond → Bool} (h1 : L.all (fun c => isCode c || P c) = true) (h2 : ∀ c ∈ L.filter isCode, P c = true) : L.all P = true := by
  refine List.all_eq_true.mpr fun c hc => ?_
  have h := List.all_eq_true.mp h1 c hc
  rcases Bool.eq_false_or_eq_true (isCode c) with hi | hi
  · exact h2 c (List.mem_filter.mpr ⟨hc, hi⟩)
  · simpa [hi] using h
set_option maxRecDepth 65536 in
theorem w_c0 : (Jvm.Cond.code x code maxLocals ret).before args0 about1 = true := code_word (m := ⟨1, 6⟩) (meth := k1m6) (c := k1c6) (by decide +kernel) rfl rfl rfl (by decide +kernel)
set_option maxRecDepth 65536 in
theorem w_c1 : (Jvm.Cond.code ({ cls := "com/example/isidore/isidore/rulesets/mwsdn/PathNamesNodePinLaw", name := "ch", desc := "(I)C" } : Jvm.MethodName) method_2_code (2 : Nat) (Option.some Jvm.ClassFile.FieldType.char)).before args0 about1 = true := code_word (m := ⟨1, 1⟩) (meth := k1m1) (c := k1c1) (by decide +kernel) rfl rfl rfl (by decide +kernel)
set_option maxRecDepth 65536 in
theorem w_c2 : (Jvm.Cond.code ({ cls := "com/example/isidore/isidore/rulesets/mwsdn/PathNamesNodePinLaw", name := "str", desc := "([CI)Ljava/lang/String;" } : Jvm.MethodName) method_3_code (2 : Nat) (Option.some (Jvm.ClassFile.FieldType.object "java/lang/String"))).before args0 about1 = true := code_word (m := ⟨1, 2⟩) (meth := k1m2) (c := k1c2) (by decide +kernel) rfl rfl rfl (by decide +kernel)
set_option maxRecDepth 65536 in
theorem w_c3 : (Jvm.Cond.code ({ cls := "java/lang/String", name := "<init>", desc := "([C)V" } : Jvm.MethodName) jdk_42_method_3_code (2 : Nat) (Option.none : Option Jvm.ClassFile.FieldType)).before args0 about1 = true := code_word (m := ⟨7, 1⟩) (meth := k7m1) (c := k7c1) (by decide +kernel) rfl rfl rfl (by decide +kernel)
set_option maxRecDepth 65536 in
theorem w_c4 : (Jvm.Cond.code ({ cls := "java/lang/String", name := "<init>", desc := "([CIILjava/lang/Void;)V" } : Jvm.MethodName) jdk_42_method_149_code (6 : Nat) (Option.none : Option Jvm.ClassFile.FieldType)).before args0 about1 = true := code_word (m := ⟨7, 10⟩) (meth := k7m10) (c := k7c10) (by decide +kernel) rfl rfl rfl (by decide +kernel)
set_option maxRecDepth 65536 in
theorem w_c5 : (Jvm.Cond.code ({ cls := "java/lang/Object", name := "<init>", desc := "()V" } : Jvm.MethodName) object_method_1_code (1 : Nat) (Option.none : Option Jvm.ClassFile.FieldType)).before args0 about1 = true := code_word (m := ⟨0, 0⟩) (meth := k0m0) (c := k0c0) (by decide +kernel) rfl rfl rfl (by decide +kernel)
set_option maxRecDepth 65536 in
theorem w_c6 : (Jvm.Cond.code ({ cls := "com/example/isidore/isidore/rulesets/mwsdn/PathNames", name := "node", desc := "(Ljava/lang/String;)Ljava/lang/String;" } : Jvm.MethodName) prog_71_method_2_code (2 : Nat) (Option.some (Jvm.ClassFile.FieldType.object "java/lang/String"))).before args0 about1 = true := code_word (m := ⟨8, 1⟩) (meth := k8m1) (c := k8c1) (by decide +kernel) rfl rfl rfl (by decide +kernel)
set_option maxRecDepth 65536 in
theorem w_c7 : (Jvm.Cond.code ({ cls := "java/lang/String", name := "lastIndexOf", desc := "(I)I" } : Jvm.MethodName) jdk_42_method_82_code (2 : Nat) (Option.some Jvm.ClassFile.FieldType.int)).before args0 about1 = true := code_word (m := ⟨7, 6⟩) (meth := k7m6) (c := k7c6) (by decide +kernel) rfl rfl rfl (by decide +kernel)
set_option maxRecDepth 65536 in
theorem w_c8 : (Jvm.Cond.code ({ cls := "java/lang/String", name := "length", desc := "()I" } : Jvm.MethodName) jdk_42_method_54_code (1 : Nat) (Option.some Jvm.ClassFile.FieldType.int)).before args0 about1 = true := code_word (m := ⟨7, 2⟩) (meth := k7m2) (c := k7c2) (by decide +kernel) rfl rfl rfl (by decide +kernel)
set_option maxRecDepth 65536 in
theorem w_c9 : (Jvm.Cond.code ({ cls := "java/lang/String", name := "coder", desc := "()B" } : Jvm.MethodName) jdk_42_method_152_code (1 : Nat) (Option.some Jvm.ClassFile.FieldType.byte)).before args0 about1 = true := code_word (m := ⟨7, 12⟩) (meth := k7m12) (c := k7c12) (by decide +kernel) rfl rfl rfl (by decide +kernel)
set_option maxRecDepth 65536 in
theorem w_c10 : (Jvm.Cond.code ({ cls := "java/lang/String", name := "lastIndexOf", desc := "(II)I" } : Jvm.MethodName) jdk_42_method_83_code (3 : Nat) (Option.some Jvm.ClassFile.FieldType.int)).before args0 about1 = true := code_word (m := ⟨7, 7⟩) (meth := k7m7) (c := k7c7) (by decide +kernel) rfl rfl rfl (by decide +kernel)
set_option maxRecDepth 65536 in
theorem w_c11 : (Jvm.Cond.code ({ cls := "java/lang/String", name := "isLatin1", desc := "()Z" } : Jvm.MethodName) jdk_42_method_154_code (1 : Nat) (Option.some Jvm.ClassFile.FieldType.boolean)).before args0 about1 = true := code_word (m := ⟨7, 13⟩) (meth := k7m13) (c := k7c13) (by decide +kernel) rfl rfl rfl (by decide +kernel)
set_option maxRecDepth 65536 in
theorem w_c12 : (Jvm.Cond.code ({ cls := "java/lang/StringLatin1", name := "lastIndexOf", desc := "([BII)I" } : Jvm.MethodName) jdk_43_method_27_code (4 : Nat) (Option.some Jvm.ClassFile.FieldType.int)).before args0 about1 = true := code_word (m := ⟨9, 5⟩) (meth := k9m5) (c := k9c5) (by decide +kernel) rfl rfl rfl (by decide +kernel)
set_option maxRecDepth 65536 in
theorem w_c13 : (Jvm.Cond.code ({ cls := "java/lang/StringLatin1", name := "canEncode", desc := "(I)Z" } : Jvm.MethodName) jdk_43_method_4_code (1 : Nat) (Option.some Jvm.ClassFile.FieldType.boolean)).before args0 about1 = true := code_word (m := ⟨9, 2⟩) (meth := k9m2) (c := k9c2) (by decide +kernel) rfl rfl rfl (by decide +kernel)
set_option maxRecDepth 65536 in
theorem w_c14 : (Jvm.Cond.code ({ cls := "java/lang/Math", name := "min", desc := "(II)I" } : Jvm.MethodName) jdk_29_method_69_code (2 : Nat) (Option.some Jvm.ClassFile.FieldType.int)).before args0 about1 = true := code_word (m := ⟨10, 2⟩) (meth := k10m2) (c := k10c2) (by decide +kernel) rfl rfl rfl (by decide +kernel)
set_option maxRecDepth 65536 in
theorem w_c15 : (Jvm.Cond.code ({ cls := "java/lang/String", name := "substring", desc := "(I)Ljava/lang/String;" } : Jvm.MethodName) jdk_42_method_91_code (2 : Nat) (Option.some (Jvm.ClassFile.FieldType.object "java/lang/String"))).before args0 about1 = true := code_word (m := ⟨7, 8⟩) (meth := k7m8) (c := k7c8) (by decide +kernel) rfl rfl rfl (by decide +kernel)
set_option maxRecDepth 65536 in
theorem w_c16 : (Jvm.Cond.code ({ cls := "java/lang/String", name := "substring", desc := "(II)Ljava/lang/String;" } : Jvm.MethodName) jdk_42_method_92_code (5 : Nat) (Option.some (Jvm.ClassFile.FieldType.object "java/lang/String"))).before args0 about1 = true := code_word (m := ⟨7, 9⟩) (meth := k7m9) (c := k7c9) (by decide +kernel) rfl rfl rfl (by decide +kernel)
set_option maxRecDepth 65536 in
theorem w_c17 : (Jvm.Cond.code ({ cls := "java/lang/String", name := "checkBoundsBeginEnd", desc := "(III)V" } : Jvm.MethodName) jdk_42_method_158_code (3 : Nat) (Option.none : Option Jvm.ClassFile.FieldType)).before args0 about1 = true := code_word (m := ⟨7, 15⟩) (meth := k7m15) (c := k7c15) (by decide +kernel) rfl rfl rfl (by decide +kernel)
set_option maxRecDepth 65536 in
theorem w_c18 : (Jvm.Cond.code ({ cls := "jdk/internal/util/Preconditions", name := "checkFromToIndex", desc := "(IIILjava/util/function/BiFunction;)I" } : Jvm.MethodName) jdk_41_method_12_code (4 : Nat) (Option.some Jvm.ClassFile.FieldType.int)).before args0 about1 = true := code_word (m := ⟨11, 2⟩) (meth := k11m2) (c := k11c2) (by decide +kernel) rfl rfl rfl (by decide +kernel)
set_option maxRecDepth 65536 in
theorem w_c19 : (Jvm.Cond.code ({ cls := "com/example/isidore/isidore/rulesets/mwsdn/PathNames", name := "withoutKeys", desc := "(Ljava/lang/String;)Ljava/lang/String;" } : Jvm.MethodName) prog_71_method_8_code (3 : Nat) (Option.some (Jvm.ClassFile.FieldType.object "java/lang/String"))).before args0 about1 = true := code_word (m := ⟨8, 2⟩) (meth := k8m2) (c := k8c2) (by decide +kernel) rfl rfl rfl (by decide +kernel)
set_option maxRecDepth 65536 in
theorem w_c20 : (Jvm.Cond.code ({ cls := "java/lang/String", name := "indexOf", desc := "(I)I" } : Jvm.MethodName) jdk_42_method_79_code (2 : Nat) (Option.some Jvm.ClassFile.FieldType.int)).before args0 about1 = true := code_word (m := ⟨7, 4⟩) (meth := k7m4) (c := k7c4) (by decide +kernel) rfl rfl rfl (by decide +kernel)
set_option maxRecDepth 65536 in
theorem w_c21 : (Jvm.Cond.code ({ cls := "java/lang/String", name := "indexOf", desc := "(II)I" } : Jvm.MethodName) jdk_42_method_80_code (3 : Nat) (Option.some Jvm.ClassFile.FieldType.int)).before args0 about1 = true := code_word (m := ⟨7, 5⟩) (meth := k7m5) (c := k7c5) (by decide +kernel) rfl rfl rfl (by decide +kernel)
set_option maxRecDepth 65536 in
theorem w_c22 : (Jvm.Cond.code ({ cls := "java/lang/StringLatin1", name := "indexOf", desc := "([BIII)I" } : Jvm.MethodName) jdk_43_method_22_code (4 : Nat) (Option.some Jvm.ClassFile.FieldType.int)).before args0 about1 = true := code_word (m := ⟨9, 3⟩) (meth := k9m3) (c := k9c3) (by decide +kernel) rfl rfl rfl (by decide +kernel)
set_option maxRecDepth 65536 in
theorem w_c23 : (Jvm.Cond.code ({ cls := "java/lang/Math", name := "max", desc := "(II)I" } : Jvm.MethodName) jdk_29_method_65_code (2 : Nat) (Option.some Jvm.ClassFile.FieldType.int)).before args0 about1 = true := code_word (m := ⟨10, 1⟩) (meth := k10m1) (c := k10c1) (by decide +kernel) rfl rfl rfl (by decide +kernel)
set_option maxRecDepth 65536 in
theorem w_c24 : (Jvm.Cond.code ({ cls := "com/example/isidore/isidore/rulesets/mwsdn/PathNamesNodePinLaw", name := "lastSlash", desc := "([CI)I" } : Jvm.MethodName) method_4_code (3 : Nat) (Option.some Jvm.ClassFile.FieldType.int)).before args0 about1 = true := code_word (m := ⟨1, 3⟩) (meth := k1m3) (c := k1c3) (by decide +kernel) rfl rfl rfl (by decide +kernel)
set_option maxRecDepth 65536 in
theorem w_c25 : (Jvm.Cond.code ({ cls := "com/example/isidore/isidore/rulesets/mwsdn/PathNamesNodePinLaw", name := "firstFrom", desc := "([CCII)I" } : Jvm.MethodName) method_5_code (4 : Nat) (Option.some Jvm.ClassFile.FieldType.int)).before args0 about1 = true := code_word (m := ⟨1, 4⟩) (meth := k1m4) (c := k1c4) (by decide +kernel) rfl rfl rfl (by decide +kernel)
set_option maxRecDepth 65536 in
theorem w_c26 : (Jvm.Cond.code ({ cls := "com/example/isidore/isidore/rulesets/mwsdn/PathNamesNodePinLaw", name := "at", desc := "(Ljava/lang/String;I[CII)Z" } : Jvm.MethodName) method_6_code (5 : Nat) (Option.some Jvm.ClassFile.FieldType.boolean)).before args0 about1 = true := code_word (m := ⟨1, 5⟩) (meth := k1m5) (c := k1c5) (by decide +kernel) rfl rfl rfl (by decide +kernel)
set_option maxRecDepth 65536 in
theorem w_c27 : (Jvm.Cond.code ({ cls := "java/lang/StringUTF16", name := "compress", desc := "([CII)[B" } : Jvm.MethodName) jdk_52_method_16_code (6 : Nat) (Option.some (Jvm.ClassFile.FieldType.array Jvm.ClassFile.FieldType.byte))).before args0 about1 = true := code_word (m := ⟨12, 2⟩) (meth := k12m2) (c := k12c2) (by decide +kernel) rfl rfl rfl (by decide +kernel)
set_option maxRecDepth 65536 in
theorem w_c28 : (Jvm.Cond.code ({ cls := "java/lang/StringUTF16", name := "compress", desc := "([CI[BII)I" } : Jvm.MethodName) jdk_52_method_21_code (7 : Nat) (Option.some Jvm.ClassFile.FieldType.int)).before args0 about1 = true := code_word (m := ⟨12, 3⟩) (meth := k12m3) (c := k12c3) (by decide +kernel) rfl rfl rfl (by decide +kernel)
set_option maxRecDepth 65536 in
theorem w_c29 : (Jvm.Cond.code ({ cls := "java/lang/StringUTF16", name := "coderFromArrayLen", desc := "([BI)B" } : Jvm.MethodName) jdk_52_method_15_code (2 : Nat) (Option.some Jvm.ClassFile.FieldType.byte)).before args0 about1 = true := code_word (m := ⟨12, 1⟩) (meth := k12m1) (c := k12c1) (by decide +kernel) rfl rfl rfl (by decide +kernel)
set_option maxRecDepth 65536 in
theorem w_c30 : (Jvm.Cond.code ({ cls := "java/lang/StringLatin1", name := "newString", desc := "([BII)Ljava/lang/String;" } : Jvm.MethodName) jdk_43_method_47_code (3 : Nat) (Option.some (Jvm.ClassFile.FieldType.object "java/lang/String"))).before args0 about1 = true := code_word (m := ⟨9, 6⟩) (meth := k9m6) (c := k9c6) (by decide +kernel) rfl rfl rfl (by decide +kernel)
set_option maxRecDepth 65536 in
theorem w_c31 : (Jvm.Cond.code ({ cls := "java/util/Arrays", name := "copyOfRange", desc := "([BII)[B" } : Jvm.MethodName) jdk_65_method_132_code (3 : Nat) (Option.some (Jvm.ClassFile.FieldType.array Jvm.ClassFile.FieldType.byte))).before args0 about1 = true := code_word (m := ⟨13, 2⟩) (meth := k13m2) (c := k13c2) (by decide +kernel) rfl rfl rfl (by decide +kernel)
set_option maxRecDepth 65536 in
theorem w_c32 : (Jvm.Cond.code ({ cls := "java/util/Arrays", name := "copyOfRangeByte", desc := "([BII)[B" } : Jvm.MethodName) jdk_65_method_133_code (5 : Nat) (Option.some (Jvm.ClassFile.FieldType.array Jvm.ClassFile.FieldType.byte))).before args0 about1 = true := code_word (m := ⟨13, 3⟩) (meth := k13m3) (c := k13c3) (by decide +kernel) rfl rfl rfl (by decide +kernel)
set_option maxRecDepth 65536 in
theorem w_c33 : (Jvm.Cond.code ({ cls := "java/util/Arrays", name := "checkLength", desc := "(II)V" } : Jvm.MethodName) jdk_65_method_131_code (2 : Nat) (Option.none : Option Jvm.ClassFile.FieldType)).before args0 about1 = true := code_word (m := ⟨13, 1⟩) (meth := k13m1) (c := k13c1) (by decide +kernel) rfl rfl rfl (by decide +kernel)
set_option maxRecDepth 65536 in
theorem w_c34 : (Jvm.Cond.code ({ cls := "java/lang/String", name := "<init>", desc := "([BB)V" } : Jvm.MethodName) jdk_42_method_151_code (3 : Nat) (Option.none : Option Jvm.ClassFile.FieldType)).before args0 about1 = true := code_word (m := ⟨7, 11⟩) (meth := k7m11) (c := k7c11) (by decide +kernel) rfl rfl rfl (by decide +kernel)
set_option maxRecDepth 65536 in
theorem w_c35 : (Jvm.Cond.code ({ cls := "java/lang/StringLatin1", name := "indexOfChar", desc := "([BIII)I" } : Jvm.MethodName) jdk_43_method_23_code (6 : Nat) (Option.some Jvm.ClassFile.FieldType.int)).before args0 about1 = true := code_word (m := ⟨9, 4⟩) (meth := k9m4) (c := k9c4) (by decide +kernel) rfl rfl rfl (by decide +kernel)
set_option maxRecDepth 65536 in
theorem w_c36 : (Jvm.Cond.code ({ cls := "java/lang/String", name := "charAt", desc := "(I)C" } : Jvm.MethodName) jdk_42_method_56_code (2 : Nat) (Option.some Jvm.ClassFile.FieldType.char)).before args0 about1 = true := code_word (m := ⟨7, 3⟩) (meth := k7m3) (c := k7c3) (by decide +kernel) rfl rfl rfl (by decide +kernel)
set_option maxRecDepth 65536 in
theorem w_c37 : (Jvm.Cond.code ({ cls := "java/lang/StringLatin1", name := "charAt", desc := "([BI)C" } : Jvm.MethodName) jdk_43_method_2_code (2 : Nat) (Option.some Jvm.ClassFile.FieldType.char)).before args0 about1 = true := code_word (m := ⟨9, 1⟩) (meth := k9m1) (c := k9c1) (by decide +kernel) rfl rfl rfl (by decide +kernel)
set_option maxRecDepth 65536 in
theorem w_c38 : (Jvm.Cond.code ({ cls := "java/lang/String", name := "checkIndex", desc := "(II)V" } : Jvm.MethodName) jdk_42_method_155_code (2 : Nat) (Option.none : Option Jvm.ClassFile.FieldType)).before args0 about1 = true := code_word (m := ⟨7, 14⟩) (meth := k7m14) (c := k7c14) (by decide +kernel) rfl rfl rfl (by decide +kernel)
set_option maxRecDepth 65536 in
theorem w_c39 : (Jvm.Cond.code ({ cls := "jdk/internal/util/Preconditions", name := "checkIndex", desc := "(IILjava/util/function/BiFunction;)I" } : Jvm.MethodName) jdk_41_method_11_code (3 : Nat) (Option.some Jvm.ClassFile.FieldType.int)).before args0 about1 = true := code_word (m := ⟨11, 1⟩) (meth := k11m1) (c := k11c1) (by decide +kernel) rfl rfl rfl (by decide +kernel)
def codes1 : List Jvm.Cond := [Jvm.Cond.code x code maxLocals ret, Jvm.Cond.code ({ cls := "com/example/isidore/isidore/rulesets/mwsdn/PathNamesNodePinLaw", name := "ch", desc := "(I)C" } : Jvm.MethodName) method_2_code (2 : Nat) (Option.some Jvm.ClassFile.FieldType.char), Jvm.Cond.code ({ cls := "com/example/isidore/isidore/rulesets/mwsdn/PathNamesNodePinLaw", name := "str", desc := "([CI)Ljava/lang/String;" } : Jvm.MethodName) method_3_code (2 : Nat) (Option.some (Jvm.ClassFile.FieldType.object "java/lang/String")), Jvm.Cond.code ({ cls := "java/lang/String", name := "<init>", desc := "([C)V" } : Jvm.MethodName) jdk_42_method_3_code (2 : Nat) (Option.none : Option Jvm.ClassFile.FieldType), Jvm.Cond.code ({ cls := "java/lang/String", name := "<init>", desc := "([CIILjava/lang/Void;)V" } : Jvm.MethodName) jdk_42_method_149_code (6 : Nat) (Option.none : Option Jvm.ClassFile.FieldType), Jvm.Cond.code ({ cls := "java/lang/Object", name := "<init>", desc := "()V" } : Jvm.MethodName) object_method_1_code (1 : Nat) (Option.none : Option Jvm.ClassFile.FieldType), Jvm.Cond.code ({ cls := "com/example/isidore/isidore/rulesets/mwsdn/PathNames", name := "node", desc := "(Ljava/lang/String;)Ljava/lang/String;" } : Jvm.MethodName) prog_71_method_2_code (2 : Nat) (Option.some (Jvm.ClassFile.FieldType.object "java/lang/String")), Jvm.Cond.code ({ cls := "java/lang/String", name := "lastIndexOf", desc := "(I)I" } : Jvm.MethodName) jdk_42_method_82_code (2 : Nat) (Option.some Jvm.ClassFile.FieldType.int), Jvm.Cond.code ({ cls := "java/lang/String", name := "length", desc := "()I" } : Jvm.MethodName) jdk_42_method_54_code (1 : Nat) (Option.some Jvm.ClassFile.FieldType.int), Jvm.Cond.code ({ cls := "java/lang/String", name := "coder", desc := "()B" } : Jvm.MethodName) jdk_42_method_152_code (1 : Nat) (Option.some Jvm.ClassFile.FieldType.byte), Jvm.Cond.code ({ cls := "java/lang/String", name := "lastIndexOf", desc := "(II)I" } : Jvm.MethodName) jdk_42_method_83_code (3 : Nat) (Option.some Jvm.ClassFile.FieldType.int), Jvm.Cond.code ({ cls := "java/lang/String", name := "isLatin1", desc := "()Z" } : Jvm.MethodName) jdk_42_method_154_code (1 : Nat) (Option.some Jvm.ClassFile.FieldType.boolean), Jvm.Cond.code ({ cls := "java/lang/StringLatin1", name := "lastIndexOf", desc := "([BII)I" } : Jvm.MethodName) jdk_43_method_27_code (4 : Nat) (Option.some Jvm.ClassFile.FieldType.int), Jvm.Cond.code ({ cls := "java/lang/StringLatin1", name := "canEncode", desc := "(I)Z" } : Jvm.MethodName) jdk_43_method_4_code (1 : Nat) (Option.some Jvm.ClassFile.FieldType.boolean), Jvm.Cond.code ({ cls := "java/lang/Math", name := "min", desc := "(II)I" } : Jvm.MethodName) jdk_29_method_69_code (2 : Nat) (Option.some Jvm.ClassFile.FieldType.int), Jvm.Cond.code ({ cls := "java/lang/String", name := "substring", desc := "(I)Ljava/lang/String;" } : Jvm.MethodName) jdk_42_method_91_code (2 : Nat) (Option.some (Jvm.ClassFile.FieldType.object "java/lang/String")), Jvm.Cond.code ({ cls := "java/lang/String", name := "substring", desc := "(II)Ljava/lang/String;" } : Jvm.MethodName) jdk_42_method_92_code (5 : Nat) (Option.some (Jvm.ClassFile.FieldType.object "java/lang/String")), Jvm.Cond.code ({ cls := "java/lang/String", name := "checkBoundsBeginEnd", desc := "(III)V" } : Jvm.MethodName) jdk_42_method_158_code (3 : Nat) (Option.none : Option Jvm.ClassFile.FieldType), Jvm.Cond.code ({ cls := "jdk/internal/util/Preconditions", name := "checkFromToIndex", desc := "(IIILjava/util/function/BiFunction;)I" } : Jvm.MethodName) jdk_41_method_12_code (4 : Nat) (Option.some Jvm.ClassFile.FieldType.int), Jvm.Cond.code ({ cls := "com/example/isidore/isidore/rulesets/mwsdn/PathNames", name := "withoutKeys", desc := "(Ljava/lang/String;)Ljava/lang/String;" } : Jvm.MethodName) prog_71_method_8_code (3 : Nat) (Option.some (Jvm.ClassFile.FieldType.object "java/lang/String")), Jvm.Cond.code ({ cls := "java/lang/String", name := "indexOf", desc := "(I)I" } : Jvm.MethodName) jdk_42_method_79_code (2 : Nat) (Option.some Jvm.ClassFile.FieldType.int), Jvm.Cond.code ({ cls := "java/lang/String", name := "indexOf", desc := "(II)I" } : Jvm.MethodName) jdk_42_method_80_code (3 : Nat) (Option.some Jvm.ClassFile.FieldType.int), Jvm.Cond.code ({ cls := "java/lang/StringLatin1", name := "indexOf", desc := "([BIII)I" } : Jvm.MethodName) jdk_43_method_22_code (4 : Nat) (Option.some Jvm.ClassFile.FieldType.int), Jvm.Cond.code ({ cls := "java/lang/Math", name := "max", desc := "(II)I" } : Jvm.MethodName) jdk_29_method_65_code (2 : Nat) (Option.some Jvm.ClassFile.FieldType.int), Jvm.Cond.code ({ cls := "com/example/isidore/isidore/rulesets/mwsdn/PathNamesNodePinLaw", name := "lastSlash", desc := "([CI)I" } : Jvm.MethodName) method_4_code (3 : Nat) (Option.some Jvm.ClassFile.FieldType.int), Jvm.Cond.code ({ cls := "com/example/isidore/isidore/rulesets/mwsdn/PathNamesNodePinLaw", name := "firstFrom", desc := "([CCII)I" } : Jvm.MethodName) method_5_code (4 : Nat) (Option.some Jvm.ClassFile.FieldType.int), Jvm.Cond.code ({ cls := "com/example/isidore/isidore/rulesets/mwsdn/PathNamesNodePinLaw", name := "at", desc := "(Ljava/lang/String;I[CII)Z" } : Jvm.MethodName) method_6_code (5 : Nat) (Option.some Jvm.ClassFile.FieldType.boolean), Jvm.Cond.code ({ cls := "java/lang/StringUTF16", name := "compress", desc := "([CII)[B" } : Jvm.MethodName) jdk_52_method_16_code (6 : Nat) (Option.some (Jvm.ClassFile.FieldType.array Jvm.ClassFile.FieldType.byte)), Jvm.Cond.code ({ cls := "java/lang/StringUTF16", name := "compress", desc := "([CI[BII)I" } : Jvm.MethodName) jdk_52_method_21_code (7 : Nat) (Option.some Jvm.ClassFile.FieldType.int), Jvm.Cond.code ({ cls := "java/lang/StringUTF16", name := "coderFromArrayLen", desc := "([BI)B" } : Jvm.MethodName) jdk_52_method_15_code (2 : Nat) (Option.some Jvm.ClassFile.FieldType.byte), Jvm.Cond.code ({ cls := "java/lang/StringLatin1", name := "newString", desc := "([BII)Ljava/lang/String;" } : Jvm.MethodName) jdk_43_method_47_code (3 : Nat) (Option.some (Jvm.ClassFile.FieldType.object "java/lang/String")), Jvm.Cond.code ({ cls := "java/util/Arrays", name := "copyOfRange", desc := "([BII)[B" } : Jvm.MethodName) jdk_65_method_132_code (3 : Nat) (Option.some (Jvm.ClassFile.FieldType.array Jvm.ClassFile.FieldType.byte)), Jvm.Cond.code ({ cls := "java/util/Arrays", name := "copyOfRangeByte", desc := "([BII)[B" } : Jvm.MethodName) jdk_65_method_133_code (5 : Nat) (Option.some (Jvm.ClassFile.FieldType.array Jvm.ClassFile.FieldType.byte)), Jvm.Cond.code ({ cls := "java/util/Arrays", name := "checkLength", desc := "(II)V" } : Jvm.MethodName) jdk_65_method_131_code (2 : Nat) (Option.none : Option Jvm.ClassFile.FieldType), Jvm.Cond.code ({ cls := "java/lang/String", name := "<init>", desc := "([BB)V" } : Jvm.MethodName) jdk_42_method_151_code (3 : Nat) (Option.none : Option Jvm.ClassFile.FieldType), Jvm.Cond.code ({ cls := "java/lang/StringLatin1", name := "indexOfChar", desc := "([BIII)I" } : Jvm.MethodName) jdk_43_method_23_code (6 : Nat) (Option.some Jvm.ClassFile.FieldType.int), Jvm.Cond.code ({ cls := "java/lang/String", name := "charAt", desc := "(I)C" } : Jvm.MethodName) jdk_42_method_56_code (2 : Nat) (Option.some Jvm.ClassFile.FieldType.char), Jvm.Cond.code ({ cls := "java/lang/StringLatin1", name := "charAt", desc := "([BI)C" } : Jvm.MethodName) jdk_43_method_2_code (2 : Nat) (Option.some Jvm.ClassFile.FieldType.char), Jvm.Cond.code ({ cls := "java/lang/String", name := "checkIndex", desc := "(II)V" } : Jvm.MethodName) jdk_42_method_155_code (2 : Nat) (Option.none : Option Jvm.ClassFile.FieldType), Jvm.Cond.code ({ cls := "jdk/internal/util/Preconditions", name := "checkIndex", desc := "(IILjava/util/function/BiFunction;)I" } : Jvm.MethodName) jdk_41_method_11_code (3 : Nat) (Option.some Jvm.ClassFile.FieldType.int)]
set_option maxRecDepth 65536 in
theorem codes_eq : words1.filter isCode = codes1 := rfl
theorem w_codes : ∀ c ∈ words1.filter isCode, c.before args0 about1 = true := by
  rw [codes_eq]
  intro c hc
  simp only [codes1, List.mem_cons, List.not_mem_nil, or_false] at hc
  rcases hc with rfl | rfl | rfl | rfl | rfl | rfl | rfl | rfl | rfl | rfl | rfl | rfl | rfl | rfl | rfl | rfl | rfl | rfl | rfl | rfl | rfl | rfl | rfl | rfl | rfl | rfl | rfl | rfl | rfl | rfl | rfl | rfl | rfl | rfl | rfl | rfl | rfl | rfl | rfl | rfl
  · exact w_c0
  · exact w_c1
  · exact w_c2
  · exact w_c3
  · exact w_c4
  · exact w_c5
  · exact w_c6
  · exact w_c7
  · exact w_c8
  · exact w_c9
  · exact w_c10
  · exact w_c11
  · exact w_c12
  · exact w_c13
  · exact w_c14
  · exact w_c15
  · exact w_c16
  · exact w_c17
  · exact w_c18
  · exact w_c19
  · exact w_c20
  · exact w_c21
  · exact w_c22
  · exact w_c23
  · exact w_c24
  · exact w_c25
  · exact w_c26
  · exact w_c27
  · exact w_c28
  · exact w_c29
  · exact w_c30
  · exact w_c31
  · exact w_c32
  · exact w_c33
  · exact w_c34
  · exact w_c35
  · exact w_c36
  · exact w_c37
  · exact w_c38
  · exact w_c39
set_option maxRecDepth 65536 in
theorem w_t1 : (words1.take 24).all (fun c => isCode c || c.before args0 about1) = true := by decide +kernel
set_option maxRecDepth 65536 in
theorem w_t2 : ((words1.drop 24).take 24).all (fun c => isCode c || c.before args0 about1) = true := by decide +kernel
set_option maxRecDepth 65536 in
theorem w_t3 : (((words1.drop 24).drop 24).take 24).all (fun c => isCode c || c.before args0 about1) = true := by decide +kernel
set_option maxRecDepth 65536 in
theorem w_t4 : ((((words1.drop 24).drop 24).drop 24).take 24).all (fun c => isCode c || c.before args0 about1) = true := by decide +kernel
set_option maxRecDepth 65536 in
theorem w_t5 : (((((words1.drop 24).drop 24).drop 24).drop 24).take 24).all (fun c => isCode c || c.before args0 about1) = true := by decide +kernel
set_option maxRecDepth 65536 in
theorem w_t6 : ((((((words1.drop 24).drop 24).drop 24).drop 24).drop 24).take 24).all (fun c => isCode c || c.before args0 about1) = true := by decide +kernel
set_option maxRecDepth 65536 in
theorem w_t7 : (((((((words1.drop 24).drop 24).drop 24).drop 24).drop 24).drop 24).take 24).all (fun c => isCode c || c.before args0 about1) = true := by decide +kernel
set_option maxRecDepth 65536 in
theorem w_t8 : (((((((words1.drop 24).drop 24).drop 24).drop 24).drop 24).drop 24).drop 24).all (fun c => isCode c || c.before args0 about1) = true := by decide +kernel
theorem w_tables : (allAtoms (Jvm.Cond.code x code maxLocals ret :: tables_1)).before args0 about1 = true := by
  rw [allAtoms_all]
  show words1.all (fun c => c.before args0 about1) = true
  refine all_split ?_ w_codes
  rw [← List.take_append_drop 24 words1, List.all_append, w_t1, ← List.take_append_drop 24 (words1.drop 24), List.all_append, w_t2, ← List.take_append_drop 24 ((words1.drop 24).drop 24), List.all_append, w_t3, ← List.take_append_drop 24 (((words1.drop 24).drop 24).drop 24), List.all_append, w_t4, ← List.take_append_drop 24 ((((words1.drop 24).drop 24).drop 24).drop 24), List.all_append, w_t5, ← List.take_append_drop 24 (((((words1.drop 24).drop 24).drop 24).drop 24).drop 24), List.all_append, w_t6, ← List.take_append_drop 24 ((((((words1.drop 24).drop 24).drop 24).drop 24).drop 24).drop 24), List.all_append, w_t7, w_t8]
  rfl
set_option maxRecDepth 65536 in
theorem w_rest : rest_1_c.before args0 about1 = true := by decide +kernel
set_option maxRecDepth 65536 in
theorem w_case : (Jvm.Cond.and given_1 narrow_1).before args0 about1 = true := by decide +kernel
set_option maxRecDepth 65536 in
theorem w_consts : constsHeld consts_1 about1 := Jvm.Lit.constsHeldB_iff.mp (by decide +kernel)
theorem w_applies : (headSpec (Jvm.Cond.code x code maxLocals ret :: tables_1) room_1).applies x e0.platform about1 = true :=
  (Spec.applies_iff w_frames).mpr ⟨w_running, w_runnable, w_alone, w_named, w_hears, w_ripe, w_room, w_tables⟩
theorem atStart : AtStart classFile x code maxLocals ret World_1 tables_1 room_1 Calls_1 rest_1 Pre_1 launch0 p0 e0 about1 theMethod args0 below0 :=
  ⟨lists_1, trivial, launch0.admits_env _ _ _, launch0.least_env, fairChoices_fair.cas, fairChoices_fair.clock, w_frames, w_args, w_heap, w_applies, ⟨w_consts, trivial⟩, w_rest, w_case⟩
end start1
theorem witness_1 : WitnessClaimed_1 := ⟨start1.p0, start1.e0, start1.about1, start1.theMethod, start1.args0, start1.below0, start1.atStart⟩
end Jvm.Pilot.@@N@@
