import JvmDerived
import JvmDerived.Pilot.@@N@@Statement
import JvmDerived.Pilot.@@N@@Code
set_option linter.unusedVariables false
set_option linter.unusedSimpArgs false
namespace Jvm.RoadKit
open Sem ClassFile Op Lib Jvm.Stand Jvm.Free Jvm.LawKit
section New
variable {p : Program} {l : Launch} {e : Env} {R : Room} {s : State} {m : MethodId} {args : Array Value} {below : List Frame} {meth : Method} {c : Code} {T : State} {locs : List Loc} {cells slots : Nat} {K : Outcome → State → Prop}
theorem retI (X : Stand p l e R s m args below meth c T locs cells slots) (hx : p.tables.exec = Jvm.exec) {pc : Nat} {Ls : Array Slot} {z : Int32} {rest : List Value} (hret : meth.sig.returnType = some .int) (hd : decode c.code pc = .ok (.ireturn, 1)) {fs : List Frame}
    (hl : ∀ (f : JFrame) (acts : List Action), f.method = m → f.locked = none → f.entered = [] → (doReturn e (T.setTop f) acts (some (.int z))).1 = T.setFrames fs) : Steps p.tables e below (T.setTop (mkF m pc Ls (.int z :: rest))) (T.setFrames fs) := by
  have hm' : T.vm.method? m = some meth := X.method'
  have hn : narrow .int (.int z) = .int z := rfl
  show Steps p.tables e below (T.setTop { method := m, pc := pc, locals := Ls, stack := _ :: rest, locked := none }) _
  jvm_step X.here [X.here.top, hx, hd, hm', hret, hn]
  first | (intro acts; rw [hl _ acts rfl rfl rfl]) | rw [hl _ _ rfl rfl rfl]
  exact Steps.refl _
/-- from here the run comes to an end that K holds of -/
def Rch (p : Program) (e : Env) (below : List Frame) (K : Outcome → State → Prop) (T : State) (g : JFrame) : Prop := ∃ s₂ o, Steps p.tables e below (T.setTop g) s₂ ∧ s₂.status = .running ∧ Ended s₂ below o ∧ K o s₂
theorem Rch.of {T T' : State} {g g' : JFrame} (h : ∀ t, Steps p.tables e below (T'.setTop g') t → Steps p.tables e below (T.setTop g) t) (k : Rch p e below K T' g') : Rch p e below K T g := by
  obtain ⟨s₂, o, h1, h2⟩ := k
  exact ⟨s₂, o, h _ h1, h2⟩
theorem Rch.via {T T' : State} {g g' : JFrame} (h : Steps p.tables e below (T.setTop g) (T'.setTop g')) (k : Rch p e below K T' g') : Rch p e below K T g := Rch.of (fun _ kt => h.trans kt) k
theorem Rch.cast {T : State} {g g' : JFrame} (q : g = g') (k : Rch p e below K T g') : Rch p e below K T g := q ▸ k
theorem Rch.retN (X : Stand p l e R s m args below meth c T locs cells slots) (hx : p.tables.exec = Jvm.exec) {pc : Nat} {Ls : Array Slot} {z : Int32} {t : FieldType} {rest : List Value} (hret : meth.sig.returnType = some t) (ht : t = .boolean ∨ t = .byte ∨ t = .char ∨ t = .short) (hlk : meth.locks = false) (hd : decode c.code pc = .ok (.ireturn, 1))
    (k : ∀ U : State, U.heap = T.heap → FrameEnd s (.returned (some (.int (nar t z)))) U locs cells slots → K (.returned (some (.int (nar t z)))) U) : Rch p e below K T (mkF m pc Ls (.int z :: rest)) := by
  obtain ⟨fs, hr, hrun, hended, hW, hsame⟩ := X.leave (v := some (.int (nar t z))) (fun h => by rw [hret] at h; cases h) hlk
  exact ⟨_, _, Jvm.RoadKit.retN X hx hret ht hd hr, hrun, hended, k _ rfl ⟨⟨_, rfl⟩, hW, hsame⟩⟩
theorem Rch.retI (X : Stand p l e R s m args below meth c T locs cells slots) (hx : p.tables.exec = Jvm.exec) {pc : Nat} {Ls : Array Slot} {z : Int32} {rest : List Value} (hret : meth.sig.returnType = some .int) (hlk : meth.locks = false) (hd : decode c.code pc = .ok (.ireturn, 1))
    (k : ∀ U : State, U.heap = T.heap → FrameEnd s (.returned (some (.int z))) U locs cells slots → K (.returned (some (.int z))) U) : Rch p e below K T (mkF m pc Ls (.int z :: rest)) := by
  obtain ⟨fs, hr, hrun, hended, hW, hsame⟩ := X.leave (v := some (.int z)) (fun h => by rw [hret] at h; cases h) hlk
  exact ⟨_, _, Jvm.RoadKit.retI X hx hret hd hr, hrun, hended, k _ rfl ⟨⟨_, rfl⟩, hW, hsame⟩⟩
theorem Rch.retJ (X : Stand p l e R s m args below meth c T locs cells slots) (hx : p.tables.exec = Jvm.exec) {pc : Nat} {Ls : Array Slot} {z : Int64} {rest : List Value} (hret : meth.sig.returnType = some .long) (hlk : meth.locks = false) (hd : decode c.code pc = .ok (.lreturn, 1))
    (k : ∀ U : State, U.heap = T.heap → FrameEnd s (.returned (some (.long z))) U locs cells slots → K (.returned (some (.long z))) U) : Rch p e below K T (mkF m pc Ls (.long z :: rest)) := by
  obtain ⟨fs, hr, hrun, hended, hW, hsame⟩ := X.leave (v := some (.long z)) (fun h => by rw [hret] at h; cases h) hlk
  exact ⟨_, _, retOut X hx hret rfl (Or.inr (Or.inl ⟨rfl, rfl, z, rfl⟩)) hd hr, hrun, hended, k _ rfl ⟨⟨_, rfl⟩, hW, hsame⟩⟩
theorem Rch.retA (X : Stand p l e R s m args below meth c T locs cells slots) (hx : p.tables.exec = Jvm.exec) {pc : Nat} {Ls : Array Slot} {w : Value} {t : FieldType} {rest : List Value} (hret : meth.sig.returnType = some t) (ht : t.isReference = true) (hw : w.isRef = true) (hlk : meth.locks = false) (hd : decode c.code pc = .ok (.areturn, 1))
    (k : ∀ U : State, U.heap = T.heap → FrameEnd s (.returned (some w)) U locs cells slots → K (.returned (some w)) U) : Rch p e below K T (mkF m pc Ls (w :: rest)) := by
  obtain ⟨fs, hr, hrun, hended, hW, hsame⟩ := X.leave (v := some w) (fun h => by rw [hret] at h; cases h) hlk
  have hn : narrow t w = w := by
    rcases ref_cases hw with rfl | ⟨a, rfl⟩ <;> cases t <;> first | rfl | (simp [FieldType.isReference] at ht)
  exact ⟨_, _, retOut X hx hret hn (Or.inr (Or.inr (Or.inr (Or.inr ⟨rfl, ht, hw⟩)))) hd hr, hrun, hended, k _ rfl ⟨⟨_, rfl⟩, hW, hsame⟩⟩
theorem Rch.retV (X : Stand p l e R s m args below meth c T locs cells slots) (hx : p.tables.exec = Jvm.exec) {pc : Nat} {Ls : Array Slot} (hret : meth.sig.returnType = none) (hlk : meth.locks = false) (hd : decode c.code pc = .ok (.return_, 1))
    (k : ∀ U : State, U.heap = T.heap → FrameEnd s (.returned none) U locs cells slots → K (.returned none) U) : Rch p e below K T (mkF m pc Ls []) := by
  obtain ⟨fs, hr, hrun, hended, hW, hsame⟩ := X.leave (v := none) (fun _ => rfl) hlk
  exact ⟨_, _, X.returnOut hx hret hd hr, hrun, hended, k _ rfl ⟨⟨_, rfl⟩, hW, hsame⟩⟩
theorem own_met {y : MethodName} {bytes : ByteArray} {maxL : Nat} {ret : Option FieldType} {ws : List Cond} {rm : Room} {as' : Array Value} {Z : State} {h0 : Heap} {Q : Option Value → Heap → List Loc → Prop} {ck sk : Nat} (hn : plainFor y = true)
    (body : ∀ (p : Program) (e : Env) (s : State) (m : MethodId) (below : List Frame) (meth : Method) (c : Code) (T : State) (K : Outcome → State → Prop), p.tables.exec = Jvm.exec → c.code = bytes → c.maxLocals = maxL → meth.sig.returnType = ret → meth.locks = false → s.vm.findClass y.cls = some m.cls → meth.name = y.name → Z.Warmed39 s.vm → Stand p l e rm s m as' below meth c T [] 0 0 → T.heap = h0 →
      (∀ (v : Option Value) (U : State) (L : List Loc) (k n : Nat), Q v U.heap L → FrameEnd s (.returned v) U L k n → k ≤ ck → n ≤ sk → K (.returned v) U) → Rch p e below K T (entryFrame m as' maxL)) :
    MetFree l y (head1 (Cond.code y bytes maxL ret :: ws) rm) (fun a U => a = as' ∧ Z.Warmed39 U.vm ∧ U.heap = h0) (fun _ _ _ _ _ => True) (fun _ U o U' => ∃ v L, o = .returned v ∧ Q v U'.heap L ∧ FrameEnd U o U' L ck sk) := by
  refine MetFree.of_bodySF hn hisR ?_
  intro p e s m args below meth c s₁ Bd hml0 hP hK
  obtain ⟨rfl, hZ, hh⟩ := hP
  show Rch p e below (fun o U' => ∃ v L, o = .returned v ∧ Q v U'.heap L ∧ FrameEnd s o U' L ck sk) s₁ (entryFrame m args maxL)
  refine body p e s m below meth c s₁ _ Bd.exec Bd.bytes hml0 Bd.returns Bd.notSynchronized (findClass_of_methodNamed Bd.named) (name_of_methodNamed Bd.named Bd.method).1 hZ (Stand.of_body Bd) (by rw [← hh, Bd.state]; rfl) ?_
  intro v U L k n hQ hF hk hs
  exact ⟨v, L, rfl, hQ, hF.1, hF.2.1, hF.2.2.mono hk hs⟩
theorem own_metS {y : MethodName} {bytes : ByteArray} {maxL : Nat} {ret : Option FieldType} {ws : List Cond} {rm : Room} {as' : Array Value} {Z : State} {h0 : Heap} {Q : Option Value → Heap → List Loc → Prop} {ck sk : Nat} (hn : plainFor y = true)
    (body : ∀ (p : Program) (e : Env) (s : State) (m : MethodId) (below : List Frame) (meth : Method) (c : Code) (T : State) (K : Outcome → State → Prop), p.tables.exec = Jvm.exec → c.code = bytes → c.maxLocals = maxL → meth.sig.returnType = ret → meth.locks = false → s.vm.findClass y.cls = some m.cls → meth.name = y.name → Z.Warmed39 s.vm → Stand p l e rm s m as' below meth c T [] 0 0 → T.heap = h0 →
      (∀ (v : Option Value) (U : State) (L : List Loc) (k n : Nat), Q v U.heap L → ReturnedEndW s (.returned v) U L k n → k ≤ ck → n ≤ sk → K (.returned v) U) → Rch p e below K T (entryFrame m as' maxL)) :
    MetFree l y (head1 (Cond.code y bytes maxL ret :: ws) rm) (fun a U => a = as' ∧ Z.Warmed39 U.vm ∧ U.heap = h0) (fun _ _ _ _ _ => True) (fun _ U o U' => ∃ v L, o = .returned v ∧ Q v U'.heap L ∧ ReturnedEndW U o U' L ck sk) := by
  refine MetFree.of_bodySF hn hisR ?_
  intro p e s m args below meth c s₁ Bd hml0 hP hK
  obtain ⟨rfl, hZ, hh⟩ := hP
  show Rch p e below (fun o U' => ∃ v L, o = .returned v ∧ Q v U'.heap L ∧ ReturnedEndW s o U' L ck sk) s₁ (entryFrame m args maxL)
  refine body p e s m below meth c s₁ _ Bd.exec Bd.bytes hml0 Bd.returns Bd.notSynchronized (findClass_of_methodNamed Bd.named) (name_of_methodNamed Bd.named Bd.method).1 hZ (Stand.of_body Bd) (by rw [← hh, Bd.state]; rfl) ?_
  intro v U L k n hQ hF hk hs
  exact ⟨v, L, rfl, hQ, hF.1, hF.2.1, hF.2.2.1, hF.2.2.2.mono hk hs⟩
theorem own_end {vm1 : Vm} {n : Nat} (h : s.Since vm1 n) {U : State} {o : Outcome} {L : List Loc} {k c : Nat} (hn : n ≤ U.heap.size) (F : FrameEnd (s.setVm vm1) o U L k c) : ReturnedEndW s o U L k c := by
  obtain ⟨h1, h2, h3⟩ := F
  obtain ⟨g1, g2, g3⟩ := h.ended h2 hn h3
  exact ⟨h1, g1, g2, g3⟩
theorem own_narrowZ {z : Int32} (h : z = 0 ∨ z = 1) : narrow .boolean (.int z) = .int z := by rcases h with rfl | rfl <;> rfl
theorem own_fitZ {z : Int32} (h : z = 0 ∨ z = 1) : fits .boolean (.int z) = true := by rcases h with rfl | rfl <;> rfl
theorem own_narZ {z : Int32} (h : z = 0 ∨ z = 1) : nar .boolean z = z := by rcases h with rfl | rfl <;> rfl
/-- a truth as an int -/
def ob (P : Prop) [Decidable P] : Int32 := if P then 1 else 0
theorem ob_cases (P : Prop) [Decidable P] : (ob P = 1 ∧ P) ∨ (ob P = 0 ∧ ¬ P) := by
  by_cases h : P
  · exact Or.inl ⟨if_pos h, h⟩
  · exact Or.inr ⟨if_neg h, h⟩
theorem ob01 (P : Prop) [Decidable P] : ob P = 0 ∨ ob P = 1 := (ob_cases P).elim (fun h => Or.inr h.1) (fun h => Or.inl h.1)
theorem ob_pos {P : Prop} [Decidable P] (h : P) : ob P = 1 := if_pos h
theorem ob_neg {P : Prop} [Decidable P] (h : ¬ P) : ob P = 0 := if_neg h
theorem own_selP {args : Array Value} {y : MethodName} {n : Nat} (wi : (Cond.instantiable y.cls n).before args s = true) (hp : (Cond.privateMethod y).before args s = true) (hinst : (Cond.instanceMethod y).before args s = true) (hy : y.cls ≠ "java/lang/invoke/MethodHandle" ∧ y.cls ≠ "java/lang/invoke/VarHandle") : (Cond.selects y.cls y y).before args s = true := by
  obtain ⟨c, k, h1, h2, -, h4, -⟩ := Cond.instantiable_spec wi
  exact Jvm.Stand.selects_self_of_private h1 h2 (by cases hq : k.isInterface <;> simp [hq] at h4 ⊢) (Cond.privateMethod_at hp) hinst hy
end New
section Arrays
variable {Z : State} {h h' : Heap} {a b : Addr} {ty : FieldType} {n i : Nat} {f f' : Nat → Value} {sl : Nat} {v : Value} {ws : List Addr} {j : Int32} {c : Cell}
/-- the array at a has n places; place q holds f q -/
def Av (Z : State) (h : Heap) (a : Addr) (ty : FieldType) (n : Nat) (f : Nat → Value) : Prop := ∃ cl : Cell, Arr Z h a cl ty ∧ cl.slots.size = n ∧ ∀ j, j < n → cl.slots[j]? = some (f j)
theorem Av.ext (V : Av Z h a ty n f) (E : Ext h h') : Av Z h' a ty n f := by obtain ⟨c, A, r⟩ := V; exact ⟨c, A.ext E, r⟩
theorem Av.other (V : Av Z h b ty n f) (W : Wr h h' a sl v) (q : b ≠ a) : Av Z h' b ty n f := by obtain ⟨c, A, r⟩ := V; exact ⟨c, A.other W q, r⟩
theorem Av.keep (V : Av Z h a ty n f) (K : Keep h h' ws) (q : a ∉ ws) : Av Z h' a ty n f := by obtain ⟨c, A, r⟩ := V; exact ⟨c, ⟨K.2.1 a c A.1 q, A.2⟩, r⟩
theorem Av.lt (V : Av Z h a ty n f) : a < h.size := by obtain ⟨c, A, -⟩ := V; exact A.lt
theorem Av.congr (V : Av Z h a ty n f) (q : ∀ j, j < n → f j = f' j) : Av Z h a ty n f' := by obtain ⟨c, A, S, H⟩ := V; exact ⟨c, A, S, fun j hj => by rw [H j hj, q j hj]⟩
theorem Av.nostat (V : Av Z h a ty n f) : ∀ cell : Cell, h[a]? = some cell → cell.vm.isStatics = false := by
  obtain ⟨c, A, -⟩ := V
  exact Arr.nostat A
theorem own_sta {C nm d : String} (F : Sta Z h C nm d v) (K : Keep h h' ws) (hn : ∀ x ∈ ws, ∀ cell : Cell, h[x]? = some cell → cell.vm.isStatics = false) : Sta Z h' C nm d v := by
  obtain ⟨cf, i, k, f, st, cell, h1, h2, h3, h4, h5, h6, h7⟩ := F
  refine ⟨cf, i, k, f, st, cell, h1, h2, h3, h4, K.2.1 st cell h5 fun q => ?_, h6, h7⟩
  rw [hn st q cell h5] at h6
  cases h6
theorem oNat (e : j.toInt = (i : Int)) : j.toNatClampNeg = i := by simp only [Int32.toNatClampNeg]; omega
theorem oNn (e : j.toInt = (i : Int)) : ¬ j < 0 := by
  rw [Int32.lt_iff_toInt_lt]; have : (0 : Int32).toInt = 0 := rfl
  omega
theorem oIn (S : c.slots.size = n) (e : j.toInt = (i : Int)) (hi : i < n) : ¬ (j < 0 ∨ c.slots.size ≤ j.toNatClampNeg) := by
  rw [oNat e, S]; intro q
  rcases q with q | q
  · exact oNn e q
  · omega
theorem oAt (H : ∀ j, j < n → c.slots[j]? = some (f j)) (e : j.toInt = (i : Int)) (hi : i < n) : c.slots[j.toNatClampNeg]? = some (f i) := by rw [oNat e]; exact H i hi
theorem Av.set (V : Av Z h a ty n f) (e : j.toInt = (i : Int)) (hi : i < n) (W : Wr h h' a j.toNatClampNeg v) : Av Z h' a ty n (fun q => if q = i then v else f q) := by
  obtain ⟨c, A, S, H⟩ := V
  rw [oNat e] at W
  refine ⟨_, A.same W, by rw [sz_set]; exact S, fun k hk => ?_⟩
  by_cases u : k = i
  · subst u; simp [Cell.setSlot, S, hk]
  · simp only [u, if_false, Cell.setSlot]; rw [Array.getElem?_setIfInBounds_ne (Ne.symm u)]; exact H k hk
theorem Av.setI {y : Nat → Int32} {x : Int32} (V : Av Z h a ty n (fun q => .int (y q))) (e : j.toInt = (i : Int)) (hi : i < n) (W : Wr h h' a j.toNatClampNeg (.int x)) : Av Z h' a ty n (fun q => .int (if q = i then x else y q)) := (V.set e hi W).congr fun k _ => by
  by_cases u : k = i <;> simp [u]
theorem Av.setJ {y : Nat → Int64} {x : Int64} (V : Av Z h a ty n (fun q => .long (y q))) (e : j.toInt = (i : Int)) (hi : i < n) (W : Wr h h' a j.toNatClampNeg (.long x)) : Av Z h' a ty n (fun q => .long (if q = i then x else y q)) := (V.set e hi W).congr fun k _ => by
  by_cases u : k = i <;> simp [u]
theorem oLen (S : c.slots.size = n) : c.slots.size.toInt32 = Int32.ofNat n := by rw [S]
theorem Av.new {k : ClassId} {z : Int32} (A : Arr Z h a (newA k ty z) ty) (e : z.toInt = (n : Int)) : Av Z h a ty n (fun _ => defaultValue ty) :=
  ⟨_, A, by rw [sz_new]; exact oNat e, fun j hj => by have := oNat e; simp [newA, this, hj]⟩
/-- the array at a takes what is a C -/
def OvA (Z : State) (h : Heap) (a : Addr) (C : String) : Prop := ∃ cl : Cell, h[a]? = some cl ∧ Ovr Z cl.cls C
theorem OvA.ext {C : String} (F : OvA Z h a C) (E : Ext h h') : OvA Z h' a C := by obtain ⟨c, h1, h2⟩ := F; exact ⟨c, E.2 _ _ h1, h2⟩
theorem OvA.wr {C : String} (F : OvA Z h a C) (W : Wr h h' b sl v) : OvA Z h' a C := by
  obtain ⟨c, h1, h2⟩ := F
  obtain ⟨c', e1, e2, -⟩ := wr_at W h1
  exact ⟨c', e1, by rw [e2]; exact h2⟩
theorem OvA.keep {C : String} (F : OvA Z h a C) (K : Keep h h' ws) : OvA Z h' a C := by
  obtain ⟨c, h1, h2⟩ := F
  obtain ⟨c', e1, e2, -⟩ := K.2.2 a c h1
  exact ⟨c', e1, by rw [e2]; exact h2⟩
theorem OvA.at {C : String} (F : OvA Z h a C) (A : Arr Z h a c ty) : Ovr Z c.cls C := by
  obtain ⟨c', h1, h2⟩ := F
  cases h1.symm.trans A.1; exact h2
theorem oTo {n : Nat} (h : n < 2 ^ 31) : (Int32.ofNat n).toInt = (n : Int) := len_toInt h
end Arrays
end Jvm.RoadKit
namespace Jvm.Pilot.@@N@@
open Jvm Jvm.ClassFile Sem Op Lib Jvm.Free Jvm.Stand Jvm.LawKit Jvm.RoadKit Bundle Jvm.Pilot.@@N@@.Jvm.D
def own_by (n : Nat) (y : Nat → Int32) : Prop := ∀ q, q < n → -128 ≤ (y q).toInt ∧ (y q).toInt < 128
def own_extra (n : Nat) (y : Nat → Int32) (i : Nat) : Int32 :=
  if i < n then
    (if (y i &&& (255 : Int32)) < (32 : Int32) then
      (if (y i &&& (255 : Int32)) = (8 : Int32) then 1 else if (y i &&& (255 : Int32)) = (9 : Int32) then 1 else if (y i &&& (255 : Int32)) = (10 : Int32) then 1 else if (y i &&& (255 : Int32)) = (12 : Int32) then 1 else if (y i &&& (255 : Int32)) = (13 : Int32) then 1 else 5)
    else if (y i &&& (255 : Int32)) = (34 : Int32) then 1 else if (y i &&& (255 : Int32)) = (92 : Int32) then 1
    else if (y i &&& (255 : Int32)) < (128 : Int32) then 0
    else if (y i &&& (255 : Int32)) = (226 : Int32) then (if i + 2 < n then (if (y (i + 1) &&& (255 : Int32)) = (128 : Int32) then (if (y (i + 2) &&& (255 : Int32)) = (168 : Int32) then 3 else if (y (i + 2) &&& (255 : Int32)) = (169 : Int32) then 3 else 0) else 0) else 0) else 0)
  else 0
def own_acc (n : Nat) (y : Nat → Int32) : Nat → Int64
  | 0 => (Int32.ofNat n).toInt64
  | i + 1 => own_acc n y i + (own_extra n y i).toInt64
theorem own_acc_ge (n : Nat) (y : Nat → Int32) (m : Nat) (h : n ≤ m) : own_acc n y m = own_acc n y n := by
  induction m with
  | zero => cases Nat.le_zero.mp h; rfl
  | succ m ih =>
    by_cases e : n = m + 1
    · rw [e]
    · have h1 : ¬ m < n := by omega
      rw [own_acc, ih (by omega)]
      simp [own_extra, h1]
def own_esc (q : Nat) : Int32 := if q < 32 then (if q = 8 ∨ q = 9 ∨ q = 10 ∨ q = 12 ∨ q = 13 then 1 else 5) else if q = 34 ∨ q = 92 then 1 else 0
def own_sep (n : Nat) (y : Nat → Int32) (i : Nat) : Prop := y i = (-30 : Int32) ∧ i + 2 < n ∧ y (i + 1) = (-128 : Int32) ∧ (y (i + 2) = (-88 : Int32) ∨ y (i + 2) = (-87 : Int32))
instance (n : Nat) (y : Nat → Int32) (i : Nat) : Decidable (own_sep n y i) := by unfold own_sep; infer_instance
theorem own_u (x : Int32) : (x &&& (255 : Int32)).toInt = x.toInt % 256 := c_mask x 255 8 (by decide) (by decide)
theorem own_pos {n : Nat} {y : Nat → Int32} {i : Nat} (hi : i < n) (h0 : 0 ≤ (y i).toInt) (h1 : (y i).toInt < 128) : own_esc (y i).toInt.toNat = own_extra n y i := by
  have hu := own_u (y i)
  have e : (y i).toInt % 256 = (y i).toInt := by omega
  rw [e] at hu
  obtain ⟨v, hv⟩ : ∃ v : Nat, (y i).toInt = (v : Int) := ⟨(y i).toInt.toNat, by omega⟩
  rw [hv] at hu h1 ⊢
  simp only [own_extra, hi, if_true, Int32.lt_iff_toInt_lt, ← Int32.toInt_inj, hu, Int32.reduceToInt, own_esc, Int.toNat_natCast]
  by_cases a : v < 32
  · have a' : (v : Int) < 32 := by omega
    simp only [a, a', if_true]
    by_cases b1 : v = 8
    · subst b1; decide
    by_cases b2 : v = 9
    · subst b2; decide
    by_cases b3 : v = 10
    · subst b3; decide
    by_cases b4 : v = 12
    · subst b4; decide
    by_cases b5 : v = 13
    · subst b5; decide
    have c1 : ¬ (v : Int) = 8 := by omega
    have c2 : ¬ (v : Int) = 9 := by omega
    have c3 : ¬ (v : Int) = 10 := by omega
    have c4 : ¬ (v : Int) = 12 := by omega
    have c5 : ¬ (v : Int) = 13 := by omega
    simp only [b1, b2, b3, b4, b5, c1, c2, c3, c4, c5, or_self, if_false]
  · have a' : ¬ (v : Int) < 32 := by omega
    simp only [a, a', if_false]
    by_cases b1 : v = 34
    · subst b1; simp
    by_cases b2 : v = 92
    · subst b2; simp
    have c1 : ¬ (v : Int) = 34 := by omega
    have c2 : ¬ (v : Int) = 92 := by omega
    simp only [b1, b2, c1, c2, h1, or_self, if_false, if_true]
theorem own_bit {x : Int32} (h : -128 ≤ x.toInt ∧ x.toInt < 128) (k : Int32) (hk : 128 ≤ k.toInt ∧ k.toInt < 256) (k' : Int32) (hk' : k'.toInt = k.toInt - 256) : ((x &&& (255 : Int32)) = k) ↔ x = k' := by
  rw [← Int32.toInt_inj, ← Int32.toInt_inj, own_u, hk']
  have := k.toInt_lt
  omega
theorem own_neg {n : Nat} {y : Nat → Int32} {i : Nat} (hy : own_by n y) (hi : i < n) (h0 : (y i).toInt < 0) : own_extra n y i = if own_sep n y i then 3 else 0 := by
  have hu := own_u (y i)
  have hr := hy i hi
  have e : (y i).toInt % 256 = (y i).toInt + 256 := by omega
  rw [e] at hu
  have k1 : ¬ (y i &&& (255 : Int32)) < (32 : Int32) := by rw [Int32.lt_iff_toInt_lt, hu]; simp only [Int32.reduceToInt]; omega
  have k2 : ¬ (y i &&& (255 : Int32)) = (34 : Int32) := by rw [← Int32.toInt_inj, hu]; simp only [Int32.reduceToInt]; omega
  have k3 : ¬ (y i &&& (255 : Int32)) = (92 : Int32) := by rw [← Int32.toInt_inj, hu]; simp only [Int32.reduceToInt]; omega
  have k4 : ¬ (y i &&& (255 : Int32)) < (128 : Int32) := by rw [Int32.lt_iff_toInt_lt, hu]; simp only [Int32.reduceToInt]; omega
  have q0 := own_bit hr (226 : Int32) (by decide) (-30 : Int32) (by decide)
  simp only [own_extra, hi, if_true, k1, k2, k3, k4, if_false, q0]
  by_cases a : y i = (-30 : Int32)
  · by_cases b : i + 2 < n
    · have q1 := own_bit (hy (i + 1) (by omega)) (128 : Int32) (by decide) (-128 : Int32) (by decide)
      have q2 := own_bit (hy (i + 2) b) (168 : Int32) (by decide) (-88 : Int32) (by decide)
      have q3 := own_bit (hy (i + 2) b) (169 : Int32) (by decide) (-87 : Int32) (by decide)
      simp only [own_sep, a, b, q1, q2, q3, if_true, true_and]
      by_cases c1 : y (i + 1) = (-128 : Int32)
      · by_cases c2 : y (i + 2) = (-88 : Int32)
        · simp [c1, c2]
        · by_cases c3 : y (i + 2) = (-87 : Int32) <;> simp [c1, c2, c3]
      · simp [c1]
    · simp [own_sep, a, b]
  · simp [own_sep, a]
theorem own_olt {i n : Nat} (h : i < n) (hn : n < 2 ^ 31) : Int32.ofNat i < Int32.ofNat n := by
  rw [Int32.lt_iff_toInt_lt, oTo hn, oTo (by omega)]; omega
theorem own_nlt {j : Int32} {i n : Nat} (e : j.toInt = (i : Int)) (hn : n < 2 ^ 31) : j < Int32.ofNat n ↔ i < n := by
  rw [Int32.lt_iff_toInt_lt, oTo hn, e]; omega
theorem own_plus {j k : Int32} {i d : Nat} (e : j.toInt = (i : Int)) (ek : k.toInt = (d : Int)) (h : i + d < 2 ^ 31) : (j + k).toInt = ((i + d : Nat) : Int) := by
  have := c_iadd j k
  have b1 := (j + k).toInt_lt; have b2 := (j + k).le_toInt
  omega
theorem own_one (i : Nat) : Int32.ofNat i + (1 : Int32) = Int32.ofNat (i + 1) := (Int32.ofNat_add i 1).symm
theorem own_byte (x : Int32) : -128 ≤ x.toInt8.toInt32.toInt ∧ x.toInt8.toInt32.toInt < 128 := (c_i2b x).2
theorem own_by_set {n i : Nat} {y y' : Nat → Int32} {x : Int32} (h : own_by n y) (e : y' = fun q => if q = i then x.toInt8.toInt32 else y q) : own_by n y' := by
  intro q hq
  rw [e]
  by_cases u : q = i
  · simp only [u, if_true]; exact own_byte x
  · simp only [u, if_false]; exact h q hq
theorem d_method_3_code_0 : decode method_3_code 0 = .ok (.iload_n 1, 1) := by decide +kernel
theorem d_method_3_code_1 : decode method_3_code 1 = .ok (.aload_n 0, 1) := by decide +kernel
theorem d_method_3_code_2 : decode method_3_code 2 = .ok (.arraylength, 1) := by decide +kernel
theorem d_method_3_code_3 : decode method_3_code 3 = .ok (.if_icmp .ge 7, 3) := by decide +kernel
theorem d_method_3_code_6 : decode method_3_code 6 = .ok (.aload_n 0, 1) := by decide +kernel
theorem d_method_3_code_7 : decode method_3_code 7 = .ok (.iload_n 1, 1) := by decide +kernel
theorem d_method_3_code_8 : decode method_3_code 8 = .ok (.iload_n 2, 1) := by decide +kernel
theorem d_method_3_code_9 : decode method_3_code 9 = .ok (.bastore, 1) := by decide +kernel
theorem d_method_3_code_10 : decode method_3_code 10 = .ok (.return_, 1) := by decide +kernel
theorem pn_0 : plainName "com/example/kept_till_acked/kepttillacked/api/JsonOutEscapedLengthPinLaw" = true := by first | (simp [plainName, overriddenIn]; done) | decide +kernel
theorem pd_0 : parseMethodDescriptor "([BIB)V" = some ⟨[(.array .byte), .int, .byte], none⟩ := by decide +kernel
theorem pd_1 : parseMethodDescriptor "([BI)I" = some ⟨[(.array .byte), .int], some .int⟩ := by decide +kernel
theorem pd_2 : parseMethodDescriptor "([B)J" = some ⟨[(.array .byte)], some .long⟩ := by decide +kernel
theorem pd_3 : parseMethodDescriptor "([BI)Z" = some ⟨[(.array .byte), .int], some .boolean⟩ := by decide +kernel
theorem ef_rm1 (m : MethodId) (a1 : Addr) (p2 : Int32) (p3 : Int32) : entryFrame m #[(.ref a1), (.int p2), (.int p3)] 3 = mkF m 0 #[.val (.ref a1), .val (.int p2), .val (.int p3)] [] := by first | (simp [entryFrame, mkF, argsToLocals, Value.category]; done) | rfl
def Q_rm1 (Z : State) (a1 : Addr) (p2 : Int32) (p3 : Int32) (n : Nat) (y : Nat → Int32) (i : Nat) (h0 : Heap) (n0 : Nat) (vv_ : Option Value) (h : Heap) (LL_ : List Loc) : Prop := vv_ = none ∧ Fr n0 LL_ ∧ (Keep h0 h [a1] ∧ ∃ y', Av Z h a1 .byte n (fun q => .int (y' q)) ∧ own_by n y')
set_option maxRecDepth 65536 in
set_option maxHeartbeats 40000000 in
theorem rm1 (l : Launch) (Z : State) (a0 : Array Value) (hw : ∀ d ∈ tables_1, d.before a0 Z = true) (ws : List Jvm.Cond) (a1 : Addr) (p2 : Int32) (p3 : Int32) (n : Nat) (y : Nat → Int32) (i : Nat) (h0 : Heap) (n0 : Nat) (Z0 : n0 ≤ h0.size) (V1 : Av Z h0 a1 .byte n (fun q => .int (y q))) (g1 : n0 ≤ a1) (hn : n ≤ 8) (hi : p2.toInt = (i : Int)) (hy : own_by n y) :
    MetFree l (⟨"com/example/kept_till_acked/kepttillacked/api/JsonOutEscapedLengthPinLaw", "set", "([BIB)V"⟩ : MethodName) (head1 (Jvm.Cond.code (⟨"com/example/kept_till_acked/kepttillacked/api/JsonOutEscapedLengthPinLaw", "set", "([BIB)V"⟩ : MethodName) method_3_code 3 none :: ws) ({ frames := 0, cells := 0, slots := 0, locals := 0 } : Room)) (fun aa_ UU_ => aa_ = #[(.ref a1), (.int p2), (.int p3)] ∧ Z.Warmed39 UU_.vm ∧ UU_.heap = h0) (fun _ _ _ _ _ => True) (fun _ UU_ oo_ VV_ => ∃ vv_ LL_, oo_ = .returned vv_ ∧ Q_rm1 Z a1 p2 p3 n y i h0 n0 vv_ VV_.heap LL_ ∧ FrameEnd UU_ oo_ VV_ LL_ ({ frames := 0, cells := 0, slots := 0, locals := 0 } : Room).cells ({ frames := 0, cells := 0, slots := 0, locals := 0 } : Room).slots) := by
  refine own_met (y := (⟨"com/example/kept_till_acked/kepttillacked/api/JsonOutEscapedLengthPinLaw", "set", "([BIB)V"⟩ : MethodName)) (plainFor_of_name pn_0) ?_
  intro p e s m below meth c T0 K hx hby hml hret hlk hown hnm hZ X0 e0 hK
  have N0 := Fr.nil n0
  refine Rch.cast (ef_rm1 m a1 p2 p3) ?_
  refine Rch.of (T' := T0) (g' := (mkF m 1 #[.val (.ref a1), .val (.int p2), .val (.int p3)] [(.int p2)])) (fun _ kt => XS.iloadN X0.here hx rfl (hb hby d_method_3_code_0) rfl  kt) ?_
  refine Rch.of (T' := T0) (g' := (mkF m 2 #[.val (.ref a1), .val (.int p2), .val (.int p3)] [(.ref a1), (.int p2)])) (fun _ kt => XS.aloadN X0.here hx rfl (hb hby d_method_3_code_1) rfl rfl kt) ?_
  obtain ⟨cl101, Ar101, Sz101, Ha101⟩ := id V1
  refine Rch.of (T' := T0) (g' := (mkF m 3 #[.val (.ref a1), .val (.int p2), .val (.int p3)] [(.int cl101.slots.size.toInt32), (.int p2)])) (X0.arraylength hx (by rw [e0]; exact Ar101.1) (State.isArrayOf_alike hZ.alike Ar101.2.1) (g := (mkF m 2 #[.val (.ref a1), .val (.int p2), .val (.int p3)] [(.ref a1), (.int p2)])) rfl rfl (hb hby d_method_3_code_2)) ?_
  rw [oLen Sz101]
  show Rch p e below K T0 (mkF m 3 #[.val (.ref a1), .val (.int p2), .val (.int p3)] [(.int (Int32.ofNat n)), (.int p2)])
  by_cases c102 : p2 < (Int32.ofNat n)
  · skip
    refine Rch.of (T' := T0) (g' := (mkF m 6 #[.val (.ref a1), .val (.int p2), .val (.int p3)] [])) (fun _ kt => XS.icmpNo X0.here hx rfl (hb hby d_method_3_code_3) rfl (tlt c102).2.1 kt) ?_
    have ci : i < n := (own_nlt hi (by omega)).mp c102
    refine Rch.of (T' := T0) (g' := (mkF m 7 #[.val (.ref a1), .val (.int p2), .val (.int p3)] [(.ref a1)])) (fun _ kt => XS.aloadN X0.here hx rfl (hb hby d_method_3_code_6) rfl rfl kt) ?_
    refine Rch.of (T' := T0) (g' := (mkF m 8 #[.val (.ref a1), .val (.int p2), .val (.int p3)] [(.int p2), (.ref a1)])) (fun _ kt => XS.iloadN X0.here hx rfl (hb hby d_method_3_code_7) rfl  kt) ?_
    refine Rch.of (T' := T0) (g' := (mkF m 9 #[.val (.ref a1), .val (.int p2), .val (.int p3)] [(.int p3), (.int p2), (.ref a1)])) (fun _ kt => XS.iloadN X0.here hx rfl (hb hby d_method_3_code_8) rfl  kt) ?_
    obtain ⟨cl103, Ar103, Sz103, Ha103⟩ := id V1
    obtain ⟨T103, h103, X103, e103, W103, st103⟩ := stB X0 hx hZ e0 Ar103 (j := p2) (oIn (i := i) Sz103 hi ci) (g := (mkF m 9 #[.val (.ref a1), .val (.int p2), .val (.int p3)] [(.int p3), (.int p2), (.ref a1)])) rfl rfl (hb hby d_method_3_code_9)
    have V103 := Av.setI (i := i) V1 hi ci W103
    obtain ⟨y103, hy103⟩ : ∃ zz_ : Nat → Int32, zz_ = fun q => if q = i then p3.toInt8.toInt32 else y q := ⟨_, rfl⟩
    have V103 : Av Z h103 a1 .byte n (fun q => .int (y103 q)) := by rw [hy103]; exact V103
    have N103 := Fr.snoc X103 N0 g1
    refine Rch.of (T' := T103) (g' := (mkF m 10 #[.val (.ref a1), .val (.int p2), .val (.int p3)] [])) st103 ?_
    exact Rch.retV X103 hx hret hlk (hb hby d_method_3_code_10) (fun U hU hF => hK _ U _ _ _ (by show Q_rm1 Z a1 p2 p3 n y i h0 n0 _ U.heap _; rw [hU, e103]; exact ⟨rfl, N103, ((Keep.refl h0 [a1]).wr W103 (Or.inl (List.mem_of_getElem? (i := 0) rfl))), y103, V103, own_by_set hy hy103⟩) hF (by decide) (by decide))
  · skip
    refine Rch.of (T' := T0) (g' := (mkF m 10 #[.val (.ref a1), .val (.int p2), .val (.int p3)] [])) (fun _ kt => XS.icmpYes X0.here hx rfl (pc0 := 3) (pc' := 10) rfl (hb hby d_method_3_code_3) rfl (flt c102).2.1 (by decide) (by decide) kt) ?_
    exact Rch.retV X0 hx hret hlk (hb hby d_method_3_code_10) (fun U hU hF => hK _ U _ _ _ (by show Q_rm1 Z a1 p2 p3 n y i h0 n0 _ U.heap _; rw [hU, e0]; exact ⟨rfl, N0, (Keep.refl h0 [a1]), y, V1, hy⟩) hF (by decide) (by decide))
theorem d_method_4_code_0 : decode method_4_code 0 = .ok (.iload_n 1, 1) := by decide +kernel
theorem d_method_4_code_1 : decode method_4_code 1 = .ok (.aload_n 0, 1) := by decide +kernel
theorem d_method_4_code_2 : decode method_4_code 2 = .ok (.arraylength, 1) := by decide +kernel
theorem d_method_4_code_3 : decode method_4_code 3 = .ok (.if_icmp .lt 5, 3) := by decide +kernel
theorem d_method_4_code_6 : decode method_4_code 6 = .ok (.iconst 0, 1) := by decide +kernel
theorem d_method_4_code_7 : decode method_4_code 7 = .ok (.ireturn, 1) := by decide +kernel
theorem d_method_4_code_8 : decode method_4_code 8 = .ok (.aload_n 0, 1) := by decide +kernel
theorem d_method_4_code_9 : decode method_4_code 9 = .ok (.iload_n 1, 1) := by decide +kernel
theorem d_method_4_code_10 : decode method_4_code 10 = .ok (.baload, 1) := by decide +kernel
theorem d_method_4_code_11 : decode method_4_code 11 = .ok (.sipush 255, 3) := by decide +kernel
theorem d_method_4_code_14 : decode method_4_code 14 = .ok (.iand, 1) := by decide +kernel
theorem d_method_4_code_15 : decode method_4_code 15 = .ok (.istore_n 2, 1) := by decide +kernel
theorem d_method_4_code_16 : decode method_4_code 16 = .ok (.iload_n 2, 1) := by decide +kernel
theorem d_method_4_code_17 : decode method_4_code 17 = .ok (.bipush 32, 2) := by decide +kernel
theorem d_method_4_code_19 : decode method_4_code 19 = .ok (.if_icmp .ge 37, 3) := by decide +kernel
theorem d_method_4_code_22 : decode method_4_code 22 = .ok (.iload_n 2, 1) := by decide +kernel
theorem d_method_4_code_23 : decode method_4_code 23 = .ok (.bipush 8, 2) := by decide +kernel
theorem d_method_4_code_25 : decode method_4_code 25 = .ok (.if_icmp .eq 27, 3) := by decide +kernel
theorem d_method_4_code_28 : decode method_4_code 28 = .ok (.iload_n 2, 1) := by decide +kernel
theorem d_method_4_code_29 : decode method_4_code 29 = .ok (.bipush 9, 2) := by decide +kernel
theorem d_method_4_code_31 : decode method_4_code 31 = .ok (.if_icmp .eq 21, 3) := by decide +kernel
theorem d_method_4_code_34 : decode method_4_code 34 = .ok (.iload_n 2, 1) := by decide +kernel
theorem d_method_4_code_35 : decode method_4_code 35 = .ok (.bipush 10, 2) := by decide +kernel
theorem d_method_4_code_37 : decode method_4_code 37 = .ok (.if_icmp .eq 15, 3) := by decide +kernel
theorem d_method_4_code_40 : decode method_4_code 40 = .ok (.iload_n 2, 1) := by decide +kernel
theorem d_method_4_code_41 : decode method_4_code 41 = .ok (.bipush 12, 2) := by decide +kernel
theorem d_method_4_code_43 : decode method_4_code 43 = .ok (.if_icmp .eq 9, 3) := by decide +kernel
theorem d_method_4_code_46 : decode method_4_code 46 = .ok (.iload_n 2, 1) := by decide +kernel
theorem d_method_4_code_47 : decode method_4_code 47 = .ok (.bipush 13, 2) := by decide +kernel
theorem d_method_4_code_49 : decode method_4_code 49 = .ok (.if_icmp .ne 5, 3) := by decide +kernel
theorem d_method_4_code_52 : decode method_4_code 52 = .ok (.iconst 1, 1) := by decide +kernel
theorem d_method_4_code_53 : decode method_4_code 53 = .ok (.ireturn, 1) := by decide +kernel
theorem d_method_4_code_54 : decode method_4_code 54 = .ok (.iconst 5, 1) := by decide +kernel
theorem d_method_4_code_55 : decode method_4_code 55 = .ok (.ireturn, 1) := by decide +kernel
theorem d_method_4_code_56 : decode method_4_code 56 = .ok (.iload_n 2, 1) := by decide +kernel
theorem d_method_4_code_57 : decode method_4_code 57 = .ok (.bipush 34, 2) := by decide +kernel
theorem d_method_4_code_59 : decode method_4_code 59 = .ok (.if_icmp .eq 9, 3) := by decide +kernel
theorem d_method_4_code_62 : decode method_4_code 62 = .ok (.iload_n 2, 1) := by decide +kernel
theorem d_method_4_code_63 : decode method_4_code 63 = .ok (.bipush 92, 2) := by decide +kernel
theorem d_method_4_code_65 : decode method_4_code 65 = .ok (.if_icmp .ne 5, 3) := by decide +kernel
theorem d_method_4_code_68 : decode method_4_code 68 = .ok (.iconst 1, 1) := by decide +kernel
theorem d_method_4_code_69 : decode method_4_code 69 = .ok (.ireturn, 1) := by decide +kernel
theorem d_method_4_code_70 : decode method_4_code 70 = .ok (.iload_n 2, 1) := by decide +kernel
theorem d_method_4_code_71 : decode method_4_code 71 = .ok (.sipush 128, 3) := by decide +kernel
theorem d_method_4_code_74 : decode method_4_code 74 = .ok (.if_icmp .ge 5, 3) := by decide +kernel
theorem d_method_4_code_77 : decode method_4_code 77 = .ok (.iconst 0, 1) := by decide +kernel
theorem d_method_4_code_78 : decode method_4_code 78 = .ok (.ireturn, 1) := by decide +kernel
theorem d_method_4_code_79 : decode method_4_code 79 = .ok (.iload_n 2, 1) := by decide +kernel
theorem d_method_4_code_80 : decode method_4_code 80 = .ok (.sipush 226, 3) := by decide +kernel
theorem d_method_4_code_83 : decode method_4_code 83 = .ok (.if_icmp .ne 52, 3) := by decide +kernel
theorem d_method_4_code_86 : decode method_4_code 86 = .ok (.iload_n 1, 1) := by decide +kernel
theorem d_method_4_code_87 : decode method_4_code 87 = .ok (.iconst 2, 1) := by decide +kernel
theorem d_method_4_code_88 : decode method_4_code 88 = .ok (.iadd, 1) := by decide +kernel
theorem d_method_4_code_89 : decode method_4_code 89 = .ok (.aload_n 0, 1) := by decide +kernel
theorem d_method_4_code_90 : decode method_4_code 90 = .ok (.arraylength, 1) := by decide +kernel
theorem d_method_4_code_91 : decode method_4_code 91 = .ok (.if_icmp .ge 44, 3) := by decide +kernel
theorem d_method_4_code_94 : decode method_4_code 94 = .ok (.aload_n 0, 1) := by decide +kernel
theorem d_method_4_code_95 : decode method_4_code 95 = .ok (.iload_n 1, 1) := by decide +kernel
theorem d_method_4_code_96 : decode method_4_code 96 = .ok (.iconst 1, 1) := by decide +kernel
theorem d_method_4_code_97 : decode method_4_code 97 = .ok (.iadd, 1) := by decide +kernel
theorem d_method_4_code_98 : decode method_4_code 98 = .ok (.baload, 1) := by decide +kernel
theorem d_method_4_code_99 : decode method_4_code 99 = .ok (.sipush 255, 3) := by decide +kernel
theorem d_method_4_code_102 : decode method_4_code 102 = .ok (.iand, 1) := by decide +kernel
theorem d_method_4_code_103 : decode method_4_code 103 = .ok (.sipush 128, 3) := by decide +kernel
theorem d_method_4_code_106 : decode method_4_code 106 = .ok (.if_icmp .ne 29, 3) := by decide +kernel
theorem d_method_4_code_109 : decode method_4_code 109 = .ok (.aload_n 0, 1) := by decide +kernel
theorem d_method_4_code_110 : decode method_4_code 110 = .ok (.iload_n 1, 1) := by decide +kernel
theorem d_method_4_code_111 : decode method_4_code 111 = .ok (.iconst 2, 1) := by decide +kernel
theorem d_method_4_code_112 : decode method_4_code 112 = .ok (.iadd, 1) := by decide +kernel
theorem d_method_4_code_113 : decode method_4_code 113 = .ok (.baload, 1) := by decide +kernel
theorem d_method_4_code_114 : decode method_4_code 114 = .ok (.sipush 255, 3) := by decide +kernel
theorem d_method_4_code_117 : decode method_4_code 117 = .ok (.iand, 1) := by decide +kernel
theorem d_method_4_code_118 : decode method_4_code 118 = .ok (.istore_n 3, 1) := by decide +kernel
theorem d_method_4_code_119 : decode method_4_code 119 = .ok (.iload_n 3, 1) := by decide +kernel
theorem d_method_4_code_120 : decode method_4_code 120 = .ok (.sipush 168, 3) := by decide +kernel
theorem d_method_4_code_123 : decode method_4_code 123 = .ok (.if_icmp .eq 10, 3) := by decide +kernel
theorem d_method_4_code_126 : decode method_4_code 126 = .ok (.iload_n 3, 1) := by decide +kernel
theorem d_method_4_code_127 : decode method_4_code 127 = .ok (.sipush 169, 3) := by decide +kernel
theorem d_method_4_code_130 : decode method_4_code 130 = .ok (.if_icmp .ne 5, 3) := by decide +kernel
theorem d_method_4_code_133 : decode method_4_code 133 = .ok (.iconst 3, 1) := by decide +kernel
theorem d_method_4_code_134 : decode method_4_code 134 = .ok (.ireturn, 1) := by decide +kernel
theorem d_method_4_code_135 : decode method_4_code 135 = .ok (.iconst 0, 1) := by decide +kernel
theorem d_method_4_code_136 : decode method_4_code 136 = .ok (.ireturn, 1) := by decide +kernel
theorem ef_rm2 (m : MethodId) (a1 : Addr) (p2 : Int32) : entryFrame m #[(.ref a1), (.int p2)] 4 = mkF m 0 #[.val (.ref a1), .val (.int p2), .unset, .unset] [] := by first | (simp [entryFrame, mkF, argsToLocals, Value.category]; done) | rfl
def Q_rm2 (Z : State) (a1 : Addr) (p2 : Int32) (n : Nat) (y : Nat → Int32) (i : Nat) (h0 : Heap) (n0 : Nat) (vv_ : Option Value) (h : Heap) (LL_ : List Loc) : Prop := vv_ = some (.int (own_extra n y i)) ∧ Fr n0 LL_ ∧ (h = h0)
set_option maxRecDepth 65536 in
set_option maxHeartbeats 40000000 in
theorem rm2 (l : Launch) (Z : State) (a0 : Array Value) (hw : ∀ d ∈ tables_1, d.before a0 Z = true) (ws : List Jvm.Cond) (a1 : Addr) (p2 : Int32) (n : Nat) (y : Nat → Int32) (i : Nat) (h0 : Heap) (n0 : Nat) (Z0 : n0 ≤ h0.size) (V1 : Av Z h0 a1 .byte n (fun q => .int (y q))) (hn : n ≤ 8) (hi : p2.toInt = (i : Int)) (hi8 : i < 8) :
    MetFree l (⟨"com/example/kept_till_acked/kepttillacked/api/JsonOutEscapedLengthPinLaw", "extra", "([BI)I"⟩ : MethodName) (head1 (Jvm.Cond.code (⟨"com/example/kept_till_acked/kepttillacked/api/JsonOutEscapedLengthPinLaw", "extra", "([BI)I"⟩ : MethodName) method_4_code 4 (some .int) :: ws) ({ frames := 0, cells := 0, slots := 0, locals := 0 } : Room)) (fun aa_ UU_ => aa_ = #[(.ref a1), (.int p2)] ∧ Z.Warmed39 UU_.vm ∧ UU_.heap = h0) (fun _ _ _ _ _ => True) (fun _ UU_ oo_ VV_ => ∃ vv_ LL_, oo_ = .returned vv_ ∧ Q_rm2 Z a1 p2 n y i h0 n0 vv_ VV_.heap LL_ ∧ FrameEnd UU_ oo_ VV_ LL_ ({ frames := 0, cells := 0, slots := 0, locals := 0 } : Room).cells ({ frames := 0, cells := 0, slots := 0, locals := 0 } : Room).slots) := by
  refine own_met (y := (⟨"com/example/kept_till_acked/kepttillacked/api/JsonOutEscapedLengthPinLaw", "extra", "([BI)I"⟩ : MethodName)) (plainFor_of_name pn_0) ?_
  intro p e s m below meth c T0 K hx hby hml hret hlk hown hnm hZ X0 e0 hK
  have N0 := Fr.nil n0
  refine Rch.cast (ef_rm2 m a1 p2) ?_
  refine Rch.of (T' := T0) (g' := (mkF m 1 #[.val (.ref a1), .val (.int p2), .unset, .unset] [(.int p2)])) (fun _ kt => XS.iloadN X0.here hx rfl (hb hby d_method_4_code_0) rfl  kt) ?_
  refine Rch.of (T' := T0) (g' := (mkF m 2 #[.val (.ref a1), .val (.int p2), .unset, .unset] [(.ref a1), (.int p2)])) (fun _ kt => XS.aloadN X0.here hx rfl (hb hby d_method_4_code_1) rfl rfl kt) ?_
  obtain ⟨cl104, Ar104, Sz104, Ha104⟩ := id V1
  refine Rch.of (T' := T0) (g' := (mkF m 3 #[.val (.ref a1), .val (.int p2), .unset, .unset] [(.int cl104.slots.size.toInt32), (.int p2)])) (X0.arraylength hx (by rw [e0]; exact Ar104.1) (State.isArrayOf_alike hZ.alike Ar104.2.1) (g := (mkF m 2 #[.val (.ref a1), .val (.int p2), .unset, .unset] [(.ref a1), (.int p2)])) rfl rfl (hb hby d_method_4_code_2)) ?_
  rw [oLen Sz104]
  show Rch p e below K T0 (mkF m 3 #[.val (.ref a1), .val (.int p2), .unset, .unset] [(.int (Int32.ofNat n)), (.int p2)])
  by_cases c105 : p2 < (Int32.ofNat n)
  · skip
    refine Rch.of (T' := T0) (g' := (mkF m 8 #[.val (.ref a1), .val (.int p2), .unset, .unset] [])) (fun _ kt => XS.icmpYes X0.here hx rfl (pc0 := 3) (pc' := 8) rfl (hb hby d_method_4_code_3) rfl (tlt c105).1 (by decide) (by decide) kt) ?_
    have ci : i < n := (own_nlt hi (by omega)).mp c105
    refine Rch.of (T' := T0) (g' := (mkF m 9 #[.val (.ref a1), .val (.int p2), .unset, .unset] [(.ref a1)])) (fun _ kt => XS.aloadN X0.here hx rfl (hb hby d_method_4_code_8) rfl rfl kt) ?_
    refine Rch.of (T' := T0) (g' := (mkF m 10 #[.val (.ref a1), .val (.int p2), .unset, .unset] [(.int p2), (.ref a1)])) (fun _ kt => XS.iloadN X0.here hx rfl (hb hby d_method_4_code_9) rfl  kt) ?_
    obtain ⟨cl106, Ar106, Sz106, Ha106⟩ := id V1
    refine Rch.of (T' := T0) (g' := (mkF m 11 #[.val (.ref a1), .val (.int p2), .unset, .unset] [(.int (y i))])) (X0.baloadBytes hx (j := p2) (v := (.int (y i))) (by rw [e0]; exact Ar106.1) (State.isArrayOf_alike hZ.alike Ar106.2.1) Ar106.2.2 (oIn (i := i) Sz106 hi ci) (oAt (i := i) Ha106 hi ci) (g := (mkF m 10 #[.val (.ref a1), .val (.int p2), .unset, .unset] [(.int p2), (.ref a1)])) rfl rfl (hb hby d_method_4_code_10)) ?_
    refine Rch.of (T' := T0) (g' := (mkF m 14 #[.val (.ref a1), .val (.int p2), .unset, .unset] [(.int (255 : Int32)), (.int (y i))])) (fun _ kt => XS.sipush X0.here hx rfl (hb hby d_method_4_code_11) kt) ?_
    refine Rch.of (T' := T0) (g' := (mkF m 15 #[.val (.ref a1), .val (.int p2), .unset, .unset] [(.int ((y i) &&& (255 : Int32)))])) (fun _ kt => XS.iand X0.here hx rfl (hb hby d_method_4_code_14) rfl kt) ?_
    refine Rch.of (T' := T0) (g' := (mkF m 16 #[.val (.ref a1), .val (.int p2), .val (.int ((y i) &&& (255 : Int32))), .unset] [])) (fun _ kt => XS.istoreN X0.here hx rfl (hb hby d_method_4_code_15) rfl (l' := #[.val (.ref a1), .val (.int p2), .val (.int ((y i) &&& (255 : Int32))), .unset]) rfl kt) ?_
    refine Rch.of (T' := T0) (g' := (mkF m 17 #[.val (.ref a1), .val (.int p2), .val (.int ((y i) &&& (255 : Int32))), .unset] [(.int ((y i) &&& (255 : Int32)))])) (fun _ kt => XS.iloadN X0.here hx rfl (hb hby d_method_4_code_16) rfl  kt) ?_
    refine Rch.of (T' := T0) (g' := (mkF m 19 #[.val (.ref a1), .val (.int p2), .val (.int ((y i) &&& (255 : Int32))), .unset] [(.int (32 : Int32)), (.int ((y i) &&& (255 : Int32)))])) (fun _ kt => XS.bipush X0.here hx rfl (hb hby d_method_4_code_17) kt) ?_
    by_cases c107 : ((y i) &&& (255 : Int32)) < (32 : Int32)
    · skip
      refine Rch.of (T' := T0) (g' := (mkF m 22 #[.val (.ref a1), .val (.int p2), .val (.int ((y i) &&& (255 : Int32))), .unset] [])) (fun _ kt => XS.icmpNo X0.here hx rfl (hb hby d_method_4_code_19) rfl (tlt c107).2.1 kt) ?_
      refine Rch.of (T' := T0) (g' := (mkF m 23 #[.val (.ref a1), .val (.int p2), .val (.int ((y i) &&& (255 : Int32))), .unset] [(.int ((y i) &&& (255 : Int32)))])) (fun _ kt => XS.iloadN X0.here hx rfl (hb hby d_method_4_code_22) rfl  kt) ?_
      refine Rch.of (T' := T0) (g' := (mkF m 25 #[.val (.ref a1), .val (.int p2), .val (.int ((y i) &&& (255 : Int32))), .unset] [(.int (8 : Int32)), (.int ((y i) &&& (255 : Int32)))])) (fun _ kt => XS.bipush X0.here hx rfl (hb hby d_method_4_code_23) kt) ?_
      by_cases c108 : ((y i) &&& (255 : Int32)) = (8 : Int32)
      · skip
        refine Rch.of (T' := T0) (g' := (mkF m 52 #[.val (.ref a1), .val (.int p2), .val (.int ((y i) &&& (255 : Int32))), .unset] [])) (fun _ kt => XS.icmpYes X0.here hx rfl (pc0 := 25) (pc' := 52) rfl (hb hby d_method_4_code_25) rfl (teq c108).1 (by decide) (by decide) kt) ?_
        refine Rch.of (T' := T0) (g' := (mkF m 53 #[.val (.ref a1), .val (.int p2), .val (.int ((y i) &&& (255 : Int32))), .unset] [(.int (1 : Int32))])) (fun _ kt => XS.iconst X0.here hx rfl (hb hby d_method_4_code_52) kt) ?_
        exact Rch.retI X0 hx hret hlk (hb hby d_method_4_code_53) (fun U hU hF => hK _ U _ _ _ (by show Q_rm2 Z a1 p2 n y i h0 n0 _ U.heap _; rw [hU, e0]; exact ⟨by simp [own_extra, ci, c107, c108], N0, rfl⟩) hF (by decide) (by decide))
      · skip
        refine Rch.of (T' := T0) (g' := (mkF m 28 #[.val (.ref a1), .val (.int p2), .val (.int ((y i) &&& (255 : Int32))), .unset] [])) (fun _ kt => XS.icmpNo X0.here hx rfl (hb hby d_method_4_code_25) rfl (feq c108).1 kt) ?_
        refine Rch.of (T' := T0) (g' := (mkF m 29 #[.val (.ref a1), .val (.int p2), .val (.int ((y i) &&& (255 : Int32))), .unset] [(.int ((y i) &&& (255 : Int32)))])) (fun _ kt => XS.iloadN X0.here hx rfl (hb hby d_method_4_code_28) rfl  kt) ?_
        refine Rch.of (T' := T0) (g' := (mkF m 31 #[.val (.ref a1), .val (.int p2), .val (.int ((y i) &&& (255 : Int32))), .unset] [(.int (9 : Int32)), (.int ((y i) &&& (255 : Int32)))])) (fun _ kt => XS.bipush X0.here hx rfl (hb hby d_method_4_code_29) kt) ?_
        by_cases c109 : ((y i) &&& (255 : Int32)) = (9 : Int32)
        · skip
          refine Rch.of (T' := T0) (g' := (mkF m 52 #[.val (.ref a1), .val (.int p2), .val (.int ((y i) &&& (255 : Int32))), .unset] [])) (fun _ kt => XS.icmpYes X0.here hx rfl (pc0 := 31) (pc' := 52) rfl (hb hby d_method_4_code_31) rfl (teq c109).1 (by decide) (by decide) kt) ?_
          refine Rch.of (T' := T0) (g' := (mkF m 53 #[.val (.ref a1), .val (.int p2), .val (.int ((y i) &&& (255 : Int32))), .unset] [(.int (1 : Int32))])) (fun _ kt => XS.iconst X0.here hx rfl (hb hby d_method_4_code_52) kt) ?_
          exact Rch.retI X0 hx hret hlk (hb hby d_method_4_code_53) (fun U hU hF => hK _ U _ _ _ (by show Q_rm2 Z a1 p2 n y i h0 n0 _ U.heap _; rw [hU, e0]; exact ⟨by simp [own_extra, ci, c107, c108, c109], N0, rfl⟩) hF (by decide) (by decide))
        · skip
          refine Rch.of (T' := T0) (g' := (mkF m 34 #[.val (.ref a1), .val (.int p2), .val (.int ((y i) &&& (255 : Int32))), .unset] [])) (fun _ kt => XS.icmpNo X0.here hx rfl (hb hby d_method_4_code_31) rfl (feq c109).1 kt) ?_
          refine Rch.of (T' := T0) (g' := (mkF m 35 #[.val (.ref a1), .val (.int p2), .val (.int ((y i) &&& (255 : Int32))), .unset] [(.int ((y i) &&& (255 : Int32)))])) (fun _ kt => XS.iloadN X0.here hx rfl (hb hby d_method_4_code_34) rfl  kt) ?_
          refine Rch.of (T' := T0) (g' := (mkF m 37 #[.val (.ref a1), .val (.int p2), .val (.int ((y i) &&& (255 : Int32))), .unset] [(.int (10 : Int32)), (.int ((y i) &&& (255 : Int32)))])) (fun _ kt => XS.bipush X0.here hx rfl (hb hby d_method_4_code_35) kt) ?_
          by_cases c110 : ((y i) &&& (255 : Int32)) = (10 : Int32)
          · skip
            refine Rch.of (T' := T0) (g' := (mkF m 52 #[.val (.ref a1), .val (.int p2), .val (.int ((y i) &&& (255 : Int32))), .unset] [])) (fun _ kt => XS.icmpYes X0.here hx rfl (pc0 := 37) (pc' := 52) rfl (hb hby d_method_4_code_37) rfl (teq c110).1 (by decide) (by decide) kt) ?_
            refine Rch.of (T' := T0) (g' := (mkF m 53 #[.val (.ref a1), .val (.int p2), .val (.int ((y i) &&& (255 : Int32))), .unset] [(.int (1 : Int32))])) (fun _ kt => XS.iconst X0.here hx rfl (hb hby d_method_4_code_52) kt) ?_
            exact Rch.retI X0 hx hret hlk (hb hby d_method_4_code_53) (fun U hU hF => hK _ U _ _ _ (by show Q_rm2 Z a1 p2 n y i h0 n0 _ U.heap _; rw [hU, e0]; exact ⟨by simp [own_extra, ci, c107, c108, c109, c110], N0, rfl⟩) hF (by decide) (by decide))
          · skip
            refine Rch.of (T' := T0) (g' := (mkF m 40 #[.val (.ref a1), .val (.int p2), .val (.int ((y i) &&& (255 : Int32))), .unset] [])) (fun _ kt => XS.icmpNo X0.here hx rfl (hb hby d_method_4_code_37) rfl (feq c110).1 kt) ?_
            refine Rch.of (T' := T0) (g' := (mkF m 41 #[.val (.ref a1), .val (.int p2), .val (.int ((y i) &&& (255 : Int32))), .unset] [(.int ((y i) &&& (255 : Int32)))])) (fun _ kt => XS.iloadN X0.here hx rfl (hb hby d_method_4_code_40) rfl  kt) ?_
            refine Rch.of (T' := T0) (g' := (mkF m 43 #[.val (.ref a1), .val (.int p2), .val (.int ((y i) &&& (255 : Int32))), .unset] [(.int (12 : Int32)), (.int ((y i) &&& (255 : Int32)))])) (fun _ kt => XS.bipush X0.here hx rfl (hb hby d_method_4_code_41) kt) ?_
            by_cases c111 : ((y i) &&& (255 : Int32)) = (12 : Int32)
            · skip
              refine Rch.of (T' := T0) (g' := (mkF m 52 #[.val (.ref a1), .val (.int p2), .val (.int ((y i) &&& (255 : Int32))), .unset] [])) (fun _ kt => XS.icmpYes X0.here hx rfl (pc0 := 43) (pc' := 52) rfl (hb hby d_method_4_code_43) rfl (teq c111).1 (by decide) (by decide) kt) ?_
              refine Rch.of (T' := T0) (g' := (mkF m 53 #[.val (.ref a1), .val (.int p2), .val (.int ((y i) &&& (255 : Int32))), .unset] [(.int (1 : Int32))])) (fun _ kt => XS.iconst X0.here hx rfl (hb hby d_method_4_code_52) kt) ?_
              exact Rch.retI X0 hx hret hlk (hb hby d_method_4_code_53) (fun U hU hF => hK _ U _ _ _ (by show Q_rm2 Z a1 p2 n y i h0 n0 _ U.heap _; rw [hU, e0]; exact ⟨by simp [own_extra, ci, c107, c108, c109, c110, c111], N0, rfl⟩) hF (by decide) (by decide))
            · skip
              refine Rch.of (T' := T0) (g' := (mkF m 46 #[.val (.ref a1), .val (.int p2), .val (.int ((y i) &&& (255 : Int32))), .unset] [])) (fun _ kt => XS.icmpNo X0.here hx rfl (hb hby d_method_4_code_43) rfl (feq c111).1 kt) ?_
              refine Rch.of (T' := T0) (g' := (mkF m 47 #[.val (.ref a1), .val (.int p2), .val (.int ((y i) &&& (255 : Int32))), .unset] [(.int ((y i) &&& (255 : Int32)))])) (fun _ kt => XS.iloadN X0.here hx rfl (hb hby d_method_4_code_46) rfl  kt) ?_
              refine Rch.of (T' := T0) (g' := (mkF m 49 #[.val (.ref a1), .val (.int p2), .val (.int ((y i) &&& (255 : Int32))), .unset] [(.int (13 : Int32)), (.int ((y i) &&& (255 : Int32)))])) (fun _ kt => XS.bipush X0.here hx rfl (hb hby d_method_4_code_47) kt) ?_
              by_cases c112 : ((y i) &&& (255 : Int32)) = (13 : Int32)
              · skip
                refine Rch.of (T' := T0) (g' := (mkF m 52 #[.val (.ref a1), .val (.int p2), .val (.int ((y i) &&& (255 : Int32))), .unset] [])) (fun _ kt => XS.icmpNo X0.here hx rfl (hb hby d_method_4_code_49) rfl (teq c112).2 kt) ?_
                refine Rch.of (T' := T0) (g' := (mkF m 53 #[.val (.ref a1), .val (.int p2), .val (.int ((y i) &&& (255 : Int32))), .unset] [(.int (1 : Int32))])) (fun _ kt => XS.iconst X0.here hx rfl (hb hby d_method_4_code_52) kt) ?_
                exact Rch.retI X0 hx hret hlk (hb hby d_method_4_code_53) (fun U hU hF => hK _ U _ _ _ (by show Q_rm2 Z a1 p2 n y i h0 n0 _ U.heap _; rw [hU, e0]; exact ⟨by simp [own_extra, ci, c107, c108, c109, c110, c111, c112], N0, rfl⟩) hF (by decide) (by decide))
              · skip
                refine Rch.of (T' := T0) (g' := (mkF m 54 #[.val (.ref a1), .val (.int p2), .val (.int ((y i) &&& (255 : Int32))), .unset] [])) (fun _ kt => XS.icmpYes X0.here hx rfl (pc0 := 49) (pc' := 54) rfl (hb hby d_method_4_code_49) rfl (feq c112).2 (by decide) (by decide) kt) ?_
                refine Rch.of (T' := T0) (g' := (mkF m 55 #[.val (.ref a1), .val (.int p2), .val (.int ((y i) &&& (255 : Int32))), .unset] [(.int (5 : Int32))])) (fun _ kt => XS.iconst X0.here hx rfl (hb hby d_method_4_code_54) kt) ?_
                exact Rch.retI X0 hx hret hlk (hb hby d_method_4_code_55) (fun U hU hF => hK _ U _ _ _ (by show Q_rm2 Z a1 p2 n y i h0 n0 _ U.heap _; rw [hU, e0]; exact ⟨by simp [own_extra, ci, c107, c108, c109, c110, c111, c112], N0, rfl⟩) hF (by decide) (by decide))
    · skip
      refine Rch.of (T' := T0) (g' := (mkF m 56 #[.val (.ref a1), .val (.int p2), .val (.int ((y i) &&& (255 : Int32))), .unset] [])) (fun _ kt => XS.icmpYes X0.here hx rfl (pc0 := 19) (pc' := 56) rfl (hb hby d_method_4_code_19) rfl (flt c107).2.1 (by decide) (by decide) kt) ?_
      refine Rch.of (T' := T0) (g' := (mkF m 57 #[.val (.ref a1), .val (.int p2), .val (.int ((y i) &&& (255 : Int32))), .unset] [(.int ((y i) &&& (255 : Int32)))])) (fun _ kt => XS.iloadN X0.here hx rfl (hb hby d_method_4_code_56) rfl  kt) ?_
      refine Rch.of (T' := T0) (g' := (mkF m 59 #[.val (.ref a1), .val (.int p2), .val (.int ((y i) &&& (255 : Int32))), .unset] [(.int (34 : Int32)), (.int ((y i) &&& (255 : Int32)))])) (fun _ kt => XS.bipush X0.here hx rfl (hb hby d_method_4_code_57) kt) ?_
      by_cases c113 : ((y i) &&& (255 : Int32)) = (34 : Int32)
      · skip
        refine Rch.of (T' := T0) (g' := (mkF m 68 #[.val (.ref a1), .val (.int p2), .val (.int ((y i) &&& (255 : Int32))), .unset] [])) (fun _ kt => XS.icmpYes X0.here hx rfl (pc0 := 59) (pc' := 68) rfl (hb hby d_method_4_code_59) rfl (teq c113).1 (by decide) (by decide) kt) ?_
        refine Rch.of (T' := T0) (g' := (mkF m 69 #[.val (.ref a1), .val (.int p2), .val (.int ((y i) &&& (255 : Int32))), .unset] [(.int (1 : Int32))])) (fun _ kt => XS.iconst X0.here hx rfl (hb hby d_method_4_code_68) kt) ?_
        exact Rch.retI X0 hx hret hlk (hb hby d_method_4_code_69) (fun U hU hF => hK _ U _ _ _ (by show Q_rm2 Z a1 p2 n y i h0 n0 _ U.heap _; rw [hU, e0]; exact ⟨by simp [own_extra, ci, c107, c113], N0, rfl⟩) hF (by decide) (by decide))
      · skip
        refine Rch.of (T' := T0) (g' := (mkF m 62 #[.val (.ref a1), .val (.int p2), .val (.int ((y i) &&& (255 : Int32))), .unset] [])) (fun _ kt => XS.icmpNo X0.here hx rfl (hb hby d_method_4_code_59) rfl (feq c113).1 kt) ?_
        refine Rch.of (T' := T0) (g' := (mkF m 63 #[.val (.ref a1), .val (.int p2), .val (.int ((y i) &&& (255 : Int32))), .unset] [(.int ((y i) &&& (255 : Int32)))])) (fun _ kt => XS.iloadN X0.here hx rfl (hb hby d_method_4_code_62) rfl  kt) ?_
        refine Rch.of (T' := T0) (g' := (mkF m 65 #[.val (.ref a1), .val (.int p2), .val (.int ((y i) &&& (255 : Int32))), .unset] [(.int (92 : Int32)), (.int ((y i) &&& (255 : Int32)))])) (fun _ kt => XS.bipush X0.here hx rfl (hb hby d_method_4_code_63) kt) ?_
        by_cases c114 : ((y i) &&& (255 : Int32)) = (92 : Int32)
        · skip
          refine Rch.of (T' := T0) (g' := (mkF m 68 #[.val (.ref a1), .val (.int p2), .val (.int ((y i) &&& (255 : Int32))), .unset] [])) (fun _ kt => XS.icmpNo X0.here hx rfl (hb hby d_method_4_code_65) rfl (teq c114).2 kt) ?_
          refine Rch.of (T' := T0) (g' := (mkF m 69 #[.val (.ref a1), .val (.int p2), .val (.int ((y i) &&& (255 : Int32))), .unset] [(.int (1 : Int32))])) (fun _ kt => XS.iconst X0.here hx rfl (hb hby d_method_4_code_68) kt) ?_
          exact Rch.retI X0 hx hret hlk (hb hby d_method_4_code_69) (fun U hU hF => hK _ U _ _ _ (by show Q_rm2 Z a1 p2 n y i h0 n0 _ U.heap _; rw [hU, e0]; exact ⟨by simp [own_extra, ci, c107, c113, c114], N0, rfl⟩) hF (by decide) (by decide))
        · skip
          refine Rch.of (T' := T0) (g' := (mkF m 70 #[.val (.ref a1), .val (.int p2), .val (.int ((y i) &&& (255 : Int32))), .unset] [])) (fun _ kt => XS.icmpYes X0.here hx rfl (pc0 := 65) (pc' := 70) rfl (hb hby d_method_4_code_65) rfl (feq c114).2 (by decide) (by decide) kt) ?_
          refine Rch.of (T' := T0) (g' := (mkF m 71 #[.val (.ref a1), .val (.int p2), .val (.int ((y i) &&& (255 : Int32))), .unset] [(.int ((y i) &&& (255 : Int32)))])) (fun _ kt => XS.iloadN X0.here hx rfl (hb hby d_method_4_code_70) rfl  kt) ?_
          refine Rch.of (T' := T0) (g' := (mkF m 74 #[.val (.ref a1), .val (.int p2), .val (.int ((y i) &&& (255 : Int32))), .unset] [(.int (128 : Int32)), (.int ((y i) &&& (255 : Int32)))])) (fun _ kt => XS.sipush X0.here hx rfl (hb hby d_method_4_code_71) kt) ?_
          by_cases c115 : ((y i) &&& (255 : Int32)) < (128 : Int32)
          · skip
            refine Rch.of (T' := T0) (g' := (mkF m 77 #[.val (.ref a1), .val (.int p2), .val (.int ((y i) &&& (255 : Int32))), .unset] [])) (fun _ kt => XS.icmpNo X0.here hx rfl (hb hby d_method_4_code_74) rfl (tlt c115).2.1 kt) ?_
            refine Rch.of (T' := T0) (g' := (mkF m 78 #[.val (.ref a1), .val (.int p2), .val (.int ((y i) &&& (255 : Int32))), .unset] [(.int (0 : Int32))])) (fun _ kt => XS.iconst X0.here hx rfl (hb hby d_method_4_code_77) kt) ?_
            exact Rch.retI X0 hx hret hlk (hb hby d_method_4_code_78) (fun U hU hF => hK _ U _ _ _ (by show Q_rm2 Z a1 p2 n y i h0 n0 _ U.heap _; rw [hU, e0]; exact ⟨by simp [own_extra, ci, c107, c113, c114, c115], N0, rfl⟩) hF (by decide) (by decide))
          · skip
            refine Rch.of (T' := T0) (g' := (mkF m 79 #[.val (.ref a1), .val (.int p2), .val (.int ((y i) &&& (255 : Int32))), .unset] [])) (fun _ kt => XS.icmpYes X0.here hx rfl (pc0 := 74) (pc' := 79) rfl (hb hby d_method_4_code_74) rfl (flt c115).2.1 (by decide) (by decide) kt) ?_
            refine Rch.of (T' := T0) (g' := (mkF m 80 #[.val (.ref a1), .val (.int p2), .val (.int ((y i) &&& (255 : Int32))), .unset] [(.int ((y i) &&& (255 : Int32)))])) (fun _ kt => XS.iloadN X0.here hx rfl (hb hby d_method_4_code_79) rfl  kt) ?_
            refine Rch.of (T' := T0) (g' := (mkF m 83 #[.val (.ref a1), .val (.int p2), .val (.int ((y i) &&& (255 : Int32))), .unset] [(.int (226 : Int32)), (.int ((y i) &&& (255 : Int32)))])) (fun _ kt => XS.sipush X0.here hx rfl (hb hby d_method_4_code_80) kt) ?_
            by_cases c116 : ((y i) &&& (255 : Int32)) = (226 : Int32)
            · skip
              refine Rch.of (T' := T0) (g' := (mkF m 86 #[.val (.ref a1), .val (.int p2), .val (.int ((y i) &&& (255 : Int32))), .unset] [])) (fun _ kt => XS.icmpNo X0.here hx rfl (hb hby d_method_4_code_83) rfl (teq c116).2 kt) ?_
              refine Rch.of (T' := T0) (g' := (mkF m 87 #[.val (.ref a1), .val (.int p2), .val (.int ((y i) &&& (255 : Int32))), .unset] [(.int p2)])) (fun _ kt => XS.iloadN X0.here hx rfl (hb hby d_method_4_code_86) rfl  kt) ?_
              refine Rch.of (T' := T0) (g' := (mkF m 88 #[.val (.ref a1), .val (.int p2), .val (.int ((y i) &&& (255 : Int32))), .unset] [(.int (2 : Int32)), (.int p2)])) (fun _ kt => XS.iconst X0.here hx rfl (hb hby d_method_4_code_87) kt) ?_
              refine Rch.of (T' := T0) (g' := (mkF m 89 #[.val (.ref a1), .val (.int p2), .val (.int ((y i) &&& (255 : Int32))), .unset] [(.int (p2 + (2 : Int32)))])) (fun _ kt => XS.iadd X0.here hx rfl (hb hby d_method_4_code_88) rfl kt) ?_
              refine Rch.of (T' := T0) (g' := (mkF m 90 #[.val (.ref a1), .val (.int p2), .val (.int ((y i) &&& (255 : Int32))), .unset] [(.ref a1), (.int (p2 + (2 : Int32)))])) (fun _ kt => XS.aloadN X0.here hx rfl (hb hby d_method_4_code_89) rfl rfl kt) ?_
              obtain ⟨cl117, Ar117, Sz117, Ha117⟩ := id V1
              refine Rch.of (T' := T0) (g' := (mkF m 91 #[.val (.ref a1), .val (.int p2), .val (.int ((y i) &&& (255 : Int32))), .unset] [(.int cl117.slots.size.toInt32), (.int (p2 + (2 : Int32)))])) (X0.arraylength hx (by rw [e0]; exact Ar117.1) (State.isArrayOf_alike hZ.alike Ar117.2.1) (g := (mkF m 90 #[.val (.ref a1), .val (.int p2), .val (.int ((y i) &&& (255 : Int32))), .unset] [(.ref a1), (.int (p2 + (2 : Int32)))])) rfl rfl (hb hby d_method_4_code_90)) ?_
              rw [oLen Sz117]
              show Rch p e below K T0 (mkF m 91 #[.val (.ref a1), .val (.int p2), .val (.int ((y i) &&& (255 : Int32))), .unset] [(.int (Int32.ofNat n)), (.int (p2 + (2 : Int32)))])
              by_cases c118 : (p2 + (2 : Int32)) < (Int32.ofNat n)
              · skip
                refine Rch.of (T' := T0) (g' := (mkF m 94 #[.val (.ref a1), .val (.int p2), .val (.int ((y i) &&& (255 : Int32))), .unset] [])) (fun _ kt => XS.icmpNo X0.here hx rfl (hb hby d_method_4_code_91) rfl (tlt c118).2.1 kt) ?_
                have cj : i + 2 < n := (own_nlt (own_plus hi (k := 2) (d := 2) (by decide) (by omega)) (by omega)).mp c118
                refine Rch.of (T' := T0) (g' := (mkF m 95 #[.val (.ref a1), .val (.int p2), .val (.int ((y i) &&& (255 : Int32))), .unset] [(.ref a1)])) (fun _ kt => XS.aloadN X0.here hx rfl (hb hby d_method_4_code_94) rfl rfl kt) ?_
                refine Rch.of (T' := T0) (g' := (mkF m 96 #[.val (.ref a1), .val (.int p2), .val (.int ((y i) &&& (255 : Int32))), .unset] [(.int p2), (.ref a1)])) (fun _ kt => XS.iloadN X0.here hx rfl (hb hby d_method_4_code_95) rfl  kt) ?_
                refine Rch.of (T' := T0) (g' := (mkF m 97 #[.val (.ref a1), .val (.int p2), .val (.int ((y i) &&& (255 : Int32))), .unset] [(.int (1 : Int32)), (.int p2), (.ref a1)])) (fun _ kt => XS.iconst X0.here hx rfl (hb hby d_method_4_code_96) kt) ?_
                refine Rch.of (T' := T0) (g' := (mkF m 98 #[.val (.ref a1), .val (.int p2), .val (.int ((y i) &&& (255 : Int32))), .unset] [(.int (p2 + (1 : Int32))), (.ref a1)])) (fun _ kt => XS.iadd X0.here hx rfl (hb hby d_method_4_code_97) rfl kt) ?_
                obtain ⟨cl119, Ar119, Sz119, Ha119⟩ := id V1
                refine Rch.of (T' := T0) (g' := (mkF m 99 #[.val (.ref a1), .val (.int p2), .val (.int ((y i) &&& (255 : Int32))), .unset] [(.int (y (i + 1)))])) (X0.baloadBytes hx (j := (p2 + (1 : Int32))) (v := (.int (y (i + 1)))) (by rw [e0]; exact Ar119.1) (State.isArrayOf_alike hZ.alike Ar119.2.1) Ar119.2.2 (oIn (i := (i + 1)) Sz119 (own_plus hi (k := 1) (d := 1) (by decide) (by omega)) (by omega)) (oAt (i := (i + 1)) Ha119 (own_plus hi (k := 1) (d := 1) (by decide) (by omega)) (by omega)) (g := (mkF m 98 #[.val (.ref a1), .val (.int p2), .val (.int ((y i) &&& (255 : Int32))), .unset] [(.int (p2 + (1 : Int32))), (.ref a1)])) rfl rfl (hb hby d_method_4_code_98)) ?_
                refine Rch.of (T' := T0) (g' := (mkF m 102 #[.val (.ref a1), .val (.int p2), .val (.int ((y i) &&& (255 : Int32))), .unset] [(.int (255 : Int32)), (.int (y (i + 1)))])) (fun _ kt => XS.sipush X0.here hx rfl (hb hby d_method_4_code_99) kt) ?_
                refine Rch.of (T' := T0) (g' := (mkF m 103 #[.val (.ref a1), .val (.int p2), .val (.int ((y i) &&& (255 : Int32))), .unset] [(.int ((y (i + 1)) &&& (255 : Int32)))])) (fun _ kt => XS.iand X0.here hx rfl (hb hby d_method_4_code_102) rfl kt) ?_
                refine Rch.of (T' := T0) (g' := (mkF m 106 #[.val (.ref a1), .val (.int p2), .val (.int ((y i) &&& (255 : Int32))), .unset] [(.int (128 : Int32)), (.int ((y (i + 1)) &&& (255 : Int32)))])) (fun _ kt => XS.sipush X0.here hx rfl (hb hby d_method_4_code_103) kt) ?_
                by_cases c120 : ((y (i + 1)) &&& (255 : Int32)) = (128 : Int32)
                · skip
                  refine Rch.of (T' := T0) (g' := (mkF m 109 #[.val (.ref a1), .val (.int p2), .val (.int ((y i) &&& (255 : Int32))), .unset] [])) (fun _ kt => XS.icmpNo X0.here hx rfl (hb hby d_method_4_code_106) rfl (teq c120).2 kt) ?_
                  refine Rch.of (T' := T0) (g' := (mkF m 110 #[.val (.ref a1), .val (.int p2), .val (.int ((y i) &&& (255 : Int32))), .unset] [(.ref a1)])) (fun _ kt => XS.aloadN X0.here hx rfl (hb hby d_method_4_code_109) rfl rfl kt) ?_
                  refine Rch.of (T' := T0) (g' := (mkF m 111 #[.val (.ref a1), .val (.int p2), .val (.int ((y i) &&& (255 : Int32))), .unset] [(.int p2), (.ref a1)])) (fun _ kt => XS.iloadN X0.here hx rfl (hb hby d_method_4_code_110) rfl  kt) ?_
                  refine Rch.of (T' := T0) (g' := (mkF m 112 #[.val (.ref a1), .val (.int p2), .val (.int ((y i) &&& (255 : Int32))), .unset] [(.int (2 : Int32)), (.int p2), (.ref a1)])) (fun _ kt => XS.iconst X0.here hx rfl (hb hby d_method_4_code_111) kt) ?_
                  refine Rch.of (T' := T0) (g' := (mkF m 113 #[.val (.ref a1), .val (.int p2), .val (.int ((y i) &&& (255 : Int32))), .unset] [(.int (p2 + (2 : Int32))), (.ref a1)])) (fun _ kt => XS.iadd X0.here hx rfl (hb hby d_method_4_code_112) rfl kt) ?_
                  obtain ⟨cl121, Ar121, Sz121, Ha121⟩ := id V1
                  refine Rch.of (T' := T0) (g' := (mkF m 114 #[.val (.ref a1), .val (.int p2), .val (.int ((y i) &&& (255 : Int32))), .unset] [(.int (y (i + 2)))])) (X0.baloadBytes hx (j := (p2 + (2 : Int32))) (v := (.int (y (i + 2)))) (by rw [e0]; exact Ar121.1) (State.isArrayOf_alike hZ.alike Ar121.2.1) Ar121.2.2 (oIn (i := (i + 2)) Sz121 (own_plus hi (k := 2) (d := 2) (by decide) (by omega)) cj) (oAt (i := (i + 2)) Ha121 (own_plus hi (k := 2) (d := 2) (by decide) (by omega)) cj) (g := (mkF m 113 #[.val (.ref a1), .val (.int p2), .val (.int ((y i) &&& (255 : Int32))), .unset] [(.int (p2 + (2 : Int32))), (.ref a1)])) rfl rfl (hb hby d_method_4_code_113)) ?_
                  refine Rch.of (T' := T0) (g' := (mkF m 117 #[.val (.ref a1), .val (.int p2), .val (.int ((y i) &&& (255 : Int32))), .unset] [(.int (255 : Int32)), (.int (y (i + 2)))])) (fun _ kt => XS.sipush X0.here hx rfl (hb hby d_method_4_code_114) kt) ?_
                  refine Rch.of (T' := T0) (g' := (mkF m 118 #[.val (.ref a1), .val (.int p2), .val (.int ((y i) &&& (255 : Int32))), .unset] [(.int ((y (i + 2)) &&& (255 : Int32)))])) (fun _ kt => XS.iand X0.here hx rfl (hb hby d_method_4_code_117) rfl kt) ?_
                  refine Rch.of (T' := T0) (g' := (mkF m 119 #[.val (.ref a1), .val (.int p2), .val (.int ((y i) &&& (255 : Int32))), .val (.int ((y (i + 2)) &&& (255 : Int32)))] [])) (fun _ kt => XS.istoreN X0.here hx rfl (hb hby d_method_4_code_118) rfl (l' := #[.val (.ref a1), .val (.int p2), .val (.int ((y i) &&& (255 : Int32))), .val (.int ((y (i + 2)) &&& (255 : Int32)))]) rfl kt) ?_
                  refine Rch.of (T' := T0) (g' := (mkF m 120 #[.val (.ref a1), .val (.int p2), .val (.int ((y i) &&& (255 : Int32))), .val (.int ((y (i + 2)) &&& (255 : Int32)))] [(.int ((y (i + 2)) &&& (255 : Int32)))])) (fun _ kt => XS.iloadN X0.here hx rfl (hb hby d_method_4_code_119) rfl  kt) ?_
                  refine Rch.of (T' := T0) (g' := (mkF m 123 #[.val (.ref a1), .val (.int p2), .val (.int ((y i) &&& (255 : Int32))), .val (.int ((y (i + 2)) &&& (255 : Int32)))] [(.int (168 : Int32)), (.int ((y (i + 2)) &&& (255 : Int32)))])) (fun _ kt => XS.sipush X0.here hx rfl (hb hby d_method_4_code_120) kt) ?_
                  by_cases c122 : ((y (i + 2)) &&& (255 : Int32)) = (168 : Int32)
                  · skip
                    refine Rch.of (T' := T0) (g' := (mkF m 133 #[.val (.ref a1), .val (.int p2), .val (.int ((y i) &&& (255 : Int32))), .val (.int ((y (i + 2)) &&& (255 : Int32)))] [])) (fun _ kt => XS.icmpYes X0.here hx rfl (pc0 := 123) (pc' := 133) rfl (hb hby d_method_4_code_123) rfl (teq c122).1 (by decide) (by decide) kt) ?_
                    refine Rch.of (T' := T0) (g' := (mkF m 134 #[.val (.ref a1), .val (.int p2), .val (.int ((y i) &&& (255 : Int32))), .val (.int ((y (i + 2)) &&& (255 : Int32)))] [(.int (3 : Int32))])) (fun _ kt => XS.iconst X0.here hx rfl (hb hby d_method_4_code_133) kt) ?_
                    exact Rch.retI X0 hx hret hlk (hb hby d_method_4_code_134) (fun U hU hF => hK _ U _ _ _ (by show Q_rm2 Z a1 p2 n y i h0 n0 _ U.heap _; rw [hU, e0]; exact ⟨by simp [own_extra, ci, c107, c113, c114, c115, c116, cj, c120, c122], N0, rfl⟩) hF (by decide) (by decide))
                  · skip
                    refine Rch.of (T' := T0) (g' := (mkF m 126 #[.val (.ref a1), .val (.int p2), .val (.int ((y i) &&& (255 : Int32))), .val (.int ((y (i + 2)) &&& (255 : Int32)))] [])) (fun _ kt => XS.icmpNo X0.here hx rfl (hb hby d_method_4_code_123) rfl (feq c122).1 kt) ?_
                    refine Rch.of (T' := T0) (g' := (mkF m 127 #[.val (.ref a1), .val (.int p2), .val (.int ((y i) &&& (255 : Int32))), .val (.int ((y (i + 2)) &&& (255 : Int32)))] [(.int ((y (i + 2)) &&& (255 : Int32)))])) (fun _ kt => XS.iloadN X0.here hx rfl (hb hby d_method_4_code_126) rfl  kt) ?_
                    refine Rch.of (T' := T0) (g' := (mkF m 130 #[.val (.ref a1), .val (.int p2), .val (.int ((y i) &&& (255 : Int32))), .val (.int ((y (i + 2)) &&& (255 : Int32)))] [(.int (169 : Int32)), (.int ((y (i + 2)) &&& (255 : Int32)))])) (fun _ kt => XS.sipush X0.here hx rfl (hb hby d_method_4_code_127) kt) ?_
                    by_cases c123 : ((y (i + 2)) &&& (255 : Int32)) = (169 : Int32)
                    · skip
                      refine Rch.of (T' := T0) (g' := (mkF m 133 #[.val (.ref a1), .val (.int p2), .val (.int ((y i) &&& (255 : Int32))), .val (.int ((y (i + 2)) &&& (255 : Int32)))] [])) (fun _ kt => XS.icmpNo X0.here hx rfl (hb hby d_method_4_code_130) rfl (teq c123).2 kt) ?_
                      refine Rch.of (T' := T0) (g' := (mkF m 134 #[.val (.ref a1), .val (.int p2), .val (.int ((y i) &&& (255 : Int32))), .val (.int ((y (i + 2)) &&& (255 : Int32)))] [(.int (3 : Int32))])) (fun _ kt => XS.iconst X0.here hx rfl (hb hby d_method_4_code_133) kt) ?_
                      exact Rch.retI X0 hx hret hlk (hb hby d_method_4_code_134) (fun U hU hF => hK _ U _ _ _ (by show Q_rm2 Z a1 p2 n y i h0 n0 _ U.heap _; rw [hU, e0]; exact ⟨by simp [own_extra, ci, c107, c113, c114, c115, c116, cj, c120, c122, c123], N0, rfl⟩) hF (by decide) (by decide))
                    · skip
                      refine Rch.of (T' := T0) (g' := (mkF m 135 #[.val (.ref a1), .val (.int p2), .val (.int ((y i) &&& (255 : Int32))), .val (.int ((y (i + 2)) &&& (255 : Int32)))] [])) (fun _ kt => XS.icmpYes X0.here hx rfl (pc0 := 130) (pc' := 135) rfl (hb hby d_method_4_code_130) rfl (feq c123).2 (by decide) (by decide) kt) ?_
                      refine Rch.of (T' := T0) (g' := (mkF m 136 #[.val (.ref a1), .val (.int p2), .val (.int ((y i) &&& (255 : Int32))), .val (.int ((y (i + 2)) &&& (255 : Int32)))] [(.int (0 : Int32))])) (fun _ kt => XS.iconst X0.here hx rfl (hb hby d_method_4_code_135) kt) ?_
                      exact Rch.retI X0 hx hret hlk (hb hby d_method_4_code_136) (fun U hU hF => hK _ U _ _ _ (by show Q_rm2 Z a1 p2 n y i h0 n0 _ U.heap _; rw [hU, e0]; exact ⟨by simp [own_extra, ci, c107, c113, c114, c115, c116, cj, c120, c122, c123], N0, rfl⟩) hF (by decide) (by decide))
                · skip
                  refine Rch.of (T' := T0) (g' := (mkF m 135 #[.val (.ref a1), .val (.int p2), .val (.int ((y i) &&& (255 : Int32))), .unset] [])) (fun _ kt => XS.icmpYes X0.here hx rfl (pc0 := 106) (pc' := 135) rfl (hb hby d_method_4_code_106) rfl (feq c120).2 (by decide) (by decide) kt) ?_
                  refine Rch.of (T' := T0) (g' := (mkF m 136 #[.val (.ref a1), .val (.int p2), .val (.int ((y i) &&& (255 : Int32))), .unset] [(.int (0 : Int32))])) (fun _ kt => XS.iconst X0.here hx rfl (hb hby d_method_4_code_135) kt) ?_
                  exact Rch.retI X0 hx hret hlk (hb hby d_method_4_code_136) (fun U hU hF => hK _ U _ _ _ (by show Q_rm2 Z a1 p2 n y i h0 n0 _ U.heap _; rw [hU, e0]; exact ⟨by simp [own_extra, ci, c107, c113, c114, c115, c116, cj, c120], N0, rfl⟩) hF (by decide) (by decide))
              · skip
                refine Rch.of (T' := T0) (g' := (mkF m 135 #[.val (.ref a1), .val (.int p2), .val (.int ((y i) &&& (255 : Int32))), .unset] [])) (fun _ kt => XS.icmpYes X0.here hx rfl (pc0 := 91) (pc' := 135) rfl (hb hby d_method_4_code_91) rfl (flt c118).2.1 (by decide) (by decide) kt) ?_
                have cj : ¬ i + 2 < n := fun q => c118 ((own_nlt (own_plus hi (k := 2) (d := 2) (by decide) (by omega)) (by omega)).mpr q)
                refine Rch.of (T' := T0) (g' := (mkF m 136 #[.val (.ref a1), .val (.int p2), .val (.int ((y i) &&& (255 : Int32))), .unset] [(.int (0 : Int32))])) (fun _ kt => XS.iconst X0.here hx rfl (hb hby d_method_4_code_135) kt) ?_
                exact Rch.retI X0 hx hret hlk (hb hby d_method_4_code_136) (fun U hU hF => hK _ U _ _ _ (by show Q_rm2 Z a1 p2 n y i h0 n0 _ U.heap _; rw [hU, e0]; exact ⟨by simp [own_extra, ci, c107, c113, c114, c115, c116, cj], N0, rfl⟩) hF (by decide) (by decide))
            · skip
              refine Rch.of (T' := T0) (g' := (mkF m 135 #[.val (.ref a1), .val (.int p2), .val (.int ((y i) &&& (255 : Int32))), .unset] [])) (fun _ kt => XS.icmpYes X0.here hx rfl (pc0 := 83) (pc' := 135) rfl (hb hby d_method_4_code_83) rfl (feq c116).2 (by decide) (by decide) kt) ?_
              refine Rch.of (T' := T0) (g' := (mkF m 136 #[.val (.ref a1), .val (.int p2), .val (.int ((y i) &&& (255 : Int32))), .unset] [(.int (0 : Int32))])) (fun _ kt => XS.iconst X0.here hx rfl (hb hby d_method_4_code_135) kt) ?_
              exact Rch.retI X0 hx hret hlk (hb hby d_method_4_code_136) (fun U hU hF => hK _ U _ _ _ (by show Q_rm2 Z a1 p2 n y i h0 n0 _ U.heap _; rw [hU, e0]; exact ⟨by simp [own_extra, ci, c107, c113, c114, c115, c116], N0, rfl⟩) hF (by decide) (by decide))
  · skip
    refine Rch.of (T' := T0) (g' := (mkF m 6 #[.val (.ref a1), .val (.int p2), .unset, .unset] [])) (fun _ kt => XS.icmpNo X0.here hx rfl (hb hby d_method_4_code_3) rfl (flt c105).1 kt) ?_
    have ci : ¬ i < n := fun q => c105 ((own_nlt hi (by omega)).mpr q)
    refine Rch.of (T' := T0) (g' := (mkF m 7 #[.val (.ref a1), .val (.int p2), .unset, .unset] [(.int (0 : Int32))])) (fun _ kt => XS.iconst X0.here hx rfl (hb hby d_method_4_code_6) kt) ?_
    exact Rch.retI X0 hx hret hlk (hb hby d_method_4_code_7) (fun U hU hF => hK _ U _ _ _ (by show Q_rm2 Z a1 p2 n y i h0 n0 _ U.heap _; rw [hU, e0]; exact ⟨by simp [own_extra, ci], N0, rfl⟩) hF (by decide) (by decide))
theorem d_prog_7_method_21_code_0 : decode prog_7_method_21_code 0 = .ok (.aload_n 0, 1) := by decide +kernel
theorem d_prog_7_method_21_code_1 : decode prog_7_method_21_code 1 = .ok (.iload_n 1, 1) := by decide +kernel
theorem d_prog_7_method_21_code_2 : decode prog_7_method_21_code 2 = .ok (.baload, 1) := by decide +kernel
theorem d_prog_7_method_21_code_3 : decode prog_7_method_21_code 3 = .ok (.bipush (-30), 2) := by decide +kernel
theorem d_prog_7_method_21_code_5 : decode prog_7_method_21_code 5 = .ok (.if_icmp .ne 45, 3) := by decide +kernel
theorem d_prog_7_method_21_code_8 : decode prog_7_method_21_code 8 = .ok (.iload_n 1, 1) := by decide +kernel
theorem d_prog_7_method_21_code_9 : decode prog_7_method_21_code 9 = .ok (.iconst 2, 1) := by decide +kernel
theorem d_prog_7_method_21_code_10 : decode prog_7_method_21_code 10 = .ok (.iadd, 1) := by decide +kernel
theorem d_prog_7_method_21_code_11 : decode prog_7_method_21_code 11 = .ok (.aload_n 0, 1) := by decide +kernel
theorem d_prog_7_method_21_code_12 : decode prog_7_method_21_code 12 = .ok (.arraylength, 1) := by decide +kernel
theorem d_prog_7_method_21_code_13 : decode prog_7_method_21_code 13 = .ok (.if_icmp .ge 37, 3) := by decide +kernel
theorem d_prog_7_method_21_code_16 : decode prog_7_method_21_code 16 = .ok (.aload_n 0, 1) := by decide +kernel
theorem d_prog_7_method_21_code_17 : decode prog_7_method_21_code 17 = .ok (.iload_n 1, 1) := by decide +kernel
theorem d_prog_7_method_21_code_18 : decode prog_7_method_21_code 18 = .ok (.iconst 1, 1) := by decide +kernel
theorem d_prog_7_method_21_code_19 : decode prog_7_method_21_code 19 = .ok (.iadd, 1) := by decide +kernel
theorem d_prog_7_method_21_code_20 : decode prog_7_method_21_code 20 = .ok (.baload, 1) := by decide +kernel
theorem d_prog_7_method_21_code_21 : decode prog_7_method_21_code 21 = .ok (.bipush (-128), 2) := by decide +kernel
theorem d_prog_7_method_21_code_23 : decode prog_7_method_21_code 23 = .ok (.if_icmp .ne 27, 3) := by decide +kernel
theorem d_prog_7_method_21_code_26 : decode prog_7_method_21_code 26 = .ok (.aload_n 0, 1) := by decide +kernel
theorem d_prog_7_method_21_code_27 : decode prog_7_method_21_code 27 = .ok (.iload_n 1, 1) := by decide +kernel
theorem d_prog_7_method_21_code_28 : decode prog_7_method_21_code 28 = .ok (.iconst 2, 1) := by decide +kernel
theorem d_prog_7_method_21_code_29 : decode prog_7_method_21_code 29 = .ok (.iadd, 1) := by decide +kernel
theorem d_prog_7_method_21_code_30 : decode prog_7_method_21_code 30 = .ok (.baload, 1) := by decide +kernel
theorem d_prog_7_method_21_code_31 : decode prog_7_method_21_code 31 = .ok (.bipush (-88), 2) := by decide +kernel
theorem d_prog_7_method_21_code_33 : decode prog_7_method_21_code 33 = .ok (.if_icmp .eq 13, 3) := by decide +kernel
theorem d_prog_7_method_21_code_36 : decode prog_7_method_21_code 36 = .ok (.aload_n 0, 1) := by decide +kernel
theorem d_prog_7_method_21_code_37 : decode prog_7_method_21_code 37 = .ok (.iload_n 1, 1) := by decide +kernel
theorem d_prog_7_method_21_code_38 : decode prog_7_method_21_code 38 = .ok (.iconst 2, 1) := by decide +kernel
theorem d_prog_7_method_21_code_39 : decode prog_7_method_21_code 39 = .ok (.iadd, 1) := by decide +kernel
theorem d_prog_7_method_21_code_40 : decode prog_7_method_21_code 40 = .ok (.baload, 1) := by decide +kernel
theorem d_prog_7_method_21_code_41 : decode prog_7_method_21_code 41 = .ok (.bipush (-87), 2) := by decide +kernel
theorem d_prog_7_method_21_code_43 : decode prog_7_method_21_code 43 = .ok (.if_icmp .ne 7, 3) := by decide +kernel
theorem d_prog_7_method_21_code_46 : decode prog_7_method_21_code 46 = .ok (.iconst 1, 1) := by decide +kernel
theorem d_prog_7_method_21_code_47 : decode prog_7_method_21_code 47 = .ok (.goto 4, 3) := by decide +kernel
theorem d_prog_7_method_21_code_50 : decode prog_7_method_21_code 50 = .ok (.iconst 0, 1) := by decide +kernel
theorem d_prog_7_method_21_code_51 : decode prog_7_method_21_code 51 = .ok (.ireturn, 1) := by decide +kernel
theorem pn_1 : plainName "com/example/kept_till_acked/kepttillacked/api/JsonOut" = true := by first | (simp [plainName, overriddenIn]; done) | decide +kernel
theorem ef_rm4 (m : MethodId) (a1 : Addr) (p2 : Int32) : entryFrame m #[(.ref a1), (.int p2)] 2 = mkF m 0 #[.val (.ref a1), .val (.int p2)] [] := by first | (simp [entryFrame, mkF, argsToLocals, Value.category]; done) | rfl
def Q_rm4 (Z : State) (a1 : Addr) (p2 : Int32) (n : Nat) (y : Nat → Int32) (i : Nat) (h0 : Heap) (n0 : Nat) (vv_ : Option Value) (h : Heap) (LL_ : List Loc) : Prop := vv_ = some (.int (ob (own_sep n y i))) ∧ Fr n0 LL_ ∧ (h = h0)
set_option maxRecDepth 65536 in
set_option maxHeartbeats 40000000 in
theorem rm4 (l : Launch) (Z : State) (a0 : Array Value) (hw : ∀ d ∈ tables_1, d.before a0 Z = true) (ws : List Jvm.Cond) (a1 : Addr) (p2 : Int32) (n : Nat) (y : Nat → Int32) (i : Nat) (h0 : Heap) (n0 : Nat) (Z0 : n0 ≤ h0.size) (V1 : Av Z h0 a1 .byte n (fun q => .int (y q))) (hn : n ≤ 8) (hi : p2.toInt = (i : Int)) (hin : i < n) :
    MetFree l (⟨"com/example/kept_till_acked/kepttillacked/api/JsonOut", "isSeparator", "([BI)Z"⟩ : MethodName) (head1 (Jvm.Cond.code (⟨"com/example/kept_till_acked/kepttillacked/api/JsonOut", "isSeparator", "([BI)Z"⟩ : MethodName) prog_7_method_21_code 2 (some .boolean) :: ws) ({ frames := 0, cells := 0, slots := 0, locals := 0 } : Room)) (fun aa_ UU_ => aa_ = #[(.ref a1), (.int p2)] ∧ Z.Warmed39 UU_.vm ∧ UU_.heap = h0) (fun _ _ _ _ _ => True) (fun _ UU_ oo_ VV_ => ∃ vv_ LL_, oo_ = .returned vv_ ∧ Q_rm4 Z a1 p2 n y i h0 n0 vv_ VV_.heap LL_ ∧ FrameEnd UU_ oo_ VV_ LL_ ({ frames := 0, cells := 0, slots := 0, locals := 0 } : Room).cells ({ frames := 0, cells := 0, slots := 0, locals := 0 } : Room).slots) := by
  refine own_met (y := (⟨"com/example/kept_till_acked/kepttillacked/api/JsonOut", "isSeparator", "([BI)Z"⟩ : MethodName)) (plainFor_of_name pn_1) ?_
  intro p e s m below meth c T0 K hx hby hml hret hlk hown hnm hZ X0 e0 hK
  have N0 := Fr.nil n0
  refine Rch.cast (ef_rm4 m a1 p2) ?_
  refine Rch.of (T' := T0) (g' := (mkF m 1 #[.val (.ref a1), .val (.int p2)] [(.ref a1)])) (fun _ kt => XS.aloadN X0.here hx rfl (hb hby d_prog_7_method_21_code_0) rfl rfl kt) ?_
  refine Rch.of (T' := T0) (g' := (mkF m 2 #[.val (.ref a1), .val (.int p2)] [(.int p2), (.ref a1)])) (fun _ kt => XS.iloadN X0.here hx rfl (hb hby d_prog_7_method_21_code_1) rfl  kt) ?_
  obtain ⟨cl124, Ar124, Sz124, Ha124⟩ := id V1
  refine Rch.of (T' := T0) (g' := (mkF m 3 #[.val (.ref a1), .val (.int p2)] [(.int (y i))])) (X0.baloadBytes hx (j := p2) (v := (.int (y i))) (by rw [e0]; exact Ar124.1) (State.isArrayOf_alike hZ.alike Ar124.2.1) Ar124.2.2 (oIn (i := i) Sz124 hi hin) (oAt (i := i) Ha124 hi hin) (g := (mkF m 2 #[.val (.ref a1), .val (.int p2)] [(.int p2), (.ref a1)])) rfl rfl (hb hby d_prog_7_method_21_code_2)) ?_
  refine Rch.of (T' := T0) (g' := (mkF m 5 #[.val (.ref a1), .val (.int p2)] [(.int (-30 : Int32)), (.int (y i))])) (fun _ kt => XS.bipush X0.here hx rfl (hb hby d_prog_7_method_21_code_3) kt) ?_
  by_cases c125 : (y i) = (-30 : Int32)
  · skip
    refine Rch.of (T' := T0) (g' := (mkF m 8 #[.val (.ref a1), .val (.int p2)] [])) (fun _ kt => XS.icmpNo X0.here hx rfl (hb hby d_prog_7_method_21_code_5) rfl (teq c125).2 kt) ?_
    refine Rch.of (T' := T0) (g' := (mkF m 9 #[.val (.ref a1), .val (.int p2)] [(.int p2)])) (fun _ kt => XS.iloadN X0.here hx rfl (hb hby d_prog_7_method_21_code_8) rfl  kt) ?_
    refine Rch.of (T' := T0) (g' := (mkF m 10 #[.val (.ref a1), .val (.int p2)] [(.int (2 : Int32)), (.int p2)])) (fun _ kt => XS.iconst X0.here hx rfl (hb hby d_prog_7_method_21_code_9) kt) ?_
    refine Rch.of (T' := T0) (g' := (mkF m 11 #[.val (.ref a1), .val (.int p2)] [(.int (p2 + (2 : Int32)))])) (fun _ kt => XS.iadd X0.here hx rfl (hb hby d_prog_7_method_21_code_10) rfl kt) ?_
    refine Rch.of (T' := T0) (g' := (mkF m 12 #[.val (.ref a1), .val (.int p2)] [(.ref a1), (.int (p2 + (2 : Int32)))])) (fun _ kt => XS.aloadN X0.here hx rfl (hb hby d_prog_7_method_21_code_11) rfl rfl kt) ?_
    obtain ⟨cl126, Ar126, Sz126, Ha126⟩ := id V1
    refine Rch.of (T' := T0) (g' := (mkF m 13 #[.val (.ref a1), .val (.int p2)] [(.int cl126.slots.size.toInt32), (.int (p2 + (2 : Int32)))])) (X0.arraylength hx (by rw [e0]; exact Ar126.1) (State.isArrayOf_alike hZ.alike Ar126.2.1) (g := (mkF m 12 #[.val (.ref a1), .val (.int p2)] [(.ref a1), (.int (p2 + (2 : Int32)))])) rfl rfl (hb hby d_prog_7_method_21_code_12)) ?_
    rw [oLen Sz126]
    show Rch p e below K T0 (mkF m 13 #[.val (.ref a1), .val (.int p2)] [(.int (Int32.ofNat n)), (.int (p2 + (2 : Int32)))])
    by_cases c127 : (p2 + (2 : Int32)) < (Int32.ofNat n)
    · skip
      refine Rch.of (T' := T0) (g' := (mkF m 16 #[.val (.ref a1), .val (.int p2)] [])) (fun _ kt => XS.icmpNo X0.here hx rfl (hb hby d_prog_7_method_21_code_13) rfl (tlt c127).2.1 kt) ?_
      have cj : i + 2 < n := (own_nlt (own_plus hi (k := 2) (d := 2) (by decide) (by omega)) (by omega)).mp c127
      refine Rch.of (T' := T0) (g' := (mkF m 17 #[.val (.ref a1), .val (.int p2)] [(.ref a1)])) (fun _ kt => XS.aloadN X0.here hx rfl (hb hby d_prog_7_method_21_code_16) rfl rfl kt) ?_
      refine Rch.of (T' := T0) (g' := (mkF m 18 #[.val (.ref a1), .val (.int p2)] [(.int p2), (.ref a1)])) (fun _ kt => XS.iloadN X0.here hx rfl (hb hby d_prog_7_method_21_code_17) rfl  kt) ?_
      refine Rch.of (T' := T0) (g' := (mkF m 19 #[.val (.ref a1), .val (.int p2)] [(.int (1 : Int32)), (.int p2), (.ref a1)])) (fun _ kt => XS.iconst X0.here hx rfl (hb hby d_prog_7_method_21_code_18) kt) ?_
      refine Rch.of (T' := T0) (g' := (mkF m 20 #[.val (.ref a1), .val (.int p2)] [(.int (p2 + (1 : Int32))), (.ref a1)])) (fun _ kt => XS.iadd X0.here hx rfl (hb hby d_prog_7_method_21_code_19) rfl kt) ?_
      obtain ⟨cl128, Ar128, Sz128, Ha128⟩ := id V1
      refine Rch.of (T' := T0) (g' := (mkF m 21 #[.val (.ref a1), .val (.int p2)] [(.int (y (i + 1)))])) (X0.baloadBytes hx (j := (p2 + (1 : Int32))) (v := (.int (y (i + 1)))) (by rw [e0]; exact Ar128.1) (State.isArrayOf_alike hZ.alike Ar128.2.1) Ar128.2.2 (oIn (i := (i + 1)) Sz128 (own_plus hi (k := 1) (d := 1) (by decide) (by omega)) (by omega)) (oAt (i := (i + 1)) Ha128 (own_plus hi (k := 1) (d := 1) (by decide) (by omega)) (by omega)) (g := (mkF m 20 #[.val (.ref a1), .val (.int p2)] [(.int (p2 + (1 : Int32))), (.ref a1)])) rfl rfl (hb hby d_prog_7_method_21_code_20)) ?_
      refine Rch.of (T' := T0) (g' := (mkF m 23 #[.val (.ref a1), .val (.int p2)] [(.int (-128 : Int32)), (.int (y (i + 1)))])) (fun _ kt => XS.bipush X0.here hx rfl (hb hby d_prog_7_method_21_code_21) kt) ?_
      by_cases c129 : (y (i + 1)) = (-128 : Int32)
      · skip
        refine Rch.of (T' := T0) (g' := (mkF m 26 #[.val (.ref a1), .val (.int p2)] [])) (fun _ kt => XS.icmpNo X0.here hx rfl (hb hby d_prog_7_method_21_code_23) rfl (teq c129).2 kt) ?_
        refine Rch.of (T' := T0) (g' := (mkF m 27 #[.val (.ref a1), .val (.int p2)] [(.ref a1)])) (fun _ kt => XS.aloadN X0.here hx rfl (hb hby d_prog_7_method_21_code_26) rfl rfl kt) ?_
        refine Rch.of (T' := T0) (g' := (mkF m 28 #[.val (.ref a1), .val (.int p2)] [(.int p2), (.ref a1)])) (fun _ kt => XS.iloadN X0.here hx rfl (hb hby d_prog_7_method_21_code_27) rfl  kt) ?_
        refine Rch.of (T' := T0) (g' := (mkF m 29 #[.val (.ref a1), .val (.int p2)] [(.int (2 : Int32)), (.int p2), (.ref a1)])) (fun _ kt => XS.iconst X0.here hx rfl (hb hby d_prog_7_method_21_code_28) kt) ?_
        refine Rch.of (T' := T0) (g' := (mkF m 30 #[.val (.ref a1), .val (.int p2)] [(.int (p2 + (2 : Int32))), (.ref a1)])) (fun _ kt => XS.iadd X0.here hx rfl (hb hby d_prog_7_method_21_code_29) rfl kt) ?_
        obtain ⟨cl130, Ar130, Sz130, Ha130⟩ := id V1
        refine Rch.of (T' := T0) (g' := (mkF m 31 #[.val (.ref a1), .val (.int p2)] [(.int (y (i + 2)))])) (X0.baloadBytes hx (j := (p2 + (2 : Int32))) (v := (.int (y (i + 2)))) (by rw [e0]; exact Ar130.1) (State.isArrayOf_alike hZ.alike Ar130.2.1) Ar130.2.2 (oIn (i := (i + 2)) Sz130 (own_plus hi (k := 2) (d := 2) (by decide) (by omega)) cj) (oAt (i := (i + 2)) Ha130 (own_plus hi (k := 2) (d := 2) (by decide) (by omega)) cj) (g := (mkF m 30 #[.val (.ref a1), .val (.int p2)] [(.int (p2 + (2 : Int32))), (.ref a1)])) rfl rfl (hb hby d_prog_7_method_21_code_30)) ?_
        refine Rch.of (T' := T0) (g' := (mkF m 33 #[.val (.ref a1), .val (.int p2)] [(.int (-88 : Int32)), (.int (y (i + 2)))])) (fun _ kt => XS.bipush X0.here hx rfl (hb hby d_prog_7_method_21_code_31) kt) ?_
        by_cases c131 : (y (i + 2)) = (-88 : Int32)
        · skip
          refine Rch.of (T' := T0) (g' := (mkF m 46 #[.val (.ref a1), .val (.int p2)] [])) (fun _ kt => XS.icmpYes X0.here hx rfl (pc0 := 33) (pc' := 46) rfl (hb hby d_prog_7_method_21_code_33) rfl (teq c131).1 (by decide) (by decide) kt) ?_
          refine Rch.of (T' := T0) (g' := (mkF m 47 #[.val (.ref a1), .val (.int p2)] [(.int (1 : Int32))])) (fun _ kt => XS.iconst X0.here hx rfl (hb hby d_prog_7_method_21_code_46) kt) ?_
          refine Rch.of (T' := T0) (g' := (mkF m 51 #[.val (.ref a1), .val (.int p2)] [(.int (1 : Int32))])) (fun _ kt => XS.goto X0.here hx rfl (pc0 := 47) (pc' := 51) rfl (hb hby d_prog_7_method_21_code_47) (by decide) (by decide) kt) ?_
          have hv : own_sep n y i := by simp [own_sep, c125, cj, c129, c131]
          exact Rch.retN X0 hx (t := .boolean) hret (by simp) hlk (hb hby d_prog_7_method_21_code_51) (fun U hU hF => hK _ U _ _ _ (by show Q_rm4 Z a1 p2 n y i h0 n0 _ U.heap _; rw [hU, e0]; exact ⟨by rw [ob_pos hv]; rfl, N0, rfl⟩) hF (by decide) (by decide))
        · skip
          refine Rch.of (T' := T0) (g' := (mkF m 36 #[.val (.ref a1), .val (.int p2)] [])) (fun _ kt => XS.icmpNo X0.here hx rfl (hb hby d_prog_7_method_21_code_33) rfl (feq c131).1 kt) ?_
          refine Rch.of (T' := T0) (g' := (mkF m 37 #[.val (.ref a1), .val (.int p2)] [(.ref a1)])) (fun _ kt => XS.aloadN X0.here hx rfl (hb hby d_prog_7_method_21_code_36) rfl rfl kt) ?_
          refine Rch.of (T' := T0) (g' := (mkF m 38 #[.val (.ref a1), .val (.int p2)] [(.int p2), (.ref a1)])) (fun _ kt => XS.iloadN X0.here hx rfl (hb hby d_prog_7_method_21_code_37) rfl  kt) ?_
          refine Rch.of (T' := T0) (g' := (mkF m 39 #[.val (.ref a1), .val (.int p2)] [(.int (2 : Int32)), (.int p2), (.ref a1)])) (fun _ kt => XS.iconst X0.here hx rfl (hb hby d_prog_7_method_21_code_38) kt) ?_
          refine Rch.of (T' := T0) (g' := (mkF m 40 #[.val (.ref a1), .val (.int p2)] [(.int (p2 + (2 : Int32))), (.ref a1)])) (fun _ kt => XS.iadd X0.here hx rfl (hb hby d_prog_7_method_21_code_39) rfl kt) ?_
          obtain ⟨cl132, Ar132, Sz132, Ha132⟩ := id V1
          refine Rch.of (T' := T0) (g' := (mkF m 41 #[.val (.ref a1), .val (.int p2)] [(.int (y (i + 2)))])) (X0.baloadBytes hx (j := (p2 + (2 : Int32))) (v := (.int (y (i + 2)))) (by rw [e0]; exact Ar132.1) (State.isArrayOf_alike hZ.alike Ar132.2.1) Ar132.2.2 (oIn (i := (i + 2)) Sz132 (own_plus hi (k := 2) (d := 2) (by decide) (by omega)) cj) (oAt (i := (i + 2)) Ha132 (own_plus hi (k := 2) (d := 2) (by decide) (by omega)) cj) (g := (mkF m 40 #[.val (.ref a1), .val (.int p2)] [(.int (p2 + (2 : Int32))), (.ref a1)])) rfl rfl (hb hby d_prog_7_method_21_code_40)) ?_
          refine Rch.of (T' := T0) (g' := (mkF m 43 #[.val (.ref a1), .val (.int p2)] [(.int (-87 : Int32)), (.int (y (i + 2)))])) (fun _ kt => XS.bipush X0.here hx rfl (hb hby d_prog_7_method_21_code_41) kt) ?_
          by_cases c133 : (y (i + 2)) = (-87 : Int32)
          · skip
            refine Rch.of (T' := T0) (g' := (mkF m 46 #[.val (.ref a1), .val (.int p2)] [])) (fun _ kt => XS.icmpNo X0.here hx rfl (hb hby d_prog_7_method_21_code_43) rfl (teq c133).2 kt) ?_
            refine Rch.of (T' := T0) (g' := (mkF m 47 #[.val (.ref a1), .val (.int p2)] [(.int (1 : Int32))])) (fun _ kt => XS.iconst X0.here hx rfl (hb hby d_prog_7_method_21_code_46) kt) ?_
            refine Rch.of (T' := T0) (g' := (mkF m 51 #[.val (.ref a1), .val (.int p2)] [(.int (1 : Int32))])) (fun _ kt => XS.goto X0.here hx rfl (pc0 := 47) (pc' := 51) rfl (hb hby d_prog_7_method_21_code_47) (by decide) (by decide) kt) ?_
            have hv : own_sep n y i := by simp [own_sep, c125, cj, c129, c131, c133]
            exact Rch.retN X0 hx (t := .boolean) hret (by simp) hlk (hb hby d_prog_7_method_21_code_51) (fun U hU hF => hK _ U _ _ _ (by show Q_rm4 Z a1 p2 n y i h0 n0 _ U.heap _; rw [hU, e0]; exact ⟨by rw [ob_pos hv]; rfl, N0, rfl⟩) hF (by decide) (by decide))
          · skip
            refine Rch.of (T' := T0) (g' := (mkF m 50 #[.val (.ref a1), .val (.int p2)] [])) (fun _ kt => XS.icmpYes X0.here hx rfl (pc0 := 43) (pc' := 50) rfl (hb hby d_prog_7_method_21_code_43) rfl (feq c133).2 (by decide) (by decide) kt) ?_
            refine Rch.of (T' := T0) (g' := (mkF m 51 #[.val (.ref a1), .val (.int p2)] [(.int (0 : Int32))])) (fun _ kt => XS.iconst X0.here hx rfl (hb hby d_prog_7_method_21_code_50) kt) ?_
            have hv : ¬ own_sep n y i := by simp [own_sep, c125, cj, c129, c131, c133]
            exact Rch.retN X0 hx (t := .boolean) hret (by simp) hlk (hb hby d_prog_7_method_21_code_51) (fun U hU hF => hK _ U _ _ _ (by show Q_rm4 Z a1 p2 n y i h0 n0 _ U.heap _; rw [hU, e0]; exact ⟨by rw [ob_neg hv]; rfl, N0, rfl⟩) hF (by decide) (by decide))
      · skip
        refine Rch.of (T' := T0) (g' := (mkF m 50 #[.val (.ref a1), .val (.int p2)] [])) (fun _ kt => XS.icmpYes X0.here hx rfl (pc0 := 23) (pc' := 50) rfl (hb hby d_prog_7_method_21_code_23) rfl (feq c129).2 (by decide) (by decide) kt) ?_
        refine Rch.of (T' := T0) (g' := (mkF m 51 #[.val (.ref a1), .val (.int p2)] [(.int (0 : Int32))])) (fun _ kt => XS.iconst X0.here hx rfl (hb hby d_prog_7_method_21_code_50) kt) ?_
        have hv : ¬ own_sep n y i := by simp [own_sep, c125, cj, c129]
        exact Rch.retN X0 hx (t := .boolean) hret (by simp) hlk (hb hby d_prog_7_method_21_code_51) (fun U hU hF => hK _ U _ _ _ (by show Q_rm4 Z a1 p2 n y i h0 n0 _ U.heap _; rw [hU, e0]; exact ⟨by rw [ob_neg hv]; rfl, N0, rfl⟩) hF (by decide) (by decide))
    · skip
      refine Rch.of (T' := T0) (g' := (mkF m 50 #[.val (.ref a1), .val (.int p2)] [])) (fun _ kt => XS.icmpYes X0.here hx rfl (pc0 := 13) (pc' := 50) rfl (hb hby d_prog_7_method_21_code_13) rfl (flt c127).2.1 (by decide) (by decide) kt) ?_
      have cj : ¬ i + 2 < n := fun q => c127 ((own_nlt (own_plus hi (k := 2) (d := 2) (by decide) (by omega)) (by omega)).mpr q)
      refine Rch.of (T' := T0) (g' := (mkF m 51 #[.val (.ref a1), .val (.int p2)] [(.int (0 : Int32))])) (fun _ kt => XS.iconst X0.here hx rfl (hb hby d_prog_7_method_21_code_50) kt) ?_
      have hv : ¬ own_sep n y i := by simp [own_sep, c125, cj]
      exact Rch.retN X0 hx (t := .boolean) hret (by simp) hlk (hb hby d_prog_7_method_21_code_51) (fun U hU hF => hK _ U _ _ _ (by show Q_rm4 Z a1 p2 n y i h0 n0 _ U.heap _; rw [hU, e0]; exact ⟨by rw [ob_neg hv]; rfl, N0, rfl⟩) hF (by decide) (by decide))
  · skip
    refine Rch.of (T' := T0) (g' := (mkF m 50 #[.val (.ref a1), .val (.int p2)] [])) (fun _ kt => XS.icmpYes X0.here hx rfl (pc0 := 5) (pc' := 50) rfl (hb hby d_prog_7_method_21_code_5) rfl (feq c125).2 (by decide) (by decide) kt) ?_
    refine Rch.of (T' := T0) (g' := (mkF m 51 #[.val (.ref a1), .val (.int p2)] [(.int (0 : Int32))])) (fun _ kt => XS.iconst X0.here hx rfl (hb hby d_prog_7_method_21_code_50) kt) ?_
    have hv : ¬ own_sep n y i := by simp [own_sep, c125]
    exact Rch.retN X0 hx (t := .boolean) hret (by simp) hlk (hb hby d_prog_7_method_21_code_51) (fun U hU hF => hK _ U _ _ _ (by show Q_rm4 Z a1 p2 n y i h0 n0 _ U.heap _; rw [hU, e0]; exact ⟨by rw [ob_neg hv]; rfl, N0, rfl⟩) hF (by decide) (by decide))
theorem d_prog_7_method_10_code_0 : decode prog_7_method_10_code 0 = .ok (.aload_n 0, 1) := by decide +kernel
theorem d_prog_7_method_10_code_1 : decode prog_7_method_10_code 1 = .ok (.arraylength, 1) := by decide +kernel
theorem d_prog_7_method_10_code_2 : decode prog_7_method_10_code 2 = .ok (.i2l, 1) := by decide +kernel
theorem d_prog_7_method_10_code_3 : decode prog_7_method_10_code 3 = .ok (.lstore_n 1, 1) := by decide +kernel
theorem d_prog_7_method_10_code_4 : decode prog_7_method_10_code 4 = .ok (.iconst 0, 1) := by decide +kernel
theorem d_prog_7_method_10_code_5 : decode prog_7_method_10_code 5 = .ok (.istore_n 3, 1) := by decide +kernel
theorem d_prog_7_method_10_code_6 : decode prog_7_method_10_code 6 = .ok (.iload_n 3, 1) := by decide +kernel
theorem d_prog_7_method_10_code_7 : decode prog_7_method_10_code 7 = .ok (.aload_n 0, 1) := by decide +kernel
theorem d_prog_7_method_10_code_8 : decode prog_7_method_10_code 8 = .ok (.arraylength, 1) := by decide +kernel
theorem d_prog_7_method_10_code_9 : decode prog_7_method_10_code 9 = .ok (.if_icmp .ge 46, 3) := by decide +kernel
theorem d_prog_7_method_10_code_12 : decode prog_7_method_10_code 12 = .ok (.aload_n 0, 1) := by decide +kernel
theorem d_prog_7_method_10_code_13 : decode prog_7_method_10_code 13 = .ok (.iload_n 3, 1) := by decide +kernel
theorem d_prog_7_method_10_code_14 : decode prog_7_method_10_code 14 = .ok (.baload, 1) := by decide +kernel
theorem d_prog_7_method_10_code_15 : decode prog_7_method_10_code 15 = .ok (.istore 4, 2) := by decide +kernel
theorem d_prog_7_method_10_code_17 : decode prog_7_method_10_code 17 = .ok (.iload 4, 2) := by decide +kernel
theorem d_prog_7_method_10_code_19 : decode prog_7_method_10_code 19 = .ok (.ifCond .lt 16, 3) := by decide +kernel
theorem d_prog_7_method_10_code_22 : decode prog_7_method_10_code 22 = .ok (.lload_n 1, 1) := by decide +kernel
theorem d_prog_7_method_10_code_23 : decode prog_7_method_10_code 23 = .ok (.getstatic 99, 3) := by decide +kernel
theorem d_prog_7_method_10_code_26 : decode prog_7_method_10_code 26 = .ok (.iload 4, 2) := by decide +kernel
theorem d_prog_7_method_10_code_28 : decode prog_7_method_10_code 28 = .ok (.baload, 1) := by decide +kernel
theorem d_prog_7_method_10_code_29 : decode prog_7_method_10_code 29 = .ok (.i2l, 1) := by decide +kernel
theorem d_prog_7_method_10_code_30 : decode prog_7_method_10_code 30 = .ok (.ladd, 1) := by decide +kernel
theorem d_prog_7_method_10_code_31 : decode prog_7_method_10_code 31 = .ok (.lstore_n 1, 1) := by decide +kernel
theorem d_prog_7_method_10_code_32 : decode prog_7_method_10_code 32 = .ok (.goto 17, 3) := by decide +kernel
theorem d_prog_7_method_10_code_35 : decode prog_7_method_10_code 35 = .ok (.aload_n 0, 1) := by decide +kernel
theorem d_prog_7_method_10_code_36 : decode prog_7_method_10_code 36 = .ok (.iload_n 3, 1) := by decide +kernel
theorem d_prog_7_method_10_code_37 : decode prog_7_method_10_code 37 = .ok (.invokestatic 102, 3) := by decide +kernel
theorem d_prog_7_method_10_code_40 : decode prog_7_method_10_code 40 = .ok (.ifCond .eq 9, 3) := by decide +kernel
theorem d_prog_7_method_10_code_43 : decode prog_7_method_10_code 43 = .ok (.lload_n 1, 1) := by decide +kernel
theorem d_prog_7_method_10_code_44 : decode prog_7_method_10_code 44 = .ok (.ldc2_w 106, 3) := by decide +kernel
theorem d_prog_7_method_10_code_47 : decode prog_7_method_10_code 47 = .ok (.ladd, 1) := by decide +kernel
theorem d_prog_7_method_10_code_48 : decode prog_7_method_10_code 48 = .ok (.lstore_n 1, 1) := by decide +kernel
theorem d_prog_7_method_10_code_49 : decode prog_7_method_10_code 49 = .ok (.iinc 3 1, 3) := by decide +kernel
theorem d_prog_7_method_10_code_52 : decode prog_7_method_10_code 52 = .ok (.goto (-46), 3) := by decide +kernel
theorem d_prog_7_method_10_code_55 : decode prog_7_method_10_code 55 = .ok (.lload_n 1, 1) := by decide +kernel
theorem d_prog_7_method_10_code_56 : decode prog_7_method_10_code 56 = .ok (.lreturn, 1) := by decide +kernel
theorem ef_rm3 (m : MethodId) (a1 : Addr) : entryFrame m #[(.ref a1)] 5 = mkF m 0 #[.val (.ref a1), .unset, .unset, .unset, .unset] [] := by first | (simp [entryFrame, mkF, argsToLocals, Value.category]; done) | rfl
def Q_rm3 (Z : State) (a1 : Addr) (n : Nat) (y : Nat → Int32) (t : Addr) (tab : Nat → Int32) (h0 : Heap) (n0 : Nat) (vv_ : Option Value) (h : Heap) (LL_ : List Loc) : Prop := vv_ = some (.long (own_acc n y n)) ∧ Fr n0 LL_ ∧ (h = h0)
set_option maxRecDepth 65536 in
set_option maxHeartbeats 40000000 in
theorem rm3 (l : Launch) (Z : State) (a0 : Array Value) (hw : ∀ d ∈ tables_1, d.before a0 Z = true) (ws : List Jvm.Cond) (a1 : Addr) (n : Nat) (y : Nat → Int32) (t : Addr) (tab : Nat → Int32) (h0 : Heap) (n0 : Nat) (Z0 : n0 ≤ h0.size) (V1 : Av Z h0 a1 .byte n (fun q => .int (y q))) (hn : n ≤ 8) (hy : own_by n y) (S1 : Sta Z h0 "com/example/kept_till_acked/kepttillacked/api/JsonOut" "ESCAPES" "[B" (.ref t)) (V2 : Av Z h0 t .byte 128 (fun q => .int (tab q))) (hE : ∀ q, q < 128 → tab q = own_esc q) :
    MetFree l (⟨"com/example/kept_till_acked/kepttillacked/api/JsonOut", "escapedLength", "([B)J"⟩ : MethodName) (head1 (Jvm.Cond.code (⟨"com/example/kept_till_acked/kepttillacked/api/JsonOut", "escapedLength", "([B)J"⟩ : MethodName) prog_7_method_10_code 5 (some .long) :: ws) ({ frames := 1, cells := 0, slots := 0, locals := 13 } : Room)) (fun aa_ UU_ => aa_ = #[(.ref a1)] ∧ Z.Warmed39 UU_.vm ∧ UU_.heap = h0) (fun _ _ _ _ _ => True) (fun _ UU_ oo_ VV_ => ∃ vv_ LL_, oo_ = .returned vv_ ∧ Q_rm3 Z a1 n y t tab h0 n0 vv_ VV_.heap LL_ ∧ FrameEnd UU_ oo_ VV_ LL_ ({ frames := 1, cells := 0, slots := 0, locals := 13 } : Room).cells ({ frames := 1, cells := 0, slots := 0, locals := 13 } : Room).slots) := by
  refine own_met (y := (⟨"com/example/kept_till_acked/kepttillacked/api/JsonOut", "escapedLength", "([B)J"⟩ : MethodName)) (plainFor_of_name pn_1) ?_
  intro p e s m below meth c T0 K hx hby hml hret hlk hown hnm hZ X0 e0 hK
  have N0 := Fr.nil n0
  refine Rch.cast (ef_rm3 m a1) ?_
  have loop : ∀ (k i : Nat) (hk : i + k = n) (T : State) (locs : List Loc) (X : Stand p l e ({ frames := 1, cells := 0, slots := 0, locals := 13 } : Room) s m #[(.ref a1)] below meth c T locs 0 0) (eT : T.heap = h0) (N : Fr n0 locs) (s4 : Slot) (hs4 : One s4), Rch p e below K T (mkF m 6 #[.val (.ref a1), .val (.long (own_acc n y i)), .second, .val (.int (Int32.ofNat i)), s4] []) := by
    intro k
    induction k with
    | zero =>
      intro i hk T locs X eT N s4 hs4
      obtain rfl : i = n := by omega
      refine Rch.of (T' := T) (g' := (mkF m 7 #[.val (.ref a1), .val (.long (own_acc i y i)), .second, .val (.int (Int32.ofNat i)), s4] [(.int (Int32.ofNat i))])) (fun _ kt => XS.iloadN X.here hx rfl (hb hby d_prog_7_method_10_code_6) rfl  kt) ?_
      refine Rch.of (T' := T) (g' := (mkF m 8 #[.val (.ref a1), .val (.long (own_acc i y i)), .second, .val (.int (Int32.ofNat i)), s4] [(.ref a1), (.int (Int32.ofNat i))])) (fun _ kt => XS.aloadN X.here hx rfl (hb hby d_prog_7_method_10_code_7) rfl rfl kt) ?_
      obtain ⟨cl134, Ar134, Sz134, Ha134⟩ := id V1
      refine Rch.of (T' := T) (g' := (mkF m 9 #[.val (.ref a1), .val (.long (own_acc i y i)), .second, .val (.int (Int32.ofNat i)), s4] [(.int cl134.slots.size.toInt32), (.int (Int32.ofNat i))])) (X.arraylength hx (by rw [eT]; exact Ar134.1) (State.isArrayOf_alike hZ.alike Ar134.2.1) (g := (mkF m 8 #[.val (.ref a1), .val (.long (own_acc i y i)), .second, .val (.int (Int32.ofNat i)), s4] [(.ref a1), (.int (Int32.ofNat i))])) rfl rfl (hb hby d_prog_7_method_10_code_8)) ?_
      rw [oLen Sz134]
      show Rch p e below K T (mkF m 9 #[.val (.ref a1), .val (.long (own_acc i y i)), .second, .val (.int (Int32.ofNat i)), s4] [(.int (Int32.ofNat i)), (.int (Int32.ofNat i))])
      refine Rch.of (T' := T) (g' := (mkF m 55 #[.val (.ref a1), .val (.long (own_acc i y i)), .second, .val (.int (Int32.ofNat i)), s4] [])) (fun _ kt => XS.icmpYes X.here hx rfl (pc0 := 9) (pc' := 55) rfl (hb hby d_prog_7_method_10_code_9) rfl (flt (Int32.lt_irrefl)).2.1 (by decide) (by decide) kt) ?_
      refine Rch.of (T' := T) (g' := (mkF m 56 #[.val (.ref a1), .val (.long (own_acc i y i)), .second, .val (.int (Int32.ofNat i)), s4] [(.long (own_acc i y i))])) (fun _ kt => XS.lloadN X.here hx rfl (hb hby d_prog_7_method_10_code_55) rfl  kt) ?_
      exact Rch.retJ X hx hret hlk (hb hby d_prog_7_method_10_code_56) (fun U hU hF => hK _ U _ _ _ (by show Q_rm3 Z a1 i y t tab h0 n0 _ U.heap _; rw [hU, eT]; exact ⟨rfl, N, rfl⟩) hF (by decide) (by decide))
    | succ k ih =>
      intro i hk T locs X eT N s4 hs4
      have hin : i < n := by omega
      refine Rch.of (T' := T) (g' := (mkF m 7 #[.val (.ref a1), .val (.long (own_acc n y i)), .second, .val (.int (Int32.ofNat i)), s4] [(.int (Int32.ofNat i))])) (fun _ kt => XS.iloadN X.here hx rfl (hb hby d_prog_7_method_10_code_6) rfl  kt) ?_
      refine Rch.of (T' := T) (g' := (mkF m 8 #[.val (.ref a1), .val (.long (own_acc n y i)), .second, .val (.int (Int32.ofNat i)), s4] [(.ref a1), (.int (Int32.ofNat i))])) (fun _ kt => XS.aloadN X.here hx rfl (hb hby d_prog_7_method_10_code_7) rfl rfl kt) ?_
      obtain ⟨cl135, Ar135, Sz135, Ha135⟩ := id V1
      refine Rch.of (T' := T) (g' := (mkF m 9 #[.val (.ref a1), .val (.long (own_acc n y i)), .second, .val (.int (Int32.ofNat i)), s4] [(.int cl135.slots.size.toInt32), (.int (Int32.ofNat i))])) (X.arraylength hx (by rw [eT]; exact Ar135.1) (State.isArrayOf_alike hZ.alike Ar135.2.1) (g := (mkF m 8 #[.val (.ref a1), .val (.long (own_acc n y i)), .second, .val (.int (Int32.ofNat i)), s4] [(.ref a1), (.int (Int32.ofNat i))])) rfl rfl (hb hby d_prog_7_method_10_code_8)) ?_
      rw [oLen Sz135]
      show Rch p e below K T (mkF m 9 #[.val (.ref a1), .val (.long (own_acc n y i)), .second, .val (.int (Int32.ofNat i)), s4] [(.int (Int32.ofNat n)), (.int (Int32.ofNat i))])
      refine Rch.of (T' := T) (g' := (mkF m 12 #[.val (.ref a1), .val (.long (own_acc n y i)), .second, .val (.int (Int32.ofNat i)), s4] [])) (fun _ kt => XS.icmpNo X.here hx rfl (hb hby d_prog_7_method_10_code_9) rfl (tlt (own_olt hin (by omega))).2.1 kt) ?_
      refine Rch.of (T' := T) (g' := (mkF m 13 #[.val (.ref a1), .val (.long (own_acc n y i)), .second, .val (.int (Int32.ofNat i)), s4] [(.ref a1)])) (fun _ kt => XS.aloadN X.here hx rfl (hb hby d_prog_7_method_10_code_12) rfl rfl kt) ?_
      refine Rch.of (T' := T) (g' := (mkF m 14 #[.val (.ref a1), .val (.long (own_acc n y i)), .second, .val (.int (Int32.ofNat i)), s4] [(.int (Int32.ofNat i)), (.ref a1)])) (fun _ kt => XS.iloadN X.here hx rfl (hb hby d_prog_7_method_10_code_13) rfl  kt) ?_
      obtain ⟨cl136, Ar136, Sz136, Ha136⟩ := id V1
      refine Rch.of (T' := T) (g' := (mkF m 15 #[.val (.ref a1), .val (.long (own_acc n y i)), .second, .val (.int (Int32.ofNat i)), s4] [(.int (y i))])) (X.baloadBytes hx (j := (Int32.ofNat i)) (v := (.int (y i))) (by rw [eT]; exact Ar136.1) (State.isArrayOf_alike hZ.alike Ar136.2.1) Ar136.2.2 (oIn (i := i) Sz136 (oTo (by omega)) hin) (oAt (i := i) Ha136 (oTo (by omega)) hin) (g := (mkF m 14 #[.val (.ref a1), .val (.long (own_acc n y i)), .second, .val (.int (Int32.ofNat i)), s4] [(.int (Int32.ofNat i)), (.ref a1)])) rfl rfl (hb hby d_prog_7_method_10_code_14)) ?_
      refine Rch.of (T' := T) (g' := (mkF m 17 #[.val (.ref a1), .val (.long (own_acc n y i)), .second, .val (.int (Int32.ofNat i)), .val (.int (y i))] [])) (fun _ kt => XS.istore X.here hx rfl (hb hby d_prog_7_method_10_code_15) rfl (l' := #[.val (.ref a1), .val (.long (own_acc n y i)), .second, .val (.int (Int32.ofNat i)), .val (.int (y i))]) (by rcases hs4 with rfl | ⟨w', rfl, hw'⟩ <;> first | rfl | (cases w' <;> first | rfl | (simp [Value.category] at hw'))) kt) ?_
      refine Rch.of (T' := T) (g' := (mkF m 19 #[.val (.ref a1), .val (.long (own_acc n y i)), .second, .val (.int (Int32.ofNat i)), .val (.int (y i))] [(.int (y i))])) (fun _ kt => XS.iload X.here hx rfl (hb hby d_prog_7_method_10_code_17) rfl  kt) ?_
      by_cases c137 : (y i) < (0 : Int32)
      · skip
        refine Rch.of (T' := T) (g' := (mkF m 35 #[.val (.ref a1), .val (.long (own_acc n y i)), .second, .val (.int (Int32.ofNat i)), .val (.int (y i))] [])) (fun _ kt => XS.ifYes X.here hx rfl (pc0 := 19) (pc' := 35) rfl (hb hby d_prog_7_method_10_code_19) rfl ((if0 _ _).trans (tlt c137).1) (by decide) (by decide) kt) ?_
        have hneg : (y i).toInt < 0 := by have q := c137; rw [Int32.lt_iff_toInt_lt] at q; simpa using q
        refine Rch.of (T' := T) (g' := (mkF m 36 #[.val (.ref a1), .val (.long (own_acc n y i)), .second, .val (.int (Int32.ofNat i)), .val (.int (y i))] [(.ref a1)])) (fun _ kt => XS.aloadN X.here hx rfl (hb hby d_prog_7_method_10_code_35) rfl rfl kt) ?_
        refine Rch.of (T' := T) (g' := (mkF m 37 #[.val (.ref a1), .val (.long (own_acc n y i)), .second, .val (.int (Int32.ofNat i)), .val (.int (y i))] [(.int (Int32.ofNat i)), (.ref a1)])) (fun _ kt => XS.iloadN X.here hx rfl (hb hby d_prog_7_method_10_code_36) rfl  kt) ?_
        obtain ⟨_, _, ⟨T138, L138, k138, n138⟩, -, X138, ⟨Lc138, hQ138, l138, y138, z138⟩, st138⟩ := Jvm.LawKit.callS X hx (y := (⟨"com/example/kept_till_acked/kepttillacked/api/JsonOut", "isSeparator", "([BI)Z"⟩ : MethodName)) hown (mvT hZ (hw _ (List.mem_of_getElem? (i := 13) rfl))) (mvT hZ (hw _ (List.mem_of_getElem? (i := 14) rfl))) (mvT hZ (hw _ (List.mem_of_getElem? (i := 11) rfl))) (mvT hZ (hw _ (List.mem_of_getElem? (i := 15) rfl))) (by decide) (backOf (W := 0) (rm4 l Z a0 hw [] a1 (Int32.ofNat i) n y i h0 n0 Z0 V1 hn (oTo (by omega)) hin) hZ (hw _ (List.mem_of_getElem? (i := 15) rfl)) (hw _ (List.mem_of_getElem? (i := 11) rfl)) (by decide) (by decide)) (g := (mkF m 37 #[.val (.ref a1), .val (.long (own_acc n y i)), .second, .val (.int (Int32.ofNat i)), .val (.int (y i))] [(.int (Int32.ofNat i)), (.ref a1)])) rfl (by rw [hml]; rfl) (argsL := [(.ref a1), (.int (Int32.ofNat i))]) (rest := []) (lenOf pd_3 rfl) rfl (by show 2 * 0 + _ ≤ _; exact Nat.le_of_eq rfl) (hb hby d_prog_7_method_10_code_37) (fun _ _ => ⟨rfl, eT, (by decide : 0 + 0 ≤ _), (by decide : 0 + 0 ≤ _)⟩)
        dsimp only [Pt.U, Pt.locs, Pt.cells, Pt.slots] at X138 l138 y138 z138 st138 hQ138
        subst l138 y138 z138
        obtain ⟨rfl, N138q, hQ138⟩ := hQ138
        have N138 := Fr.app N N138q
        refine Rch.of (T' := T138) (g' := (mkF m 40 #[.val (.ref a1), .val (.long (own_acc n y i)), .second, .val (.int (Int32.ofNat i)), .val (.int (y i))] [(.int (ob (own_sep n y i)))])) st138 ?_
        by_cases c139 : (ob (own_sep n y i)) = (0 : Int32)
        · skip
          refine Rch.of (T' := T138) (g' := (mkF m 49 #[.val (.ref a1), .val (.long (own_acc n y i)), .second, .val (.int (Int32.ofNat i)), .val (.int (y i))] [])) (fun _ kt => XS.ifYes X138.here hx rfl (pc0 := 40) (pc' := 49) rfl (hb hby d_prog_7_method_10_code_40) rfl ((if0 _ _).trans (teq c139).1) (by decide) (by decide) kt) ?_
          have hsp : ¬ own_sep n y i := by
            rcases ob_cases (own_sep n y i) with ⟨q, q'⟩ | ⟨q, q'⟩
            · rw [q] at c139; exact absurd c139 (by decide)
            · exact q'
          refine Rch.of (T' := T138) (g' := (mkF m 52 #[.val (.ref a1), .val (.long (own_acc n y i)), .second, .val (.int ((Int32.ofNat i) + (1 : Int32))), .val (.int (y i))] [])) (fun _ kt => XS.iinc X138.here hx rfl (hb hby d_prog_7_method_10_code_49) rfl (l' := #[.val (.ref a1), .val (.long (own_acc n y i)), .second, .val (.int ((Int32.ofNat i) + (1 : Int32))), .val (.int (y i))]) rfl kt) ?_
          refine Rch.of (T' := T138) (g' := (mkF m 6 #[.val (.ref a1), .val (.long (own_acc n y i)), .second, .val (.int ((Int32.ofNat i) + (1 : Int32))), .val (.int (y i))] [])) (fun _ kt => XS.goto X138.here hx rfl (pc0 := 52) (pc' := 6) rfl (hb hby d_prog_7_method_10_code_52) (by decide) (by decide) kt) ?_
          rw [show (own_acc n y i) = own_acc n y (i + 1) from by rw [own_acc, own_neg hy hin hneg, if_neg hsp]; simp, own_one i]
          exact ih (i + 1) (by omega) T138 _ X138 hQ138 N138 _ (One.val rfl)
        · skip
          refine Rch.of (T' := T138) (g' := (mkF m 43 #[.val (.ref a1), .val (.long (own_acc n y i)), .second, .val (.int (Int32.ofNat i)), .val (.int (y i))] [])) (fun _ kt => XS.ifNo X138.here hx rfl (hb hby d_prog_7_method_10_code_40) rfl ((if0 _ _).trans (feq c139).1) kt) ?_
          have hsp : own_sep n y i := by
            rcases ob_cases (own_sep n y i) with ⟨q, q'⟩ | ⟨q, q'⟩
            · exact q'
            · exact absurd q c139
          refine Rch.of (T' := T138) (g' := (mkF m 44 #[.val (.ref a1), .val (.long (own_acc n y i)), .second, .val (.int (Int32.ofNat i)), .val (.int (y i))] [(.long (own_acc n y i))])) (fun _ kt => XS.lloadN X138.here hx rfl (hb hby d_prog_7_method_10_code_43) rfl  kt) ?_
          refine Rch.of (T' := T138) (g' := (mkF m 47 #[.val (.ref a1), .val (.long (own_acc n y i)), .second, .val (.int (Int32.ofNat i)), .val (.int (y i))] [(.long (3 : Int64)), (.long (own_acc n y i))])) (X138.ldc2Long hx hown (mvT hZ (hw _ (List.mem_of_getElem? (i := 18) rfl))) (g := (mkF m 44 #[.val (.ref a1), .val (.long (own_acc n y i)), .second, .val (.int (Int32.ofNat i)), .val (.int (y i))] [(.long (own_acc n y i))])) rfl (hb hby d_prog_7_method_10_code_44)) ?_
          refine Rch.of (T' := T138) (g' := (mkF m 48 #[.val (.ref a1), .val (.long (own_acc n y i)), .second, .val (.int (Int32.ofNat i)), .val (.int (y i))] [(.long ((own_acc n y i) + (3 : Int64)))])) (fun _ kt => XS.ladd X138.here hx rfl (hb hby d_prog_7_method_10_code_47) rfl kt) ?_
          refine Rch.of (T' := T138) (g' := (mkF m 49 #[.val (.ref a1), .val (.long ((own_acc n y i) + (3 : Int64))), .second, .val (.int (Int32.ofNat i)), .val (.int (y i))] [])) (fun _ kt => XS.lstoreN X138.here hx rfl (hb hby d_prog_7_method_10_code_48) rfl (l' := #[.val (.ref a1), .val (.long ((own_acc n y i) + (3 : Int64))), .second, .val (.int (Int32.ofNat i)), .val (.int (y i))]) rfl kt) ?_
          refine Rch.of (T' := T138) (g' := (mkF m 52 #[.val (.ref a1), .val (.long ((own_acc n y i) + (3 : Int64))), .second, .val (.int ((Int32.ofNat i) + (1 : Int32))), .val (.int (y i))] [])) (fun _ kt => XS.iinc X138.here hx rfl (hb hby d_prog_7_method_10_code_49) rfl (l' := #[.val (.ref a1), .val (.long ((own_acc n y i) + (3 : Int64))), .second, .val (.int ((Int32.ofNat i) + (1 : Int32))), .val (.int (y i))]) rfl kt) ?_
          refine Rch.of (T' := T138) (g' := (mkF m 6 #[.val (.ref a1), .val (.long ((own_acc n y i) + (3 : Int64))), .second, .val (.int ((Int32.ofNat i) + (1 : Int32))), .val (.int (y i))] [])) (fun _ kt => XS.goto X138.here hx rfl (pc0 := 52) (pc' := 6) rfl (hb hby d_prog_7_method_10_code_52) (by decide) (by decide) kt) ?_
          rw [show ((own_acc n y i) + (3 : Int64)) = own_acc n y (i + 1) from by rw [own_acc, own_neg hy hin hneg, if_pos hsp]; rfl, own_one i]
          exact ih (i + 1) (by omega) T138 _ X138 hQ138 N138 _ (One.val rfl)
      · skip
        refine Rch.of (T' := T) (g' := (mkF m 22 #[.val (.ref a1), .val (.long (own_acc n y i)), .second, .val (.int (Int32.ofNat i)), .val (.int (y i))] [])) (fun _ kt => XS.ifNo X.here hx rfl (hb hby d_prog_7_method_10_code_19) rfl ((if0 _ _).trans (flt c137).1) kt) ?_
        have hpos : 0 ≤ (y i).toInt := by have q := c137; rw [Int32.lt_iff_toInt_lt] at q; have q0 : (0 : Int32).toInt = 0 := rfl; omega
        have hlt : (y i).toInt < 128 := (hy i hin).2
        refine Rch.of (T' := T) (g' := (mkF m 23 #[.val (.ref a1), .val (.long (own_acc n y i)), .second, .val (.int (Int32.ofNat i)), .val (.int (y i))] [(.long (own_acc n y i))])) (fun _ kt => XS.lloadN X.here hx rfl (hb hby d_prog_7_method_10_code_22) rfl  kt) ?_
        obtain ⟨T140, X140, e140, st140⟩ := getS2 X hx hZ hown (host := "") (Or.inl (hw _ (List.mem_of_getElem? (i := 16) rfl))) Via.refl eT S1 (g := (mkF m 23 #[.val (.ref a1), .val (.long (own_acc n y i)), .second, .val (.int (Int32.ofNat i)), .val (.int (y i))] [(.long (own_acc n y i))])) rfl (hb hby d_prog_7_method_10_code_23)
        refine Rch.of (T' := T140) (g' := (mkF m 26 #[.val (.ref a1), .val (.long (own_acc n y i)), .second, .val (.int (Int32.ofNat i)), .val (.int (y i))] [(.ref t), (.long (own_acc n y i))])) st140 ?_
        refine Rch.of (T' := T140) (g' := (mkF m 28 #[.val (.ref a1), .val (.long (own_acc n y i)), .second, .val (.int (Int32.ofNat i)), .val (.int (y i))] [(.int (y i)), (.ref t), (.long (own_acc n y i))])) (fun _ kt => XS.iload X140.here hx rfl (hb hby d_prog_7_method_10_code_26) rfl  kt) ?_
        obtain ⟨cl141, Ar141, Sz141, Ha141⟩ := id V2
        refine Rch.of (T' := T140) (g' := (mkF m 29 #[.val (.ref a1), .val (.long (own_acc n y i)), .second, .val (.int (Int32.ofNat i)), .val (.int (y i))] [(.int (tab (y i).toInt.toNat)), (.long (own_acc n y i))])) (X140.baloadBytes hx (j := (y i)) (v := (.int (tab (y i).toInt.toNat))) (by rw [e140]; exact Ar141.1) (State.isArrayOf_alike hZ.alike Ar141.2.1) Ar141.2.2 (oIn (i := (y i).toInt.toNat) Sz141 (by omega) (by omega)) (oAt (i := (y i).toInt.toNat) Ha141 (by omega) (by omega)) (g := (mkF m 28 #[.val (.ref a1), .val (.long (own_acc n y i)), .second, .val (.int (Int32.ofNat i)), .val (.int (y i))] [(.int (y i)), (.ref t), (.long (own_acc n y i))])) rfl rfl (hb hby d_prog_7_method_10_code_28)) ?_
        refine Rch.of (T' := T140) (g' := (mkF m 30 #[.val (.ref a1), .val (.long (own_acc n y i)), .second, .val (.int (Int32.ofNat i)), .val (.int (y i))] [(.long ((tab (y i).toInt.toNat).toInt64)), (.long (own_acc n y i))])) (fun _ kt => XS.i2l X140.here hx rfl (hb hby d_prog_7_method_10_code_29) rfl kt) ?_
        refine Rch.of (T' := T140) (g' := (mkF m 31 #[.val (.ref a1), .val (.long (own_acc n y i)), .second, .val (.int (Int32.ofNat i)), .val (.int (y i))] [(.long ((own_acc n y i) + ((tab (y i).toInt.toNat).toInt64)))])) (fun _ kt => XS.ladd X140.here hx rfl (hb hby d_prog_7_method_10_code_30) rfl kt) ?_
        refine Rch.of (T' := T140) (g' := (mkF m 32 #[.val (.ref a1), .val (.long ((own_acc n y i) + ((tab (y i).toInt.toNat).toInt64))), .second, .val (.int (Int32.ofNat i)), .val (.int (y i))] [])) (fun _ kt => XS.lstoreN X140.here hx rfl (hb hby d_prog_7_method_10_code_31) rfl (l' := #[.val (.ref a1), .val (.long ((own_acc n y i) + ((tab (y i).toInt.toNat).toInt64))), .second, .val (.int (Int32.ofNat i)), .val (.int (y i))]) rfl kt) ?_
        refine Rch.of (T' := T140) (g' := (mkF m 49 #[.val (.ref a1), .val (.long ((own_acc n y i) + ((tab (y i).toInt.toNat).toInt64))), .second, .val (.int (Int32.ofNat i)), .val (.int (y i))] [])) (fun _ kt => XS.goto X140.here hx rfl (pc0 := 32) (pc' := 49) rfl (hb hby d_prog_7_method_10_code_32) (by decide) (by decide) kt) ?_
        refine Rch.of (T' := T140) (g' := (mkF m 52 #[.val (.ref a1), .val (.long ((own_acc n y i) + ((tab (y i).toInt.toNat).toInt64))), .second, .val (.int ((Int32.ofNat i) + (1 : Int32))), .val (.int (y i))] [])) (fun _ kt => XS.iinc X140.here hx rfl (hb hby d_prog_7_method_10_code_49) rfl (l' := #[.val (.ref a1), .val (.long ((own_acc n y i) + ((tab (y i).toInt.toNat).toInt64))), .second, .val (.int ((Int32.ofNat i) + (1 : Int32))), .val (.int (y i))]) rfl kt) ?_
        refine Rch.of (T' := T140) (g' := (mkF m 6 #[.val (.ref a1), .val (.long ((own_acc n y i) + ((tab (y i).toInt.toNat).toInt64))), .second, .val (.int ((Int32.ofNat i) + (1 : Int32))), .val (.int (y i))] [])) (fun _ kt => XS.goto X140.here hx rfl (pc0 := 52) (pc' := 6) rfl (hb hby d_prog_7_method_10_code_52) (by decide) (by decide) kt) ?_
        rw [show ((own_acc n y i) + ((tab (y i).toInt.toNat).toInt64)) = own_acc n y (i + 1) from by rw [own_acc, hE _ (by omega), own_pos hin hpos hlt], own_one i]
        exact ih (i + 1) (by omega) T140 _ X140 e140 N _ (One.val rfl)
  refine Rch.of (T' := T0) (g' := (mkF m 1 #[.val (.ref a1), .unset, .unset, .unset, .unset] [(.ref a1)])) (fun _ kt => XS.aloadN X0.here hx rfl (hb hby d_prog_7_method_10_code_0) rfl rfl kt) ?_
  obtain ⟨cl142, Ar142, Sz142, Ha142⟩ := id V1
  refine Rch.of (T' := T0) (g' := (mkF m 2 #[.val (.ref a1), .unset, .unset, .unset, .unset] [(.int cl142.slots.size.toInt32)])) (X0.arraylength hx (by rw [e0]; exact Ar142.1) (State.isArrayOf_alike hZ.alike Ar142.2.1) (g := (mkF m 1 #[.val (.ref a1), .unset, .unset, .unset, .unset] [(.ref a1)])) rfl rfl (hb hby d_prog_7_method_10_code_1)) ?_
  rw [oLen Sz142]
  show Rch p e below K T0 (mkF m 2 #[.val (.ref a1), .unset, .unset, .unset, .unset] [(.int (Int32.ofNat n))])
  refine Rch.of (T' := T0) (g' := (mkF m 3 #[.val (.ref a1), .unset, .unset, .unset, .unset] [(.long ((Int32.ofNat n).toInt64))])) (fun _ kt => XS.i2l X0.here hx rfl (hb hby d_prog_7_method_10_code_2) rfl kt) ?_
  refine Rch.of (T' := T0) (g' := (mkF m 4 #[.val (.ref a1), .val (.long ((Int32.ofNat n).toInt64)), .second, .unset, .unset] [])) (fun _ kt => XS.lstoreN X0.here hx rfl (hb hby d_prog_7_method_10_code_3) rfl (l' := #[.val (.ref a1), .val (.long ((Int32.ofNat n).toInt64)), .second, .unset, .unset]) rfl kt) ?_
  refine Rch.of (T' := T0) (g' := (mkF m 5 #[.val (.ref a1), .val (.long ((Int32.ofNat n).toInt64)), .second, .unset, .unset] [(.int (0 : Int32))])) (fun _ kt => XS.iconst X0.here hx rfl (hb hby d_prog_7_method_10_code_4) kt) ?_
  refine Rch.of (T' := T0) (g' := (mkF m 6 #[.val (.ref a1), .val (.long ((Int32.ofNat n).toInt64)), .second, .val (.int (0 : Int32)), .unset] [])) (fun _ kt => XS.istoreN X0.here hx rfl (hb hby d_prog_7_method_10_code_5) rfl (l' := #[.val (.ref a1), .val (.long ((Int32.ofNat n).toInt64)), .second, .val (.int (0 : Int32)), .unset]) rfl kt) ?_
  exact loop n 0 (by omega) T0 _ X0 e0 N0 _ One.u
theorem own_len (x : Int32) : ∃ n : Nat, ((x &&& (2147483647 : Int32)) % (9 : Int32)).toInt = (n : Int) ∧ n ≤ 8 := by
  have h1 := c_and x (2147483647 : Int32) (by decide)
  have h2 := (c_irem (x &&& (2147483647 : Int32)) (9 : Int32) 9 (by decide)).1 h1.1
  exact ⟨((x &&& (2147483647 : Int32)) % (9 : Int32)).toInt.toNat, by omega, by omega⟩
theorem own_three (x : Int32) : ∃ n : Nat, (((x.toUInt32 >>> ((1 : Int32) &&& 31).toUInt32).toInt32) &&& (7 : Int32)).toInt = (n : Int) ∧ n < 8 := by
  have h1 := c_and ((x.toUInt32 >>> ((1 : Int32) &&& 31).toUInt32).toInt32) (7 : Int32) (by decide)
  have h2 : (7 : Int32).toInt = 7 := by decide
  exact ⟨((((x.toUInt32 >>> ((1 : Int32) &&& 31).toUInt32).toInt32) &&& (7 : Int32)).toInt).toNat, by omega, by omega⟩
theorem ef_rm0 (m : MethodId) (p0 : Int64) (p1 : Int32) (p2 : Int32) : entryFrame m #[(.long p0), (.int p1), (.int p2)] maxLocals = mkF m 0 #[.val (.long p0), .second, .val (.int p1), .val (.int p2), .unset, .unset, .unset, .unset] [] := by first | (simp [entryFrame, mkF, argsToLocals, Value.category, maxLocals]; done) | rfl
def Q_rm0 (Z : State) (p0 : Int64) (p1 : Int32) (p2 : Int32) (t : Addr) (tab : Nat → Int32) (h0 : Heap) (n0 : Nat) (vv_ : Option Value) (h : Heap) (LL_ : List Loc) : Prop := vv_ = some (.int 1) ∧ Fr n0 LL_ ∧ (True)
set_option maxRecDepth 65536 in
set_option maxHeartbeats 40000000 in
theorem rm0 (l : Launch) (Z : State) (a0 : Array Value) (hw : ∀ d ∈ tables_1, d.before a0 Z = true) (ws : List Jvm.Cond) (p0 : Int64) (p1 : Int32) (p2 : Int32) (t : Addr) (tab : Nat → Int32) (h0 : Heap) (n0 : Nat) (Z0 : n0 ≤ h0.size) (O0 : Old Z n0 h0) (S1 : Sta Z Z.heap "com/example/kept_till_acked/kepttillacked/api/JsonOut" "ESCAPES" "[B" (.ref t)) (Vt : Av Z Z.heap t .byte 128 (fun q => .int (tab q))) (hE : ∀ q, q < 128 → tab q = own_esc q) :
    MetFree l x (head1 (Jvm.Cond.code x code maxLocals ret :: ws) room_1) (fun aa_ UU_ => aa_ = #[(.long p0), (.int p1), (.int p2)] ∧ Z.Warmed39 UU_.vm ∧ UU_.heap = h0) (fun _ _ _ _ _ => True) (fun _ UU_ oo_ VV_ => ∃ vv_ LL_, oo_ = .returned vv_ ∧ Q_rm0 Z p0 p1 p2 t tab h0 n0 vv_ VV_.heap LL_ ∧ FrameEnd UU_ oo_ VV_ LL_ room_1.cells room_1.slots) := by
  refine own_met (y := x) (plainFor_of_name pn_0) ?_
  intro p e s m below meth c T0 K hx hby hml hret hlk hown hnm hZ X0 e0 hK
  have N0 := Fr.nil n0
  refine Rch.cast (ef_rm0 m p0 p1 p2) ?_
  obtain ⟨n, hk, hn⟩ : ∃ n : Nat, ((p1 &&& (2147483647 : Int32)) % (9 : Int32)).toInt = (n : Int) ∧ n ≤ 8 := own_len p1
  refine Rch.of (T' := T0) (g' := (mkF m 1 #[.val (.long p0), .second, .val (.int p1), .val (.int p2), .unset, .unset, .unset, .unset] [(.int p1)])) (fun _ kt => XS.iloadN X0.here hx rfl (hb hby at_0) rfl  kt) ?_
  refine Rch.of (T' := T0) (g' := (mkF m 3 #[.val (.long p0), .second, .val (.int p1), .val (.int p2), .unset, .unset, .unset, .unset] [(.int (2147483647 : Int32)), (.int p1)])) (X0.ldcInt hx hown (mvT hZ (hw _ (List.mem_of_getElem? (i := 0) rfl))) (g := (mkF m 1 #[.val (.long p0), .second, .val (.int p1), .val (.int p2), .unset, .unset, .unset, .unset] [(.int p1)])) rfl (hb hby at_1)) ?_
  refine Rch.of (T' := T0) (g' := (mkF m 4 #[.val (.long p0), .second, .val (.int p1), .val (.int p2), .unset, .unset, .unset, .unset] [(.int (p1 &&& (2147483647 : Int32)))])) (fun _ kt => XS.iand X0.here hx rfl (hb hby at_3) rfl kt) ?_
  refine Rch.of (T' := T0) (g' := (mkF m 6 #[.val (.long p0), .second, .val (.int p1), .val (.int p2), .unset, .unset, .unset, .unset] [(.int (9 : Int32)), (.int (p1 &&& (2147483647 : Int32)))])) (fun _ kt => XS.bipush X0.here hx rfl (hb hby at_4) kt) ?_
  refine Rch.of (T' := T0) (g' := (mkF m 7 #[.val (.long p0), .second, .val (.int p1), .val (.int p2), .unset, .unset, .unset, .unset] [(.int ((p1 &&& (2147483647 : Int32)) % (9 : Int32)))])) (fun _ kt => iremM X0 hx rfl (hb hby at_6) rfl (by decide) kt) ?_
  refine Rch.of (T' := T0) (g' := (mkF m 9 #[.val (.long p0), .second, .val (.int p1), .val (.int p2), .val (.int ((p1 &&& (2147483647 : Int32)) % (9 : Int32))), .unset, .unset, .unset] [])) (fun _ kt => XS.istore X0.here hx rfl (hb hby at_7) rfl (l' := #[.val (.long p0), .second, .val (.int p1), .val (.int p2), .val (.int ((p1 &&& (2147483647 : Int32)) % (9 : Int32))), .unset, .unset, .unset]) rfl kt) ?_
  refine Rch.of (T' := T0) (g' := (mkF m 11 #[.val (.long p0), .second, .val (.int p1), .val (.int p2), .val (.int ((p1 &&& (2147483647 : Int32)) % (9 : Int32))), .unset, .unset, .unset] [(.int ((p1 &&& (2147483647 : Int32)) % (9 : Int32)))])) (fun _ kt => XS.iload X0.here hx rfl (hb hby at_9) rfl  kt) ?_
  obtain ⟨T143, h143, k143, X143, e143, E143, A143, Q143, st143⟩ := newPE X0 hx hZ (hw _ (List.mem_of_getElem? (i := 1) rfl)) e0 (g := (mkF m 11 #[.val (.long p0), .second, .val (.int p1), .val (.int p2), .val (.int ((p1 &&& (2147483647 : Int32)) % (9 : Int32))), .unset, .unset, .unset] [(.int ((p1 &&& (2147483647 : Int32)) % (9 : Int32)))])) rfl (hb hby at_11) rfl (oNn hk) (cap := 8) (by rw [oNat hk]; omega) (by decide) (by decide) (by decide) (ad := "[B") rfl
  obtain ⟨b143, g143⟩ : ∃ zz_, zz_ = h0.size := ⟨_, rfl⟩
  have ne_t_b143 : t ≠ b143 := Nat.ne_of_lt (Nat.lt_of_lt_of_le (Vt.ext O0.2).lt (Nat.le_of_eq g143.symm))
  have ge_b143 : n0 ≤ b143 := Nat.le_trans Z0 (Nat.le_of_eq g143.symm)
  have sz_b143 : h0.size ≤ b143 := Nat.le_trans (Keep.refl h0 []).1 (Nat.le_of_eq g143.symm)
  rw [← g143] at A143 Q143 st143
  have V143 : Av Z h143 b143 .byte n (fun _ => (.int (0 : Int32))) := Av.new A143 hk
  refine Rch.of (T' := T143) (g' := (mkF m 13 #[.val (.long p0), .second, .val (.int p1), .val (.int p2), .val (.int ((p1 &&& (2147483647 : Int32)) % (9 : Int32))), .unset, .unset, .unset] [(.ref b143)])) st143 ?_
  refine Rch.of (T' := T143) (g' := (mkF m 15 #[.val (.long p0), .second, .val (.int p1), .val (.int p2), .val (.int ((p1 &&& (2147483647 : Int32)) % (9 : Int32))), .val (.ref b143), .unset, .unset] [])) (fun _ kt => XS.astore X143.here hx rfl (hb hby at_13) rfl rfl (l' := #[.val (.long p0), .second, .val (.int p1), .val (.int p2), .val (.int ((p1 &&& (2147483647 : Int32)) % (9 : Int32))), .val (.ref b143), .unset, .unset]) rfl kt) ?_
  have B0 : own_by n (fun _ => (0 : Int32)) := fun _ _ => by simp
  refine Rch.of (T' := T143) (g' := (mkF m 17 #[.val (.long p0), .second, .val (.int p1), .val (.int p2), .val (.int ((p1 &&& (2147483647 : Int32)) % (9 : Int32))), .val (.ref b143), .unset, .unset] [(.ref b143)])) (fun _ kt => XS.aload X143.here hx rfl (hb hby at_15) rfl rfl kt) ?_
  refine Rch.of (T' := T143) (g' := (mkF m 18 #[.val (.long p0), .second, .val (.int p1), .val (.int p2), .val (.int ((p1 &&& (2147483647 : Int32)) % (9 : Int32))), .val (.ref b143), .unset, .unset] [(.int (0 : Int32)), (.ref b143)])) (fun _ kt => XS.iconst X143.here hx rfl (hb hby at_17) kt) ?_
  refine Rch.of (T' := T143) (g' := (mkF m 19 #[.val (.long p0), .second, .val (.int p1), .val (.int p2), .val (.int ((p1 &&& (2147483647 : Int32)) % (9 : Int32))), .val (.ref b143), .unset, .unset] [(.long p0), (.int (0 : Int32)), (.ref b143)])) (fun _ kt => XS.lloadN X143.here hx rfl (hb hby at_18) rfl  kt) ?_
  refine Rch.of (T' := T143) (g' := (mkF m 20 #[.val (.long p0), .second, .val (.int p1), .val (.int p2), .val (.int ((p1 &&& (2147483647 : Int32)) % (9 : Int32))), .val (.ref b143), .unset, .unset] [(.int (p0.toInt32)), (.int (0 : Int32)), (.ref b143)])) (fun _ kt => XS.l2i X143.here hx rfl (hb hby at_19) rfl kt) ?_
  refine Rch.of (T' := T143) (g' := (mkF m 21 #[.val (.long p0), .second, .val (.int p1), .val (.int p2), .val (.int ((p1 &&& (2147483647 : Int32)) % (9 : Int32))), .val (.ref b143), .unset, .unset] [(.int ((p0.toInt32).toInt8.toInt32)), (.int (0 : Int32)), (.ref b143)])) (fun _ kt => XS.i2b X143.here hx rfl (hb hby at_20) rfl kt) ?_
  obtain ⟨_, _, ⟨T144, L144, k144, n144⟩, -, X144, ⟨Lc144, hQ144, l144, y144, z144⟩, st144⟩ := Jvm.LawKit.callS X143 hx (y := (⟨"com/example/kept_till_acked/kepttillacked/api/JsonOutEscapedLengthPinLaw", "set", "([BIB)V"⟩ : MethodName)) hown (mvT hZ (hw _ (List.mem_of_getElem? (i := 2) rfl))) (mvT hZ (hw _ (List.mem_of_getElem? (i := 3) rfl))) (mvT hZ (hw _ (List.mem_of_getElem? (i := 4) rfl))) (mvT hZ (hw _ (List.mem_of_getElem? (i := 5) rfl))) (by decide) (backOf (W := 0) (rm1 l Z a0 hw [] b143 (0 : Int32) ((p0.toInt32).toInt8.toInt32) n (fun _ => (0 : Int32)) 0 h143 n0 (Nat.le_trans Z0 E143.1) V143 ge_b143 hn (by decide) B0) hZ (hw _ (List.mem_of_getElem? (i := 5) rfl)) (hw _ (List.mem_of_getElem? (i := 4) rfl)) (by decide) (by decide)) (g := (mkF m 21 #[.val (.long p0), .second, .val (.int p1), .val (.int p2), .val (.int ((p1 &&& (2147483647 : Int32)) % (9 : Int32))), .val (.ref b143), .unset, .unset] [(.int ((p0.toInt32).toInt8.toInt32)), (.int (0 : Int32)), (.ref b143)])) rfl (by rw [hml]; rfl) (argsL := [(.ref b143), (.int (0 : Int32)), (.int ((p0.toInt32).toInt8.toInt32))]) (rest := []) (lenOf pd_0 rfl) rfl (by show 2 * 0 + _ ≤ _; exact Nat.le_of_eq rfl) (hb hby at_21) (fun _ _ => ⟨rfl, e143, (by decide : 1 + 0 ≤ _), (by decide : 8 + 0 ≤ _)⟩)
  dsimp only [Pt.U, Pt.locs, Pt.cells, Pt.slots] at X144 l144 y144 z144 st144 hQ144
  subst l144 y144 z144
  obtain ⟨rfl, N144q, hQ144⟩ := hQ144
  have N144 := Fr.app N0 N144q
  obtain ⟨K144, y144, V144, B144⟩ := hQ144
  refine Rch.of (T' := T144) (g' := (mkF m 24 #[.val (.long p0), .second, .val (.int p1), .val (.int p2), .val (.int ((p1 &&& (2147483647 : Int32)) % (9 : Int32))), .val (.ref b143), .unset, .unset] [])) st144 ?_
  refine Rch.of (T' := T144) (g' := (mkF m 26 #[.val (.long p0), .second, .val (.int p1), .val (.int p2), .val (.int ((p1 &&& (2147483647 : Int32)) % (9 : Int32))), .val (.ref b143), .unset, .unset] [(.ref b143)])) (fun _ kt => XS.aload X144.here hx rfl (hb hby at_24) rfl rfl kt) ?_
  refine Rch.of (T' := T144) (g' := (mkF m 27 #[.val (.long p0), .second, .val (.int p1), .val (.int p2), .val (.int ((p1 &&& (2147483647 : Int32)) % (9 : Int32))), .val (.ref b143), .unset, .unset] [(.int (1 : Int32)), (.ref b143)])) (fun _ kt => XS.iconst X144.here hx rfl (hb hby at_26) kt) ?_
  refine Rch.of (T' := T144) (g' := (mkF m 28 #[.val (.long p0), .second, .val (.int p1), .val (.int p2), .val (.int ((p1 &&& (2147483647 : Int32)) % (9 : Int32))), .val (.ref b143), .unset, .unset] [(.long p0), (.int (1 : Int32)), (.ref b143)])) (fun _ kt => XS.lloadN X144.here hx rfl (hb hby at_27) rfl  kt) ?_
  refine Rch.of (T' := T144) (g' := (mkF m 30 #[.val (.long p0), .second, .val (.int p1), .val (.int p2), .val (.int ((p1 &&& (2147483647 : Int32)) % (9 : Int32))), .val (.ref b143), .unset, .unset] [(.int (8 : Int32)), (.long p0), (.int (1 : Int32)), (.ref b143)])) (fun _ kt => XS.bipush X144.here hx rfl (hb hby at_28) kt) ?_
  refine Rch.of (T' := T144) (g' := (mkF m 31 #[.val (.long p0), .second, .val (.int p1), .val (.int p2), .val (.int ((p1 &&& (2147483647 : Int32)) % (9 : Int32))), .val (.ref b143), .unset, .unset] [(.long ((p0.toUInt64 >>> ((8 : Int32) &&& 0x3f).toInt64.toUInt64).toInt64)), (.int (1 : Int32)), (.ref b143)])) (fun _ kt => XS.lushr X144.here hx rfl (hb hby at_30) rfl kt) ?_
  refine Rch.of (T' := T144) (g' := (mkF m 32 #[.val (.long p0), .second, .val (.int p1), .val (.int p2), .val (.int ((p1 &&& (2147483647 : Int32)) % (9 : Int32))), .val (.ref b143), .unset, .unset] [(.int (((p0.toUInt64 >>> ((8 : Int32) &&& 0x3f).toInt64.toUInt64).toInt64).toInt32)), (.int (1 : Int32)), (.ref b143)])) (fun _ kt => XS.l2i X144.here hx rfl (hb hby at_31) rfl kt) ?_
  refine Rch.of (T' := T144) (g' := (mkF m 33 #[.val (.long p0), .second, .val (.int p1), .val (.int p2), .val (.int ((p1 &&& (2147483647 : Int32)) % (9 : Int32))), .val (.ref b143), .unset, .unset] [(.int ((((p0.toUInt64 >>> ((8 : Int32) &&& 0x3f).toInt64.toUInt64).toInt64).toInt32).toInt8.toInt32)), (.int (1 : Int32)), (.ref b143)])) (fun _ kt => XS.i2b X144.here hx rfl (hb hby at_32) rfl kt) ?_
  obtain ⟨_, _, ⟨T145, L145, k145, n145⟩, -, X145, ⟨Lc145, hQ145, l145, y145, z145⟩, st145⟩ := Jvm.LawKit.callS X144 hx (y := (⟨"com/example/kept_till_acked/kepttillacked/api/JsonOutEscapedLengthPinLaw", "set", "([BIB)V"⟩ : MethodName)) hown (mvT hZ (hw _ (List.mem_of_getElem? (i := 2) rfl))) (mvT hZ (hw _ (List.mem_of_getElem? (i := 3) rfl))) (mvT hZ (hw _ (List.mem_of_getElem? (i := 4) rfl))) (mvT hZ (hw _ (List.mem_of_getElem? (i := 5) rfl))) (by decide) (backOf (W := 0) (rm1 l Z a0 hw [] b143 (1 : Int32) ((((p0.toUInt64 >>> ((8 : Int32) &&& 0x3f).toInt64.toUInt64).toInt64).toInt32).toInt8.toInt32) n y144 1 T144.heap n0 (Nat.le_trans (Nat.le_trans Z0 E143.1) K144.1) V144 ge_b143 hn (by decide) B144) hZ (hw _ (List.mem_of_getElem? (i := 5) rfl)) (hw _ (List.mem_of_getElem? (i := 4) rfl)) (by decide) (by decide)) (g := (mkF m 33 #[.val (.long p0), .second, .val (.int p1), .val (.int p2), .val (.int ((p1 &&& (2147483647 : Int32)) % (9 : Int32))), .val (.ref b143), .unset, .unset] [(.int ((((p0.toUInt64 >>> ((8 : Int32) &&& 0x3f).toInt64.toUInt64).toInt64).toInt32).toInt8.toInt32)), (.int (1 : Int32)), (.ref b143)])) rfl (by rw [hml]; rfl) (argsL := [(.ref b143), (.int (1 : Int32)), (.int ((((p0.toUInt64 >>> ((8 : Int32) &&& 0x3f).toInt64.toUInt64).toInt64).toInt32).toInt8.toInt32))]) (rest := []) (lenOf pd_0 rfl) rfl (by show 2 * 0 + _ ≤ _; exact Nat.le_of_eq rfl) (hb hby at_33) (fun _ _ => ⟨rfl, rfl, (by decide : 1 + 0 ≤ _), (by decide : 8 + 0 ≤ _)⟩)
  dsimp only [Pt.U, Pt.locs, Pt.cells, Pt.slots] at X145 l145 y145 z145 st145 hQ145
  subst l145 y145 z145
  obtain ⟨rfl, N145q, hQ145⟩ := hQ145
  have N145 := Fr.app N144 N145q
  obtain ⟨K145, y145, V145, B145⟩ := hQ145
  refine Rch.of (T' := T145) (g' := (mkF m 36 #[.val (.long p0), .second, .val (.int p1), .val (.int p2), .val (.int ((p1 &&& (2147483647 : Int32)) % (9 : Int32))), .val (.ref b143), .unset, .unset] [])) st145 ?_
  refine Rch.of (T' := T145) (g' := (mkF m 38 #[.val (.long p0), .second, .val (.int p1), .val (.int p2), .val (.int ((p1 &&& (2147483647 : Int32)) % (9 : Int32))), .val (.ref b143), .unset, .unset] [(.ref b143)])) (fun _ kt => XS.aload X145.here hx rfl (hb hby at_36) rfl rfl kt) ?_
  refine Rch.of (T' := T145) (g' := (mkF m 39 #[.val (.long p0), .second, .val (.int p1), .val (.int p2), .val (.int ((p1 &&& (2147483647 : Int32)) % (9 : Int32))), .val (.ref b143), .unset, .unset] [(.int (2 : Int32)), (.ref b143)])) (fun _ kt => XS.iconst X145.here hx rfl (hb hby at_38) kt) ?_
  refine Rch.of (T' := T145) (g' := (mkF m 40 #[.val (.long p0), .second, .val (.int p1), .val (.int p2), .val (.int ((p1 &&& (2147483647 : Int32)) % (9 : Int32))), .val (.ref b143), .unset, .unset] [(.long p0), (.int (2 : Int32)), (.ref b143)])) (fun _ kt => XS.lloadN X145.here hx rfl (hb hby at_39) rfl  kt) ?_
  refine Rch.of (T' := T145) (g' := (mkF m 42 #[.val (.long p0), .second, .val (.int p1), .val (.int p2), .val (.int ((p1 &&& (2147483647 : Int32)) % (9 : Int32))), .val (.ref b143), .unset, .unset] [(.int (16 : Int32)), (.long p0), (.int (2 : Int32)), (.ref b143)])) (fun _ kt => XS.bipush X145.here hx rfl (hb hby at_40) kt) ?_
  refine Rch.of (T' := T145) (g' := (mkF m 43 #[.val (.long p0), .second, .val (.int p1), .val (.int p2), .val (.int ((p1 &&& (2147483647 : Int32)) % (9 : Int32))), .val (.ref b143), .unset, .unset] [(.long ((p0.toUInt64 >>> ((16 : Int32) &&& 0x3f).toInt64.toUInt64).toInt64)), (.int (2 : Int32)), (.ref b143)])) (fun _ kt => XS.lushr X145.here hx rfl (hb hby at_42) rfl kt) ?_
  refine Rch.of (T' := T145) (g' := (mkF m 44 #[.val (.long p0), .second, .val (.int p1), .val (.int p2), .val (.int ((p1 &&& (2147483647 : Int32)) % (9 : Int32))), .val (.ref b143), .unset, .unset] [(.int (((p0.toUInt64 >>> ((16 : Int32) &&& 0x3f).toInt64.toUInt64).toInt64).toInt32)), (.int (2 : Int32)), (.ref b143)])) (fun _ kt => XS.l2i X145.here hx rfl (hb hby at_43) rfl kt) ?_
  refine Rch.of (T' := T145) (g' := (mkF m 45 #[.val (.long p0), .second, .val (.int p1), .val (.int p2), .val (.int ((p1 &&& (2147483647 : Int32)) % (9 : Int32))), .val (.ref b143), .unset, .unset] [(.int ((((p0.toUInt64 >>> ((16 : Int32) &&& 0x3f).toInt64.toUInt64).toInt64).toInt32).toInt8.toInt32)), (.int (2 : Int32)), (.ref b143)])) (fun _ kt => XS.i2b X145.here hx rfl (hb hby at_44) rfl kt) ?_
  obtain ⟨_, _, ⟨T146, L146, k146, n146⟩, -, X146, ⟨Lc146, hQ146, l146, y146, z146⟩, st146⟩ := Jvm.LawKit.callS X145 hx (y := (⟨"com/example/kept_till_acked/kepttillacked/api/JsonOutEscapedLengthPinLaw", "set", "([BIB)V"⟩ : MethodName)) hown (mvT hZ (hw _ (List.mem_of_getElem? (i := 2) rfl))) (mvT hZ (hw _ (List.mem_of_getElem? (i := 3) rfl))) (mvT hZ (hw _ (List.mem_of_getElem? (i := 4) rfl))) (mvT hZ (hw _ (List.mem_of_getElem? (i := 5) rfl))) (by decide) (backOf (W := 0) (rm1 l Z a0 hw [] b143 (2 : Int32) ((((p0.toUInt64 >>> ((16 : Int32) &&& 0x3f).toInt64.toUInt64).toInt64).toInt32).toInt8.toInt32) n y145 2 T145.heap n0 (Nat.le_trans (Nat.le_trans (Nat.le_trans Z0 E143.1) K144.1) K145.1) V145 ge_b143 hn (by decide) B145) hZ (hw _ (List.mem_of_getElem? (i := 5) rfl)) (hw _ (List.mem_of_getElem? (i := 4) rfl)) (by decide) (by decide)) (g := (mkF m 45 #[.val (.long p0), .second, .val (.int p1), .val (.int p2), .val (.int ((p1 &&& (2147483647 : Int32)) % (9 : Int32))), .val (.ref b143), .unset, .unset] [(.int ((((p0.toUInt64 >>> ((16 : Int32) &&& 0x3f).toInt64.toUInt64).toInt64).toInt32).toInt8.toInt32)), (.int (2 : Int32)), (.ref b143)])) rfl (by rw [hml]; rfl) (argsL := [(.ref b143), (.int (2 : Int32)), (.int ((((p0.toUInt64 >>> ((16 : Int32) &&& 0x3f).toInt64.toUInt64).toInt64).toInt32).toInt8.toInt32))]) (rest := []) (lenOf pd_0 rfl) rfl (by show 2 * 0 + _ ≤ _; exact Nat.le_of_eq rfl) (hb hby at_45) (fun _ _ => ⟨rfl, rfl, (by decide : 1 + 0 ≤ _), (by decide : 8 + 0 ≤ _)⟩)
  dsimp only [Pt.U, Pt.locs, Pt.cells, Pt.slots] at X146 l146 y146 z146 st146 hQ146
  subst l146 y146 z146
  obtain ⟨rfl, N146q, hQ146⟩ := hQ146
  have N146 := Fr.app N145 N146q
  obtain ⟨K146, y146, V146, B146⟩ := hQ146
  refine Rch.of (T' := T146) (g' := (mkF m 48 #[.val (.long p0), .second, .val (.int p1), .val (.int p2), .val (.int ((p1 &&& (2147483647 : Int32)) % (9 : Int32))), .val (.ref b143), .unset, .unset] [])) st146 ?_
  refine Rch.of (T' := T146) (g' := (mkF m 50 #[.val (.long p0), .second, .val (.int p1), .val (.int p2), .val (.int ((p1 &&& (2147483647 : Int32)) % (9 : Int32))), .val (.ref b143), .unset, .unset] [(.ref b143)])) (fun _ kt => XS.aload X146.here hx rfl (hb hby at_48) rfl rfl kt) ?_
  refine Rch.of (T' := T146) (g' := (mkF m 51 #[.val (.long p0), .second, .val (.int p1), .val (.int p2), .val (.int ((p1 &&& (2147483647 : Int32)) % (9 : Int32))), .val (.ref b143), .unset, .unset] [(.int (3 : Int32)), (.ref b143)])) (fun _ kt => XS.iconst X146.here hx rfl (hb hby at_50) kt) ?_
  refine Rch.of (T' := T146) (g' := (mkF m 52 #[.val (.long p0), .second, .val (.int p1), .val (.int p2), .val (.int ((p1 &&& (2147483647 : Int32)) % (9 : Int32))), .val (.ref b143), .unset, .unset] [(.long p0), (.int (3 : Int32)), (.ref b143)])) (fun _ kt => XS.lloadN X146.here hx rfl (hb hby at_51) rfl  kt) ?_
  refine Rch.of (T' := T146) (g' := (mkF m 54 #[.val (.long p0), .second, .val (.int p1), .val (.int p2), .val (.int ((p1 &&& (2147483647 : Int32)) % (9 : Int32))), .val (.ref b143), .unset, .unset] [(.int (24 : Int32)), (.long p0), (.int (3 : Int32)), (.ref b143)])) (fun _ kt => XS.bipush X146.here hx rfl (hb hby at_52) kt) ?_
  refine Rch.of (T' := T146) (g' := (mkF m 55 #[.val (.long p0), .second, .val (.int p1), .val (.int p2), .val (.int ((p1 &&& (2147483647 : Int32)) % (9 : Int32))), .val (.ref b143), .unset, .unset] [(.long ((p0.toUInt64 >>> ((24 : Int32) &&& 0x3f).toInt64.toUInt64).toInt64)), (.int (3 : Int32)), (.ref b143)])) (fun _ kt => XS.lushr X146.here hx rfl (hb hby at_54) rfl kt) ?_
  refine Rch.of (T' := T146) (g' := (mkF m 56 #[.val (.long p0), .second, .val (.int p1), .val (.int p2), .val (.int ((p1 &&& (2147483647 : Int32)) % (9 : Int32))), .val (.ref b143), .unset, .unset] [(.int (((p0.toUInt64 >>> ((24 : Int32) &&& 0x3f).toInt64.toUInt64).toInt64).toInt32)), (.int (3 : Int32)), (.ref b143)])) (fun _ kt => XS.l2i X146.here hx rfl (hb hby at_55) rfl kt) ?_
  refine Rch.of (T' := T146) (g' := (mkF m 57 #[.val (.long p0), .second, .val (.int p1), .val (.int p2), .val (.int ((p1 &&& (2147483647 : Int32)) % (9 : Int32))), .val (.ref b143), .unset, .unset] [(.int ((((p0.toUInt64 >>> ((24 : Int32) &&& 0x3f).toInt64.toUInt64).toInt64).toInt32).toInt8.toInt32)), (.int (3 : Int32)), (.ref b143)])) (fun _ kt => XS.i2b X146.here hx rfl (hb hby at_56) rfl kt) ?_
  obtain ⟨_, _, ⟨T147, L147, k147, n147⟩, -, X147, ⟨Lc147, hQ147, l147, y147, z147⟩, st147⟩ := Jvm.LawKit.callS X146 hx (y := (⟨"com/example/kept_till_acked/kepttillacked/api/JsonOutEscapedLengthPinLaw", "set", "([BIB)V"⟩ : MethodName)) hown (mvT hZ (hw _ (List.mem_of_getElem? (i := 2) rfl))) (mvT hZ (hw _ (List.mem_of_getElem? (i := 3) rfl))) (mvT hZ (hw _ (List.mem_of_getElem? (i := 4) rfl))) (mvT hZ (hw _ (List.mem_of_getElem? (i := 5) rfl))) (by decide) (backOf (W := 0) (rm1 l Z a0 hw [] b143 (3 : Int32) ((((p0.toUInt64 >>> ((24 : Int32) &&& 0x3f).toInt64.toUInt64).toInt64).toInt32).toInt8.toInt32) n y146 3 T146.heap n0 (Nat.le_trans (Nat.le_trans (Nat.le_trans (Nat.le_trans Z0 E143.1) K144.1) K145.1) K146.1) V146 ge_b143 hn (by decide) B146) hZ (hw _ (List.mem_of_getElem? (i := 5) rfl)) (hw _ (List.mem_of_getElem? (i := 4) rfl)) (by decide) (by decide)) (g := (mkF m 57 #[.val (.long p0), .second, .val (.int p1), .val (.int p2), .val (.int ((p1 &&& (2147483647 : Int32)) % (9 : Int32))), .val (.ref b143), .unset, .unset] [(.int ((((p0.toUInt64 >>> ((24 : Int32) &&& 0x3f).toInt64.toUInt64).toInt64).toInt32).toInt8.toInt32)), (.int (3 : Int32)), (.ref b143)])) rfl (by rw [hml]; rfl) (argsL := [(.ref b143), (.int (3 : Int32)), (.int ((((p0.toUInt64 >>> ((24 : Int32) &&& 0x3f).toInt64.toUInt64).toInt64).toInt32).toInt8.toInt32))]) (rest := []) (lenOf pd_0 rfl) rfl (by show 2 * 0 + _ ≤ _; exact Nat.le_of_eq rfl) (hb hby at_57) (fun _ _ => ⟨rfl, rfl, (by decide : 1 + 0 ≤ _), (by decide : 8 + 0 ≤ _)⟩)
  dsimp only [Pt.U, Pt.locs, Pt.cells, Pt.slots] at X147 l147 y147 z147 st147 hQ147
  subst l147 y147 z147
  obtain ⟨rfl, N147q, hQ147⟩ := hQ147
  have N147 := Fr.app N146 N147q
  obtain ⟨K147, y147, V147, B147⟩ := hQ147
  have Fb148 := ((((((Vt.ext O0.2).ext E143).keep K144 (ninS ne_t_b143 nin0)).keep K145 (ninS ne_t_b143 nin0)).keep K146 (ninS ne_t_b143 nin0)).keep K147 (ninS ne_t_b143 nin0))
  have Fb149 := ((((((Keep.refl h0 []).ext E143).trans K144 (allS (Or.inr sz_b143) all0)).trans K145 (allS (Or.inr sz_b143) all0)).trans K146 (allS (Or.inr sz_b143) all0)).trans K147 (allS (Or.inr sz_b143) all0))
  refine Rch.of (T' := T147) (g' := (mkF m 60 #[.val (.long p0), .second, .val (.int p1), .val (.int p2), .val (.int ((p1 &&& (2147483647 : Int32)) % (9 : Int32))), .val (.ref b143), .unset, .unset] [])) st147 ?_
  refine Rch.of (T' := T147) (g' := (mkF m 62 #[.val (.long p0), .second, .val (.int p1), .val (.int p2), .val (.int ((p1 &&& (2147483647 : Int32)) % (9 : Int32))), .val (.ref b143), .unset, .unset] [(.ref b143)])) (fun _ kt => XS.aload X147.here hx rfl (hb hby at_60) rfl rfl kt) ?_
  refine Rch.of (T' := T147) (g' := (mkF m 63 #[.val (.long p0), .second, .val (.int p1), .val (.int p2), .val (.int ((p1 &&& (2147483647 : Int32)) % (9 : Int32))), .val (.ref b143), .unset, .unset] [(.int (4 : Int32)), (.ref b143)])) (fun _ kt => XS.iconst X147.here hx rfl (hb hby at_62) kt) ?_
  refine Rch.of (T' := T147) (g' := (mkF m 64 #[.val (.long p0), .second, .val (.int p1), .val (.int p2), .val (.int ((p1 &&& (2147483647 : Int32)) % (9 : Int32))), .val (.ref b143), .unset, .unset] [(.long p0), (.int (4 : Int32)), (.ref b143)])) (fun _ kt => XS.lloadN X147.here hx rfl (hb hby at_63) rfl  kt) ?_
  refine Rch.of (T' := T147) (g' := (mkF m 66 #[.val (.long p0), .second, .val (.int p1), .val (.int p2), .val (.int ((p1 &&& (2147483647 : Int32)) % (9 : Int32))), .val (.ref b143), .unset, .unset] [(.int (32 : Int32)), (.long p0), (.int (4 : Int32)), (.ref b143)])) (fun _ kt => XS.bipush X147.here hx rfl (hb hby at_64) kt) ?_
  refine Rch.of (T' := T147) (g' := (mkF m 67 #[.val (.long p0), .second, .val (.int p1), .val (.int p2), .val (.int ((p1 &&& (2147483647 : Int32)) % (9 : Int32))), .val (.ref b143), .unset, .unset] [(.long ((p0.toUInt64 >>> ((32 : Int32) &&& 0x3f).toInt64.toUInt64).toInt64)), (.int (4 : Int32)), (.ref b143)])) (fun _ kt => XS.lushr X147.here hx rfl (hb hby at_66) rfl kt) ?_
  refine Rch.of (T' := T147) (g' := (mkF m 68 #[.val (.long p0), .second, .val (.int p1), .val (.int p2), .val (.int ((p1 &&& (2147483647 : Int32)) % (9 : Int32))), .val (.ref b143), .unset, .unset] [(.int (((p0.toUInt64 >>> ((32 : Int32) &&& 0x3f).toInt64.toUInt64).toInt64).toInt32)), (.int (4 : Int32)), (.ref b143)])) (fun _ kt => XS.l2i X147.here hx rfl (hb hby at_67) rfl kt) ?_
  refine Rch.of (T' := T147) (g' := (mkF m 69 #[.val (.long p0), .second, .val (.int p1), .val (.int p2), .val (.int ((p1 &&& (2147483647 : Int32)) % (9 : Int32))), .val (.ref b143), .unset, .unset] [(.int ((((p0.toUInt64 >>> ((32 : Int32) &&& 0x3f).toInt64.toUInt64).toInt64).toInt32).toInt8.toInt32)), (.int (4 : Int32)), (.ref b143)])) (fun _ kt => XS.i2b X147.here hx rfl (hb hby at_68) rfl kt) ?_
  obtain ⟨_, _, ⟨T150, L150, k150, n150⟩, -, X150, ⟨Lc150, hQ150, l150, y150, z150⟩, st150⟩ := Jvm.LawKit.callS X147 hx (y := (⟨"com/example/kept_till_acked/kepttillacked/api/JsonOutEscapedLengthPinLaw", "set", "([BIB)V"⟩ : MethodName)) hown (mvT hZ (hw _ (List.mem_of_getElem? (i := 2) rfl))) (mvT hZ (hw _ (List.mem_of_getElem? (i := 3) rfl))) (mvT hZ (hw _ (List.mem_of_getElem? (i := 4) rfl))) (mvT hZ (hw _ (List.mem_of_getElem? (i := 5) rfl))) (by decide) (backOf (W := 0) (rm1 l Z a0 hw [] b143 (4 : Int32) ((((p0.toUInt64 >>> ((32 : Int32) &&& 0x3f).toInt64.toUInt64).toInt64).toInt32).toInt8.toInt32) n y147 4 T147.heap n0 (Nat.le_trans (Nat.le_trans (Nat.le_trans (Nat.le_trans (Nat.le_trans Z0 E143.1) K144.1) K145.1) K146.1) K147.1) V147 ge_b143 hn (by decide) B147) hZ (hw _ (List.mem_of_getElem? (i := 5) rfl)) (hw _ (List.mem_of_getElem? (i := 4) rfl)) (by decide) (by decide)) (g := (mkF m 69 #[.val (.long p0), .second, .val (.int p1), .val (.int p2), .val (.int ((p1 &&& (2147483647 : Int32)) % (9 : Int32))), .val (.ref b143), .unset, .unset] [(.int ((((p0.toUInt64 >>> ((32 : Int32) &&& 0x3f).toInt64.toUInt64).toInt64).toInt32).toInt8.toInt32)), (.int (4 : Int32)), (.ref b143)])) rfl (by rw [hml]; rfl) (argsL := [(.ref b143), (.int (4 : Int32)), (.int ((((p0.toUInt64 >>> ((32 : Int32) &&& 0x3f).toInt64.toUInt64).toInt64).toInt32).toInt8.toInt32))]) (rest := []) (lenOf pd_0 rfl) rfl (by show 2 * 0 + _ ≤ _; exact Nat.le_of_eq rfl) (hb hby at_69) (fun _ _ => ⟨rfl, rfl, (by decide : 1 + 0 ≤ _), (by decide : 8 + 0 ≤ _)⟩)
  dsimp only [Pt.U, Pt.locs, Pt.cells, Pt.slots] at X150 l150 y150 z150 st150 hQ150
  subst l150 y150 z150
  obtain ⟨rfl, N150q, hQ150⟩ := hQ150
  have N150 := Fr.app N147 N150q
  obtain ⟨K150, y150, V150, B150⟩ := hQ150
  have Fb151 := ((((((O0.ext E143).keep K144 (allS ge_b143 all0)).keep K145 (allS ge_b143 all0)).keep K146 (allS ge_b143 all0)).keep K147 (allS ge_b143 all0)).keep K150 (allS ge_b143 all0))
  refine Rch.of (T' := T150) (g' := (mkF m 72 #[.val (.long p0), .second, .val (.int p1), .val (.int p2), .val (.int ((p1 &&& (2147483647 : Int32)) % (9 : Int32))), .val (.ref b143), .unset, .unset] [])) st150 ?_
  refine Rch.of (T' := T150) (g' := (mkF m 74 #[.val (.long p0), .second, .val (.int p1), .val (.int p2), .val (.int ((p1 &&& (2147483647 : Int32)) % (9 : Int32))), .val (.ref b143), .unset, .unset] [(.ref b143)])) (fun _ kt => XS.aload X150.here hx rfl (hb hby at_72) rfl rfl kt) ?_
  refine Rch.of (T' := T150) (g' := (mkF m 75 #[.val (.long p0), .second, .val (.int p1), .val (.int p2), .val (.int ((p1 &&& (2147483647 : Int32)) % (9 : Int32))), .val (.ref b143), .unset, .unset] [(.int (5 : Int32)), (.ref b143)])) (fun _ kt => XS.iconst X150.here hx rfl (hb hby at_74) kt) ?_
  refine Rch.of (T' := T150) (g' := (mkF m 76 #[.val (.long p0), .second, .val (.int p1), .val (.int p2), .val (.int ((p1 &&& (2147483647 : Int32)) % (9 : Int32))), .val (.ref b143), .unset, .unset] [(.long p0), (.int (5 : Int32)), (.ref b143)])) (fun _ kt => XS.lloadN X150.here hx rfl (hb hby at_75) rfl  kt) ?_
  refine Rch.of (T' := T150) (g' := (mkF m 78 #[.val (.long p0), .second, .val (.int p1), .val (.int p2), .val (.int ((p1 &&& (2147483647 : Int32)) % (9 : Int32))), .val (.ref b143), .unset, .unset] [(.int (40 : Int32)), (.long p0), (.int (5 : Int32)), (.ref b143)])) (fun _ kt => XS.bipush X150.here hx rfl (hb hby at_76) kt) ?_
  refine Rch.of (T' := T150) (g' := (mkF m 79 #[.val (.long p0), .second, .val (.int p1), .val (.int p2), .val (.int ((p1 &&& (2147483647 : Int32)) % (9 : Int32))), .val (.ref b143), .unset, .unset] [(.long ((p0.toUInt64 >>> ((40 : Int32) &&& 0x3f).toInt64.toUInt64).toInt64)), (.int (5 : Int32)), (.ref b143)])) (fun _ kt => XS.lushr X150.here hx rfl (hb hby at_78) rfl kt) ?_
  refine Rch.of (T' := T150) (g' := (mkF m 80 #[.val (.long p0), .second, .val (.int p1), .val (.int p2), .val (.int ((p1 &&& (2147483647 : Int32)) % (9 : Int32))), .val (.ref b143), .unset, .unset] [(.int (((p0.toUInt64 >>> ((40 : Int32) &&& 0x3f).toInt64.toUInt64).toInt64).toInt32)), (.int (5 : Int32)), (.ref b143)])) (fun _ kt => XS.l2i X150.here hx rfl (hb hby at_79) rfl kt) ?_
  refine Rch.of (T' := T150) (g' := (mkF m 81 #[.val (.long p0), .second, .val (.int p1), .val (.int p2), .val (.int ((p1 &&& (2147483647 : Int32)) % (9 : Int32))), .val (.ref b143), .unset, .unset] [(.int ((((p0.toUInt64 >>> ((40 : Int32) &&& 0x3f).toInt64.toUInt64).toInt64).toInt32).toInt8.toInt32)), (.int (5 : Int32)), (.ref b143)])) (fun _ kt => XS.i2b X150.here hx rfl (hb hby at_80) rfl kt) ?_
  obtain ⟨_, _, ⟨T152, L152, k152, n152⟩, -, X152, ⟨Lc152, hQ152, l152, y152, z152⟩, st152⟩ := Jvm.LawKit.callS X150 hx (y := (⟨"com/example/kept_till_acked/kepttillacked/api/JsonOutEscapedLengthPinLaw", "set", "([BIB)V"⟩ : MethodName)) hown (mvT hZ (hw _ (List.mem_of_getElem? (i := 2) rfl))) (mvT hZ (hw _ (List.mem_of_getElem? (i := 3) rfl))) (mvT hZ (hw _ (List.mem_of_getElem? (i := 4) rfl))) (mvT hZ (hw _ (List.mem_of_getElem? (i := 5) rfl))) (by decide) (backOf (W := 0) (rm1 l Z a0 hw [] b143 (5 : Int32) ((((p0.toUInt64 >>> ((40 : Int32) &&& 0x3f).toInt64.toUInt64).toInt64).toInt32).toInt8.toInt32) n y150 5 T150.heap n0 (Nat.le_trans (Nat.le_trans (Nat.le_trans (Nat.le_trans (Nat.le_trans (Nat.le_trans Z0 E143.1) K144.1) K145.1) K146.1) K147.1) K150.1) V150 ge_b143 hn (by decide) B150) hZ (hw _ (List.mem_of_getElem? (i := 5) rfl)) (hw _ (List.mem_of_getElem? (i := 4) rfl)) (by decide) (by decide)) (g := (mkF m 81 #[.val (.long p0), .second, .val (.int p1), .val (.int p2), .val (.int ((p1 &&& (2147483647 : Int32)) % (9 : Int32))), .val (.ref b143), .unset, .unset] [(.int ((((p0.toUInt64 >>> ((40 : Int32) &&& 0x3f).toInt64.toUInt64).toInt64).toInt32).toInt8.toInt32)), (.int (5 : Int32)), (.ref b143)])) rfl (by rw [hml]; rfl) (argsL := [(.ref b143), (.int (5 : Int32)), (.int ((((p0.toUInt64 >>> ((40 : Int32) &&& 0x3f).toInt64.toUInt64).toInt64).toInt32).toInt8.toInt32))]) (rest := []) (lenOf pd_0 rfl) rfl (by show 2 * 0 + _ ≤ _; exact Nat.le_of_eq rfl) (hb hby at_81) (fun _ _ => ⟨rfl, rfl, (by decide : 1 + 0 ≤ _), (by decide : 8 + 0 ≤ _)⟩)
  dsimp only [Pt.U, Pt.locs, Pt.cells, Pt.slots] at X152 l152 y152 z152 st152 hQ152
  subst l152 y152 z152
  obtain ⟨rfl, N152q, hQ152⟩ := hQ152
  have N152 := Fr.app N150 N152q
  obtain ⟨K152, y152, V152, B152⟩ := hQ152
  refine Rch.of (T' := T152) (g' := (mkF m 84 #[.val (.long p0), .second, .val (.int p1), .val (.int p2), .val (.int ((p1 &&& (2147483647 : Int32)) % (9 : Int32))), .val (.ref b143), .unset, .unset] [])) st152 ?_
  refine Rch.of (T' := T152) (g' := (mkF m 86 #[.val (.long p0), .second, .val (.int p1), .val (.int p2), .val (.int ((p1 &&& (2147483647 : Int32)) % (9 : Int32))), .val (.ref b143), .unset, .unset] [(.ref b143)])) (fun _ kt => XS.aload X152.here hx rfl (hb hby at_84) rfl rfl kt) ?_
  refine Rch.of (T' := T152) (g' := (mkF m 88 #[.val (.long p0), .second, .val (.int p1), .val (.int p2), .val (.int ((p1 &&& (2147483647 : Int32)) % (9 : Int32))), .val (.ref b143), .unset, .unset] [(.int (6 : Int32)), (.ref b143)])) (fun _ kt => XS.bipush X152.here hx rfl (hb hby at_86) kt) ?_
  refine Rch.of (T' := T152) (g' := (mkF m 89 #[.val (.long p0), .second, .val (.int p1), .val (.int p2), .val (.int ((p1 &&& (2147483647 : Int32)) % (9 : Int32))), .val (.ref b143), .unset, .unset] [(.long p0), (.int (6 : Int32)), (.ref b143)])) (fun _ kt => XS.lloadN X152.here hx rfl (hb hby at_88) rfl  kt) ?_
  refine Rch.of (T' := T152) (g' := (mkF m 91 #[.val (.long p0), .second, .val (.int p1), .val (.int p2), .val (.int ((p1 &&& (2147483647 : Int32)) % (9 : Int32))), .val (.ref b143), .unset, .unset] [(.int (48 : Int32)), (.long p0), (.int (6 : Int32)), (.ref b143)])) (fun _ kt => XS.bipush X152.here hx rfl (hb hby at_89) kt) ?_
  refine Rch.of (T' := T152) (g' := (mkF m 92 #[.val (.long p0), .second, .val (.int p1), .val (.int p2), .val (.int ((p1 &&& (2147483647 : Int32)) % (9 : Int32))), .val (.ref b143), .unset, .unset] [(.long ((p0.toUInt64 >>> ((48 : Int32) &&& 0x3f).toInt64.toUInt64).toInt64)), (.int (6 : Int32)), (.ref b143)])) (fun _ kt => XS.lushr X152.here hx rfl (hb hby at_91) rfl kt) ?_
  refine Rch.of (T' := T152) (g' := (mkF m 93 #[.val (.long p0), .second, .val (.int p1), .val (.int p2), .val (.int ((p1 &&& (2147483647 : Int32)) % (9 : Int32))), .val (.ref b143), .unset, .unset] [(.int (((p0.toUInt64 >>> ((48 : Int32) &&& 0x3f).toInt64.toUInt64).toInt64).toInt32)), (.int (6 : Int32)), (.ref b143)])) (fun _ kt => XS.l2i X152.here hx rfl (hb hby at_92) rfl kt) ?_
  refine Rch.of (T' := T152) (g' := (mkF m 94 #[.val (.long p0), .second, .val (.int p1), .val (.int p2), .val (.int ((p1 &&& (2147483647 : Int32)) % (9 : Int32))), .val (.ref b143), .unset, .unset] [(.int ((((p0.toUInt64 >>> ((48 : Int32) &&& 0x3f).toInt64.toUInt64).toInt64).toInt32).toInt8.toInt32)), (.int (6 : Int32)), (.ref b143)])) (fun _ kt => XS.i2b X152.here hx rfl (hb hby at_93) rfl kt) ?_
  obtain ⟨_, _, ⟨T153, L153, k153, n153⟩, -, X153, ⟨Lc153, hQ153, l153, y153, z153⟩, st153⟩ := Jvm.LawKit.callS X152 hx (y := (⟨"com/example/kept_till_acked/kepttillacked/api/JsonOutEscapedLengthPinLaw", "set", "([BIB)V"⟩ : MethodName)) hown (mvT hZ (hw _ (List.mem_of_getElem? (i := 2) rfl))) (mvT hZ (hw _ (List.mem_of_getElem? (i := 3) rfl))) (mvT hZ (hw _ (List.mem_of_getElem? (i := 4) rfl))) (mvT hZ (hw _ (List.mem_of_getElem? (i := 5) rfl))) (by decide) (backOf (W := 0) (rm1 l Z a0 hw [] b143 (6 : Int32) ((((p0.toUInt64 >>> ((48 : Int32) &&& 0x3f).toInt64.toUInt64).toInt64).toInt32).toInt8.toInt32) n y152 6 T152.heap n0 (Nat.le_trans (Nat.le_trans (Nat.le_trans (Nat.le_trans (Nat.le_trans (Nat.le_trans (Nat.le_trans Z0 E143.1) K144.1) K145.1) K146.1) K147.1) K150.1) K152.1) V152 ge_b143 hn (by decide) B152) hZ (hw _ (List.mem_of_getElem? (i := 5) rfl)) (hw _ (List.mem_of_getElem? (i := 4) rfl)) (by decide) (by decide)) (g := (mkF m 94 #[.val (.long p0), .second, .val (.int p1), .val (.int p2), .val (.int ((p1 &&& (2147483647 : Int32)) % (9 : Int32))), .val (.ref b143), .unset, .unset] [(.int ((((p0.toUInt64 >>> ((48 : Int32) &&& 0x3f).toInt64.toUInt64).toInt64).toInt32).toInt8.toInt32)), (.int (6 : Int32)), (.ref b143)])) rfl (by rw [hml]; rfl) (argsL := [(.ref b143), (.int (6 : Int32)), (.int ((((p0.toUInt64 >>> ((48 : Int32) &&& 0x3f).toInt64.toUInt64).toInt64).toInt32).toInt8.toInt32))]) (rest := []) (lenOf pd_0 rfl) rfl (by show 2 * 0 + _ ≤ _; exact Nat.le_of_eq rfl) (hb hby at_94) (fun _ _ => ⟨rfl, rfl, (by decide : 1 + 0 ≤ _), (by decide : 8 + 0 ≤ _)⟩)
  dsimp only [Pt.U, Pt.locs, Pt.cells, Pt.slots] at X153 l153 y153 z153 st153 hQ153
  subst l153 y153 z153
  obtain ⟨rfl, N153q, hQ153⟩ := hQ153
  have N153 := Fr.app N152 N153q
  obtain ⟨K153, y153, V153, B153⟩ := hQ153
  have Fb154 := (Nat.le_trans (Nat.le_trans (Nat.le_trans (Nat.le_trans (Nat.le_trans (Nat.le_trans (Nat.le_trans (Nat.le_trans Z0 E143.1) K144.1) K145.1) K146.1) K147.1) K150.1) K152.1) K153.1)
  refine Rch.of (T' := T153) (g' := (mkF m 97 #[.val (.long p0), .second, .val (.int p1), .val (.int p2), .val (.int ((p1 &&& (2147483647 : Int32)) % (9 : Int32))), .val (.ref b143), .unset, .unset] [])) st153 ?_
  refine Rch.of (T' := T153) (g' := (mkF m 99 #[.val (.long p0), .second, .val (.int p1), .val (.int p2), .val (.int ((p1 &&& (2147483647 : Int32)) % (9 : Int32))), .val (.ref b143), .unset, .unset] [(.ref b143)])) (fun _ kt => XS.aload X153.here hx rfl (hb hby at_97) rfl rfl kt) ?_
  refine Rch.of (T' := T153) (g' := (mkF m 101 #[.val (.long p0), .second, .val (.int p1), .val (.int p2), .val (.int ((p1 &&& (2147483647 : Int32)) % (9 : Int32))), .val (.ref b143), .unset, .unset] [(.int (7 : Int32)), (.ref b143)])) (fun _ kt => XS.bipush X153.here hx rfl (hb hby at_99) kt) ?_
  refine Rch.of (T' := T153) (g' := (mkF m 102 #[.val (.long p0), .second, .val (.int p1), .val (.int p2), .val (.int ((p1 &&& (2147483647 : Int32)) % (9 : Int32))), .val (.ref b143), .unset, .unset] [(.long p0), (.int (7 : Int32)), (.ref b143)])) (fun _ kt => XS.lloadN X153.here hx rfl (hb hby at_101) rfl  kt) ?_
  refine Rch.of (T' := T153) (g' := (mkF m 104 #[.val (.long p0), .second, .val (.int p1), .val (.int p2), .val (.int ((p1 &&& (2147483647 : Int32)) % (9 : Int32))), .val (.ref b143), .unset, .unset] [(.int (56 : Int32)), (.long p0), (.int (7 : Int32)), (.ref b143)])) (fun _ kt => XS.bipush X153.here hx rfl (hb hby at_102) kt) ?_
  refine Rch.of (T' := T153) (g' := (mkF m 105 #[.val (.long p0), .second, .val (.int p1), .val (.int p2), .val (.int ((p1 &&& (2147483647 : Int32)) % (9 : Int32))), .val (.ref b143), .unset, .unset] [(.long ((p0.toUInt64 >>> ((56 : Int32) &&& 0x3f).toInt64.toUInt64).toInt64)), (.int (7 : Int32)), (.ref b143)])) (fun _ kt => XS.lushr X153.here hx rfl (hb hby at_104) rfl kt) ?_
  refine Rch.of (T' := T153) (g' := (mkF m 106 #[.val (.long p0), .second, .val (.int p1), .val (.int p2), .val (.int ((p1 &&& (2147483647 : Int32)) % (9 : Int32))), .val (.ref b143), .unset, .unset] [(.int (((p0.toUInt64 >>> ((56 : Int32) &&& 0x3f).toInt64.toUInt64).toInt64).toInt32)), (.int (7 : Int32)), (.ref b143)])) (fun _ kt => XS.l2i X153.here hx rfl (hb hby at_105) rfl kt) ?_
  refine Rch.of (T' := T153) (g' := (mkF m 107 #[.val (.long p0), .second, .val (.int p1), .val (.int p2), .val (.int ((p1 &&& (2147483647 : Int32)) % (9 : Int32))), .val (.ref b143), .unset, .unset] [(.int ((((p0.toUInt64 >>> ((56 : Int32) &&& 0x3f).toInt64.toUInt64).toInt64).toInt32).toInt8.toInt32)), (.int (7 : Int32)), (.ref b143)])) (fun _ kt => XS.i2b X153.here hx rfl (hb hby at_106) rfl kt) ?_
  obtain ⟨_, _, ⟨T155, L155, k155, n155⟩, -, X155, ⟨Lc155, hQ155, l155, y155, z155⟩, st155⟩ := Jvm.LawKit.callS X153 hx (y := (⟨"com/example/kept_till_acked/kepttillacked/api/JsonOutEscapedLengthPinLaw", "set", "([BIB)V"⟩ : MethodName)) hown (mvT hZ (hw _ (List.mem_of_getElem? (i := 2) rfl))) (mvT hZ (hw _ (List.mem_of_getElem? (i := 3) rfl))) (mvT hZ (hw _ (List.mem_of_getElem? (i := 4) rfl))) (mvT hZ (hw _ (List.mem_of_getElem? (i := 5) rfl))) (by decide) (backOf (W := 0) (rm1 l Z a0 hw [] b143 (7 : Int32) ((((p0.toUInt64 >>> ((56 : Int32) &&& 0x3f).toInt64.toUInt64).toInt64).toInt32).toInt8.toInt32) n y153 7 T153.heap n0 Fb154 V153 ge_b143 hn (by decide) B153) hZ (hw _ (List.mem_of_getElem? (i := 5) rfl)) (hw _ (List.mem_of_getElem? (i := 4) rfl)) (by decide) (by decide)) (g := (mkF m 107 #[.val (.long p0), .second, .val (.int p1), .val (.int p2), .val (.int ((p1 &&& (2147483647 : Int32)) % (9 : Int32))), .val (.ref b143), .unset, .unset] [(.int ((((p0.toUInt64 >>> ((56 : Int32) &&& 0x3f).toInt64.toUInt64).toInt64).toInt32).toInt8.toInt32)), (.int (7 : Int32)), (.ref b143)])) rfl (by rw [hml]; rfl) (argsL := [(.ref b143), (.int (7 : Int32)), (.int ((((p0.toUInt64 >>> ((56 : Int32) &&& 0x3f).toInt64.toUInt64).toInt64).toInt32).toInt8.toInt32))]) (rest := []) (lenOf pd_0 rfl) rfl (by show 2 * 0 + _ ≤ _; exact Nat.le_of_eq rfl) (hb hby at_107) (fun _ _ => ⟨rfl, rfl, (by decide : 1 + 0 ≤ _), (by decide : 8 + 0 ≤ _)⟩)
  dsimp only [Pt.U, Pt.locs, Pt.cells, Pt.slots] at X155 l155 y155 z155 st155 hQ155
  subst l155 y155 z155
  obtain ⟨rfl, N155q, hQ155⟩ := hQ155
  have N155 := Fr.app N153 N155q
  obtain ⟨K155, y155, V155, B155⟩ := hQ155
  have Fb156 := ((((Fb149.trans K150 (allS (Or.inr sz_b143) all0)).trans K152 (allS (Or.inr sz_b143) all0)).trans K153 (allS (Or.inr sz_b143) all0)).trans K155 (allS (Or.inr sz_b143) all0))
  refine Rch.of (T' := T155) (g' := (mkF m 110 #[.val (.long p0), .second, .val (.int p1), .val (.int p2), .val (.int ((p1 &&& (2147483647 : Int32)) % (9 : Int32))), .val (.ref b143), .unset, .unset] [])) st155 ?_
  refine Rch.of (T' := T155) (g' := (mkF m 111 #[.val (.long p0), .second, .val (.int p1), .val (.int p2), .val (.int ((p1 &&& (2147483647 : Int32)) % (9 : Int32))), .val (.ref b143), .unset, .unset] [(.int p2)])) (fun _ kt => XS.iloadN X155.here hx rfl (hb hby at_110) rfl  kt) ?_
  refine Rch.of (T' := T155) (g' := (mkF m 112 #[.val (.long p0), .second, .val (.int p1), .val (.int p2), .val (.int ((p1 &&& (2147483647 : Int32)) % (9 : Int32))), .val (.ref b143), .unset, .unset] [(.int (1 : Int32)), (.int p2)])) (fun _ kt => XS.iconst X155.here hx rfl (hb hby at_111) kt) ?_
  refine Rch.of (T' := T155) (g' := (mkF m 113 #[.val (.long p0), .second, .val (.int p1), .val (.int p2), .val (.int ((p1 &&& (2147483647 : Int32)) % (9 : Int32))), .val (.ref b143), .unset, .unset] [(.int (p2 &&& (1 : Int32)))])) (fun _ kt => XS.iand X155.here hx rfl (hb hby at_112) rfl kt) ?_
  by_cases c157 : (p2 &&& (1 : Int32)) = (0 : Int32)
  · skip
    refine Rch.of (T' := T155) (g' := (mkF m 168 #[.val (.long p0), .second, .val (.int p1), .val (.int p2), .val (.int ((p1 &&& (2147483647 : Int32)) % (9 : Int32))), .val (.ref b143), .unset, .unset] [])) (fun _ kt => XS.ifYes X155.here hx rfl (pc0 := 113) (pc' := 168) rfl (hb hby at_113) rfl ((if0 _ _).trans (teq c157).1) (by decide) (by decide) kt) ?_
    have hz : ((p1 &&& (2147483647 : Int32)) % (9 : Int32)) = Int32.ofNat n := Int32.toInt_inj.mp (by rw [hk, oTo (by omega)])
    rw [hz]
    refine Rch.of (T' := T155) (g' := (mkF m 170 #[.val (.long p0), .second, .val (.int p1), .val (.int p2), .val (.int (Int32.ofNat n)), .val (.ref b143), .unset, .unset] [(.int (Int32.ofNat n))])) (fun _ kt => XS.iload X155.here hx rfl (hb hby at_168) rfl  kt) ?_
    refine Rch.of (T' := T155) (g' := (mkF m 171 #[.val (.long p0), .second, .val (.int p1), .val (.int p2), .val (.int (Int32.ofNat n)), .val (.ref b143), .unset, .unset] [(.long ((Int32.ofNat n).toInt64))])) (fun _ kt => XS.i2l X155.here hx rfl (hb hby at_170) rfl kt) ?_
    refine Rch.of (T' := T155) (g' := (mkF m 173 #[.val (.long p0), .second, .val (.int p1), .val (.int p2), .val (.int (Int32.ofNat n)), .val (.ref b143), .val (.long ((Int32.ofNat n).toInt64)), .second] [])) (fun _ kt => XS.lstore X155.here hx rfl (hb hby at_171) rfl (l' := #[.val (.long p0), .second, .val (.int p1), .val (.int p2), .val (.int (Int32.ofNat n)), .val (.ref b143), .val (.long ((Int32.ofNat n).toInt64)), .second]) rfl kt) ?_
    rw [show ((Int32.ofNat n).toInt64) = (own_acc n y155 0) from rfl]
    refine Rch.of (T' := T155) (g' := (mkF m 175 #[.val (.long p0), .second, .val (.int p1), .val (.int p2), .val (.int (Int32.ofNat n)), .val (.ref b143), .val (.long (own_acc n y155 0)), .second] [(.long (own_acc n y155 0))])) (fun _ kt => XS.lload X155.here hx rfl (hb hby at_173) rfl  kt) ?_
    refine Rch.of (T' := T155) (g' := (mkF m 177 #[.val (.long p0), .second, .val (.int p1), .val (.int p2), .val (.int (Int32.ofNat n)), .val (.ref b143), .val (.long (own_acc n y155 0)), .second] [(.ref b143), (.long (own_acc n y155 0))])) (fun _ kt => XS.aload X155.here hx rfl (hb hby at_175) rfl rfl kt) ?_
    refine Rch.of (T' := T155) (g' := (mkF m 178 #[.val (.long p0), .second, .val (.int p1), .val (.int p2), .val (.int (Int32.ofNat n)), .val (.ref b143), .val (.long (own_acc n y155 0)), .second] [(.int (0 : Int32)), (.ref b143), (.long (own_acc n y155 0))])) (fun _ kt => XS.iconst X155.here hx rfl (hb hby at_177) kt) ?_
    obtain ⟨_, _, ⟨T158, L158, k158, n158⟩, -, X158, ⟨Lc158, hQ158, l158, y158, z158⟩, st158⟩ := Jvm.LawKit.callS X155 hx (y := (⟨"com/example/kept_till_acked/kepttillacked/api/JsonOutEscapedLengthPinLaw", "extra", "([BI)I"⟩ : MethodName)) hown (mvT hZ (hw _ (List.mem_of_getElem? (i := 6) rfl))) (mvT hZ (hw _ (List.mem_of_getElem? (i := 7) rfl))) (mvT hZ (hw _ (List.mem_of_getElem? (i := 4) rfl))) (mvT hZ (hw _ (List.mem_of_getElem? (i := 8) rfl))) (by decide) (backOf (W := 2) (rm2 l Z a0 hw [] b143 (0 : Int32) n y155 0 T155.heap n0 (Nat.le_trans Fb154 K155.1) V155 hn (by decide) (by decide)) hZ (hw _ (List.mem_of_getElem? (i := 8) rfl)) (hw _ (List.mem_of_getElem? (i := 4) rfl)) (by decide) (by decide)) (g := (mkF m 178 #[.val (.long p0), .second, .val (.int p1), .val (.int p2), .val (.int (Int32.ofNat n)), .val (.ref b143), .val (.long (own_acc n y155 0)), .second] [(.int (0 : Int32)), (.ref b143), (.long (own_acc n y155 0))])) rfl (by rw [hml]; rfl) (argsL := [(.ref b143), (.int (0 : Int32))]) (rest := [(.long (own_acc n y155 0))]) (lenOf pd_1 rfl) rfl (by show 2 * 0 + _ ≤ _; exact Nat.le_of_eq rfl) (hb hby at_178) (fun _ _ => ⟨rfl, rfl, (by decide : 1 + 0 ≤ _), (by decide : 8 + 0 ≤ _)⟩)
    dsimp only [Pt.U, Pt.locs, Pt.cells, Pt.slots] at X158 l158 y158 z158 st158 hQ158
    subst l158 y158 z158
    obtain ⟨rfl, N158q, hQ158⟩ := hQ158
    have N158 := Fr.app N155 N158q
    refine Rch.of (T' := T158) (g' := (mkF m 181 #[.val (.long p0), .second, .val (.int p1), .val (.int p2), .val (.int (Int32.ofNat n)), .val (.ref b143), .val (.long (own_acc n y155 0)), .second] [(.int (own_extra n y155 0)), (.long (own_acc n y155 0))])) st158 ?_
    refine Rch.of (T' := T158) (g' := (mkF m 182 #[.val (.long p0), .second, .val (.int p1), .val (.int p2), .val (.int (Int32.ofNat n)), .val (.ref b143), .val (.long (own_acc n y155 0)), .second] [(.long ((own_extra n y155 0).toInt64)), (.long (own_acc n y155 0))])) (fun _ kt => XS.i2l X158.here hx rfl (hb hby at_181) rfl kt) ?_
    refine Rch.of (T' := T158) (g' := (mkF m 183 #[.val (.long p0), .second, .val (.int p1), .val (.int p2), .val (.int (Int32.ofNat n)), .val (.ref b143), .val (.long (own_acc n y155 0)), .second] [(.long ((own_acc n y155 0) + ((own_extra n y155 0).toInt64)))])) (fun _ kt => XS.ladd X158.here hx rfl (hb hby at_182) rfl kt) ?_
    refine Rch.of (T' := T158) (g' := (mkF m 185 #[.val (.long p0), .second, .val (.int p1), .val (.int p2), .val (.int (Int32.ofNat n)), .val (.ref b143), .val (.long ((own_acc n y155 0) + ((own_extra n y155 0).toInt64))), .second] [])) (fun _ kt => XS.lstore X158.here hx rfl (hb hby at_183) rfl (l' := #[.val (.long p0), .second, .val (.int p1), .val (.int p2), .val (.int (Int32.ofNat n)), .val (.ref b143), .val (.long ((own_acc n y155 0) + ((own_extra n y155 0).toInt64))), .second]) rfl kt) ?_
    rw [show ((own_acc n y155 0) + ((own_extra n y155 0).toInt64)) = (own_acc n y155 1) from rfl]
    refine Rch.of (T' := T158) (g' := (mkF m 187 #[.val (.long p0), .second, .val (.int p1), .val (.int p2), .val (.int (Int32.ofNat n)), .val (.ref b143), .val (.long (own_acc n y155 1)), .second] [(.long (own_acc n y155 1))])) (fun _ kt => XS.lload X158.here hx rfl (hb hby at_185) rfl  kt) ?_
    refine Rch.of (T' := T158) (g' := (mkF m 189 #[.val (.long p0), .second, .val (.int p1), .val (.int p2), .val (.int (Int32.ofNat n)), .val (.ref b143), .val (.long (own_acc n y155 1)), .second] [(.ref b143), (.long (own_acc n y155 1))])) (fun _ kt => XS.aload X158.here hx rfl (hb hby at_187) rfl rfl kt) ?_
    refine Rch.of (T' := T158) (g' := (mkF m 190 #[.val (.long p0), .second, .val (.int p1), .val (.int p2), .val (.int (Int32.ofNat n)), .val (.ref b143), .val (.long (own_acc n y155 1)), .second] [(.int (1 : Int32)), (.ref b143), (.long (own_acc n y155 1))])) (fun _ kt => XS.iconst X158.here hx rfl (hb hby at_189) kt) ?_
    obtain ⟨_, _, ⟨T159, L159, k159, n159⟩, -, X159, ⟨Lc159, hQ159, l159, y159, z159⟩, st159⟩ := Jvm.LawKit.callS X158 hx (y := (⟨"com/example/kept_till_acked/kepttillacked/api/JsonOutEscapedLengthPinLaw", "extra", "([BI)I"⟩ : MethodName)) hown (mvT hZ (hw _ (List.mem_of_getElem? (i := 6) rfl))) (mvT hZ (hw _ (List.mem_of_getElem? (i := 7) rfl))) (mvT hZ (hw _ (List.mem_of_getElem? (i := 4) rfl))) (mvT hZ (hw _ (List.mem_of_getElem? (i := 8) rfl))) (by decide) (backOf (W := 2) (rm2 l Z a0 hw [] b143 (1 : Int32) n y155 1 T155.heap n0 (Nat.le_trans Fb154 K155.1) V155 hn (by decide) (by decide)) hZ (hw _ (List.mem_of_getElem? (i := 8) rfl)) (hw _ (List.mem_of_getElem? (i := 4) rfl)) (by decide) (by decide)) (g := (mkF m 190 #[.val (.long p0), .second, .val (.int p1), .val (.int p2), .val (.int (Int32.ofNat n)), .val (.ref b143), .val (.long (own_acc n y155 1)), .second] [(.int (1 : Int32)), (.ref b143), (.long (own_acc n y155 1))])) rfl (by rw [hml]; rfl) (argsL := [(.ref b143), (.int (1 : Int32))]) (rest := [(.long (own_acc n y155 1))]) (lenOf pd_1 rfl) rfl (by show 2 * 0 + _ ≤ _; exact Nat.le_of_eq rfl) (hb hby at_190) (fun _ _ => ⟨rfl, hQ158, (by decide : 1 + 0 ≤ _), (by decide : 8 + 0 ≤ _)⟩)
    dsimp only [Pt.U, Pt.locs, Pt.cells, Pt.slots] at X159 l159 y159 z159 st159 hQ159
    subst l159 y159 z159
    obtain ⟨rfl, N159q, hQ159⟩ := hQ159
    have N159 := Fr.app N158 N159q
    refine Rch.of (T' := T159) (g' := (mkF m 193 #[.val (.long p0), .second, .val (.int p1), .val (.int p2), .val (.int (Int32.ofNat n)), .val (.ref b143), .val (.long (own_acc n y155 1)), .second] [(.int (own_extra n y155 1)), (.long (own_acc n y155 1))])) st159 ?_
    refine Rch.of (T' := T159) (g' := (mkF m 194 #[.val (.long p0), .second, .val (.int p1), .val (.int p2), .val (.int (Int32.ofNat n)), .val (.ref b143), .val (.long (own_acc n y155 1)), .second] [(.long ((own_extra n y155 1).toInt64)), (.long (own_acc n y155 1))])) (fun _ kt => XS.i2l X159.here hx rfl (hb hby at_193) rfl kt) ?_
    refine Rch.of (T' := T159) (g' := (mkF m 195 #[.val (.long p0), .second, .val (.int p1), .val (.int p2), .val (.int (Int32.ofNat n)), .val (.ref b143), .val (.long (own_acc n y155 1)), .second] [(.long ((own_acc n y155 1) + ((own_extra n y155 1).toInt64)))])) (fun _ kt => XS.ladd X159.here hx rfl (hb hby at_194) rfl kt) ?_
    refine Rch.of (T' := T159) (g' := (mkF m 197 #[.val (.long p0), .second, .val (.int p1), .val (.int p2), .val (.int (Int32.ofNat n)), .val (.ref b143), .val (.long ((own_acc n y155 1) + ((own_extra n y155 1).toInt64))), .second] [])) (fun _ kt => XS.lstore X159.here hx rfl (hb hby at_195) rfl (l' := #[.val (.long p0), .second, .val (.int p1), .val (.int p2), .val (.int (Int32.ofNat n)), .val (.ref b143), .val (.long ((own_acc n y155 1) + ((own_extra n y155 1).toInt64))), .second]) rfl kt) ?_
    rw [show ((own_acc n y155 1) + ((own_extra n y155 1).toInt64)) = (own_acc n y155 2) from rfl]
    refine Rch.of (T' := T159) (g' := (mkF m 199 #[.val (.long p0), .second, .val (.int p1), .val (.int p2), .val (.int (Int32.ofNat n)), .val (.ref b143), .val (.long (own_acc n y155 2)), .second] [(.long (own_acc n y155 2))])) (fun _ kt => XS.lload X159.here hx rfl (hb hby at_197) rfl  kt) ?_
    refine Rch.of (T' := T159) (g' := (mkF m 201 #[.val (.long p0), .second, .val (.int p1), .val (.int p2), .val (.int (Int32.ofNat n)), .val (.ref b143), .val (.long (own_acc n y155 2)), .second] [(.ref b143), (.long (own_acc n y155 2))])) (fun _ kt => XS.aload X159.here hx rfl (hb hby at_199) rfl rfl kt) ?_
    refine Rch.of (T' := T159) (g' := (mkF m 202 #[.val (.long p0), .second, .val (.int p1), .val (.int p2), .val (.int (Int32.ofNat n)), .val (.ref b143), .val (.long (own_acc n y155 2)), .second] [(.int (2 : Int32)), (.ref b143), (.long (own_acc n y155 2))])) (fun _ kt => XS.iconst X159.here hx rfl (hb hby at_201) kt) ?_
    obtain ⟨_, _, ⟨T160, L160, k160, n160⟩, -, X160, ⟨Lc160, hQ160, l160, y160, z160⟩, st160⟩ := Jvm.LawKit.callS X159 hx (y := (⟨"com/example/kept_till_acked/kepttillacked/api/JsonOutEscapedLengthPinLaw", "extra", "([BI)I"⟩ : MethodName)) hown (mvT hZ (hw _ (List.mem_of_getElem? (i := 6) rfl))) (mvT hZ (hw _ (List.mem_of_getElem? (i := 7) rfl))) (mvT hZ (hw _ (List.mem_of_getElem? (i := 4) rfl))) (mvT hZ (hw _ (List.mem_of_getElem? (i := 8) rfl))) (by decide) (backOf (W := 2) (rm2 l Z a0 hw [] b143 (2 : Int32) n y155 2 T155.heap n0 (Nat.le_trans Fb154 K155.1) V155 hn (by decide) (by decide)) hZ (hw _ (List.mem_of_getElem? (i := 8) rfl)) (hw _ (List.mem_of_getElem? (i := 4) rfl)) (by decide) (by decide)) (g := (mkF m 202 #[.val (.long p0), .second, .val (.int p1), .val (.int p2), .val (.int (Int32.ofNat n)), .val (.ref b143), .val (.long (own_acc n y155 2)), .second] [(.int (2 : Int32)), (.ref b143), (.long (own_acc n y155 2))])) rfl (by rw [hml]; rfl) (argsL := [(.ref b143), (.int (2 : Int32))]) (rest := [(.long (own_acc n y155 2))]) (lenOf pd_1 rfl) rfl (by show 2 * 0 + _ ≤ _; exact Nat.le_of_eq rfl) (hb hby at_202) (fun _ _ => ⟨rfl, hQ159, (by decide : 1 + 0 ≤ _), (by decide : 8 + 0 ≤ _)⟩)
    dsimp only [Pt.U, Pt.locs, Pt.cells, Pt.slots] at X160 l160 y160 z160 st160 hQ160
    subst l160 y160 z160
    obtain ⟨rfl, N160q, hQ160⟩ := hQ160
    have N160 := Fr.app N159 N160q
    refine Rch.of (T' := T160) (g' := (mkF m 205 #[.val (.long p0), .second, .val (.int p1), .val (.int p2), .val (.int (Int32.ofNat n)), .val (.ref b143), .val (.long (own_acc n y155 2)), .second] [(.int (own_extra n y155 2)), (.long (own_acc n y155 2))])) st160 ?_
    refine Rch.of (T' := T160) (g' := (mkF m 206 #[.val (.long p0), .second, .val (.int p1), .val (.int p2), .val (.int (Int32.ofNat n)), .val (.ref b143), .val (.long (own_acc n y155 2)), .second] [(.long ((own_extra n y155 2).toInt64)), (.long (own_acc n y155 2))])) (fun _ kt => XS.i2l X160.here hx rfl (hb hby at_205) rfl kt) ?_
    refine Rch.of (T' := T160) (g' := (mkF m 207 #[.val (.long p0), .second, .val (.int p1), .val (.int p2), .val (.int (Int32.ofNat n)), .val (.ref b143), .val (.long (own_acc n y155 2)), .second] [(.long ((own_acc n y155 2) + ((own_extra n y155 2).toInt64)))])) (fun _ kt => XS.ladd X160.here hx rfl (hb hby at_206) rfl kt) ?_
    refine Rch.of (T' := T160) (g' := (mkF m 209 #[.val (.long p0), .second, .val (.int p1), .val (.int p2), .val (.int (Int32.ofNat n)), .val (.ref b143), .val (.long ((own_acc n y155 2) + ((own_extra n y155 2).toInt64))), .second] [])) (fun _ kt => XS.lstore X160.here hx rfl (hb hby at_207) rfl (l' := #[.val (.long p0), .second, .val (.int p1), .val (.int p2), .val (.int (Int32.ofNat n)), .val (.ref b143), .val (.long ((own_acc n y155 2) + ((own_extra n y155 2).toInt64))), .second]) rfl kt) ?_
    rw [show ((own_acc n y155 2) + ((own_extra n y155 2).toInt64)) = (own_acc n y155 3) from rfl]
    refine Rch.of (T' := T160) (g' := (mkF m 211 #[.val (.long p0), .second, .val (.int p1), .val (.int p2), .val (.int (Int32.ofNat n)), .val (.ref b143), .val (.long (own_acc n y155 3)), .second] [(.long (own_acc n y155 3))])) (fun _ kt => XS.lload X160.here hx rfl (hb hby at_209) rfl  kt) ?_
    refine Rch.of (T' := T160) (g' := (mkF m 213 #[.val (.long p0), .second, .val (.int p1), .val (.int p2), .val (.int (Int32.ofNat n)), .val (.ref b143), .val (.long (own_acc n y155 3)), .second] [(.ref b143), (.long (own_acc n y155 3))])) (fun _ kt => XS.aload X160.here hx rfl (hb hby at_211) rfl rfl kt) ?_
    refine Rch.of (T' := T160) (g' := (mkF m 214 #[.val (.long p0), .second, .val (.int p1), .val (.int p2), .val (.int (Int32.ofNat n)), .val (.ref b143), .val (.long (own_acc n y155 3)), .second] [(.int (3 : Int32)), (.ref b143), (.long (own_acc n y155 3))])) (fun _ kt => XS.iconst X160.here hx rfl (hb hby at_213) kt) ?_
    obtain ⟨_, _, ⟨T161, L161, k161, n161⟩, -, X161, ⟨Lc161, hQ161, l161, y161, z161⟩, st161⟩ := Jvm.LawKit.callS X160 hx (y := (⟨"com/example/kept_till_acked/kepttillacked/api/JsonOutEscapedLengthPinLaw", "extra", "([BI)I"⟩ : MethodName)) hown (mvT hZ (hw _ (List.mem_of_getElem? (i := 6) rfl))) (mvT hZ (hw _ (List.mem_of_getElem? (i := 7) rfl))) (mvT hZ (hw _ (List.mem_of_getElem? (i := 4) rfl))) (mvT hZ (hw _ (List.mem_of_getElem? (i := 8) rfl))) (by decide) (backOf (W := 2) (rm2 l Z a0 hw [] b143 (3 : Int32) n y155 3 T155.heap n0 (Nat.le_trans Fb154 K155.1) V155 hn (by decide) (by decide)) hZ (hw _ (List.mem_of_getElem? (i := 8) rfl)) (hw _ (List.mem_of_getElem? (i := 4) rfl)) (by decide) (by decide)) (g := (mkF m 214 #[.val (.long p0), .second, .val (.int p1), .val (.int p2), .val (.int (Int32.ofNat n)), .val (.ref b143), .val (.long (own_acc n y155 3)), .second] [(.int (3 : Int32)), (.ref b143), (.long (own_acc n y155 3))])) rfl (by rw [hml]; rfl) (argsL := [(.ref b143), (.int (3 : Int32))]) (rest := [(.long (own_acc n y155 3))]) (lenOf pd_1 rfl) rfl (by show 2 * 0 + _ ≤ _; exact Nat.le_of_eq rfl) (hb hby at_214) (fun _ _ => ⟨rfl, hQ160, (by decide : 1 + 0 ≤ _), (by decide : 8 + 0 ≤ _)⟩)
    dsimp only [Pt.U, Pt.locs, Pt.cells, Pt.slots] at X161 l161 y161 z161 st161 hQ161
    subst l161 y161 z161
    obtain ⟨rfl, N161q, hQ161⟩ := hQ161
    have N161 := Fr.app N160 N161q
    refine Rch.of (T' := T161) (g' := (mkF m 217 #[.val (.long p0), .second, .val (.int p1), .val (.int p2), .val (.int (Int32.ofNat n)), .val (.ref b143), .val (.long (own_acc n y155 3)), .second] [(.int (own_extra n y155 3)), (.long (own_acc n y155 3))])) st161 ?_
    refine Rch.of (T' := T161) (g' := (mkF m 218 #[.val (.long p0), .second, .val (.int p1), .val (.int p2), .val (.int (Int32.ofNat n)), .val (.ref b143), .val (.long (own_acc n y155 3)), .second] [(.long ((own_extra n y155 3).toInt64)), (.long (own_acc n y155 3))])) (fun _ kt => XS.i2l X161.here hx rfl (hb hby at_217) rfl kt) ?_
    refine Rch.of (T' := T161) (g' := (mkF m 219 #[.val (.long p0), .second, .val (.int p1), .val (.int p2), .val (.int (Int32.ofNat n)), .val (.ref b143), .val (.long (own_acc n y155 3)), .second] [(.long ((own_acc n y155 3) + ((own_extra n y155 3).toInt64)))])) (fun _ kt => XS.ladd X161.here hx rfl (hb hby at_218) rfl kt) ?_
    refine Rch.of (T' := T161) (g' := (mkF m 221 #[.val (.long p0), .second, .val (.int p1), .val (.int p2), .val (.int (Int32.ofNat n)), .val (.ref b143), .val (.long ((own_acc n y155 3) + ((own_extra n y155 3).toInt64))), .second] [])) (fun _ kt => XS.lstore X161.here hx rfl (hb hby at_219) rfl (l' := #[.val (.long p0), .second, .val (.int p1), .val (.int p2), .val (.int (Int32.ofNat n)), .val (.ref b143), .val (.long ((own_acc n y155 3) + ((own_extra n y155 3).toInt64))), .second]) rfl kt) ?_
    rw [show ((own_acc n y155 3) + ((own_extra n y155 3).toInt64)) = (own_acc n y155 4) from rfl]
    refine Rch.of (T' := T161) (g' := (mkF m 223 #[.val (.long p0), .second, .val (.int p1), .val (.int p2), .val (.int (Int32.ofNat n)), .val (.ref b143), .val (.long (own_acc n y155 4)), .second] [(.long (own_acc n y155 4))])) (fun _ kt => XS.lload X161.here hx rfl (hb hby at_221) rfl  kt) ?_
    refine Rch.of (T' := T161) (g' := (mkF m 225 #[.val (.long p0), .second, .val (.int p1), .val (.int p2), .val (.int (Int32.ofNat n)), .val (.ref b143), .val (.long (own_acc n y155 4)), .second] [(.ref b143), (.long (own_acc n y155 4))])) (fun _ kt => XS.aload X161.here hx rfl (hb hby at_223) rfl rfl kt) ?_
    refine Rch.of (T' := T161) (g' := (mkF m 226 #[.val (.long p0), .second, .val (.int p1), .val (.int p2), .val (.int (Int32.ofNat n)), .val (.ref b143), .val (.long (own_acc n y155 4)), .second] [(.int (4 : Int32)), (.ref b143), (.long (own_acc n y155 4))])) (fun _ kt => XS.iconst X161.here hx rfl (hb hby at_225) kt) ?_
    obtain ⟨_, _, ⟨T162, L162, k162, n162⟩, -, X162, ⟨Lc162, hQ162, l162, y162, z162⟩, st162⟩ := Jvm.LawKit.callS X161 hx (y := (⟨"com/example/kept_till_acked/kepttillacked/api/JsonOutEscapedLengthPinLaw", "extra", "([BI)I"⟩ : MethodName)) hown (mvT hZ (hw _ (List.mem_of_getElem? (i := 6) rfl))) (mvT hZ (hw _ (List.mem_of_getElem? (i := 7) rfl))) (mvT hZ (hw _ (List.mem_of_getElem? (i := 4) rfl))) (mvT hZ (hw _ (List.mem_of_getElem? (i := 8) rfl))) (by decide) (backOf (W := 2) (rm2 l Z a0 hw [] b143 (4 : Int32) n y155 4 T155.heap n0 (Nat.le_trans Fb154 K155.1) V155 hn (by decide) (by decide)) hZ (hw _ (List.mem_of_getElem? (i := 8) rfl)) (hw _ (List.mem_of_getElem? (i := 4) rfl)) (by decide) (by decide)) (g := (mkF m 226 #[.val (.long p0), .second, .val (.int p1), .val (.int p2), .val (.int (Int32.ofNat n)), .val (.ref b143), .val (.long (own_acc n y155 4)), .second] [(.int (4 : Int32)), (.ref b143), (.long (own_acc n y155 4))])) rfl (by rw [hml]; rfl) (argsL := [(.ref b143), (.int (4 : Int32))]) (rest := [(.long (own_acc n y155 4))]) (lenOf pd_1 rfl) rfl (by show 2 * 0 + _ ≤ _; exact Nat.le_of_eq rfl) (hb hby at_226) (fun _ _ => ⟨rfl, hQ161, (by decide : 1 + 0 ≤ _), (by decide : 8 + 0 ≤ _)⟩)
    dsimp only [Pt.U, Pt.locs, Pt.cells, Pt.slots] at X162 l162 y162 z162 st162 hQ162
    subst l162 y162 z162
    obtain ⟨rfl, N162q, hQ162⟩ := hQ162
    have N162 := Fr.app N161 N162q
    refine Rch.of (T' := T162) (g' := (mkF m 229 #[.val (.long p0), .second, .val (.int p1), .val (.int p2), .val (.int (Int32.ofNat n)), .val (.ref b143), .val (.long (own_acc n y155 4)), .second] [(.int (own_extra n y155 4)), (.long (own_acc n y155 4))])) st162 ?_
    refine Rch.of (T' := T162) (g' := (mkF m 230 #[.val (.long p0), .second, .val (.int p1), .val (.int p2), .val (.int (Int32.ofNat n)), .val (.ref b143), .val (.long (own_acc n y155 4)), .second] [(.long ((own_extra n y155 4).toInt64)), (.long (own_acc n y155 4))])) (fun _ kt => XS.i2l X162.here hx rfl (hb hby at_229) rfl kt) ?_
    refine Rch.of (T' := T162) (g' := (mkF m 231 #[.val (.long p0), .second, .val (.int p1), .val (.int p2), .val (.int (Int32.ofNat n)), .val (.ref b143), .val (.long (own_acc n y155 4)), .second] [(.long ((own_acc n y155 4) + ((own_extra n y155 4).toInt64)))])) (fun _ kt => XS.ladd X162.here hx rfl (hb hby at_230) rfl kt) ?_
    refine Rch.of (T' := T162) (g' := (mkF m 233 #[.val (.long p0), .second, .val (.int p1), .val (.int p2), .val (.int (Int32.ofNat n)), .val (.ref b143), .val (.long ((own_acc n y155 4) + ((own_extra n y155 4).toInt64))), .second] [])) (fun _ kt => XS.lstore X162.here hx rfl (hb hby at_231) rfl (l' := #[.val (.long p0), .second, .val (.int p1), .val (.int p2), .val (.int (Int32.ofNat n)), .val (.ref b143), .val (.long ((own_acc n y155 4) + ((own_extra n y155 4).toInt64))), .second]) rfl kt) ?_
    rw [show ((own_acc n y155 4) + ((own_extra n y155 4).toInt64)) = (own_acc n y155 5) from rfl]
    refine Rch.of (T' := T162) (g' := (mkF m 235 #[.val (.long p0), .second, .val (.int p1), .val (.int p2), .val (.int (Int32.ofNat n)), .val (.ref b143), .val (.long (own_acc n y155 5)), .second] [(.long (own_acc n y155 5))])) (fun _ kt => XS.lload X162.here hx rfl (hb hby at_233) rfl  kt) ?_
    refine Rch.of (T' := T162) (g' := (mkF m 237 #[.val (.long p0), .second, .val (.int p1), .val (.int p2), .val (.int (Int32.ofNat n)), .val (.ref b143), .val (.long (own_acc n y155 5)), .second] [(.ref b143), (.long (own_acc n y155 5))])) (fun _ kt => XS.aload X162.here hx rfl (hb hby at_235) rfl rfl kt) ?_
    refine Rch.of (T' := T162) (g' := (mkF m 238 #[.val (.long p0), .second, .val (.int p1), .val (.int p2), .val (.int (Int32.ofNat n)), .val (.ref b143), .val (.long (own_acc n y155 5)), .second] [(.int (5 : Int32)), (.ref b143), (.long (own_acc n y155 5))])) (fun _ kt => XS.iconst X162.here hx rfl (hb hby at_237) kt) ?_
    obtain ⟨_, _, ⟨T163, L163, k163, n163⟩, -, X163, ⟨Lc163, hQ163, l163, y163, z163⟩, st163⟩ := Jvm.LawKit.callS X162 hx (y := (⟨"com/example/kept_till_acked/kepttillacked/api/JsonOutEscapedLengthPinLaw", "extra", "([BI)I"⟩ : MethodName)) hown (mvT hZ (hw _ (List.mem_of_getElem? (i := 6) rfl))) (mvT hZ (hw _ (List.mem_of_getElem? (i := 7) rfl))) (mvT hZ (hw _ (List.mem_of_getElem? (i := 4) rfl))) (mvT hZ (hw _ (List.mem_of_getElem? (i := 8) rfl))) (by decide) (backOf (W := 2) (rm2 l Z a0 hw [] b143 (5 : Int32) n y155 5 T155.heap n0 (Nat.le_trans Fb154 K155.1) V155 hn (by decide) (by decide)) hZ (hw _ (List.mem_of_getElem? (i := 8) rfl)) (hw _ (List.mem_of_getElem? (i := 4) rfl)) (by decide) (by decide)) (g := (mkF m 238 #[.val (.long p0), .second, .val (.int p1), .val (.int p2), .val (.int (Int32.ofNat n)), .val (.ref b143), .val (.long (own_acc n y155 5)), .second] [(.int (5 : Int32)), (.ref b143), (.long (own_acc n y155 5))])) rfl (by rw [hml]; rfl) (argsL := [(.ref b143), (.int (5 : Int32))]) (rest := [(.long (own_acc n y155 5))]) (lenOf pd_1 rfl) rfl (by show 2 * 0 + _ ≤ _; exact Nat.le_of_eq rfl) (hb hby at_238) (fun _ _ => ⟨rfl, hQ162, (by decide : 1 + 0 ≤ _), (by decide : 8 + 0 ≤ _)⟩)
    dsimp only [Pt.U, Pt.locs, Pt.cells, Pt.slots] at X163 l163 y163 z163 st163 hQ163
    subst l163 y163 z163
    obtain ⟨rfl, N163q, hQ163⟩ := hQ163
    have N163 := Fr.app N162 N163q
    refine Rch.of (T' := T163) (g' := (mkF m 241 #[.val (.long p0), .second, .val (.int p1), .val (.int p2), .val (.int (Int32.ofNat n)), .val (.ref b143), .val (.long (own_acc n y155 5)), .second] [(.int (own_extra n y155 5)), (.long (own_acc n y155 5))])) st163 ?_
    refine Rch.of (T' := T163) (g' := (mkF m 242 #[.val (.long p0), .second, .val (.int p1), .val (.int p2), .val (.int (Int32.ofNat n)), .val (.ref b143), .val (.long (own_acc n y155 5)), .second] [(.long ((own_extra n y155 5).toInt64)), (.long (own_acc n y155 5))])) (fun _ kt => XS.i2l X163.here hx rfl (hb hby at_241) rfl kt) ?_
    refine Rch.of (T' := T163) (g' := (mkF m 243 #[.val (.long p0), .second, .val (.int p1), .val (.int p2), .val (.int (Int32.ofNat n)), .val (.ref b143), .val (.long (own_acc n y155 5)), .second] [(.long ((own_acc n y155 5) + ((own_extra n y155 5).toInt64)))])) (fun _ kt => XS.ladd X163.here hx rfl (hb hby at_242) rfl kt) ?_
    refine Rch.of (T' := T163) (g' := (mkF m 245 #[.val (.long p0), .second, .val (.int p1), .val (.int p2), .val (.int (Int32.ofNat n)), .val (.ref b143), .val (.long ((own_acc n y155 5) + ((own_extra n y155 5).toInt64))), .second] [])) (fun _ kt => XS.lstore X163.here hx rfl (hb hby at_243) rfl (l' := #[.val (.long p0), .second, .val (.int p1), .val (.int p2), .val (.int (Int32.ofNat n)), .val (.ref b143), .val (.long ((own_acc n y155 5) + ((own_extra n y155 5).toInt64))), .second]) rfl kt) ?_
    rw [show ((own_acc n y155 5) + ((own_extra n y155 5).toInt64)) = (own_acc n y155 6) from rfl]
    refine Rch.of (T' := T163) (g' := (mkF m 247 #[.val (.long p0), .second, .val (.int p1), .val (.int p2), .val (.int (Int32.ofNat n)), .val (.ref b143), .val (.long (own_acc n y155 6)), .second] [(.long (own_acc n y155 6))])) (fun _ kt => XS.lload X163.here hx rfl (hb hby at_245) rfl  kt) ?_
    refine Rch.of (T' := T163) (g' := (mkF m 249 #[.val (.long p0), .second, .val (.int p1), .val (.int p2), .val (.int (Int32.ofNat n)), .val (.ref b143), .val (.long (own_acc n y155 6)), .second] [(.ref b143), (.long (own_acc n y155 6))])) (fun _ kt => XS.aload X163.here hx rfl (hb hby at_247) rfl rfl kt) ?_
    refine Rch.of (T' := T163) (g' := (mkF m 251 #[.val (.long p0), .second, .val (.int p1), .val (.int p2), .val (.int (Int32.ofNat n)), .val (.ref b143), .val (.long (own_acc n y155 6)), .second] [(.int (6 : Int32)), (.ref b143), (.long (own_acc n y155 6))])) (fun _ kt => XS.bipush X163.here hx rfl (hb hby at_249) kt) ?_
    obtain ⟨_, _, ⟨T164, L164, k164, n164⟩, -, X164, ⟨Lc164, hQ164, l164, y164, z164⟩, st164⟩ := Jvm.LawKit.callS X163 hx (y := (⟨"com/example/kept_till_acked/kepttillacked/api/JsonOutEscapedLengthPinLaw", "extra", "([BI)I"⟩ : MethodName)) hown (mvT hZ (hw _ (List.mem_of_getElem? (i := 6) rfl))) (mvT hZ (hw _ (List.mem_of_getElem? (i := 7) rfl))) (mvT hZ (hw _ (List.mem_of_getElem? (i := 4) rfl))) (mvT hZ (hw _ (List.mem_of_getElem? (i := 8) rfl))) (by decide) (backOf (W := 2) (rm2 l Z a0 hw [] b143 (6 : Int32) n y155 6 T155.heap n0 (Nat.le_trans Fb154 K155.1) V155 hn (by decide) (by decide)) hZ (hw _ (List.mem_of_getElem? (i := 8) rfl)) (hw _ (List.mem_of_getElem? (i := 4) rfl)) (by decide) (by decide)) (g := (mkF m 251 #[.val (.long p0), .second, .val (.int p1), .val (.int p2), .val (.int (Int32.ofNat n)), .val (.ref b143), .val (.long (own_acc n y155 6)), .second] [(.int (6 : Int32)), (.ref b143), (.long (own_acc n y155 6))])) rfl (by rw [hml]; rfl) (argsL := [(.ref b143), (.int (6 : Int32))]) (rest := [(.long (own_acc n y155 6))]) (lenOf pd_1 rfl) rfl (by show 2 * 0 + _ ≤ _; exact Nat.le_of_eq rfl) (hb hby at_251) (fun _ _ => ⟨rfl, hQ163, (by decide : 1 + 0 ≤ _), (by decide : 8 + 0 ≤ _)⟩)
    dsimp only [Pt.U, Pt.locs, Pt.cells, Pt.slots] at X164 l164 y164 z164 st164 hQ164
    subst l164 y164 z164
    obtain ⟨rfl, N164q, hQ164⟩ := hQ164
    have N164 := Fr.app N163 N164q
    refine Rch.of (T' := T164) (g' := (mkF m 254 #[.val (.long p0), .second, .val (.int p1), .val (.int p2), .val (.int (Int32.ofNat n)), .val (.ref b143), .val (.long (own_acc n y155 6)), .second] [(.int (own_extra n y155 6)), (.long (own_acc n y155 6))])) st164 ?_
    refine Rch.of (T' := T164) (g' := (mkF m 255 #[.val (.long p0), .second, .val (.int p1), .val (.int p2), .val (.int (Int32.ofNat n)), .val (.ref b143), .val (.long (own_acc n y155 6)), .second] [(.long ((own_extra n y155 6).toInt64)), (.long (own_acc n y155 6))])) (fun _ kt => XS.i2l X164.here hx rfl (hb hby at_254) rfl kt) ?_
    refine Rch.of (T' := T164) (g' := (mkF m 256 #[.val (.long p0), .second, .val (.int p1), .val (.int p2), .val (.int (Int32.ofNat n)), .val (.ref b143), .val (.long (own_acc n y155 6)), .second] [(.long ((own_acc n y155 6) + ((own_extra n y155 6).toInt64)))])) (fun _ kt => XS.ladd X164.here hx rfl (hb hby at_255) rfl kt) ?_
    refine Rch.of (T' := T164) (g' := (mkF m 258 #[.val (.long p0), .second, .val (.int p1), .val (.int p2), .val (.int (Int32.ofNat n)), .val (.ref b143), .val (.long ((own_acc n y155 6) + ((own_extra n y155 6).toInt64))), .second] [])) (fun _ kt => XS.lstore X164.here hx rfl (hb hby at_256) rfl (l' := #[.val (.long p0), .second, .val (.int p1), .val (.int p2), .val (.int (Int32.ofNat n)), .val (.ref b143), .val (.long ((own_acc n y155 6) + ((own_extra n y155 6).toInt64))), .second]) rfl kt) ?_
    rw [show ((own_acc n y155 6) + ((own_extra n y155 6).toInt64)) = (own_acc n y155 7) from rfl]
    refine Rch.of (T' := T164) (g' := (mkF m 260 #[.val (.long p0), .second, .val (.int p1), .val (.int p2), .val (.int (Int32.ofNat n)), .val (.ref b143), .val (.long (own_acc n y155 7)), .second] [(.long (own_acc n y155 7))])) (fun _ kt => XS.lload X164.here hx rfl (hb hby at_258) rfl  kt) ?_
    refine Rch.of (T' := T164) (g' := (mkF m 262 #[.val (.long p0), .second, .val (.int p1), .val (.int p2), .val (.int (Int32.ofNat n)), .val (.ref b143), .val (.long (own_acc n y155 7)), .second] [(.ref b143), (.long (own_acc n y155 7))])) (fun _ kt => XS.aload X164.here hx rfl (hb hby at_260) rfl rfl kt) ?_
    refine Rch.of (T' := T164) (g' := (mkF m 264 #[.val (.long p0), .second, .val (.int p1), .val (.int p2), .val (.int (Int32.ofNat n)), .val (.ref b143), .val (.long (own_acc n y155 7)), .second] [(.int (7 : Int32)), (.ref b143), (.long (own_acc n y155 7))])) (fun _ kt => XS.bipush X164.here hx rfl (hb hby at_262) kt) ?_
    obtain ⟨_, _, ⟨T165, L165, k165, n165⟩, -, X165, ⟨Lc165, hQ165, l165, y165, z165⟩, st165⟩ := Jvm.LawKit.callS X164 hx (y := (⟨"com/example/kept_till_acked/kepttillacked/api/JsonOutEscapedLengthPinLaw", "extra", "([BI)I"⟩ : MethodName)) hown (mvT hZ (hw _ (List.mem_of_getElem? (i := 6) rfl))) (mvT hZ (hw _ (List.mem_of_getElem? (i := 7) rfl))) (mvT hZ (hw _ (List.mem_of_getElem? (i := 4) rfl))) (mvT hZ (hw _ (List.mem_of_getElem? (i := 8) rfl))) (by decide) (backOf (W := 2) (rm2 l Z a0 hw [] b143 (7 : Int32) n y155 7 T155.heap n0 (Nat.le_trans Fb154 K155.1) V155 hn (by decide) (by decide)) hZ (hw _ (List.mem_of_getElem? (i := 8) rfl)) (hw _ (List.mem_of_getElem? (i := 4) rfl)) (by decide) (by decide)) (g := (mkF m 264 #[.val (.long p0), .second, .val (.int p1), .val (.int p2), .val (.int (Int32.ofNat n)), .val (.ref b143), .val (.long (own_acc n y155 7)), .second] [(.int (7 : Int32)), (.ref b143), (.long (own_acc n y155 7))])) rfl (by rw [hml]; rfl) (argsL := [(.ref b143), (.int (7 : Int32))]) (rest := [(.long (own_acc n y155 7))]) (lenOf pd_1 rfl) rfl (by show 2 * 0 + _ ≤ _; exact Nat.le_of_eq rfl) (hb hby at_264) (fun _ _ => ⟨rfl, hQ164, (by decide : 1 + 0 ≤ _), (by decide : 8 + 0 ≤ _)⟩)
    dsimp only [Pt.U, Pt.locs, Pt.cells, Pt.slots] at X165 l165 y165 z165 st165 hQ165
    subst l165 y165 z165
    obtain ⟨rfl, N165q, hQ165⟩ := hQ165
    have N165 := Fr.app N164 N165q
    refine Rch.of (T' := T165) (g' := (mkF m 267 #[.val (.long p0), .second, .val (.int p1), .val (.int p2), .val (.int (Int32.ofNat n)), .val (.ref b143), .val (.long (own_acc n y155 7)), .second] [(.int (own_extra n y155 7)), (.long (own_acc n y155 7))])) st165 ?_
    refine Rch.of (T' := T165) (g' := (mkF m 268 #[.val (.long p0), .second, .val (.int p1), .val (.int p2), .val (.int (Int32.ofNat n)), .val (.ref b143), .val (.long (own_acc n y155 7)), .second] [(.long ((own_extra n y155 7).toInt64)), (.long (own_acc n y155 7))])) (fun _ kt => XS.i2l X165.here hx rfl (hb hby at_267) rfl kt) ?_
    refine Rch.of (T' := T165) (g' := (mkF m 269 #[.val (.long p0), .second, .val (.int p1), .val (.int p2), .val (.int (Int32.ofNat n)), .val (.ref b143), .val (.long (own_acc n y155 7)), .second] [(.long ((own_acc n y155 7) + ((own_extra n y155 7).toInt64)))])) (fun _ kt => XS.ladd X165.here hx rfl (hb hby at_268) rfl kt) ?_
    refine Rch.of (T' := T165) (g' := (mkF m 271 #[.val (.long p0), .second, .val (.int p1), .val (.int p2), .val (.int (Int32.ofNat n)), .val (.ref b143), .val (.long ((own_acc n y155 7) + ((own_extra n y155 7).toInt64))), .second] [])) (fun _ kt => XS.lstore X165.here hx rfl (hb hby at_269) rfl (l' := #[.val (.long p0), .second, .val (.int p1), .val (.int p2), .val (.int (Int32.ofNat n)), .val (.ref b143), .val (.long ((own_acc n y155 7) + ((own_extra n y155 7).toInt64))), .second]) rfl kt) ?_
    rw [show ((own_acc n y155 7) + ((own_extra n y155 7).toInt64)) = (own_acc n y155 8) from rfl]
    refine Rch.of (T' := T165) (g' := (mkF m 273 #[.val (.long p0), .second, .val (.int p1), .val (.int p2), .val (.int (Int32.ofNat n)), .val (.ref b143), .val (.long (own_acc n y155 8)), .second] [(.ref b143)])) (fun _ kt => XS.aload X165.here hx rfl (hb hby at_271) rfl rfl kt) ?_
    obtain ⟨_, _, ⟨T166, L166, k166, n166⟩, -, X166, ⟨Lc166, hQ166, l166, y166, z166⟩, st166⟩ := Jvm.LawKit.callS X165 hx (y := (⟨"com/example/kept_till_acked/kepttillacked/api/JsonOut", "escapedLength", "([B)J"⟩ : MethodName)) hown (mvT hZ (hw _ (List.mem_of_getElem? (i := 9) rfl))) (mvT hZ (hw _ (List.mem_of_getElem? (i := 10) rfl))) (mvT hZ (hw _ (List.mem_of_getElem? (i := 11) rfl))) (mvT hZ (hw _ (List.mem_of_getElem? (i := 12) rfl))) (by decide) (backOf (W := 0) (rm3 l Z a0 hw [] b143 n y155 t tab T155.heap n0 (Nat.le_trans Fb154 K155.1) V155 hn B155 (S1.ext (((Fb151.keep K152 (allS ge_b143 all0)).keep K153 (allS ge_b143 all0)).keep K155 (allS ge_b143 all0)).2) ((((Fb148.keep K150 (ninS ne_t_b143 nin0)).keep K152 (ninS ne_t_b143 nin0)).keep K153 (ninS ne_t_b143 nin0)).keep K155 (ninS ne_t_b143 nin0)) hE) hZ (hw _ (List.mem_of_getElem? (i := 12) rfl)) (hw _ (List.mem_of_getElem? (i := 11) rfl)) (by decide) (by decide)) (g := (mkF m 273 #[.val (.long p0), .second, .val (.int p1), .val (.int p2), .val (.int (Int32.ofNat n)), .val (.ref b143), .val (.long (own_acc n y155 8)), .second] [(.ref b143)])) rfl (by rw [hml]; rfl) (argsL := [(.ref b143)]) (rest := []) (lenOf pd_2 rfl) rfl (by show 2 * 0 + _ ≤ _; exact Nat.le_of_eq rfl) (hb hby at_273) (fun _ _ => ⟨rfl, hQ165, (by decide : 1 + 0 ≤ _), (by decide : 8 + 0 ≤ _)⟩)
    dsimp only [Pt.U, Pt.locs, Pt.cells, Pt.slots] at X166 l166 y166 z166 st166 hQ166
    subst l166 y166 z166
    obtain ⟨rfl, N166q, hQ166⟩ := hQ166
    have N166 := Fr.app N165 N166q
    refine Rch.of (T' := T166) (g' := (mkF m 276 #[.val (.long p0), .second, .val (.int p1), .val (.int p2), .val (.int (Int32.ofNat n)), .val (.ref b143), .val (.long (own_acc n y155 8)), .second] [(.long (own_acc n y155 n))])) st166 ?_
    rw [own_acc_ge n y155 8 hn]
    refine Rch.of (T' := T166) (g' := (mkF m 278 #[.val (.long p0), .second, .val (.int p1), .val (.int p2), .val (.int (Int32.ofNat n)), .val (.ref b143), .val (.long (own_acc n y155 n)), .second] [(.long (own_acc n y155 n)), (.long (own_acc n y155 n))])) (fun _ kt => XS.lload X166.here hx rfl (hb hby at_276) rfl  kt) ?_
    refine Rch.of (T' := T166) (g' := (mkF m 279 #[.val (.long p0), .second, .val (.int p1), .val (.int p2), .val (.int (Int32.ofNat n)), .val (.ref b143), .val (.long (own_acc n y155 n)), .second] [(.int (lcmpW (own_acc n y155 n) (own_acc n y155 n)))])) (fun _ kt => XS.lcmp X166.here hx rfl (hb hby at_278) rfl kt) ?_
    refine Rch.of (T' := T166) (g' := (mkF m 282 #[.val (.long p0), .second, .val (.int p1), .val (.int p2), .val (.int (Int32.ofNat n)), .val (.ref b143), .val (.long (own_acc n y155 n)), .second] [])) (fun _ kt => XS.ifNo X166.here hx rfl (hb hby at_279) rfl ((if0 _ _).trans (teq ((lw_eq _ _).mpr rfl)).2) kt) ?_
    refine Rch.of (T' := T166) (g' := (mkF m 283 #[.val (.long p0), .second, .val (.int p1), .val (.int p2), .val (.int (Int32.ofNat n)), .val (.ref b143), .val (.long (own_acc n y155 n)), .second] [(.int (1 : Int32))])) (fun _ kt => XS.iconst X166.here hx rfl (hb hby at_282) kt) ?_
    refine Rch.of (T' := T166) (g' := (mkF m 287 #[.val (.long p0), .second, .val (.int p1), .val (.int p2), .val (.int (Int32.ofNat n)), .val (.ref b143), .val (.long (own_acc n y155 n)), .second] [(.int (1 : Int32))])) (fun _ kt => XS.goto X166.here hx rfl (pc0 := 283) (pc' := 287) rfl (hb hby at_283) (by decide) (by decide) kt) ?_
    exact Rch.retN X166 hx (t := .boolean) hret (by simp) hlk (hb hby at_287) (fun U hU hF => hK _ U _ _ _ (by show Q_rm0 Z p0 p1 p2 t tab h0 n0 _ U.heap _; rw [hU, hQ166]; exact ⟨rfl, N166, trivial⟩) hF (by decide) (by decide))
  · skip
    refine Rch.of (T' := T155) (g' := (mkF m 116 #[.val (.long p0), .second, .val (.int p1), .val (.int p2), .val (.int ((p1 &&& (2147483647 : Int32)) % (9 : Int32))), .val (.ref b143), .unset, .unset] [])) (fun _ kt => XS.ifNo X155.here hx rfl (hb hby at_113) rfl ((if0 _ _).trans (feq c157).1) kt) ?_
    refine Rch.of (T' := T155) (g' := (mkF m 117 #[.val (.long p0), .second, .val (.int p1), .val (.int p2), .val (.int ((p1 &&& (2147483647 : Int32)) % (9 : Int32))), .val (.ref b143), .unset, .unset] [(.int p2)])) (fun _ kt => XS.iloadN X155.here hx rfl (hb hby at_116) rfl  kt) ?_
    refine Rch.of (T' := T155) (g' := (mkF m 118 #[.val (.long p0), .second, .val (.int p1), .val (.int p2), .val (.int ((p1 &&& (2147483647 : Int32)) % (9 : Int32))), .val (.ref b143), .unset, .unset] [(.int (1 : Int32)), (.int p2)])) (fun _ kt => XS.iconst X155.here hx rfl (hb hby at_117) kt) ?_
    refine Rch.of (T' := T155) (g' := (mkF m 119 #[.val (.long p0), .second, .val (.int p1), .val (.int p2), .val (.int ((p1 &&& (2147483647 : Int32)) % (9 : Int32))), .val (.ref b143), .unset, .unset] [(.int ((p2.toUInt32 >>> ((1 : Int32) &&& 31).toUInt32).toInt32))])) (fun _ kt => XS.iushr X155.here hx rfl (hb hby at_118) rfl kt) ?_
    refine Rch.of (T' := T155) (g' := (mkF m 121 #[.val (.long p0), .second, .val (.int p1), .val (.int p2), .val (.int ((p1 &&& (2147483647 : Int32)) % (9 : Int32))), .val (.ref b143), .unset, .unset] [(.int (7 : Int32)), (.int ((p2.toUInt32 >>> ((1 : Int32) &&& 31).toUInt32).toInt32))])) (fun _ kt => XS.bipush X155.here hx rfl (hb hby at_119) kt) ?_
    refine Rch.of (T' := T155) (g' := (mkF m 122 #[.val (.long p0), .second, .val (.int p1), .val (.int p2), .val (.int ((p1 &&& (2147483647 : Int32)) % (9 : Int32))), .val (.ref b143), .unset, .unset] [(.int (((p2.toUInt32 >>> ((1 : Int32) &&& 31).toUInt32).toInt32) &&& (7 : Int32)))])) (fun _ kt => XS.iand X155.here hx rfl (hb hby at_121) rfl kt) ?_
    refine Rch.of (T' := T155) (g' := (mkF m 124 #[.val (.long p0), .second, .val (.int p1), .val (.int p2), .val (.int ((p1 &&& (2147483647 : Int32)) % (9 : Int32))), .val (.ref b143), .val (.int (((p2.toUInt32 >>> ((1 : Int32) &&& 31).toUInt32).toInt32) &&& (7 : Int32))), .unset] [])) (fun _ kt => XS.istore X155.here hx rfl (hb hby at_122) rfl (l' := #[.val (.long p0), .second, .val (.int p1), .val (.int p2), .val (.int ((p1 &&& (2147483647 : Int32)) % (9 : Int32))), .val (.ref b143), .val (.int (((p2.toUInt32 >>> ((1 : Int32) &&& 31).toUInt32).toInt32) &&& (7 : Int32))), .unset]) rfl kt) ?_
    obtain ⟨q, hq, hq8⟩ : ∃ q : Nat, (((p2.toUInt32 >>> ((1 : Int32) &&& 31).toUInt32).toInt32) &&& (7 : Int32)).toInt = (q : Int) ∧ q < 8 := own_three p2
    refine Rch.of (T' := T155) (g' := (mkF m 126 #[.val (.long p0), .second, .val (.int p1), .val (.int p2), .val (.int ((p1 &&& (2147483647 : Int32)) % (9 : Int32))), .val (.ref b143), .val (.int (((p2.toUInt32 >>> ((1 : Int32) &&& 31).toUInt32).toInt32) &&& (7 : Int32))), .unset] [(.ref b143)])) (fun _ kt => XS.aload X155.here hx rfl (hb hby at_124) rfl rfl kt) ?_
    refine Rch.of (T' := T155) (g' := (mkF m 128 #[.val (.long p0), .second, .val (.int p1), .val (.int p2), .val (.int ((p1 &&& (2147483647 : Int32)) % (9 : Int32))), .val (.ref b143), .val (.int (((p2.toUInt32 >>> ((1 : Int32) &&& 31).toUInt32).toInt32) &&& (7 : Int32))), .unset] [(.int (((p2.toUInt32 >>> ((1 : Int32) &&& 31).toUInt32).toInt32) &&& (7 : Int32))), (.ref b143)])) (fun _ kt => XS.iload X155.here hx rfl (hb hby at_126) rfl  kt) ?_
    refine Rch.of (T' := T155) (g' := (mkF m 130 #[.val (.long p0), .second, .val (.int p1), .val (.int p2), .val (.int ((p1 &&& (2147483647 : Int32)) % (9 : Int32))), .val (.ref b143), .val (.int (((p2.toUInt32 >>> ((1 : Int32) &&& 31).toUInt32).toInt32) &&& (7 : Int32))), .unset] [(.int (-30 : Int32)), (.int (((p2.toUInt32 >>> ((1 : Int32) &&& 31).toUInt32).toInt32) &&& (7 : Int32))), (.ref b143)])) (fun _ kt => XS.bipush X155.here hx rfl (hb hby at_128) kt) ?_
    obtain ⟨_, _, ⟨T167, L167, k167, n167⟩, -, X167, ⟨Lc167, hQ167, l167, y167, z167⟩, st167⟩ := Jvm.LawKit.callS X155 hx (y := (⟨"com/example/kept_till_acked/kepttillacked/api/JsonOutEscapedLengthPinLaw", "set", "([BIB)V"⟩ : MethodName)) hown (mvT hZ (hw _ (List.mem_of_getElem? (i := 2) rfl))) (mvT hZ (hw _ (List.mem_of_getElem? (i := 3) rfl))) (mvT hZ (hw _ (List.mem_of_getElem? (i := 4) rfl))) (mvT hZ (hw _ (List.mem_of_getElem? (i := 5) rfl))) (by decide) (backOf (W := 0) (rm1 l Z a0 hw [] b143 (((p2.toUInt32 >>> ((1 : Int32) &&& 31).toUInt32).toInt32) &&& (7 : Int32)) (-30 : Int32) n y155 q T155.heap n0 (Nat.le_trans Fb154 K155.1) V155 ge_b143 hn hq B155) hZ (hw _ (List.mem_of_getElem? (i := 5) rfl)) (hw _ (List.mem_of_getElem? (i := 4) rfl)) (by decide) (by decide)) (g := (mkF m 130 #[.val (.long p0), .second, .val (.int p1), .val (.int p2), .val (.int ((p1 &&& (2147483647 : Int32)) % (9 : Int32))), .val (.ref b143), .val (.int (((p2.toUInt32 >>> ((1 : Int32) &&& 31).toUInt32).toInt32) &&& (7 : Int32))), .unset] [(.int (-30 : Int32)), (.int (((p2.toUInt32 >>> ((1 : Int32) &&& 31).toUInt32).toInt32) &&& (7 : Int32))), (.ref b143)])) rfl (by rw [hml]; rfl) (argsL := [(.ref b143), (.int (((p2.toUInt32 >>> ((1 : Int32) &&& 31).toUInt32).toInt32) &&& (7 : Int32))), (.int (-30 : Int32))]) (rest := []) (lenOf pd_0 rfl) rfl (by show 2 * 0 + _ ≤ _; exact Nat.le_of_eq rfl) (hb hby at_130) (fun _ _ => ⟨rfl, rfl, (by decide : 1 + 0 ≤ _), (by decide : 8 + 0 ≤ _)⟩)
    dsimp only [Pt.U, Pt.locs, Pt.cells, Pt.slots] at X167 l167 y167 z167 st167 hQ167
    subst l167 y167 z167
    obtain ⟨rfl, N167q, hQ167⟩ := hQ167
    have N167 := Fr.app N155 N167q
    obtain ⟨K167, y167, V167, B167⟩ := hQ167
    have Fb168 := (((((Fb148.keep K150 (ninS ne_t_b143 nin0)).keep K152 (ninS ne_t_b143 nin0)).keep K153 (ninS ne_t_b143 nin0)).keep K155 (ninS ne_t_b143 nin0)).keep K167 (ninS ne_t_b143 nin0))
    refine Rch.of (T' := T167) (g' := (mkF m 133 #[.val (.long p0), .second, .val (.int p1), .val (.int p2), .val (.int ((p1 &&& (2147483647 : Int32)) % (9 : Int32))), .val (.ref b143), .val (.int (((p2.toUInt32 >>> ((1 : Int32) &&& 31).toUInt32).toInt32) &&& (7 : Int32))), .unset] [])) st167 ?_
    refine Rch.of (T' := T167) (g' := (mkF m 135 #[.val (.long p0), .second, .val (.int p1), .val (.int p2), .val (.int ((p1 &&& (2147483647 : Int32)) % (9 : Int32))), .val (.ref b143), .val (.int (((p2.toUInt32 >>> ((1 : Int32) &&& 31).toUInt32).toInt32) &&& (7 : Int32))), .unset] [(.ref b143)])) (fun _ kt => XS.aload X167.here hx rfl (hb hby at_133) rfl rfl kt) ?_
    refine Rch.of (T' := T167) (g' := (mkF m 137 #[.val (.long p0), .second, .val (.int p1), .val (.int p2), .val (.int ((p1 &&& (2147483647 : Int32)) % (9 : Int32))), .val (.ref b143), .val (.int (((p2.toUInt32 >>> ((1 : Int32) &&& 31).toUInt32).toInt32) &&& (7 : Int32))), .unset] [(.int (((p2.toUInt32 >>> ((1 : Int32) &&& 31).toUInt32).toInt32) &&& (7 : Int32))), (.ref b143)])) (fun _ kt => XS.iload X167.here hx rfl (hb hby at_135) rfl  kt) ?_
    refine Rch.of (T' := T167) (g' := (mkF m 138 #[.val (.long p0), .second, .val (.int p1), .val (.int p2), .val (.int ((p1 &&& (2147483647 : Int32)) % (9 : Int32))), .val (.ref b143), .val (.int (((p2.toUInt32 >>> ((1 : Int32) &&& 31).toUInt32).toInt32) &&& (7 : Int32))), .unset] [(.int (1 : Int32)), (.int (((p2.toUInt32 >>> ((1 : Int32) &&& 31).toUInt32).toInt32) &&& (7 : Int32))), (.ref b143)])) (fun _ kt => XS.iconst X167.here hx rfl (hb hby at_137) kt) ?_
    refine Rch.of (T' := T167) (g' := (mkF m 139 #[.val (.long p0), .second, .val (.int p1), .val (.int p2), .val (.int ((p1 &&& (2147483647 : Int32)) % (9 : Int32))), .val (.ref b143), .val (.int (((p2.toUInt32 >>> ((1 : Int32) &&& 31).toUInt32).toInt32) &&& (7 : Int32))), .unset] [(.int ((((p2.toUInt32 >>> ((1 : Int32) &&& 31).toUInt32).toInt32) &&& (7 : Int32)) + (1 : Int32))), (.ref b143)])) (fun _ kt => XS.iadd X167.here hx rfl (hb hby at_138) rfl kt) ?_
    refine Rch.of (T' := T167) (g' := (mkF m 141 #[.val (.long p0), .second, .val (.int p1), .val (.int p2), .val (.int ((p1 &&& (2147483647 : Int32)) % (9 : Int32))), .val (.ref b143), .val (.int (((p2.toUInt32 >>> ((1 : Int32) &&& 31).toUInt32).toInt32) &&& (7 : Int32))), .unset] [(.int (-128 : Int32)), (.int ((((p2.toUInt32 >>> ((1 : Int32) &&& 31).toUInt32).toInt32) &&& (7 : Int32)) + (1 : Int32))), (.ref b143)])) (fun _ kt => XS.bipush X167.here hx rfl (hb hby at_139) kt) ?_
    obtain ⟨_, _, ⟨T169, L169, k169, n169⟩, -, X169, ⟨Lc169, hQ169, l169, y169, z169⟩, st169⟩ := Jvm.LawKit.callS X167 hx (y := (⟨"com/example/kept_till_acked/kepttillacked/api/JsonOutEscapedLengthPinLaw", "set", "([BIB)V"⟩ : MethodName)) hown (mvT hZ (hw _ (List.mem_of_getElem? (i := 2) rfl))) (mvT hZ (hw _ (List.mem_of_getElem? (i := 3) rfl))) (mvT hZ (hw _ (List.mem_of_getElem? (i := 4) rfl))) (mvT hZ (hw _ (List.mem_of_getElem? (i := 5) rfl))) (by decide) (backOf (W := 0) (rm1 l Z a0 hw [] b143 ((((p2.toUInt32 >>> ((1 : Int32) &&& 31).toUInt32).toInt32) &&& (7 : Int32)) + (1 : Int32)) (-128 : Int32) n y167 (q + 1) T167.heap n0 (Nat.le_trans (Nat.le_trans Fb154 K155.1) K167.1) V167 ge_b143 hn (own_plus hq (k := 1) (d := 1) (by decide) (by omega)) B167) hZ (hw _ (List.mem_of_getElem? (i := 5) rfl)) (hw _ (List.mem_of_getElem? (i := 4) rfl)) (by decide) (by decide)) (g := (mkF m 141 #[.val (.long p0), .second, .val (.int p1), .val (.int p2), .val (.int ((p1 &&& (2147483647 : Int32)) % (9 : Int32))), .val (.ref b143), .val (.int (((p2.toUInt32 >>> ((1 : Int32) &&& 31).toUInt32).toInt32) &&& (7 : Int32))), .unset] [(.int (-128 : Int32)), (.int ((((p2.toUInt32 >>> ((1 : Int32) &&& 31).toUInt32).toInt32) &&& (7 : Int32)) + (1 : Int32))), (.ref b143)])) rfl (by rw [hml]; rfl) (argsL := [(.ref b143), (.int ((((p2.toUInt32 >>> ((1 : Int32) &&& 31).toUInt32).toInt32) &&& (7 : Int32)) + (1 : Int32))), (.int (-128 : Int32))]) (rest := []) (lenOf pd_0 rfl) rfl (by show 2 * 0 + _ ≤ _; exact Nat.le_of_eq rfl) (hb hby at_141) (fun _ _ => ⟨rfl, rfl, (by decide : 1 + 0 ≤ _), (by decide : 8 + 0 ≤ _)⟩)
    dsimp only [Pt.U, Pt.locs, Pt.cells, Pt.slots] at X169 l169 y169 z169 st169 hQ169
    subst l169 y169 z169
    obtain ⟨rfl, N169q, hQ169⟩ := hQ169
    have N169 := Fr.app N167 N169q
    obtain ⟨K169, y169, V169, B169⟩ := hQ169
    have Fb170 := (((((Fb151.keep K152 (allS ge_b143 all0)).keep K153 (allS ge_b143 all0)).keep K155 (allS ge_b143 all0)).keep K167 (allS ge_b143 all0)).keep K169 (allS ge_b143 all0))
    refine Rch.of (T' := T169) (g' := (mkF m 144 #[.val (.long p0), .second, .val (.int p1), .val (.int p2), .val (.int ((p1 &&& (2147483647 : Int32)) % (9 : Int32))), .val (.ref b143), .val (.int (((p2.toUInt32 >>> ((1 : Int32) &&& 31).toUInt32).toInt32) &&& (7 : Int32))), .unset] [])) st169 ?_
    refine Rch.of (T' := T169) (g' := (mkF m 146 #[.val (.long p0), .second, .val (.int p1), .val (.int p2), .val (.int ((p1 &&& (2147483647 : Int32)) % (9 : Int32))), .val (.ref b143), .val (.int (((p2.toUInt32 >>> ((1 : Int32) &&& 31).toUInt32).toInt32) &&& (7 : Int32))), .unset] [(.ref b143)])) (fun _ kt => XS.aload X169.here hx rfl (hb hby at_144) rfl rfl kt) ?_
    refine Rch.of (T' := T169) (g' := (mkF m 148 #[.val (.long p0), .second, .val (.int p1), .val (.int p2), .val (.int ((p1 &&& (2147483647 : Int32)) % (9 : Int32))), .val (.ref b143), .val (.int (((p2.toUInt32 >>> ((1 : Int32) &&& 31).toUInt32).toInt32) &&& (7 : Int32))), .unset] [(.int (((p2.toUInt32 >>> ((1 : Int32) &&& 31).toUInt32).toInt32) &&& (7 : Int32))), (.ref b143)])) (fun _ kt => XS.iload X169.here hx rfl (hb hby at_146) rfl  kt) ?_
    refine Rch.of (T' := T169) (g' := (mkF m 149 #[.val (.long p0), .second, .val (.int p1), .val (.int p2), .val (.int ((p1 &&& (2147483647 : Int32)) % (9 : Int32))), .val (.ref b143), .val (.int (((p2.toUInt32 >>> ((1 : Int32) &&& 31).toUInt32).toInt32) &&& (7 : Int32))), .unset] [(.int (2 : Int32)), (.int (((p2.toUInt32 >>> ((1 : Int32) &&& 31).toUInt32).toInt32) &&& (7 : Int32))), (.ref b143)])) (fun _ kt => XS.iconst X169.here hx rfl (hb hby at_148) kt) ?_
    refine Rch.of (T' := T169) (g' := (mkF m 150 #[.val (.long p0), .second, .val (.int p1), .val (.int p2), .val (.int ((p1 &&& (2147483647 : Int32)) % (9 : Int32))), .val (.ref b143), .val (.int (((p2.toUInt32 >>> ((1 : Int32) &&& 31).toUInt32).toInt32) &&& (7 : Int32))), .unset] [(.int ((((p2.toUInt32 >>> ((1 : Int32) &&& 31).toUInt32).toInt32) &&& (7 : Int32)) + (2 : Int32))), (.ref b143)])) (fun _ kt => XS.iadd X169.here hx rfl (hb hby at_149) rfl kt) ?_
    refine Rch.of (T' := T169) (g' := (mkF m 151 #[.val (.long p0), .second, .val (.int p1), .val (.int p2), .val (.int ((p1 &&& (2147483647 : Int32)) % (9 : Int32))), .val (.ref b143), .val (.int (((p2.toUInt32 >>> ((1 : Int32) &&& 31).toUInt32).toInt32) &&& (7 : Int32))), .unset] [(.int p2), (.int ((((p2.toUInt32 >>> ((1 : Int32) &&& 31).toUInt32).toInt32) &&& (7 : Int32)) + (2 : Int32))), (.ref b143)])) (fun _ kt => XS.iloadN X169.here hx rfl (hb hby at_150) rfl  kt) ?_
    refine Rch.of (T' := T169) (g' := (mkF m 152 #[.val (.long p0), .second, .val (.int p1), .val (.int p2), .val (.int ((p1 &&& (2147483647 : Int32)) % (9 : Int32))), .val (.ref b143), .val (.int (((p2.toUInt32 >>> ((1 : Int32) &&& 31).toUInt32).toInt32) &&& (7 : Int32))), .unset] [(.int (4 : Int32)), (.int p2), (.int ((((p2.toUInt32 >>> ((1 : Int32) &&& 31).toUInt32).toInt32) &&& (7 : Int32)) + (2 : Int32))), (.ref b143)])) (fun _ kt => XS.iconst X169.here hx rfl (hb hby at_151) kt) ?_
    refine Rch.of (T' := T169) (g' := (mkF m 153 #[.val (.long p0), .second, .val (.int p1), .val (.int p2), .val (.int ((p1 &&& (2147483647 : Int32)) % (9 : Int32))), .val (.ref b143), .val (.int (((p2.toUInt32 >>> ((1 : Int32) &&& 31).toUInt32).toInt32) &&& (7 : Int32))), .unset] [(.int ((p2.toUInt32 >>> ((4 : Int32) &&& 31).toUInt32).toInt32)), (.int ((((p2.toUInt32 >>> ((1 : Int32) &&& 31).toUInt32).toInt32) &&& (7 : Int32)) + (2 : Int32))), (.ref b143)])) (fun _ kt => XS.iushr X169.here hx rfl (hb hby at_152) rfl kt) ?_
    refine Rch.of (T' := T169) (g' := (mkF m 154 #[.val (.long p0), .second, .val (.int p1), .val (.int p2), .val (.int ((p1 &&& (2147483647 : Int32)) % (9 : Int32))), .val (.ref b143), .val (.int (((p2.toUInt32 >>> ((1 : Int32) &&& 31).toUInt32).toInt32) &&& (7 : Int32))), .unset] [(.int (1 : Int32)), (.int ((p2.toUInt32 >>> ((4 : Int32) &&& 31).toUInt32).toInt32)), (.int ((((p2.toUInt32 >>> ((1 : Int32) &&& 31).toUInt32).toInt32) &&& (7 : Int32)) + (2 : Int32))), (.ref b143)])) (fun _ kt => XS.iconst X169.here hx rfl (hb hby at_153) kt) ?_
    refine Rch.of (T' := T169) (g' := (mkF m 155 #[.val (.long p0), .second, .val (.int p1), .val (.int p2), .val (.int ((p1 &&& (2147483647 : Int32)) % (9 : Int32))), .val (.ref b143), .val (.int (((p2.toUInt32 >>> ((1 : Int32) &&& 31).toUInt32).toInt32) &&& (7 : Int32))), .unset] [(.int (((p2.toUInt32 >>> ((4 : Int32) &&& 31).toUInt32).toInt32) &&& (1 : Int32))), (.int ((((p2.toUInt32 >>> ((1 : Int32) &&& 31).toUInt32).toInt32) &&& (7 : Int32)) + (2 : Int32))), (.ref b143)])) (fun _ kt => XS.iand X169.here hx rfl (hb hby at_154) rfl kt) ?_
    by_cases c171 : (((p2.toUInt32 >>> ((4 : Int32) &&& 31).toUInt32).toInt32) &&& (1 : Int32)) = (0 : Int32)
    · skip
      refine Rch.of (T' := T169) (g' := (mkF m 158 #[.val (.long p0), .second, .val (.int p1), .val (.int p2), .val (.int ((p1 &&& (2147483647 : Int32)) % (9 : Int32))), .val (.ref b143), .val (.int (((p2.toUInt32 >>> ((1 : Int32) &&& 31).toUInt32).toInt32) &&& (7 : Int32))), .unset] [(.int ((((p2.toUInt32 >>> ((1 : Int32) &&& 31).toUInt32).toInt32) &&& (7 : Int32)) + (2 : Int32))), (.ref b143)])) (fun _ kt => XS.ifNo X169.here hx rfl (hb hby at_155) rfl ((if0 _ _).trans (teq c171).2) kt) ?_
      refine Rch.of (T' := T169) (g' := (mkF m 160 #[.val (.long p0), .second, .val (.int p1), .val (.int p2), .val (.int ((p1 &&& (2147483647 : Int32)) % (9 : Int32))), .val (.ref b143), .val (.int (((p2.toUInt32 >>> ((1 : Int32) &&& 31).toUInt32).toInt32) &&& (7 : Int32))), .unset] [(.int (-88 : Int32)), (.int ((((p2.toUInt32 >>> ((1 : Int32) &&& 31).toUInt32).toInt32) &&& (7 : Int32)) + (2 : Int32))), (.ref b143)])) (fun _ kt => XS.bipush X169.here hx rfl (hb hby at_158) kt) ?_
      refine Rch.of (T' := T169) (g' := (mkF m 165 #[.val (.long p0), .second, .val (.int p1), .val (.int p2), .val (.int ((p1 &&& (2147483647 : Int32)) % (9 : Int32))), .val (.ref b143), .val (.int (((p2.toUInt32 >>> ((1 : Int32) &&& 31).toUInt32).toInt32) &&& (7 : Int32))), .unset] [(.int (-88 : Int32)), (.int ((((p2.toUInt32 >>> ((1 : Int32) &&& 31).toUInt32).toInt32) &&& (7 : Int32)) + (2 : Int32))), (.ref b143)])) (fun _ kt => XS.goto X169.here hx rfl (pc0 := 160) (pc' := 165) rfl (hb hby at_160) (by decide) (by decide) kt) ?_
      obtain ⟨_, _, ⟨T172, L172, k172, n172⟩, -, X172, ⟨Lc172, hQ172, l172, y172, z172⟩, st172⟩ := Jvm.LawKit.callS X169 hx (y := (⟨"com/example/kept_till_acked/kepttillacked/api/JsonOutEscapedLengthPinLaw", "set", "([BIB)V"⟩ : MethodName)) hown (mvT hZ (hw _ (List.mem_of_getElem? (i := 2) rfl))) (mvT hZ (hw _ (List.mem_of_getElem? (i := 3) rfl))) (mvT hZ (hw _ (List.mem_of_getElem? (i := 4) rfl))) (mvT hZ (hw _ (List.mem_of_getElem? (i := 5) rfl))) (by decide) (backOf (W := 0) (rm1 l Z a0 hw [] b143 ((((p2.toUInt32 >>> ((1 : Int32) &&& 31).toUInt32).toInt32) &&& (7 : Int32)) + (2 : Int32)) (-88 : Int32) n y169 (q + 2) T169.heap n0 (Nat.le_trans (Nat.le_trans (Nat.le_trans Fb154 K155.1) K167.1) K169.1) V169 ge_b143 hn (own_plus hq (k := 2) (d := 2) (by decide) (by omega)) B169) hZ (hw _ (List.mem_of_getElem? (i := 5) rfl)) (hw _ (List.mem_of_getElem? (i := 4) rfl)) (by decide) (by decide)) (g := (mkF m 165 #[.val (.long p0), .second, .val (.int p1), .val (.int p2), .val (.int ((p1 &&& (2147483647 : Int32)) % (9 : Int32))), .val (.ref b143), .val (.int (((p2.toUInt32 >>> ((1 : Int32) &&& 31).toUInt32).toInt32) &&& (7 : Int32))), .unset] [(.int (-88 : Int32)), (.int ((((p2.toUInt32 >>> ((1 : Int32) &&& 31).toUInt32).toInt32) &&& (7 : Int32)) + (2 : Int32))), (.ref b143)])) rfl (by rw [hml]; rfl) (argsL := [(.ref b143), (.int ((((p2.toUInt32 >>> ((1 : Int32) &&& 31).toUInt32).toInt32) &&& (7 : Int32)) + (2 : Int32))), (.int (-88 : Int32))]) (rest := []) (lenOf pd_0 rfl) rfl (by show 2 * 0 + _ ≤ _; exact Nat.le_of_eq rfl) (hb hby at_165) (fun _ _ => ⟨rfl, rfl, (by decide : 1 + 0 ≤ _), (by decide : 8 + 0 ≤ _)⟩)
      dsimp only [Pt.U, Pt.locs, Pt.cells, Pt.slots] at X172 l172 y172 z172 st172 hQ172
      subst l172 y172 z172
      obtain ⟨rfl, N172q, hQ172⟩ := hQ172
      have N172 := Fr.app N169 N172q
      obtain ⟨K172, y172, V172, B172⟩ := hQ172
      refine Rch.of (T' := T172) (g' := (mkF m 168 #[.val (.long p0), .second, .val (.int p1), .val (.int p2), .val (.int ((p1 &&& (2147483647 : Int32)) % (9 : Int32))), .val (.ref b143), .val (.int (((p2.toUInt32 >>> ((1 : Int32) &&& 31).toUInt32).toInt32) &&& (7 : Int32))), .unset] [])) st172 ?_
      have hz : ((p1 &&& (2147483647 : Int32)) % (9 : Int32)) = Int32.ofNat n := Int32.toInt_inj.mp (by rw [hk, oTo (by omega)])
      rw [hz]
      refine Rch.of (T' := T172) (g' := (mkF m 170 #[.val (.long p0), .second, .val (.int p1), .val (.int p2), .val (.int (Int32.ofNat n)), .val (.ref b143), .val (.int (((p2.toUInt32 >>> ((1 : Int32) &&& 31).toUInt32).toInt32) &&& (7 : Int32))), .unset] [(.int (Int32.ofNat n))])) (fun _ kt => XS.iload X172.here hx rfl (hb hby at_168) rfl  kt) ?_
      refine Rch.of (T' := T172) (g' := (mkF m 171 #[.val (.long p0), .second, .val (.int p1), .val (.int p2), .val (.int (Int32.ofNat n)), .val (.ref b143), .val (.int (((p2.toUInt32 >>> ((1 : Int32) &&& 31).toUInt32).toInt32) &&& (7 : Int32))), .unset] [(.long ((Int32.ofNat n).toInt64))])) (fun _ kt => XS.i2l X172.here hx rfl (hb hby at_170) rfl kt) ?_
      refine Rch.of (T' := T172) (g' := (mkF m 173 #[.val (.long p0), .second, .val (.int p1), .val (.int p2), .val (.int (Int32.ofNat n)), .val (.ref b143), .val (.long ((Int32.ofNat n).toInt64)), .second] [])) (fun _ kt => XS.lstore X172.here hx rfl (hb hby at_171) rfl (l' := #[.val (.long p0), .second, .val (.int p1), .val (.int p2), .val (.int (Int32.ofNat n)), .val (.ref b143), .val (.long ((Int32.ofNat n).toInt64)), .second]) rfl kt) ?_
      rw [show ((Int32.ofNat n).toInt64) = (own_acc n y172 0) from rfl]
      refine Rch.of (T' := T172) (g' := (mkF m 175 #[.val (.long p0), .second, .val (.int p1), .val (.int p2), .val (.int (Int32.ofNat n)), .val (.ref b143), .val (.long (own_acc n y172 0)), .second] [(.long (own_acc n y172 0))])) (fun _ kt => XS.lload X172.here hx rfl (hb hby at_173) rfl  kt) ?_
      refine Rch.of (T' := T172) (g' := (mkF m 177 #[.val (.long p0), .second, .val (.int p1), .val (.int p2), .val (.int (Int32.ofNat n)), .val (.ref b143), .val (.long (own_acc n y172 0)), .second] [(.ref b143), (.long (own_acc n y172 0))])) (fun _ kt => XS.aload X172.here hx rfl (hb hby at_175) rfl rfl kt) ?_
      refine Rch.of (T' := T172) (g' := (mkF m 178 #[.val (.long p0), .second, .val (.int p1), .val (.int p2), .val (.int (Int32.ofNat n)), .val (.ref b143), .val (.long (own_acc n y172 0)), .second] [(.int (0 : Int32)), (.ref b143), (.long (own_acc n y172 0))])) (fun _ kt => XS.iconst X172.here hx rfl (hb hby at_177) kt) ?_
      obtain ⟨_, _, ⟨T173, L173, k173, n173⟩, -, X173, ⟨Lc173, hQ173, l173, y173, z173⟩, st173⟩ := Jvm.LawKit.callS X172 hx (y := (⟨"com/example/kept_till_acked/kepttillacked/api/JsonOutEscapedLengthPinLaw", "extra", "([BI)I"⟩ : MethodName)) hown (mvT hZ (hw _ (List.mem_of_getElem? (i := 6) rfl))) (mvT hZ (hw _ (List.mem_of_getElem? (i := 7) rfl))) (mvT hZ (hw _ (List.mem_of_getElem? (i := 4) rfl))) (mvT hZ (hw _ (List.mem_of_getElem? (i := 8) rfl))) (by decide) (backOf (W := 2) (rm2 l Z a0 hw [] b143 (0 : Int32) n y172 0 T172.heap n0 (Nat.le_trans (Nat.le_trans (Nat.le_trans (Nat.le_trans Fb154 K155.1) K167.1) K169.1) K172.1) V172 hn (by decide) (by decide)) hZ (hw _ (List.mem_of_getElem? (i := 8) rfl)) (hw _ (List.mem_of_getElem? (i := 4) rfl)) (by decide) (by decide)) (g := (mkF m 178 #[.val (.long p0), .second, .val (.int p1), .val (.int p2), .val (.int (Int32.ofNat n)), .val (.ref b143), .val (.long (own_acc n y172 0)), .second] [(.int (0 : Int32)), (.ref b143), (.long (own_acc n y172 0))])) rfl (by rw [hml]; rfl) (argsL := [(.ref b143), (.int (0 : Int32))]) (rest := [(.long (own_acc n y172 0))]) (lenOf pd_1 rfl) rfl (by show 2 * 0 + _ ≤ _; exact Nat.le_of_eq rfl) (hb hby at_178) (fun _ _ => ⟨rfl, rfl, (by decide : 1 + 0 ≤ _), (by decide : 8 + 0 ≤ _)⟩)
      dsimp only [Pt.U, Pt.locs, Pt.cells, Pt.slots] at X173 l173 y173 z173 st173 hQ173
      subst l173 y173 z173
      obtain ⟨rfl, N173q, hQ173⟩ := hQ173
      have N173 := Fr.app N172 N173q
      refine Rch.of (T' := T173) (g' := (mkF m 181 #[.val (.long p0), .second, .val (.int p1), .val (.int p2), .val (.int (Int32.ofNat n)), .val (.ref b143), .val (.long (own_acc n y172 0)), .second] [(.int (own_extra n y172 0)), (.long (own_acc n y172 0))])) st173 ?_
      refine Rch.of (T' := T173) (g' := (mkF m 182 #[.val (.long p0), .second, .val (.int p1), .val (.int p2), .val (.int (Int32.ofNat n)), .val (.ref b143), .val (.long (own_acc n y172 0)), .second] [(.long ((own_extra n y172 0).toInt64)), (.long (own_acc n y172 0))])) (fun _ kt => XS.i2l X173.here hx rfl (hb hby at_181) rfl kt) ?_
      refine Rch.of (T' := T173) (g' := (mkF m 183 #[.val (.long p0), .second, .val (.int p1), .val (.int p2), .val (.int (Int32.ofNat n)), .val (.ref b143), .val (.long (own_acc n y172 0)), .second] [(.long ((own_acc n y172 0) + ((own_extra n y172 0).toInt64)))])) (fun _ kt => XS.ladd X173.here hx rfl (hb hby at_182) rfl kt) ?_
      refine Rch.of (T' := T173) (g' := (mkF m 185 #[.val (.long p0), .second, .val (.int p1), .val (.int p2), .val (.int (Int32.ofNat n)), .val (.ref b143), .val (.long ((own_acc n y172 0) + ((own_extra n y172 0).toInt64))), .second] [])) (fun _ kt => XS.lstore X173.here hx rfl (hb hby at_183) rfl (l' := #[.val (.long p0), .second, .val (.int p1), .val (.int p2), .val (.int (Int32.ofNat n)), .val (.ref b143), .val (.long ((own_acc n y172 0) + ((own_extra n y172 0).toInt64))), .second]) rfl kt) ?_
      rw [show ((own_acc n y172 0) + ((own_extra n y172 0).toInt64)) = (own_acc n y172 1) from rfl]
      refine Rch.of (T' := T173) (g' := (mkF m 187 #[.val (.long p0), .second, .val (.int p1), .val (.int p2), .val (.int (Int32.ofNat n)), .val (.ref b143), .val (.long (own_acc n y172 1)), .second] [(.long (own_acc n y172 1))])) (fun _ kt => XS.lload X173.here hx rfl (hb hby at_185) rfl  kt) ?_
      refine Rch.of (T' := T173) (g' := (mkF m 189 #[.val (.long p0), .second, .val (.int p1), .val (.int p2), .val (.int (Int32.ofNat n)), .val (.ref b143), .val (.long (own_acc n y172 1)), .second] [(.ref b143), (.long (own_acc n y172 1))])) (fun _ kt => XS.aload X173.here hx rfl (hb hby at_187) rfl rfl kt) ?_
      refine Rch.of (T' := T173) (g' := (mkF m 190 #[.val (.long p0), .second, .val (.int p1), .val (.int p2), .val (.int (Int32.ofNat n)), .val (.ref b143), .val (.long (own_acc n y172 1)), .second] [(.int (1 : Int32)), (.ref b143), (.long (own_acc n y172 1))])) (fun _ kt => XS.iconst X173.here hx rfl (hb hby at_189) kt) ?_
      obtain ⟨_, _, ⟨T174, L174, k174, n174⟩, -, X174, ⟨Lc174, hQ174, l174, y174, z174⟩, st174⟩ := Jvm.LawKit.callS X173 hx (y := (⟨"com/example/kept_till_acked/kepttillacked/api/JsonOutEscapedLengthPinLaw", "extra", "([BI)I"⟩ : MethodName)) hown (mvT hZ (hw _ (List.mem_of_getElem? (i := 6) rfl))) (mvT hZ (hw _ (List.mem_of_getElem? (i := 7) rfl))) (mvT hZ (hw _ (List.mem_of_getElem? (i := 4) rfl))) (mvT hZ (hw _ (List.mem_of_getElem? (i := 8) rfl))) (by decide) (backOf (W := 2) (rm2 l Z a0 hw [] b143 (1 : Int32) n y172 1 T172.heap n0 (Nat.le_trans (Nat.le_trans (Nat.le_trans (Nat.le_trans Fb154 K155.1) K167.1) K169.1) K172.1) V172 hn (by decide) (by decide)) hZ (hw _ (List.mem_of_getElem? (i := 8) rfl)) (hw _ (List.mem_of_getElem? (i := 4) rfl)) (by decide) (by decide)) (g := (mkF m 190 #[.val (.long p0), .second, .val (.int p1), .val (.int p2), .val (.int (Int32.ofNat n)), .val (.ref b143), .val (.long (own_acc n y172 1)), .second] [(.int (1 : Int32)), (.ref b143), (.long (own_acc n y172 1))])) rfl (by rw [hml]; rfl) (argsL := [(.ref b143), (.int (1 : Int32))]) (rest := [(.long (own_acc n y172 1))]) (lenOf pd_1 rfl) rfl (by show 2 * 0 + _ ≤ _; exact Nat.le_of_eq rfl) (hb hby at_190) (fun _ _ => ⟨rfl, hQ173, (by decide : 1 + 0 ≤ _), (by decide : 8 + 0 ≤ _)⟩)
      dsimp only [Pt.U, Pt.locs, Pt.cells, Pt.slots] at X174 l174 y174 z174 st174 hQ174
      subst l174 y174 z174
      obtain ⟨rfl, N174q, hQ174⟩ := hQ174
      have N174 := Fr.app N173 N174q
      refine Rch.of (T' := T174) (g' := (mkF m 193 #[.val (.long p0), .second, .val (.int p1), .val (.int p2), .val (.int (Int32.ofNat n)), .val (.ref b143), .val (.long (own_acc n y172 1)), .second] [(.int (own_extra n y172 1)), (.long (own_acc n y172 1))])) st174 ?_
      refine Rch.of (T' := T174) (g' := (mkF m 194 #[.val (.long p0), .second, .val (.int p1), .val (.int p2), .val (.int (Int32.ofNat n)), .val (.ref b143), .val (.long (own_acc n y172 1)), .second] [(.long ((own_extra n y172 1).toInt64)), (.long (own_acc n y172 1))])) (fun _ kt => XS.i2l X174.here hx rfl (hb hby at_193) rfl kt) ?_
      refine Rch.of (T' := T174) (g' := (mkF m 195 #[.val (.long p0), .second, .val (.int p1), .val (.int p2), .val (.int (Int32.ofNat n)), .val (.ref b143), .val (.long (own_acc n y172 1)), .second] [(.long ((own_acc n y172 1) + ((own_extra n y172 1).toInt64)))])) (fun _ kt => XS.ladd X174.here hx rfl (hb hby at_194) rfl kt) ?_
      refine Rch.of (T' := T174) (g' := (mkF m 197 #[.val (.long p0), .second, .val (.int p1), .val (.int p2), .val (.int (Int32.ofNat n)), .val (.ref b143), .val (.long ((own_acc n y172 1) + ((own_extra n y172 1).toInt64))), .second] [])) (fun _ kt => XS.lstore X174.here hx rfl (hb hby at_195) rfl (l' := #[.val (.long p0), .second, .val (.int p1), .val (.int p2), .val (.int (Int32.ofNat n)), .val (.ref b143), .val (.long ((own_acc n y172 1) + ((own_extra n y172 1).toInt64))), .second]) rfl kt) ?_
      rw [show ((own_acc n y172 1) + ((own_extra n y172 1).toInt64)) = (own_acc n y172 2) from rfl]
      refine Rch.of (T' := T174) (g' := (mkF m 199 #[.val (.long p0), .second, .val (.int p1), .val (.int p2), .val (.int (Int32.ofNat n)), .val (.ref b143), .val (.long (own_acc n y172 2)), .second] [(.long (own_acc n y172 2))])) (fun _ kt => XS.lload X174.here hx rfl (hb hby at_197) rfl  kt) ?_
      refine Rch.of (T' := T174) (g' := (mkF m 201 #[.val (.long p0), .second, .val (.int p1), .val (.int p2), .val (.int (Int32.ofNat n)), .val (.ref b143), .val (.long (own_acc n y172 2)), .second] [(.ref b143), (.long (own_acc n y172 2))])) (fun _ kt => XS.aload X174.here hx rfl (hb hby at_199) rfl rfl kt) ?_
      refine Rch.of (T' := T174) (g' := (mkF m 202 #[.val (.long p0), .second, .val (.int p1), .val (.int p2), .val (.int (Int32.ofNat n)), .val (.ref b143), .val (.long (own_acc n y172 2)), .second] [(.int (2 : Int32)), (.ref b143), (.long (own_acc n y172 2))])) (fun _ kt => XS.iconst X174.here hx rfl (hb hby at_201) kt) ?_
      obtain ⟨_, _, ⟨T175, L175, k175, n175⟩, -, X175, ⟨Lc175, hQ175, l175, y175, z175⟩, st175⟩ := Jvm.LawKit.callS X174 hx (y := (⟨"com/example/kept_till_acked/kepttillacked/api/JsonOutEscapedLengthPinLaw", "extra", "([BI)I"⟩ : MethodName)) hown (mvT hZ (hw _ (List.mem_of_getElem? (i := 6) rfl))) (mvT hZ (hw _ (List.mem_of_getElem? (i := 7) rfl))) (mvT hZ (hw _ (List.mem_of_getElem? (i := 4) rfl))) (mvT hZ (hw _ (List.mem_of_getElem? (i := 8) rfl))) (by decide) (backOf (W := 2) (rm2 l Z a0 hw [] b143 (2 : Int32) n y172 2 T172.heap n0 (Nat.le_trans (Nat.le_trans (Nat.le_trans (Nat.le_trans Fb154 K155.1) K167.1) K169.1) K172.1) V172 hn (by decide) (by decide)) hZ (hw _ (List.mem_of_getElem? (i := 8) rfl)) (hw _ (List.mem_of_getElem? (i := 4) rfl)) (by decide) (by decide)) (g := (mkF m 202 #[.val (.long p0), .second, .val (.int p1), .val (.int p2), .val (.int (Int32.ofNat n)), .val (.ref b143), .val (.long (own_acc n y172 2)), .second] [(.int (2 : Int32)), (.ref b143), (.long (own_acc n y172 2))])) rfl (by rw [hml]; rfl) (argsL := [(.ref b143), (.int (2 : Int32))]) (rest := [(.long (own_acc n y172 2))]) (lenOf pd_1 rfl) rfl (by show 2 * 0 + _ ≤ _; exact Nat.le_of_eq rfl) (hb hby at_202) (fun _ _ => ⟨rfl, hQ174, (by decide : 1 + 0 ≤ _), (by decide : 8 + 0 ≤ _)⟩)
      dsimp only [Pt.U, Pt.locs, Pt.cells, Pt.slots] at X175 l175 y175 z175 st175 hQ175
      subst l175 y175 z175
      obtain ⟨rfl, N175q, hQ175⟩ := hQ175
      have N175 := Fr.app N174 N175q
      refine Rch.of (T' := T175) (g' := (mkF m 205 #[.val (.long p0), .second, .val (.int p1), .val (.int p2), .val (.int (Int32.ofNat n)), .val (.ref b143), .val (.long (own_acc n y172 2)), .second] [(.int (own_extra n y172 2)), (.long (own_acc n y172 2))])) st175 ?_
      refine Rch.of (T' := T175) (g' := (mkF m 206 #[.val (.long p0), .second, .val (.int p1), .val (.int p2), .val (.int (Int32.ofNat n)), .val (.ref b143), .val (.long (own_acc n y172 2)), .second] [(.long ((own_extra n y172 2).toInt64)), (.long (own_acc n y172 2))])) (fun _ kt => XS.i2l X175.here hx rfl (hb hby at_205) rfl kt) ?_
      refine Rch.of (T' := T175) (g' := (mkF m 207 #[.val (.long p0), .second, .val (.int p1), .val (.int p2), .val (.int (Int32.ofNat n)), .val (.ref b143), .val (.long (own_acc n y172 2)), .second] [(.long ((own_acc n y172 2) + ((own_extra n y172 2).toInt64)))])) (fun _ kt => XS.ladd X175.here hx rfl (hb hby at_206) rfl kt) ?_
      refine Rch.of (T' := T175) (g' := (mkF m 209 #[.val (.long p0), .second, .val (.int p1), .val (.int p2), .val (.int (Int32.ofNat n)), .val (.ref b143), .val (.long ((own_acc n y172 2) + ((own_extra n y172 2).toInt64))), .second] [])) (fun _ kt => XS.lstore X175.here hx rfl (hb hby at_207) rfl (l' := #[.val (.long p0), .second, .val (.int p1), .val (.int p2), .val (.int (Int32.ofNat n)), .val (.ref b143), .val (.long ((own_acc n y172 2) + ((own_extra n y172 2).toInt64))), .second]) rfl kt) ?_
      rw [show ((own_acc n y172 2) + ((own_extra n y172 2).toInt64)) = (own_acc n y172 3) from rfl]
      refine Rch.of (T' := T175) (g' := (mkF m 211 #[.val (.long p0), .second, .val (.int p1), .val (.int p2), .val (.int (Int32.ofNat n)), .val (.ref b143), .val (.long (own_acc n y172 3)), .second] [(.long (own_acc n y172 3))])) (fun _ kt => XS.lload X175.here hx rfl (hb hby at_209) rfl  kt) ?_
      refine Rch.of (T' := T175) (g' := (mkF m 213 #[.val (.long p0), .second, .val (.int p1), .val (.int p2), .val (.int (Int32.ofNat n)), .val (.ref b143), .val (.long (own_acc n y172 3)), .second] [(.ref b143), (.long (own_acc n y172 3))])) (fun _ kt => XS.aload X175.here hx rfl (hb hby at_211) rfl rfl kt) ?_
      refine Rch.of (T' := T175) (g' := (mkF m 214 #[.val (.long p0), .second, .val (.int p1), .val (.int p2), .val (.int (Int32.ofNat n)), .val (.ref b143), .val (.long (own_acc n y172 3)), .second] [(.int (3 : Int32)), (.ref b143), (.long (own_acc n y172 3))])) (fun _ kt => XS.iconst X175.here hx rfl (hb hby at_213) kt) ?_
      obtain ⟨_, _, ⟨T176, L176, k176, n176⟩, -, X176, ⟨Lc176, hQ176, l176, y176, z176⟩, st176⟩ := Jvm.LawKit.callS X175 hx (y := (⟨"com/example/kept_till_acked/kepttillacked/api/JsonOutEscapedLengthPinLaw", "extra", "([BI)I"⟩ : MethodName)) hown (mvT hZ (hw _ (List.mem_of_getElem? (i := 6) rfl))) (mvT hZ (hw _ (List.mem_of_getElem? (i := 7) rfl))) (mvT hZ (hw _ (List.mem_of_getElem? (i := 4) rfl))) (mvT hZ (hw _ (List.mem_of_getElem? (i := 8) rfl))) (by decide) (backOf (W := 2) (rm2 l Z a0 hw [] b143 (3 : Int32) n y172 3 T172.heap n0 (Nat.le_trans (Nat.le_trans (Nat.le_trans (Nat.le_trans Fb154 K155.1) K167.1) K169.1) K172.1) V172 hn (by decide) (by decide)) hZ (hw _ (List.mem_of_getElem? (i := 8) rfl)) (hw _ (List.mem_of_getElem? (i := 4) rfl)) (by decide) (by decide)) (g := (mkF m 214 #[.val (.long p0), .second, .val (.int p1), .val (.int p2), .val (.int (Int32.ofNat n)), .val (.ref b143), .val (.long (own_acc n y172 3)), .second] [(.int (3 : Int32)), (.ref b143), (.long (own_acc n y172 3))])) rfl (by rw [hml]; rfl) (argsL := [(.ref b143), (.int (3 : Int32))]) (rest := [(.long (own_acc n y172 3))]) (lenOf pd_1 rfl) rfl (by show 2 * 0 + _ ≤ _; exact Nat.le_of_eq rfl) (hb hby at_214) (fun _ _ => ⟨rfl, hQ175, (by decide : 1 + 0 ≤ _), (by decide : 8 + 0 ≤ _)⟩)
      dsimp only [Pt.U, Pt.locs, Pt.cells, Pt.slots] at X176 l176 y176 z176 st176 hQ176
      subst l176 y176 z176
      obtain ⟨rfl, N176q, hQ176⟩ := hQ176
      have N176 := Fr.app N175 N176q
      refine Rch.of (T' := T176) (g' := (mkF m 217 #[.val (.long p0), .second, .val (.int p1), .val (.int p2), .val (.int (Int32.ofNat n)), .val (.ref b143), .val (.long (own_acc n y172 3)), .second] [(.int (own_extra n y172 3)), (.long (own_acc n y172 3))])) st176 ?_
      refine Rch.of (T' := T176) (g' := (mkF m 218 #[.val (.long p0), .second, .val (.int p1), .val (.int p2), .val (.int (Int32.ofNat n)), .val (.ref b143), .val (.long (own_acc n y172 3)), .second] [(.long ((own_extra n y172 3).toInt64)), (.long (own_acc n y172 3))])) (fun _ kt => XS.i2l X176.here hx rfl (hb hby at_217) rfl kt) ?_
      refine Rch.of (T' := T176) (g' := (mkF m 219 #[.val (.long p0), .second, .val (.int p1), .val (.int p2), .val (.int (Int32.ofNat n)), .val (.ref b143), .val (.long (own_acc n y172 3)), .second] [(.long ((own_acc n y172 3) + ((own_extra n y172 3).toInt64)))])) (fun _ kt => XS.ladd X176.here hx rfl (hb hby at_218) rfl kt) ?_
      refine Rch.of (T' := T176) (g' := (mkF m 221 #[.val (.long p0), .second, .val (.int p1), .val (.int p2), .val (.int (Int32.ofNat n)), .val (.ref b143), .val (.long ((own_acc n y172 3) + ((own_extra n y172 3).toInt64))), .second] [])) (fun _ kt => XS.lstore X176.here hx rfl (hb hby at_219) rfl (l' := #[.val (.long p0), .second, .val (.int p1), .val (.int p2), .val (.int (Int32.ofNat n)), .val (.ref b143), .val (.long ((own_acc n y172 3) + ((own_extra n y172 3).toInt64))), .second]) rfl kt) ?_
      rw [show ((own_acc n y172 3) + ((own_extra n y172 3).toInt64)) = (own_acc n y172 4) from rfl]
      refine Rch.of (T' := T176) (g' := (mkF m 223 #[.val (.long p0), .second, .val (.int p1), .val (.int p2), .val (.int (Int32.ofNat n)), .val (.ref b143), .val (.long (own_acc n y172 4)), .second] [(.long (own_acc n y172 4))])) (fun _ kt => XS.lload X176.here hx rfl (hb hby at_221) rfl  kt) ?_
      refine Rch.of (T' := T176) (g' := (mkF m 225 #[.val (.long p0), .second, .val (.int p1), .val (.int p2), .val (.int (Int32.ofNat n)), .val (.ref b143), .val (.long (own_acc n y172 4)), .second] [(.ref b143), (.long (own_acc n y172 4))])) (fun _ kt => XS.aload X176.here hx rfl (hb hby at_223) rfl rfl kt) ?_
      refine Rch.of (T' := T176) (g' := (mkF m 226 #[.val (.long p0), .second, .val (.int p1), .val (.int p2), .val (.int (Int32.ofNat n)), .val (.ref b143), .val (.long (own_acc n y172 4)), .second] [(.int (4 : Int32)), (.ref b143), (.long (own_acc n y172 4))])) (fun _ kt => XS.iconst X176.here hx rfl (hb hby at_225) kt) ?_
      obtain ⟨_, _, ⟨T177, L177, k177, n177⟩, -, X177, ⟨Lc177, hQ177, l177, y177, z177⟩, st177⟩ := Jvm.LawKit.callS X176 hx (y := (⟨"com/example/kept_till_acked/kepttillacked/api/JsonOutEscapedLengthPinLaw", "extra", "([BI)I"⟩ : MethodName)) hown (mvT hZ (hw _ (List.mem_of_getElem? (i := 6) rfl))) (mvT hZ (hw _ (List.mem_of_getElem? (i := 7) rfl))) (mvT hZ (hw _ (List.mem_of_getElem? (i := 4) rfl))) (mvT hZ (hw _ (List.mem_of_getElem? (i := 8) rfl))) (by decide) (backOf (W := 2) (rm2 l Z a0 hw [] b143 (4 : Int32) n y172 4 T172.heap n0 (Nat.le_trans (Nat.le_trans (Nat.le_trans (Nat.le_trans Fb154 K155.1) K167.1) K169.1) K172.1) V172 hn (by decide) (by decide)) hZ (hw _ (List.mem_of_getElem? (i := 8) rfl)) (hw _ (List.mem_of_getElem? (i := 4) rfl)) (by decide) (by decide)) (g := (mkF m 226 #[.val (.long p0), .second, .val (.int p1), .val (.int p2), .val (.int (Int32.ofNat n)), .val (.ref b143), .val (.long (own_acc n y172 4)), .second] [(.int (4 : Int32)), (.ref b143), (.long (own_acc n y172 4))])) rfl (by rw [hml]; rfl) (argsL := [(.ref b143), (.int (4 : Int32))]) (rest := [(.long (own_acc n y172 4))]) (lenOf pd_1 rfl) rfl (by show 2 * 0 + _ ≤ _; exact Nat.le_of_eq rfl) (hb hby at_226) (fun _ _ => ⟨rfl, hQ176, (by decide : 1 + 0 ≤ _), (by decide : 8 + 0 ≤ _)⟩)
      dsimp only [Pt.U, Pt.locs, Pt.cells, Pt.slots] at X177 l177 y177 z177 st177 hQ177
      subst l177 y177 z177
      obtain ⟨rfl, N177q, hQ177⟩ := hQ177
      have N177 := Fr.app N176 N177q
      refine Rch.of (T' := T177) (g' := (mkF m 229 #[.val (.long p0), .second, .val (.int p1), .val (.int p2), .val (.int (Int32.ofNat n)), .val (.ref b143), .val (.long (own_acc n y172 4)), .second] [(.int (own_extra n y172 4)), (.long (own_acc n y172 4))])) st177 ?_
      refine Rch.of (T' := T177) (g' := (mkF m 230 #[.val (.long p0), .second, .val (.int p1), .val (.int p2), .val (.int (Int32.ofNat n)), .val (.ref b143), .val (.long (own_acc n y172 4)), .second] [(.long ((own_extra n y172 4).toInt64)), (.long (own_acc n y172 4))])) (fun _ kt => XS.i2l X177.here hx rfl (hb hby at_229) rfl kt) ?_
      refine Rch.of (T' := T177) (g' := (mkF m 231 #[.val (.long p0), .second, .val (.int p1), .val (.int p2), .val (.int (Int32.ofNat n)), .val (.ref b143), .val (.long (own_acc n y172 4)), .second] [(.long ((own_acc n y172 4) + ((own_extra n y172 4).toInt64)))])) (fun _ kt => XS.ladd X177.here hx rfl (hb hby at_230) rfl kt) ?_
      refine Rch.of (T' := T177) (g' := (mkF m 233 #[.val (.long p0), .second, .val (.int p1), .val (.int p2), .val (.int (Int32.ofNat n)), .val (.ref b143), .val (.long ((own_acc n y172 4) + ((own_extra n y172 4).toInt64))), .second] [])) (fun _ kt => XS.lstore X177.here hx rfl (hb hby at_231) rfl (l' := #[.val (.long p0), .second, .val (.int p1), .val (.int p2), .val (.int (Int32.ofNat n)), .val (.ref b143), .val (.long ((own_acc n y172 4) + ((own_extra n y172 4).toInt64))), .second]) rfl kt) ?_
      rw [show ((own_acc n y172 4) + ((own_extra n y172 4).toInt64)) = (own_acc n y172 5) from rfl]
      refine Rch.of (T' := T177) (g' := (mkF m 235 #[.val (.long p0), .second, .val (.int p1), .val (.int p2), .val (.int (Int32.ofNat n)), .val (.ref b143), .val (.long (own_acc n y172 5)), .second] [(.long (own_acc n y172 5))])) (fun _ kt => XS.lload X177.here hx rfl (hb hby at_233) rfl  kt) ?_
      refine Rch.of (T' := T177) (g' := (mkF m 237 #[.val (.long p0), .second, .val (.int p1), .val (.int p2), .val (.int (Int32.ofNat n)), .val (.ref b143), .val (.long (own_acc n y172 5)), .second] [(.ref b143), (.long (own_acc n y172 5))])) (fun _ kt => XS.aload X177.here hx rfl (hb hby at_235) rfl rfl kt) ?_
      refine Rch.of (T' := T177) (g' := (mkF m 238 #[.val (.long p0), .second, .val (.int p1), .val (.int p2), .val (.int (Int32.ofNat n)), .val (.ref b143), .val (.long (own_acc n y172 5)), .second] [(.int (5 : Int32)), (.ref b143), (.long (own_acc n y172 5))])) (fun _ kt => XS.iconst X177.here hx rfl (hb hby at_237) kt) ?_
      obtain ⟨_, _, ⟨T178, L178, k178, n178⟩, -, X178, ⟨Lc178, hQ178, l178, y178, z178⟩, st178⟩ := Jvm.LawKit.callS X177 hx (y := (⟨"com/example/kept_till_acked/kepttillacked/api/JsonOutEscapedLengthPinLaw", "extra", "([BI)I"⟩ : MethodName)) hown (mvT hZ (hw _ (List.mem_of_getElem? (i := 6) rfl))) (mvT hZ (hw _ (List.mem_of_getElem? (i := 7) rfl))) (mvT hZ (hw _ (List.mem_of_getElem? (i := 4) rfl))) (mvT hZ (hw _ (List.mem_of_getElem? (i := 8) rfl))) (by decide) (backOf (W := 2) (rm2 l Z a0 hw [] b143 (5 : Int32) n y172 5 T172.heap n0 (Nat.le_trans (Nat.le_trans (Nat.le_trans (Nat.le_trans Fb154 K155.1) K167.1) K169.1) K172.1) V172 hn (by decide) (by decide)) hZ (hw _ (List.mem_of_getElem? (i := 8) rfl)) (hw _ (List.mem_of_getElem? (i := 4) rfl)) (by decide) (by decide)) (g := (mkF m 238 #[.val (.long p0), .second, .val (.int p1), .val (.int p2), .val (.int (Int32.ofNat n)), .val (.ref b143), .val (.long (own_acc n y172 5)), .second] [(.int (5 : Int32)), (.ref b143), (.long (own_acc n y172 5))])) rfl (by rw [hml]; rfl) (argsL := [(.ref b143), (.int (5 : Int32))]) (rest := [(.long (own_acc n y172 5))]) (lenOf pd_1 rfl) rfl (by show 2 * 0 + _ ≤ _; exact Nat.le_of_eq rfl) (hb hby at_238) (fun _ _ => ⟨rfl, hQ177, (by decide : 1 + 0 ≤ _), (by decide : 8 + 0 ≤ _)⟩)
      dsimp only [Pt.U, Pt.locs, Pt.cells, Pt.slots] at X178 l178 y178 z178 st178 hQ178
      subst l178 y178 z178
      obtain ⟨rfl, N178q, hQ178⟩ := hQ178
      have N178 := Fr.app N177 N178q
      refine Rch.of (T' := T178) (g' := (mkF m 241 #[.val (.long p0), .second, .val (.int p1), .val (.int p2), .val (.int (Int32.ofNat n)), .val (.ref b143), .val (.long (own_acc n y172 5)), .second] [(.int (own_extra n y172 5)), (.long (own_acc n y172 5))])) st178 ?_
      refine Rch.of (T' := T178) (g' := (mkF m 242 #[.val (.long p0), .second, .val (.int p1), .val (.int p2), .val (.int (Int32.ofNat n)), .val (.ref b143), .val (.long (own_acc n y172 5)), .second] [(.long ((own_extra n y172 5).toInt64)), (.long (own_acc n y172 5))])) (fun _ kt => XS.i2l X178.here hx rfl (hb hby at_241) rfl kt) ?_
      refine Rch.of (T' := T178) (g' := (mkF m 243 #[.val (.long p0), .second, .val (.int p1), .val (.int p2), .val (.int (Int32.ofNat n)), .val (.ref b143), .val (.long (own_acc n y172 5)), .second] [(.long ((own_acc n y172 5) + ((own_extra n y172 5).toInt64)))])) (fun _ kt => XS.ladd X178.here hx rfl (hb hby at_242) rfl kt) ?_
      refine Rch.of (T' := T178) (g' := (mkF m 245 #[.val (.long p0), .second, .val (.int p1), .val (.int p2), .val (.int (Int32.ofNat n)), .val (.ref b143), .val (.long ((own_acc n y172 5) + ((own_extra n y172 5).toInt64))), .second] [])) (fun _ kt => XS.lstore X178.here hx rfl (hb hby at_243) rfl (l' := #[.val (.long p0), .second, .val (.int p1), .val (.int p2), .val (.int (Int32.ofNat n)), .val (.ref b143), .val (.long ((own_acc n y172 5) + ((own_extra n y172 5).toInt64))), .second]) rfl kt) ?_
      rw [show ((own_acc n y172 5) + ((own_extra n y172 5).toInt64)) = (own_acc n y172 6) from rfl]
      refine Rch.of (T' := T178) (g' := (mkF m 247 #[.val (.long p0), .second, .val (.int p1), .val (.int p2), .val (.int (Int32.ofNat n)), .val (.ref b143), .val (.long (own_acc n y172 6)), .second] [(.long (own_acc n y172 6))])) (fun _ kt => XS.lload X178.here hx rfl (hb hby at_245) rfl  kt) ?_
      refine Rch.of (T' := T178) (g' := (mkF m 249 #[.val (.long p0), .second, .val (.int p1), .val (.int p2), .val (.int (Int32.ofNat n)), .val (.ref b143), .val (.long (own_acc n y172 6)), .second] [(.ref b143), (.long (own_acc n y172 6))])) (fun _ kt => XS.aload X178.here hx rfl (hb hby at_247) rfl rfl kt) ?_
      refine Rch.of (T' := T178) (g' := (mkF m 251 #[.val (.long p0), .second, .val (.int p1), .val (.int p2), .val (.int (Int32.ofNat n)), .val (.ref b143), .val (.long (own_acc n y172 6)), .second] [(.int (6 : Int32)), (.ref b143), (.long (own_acc n y172 6))])) (fun _ kt => XS.bipush X178.here hx rfl (hb hby at_249) kt) ?_
      obtain ⟨_, _, ⟨T179, L179, k179, n179⟩, -, X179, ⟨Lc179, hQ179, l179, y179, z179⟩, st179⟩ := Jvm.LawKit.callS X178 hx (y := (⟨"com/example/kept_till_acked/kepttillacked/api/JsonOutEscapedLengthPinLaw", "extra", "([BI)I"⟩ : MethodName)) hown (mvT hZ (hw _ (List.mem_of_getElem? (i := 6) rfl))) (mvT hZ (hw _ (List.mem_of_getElem? (i := 7) rfl))) (mvT hZ (hw _ (List.mem_of_getElem? (i := 4) rfl))) (mvT hZ (hw _ (List.mem_of_getElem? (i := 8) rfl))) (by decide) (backOf (W := 2) (rm2 l Z a0 hw [] b143 (6 : Int32) n y172 6 T172.heap n0 (Nat.le_trans (Nat.le_trans (Nat.le_trans (Nat.le_trans Fb154 K155.1) K167.1) K169.1) K172.1) V172 hn (by decide) (by decide)) hZ (hw _ (List.mem_of_getElem? (i := 8) rfl)) (hw _ (List.mem_of_getElem? (i := 4) rfl)) (by decide) (by decide)) (g := (mkF m 251 #[.val (.long p0), .second, .val (.int p1), .val (.int p2), .val (.int (Int32.ofNat n)), .val (.ref b143), .val (.long (own_acc n y172 6)), .second] [(.int (6 : Int32)), (.ref b143), (.long (own_acc n y172 6))])) rfl (by rw [hml]; rfl) (argsL := [(.ref b143), (.int (6 : Int32))]) (rest := [(.long (own_acc n y172 6))]) (lenOf pd_1 rfl) rfl (by show 2 * 0 + _ ≤ _; exact Nat.le_of_eq rfl) (hb hby at_251) (fun _ _ => ⟨rfl, hQ178, (by decide : 1 + 0 ≤ _), (by decide : 8 + 0 ≤ _)⟩)
      dsimp only [Pt.U, Pt.locs, Pt.cells, Pt.slots] at X179 l179 y179 z179 st179 hQ179
      subst l179 y179 z179
      obtain ⟨rfl, N179q, hQ179⟩ := hQ179
      have N179 := Fr.app N178 N179q
      refine Rch.of (T' := T179) (g' := (mkF m 254 #[.val (.long p0), .second, .val (.int p1), .val (.int p2), .val (.int (Int32.ofNat n)), .val (.ref b143), .val (.long (own_acc n y172 6)), .second] [(.int (own_extra n y172 6)), (.long (own_acc n y172 6))])) st179 ?_
      refine Rch.of (T' := T179) (g' := (mkF m 255 #[.val (.long p0), .second, .val (.int p1), .val (.int p2), .val (.int (Int32.ofNat n)), .val (.ref b143), .val (.long (own_acc n y172 6)), .second] [(.long ((own_extra n y172 6).toInt64)), (.long (own_acc n y172 6))])) (fun _ kt => XS.i2l X179.here hx rfl (hb hby at_254) rfl kt) ?_
      refine Rch.of (T' := T179) (g' := (mkF m 256 #[.val (.long p0), .second, .val (.int p1), .val (.int p2), .val (.int (Int32.ofNat n)), .val (.ref b143), .val (.long (own_acc n y172 6)), .second] [(.long ((own_acc n y172 6) + ((own_extra n y172 6).toInt64)))])) (fun _ kt => XS.ladd X179.here hx rfl (hb hby at_255) rfl kt) ?_
      refine Rch.of (T' := T179) (g' := (mkF m 258 #[.val (.long p0), .second, .val (.int p1), .val (.int p2), .val (.int (Int32.ofNat n)), .val (.ref b143), .val (.long ((own_acc n y172 6) + ((own_extra n y172 6).toInt64))), .second] [])) (fun _ kt => XS.lstore X179.here hx rfl (hb hby at_256) rfl (l' := #[.val (.long p0), .second, .val (.int p1), .val (.int p2), .val (.int (Int32.ofNat n)), .val (.ref b143), .val (.long ((own_acc n y172 6) + ((own_extra n y172 6).toInt64))), .second]) rfl kt) ?_
      rw [show ((own_acc n y172 6) + ((own_extra n y172 6).toInt64)) = (own_acc n y172 7) from rfl]
      refine Rch.of (T' := T179) (g' := (mkF m 260 #[.val (.long p0), .second, .val (.int p1), .val (.int p2), .val (.int (Int32.ofNat n)), .val (.ref b143), .val (.long (own_acc n y172 7)), .second] [(.long (own_acc n y172 7))])) (fun _ kt => XS.lload X179.here hx rfl (hb hby at_258) rfl  kt) ?_
      refine Rch.of (T' := T179) (g' := (mkF m 262 #[.val (.long p0), .second, .val (.int p1), .val (.int p2), .val (.int (Int32.ofNat n)), .val (.ref b143), .val (.long (own_acc n y172 7)), .second] [(.ref b143), (.long (own_acc n y172 7))])) (fun _ kt => XS.aload X179.here hx rfl (hb hby at_260) rfl rfl kt) ?_
      refine Rch.of (T' := T179) (g' := (mkF m 264 #[.val (.long p0), .second, .val (.int p1), .val (.int p2), .val (.int (Int32.ofNat n)), .val (.ref b143), .val (.long (own_acc n y172 7)), .second] [(.int (7 : Int32)), (.ref b143), (.long (own_acc n y172 7))])) (fun _ kt => XS.bipush X179.here hx rfl (hb hby at_262) kt) ?_
      obtain ⟨_, _, ⟨T180, L180, k180, n180⟩, -, X180, ⟨Lc180, hQ180, l180, y180, z180⟩, st180⟩ := Jvm.LawKit.callS X179 hx (y := (⟨"com/example/kept_till_acked/kepttillacked/api/JsonOutEscapedLengthPinLaw", "extra", "([BI)I"⟩ : MethodName)) hown (mvT hZ (hw _ (List.mem_of_getElem? (i := 6) rfl))) (mvT hZ (hw _ (List.mem_of_getElem? (i := 7) rfl))) (mvT hZ (hw _ (List.mem_of_getElem? (i := 4) rfl))) (mvT hZ (hw _ (List.mem_of_getElem? (i := 8) rfl))) (by decide) (backOf (W := 2) (rm2 l Z a0 hw [] b143 (7 : Int32) n y172 7 T172.heap n0 (Nat.le_trans (Nat.le_trans (Nat.le_trans (Nat.le_trans Fb154 K155.1) K167.1) K169.1) K172.1) V172 hn (by decide) (by decide)) hZ (hw _ (List.mem_of_getElem? (i := 8) rfl)) (hw _ (List.mem_of_getElem? (i := 4) rfl)) (by decide) (by decide)) (g := (mkF m 264 #[.val (.long p0), .second, .val (.int p1), .val (.int p2), .val (.int (Int32.ofNat n)), .val (.ref b143), .val (.long (own_acc n y172 7)), .second] [(.int (7 : Int32)), (.ref b143), (.long (own_acc n y172 7))])) rfl (by rw [hml]; rfl) (argsL := [(.ref b143), (.int (7 : Int32))]) (rest := [(.long (own_acc n y172 7))]) (lenOf pd_1 rfl) rfl (by show 2 * 0 + _ ≤ _; exact Nat.le_of_eq rfl) (hb hby at_264) (fun _ _ => ⟨rfl, hQ179, (by decide : 1 + 0 ≤ _), (by decide : 8 + 0 ≤ _)⟩)
      dsimp only [Pt.U, Pt.locs, Pt.cells, Pt.slots] at X180 l180 y180 z180 st180 hQ180
      subst l180 y180 z180
      obtain ⟨rfl, N180q, hQ180⟩ := hQ180
      have N180 := Fr.app N179 N180q
      refine Rch.of (T' := T180) (g' := (mkF m 267 #[.val (.long p0), .second, .val (.int p1), .val (.int p2), .val (.int (Int32.ofNat n)), .val (.ref b143), .val (.long (own_acc n y172 7)), .second] [(.int (own_extra n y172 7)), (.long (own_acc n y172 7))])) st180 ?_
      refine Rch.of (T' := T180) (g' := (mkF m 268 #[.val (.long p0), .second, .val (.int p1), .val (.int p2), .val (.int (Int32.ofNat n)), .val (.ref b143), .val (.long (own_acc n y172 7)), .second] [(.long ((own_extra n y172 7).toInt64)), (.long (own_acc n y172 7))])) (fun _ kt => XS.i2l X180.here hx rfl (hb hby at_267) rfl kt) ?_
      refine Rch.of (T' := T180) (g' := (mkF m 269 #[.val (.long p0), .second, .val (.int p1), .val (.int p2), .val (.int (Int32.ofNat n)), .val (.ref b143), .val (.long (own_acc n y172 7)), .second] [(.long ((own_acc n y172 7) + ((own_extra n y172 7).toInt64)))])) (fun _ kt => XS.ladd X180.here hx rfl (hb hby at_268) rfl kt) ?_
      refine Rch.of (T' := T180) (g' := (mkF m 271 #[.val (.long p0), .second, .val (.int p1), .val (.int p2), .val (.int (Int32.ofNat n)), .val (.ref b143), .val (.long ((own_acc n y172 7) + ((own_extra n y172 7).toInt64))), .second] [])) (fun _ kt => XS.lstore X180.here hx rfl (hb hby at_269) rfl (l' := #[.val (.long p0), .second, .val (.int p1), .val (.int p2), .val (.int (Int32.ofNat n)), .val (.ref b143), .val (.long ((own_acc n y172 7) + ((own_extra n y172 7).toInt64))), .second]) rfl kt) ?_
      rw [show ((own_acc n y172 7) + ((own_extra n y172 7).toInt64)) = (own_acc n y172 8) from rfl]
      refine Rch.of (T' := T180) (g' := (mkF m 273 #[.val (.long p0), .second, .val (.int p1), .val (.int p2), .val (.int (Int32.ofNat n)), .val (.ref b143), .val (.long (own_acc n y172 8)), .second] [(.ref b143)])) (fun _ kt => XS.aload X180.here hx rfl (hb hby at_271) rfl rfl kt) ?_
      obtain ⟨_, _, ⟨T181, L181, k181, n181⟩, -, X181, ⟨Lc181, hQ181, l181, y181, z181⟩, st181⟩ := Jvm.LawKit.callS X180 hx (y := (⟨"com/example/kept_till_acked/kepttillacked/api/JsonOut", "escapedLength", "([B)J"⟩ : MethodName)) hown (mvT hZ (hw _ (List.mem_of_getElem? (i := 9) rfl))) (mvT hZ (hw _ (List.mem_of_getElem? (i := 10) rfl))) (mvT hZ (hw _ (List.mem_of_getElem? (i := 11) rfl))) (mvT hZ (hw _ (List.mem_of_getElem? (i := 12) rfl))) (by decide) (backOf (W := 0) (rm3 l Z a0 hw [] b143 n y172 t tab T172.heap n0 (Nat.le_trans (Nat.le_trans (Nat.le_trans (Nat.le_trans Fb154 K155.1) K167.1) K169.1) K172.1) V172 hn B172 (S1.ext (Fb170.keep K172 (allS ge_b143 all0)).2) ((Fb168.keep K169 (ninS ne_t_b143 nin0)).keep K172 (ninS ne_t_b143 nin0)) hE) hZ (hw _ (List.mem_of_getElem? (i := 12) rfl)) (hw _ (List.mem_of_getElem? (i := 11) rfl)) (by decide) (by decide)) (g := (mkF m 273 #[.val (.long p0), .second, .val (.int p1), .val (.int p2), .val (.int (Int32.ofNat n)), .val (.ref b143), .val (.long (own_acc n y172 8)), .second] [(.ref b143)])) rfl (by rw [hml]; rfl) (argsL := [(.ref b143)]) (rest := []) (lenOf pd_2 rfl) rfl (by show 2 * 0 + _ ≤ _; exact Nat.le_of_eq rfl) (hb hby at_273) (fun _ _ => ⟨rfl, hQ180, (by decide : 1 + 0 ≤ _), (by decide : 8 + 0 ≤ _)⟩)
      dsimp only [Pt.U, Pt.locs, Pt.cells, Pt.slots] at X181 l181 y181 z181 st181 hQ181
      subst l181 y181 z181
      obtain ⟨rfl, N181q, hQ181⟩ := hQ181
      have N181 := Fr.app N180 N181q
      refine Rch.of (T' := T181) (g' := (mkF m 276 #[.val (.long p0), .second, .val (.int p1), .val (.int p2), .val (.int (Int32.ofNat n)), .val (.ref b143), .val (.long (own_acc n y172 8)), .second] [(.long (own_acc n y172 n))])) st181 ?_
      rw [own_acc_ge n y172 8 hn]
      refine Rch.of (T' := T181) (g' := (mkF m 278 #[.val (.long p0), .second, .val (.int p1), .val (.int p2), .val (.int (Int32.ofNat n)), .val (.ref b143), .val (.long (own_acc n y172 n)), .second] [(.long (own_acc n y172 n)), (.long (own_acc n y172 n))])) (fun _ kt => XS.lload X181.here hx rfl (hb hby at_276) rfl  kt) ?_
      refine Rch.of (T' := T181) (g' := (mkF m 279 #[.val (.long p0), .second, .val (.int p1), .val (.int p2), .val (.int (Int32.ofNat n)), .val (.ref b143), .val (.long (own_acc n y172 n)), .second] [(.int (lcmpW (own_acc n y172 n) (own_acc n y172 n)))])) (fun _ kt => XS.lcmp X181.here hx rfl (hb hby at_278) rfl kt) ?_
      refine Rch.of (T' := T181) (g' := (mkF m 282 #[.val (.long p0), .second, .val (.int p1), .val (.int p2), .val (.int (Int32.ofNat n)), .val (.ref b143), .val (.long (own_acc n y172 n)), .second] [])) (fun _ kt => XS.ifNo X181.here hx rfl (hb hby at_279) rfl ((if0 _ _).trans (teq ((lw_eq _ _).mpr rfl)).2) kt) ?_
      refine Rch.of (T' := T181) (g' := (mkF m 283 #[.val (.long p0), .second, .val (.int p1), .val (.int p2), .val (.int (Int32.ofNat n)), .val (.ref b143), .val (.long (own_acc n y172 n)), .second] [(.int (1 : Int32))])) (fun _ kt => XS.iconst X181.here hx rfl (hb hby at_282) kt) ?_
      refine Rch.of (T' := T181) (g' := (mkF m 287 #[.val (.long p0), .second, .val (.int p1), .val (.int p2), .val (.int (Int32.ofNat n)), .val (.ref b143), .val (.long (own_acc n y172 n)), .second] [(.int (1 : Int32))])) (fun _ kt => XS.goto X181.here hx rfl (pc0 := 283) (pc' := 287) rfl (hb hby at_283) (by decide) (by decide) kt) ?_
      exact Rch.retN X181 hx (t := .boolean) hret (by simp) hlk (hb hby at_287) (fun U hU hF => hK _ U _ _ _ (by show Q_rm0 Z p0 p1 p2 t tab h0 n0 _ U.heap _; rw [hU, hQ181]; exact ⟨rfl, N181, trivial⟩) hF (by decide) (by decide))
    · skip
      refine Rch.of (T' := T169) (g' := (mkF m 163 #[.val (.long p0), .second, .val (.int p1), .val (.int p2), .val (.int ((p1 &&& (2147483647 : Int32)) % (9 : Int32))), .val (.ref b143), .val (.int (((p2.toUInt32 >>> ((1 : Int32) &&& 31).toUInt32).toInt32) &&& (7 : Int32))), .unset] [(.int ((((p2.toUInt32 >>> ((1 : Int32) &&& 31).toUInt32).toInt32) &&& (7 : Int32)) + (2 : Int32))), (.ref b143)])) (fun _ kt => XS.ifYes X169.here hx rfl (pc0 := 155) (pc' := 163) rfl (hb hby at_155) rfl ((if0 _ _).trans (feq c171).2) (by decide) (by decide) kt) ?_
      refine Rch.of (T' := T169) (g' := (mkF m 165 #[.val (.long p0), .second, .val (.int p1), .val (.int p2), .val (.int ((p1 &&& (2147483647 : Int32)) % (9 : Int32))), .val (.ref b143), .val (.int (((p2.toUInt32 >>> ((1 : Int32) &&& 31).toUInt32).toInt32) &&& (7 : Int32))), .unset] [(.int (-87 : Int32)), (.int ((((p2.toUInt32 >>> ((1 : Int32) &&& 31).toUInt32).toInt32) &&& (7 : Int32)) + (2 : Int32))), (.ref b143)])) (fun _ kt => XS.bipush X169.here hx rfl (hb hby at_163) kt) ?_
      obtain ⟨_, _, ⟨T182, L182, k182, n182⟩, -, X182, ⟨Lc182, hQ182, l182, y182, z182⟩, st182⟩ := Jvm.LawKit.callS X169 hx (y := (⟨"com/example/kept_till_acked/kepttillacked/api/JsonOutEscapedLengthPinLaw", "set", "([BIB)V"⟩ : MethodName)) hown (mvT hZ (hw _ (List.mem_of_getElem? (i := 2) rfl))) (mvT hZ (hw _ (List.mem_of_getElem? (i := 3) rfl))) (mvT hZ (hw _ (List.mem_of_getElem? (i := 4) rfl))) (mvT hZ (hw _ (List.mem_of_getElem? (i := 5) rfl))) (by decide) (backOf (W := 0) (rm1 l Z a0 hw [] b143 ((((p2.toUInt32 >>> ((1 : Int32) &&& 31).toUInt32).toInt32) &&& (7 : Int32)) + (2 : Int32)) (-87 : Int32) n y169 (q + 2) T169.heap n0 (Nat.le_trans (Nat.le_trans (Nat.le_trans Fb154 K155.1) K167.1) K169.1) V169 ge_b143 hn (own_plus hq (k := 2) (d := 2) (by decide) (by omega)) B169) hZ (hw _ (List.mem_of_getElem? (i := 5) rfl)) (hw _ (List.mem_of_getElem? (i := 4) rfl)) (by decide) (by decide)) (g := (mkF m 165 #[.val (.long p0), .second, .val (.int p1), .val (.int p2), .val (.int ((p1 &&& (2147483647 : Int32)) % (9 : Int32))), .val (.ref b143), .val (.int (((p2.toUInt32 >>> ((1 : Int32) &&& 31).toUInt32).toInt32) &&& (7 : Int32))), .unset] [(.int (-87 : Int32)), (.int ((((p2.toUInt32 >>> ((1 : Int32) &&& 31).toUInt32).toInt32) &&& (7 : Int32)) + (2 : Int32))), (.ref b143)])) rfl (by rw [hml]; rfl) (argsL := [(.ref b143), (.int ((((p2.toUInt32 >>> ((1 : Int32) &&& 31).toUInt32).toInt32) &&& (7 : Int32)) + (2 : Int32))), (.int (-87 : Int32))]) (rest := []) (lenOf pd_0 rfl) rfl (by show 2 * 0 + _ ≤ _; exact Nat.le_of_eq rfl) (hb hby at_165) (fun _ _ => ⟨rfl, rfl, (by decide : 1 + 0 ≤ _), (by decide : 8 + 0 ≤ _)⟩)
      dsimp only [Pt.U, Pt.locs, Pt.cells, Pt.slots] at X182 l182 y182 z182 st182 hQ182
      subst l182 y182 z182
      obtain ⟨rfl, N182q, hQ182⟩ := hQ182
      have N182 := Fr.app N169 N182q
      obtain ⟨K182, y182, V182, B182⟩ := hQ182
      refine Rch.of (T' := T182) (g' := (mkF m 168 #[.val (.long p0), .second, .val (.int p1), .val (.int p2), .val (.int ((p1 &&& (2147483647 : Int32)) % (9 : Int32))), .val (.ref b143), .val (.int (((p2.toUInt32 >>> ((1 : Int32) &&& 31).toUInt32).toInt32) &&& (7 : Int32))), .unset] [])) st182 ?_
      have hz : ((p1 &&& (2147483647 : Int32)) % (9 : Int32)) = Int32.ofNat n := Int32.toInt_inj.mp (by rw [hk, oTo (by omega)])
      rw [hz]
      refine Rch.of (T' := T182) (g' := (mkF m 170 #[.val (.long p0), .second, .val (.int p1), .val (.int p2), .val (.int (Int32.ofNat n)), .val (.ref b143), .val (.int (((p2.toUInt32 >>> ((1 : Int32) &&& 31).toUInt32).toInt32) &&& (7 : Int32))), .unset] [(.int (Int32.ofNat n))])) (fun _ kt => XS.iload X182.here hx rfl (hb hby at_168) rfl  kt) ?_
      refine Rch.of (T' := T182) (g' := (mkF m 171 #[.val (.long p0), .second, .val (.int p1), .val (.int p2), .val (.int (Int32.ofNat n)), .val (.ref b143), .val (.int (((p2.toUInt32 >>> ((1 : Int32) &&& 31).toUInt32).toInt32) &&& (7 : Int32))), .unset] [(.long ((Int32.ofNat n).toInt64))])) (fun _ kt => XS.i2l X182.here hx rfl (hb hby at_170) rfl kt) ?_
      refine Rch.of (T' := T182) (g' := (mkF m 173 #[.val (.long p0), .second, .val (.int p1), .val (.int p2), .val (.int (Int32.ofNat n)), .val (.ref b143), .val (.long ((Int32.ofNat n).toInt64)), .second] [])) (fun _ kt => XS.lstore X182.here hx rfl (hb hby at_171) rfl (l' := #[.val (.long p0), .second, .val (.int p1), .val (.int p2), .val (.int (Int32.ofNat n)), .val (.ref b143), .val (.long ((Int32.ofNat n).toInt64)), .second]) rfl kt) ?_
      rw [show ((Int32.ofNat n).toInt64) = (own_acc n y182 0) from rfl]
      refine Rch.of (T' := T182) (g' := (mkF m 175 #[.val (.long p0), .second, .val (.int p1), .val (.int p2), .val (.int (Int32.ofNat n)), .val (.ref b143), .val (.long (own_acc n y182 0)), .second] [(.long (own_acc n y182 0))])) (fun _ kt => XS.lload X182.here hx rfl (hb hby at_173) rfl  kt) ?_
      refine Rch.of (T' := T182) (g' := (mkF m 177 #[.val (.long p0), .second, .val (.int p1), .val (.int p2), .val (.int (Int32.ofNat n)), .val (.ref b143), .val (.long (own_acc n y182 0)), .second] [(.ref b143), (.long (own_acc n y182 0))])) (fun _ kt => XS.aload X182.here hx rfl (hb hby at_175) rfl rfl kt) ?_
      refine Rch.of (T' := T182) (g' := (mkF m 178 #[.val (.long p0), .second, .val (.int p1), .val (.int p2), .val (.int (Int32.ofNat n)), .val (.ref b143), .val (.long (own_acc n y182 0)), .second] [(.int (0 : Int32)), (.ref b143), (.long (own_acc n y182 0))])) (fun _ kt => XS.iconst X182.here hx rfl (hb hby at_177) kt) ?_
      obtain ⟨_, _, ⟨T183, L183, k183, n183⟩, -, X183, ⟨Lc183, hQ183, l183, y183, z183⟩, st183⟩ := Jvm.LawKit.callS X182 hx (y := (⟨"com/example/kept_till_acked/kepttillacked/api/JsonOutEscapedLengthPinLaw", "extra", "([BI)I"⟩ : MethodName)) hown (mvT hZ (hw _ (List.mem_of_getElem? (i := 6) rfl))) (mvT hZ (hw _ (List.mem_of_getElem? (i := 7) rfl))) (mvT hZ (hw _ (List.mem_of_getElem? (i := 4) rfl))) (mvT hZ (hw _ (List.mem_of_getElem? (i := 8) rfl))) (by decide) (backOf (W := 2) (rm2 l Z a0 hw [] b143 (0 : Int32) n y182 0 T182.heap n0 (Nat.le_trans (Nat.le_trans (Nat.le_trans (Nat.le_trans Fb154 K155.1) K167.1) K169.1) K182.1) V182 hn (by decide) (by decide)) hZ (hw _ (List.mem_of_getElem? (i := 8) rfl)) (hw _ (List.mem_of_getElem? (i := 4) rfl)) (by decide) (by decide)) (g := (mkF m 178 #[.val (.long p0), .second, .val (.int p1), .val (.int p2), .val (.int (Int32.ofNat n)), .val (.ref b143), .val (.long (own_acc n y182 0)), .second] [(.int (0 : Int32)), (.ref b143), (.long (own_acc n y182 0))])) rfl (by rw [hml]; rfl) (argsL := [(.ref b143), (.int (0 : Int32))]) (rest := [(.long (own_acc n y182 0))]) (lenOf pd_1 rfl) rfl (by show 2 * 0 + _ ≤ _; exact Nat.le_of_eq rfl) (hb hby at_178) (fun _ _ => ⟨rfl, rfl, (by decide : 1 + 0 ≤ _), (by decide : 8 + 0 ≤ _)⟩)
      dsimp only [Pt.U, Pt.locs, Pt.cells, Pt.slots] at X183 l183 y183 z183 st183 hQ183
      subst l183 y183 z183
      obtain ⟨rfl, N183q, hQ183⟩ := hQ183
      have N183 := Fr.app N182 N183q
      refine Rch.of (T' := T183) (g' := (mkF m 181 #[.val (.long p0), .second, .val (.int p1), .val (.int p2), .val (.int (Int32.ofNat n)), .val (.ref b143), .val (.long (own_acc n y182 0)), .second] [(.int (own_extra n y182 0)), (.long (own_acc n y182 0))])) st183 ?_
      refine Rch.of (T' := T183) (g' := (mkF m 182 #[.val (.long p0), .second, .val (.int p1), .val (.int p2), .val (.int (Int32.ofNat n)), .val (.ref b143), .val (.long (own_acc n y182 0)), .second] [(.long ((own_extra n y182 0).toInt64)), (.long (own_acc n y182 0))])) (fun _ kt => XS.i2l X183.here hx rfl (hb hby at_181) rfl kt) ?_
      refine Rch.of (T' := T183) (g' := (mkF m 183 #[.val (.long p0), .second, .val (.int p1), .val (.int p2), .val (.int (Int32.ofNat n)), .val (.ref b143), .val (.long (own_acc n y182 0)), .second] [(.long ((own_acc n y182 0) + ((own_extra n y182 0).toInt64)))])) (fun _ kt => XS.ladd X183.here hx rfl (hb hby at_182) rfl kt) ?_
      refine Rch.of (T' := T183) (g' := (mkF m 185 #[.val (.long p0), .second, .val (.int p1), .val (.int p2), .val (.int (Int32.ofNat n)), .val (.ref b143), .val (.long ((own_acc n y182 0) + ((own_extra n y182 0).toInt64))), .second] [])) (fun _ kt => XS.lstore X183.here hx rfl (hb hby at_183) rfl (l' := #[.val (.long p0), .second, .val (.int p1), .val (.int p2), .val (.int (Int32.ofNat n)), .val (.ref b143), .val (.long ((own_acc n y182 0) + ((own_extra n y182 0).toInt64))), .second]) rfl kt) ?_
      rw [show ((own_acc n y182 0) + ((own_extra n y182 0).toInt64)) = (own_acc n y182 1) from rfl]
      refine Rch.of (T' := T183) (g' := (mkF m 187 #[.val (.long p0), .second, .val (.int p1), .val (.int p2), .val (.int (Int32.ofNat n)), .val (.ref b143), .val (.long (own_acc n y182 1)), .second] [(.long (own_acc n y182 1))])) (fun _ kt => XS.lload X183.here hx rfl (hb hby at_185) rfl  kt) ?_
      refine Rch.of (T' := T183) (g' := (mkF m 189 #[.val (.long p0), .second, .val (.int p1), .val (.int p2), .val (.int (Int32.ofNat n)), .val (.ref b143), .val (.long (own_acc n y182 1)), .second] [(.ref b143), (.long (own_acc n y182 1))])) (fun _ kt => XS.aload X183.here hx rfl (hb hby at_187) rfl rfl kt) ?_
      refine Rch.of (T' := T183) (g' := (mkF m 190 #[.val (.long p0), .second, .val (.int p1), .val (.int p2), .val (.int (Int32.ofNat n)), .val (.ref b143), .val (.long (own_acc n y182 1)), .second] [(.int (1 : Int32)), (.ref b143), (.long (own_acc n y182 1))])) (fun _ kt => XS.iconst X183.here hx rfl (hb hby at_189) kt) ?_
      obtain ⟨_, _, ⟨T184, L184, k184, n184⟩, -, X184, ⟨Lc184, hQ184, l184, y184, z184⟩, st184⟩ := Jvm.LawKit.callS X183 hx (y := (⟨"com/example/kept_till_acked/kepttillacked/api/JsonOutEscapedLengthPinLaw", "extra", "([BI)I"⟩ : MethodName)) hown (mvT hZ (hw _ (List.mem_of_getElem? (i := 6) rfl))) (mvT hZ (hw _ (List.mem_of_getElem? (i := 7) rfl))) (mvT hZ (hw _ (List.mem_of_getElem? (i := 4) rfl))) (mvT hZ (hw _ (List.mem_of_getElem? (i := 8) rfl))) (by decide) (backOf (W := 2) (rm2 l Z a0 hw [] b143 (1 : Int32) n y182 1 T182.heap n0 (Nat.le_trans (Nat.le_trans (Nat.le_trans (Nat.le_trans Fb154 K155.1) K167.1) K169.1) K182.1) V182 hn (by decide) (by decide)) hZ (hw _ (List.mem_of_getElem? (i := 8) rfl)) (hw _ (List.mem_of_getElem? (i := 4) rfl)) (by decide) (by decide)) (g := (mkF m 190 #[.val (.long p0), .second, .val (.int p1), .val (.int p2), .val (.int (Int32.ofNat n)), .val (.ref b143), .val (.long (own_acc n y182 1)), .second] [(.int (1 : Int32)), (.ref b143), (.long (own_acc n y182 1))])) rfl (by rw [hml]; rfl) (argsL := [(.ref b143), (.int (1 : Int32))]) (rest := [(.long (own_acc n y182 1))]) (lenOf pd_1 rfl) rfl (by show 2 * 0 + _ ≤ _; exact Nat.le_of_eq rfl) (hb hby at_190) (fun _ _ => ⟨rfl, hQ183, (by decide : 1 + 0 ≤ _), (by decide : 8 + 0 ≤ _)⟩)
      dsimp only [Pt.U, Pt.locs, Pt.cells, Pt.slots] at X184 l184 y184 z184 st184 hQ184
      subst l184 y184 z184
      obtain ⟨rfl, N184q, hQ184⟩ := hQ184
      have N184 := Fr.app N183 N184q
      refine Rch.of (T' := T184) (g' := (mkF m 193 #[.val (.long p0), .second, .val (.int p1), .val (.int p2), .val (.int (Int32.ofNat n)), .val (.ref b143), .val (.long (own_acc n y182 1)), .second] [(.int (own_extra n y182 1)), (.long (own_acc n y182 1))])) st184 ?_
      refine Rch.of (T' := T184) (g' := (mkF m 194 #[.val (.long p0), .second, .val (.int p1), .val (.int p2), .val (.int (Int32.ofNat n)), .val (.ref b143), .val (.long (own_acc n y182 1)), .second] [(.long ((own_extra n y182 1).toInt64)), (.long (own_acc n y182 1))])) (fun _ kt => XS.i2l X184.here hx rfl (hb hby at_193) rfl kt) ?_
      refine Rch.of (T' := T184) (g' := (mkF m 195 #[.val (.long p0), .second, .val (.int p1), .val (.int p2), .val (.int (Int32.ofNat n)), .val (.ref b143), .val (.long (own_acc n y182 1)), .second] [(.long ((own_acc n y182 1) + ((own_extra n y182 1).toInt64)))])) (fun _ kt => XS.ladd X184.here hx rfl (hb hby at_194) rfl kt) ?_
      refine Rch.of (T' := T184) (g' := (mkF m 197 #[.val (.long p0), .second, .val (.int p1), .val (.int p2), .val (.int (Int32.ofNat n)), .val (.ref b143), .val (.long ((own_acc n y182 1) + ((own_extra n y182 1).toInt64))), .second] [])) (fun _ kt => XS.lstore X184.here hx rfl (hb hby at_195) rfl (l' := #[.val (.long p0), .second, .val (.int p1), .val (.int p2), .val (.int (Int32.ofNat n)), .val (.ref b143), .val (.long ((own_acc n y182 1) + ((own_extra n y182 1).toInt64))), .second]) rfl kt) ?_
      rw [show ((own_acc n y182 1) + ((own_extra n y182 1).toInt64)) = (own_acc n y182 2) from rfl]
      refine Rch.of (T' := T184) (g' := (mkF m 199 #[.val (.long p0), .second, .val (.int p1), .val (.int p2), .val (.int (Int32.ofNat n)), .val (.ref b143), .val (.long (own_acc n y182 2)), .second] [(.long (own_acc n y182 2))])) (fun _ kt => XS.lload X184.here hx rfl (hb hby at_197) rfl  kt) ?_
      refine Rch.of (T' := T184) (g' := (mkF m 201 #[.val (.long p0), .second, .val (.int p1), .val (.int p2), .val (.int (Int32.ofNat n)), .val (.ref b143), .val (.long (own_acc n y182 2)), .second] [(.ref b143), (.long (own_acc n y182 2))])) (fun _ kt => XS.aload X184.here hx rfl (hb hby at_199) rfl rfl kt) ?_
      refine Rch.of (T' := T184) (g' := (mkF m 202 #[.val (.long p0), .second, .val (.int p1), .val (.int p2), .val (.int (Int32.ofNat n)), .val (.ref b143), .val (.long (own_acc n y182 2)), .second] [(.int (2 : Int32)), (.ref b143), (.long (own_acc n y182 2))])) (fun _ kt => XS.iconst X184.here hx rfl (hb hby at_201) kt) ?_
      obtain ⟨_, _, ⟨T185, L185, k185, n185⟩, -, X185, ⟨Lc185, hQ185, l185, y185, z185⟩, st185⟩ := Jvm.LawKit.callS X184 hx (y := (⟨"com/example/kept_till_acked/kepttillacked/api/JsonOutEscapedLengthPinLaw", "extra", "([BI)I"⟩ : MethodName)) hown (mvT hZ (hw _ (List.mem_of_getElem? (i := 6) rfl))) (mvT hZ (hw _ (List.mem_of_getElem? (i := 7) rfl))) (mvT hZ (hw _ (List.mem_of_getElem? (i := 4) rfl))) (mvT hZ (hw _ (List.mem_of_getElem? (i := 8) rfl))) (by decide) (backOf (W := 2) (rm2 l Z a0 hw [] b143 (2 : Int32) n y182 2 T182.heap n0 (Nat.le_trans (Nat.le_trans (Nat.le_trans (Nat.le_trans Fb154 K155.1) K167.1) K169.1) K182.1) V182 hn (by decide) (by decide)) hZ (hw _ (List.mem_of_getElem? (i := 8) rfl)) (hw _ (List.mem_of_getElem? (i := 4) rfl)) (by decide) (by decide)) (g := (mkF m 202 #[.val (.long p0), .second, .val (.int p1), .val (.int p2), .val (.int (Int32.ofNat n)), .val (.ref b143), .val (.long (own_acc n y182 2)), .second] [(.int (2 : Int32)), (.ref b143), (.long (own_acc n y182 2))])) rfl (by rw [hml]; rfl) (argsL := [(.ref b143), (.int (2 : Int32))]) (rest := [(.long (own_acc n y182 2))]) (lenOf pd_1 rfl) rfl (by show 2 * 0 + _ ≤ _; exact Nat.le_of_eq rfl) (hb hby at_202) (fun _ _ => ⟨rfl, hQ184, (by decide : 1 + 0 ≤ _), (by decide : 8 + 0 ≤ _)⟩)
      dsimp only [Pt.U, Pt.locs, Pt.cells, Pt.slots] at X185 l185 y185 z185 st185 hQ185
      subst l185 y185 z185
      obtain ⟨rfl, N185q, hQ185⟩ := hQ185
      have N185 := Fr.app N184 N185q
      refine Rch.of (T' := T185) (g' := (mkF m 205 #[.val (.long p0), .second, .val (.int p1), .val (.int p2), .val (.int (Int32.ofNat n)), .val (.ref b143), .val (.long (own_acc n y182 2)), .second] [(.int (own_extra n y182 2)), (.long (own_acc n y182 2))])) st185 ?_
      refine Rch.of (T' := T185) (g' := (mkF m 206 #[.val (.long p0), .second, .val (.int p1), .val (.int p2), .val (.int (Int32.ofNat n)), .val (.ref b143), .val (.long (own_acc n y182 2)), .second] [(.long ((own_extra n y182 2).toInt64)), (.long (own_acc n y182 2))])) (fun _ kt => XS.i2l X185.here hx rfl (hb hby at_205) rfl kt) ?_
      refine Rch.of (T' := T185) (g' := (mkF m 207 #[.val (.long p0), .second, .val (.int p1), .val (.int p2), .val (.int (Int32.ofNat n)), .val (.ref b143), .val (.long (own_acc n y182 2)), .second] [(.long ((own_acc n y182 2) + ((own_extra n y182 2).toInt64)))])) (fun _ kt => XS.ladd X185.here hx rfl (hb hby at_206) rfl kt) ?_
      refine Rch.of (T' := T185) (g' := (mkF m 209 #[.val (.long p0), .second, .val (.int p1), .val (.int p2), .val (.int (Int32.ofNat n)), .val (.ref b143), .val (.long ((own_acc n y182 2) + ((own_extra n y182 2).toInt64))), .second] [])) (fun _ kt => XS.lstore X185.here hx rfl (hb hby at_207) rfl (l' := #[.val (.long p0), .second, .val (.int p1), .val (.int p2), .val (.int (Int32.ofNat n)), .val (.ref b143), .val (.long ((own_acc n y182 2) + ((own_extra n y182 2).toInt64))), .second]) rfl kt) ?_
      rw [show ((own_acc n y182 2) + ((own_extra n y182 2).toInt64)) = (own_acc n y182 3) from rfl]
      refine Rch.of (T' := T185) (g' := (mkF m 211 #[.val (.long p0), .second, .val (.int p1), .val (.int p2), .val (.int (Int32.ofNat n)), .val (.ref b143), .val (.long (own_acc n y182 3)), .second] [(.long (own_acc n y182 3))])) (fun _ kt => XS.lload X185.here hx rfl (hb hby at_209) rfl  kt) ?_
      refine Rch.of (T' := T185) (g' := (mkF m 213 #[.val (.long p0), .second, .val (.int p1), .val (.int p2), .val (.int (Int32.ofNat n)), .val (.ref b143), .val (.long (own_acc n y182 3)), .second] [(.ref b143), (.long (own_acc n y182 3))])) (fun _ kt => XS.aload X185.here hx rfl (hb hby at_211) rfl rfl kt) ?_
      refine Rch.of (T' := T185) (g' := (mkF m 214 #[.val (.long p0), .second, .val (.int p1), .val (.int p2), .val (.int (Int32.ofNat n)), .val (.ref b143), .val (.long (own_acc n y182 3)), .second] [(.int (3 : Int32)), (.ref b143), (.long (own_acc n y182 3))])) (fun _ kt => XS.iconst X185.here hx rfl (hb hby at_213) kt) ?_
      obtain ⟨_, _, ⟨T186, L186, k186, n186⟩, -, X186, ⟨Lc186, hQ186, l186, y186, z186⟩, st186⟩ := Jvm.LawKit.callS X185 hx (y := (⟨"com/example/kept_till_acked/kepttillacked/api/JsonOutEscapedLengthPinLaw", "extra", "([BI)I"⟩ : MethodName)) hown (mvT hZ (hw _ (List.mem_of_getElem? (i := 6) rfl))) (mvT hZ (hw _ (List.mem_of_getElem? (i := 7) rfl))) (mvT hZ (hw _ (List.mem_of_getElem? (i := 4) rfl))) (mvT hZ (hw _ (List.mem_of_getElem? (i := 8) rfl))) (by decide) (backOf (W := 2) (rm2 l Z a0 hw [] b143 (3 : Int32) n y182 3 T182.heap n0 (Nat.le_trans (Nat.le_trans (Nat.le_trans (Nat.le_trans Fb154 K155.1) K167.1) K169.1) K182.1) V182 hn (by decide) (by decide)) hZ (hw _ (List.mem_of_getElem? (i := 8) rfl)) (hw _ (List.mem_of_getElem? (i := 4) rfl)) (by decide) (by decide)) (g := (mkF m 214 #[.val (.long p0), .second, .val (.int p1), .val (.int p2), .val (.int (Int32.ofNat n)), .val (.ref b143), .val (.long (own_acc n y182 3)), .second] [(.int (3 : Int32)), (.ref b143), (.long (own_acc n y182 3))])) rfl (by rw [hml]; rfl) (argsL := [(.ref b143), (.int (3 : Int32))]) (rest := [(.long (own_acc n y182 3))]) (lenOf pd_1 rfl) rfl (by show 2 * 0 + _ ≤ _; exact Nat.le_of_eq rfl) (hb hby at_214) (fun _ _ => ⟨rfl, hQ185, (by decide : 1 + 0 ≤ _), (by decide : 8 + 0 ≤ _)⟩)
      dsimp only [Pt.U, Pt.locs, Pt.cells, Pt.slots] at X186 l186 y186 z186 st186 hQ186
      subst l186 y186 z186
      obtain ⟨rfl, N186q, hQ186⟩ := hQ186
      have N186 := Fr.app N185 N186q
      refine Rch.of (T' := T186) (g' := (mkF m 217 #[.val (.long p0), .second, .val (.int p1), .val (.int p2), .val (.int (Int32.ofNat n)), .val (.ref b143), .val (.long (own_acc n y182 3)), .second] [(.int (own_extra n y182 3)), (.long (own_acc n y182 3))])) st186 ?_
      refine Rch.of (T' := T186) (g' := (mkF m 218 #[.val (.long p0), .second, .val (.int p1), .val (.int p2), .val (.int (Int32.ofNat n)), .val (.ref b143), .val (.long (own_acc n y182 3)), .second] [(.long ((own_extra n y182 3).toInt64)), (.long (own_acc n y182 3))])) (fun _ kt => XS.i2l X186.here hx rfl (hb hby at_217) rfl kt) ?_
      refine Rch.of (T' := T186) (g' := (mkF m 219 #[.val (.long p0), .second, .val (.int p1), .val (.int p2), .val (.int (Int32.ofNat n)), .val (.ref b143), .val (.long (own_acc n y182 3)), .second] [(.long ((own_acc n y182 3) + ((own_extra n y182 3).toInt64)))])) (fun _ kt => XS.ladd X186.here hx rfl (hb hby at_218) rfl kt) ?_
      refine Rch.of (T' := T186) (g' := (mkF m 221 #[.val (.long p0), .second, .val (.int p1), .val (.int p2), .val (.int (Int32.ofNat n)), .val (.ref b143), .val (.long ((own_acc n y182 3) + ((own_extra n y182 3).toInt64))), .second] [])) (fun _ kt => XS.lstore X186.here hx rfl (hb hby at_219) rfl (l' := #[.val (.long p0), .second, .val (.int p1), .val (.int p2), .val (.int (Int32.ofNat n)), .val (.ref b143), .val (.long ((own_acc n y182 3) + ((own_extra n y182 3).toInt64))), .second]) rfl kt) ?_
      rw [show ((own_acc n y182 3) + ((own_extra n y182 3).toInt64)) = (own_acc n y182 4) from rfl]
      refine Rch.of (T' := T186) (g' := (mkF m 223 #[.val (.long p0), .second, .val (.int p1), .val (.int p2), .val (.int (Int32.ofNat n)), .val (.ref b143), .val (.long (own_acc n y182 4)), .second] [(.long (own_acc n y182 4))])) (fun _ kt => XS.lload X186.here hx rfl (hb hby at_221) rfl  kt) ?_
      refine Rch.of (T' := T186) (g' := (mkF m 225 #[.val (.long p0), .second, .val (.int p1), .val (.int p2), .val (.int (Int32.ofNat n)), .val (.ref b143), .val (.long (own_acc n y182 4)), .second] [(.ref b143), (.long (own_acc n y182 4))])) (fun _ kt => XS.aload X186.here hx rfl (hb hby at_223) rfl rfl kt) ?_
      refine Rch.of (T' := T186) (g' := (mkF m 226 #[.val (.long p0), .second, .val (.int p1), .val (.int p2), .val (.int (Int32.ofNat n)), .val (.ref b143), .val (.long (own_acc n y182 4)), .second] [(.int (4 : Int32)), (.ref b143), (.long (own_acc n y182 4))])) (fun _ kt => XS.iconst X186.here hx rfl (hb hby at_225) kt) ?_
      obtain ⟨_, _, ⟨T187, L187, k187, n187⟩, -, X187, ⟨Lc187, hQ187, l187, y187, z187⟩, st187⟩ := Jvm.LawKit.callS X186 hx (y := (⟨"com/example/kept_till_acked/kepttillacked/api/JsonOutEscapedLengthPinLaw", "extra", "([BI)I"⟩ : MethodName)) hown (mvT hZ (hw _ (List.mem_of_getElem? (i := 6) rfl))) (mvT hZ (hw _ (List.mem_of_getElem? (i := 7) rfl))) (mvT hZ (hw _ (List.mem_of_getElem? (i := 4) rfl))) (mvT hZ (hw _ (List.mem_of_getElem? (i := 8) rfl))) (by decide) (backOf (W := 2) (rm2 l Z a0 hw [] b143 (4 : Int32) n y182 4 T182.heap n0 (Nat.le_trans (Nat.le_trans (Nat.le_trans (Nat.le_trans Fb154 K155.1) K167.1) K169.1) K182.1) V182 hn (by decide) (by decide)) hZ (hw _ (List.mem_of_getElem? (i := 8) rfl)) (hw _ (List.mem_of_getElem? (i := 4) rfl)) (by decide) (by decide)) (g := (mkF m 226 #[.val (.long p0), .second, .val (.int p1), .val (.int p2), .val (.int (Int32.ofNat n)), .val (.ref b143), .val (.long (own_acc n y182 4)), .second] [(.int (4 : Int32)), (.ref b143), (.long (own_acc n y182 4))])) rfl (by rw [hml]; rfl) (argsL := [(.ref b143), (.int (4 : Int32))]) (rest := [(.long (own_acc n y182 4))]) (lenOf pd_1 rfl) rfl (by show 2 * 0 + _ ≤ _; exact Nat.le_of_eq rfl) (hb hby at_226) (fun _ _ => ⟨rfl, hQ186, (by decide : 1 + 0 ≤ _), (by decide : 8 + 0 ≤ _)⟩)
      dsimp only [Pt.U, Pt.locs, Pt.cells, Pt.slots] at X187 l187 y187 z187 st187 hQ187
      subst l187 y187 z187
      obtain ⟨rfl, N187q, hQ187⟩ := hQ187
      have N187 := Fr.app N186 N187q
      refine Rch.of (T' := T187) (g' := (mkF m 229 #[.val (.long p0), .second, .val (.int p1), .val (.int p2), .val (.int (Int32.ofNat n)), .val (.ref b143), .val (.long (own_acc n y182 4)), .second] [(.int (own_extra n y182 4)), (.long (own_acc n y182 4))])) st187 ?_
      refine Rch.of (T' := T187) (g' := (mkF m 230 #[.val (.long p0), .second, .val (.int p1), .val (.int p2), .val (.int (Int32.ofNat n)), .val (.ref b143), .val (.long (own_acc n y182 4)), .second] [(.long ((own_extra n y182 4).toInt64)), (.long (own_acc n y182 4))])) (fun _ kt => XS.i2l X187.here hx rfl (hb hby at_229) rfl kt) ?_
      refine Rch.of (T' := T187) (g' := (mkF m 231 #[.val (.long p0), .second, .val (.int p1), .val (.int p2), .val (.int (Int32.ofNat n)), .val (.ref b143), .val (.long (own_acc n y182 4)), .second] [(.long ((own_acc n y182 4) + ((own_extra n y182 4).toInt64)))])) (fun _ kt => XS.ladd X187.here hx rfl (hb hby at_230) rfl kt) ?_
      refine Rch.of (T' := T187) (g' := (mkF m 233 #[.val (.long p0), .second, .val (.int p1), .val (.int p2), .val (.int (Int32.ofNat n)), .val (.ref b143), .val (.long ((own_acc n y182 4) + ((own_extra n y182 4).toInt64))), .second] [])) (fun _ kt => XS.lstore X187.here hx rfl (hb hby at_231) rfl (l' := #[.val (.long p0), .second, .val (.int p1), .val (.int p2), .val (.int (Int32.ofNat n)), .val (.ref b143), .val (.long ((own_acc n y182 4) + ((own_extra n y182 4).toInt64))), .second]) rfl kt) ?_
      rw [show ((own_acc n y182 4) + ((own_extra n y182 4).toInt64)) = (own_acc n y182 5) from rfl]
      refine Rch.of (T' := T187) (g' := (mkF m 235 #[.val (.long p0), .second, .val (.int p1), .val (.int p2), .val (.int (Int32.ofNat n)), .val (.ref b143), .val (.long (own_acc n y182 5)), .second] [(.long (own_acc n y182 5))])) (fun _ kt => XS.lload X187.here hx rfl (hb hby at_233) rfl  kt) ?_
      refine Rch.of (T' := T187) (g' := (mkF m 237 #[.val (.long p0), .second, .val (.int p1), .val (.int p2), .val (.int (Int32.ofNat n)), .val (.ref b143), .val (.long (own_acc n y182 5)), .second] [(.ref b143), (.long (own_acc n y182 5))])) (fun _ kt => XS.aload X187.here hx rfl (hb hby at_235) rfl rfl kt) ?_
      refine Rch.of (T' := T187) (g' := (mkF m 238 #[.val (.long p0), .second, .val (.int p1), .val (.int p2), .val (.int (Int32.ofNat n)), .val (.ref b143), .val (.long (own_acc n y182 5)), .second] [(.int (5 : Int32)), (.ref b143), (.long (own_acc n y182 5))])) (fun _ kt => XS.iconst X187.here hx rfl (hb hby at_237) kt) ?_
      obtain ⟨_, _, ⟨T188, L188, k188, n188⟩, -, X188, ⟨Lc188, hQ188, l188, y188, z188⟩, st188⟩ := Jvm.LawKit.callS X187 hx (y := (⟨"com/example/kept_till_acked/kepttillacked/api/JsonOutEscapedLengthPinLaw", "extra", "([BI)I"⟩ : MethodName)) hown (mvT hZ (hw _ (List.mem_of_getElem? (i := 6) rfl))) (mvT hZ (hw _ (List.mem_of_getElem? (i := 7) rfl))) (mvT hZ (hw _ (List.mem_of_getElem? (i := 4) rfl))) (mvT hZ (hw _ (List.mem_of_getElem? (i := 8) rfl))) (by decide) (backOf (W := 2) (rm2 l Z a0 hw [] b143 (5 : Int32) n y182 5 T182.heap n0 (Nat.le_trans (Nat.le_trans (Nat.le_trans (Nat.le_trans Fb154 K155.1) K167.1) K169.1) K182.1) V182 hn (by decide) (by decide)) hZ (hw _ (List.mem_of_getElem? (i := 8) rfl)) (hw _ (List.mem_of_getElem? (i := 4) rfl)) (by decide) (by decide)) (g := (mkF m 238 #[.val (.long p0), .second, .val (.int p1), .val (.int p2), .val (.int (Int32.ofNat n)), .val (.ref b143), .val (.long (own_acc n y182 5)), .second] [(.int (5 : Int32)), (.ref b143), (.long (own_acc n y182 5))])) rfl (by rw [hml]; rfl) (argsL := [(.ref b143), (.int (5 : Int32))]) (rest := [(.long (own_acc n y182 5))]) (lenOf pd_1 rfl) rfl (by show 2 * 0 + _ ≤ _; exact Nat.le_of_eq rfl) (hb hby at_238) (fun _ _ => ⟨rfl, hQ187, (by decide : 1 + 0 ≤ _), (by decide : 8 + 0 ≤ _)⟩)
      dsimp only [Pt.U, Pt.locs, Pt.cells, Pt.slots] at X188 l188 y188 z188 st188 hQ188
      subst l188 y188 z188
      obtain ⟨rfl, N188q, hQ188⟩ := hQ188
      have N188 := Fr.app N187 N188q
      refine Rch.of (T' := T188) (g' := (mkF m 241 #[.val (.long p0), .second, .val (.int p1), .val (.int p2), .val (.int (Int32.ofNat n)), .val (.ref b143), .val (.long (own_acc n y182 5)), .second] [(.int (own_extra n y182 5)), (.long (own_acc n y182 5))])) st188 ?_
      refine Rch.of (T' := T188) (g' := (mkF m 242 #[.val (.long p0), .second, .val (.int p1), .val (.int p2), .val (.int (Int32.ofNat n)), .val (.ref b143), .val (.long (own_acc n y182 5)), .second] [(.long ((own_extra n y182 5).toInt64)), (.long (own_acc n y182 5))])) (fun _ kt => XS.i2l X188.here hx rfl (hb hby at_241) rfl kt) ?_
      refine Rch.of (T' := T188) (g' := (mkF m 243 #[.val (.long p0), .second, .val (.int p1), .val (.int p2), .val (.int (Int32.ofNat n)), .val (.ref b143), .val (.long (own_acc n y182 5)), .second] [(.long ((own_acc n y182 5) + ((own_extra n y182 5).toInt64)))])) (fun _ kt => XS.ladd X188.here hx rfl (hb hby at_242) rfl kt) ?_
      refine Rch.of (T' := T188) (g' := (mkF m 245 #[.val (.long p0), .second, .val (.int p1), .val (.int p2), .val (.int (Int32.ofNat n)), .val (.ref b143), .val (.long ((own_acc n y182 5) + ((own_extra n y182 5).toInt64))), .second] [])) (fun _ kt => XS.lstore X188.here hx rfl (hb hby at_243) rfl (l' := #[.val (.long p0), .second, .val (.int p1), .val (.int p2), .val (.int (Int32.ofNat n)), .val (.ref b143), .val (.long ((own_acc n y182 5) + ((own_extra n y182 5).toInt64))), .second]) rfl kt) ?_
      rw [show ((own_acc n y182 5) + ((own_extra n y182 5).toInt64)) = (own_acc n y182 6) from rfl]
      refine Rch.of (T' := T188) (g' := (mkF m 247 #[.val (.long p0), .second, .val (.int p1), .val (.int p2), .val (.int (Int32.ofNat n)), .val (.ref b143), .val (.long (own_acc n y182 6)), .second] [(.long (own_acc n y182 6))])) (fun _ kt => XS.lload X188.here hx rfl (hb hby at_245) rfl  kt) ?_
      refine Rch.of (T' := T188) (g' := (mkF m 249 #[.val (.long p0), .second, .val (.int p1), .val (.int p2), .val (.int (Int32.ofNat n)), .val (.ref b143), .val (.long (own_acc n y182 6)), .second] [(.ref b143), (.long (own_acc n y182 6))])) (fun _ kt => XS.aload X188.here hx rfl (hb hby at_247) rfl rfl kt) ?_
      refine Rch.of (T' := T188) (g' := (mkF m 251 #[.val (.long p0), .second, .val (.int p1), .val (.int p2), .val (.int (Int32.ofNat n)), .val (.ref b143), .val (.long (own_acc n y182 6)), .second] [(.int (6 : Int32)), (.ref b143), (.long (own_acc n y182 6))])) (fun _ kt => XS.bipush X188.here hx rfl (hb hby at_249) kt) ?_
      obtain ⟨_, _, ⟨T189, L189, k189, n189⟩, -, X189, ⟨Lc189, hQ189, l189, y189, z189⟩, st189⟩ := Jvm.LawKit.callS X188 hx (y := (⟨"com/example/kept_till_acked/kepttillacked/api/JsonOutEscapedLengthPinLaw", "extra", "([BI)I"⟩ : MethodName)) hown (mvT hZ (hw _ (List.mem_of_getElem? (i := 6) rfl))) (mvT hZ (hw _ (List.mem_of_getElem? (i := 7) rfl))) (mvT hZ (hw _ (List.mem_of_getElem? (i := 4) rfl))) (mvT hZ (hw _ (List.mem_of_getElem? (i := 8) rfl))) (by decide) (backOf (W := 2) (rm2 l Z a0 hw [] b143 (6 : Int32) n y182 6 T182.heap n0 (Nat.le_trans (Nat.le_trans (Nat.le_trans (Nat.le_trans Fb154 K155.1) K167.1) K169.1) K182.1) V182 hn (by decide) (by decide)) hZ (hw _ (List.mem_of_getElem? (i := 8) rfl)) (hw _ (List.mem_of_getElem? (i := 4) rfl)) (by decide) (by decide)) (g := (mkF m 251 #[.val (.long p0), .second, .val (.int p1), .val (.int p2), .val (.int (Int32.ofNat n)), .val (.ref b143), .val (.long (own_acc n y182 6)), .second] [(.int (6 : Int32)), (.ref b143), (.long (own_acc n y182 6))])) rfl (by rw [hml]; rfl) (argsL := [(.ref b143), (.int (6 : Int32))]) (rest := [(.long (own_acc n y182 6))]) (lenOf pd_1 rfl) rfl (by show 2 * 0 + _ ≤ _; exact Nat.le_of_eq rfl) (hb hby at_251) (fun _ _ => ⟨rfl, hQ188, (by decide : 1 + 0 ≤ _), (by decide : 8 + 0 ≤ _)⟩)
      dsimp only [Pt.U, Pt.locs, Pt.cells, Pt.slots] at X189 l189 y189 z189 st189 hQ189
      subst l189 y189 z189
      obtain ⟨rfl, N189q, hQ189⟩ := hQ189
      have N189 := Fr.app N188 N189q
      refine Rch.of (T' := T189) (g' := (mkF m 254 #[.val (.long p0), .second, .val (.int p1), .val (.int p2), .val (.int (Int32.ofNat n)), .val (.ref b143), .val (.long (own_acc n y182 6)), .second] [(.int (own_extra n y182 6)), (.long (own_acc n y182 6))])) st189 ?_
      refine Rch.of (T' := T189) (g' := (mkF m 255 #[.val (.long p0), .second, .val (.int p1), .val (.int p2), .val (.int (Int32.ofNat n)), .val (.ref b143), .val (.long (own_acc n y182 6)), .second] [(.long ((own_extra n y182 6).toInt64)), (.long (own_acc n y182 6))])) (fun _ kt => XS.i2l X189.here hx rfl (hb hby at_254) rfl kt) ?_
      refine Rch.of (T' := T189) (g' := (mkF m 256 #[.val (.long p0), .second, .val (.int p1), .val (.int p2), .val (.int (Int32.ofNat n)), .val (.ref b143), .val (.long (own_acc n y182 6)), .second] [(.long ((own_acc n y182 6) + ((own_extra n y182 6).toInt64)))])) (fun _ kt => XS.ladd X189.here hx rfl (hb hby at_255) rfl kt) ?_
      refine Rch.of (T' := T189) (g' := (mkF m 258 #[.val (.long p0), .second, .val (.int p1), .val (.int p2), .val (.int (Int32.ofNat n)), .val (.ref b143), .val (.long ((own_acc n y182 6) + ((own_extra n y182 6).toInt64))), .second] [])) (fun _ kt => XS.lstore X189.here hx rfl (hb hby at_256) rfl (l' := #[.val (.long p0), .second, .val (.int p1), .val (.int p2), .val (.int (Int32.ofNat n)), .val (.ref b143), .val (.long ((own_acc n y182 6) + ((own_extra n y182 6).toInt64))), .second]) rfl kt) ?_
      rw [show ((own_acc n y182 6) + ((own_extra n y182 6).toInt64)) = (own_acc n y182 7) from rfl]
      refine Rch.of (T' := T189) (g' := (mkF m 260 #[.val (.long p0), .second, .val (.int p1), .val (.int p2), .val (.int (Int32.ofNat n)), .val (.ref b143), .val (.long (own_acc n y182 7)), .second] [(.long (own_acc n y182 7))])) (fun _ kt => XS.lload X189.here hx rfl (hb hby at_258) rfl  kt) ?_
      refine Rch.of (T' := T189) (g' := (mkF m 262 #[.val (.long p0), .second, .val (.int p1), .val (.int p2), .val (.int (Int32.ofNat n)), .val (.ref b143), .val (.long (own_acc n y182 7)), .second] [(.ref b143), (.long (own_acc n y182 7))])) (fun _ kt => XS.aload X189.here hx rfl (hb hby at_260) rfl rfl kt) ?_
      refine Rch.of (T' := T189) (g' := (mkF m 264 #[.val (.long p0), .second, .val (.int p1), .val (.int p2), .val (.int (Int32.ofNat n)), .val (.ref b143), .val (.long (own_acc n y182 7)), .second] [(.int (7 : Int32)), (.ref b143), (.long (own_acc n y182 7))])) (fun _ kt => XS.bipush X189.here hx rfl (hb hby at_262) kt) ?_
      obtain ⟨_, _, ⟨T190, L190, k190, n190⟩, -, X190, ⟨Lc190, hQ190, l190, y190, z190⟩, st190⟩ := Jvm.LawKit.callS X189 hx (y := (⟨"com/example/kept_till_acked/kepttillacked/api/JsonOutEscapedLengthPinLaw", "extra", "([BI)I"⟩ : MethodName)) hown (mvT hZ (hw _ (List.mem_of_getElem? (i := 6) rfl))) (mvT hZ (hw _ (List.mem_of_getElem? (i := 7) rfl))) (mvT hZ (hw _ (List.mem_of_getElem? (i := 4) rfl))) (mvT hZ (hw _ (List.mem_of_getElem? (i := 8) rfl))) (by decide) (backOf (W := 2) (rm2 l Z a0 hw [] b143 (7 : Int32) n y182 7 T182.heap n0 (Nat.le_trans (Nat.le_trans (Nat.le_trans (Nat.le_trans Fb154 K155.1) K167.1) K169.1) K182.1) V182 hn (by decide) (by decide)) hZ (hw _ (List.mem_of_getElem? (i := 8) rfl)) (hw _ (List.mem_of_getElem? (i := 4) rfl)) (by decide) (by decide)) (g := (mkF m 264 #[.val (.long p0), .second, .val (.int p1), .val (.int p2), .val (.int (Int32.ofNat n)), .val (.ref b143), .val (.long (own_acc n y182 7)), .second] [(.int (7 : Int32)), (.ref b143), (.long (own_acc n y182 7))])) rfl (by rw [hml]; rfl) (argsL := [(.ref b143), (.int (7 : Int32))]) (rest := [(.long (own_acc n y182 7))]) (lenOf pd_1 rfl) rfl (by show 2 * 0 + _ ≤ _; exact Nat.le_of_eq rfl) (hb hby at_264) (fun _ _ => ⟨rfl, hQ189, (by decide : 1 + 0 ≤ _), (by decide : 8 + 0 ≤ _)⟩)
      dsimp only [Pt.U, Pt.locs, Pt.cells, Pt.slots] at X190 l190 y190 z190 st190 hQ190
      subst l190 y190 z190
      obtain ⟨rfl, N190q, hQ190⟩ := hQ190
      have N190 := Fr.app N189 N190q
      refine Rch.of (T' := T190) (g' := (mkF m 267 #[.val (.long p0), .second, .val (.int p1), .val (.int p2), .val (.int (Int32.ofNat n)), .val (.ref b143), .val (.long (own_acc n y182 7)), .second] [(.int (own_extra n y182 7)), (.long (own_acc n y182 7))])) st190 ?_
      refine Rch.of (T' := T190) (g' := (mkF m 268 #[.val (.long p0), .second, .val (.int p1), .val (.int p2), .val (.int (Int32.ofNat n)), .val (.ref b143), .val (.long (own_acc n y182 7)), .second] [(.long ((own_extra n y182 7).toInt64)), (.long (own_acc n y182 7))])) (fun _ kt => XS.i2l X190.here hx rfl (hb hby at_267) rfl kt) ?_
      refine Rch.of (T' := T190) (g' := (mkF m 269 #[.val (.long p0), .second, .val (.int p1), .val (.int p2), .val (.int (Int32.ofNat n)), .val (.ref b143), .val (.long (own_acc n y182 7)), .second] [(.long ((own_acc n y182 7) + ((own_extra n y182 7).toInt64)))])) (fun _ kt => XS.ladd X190.here hx rfl (hb hby at_268) rfl kt) ?_
      refine Rch.of (T' := T190) (g' := (mkF m 271 #[.val (.long p0), .second, .val (.int p1), .val (.int p2), .val (.int (Int32.ofNat n)), .val (.ref b143), .val (.long ((own_acc n y182 7) + ((own_extra n y182 7).toInt64))), .second] [])) (fun _ kt => XS.lstore X190.here hx rfl (hb hby at_269) rfl (l' := #[.val (.long p0), .second, .val (.int p1), .val (.int p2), .val (.int (Int32.ofNat n)), .val (.ref b143), .val (.long ((own_acc n y182 7) + ((own_extra n y182 7).toInt64))), .second]) rfl kt) ?_
      rw [show ((own_acc n y182 7) + ((own_extra n y182 7).toInt64)) = (own_acc n y182 8) from rfl]
      refine Rch.of (T' := T190) (g' := (mkF m 273 #[.val (.long p0), .second, .val (.int p1), .val (.int p2), .val (.int (Int32.ofNat n)), .val (.ref b143), .val (.long (own_acc n y182 8)), .second] [(.ref b143)])) (fun _ kt => XS.aload X190.here hx rfl (hb hby at_271) rfl rfl kt) ?_
      obtain ⟨_, _, ⟨T191, L191, k191, n191⟩, -, X191, ⟨Lc191, hQ191, l191, y191, z191⟩, st191⟩ := Jvm.LawKit.callS X190 hx (y := (⟨"com/example/kept_till_acked/kepttillacked/api/JsonOut", "escapedLength", "([B)J"⟩ : MethodName)) hown (mvT hZ (hw _ (List.mem_of_getElem? (i := 9) rfl))) (mvT hZ (hw _ (List.mem_of_getElem? (i := 10) rfl))) (mvT hZ (hw _ (List.mem_of_getElem? (i := 11) rfl))) (mvT hZ (hw _ (List.mem_of_getElem? (i := 12) rfl))) (by decide) (backOf (W := 0) (rm3 l Z a0 hw [] b143 n y182 t tab T182.heap n0 (Nat.le_trans (Nat.le_trans (Nat.le_trans (Nat.le_trans Fb154 K155.1) K167.1) K169.1) K182.1) V182 hn B182 (S1.ext (Fb170.keep K182 (allS ge_b143 all0)).2) ((Fb168.keep K169 (ninS ne_t_b143 nin0)).keep K182 (ninS ne_t_b143 nin0)) hE) hZ (hw _ (List.mem_of_getElem? (i := 12) rfl)) (hw _ (List.mem_of_getElem? (i := 11) rfl)) (by decide) (by decide)) (g := (mkF m 273 #[.val (.long p0), .second, .val (.int p1), .val (.int p2), .val (.int (Int32.ofNat n)), .val (.ref b143), .val (.long (own_acc n y182 8)), .second] [(.ref b143)])) rfl (by rw [hml]; rfl) (argsL := [(.ref b143)]) (rest := []) (lenOf pd_2 rfl) rfl (by show 2 * 0 + _ ≤ _; exact Nat.le_of_eq rfl) (hb hby at_273) (fun _ _ => ⟨rfl, hQ190, (by decide : 1 + 0 ≤ _), (by decide : 8 + 0 ≤ _)⟩)
      dsimp only [Pt.U, Pt.locs, Pt.cells, Pt.slots] at X191 l191 y191 z191 st191 hQ191
      subst l191 y191 z191
      obtain ⟨rfl, N191q, hQ191⟩ := hQ191
      have N191 := Fr.app N190 N191q
      refine Rch.of (T' := T191) (g' := (mkF m 276 #[.val (.long p0), .second, .val (.int p1), .val (.int p2), .val (.int (Int32.ofNat n)), .val (.ref b143), .val (.long (own_acc n y182 8)), .second] [(.long (own_acc n y182 n))])) st191 ?_
      rw [own_acc_ge n y182 8 hn]
      refine Rch.of (T' := T191) (g' := (mkF m 278 #[.val (.long p0), .second, .val (.int p1), .val (.int p2), .val (.int (Int32.ofNat n)), .val (.ref b143), .val (.long (own_acc n y182 n)), .second] [(.long (own_acc n y182 n)), (.long (own_acc n y182 n))])) (fun _ kt => XS.lload X191.here hx rfl (hb hby at_276) rfl  kt) ?_
      refine Rch.of (T' := T191) (g' := (mkF m 279 #[.val (.long p0), .second, .val (.int p1), .val (.int p2), .val (.int (Int32.ofNat n)), .val (.ref b143), .val (.long (own_acc n y182 n)), .second] [(.int (lcmpW (own_acc n y182 n) (own_acc n y182 n)))])) (fun _ kt => XS.lcmp X191.here hx rfl (hb hby at_278) rfl kt) ?_
      refine Rch.of (T' := T191) (g' := (mkF m 282 #[.val (.long p0), .second, .val (.int p1), .val (.int p2), .val (.int (Int32.ofNat n)), .val (.ref b143), .val (.long (own_acc n y182 n)), .second] [])) (fun _ kt => XS.ifNo X191.here hx rfl (hb hby at_279) rfl ((if0 _ _).trans (teq ((lw_eq _ _).mpr rfl)).2) kt) ?_
      refine Rch.of (T' := T191) (g' := (mkF m 283 #[.val (.long p0), .second, .val (.int p1), .val (.int p2), .val (.int (Int32.ofNat n)), .val (.ref b143), .val (.long (own_acc n y182 n)), .second] [(.int (1 : Int32))])) (fun _ kt => XS.iconst X191.here hx rfl (hb hby at_282) kt) ?_
      refine Rch.of (T' := T191) (g' := (mkF m 287 #[.val (.long p0), .second, .val (.int p1), .val (.int p2), .val (.int (Int32.ofNat n)), .val (.ref b143), .val (.long (own_acc n y182 n)), .second] [(.int (1 : Int32))])) (fun _ kt => XS.goto X191.here hx rfl (pc0 := 283) (pc' := 287) rfl (hb hby at_283) (by decide) (by decide) kt) ?_
      exact Rch.retN X191 hx (t := .boolean) hret (by simp) hlk (hb hby at_287) (fun U hU hF => hK _ U _ _ _ (by show Q_rm0 Z p0 p1 p2 t tab h0 n0 _ U.heap _; rw [hU, hQ191]; exact ⟨rfl, N191, trivial⟩) hF (by decide) (by decide))
theorem own_or {c d : Jvm.Cond} {args : Array Value} {s : State} {idx : List Nat} (h : (Jvm.Cond.or c d).value args s none s idx = some true) (hc : c.value args s none s idx = some false) : d.value args s none s idx = some true := by simpa [Cond.value, hc] using h
theorem own_ixlt {args : Array Value} {s : State} (k : Int32) (q : Nat) : (Jvm.Cond.lt (Jvm.Term.index 0) (Jvm.Term.int k)).value args s none s [q] = some (decide (q.toInt32 < k)) := rfl
theorem own_ixle {args : Array Value} {s : State} (k : Int32) (q : Nat) : (Jvm.Cond.le (Jvm.Term.int k) (Jvm.Term.index 0)).value args s none s [q] = some (decide (k ≤ q.toInt32)) := rfl
theorem own_lt_no {k : Int32} {q n : Nat} (e : k.toInt = (n : Int)) (hq : q < 2 ^ 31) (h : n ≤ q) : decide (q.toInt32 < k) = false := by
  rw [decide_eq_false_iff_not, Int32.lt_iff_toInt_lt, len_toInt hq, e]; omega
theorem own_le_no {k : Int32} {q n : Nat} (e : k.toInt = (n : Int)) (hq : q < 2 ^ 31) (h : q < n) : decide (k ≤ q.toInt32) = false := by
  rw [decide_eq_false_iff_not, Int32.le_iff_toInt_le, len_toInt hq, e]; omega
theorem own_el {T I : Jvm.Term} {v j : Int32} {args : Array Value} {s : State} {idx : List Nat} {t : Addr} {cl : Cell} {q : Nat} (h : (Jvm.Cond.eq (Jvm.Term.elem T I) (Jvm.Term.int v)).value args s none s idx = some true) (et : T.eval args s none idx s = some (.ref t)) (ei : I.eval args s none idx s = some (.int j)) (hc : s.heap[t]? = some cl) (hj : j.toNatClampNeg = q) : cl.slots[q]? = some (.int v) := by
  have := (elem_in (eqv_i rfl h) et ei hc).2
  rw [hj] at this
  exact this
theorem own_nat32 {q : Nat} (h : q < 2 ^ 31) : q.toInt32.toNatClampNeg = q := oNat (len_toInt h)
theorem own_size {T : Jvm.Term} {args : Array Value} {s : State} {t : Addr} {cl : Cell} (et : T.eval args s none [] s = some (.ref t)) (ha : s.arrayAt? t = some cl) (c1 : (Jvm.Cond.eq (Jvm.Term.length T) (Jvm.Term.int (128 : Int32))).value args s none s [] = some true) : cl.slots.size = 128 := by
  have hlen := eqv_i (F := Jvm.Term.int (128 : Int32)) rfl c1
  have hlt : cl.slots.size < 2147483648 := by
    simp only [Term.eval, et, ha, Option.bind_eq_bind, Option.bind_some] at hlen
    by_cases hlt : cl.slots.size < 2147483648
    · exact hlt
    · simp [hlt] at hlen
  rw [len_f et ha hlt] at hlen
  have e1 : cl.slots.size.toInt32 = (128 : Int32) := Value.int.inj (Option.some.inj hlen)
  have e2 := congrArg Int32.toInt e1
  rw [len_toInt hlt] at e2
  have e3 : (128 : Int32).toInt = 128 := by decide
  omega
theorem own_esc_in {q k : Nat} {cl : Cell} (h : cl.slots[q]? = some (.int (own_esc k))) (e : q = k) : cl.slots[q]? = some (.int (own_esc q)) := by subst e; exact h
set_option maxRecDepth 65536 in
set_option maxHeartbeats 40000000 in
theorem comes_1 {Post : Tables → Env → Array Value → State → Outcome → State → Prop} (hpost : ∀ tb e args s v u, (limb_1_1.after args s (.returned v) u = true ∧ limb_1_2.after args s (.returned v) u = true ∧ True) → FrameEnd s (.returned v) u (Jvm.fieldLocs frame_1_writes args s ++ Jvm.arrayLocs frame_1_arrays args s ++ Jvm.staticLocs frame_1_statics s) 16 128 → Post tb e args s (.returned v) u) :
    ArmFor flags0 classFile x code maxLocals ret World_1 tables_1 room_1 Calls_1 rest_1 Pre_1 Post := by
  intro l hfl _ _ p e ha hc hk s m args below hf hA hF happ hP
  obtain ⟨hcalls, hrest, hpre⟩ := hP
  obtain ⟨-, -, -, hnamed, -, -, -, hat⟩ := (Spec.applies_iff hf).mp happ
  obtain ⟨hg, hn⟩ := and_e (Cond.before_iff.mp (show (Jvm.Cond.and given_1 narrow_1).before args s = true from hpre))
  obtain ⟨g0, hg0⟩ := and_e hg
  obtain ⟨ga0, hg1⟩ := and_e hg0
  obtain ⟨ga1, hg2⟩ := and_e hg1
  obtain ⟨w0, w1, w2, rfl⟩ : ∃ w0 w1 w2 : Value, args = #[w0, w1, w2] := by
    have hs : args.size = 3 := by simpa [Cond.value, given_1] using g0
    obtain ⟨L⟩ := args
    match L, hs with
    | [w0, w1, w2], _ => exact ⟨w0, w1, w2, rfl⟩
  have hw := fun d (hd : d ∈ tables_1) => atoms_spec (ws := Jvm.Cond.code x code maxLocals ret :: tables_1) hat d (List.mem_cons_of_mem _ hd)
  obtain ⟨i0, ei0⟩ := isL_v ga0
  obtain rfl : w0 = (.long i0) := Option.some.inj ei0
  obtain ⟨i1, ei1⟩ := is_v ga1
  obtain rfl : w1 = (.int i1) := Option.some.inj ei1
  obtain ⟨i2, ei2⟩ := is_v hg2
  obtain rfl : w2 = (.int i2) := Option.some.inj ei2
  have hfit : Fit s := fun {y c} hc i hi => by
    obtain ⟨ha, rfl⟩ := Array.getElem?_eq_some_iff.mp hc
    have q := List.all_eq_true.mp ((Array.all_eq_true_iff_forall_mem.mp hF) _ (Array.getElem_mem ha)) i (List.mem_range.mpr hi)
    simpa [Array.getElem?_eq_getElem hi] using q
  obtain ⟨c0, hn⟩ := and_e hn
  obtain ⟨c1, hn⟩ := and_e hn
  obtain ⟨c2, hn⟩ := and_e hn
  obtain ⟨c3, hn⟩ := and_e hn
  obtain ⟨c4, hn⟩ := and_e hn
  obtain ⟨c5, hn⟩ := and_e hn
  obtain ⟨c6, hn⟩ := and_e hn
  obtain ⟨c7, hn⟩ := and_e hn
  obtain ⟨c8, hn⟩ := and_e hn
  obtain ⟨c9, hn⟩ := and_e hn
  obtain ⟨c10, hn⟩ := and_e hn
  obtain ⟨c11, hn⟩ := and_e hn
  obtain ⟨c12, hn⟩ := and_e hn
  obtain ⟨c13, hn⟩ := and_e hn
  obtain ⟨c14, hn⟩ := and_e hn
  obtain ⟨t, et⟩ := arr_v c0
  obtain ⟨cl, Ar⟩ := Arr.start et c0
  have St := Sta.start et (Or.inr ⟨(hw _ (List.mem_of_getElem? (i := 11) rfl)), (hw _ (List.mem_of_getElem? (i := 17) rfl))⟩)
  have har : s.arrayAt? t = some cl := Ar.fin (Vm.Alike.refl _)
  have hsz := own_size et har c1
  have et' : ∀ idx, (Jvm.Term.static "com/example/kept_till_acked/kepttillacked/api/JsonOut" "ESCAPES" "[B").eval #[(.long i0), (.int i1), (.int i2)] s none idx s = some (.ref t) := fun idx => et
  have hval : ∀ q, q < 128 → cl.slots[q]? = some (.int (own_esc q)) := by
    intro q hq
    by_cases a8 : q < 8
    · have h := Cond.all_elim et har c2 q (by omega)
      have h := own_or h (by rw [own_ixle]; exact congrArg some (own_le_no (n := 8) (by decide) (by omega) (by omega)))
      rw [own_el h (et' _) rfl Ar.1 (own_nat32 (by omega)), show own_esc q = 5 from by simp only [own_esc]; rw [if_pos (by omega), if_neg (by omega)]]
    by_cases a9 : q < 9
    · have e : q = 8 := by omega
      exact own_esc_in (k := 8) (by rw [e]; exact own_el c3 et rfl Ar.1 rfl) e
    by_cases a10 : q < 10
    · have e : q = 9 := by omega
      exact own_esc_in (k := 9) (by rw [e]; exact own_el c4 et rfl Ar.1 rfl) e
    by_cases a11 : q < 11
    · have e : q = 10 := by omega
      exact own_esc_in (k := 10) (by rw [e]; exact own_el c5 et rfl Ar.1 rfl) e
    by_cases a12 : q < 12
    · have e : q = 11 := by omega
      exact own_esc_in (k := 11) (by rw [e]; exact own_el c6 et rfl Ar.1 rfl) e
    by_cases a13 : q < 13
    · have e : q = 12 := by omega
      exact own_esc_in (k := 12) (by rw [e]; exact own_el c7 et rfl Ar.1 rfl) e
    by_cases a14 : q < 14
    · have e : q = 13 := by omega
      exact own_esc_in (k := 13) (by rw [e]; exact own_el c8 et rfl Ar.1 rfl) e
    by_cases a32 : q < 32
    · have h := Cond.all_elim et har c9 q (by omega)
      have h := own_or h (by rw [own_ixlt]; exact congrArg some (own_lt_no (n := 14) (by decide) (by omega) (by omega)))
      have h := own_or h (by rw [own_ixle]; exact congrArg some (own_le_no (n := 32) (by decide) (by omega) (by omega)))
      rw [own_el h (et' _) rfl Ar.1 (own_nat32 (by omega)), show own_esc q = 5 from by simp only [own_esc]; rw [if_pos (by omega), if_neg (by omega)]]
    by_cases a33 : q < 33
    · have e : q = 32 := by omega
      exact own_esc_in (k := 32) (by rw [e]; exact own_el c10 et rfl Ar.1 rfl) e
    by_cases a34 : q < 34
    · have e : q = 33 := by omega
      exact own_esc_in (k := 33) (by rw [e]; exact own_el c11 et rfl Ar.1 rfl) e
    by_cases a35 : q < 35
    · have e : q = 34 := by omega
      exact own_esc_in (k := 34) (by rw [e]; exact own_el c12 et rfl Ar.1 rfl) e
    by_cases a92 : q < 92
    · have h := Cond.all_elim et har c13 q (by omega)
      have h := own_or h (by rw [own_ixlt]; exact congrArg some (own_lt_no (n := 35) (by decide) (by omega) (by omega)))
      have h := own_or h (by rw [own_ixle]; exact congrArg some (own_le_no (n := 92) (by decide) (by omega) (by omega)))
      rw [own_el h (et' _) rfl Ar.1 (own_nat32 (by omega)), show own_esc q = 0 from by simp only [own_esc]; rw [if_neg (by omega), if_neg (by omega)]]
    by_cases a93 : q < 93
    · have e : q = 92 := by omega
      exact own_esc_in (k := 92) (by rw [e]; exact own_el c14 et rfl Ar.1 rfl) e
    · have h := Cond.all_elim et har hn q (by omega)
      have h := own_or h (by rw [own_ixlt]; exact congrArg some (own_lt_no (n := 93) (by decide) (by omega) (by omega)))
      rw [own_el h (et' _) rfl Ar.1 (own_nat32 (by omega)), show own_esc q = 0 from by simp only [own_esc]; rw [if_neg (by omega), if_neg (by omega)]]
  obtain ⟨n, o, h1, h2, h3, _, L, rfl, ⟨rfl, N, -⟩, hq⟩ := rm0 l s _ hw tables_1 i0 i1 i2 t own_esc s.heap s.heap.size (Nat.le_refl _) (Old.start s) St ⟨cl, Ar, hsz, hval⟩ (fun _ _ => rfl) p e ha hc hk s m _ below hf ((Spec.applies_iff_loose hf).mp happ).1 ⟨rfl, State.Warmed39.refl s, rfl⟩ trivial
  refine ⟨n, _, h1, h2, h3, hpost _ _ _ _ _ _ ⟨Cond.after_iff.mpr rfl, Cond.after_iff.mpr (eq_i res_at (Term.int_eval (1)) rfl), trivial⟩ ⟨hq.1, hq.2.1, (hq.2.2.sift fun y hy => Or.inr (N y hy)).mono (by decide) (by decide)⟩⟩
theorem main_1_1 : Claimed_1_1 := comes_1 fun _ _ _ _ _ _ h hF => ⟨h.1, hF⟩
theorem main_1_2 : Claimed_1_2 := comes_1 fun _ _ _ _ _ _ h hF => ⟨h.2.1, hF⟩
end Jvm.Pilot.@@N@@
namespace Jvm.Pilot.@@N@@
open Jvm Jvm.ClassFile Sem Op Lib Jvm.Free Jvm.Stand Jvm.Pilot.@@N@@.Jvm.D
/-! MADE BY PROGRAM (witnessworld.py) out of the Statement's table words and the real class files: 9 classes; the members and pool entries that the words name. The judged class is class 1, her method 1. -/
namespace start1
open Jvm.ClassFile
def u (s : String) : CpInfo := .utf8 (stringToUtf16 s)
/-- a pool by its gaps: so many unusable entries, then the entry; so many at the end -/
def gap : Nat → List CpInfo → List CpInfo
  | 0, r => r
  | n + 1, r => .unusable :: gap n r
def poolList (es : List (Nat × CpInfo)) (last : Nat) : List CpInfo := es.foldr (fun e r => gap e.1 (e.2 :: r)) (gap last [])
def pool (es : List (Nat × CpInfo)) (last : Nat) : Array CpInfo := ⟨poolList es last⟩
def fileOf (pool : Array CpInfo) (this : Nat) (attrs : Array Attribute := #[]) (ms : Array MethodInfo := #[]) (fl : Nat := 33) (sup : Nat := 0) (ifs : Array Nat := #[]) (fds : Array FieldInfo := #[]) : ClassFile where
  minorVersion := 0
  majorVersion := 65
  constantPool := pool
  accessFlags := fl
  thisClass := this
  superClass := sup
  interfaces := ifs
  fields := fds
  methods := ms
  attributes := attrs
def plain (name : String) (sup : Option ClassId) : Class where
  name := name
  kind := .ordinary
  loader := none
  accessFlags := 33
  super := sup
  interfaces := #[]
  cf := none
  fields := #[]
  methods := #[]
  instanceTypes := #[]
  staticTypes := #[]
  resolved := #[]
  callSites := []
  init := .initialized
  statics := none
  mirror := none

def pool0 : Array CpInfo := pool [(5, u "<init>"), (0, u "()V"), (1, .class_ 10), (1, u "java/lang/Object")] 113

def k0m0 : Method := { name := "<init>", desc := "()V", sig := { parameters := [], returnType := none }, accessFlags := 1, code := none }
/-- java/lang/Object -/
def k0 : Class := { plain "java/lang/Object" none with
  accessFlags := 33
  interfaces := #[]
  cf := some (fileOf pool0 8 #[] #[{ accessFlags := 1, nameIndex := 5, descriptorIndex := 6, attributes := #[] }] 33 0 #[] #[])
  fields := #[]
  methods := #[k0m0]
  instanceTypes := #[]
  staticTypes := #[]
  resolved := Array.replicate 124 none
  statics := none }

def pool1 : Array CpInfo := pool [(2, .class_ 4), (1, u "java/lang/Object"), (0, u "<init>"), (0, u "()V"), (0, .integer 2147483647), (0, .methodref 9 10), (0, .class_ 11), (0, .nameAndType 12 13), (0, u "com/example/kept_till_acked/kepttillacked/api/JsonOutEscapedLengthPinLaw"), (0, u "set"), (0, u "([BIB)V"), (0, .methodref 9 15), (0, .nameAndType 16 17), (0, u "extra"), (0, u "([BI)I"), (0, .methodref 19 20), (0, .class_ 21), (0, .nameAndType 22 23), (0, u "com/example/kept_till_acked/kepttillacked/api/JsonOut"), (0, u "escapedLength"), (0, u "([B)J"), (2, u "law"), (0, u "(JII)Z")] 5

def k1m0 : Method := { name := "<init>", desc := "()V", sig := { parameters := [], returnType := none }, accessFlags := 1, code := none }
def k1c1 : Code := { maxStack := 5, maxLocals := 8, code := code, exceptionTable := #[], attributes := #[] }
def k1m1 : Method := { name := "law", desc := "(JII)Z", sig := { parameters := [.long, .int, .int], returnType := some .boolean }, accessFlags := 9, code := some k1c1 }
def k1c2 : Code := { maxStack := 3, maxLocals := 3, code := method_3_code, exceptionTable := #[], attributes := #[] }
def k1m2 : Method := { name := "set", desc := "([BIB)V", sig := { parameters := [(.array .byte), .int, .byte], returnType := none }, accessFlags := 10, code := some k1c2 }
def k1c3 : Code := { maxStack := 3, maxLocals := 4, code := method_4_code, exceptionTable := #[], attributes := #[] }
def k1m3 : Method := { name := "extra", desc := "([BI)I", sig := { parameters := [(.array .byte), .int], returnType := some .int }, accessFlags := 10, code := some k1c3 }
/-- com/example/kept_till_acked/kepttillacked/api/JsonOutEscapedLengthPinLaw -/
def k1 : Class := { plain "com/example/kept_till_acked/kepttillacked/api/JsonOutEscapedLengthPinLaw" (some 0) with
  accessFlags := 49
  interfaces := #[]
  cf := some (fileOf pool1 9 #[] #[{ accessFlags := 1, nameIndex := 5, descriptorIndex := 6, attributes := #[] }, { accessFlags := 9, nameIndex := 26, descriptorIndex := 27, attributes := #[] }, { accessFlags := 10, nameIndex := 12, descriptorIndex := 13, attributes := #[] }, { accessFlags := 10, nameIndex := 16, descriptorIndex := 17, attributes := #[] }] 49 2 #[] #[])
  fields := #[]
  methods := #[k1m0, k1m1, k1m2, k1m3]
  instanceTypes := #[]
  staticTypes := #[]
  resolved := Array.replicate 33 none
  statics := none }

def pool2 : Array CpInfo := pool [(2, .class_ 4), (1, u "java/lang/Object"), (6, .class_ 13), (1, u "com/example/kept_till_acked/kepttillacked/api/JsonOut"), (0, u "chunks"), (0, u "Ljava/util/List;"), (2, u "started"), (0, u "[Z"), (9, u "bytes"), (0, u "[B"), (16, u "length"), (0, u "I"), (32, u "depth"), (17, .fieldref 11 100), (0, .nameAndType 101 30), (0, u "ESCAPES"), (0, .methodref 11 103), (0, .nameAndType 104 105), (0, u "isSeparator"), (0, u "([BI)Z"), (0, .long 3), (34, u "HEX"), (35, u "CHUNK_BYTES"), (1, u "MAX_DEPTH"), (1, u "LINE_SEPARATOR"), (0, u "C"), (1, u "PARAGRAPH_SEPARATOR"), (17, u "escapedLength"), (0, u "([B)J")] 8

def k2c0 : Code := { maxStack := 4, maxLocals := 5, code := prog_7_method_10_code, exceptionTable := #[], attributes := #[] }
def k2m0 : Method := { name := "escapedLength", desc := "([B)J", sig := { parameters := [(.array .byte)], returnType := some .long }, accessFlags := 8, code := some k2c0 }
def k2c1 : Code := { maxStack := 3, maxLocals := 2, code := prog_7_method_21_code, exceptionTable := #[], attributes := #[] }
def k2m1 : Method := { name := "isSeparator", desc := "([BI)Z", sig := { parameters := [(.array .byte), .int], returnType := some .boolean }, accessFlags := 10, code := some k2c1 }
/-- com/example/kept_till_acked/kepttillacked/api/JsonOut -/
def k2 : Class := { plain "com/example/kept_till_acked/kepttillacked/api/JsonOut" (some 0) with
  accessFlags := 32
  interfaces := #[]
  cf := some (fileOf pool2 11 #[] #[{ accessFlags := 8, nameIndex := 202, descriptorIndex := 203, attributes := #[] }, { accessFlags := 10, nameIndex := 104, descriptorIndex := 105, attributes := #[] }] 32 2 #[] #[{ accessFlags := 26, nameIndex := 177, descriptorIndex := 48, attributes := #[] }, { accessFlags := 26, nameIndex := 141, descriptorIndex := 30, attributes := #[] }, { accessFlags := 26, nameIndex := 179, descriptorIndex := 48, attributes := #[] }, { accessFlags := 26, nameIndex := 181, descriptorIndex := 182, attributes := #[] }, { accessFlags := 26, nameIndex := 184, descriptorIndex := 182, attributes := #[] }, { accessFlags := 26, nameIndex := 101, descriptorIndex := 30, attributes := #[] }, { accessFlags := 18, nameIndex := 14, descriptorIndex := 15, attributes := #[] }, { accessFlags := 2, nameIndex := 29, descriptorIndex := 30, attributes := #[] }, { accessFlags := 2, nameIndex := 47, descriptorIndex := 48, attributes := #[] }, { accessFlags := 2, nameIndex := 81, descriptorIndex := 48, attributes := #[] }, { accessFlags := 18, nameIndex := 18, descriptorIndex := 19, attributes := #[] }])
  fields := #[{ name := "CHUNK_BYTES", type := .int, accessFlags := 26, slot := 0, constantValue := 0 }, { name := "HEX", type := (.array .byte), accessFlags := 26, slot := 1, constantValue := 0 }, { name := "MAX_DEPTH", type := .int, accessFlags := 26, slot := 2, constantValue := 0 }, { name := "LINE_SEPARATOR", type := .char, accessFlags := 26, slot := 3, constantValue := 0 }, { name := "PARAGRAPH_SEPARATOR", type := .char, accessFlags := 26, slot := 4, constantValue := 0 }, { name := "ESCAPES", type := (.array .byte), accessFlags := 26, slot := 5, constantValue := 0 }, { name := "chunks", type := (.object "java/util/List"), accessFlags := 18, slot := 0, constantValue := 0 }, { name := "bytes", type := (.array .byte), accessFlags := 2, slot := 1, constantValue := 0 }, { name := "length", type := .int, accessFlags := 2, slot := 2, constantValue := 0 }, { name := "depth", type := .int, accessFlags := 2, slot := 3, constantValue := 0 }, { name := "started", type := (.array .boolean), accessFlags := 18, slot := 4, constantValue := 0 }]
  methods := #[k2m0, k2m1]
  instanceTypes := #[(.object "java/util/List"), (.array .byte), .int, .int, (.array .boolean)]
  staticTypes := #[.int, (.array .byte), .int, .char, .char, (.array .byte)]
  resolved := Array.replicate 212 none
  statics := some 0 }

def pool3 : Array CpInfo := pool [(1, u "java/lang/Cloneable"), (0, .class_ 1), (0, u "java/lang/Object"), (0, .class_ 3)] 3

/-- java/lang/Cloneable -/
def k3 : Class := { plain "java/lang/Cloneable" (some 0) with
  accessFlags := 1537
  interfaces := #[]
  cf := some (fileOf pool3 2 #[] #[] 1537 4 #[] #[])
  fields := #[]
  methods := #[]
  instanceTypes := #[]
  staticTypes := #[]
  resolved := Array.replicate 8 none
  statics := none }

def pool4 : Array CpInfo := pool [(1, u "java/io/Serializable"), (0, .class_ 1), (0, u "java/lang/Object"), (0, .class_ 3)] 3

/-- java/io/Serializable -/
def k4 : Class := { plain "java/io/Serializable" (some 0) with
  accessFlags := 1537
  interfaces := #[]
  cf := some (fileOf pool4 2 #[] #[] 1537 4 #[] #[])
  fields := #[]
  methods := #[]
  instanceTypes := #[]
  staticTypes := #[]
  resolved := Array.replicate 8 none
  statics := none }

/-- the primitive byte -/
def k5 : Class := { plain "byte" none with kind := .primitive 'B', accessFlags := 0x411 }
/-- [B -/
def k6 : Class := { plain "[B" (some 0) with kind := .array 5 .byte, interfaces := #[3, 4], accessFlags := 1041 }

/-- the primitive int -/
def k7 : Class := { plain "int" none with kind := .primitive 'I', accessFlags := 0x411 }
/-- [I -/
def k8 : Class := { plain "[I" (some 0) with kind := .array 7 .int, interfaces := #[3, 4], accessFlags := 1041 }

def heap : Heap := #[{ cls := 2, slots := #[.int 0, .null, .int 0, .int 0, .int 0, .ref 1], vm := .statics 2 },
  { cls := 6, slots := #[.int 5, .int 5, .int 5, .int 5, .int 5, .int 5, .int 5, .int 5, .int 1, .int 1, .int 1, .int 5, .int 1, .int 1, .int 5, .int 5, .int 5, .int 5, .int 5, .int 5, .int 5, .int 5, .int 5, .int 5, .int 5, .int 5, .int 5, .int 5, .int 5, .int 5, .int 5, .int 5, .int 0, .int 0, .int 1, .int 0, .int 0, .int 0, .int 0, .int 0, .int 0, .int 0, .int 0, .int 0, .int 0, .int 0, .int 0, .int 0, .int 0, .int 0, .int 0, .int 0, .int 0, .int 0, .int 0, .int 0, .int 0, .int 0, .int 0, .int 0, .int 0, .int 0, .int 0, .int 0, .int 0, .int 0, .int 0, .int 0, .int 0, .int 0, .int 0, .int 0, .int 0, .int 0, .int 0, .int 0, .int 0, .int 0, .int 0, .int 0, .int 0, .int 0, .int 0, .int 0, .int 0, .int 0, .int 0, .int 0, .int 0, .int 0, .int 0, .int 0, .int 1, .int 0, .int 0, .int 0, .int 0, .int 0, .int 0, .int 0, .int 0, .int 0, .int 0, .int 0, .int 0, .int 0, .int 0, .int 0, .int 0, .int 0, .int 0, .int 0, .int 0, .int 0, .int 0, .int 0, .int 0, .int 0, .int 0, .int 0, .int 0, .int 0, .int 0, .int 0, .int 0, .int 0, .int 0, .int 0], vm := .none }]
def classes : Array Class := #[k0, k1, k2, k3, k4, k5, k6, k7, k8]
def interned : List (Array UInt16 × Addr) := []
def slotsUsed : Nat := 134
def theMethod : MethodId := ⟨1, 1⟩
def args0 : Array Value := #[.long 5, .int 6, .int 7]
def aboutOver (below : List Frame) : State where
  vm := { classes := classes, interned := interned.toArray }
  heap := heap
  slotsUsed := slotsUsed
  threads := #[{ frames := .invoking theMethod args0 :: below }]
def below0 : List Frame := [.native { method := ⟨0, 0⟩, args := #[] }]
def about1 : State := aboutOver below0
def p0 : Program := .bare "" "" ""
def e0 : Env := launch0.env 0 0 0
theorem w_frames : about1.frames = Frame.invoking theMethod args0 :: below0 := rfl
set_option maxRecDepth 65536 in
theorem w_args : argsFit about1.vm theMethod args0 = true := by decide +kernel
set_option maxRecDepth 65536 in
theorem w_heap : heapFits about1 = true := by decide +kernel
set_option maxRecDepth 65536 in
theorem w_runnable : about1.curStatus? = some .runnable := by decide +kernel
set_option maxRecDepth 65536 in
theorem w_alone : about1.alone = true := by decide +kernel
set_option maxRecDepth 65536 in
theorem w_named : about1.methodNamed? x = some theMethod := by decide +kernel
set_option maxRecDepth 65536 in
theorem w_hears : about1.hears theMethod below0 = true := by decide +kernel
set_option maxRecDepth 65536 in
theorem w_ripe : about1.ripe theMethod args0 below0 = true := by decide +kernel
theorem w_running : about1.status = .running := rfl
set_option maxRecDepth 65536 in
theorem w_room : about1.hasRoom e0.platform room_1 = true :=
  launch0.hasRoom_least _ room_1 (by decide +kernel) (by decide +kernel) (by decide +kernel) (by decide +kernel) (by decide +kernel) (by decide +kernel)
theorem allAtoms_all (ts : List Jvm.Cond) (a : Array Jvm.Value) (st : Jvm.State) : (allAtoms ts).before a st = ts.all (fun c => c.before a st) := by
  induction ts with
  | nil => rfl
  | cons c t ih =>
    show (Jvm.Cond.and c (allAtoms t)).before a st = _
    rw [Jvm.Cond.before_and, ih, List.all_cons]
def words1 : List Jvm.Cond := Jvm.Cond.code x code maxLocals ret :: tables_1
/-- a 'code' word, met by the world's own term for the bytes: nothing is compared byte by byte -/
theorem code_word {y : MethodName} {bytes : ByteArray} {mx : Nat} {rt : Option FieldType} {a : Array Value} {s : State} {m : MethodId} {meth : Method} {c : Code} (h1 : s.methodNamed? y = some m) (h2 : s.vm.method? m = some meth) (h3 : meth.code = some c) (h4 : c.code = bytes)
    (h5 : (c.maxLocals == mx && c.exceptionTable.isEmpty && decide (c.maxStack ≤ mostOperands) && decide (meth.sig.returnType = rt) && !meth.locks && decide (parseMethodDescriptor y.desc = some meth.sig)) = true) : (Jvm.Cond.code y bytes mx rt).before a s = true := by
  simp only [Bool.and_eq_true, beq_iff_eq, Bool.not_eq_true', decide_eq_true_eq] at h5
  obtain ⟨⟨⟨⟨⟨g1, g2⟩, g3⟩, g4⟩, g5⟩, g6⟩ := h5
  simp [Cond.before, Cond.holds, Cond.value, h1, h2, h3, h4, g1, g2, g3, g4, g5, g6]
def isCode : Jvm.Cond → Bool
  | .code _ _ _ _ => true
  | _ => false
theorem all_split {L : List Jvm.Cond} {P : Jvm.Cond → Bool} (h1 : L.all (fun c => isCode c || P c) = true) (h2 : ∀ c ∈ L.filter isCode, P c = true) : L.all P = true := by
  refine List.all_eq_true.mpr fun c hc => ?_
  have h := List.all_eq_true.mp h1 c hc
  rcases Bool.eq_false_or_eq_true (isCode c) with hi | hi
  · exact h2 c (List.mem_filter.mpr ⟨hc, hi⟩)
  · simpa [hi] using h
set_option maxRecDepth 65536 in
theorem w_c0 : (Jvm.Cond.code x code maxLocals ret).before args0 about1 = true := code_word (m := ⟨1, 1⟩) (meth := k1m1) (c := k1c1) (by decide +kernel) rfl rfl rfl (by decide +kernel)
set_option maxRecDepth 65536 in
theorem w_c1 : (Jvm.Cond.code ({ cls := "com/example/kept_till_acked/kepttillacked/api/JsonOutEscapedLengthPinLaw", name := "set", desc := "([BIB)V" } : Jvm.MethodName) method_3_code (3 : Nat) (Option.none : Option Jvm.ClassFile.FieldType)).before args0 about1 = true := code_word (m := ⟨1, 2⟩) (meth := k1m2) (c := k1c2) (by decide +kernel) rfl rfl rfl (by decide +kernel)
set_option maxRecDepth 65536 in
theorem w_c2 : (Jvm.Cond.code ({ cls := "com/example/kept_till_acked/kepttillacked/api/JsonOutEscapedLengthPinLaw", name := "extra", desc := "([BI)I" } : Jvm.MethodName) method_4_code (4 : Nat) (Option.some Jvm.ClassFile.FieldType.int)).before args0 about1 = true := code_word (m := ⟨1, 3⟩) (meth := k1m3) (c := k1c3) (by decide +kernel) rfl rfl rfl (by decide +kernel)
set_option maxRecDepth 65536 in
theorem w_c3 : (Jvm.Cond.code ({ cls := "com/example/kept_till_acked/kepttillacked/api/JsonOut", name := "escapedLength", desc := "([B)J" } : Jvm.MethodName) prog_7_method_10_code (5 : Nat) (Option.some Jvm.ClassFile.FieldType.long)).before args0 about1 = true := code_word (m := ⟨2, 0⟩) (meth := k2m0) (c := k2c0) (by decide +kernel) rfl rfl rfl (by decide +kernel)
set_option maxRecDepth 65536 in
theorem w_c4 : (Jvm.Cond.code ({ cls := "com/example/kept_till_acked/kepttillacked/api/JsonOut", name := "isSeparator", desc := "([BI)Z" } : Jvm.MethodName) prog_7_method_21_code (2 : Nat) (Option.some Jvm.ClassFile.FieldType.boolean)).before args0 about1 = true := code_word (m := ⟨2, 1⟩) (meth := k2m1) (c := k2c1) (by decide +kernel) rfl rfl rfl (by decide +kernel)
def codes1 : List Jvm.Cond := [Jvm.Cond.code x code maxLocals ret, Jvm.Cond.code ({ cls := "com/example/kept_till_acked/kepttillacked/api/JsonOutEscapedLengthPinLaw", name := "set", desc := "([BIB)V" } : Jvm.MethodName) method_3_code (3 : Nat) (Option.none : Option Jvm.ClassFile.FieldType), Jvm.Cond.code ({ cls := "com/example/kept_till_acked/kepttillacked/api/JsonOutEscapedLengthPinLaw", name := "extra", desc := "([BI)I" } : Jvm.MethodName) method_4_code (4 : Nat) (Option.some Jvm.ClassFile.FieldType.int), Jvm.Cond.code ({ cls := "com/example/kept_till_acked/kepttillacked/api/JsonOut", name := "escapedLength", desc := "([B)J" } : Jvm.MethodName) prog_7_method_10_code (5 : Nat) (Option.some Jvm.ClassFile.FieldType.long), Jvm.Cond.code ({ cls := "com/example/kept_till_acked/kepttillacked/api/JsonOut", name := "isSeparator", desc := "([BI)Z" } : Jvm.MethodName) prog_7_method_21_code (2 : Nat) (Option.some Jvm.ClassFile.FieldType.boolean)]
set_option maxRecDepth 65536 in
theorem codes_eq : words1.filter isCode = codes1 := rfl
theorem w_codes : ∀ c ∈ words1.filter isCode, c.before args0 about1 = true := by
  rw [codes_eq]
  intro c hc
  simp only [codes1, List.mem_cons, List.not_mem_nil, or_false] at hc
  rcases hc with rfl | rfl | rfl | rfl | rfl
  · exact w_c0
  · exact w_c1
  · exact w_c2
  · exact w_c3
  · exact w_c4
set_option maxRecDepth 65536 in
theorem w_t1 : words1.all (fun c => isCode c || c.before args0 about1) = true := by decide +kernel
theorem w_tables : (allAtoms (Jvm.Cond.code x code maxLocals ret :: tables_1)).before args0 about1 = true := by
  rw [allAtoms_all]
  show words1.all (fun c => c.before args0 about1) = true
  refine all_split ?_ w_codes
  rw [w_t1]
set_option maxRecDepth 65536 in
theorem w_case : (Jvm.Cond.and given_1 narrow_1).before args0 about1 = true := by decide +kernel
theorem w_applies : (headSpec (Jvm.Cond.code x code maxLocals ret :: tables_1) room_1).applies x e0.platform about1 = true :=
  (Spec.applies_iff w_frames).mpr ⟨w_running, w_runnable, w_alone, w_named, w_hears, w_ripe, w_room, w_tables⟩
theorem atStart : AtStart classFile x code maxLocals ret World_1 tables_1 room_1 Calls_1 rest_1 Pre_1 launch0 p0 e0 about1 theMethod args0 below0 :=
  ⟨lists_1, trivial, launch0.admits_env _ _ _, launch0.least_env, fairChoices_fair.cas, fairChoices_fair.clock, w_frames, w_args, w_heap, w_applies, trivial, trivial, w_case⟩
end start1
theorem witness_1 : WitnessClaimed_1 := ⟨start1.p0, start1.e0, start1.about1, start1.theMethod, start1.args0, start1.below0, start1.atStart⟩
end Jvm.Pilot.@@N@@
