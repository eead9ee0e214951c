import JvmDerived
import JvmDerived.Pilot.@@N@@Statement
import JvmDerived.Pilot.@@N@@Code
set_option linter.unusedVariables false
set_option linter.unusedSimpArgs false
namespace Jvm.RoadKit
open Sem ClassFile Op Lib Jvm.Stand Jvm.Free Jvm.LawKit
section New
variable {p : Program} {l : Launch} {e : Env} {R : Room} {s : State} {m : MethodId} {args : Array Value} {below : List Frame} {meth : Method} {c : Code} {T : State} {locs : List Loc} {cells slots : Nat} {K : Outcome → State → Prop}
theorem retI (X : Stand p l e R s m args below meth c T locs cells slots) (hx : p.tables.exec = Jvm.exec) {pc : Nat} {Ls : Array Slot} {z : Int32} {rest : List Value} (hret : meth.sig.returnType = some .int) (hd : decode c.code pc = .ok (.ireturn, 1)) {fs : List Frame}
    (hl : ∀ (f : JFrame) (acts : List Action), f.method = m → f.locked = none → f.entered = [] → (doReturn e (T.setTop f) acts (some (.int z))).1 = T.setFrames fs) : Steps p.tables e below (T.setTop (mkF m pc Ls (.int z :: rest))) (T.setFrames fs) := by
  have hm' : T.vm.method? m = some meth := X.method'
  have hn : narrow .int (.int z) = .int z := rfl
  show Steps p.tables e below (T.setTop { method := m, pc := pc, locals := Ls, stack := _ :: rest, locked := none }) _
  jvm_step X.here [X.here.top, hx, hd, hm', hret, hn]
  first | (intro acts; rw [hl _ acts rfl rfl rfl]) | rw [hl _ _ rfl rfl rfl]
  exact Steps.refl _
/-- from here the run comes to an end that K holds of -/
def Rch (p : Program) (e : Env) (below : List Frame) (K : Outcome → State → Prop) (T : State) (g : JFrame) : Prop := ∃ s₂ o, Steps p.tables e below (T.setTop g) s₂ ∧ s₂.status = .running ∧ Ended s₂ below o ∧ K o s₂
theorem Rch.of {T T' : State} {g g' : JFrame} (h : ∀ t, Steps p.tables e below (T'.setTop g') t → Steps p.tables e below (T.setTop g) t) (k : Rch p e below K T' g') : Rch p e below K T g := by
  obtain ⟨s₂, o, h1, h2⟩ := k
  exact ⟨s₂, o, h _ h1, h2⟩
theorem Rch.via {T T' : State} {g g' : JFrame} (h : Steps p.tables e below (T.setTop g) (T'.setTop g')) (k : Rch p e below K T' g') : Rch p e below K T g := Rch.of (fun _ kt => h.trans kt) k
theorem Rch.cast {T : State} {g g' : JFrame} (q : g = g') (k : Rch p e below K T g') : Rch p e below K T g := q ▸ k
theorem Rch.retN (X : Stand p l e R s m args below meth c T locs cells slots) (hx : p.tables.exec = Jvm.exec) {pc : Nat} {Ls : Array Slot} {z : Int32} {t : FieldType} {rest : List Value} (hret : meth.sig.returnType = some t) (ht : t = .boolean ∨ t = .byte ∨ t = .char ∨ t = .short) (hlk : meth.locks = false) (hd : decode c.code pc = .ok (.ireturn, 1))
    (k : ∀ U : State, U.heap = T.heap → FrameEnd s (.returned (some (.int (nar t z)))) U locs cells slots → K (.returned (some (.int (nar t z)))) U) : Rch p e below K T (mkF m pc Ls (.int z :: rest)) := by
  obtain ⟨fs, hr, hrun, hended, hW, hsame⟩ := X.leave (v := some (.int (nar t z))) (fun h => by rw [hret] at h; cases h) hlk
  exact ⟨_, _, Jvm.RoadKit.retN X hx hret ht hd hr, hrun, hended, k _ rfl ⟨⟨_, rfl⟩, hW, hsame⟩⟩
theorem Rch.retI (X : Stand p l e R s m args below meth c T locs cells slots) (hx : p.tables.exec = Jvm.exec) {pc : Nat} {Ls : Array Slot} {z : Int32} {rest : List Value} (hret : meth.sig.returnType = some .int) (hlk : meth.locks = false) (hd : decode c.code pc = .ok (.ireturn, 1))
    (k : ∀ U : State, U.heap = T.heap → FrameEnd s (.returned (some (.int z))) U locs cells slots → K (.returned (some (.int z))) U) : Rch p e below K T (mkF m pc Ls (.int z :: rest)) := by
  obtain ⟨fs, hr, hrun, hended, hW, hsame⟩ := X.leave (v := some (.int z)) (fun h => by rw [hret] at h; cases h) hlk
  exact ⟨_, _, Jvm.RoadKit.retI X hx hret hd hr, hrun, hended, k _ rfl ⟨⟨_, rfl⟩, hW, hsame⟩⟩
theorem Rch.retJ (X : Stand p l e R s m args below meth c T locs cells slots) (hx : p.tables.exec = Jvm.exec) {pc : Nat} {Ls : Array Slot} {z : Int64} {rest : List Value} (hret : meth.sig.returnType = some .long) (hlk : meth.locks = false) (hd : decode c.code pc = .ok (.lreturn, 1))
    (k : ∀ U : State, U.heap = T.heap → FrameEnd s (.returned (some (.long z))) U locs cells slots → K (.returned (some (.long z))) U) : Rch p e below K T (mkF m pc Ls (.long z :: rest)) := by
  obtain ⟨fs, hr, hrun, hended, hW, hsame⟩ := X.leave (v := some (.long z)) (fun h => by rw [hret] at h; cases h) hlk
  exact ⟨_, _, retOut X hx hret rfl (Or.inr (Or.inl ⟨rfl, rfl, z, rfl⟩)) hd hr, hrun, hended, k _ rfl ⟨⟨_, rfl⟩, hW, hsame⟩⟩
theorem Rch.retA (X : Stand p l e R s m args below meth c T locs cells slots) (hx : p.tables.exec = Jvm.exec) {pc : Nat} {Ls : Array Slot} {w : Value} {t : FieldType} {rest : List Value} (hret : meth.sig.returnType = some t) (ht : t.isReference = true) (hw : w.isRef = true) (hlk : meth.locks = false) (hd : decode c.code pc = .ok (.areturn, 1))
    (k : ∀ U : State, U.heap = T.heap → FrameEnd s (.returned (some w)) U locs cells slots → K (.returned (some w)) U) : Rch p e below K T (mkF m pc Ls (w :: rest)) := by
  obtain ⟨fs, hr, hrun, hended, hW, hsame⟩ := X.leave (v := some w) (fun h => by rw [hret] at h; cases h) hlk
  have hn : narrow t w = w := by
    rcases ref_cases hw with rfl | ⟨a, rfl⟩ <;> cases t <;> first | rfl | (simp [FieldType.isReference] at ht)
  exact ⟨_, _, retOut X hx hret hn (Or.inr (Or.inr (Or.inr (Or.inr ⟨rfl, ht, hw⟩)))) hd hr, hrun, hended, k _ rfl ⟨⟨_, rfl⟩, hW, hsame⟩⟩
theorem Rch.retV (X : Stand p l e R s m args below meth c T locs cells slots) (hx : p.tables.exec = Jvm.exec) {pc : Nat} {Ls : Array Slot} (hret : meth.sig.returnType = none) (hlk : meth.locks = false) (hd : decode c.code pc = .ok (.return_, 1))
    (k : ∀ U : State, U.heap = T.heap → FrameEnd s (.returned none) U locs cells slots → K (.returned none) U) : Rch p e below K T (mkF m pc Ls []) := by
  obtain ⟨fs, hr, hrun, hended, hW, hsame⟩ := X.leave (v := none) (fun _ => rfl) hlk
  exact ⟨_, _, X.returnOut hx hret hd hr, hrun, hended, k _ rfl ⟨⟨_, rfl⟩, hW, hsame⟩⟩
theorem own_met {y : MethodName} {bytes : ByteArray} {maxL : Nat} {ret : Option FieldType} {ws : List Cond} {rm : Room} {as' : Array Value} {Z : State} {h0 : Heap} {Q : Option Value → Heap → List Loc → Prop} {ck sk : Nat} (hn : plainFor y = true)
    (body : ∀ (p : Program) (e : Env) (s : State) (m : MethodId) (below : List Frame) (meth : Method) (c : Code) (T : State) (K : Outcome → State → Prop), p.tables.exec = Jvm.exec → c.code = bytes → c.maxLocals = maxL → meth.sig.returnType = ret → meth.locks = false → s.vm.findClass y.cls = some m.cls → meth.name = y.name → Z.Warmed39 s.vm → Stand p l e rm s m as' below meth c T [] 0 0 → T.heap = h0 →
      (∀ (v : Option Value) (U : State) (L : List Loc) (k n : Nat), Q v U.heap L → FrameEnd s (.returned v) U L k n → k ≤ ck → n ≤ sk → K (.returned v) U) → Rch p e below K T (entryFrame m as' maxL)) :
    MetFree l y (head1 (Cond.code y bytes maxL ret :: ws) rm) (fun a U => a = as' ∧ Z.Warmed39 U.vm ∧ U.heap = h0) (fun _ _ _ _ _ => True) (fun _ U o U' => ∃ v L, o = .returned v ∧ Q v U'.heap L ∧ FrameEnd U o U' L ck sk) := by
  refine MetFree.of_bodySF hn hisR ?_
  intro p e s m args below meth c s₁ Bd hml0 hP hK
  obtain ⟨rfl, hZ, hh⟩ := hP
  show Rch p e below (fun o U' => ∃ v L, o = .returned v ∧ Q v U'.heap L ∧ FrameEnd s o U' L ck sk) s₁ (entryFrame m args maxL)
  refine body p e s m below meth c s₁ _ Bd.exec Bd.bytes hml0 Bd.returns Bd.notSynchronized (findClass_of_methodNamed Bd.named) (name_of_methodNamed Bd.named Bd.method).1 hZ (Stand.of_body Bd) (by rw [← hh, Bd.state]; rfl) ?_
  intro v U L k n hQ hF hk hs
  exact ⟨v, L, rfl, hQ, hF.1, hF.2.1, hF.2.2.mono hk hs⟩
theorem own_metS {y : MethodName} {bytes : ByteArray} {maxL : Nat} {ret : Option FieldType} {ws : List Cond} {rm : Room} {as' : Array Value} {Z : State} {h0 : Heap} {Q : Option Value → Heap → List Loc → Prop} {ck sk : Nat} (hn : plainFor y = true)
    (body : ∀ (p : Program) (e : Env) (s : State) (m : MethodId) (below : List Frame) (meth : Method) (c : Code) (T : State) (K : Outcome → State → Prop), p.tables.exec = Jvm.exec → c.code = bytes → c.maxLocals = maxL → meth.sig.returnType = ret → meth.locks = false → s.vm.findClass y.cls = some m.cls → meth.name = y.name → Z.Warmed39 s.vm → Stand p l e rm s m as' below meth c T [] 0 0 → T.heap = h0 →
      (∀ (v : Option Value) (U : State) (L : List Loc) (k n : Nat), Q v U.heap L → ReturnedEndW s (.returned v) U L k n → k ≤ ck → n ≤ sk → K (.returned v) U) → Rch p e below K T (entryFrame m as' maxL)) :
    MetFree l y (head1 (Cond.code y bytes maxL ret :: ws) rm) (fun a U => a = as' ∧ Z.Warmed39 U.vm ∧ U.heap = h0) (fun _ _ _ _ _ => True) (fun _ U o U' => ∃ v L, o = .returned v ∧ Q v U'.heap L ∧ ReturnedEndW U o U' L ck sk) := by
  refine MetFree.of_bodySF hn hisR ?_
  intro p e s m args below meth c s₁ Bd hml0 hP hK
  obtain ⟨rfl, hZ, hh⟩ := hP
  show Rch p e below (fun o U' => ∃ v L, o = .returned v ∧ Q v U'.heap L ∧ ReturnedEndW s o U' L ck sk) s₁ (entryFrame m args maxL)
  refine body p e s m below meth c s₁ _ Bd.exec Bd.bytes hml0 Bd.returns Bd.notSynchronized (findClass_of_methodNamed Bd.named) (name_of_methodNamed Bd.named Bd.method).1 hZ (Stand.of_body Bd) (by rw [← hh, Bd.state]; rfl) ?_
  intro v U L k n hQ hF hk hs
  exact ⟨v, L, rfl, hQ, hF.1, hF.2.1, hF.2.2.1, hF.2.2.2.mono hk hs⟩
theorem own_end {vm1 : Vm} {n : Nat} (h : s.Since vm1 n) {U : State} {o : Outcome} {L : List Loc} {k c : Nat} (hn : n ≤ U.heap.size) (F : FrameEnd (s.setVm vm1) o U L k c) : ReturnedEndW s o U L k c := by
  obtain ⟨h1, h2, h3⟩ := F
  obtain ⟨g1, g2, g3⟩ := h.ended h2 hn h3
  exact ⟨h1, g1, g2, g3⟩
theorem own_narrowZ {z : Int32} (h : z = 0 ∨ z = 1) : narrow .boolean (.int z) = .int z := by rcases h with rfl | rfl <;> rfl
theorem own_fitZ {z : Int32} (h : z = 0 ∨ z = 1) : fits .boolean (.int z) = true := by rcases h with rfl | rfl <;> rfl
theorem own_narZ {z : Int32} (h : z = 0 ∨ z = 1) : nar .boolean z = z := by rcases h with rfl | rfl <;> rfl
/-- a truth as an int -/
def ob (P : Prop) [Decidable P] : Int32 := if P then 1 else 0
theorem ob_cases (P : Prop) [Decidable P] : (ob P = 1 ∧ P) ∨ (ob P = 0 ∧ ¬ P) := by
  by_cases h : P
  · exact Or.inl ⟨if_pos h, h⟩
  · exact Or.inr ⟨if_neg h, h⟩
theorem ob01 (P : Prop) [Decidable P] : ob P = 0 ∨ ob P = 1 := (ob_cases P).elim (fun h => Or.inr h.1) (fun h => Or.inl h.1)
theorem ob_pos {P : Prop} [Decidable P] (h : P) : ob P = 1 := if_pos h
theorem ob_neg {P : Prop} [Decidable P] (h : ¬ P) : ob P = 0 := if_neg h
theorem own_selP {args : Array Value} {y : MethodName} {n : Nat} (wi : (Cond.instantiable y.cls n).before args s = true) (hp : (Cond.privateMethod y).before args s = true) (hinst : (Cond.instanceMethod y).before args s = true) (hy : y.cls ≠ "java/lang/invoke/MethodHandle" ∧ y.cls ≠ "java/lang/invoke/VarHandle") : (Cond.selects y.cls y y).before args s = true := by
  obtain ⟨c, k, h1, h2, -, h4, -⟩ := Cond.instantiable_spec wi
  exact Jvm.Stand.selects_self_of_private h1 h2 (by cases hq : k.isInterface <;> simp [hq] at h4 ⊢) (Cond.privateMethod_at hp) hinst hy
end New
section Arrays
variable {Z : State} {h h' : Heap} {a b : Addr} {ty : FieldType} {n i : Nat} {f f' : Nat → Value} {sl : Nat} {v : Value} {ws : List Addr} {j : Int32} {c : Cell}
/-- the array at a has n places; place q holds f q -/
def Av (Z : State) (h : Heap) (a : Addr) (ty : FieldType) (n : Nat) (f : Nat → Value) : Prop := ∃ cl : Cell, Arr Z h a cl ty ∧ cl.slots.size = n ∧ ∀ j, j < n → cl.slots[j]? = some (f j)
theorem Av.ext (V : Av Z h a ty n f) (E : Ext h h') : Av Z h' a ty n f := by obtain ⟨c, A, r⟩ := V; exact ⟨c, A.ext E, r⟩
theorem Av.other (V : Av Z h b ty n f) (W : Wr h h' a sl v) (q : b ≠ a) : Av Z h' b ty n f := by obtain ⟨c, A, r⟩ := V; exact ⟨c, A.other W q, r⟩
theorem Av.keep (V : Av Z h a ty n f) (K : Keep h h' ws) (q : a ∉ ws) : Av Z h' a ty n f := by obtain ⟨c, A, r⟩ := V; exact ⟨c, ⟨K.2.1 a c A.1 q, A.2⟩, r⟩
theorem Av.lt (V : Av Z h a ty n f) : a < h.size := by obtain ⟨c, A, -⟩ := V; exact A.lt
theorem Av.congr (V : Av Z h a ty n f) (q : ∀ j, j < n → f j = f' j) : Av Z h a ty n f' := by obtain ⟨c, A, S, H⟩ := V; exact ⟨c, A, S, fun j hj => by rw [H j hj, q j hj]⟩
theorem Av.nostat (V : Av Z h a ty n f) : ∀ cell : Cell, h[a]? = some cell → cell.vm.isStatics = false := by
  obtain ⟨c, A, -⟩ := V
  exact Arr.nostat A
theorem own_sta {C nm d : String} (F : Sta Z h C nm d v) (K : Keep h h' ws) (hn : ∀ x ∈ ws, ∀ cell : Cell, h[x]? = some cell → cell.vm.isStatics = false) : Sta Z h' C nm d v := by
  obtain ⟨cf, i, k, f, st, cell, h1, h2, h3, h4, h5, h6, h7⟩ := F
  refine ⟨cf, i, k, f, st, cell, h1, h2, h3, h4, K.2.1 st cell h5 fun q => ?_, h6, h7⟩
  rw [hn st q cell h5] at h6
  cases h6
theorem oNat (e : j.toInt = (i : Int)) : j.toNatClampNeg = i := by simp only [Int32.toNatClampNeg]; omega
theorem oNn (e : j.toInt = (i : Int)) : ¬ j < 0 := by
  rw [Int32.lt_iff_toInt_lt]; have : (0 : Int32).toInt = 0 := rfl
  omega
theorem oIn (S : c.slots.size = n) (e : j.toInt = (i : Int)) (hi : i < n) : ¬ (j < 0 ∨ c.slots.size ≤ j.toNatClampNeg) := by
  rw [oNat e, S]; intro q
  rcases q with q | q
  · exact oNn e q
  · omega
theorem oAt (H : ∀ j, j < n → c.slots[j]? = some (f j)) (e : j.toInt = (i : Int)) (hi : i < n) : c.slots[j.toNatClampNeg]? = some (f i) := by rw [oNat e]; exact H i hi
theorem Av.set (V : Av Z h a ty n f) (e : j.toInt = (i : Int)) (hi : i < n) (W : Wr h h' a j.toNatClampNeg v) : Av Z h' a ty n (fun q => if q = i then v else f q) := by
  obtain ⟨c, A, S, H⟩ := V
  rw [oNat e] at W
  refine ⟨_, A.same W, by rw [sz_set]; exact S, fun k hk => ?_⟩
  by_cases u : k = i
  · subst u; simp [Cell.setSlot, S, hk]
  · simp only [u, if_false, Cell.setSlot]; rw [Array.getElem?_setIfInBounds_ne (Ne.symm u)]; exact H k hk
theorem Av.setI {y : Nat → Int32} {x : Int32} (V : Av Z h a ty n (fun q => .int (y q))) (e : j.toInt = (i : Int)) (hi : i < n) (W : Wr h h' a j.toNatClampNeg (.int x)) : Av Z h' a ty n (fun q => .int (if q = i then x else y q)) := (V.set e hi W).congr fun k _ => by
  by_cases u : k = i <;> simp [u]
theorem Av.setJ {y : Nat → Int64} {x : Int64} (V : Av Z h a ty n (fun q => .long (y q))) (e : j.toInt = (i : Int)) (hi : i < n) (W : Wr h h' a j.toNatClampNeg (.long x)) : Av Z h' a ty n (fun q => .long (if q = i then x else y q)) := (V.set e hi W).congr fun k _ => by
  by_cases u : k = i <;> simp [u]
theorem oLen (S : c.slots.size = n) : c.slots.size.toInt32 = Int32.ofNat n := by rw [S]
theorem Av.new {k : ClassId} {z : Int32} (A : Arr Z h a (newA k ty z) ty) (e : z.toInt = (n : Int)) : Av Z h a ty n (fun _ => defaultValue ty) :=
  ⟨_, A, by rw [sz_new]; exact oNat e, fun j hj => by have := oNat e; simp [newA, this, hj]⟩
/-- the array at a takes what is a C -/
def OvA (Z : State) (h : Heap) (a : Addr) (C : String) : Prop := ∃ cl : Cell, h[a]? = some cl ∧ Ovr Z cl.cls C
theorem OvA.ext {C : String} (F : OvA Z h a C) (E : Ext h h') : OvA Z h' a C := by obtain ⟨c, h1, h2⟩ := F; exact ⟨c, E.2 _ _ h1, h2⟩
theorem OvA.wr {C : String} (F : OvA Z h a C) (W : Wr h h' b sl v) : OvA Z h' a C := by
  obtain ⟨c, h1, h2⟩ := F
  obtain ⟨c', e1, e2, -⟩ := wr_at W h1
  exact ⟨c', e1, by rw [e2]; exact h2⟩
theorem OvA.keep {C : String} (F : OvA Z h a C) (K : Keep h h' ws) : OvA Z h' a C := by
  obtain ⟨c, h1, h2⟩ := F
  obtain ⟨c', e1, e2, -⟩ := K.2.2 a c h1
  exact ⟨c', e1, by rw [e2]; exact h2⟩
theorem OvA.at {C : String} (F : OvA Z h a C) (A : Arr Z h a c ty) : Ovr Z c.cls C := by
  obtain ⟨c', h1, h2⟩ := F
  cases h1.symm.trans A.1; exact h2
theorem oTo {n : Nat} (h : n < 2 ^ 31) : (Int32.ofNat n).toInt = (n : Int) := len_toInt h
end Arrays
end Jvm.RoadKit
namespace Jvm.Pilot.@@N@@
open Jvm Jvm.ClassFile Sem Op Lib Jvm.Free Jvm.Stand Jvm.LawKit Jvm.RoadKit Bundle Jvm.Pilot.@@N@@.Jvm.D
theorem own_one (i : Nat) : Int32.ofNat i + (1 : Int32) = Int32.ofNat (i + 1) := (Int32.ofNat_add i 1).symm
theorem own_olt2 {i n : Nat} (hi : i < 2 ^ 31) (hn : n < 2 ^ 31) : Int32.ofNat i < Int32.ofNat n ↔ i < n := by
  rw [Int32.lt_iff_toInt_lt, oTo hn, oTo hi]; omega
theorem own_neN {i j : Nat} (hi : i < 2 ^ 31) (hj : j < 2 ^ 31) : Int32.ofNat i = Int32.ofNat j ↔ i = j := by
  rw [← Int32.toInt_inj, oTo hi, oTo hj]; omega
theorem own_ne0 {n : Nat} (h1 : 1 ≤ n) (h : n < 2 ^ 31) : ¬ Int32.ofNat n = (0 : Int32) := fun q => by
  have := (own_neN (j := 0) h (by decide)).mp q
  omega
theorem own_b8 (x : Int32) : x.toInt8.toInt32.toInt8.toInt32 = x.toInt8.toInt32 := by simp
theorem own_put {α : Type} (i j : Nat) (p v : α) (f : Nat → α) (hj : j = i → p = f j) : (if j = i then p else if j < i then f j else v) = if j < i + 1 then f j else v := by
  by_cases h : j = i
  · subst h; simp [hj rfl]
  · by_cases h2 : j < i
    · simp [h, h2, show j < i + 1 by omega]
    · simp [h, h2, show ¬ j < i + 1 by omega]
theorem own_cod (n : Nat) : (((Int32.ofNat n - Int32.ofNat n).toUInt32 >>> ((31 : Int32) &&& 31).toUInt32).toInt32.toInt8.toInt32) = (0 : Int32) := by
  rw [Int32.sub_self]; decide
theorem own_sh0 (x : Int32) : x >>> ((0 : Int32) &&& 31) = x := by
  apply Int32.toInt_inj.mp
  rw [c_ishr x 0 0 (by decide)]
  simp
theorem own_le255 {x : Int32} (h : x.toInt ≤ 255) : ¬ (255 : Int32) < x := by
  rw [Int32.lt_iff_toInt_lt]
  have e : (255 : Int32).toInt = 255 := by decide
  omega
def own_ch (n : Nat) (y : Nat → Int32) : Prop := ∀ q, q < n → 0 ≤ (y q).toInt ∧ (y q).toInt ≤ 255
theorem d_jdk_52_method_21_code_0 : decode jdk_52_method_21_code 0 = .ok (.iconst 0, 1) := by decide +kernel
theorem d_jdk_52_method_21_code_1 : decode jdk_52_method_21_code 1 = .ok (.istore 5, 2) := by decide +kernel
theorem d_jdk_52_method_21_code_3 : decode jdk_52_method_21_code 3 = .ok (.iload 5, 2) := by decide +kernel
theorem d_jdk_52_method_21_code_5 : decode jdk_52_method_21_code 5 = .ok (.iload 4, 2) := by decide +kernel
theorem d_jdk_52_method_21_code_7 : decode jdk_52_method_21_code 7 = .ok (.if_icmp .ge 37, 3) := by decide +kernel
theorem d_jdk_52_method_21_code_10 : decode jdk_52_method_21_code 10 = .ok (.aload_n 0, 1) := by decide +kernel
theorem d_jdk_52_method_21_code_11 : decode jdk_52_method_21_code 11 = .ok (.iload_n 1, 1) := by decide +kernel
theorem d_jdk_52_method_21_code_12 : decode jdk_52_method_21_code 12 = .ok (.caload, 1) := by decide +kernel
theorem d_jdk_52_method_21_code_13 : decode jdk_52_method_21_code 13 = .ok (.istore 6, 2) := by decide +kernel
theorem d_jdk_52_method_21_code_15 : decode jdk_52_method_21_code 15 = .ok (.iload 6, 2) := by decide +kernel
theorem d_jdk_52_method_21_code_17 : decode jdk_52_method_21_code 17 = .ok (.sipush 255, 3) := by decide +kernel
theorem d_jdk_52_method_21_code_20 : decode jdk_52_method_21_code 20 = .ok (.if_icmp .le 6, 3) := by decide +kernel
theorem d_jdk_52_method_21_code_23 : decode jdk_52_method_21_code 23 = .ok (.iload 5, 2) := by decide +kernel
theorem d_jdk_52_method_21_code_25 : decode jdk_52_method_21_code 25 = .ok (.ireturn, 1) := by decide +kernel
theorem d_jdk_52_method_21_code_26 : decode jdk_52_method_21_code 26 = .ok (.aload_n 2, 1) := by decide +kernel
theorem d_jdk_52_method_21_code_27 : decode jdk_52_method_21_code 27 = .ok (.iload_n 3, 1) := by decide +kernel
theorem d_jdk_52_method_21_code_28 : decode jdk_52_method_21_code 28 = .ok (.iload 6, 2) := by decide +kernel
theorem d_jdk_52_method_21_code_30 : decode jdk_52_method_21_code 30 = .ok (.i2b, 1) := by decide +kernel
theorem d_jdk_52_method_21_code_31 : decode jdk_52_method_21_code 31 = .ok (.bastore, 1) := by decide +kernel
theorem d_jdk_52_method_21_code_32 : decode jdk_52_method_21_code 32 = .ok (.iinc 1 1, 3) := by decide +kernel
theorem d_jdk_52_method_21_code_35 : decode jdk_52_method_21_code 35 = .ok (.iinc 3 1, 3) := by decide +kernel
theorem d_jdk_52_method_21_code_38 : decode jdk_52_method_21_code 38 = .ok (.iinc 5 1, 3) := by decide +kernel
theorem d_jdk_52_method_21_code_41 : decode jdk_52_method_21_code 41 = .ok (.goto (-38), 3) := by decide +kernel
theorem d_jdk_52_method_21_code_44 : decode jdk_52_method_21_code 44 = .ok (.iload 4, 2) := by decide +kernel
theorem d_jdk_52_method_21_code_46 : decode jdk_52_method_21_code 46 = .ok (.ireturn, 1) := by decide +kernel
theorem pn_0 : plainName "java/lang/StringUTF16" = true := by first | (simp [plainName, overriddenIn]; done) | decide +kernel
theorem pd_0 : parseMethodDescriptor "(C)Ljava/lang/String;" = some ⟨[.char], some (.object "java/lang/String")⟩ := by decide +kernel
theorem pd_1 : parseMethodDescriptor "(C)Z" = some ⟨[.char], some .boolean⟩ := by decide +kernel
theorem pd_2 : parseMethodDescriptor "(C)[B" = some ⟨[.char], some (.array .byte)⟩ := by decide +kernel
theorem pd_3 : parseMethodDescriptor "([BB)V" = some ⟨[(.array .byte), .byte], none⟩ := by decide +kernel
theorem pd_4 : parseMethodDescriptor "()V" = some ⟨[], none⟩ := by decide +kernel
theorem pd_5 : parseMethodDescriptor "([C)V" = some ⟨[(.array .char)], none⟩ := by decide +kernel
theorem pd_6 : parseMethodDescriptor "([CIILjava/lang/Void;)V" = some ⟨[(.array .char), .int, .int, (.object "java/lang/Void")], none⟩ := by decide +kernel
theorem pd_7 : parseMethodDescriptor "([CII)[B" = some ⟨[(.array .char), .int, .int], some (.array .byte)⟩ := by decide +kernel
theorem pd_8 : parseMethodDescriptor "([CI[BII)I" = some ⟨[(.array .char), .int, (.array .byte), .int, .int], some .int⟩ := by decide +kernel
theorem pd_9 : parseMethodDescriptor "([BI)B" = some ⟨[(.array .byte), .int], some .byte⟩ := by decide +kernel
theorem pd_10 : parseMethodDescriptor "(Ljava/lang/String;Ljava/lang/String;Ljava/lang/String;I)V" = some ⟨[(.object "java/lang/String"), (.object "java/lang/String"), (.object "java/lang/String"), .int], none⟩ := by decide +kernel
theorem pd_11 : parseMethodDescriptor "(Ljava/lang/Object;Ljava/lang/String;)Ljava/lang/Object;" = some ⟨[(.object "java/lang/Object"), (.object "java/lang/String")], some (.object "java/lang/Object")⟩ := by decide +kernel
theorem pd_12 : parseMethodDescriptor "()Z" = some ⟨[], some .boolean⟩ := by decide +kernel
theorem ef_rmC5 (m : MethodId) (a1 : Addr) (a3 : Addr) : entryFrame m #[(.ref a1), (.int (0 : Int32)), (.ref a3), (.int (0 : Int32)), (.int (Int32.ofNat n))] 7 = mkF m 0 #[.val (.ref a1), .val (.int (0 : Int32)), .val (.ref a3), .val (.int (0 : Int32)), .val (.int (Int32.ofNat n)), .unset, .unset] [] := by first | (simp [entryFrame, mkF, argsToLocals, Value.category]; done) | rfl
def Q_rmC5 (Z : State) (a1 : Addr) (a3 : Addr) (n : Nat) (y : Nat → Int32) (z : Nat → Int32) (h0 : Heap) (n0 : Nat) (vv_ : Option Value) (h : Heap) (LL_ : List Loc) : Prop := vv_ = some (.int (Int32.ofNat n)) ∧ Fr n0 LL_ ∧ (Keep h0 h [a3] ∧ Av Z h a3 .byte n (fun q => .int ((y q).toInt8.toInt32)))
set_option maxRecDepth 65536 in
set_option maxHeartbeats 40000000 in
theorem rmC5 (l : Launch) (Z : State) (a0 : Array Value) (hw : ∀ d ∈ tables_1, d.before a0 Z = true) (ws : List Jvm.Cond) (a1 : Addr) (a3 : Addr) (n : Nat) (y : Nat → Int32) (z : Nat → Int32) (h0 : Heap) (n0 : Nat) (Z0 : n0 ≤ h0.size) (V1 : Av Z h0 a1 .char n (fun q => .int (y q))) (V2 : Av Z h0 a3 .byte n (fun q => .int (z q))) (g1 : n0 ≤ a3) (n1 : a1 ≠ a3) (hn : n ≤ 2) (hy : own_ch n y) :
    MetFree l (⟨"java/lang/StringUTF16", "compress", "([CI[BII)I"⟩ : MethodName) (head1 (Jvm.Cond.code (⟨"java/lang/StringUTF16", "compress", "([CI[BII)I"⟩ : MethodName) jdk_52_method_21_code 7 (some .int) :: ws) ({ frames := 0, cells := 0, slots := 0, locals := 0 } : Room)) (fun aa_ UU_ => aa_ = #[(.ref a1), (.int (0 : Int32)), (.ref a3), (.int (0 : Int32)), (.int (Int32.ofNat n))] ∧ Z.Warmed39 UU_.vm ∧ UU_.heap = h0) (fun _ _ _ _ _ => True) (fun _ UU_ oo_ VV_ => ∃ vv_ LL_, oo_ = .returned vv_ ∧ Q_rmC5 Z a1 a3 n y z h0 n0 vv_ VV_.heap LL_ ∧ FrameEnd UU_ oo_ VV_ LL_ ({ frames := 0, cells := 0, slots := 0, locals := 0 } : Room).cells ({ frames := 0, cells := 0, slots := 0, locals := 0 } : Room).slots) := by
  refine own_met (y := (⟨"java/lang/StringUTF16", "compress", "([CI[BII)I"⟩ : MethodName)) (plainFor_of_name pn_0) ?_
  intro p e s m below meth c T0 K hx hby hml hret hlk hown hnm hZ X0 e0 hK
  have N0 := Fr.nil n0
  refine Rch.cast (ef_rmC5 m a1 a3) ?_
  have loop : ∀ (k i : Nat) (hk : i + k = n) (T : State) (h : Heap) (locs : List Loc) (X : Stand p l e ({ frames := 0, cells := 0, slots := 0, locals := 0 } : Room) s m #[(.ref a1), (.int (0 : Int32)), (.ref a3), (.int (0 : Int32)), (.int (Int32.ofNat n))] below meth c T locs 0 0) (eT : T.heap = h) (N : Fr n0 locs) (Zh : n0 ≤ h.size) (Kh : Keep h0 h [a3]) (V : Av Z h a3 .byte n (fun q => .int (if q < i then (y q).toInt8.toInt32 else z q))) (s6 : Slot) (hs6 : One s6), Rch p e below K T (mkF m 3 #[.val (.ref a1), .val (.int (Int32.ofNat i)), .val (.ref a3), .val (.int (Int32.ofNat i)), .val (.int (Int32.ofNat n)), .val (.int (Int32.ofNat i)), s6] []) := by
    intro k
    induction k with
    | zero =>
      intro i hk T h locs X eT N Zh Kh V s6 hs6
      have hin : ¬ i < n := by omega
      refine Rch.of (T' := T) (g' := (mkF m 5 #[.val (.ref a1), .val (.int (Int32.ofNat i)), .val (.ref a3), .val (.int (Int32.ofNat i)), .val (.int (Int32.ofNat n)), .val (.int (Int32.ofNat i)), s6] [(.int (Int32.ofNat i))])) (fun _ kt => XS.iload X.here hx rfl (hb hby d_jdk_52_method_21_code_3) rfl  kt) ?_
      refine Rch.of (T' := T) (g' := (mkF m 7 #[.val (.ref a1), .val (.int (Int32.ofNat i)), .val (.ref a3), .val (.int (Int32.ofNat i)), .val (.int (Int32.ofNat n)), .val (.int (Int32.ofNat i)), s6] [(.int (Int32.ofNat n)), (.int (Int32.ofNat i))])) (fun _ kt => XS.iload X.here hx rfl (hb hby d_jdk_52_method_21_code_5) rfl  kt) ?_
      refine Rch.of (T' := T) (g' := (mkF m 44 #[.val (.ref a1), .val (.int (Int32.ofNat i)), .val (.ref a3), .val (.int (Int32.ofNat i)), .val (.int (Int32.ofNat n)), .val (.int (Int32.ofNat i)), s6] [])) (fun _ kt => XS.icmpYes X.here hx rfl (pc0 := 7) (pc' := 44) rfl (hb hby d_jdk_52_method_21_code_7) rfl (flt (fun q => hin ((own_olt2 (by omega) (by omega)).mp q))).2.1 (by decide) (by decide) kt) ?_
      refine Rch.of (T' := T) (g' := (mkF m 46 #[.val (.ref a1), .val (.int (Int32.ofNat i)), .val (.ref a3), .val (.int (Int32.ofNat i)), .val (.int (Int32.ofNat n)), .val (.int (Int32.ofNat i)), s6] [(.int (Int32.ofNat n))])) (fun _ kt => XS.iload X.here hx rfl (hb hby d_jdk_52_method_21_code_44) rfl  kt) ?_
      exact Rch.retI X hx hret hlk (hb hby d_jdk_52_method_21_code_46) (fun U hU hF => hK _ U _ _ _ (by show Q_rmC5 Z a1 a3 n y z h0 n0 _ U.heap _; rw [hU, eT]; exact ⟨rfl, N, Kh, V.congr (fun j hj => by simp [show j < i by omega])⟩) hF (by decide) (by decide))
    | succ k ih =>
      intro i hk T h locs X eT N Zh Kh V s6 hs6
      have hin : i < n := by omega
      refine Rch.of (T' := T) (g' := (mkF m 5 #[.val (.ref a1), .val (.int (Int32.ofNat i)), .val (.ref a3), .val (.int (Int32.ofNat i)), .val (.int (Int32.ofNat n)), .val (.int (Int32.ofNat i)), s6] [(.int (Int32.ofNat i))])) (fun _ kt => XS.iload X.here hx rfl (hb hby d_jdk_52_method_21_code_3) rfl  kt) ?_
      refine Rch.of (T' := T) (g' := (mkF m 7 #[.val (.ref a1), .val (.int (Int32.ofNat i)), .val (.ref a3), .val (.int (Int32.ofNat i)), .val (.int (Int32.ofNat n)), .val (.int (Int32.ofNat i)), s6] [(.int (Int32.ofNat n)), (.int (Int32.ofNat i))])) (fun _ kt => XS.iload X.here hx rfl (hb hby d_jdk_52_method_21_code_5) rfl  kt) ?_
      refine Rch.of (T' := T) (g' := (mkF m 10 #[.val (.ref a1), .val (.int (Int32.ofNat i)), .val (.ref a3), .val (.int (Int32.ofNat i)), .val (.int (Int32.ofNat n)), .val (.int (Int32.ofNat i)), s6] [])) (fun _ kt => XS.icmpNo X.here hx rfl (hb hby d_jdk_52_method_21_code_7) rfl (tlt ((own_olt2 (by omega) (by omega)).mpr hin)).2.1 kt) ?_
      refine Rch.of (T' := T) (g' := (mkF m 11 #[.val (.ref a1), .val (.int (Int32.ofNat i)), .val (.ref a3), .val (.int (Int32.ofNat i)), .val (.int (Int32.ofNat n)), .val (.int (Int32.ofNat i)), s6] [(.ref a1)])) (fun _ kt => XS.aloadN X.here hx rfl (hb hby d_jdk_52_method_21_code_10) rfl rfl kt) ?_
      refine Rch.of (T' := T) (g' := (mkF m 12 #[.val (.ref a1), .val (.int (Int32.ofNat i)), .val (.ref a3), .val (.int (Int32.ofNat i)), .val (.int (Int32.ofNat n)), .val (.int (Int32.ofNat i)), s6] [(.int (Int32.ofNat i)), (.ref a1)])) (fun _ kt => XS.iloadN X.here hx rfl (hb hby d_jdk_52_method_21_code_11) rfl  kt) ?_
      obtain ⟨cl101, Ar101, Sz101, Ha101⟩ := id (Av.keep V1 Kh (ninS n1 nin0))
      refine Rch.of (T' := T) (g' := (mkF m 13 #[.val (.ref a1), .val (.int (Int32.ofNat i)), .val (.ref a3), .val (.int (Int32.ofNat i)), .val (.int (Int32.ofNat n)), .val (.int (Int32.ofNat i)), s6] [(.int (y i))])) (X.caload hx (j := (Int32.ofNat i)) (v := (.int (y i))) (by rw [eT]; exact Ar101.1) (State.isArrayOf_alike hZ.alike Ar101.2.1) Ar101.2.2 (oIn (i := i) Sz101 (oTo (by omega)) hin) (oAt (i := i) Ha101 (oTo (by omega)) hin) (g := (mkF m 12 #[.val (.ref a1), .val (.int (Int32.ofNat i)), .val (.ref a3), .val (.int (Int32.ofNat i)), .val (.int (Int32.ofNat n)), .val (.int (Int32.ofNat i)), s6] [(.int (Int32.ofNat i)), (.ref a1)])) rfl rfl (hb hby d_jdk_52_method_21_code_12)) ?_
      refine Rch.of (T' := T) (g' := (mkF m 15 #[.val (.ref a1), .val (.int (Int32.ofNat i)), .val (.ref a3), .val (.int (Int32.ofNat i)), .val (.int (Int32.ofNat n)), .val (.int (Int32.ofNat i)), .val (.int (y i))] [])) (fun _ kt => XS.istore X.here hx rfl (hb hby d_jdk_52_method_21_code_13) rfl (l' := #[.val (.ref a1), .val (.int (Int32.ofNat i)), .val (.ref a3), .val (.int (Int32.ofNat i)), .val (.int (Int32.ofNat n)), .val (.int (Int32.ofNat i)), .val (.int (y i))]) (by rcases hs6 with rfl | ⟨w', rfl, hw'⟩ <;> first | rfl | (cases w' <;> first | rfl | (simp [Value.category] at hw'))) kt) ?_
      refine Rch.of (T' := T) (g' := (mkF m 17 #[.val (.ref a1), .val (.int (Int32.ofNat i)), .val (.ref a3), .val (.int (Int32.ofNat i)), .val (.int (Int32.ofNat n)), .val (.int (Int32.ofNat i)), .val (.int (y i))] [(.int (y i))])) (fun _ kt => XS.iload X.here hx rfl (hb hby d_jdk_52_method_21_code_15) rfl  kt) ?_
      refine Rch.of (T' := T) (g' := (mkF m 20 #[.val (.ref a1), .val (.int (Int32.ofNat i)), .val (.ref a3), .val (.int (Int32.ofNat i)), .val (.int (Int32.ofNat n)), .val (.int (Int32.ofNat i)), .val (.int (y i))] [(.int (255 : Int32)), (.int (y i))])) (fun _ kt => XS.sipush X.here hx rfl (hb hby d_jdk_52_method_21_code_17) kt) ?_
      refine Rch.of (T' := T) (g' := (mkF m 26 #[.val (.ref a1), .val (.int (Int32.ofNat i)), .val (.ref a3), .val (.int (Int32.ofNat i)), .val (.int (Int32.ofNat n)), .val (.int (Int32.ofNat i)), .val (.int (y i))] [])) (fun _ kt => XS.icmpYes X.here hx rfl (pc0 := 20) (pc' := 26) rfl (hb hby d_jdk_52_method_21_code_20) rfl (flt (own_le255 (hy i hin).2)).2.2.2 (by decide) (by decide) kt) ?_
      refine Rch.of (T' := T) (g' := (mkF m 27 #[.val (.ref a1), .val (.int (Int32.ofNat i)), .val (.ref a3), .val (.int (Int32.ofNat i)), .val (.int (Int32.ofNat n)), .val (.int (Int32.ofNat i)), .val (.int (y i))] [(.ref a3)])) (fun _ kt => XS.aloadN X.here hx rfl (hb hby d_jdk_52_method_21_code_26) rfl rfl kt) ?_
      refine Rch.of (T' := T) (g' := (mkF m 28 #[.val (.ref a1), .val (.int (Int32.ofNat i)), .val (.ref a3), .val (.int (Int32.ofNat i)), .val (.int (Int32.ofNat n)), .val (.int (Int32.ofNat i)), .val (.int (y i))] [(.int (Int32.ofNat i)), (.ref a3)])) (fun _ kt => XS.iloadN X.here hx rfl (hb hby d_jdk_52_method_21_code_27) rfl  kt) ?_
      refine Rch.of (T' := T) (g' := (mkF m 30 #[.val (.ref a1), .val (.int (Int32.ofNat i)), .val (.ref a3), .val (.int (Int32.ofNat i)), .val (.int (Int32.ofNat n)), .val (.int (Int32.ofNat i)), .val (.int (y i))] [(.int (y i)), (.int (Int32.ofNat i)), (.ref a3)])) (fun _ kt => XS.iload X.here hx rfl (hb hby d_jdk_52_method_21_code_28) rfl  kt) ?_
      refine Rch.of (T' := T) (g' := (mkF m 31 #[.val (.ref a1), .val (.int (Int32.ofNat i)), .val (.ref a3), .val (.int (Int32.ofNat i)), .val (.int (Int32.ofNat n)), .val (.int (Int32.ofNat i)), .val (.int (y i))] [(.int ((y i).toInt8.toInt32)), (.int (Int32.ofNat i)), (.ref a3)])) (fun _ kt => XS.i2b X.here hx rfl (hb hby d_jdk_52_method_21_code_30) rfl kt) ?_
      obtain ⟨cl102, Ar102, Sz102, Ha102⟩ := id V
      obtain ⟨T102, h102, X102, e102, W102, st102⟩ := stB X hx hZ eT Ar102 (j := (Int32.ofNat i)) (oIn (i := i) Sz102 (oTo (by omega)) hin) (g := (mkF m 31 #[.val (.ref a1), .val (.int (Int32.ofNat i)), .val (.ref a3), .val (.int (Int32.ofNat i)), .val (.int (Int32.ofNat n)), .val (.int (Int32.ofNat i)), .val (.int (y i))] [(.int ((y i).toInt8.toInt32)), (.int (Int32.ofNat i)), (.ref a3)])) rfl rfl (hb hby d_jdk_52_method_21_code_31)
      have V102 := Av.setI (i := i) V (oTo (by omega)) hin W102
      obtain ⟨y102, hy102⟩ : ∃ zz_ : Nat → Int32, zz_ = fun q => if q = i then ((y i).toInt8.toInt32).toInt8.toInt32 else (fun q => if q < i then (y q).toInt8.toInt32 else z q) q := ⟨_, rfl⟩
      have V102 : Av Z h102 a3 .byte n (fun q => .int (y102 q)) := by rw [hy102]; exact V102
      have N102 := Fr.snoc X102 N g1
      refine Rch.of (T' := T102) (g' := (mkF m 32 #[.val (.ref a1), .val (.int (Int32.ofNat i)), .val (.ref a3), .val (.int (Int32.ofNat i)), .val (.int (Int32.ofNat n)), .val (.int (Int32.ofNat i)), .val (.int (y i))] [])) st102 ?_
      refine Rch.of (T' := T102) (g' := (mkF m 35 #[.val (.ref a1), .val (.int ((Int32.ofNat i) + (1 : Int32))), .val (.ref a3), .val (.int (Int32.ofNat i)), .val (.int (Int32.ofNat n)), .val (.int (Int32.ofNat i)), .val (.int (y i))] [])) (fun _ kt => XS.iinc X102.here hx rfl (hb hby d_jdk_52_method_21_code_32) rfl (l' := #[.val (.ref a1), .val (.int ((Int32.ofNat i) + (1 : Int32))), .val (.ref a3), .val (.int (Int32.ofNat i)), .val (.int (Int32.ofNat n)), .val (.int (Int32.ofNat i)), .val (.int (y i))]) rfl kt) ?_
      refine Rch.of (T' := T102) (g' := (mkF m 38 #[.val (.ref a1), .val (.int ((Int32.ofNat i) + (1 : Int32))), .val (.ref a3), .val (.int ((Int32.ofNat i) + (1 : Int32))), .val (.int (Int32.ofNat n)), .val (.int (Int32.ofNat i)), .val (.int (y i))] [])) (fun _ kt => XS.iinc X102.here hx rfl (hb hby d_jdk_52_method_21_code_35) rfl (l' := #[.val (.ref a1), .val (.int ((Int32.ofNat i) + (1 : Int32))), .val (.ref a3), .val (.int ((Int32.ofNat i) + (1 : Int32))), .val (.int (Int32.ofNat n)), .val (.int (Int32.ofNat i)), .val (.int (y i))]) rfl kt) ?_
      refine Rch.of (T' := T102) (g' := (mkF m 41 #[.val (.ref a1), .val (.int ((Int32.ofNat i) + (1 : Int32))), .val (.ref a3), .val (.int ((Int32.ofNat i) + (1 : Int32))), .val (.int (Int32.ofNat n)), .val (.int ((Int32.ofNat i) + (1 : Int32))), .val (.int (y i))] [])) (fun _ kt => XS.iinc X102.here hx rfl (hb hby d_jdk_52_method_21_code_38) rfl (l' := #[.val (.ref a1), .val (.int ((Int32.ofNat i) + (1 : Int32))), .val (.ref a3), .val (.int ((Int32.ofNat i) + (1 : Int32))), .val (.int (Int32.ofNat n)), .val (.int ((Int32.ofNat i) + (1 : Int32))), .val (.int (y i))]) rfl kt) ?_
      refine Rch.of (T' := T102) (g' := (mkF m 3 #[.val (.ref a1), .val (.int ((Int32.ofNat i) + (1 : Int32))), .val (.ref a3), .val (.int ((Int32.ofNat i) + (1 : Int32))), .val (.int (Int32.ofNat n)), .val (.int ((Int32.ofNat i) + (1 : Int32))), .val (.int (y i))] [])) (fun _ kt => XS.goto X102.here hx rfl (pc0 := 41) (pc' := 3) rfl (hb hby d_jdk_52_method_21_code_41) (by decide) (by decide) kt) ?_
      rw [own_one i]
      exact ih (i + 1) (by omega) T102 _ _ X102 e102 N102 (Nat.le_trans Zh (Keep.of_wr W102).1) (Kh.wr W102 (Or.inl (List.mem_of_getElem? (i := 0) rfl))) (Av.congr V102 (fun j hj => by rw [hy102]; exact congrArg Value.int (own_put i j _ _ (fun q => (y q).toInt8.toInt32) (fun q => by rw [q]; exact own_b8 _)))) _ (One.val rfl)
  refine Rch.of (T' := T0) (g' := (mkF m 1 #[.val (.ref a1), .val (.int (0 : Int32)), .val (.ref a3), .val (.int (0 : Int32)), .val (.int (Int32.ofNat n)), .unset, .unset] [(.int (0 : Int32))])) (fun _ kt => XS.iconst X0.here hx rfl (hb hby d_jdk_52_method_21_code_0) kt) ?_
  refine Rch.of (T' := T0) (g' := (mkF m 3 #[.val (.ref a1), .val (.int (0 : Int32)), .val (.ref a3), .val (.int (0 : Int32)), .val (.int (Int32.ofNat n)), .val (.int (0 : Int32)), .unset] [])) (fun _ kt => XS.istore X0.here hx rfl (hb hby d_jdk_52_method_21_code_1) rfl (l' := #[.val (.ref a1), .val (.int (0 : Int32)), .val (.ref a3), .val (.int (0 : Int32)), .val (.int (Int32.ofNat n)), .val (.int (0 : Int32)), .unset]) rfl kt) ?_
  exact loop n 0 (by omega) T0 _ _ X0 e0 N0 Z0 (Keep.refl h0 [a3]) (V2.congr (fun j hj => by simp)) _ One.u
theorem d_jdk_52_method_16_code_0 : decode jdk_52_method_16_code 0 = .ok (.iload_n 2, 1) := by decide +kernel
theorem d_jdk_52_method_16_code_1 : decode jdk_52_method_16_code 1 = .ok (.newarray .byte, 2) := by decide +kernel
theorem d_jdk_52_method_16_code_3 : decode jdk_52_method_16_code 3 = .ok (.astore_n 3, 1) := by decide +kernel
theorem d_jdk_52_method_16_code_4 : decode jdk_52_method_16_code 4 = .ok (.aload_n 0, 1) := by decide +kernel
theorem d_jdk_52_method_16_code_5 : decode jdk_52_method_16_code 5 = .ok (.iload_n 1, 1) := by decide +kernel
theorem d_jdk_52_method_16_code_6 : decode jdk_52_method_16_code 6 = .ok (.aload_n 3, 1) := by decide +kernel
theorem d_jdk_52_method_16_code_7 : decode jdk_52_method_16_code 7 = .ok (.iconst 0, 1) := by decide +kernel
theorem d_jdk_52_method_16_code_8 : decode jdk_52_method_16_code 8 = .ok (.iload_n 2, 1) := by decide +kernel
theorem d_jdk_52_method_16_code_9 : decode jdk_52_method_16_code 9 = .ok (.invokestatic 115, 3) := by decide +kernel
theorem d_jdk_52_method_16_code_12 : decode jdk_52_method_16_code 12 = .ok (.istore 4, 2) := by decide +kernel
theorem d_jdk_52_method_16_code_14 : decode jdk_52_method_16_code 14 = .ok (.iload 4, 2) := by decide +kernel
theorem d_jdk_52_method_16_code_16 : decode jdk_52_method_16_code 16 = .ok (.iload_n 2, 1) := by decide +kernel
theorem d_jdk_52_method_16_code_17 : decode jdk_52_method_16_code 17 = .ok (.if_icmp .eq 40, 3) := by decide +kernel
theorem d_jdk_52_method_16_code_20 : decode jdk_52_method_16_code 20 = .ok (.aload_n 0, 1) := by decide +kernel
theorem d_jdk_52_method_16_code_21 : decode jdk_52_method_16_code 21 = .ok (.iload_n 1, 1) := by decide +kernel
theorem d_jdk_52_method_16_code_22 : decode jdk_52_method_16_code 22 = .ok (.iload_n 2, 1) := by decide +kernel
theorem d_jdk_52_method_16_code_23 : decode jdk_52_method_16_code 23 = .ok (.invokestatic 119, 3) := by decide +kernel
theorem d_jdk_52_method_16_code_26 : decode jdk_52_method_16_code 26 = .ok (.astore 5, 2) := by decide +kernel
theorem d_jdk_52_method_16_code_28 : decode jdk_52_method_16_code 28 = .ok (.aload 5, 2) := by decide +kernel
theorem d_jdk_52_method_16_code_30 : decode jdk_52_method_16_code 30 = .ok (.iload 4, 2) := by decide +kernel
theorem d_jdk_52_method_16_code_32 : decode jdk_52_method_16_code 32 = .ok (.invokestatic 71, 3) := by decide +kernel
theorem d_jdk_52_method_16_code_35 : decode jdk_52_method_16_code 35 = .ok (.sipush 255, 3) := by decide +kernel
theorem d_jdk_52_method_16_code_38 : decode jdk_52_method_16_code 38 = .ok (.if_icmp .gt 16, 3) := by decide +kernel
theorem d_jdk_52_method_16_code_41 : decode jdk_52_method_16_code 41 = .ok (.aload 5, 2) := by decide +kernel
theorem d_jdk_52_method_16_code_43 : decode jdk_52_method_16_code 43 = .ok (.iconst 0, 1) := by decide +kernel
theorem d_jdk_52_method_16_code_44 : decode jdk_52_method_16_code 44 = .ok (.aload_n 3, 1) := by decide +kernel
theorem d_jdk_52_method_16_code_45 : decode jdk_52_method_16_code 45 = .ok (.iconst 0, 1) := by decide +kernel
theorem d_jdk_52_method_16_code_46 : decode jdk_52_method_16_code 46 = .ok (.iload_n 2, 1) := by decide +kernel
theorem d_jdk_52_method_16_code_47 : decode jdk_52_method_16_code 47 = .ok (.invokestatic 123, 3) := by decide +kernel
theorem d_jdk_52_method_16_code_50 : decode jdk_52_method_16_code 50 = .ok (.iload_n 2, 1) := by decide +kernel
theorem d_jdk_52_method_16_code_51 : decode jdk_52_method_16_code 51 = .ok (.if_icmp .eq 6, 3) := by decide +kernel
theorem d_jdk_52_method_16_code_54 : decode jdk_52_method_16_code 54 = .ok (.aload 5, 2) := by decide +kernel
theorem d_jdk_52_method_16_code_56 : decode jdk_52_method_16_code 56 = .ok (.areturn, 1) := by decide +kernel
theorem d_jdk_52_method_16_code_57 : decode jdk_52_method_16_code 57 = .ok (.aload_n 3, 1) := by decide +kernel
theorem d_jdk_52_method_16_code_58 : decode jdk_52_method_16_code 58 = .ok (.areturn, 1) := by decide +kernel
theorem ef_rmC3 (m : MethodId) (a1 : Addr) : entryFrame m #[(.ref a1), (.int (0 : Int32)), (.int (Int32.ofNat n))] 6 = mkF m 0 #[.val (.ref a1), .val (.int (0 : Int32)), .val (.int (Int32.ofNat n)), .unset, .unset, .unset] [] := by first | (simp [entryFrame, mkF, argsToLocals, Value.category]; done) | rfl
def Q_rmC3 (Z : State) (a1 : Addr) (n : Nat) (y : Nat → Int32) (h0 : Heap) (n0 : Nat) (vv_ : Option Value) (h : Heap) (LL_ : List Loc) : Prop := vv_ = some (.ref h0.size) ∧ Fr n0 LL_ ∧ (Keep h0 h [] ∧ Av Z h h0.size .byte n (fun q => .int ((y q).toInt8.toInt32)))
set_option maxRecDepth 65536 in
set_option maxHeartbeats 40000000 in
theorem rmC3 (l : Launch) (Z : State) (a0 : Array Value) (hw : ∀ d ∈ tables_1, d.before a0 Z = true) (ws : List Jvm.Cond) (a1 : Addr) (n : Nat) (y : Nat → Int32) (h0 : Heap) (n0 : Nat) (Z0 : n0 ≤ h0.size) (V1 : Av Z h0 a1 .char n (fun q => .int (y q))) (hn : n ≤ 2) (hy : own_ch n y) :
    MetFree l (⟨"java/lang/StringUTF16", "compress", "([CII)[B"⟩ : MethodName) (head1 (Jvm.Cond.code (⟨"java/lang/StringUTF16", "compress", "([CII)[B"⟩ : MethodName) jdk_52_method_16_code 6 (some (.array .byte)) :: ws) ({ frames := 1, cells := 1, slots := 2, locals := 18 } : Room)) (fun aa_ UU_ => aa_ = #[(.ref a1), (.int (0 : Int32)), (.int (Int32.ofNat n))] ∧ Z.Warmed39 UU_.vm ∧ UU_.heap = h0) (fun _ _ _ _ _ => True) (fun _ UU_ oo_ VV_ => ∃ vv_ LL_, oo_ = .returned vv_ ∧ Q_rmC3 Z a1 n y h0 n0 vv_ VV_.heap LL_ ∧ FrameEnd UU_ oo_ VV_ LL_ ({ frames := 1, cells := 1, slots := 2, locals := 18 } : Room).cells ({ frames := 1, cells := 1, slots := 2, locals := 18 } : Room).slots) := by
  refine own_met (y := (⟨"java/lang/StringUTF16", "compress", "([CII)[B"⟩ : MethodName)) (plainFor_of_name pn_0) ?_
  intro p e s m below meth c T0 K hx hby hml hret hlk hown hnm hZ X0 e0 hK
  have N0 := Fr.nil n0
  refine Rch.cast (ef_rmC3 m a1) ?_
  refine Rch.of (T' := T0) (g' := (mkF m 1 #[.val (.ref a1), .val (.int (0 : Int32)), .val (.int (Int32.ofNat n)), .unset, .unset, .unset] [(.int (Int32.ofNat n))])) (fun _ kt => XS.iloadN X0.here hx rfl (hb hby d_jdk_52_method_16_code_0) rfl  kt) ?_
  obtain ⟨T103, h103, k103, X103, e103, E103, A103, Q103, st103⟩ := newPE X0 hx hZ (hw _ (List.mem_of_getElem? (i := 14) rfl)) e0 (g := (mkF m 1 #[.val (.ref a1), .val (.int (0 : Int32)), .val (.int (Int32.ofNat n)), .unset, .unset, .unset] [(.int (Int32.ofNat n))])) rfl (hb hby d_jdk_52_method_16_code_1) rfl (oNn (oTo (by omega))) (cap := 2) (by rw [oNat (oTo (by omega))]; omega) (by decide) (by decide) (by decide) (ad := "[B") rfl
  obtain ⟨b103, g103⟩ : ∃ zz_, zz_ = h0.size := ⟨_, rfl⟩
  have ne_a1_b103 : a1 ≠ b103 := Nat.ne_of_lt (Nat.lt_of_lt_of_le V1.lt (Nat.le_of_eq g103.symm))
  have ge_b103 : n0 ≤ b103 := Nat.le_trans Z0 (Nat.le_of_eq g103.symm)
  have sz_b103 : h0.size ≤ b103 := Nat.le_trans (Keep.refl h0 []).1 (Nat.le_of_eq g103.symm)
  rw [← g103] at A103 Q103 st103
  have V103 : Av Z h103 b103 .byte n (fun _ => (.int (0 : Int32))) := Av.new A103 (oTo (by omega))
  refine Rch.of (T' := T103) (g' := (mkF m 3 #[.val (.ref a1), .val (.int (0 : Int32)), .val (.int (Int32.ofNat n)), .unset, .unset, .unset] [(.ref b103)])) st103 ?_
  refine Rch.of (T' := T103) (g' := (mkF m 4 #[.val (.ref a1), .val (.int (0 : Int32)), .val (.int (Int32.ofNat n)), .val (.ref b103), .unset, .unset] [])) (fun _ kt => XS.astoreN X103.here hx rfl (hb hby d_jdk_52_method_16_code_3) rfl rfl (l' := #[.val (.ref a1), .val (.int (0 : Int32)), .val (.int (Int32.ofNat n)), .val (.ref b103), .unset, .unset]) rfl kt) ?_
  refine Rch.of (T' := T103) (g' := (mkF m 5 #[.val (.ref a1), .val (.int (0 : Int32)), .val (.int (Int32.ofNat n)), .val (.ref b103), .unset, .unset] [(.ref a1)])) (fun _ kt => XS.aloadN X103.here hx rfl (hb hby d_jdk_52_method_16_code_4) rfl rfl kt) ?_
  refine Rch.of (T' := T103) (g' := (mkF m 6 #[.val (.ref a1), .val (.int (0 : Int32)), .val (.int (Int32.ofNat n)), .val (.ref b103), .unset, .unset] [(.int (0 : Int32)), (.ref a1)])) (fun _ kt => XS.iloadN X103.here hx rfl (hb hby d_jdk_52_method_16_code_5) rfl  kt) ?_
  refine Rch.of (T' := T103) (g' := (mkF m 7 #[.val (.ref a1), .val (.int (0 : Int32)), .val (.int (Int32.ofNat n)), .val (.ref b103), .unset, .unset] [(.ref b103), (.int (0 : Int32)), (.ref a1)])) (fun _ kt => XS.aloadN X103.here hx rfl (hb hby d_jdk_52_method_16_code_6) rfl rfl kt) ?_
  refine Rch.of (T' := T103) (g' := (mkF m 8 #[.val (.ref a1), .val (.int (0 : Int32)), .val (.int (Int32.ofNat n)), .val (.ref b103), .unset, .unset] [(.int (0 : Int32)), (.ref b103), (.int (0 : Int32)), (.ref a1)])) (fun _ kt => XS.iconst X103.here hx rfl (hb hby d_jdk_52_method_16_code_7) kt) ?_
  refine Rch.of (T' := T103) (g' := (mkF m 9 #[.val (.ref a1), .val (.int (0 : Int32)), .val (.int (Int32.ofNat n)), .val (.ref b103), .unset, .unset] [(.int (Int32.ofNat n)), (.int (0 : Int32)), (.ref b103), (.int (0 : Int32)), (.ref a1)])) (fun _ kt => XS.iloadN X103.here hx rfl (hb hby d_jdk_52_method_16_code_8) rfl  kt) ?_
  obtain ⟨_, _, ⟨T104, L104, k104, n104⟩, -, X104, ⟨Lc104, hQ104, l104, y104, z104⟩, st104⟩ := Jvm.LawKit.callS X103 hx (y := (⟨"java/lang/StringUTF16", "compress", "([CI[BII)I"⟩ : MethodName)) hown (mvT hZ (hw _ (List.mem_of_getElem? (i := 38) rfl))) (mvT hZ (hw _ (List.mem_of_getElem? (i := 39) rfl))) (mvT hZ (hw _ (List.mem_of_getElem? (i := 36) rfl))) (mvT hZ (hw _ (List.mem_of_getElem? (i := 40) rfl))) (by decide) (backOf (W := 0) (rmC5 l Z a0 hw [] a1 b103 n y (fun _ => (0 : Int32)) h103 n0 (Nat.le_trans Z0 E103.1) (V1.ext E103) V103 ge_b103 ne_a1_b103 hn hy) hZ (hw _ (List.mem_of_getElem? (i := 40) rfl)) (hw _ (List.mem_of_getElem? (i := 36) rfl)) (by decide) (by decide)) (g := (mkF m 9 #[.val (.ref a1), .val (.int (0 : Int32)), .val (.int (Int32.ofNat n)), .val (.ref b103), .unset, .unset] [(.int (Int32.ofNat n)), (.int (0 : Int32)), (.ref b103), (.int (0 : Int32)), (.ref a1)])) rfl (by rw [hml]; rfl) (argsL := [(.ref a1), (.int (0 : Int32)), (.ref b103), (.int (0 : Int32)), (.int (Int32.ofNat n))]) (rest := []) (lenOf pd_8 rfl) rfl (by show 2 * 0 + _ ≤ _; exact Nat.le_of_eq rfl) (hb hby d_jdk_52_method_16_code_9) (fun _ _ => ⟨rfl, e103, (by decide : 1 + 0 ≤ _), (by decide : 2 + 0 ≤ _)⟩)
  dsimp only [Pt.U, Pt.locs, Pt.cells, Pt.slots] at X104 l104 y104 z104 st104 hQ104
  subst l104 y104 z104
  obtain ⟨rfl, N104q, hQ104⟩ := hQ104
  have N104 := Fr.app N0 N104q
  obtain ⟨K104, V104⟩ := hQ104
  refine Rch.of (T' := T104) (g' := (mkF m 12 #[.val (.ref a1), .val (.int (0 : Int32)), .val (.int (Int32.ofNat n)), .val (.ref b103), .unset, .unset] [(.int (Int32.ofNat n))])) st104 ?_
  refine Rch.of (T' := T104) (g' := (mkF m 14 #[.val (.ref a1), .val (.int (0 : Int32)), .val (.int (Int32.ofNat n)), .val (.ref b103), .val (.int (Int32.ofNat n)), .unset] [])) (fun _ kt => XS.istore X104.here hx rfl (hb hby d_jdk_52_method_16_code_12) rfl (l' := #[.val (.ref a1), .val (.int (0 : Int32)), .val (.int (Int32.ofNat n)), .val (.ref b103), .val (.int (Int32.ofNat n)), .unset]) rfl kt) ?_
  refine Rch.of (T' := T104) (g' := (mkF m 16 #[.val (.ref a1), .val (.int (0 : Int32)), .val (.int (Int32.ofNat n)), .val (.ref b103), .val (.int (Int32.ofNat n)), .unset] [(.int (Int32.ofNat n))])) (fun _ kt => XS.iload X104.here hx rfl (hb hby d_jdk_52_method_16_code_14) rfl  kt) ?_
  refine Rch.of (T' := T104) (g' := (mkF m 17 #[.val (.ref a1), .val (.int (0 : Int32)), .val (.int (Int32.ofNat n)), .val (.ref b103), .val (.int (Int32.ofNat n)), .unset] [(.int (Int32.ofNat n)), (.int (Int32.ofNat n))])) (fun _ kt => XS.iloadN X104.here hx rfl (hb hby d_jdk_52_method_16_code_16) rfl  kt) ?_
  refine Rch.of (T' := T104) (g' := (mkF m 57 #[.val (.ref a1), .val (.int (0 : Int32)), .val (.int (Int32.ofNat n)), .val (.ref b103), .val (.int (Int32.ofNat n)), .unset] [])) (fun _ kt => XS.icmpYes X104.here hx rfl (pc0 := 17) (pc' := 57) rfl (hb hby d_jdk_52_method_16_code_17) rfl (teq (rfl : (Int32.ofNat n) = (Int32.ofNat n))).1 (by decide) (by decide) kt) ?_
  refine Rch.of (T' := T104) (g' := (mkF m 58 #[.val (.ref a1), .val (.int (0 : Int32)), .val (.int (Int32.ofNat n)), .val (.ref b103), .val (.int (Int32.ofNat n)), .unset] [(.ref b103)])) (fun _ kt => XS.aloadN X104.here hx rfl (hb hby d_jdk_52_method_16_code_57) rfl rfl kt) ?_
  exact Rch.retA X104 hx (w := (.ref b103)) hret rfl rfl hlk (hb hby d_jdk_52_method_16_code_58) (fun U hU hF => hK _ U _ _ _ (by show Q_rmC3 Z a1 n y h0 n0 _ U.heap _; rw [hU]; exact ⟨by rw [g103], N104, by rw [← g103]; exact ⟨(((Keep.refl h0 []).ext E103).trans K104 (allS (Or.inr sz_b103) all0)), V104⟩⟩) hF (by decide) (by decide))
theorem d_jdk_52_method_15_code_0 : decode jdk_52_method_15_code 0 = .ok (.iload_n 1, 1) := by decide +kernel
theorem d_jdk_52_method_15_code_1 : decode jdk_52_method_15_code 1 = .ok (.aload_n 0, 1) := by decide +kernel
theorem d_jdk_52_method_15_code_2 : decode jdk_52_method_15_code 2 = .ok (.arraylength, 1) := by decide +kernel
theorem d_jdk_52_method_15_code_3 : decode jdk_52_method_15_code 3 = .ok (.isub, 1) := by decide +kernel
theorem d_jdk_52_method_15_code_4 : decode jdk_52_method_15_code 4 = .ok (.bipush 31, 2) := by decide +kernel
theorem d_jdk_52_method_15_code_6 : decode jdk_52_method_15_code 6 = .ok (.iushr, 1) := by decide +kernel
theorem d_jdk_52_method_15_code_7 : decode jdk_52_method_15_code 7 = .ok (.i2b, 1) := by decide +kernel
theorem d_jdk_52_method_15_code_8 : decode jdk_52_method_15_code 8 = .ok (.ireturn, 1) := by decide +kernel
theorem ef_rmCL (m : MethodId) (a1 : Addr) : entryFrame m #[(.ref a1), (.int (Int32.ofNat n))] 2 = mkF m 0 #[.val (.ref a1), .val (.int (Int32.ofNat n))] [] := by first | (simp [entryFrame, mkF, argsToLocals, Value.category]; done) | rfl
def Q_rmCL (Z : State) (a1 : Addr) (n : Nat) (y : Nat → Int32) (h0 : Heap) (n0 : Nat) (vv_ : Option Value) (h : Heap) (LL_ : List Loc) : Prop := vv_ = some (.int (0 : Int32)) ∧ Fr n0 LL_ ∧ (h = h0)
set_option maxRecDepth 65536 in
set_option maxHeartbeats 40000000 in
theorem rmCL (l : Launch) (Z : State) (a0 : Array Value) (hw : ∀ d ∈ tables_1, d.before a0 Z = true) (ws : List Jvm.Cond) (a1 : Addr) (n : Nat) (y : Nat → Int32) (h0 : Heap) (n0 : Nat) (Z0 : n0 ≤ h0.size) (V1 : Av Z h0 a1 .byte n (fun q => .int (y q))) :
    MetFree l (⟨"java/lang/StringUTF16", "coderFromArrayLen", "([BI)B"⟩ : MethodName) (head1 (Jvm.Cond.code (⟨"java/lang/StringUTF16", "coderFromArrayLen", "([BI)B"⟩ : MethodName) jdk_52_method_15_code 2 (some .byte) :: ws) ({ frames := 0, cells := 0, slots := 0, locals := 0 } : Room)) (fun aa_ UU_ => aa_ = #[(.ref a1), (.int (Int32.ofNat n))] ∧ Z.Warmed39 UU_.vm ∧ UU_.heap = h0) (fun _ _ _ _ _ => True) (fun _ UU_ oo_ VV_ => ∃ vv_ LL_, oo_ = .returned vv_ ∧ Q_rmCL Z a1 n y h0 n0 vv_ VV_.heap LL_ ∧ FrameEnd UU_ oo_ VV_ LL_ ({ frames := 0, cells := 0, slots := 0, locals := 0 } : Room).cells ({ frames := 0, cells := 0, slots := 0, locals := 0 } : Room).slots) := by
  refine own_met (y := (⟨"java/lang/StringUTF16", "coderFromArrayLen", "([BI)B"⟩ : MethodName)) (plainFor_of_name pn_0) ?_
  intro p e s m below meth c T0 K hx hby hml hret hlk hown hnm hZ X0 e0 hK
  have N0 := Fr.nil n0
  refine Rch.cast (ef_rmCL m a1) ?_
  refine Rch.of (T' := T0) (g' := (mkF m 1 #[.val (.ref a1), .val (.int (Int32.ofNat n))] [(.int (Int32.ofNat n))])) (fun _ kt => XS.iloadN X0.here hx rfl (hb hby d_jdk_52_method_15_code_0) rfl  kt) ?_
  refine Rch.of (T' := T0) (g' := (mkF m 2 #[.val (.ref a1), .val (.int (Int32.ofNat n))] [(.ref a1), (.int (Int32.ofNat n))])) (fun _ kt => XS.aloadN X0.here hx rfl (hb hby d_jdk_52_method_15_code_1) rfl rfl kt) ?_
  obtain ⟨cl105, Ar105, Sz105, Ha105⟩ := id V1
  refine Rch.of (T' := T0) (g' := (mkF m 3 #[.val (.ref a1), .val (.int (Int32.ofNat n))] [(.int cl105.slots.size.toInt32), (.int (Int32.ofNat n))])) (X0.arraylength hx (by rw [e0]; exact Ar105.1) (State.isArrayOf_alike hZ.alike Ar105.2.1) (g := (mkF m 2 #[.val (.ref a1), .val (.int (Int32.ofNat n))] [(.ref a1), (.int (Int32.ofNat n))])) rfl rfl (hb hby d_jdk_52_method_15_code_2)) ?_
  rw [oLen Sz105]
  show Rch p e below K T0 (mkF m 3 #[.val (.ref a1), .val (.int (Int32.ofNat n))] [(.int (Int32.ofNat n)), (.int (Int32.ofNat n))])
  refine Rch.of (T' := T0) (g' := (mkF m 4 #[.val (.ref a1), .val (.int (Int32.ofNat n))] [(.int ((Int32.ofNat n) - (Int32.ofNat n)))])) (fun _ kt => XS.isub X0.here hx rfl (hb hby d_jdk_52_method_15_code_3) rfl kt) ?_
  refine Rch.of (T' := T0) (g' := (mkF m 6 #[.val (.ref a1), .val (.int (Int32.ofNat n))] [(.int (31 : Int32)), (.int ((Int32.ofNat n) - (Int32.ofNat n)))])) (fun _ kt => XS.bipush X0.here hx rfl (hb hby d_jdk_52_method_15_code_4) kt) ?_
  refine Rch.of (T' := T0) (g' := (mkF m 7 #[.val (.ref a1), .val (.int (Int32.ofNat n))] [(.int ((((Int32.ofNat n) - (Int32.ofNat n)).toUInt32 >>> ((31 : Int32) &&& 31).toUInt32).toInt32))])) (fun _ kt => XS.iushr X0.here hx rfl (hb hby d_jdk_52_method_15_code_6) rfl kt) ?_
  refine Rch.of (T' := T0) (g' := (mkF m 8 #[.val (.ref a1), .val (.int (Int32.ofNat n))] [(.int (((((Int32.ofNat n) - (Int32.ofNat n)).toUInt32 >>> ((31 : Int32) &&& 31).toUInt32).toInt32).toInt8.toInt32))])) (fun _ kt => XS.i2b X0.here hx rfl (hb hby d_jdk_52_method_15_code_7) rfl kt) ?_
  exact Rch.retN X0 hx (t := .byte) hret (by simp) hlk (hb hby d_jdk_52_method_15_code_8) (fun U hU hF => hK _ U _ _ _ (by show Q_rmCL Z a1 n y h0 n0 _ U.heap _; rw [hU, e0]; exact ⟨congrArg (fun q => some (Value.int q)) (show nar .byte _ = _ from (own_b8 _).trans (own_cod n)), N0, rfl⟩) hF (by decide) (by decide))
theorem d_jdk_42_method_149_code_0 : decode jdk_42_method_149_code 0 = .ok (.aload_n 0, 1) := by decide +kernel
theorem d_jdk_42_method_149_code_1 : decode jdk_42_method_149_code 1 = .ok (.invokespecial 1, 3) := by decide +kernel
theorem d_jdk_42_method_149_code_4 : decode jdk_42_method_149_code 4 = .ok (.iload_n 3, 1) := by decide +kernel
theorem d_jdk_42_method_149_code_5 : decode jdk_42_method_149_code 5 = .ok (.ifCond .ne 22, 3) := by decide +kernel
theorem d_jdk_42_method_149_code_8 : decode jdk_42_method_149_code 8 = .ok (.aload_n 0, 1) := by decide +kernel
theorem d_jdk_42_method_149_code_9 : decode jdk_42_method_149_code 9 = .ok (.ldc 7, 2) := by decide +kernel
theorem d_jdk_42_method_149_code_11 : decode jdk_42_method_149_code 11 = .ok (.getfield 9, 3) := by decide +kernel
theorem d_jdk_42_method_149_code_14 : decode jdk_42_method_149_code 14 = .ok (.putfield 9, 3) := by decide +kernel
theorem d_jdk_42_method_149_code_17 : decode jdk_42_method_149_code 17 = .ok (.aload_n 0, 1) := by decide +kernel
theorem d_jdk_42_method_149_code_18 : decode jdk_42_method_149_code 18 = .ok (.ldc 7, 2) := by decide +kernel
theorem d_jdk_42_method_149_code_20 : decode jdk_42_method_149_code 20 = .ok (.getfield 15, 3) := by decide +kernel
theorem d_jdk_42_method_149_code_23 : decode jdk_42_method_149_code 23 = .ok (.putfield 15, 3) := by decide +kernel
theorem d_jdk_42_method_149_code_26 : decode jdk_42_method_149_code 26 = .ok (.return_, 1) := by decide +kernel
theorem d_jdk_42_method_149_code_27 : decode jdk_42_method_149_code 27 = .ok (.getstatic 38, 3) := by decide +kernel
theorem d_jdk_42_method_149_code_30 : decode jdk_42_method_149_code 30 = .ok (.ifCond .eq 28, 3) := by decide +kernel
theorem d_jdk_42_method_149_code_33 : decode jdk_42_method_149_code 33 = .ok (.aload_n 1, 1) := by decide +kernel
theorem d_jdk_42_method_149_code_34 : decode jdk_42_method_149_code 34 = .ok (.iload_n 2, 1) := by decide +kernel
theorem d_jdk_42_method_149_code_35 : decode jdk_42_method_149_code 35 = .ok (.iload_n 3, 1) := by decide +kernel
theorem d_jdk_42_method_149_code_36 : decode jdk_42_method_149_code 36 = .ok (.invokestatic 177, 3) := by decide +kernel
theorem d_jdk_42_method_149_code_39 : decode jdk_42_method_149_code 39 = .ok (.astore 5, 2) := by decide +kernel
theorem d_jdk_42_method_149_code_41 : decode jdk_42_method_149_code 41 = .ok (.aload_n 0, 1) := by decide +kernel
theorem d_jdk_42_method_149_code_42 : decode jdk_42_method_149_code 42 = .ok (.aload 5, 2) := by decide +kernel
theorem d_jdk_42_method_149_code_44 : decode jdk_42_method_149_code 44 = .ok (.iload_n 3, 1) := by decide +kernel
theorem d_jdk_42_method_149_code_45 : decode jdk_42_method_149_code 45 = .ok (.invokestatic 47, 3) := by decide +kernel
theorem d_jdk_42_method_149_code_48 : decode jdk_42_method_149_code 48 = .ok (.putfield 15, 3) := by decide +kernel
theorem d_jdk_42_method_149_code_51 : decode jdk_42_method_149_code 51 = .ok (.aload_n 0, 1) := by decide +kernel
theorem d_jdk_42_method_149_code_52 : decode jdk_42_method_149_code 52 = .ok (.aload 5, 2) := by decide +kernel
theorem d_jdk_42_method_149_code_54 : decode jdk_42_method_149_code 54 = .ok (.putfield 9, 3) := by decide +kernel
theorem d_jdk_42_method_149_code_57 : decode jdk_42_method_149_code 57 = .ok (.return_, 1) := by decide +kernel
theorem d_jdk_42_method_149_code_58 : decode jdk_42_method_149_code 58 = .ok (.aload_n 0, 1) := by decide +kernel
theorem d_jdk_42_method_149_code_59 : decode jdk_42_method_149_code 59 = .ok (.iconst 1, 1) := by decide +kernel
theorem d_jdk_42_method_149_code_60 : decode jdk_42_method_149_code 60 = .ok (.putfield 15, 3) := by decide +kernel
theorem d_jdk_42_method_149_code_63 : decode jdk_42_method_149_code 63 = .ok (.aload_n 0, 1) := by decide +kernel
theorem d_jdk_42_method_149_code_64 : decode jdk_42_method_149_code 64 = .ok (.aload_n 1, 1) := by decide +kernel
theorem d_jdk_42_method_149_code_65 : decode jdk_42_method_149_code 65 = .ok (.iload_n 2, 1) := by decide +kernel
theorem d_jdk_42_method_149_code_66 : decode jdk_42_method_149_code 66 = .ok (.iload_n 3, 1) := by decide +kernel
theorem d_jdk_42_method_149_code_67 : decode jdk_42_method_149_code 67 = .ok (.invokestatic 180, 3) := by decide +kernel
theorem d_jdk_42_method_149_code_70 : decode jdk_42_method_149_code 70 = .ok (.putfield 9, 3) := by decide +kernel
theorem d_jdk_42_method_149_code_73 : decode jdk_42_method_149_code 73 = .ok (.return_, 1) := by decide +kernel
theorem pn_1 : plainName "java/lang/String" = true := by first | (simp [plainName, overriddenIn]; done) | decide +kernel
theorem ef_rmS4 (m : MethodId) (a1 : Addr) (a2 : Addr) : entryFrame m #[(.ref a1), (.ref a2), (.int (0 : Int32)), (.int (Int32.ofNat n)), .null] 6 = mkF m 0 #[.val (.ref a1), .val (.ref a2), .val (.int (0 : Int32)), .val (.int (Int32.ofNat n)), .val .null, .unset] [] := by first | (simp [entryFrame, mkF, argsToLocals, Value.category]; done) | rfl
def Q_rmS4 (Z : State) (a1 : Addr) (a2 : Addr) (n : Nat) (y : Nat → Int32) (u1 : Value) (u2 : Value) (cs : Int32) (h0 : Heap) (n0 : Nat) (vv_ : Option Value) (h : Heap) (LL_ : List Loc) : Prop := vv_ = none ∧ Fr n0 LL_ ∧ (Keep h0 h [a1] ∧ Exa Z h a1 "java/lang/String" ∧ Fld Z h a1 "java/lang/String" "coder" "B" (.int (0 : Int32)) ∧ Fld Z h a1 "java/lang/String" "value" "[B" (.ref h0.size) ∧ Av Z h h0.size .byte n (fun q => .int ((y q).toInt8.toInt32)))
set_option maxRecDepth 65536 in
set_option maxHeartbeats 40000000 in
theorem rmS4 (l : Launch) (Z : State) (a0 : Array Value) (hw : ∀ d ∈ tables_1, d.before a0 Z = true) (ws : List Jvm.Cond) (a1 : Addr) (a2 : Addr) (n : Nat) (y : Nat → Int32) (u1 : Value) (u2 : Value) (cs : Int32) (h0 : Heap) (n0 : Nat) (Z0 : n0 ≤ h0.size) (E1 : Exa Z h0 a1 "java/lang/String") (F1 : Fld Z h0 a1 "java/lang/String" "coder" "B" u1) (F2 : Fld Z h0 a1 "java/lang/String" "value" "[B" u2) (g1 : n0 ≤ a1) (V1 : Av Z h0 a2 .char n (fun q => .int (y q))) (SC : Sta Z h0 "java/lang/String" "COMPACT_STRINGS" "Z" (.int cs)) (hcs : ¬ cs = (0 : Int32)) (hn : n ≤ 2) (h1 : 1 ≤ n) (hy : own_ch n y) :
    MetFree l (⟨"java/lang/String", "<init>", "([CIILjava/lang/Void;)V"⟩ : MethodName) (head1 (Jvm.Cond.code (⟨"java/lang/String", "<init>", "([CIILjava/lang/Void;)V"⟩ : MethodName) jdk_42_method_149_code 6 none :: ws) ({ frames := 2, cells := 1, slots := 2, locals := 35 } : Room)) (fun aa_ UU_ => aa_ = #[(.ref a1), (.ref a2), (.int (0 : Int32)), (.int (Int32.ofNat n)), .null] ∧ Z.Warmed39 UU_.vm ∧ UU_.heap = h0) (fun _ _ _ _ _ => True) (fun _ UU_ oo_ VV_ => ∃ vv_ LL_, oo_ = .returned vv_ ∧ Q_rmS4 Z a1 a2 n y u1 u2 cs h0 n0 vv_ VV_.heap LL_ ∧ FrameEnd UU_ oo_ VV_ LL_ ({ frames := 2, cells := 1, slots := 2, locals := 35 } : Room).cells ({ frames := 2, cells := 1, slots := 2, locals := 35 } : Room).slots) := by
  refine own_met (y := (⟨"java/lang/String", "<init>", "([CIILjava/lang/Void;)V"⟩ : MethodName)) (plainFor_of_name pn_1) ?_
  intro p e s m below meth c T0 K hx hby hml hret hlk hown hnm hZ X0 e0 hK
  have N0 := Fr.nil n0
  refine Rch.cast (ef_rmS4 m a1 a2) ?_
  refine Rch.of (T' := T0) (g' := (mkF m 1 #[.val (.ref a1), .val (.ref a2), .val (.int (0 : Int32)), .val (.int (Int32.ofNat n)), .val .null, .unset] [(.ref a1)])) (fun _ kt => XS.aloadN X0.here hx rfl (hb hby d_jdk_42_method_149_code_0) rfl rfl kt) ?_
  obtain ⟨T106, X106, e106, st106⟩ := initO X0 hx hZ hown (hw _ (List.mem_of_getElem? (i := 19) rfl)) (hw _ (List.mem_of_getElem? (i := 20) rfl)) (hw _ (List.mem_of_getElem? (i := 21) rfl)) e0 (g := (mkF m 1 #[.val (.ref a1), .val (.ref a2), .val (.int (0 : Int32)), .val (.int (Int32.ofNat n)), .val .null, .unset] [(.ref a1)])) rfl (by rw [hml]; rfl) rfl (hb hby d_jdk_42_method_149_code_1) (by decide) (W := 0) (by show 2 * 0 + _ ≤ _; exact Nat.le_of_eq rfl) (by decide)
  refine Rch.of (T' := T106) (g' := (mkF m 4 #[.val (.ref a1), .val (.ref a2), .val (.int (0 : Int32)), .val (.int (Int32.ofNat n)), .val .null, .unset] [])) st106 ?_
  refine Rch.of (T' := T106) (g' := (mkF m 5 #[.val (.ref a1), .val (.ref a2), .val (.int (0 : Int32)), .val (.int (Int32.ofNat n)), .val .null, .unset] [(.int (Int32.ofNat n))])) (fun _ kt => XS.iloadN X106.here hx rfl (hb hby d_jdk_42_method_149_code_4) rfl  kt) ?_
  refine Rch.of (T' := T106) (g' := (mkF m 27 #[.val (.ref a1), .val (.ref a2), .val (.int (0 : Int32)), .val (.int (Int32.ofNat n)), .val .null, .unset] [])) (fun _ kt => XS.ifYes X106.here hx rfl (pc0 := 5) (pc' := 27) rfl (hb hby d_jdk_42_method_149_code_5) rfl ((if0 _ _).trans (feq (own_ne0 h1 (by omega))).2) (by decide) (by decide) kt) ?_
  obtain ⟨T107, X107, e107, st107⟩ := getS2 X106 hx hZ hown (host := "") (Or.inl (hw _ (List.mem_of_getElem? (i := 4) rfl))) Via.refl e106 SC (g := (mkF m 27 #[.val (.ref a1), .val (.ref a2), .val (.int (0 : Int32)), .val (.int (Int32.ofNat n)), .val .null, .unset] [])) rfl (hb hby d_jdk_42_method_149_code_27)
  refine Rch.of (T' := T107) (g' := (mkF m 30 #[.val (.ref a1), .val (.ref a2), .val (.int (0 : Int32)), .val (.int (Int32.ofNat n)), .val .null, .unset] [(.int cs)])) st107 ?_
  refine Rch.of (T' := T107) (g' := (mkF m 33 #[.val (.ref a1), .val (.ref a2), .val (.int (0 : Int32)), .val (.int (Int32.ofNat n)), .val .null, .unset] [])) (fun _ kt => XS.ifNo X107.here hx rfl (hb hby d_jdk_42_method_149_code_30) rfl ((if0 _ _).trans (feq hcs).1) kt) ?_
  refine Rch.of (T' := T107) (g' := (mkF m 34 #[.val (.ref a1), .val (.ref a2), .val (.int (0 : Int32)), .val (.int (Int32.ofNat n)), .val .null, .unset] [(.ref a2)])) (fun _ kt => XS.aloadN X107.here hx rfl (hb hby d_jdk_42_method_149_code_33) rfl rfl kt) ?_
  refine Rch.of (T' := T107) (g' := (mkF m 35 #[.val (.ref a1), .val (.ref a2), .val (.int (0 : Int32)), .val (.int (Int32.ofNat n)), .val .null, .unset] [(.int (0 : Int32)), (.ref a2)])) (fun _ kt => XS.iloadN X107.here hx rfl (hb hby d_jdk_42_method_149_code_34) rfl  kt) ?_
  refine Rch.of (T' := T107) (g' := (mkF m 36 #[.val (.ref a1), .val (.ref a2), .val (.int (0 : Int32)), .val (.int (Int32.ofNat n)), .val .null, .unset] [(.int (Int32.ofNat n)), (.int (0 : Int32)), (.ref a2)])) (fun _ kt => XS.iloadN X107.here hx rfl (hb hby d_jdk_42_method_149_code_35) rfl  kt) ?_
  obtain ⟨_, _, ⟨T108, L108, k108, n108⟩, -, X108, ⟨Lc108, hQ108, l108, y108, z108⟩, st108⟩ := Jvm.LawKit.callS X107 hx (y := (⟨"java/lang/StringUTF16", "compress", "([CII)[B"⟩ : MethodName)) hown (mvT hZ (hw _ (List.mem_of_getElem? (i := 34) rfl))) (mvT hZ (hw _ (List.mem_of_getElem? (i := 35) rfl))) (mvT hZ (hw _ (List.mem_of_getElem? (i := 36) rfl))) (mvT hZ (hw _ (List.mem_of_getElem? (i := 37) rfl))) (by decide) (backOf (W := 0) (rmC3 l Z a0 hw [] a2 n y h0 n0 Z0 V1 hn hy) hZ (hw _ (List.mem_of_getElem? (i := 37) rfl)) (hw _ (List.mem_of_getElem? (i := 36) rfl)) (by decide) (by decide)) (g := (mkF m 36 #[.val (.ref a1), .val (.ref a2), .val (.int (0 : Int32)), .val (.int (Int32.ofNat n)), .val .null, .unset] [(.int (Int32.ofNat n)), (.int (0 : Int32)), (.ref a2)])) rfl (by rw [hml]; rfl) (argsL := [(.ref a2), (.int (0 : Int32)), (.int (Int32.ofNat n))]) (rest := []) (lenOf pd_7 rfl) rfl (by show 2 * 0 + _ ≤ _; exact Nat.le_of_eq rfl) (hb hby d_jdk_42_method_149_code_36) (fun _ _ => ⟨rfl, e107, (by decide : 0 + 1 ≤ _), (by decide : 0 + 2 ≤ _)⟩)
  dsimp only [Pt.U, Pt.locs, Pt.cells, Pt.slots] at X108 l108 y108 z108 st108 hQ108
  subst l108 y108 z108
  obtain ⟨rfl, N108q, hQ108⟩ := hQ108
  have N108 := Fr.app N0 N108q
  obtain ⟨K108, V108⟩ := hQ108
  obtain ⟨b108, g108⟩ : ∃ zz_, zz_ = h0.size := ⟨_, rfl⟩
  have ne_a1_b108 : a1 ≠ b108 := Nat.ne_of_lt (Nat.lt_of_lt_of_le E1.lt (Nat.le_of_eq g108.symm))
  have ne_a2_b108 : a2 ≠ b108 := Nat.ne_of_lt (Nat.lt_of_lt_of_le V1.lt (Nat.le_of_eq g108.symm))
  have ge_b108 : n0 ≤ b108 := Nat.le_trans Z0 (Nat.le_of_eq g108.symm)
  have sz_b108 : h0.size ≤ b108 := Nat.le_trans (Keep.refl h0 [a1]).1 (Nat.le_of_eq g108.symm)
  rw [← g108] at V108 st108
  refine Rch.of (T' := T108) (g' := (mkF m 39 #[.val (.ref a1), .val (.ref a2), .val (.int (0 : Int32)), .val (.int (Int32.ofNat n)), .val .null, .unset] [(.ref b108)])) st108 ?_
  refine Rch.of (T' := T108) (g' := (mkF m 41 #[.val (.ref a1), .val (.ref a2), .val (.int (0 : Int32)), .val (.int (Int32.ofNat n)), .val .null, .val (.ref b108)] [])) (fun _ kt => XS.astore X108.here hx rfl (hb hby d_jdk_42_method_149_code_39) rfl rfl (l' := #[.val (.ref a1), .val (.ref a2), .val (.int (0 : Int32)), .val (.int (Int32.ofNat n)), .val .null, .val (.ref b108)]) rfl kt) ?_
  refine Rch.of (T' := T108) (g' := (mkF m 42 #[.val (.ref a1), .val (.ref a2), .val (.int (0 : Int32)), .val (.int (Int32.ofNat n)), .val .null, .val (.ref b108)] [(.ref a1)])) (fun _ kt => XS.aloadN X108.here hx rfl (hb hby d_jdk_42_method_149_code_41) rfl rfl kt) ?_
  refine Rch.of (T' := T108) (g' := (mkF m 44 #[.val (.ref a1), .val (.ref a2), .val (.int (0 : Int32)), .val (.int (Int32.ofNat n)), .val .null, .val (.ref b108)] [(.ref b108), (.ref a1)])) (fun _ kt => XS.aload X108.here hx rfl (hb hby d_jdk_42_method_149_code_42) rfl rfl kt) ?_
  refine Rch.of (T' := T108) (g' := (mkF m 45 #[.val (.ref a1), .val (.ref a2), .val (.int (0 : Int32)), .val (.int (Int32.ofNat n)), .val .null, .val (.ref b108)] [(.int (Int32.ofNat n)), (.ref b108), (.ref a1)])) (fun _ kt => XS.iloadN X108.here hx rfl (hb hby d_jdk_42_method_149_code_44) rfl  kt) ?_
  obtain ⟨_, _, ⟨T109, L109, k109, n109⟩, -, X109, ⟨Lc109, hQ109, l109, y109, z109⟩, st109⟩ := Jvm.LawKit.callS X108 hx (y := (⟨"java/lang/StringUTF16", "coderFromArrayLen", "([BI)B"⟩ : MethodName)) hown (mvT hZ (hw _ (List.mem_of_getElem? (i := 41) rfl))) (mvT hZ (hw _ (List.mem_of_getElem? (i := 42) rfl))) (mvT hZ (hw _ (List.mem_of_getElem? (i := 36) rfl))) (mvT hZ (hw _ (List.mem_of_getElem? (i := 43) rfl))) (by decide) (backOf (W := 1) (rmCL l Z a0 hw [] b108 n (fun q => (y q).toInt8.toInt32) T108.heap n0 (Nat.le_trans Z0 K108.1) V108) hZ (hw _ (List.mem_of_getElem? (i := 43) rfl)) (hw _ (List.mem_of_getElem? (i := 36) rfl)) (by decide) (by decide)) (g := (mkF m 45 #[.val (.ref a1), .val (.ref a2), .val (.int (0 : Int32)), .val (.int (Int32.ofNat n)), .val .null, .val (.ref b108)] [(.int (Int32.ofNat n)), (.ref b108), (.ref a1)])) rfl (by rw [hml]; rfl) (argsL := [(.ref b108), (.int (Int32.ofNat n))]) (rest := [(.ref a1)]) (lenOf pd_9 rfl) rfl (by show 2 * 0 + _ ≤ _; exact Nat.le_of_eq rfl) (hb hby d_jdk_42_method_149_code_45) (fun _ _ => ⟨rfl, rfl, (by decide : 1 + 0 ≤ _), (by decide : 2 + 0 ≤ _)⟩)
  dsimp only [Pt.U, Pt.locs, Pt.cells, Pt.slots] at X109 l109 y109 z109 st109 hQ109
  subst l109 y109 z109
  obtain ⟨rfl, N109q, hQ109⟩ := hQ109
  have N109 := Fr.app N108 N109q
  refine Rch.of (T' := T109) (g' := (mkF m 48 #[.val (.ref a1), .val (.ref a2), .val (.int (0 : Int32)), .val (.int (Int32.ofNat n)), .val .null, .val (.ref b108)] [(.int (0 : Int32)), (.ref a1)])) st109 ?_
  obtain ⟨T110, h110, X110, e110, W110, st110⟩ := putFN X109 hx hZ hown (hw _ (List.mem_of_getElem? (i := 24) rfl)) Via.refl hQ109 (F1.keep K108 nin0) (E1.keep K108) (Or.inr ⟨(hw _ (List.mem_of_getElem? (i := 25) rfl)), rfl, hnm⟩) (hw _ (List.mem_of_getElem? (i := 10) rfl)) (ty := .byte) (v' := (.int (nar .byte (0 : Int32)))) (by decide) rfl (fits_nar_byte _) (g := (mkF m 48 #[.val (.ref a1), .val (.ref a2), .val (.int (0 : Int32)), .val (.int (Int32.ofNat n)), .val .null, .val (.ref b108)] [(.int (0 : Int32)), (.ref a1)])) rfl rfl (hb hby d_jdk_42_method_149_code_48)
  have N110 := Fr.snoc X110 N109 g1
  have Fw110 := Fld.same W110 (F1.keep K108 nin0)
  have Fb111 := ((F2.keep K108 nin0).other W110 (Or.inr (slot_ne (Or.inr (hw _ (List.mem_of_getElem? (i := 23) rfl))) (Or.inr (hw _ (List.mem_of_getElem? (i := 25) rfl))) (by decide) (t := (.array .byte)) (t' := .byte) (by decide) (by decide))))
  refine Rch.of (T' := T110) (g' := (mkF m 51 #[.val (.ref a1), .val (.ref a2), .val (.int (0 : Int32)), .val (.int (Int32.ofNat n)), .val .null, .val (.ref b108)] [])) st110 ?_
  refine Rch.of (T' := T110) (g' := (mkF m 52 #[.val (.ref a1), .val (.ref a2), .val (.int (0 : Int32)), .val (.int (Int32.ofNat n)), .val .null, .val (.ref b108)] [(.ref a1)])) (fun _ kt => XS.aloadN X110.here hx rfl (hb hby d_jdk_42_method_149_code_51) rfl rfl kt) ?_
  refine Rch.of (T' := T110) (g' := (mkF m 54 #[.val (.ref a1), .val (.ref a2), .val (.int (0 : Int32)), .val (.int (Int32.ofNat n)), .val .null, .val (.ref b108)] [(.ref b108), (.ref a1)])) (fun _ kt => XS.aload X110.here hx rfl (hb hby d_jdk_42_method_149_code_52) rfl rfl kt) ?_
  obtain ⟨T112, h112, X112, e112, W112, st112⟩ := putF X110 hx hZ hown (host := "") (Or.inl (hw _ (List.mem_of_getElem? (i := 22) rfl))) Via.refl e110 Fb111 ((E1.keep K108).wr W110) (Or.inr ⟨(hw _ (List.mem_of_getElem? (i := 23) rfl)), rfl, hnm⟩) (hw _ (List.mem_of_getElem? (i := 10) rfl)) (ty := (.array .byte)) (by decide) rfl rfl (g := (mkF m 54 #[.val (.ref a1), .val (.ref a2), .val (.int (0 : Int32)), .val (.int (Int32.ofNat n)), .val .null, .val (.ref b108)] [(.ref b108), (.ref a1)])) rfl rfl (hb hby d_jdk_42_method_149_code_54)
  have N112 := Fr.snoc X112 N110 g1
  have Fw112 := Fld.same W112 Fb111
  have Fb113 := (Fw110.other W112 (Or.inr (slot_ne (Or.inr (hw _ (List.mem_of_getElem? (i := 25) rfl))) (Or.inr (hw _ (List.mem_of_getElem? (i := 23) rfl))) (by decide) (t := .byte) (t' := (.array .byte)) (by decide) (by decide))))
  refine Rch.of (T' := T112) (g' := (mkF m 57 #[.val (.ref a1), .val (.ref a2), .val (.int (0 : Int32)), .val (.int (Int32.ofNat n)), .val .null, .val (.ref b108)] [])) st112 ?_
  exact Rch.retV X112 hx hret hlk (hb hby d_jdk_42_method_149_code_57) (fun U hU hF => hK _ U _ _ _ (by show Q_rmS4 Z a1 a2 n y u1 u2 cs h0 n0 _ U.heap _; rw [hU, e112]; exact ⟨rfl, N112, by rw [← g108]; exact ⟨((((Keep.refl h0 [a1]).trans K108 all0).wr W110 (Or.inl (List.mem_of_getElem? (i := 0) rfl))).wr W112 (Or.inl (List.mem_of_getElem? (i := 0) rfl))), (((E1.keep K108).wr W110).wr W112), Fb113, Fw112, ((V108.other W110 (Ne.symm ne_a1_b108)).other W112 (Ne.symm ne_a1_b108))⟩⟩) hF (by decide) (by decide))
theorem d_jdk_42_method_3_code_0 : decode jdk_42_method_3_code 0 = .ok (.aload_n 0, 1) := by decide +kernel
theorem d_jdk_42_method_3_code_1 : decode jdk_42_method_3_code 1 = .ok (.aload_n 1, 1) := by decide +kernel
theorem d_jdk_42_method_3_code_2 : decode jdk_42_method_3_code 2 = .ok (.iconst 0, 1) := by decide +kernel
theorem d_jdk_42_method_3_code_3 : decode jdk_42_method_3_code 3 = .ok (.aload_n 1, 1) := by decide +kernel
theorem d_jdk_42_method_3_code_4 : decode jdk_42_method_3_code 4 = .ok (.arraylength, 1) := by decide +kernel
theorem d_jdk_42_method_3_code_5 : decode jdk_42_method_3_code 5 = .ok (.aconst_null, 1) := by decide +kernel
theorem d_jdk_42_method_3_code_6 : decode jdk_42_method_3_code 6 = .ok (.invokespecial 27, 3) := by decide +kernel
theorem d_jdk_42_method_3_code_9 : decode jdk_42_method_3_code 9 = .ok (.return_, 1) := by decide +kernel
theorem ef_rmS1 (m : MethodId) (a1 : Addr) (a2 : Addr) : entryFrame m #[(.ref a1), (.ref a2)] 2 = mkF m 0 #[.val (.ref a1), .val (.ref a2)] [] := by first | (simp [entryFrame, mkF, argsToLocals, Value.category]; done) | rfl
def Q_rmS1 (Z : State) (a1 : Addr) (a2 : Addr) (n : Nat) (y : Nat → Int32) (u1 : Value) (u2 : Value) (cs : Int32) (h0 : Heap) (n0 : Nat) (vv_ : Option Value) (h : Heap) (LL_ : List Loc) : Prop := vv_ = none ∧ Fr n0 LL_ ∧ (Keep h0 h [a1] ∧ Exa Z h a1 "java/lang/String" ∧ Fld Z h a1 "java/lang/String" "coder" "B" (.int (0 : Int32)) ∧ Fld Z h a1 "java/lang/String" "value" "[B" (.ref h0.size) ∧ Av Z h h0.size .byte n (fun q => .int ((y q).toInt8.toInt32)))
set_option maxRecDepth 65536 in
set_option maxHeartbeats 40000000 in
theorem rmS1 (l : Launch) (Z : State) (a0 : Array Value) (hw : ∀ d ∈ tables_1, d.before a0 Z = true) (ws : List Jvm.Cond) (a1 : Addr) (a2 : Addr) (n : Nat) (y : Nat → Int32) (u1 : Value) (u2 : Value) (cs : Int32) (h0 : Heap) (n0 : Nat) (Z0 : n0 ≤ h0.size) (E1 : Exa Z h0 a1 "java/lang/String") (F1 : Fld Z h0 a1 "java/lang/String" "coder" "B" u1) (F2 : Fld Z h0 a1 "java/lang/String" "value" "[B" u2) (g1 : n0 ≤ a1) (V1 : Av Z h0 a2 .char n (fun q => .int (y q))) (SC : Sta Z h0 "java/lang/String" "COMPACT_STRINGS" "Z" (.int cs)) (hcs : ¬ cs = (0 : Int32)) (hn : n ≤ 2) (h1 : 1 ≤ n) (hy : own_ch n y) :
    MetFree l (⟨"java/lang/String", "<init>", "([C)V"⟩ : MethodName) (head1 (Jvm.Cond.code (⟨"java/lang/String", "<init>", "([C)V"⟩ : MethodName) jdk_42_method_3_code 2 none :: ws) ({ frames := 3, cells := 1, slots := 2, locals := 52 } : Room)) (fun aa_ UU_ => aa_ = #[(.ref a1), (.ref a2)] ∧ Z.Warmed39 UU_.vm ∧ UU_.heap = h0) (fun _ _ _ _ _ => True) (fun _ UU_ oo_ VV_ => ∃ vv_ LL_, oo_ = .returned vv_ ∧ Q_rmS1 Z a1 a2 n y u1 u2 cs h0 n0 vv_ VV_.heap LL_ ∧ FrameEnd UU_ oo_ VV_ LL_ ({ frames := 3, cells := 1, slots := 2, locals := 52 } : Room).cells ({ frames := 3, cells := 1, slots := 2, locals := 52 } : Room).slots) := by
  refine own_met (y := (⟨"java/lang/String", "<init>", "([C)V"⟩ : MethodName)) (plainFor_of_name pn_1) ?_
  intro p e s m below meth c T0 K hx hby hml hret hlk hown hnm hZ X0 e0 hK
  have N0 := Fr.nil n0
  refine Rch.cast (ef_rmS1 m a1 a2) ?_
  refine Rch.of (T' := T0) (g' := (mkF m 1 #[.val (.ref a1), .val (.ref a2)] [(.ref a1)])) (fun _ kt => XS.aloadN X0.here hx rfl (hb hby d_jdk_42_method_3_code_0) rfl rfl kt) ?_
  refine Rch.of (T' := T0) (g' := (mkF m 2 #[.val (.ref a1), .val (.ref a2)] [(.ref a2), (.ref a1)])) (fun _ kt => XS.aloadN X0.here hx rfl (hb hby d_jdk_42_method_3_code_1) rfl rfl kt) ?_
  refine Rch.of (T' := T0) (g' := (mkF m 3 #[.val (.ref a1), .val (.ref a2)] [(.int (0 : Int32)), (.ref a2), (.ref a1)])) (fun _ kt => XS.iconst X0.here hx rfl (hb hby d_jdk_42_method_3_code_2) kt) ?_
  refine Rch.of (T' := T0) (g' := (mkF m 4 #[.val (.ref a1), .val (.ref a2)] [(.ref a2), (.int (0 : Int32)), (.ref a2), (.ref a1)])) (fun _ kt => XS.aloadN X0.here hx rfl (hb hby d_jdk_42_method_3_code_3) rfl rfl kt) ?_
  obtain ⟨cl114, Ar114, Sz114, Ha114⟩ := id V1
  refine Rch.of (T' := T0) (g' := (mkF m 5 #[.val (.ref a1), .val (.ref a2)] [(.int cl114.slots.size.toInt32), (.int (0 : Int32)), (.ref a2), (.ref a1)])) (X0.arraylength hx (by rw [e0]; exact Ar114.1) (State.isArrayOf_alike hZ.alike Ar114.2.1) (g := (mkF m 4 #[.val (.ref a1), .val (.ref a2)] [(.ref a2), (.int (0 : Int32)), (.ref a2), (.ref a1)])) rfl rfl (hb hby d_jdk_42_method_3_code_4)) ?_
  rw [oLen Sz114]
  show Rch p e below K T0 (mkF m 5 #[.val (.ref a1), .val (.ref a2)] [(.int (Int32.ofNat n)), (.int (0 : Int32)), (.ref a2), (.ref a1)])
  refine Rch.of (T' := T0) (g' := (mkF m 6 #[.val (.ref a1), .val (.ref a2)] [.null, (.int (Int32.ofNat n)), (.int (0 : Int32)), (.ref a2), (.ref a1)])) (fun _ kt => XS.aconstNull X0.here hx rfl (hb hby d_jdk_42_method_3_code_5) kt) ?_
  obtain ⟨_, _, ⟨T115, L115, k115, n115⟩, -, X115, ⟨Lc115, hQ115, l115, y115, z115⟩, st115⟩ := X0.specialBack hx (y := (⟨"java/lang/String", "<init>", "([CIILjava/lang/Void;)V"⟩ : MethodName)) rfl hown (mvT hZ (hw _ (List.mem_of_getElem? (i := 31) rfl))) (mvT hZ (hw _ (List.mem_of_getElem? (i := 32) rfl))) (mvT hZ (hw _ (List.mem_of_getElem? (i := 33) rfl))) (by decide) (backOf (W := 0) (rmS4 l Z a0 hw [] a1 a2 n y u1 u2 cs h0 n0 Z0 E1 F1 F2 g1 V1 SC hcs hn h1 hy) hZ (hw _ (List.mem_of_getElem? (i := 33) rfl)) (hw _ (List.mem_of_getElem? (i := 2) rfl)) (by decide) (by decide)) (g := (mkF m 6 #[.val (.ref a1), .val (.ref a2)] [.null, (.int (Int32.ofNat n)), (.int (0 : Int32)), (.ref a2), (.ref a1)])) rfl (by rw [hml]; rfl) (Steps.refl _) (a := a1) (argsL := [(.ref a2), (.int (0 : Int32)), (.int (Int32.ofNat n)), .null]) (rest := []) (lenOf pd_6 rfl) rfl (by show 2 * 0 + _ ≤ _; exact Nat.le_of_eq rfl) (hb hby d_jdk_42_method_3_code_6) (fun _ _ => ⟨rfl, e0, (by decide : 0 + 1 ≤ _), (by decide : 0 + 2 ≤ _)⟩)
  dsimp only [Pt.U, Pt.locs, Pt.cells, Pt.slots] at X115 l115 y115 z115 st115 hQ115
  subst l115 y115 z115
  obtain ⟨rfl, N115q, hQ115⟩ := hQ115
  have N115 := Fr.app N0 N115q
  obtain ⟨K115, Ex115, Fa115, Fb115, V115⟩ := hQ115
  obtain ⟨b115, g115⟩ : ∃ zz_, zz_ = h0.size := ⟨_, rfl⟩
  have ne_a1_b115 : a1 ≠ b115 := Nat.ne_of_lt (Nat.lt_of_lt_of_le E1.lt (Nat.le_of_eq g115.symm))
  have ne_a2_b115 : a2 ≠ b115 := Nat.ne_of_lt (Nat.lt_of_lt_of_le V1.lt (Nat.le_of_eq g115.symm))
  have ge_b115 : n0 ≤ b115 := Nat.le_trans Z0 (Nat.le_of_eq g115.symm)
  have sz_b115 : h0.size ≤ b115 := Nat.le_trans (Keep.refl h0 [a1]).1 (Nat.le_of_eq g115.symm)
  rw [← g115] at V115 Fb115
  refine Rch.via (T' := T115) (g' := (mkF m 9 #[.val (.ref a1), .val (.ref a2)] [])) st115 ?_
  exact Rch.retV X115 hx hret hlk (hb hby d_jdk_42_method_3_code_9) (fun U hU hF => hK _ U _ _ _ (by show Q_rmS1 Z a1 a2 n y u1 u2 cs h0 n0 _ U.heap _; rw [hU]; exact ⟨rfl, N115, by rw [← g115]; exact ⟨((Keep.refl h0 [a1]).trans K115 (allS (Or.inl (List.mem_of_getElem? (i := 0) rfl)) all0)), Ex115, Fa115, Fb115, V115⟩⟩) hF (by decide) (by decide))
theorem d_jdk_43_method_3_code_0 : decode jdk_43_method_3_code 0 = .ok (.iload_n 0, 1) := by decide +kernel
theorem d_jdk_43_method_3_code_1 : decode jdk_43_method_3_code 1 = .ok (.sipush 255, 3) := by decide +kernel
theorem d_jdk_43_method_3_code_4 : decode jdk_43_method_3_code 4 = .ok (.if_icmp .gt 7, 3) := by decide +kernel
theorem d_jdk_43_method_3_code_7 : decode jdk_43_method_3_code 7 = .ok (.iconst 1, 1) := by decide +kernel
theorem d_jdk_43_method_3_code_8 : decode jdk_43_method_3_code 8 = .ok (.goto 4, 3) := by decide +kernel
theorem d_jdk_43_method_3_code_11 : decode jdk_43_method_3_code 11 = .ok (.iconst 0, 1) := by decide +kernel
theorem d_jdk_43_method_3_code_12 : decode jdk_43_method_3_code 12 = .ok (.ireturn, 1) := by decide +kernel
theorem pn_2 : plainName "java/lang/StringLatin1" = true := by first | (simp [plainName, overriddenIn]; done) | decide +kernel
theorem ef_rmCE (m : MethodId) (p1 : Int32) : entryFrame m #[(.int p1)] 1 = mkF m 0 #[.val (.int p1)] [] := by first | (simp [entryFrame, mkF, argsToLocals, Value.category]; done) | rfl
def Q_rmCE (Z : State) (p1 : Int32) (h0 : Heap) (n0 : Nat) (vv_ : Option Value) (h : Heap) (LL_ : List Loc) : Prop := vv_ = some (.int (1 : Int32)) ∧ Fr n0 LL_ ∧ (h = h0)
set_option maxRecDepth 65536 in
set_option maxHeartbeats 40000000 in
theorem rmCE (l : Launch) (Z : State) (a0 : Array Value) (hw : ∀ d ∈ tables_1, d.before a0 Z = true) (ws : List Jvm.Cond) (p1 : Int32) (h0 : Heap) (n0 : Nat) (Z0 : n0 ≤ h0.size) (hp : ¬ (255 : Int32) < p1) :
    MetFree l (⟨"java/lang/StringLatin1", "canEncode", "(C)Z"⟩ : MethodName) (head1 (Jvm.Cond.code (⟨"java/lang/StringLatin1", "canEncode", "(C)Z"⟩ : MethodName) jdk_43_method_3_code 1 (some .boolean) :: ws) ({ frames := 0, cells := 0, slots := 0, locals := 0 } : Room)) (fun aa_ UU_ => aa_ = #[(.int p1)] ∧ Z.Warmed39 UU_.vm ∧ UU_.heap = h0) (fun _ _ _ _ _ => True) (fun _ UU_ oo_ VV_ => ∃ vv_ LL_, oo_ = .returned vv_ ∧ Q_rmCE Z p1 h0 n0 vv_ VV_.heap LL_ ∧ FrameEnd UU_ oo_ VV_ LL_ ({ frames := 0, cells := 0, slots := 0, locals := 0 } : Room).cells ({ frames := 0, cells := 0, slots := 0, locals := 0 } : Room).slots) := by
  refine own_met (y := (⟨"java/lang/StringLatin1", "canEncode", "(C)Z"⟩ : MethodName)) (plainFor_of_name pn_2) ?_
  intro p e s m below meth c T0 K hx hby hml hret hlk hown hnm hZ X0 e0 hK
  have N0 := Fr.nil n0
  refine Rch.cast (ef_rmCE m p1) ?_
  refine Rch.of (T' := T0) (g' := (mkF m 1 #[.val (.int p1)] [(.int p1)])) (fun _ kt => XS.iloadN X0.here hx rfl (hb hby d_jdk_43_method_3_code_0) rfl  kt) ?_
  refine Rch.of (T' := T0) (g' := (mkF m 4 #[.val (.int p1)] [(.int (255 : Int32)), (.int p1)])) (fun _ kt => XS.sipush X0.here hx rfl (hb hby d_jdk_43_method_3_code_1) kt) ?_
  refine Rch.of (T' := T0) (g' := (mkF m 7 #[.val (.int p1)] [])) (fun _ kt => XS.icmpNo X0.here hx rfl (hb hby d_jdk_43_method_3_code_4) rfl (flt hp).2.2.1 kt) ?_
  refine Rch.of (T' := T0) (g' := (mkF m 8 #[.val (.int p1)] [(.int (1 : Int32))])) (fun _ kt => XS.iconst X0.here hx rfl (hb hby d_jdk_43_method_3_code_7) kt) ?_
  refine Rch.of (T' := T0) (g' := (mkF m 12 #[.val (.int p1)] [(.int (1 : Int32))])) (fun _ kt => XS.goto X0.here hx rfl (pc0 := 8) (pc' := 12) rfl (hb hby d_jdk_43_method_3_code_8) (by decide) (by decide) kt) ?_
  exact Rch.retN X0 hx (t := .boolean) hret (by simp) hlk (hb hby d_jdk_43_method_3_code_12) (fun U hU hF => hK _ U _ _ _ (by show Q_rmCE Z p1 h0 n0 _ U.heap _; rw [hU, e0]; exact ⟨rfl, N0, rfl⟩) hF (by decide) (by decide))
theorem d_jdk_43_method_46_code_0 : decode jdk_43_method_46_code 0 = .ok (.iconst 1, 1) := by decide +kernel
theorem d_jdk_43_method_46_code_1 : decode jdk_43_method_46_code 1 = .ok (.newarray .byte, 2) := by decide +kernel
theorem d_jdk_43_method_46_code_3 : decode jdk_43_method_46_code 3 = .ok (.dup, 1) := by decide +kernel
theorem d_jdk_43_method_46_code_4 : decode jdk_43_method_46_code 4 = .ok (.iconst 0, 1) := by decide +kernel
theorem d_jdk_43_method_46_code_5 : decode jdk_43_method_46_code 5 = .ok (.iload_n 0, 1) := by decide +kernel
theorem d_jdk_43_method_46_code_6 : decode jdk_43_method_46_code 6 = .ok (.i2b, 1) := by decide +kernel
theorem d_jdk_43_method_46_code_7 : decode jdk_43_method_46_code 7 = .ok (.bastore, 1) := by decide +kernel
theorem d_jdk_43_method_46_code_8 : decode jdk_43_method_46_code 8 = .ok (.areturn, 1) := by decide +kernel
theorem ef_rmTB (m : MethodId) (p1 : Int32) : entryFrame m #[(.int p1)] 1 = mkF m 0 #[.val (.int p1)] [] := by first | (simp [entryFrame, mkF, argsToLocals, Value.category]; done) | rfl
def Q_rmTB (Z : State) (p1 : Int32) (h0 : Heap) (n0 : Nat) (vv_ : Option Value) (h : Heap) (LL_ : List Loc) : Prop := vv_ = some (.ref h0.size) ∧ Fr n0 LL_ ∧ (Keep h0 h [] ∧ Av Z h h0.size .byte 1 (fun _ => .int (p1.toInt8.toInt32)))
set_option maxRecDepth 65536 in
set_option maxHeartbeats 40000000 in
theorem rmTB (l : Launch) (Z : State) (a0 : Array Value) (hw : ∀ d ∈ tables_1, d.before a0 Z = true) (ws : List Jvm.Cond) (p1 : Int32) (h0 : Heap) (n0 : Nat) (Z0 : n0 ≤ h0.size)  :
    MetFree l (⟨"java/lang/StringLatin1", "toBytes", "(C)[B"⟩ : MethodName) (head1 (Jvm.Cond.code (⟨"java/lang/StringLatin1", "toBytes", "(C)[B"⟩ : MethodName) jdk_43_method_46_code 1 (some (.array .byte)) :: ws) ({ frames := 0, cells := 1, slots := 1, locals := 0 } : Room)) (fun aa_ UU_ => aa_ = #[(.int p1)] ∧ Z.Warmed39 UU_.vm ∧ UU_.heap = h0) (fun _ _ _ _ _ => True) (fun _ UU_ oo_ VV_ => ∃ vv_ LL_, oo_ = .returned vv_ ∧ Q_rmTB Z p1 h0 n0 vv_ VV_.heap LL_ ∧ FrameEnd UU_ oo_ VV_ LL_ ({ frames := 0, cells := 1, slots := 1, locals := 0 } : Room).cells ({ frames := 0, cells := 1, slots := 1, locals := 0 } : Room).slots) := by
  refine own_met (y := (⟨"java/lang/StringLatin1", "toBytes", "(C)[B"⟩ : MethodName)) (plainFor_of_name pn_2) ?_
  intro p e s m below meth c T0 K hx hby hml hret hlk hown hnm hZ X0 e0 hK
  have N0 := Fr.nil n0
  refine Rch.cast (ef_rmTB m p1) ?_
  refine Rch.of (T' := T0) (g' := (mkF m 1 #[.val (.int p1)] [(.int (1 : Int32))])) (fun _ kt => XS.iconst X0.here hx rfl (hb hby d_jdk_43_method_46_code_0) kt) ?_
  obtain ⟨T116, h116, k116, X116, e116, E116, A116, Q116, st116⟩ := newPE X0 hx hZ (hw _ (List.mem_of_getElem? (i := 14) rfl)) e0 (g := (mkF m 1 #[.val (.int p1)] [(.int (1 : Int32))])) rfl (hb hby d_jdk_43_method_46_code_1) rfl (by decide) (cap := 1) (by decide) (by decide) (by decide) (by decide) (ad := "[B") rfl
  obtain ⟨b116, g116⟩ : ∃ zz_, zz_ = h0.size := ⟨_, rfl⟩
  have ge_b116 : n0 ≤ b116 := Nat.le_trans Z0 (Nat.le_of_eq g116.symm)
  have sz_b116 : h0.size ≤ b116 := Nat.le_trans (Keep.refl h0 []).1 (Nat.le_of_eq g116.symm)
  rw [← g116] at A116 Q116 st116
  have V116 : Av Z h116 b116 .byte 1 (fun _ => (.int (0 : Int32))) := Av.new A116 (by decide)
  refine Rch.of (T' := T116) (g' := (mkF m 3 #[.val (.int p1)] [(.ref b116)])) st116 ?_
  refine Rch.of (T' := T116) (g' := (mkF m 4 #[.val (.int p1)] [(.ref b116), (.ref b116)])) (fun _ kt => XS.dup X116.here hx rfl (hb hby d_jdk_43_method_46_code_3) rfl rfl kt) ?_
  refine Rch.of (T' := T116) (g' := (mkF m 5 #[.val (.int p1)] [(.int (0 : Int32)), (.ref b116), (.ref b116)])) (fun _ kt => XS.iconst X116.here hx rfl (hb hby d_jdk_43_method_46_code_4) kt) ?_
  refine Rch.of (T' := T116) (g' := (mkF m 6 #[.val (.int p1)] [(.int p1), (.int (0 : Int32)), (.ref b116), (.ref b116)])) (fun _ kt => XS.iloadN X116.here hx rfl (hb hby d_jdk_43_method_46_code_5) rfl  kt) ?_
  refine Rch.of (T' := T116) (g' := (mkF m 7 #[.val (.int p1)] [(.int (p1.toInt8.toInt32)), (.int (0 : Int32)), (.ref b116), (.ref b116)])) (fun _ kt => XS.i2b X116.here hx rfl (hb hby d_jdk_43_method_46_code_6) rfl kt) ?_
  obtain ⟨cl117, Ar117, Sz117, Ha117⟩ := id V116
  obtain ⟨T117, h117, X117, e117, W117, st117⟩ := stB X116 hx hZ e116 Ar117 (j := (0 : Int32)) (oIn (i := 0) Sz117 (by decide) (by decide)) (g := (mkF m 7 #[.val (.int p1)] [(.int (p1.toInt8.toInt32)), (.int (0 : Int32)), (.ref b116), (.ref b116)])) rfl rfl (hb hby d_jdk_43_method_46_code_7)
  have V117 := Av.setI (i := 0) V116 (by decide) (by decide) W117
  obtain ⟨y117, hy117⟩ : ∃ zz_ : Nat → Int32, zz_ = fun q => if q = 0 then (p1.toInt8.toInt32).toInt8.toInt32 else (fun _ => (0 : Int32)) q := ⟨_, rfl⟩
  have V117 : Av Z h117 b116 .byte 1 (fun q => .int (y117 q)) := by rw [hy117]; exact V117
  have N117 := Fr.snoc X117 N0 ge_b116
  refine Rch.of (T' := T117) (g' := (mkF m 8 #[.val (.int p1)] [(.ref b116)])) st117 ?_
  exact Rch.retA X117 hx (w := (.ref b116)) hret rfl rfl hlk (hb hby d_jdk_43_method_46_code_8) (fun U hU hF => hK _ U _ _ _ (by show Q_rmTB Z p1 h0 n0 _ U.heap _; rw [hU, e117]; exact ⟨by rw [g116], N117, by rw [← g116]; exact ⟨(((Keep.refl h0 []).ext E116).wr W117 (Or.inr sz_b116)), Av.congr V117 (fun j hj => by rw [hy117]; simp [show j = 0 by omega])⟩⟩) hF (by decide) (by decide))
theorem d_jdk_42_method_151_code_0 : decode jdk_42_method_151_code 0 = .ok (.aload_n 0, 1) := by decide +kernel
theorem d_jdk_42_method_151_code_1 : decode jdk_42_method_151_code 1 = .ok (.invokespecial 1, 3) := by decide +kernel
theorem d_jdk_42_method_151_code_4 : decode jdk_42_method_151_code 4 = .ok (.aload_n 0, 1) := by decide +kernel
theorem d_jdk_42_method_151_code_5 : decode jdk_42_method_151_code 5 = .ok (.aload_n 1, 1) := by decide +kernel
theorem d_jdk_42_method_151_code_6 : decode jdk_42_method_151_code 6 = .ok (.putfield 9, 3) := by decide +kernel
theorem d_jdk_42_method_151_code_9 : decode jdk_42_method_151_code 9 = .ok (.aload_n 0, 1) := by decide +kernel
theorem d_jdk_42_method_151_code_10 : decode jdk_42_method_151_code 10 = .ok (.iload_n 2, 1) := by decide +kernel
theorem d_jdk_42_method_151_code_11 : decode jdk_42_method_151_code 11 = .ok (.putfield 15, 3) := by decide +kernel
theorem d_jdk_42_method_151_code_14 : decode jdk_42_method_151_code 14 = .ok (.return_, 1) := by decide +kernel
theorem ef_rmBB (m : MethodId) (a1 : Addr) (a2 : Addr) : entryFrame m #[(.ref a1), (.ref a2), (.int (0 : Int32))] 3 = mkF m 0 #[.val (.ref a1), .val (.ref a2), .val (.int (0 : Int32))] [] := by first | (simp [entryFrame, mkF, argsToLocals, Value.category]; done) | rfl
def Q_rmBB (Z : State) (a1 : Addr) (a2 : Addr) (u1 : Value) (u2 : Value) (h0 : Heap) (n0 : Nat) (vv_ : Option Value) (h : Heap) (LL_ : List Loc) : Prop := vv_ = none ∧ Fr n0 LL_ ∧ (Keep h0 h [a1] ∧ Exa Z h a1 "java/lang/String" ∧ Fld Z h a1 "java/lang/String" "coder" "B" (.int (0 : Int32)) ∧ Fld Z h a1 "java/lang/String" "value" "[B" (.ref a2))
set_option maxRecDepth 65536 in
set_option maxHeartbeats 40000000 in
theorem rmBB (l : Launch) (Z : State) (a0 : Array Value) (hw : ∀ d ∈ tables_1, d.before a0 Z = true) (ws : List Jvm.Cond) (a1 : Addr) (a2 : Addr) (u1 : Value) (u2 : Value) (h0 : Heap) (n0 : Nat) (Z0 : n0 ≤ h0.size) (E1 : Exa Z h0 a1 "java/lang/String") (F1 : Fld Z h0 a1 "java/lang/String" "coder" "B" u1) (F2 : Fld Z h0 a1 "java/lang/String" "value" "[B" u2) (g1 : n0 ≤ a1) :
    MetFree l (⟨"java/lang/String", "<init>", "([BB)V"⟩ : MethodName) (head1 (Jvm.Cond.code (⟨"java/lang/String", "<init>", "([BB)V"⟩ : MethodName) jdk_42_method_151_code 3 none :: ws) ({ frames := 1, cells := 0, slots := 0, locals := 12 } : Room)) (fun aa_ UU_ => aa_ = #[(.ref a1), (.ref a2), (.int (0 : Int32))] ∧ Z.Warmed39 UU_.vm ∧ UU_.heap = h0) (fun _ _ _ _ _ => True) (fun _ UU_ oo_ VV_ => ∃ vv_ LL_, oo_ = .returned vv_ ∧ Q_rmBB Z a1 a2 u1 u2 h0 n0 vv_ VV_.heap LL_ ∧ FrameEnd UU_ oo_ VV_ LL_ ({ frames := 1, cells := 0, slots := 0, locals := 12 } : Room).cells ({ frames := 1, cells := 0, slots := 0, locals := 12 } : Room).slots) := by
  refine own_met (y := (⟨"java/lang/String", "<init>", "([BB)V"⟩ : MethodName)) (plainFor_of_name pn_1) ?_
  intro p e s m below meth c T0 K hx hby hml hret hlk hown hnm hZ X0 e0 hK
  have N0 := Fr.nil n0
  refine Rch.cast (ef_rmBB m a1 a2) ?_
  refine Rch.of (T' := T0) (g' := (mkF m 1 #[.val (.ref a1), .val (.ref a2), .val (.int (0 : Int32))] [(.ref a1)])) (fun _ kt => XS.aloadN X0.here hx rfl (hb hby d_jdk_42_method_151_code_0) rfl rfl kt) ?_
  obtain ⟨T118, X118, e118, st118⟩ := initO X0 hx hZ hown (hw _ (List.mem_of_getElem? (i := 19) rfl)) (hw _ (List.mem_of_getElem? (i := 20) rfl)) (hw _ (List.mem_of_getElem? (i := 21) rfl)) e0 (g := (mkF m 1 #[.val (.ref a1), .val (.ref a2), .val (.int (0 : Int32))] [(.ref a1)])) rfl (by rw [hml]; rfl) rfl (hb hby d_jdk_42_method_151_code_1) (by decide) (W := 0) (by show 2 * 0 + _ ≤ _; exact Nat.le_of_eq rfl) (by decide)
  refine Rch.of (T' := T118) (g' := (mkF m 4 #[.val (.ref a1), .val (.ref a2), .val (.int (0 : Int32))] [])) st118 ?_
  refine Rch.of (T' := T118) (g' := (mkF m 5 #[.val (.ref a1), .val (.ref a2), .val (.int (0 : Int32))] [(.ref a1)])) (fun _ kt => XS.aloadN X118.here hx rfl (hb hby d_jdk_42_method_151_code_4) rfl rfl kt) ?_
  refine Rch.of (T' := T118) (g' := (mkF m 6 #[.val (.ref a1), .val (.ref a2), .val (.int (0 : Int32))] [(.ref a2), (.ref a1)])) (fun _ kt => XS.aloadN X118.here hx rfl (hb hby d_jdk_42_method_151_code_5) rfl rfl kt) ?_
  obtain ⟨T119, h119, X119, e119, W119, st119⟩ := putF X118 hx hZ hown (host := "") (Or.inl (hw _ (List.mem_of_getElem? (i := 22) rfl))) Via.refl e118 F2 E1 (Or.inr ⟨(hw _ (List.mem_of_getElem? (i := 23) rfl)), rfl, hnm⟩) (hw _ (List.mem_of_getElem? (i := 10) rfl)) (ty := (.array .byte)) (by decide) rfl rfl (g := (mkF m 6 #[.val (.ref a1), .val (.ref a2), .val (.int (0 : Int32))] [(.ref a2), (.ref a1)])) rfl rfl (hb hby d_jdk_42_method_151_code_6)
  have N119 := Fr.snoc X119 N0 g1
  have Fw119 := Fld.same W119 F2
  have Fb120 := (F1.other W119 (Or.inr (slot_ne (Or.inr (hw _ (List.mem_of_getElem? (i := 25) rfl))) (Or.inr (hw _ (List.mem_of_getElem? (i := 23) rfl))) (by decide) (t := .byte) (t' := (.array .byte)) (by decide) (by decide))))
  refine Rch.of (T' := T119) (g' := (mkF m 9 #[.val (.ref a1), .val (.ref a2), .val (.int (0 : Int32))] [])) st119 ?_
  refine Rch.of (T' := T119) (g' := (mkF m 10 #[.val (.ref a1), .val (.ref a2), .val (.int (0 : Int32))] [(.ref a1)])) (fun _ kt => XS.aloadN X119.here hx rfl (hb hby d_jdk_42_method_151_code_9) rfl rfl kt) ?_
  refine Rch.of (T' := T119) (g' := (mkF m 11 #[.val (.ref a1), .val (.ref a2), .val (.int (0 : Int32))] [(.int (0 : Int32)), (.ref a1)])) (fun _ kt => XS.iloadN X119.here hx rfl (hb hby d_jdk_42_method_151_code_10) rfl  kt) ?_
  obtain ⟨T121, h121, X121, e121, W121, st121⟩ := putFN X119 hx hZ hown (hw _ (List.mem_of_getElem? (i := 24) rfl)) Via.refl e119 Fb120 (E1.wr W119) (Or.inr ⟨(hw _ (List.mem_of_getElem? (i := 25) rfl)), rfl, hnm⟩) (hw _ (List.mem_of_getElem? (i := 10) rfl)) (ty := .byte) (v' := (.int (nar .byte (0 : Int32)))) (by decide) rfl (fits_nar_byte _) (g := (mkF m 11 #[.val (.ref a1), .val (.ref a2), .val (.int (0 : Int32))] [(.int (0 : Int32)), (.ref a1)])) rfl rfl (hb hby d_jdk_42_method_151_code_11)
  have N121 := Fr.snoc X121 N119 g1
  have Fw121 := Fld.same W121 Fb120
  have Fb122 := (Fw119.other W121 (Or.inr (slot_ne (Or.inr (hw _ (List.mem_of_getElem? (i := 23) rfl))) (Or.inr (hw _ (List.mem_of_getElem? (i := 25) rfl))) (by decide) (t := (.array .byte)) (t' := .byte) (by decide) (by decide))))
  refine Rch.of (T' := T121) (g' := (mkF m 14 #[.val (.ref a1), .val (.ref a2), .val (.int (0 : Int32))] [])) st121 ?_
  exact Rch.retV X121 hx hret hlk (hb hby d_jdk_42_method_151_code_14) (fun U hU hF => hK _ U _ _ _ (by show Q_rmBB Z a1 a2 u1 u2 h0 n0 _ U.heap _; rw [hU, e121]; exact ⟨rfl, N121, (((Keep.refl h0 [a1]).wr W119 (Or.inl (List.mem_of_getElem? (i := 0) rfl))).wr W121 (Or.inl (List.mem_of_getElem? (i := 0) rfl))), ((E1.wr W119).wr W121), Fw121, Fb122⟩) hF (by decide) (by decide))
theorem d_jdk_42_method_139_code_0 : decode jdk_42_method_139_code 0 = .ok (.getstatic 38, 3) := by decide +kernel
theorem d_jdk_42_method_139_code_3 : decode jdk_42_method_139_code 3 = .ok (.ifCond .eq 23, 3) := by decide +kernel
theorem d_jdk_42_method_139_code_6 : decode jdk_42_method_139_code 6 = .ok (.iload_n 0, 1) := by decide +kernel
theorem d_jdk_42_method_139_code_7 : decode jdk_42_method_139_code 7 = .ok (.invokestatic 1015, 3) := by decide +kernel
theorem d_jdk_42_method_139_code_10 : decode jdk_42_method_139_code 10 = .ok (.ifCond .eq 16, 3) := by decide +kernel
theorem d_jdk_42_method_139_code_13 : decode jdk_42_method_139_code 13 = .ok (.new 10, 3) := by decide +kernel
theorem d_jdk_42_method_139_code_16 : decode jdk_42_method_139_code 16 = .ok (.dup, 1) := by decide +kernel
theorem d_jdk_42_method_139_code_17 : decode jdk_42_method_139_code 17 = .ok (.iload_n 0, 1) := by decide +kernel
theorem d_jdk_42_method_139_code_18 : decode jdk_42_method_139_code 18 = .ok (.invokestatic 1018, 3) := by decide +kernel
theorem d_jdk_42_method_139_code_21 : decode jdk_42_method_139_code 21 = .ok (.iconst 0, 1) := by decide +kernel
theorem d_jdk_42_method_139_code_22 : decode jdk_42_method_139_code 22 = .ok (.invokespecial 209, 3) := by decide +kernel
theorem d_jdk_42_method_139_code_25 : decode jdk_42_method_139_code 25 = .ok (.areturn, 1) := by decide +kernel
theorem d_jdk_42_method_139_code_26 : decode jdk_42_method_139_code 26 = .ok (.new 10, 3) := by decide +kernel
theorem d_jdk_42_method_139_code_29 : decode jdk_42_method_139_code 29 = .ok (.dup, 1) := by decide +kernel
theorem d_jdk_42_method_139_code_30 : decode jdk_42_method_139_code 30 = .ok (.iload_n 0, 1) := by decide +kernel
theorem d_jdk_42_method_139_code_31 : decode jdk_42_method_139_code 31 = .ok (.invokestatic 1021, 3) := by decide +kernel
theorem d_jdk_42_method_139_code_34 : decode jdk_42_method_139_code 34 = .ok (.iconst 1, 1) := by decide +kernel
theorem d_jdk_42_method_139_code_35 : decode jdk_42_method_139_code 35 = .ok (.invokespecial 209, 3) := by decide +kernel
theorem d_jdk_42_method_139_code_38 : decode jdk_42_method_139_code 38 = .ok (.areturn, 1) := by decide +kernel
theorem ef_rmVO (m : MethodId) (p1 : Int32) : entryFrame m #[(.int p1)] 1 = mkF m 0 #[.val (.int p1)] [] := by first | (simp [entryFrame, mkF, argsToLocals, Value.category]; done) | rfl
def Q_rmVO (Z : State) (p1 : Int32) (cs : Int32) (h0 : Heap) (n0 : Nat) (vv_ : Option Value) (h : Heap) (LL_ : List Loc) : Prop := vv_ = some (.ref h0.size) ∧ Fr n0 LL_ ∧ (Keep h0 h [] ∧ Exa Z h h0.size "java/lang/String" ∧ Fld Z h h0.size "java/lang/String" "coder" "B" (.int (0 : Int32)) ∧ ∃ v, h0.size ≤ v ∧ h0.size ≠ v ∧ Fld Z h h0.size "java/lang/String" "value" "[B" (.ref v) ∧ Av Z h v .byte 1 (fun _ => .int (p1.toInt8.toInt32)))
set_option maxRecDepth 65536 in
set_option maxHeartbeats 40000000 in
theorem rmVO (l : Launch) (Z : State) (a0 : Array Value) (hw : ∀ d ∈ tables_1, d.before a0 Z = true) (ws : List Jvm.Cond) (p1 : Int32) (cs : Int32) (h0 : Heap) (n0 : Nat) (Z0 : n0 ≤ h0.size) (SC : Sta Z h0 "java/lang/String" "COMPACT_STRINGS" "Z" (.int cs)) (hcs : ¬ cs = (0 : Int32)) (hp : ¬ (255 : Int32) < p1) :
    MetFree l (⟨"java/lang/String", "valueOf", "(C)Ljava/lang/String;"⟩ : MethodName) (head1 (Jvm.Cond.code (⟨"java/lang/String", "valueOf", "(C)Ljava/lang/String;"⟩ : MethodName) jdk_42_method_139_code 1 (some (.object "java/lang/String")) :: ws) ({ frames := 2, cells := 2, slots := 5, locals := 27 } : Room)) (fun aa_ UU_ => aa_ = #[(.int p1)] ∧ Z.Warmed39 UU_.vm ∧ UU_.heap = h0) (fun _ _ _ _ _ => True) (fun _ UU_ oo_ VV_ => ∃ vv_ LL_, oo_ = .returned vv_ ∧ Q_rmVO Z p1 cs h0 n0 vv_ VV_.heap LL_ ∧ FrameEnd UU_ oo_ VV_ LL_ ({ frames := 2, cells := 2, slots := 5, locals := 27 } : Room).cells ({ frames := 2, cells := 2, slots := 5, locals := 27 } : Room).slots) := by
  refine own_met (y := (⟨"java/lang/String", "valueOf", "(C)Ljava/lang/String;"⟩ : MethodName)) (plainFor_of_name pn_1) ?_
  intro p e s m below meth c T0 K hx hby hml hret hlk hown hnm hZ X0 e0 hK
  have N0 := Fr.nil n0
  refine Rch.cast (ef_rmVO m p1) ?_
  obtain ⟨T123, X123, e123, st123⟩ := getS2 X0 hx hZ hown (host := "") (Or.inl (hw _ (List.mem_of_getElem? (i := 4) rfl))) Via.refl e0 SC (g := (mkF m 0 #[.val (.int p1)] [])) rfl (hb hby d_jdk_42_method_139_code_0)
  refine Rch.of (T' := T123) (g' := (mkF m 3 #[.val (.int p1)] [(.int cs)])) st123 ?_
  refine Rch.of (T' := T123) (g' := (mkF m 6 #[.val (.int p1)] [])) (fun _ kt => XS.ifNo X123.here hx rfl (hb hby d_jdk_42_method_139_code_3) rfl ((if0 _ _).trans (feq hcs).1) kt) ?_
  refine Rch.of (T' := T123) (g' := (mkF m 7 #[.val (.int p1)] [(.int p1)])) (fun _ kt => XS.iloadN X123.here hx rfl (hb hby d_jdk_42_method_139_code_6) rfl  kt) ?_
  obtain ⟨_, _, ⟨T124, L124, k124, n124⟩, -, X124, ⟨Lc124, hQ124, l124, y124, z124⟩, st124⟩ := Jvm.LawKit.callS X123 hx (y := (⟨"java/lang/StringLatin1", "canEncode", "(C)Z"⟩ : MethodName)) hown (mvT hZ (hw _ (List.mem_of_getElem? (i := 5) rfl))) (mvT hZ (hw _ (List.mem_of_getElem? (i := 6) rfl))) (mvT hZ (hw _ (List.mem_of_getElem? (i := 7) rfl))) (mvT hZ (hw _ (List.mem_of_getElem? (i := 8) rfl))) (by decide) (backOf (W := 0) (rmCE l Z a0 hw [] p1 h0 n0 Z0 hp) hZ (hw _ (List.mem_of_getElem? (i := 8) rfl)) (hw _ (List.mem_of_getElem? (i := 7) rfl)) (by decide) (by decide)) (g := (mkF m 7 #[.val (.int p1)] [(.int p1)])) rfl (by rw [hml]; rfl) (argsL := [(.int p1)]) (rest := []) (lenOf pd_1 rfl) rfl (by show 2 * 0 + _ ≤ _; exact Nat.le_of_eq rfl) (hb hby d_jdk_42_method_139_code_7) (fun _ _ => ⟨rfl, e123, (by decide : 0 + 0 ≤ _), (by decide : 0 + 0 ≤ _)⟩)
  dsimp only [Pt.U, Pt.locs, Pt.cells, Pt.slots] at X124 l124 y124 z124 st124 hQ124
  subst l124 y124 z124
  obtain ⟨rfl, N124q, hQ124⟩ := hQ124
  have N124 := Fr.app N0 N124q
  refine Rch.of (T' := T124) (g' := (mkF m 10 #[.val (.int p1)] [(.int (1 : Int32))])) st124 ?_
  refine Rch.of (T' := T124) (g' := (mkF m 13 #[.val (.int p1)] [])) (fun _ kt => XS.ifNo X124.here hx rfl (hb hby d_jdk_42_method_139_code_10) rfl ((if0 _ _).trans (feq ((by decide) : ¬ ((1 : Int32) = (0 : Int32)))).1) kt) ?_
  obtain ⟨T125, h125, X125, e125, E125, A125, D125, -, st125⟩ := newO X124 hx hZ hown (hw _ (List.mem_of_getElem? (i := 9) rfl)) (hw _ (List.mem_of_getElem? (i := 10) rfl)) (hw _ (List.mem_of_getElem? (i := 2) rfl)) hQ124 (g := (mkF m 13 #[.val (.int p1)] [])) rfl (hb hby d_jdk_42_method_139_code_13) (by decide) (by decide)
  obtain ⟨b125, g125⟩ : ∃ zz_, zz_ = h0.size := ⟨_, rfl⟩
  have ge_b125 : n0 ≤ b125 := Nat.le_trans Z0 (Nat.le_of_eq g125.symm)
  have sz_b125 : h0.size ≤ b125 := Nat.le_trans (Keep.refl h0 []).1 (Nat.le_of_eq g125.symm)
  rw [← g125] at A125 D125 st125
  have F125_value : Fld Z h125 b125 "java/lang/String" "value" "[B" .null := D125 (Or.inr (hw _ (List.mem_of_getElem? (i := 23) rfl))) (ty := (.array .byte)) (by decide)
  have F125_coder : Fld Z h125 b125 "java/lang/String" "coder" "B" (.int (0 : Int32)) := D125 (Or.inr (hw _ (List.mem_of_getElem? (i := 25) rfl))) (ty := .byte) (by decide)
  refine Rch.of (T' := T125) (g' := (mkF m 16 #[.val (.int p1)] [(.ref b125)])) st125 ?_
  refine Rch.of (T' := T125) (g' := (mkF m 17 #[.val (.int p1)] [(.ref b125), (.ref b125)])) (fun _ kt => XS.dup X125.here hx rfl (hb hby d_jdk_42_method_139_code_16) rfl rfl kt) ?_
  refine Rch.of (T' := T125) (g' := (mkF m 18 #[.val (.int p1)] [(.int p1), (.ref b125), (.ref b125)])) (fun _ kt => XS.iloadN X125.here hx rfl (hb hby d_jdk_42_method_139_code_17) rfl  kt) ?_
  obtain ⟨_, _, ⟨T126, L126, k126, n126⟩, -, X126, ⟨Lc126, hQ126, l126, y126, z126⟩, st126⟩ := Jvm.LawKit.callS X125 hx (y := (⟨"java/lang/StringLatin1", "toBytes", "(C)[B"⟩ : MethodName)) hown (mvT hZ (hw _ (List.mem_of_getElem? (i := 11) rfl))) (mvT hZ (hw _ (List.mem_of_getElem? (i := 12) rfl))) (mvT hZ (hw _ (List.mem_of_getElem? (i := 7) rfl))) (mvT hZ (hw _ (List.mem_of_getElem? (i := 13) rfl))) (by decide) (backOf (W := 2) (rmTB l Z a0 hw [] p1 h125 n0 (Nat.le_trans Z0 E125.1) ) hZ (hw _ (List.mem_of_getElem? (i := 13) rfl)) (hw _ (List.mem_of_getElem? (i := 7) rfl)) (by decide) (by decide)) (g := (mkF m 18 #[.val (.int p1)] [(.int p1), (.ref b125), (.ref b125)])) rfl (by rw [hml]; rfl) (argsL := [(.int p1)]) (rest := [(.ref b125), (.ref b125)]) (lenOf pd_2 rfl) rfl (by show 2 * 0 + _ ≤ _; exact Nat.le_of_eq rfl) (hb hby d_jdk_42_method_139_code_18) (fun _ _ => ⟨rfl, e125, (by decide : 1 + 1 ≤ _), (by decide : 4 + 1 ≤ _)⟩)
  dsimp only [Pt.U, Pt.locs, Pt.cells, Pt.slots] at X126 l126 y126 z126 st126 hQ126
  subst l126 y126 z126
  obtain ⟨rfl, N126q, hQ126⟩ := hQ126
  have N126 := Fr.app N124 N126q
  obtain ⟨K126, V126⟩ := hQ126
  obtain ⟨b126, g126⟩ : ∃ zz_, zz_ = h125.size := ⟨_, rfl⟩
  have ne_b125_b126 : b125 ≠ b126 := Nat.ne_of_lt (Nat.lt_of_lt_of_le A125.lt (Nat.le_of_eq g126.symm))
  have ge_b126 : n0 ≤ b126 := Nat.le_trans (Nat.le_trans Z0 E125.1) (Nat.le_of_eq g126.symm)
  have sz_b126 : h0.size ≤ b126 := Nat.le_trans ((Keep.refl h0 []).ext E125).1 (Nat.le_of_eq g126.symm)
  rw [← g126] at V126 st126
  refine Rch.of (T' := T126) (g' := (mkF m 21 #[.val (.int p1)] [(.ref b126), (.ref b125), (.ref b125)])) st126 ?_
  refine Rch.of (T' := T126) (g' := (mkF m 22 #[.val (.int p1)] [(.int (0 : Int32)), (.ref b126), (.ref b125), (.ref b125)])) (fun _ kt => XS.iconst X126.here hx rfl (hb hby d_jdk_42_method_139_code_21) kt) ?_
  obtain ⟨_, _, ⟨T127, L127, k127, n127⟩, -, X127, ⟨Lc127, hQ127, l127, y127, z127⟩, st127⟩ := X126.specialBack hx (y := (⟨"java/lang/String", "<init>", "([BB)V"⟩ : MethodName)) rfl hown (mvT hZ (hw _ (List.mem_of_getElem? (i := 15) rfl))) (mvT hZ (hw _ (List.mem_of_getElem? (i := 16) rfl))) (mvT hZ (hw _ (List.mem_of_getElem? (i := 18) rfl))) (by decide) (backOf (W := 1) (rmBB l Z a0 hw [] b125 b126 (.int (0 : Int32)) .null T126.heap n0 (Nat.le_trans (Nat.le_trans Z0 E125.1) K126.1) (A125.keep K126) (F125_coder.keep K126 nin0) (F125_value.keep K126 nin0) ge_b125) hZ (hw _ (List.mem_of_getElem? (i := 18) rfl)) (hw _ (List.mem_of_getElem? (i := 2) rfl)) (by decide) (by decide)) (g := (mkF m 22 #[.val (.int p1)] [(.int (0 : Int32)), (.ref b126), (.ref b125), (.ref b125)])) rfl (by rw [hml]; rfl) (Steps.refl _) (a := b125) (argsL := [(.ref b126), (.int (0 : Int32))]) (rest := [(.ref b125)]) (lenOf pd_3 rfl) rfl (by show 2 * 0 + _ ≤ _; exact Nat.le_of_eq rfl) (hb hby d_jdk_42_method_139_code_22) (fun _ _ => ⟨rfl, rfl, (by decide : 2 + 0 ≤ _), (by decide : 5 + 0 ≤ _)⟩)
  dsimp only [Pt.U, Pt.locs, Pt.cells, Pt.slots] at X127 l127 y127 z127 st127 hQ127
  subst l127 y127 z127
  obtain ⟨rfl, N127q, hQ127⟩ := hQ127
  have N127 := Fr.app N126 N127q
  obtain ⟨K127, Ex127, Fa127, Fb127⟩ := hQ127
  refine Rch.via (T' := T127) (g' := (mkF m 25 #[.val (.int p1)] [(.ref b125)])) st127 ?_
  exact Rch.retA X127 hx (w := (.ref b125)) hret rfl rfl hlk (hb hby d_jdk_42_method_139_code_25) (fun U hU hF => hK _ U _ _ _ (by show Q_rmVO Z p1 cs h0 n0 _ U.heap _; rw [hU]; exact ⟨by rw [g125], N127, by rw [← g125]; exact ⟨((((Keep.refl h0 []).ext E125).trans K126 all0).trans K127 (allS (Or.inr sz_b125) all0)), Ex127, Fa127, b126, (by rw [g125]; exact sz_b126), ne_b125_b126, Fb127, (V126.keep K127 (ninS (Ne.symm ne_b125_b126) nin0))⟩⟩) hF (by decide) (by decide))
theorem d_jdk_31_method_11_code_0 : decode jdk_31_method_11_code 0 = .ok (.aload_n 0, 1) := by decide +kernel
theorem d_jdk_31_method_11_code_1 : decode jdk_31_method_11_code 1 = .ok (.ifnonnull 12, 3) := by decide +kernel
theorem d_jdk_31_method_11_code_4 : decode jdk_31_method_11_code 4 = .ok (.new 84, 3) := by decide +kernel
theorem d_jdk_31_method_11_code_7 : decode jdk_31_method_11_code 7 = .ok (.dup, 1) := by decide +kernel
theorem d_jdk_31_method_11_code_8 : decode jdk_31_method_11_code 8 = .ok (.aload_n 1, 1) := by decide +kernel
theorem d_jdk_31_method_11_code_9 : decode jdk_31_method_11_code 9 = .ok (.invokespecial 87, 3) := by decide +kernel
theorem d_jdk_31_method_11_code_12 : decode jdk_31_method_11_code 12 = .ok (.athrow, 1) := by decide +kernel
theorem d_jdk_31_method_11_code_13 : decode jdk_31_method_11_code 13 = .ok (.aload_n 0, 1) := by decide +kernel
theorem d_jdk_31_method_11_code_14 : decode jdk_31_method_11_code 14 = .ok (.areturn, 1) := by decide +kernel
theorem pn_3 : plainName "java/util/Objects" = true := by first | (simp [plainName, overriddenIn]; done) | decide +kernel
theorem ef_rmRN (m : MethodId) (a1 : Addr) (a2 : Addr) : entryFrame m #[(.ref a1), (.ref a2)] 2 = mkF m 0 #[.val (.ref a1), .val (.ref a2)] [] := by first | (simp [entryFrame, mkF, argsToLocals, Value.category]; done) | rfl
def Q_rmRN (Z : State) (a1 : Addr) (a2 : Addr) (h0 : Heap) (n0 : Nat) (vv_ : Option Value) (h : Heap) (LL_ : List Loc) : Prop := vv_ = some (.ref a1) ∧ Fr n0 LL_ ∧ (h = h0)
set_option maxRecDepth 65536 in
set_option maxHeartbeats 40000000 in
theorem rmRN (l : Launch) (Z : State) (a0 : Array Value) (hw : ∀ d ∈ tables_1, d.before a0 Z = true) (ws : List Jvm.Cond) (a1 : Addr) (a2 : Addr) (h0 : Heap) (n0 : Nat) (Z0 : n0 ≤ h0.size)  :
    MetFree l (⟨"java/util/Objects", "requireNonNull", "(Ljava/lang/Object;Ljava/lang/String;)Ljava/lang/Object;"⟩ : MethodName) (head1 (Jvm.Cond.code (⟨"java/util/Objects", "requireNonNull", "(Ljava/lang/Object;Ljava/lang/String;)Ljava/lang/Object;"⟩ : MethodName) jdk_31_method_11_code 2 (some (.object "java/lang/Object")) :: ws) ({ frames := 0, cells := 0, slots := 0, locals := 0 } : Room)) (fun aa_ UU_ => aa_ = #[(.ref a1), (.ref a2)] ∧ Z.Warmed39 UU_.vm ∧ UU_.heap = h0) (fun _ _ _ _ _ => True) (fun _ UU_ oo_ VV_ => ∃ vv_ LL_, oo_ = .returned vv_ ∧ Q_rmRN Z a1 a2 h0 n0 vv_ VV_.heap LL_ ∧ FrameEnd UU_ oo_ VV_ LL_ ({ frames := 0, cells := 0, slots := 0, locals := 0 } : Room).cells ({ frames := 0, cells := 0, slots := 0, locals := 0 } : Room).slots) := by
  refine own_met (y := (⟨"java/util/Objects", "requireNonNull", "(Ljava/lang/Object;Ljava/lang/String;)Ljava/lang/Object;"⟩ : MethodName)) (plainFor_of_name pn_3) ?_
  intro p e s m below meth c T0 K hx hby hml hret hlk hown hnm hZ X0 e0 hK
  have N0 := Fr.nil n0
  refine Rch.cast (ef_rmRN m a1 a2) ?_
  refine Rch.of (T' := T0) (g' := (mkF m 1 #[.val (.ref a1), .val (.ref a2)] [(.ref a1)])) (fun _ kt => XS.aloadN X0.here hx rfl (hb hby d_jdk_31_method_11_code_0) rfl rfl kt) ?_
  refine Rch.of (T' := T0) (g' := (mkF m 13 #[.val (.ref a1), .val (.ref a2)] [])) (fun _ kt => XS.ifnonnullYes X0.here hx rfl (pc0 := 1) (pc' := 13) rfl (hb hby d_jdk_31_method_11_code_1) rfl (by decide) (by decide) kt) ?_
  refine Rch.of (T' := T0) (g' := (mkF m 14 #[.val (.ref a1), .val (.ref a2)] [(.ref a1)])) (fun _ kt => XS.aloadN X0.here hx rfl (hb hby d_jdk_31_method_11_code_13) rfl rfl kt) ?_
  exact Rch.retA X0 hx (w := (.ref a1)) hret rfl rfl hlk (hb hby d_jdk_31_method_11_code_14) (fun U hU hF => hK _ U _ _ _ (by show Q_rmRN Z a1 a2 h0 n0 _ U.heap _; rw [hU, e0]; exact ⟨rfl, N0, rfl⟩) hF (by decide) (by decide))
theorem d_prog_66_method_1_code_0 : decode prog_66_method_1_code 0 = .ok (.aload_n 0, 1) := by decide +kernel
theorem d_prog_66_method_1_code_1 : decode prog_66_method_1_code 1 = .ok (.invokespecial 1, 3) := by decide +kernel
theorem d_prog_66_method_1_code_4 : decode prog_66_method_1_code 4 = .ok (.aload_n 0, 1) := by decide +kernel
theorem d_prog_66_method_1_code_5 : decode prog_66_method_1_code 5 = .ok (.aload_n 1, 1) := by decide +kernel
theorem d_prog_66_method_1_code_6 : decode prog_66_method_1_code 6 = .ok (.ldc 7, 2) := by decide +kernel
theorem d_prog_66_method_1_code_8 : decode prog_66_method_1_code 8 = .ok (.invokestatic 9, 3) := by decide +kernel
theorem d_prog_66_method_1_code_11 : decode prog_66_method_1_code 11 = .ok (.checkcast 15, 3) := by decide +kernel
theorem d_prog_66_method_1_code_14 : decode prog_66_method_1_code 14 = .ok (.putfield 17, 3) := by decide +kernel
theorem d_prog_66_method_1_code_17 : decode prog_66_method_1_code 17 = .ok (.aload_n 0, 1) := by decide +kernel
theorem d_prog_66_method_1_code_18 : decode prog_66_method_1_code 18 = .ok (.aload_n 2, 1) := by decide +kernel
theorem d_prog_66_method_1_code_19 : decode prog_66_method_1_code 19 = .ok (.ldc 22, 2) := by decide +kernel
theorem d_prog_66_method_1_code_21 : decode prog_66_method_1_code 21 = .ok (.invokestatic 9, 3) := by decide +kernel
theorem d_prog_66_method_1_code_24 : decode prog_66_method_1_code 24 = .ok (.checkcast 15, 3) := by decide +kernel
theorem d_prog_66_method_1_code_27 : decode prog_66_method_1_code 27 = .ok (.putfield 24, 3) := by decide +kernel
theorem d_prog_66_method_1_code_30 : decode prog_66_method_1_code 30 = .ok (.aload_n 0, 1) := by decide +kernel
theorem d_prog_66_method_1_code_31 : decode prog_66_method_1_code 31 = .ok (.aload_n 3, 1) := by decide +kernel
theorem d_prog_66_method_1_code_32 : decode prog_66_method_1_code 32 = .ok (.ldc 26, 2) := by decide +kernel
theorem d_prog_66_method_1_code_34 : decode prog_66_method_1_code 34 = .ok (.invokestatic 9, 3) := by decide +kernel
theorem d_prog_66_method_1_code_37 : decode prog_66_method_1_code 37 = .ok (.checkcast 15, 3) := by decide +kernel
theorem d_prog_66_method_1_code_40 : decode prog_66_method_1_code 40 = .ok (.putfield 28, 3) := by decide +kernel
theorem d_prog_66_method_1_code_43 : decode prog_66_method_1_code 43 = .ok (.aload_n 0, 1) := by decide +kernel
theorem d_prog_66_method_1_code_44 : decode prog_66_method_1_code 44 = .ok (.iload 4, 2) := by decide +kernel
theorem d_prog_66_method_1_code_46 : decode prog_66_method_1_code 46 = .ok (.putfield 30, 3) := by decide +kernel
theorem d_prog_66_method_1_code_49 : decode prog_66_method_1_code 49 = .ok (.return_, 1) := by decide +kernel
theorem pn_4 : plainName "com/example/ampliar/ampliar/model/Judgement" = true := by first | (simp [plainName, overriddenIn]; done) | decide +kernel
theorem ef_rmJI (m : MethodId) (a1 : Addr) (a2 : Addr) (a3 : Addr) (a4 : Addr) (p5 : Int32) : entryFrame m #[(.ref a1), (.ref a2), (.ref a3), (.ref a4), (.int p5)] 5 = mkF m 0 #[.val (.ref a1), .val (.ref a2), .val (.ref a3), .val (.ref a4), .val (.int p5)] [] := by first | (simp [entryFrame, mkF, argsToLocals, Value.category]; done) | rfl
def Q_rmJI (Z : State) (a1 : Addr) (a2 : Addr) (a3 : Addr) (a4 : Addr) (p5 : Int32) (u0 : Value) (u1 : Value) (u2 : Value) (u3 : Value) (h0 : Heap) (n0 : Nat) (vv_ : Option Value) (h : Heap) (LL_ : List Loc) : Prop := vv_ = none ∧ Fr n0 LL_ ∧ (Keep h0 h [a1] ∧ Exa Z h a1 "com/example/ampliar/ampliar/model/Judgement" ∧ Fld Z h a1 "com/example/ampliar/ampliar/model/Judgement" "relevance" "I" (.int p5))
set_option maxRecDepth 65536 in
set_option maxHeartbeats 40000000 in
theorem rmJI (l : Launch) (Z : State) (a0 : Array Value) (hw : ∀ d ∈ tables_1, d.before a0 Z = true) (ws : List Jvm.Cond) (a1 : Addr) (a2 : Addr) (a3 : Addr) (a4 : Addr) (p5 : Int32) (u0 : Value) (u1 : Value) (u2 : Value) (u3 : Value) (h0 : Heap) (n0 : Nat) (Z0 : n0 ≤ h0.size) (E1 : Exa Z h0 a1 "com/example/ampliar/ampliar/model/Judgement") (E2 : Exa Z h0 a2 "java/lang/String") (E3 : Exa Z h0 a3 "java/lang/String") (E4 : Exa Z h0 a4 "java/lang/String") (F0 : Fld Z h0 a1 "com/example/ampliar/ampliar/model/Judgement" "questionId" "Ljava/lang/String;" u0) (F1 : Fld Z h0 a1 "com/example/ampliar/ampliar/model/Judgement" "iteration" "Ljava/lang/String;" u1) (F2 : Fld Z h0 a1 "com/example/ampliar/ampliar/model/Judgement" "passageId" "Ljava/lang/String;" u2) (F3 : Fld Z h0 a1 "com/example/ampliar/ampliar/model/Judgement" "relevance" "I" u3) (g1 : n0 ≤ a1) :
    MetFree l (⟨"com/example/ampliar/ampliar/model/Judgement", "<init>", "(Ljava/lang/String;Ljava/lang/String;Ljava/lang/String;I)V"⟩ : MethodName) (head1 (Jvm.Cond.code (⟨"com/example/ampliar/ampliar/model/Judgement", "<init>", "(Ljava/lang/String;Ljava/lang/String;Ljava/lang/String;I)V"⟩ : MethodName) prog_66_method_1_code 5 none :: ws) ({ frames := 1, cells := 6, slots := 124, locals := 14 } : Room)) (fun aa_ UU_ => aa_ = #[(.ref a1), (.ref a2), (.ref a3), (.ref a4), (.int p5)] ∧ Z.Warmed39 UU_.vm ∧ UU_.heap = h0) (fun _ _ _ _ _ => True) (fun _ UU_ oo_ VV_ => ∃ vv_ LL_, oo_ = .returned vv_ ∧ Q_rmJI Z a1 a2 a3 a4 p5 u0 u1 u2 u3 h0 n0 vv_ VV_.heap LL_ ∧ ReturnedEndW UU_ oo_ VV_ LL_ ({ frames := 1, cells := 6, slots := 124, locals := 14 } : Room).cells ({ frames := 1, cells := 6, slots := 124, locals := 14 } : Room).slots) := by
  refine own_metS (y := (⟨"com/example/ampliar/ampliar/model/Judgement", "<init>", "(Ljava/lang/String;Ljava/lang/String;Ljava/lang/String;I)V"⟩ : MethodName)) (plainFor_of_name pn_4) ?_
  intro p e s m below meth c T0 K hx hby hml hret hlk hown hnm hZ X0 e0 hK
  have N0 := Fr.nil n0
  have hS0 : s.Since s.vm 0 := (State.WarmedH.refl s).since 0
  have hk0 : 0 ≤ h0.size := Nat.zero_le _
  have wS : ∀ d ∈ Bundle.stringAtoms, d.before a0 Z = true := fun d hd => hw d ((by decide +kernel : ∀ d ∈ Bundle.stringAtoms, d ∈ tables_1) d hd)
  change Stand p l e ({ frames := 1, cells := 6, slots := 124, locals := 14 } : Room) (s.setVm s.vm) m #[(.ref a1), (.ref a2), (.ref a3), (.ref a4), (.int p5)] below meth c T0 [] 0 0 at X0
  change Z.Warmed39 (s.setVm s.vm).vm at hZ
  change (s.setVm s.vm).vm.findClass _ = some m.cls at hown
  refine Rch.cast (ef_rmJI m a1 a2 a3 a4 p5) ?_
  refine Rch.of (T' := T0) (g' := (mkF m 1 #[.val (.ref a1), .val (.ref a2), .val (.ref a3), .val (.ref a4), .val (.int p5)] [(.ref a1)])) (fun _ kt => XS.aloadN X0.here hx rfl (hb hby d_prog_66_method_1_code_0) rfl rfl kt) ?_
  obtain ⟨T128, X128, e128, st128⟩ := initO X0 hx hZ hown (hw _ (List.mem_of_getElem? (i := 50) rfl)) (hw _ (List.mem_of_getElem? (i := 20) rfl)) (hw _ (List.mem_of_getElem? (i := 21) rfl)) e0 (g := (mkF m 1 #[.val (.ref a1), .val (.ref a2), .val (.ref a3), .val (.ref a4), .val (.int p5)] [(.ref a1)])) rfl (by rw [hml]; rfl) rfl (hb hby d_prog_66_method_1_code_1) (by decide) (W := 0) (by show 2 * 0 + _ ≤ _; exact Nat.le_of_eq rfl) (by decide)
  refine Rch.of (T' := T128) (g' := (mkF m 4 #[.val (.ref a1), .val (.ref a2), .val (.ref a3), .val (.ref a4), .val (.int p5)] [])) st128 ?_
  refine Rch.of (T' := T128) (g' := (mkF m 5 #[.val (.ref a1), .val (.ref a2), .val (.ref a3), .val (.ref a4), .val (.int p5)] [(.ref a1)])) (fun _ kt => XS.aloadN X128.here hx rfl (hb hby d_prog_66_method_1_code_4) rfl rfl kt) ?_
  refine Rch.of (T' := T128) (g' := (mkF m 6 #[.val (.ref a1), .val (.ref a2), .val (.ref a3), .val (.ref a4), .val (.int p5)] [(.ref a2), (.ref a1)])) (fun _ kt => XS.aloadN X128.here hx rfl (hb hby d_prog_66_method_1_code_5) rfl rfl kt) ?_
  obtain ⟨s129, T129, h129, k129, X129, e129, E129, hS129, hk129, hZ, hown, st129⟩ := ldcS (s := s) (vm0 := s.vm) X128 hx hZ hown (hw _ (List.mem_of_getElem? (i := 51) rfl)) wS e128 hS0 hk0 (g := (mkF m 6 #[.val (.ref a1), .val (.ref a2), .val (.ref a3), .val (.ref a4), .val (.int p5)] [(.ref a2), (.ref a1)])) rfl (hb hby d_prog_66_method_1_code_6) (n := 40) (by decide) (by decide) (by decide) (by decide)
  refine Rch.of (T' := T129) (g' := (mkF m 8 #[.val (.ref a1), .val (.ref a2), .val (.ref a3), .val (.ref a4), .val (.int p5)] [(.ref s129), (.ref a2), (.ref a1)])) st129 ?_
  obtain ⟨_, _, ⟨T130, L130, k130, n130⟩, -, X130, ⟨Lc130, hQ130, l130, y130, z130⟩, st130⟩ := Jvm.LawKit.callS X129 hx (y := (⟨"java/util/Objects", "requireNonNull", "(Ljava/lang/Object;Ljava/lang/String;)Ljava/lang/Object;"⟩ : MethodName)) hown (mvT hZ (hw _ (List.mem_of_getElem? (i := 54) rfl))) (mvT hZ (hw _ (List.mem_of_getElem? (i := 55) rfl))) (mvT hZ (hw _ (List.mem_of_getElem? (i := 56) rfl))) (mvT hZ (hw _ (List.mem_of_getElem? (i := 57) rfl))) (by decide) (backOf (W := 1) (rmRN l Z a0 hw [] a2 s129 h129 n0 (Nat.le_trans Z0 E129.1) ) hZ (hw _ (List.mem_of_getElem? (i := 57) rfl)) (hw _ (List.mem_of_getElem? (i := 56) rfl)) (by decide) (by decide)) (g := (mkF m 8 #[.val (.ref a1), .val (.ref a2), .val (.ref a3), .val (.ref a4), .val (.int p5)] [(.ref s129), (.ref a2), (.ref a1)])) rfl (by rw [hml]; rfl) (argsL := [(.ref a2), (.ref s129)]) (rest := [(.ref a1)]) (lenOf pd_11 rfl) rfl (by show 2 * 0 + _ ≤ _; exact Nat.le_of_eq rfl) (hb hby d_prog_66_method_1_code_8) (fun _ _ => ⟨rfl, e129, (by decide : 2 + 0 ≤ _), (by decide : 44 + 0 ≤ _)⟩)
  dsimp only [Pt.U, Pt.locs, Pt.cells, Pt.slots] at X130 l130 y130 z130 st130 hQ130
  subst l130 y130 z130
  obtain ⟨rfl, N130q, hQ130⟩ := hQ130
  have N130 := Fr.app N0 N130q
  refine Rch.of (T' := T130) (g' := (mkF m 11 #[.val (.ref a1), .val (.ref a2), .val (.ref a3), .val (.ref a4), .val (.int p5)] [(.ref a2), (.ref a1)])) st130 ?_
  obtain ⟨T131, X131, e131, st131⟩ := castY X130 hx hZ hown (hw _ (List.mem_of_getElem? (i := 58) rfl)) hQ130 (Ins.of_exa (E2.ext E129) (hw _ (List.mem_of_getElem? (i := 17) rfl))) (g := (mkF m 11 #[.val (.ref a1), .val (.ref a2), .val (.ref a3), .val (.ref a4), .val (.int p5)] [(.ref a2), (.ref a1)])) rfl rfl (hb hby d_prog_66_method_1_code_11)
  refine Rch.of (T' := T131) (g' := (mkF m 14 #[.val (.ref a1), .val (.ref a2), .val (.ref a3), .val (.ref a4), .val (.int p5)] [(.ref a2), (.ref a1)])) st131 ?_
  obtain ⟨T132, h132, X132, e132, W132, st132⟩ := putF X131 hx hZ hown (host := "") (Or.inl (hw _ (List.mem_of_getElem? (i := 59) rfl))) Via.refl e131 (F0.ext E129) (E1.ext E129) (Or.inr ⟨(hw _ (List.mem_of_getElem? (i := 60) rfl)), rfl, hnm⟩) (hw _ (List.mem_of_getElem? (i := 45) rfl)) (ty := (.object "java/lang/String")) (by decide) rfl rfl (g := (mkF m 14 #[.val (.ref a1), .val (.ref a2), .val (.ref a3), .val (.ref a4), .val (.int p5)] [(.ref a2), (.ref a1)])) rfl rfl (hb hby d_prog_66_method_1_code_14)
  have N132 := Fr.snoc X132 N130 g1
  have Fw132 := Fld.same W132 (F0.ext E129)
  have Fb133 := ((F1.ext E129).other W132 (Or.inr (slot_ne (Or.inr (hw _ (List.mem_of_getElem? (i := 63) rfl))) (Or.inr (hw _ (List.mem_of_getElem? (i := 60) rfl))) (by decide) (t := (.object "java/lang/String")) (t' := (.object "java/lang/String")) (by decide) (by decide))))
  have Fb134 := ((F2.ext E129).other W132 (Or.inr (slot_ne (Or.inr (hw _ (List.mem_of_getElem? (i := 66) rfl))) (Or.inr (hw _ (List.mem_of_getElem? (i := 60) rfl))) (by decide) (t := (.object "java/lang/String")) (t' := (.object "java/lang/String")) (by decide) (by decide))))
  have Fb135 := ((F3.ext E129).other W132 (Or.inr (slot_ne (Or.inr (hw _ (List.mem_of_getElem? (i := 68) rfl))) (Or.inr (hw _ (List.mem_of_getElem? (i := 60) rfl))) (by decide) (t := .int) (t' := (.object "java/lang/String")) (by decide) (by decide))))
  refine Rch.of (T' := T132) (g' := (mkF m 17 #[.val (.ref a1), .val (.ref a2), .val (.ref a3), .val (.ref a4), .val (.int p5)] [])) st132 ?_
  refine Rch.of (T' := T132) (g' := (mkF m 18 #[.val (.ref a1), .val (.ref a2), .val (.ref a3), .val (.ref a4), .val (.int p5)] [(.ref a1)])) (fun _ kt => XS.aloadN X132.here hx rfl (hb hby d_prog_66_method_1_code_17) rfl rfl kt) ?_
  refine Rch.of (T' := T132) (g' := (mkF m 19 #[.val (.ref a1), .val (.ref a2), .val (.ref a3), .val (.ref a4), .val (.int p5)] [(.ref a3), (.ref a1)])) (fun _ kt => XS.aloadN X132.here hx rfl (hb hby d_prog_66_method_1_code_18) rfl rfl kt) ?_
  obtain ⟨s136, T136, h136, k136, X136, e136, E136, hS136, hk136, hZ, hown, st136⟩ := ldcS (s := s) (vm0 := T129.vm) X132 hx hZ hown (hw _ (List.mem_of_getElem? (i := 61) rfl)) wS e132 hS129 (Nat.le_trans hk129 (Keep.of_wr W132).1) (g := (mkF m 19 #[.val (.ref a1), .val (.ref a2), .val (.ref a3), .val (.ref a4), .val (.int p5)] [(.ref a3), (.ref a1)])) rfl (hb hby d_prog_66_method_1_code_19) (n := 36) (by decide) (by decide) (by decide) (by decide)
  refine Rch.of (T' := T136) (g' := (mkF m 21 #[.val (.ref a1), .val (.ref a2), .val (.ref a3), .val (.ref a4), .val (.int p5)] [(.ref s136), (.ref a3), (.ref a1)])) st136 ?_
  obtain ⟨_, _, ⟨T137, L137, k137, n137⟩, -, X137, ⟨Lc137, hQ137, l137, y137, z137⟩, st137⟩ := Jvm.LawKit.callS X136 hx (y := (⟨"java/util/Objects", "requireNonNull", "(Ljava/lang/Object;Ljava/lang/String;)Ljava/lang/Object;"⟩ : MethodName)) hown (mvT hZ (hw _ (List.mem_of_getElem? (i := 54) rfl))) (mvT hZ (hw _ (List.mem_of_getElem? (i := 55) rfl))) (mvT hZ (hw _ (List.mem_of_getElem? (i := 56) rfl))) (mvT hZ (hw _ (List.mem_of_getElem? (i := 57) rfl))) (by decide) (backOf (W := 1) (rmRN l Z a0 hw [] a3 s136 h136 n0 (Nat.le_trans (Nat.le_trans (Nat.le_trans Z0 E129.1) (Keep.of_wr W132).1) E136.1) ) hZ (hw _ (List.mem_of_getElem? (i := 57) rfl)) (hw _ (List.mem_of_getElem? (i := 56) rfl)) (by decide) (by decide)) (g := (mkF m 21 #[.val (.ref a1), .val (.ref a2), .val (.ref a3), .val (.ref a4), .val (.int p5)] [(.ref s136), (.ref a3), (.ref a1)])) rfl (by rw [hml]; rfl) (argsL := [(.ref a3), (.ref s136)]) (rest := [(.ref a1)]) (lenOf pd_11 rfl) rfl (by show 2 * 0 + _ ≤ _; exact Nat.le_of_eq rfl) (hb hby d_prog_66_method_1_code_21) (fun _ _ => ⟨rfl, e136, (by decide : 4 + 0 ≤ _), (by decide : 84 + 0 ≤ _)⟩)
  dsimp only [Pt.U, Pt.locs, Pt.cells, Pt.slots] at X137 l137 y137 z137 st137 hQ137
  subst l137 y137 z137
  obtain ⟨rfl, N137q, hQ137⟩ := hQ137
  have N137 := Fr.app N132 N137q
  refine Rch.of (T' := T137) (g' := (mkF m 24 #[.val (.ref a1), .val (.ref a2), .val (.ref a3), .val (.ref a4), .val (.int p5)] [(.ref a3), (.ref a1)])) st137 ?_
  obtain ⟨T138, X138, e138, st138⟩ := castY X137 hx hZ hown (hw _ (List.mem_of_getElem? (i := 58) rfl)) hQ137 (Ins.of_exa (((E3.ext E129).wr W132).ext E136) (hw _ (List.mem_of_getElem? (i := 17) rfl))) (g := (mkF m 24 #[.val (.ref a1), .val (.ref a2), .val (.ref a3), .val (.ref a4), .val (.int p5)] [(.ref a3), (.ref a1)])) rfl rfl (hb hby d_prog_66_method_1_code_24)
  refine Rch.of (T' := T138) (g' := (mkF m 27 #[.val (.ref a1), .val (.ref a2), .val (.ref a3), .val (.ref a4), .val (.int p5)] [(.ref a3), (.ref a1)])) st138 ?_
  obtain ⟨T139, h139, X139, e139, W139, st139⟩ := putF X138 hx hZ hown (host := "") (Or.inl (hw _ (List.mem_of_getElem? (i := 62) rfl))) Via.refl e138 (Fb133.ext E136) (((E1.ext E129).wr W132).ext E136) (Or.inr ⟨(hw _ (List.mem_of_getElem? (i := 63) rfl)), rfl, hnm⟩) (hw _ (List.mem_of_getElem? (i := 45) rfl)) (ty := (.object "java/lang/String")) (by decide) rfl rfl (g := (mkF m 27 #[.val (.ref a1), .val (.ref a2), .val (.ref a3), .val (.ref a4), .val (.int p5)] [(.ref a3), (.ref a1)])) rfl rfl (hb hby d_prog_66_method_1_code_27)
  have N139 := Fr.snoc X139 N137 g1
  have Fw139 := Fld.same W139 (Fb133.ext E136)
  have Fb140 := ((Fw132.ext E136).other W139 (Or.inr (slot_ne (Or.inr (hw _ (List.mem_of_getElem? (i := 60) rfl))) (Or.inr (hw _ (List.mem_of_getElem? (i := 63) rfl))) (by decide) (t := (.object "java/lang/String")) (t' := (.object "java/lang/String")) (by decide) (by decide))))
  have Fb141 := ((Fb134.ext E136).other W139 (Or.inr (slot_ne (Or.inr (hw _ (List.mem_of_getElem? (i := 66) rfl))) (Or.inr (hw _ (List.mem_of_getElem? (i := 63) rfl))) (by decide) (t := (.object "java/lang/String")) (t' := (.object "java/lang/String")) (by decide) (by decide))))
  have Fb142 := ((Fb135.ext E136).other W139 (Or.inr (slot_ne (Or.inr (hw _ (List.mem_of_getElem? (i := 68) rfl))) (Or.inr (hw _ (List.mem_of_getElem? (i := 63) rfl))) (by decide) (t := .int) (t' := (.object "java/lang/String")) (by decide) (by decide))))
  refine Rch.of (T' := T139) (g' := (mkF m 30 #[.val (.ref a1), .val (.ref a2), .val (.ref a3), .val (.ref a4), .val (.int p5)] [])) st139 ?_
  refine Rch.of (T' := T139) (g' := (mkF m 31 #[.val (.ref a1), .val (.ref a2), .val (.ref a3), .val (.ref a4), .val (.int p5)] [(.ref a1)])) (fun _ kt => XS.aloadN X139.here hx rfl (hb hby d_prog_66_method_1_code_30) rfl rfl kt) ?_
  refine Rch.of (T' := T139) (g' := (mkF m 32 #[.val (.ref a1), .val (.ref a2), .val (.ref a3), .val (.ref a4), .val (.int p5)] [(.ref a4), (.ref a1)])) (fun _ kt => XS.aloadN X139.here hx rfl (hb hby d_prog_66_method_1_code_31) rfl rfl kt) ?_
  obtain ⟨s143, T143, h143, k143, X143, e143, E143, hS143, hk143, hZ, hown, st143⟩ := ldcS (s := s) (vm0 := T136.vm) X139 hx hZ hown (hw _ (List.mem_of_getElem? (i := 64) rfl)) wS e139 hS136 (Nat.le_trans hk136 (Keep.of_wr W139).1) (g := (mkF m 32 #[.val (.ref a1), .val (.ref a2), .val (.ref a3), .val (.ref a4), .val (.int p5)] [(.ref a4), (.ref a1)])) rfl (hb hby d_prog_66_method_1_code_32) (n := 36) (by decide) (by decide) (by decide) (by decide)
  have Fb144 := ((((((Keep.refl h0 [a1]).ext E129).wr W132 (Or.inl (List.mem_of_getElem? (i := 0) rfl))).ext E136).wr W139 (Or.inl (List.mem_of_getElem? (i := 0) rfl))).ext E143)
  refine Rch.of (T' := T143) (g' := (mkF m 34 #[.val (.ref a1), .val (.ref a2), .val (.ref a3), .val (.ref a4), .val (.int p5)] [(.ref s143), (.ref a4), (.ref a1)])) st143 ?_
  obtain ⟨_, _, ⟨T145, L145, k145, n145⟩, -, X145, ⟨Lc145, hQ145, l145, y145, z145⟩, st145⟩ := Jvm.LawKit.callS X143 hx (y := (⟨"java/util/Objects", "requireNonNull", "(Ljava/lang/Object;Ljava/lang/String;)Ljava/lang/Object;"⟩ : MethodName)) hown (mvT hZ (hw _ (List.mem_of_getElem? (i := 54) rfl))) (mvT hZ (hw _ (List.mem_of_getElem? (i := 55) rfl))) (mvT hZ (hw _ (List.mem_of_getElem? (i := 56) rfl))) (mvT hZ (hw _ (List.mem_of_getElem? (i := 57) rfl))) (by decide) (backOf (W := 1) (rmRN l Z a0 hw [] a4 s143 h143 n0 (Nat.le_trans (Nat.le_trans (Nat.le_trans (Nat.le_trans (Nat.le_trans Z0 E129.1) (Keep.of_wr W132).1) E136.1) (Keep.of_wr W139).1) E143.1) ) hZ (hw _ (List.mem_of_getElem? (i := 57) rfl)) (hw _ (List.mem_of_getElem? (i := 56) rfl)) (by decide) (by decide)) (g := (mkF m 34 #[.val (.ref a1), .val (.ref a2), .val (.ref a3), .val (.ref a4), .val (.int p5)] [(.ref s143), (.ref a4), (.ref a1)])) rfl (by rw [hml]; rfl) (argsL := [(.ref a4), (.ref s143)]) (rest := [(.ref a1)]) (lenOf pd_11 rfl) rfl (by show 2 * 0 + _ ≤ _; exact Nat.le_of_eq rfl) (hb hby d_prog_66_method_1_code_34) (fun _ _ => ⟨rfl, e143, (by decide : 6 + 0 ≤ _), (by decide : 124 + 0 ≤ _)⟩)
  dsimp only [Pt.U, Pt.locs, Pt.cells, Pt.slots] at X145 l145 y145 z145 st145 hQ145
  subst l145 y145 z145
  obtain ⟨rfl, N145q, hQ145⟩ := hQ145
  have N145 := Fr.app N139 N145q
  refine Rch.of (T' := T145) (g' := (mkF m 37 #[.val (.ref a1), .val (.ref a2), .val (.ref a3), .val (.ref a4), .val (.int p5)] [(.ref a4), (.ref a1)])) st145 ?_
  obtain ⟨T146, X146, e146, st146⟩ := castY X145 hx hZ hown (hw _ (List.mem_of_getElem? (i := 58) rfl)) hQ145 (Ins.of_exa (((((E4.ext E129).wr W132).ext E136).wr W139).ext E143) (hw _ (List.mem_of_getElem? (i := 17) rfl))) (g := (mkF m 37 #[.val (.ref a1), .val (.ref a2), .val (.ref a3), .val (.ref a4), .val (.int p5)] [(.ref a4), (.ref a1)])) rfl rfl (hb hby d_prog_66_method_1_code_37)
  refine Rch.of (T' := T146) (g' := (mkF m 40 #[.val (.ref a1), .val (.ref a2), .val (.ref a3), .val (.ref a4), .val (.int p5)] [(.ref a4), (.ref a1)])) st146 ?_
  obtain ⟨T147, h147, X147, e147, W147, st147⟩ := putF X146 hx hZ hown (host := "") (Or.inl (hw _ (List.mem_of_getElem? (i := 65) rfl))) Via.refl e146 (Fb141.ext E143) (((((E1.ext E129).wr W132).ext E136).wr W139).ext E143) (Or.inr ⟨(hw _ (List.mem_of_getElem? (i := 66) rfl)), rfl, hnm⟩) (hw _ (List.mem_of_getElem? (i := 45) rfl)) (ty := (.object "java/lang/String")) (by decide) rfl rfl (g := (mkF m 40 #[.val (.ref a1), .val (.ref a2), .val (.ref a3), .val (.ref a4), .val (.int p5)] [(.ref a4), (.ref a1)])) rfl rfl (hb hby d_prog_66_method_1_code_40)
  have N147 := Fr.snoc X147 N145 g1
  have Fw147 := Fld.same W147 (Fb141.ext E143)
  have Fb148 := ((Fb140.ext E143).other W147 (Or.inr (slot_ne (Or.inr (hw _ (List.mem_of_getElem? (i := 60) rfl))) (Or.inr (hw _ (List.mem_of_getElem? (i := 66) rfl))) (by decide) (t := (.object "java/lang/String")) (t' := (.object "java/lang/String")) (by decide) (by decide))))
  have Fb149 := ((Fw139.ext E143).other W147 (Or.inr (slot_ne (Or.inr (hw _ (List.mem_of_getElem? (i := 63) rfl))) (Or.inr (hw _ (List.mem_of_getElem? (i := 66) rfl))) (by decide) (t := (.object "java/lang/String")) (t' := (.object "java/lang/String")) (by decide) (by decide))))
  have Fb150 := ((Fb142.ext E143).other W147 (Or.inr (slot_ne (Or.inr (hw _ (List.mem_of_getElem? (i := 68) rfl))) (Or.inr (hw _ (List.mem_of_getElem? (i := 66) rfl))) (by decide) (t := .int) (t' := (.object "java/lang/String")) (by decide) (by decide))))
  have Fb151 := (Nat.le_trans (Nat.le_trans (Nat.le_trans (Nat.le_trans (Nat.le_trans (Nat.le_trans Z0 E129.1) (Keep.of_wr W132).1) E136.1) (Keep.of_wr W139).1) E143.1) (Keep.of_wr W147).1)
  refine Rch.of (T' := T147) (g' := (mkF m 43 #[.val (.ref a1), .val (.ref a2), .val (.ref a3), .val (.ref a4), .val (.int p5)] [])) st147 ?_
  refine Rch.of (T' := T147) (g' := (mkF m 44 #[.val (.ref a1), .val (.ref a2), .val (.ref a3), .val (.ref a4), .val (.int p5)] [(.ref a1)])) (fun _ kt => XS.aloadN X147.here hx rfl (hb hby d_prog_66_method_1_code_43) rfl rfl kt) ?_
  refine Rch.of (T' := T147) (g' := (mkF m 46 #[.val (.ref a1), .val (.ref a2), .val (.ref a3), .val (.ref a4), .val (.int p5)] [(.int p5), (.ref a1)])) (fun _ kt => XS.iload X147.here hx rfl (hb hby d_prog_66_method_1_code_44) rfl  kt) ?_
  obtain ⟨T152, h152, X152, e152, W152, st152⟩ := putF X147 hx hZ hown (host := "") (Or.inl (hw _ (List.mem_of_getElem? (i := 67) rfl))) Via.refl e147 Fb150 ((((((E1.ext E129).wr W132).ext E136).wr W139).ext E143).wr W147) (Or.inr ⟨(hw _ (List.mem_of_getElem? (i := 68) rfl)), rfl, hnm⟩) (hw _ (List.mem_of_getElem? (i := 45) rfl)) (ty := .int) (by decide) rfl rfl (g := (mkF m 46 #[.val (.ref a1), .val (.ref a2), .val (.ref a3), .val (.ref a4), .val (.int p5)] [(.int p5), (.ref a1)])) rfl rfl (hb hby d_prog_66_method_1_code_46)
  have N152 := Fr.snoc X152 N147 g1
  have Fw152 := Fld.same W152 Fb150
  have Fb153 := (Fb148.other W152 (Or.inr (slot_ne (Or.inr (hw _ (List.mem_of_getElem? (i := 60) rfl))) (Or.inr (hw _ (List.mem_of_getElem? (i := 68) rfl))) (by decide) (t := (.object "java/lang/String")) (t' := .int) (by decide) (by decide))))
  have Fb154 := (Fb149.other W152 (Or.inr (slot_ne (Or.inr (hw _ (List.mem_of_getElem? (i := 63) rfl))) (Or.inr (hw _ (List.mem_of_getElem? (i := 68) rfl))) (by decide) (t := (.object "java/lang/String")) (t' := .int) (by decide) (by decide))))
  have Fb155 := (Fw147.other W152 (Or.inr (slot_ne (Or.inr (hw _ (List.mem_of_getElem? (i := 66) rfl))) (Or.inr (hw _ (List.mem_of_getElem? (i := 68) rfl))) (by decide) (t := (.object "java/lang/String")) (t' := .int) (by decide) (by decide))))
  refine Rch.of (T' := T152) (g' := (mkF m 49 #[.val (.ref a1), .val (.ref a2), .val (.ref a3), .val (.ref a4), .val (.int p5)] [])) st152 ?_
  exact Rch.retV X152 hx hret hlk (hb hby d_prog_66_method_1_code_49) (fun U hU hF => hK _ U _ _ _ (by show Q_rmJI Z a1 a2 a3 a4 p5 u0 u1 u2 u3 h0 n0 _ U.heap _; rw [hU, e152]; exact ⟨rfl, N152, ((Fb144.wr W147 (Or.inl (List.mem_of_getElem? (i := 0) rfl))).wr W152 (Or.inl (List.mem_of_getElem? (i := 0) rfl))), (((((((E1.ext E129).wr W132).ext E136).wr W139).ext E143).wr W147).wr W152), Fw152⟩) (own_end hS143 (by rw [hU, e152]; exact (Nat.le_trans (Nat.le_trans hk143 (Keep.of_wr W147).1) (Keep.of_wr W152).1)) hF) (by decide) (by decide))
theorem d_prog_66_method_7_code_0 : decode prog_66_method_7_code 0 = .ok (.aload_n 0, 1) := by decide +kernel
theorem d_prog_66_method_7_code_1 : decode prog_66_method_7_code 1 = .ok (.getfield 30, 3) := by decide +kernel
theorem d_prog_66_method_7_code_4 : decode prog_66_method_7_code 4 = .ok (.ifCond .le 7, 3) := by decide +kernel
theorem d_prog_66_method_7_code_7 : decode prog_66_method_7_code 7 = .ok (.iconst 1, 1) := by decide +kernel
theorem d_prog_66_method_7_code_8 : decode prog_66_method_7_code 8 = .ok (.goto 4, 3) := by decide +kernel
theorem d_prog_66_method_7_code_11 : decode prog_66_method_7_code 11 = .ok (.iconst 0, 1) := by decide +kernel
theorem d_prog_66_method_7_code_12 : decode prog_66_method_7_code 12 = .ok (.ireturn, 1) := by decide +kernel
theorem ef_rmIR (m : MethodId) (a1 : Addr) : entryFrame m #[(.ref a1)] 1 = mkF m 0 #[.val (.ref a1)] [] := by first | (simp [entryFrame, mkF, argsToLocals, Value.category]; done) | rfl
def Q_rmIR (Z : State) (a1 : Addr) (w1 : Int32) (h0 : Heap) (n0 : Nat) (vv_ : Option Value) (h : Heap) (LL_ : List Loc) : Prop := vv_ = some (.int (ob ((0 : Int32) < w1))) ∧ Fr n0 LL_ ∧ (h = h0)
set_option maxRecDepth 65536 in
set_option maxHeartbeats 40000000 in
theorem rmIR (l : Launch) (Z : State) (a0 : Array Value) (hw : ∀ d ∈ tables_1, d.before a0 Z = true) (ws : List Jvm.Cond) (a1 : Addr) (w1 : Int32) (h0 : Heap) (n0 : Nat) (Z0 : n0 ≤ h0.size) (F1 : Fld Z h0 a1 "com/example/ampliar/ampliar/model/Judgement" "relevance" "I" (.int w1)) :
    MetFree l (⟨"com/example/ampliar/ampliar/model/Judgement", "isRelevant", "()Z"⟩ : MethodName) (head1 (Jvm.Cond.code (⟨"com/example/ampliar/ampliar/model/Judgement", "isRelevant", "()Z"⟩ : MethodName) prog_66_method_7_code 1 (some .boolean) :: ws) ({ frames := 0, cells := 0, slots := 0, locals := 0 } : Room)) (fun aa_ UU_ => aa_ = #[(.ref a1)] ∧ Z.Warmed39 UU_.vm ∧ UU_.heap = h0) (fun _ _ _ _ _ => True) (fun _ UU_ oo_ VV_ => ∃ vv_ LL_, oo_ = .returned vv_ ∧ Q_rmIR Z a1 w1 h0 n0 vv_ VV_.heap LL_ ∧ FrameEnd UU_ oo_ VV_ LL_ ({ frames := 0, cells := 0, slots := 0, locals := 0 } : Room).cells ({ frames := 0, cells := 0, slots := 0, locals := 0 } : Room).slots) := by
  refine own_met (y := (⟨"com/example/ampliar/ampliar/model/Judgement", "isRelevant", "()Z"⟩ : MethodName)) (plainFor_of_name pn_4) ?_
  intro p e s m below meth c T0 K hx hby hml hret hlk hown hnm hZ X0 e0 hK
  have N0 := Fr.nil n0
  refine Rch.cast (ef_rmIR m a1) ?_
  refine Rch.of (T' := T0) (g' := (mkF m 1 #[.val (.ref a1)] [(.ref a1)])) (fun _ kt => XS.aloadN X0.here hx rfl (hb hby d_prog_66_method_7_code_0) rfl rfl kt) ?_
  obtain ⟨T156, X156, e156, st156⟩ := getF X0 hx hZ hown (host := "") (Or.inl (hw _ (List.mem_of_getElem? (i := 67) rfl))) Via.refl e0 F1 (g := (mkF m 1 #[.val (.ref a1)] [(.ref a1)])) rfl rfl (hb hby d_prog_66_method_7_code_1)
  refine Rch.of (T' := T156) (g' := (mkF m 4 #[.val (.ref a1)] [(.int w1)])) st156 ?_
  by_cases c157 : (0 : Int32) < w1
  · skip
    refine Rch.of (T' := T156) (g' := (mkF m 7 #[.val (.ref a1)] [])) (fun _ kt => XS.ifNo X156.here hx rfl (hb hby d_prog_66_method_7_code_4) rfl ((if0 _ _).trans (tlt c157).2.2.2) kt) ?_
    refine Rch.of (T' := T156) (g' := (mkF m 8 #[.val (.ref a1)] [(.int (1 : Int32))])) (fun _ kt => XS.iconst X156.here hx rfl (hb hby d_prog_66_method_7_code_7) kt) ?_
    refine Rch.of (T' := T156) (g' := (mkF m 12 #[.val (.ref a1)] [(.int (1 : Int32))])) (fun _ kt => XS.goto X156.here hx rfl (pc0 := 8) (pc' := 12) rfl (hb hby d_prog_66_method_7_code_8) (by decide) (by decide) kt) ?_
    exact Rch.retN X156 hx (t := .boolean) hret (by simp) hlk (hb hby d_prog_66_method_7_code_12) (fun U hU hF => hK _ U _ _ _ (by show Q_rmIR Z a1 w1 h0 n0 _ U.heap _; rw [hU, e156]; exact ⟨by rw [ob_pos c157]; rfl, N0, rfl⟩) hF (by decide) (by decide))
  · skip
    refine Rch.of (T' := T156) (g' := (mkF m 11 #[.val (.ref a1)] [])) (fun _ kt => XS.ifYes X156.here hx rfl (pc0 := 4) (pc' := 11) rfl (hb hby d_prog_66_method_7_code_4) rfl ((if0 _ _).trans (flt c157).2.2.2) (by decide) (by decide) kt) ?_
    refine Rch.of (T' := T156) (g' := (mkF m 12 #[.val (.ref a1)] [(.int (0 : Int32))])) (fun _ kt => XS.iconst X156.here hx rfl (hb hby d_prog_66_method_7_code_11) kt) ?_
    exact Rch.retN X156 hx (t := .boolean) hret (by simp) hlk (hb hby d_prog_66_method_7_code_12) (fun U hU hF => hK _ U _ _ _ (by show Q_rmIR Z a1 w1 h0 n0 _ U.heap _; rw [hU, e156]; exact ⟨by rw [ob_neg c157]; rfl, N0, rfl⟩) hF (by decide) (by decide))
theorem own_lat (x : Int32) : ¬ (255 : Int32) < (x &&& (255 : Int32)).toUInt32.toUInt16.toUInt32.toInt32 := by
  rw [i2c_mask]
  have h := c_and x (255 : Int32) (by decide)
  rw [Int32.lt_iff_toInt_lt]
  omega
theorem own_latc (x : Int32) : 0 ≤ ((x &&& (255 : Int32)).toUInt32.toUInt16.toUInt32.toInt32).toUInt32.toUInt16.toUInt32.toInt32.toInt ∧ ((x &&& (255 : Int32)).toUInt32.toUInt16.toUInt32.toInt32).toUInt32.toUInt16.toUInt32.toInt32.toInt ≤ 255 := by
  rw [i2c_mask, i2c_mask]
  have h := c_and x (255 : Int32) (by decide)
  have e : (255 : Int32).toInt = 255 := by decide
  rw [e] at h
  exact h
theorem own_mono {a b : Int32} (h : ¬ b < a) (h1 : ob ((0 : Int32) < a) = 1) : ob ((0 : Int32) < b) = 1 := by
  rcases ob_cases ((0 : Int32) < a) with ⟨-, q⟩ | ⟨q, -⟩
  · refine ob_pos ?_
    rw [Int32.lt_iff_toInt_lt] at *
    omega
  · rw [q] at h1; exact absurd h1 (by decide)
theorem pn_5 : plainName "com/example/ampliar/ampliar/model/JudgementIsRelevantPinLaw" = true := by first | (simp [plainName, overriddenIn]; done) | decide +kernel
theorem ef_rm0 (m : MethodId) (p0 : Int32) (p1 : Int32) (p2 : Int32) : entryFrame m #[(.int p0), (.int p1), (.int p2)] maxLocals = mkF m 0 #[.val (.int p0), .val (.int p1), .val (.int p2), .unset, .unset, .unset, .unset, .unset, .unset, .unset, .unset, .unset, .unset] [] := by first | (simp [entryFrame, mkF, argsToLocals, Value.category, maxLocals]; done) | rfl
def Q_rm0 (Z : State) (p0 : Int32) (p1 : Int32) (p2 : Int32) (cs : Int32) (h0 : Heap) (n0 : Nat) (vv_ : Option Value) (h : Heap) (LL_ : List Loc) : Prop := vv_ = some (.int 1) ∧ Fr n0 LL_ ∧ (True)
set_option maxRecDepth 65536 in
set_option maxHeartbeats 40000000 in
theorem rm0 (l : Launch) (Z : State) (a0 : Array Value) (hw : ∀ d ∈ tables_1, d.before a0 Z = true) (ws : List Jvm.Cond) (p0 : Int32) (p1 : Int32) (p2 : Int32) (cs : Int32) (h0 : Heap) (n0 : Nat) (Z0 : n0 ≤ h0.size) (O0 : Old Z n0 h0) (S1 : Sta Z Z.heap "java/lang/String" "COMPACT_STRINGS" "Z" (.int cs)) (hcs : ¬ cs = (0 : Int32)) :
    MetFree l x (head1 (Jvm.Cond.code x code maxLocals ret :: ws) room_1) (fun aa_ UU_ => aa_ = #[(.int p0), (.int p1), (.int p2)] ∧ Z.Warmed39 UU_.vm ∧ UU_.heap = h0) (fun _ _ _ _ _ => True) (fun _ UU_ oo_ VV_ => ∃ vv_ LL_, oo_ = .returned vv_ ∧ Q_rm0 Z p0 p1 p2 cs h0 n0 vv_ VV_.heap LL_ ∧ ReturnedEndW UU_ oo_ VV_ LL_ room_1.cells room_1.slots) := by
  refine own_metS (y := x) (plainFor_of_name pn_5) ?_
  intro p e s m below meth c T0 K hx hby hml hret hlk hown hnm hZ X0 e0 hK
  have N0 := Fr.nil n0
  have hS0 : s.Since s.vm 0 := (State.WarmedH.refl s).since 0
  have hk0 : 0 ≤ h0.size := Nat.zero_le _
  have wS : ∀ d ∈ Bundle.stringAtoms, d.before a0 Z = true := fun d hd => hw d ((by decide +kernel : ∀ d ∈ Bundle.stringAtoms, d ∈ tables_1) d hd)
  change Stand p l e room_1 (s.setVm s.vm) m #[(.int p0), (.int p1), (.int p2)] below meth c T0 [] 0 0 at X0
  change Z.Warmed39 (s.setVm s.vm).vm at hZ
  change (s.setVm s.vm).vm.findClass _ = some m.cls at hown
  refine Rch.cast (ef_rm0 m p0 p1 p2) ?_
  refine Rch.of (T' := T0) (g' := (mkF m 1 #[.val (.int p0), .val (.int p1), .val (.int p2), .unset, .unset, .unset, .unset, .unset, .unset, .unset, .unset, .unset, .unset] [(.int p2)])) (fun _ kt => XS.iloadN X0.here hx rfl (hb hby at_0) rfl  kt) ?_
  refine Rch.of (T' := T0) (g' := (mkF m 4 #[.val (.int p0), .val (.int p1), .val (.int p2), .unset, .unset, .unset, .unset, .unset, .unset, .unset, .unset, .unset, .unset] [(.int (255 : Int32)), (.int p2)])) (fun _ kt => XS.sipush X0.here hx rfl (hb hby at_1) kt) ?_
  refine Rch.of (T' := T0) (g' := (mkF m 5 #[.val (.int p0), .val (.int p1), .val (.int p2), .unset, .unset, .unset, .unset, .unset, .unset, .unset, .unset, .unset, .unset] [(.int (p2 &&& (255 : Int32)))])) (fun _ kt => XS.iand X0.here hx rfl (hb hby at_4) rfl kt) ?_
  refine Rch.of (T' := T0) (g' := (mkF m 6 #[.val (.int p0), .val (.int p1), .val (.int p2), .unset, .unset, .unset, .unset, .unset, .unset, .unset, .unset, .unset, .unset] [(.int ((p2 &&& (255 : Int32)).toUInt32.toUInt16.toUInt32.toInt32))])) (fun _ kt => XS.i2c X0.here hx rfl (hb hby at_5) rfl kt) ?_
  obtain ⟨_, _, ⟨T158, L158, k158, n158⟩, -, X158, ⟨Lc158, hQ158, l158, y158, z158⟩, st158⟩ := Jvm.LawKit.callS X0 hx (y := (⟨"java/lang/String", "valueOf", "(C)Ljava/lang/String;"⟩ : MethodName)) hown (mvT hZ (hw _ (List.mem_of_getElem? (i := 0) rfl))) (mvT hZ (hw _ (List.mem_of_getElem? (i := 1) rfl))) (mvT hZ (hw _ (List.mem_of_getElem? (i := 2) rfl))) (mvT hZ (hw _ (List.mem_of_getElem? (i := 3) rfl))) (by decide) (backOf (W := 0) (rmVO l Z a0 hw [] ((p2 &&& (255 : Int32)).toUInt32.toUInt16.toUInt32.toInt32) cs h0 n0 Z0 (S1.ext O0.2) hcs (own_lat _)) hZ (hw _ (List.mem_of_getElem? (i := 3) rfl)) (hw _ (List.mem_of_getElem? (i := 2) rfl)) (by decide) (by decide)) (g := (mkF m 6 #[.val (.int p0), .val (.int p1), .val (.int p2), .unset, .unset, .unset, .unset, .unset, .unset, .unset, .unset, .unset, .unset] [(.int ((p2 &&& (255 : Int32)).toUInt32.toUInt16.toUInt32.toInt32))])) rfl (by rw [hml]; rfl) (argsL := [(.int ((p2 &&& (255 : Int32)).toUInt32.toUInt16.toUInt32.toInt32))]) (rest := []) (lenOf pd_0 rfl) rfl (by show 2 * 0 + _ ≤ _; exact Nat.le_of_eq rfl) (hb hby at_6) (fun _ _ => ⟨rfl, e0, (by decide : 0 + 2 ≤ _), (by decide : 0 + 5 ≤ _)⟩)
  dsimp only [Pt.U, Pt.locs, Pt.cells, Pt.slots] at X158 l158 y158 z158 st158 hQ158
  subst l158 y158 z158
  obtain ⟨rfl, N158q, hQ158⟩ := hQ158
  have N158 := Fr.app N0 N158q
  obtain ⟨K158, Ex158, Fa158, v158, zv158, nv158, Fb158, V158⟩ := hQ158
  obtain ⟨b158, g158⟩ : ∃ zz_, zz_ = h0.size := ⟨_, rfl⟩
  have ge_b158 : n0 ≤ b158 := Nat.le_trans Z0 (Nat.le_of_eq g158.symm)
  rw [← g158] at Ex158 Fa158 nv158 Fb158 st158
  have ge_v158 : n0 ≤ v158 := Nat.le_trans Z0 zv158
  refine Rch.of (T' := T158) (g' := (mkF m 9 #[.val (.int p0), .val (.int p1), .val (.int p2), .unset, .unset, .unset, .unset, .unset, .unset, .unset, .unset, .unset, .unset] [(.ref b158)])) st158 ?_
  refine Rch.of (T' := T158) (g' := (mkF m 10 #[.val (.int p0), .val (.int p1), .val (.int p2), .val (.ref b158), .unset, .unset, .unset, .unset, .unset, .unset, .unset, .unset, .unset] [])) (fun _ kt => XS.astoreN X158.here hx rfl (hb hby at_9) rfl rfl (l' := #[.val (.int p0), .val (.int p1), .val (.int p2), .val (.ref b158), .unset, .unset, .unset, .unset, .unset, .unset, .unset, .unset, .unset]) rfl kt) ?_
  refine Rch.of (T' := T158) (g' := (mkF m 11 #[.val (.int p0), .val (.int p1), .val (.int p2), .val (.ref b158), .unset, .unset, .unset, .unset, .unset, .unset, .unset, .unset, .unset] [(.int p2)])) (fun _ kt => XS.iloadN X158.here hx rfl (hb hby at_10) rfl  kt) ?_
  refine Rch.of (T' := T158) (g' := (mkF m 13 #[.val (.int p0), .val (.int p1), .val (.int p2), .val (.ref b158), .unset, .unset, .unset, .unset, .unset, .unset, .unset, .unset, .unset] [(.int (8 : Int32)), (.int p2)])) (fun _ kt => XS.bipush X158.here hx rfl (hb hby at_11) kt) ?_
  refine Rch.of (T' := T158) (g' := (mkF m 14 #[.val (.int p0), .val (.int p1), .val (.int p2), .val (.ref b158), .unset, .unset, .unset, .unset, .unset, .unset, .unset, .unset, .unset] [(.int ((p2.toUInt32 >>> ((8 : Int32) &&& 31).toUInt32).toInt32))])) (fun _ kt => XS.iushr X158.here hx rfl (hb hby at_13) rfl kt) ?_
  refine Rch.of (T' := T158) (g' := (mkF m 17 #[.val (.int p0), .val (.int p1), .val (.int p2), .val (.ref b158), .unset, .unset, .unset, .unset, .unset, .unset, .unset, .unset, .unset] [(.int (255 : Int32)), (.int ((p2.toUInt32 >>> ((8 : Int32) &&& 31).toUInt32).toInt32))])) (fun _ kt => XS.sipush X158.here hx rfl (hb hby at_14) kt) ?_
  refine Rch.of (T' := T158) (g' := (mkF m 18 #[.val (.int p0), .val (.int p1), .val (.int p2), .val (.ref b158), .unset, .unset, .unset, .unset, .unset, .unset, .unset, .unset, .unset] [(.int (((p2.toUInt32 >>> ((8 : Int32) &&& 31).toUInt32).toInt32) &&& (255 : Int32)))])) (fun _ kt => XS.iand X158.here hx rfl (hb hby at_17) rfl kt) ?_
  refine Rch.of (T' := T158) (g' := (mkF m 19 #[.val (.int p0), .val (.int p1), .val (.int p2), .val (.ref b158), .unset, .unset, .unset, .unset, .unset, .unset, .unset, .unset, .unset] [(.int ((((p2.toUInt32 >>> ((8 : Int32) &&& 31).toUInt32).toInt32) &&& (255 : Int32)).toUInt32.toUInt16.toUInt32.toInt32))])) (fun _ kt => XS.i2c X158.here hx rfl (hb hby at_18) rfl kt) ?_
  obtain ⟨_, _, ⟨T159, L159, k159, n159⟩, -, X159, ⟨Lc159, hQ159, l159, y159, z159⟩, st159⟩ := Jvm.LawKit.callS X158 hx (y := (⟨"java/lang/String", "valueOf", "(C)Ljava/lang/String;"⟩ : MethodName)) hown (mvT hZ (hw _ (List.mem_of_getElem? (i := 0) rfl))) (mvT hZ (hw _ (List.mem_of_getElem? (i := 1) rfl))) (mvT hZ (hw _ (List.mem_of_getElem? (i := 2) rfl))) (mvT hZ (hw _ (List.mem_of_getElem? (i := 3) rfl))) (by decide) (backOf (W := 0) (rmVO l Z a0 hw [] ((((p2.toUInt32 >>> ((8 : Int32) &&& 31).toUInt32).toInt32) &&& (255 : Int32)).toUInt32.toUInt16.toUInt32.toInt32) cs T158.heap n0 (Nat.le_trans Z0 K158.1) (S1.ext (O0.keep K158 all0).2) hcs (own_lat _)) hZ (hw _ (List.mem_of_getElem? (i := 3) rfl)) (hw _ (List.mem_of_getElem? (i := 2) rfl)) (by decide) (by decide)) (g := (mkF m 19 #[.val (.int p0), .val (.int p1), .val (.int p2), .val (.ref b158), .unset, .unset, .unset, .unset, .unset, .unset, .unset, .unset, .unset] [(.int ((((p2.toUInt32 >>> ((8 : Int32) &&& 31).toUInt32).toInt32) &&& (255 : Int32)).toUInt32.toUInt16.toUInt32.toInt32))])) rfl (by rw [hml]; rfl) (argsL := [(.int ((((p2.toUInt32 >>> ((8 : Int32) &&& 31).toUInt32).toInt32) &&& (255 : Int32)).toUInt32.toUInt16.toUInt32.toInt32))]) (rest := []) (lenOf pd_0 rfl) rfl (by show 2 * 0 + _ ≤ _; exact Nat.le_of_eq rfl) (hb hby at_19) (fun _ _ => ⟨rfl, rfl, (by decide : 2 + 2 ≤ _), (by decide : 5 + 5 ≤ _)⟩)
  dsimp only [Pt.U, Pt.locs, Pt.cells, Pt.slots] at X159 l159 y159 z159 st159 hQ159
  subst l159 y159 z159
  obtain ⟨rfl, N159q, hQ159⟩ := hQ159
  have N159 := Fr.app N158 N159q
  obtain ⟨K159, Ex159, Fa159, v159, zv159, nv159, Fb159, V159⟩ := hQ159
  obtain ⟨b159, g159⟩ : ∃ zz_, zz_ = T158.heap.size := ⟨_, rfl⟩
  have ne_b158_b159 : b158 ≠ b159 := Nat.ne_of_lt (Nat.lt_of_lt_of_le Ex158.lt (Nat.le_of_eq g159.symm))
  have ne_v158_b159 : v158 ≠ b159 := Nat.ne_of_lt (Nat.lt_of_lt_of_le V158.lt (Nat.le_of_eq g159.symm))
  have ge_b159 : n0 ≤ b159 := Nat.le_trans (Nat.le_trans Z0 K158.1) (Nat.le_of_eq g159.symm)
  rw [← g159] at Ex159 Fa159 nv159 Fb159 st159
  have ne_b158_v159 : b158 ≠ v159 := Nat.ne_of_lt (Nat.lt_of_lt_of_le Ex158.lt zv159)
  have ne_v158_v159 : v158 ≠ v159 := Nat.ne_of_lt (Nat.lt_of_lt_of_le V158.lt zv159)
  have ge_v159 : n0 ≤ v159 := Nat.le_trans (Nat.le_trans Z0 K158.1) zv159
  refine Rch.of (T' := T159) (g' := (mkF m 22 #[.val (.int p0), .val (.int p1), .val (.int p2), .val (.ref b158), .unset, .unset, .unset, .unset, .unset, .unset, .unset, .unset, .unset] [(.ref b159)])) st159 ?_
  refine Rch.of (T' := T159) (g' := (mkF m 24 #[.val (.int p0), .val (.int p1), .val (.int p2), .val (.ref b158), .val (.ref b159), .unset, .unset, .unset, .unset, .unset, .unset, .unset, .unset] [])) (fun _ kt => XS.astore X159.here hx rfl (hb hby at_22) rfl rfl (l' := #[.val (.int p0), .val (.int p1), .val (.int p2), .val (.ref b158), .val (.ref b159), .unset, .unset, .unset, .unset, .unset, .unset, .unset, .unset]) rfl kt) ?_
  refine Rch.of (T' := T159) (g' := (mkF m 25 #[.val (.int p0), .val (.int p1), .val (.int p2), .val (.ref b158), .val (.ref b159), .unset, .unset, .unset, .unset, .unset, .unset, .unset, .unset] [(.int (2 : Int32))])) (fun _ kt => XS.iconst X159.here hx rfl (hb hby at_24) kt) ?_
  obtain ⟨T160, h160, k160, X160, e160, E160, A160, Q160, st160⟩ := newPE X159 hx hZ (hw _ (List.mem_of_getElem? (i := 26) rfl)) rfl (g := (mkF m 25 #[.val (.int p0), .val (.int p1), .val (.int p2), .val (.ref b158), .val (.ref b159), .unset, .unset, .unset, .unset, .unset, .unset, .unset, .unset] [(.int (2 : Int32))])) rfl (hb hby at_25) rfl (by decide) (cap := 2) (by decide) (by decide) (by decide) (by decide) (ad := "[C") rfl
  obtain ⟨b160, g160⟩ : ∃ zz_, zz_ = T159.heap.size := ⟨_, rfl⟩
  have ne_b158_b160 : b158 ≠ b160 := Nat.ne_of_lt (Nat.lt_of_lt_of_le (Ex158.keep K159).lt (Nat.le_of_eq g160.symm))
  have ne_v158_b160 : v158 ≠ b160 := Nat.ne_of_lt (Nat.lt_of_lt_of_le (V158.keep K159 nin0).lt (Nat.le_of_eq g160.symm))
  have ne_b159_b160 : b159 ≠ b160 := Nat.ne_of_lt (Nat.lt_of_lt_of_le Ex159.lt (Nat.le_of_eq g160.symm))
  have ne_v159_b160 : v159 ≠ b160 := Nat.ne_of_lt (Nat.lt_of_lt_of_le V159.lt (Nat.le_of_eq g160.symm))
  have ge_b160 : n0 ≤ b160 := Nat.le_trans (Nat.le_trans (Nat.le_trans Z0 K158.1) K159.1) (Nat.le_of_eq g160.symm)
  rw [← g160] at A160 Q160 st160
  have V160 : Av Z h160 b160 .char 2 (fun _ => (.int (0 : Int32))) := Av.new A160 (by decide)
  refine Rch.of (T' := T160) (g' := (mkF m 27 #[.val (.int p0), .val (.int p1), .val (.int p2), .val (.ref b158), .val (.ref b159), .unset, .unset, .unset, .unset, .unset, .unset, .unset, .unset] [(.ref b160)])) st160 ?_
  refine Rch.of (T' := T160) (g' := (mkF m 29 #[.val (.int p0), .val (.int p1), .val (.int p2), .val (.ref b158), .val (.ref b159), .val (.ref b160), .unset, .unset, .unset, .unset, .unset, .unset, .unset] [])) (fun _ kt => XS.astore X160.here hx rfl (hb hby at_27) rfl rfl (l' := #[.val (.int p0), .val (.int p1), .val (.int p2), .val (.ref b158), .val (.ref b159), .val (.ref b160), .unset, .unset, .unset, .unset, .unset, .unset, .unset]) rfl kt) ?_
  refine Rch.of (T' := T160) (g' := (mkF m 31 #[.val (.int p0), .val (.int p1), .val (.int p2), .val (.ref b158), .val (.ref b159), .val (.ref b160), .unset, .unset, .unset, .unset, .unset, .unset, .unset] [(.ref b160)])) (fun _ kt => XS.aload X160.here hx rfl (hb hby at_29) rfl rfl kt) ?_
  refine Rch.of (T' := T160) (g' := (mkF m 32 #[.val (.int p0), .val (.int p1), .val (.int p2), .val (.ref b158), .val (.ref b159), .val (.ref b160), .unset, .unset, .unset, .unset, .unset, .unset, .unset] [(.int (0 : Int32)), (.ref b160)])) (fun _ kt => XS.iconst X160.here hx rfl (hb hby at_31) kt) ?_
  refine Rch.of (T' := T160) (g' := (mkF m 33 #[.val (.int p0), .val (.int p1), .val (.int p2), .val (.ref b158), .val (.ref b159), .val (.ref b160), .unset, .unset, .unset, .unset, .unset, .unset, .unset] [(.int p2), (.int (0 : Int32)), (.ref b160)])) (fun _ kt => XS.iloadN X160.here hx rfl (hb hby at_32) rfl  kt) ?_
  refine Rch.of (T' := T160) (g' := (mkF m 35 #[.val (.int p0), .val (.int p1), .val (.int p2), .val (.ref b158), .val (.ref b159), .val (.ref b160), .unset, .unset, .unset, .unset, .unset, .unset, .unset] [(.int (16 : Int32)), (.int p2), (.int (0 : Int32)), (.ref b160)])) (fun _ kt => XS.bipush X160.here hx rfl (hb hby at_33) kt) ?_
  refine Rch.of (T' := T160) (g' := (mkF m 36 #[.val (.int p0), .val (.int p1), .val (.int p2), .val (.ref b158), .val (.ref b159), .val (.ref b160), .unset, .unset, .unset, .unset, .unset, .unset, .unset] [(.int ((p2.toUInt32 >>> ((16 : Int32) &&& 31).toUInt32).toInt32)), (.int (0 : Int32)), (.ref b160)])) (fun _ kt => XS.iushr X160.here hx rfl (hb hby at_35) rfl kt) ?_
  refine Rch.of (T' := T160) (g' := (mkF m 39 #[.val (.int p0), .val (.int p1), .val (.int p2), .val (.ref b158), .val (.ref b159), .val (.ref b160), .unset, .unset, .unset, .unset, .unset, .unset, .unset] [(.int (255 : Int32)), (.int ((p2.toUInt32 >>> ((16 : Int32) &&& 31).toUInt32).toInt32)), (.int (0 : Int32)), (.ref b160)])) (fun _ kt => XS.sipush X160.here hx rfl (hb hby at_36) kt) ?_
  refine Rch.of (T' := T160) (g' := (mkF m 40 #[.val (.int p0), .val (.int p1), .val (.int p2), .val (.ref b158), .val (.ref b159), .val (.ref b160), .unset, .unset, .unset, .unset, .unset, .unset, .unset] [(.int (((p2.toUInt32 >>> ((16 : Int32) &&& 31).toUInt32).toInt32) &&& (255 : Int32))), (.int (0 : Int32)), (.ref b160)])) (fun _ kt => XS.iand X160.here hx rfl (hb hby at_39) rfl kt) ?_
  refine Rch.of (T' := T160) (g' := (mkF m 41 #[.val (.int p0), .val (.int p1), .val (.int p2), .val (.ref b158), .val (.ref b159), .val (.ref b160), .unset, .unset, .unset, .unset, .unset, .unset, .unset] [(.int ((((p2.toUInt32 >>> ((16 : Int32) &&& 31).toUInt32).toInt32) &&& (255 : Int32)).toUInt32.toUInt16.toUInt32.toInt32)), (.int (0 : Int32)), (.ref b160)])) (fun _ kt => XS.i2c X160.here hx rfl (hb hby at_40) rfl kt) ?_
  obtain ⟨cl161, Ar161, Sz161, Ha161⟩ := id V160
  obtain ⟨T161, h161, X161, e161, W161, st161⟩ := stC X160 hx hZ e160 Ar161 (j := (0 : Int32)) (oIn (i := 0) Sz161 (by decide) (by decide)) (g := (mkF m 41 #[.val (.int p0), .val (.int p1), .val (.int p2), .val (.ref b158), .val (.ref b159), .val (.ref b160), .unset, .unset, .unset, .unset, .unset, .unset, .unset] [(.int ((((p2.toUInt32 >>> ((16 : Int32) &&& 31).toUInt32).toInt32) &&& (255 : Int32)).toUInt32.toUInt16.toUInt32.toInt32)), (.int (0 : Int32)), (.ref b160)])) rfl rfl (hb hby at_41)
  have V161 := Av.setI (i := 0) V160 (by decide) (by decide) W161
  obtain ⟨y161, hy161⟩ : ∃ zz_ : Nat → Int32, zz_ = fun q => if q = 0 then ((((p2.toUInt32 >>> ((16 : Int32) &&& 31).toUInt32).toInt32) &&& (255 : Int32)).toUInt32.toUInt16.toUInt32.toInt32).toUInt32.toUInt16.toUInt32.toInt32 else (fun _ => (0 : Int32)) q := ⟨_, rfl⟩
  have V161 : Av Z h161 b160 .char 2 (fun q => .int (y161 q)) := by rw [hy161]; exact V161
  have N161 := Fr.snoc X161 N159 ge_b160
  refine Rch.of (T' := T161) (g' := (mkF m 42 #[.val (.int p0), .val (.int p1), .val (.int p2), .val (.ref b158), .val (.ref b159), .val (.ref b160), .unset, .unset, .unset, .unset, .unset, .unset, .unset] [])) st161 ?_
  refine Rch.of (T' := T161) (g' := (mkF m 44 #[.val (.int p0), .val (.int p1), .val (.int p2), .val (.ref b158), .val (.ref b159), .val (.ref b160), .unset, .unset, .unset, .unset, .unset, .unset, .unset] [(.ref b160)])) (fun _ kt => XS.aload X161.here hx rfl (hb hby at_42) rfl rfl kt) ?_
  refine Rch.of (T' := T161) (g' := (mkF m 45 #[.val (.int p0), .val (.int p1), .val (.int p2), .val (.ref b158), .val (.ref b159), .val (.ref b160), .unset, .unset, .unset, .unset, .unset, .unset, .unset] [(.int (1 : Int32)), (.ref b160)])) (fun _ kt => XS.iconst X161.here hx rfl (hb hby at_44) kt) ?_
  refine Rch.of (T' := T161) (g' := (mkF m 46 #[.val (.int p0), .val (.int p1), .val (.int p2), .val (.ref b158), .val (.ref b159), .val (.ref b160), .unset, .unset, .unset, .unset, .unset, .unset, .unset] [(.int p2), (.int (1 : Int32)), (.ref b160)])) (fun _ kt => XS.iloadN X161.here hx rfl (hb hby at_45) rfl  kt) ?_
  refine Rch.of (T' := T161) (g' := (mkF m 48 #[.val (.int p0), .val (.int p1), .val (.int p2), .val (.ref b158), .val (.ref b159), .val (.ref b160), .unset, .unset, .unset, .unset, .unset, .unset, .unset] [(.int (24 : Int32)), (.int p2), (.int (1 : Int32)), (.ref b160)])) (fun _ kt => XS.bipush X161.here hx rfl (hb hby at_46) kt) ?_
  refine Rch.of (T' := T161) (g' := (mkF m 49 #[.val (.int p0), .val (.int p1), .val (.int p2), .val (.ref b158), .val (.ref b159), .val (.ref b160), .unset, .unset, .unset, .unset, .unset, .unset, .unset] [(.int ((p2.toUInt32 >>> ((24 : Int32) &&& 31).toUInt32).toInt32)), (.int (1 : Int32)), (.ref b160)])) (fun _ kt => XS.iushr X161.here hx rfl (hb hby at_48) rfl kt) ?_
  refine Rch.of (T' := T161) (g' := (mkF m 52 #[.val (.int p0), .val (.int p1), .val (.int p2), .val (.ref b158), .val (.ref b159), .val (.ref b160), .unset, .unset, .unset, .unset, .unset, .unset, .unset] [(.int (255 : Int32)), (.int ((p2.toUInt32 >>> ((24 : Int32) &&& 31).toUInt32).toInt32)), (.int (1 : Int32)), (.ref b160)])) (fun _ kt => XS.sipush X161.here hx rfl (hb hby at_49) kt) ?_
  refine Rch.of (T' := T161) (g' := (mkF m 53 #[.val (.int p0), .val (.int p1), .val (.int p2), .val (.ref b158), .val (.ref b159), .val (.ref b160), .unset, .unset, .unset, .unset, .unset, .unset, .unset] [(.int (((p2.toUInt32 >>> ((24 : Int32) &&& 31).toUInt32).toInt32) &&& (255 : Int32))), (.int (1 : Int32)), (.ref b160)])) (fun _ kt => XS.iand X161.here hx rfl (hb hby at_52) rfl kt) ?_
  refine Rch.of (T' := T161) (g' := (mkF m 54 #[.val (.int p0), .val (.int p1), .val (.int p2), .val (.ref b158), .val (.ref b159), .val (.ref b160), .unset, .unset, .unset, .unset, .unset, .unset, .unset] [(.int ((((p2.toUInt32 >>> ((24 : Int32) &&& 31).toUInt32).toInt32) &&& (255 : Int32)).toUInt32.toUInt16.toUInt32.toInt32)), (.int (1 : Int32)), (.ref b160)])) (fun _ kt => XS.i2c X161.here hx rfl (hb hby at_53) rfl kt) ?_
  obtain ⟨cl162, Ar162, Sz162, Ha162⟩ := id V161
  obtain ⟨T162, h162, X162, e162, W162, st162⟩ := stC X161 hx hZ e161 Ar162 (j := (1 : Int32)) (oIn (i := 1) Sz162 (by decide) (by decide)) (g := (mkF m 54 #[.val (.int p0), .val (.int p1), .val (.int p2), .val (.ref b158), .val (.ref b159), .val (.ref b160), .unset, .unset, .unset, .unset, .unset, .unset, .unset] [(.int ((((p2.toUInt32 >>> ((24 : Int32) &&& 31).toUInt32).toInt32) &&& (255 : Int32)).toUInt32.toUInt16.toUInt32.toInt32)), (.int (1 : Int32)), (.ref b160)])) rfl rfl (hb hby at_54)
  have V162 := Av.setI (i := 1) V161 (by decide) (by decide) W162
  obtain ⟨y162, hy162⟩ : ∃ zz_ : Nat → Int32, zz_ = fun q => if q = 1 then ((((p2.toUInt32 >>> ((24 : Int32) &&& 31).toUInt32).toInt32) &&& (255 : Int32)).toUInt32.toUInt16.toUInt32.toInt32).toUInt32.toUInt16.toUInt32.toInt32 else y161 q := ⟨_, rfl⟩
  have V162 : Av Z h162 b160 .char 2 (fun q => .int (y162 q)) := by rw [hy162]; exact V162
  have N162 := Fr.snoc X162 N161 ge_b160
  refine Rch.of (T' := T162) (g' := (mkF m 55 #[.val (.int p0), .val (.int p1), .val (.int p2), .val (.ref b158), .val (.ref b159), .val (.ref b160), .unset, .unset, .unset, .unset, .unset, .unset, .unset] [])) st162 ?_
  obtain ⟨T163, h163, X163, e163, E163, A163, D163, -, st163⟩ := newO X162 hx hZ hown (hw _ (List.mem_of_getElem? (i := 27) rfl)) (hw _ (List.mem_of_getElem? (i := 10) rfl)) (hw _ (List.mem_of_getElem? (i := 2) rfl)) e162 (g := (mkF m 55 #[.val (.int p0), .val (.int p1), .val (.int p2), .val (.ref b158), .val (.ref b159), .val (.ref b160), .unset, .unset, .unset, .unset, .unset, .unset, .unset] [])) rfl (hb hby at_55) (by decide) (by decide)
  obtain ⟨b163, g163⟩ : ∃ zz_, zz_ = h162.size := ⟨_, rfl⟩
  have ne_b158_b163 : b158 ≠ b163 := Nat.ne_of_lt (Nat.lt_of_lt_of_le ((((Ex158.keep K159).ext E160).wr W161).wr W162).lt (Nat.le_of_eq g163.symm))
  have ne_v158_b163 : v158 ≠ b163 := Nat.ne_of_lt (Nat.lt_of_lt_of_le ((((V158.keep K159 nin0).ext E160).other W161 ne_v158_b160).other W162 ne_v158_b160).lt (Nat.le_of_eq g163.symm))
  have ne_b159_b163 : b159 ≠ b163 := Nat.ne_of_lt (Nat.lt_of_lt_of_le (((Ex159.ext E160).wr W161).wr W162).lt (Nat.le_of_eq g163.symm))
  have ne_v159_b163 : v159 ≠ b163 := Nat.ne_of_lt (Nat.lt_of_lt_of_le (((V159.ext E160).other W161 ne_v159_b160).other W162 ne_v159_b160).lt (Nat.le_of_eq g163.symm))
  have ne_b160_b163 : b160 ≠ b163 := Nat.ne_of_lt (Nat.lt_of_lt_of_le ((Q160.wr W161).wr W162).lt (Nat.le_of_eq g163.symm))
  have ge_b163 : n0 ≤ b163 := Nat.le_trans (Nat.le_trans (Nat.le_trans (Nat.le_trans (Nat.le_trans (Nat.le_trans Z0 K158.1) K159.1) E160.1) (Keep.of_wr W161).1) (Keep.of_wr W162).1) (Nat.le_of_eq g163.symm)
  rw [← g163] at A163 D163 st163
  have Fb164 := (Nat.le_trans (Nat.le_trans (Nat.le_trans (Nat.le_trans (Nat.le_trans (Nat.le_trans hk0 K158.1) K159.1) E160.1) (Keep.of_wr W161).1) (Keep.of_wr W162).1) E163.1)
  have Fb165 := (Nat.le_trans (Nat.le_trans (Nat.le_trans (Nat.le_trans (Nat.le_trans (Nat.le_trans Z0 K158.1) K159.1) E160.1) (Keep.of_wr W161).1) (Keep.of_wr W162).1) E163.1)
  have F163_value : Fld Z h163 b163 "java/lang/String" "value" "[B" .null := D163 (Or.inr (hw _ (List.mem_of_getElem? (i := 23) rfl))) (ty := (.array .byte)) (by decide)
  have F163_coder : Fld Z h163 b163 "java/lang/String" "coder" "B" (.int (0 : Int32)) := D163 (Or.inr (hw _ (List.mem_of_getElem? (i := 25) rfl))) (ty := .byte) (by decide)
  refine Rch.of (T' := T163) (g' := (mkF m 58 #[.val (.int p0), .val (.int p1), .val (.int p2), .val (.ref b158), .val (.ref b159), .val (.ref b160), .unset, .unset, .unset, .unset, .unset, .unset, .unset] [(.ref b163)])) st163 ?_
  refine Rch.of (T' := T163) (g' := (mkF m 59 #[.val (.int p0), .val (.int p1), .val (.int p2), .val (.ref b158), .val (.ref b159), .val (.ref b160), .unset, .unset, .unset, .unset, .unset, .unset, .unset] [(.ref b163), (.ref b163)])) (fun _ kt => XS.dup X163.here hx rfl (hb hby at_58) rfl rfl kt) ?_
  refine Rch.of (T' := T163) (g' := (mkF m 61 #[.val (.int p0), .val (.int p1), .val (.int p2), .val (.ref b158), .val (.ref b159), .val (.ref b160), .unset, .unset, .unset, .unset, .unset, .unset, .unset] [(.ref b160), (.ref b163), (.ref b163)])) (fun _ kt => XS.aload X163.here hx rfl (hb hby at_59) rfl rfl kt) ?_
  have hch : own_ch 2 y162 := by
    intro q hq
    rw [hy162, hy161]
    have hq2 : q = 0 ∨ q = 1 := by omega
    rcases hq2 with rfl | rfl
    · exact own_latc _
    · exact own_latc _
  obtain ⟨_, _, ⟨T166, L166, k166, n166⟩, -, X166, ⟨Lc166, hQ166, l166, y166, z166⟩, st166⟩ := X163.specialBack hx (y := (⟨"java/lang/String", "<init>", "([C)V"⟩ : MethodName)) rfl hown (mvT hZ (hw _ (List.mem_of_getElem? (i := 28) rfl))) (mvT hZ (hw _ (List.mem_of_getElem? (i := 29) rfl))) (mvT hZ (hw _ (List.mem_of_getElem? (i := 30) rfl))) (by decide) (backOf (W := 1) (rmS1 l Z a0 hw [] b163 b160 2 y162 (.int (0 : Int32)) .null cs h163 n0 Fb165 A163 F163_coder F163_value ge_b163 (V162.ext E163) (((((S1.ext ((O0.keep K158 all0).keep K159 all0).2).ext E160).wr W161).wr W162).ext E163) hcs (by decide) (by decide) hch) hZ (hw _ (List.mem_of_getElem? (i := 30) rfl)) (hw _ (List.mem_of_getElem? (i := 2) rfl)) (by decide) (by decide)) (g := (mkF m 61 #[.val (.int p0), .val (.int p1), .val (.int p2), .val (.ref b158), .val (.ref b159), .val (.ref b160), .unset, .unset, .unset, .unset, .unset, .unset, .unset] [(.ref b160), (.ref b163), (.ref b163)])) rfl (by rw [hml]; rfl) (Steps.refl _) (a := b163) (argsL := [(.ref b160)]) (rest := [(.ref b163)]) (lenOf pd_5 rfl) rfl (by show 2 * 0 + _ ≤ _; exact Nat.le_of_eq rfl) (hb hby at_61) (fun _ _ => ⟨rfl, e163, (by decide : 6 + 1 ≤ _), (by decide : 16 + 2 ≤ _)⟩)
  dsimp only [Pt.U, Pt.locs, Pt.cells, Pt.slots] at X166 l166 y166 z166 st166 hQ166
  subst l166 y166 z166
  obtain ⟨rfl, N166q, hQ166⟩ := hQ166
  have N166 := Fr.app N162 N166q
  obtain ⟨K166, Ex166, Fa166, Fb166, V166⟩ := hQ166
  obtain ⟨b166, g166⟩ : ∃ zz_, zz_ = h163.size := ⟨_, rfl⟩
  have ne_b158_b166 : b158 ≠ b166 := Nat.ne_of_lt (Nat.lt_of_lt_of_le (((((Ex158.keep K159).ext E160).wr W161).wr W162).ext E163).lt (Nat.le_of_eq g166.symm))
  have ne_v158_b166 : v158 ≠ b166 := Nat.ne_of_lt (Nat.lt_of_lt_of_le (((((V158.keep K159 nin0).ext E160).other W161 ne_v158_b160).other W162 ne_v158_b160).ext E163).lt (Nat.le_of_eq g166.symm))
  have ne_b159_b166 : b159 ≠ b166 := Nat.ne_of_lt (Nat.lt_of_lt_of_le ((((Ex159.ext E160).wr W161).wr W162).ext E163).lt (Nat.le_of_eq g166.symm))
  have ne_v159_b166 : v159 ≠ b166 := Nat.ne_of_lt (Nat.lt_of_lt_of_le ((((V159.ext E160).other W161 ne_v159_b160).other W162 ne_v159_b160).ext E163).lt (Nat.le_of_eq g166.symm))
  have ne_b160_b166 : b160 ≠ b166 := Nat.ne_of_lt (Nat.lt_of_lt_of_le (((Q160.wr W161).wr W162).ext E163).lt (Nat.le_of_eq g166.symm))
  have ne_b163_b166 : b163 ≠ b166 := Nat.ne_of_lt (Nat.lt_of_lt_of_le A163.lt (Nat.le_of_eq g166.symm))
  have ge_b166 : n0 ≤ b166 := Nat.le_trans Fb165 (Nat.le_of_eq g166.symm)
  rw [← g166] at V166 Fb166
  refine Rch.via (T' := T166) (g' := (mkF m 64 #[.val (.int p0), .val (.int p1), .val (.int p2), .val (.ref b158), .val (.ref b159), .val (.ref b160), .unset, .unset, .unset, .unset, .unset, .unset, .unset] [(.ref b163)])) st166 ?_
  refine Rch.of (T' := T166) (g' := (mkF m 66 #[.val (.int p0), .val (.int p1), .val (.int p2), .val (.ref b158), .val (.ref b159), .val (.ref b160), .val (.ref b163), .unset, .unset, .unset, .unset, .unset, .unset] [])) (fun _ kt => XS.astore X166.here hx rfl (hb hby at_64) rfl rfl (l' := #[.val (.int p0), .val (.int p1), .val (.int p2), .val (.ref b158), .val (.ref b159), .val (.ref b160), .val (.ref b163), .unset, .unset, .unset, .unset, .unset, .unset]) rfl kt) ?_
  obtain ⟨T167, h167, X167, e167, E167, A167, D167, -, st167⟩ := newO X166 hx hZ hown (hw _ (List.mem_of_getElem? (i := 44) rfl)) (hw _ (List.mem_of_getElem? (i := 45) rfl)) (hw _ (List.mem_of_getElem? (i := 46) rfl)) rfl (g := (mkF m 66 #[.val (.int p0), .val (.int p1), .val (.int p2), .val (.ref b158), .val (.ref b159), .val (.ref b160), .val (.ref b163), .unset, .unset, .unset, .unset, .unset, .unset] [])) rfl (hb hby at_66) (by decide) (by decide)
  obtain ⟨b167, g167⟩ : ∃ zz_, zz_ = T166.heap.size := ⟨_, rfl⟩
  have ne_b158_b167 : b158 ≠ b167 := Nat.ne_of_lt (Nat.lt_of_lt_of_le ((((((Ex158.keep K159).ext E160).wr W161).wr W162).ext E163).keep K166).lt (Nat.le_of_eq g167.symm))
  have ne_v158_b167 : v158 ≠ b167 := Nat.ne_of_lt (Nat.lt_of_lt_of_le ((((((V158.keep K159 nin0).ext E160).other W161 ne_v158_b160).other W162 ne_v158_b160).ext E163).keep K166 (ninS ne_v158_b163 nin0)).lt (Nat.le_of_eq g167.symm))
  have ne_b159_b167 : b159 ≠ b167 := Nat.ne_of_lt (Nat.lt_of_lt_of_le (((((Ex159.ext E160).wr W161).wr W162).ext E163).keep K166).lt (Nat.le_of_eq g167.symm))
  have ne_v159_b167 : v159 ≠ b167 := Nat.ne_of_lt (Nat.lt_of_lt_of_le (((((V159.ext E160).other W161 ne_v159_b160).other W162 ne_v159_b160).ext E163).keep K166 (ninS ne_v159_b163 nin0)).lt (Nat.le_of_eq g167.symm))
  have ne_b160_b167 : b160 ≠ b167 := Nat.ne_of_lt (Nat.lt_of_lt_of_le ((((Q160.wr W161).wr W162).ext E163).keep K166).lt (Nat.le_of_eq g167.symm))
  have ne_b163_b167 : b163 ≠ b167 := Nat.ne_of_lt (Nat.lt_of_lt_of_le Ex166.lt (Nat.le_of_eq g167.symm))
  have ne_b166_b167 : b166 ≠ b167 := Nat.ne_of_lt (Nat.lt_of_lt_of_le V166.lt (Nat.le_of_eq g167.symm))
  have ge_b167 : n0 ≤ b167 := Nat.le_trans (Nat.le_trans Fb165 K166.1) (Nat.le_of_eq g167.symm)
  rw [← g167] at A167 D167 st167
  have Fb168 := (((((((Fa158.keep K159 nin0).ext E160).other W161 (Or.inl ne_b158_b160)).other W162 (Or.inl ne_b158_b160)).ext E163).keep K166 (ninS ne_b158_b163 nin0)).ext E167)
  have Fb169 := (((((((Fb158.keep K159 nin0).ext E160).other W161 (Or.inl ne_b158_b160)).other W162 (Or.inl ne_b158_b160)).ext E163).keep K166 (ninS ne_b158_b163 nin0)).ext E167)
  have F167_questionId : Fld Z h167 b167 "com/example/ampliar/ampliar/model/Judgement" "questionId" "Ljava/lang/String;" .null := D167 (Or.inr (hw _ (List.mem_of_getElem? (i := 60) rfl))) (ty := (.object "java/lang/String")) (by decide)
  have F167_iteration : Fld Z h167 b167 "com/example/ampliar/ampliar/model/Judgement" "iteration" "Ljava/lang/String;" .null := D167 (Or.inr (hw _ (List.mem_of_getElem? (i := 63) rfl))) (ty := (.object "java/lang/String")) (by decide)
  have F167_passageId : Fld Z h167 b167 "com/example/ampliar/ampliar/model/Judgement" "passageId" "Ljava/lang/String;" .null := D167 (Or.inr (hw _ (List.mem_of_getElem? (i := 66) rfl))) (ty := (.object "java/lang/String")) (by decide)
  have F167_relevance : Fld Z h167 b167 "com/example/ampliar/ampliar/model/Judgement" "relevance" "I" (.int (0 : Int32)) := D167 (Or.inr (hw _ (List.mem_of_getElem? (i := 68) rfl))) (ty := .int) (by decide)
  refine Rch.of (T' := T167) (g' := (mkF m 69 #[.val (.int p0), .val (.int p1), .val (.int p2), .val (.ref b158), .val (.ref b159), .val (.ref b160), .val (.ref b163), .unset, .unset, .unset, .unset, .unset, .unset] [(.ref b167)])) st167 ?_
  refine Rch.of (T' := T167) (g' := (mkF m 70 #[.val (.int p0), .val (.int p1), .val (.int p2), .val (.ref b158), .val (.ref b159), .val (.ref b160), .val (.ref b163), .unset, .unset, .unset, .unset, .unset, .unset] [(.ref b167), (.ref b167)])) (fun _ kt => XS.dup X167.here hx rfl (hb hby at_69) rfl rfl kt) ?_
  refine Rch.of (T' := T167) (g' := (mkF m 71 #[.val (.int p0), .val (.int p1), .val (.int p2), .val (.ref b158), .val (.ref b159), .val (.ref b160), .val (.ref b163), .unset, .unset, .unset, .unset, .unset, .unset] [(.ref b158), (.ref b167), (.ref b167)])) (fun _ kt => XS.aloadN X167.here hx rfl (hb hby at_70) rfl rfl kt) ?_
  refine Rch.of (T' := T167) (g' := (mkF m 73 #[.val (.int p0), .val (.int p1), .val (.int p2), .val (.ref b158), .val (.ref b159), .val (.ref b160), .val (.ref b163), .unset, .unset, .unset, .unset, .unset, .unset] [(.ref b159), (.ref b158), (.ref b167), (.ref b167)])) (fun _ kt => XS.aload X167.here hx rfl (hb hby at_71) rfl rfl kt) ?_
  refine Rch.of (T' := T167) (g' := (mkF m 75 #[.val (.int p0), .val (.int p1), .val (.int p2), .val (.ref b158), .val (.ref b159), .val (.ref b160), .val (.ref b163), .unset, .unset, .unset, .unset, .unset, .unset] [(.ref b163), (.ref b159), (.ref b158), (.ref b167), (.ref b167)])) (fun _ kt => XS.aload X167.here hx rfl (hb hby at_73) rfl rfl kt) ?_
  refine Rch.of (T' := T167) (g' := (mkF m 76 #[.val (.int p0), .val (.int p1), .val (.int p2), .val (.ref b158), .val (.ref b159), .val (.ref b160), .val (.ref b163), .unset, .unset, .unset, .unset, .unset, .unset] [(.int p0), (.ref b163), (.ref b159), (.ref b158), (.ref b167), (.ref b167)])) (fun _ kt => XS.iloadN X167.here hx rfl (hb hby at_75) rfl  kt) ?_
  obtain ⟨_, _, ⟨T170, L170, k170, n170⟩, -, X170, hT170, gr170, ⟨Lc170, hQ170, l170, y170, z170⟩, st170⟩ := X167.specialBackS hx (y := (⟨"com/example/ampliar/ampliar/model/Judgement", "<init>", "(Ljava/lang/String;Ljava/lang/String;Ljava/lang/String;I)V"⟩ : MethodName)) rfl hown (mvT hZ (hw _ (List.mem_of_getElem? (i := 47) rfl))) (mvT hZ (hw _ (List.mem_of_getElem? (i := 48) rfl))) (mvT hZ (hw _ (List.mem_of_getElem? (i := 49) rfl))) (by decide) (backOfS (W := 1) (rmJI l Z a0 hw [] b167 b158 b159 b163 p0 .null .null .null (.int (0 : Int32)) h167 n0 (Nat.le_trans (Nat.le_trans Fb165 K166.1) E167.1) A167 (((((((Ex158.keep K159).ext E160).wr W161).wr W162).ext E163).keep K166).ext E167) ((((((Ex159.ext E160).wr W161).wr W162).ext E163).keep K166).ext E167) (Ex166.ext E167) F167_questionId F167_iteration F167_passageId F167_relevance ge_b167) hZ (hw _ (List.mem_of_getElem? (i := 49) rfl)) (hw _ (List.mem_of_getElem? (i := 46) rfl)) (by decide) (by decide)) (g := (mkF m 76 #[.val (.int p0), .val (.int p1), .val (.int p2), .val (.ref b158), .val (.ref b159), .val (.ref b160), .val (.ref b163), .unset, .unset, .unset, .unset, .unset, .unset] [(.int p0), (.ref b163), (.ref b159), (.ref b158), (.ref b167), (.ref b167)])) rfl (by rw [hml]; rfl) (Steps.refl _) (a := b167) (argsL := [(.ref b158), (.ref b159), (.ref b163), (.int p0)]) (rest := [(.ref b167)]) (lenOf pd_10 rfl) rfl (by show 2 * 0 + _ ≤ _; exact Nat.le_of_eq rfl) (hb hby at_76) (fun _ _ => ⟨rfl, e167, (by decide : 8 + 6 ≤ _), (by decide : 22 + 124 ≤ _)⟩)
  dsimp only [Pt.U, Pt.locs, Pt.cells, Pt.slots] at X170 hT170 gr170 l170 y170 z170 st170 hQ170
  subst l170 y170 z170
  obtain ⟨X170, hS170, hZ, hown⟩ := rebS hS0 (Nat.le_trans (Nat.le_trans Fb164 K166.1) E167.1) X170 hT170 (by rw [← e167]; exact gr170) hZ hown
  obtain ⟨rfl, N170q, hQ170⟩ := hQ170
  have N170 := Fr.app N166 N170q
  obtain ⟨K170, Ex170, Fa170⟩ := hQ170
  have Fb171 := (((((((((O0.keep K158 all0).keep K159 all0).ext E160).wr W161 ge_b160).wr W162 ge_b160).ext E163).keep K166 (allS ge_b163 all0)).ext E167).keep K170 (allS ge_b167 all0))
  have Fb172 := ((((((((V158.keep K159 nin0).ext E160).other W161 ne_v158_b160).other W162 ne_v158_b160).ext E163).keep K166 (ninS ne_v158_b163 nin0)).ext E167).keep K170 (ninS ne_v158_b167 nin0))
  have Fb173 := (((((((Fa159.ext E160).other W161 (Or.inl ne_b159_b160)).other W162 (Or.inl ne_b159_b160)).ext E163).keep K166 (ninS ne_b159_b163 nin0)).ext E167).keep K170 (ninS ne_b159_b167 nin0))
  have Fb174 := (((((((Fb159.ext E160).other W161 (Or.inl ne_b159_b160)).other W162 (Or.inl ne_b159_b160)).ext E163).keep K166 (ninS ne_b159_b163 nin0)).ext E167).keep K170 (ninS ne_b159_b167 nin0))
  have Fb175 := (((((((V159.ext E160).other W161 ne_v159_b160).other W162 ne_v159_b160).ext E163).keep K166 (ninS ne_v159_b163 nin0)).ext E167).keep K170 (ninS ne_v159_b167 nin0))
  refine Rch.via (T' := T170) (g' := (mkF m 79 #[.val (.int p0), .val (.int p1), .val (.int p2), .val (.ref b158), .val (.ref b159), .val (.ref b160), .val (.ref b163), .unset, .unset, .unset, .unset, .unset, .unset] [(.ref b167)])) st170 ?_
  obtain ⟨cq176, kq176, q176a, q176b, q176c⟩ := isOf hZ rfl Ex170
  obtain ⟨_, _, ⟨T176, L176, k176, n176⟩, -, X176, ⟨Lc176, hQ176, l176, y176, z176⟩, st176⟩ := X170.virtualBack hx (y := (⟨"com/example/ampliar/ampliar/model/Judgement", "isRelevant", "()Z"⟩ : MethodName)) (z := (⟨"com/example/ampliar/ampliar/model/Judgement", "isRelevant", "()Z"⟩ : MethodName)) hown (mvT hZ (hw _ (List.mem_of_getElem? (i := 69) rfl))) (mvT hZ (hw _ (List.mem_of_getElem? (i := 70) rfl))) (notFace_of_selects (args := #[]) (mvT hZ (hw _ (List.mem_of_getElem? (i := 72) rfl)))) (mvT hZ (hw _ (List.mem_of_getElem? (i := 72) rfl))) (mvT hZ (hw _ (List.mem_of_getElem? (i := 71) rfl))) (by decide) (backOf (W := 0) (rmIR l Z a0 hw [] b167 p0 T170.heap n0 (Nat.le_trans (Nat.le_trans (Nat.le_trans Fb165 K166.1) E167.1) K170.1) Fa170) hZ (hw _ (List.mem_of_getElem? (i := 73) rfl)) (hw _ (List.mem_of_getElem? (i := 46) rfl)) (by decide) (by decide)) q176a q176c (g := (mkF m 79 #[.val (.int p0), .val (.int p1), .val (.int p2), .val (.ref b158), .val (.ref b159), .val (.ref b160), .val (.ref b163), .unset, .unset, .unset, .unset, .unset, .unset] [(.ref b167)])) rfl (by rw [hml]; rfl) (Steps.refl _) (argsL := []) (rest := []) (lenOf pd_12 rfl) rfl (by show 2 * 0 + _ ≤ _; exact Nat.le_of_eq rfl) (hb hby at_79) (fun _ _ => ⟨rfl, rfl, (by decide : 14 + 0 ≤ _), (by decide : 146 + 0 ≤ _)⟩)
  dsimp only [Pt.U, Pt.locs, Pt.cells, Pt.slots] at X176 l176 y176 z176 st176 hQ176
  subst l176 y176 z176
  obtain ⟨rfl, N176q, hQ176⟩ := hQ176
  have N176 := Fr.app N170 N176q
  refine Rch.via (T' := T176) (g' := (mkF m 82 #[.val (.int p0), .val (.int p1), .val (.int p2), .val (.ref b158), .val (.ref b159), .val (.ref b160), .val (.ref b163), .unset, .unset, .unset, .unset, .unset, .unset] [(.int (ob ((0 : Int32) < p0)))])) st176 ?_
  refine Rch.of (T' := T176) (g' := (mkF m 84 #[.val (.int p0), .val (.int p1), .val (.int p2), .val (.ref b158), .val (.ref b159), .val (.ref b160), .val (.ref b163), .val (.int (ob ((0 : Int32) < p0))), .unset, .unset, .unset, .unset, .unset] [])) (fun _ kt => XS.istore X176.here hx rfl (hb hby at_82) rfl (l' := #[.val (.int p0), .val (.int p1), .val (.int p2), .val (.ref b158), .val (.ref b159), .val (.ref b160), .val (.ref b163), .val (.int (ob ((0 : Int32) < p0))), .unset, .unset, .unset, .unset, .unset]) rfl kt) ?_
  obtain ⟨T177, h177, X177, e177, E177, A177, D177, -, st177⟩ := newO X176 hx hZ hown (hw _ (List.mem_of_getElem? (i := 44) rfl)) (hw _ (List.mem_of_getElem? (i := 45) rfl)) (hw _ (List.mem_of_getElem? (i := 46) rfl)) hQ176 (g := (mkF m 84 #[.val (.int p0), .val (.int p1), .val (.int p2), .val (.ref b158), .val (.ref b159), .val (.ref b160), .val (.ref b163), .val (.int (ob ((0 : Int32) < p0))), .unset, .unset, .unset, .unset, .unset] [])) rfl (hb hby at_84) (by decide) (by decide)
  obtain ⟨b177, g177⟩ : ∃ zz_, zz_ = T170.heap.size := ⟨_, rfl⟩
  have ne_b158_b177 : b158 ≠ b177 := Nat.ne_of_lt (Nat.lt_of_lt_of_le ((((((((Ex158.keep K159).ext E160).wr W161).wr W162).ext E163).keep K166).ext E167).keep K170).lt (Nat.le_of_eq g177.symm))
  have ne_v158_b177 : v158 ≠ b177 := Nat.ne_of_lt (Nat.lt_of_lt_of_le Fb172.lt (Nat.le_of_eq g177.symm))
  have ne_b159_b177 : b159 ≠ b177 := Nat.ne_of_lt (Nat.lt_of_lt_of_le (((((((Ex159.ext E160).wr W161).wr W162).ext E163).keep K166).ext E167).keep K170).lt (Nat.le_of_eq g177.symm))
  have ne_v159_b177 : v159 ≠ b177 := Nat.ne_of_lt (Nat.lt_of_lt_of_le Fb175.lt (Nat.le_of_eq g177.symm))
  have ne_b160_b177 : b160 ≠ b177 := Nat.ne_of_lt (Nat.lt_of_lt_of_le ((((((Q160.wr W161).wr W162).ext E163).keep K166).ext E167).keep K170).lt (Nat.le_of_eq g177.symm))
  have ne_b163_b177 : b163 ≠ b177 := Nat.ne_of_lt (Nat.lt_of_lt_of_le ((Ex166.ext E167).keep K170).lt (Nat.le_of_eq g177.symm))
  have ne_b166_b177 : b166 ≠ b177 := Nat.ne_of_lt (Nat.lt_of_lt_of_le ((V166.ext E167).keep K170 (ninS ne_b166_b167 nin0)).lt (Nat.le_of_eq g177.symm))
  have ne_b167_b177 : b167 ≠ b177 := Nat.ne_of_lt (Nat.lt_of_lt_of_le Ex170.lt (Nat.le_of_eq g177.symm))
  have ge_b177 : n0 ≤ b177 := Nat.le_trans (Nat.le_trans (Nat.le_trans (Nat.le_trans Fb165 K166.1) E167.1) K170.1) (Nat.le_of_eq g177.symm)
  rw [← g177] at A177 D177 st177
  have F177_questionId : Fld Z h177 b177 "com/example/ampliar/ampliar/model/Judgement" "questionId" "Ljava/lang/String;" .null := D177 (Or.inr (hw _ (List.mem_of_getElem? (i := 60) rfl))) (ty := (.object "java/lang/String")) (by decide)
  have F177_iteration : Fld Z h177 b177 "com/example/ampliar/ampliar/model/Judgement" "iteration" "Ljava/lang/String;" .null := D177 (Or.inr (hw _ (List.mem_of_getElem? (i := 63) rfl))) (ty := (.object "java/lang/String")) (by decide)
  have F177_passageId : Fld Z h177 b177 "com/example/ampliar/ampliar/model/Judgement" "passageId" "Ljava/lang/String;" .null := D177 (Or.inr (hw _ (List.mem_of_getElem? (i := 66) rfl))) (ty := (.object "java/lang/String")) (by decide)
  have F177_relevance : Fld Z h177 b177 "com/example/ampliar/ampliar/model/Judgement" "relevance" "I" (.int (0 : Int32)) := D177 (Or.inr (hw _ (List.mem_of_getElem? (i := 68) rfl))) (ty := .int) (by decide)
  refine Rch.of (T' := T177) (g' := (mkF m 87 #[.val (.int p0), .val (.int p1), .val (.int p2), .val (.ref b158), .val (.ref b159), .val (.ref b160), .val (.ref b163), .val (.int (ob ((0 : Int32) < p0))), .unset, .unset, .unset, .unset, .unset] [(.ref b177)])) st177 ?_
  refine Rch.of (T' := T177) (g' := (mkF m 88 #[.val (.int p0), .val (.int p1), .val (.int p2), .val (.ref b158), .val (.ref b159), .val (.ref b160), .val (.ref b163), .val (.int (ob ((0 : Int32) < p0))), .unset, .unset, .unset, .unset, .unset] [(.ref b177), (.ref b177)])) (fun _ kt => XS.dup X177.here hx rfl (hb hby at_87) rfl rfl kt) ?_
  refine Rch.of (T' := T177) (g' := (mkF m 89 #[.val (.int p0), .val (.int p1), .val (.int p2), .val (.ref b158), .val (.ref b159), .val (.ref b160), .val (.ref b163), .val (.int (ob ((0 : Int32) < p0))), .unset, .unset, .unset, .unset, .unset] [(.ref b158), (.ref b177), (.ref b177)])) (fun _ kt => XS.aloadN X177.here hx rfl (hb hby at_88) rfl rfl kt) ?_
  refine Rch.of (T' := T177) (g' := (mkF m 91 #[.val (.int p0), .val (.int p1), .val (.int p2), .val (.ref b158), .val (.ref b159), .val (.ref b160), .val (.ref b163), .val (.int (ob ((0 : Int32) < p0))), .unset, .unset, .unset, .unset, .unset] [(.ref b159), (.ref b158), (.ref b177), (.ref b177)])) (fun _ kt => XS.aload X177.here hx rfl (hb hby at_89) rfl rfl kt) ?_
  refine Rch.of (T' := T177) (g' := (mkF m 93 #[.val (.int p0), .val (.int p1), .val (.int p2), .val (.ref b158), .val (.ref b159), .val (.ref b160), .val (.ref b163), .val (.int (ob ((0 : Int32) < p0))), .unset, .unset, .unset, .unset, .unset] [(.ref b163), (.ref b159), (.ref b158), (.ref b177), (.ref b177)])) (fun _ kt => XS.aload X177.here hx rfl (hb hby at_91) rfl rfl kt) ?_
  refine Rch.of (T' := T177) (g' := (mkF m 94 #[.val (.int p0), .val (.int p1), .val (.int p2), .val (.ref b158), .val (.ref b159), .val (.ref b160), .val (.ref b163), .val (.int (ob ((0 : Int32) < p0))), .unset, .unset, .unset, .unset, .unset] [(.int p1), (.ref b163), (.ref b159), (.ref b158), (.ref b177), (.ref b177)])) (fun _ kt => XS.iloadN X177.here hx rfl (hb hby at_93) rfl  kt) ?_
  obtain ⟨_, _, ⟨T178, L178, k178, n178⟩, -, X178, hT178, gr178, ⟨Lc178, hQ178, l178, y178, z178⟩, st178⟩ := X177.specialBackS hx (y := (⟨"com/example/ampliar/ampliar/model/Judgement", "<init>", "(Ljava/lang/String;Ljava/lang/String;Ljava/lang/String;I)V"⟩ : MethodName)) rfl hown (mvT hZ (hw _ (List.mem_of_getElem? (i := 47) rfl))) (mvT hZ (hw _ (List.mem_of_getElem? (i := 48) rfl))) (mvT hZ (hw _ (List.mem_of_getElem? (i := 49) rfl))) (by decide) (backOfS (W := 1) (rmJI l Z a0 hw [] b177 b158 b159 b163 p1 .null .null .null (.int (0 : Int32)) h177 n0 (Nat.le_trans (Nat.le_trans (Nat.le_trans (Nat.le_trans Fb165 K166.1) E167.1) K170.1) E177.1) A177 (((((((((Ex158.keep K159).ext E160).wr W161).wr W162).ext E163).keep K166).ext E167).keep K170).ext E177) ((((((((Ex159.ext E160).wr W161).wr W162).ext E163).keep K166).ext E167).keep K170).ext E177) (((Ex166.ext E167).keep K170).ext E177) F177_questionId F177_iteration F177_passageId F177_relevance ge_b177) hZ (hw _ (List.mem_of_getElem? (i := 49) rfl)) (hw _ (List.mem_of_getElem? (i := 46) rfl)) (by decide) (by decide)) (g := (mkF m 94 #[.val (.int p0), .val (.int p1), .val (.int p2), .val (.ref b158), .val (.ref b159), .val (.ref b160), .val (.ref b163), .val (.int (ob ((0 : Int32) < p0))), .unset, .unset, .unset, .unset, .unset] [(.int p1), (.ref b163), (.ref b159), (.ref b158), (.ref b177), (.ref b177)])) rfl (by rw [hml]; rfl) (Steps.refl _) (a := b177) (argsL := [(.ref b158), (.ref b159), (.ref b163), (.int p1)]) (rest := [(.ref b177)]) (lenOf pd_10 rfl) rfl (by show 2 * 0 + _ ≤ _; exact Nat.le_of_eq rfl) (hb hby at_94) (fun _ _ => ⟨rfl, e177, (by decide : 15 + 6 ≤ _), (by decide : 150 + 124 ≤ _)⟩)
  dsimp only [Pt.U, Pt.locs, Pt.cells, Pt.slots] at X178 hT178 gr178 l178 y178 z178 st178 hQ178
  subst l178 y178 z178
  obtain ⟨X178, hS178, hZ, hown⟩ := rebS hS170 (Nat.le_trans (Nat.le_refl _) E177.1) X178 hT178 (by rw [← e177]; exact gr178) hZ hown
  obtain ⟨rfl, N178q, hQ178⟩ := hQ178
  have N178 := Fr.app N176 N178q
  obtain ⟨K178, Ex178, Fa178⟩ := hQ178
  refine Rch.via (T' := T178) (g' := (mkF m 97 #[.val (.int p0), .val (.int p1), .val (.int p2), .val (.ref b158), .val (.ref b159), .val (.ref b160), .val (.ref b163), .val (.int (ob ((0 : Int32) < p0))), .unset, .unset, .unset, .unset, .unset] [(.ref b177)])) st178 ?_
  obtain ⟨cq179, kq179, q179a, q179b, q179c⟩ := isOf hZ rfl Ex178
  obtain ⟨_, _, ⟨T179, L179, k179, n179⟩, -, X179, ⟨Lc179, hQ179, l179, y179, z179⟩, st179⟩ := X178.virtualBack hx (y := (⟨"com/example/ampliar/ampliar/model/Judgement", "isRelevant", "()Z"⟩ : MethodName)) (z := (⟨"com/example/ampliar/ampliar/model/Judgement", "isRelevant", "()Z"⟩ : MethodName)) hown (mvT hZ (hw _ (List.mem_of_getElem? (i := 69) rfl))) (mvT hZ (hw _ (List.mem_of_getElem? (i := 70) rfl))) (notFace_of_selects (args := #[]) (mvT hZ (hw _ (List.mem_of_getElem? (i := 72) rfl)))) (mvT hZ (hw _ (List.mem_of_getElem? (i := 72) rfl))) (mvT hZ (hw _ (List.mem_of_getElem? (i := 71) rfl))) (by decide) (backOf (W := 0) (rmIR l Z a0 hw [] b177 p1 T178.heap n0 (Nat.le_trans (Nat.le_trans (Nat.le_trans (Nat.le_trans (Nat.le_trans Fb165 K166.1) E167.1) K170.1) E177.1) K178.1) Fa178) hZ (hw _ (List.mem_of_getElem? (i := 73) rfl)) (hw _ (List.mem_of_getElem? (i := 46) rfl)) (by decide) (by decide)) q179a q179c (g := (mkF m 97 #[.val (.int p0), .val (.int p1), .val (.int p2), .val (.ref b158), .val (.ref b159), .val (.ref b160), .val (.ref b163), .val (.int (ob ((0 : Int32) < p0))), .unset, .unset, .unset, .unset, .unset] [(.ref b177)])) rfl (by rw [hml]; rfl) (Steps.refl _) (argsL := []) (rest := []) (lenOf pd_12 rfl) rfl (by show 2 * 0 + _ ≤ _; exact Nat.le_of_eq rfl) (hb hby at_97) (fun _ _ => ⟨rfl, rfl, (by decide : 21 + 0 ≤ _), (by decide : 274 + 0 ≤ _)⟩)
  dsimp only [Pt.U, Pt.locs, Pt.cells, Pt.slots] at X179 l179 y179 z179 st179 hQ179
  subst l179 y179 z179
  obtain ⟨rfl, N179q, hQ179⟩ := hQ179
  have N179 := Fr.app N178 N179q
  refine Rch.via (T' := T179) (g' := (mkF m 100 #[.val (.int p0), .val (.int p1), .val (.int p2), .val (.ref b158), .val (.ref b159), .val (.ref b160), .val (.ref b163), .val (.int (ob ((0 : Int32) < p0))), .unset, .unset, .unset, .unset, .unset] [(.int (ob ((0 : Int32) < p1)))])) st179 ?_
  refine Rch.of (T' := T179) (g' := (mkF m 102 #[.val (.int p0), .val (.int p1), .val (.int p2), .val (.ref b158), .val (.ref b159), .val (.ref b160), .val (.ref b163), .val (.int (ob ((0 : Int32) < p0))), .val (.int (ob ((0 : Int32) < p1))), .unset, .unset, .unset, .unset] [])) (fun _ kt => XS.istore X179.here hx rfl (hb hby at_100) rfl (l' := #[.val (.int p0), .val (.int p1), .val (.int p2), .val (.ref b158), .val (.ref b159), .val (.ref b160), .val (.ref b163), .val (.int (ob ((0 : Int32) < p0))), .val (.int (ob ((0 : Int32) < p1))), .unset, .unset, .unset, .unset]) rfl kt) ?_
  obtain ⟨T180, h180, X180, e180, E180, A180, D180, -, st180⟩ := newO X179 hx hZ hown (hw _ (List.mem_of_getElem? (i := 44) rfl)) (hw _ (List.mem_of_getElem? (i := 45) rfl)) (hw _ (List.mem_of_getElem? (i := 46) rfl)) hQ179 (g := (mkF m 102 #[.val (.int p0), .val (.int p1), .val (.int p2), .val (.ref b158), .val (.ref b159), .val (.ref b160), .val (.ref b163), .val (.int (ob ((0 : Int32) < p0))), .val (.int (ob ((0 : Int32) < p1))), .unset, .unset, .unset, .unset] [])) rfl (hb hby at_102) (by decide) (by decide)
  obtain ⟨b180, g180⟩ : ∃ zz_, zz_ = T178.heap.size := ⟨_, rfl⟩
  have ne_b158_b180 : b158 ≠ b180 := Nat.ne_of_lt (Nat.lt_of_lt_of_le ((((((((((Ex158.keep K159).ext E160).wr W161).wr W162).ext E163).keep K166).ext E167).keep K170).ext E177).keep K178).lt (Nat.le_of_eq g180.symm))
  have ne_v158_b180 : v158 ≠ b180 := Nat.ne_of_lt (Nat.lt_of_lt_of_le ((Fb172.ext E177).keep K178 (ninS ne_v158_b177 nin0)).lt (Nat.le_of_eq g180.symm))
  have ne_b159_b180 : b159 ≠ b180 := Nat.ne_of_lt (Nat.lt_of_lt_of_le (((((((((Ex159.ext E160).wr W161).wr W162).ext E163).keep K166).ext E167).keep K170).ext E177).keep K178).lt (Nat.le_of_eq g180.symm))
  have ne_v159_b180 : v159 ≠ b180 := Nat.ne_of_lt (Nat.lt_of_lt_of_le ((Fb175.ext E177).keep K178 (ninS ne_v159_b177 nin0)).lt (Nat.le_of_eq g180.symm))
  have ne_b160_b180 : b160 ≠ b180 := Nat.ne_of_lt (Nat.lt_of_lt_of_le ((((((((Q160.wr W161).wr W162).ext E163).keep K166).ext E167).keep K170).ext E177).keep K178).lt (Nat.le_of_eq g180.symm))
  have ne_b163_b180 : b163 ≠ b180 := Nat.ne_of_lt (Nat.lt_of_lt_of_le ((((Ex166.ext E167).keep K170).ext E177).keep K178).lt (Nat.le_of_eq g180.symm))
  have ne_b166_b180 : b166 ≠ b180 := Nat.ne_of_lt (Nat.lt_of_lt_of_le ((((V166.ext E167).keep K170 (ninS ne_b166_b167 nin0)).ext E177).keep K178 (ninS ne_b166_b177 nin0)).lt (Nat.le_of_eq g180.symm))
  have ne_b167_b180 : b167 ≠ b180 := Nat.ne_of_lt (Nat.lt_of_lt_of_le ((Ex170.ext E177).keep K178).lt (Nat.le_of_eq g180.symm))
  have ne_b177_b180 : b177 ≠ b180 := Nat.ne_of_lt (Nat.lt_of_lt_of_le Ex178.lt (Nat.le_of_eq g180.symm))
  have ge_b180 : n0 ≤ b180 := Nat.le_trans (Nat.le_trans (Nat.le_trans (Nat.le_trans (Nat.le_trans (Nat.le_trans Fb165 K166.1) E167.1) K170.1) E177.1) K178.1) (Nat.le_of_eq g180.symm)
  rw [← g180] at A180 D180 st180
  have F180_questionId : Fld Z h180 b180 "com/example/ampliar/ampliar/model/Judgement" "questionId" "Ljava/lang/String;" .null := D180 (Or.inr (hw _ (List.mem_of_getElem? (i := 60) rfl))) (ty := (.object "java/lang/String")) (by decide)
  have F180_iteration : Fld Z h180 b180 "com/example/ampliar/ampliar/model/Judgement" "iteration" "Ljava/lang/String;" .null := D180 (Or.inr (hw _ (List.mem_of_getElem? (i := 63) rfl))) (ty := (.object "java/lang/String")) (by decide)
  have F180_passageId : Fld Z h180 b180 "com/example/ampliar/ampliar/model/Judgement" "passageId" "Ljava/lang/String;" .null := D180 (Or.inr (hw _ (List.mem_of_getElem? (i := 66) rfl))) (ty := (.object "java/lang/String")) (by decide)
  have F180_relevance : Fld Z h180 b180 "com/example/ampliar/ampliar/model/Judgement" "relevance" "I" (.int (0 : Int32)) := D180 (Or.inr (hw _ (List.mem_of_getElem? (i := 68) rfl))) (ty := .int) (by decide)
  refine Rch.of (T' := T180) (g' := (mkF m 105 #[.val (.int p0), .val (.int p1), .val (.int p2), .val (.ref b158), .val (.ref b159), .val (.ref b160), .val (.ref b163), .val (.int (ob ((0 : Int32) < p0))), .val (.int (ob ((0 : Int32) < p1))), .unset, .unset, .unset, .unset] [(.ref b180)])) st180 ?_
  refine Rch.of (T' := T180) (g' := (mkF m 106 #[.val (.int p0), .val (.int p1), .val (.int p2), .val (.ref b158), .val (.ref b159), .val (.ref b160), .val (.ref b163), .val (.int (ob ((0 : Int32) < p0))), .val (.int (ob ((0 : Int32) < p1))), .unset, .unset, .unset, .unset] [(.ref b180), (.ref b180)])) (fun _ kt => XS.dup X180.here hx rfl (hb hby at_105) rfl rfl kt) ?_
  refine Rch.of (T' := T180) (g' := (mkF m 108 #[.val (.int p0), .val (.int p1), .val (.int p2), .val (.ref b158), .val (.ref b159), .val (.ref b160), .val (.ref b163), .val (.int (ob ((0 : Int32) < p0))), .val (.int (ob ((0 : Int32) < p1))), .unset, .unset, .unset, .unset] [(.ref b163), (.ref b180), (.ref b180)])) (fun _ kt => XS.aload X180.here hx rfl (hb hby at_106) rfl rfl kt) ?_
  refine Rch.of (T' := T180) (g' := (mkF m 109 #[.val (.int p0), .val (.int p1), .val (.int p2), .val (.ref b158), .val (.ref b159), .val (.ref b160), .val (.ref b163), .val (.int (ob ((0 : Int32) < p0))), .val (.int (ob ((0 : Int32) < p1))), .unset, .unset, .unset, .unset] [(.ref b158), (.ref b163), (.ref b180), (.ref b180)])) (fun _ kt => XS.aloadN X180.here hx rfl (hb hby at_108) rfl rfl kt) ?_
  refine Rch.of (T' := T180) (g' := (mkF m 111 #[.val (.int p0), .val (.int p1), .val (.int p2), .val (.ref b158), .val (.ref b159), .val (.ref b160), .val (.ref b163), .val (.int (ob ((0 : Int32) < p0))), .val (.int (ob ((0 : Int32) < p1))), .unset, .unset, .unset, .unset] [(.ref b159), (.ref b158), (.ref b163), (.ref b180), (.ref b180)])) (fun _ kt => XS.aload X180.here hx rfl (hb hby at_109) rfl rfl kt) ?_
  refine Rch.of (T' := T180) (g' := (mkF m 112 #[.val (.int p0), .val (.int p1), .val (.int p2), .val (.ref b158), .val (.ref b159), .val (.ref b160), .val (.ref b163), .val (.int (ob ((0 : Int32) < p0))), .val (.int (ob ((0 : Int32) < p1))), .unset, .unset, .unset, .unset] [(.int (0 : Int32)), (.ref b159), (.ref b158), (.ref b163), (.ref b180), (.ref b180)])) (fun _ kt => XS.iconst X180.here hx rfl (hb hby at_111) kt) ?_
  obtain ⟨_, _, ⟨T181, L181, k181, n181⟩, -, X181, hT181, gr181, ⟨Lc181, hQ181, l181, y181, z181⟩, st181⟩ := X180.specialBackS hx (y := (⟨"com/example/ampliar/ampliar/model/Judgement", "<init>", "(Ljava/lang/String;Ljava/lang/String;Ljava/lang/String;I)V"⟩ : MethodName)) rfl hown (mvT hZ (hw _ (List.mem_of_getElem? (i := 47) rfl))) (mvT hZ (hw _ (List.mem_of_getElem? (i := 48) rfl))) (mvT hZ (hw _ (List.mem_of_getElem? (i := 49) rfl))) (by decide) (backOfS (W := 1) (rmJI l Z a0 hw [] b180 b163 b158 b159 (0 : Int32) .null .null .null (.int (0 : Int32)) h180 n0 (Nat.le_trans (Nat.le_trans (Nat.le_trans (Nat.le_trans (Nat.le_trans (Nat.le_trans Fb165 K166.1) E167.1) K170.1) E177.1) K178.1) E180.1) A180 (((((Ex166.ext E167).keep K170).ext E177).keep K178).ext E180) (((((((((((Ex158.keep K159).ext E160).wr W161).wr W162).ext E163).keep K166).ext E167).keep K170).ext E177).keep K178).ext E180) ((((((((((Ex159.ext E160).wr W161).wr W162).ext E163).keep K166).ext E167).keep K170).ext E177).keep K178).ext E180) F180_questionId F180_iteration F180_passageId F180_relevance ge_b180) hZ (hw _ (List.mem_of_getElem? (i := 49) rfl)) (hw _ (List.mem_of_getElem? (i := 46) rfl)) (by decide) (by decide)) (g := (mkF m 112 #[.val (.int p0), .val (.int p1), .val (.int p2), .val (.ref b158), .val (.ref b159), .val (.ref b160), .val (.ref b163), .val (.int (ob ((0 : Int32) < p0))), .val (.int (ob ((0 : Int32) < p1))), .unset, .unset, .unset, .unset] [(.int (0 : Int32)), (.ref b159), (.ref b158), (.ref b163), (.ref b180), (.ref b180)])) rfl (by rw [hml]; rfl) (Steps.refl _) (a := b180) (argsL := [(.ref b163), (.ref b158), (.ref b159), (.int (0 : Int32))]) (rest := [(.ref b180)]) (lenOf pd_10 rfl) rfl (by show 2 * 0 + _ ≤ _; exact Nat.le_of_eq rfl) (hb hby at_112) (fun _ _ => ⟨rfl, e180, (by decide : 22 + 6 ≤ _), (by decide : 278 + 124 ≤ _)⟩)
  dsimp only [Pt.U, Pt.locs, Pt.cells, Pt.slots] at X181 hT181 gr181 l181 y181 z181 st181 hQ181
  subst l181 y181 z181
  obtain ⟨X181, hS181, hZ, hown⟩ := rebS hS178 (Nat.le_trans (Nat.le_refl _) E180.1) X181 hT181 (by rw [← e180]; exact gr181) hZ hown
  obtain ⟨rfl, N181q, hQ181⟩ := hQ181
  have N181 := Fr.app N179 N181q
  obtain ⟨K181, Ex181, Fa181⟩ := hQ181
  have Fb182 := ((((((((V162.ext E163).keep K166 (ninS ne_b160_b163 nin0)).ext E167).keep K170 (ninS ne_b160_b167 nin0)).ext E177).keep K178 (ninS ne_b160_b177 nin0)).ext E180).keep K181 (ninS ne_b160_b180 nin0))
  refine Rch.via (T' := T181) (g' := (mkF m 115 #[.val (.int p0), .val (.int p1), .val (.int p2), .val (.ref b158), .val (.ref b159), .val (.ref b160), .val (.ref b163), .val (.int (ob ((0 : Int32) < p0))), .val (.int (ob ((0 : Int32) < p1))), .unset, .unset, .unset, .unset] [(.ref b180)])) st181 ?_
  obtain ⟨cq183, kq183, q183a, q183b, q183c⟩ := isOf hZ rfl Ex181
  obtain ⟨_, _, ⟨T183, L183, k183, n183⟩, -, X183, ⟨Lc183, hQ183, l183, y183, z183⟩, st183⟩ := X181.virtualBack hx (y := (⟨"com/example/ampliar/ampliar/model/Judgement", "isRelevant", "()Z"⟩ : MethodName)) (z := (⟨"com/example/ampliar/ampliar/model/Judgement", "isRelevant", "()Z"⟩ : MethodName)) hown (mvT hZ (hw _ (List.mem_of_getElem? (i := 69) rfl))) (mvT hZ (hw _ (List.mem_of_getElem? (i := 70) rfl))) (notFace_of_selects (args := #[]) (mvT hZ (hw _ (List.mem_of_getElem? (i := 72) rfl)))) (mvT hZ (hw _ (List.mem_of_getElem? (i := 72) rfl))) (mvT hZ (hw _ (List.mem_of_getElem? (i := 71) rfl))) (by decide) (backOf (W := 0) (rmIR l Z a0 hw [] b180 (0 : Int32) T181.heap n0 (Nat.le_trans (Nat.le_trans (Nat.le_trans (Nat.le_trans (Nat.le_trans (Nat.le_trans (Nat.le_trans Fb165 K166.1) E167.1) K170.1) E177.1) K178.1) E180.1) K181.1) Fa181) hZ (hw _ (List.mem_of_getElem? (i := 73) rfl)) (hw _ (List.mem_of_getElem? (i := 46) rfl)) (by decide) (by decide)) q183a q183c (g := (mkF m 115 #[.val (.int p0), .val (.int p1), .val (.int p2), .val (.ref b158), .val (.ref b159), .val (.ref b160), .val (.ref b163), .val (.int (ob ((0 : Int32) < p0))), .val (.int (ob ((0 : Int32) < p1))), .unset, .unset, .unset, .unset] [(.ref b180)])) rfl (by rw [hml]; rfl) (Steps.refl _) (argsL := []) (rest := []) (lenOf pd_12 rfl) rfl (by show 2 * 0 + _ ≤ _; exact Nat.le_of_eq rfl) (hb hby at_115) (fun _ _ => ⟨rfl, rfl, (by decide : 28 + 0 ≤ _), (by decide : 402 + 0 ≤ _)⟩)
  dsimp only [Pt.U, Pt.locs, Pt.cells, Pt.slots] at X183 l183 y183 z183 st183 hQ183
  subst l183 y183 z183
  obtain ⟨rfl, N183q, hQ183⟩ := hQ183
  have N183 := Fr.app N181 N183q
  refine Rch.via (T' := T183) (g' := (mkF m 118 #[.val (.int p0), .val (.int p1), .val (.int p2), .val (.ref b158), .val (.ref b159), .val (.ref b160), .val (.ref b163), .val (.int (ob ((0 : Int32) < p0))), .val (.int (ob ((0 : Int32) < p1))), .unset, .unset, .unset, .unset] [(.int (ob ((0 : Int32) < (0 : Int32))))])) st183 ?_
  refine Rch.of (T' := T183) (g' := (mkF m 120 #[.val (.int p0), .val (.int p1), .val (.int p2), .val (.ref b158), .val (.ref b159), .val (.ref b160), .val (.ref b163), .val (.int (ob ((0 : Int32) < p0))), .val (.int (ob ((0 : Int32) < p1))), .val (.int (ob ((0 : Int32) < (0 : Int32)))), .unset, .unset, .unset] [])) (fun _ kt => XS.istore X183.here hx rfl (hb hby at_118) rfl (l' := #[.val (.int p0), .val (.int p1), .val (.int p2), .val (.ref b158), .val (.ref b159), .val (.ref b160), .val (.ref b163), .val (.int (ob ((0 : Int32) < p0))), .val (.int (ob ((0 : Int32) < p1))), .val (.int (ob ((0 : Int32) < (0 : Int32)))), .unset, .unset, .unset]) rfl kt) ?_
  obtain ⟨T184, h184, X184, e184, E184, A184, D184, -, st184⟩ := newO X183 hx hZ hown (hw _ (List.mem_of_getElem? (i := 44) rfl)) (hw _ (List.mem_of_getElem? (i := 45) rfl)) (hw _ (List.mem_of_getElem? (i := 46) rfl)) hQ183 (g := (mkF m 120 #[.val (.int p0), .val (.int p1), .val (.int p2), .val (.ref b158), .val (.ref b159), .val (.ref b160), .val (.ref b163), .val (.int (ob ((0 : Int32) < p0))), .val (.int (ob ((0 : Int32) < p1))), .val (.int (ob ((0 : Int32) < (0 : Int32)))), .unset, .unset, .unset] [])) rfl (hb hby at_120) (by decide) (by decide)
  obtain ⟨b184, g184⟩ : ∃ zz_, zz_ = T181.heap.size := ⟨_, rfl⟩
  have ne_b158_b184 : b158 ≠ b184 := Nat.ne_of_lt (Nat.lt_of_lt_of_le ((((((((((((Ex158.keep K159).ext E160).wr W161).wr W162).ext E163).keep K166).ext E167).keep K170).ext E177).keep K178).ext E180).keep K181).lt (Nat.le_of_eq g184.symm))
  have ne_v158_b184 : v158 ≠ b184 := Nat.ne_of_lt (Nat.lt_of_lt_of_le ((((Fb172.ext E177).keep K178 (ninS ne_v158_b177 nin0)).ext E180).keep K181 (ninS ne_v158_b180 nin0)).lt (Nat.le_of_eq g184.symm))
  have ne_b159_b184 : b159 ≠ b184 := Nat.ne_of_lt (Nat.lt_of_lt_of_le (((((((((((Ex159.ext E160).wr W161).wr W162).ext E163).keep K166).ext E167).keep K170).ext E177).keep K178).ext E180).keep K181).lt (Nat.le_of_eq g184.symm))
  have ne_v159_b184 : v159 ≠ b184 := Nat.ne_of_lt (Nat.lt_of_lt_of_le ((((Fb175.ext E177).keep K178 (ninS ne_v159_b177 nin0)).ext E180).keep K181 (ninS ne_v159_b180 nin0)).lt (Nat.le_of_eq g184.symm))
  have ne_b160_b184 : b160 ≠ b184 := Nat.ne_of_lt (Nat.lt_of_lt_of_le ((((((((((Q160.wr W161).wr W162).ext E163).keep K166).ext E167).keep K170).ext E177).keep K178).ext E180).keep K181).lt (Nat.le_of_eq g184.symm))
  have ne_b163_b184 : b163 ≠ b184 := Nat.ne_of_lt (Nat.lt_of_lt_of_le ((((((Ex166.ext E167).keep K170).ext E177).keep K178).ext E180).keep K181).lt (Nat.le_of_eq g184.symm))
  have ne_b166_b184 : b166 ≠ b184 := Nat.ne_of_lt (Nat.lt_of_lt_of_le ((((((V166.ext E167).keep K170 (ninS ne_b166_b167 nin0)).ext E177).keep K178 (ninS ne_b166_b177 nin0)).ext E180).keep K181 (ninS ne_b166_b180 nin0)).lt (Nat.le_of_eq g184.symm))
  have ne_b167_b184 : b167 ≠ b184 := Nat.ne_of_lt (Nat.lt_of_lt_of_le ((((Ex170.ext E177).keep K178).ext E180).keep K181).lt (Nat.le_of_eq g184.symm))
  have ne_b177_b184 : b177 ≠ b184 := Nat.ne_of_lt (Nat.lt_of_lt_of_le ((Ex178.ext E180).keep K181).lt (Nat.le_of_eq g184.symm))
  have ne_b180_b184 : b180 ≠ b184 := Nat.ne_of_lt (Nat.lt_of_lt_of_le Ex181.lt (Nat.le_of_eq g184.symm))
  have ge_b184 : n0 ≤ b184 := Nat.le_trans (Nat.le_trans (Nat.le_trans (Nat.le_trans (Nat.le_trans (Nat.le_trans (Nat.le_trans (Nat.le_trans Fb165 K166.1) E167.1) K170.1) E177.1) K178.1) E180.1) K181.1) (Nat.le_of_eq g184.symm)
  rw [← g184] at A184 D184 st184
  have Fb185 := (((((((Fa166.ext E167).keep K170 (ninS ne_b163_b167 nin0)).ext E177).keep K178 (ninS ne_b163_b177 nin0)).ext E180).keep K181 (ninS ne_b163_b180 nin0)).ext E184)
  have Fb186 := (((((((Fb166.ext E167).keep K170 (ninS ne_b163_b167 nin0)).ext E177).keep K178 (ninS ne_b163_b177 nin0)).ext E180).keep K181 (ninS ne_b163_b180 nin0)).ext E184)
  have Fb187 := (Nat.le_trans (Nat.le_trans (Nat.le_trans (Nat.le_trans (Nat.le_trans (Nat.le_trans (Nat.le_trans (Nat.le_trans Fb165 K166.1) E167.1) K170.1) E177.1) K178.1) E180.1) K181.1) E184.1)
  have F184_questionId : Fld Z h184 b184 "com/example/ampliar/ampliar/model/Judgement" "questionId" "Ljava/lang/String;" .null := D184 (Or.inr (hw _ (List.mem_of_getElem? (i := 60) rfl))) (ty := (.object "java/lang/String")) (by decide)
  have F184_iteration : Fld Z h184 b184 "com/example/ampliar/ampliar/model/Judgement" "iteration" "Ljava/lang/String;" .null := D184 (Or.inr (hw _ (List.mem_of_getElem? (i := 63) rfl))) (ty := (.object "java/lang/String")) (by decide)
  have F184_passageId : Fld Z h184 b184 "com/example/ampliar/ampliar/model/Judgement" "passageId" "Ljava/lang/String;" .null := D184 (Or.inr (hw _ (List.mem_of_getElem? (i := 66) rfl))) (ty := (.object "java/lang/String")) (by decide)
  have F184_relevance : Fld Z h184 b184 "com/example/ampliar/ampliar/model/Judgement" "relevance" "I" (.int (0 : Int32)) := D184 (Or.inr (hw _ (List.mem_of_getElem? (i := 68) rfl))) (ty := .int) (by decide)
  refine Rch.of (T' := T184) (g' := (mkF m 123 #[.val (.int p0), .val (.int p1), .val (.int p2), .val (.ref b158), .val (.ref b159), .val (.ref b160), .val (.ref b163), .val (.int (ob ((0 : Int32) < p0))), .val (.int (ob ((0 : Int32) < p1))), .val (.int (ob ((0 : Int32) < (0 : Int32)))), .unset, .unset, .unset] [(.ref b184)])) st184 ?_
  refine Rch.of (T' := T184) (g' := (mkF m 124 #[.val (.int p0), .val (.int p1), .val (.int p2), .val (.ref b158), .val (.ref b159), .val (.ref b160), .val (.ref b163), .val (.int (ob ((0 : Int32) < p0))), .val (.int (ob ((0 : Int32) < p1))), .val (.int (ob ((0 : Int32) < (0 : Int32)))), .unset, .unset, .unset] [(.ref b184), (.ref b184)])) (fun _ kt => XS.dup X184.here hx rfl (hb hby at_123) rfl rfl kt) ?_
  refine Rch.of (T' := T184) (g' := (mkF m 126 #[.val (.int p0), .val (.int p1), .val (.int p2), .val (.ref b158), .val (.ref b159), .val (.ref b160), .val (.ref b163), .val (.int (ob ((0 : Int32) < p0))), .val (.int (ob ((0 : Int32) < p1))), .val (.int (ob ((0 : Int32) < (0 : Int32)))), .unset, .unset, .unset] [(.ref b159), (.ref b184), (.ref b184)])) (fun _ kt => XS.aload X184.here hx rfl (hb hby at_124) rfl rfl kt) ?_
  refine Rch.of (T' := T184) (g' := (mkF m 128 #[.val (.int p0), .val (.int p1), .val (.int p2), .val (.ref b158), .val (.ref b159), .val (.ref b160), .val (.ref b163), .val (.int (ob ((0 : Int32) < p0))), .val (.int (ob ((0 : Int32) < p1))), .val (.int (ob ((0 : Int32) < (0 : Int32)))), .unset, .unset, .unset] [(.ref b163), (.ref b159), (.ref b184), (.ref b184)])) (fun _ kt => XS.aload X184.here hx rfl (hb hby at_126) rfl rfl kt) ?_
  refine Rch.of (T' := T184) (g' := (mkF m 129 #[.val (.int p0), .val (.int p1), .val (.int p2), .val (.ref b158), .val (.ref b159), .val (.ref b160), .val (.ref b163), .val (.int (ob ((0 : Int32) < p0))), .val (.int (ob ((0 : Int32) < p1))), .val (.int (ob ((0 : Int32) < (0 : Int32)))), .unset, .unset, .unset] [(.ref b158), (.ref b163), (.ref b159), (.ref b184), (.ref b184)])) (fun _ kt => XS.aloadN X184.here hx rfl (hb hby at_128) rfl rfl kt) ?_
  refine Rch.of (T' := T184) (g' := (mkF m 130 #[.val (.int p0), .val (.int p1), .val (.int p2), .val (.ref b158), .val (.ref b159), .val (.ref b160), .val (.ref b163), .val (.int (ob ((0 : Int32) < p0))), .val (.int (ob ((0 : Int32) < p1))), .val (.int (ob ((0 : Int32) < (0 : Int32)))), .unset, .unset, .unset] [(.int (1 : Int32)), (.ref b158), (.ref b163), (.ref b159), (.ref b184), (.ref b184)])) (fun _ kt => XS.iconst X184.here hx rfl (hb hby at_129) kt) ?_
  obtain ⟨_, _, ⟨T188, L188, k188, n188⟩, -, X188, hT188, gr188, ⟨Lc188, hQ188, l188, y188, z188⟩, st188⟩ := X184.specialBackS hx (y := (⟨"com/example/ampliar/ampliar/model/Judgement", "<init>", "(Ljava/lang/String;Ljava/lang/String;Ljava/lang/String;I)V"⟩ : MethodName)) rfl hown (mvT hZ (hw _ (List.mem_of_getElem? (i := 47) rfl))) (mvT hZ (hw _ (List.mem_of_getElem? (i := 48) rfl))) (mvT hZ (hw _ (List.mem_of_getElem? (i := 49) rfl))) (by decide) (backOfS (W := 1) (rmJI l Z a0 hw [] b184 b159 b163 b158 (1 : Int32) .null .null .null (.int (0 : Int32)) h184 n0 Fb187 A184 ((((((((((((Ex159.ext E160).wr W161).wr W162).ext E163).keep K166).ext E167).keep K170).ext E177).keep K178).ext E180).keep K181).ext E184) (((((((Ex166.ext E167).keep K170).ext E177).keep K178).ext E180).keep K181).ext E184) (((((((((((((Ex158.keep K159).ext E160).wr W161).wr W162).ext E163).keep K166).ext E167).keep K170).ext E177).keep K178).ext E180).keep K181).ext E184) F184_questionId F184_iteration F184_passageId F184_relevance ge_b184) hZ (hw _ (List.mem_of_getElem? (i := 49) rfl)) (hw _ (List.mem_of_getElem? (i := 46) rfl)) (by decide) (by decide)) (g := (mkF m 130 #[.val (.int p0), .val (.int p1), .val (.int p2), .val (.ref b158), .val (.ref b159), .val (.ref b160), .val (.ref b163), .val (.int (ob ((0 : Int32) < p0))), .val (.int (ob ((0 : Int32) < p1))), .val (.int (ob ((0 : Int32) < (0 : Int32)))), .unset, .unset, .unset] [(.int (1 : Int32)), (.ref b158), (.ref b163), (.ref b159), (.ref b184), (.ref b184)])) rfl (by rw [hml]; rfl) (Steps.refl _) (a := b184) (argsL := [(.ref b159), (.ref b163), (.ref b158), (.int (1 : Int32))]) (rest := [(.ref b184)]) (lenOf pd_10 rfl) rfl (by show 2 * 0 + _ ≤ _; exact Nat.le_of_eq rfl) (hb hby at_130) (fun _ _ => ⟨rfl, e184, (by decide : 29 + 6 ≤ _), (by decide : 406 + 124 ≤ _)⟩)
  dsimp only [Pt.U, Pt.locs, Pt.cells, Pt.slots] at X188 hT188 gr188 l188 y188 z188 st188 hQ188
  subst l188 y188 z188
  obtain ⟨X188, hS188, hZ, hown⟩ := rebS hS181 (Nat.le_trans (Nat.le_refl _) E184.1) X188 hT188 (by rw [← e184]; exact gr188) hZ hown
  obtain ⟨rfl, N188q, hQ188⟩ := hQ188
  have N188 := Fr.app N183 N188q
  obtain ⟨K188, Ex188, Fa188⟩ := hQ188
  have Fb189 := ((((((((((((((Ex158.keep K159).ext E160).wr W161).wr W162).ext E163).keep K166).ext E167).keep K170).ext E177).keep K178).ext E180).keep K181).ext E184).keep K188)
  have Fb190 := (((((((Fb168.keep K170 (ninS ne_b158_b167 nin0)).ext E177).keep K178 (ninS ne_b158_b177 nin0)).ext E180).keep K181 (ninS ne_b158_b180 nin0)).ext E184).keep K188 (ninS ne_b158_b184 nin0))
  have Fb191 := (((((((Fb169.keep K170 (ninS ne_b158_b167 nin0)).ext E177).keep K178 (ninS ne_b158_b177 nin0)).ext E180).keep K181 (ninS ne_b158_b180 nin0)).ext E184).keep K188 (ninS ne_b158_b184 nin0))
  have Fb192 := ((((((((V166.ext E167).keep K170 (ninS ne_b166_b167 nin0)).ext E177).keep K178 (ninS ne_b166_b177 nin0)).ext E180).keep K181 (ninS ne_b166_b180 nin0)).ext E184).keep K188 (ninS ne_b166_b184 nin0))
  refine Rch.via (T' := T188) (g' := (mkF m 133 #[.val (.int p0), .val (.int p1), .val (.int p2), .val (.ref b158), .val (.ref b159), .val (.ref b160), .val (.ref b163), .val (.int (ob ((0 : Int32) < p0))), .val (.int (ob ((0 : Int32) < p1))), .val (.int (ob ((0 : Int32) < (0 : Int32)))), .unset, .unset, .unset] [(.ref b184)])) st188 ?_
  obtain ⟨cq193, kq193, q193a, q193b, q193c⟩ := isOf hZ rfl Ex188
  obtain ⟨_, _, ⟨T193, L193, k193, n193⟩, -, X193, ⟨Lc193, hQ193, l193, y193, z193⟩, st193⟩ := X188.virtualBack hx (y := (⟨"com/example/ampliar/ampliar/model/Judgement", "isRelevant", "()Z"⟩ : MethodName)) (z := (⟨"com/example/ampliar/ampliar/model/Judgement", "isRelevant", "()Z"⟩ : MethodName)) hown (mvT hZ (hw _ (List.mem_of_getElem? (i := 69) rfl))) (mvT hZ (hw _ (List.mem_of_getElem? (i := 70) rfl))) (notFace_of_selects (args := #[]) (mvT hZ (hw _ (List.mem_of_getElem? (i := 72) rfl)))) (mvT hZ (hw _ (List.mem_of_getElem? (i := 72) rfl))) (mvT hZ (hw _ (List.mem_of_getElem? (i := 71) rfl))) (by decide) (backOf (W := 0) (rmIR l Z a0 hw [] b184 (1 : Int32) T188.heap n0 (Nat.le_trans Fb187 K188.1) Fa188) hZ (hw _ (List.mem_of_getElem? (i := 73) rfl)) (hw _ (List.mem_of_getElem? (i := 46) rfl)) (by decide) (by decide)) q193a q193c (g := (mkF m 133 #[.val (.int p0), .val (.int p1), .val (.int p2), .val (.ref b158), .val (.ref b159), .val (.ref b160), .val (.ref b163), .val (.int (ob ((0 : Int32) < p0))), .val (.int (ob ((0 : Int32) < p1))), .val (.int (ob ((0 : Int32) < (0 : Int32)))), .unset, .unset, .unset] [(.ref b184)])) rfl (by rw [hml]; rfl) (Steps.refl _) (argsL := []) (rest := []) (lenOf pd_12 rfl) rfl (by show 2 * 0 + _ ≤ _; exact Nat.le_of_eq rfl) (hb hby at_133) (fun _ _ => ⟨rfl, rfl, (by decide : 35 + 0 ≤ _), (by decide : 530 + 0 ≤ _)⟩)
  dsimp only [Pt.U, Pt.locs, Pt.cells, Pt.slots] at X193 l193 y193 z193 st193 hQ193
  subst l193 y193 z193
  obtain ⟨rfl, N193q, hQ193⟩ := hQ193
  have N193 := Fr.app N188 N193q
  refine Rch.via (T' := T193) (g' := (mkF m 136 #[.val (.int p0), .val (.int p1), .val (.int p2), .val (.ref b158), .val (.ref b159), .val (.ref b160), .val (.ref b163), .val (.int (ob ((0 : Int32) < p0))), .val (.int (ob ((0 : Int32) < p1))), .val (.int (ob ((0 : Int32) < (0 : Int32)))), .unset, .unset, .unset] [(.int (ob ((0 : Int32) < (1 : Int32))))])) st193 ?_
  refine Rch.of (T' := T193) (g' := (mkF m 138 #[.val (.int p0), .val (.int p1), .val (.int p2), .val (.ref b158), .val (.ref b159), .val (.ref b160), .val (.ref b163), .val (.int (ob ((0 : Int32) < p0))), .val (.int (ob ((0 : Int32) < p1))), .val (.int (ob ((0 : Int32) < (0 : Int32)))), .val (.int (ob ((0 : Int32) < (1 : Int32)))), .unset, .unset] [])) (fun _ kt => XS.istore X193.here hx rfl (hb hby at_136) rfl (l' := #[.val (.int p0), .val (.int p1), .val (.int p2), .val (.ref b158), .val (.ref b159), .val (.ref b160), .val (.ref b163), .val (.int (ob ((0 : Int32) < p0))), .val (.int (ob ((0 : Int32) < p1))), .val (.int (ob ((0 : Int32) < (0 : Int32)))), .val (.int (ob ((0 : Int32) < (1 : Int32)))), .unset, .unset]) rfl kt) ?_
  rw [show (ob ((0 : Int32) < (0 : Int32))) = (0 : Int32) from by decide, show (ob ((0 : Int32) < (1 : Int32))) = (1 : Int32) from by decide]
  show Rch p e below K T193 (mkF m 138 #[.val (.int p0), .val (.int p1), .val (.int p2), .val (.ref b158), .val (.ref b159), .val (.ref b160), .val (.ref b163), .val (.int (ob ((0 : Int32) < p0))), .val (.int (ob ((0 : Int32) < p1))), .val (.int (0 : Int32)), .val (.int (1 : Int32)), .unset, .unset] [])
  refine Rch.of (T' := T193) (g' := (mkF m 139 #[.val (.int p0), .val (.int p1), .val (.int p2), .val (.ref b158), .val (.ref b159), .val (.ref b160), .val (.ref b163), .val (.int (ob ((0 : Int32) < p0))), .val (.int (ob ((0 : Int32) < p1))), .val (.int (0 : Int32)), .val (.int (1 : Int32)), .unset, .unset] [(.int p0)])) (fun _ kt => XS.iloadN X193.here hx rfl (hb hby at_138) rfl  kt) ?_
  refine Rch.of (T' := T193) (g' := (mkF m 140 #[.val (.int p0), .val (.int p1), .val (.int p2), .val (.ref b158), .val (.ref b159), .val (.ref b160), .val (.ref b163), .val (.int (ob ((0 : Int32) < p0))), .val (.int (ob ((0 : Int32) < p1))), .val (.int (0 : Int32)), .val (.int (1 : Int32)), .unset, .unset] [(.int p1), (.int p0)])) (fun _ kt => XS.iloadN X193.here hx rfl (hb hby at_139) rfl  kt) ?_
  by_cases c194 : p1 < p0
  · skip
    refine Rch.of (T' := T193) (g' := (mkF m 148 #[.val (.int p0), .val (.int p1), .val (.int p2), .val (.ref b158), .val (.ref b159), .val (.ref b160), .val (.ref b163), .val (.int (ob ((0 : Int32) < p0))), .val (.int (ob ((0 : Int32) < p1))), .val (.int (0 : Int32)), .val (.int (1 : Int32)), .unset, .unset] [])) (fun _ kt => XS.icmpYes X193.here hx rfl (pc0 := 140) (pc' := 148) rfl (hb hby at_140) rfl (tlt c194).2.2.1 (by decide) (by decide) kt) ?_
    refine Rch.of (T' := T193) (g' := (mkF m 150 #[.val (.int p0), .val (.int p1), .val (.int p2), .val (.ref b158), .val (.ref b159), .val (.ref b160), .val (.ref b163), .val (.int (ob ((0 : Int32) < p0))), .val (.int (ob ((0 : Int32) < p1))), .val (.int (0 : Int32)), .val (.int (1 : Int32)), .unset, .unset] [(.int (ob ((0 : Int32) < p1)))])) (fun _ kt => XS.iload X193.here hx rfl (hb hby at_148) rfl  kt) ?_
    refine Rch.of (T' := T193) (g' := (mkF m 152 #[.val (.int p0), .val (.int p1), .val (.int p2), .val (.ref b158), .val (.ref b159), .val (.ref b160), .val (.ref b163), .val (.int (ob ((0 : Int32) < p0))), .val (.int (ob ((0 : Int32) < p1))), .val (.int (0 : Int32)), .val (.int (1 : Int32)), .val (.int (ob ((0 : Int32) < p1))), .unset] [])) (fun _ kt => XS.istore X193.here hx rfl (hb hby at_150) rfl (l' := #[.val (.int p0), .val (.int p1), .val (.int p2), .val (.ref b158), .val (.ref b159), .val (.ref b160), .val (.ref b163), .val (.int (ob ((0 : Int32) < p0))), .val (.int (ob ((0 : Int32) < p1))), .val (.int (0 : Int32)), .val (.int (1 : Int32)), .val (.int (ob ((0 : Int32) < p1))), .unset]) rfl kt) ?_
    refine Rch.of (T' := T193) (g' := (mkF m 153 #[.val (.int p0), .val (.int p1), .val (.int p2), .val (.ref b158), .val (.ref b159), .val (.ref b160), .val (.ref b163), .val (.int (ob ((0 : Int32) < p0))), .val (.int (ob ((0 : Int32) < p1))), .val (.int (0 : Int32)), .val (.int (1 : Int32)), .val (.int (ob ((0 : Int32) < p1))), .unset] [(.int p0)])) (fun _ kt => XS.iloadN X193.here hx rfl (hb hby at_152) rfl  kt) ?_
    refine Rch.of (T' := T193) (g' := (mkF m 154 #[.val (.int p0), .val (.int p1), .val (.int p2), .val (.ref b158), .val (.ref b159), .val (.ref b160), .val (.ref b163), .val (.int (ob ((0 : Int32) < p0))), .val (.int (ob ((0 : Int32) < p1))), .val (.int (0 : Int32)), .val (.int (1 : Int32)), .val (.int (ob ((0 : Int32) < p1))), .unset] [(.int p1), (.int p0)])) (fun _ kt => XS.iloadN X193.here hx rfl (hb hby at_153) rfl  kt) ?_
    refine Rch.of (T' := T193) (g' := (mkF m 162 #[.val (.int p0), .val (.int p1), .val (.int p2), .val (.ref b158), .val (.ref b159), .val (.ref b160), .val (.ref b163), .val (.int (ob ((0 : Int32) < p0))), .val (.int (ob ((0 : Int32) < p1))), .val (.int (0 : Int32)), .val (.int (1 : Int32)), .val (.int (ob ((0 : Int32) < p1))), .unset] [])) (fun _ kt => XS.icmpYes X193.here hx rfl (pc0 := 154) (pc' := 162) rfl (hb hby at_154) rfl (tlt c194).2.2.1 (by decide) (by decide) kt) ?_
    refine Rch.of (T' := T193) (g' := (mkF m 164 #[.val (.int p0), .val (.int p1), .val (.int p2), .val (.ref b158), .val (.ref b159), .val (.ref b160), .val (.ref b163), .val (.int (ob ((0 : Int32) < p0))), .val (.int (ob ((0 : Int32) < p1))), .val (.int (0 : Int32)), .val (.int (1 : Int32)), .val (.int (ob ((0 : Int32) < p1))), .unset] [(.int (ob ((0 : Int32) < p0)))])) (fun _ kt => XS.iload X193.here hx rfl (hb hby at_162) rfl  kt) ?_
    refine Rch.of (T' := T193) (g' := (mkF m 166 #[.val (.int p0), .val (.int p1), .val (.int p2), .val (.ref b158), .val (.ref b159), .val (.ref b160), .val (.ref b163), .val (.int (ob ((0 : Int32) < p0))), .val (.int (ob ((0 : Int32) < p1))), .val (.int (0 : Int32)), .val (.int (1 : Int32)), .val (.int (ob ((0 : Int32) < p1))), .val (.int (ob ((0 : Int32) < p0)))] [])) (fun _ kt => XS.istore X193.here hx rfl (hb hby at_164) rfl (l' := #[.val (.int p0), .val (.int p1), .val (.int p2), .val (.ref b158), .val (.ref b159), .val (.ref b160), .val (.ref b163), .val (.int (ob ((0 : Int32) < p0))), .val (.int (ob ((0 : Int32) < p1))), .val (.int (0 : Int32)), .val (.int (1 : Int32)), .val (.int (ob ((0 : Int32) < p1))), .val (.int (ob ((0 : Int32) < p0)))]) rfl kt) ?_
    refine Rch.of (T' := T193) (g' := (mkF m 168 #[.val (.int p0), .val (.int p1), .val (.int p2), .val (.ref b158), .val (.ref b159), .val (.ref b160), .val (.ref b163), .val (.int (ob ((0 : Int32) < p0))), .val (.int (ob ((0 : Int32) < p1))), .val (.int (0 : Int32)), .val (.int (1 : Int32)), .val (.int (ob ((0 : Int32) < p1))), .val (.int (ob ((0 : Int32) < p0)))] [(.int (0 : Int32))])) (fun _ kt => XS.iload X193.here hx rfl (hb hby at_166) rfl  kt) ?_
    refine Rch.of (T' := T193) (g' := (mkF m 171 #[.val (.int p0), .val (.int p1), .val (.int p2), .val (.ref b158), .val (.ref b159), .val (.ref b160), .val (.ref b163), .val (.int (ob ((0 : Int32) < p0))), .val (.int (ob ((0 : Int32) < p1))), .val (.int (0 : Int32)), .val (.int (1 : Int32)), .val (.int (ob ((0 : Int32) < p1))), .val (.int (ob ((0 : Int32) < p0)))] [])) (fun _ kt => XS.ifNo X193.here hx rfl (hb hby at_168) rfl ((if0 _ _).trans (teq ((by decide) : (0 : Int32) = (0 : Int32))).2) kt) ?_
    refine Rch.of (T' := T193) (g' := (mkF m 173 #[.val (.int p0), .val (.int p1), .val (.int p2), .val (.ref b158), .val (.ref b159), .val (.ref b160), .val (.ref b163), .val (.int (ob ((0 : Int32) < p0))), .val (.int (ob ((0 : Int32) < p1))), .val (.int (0 : Int32)), .val (.int (1 : Int32)), .val (.int (ob ((0 : Int32) < p1))), .val (.int (ob ((0 : Int32) < p0)))] [(.int (1 : Int32))])) (fun _ kt => XS.iload X193.here hx rfl (hb hby at_171) rfl  kt) ?_
    refine Rch.of (T' := T193) (g' := (mkF m 176 #[.val (.int p0), .val (.int p1), .val (.int p2), .val (.ref b158), .val (.ref b159), .val (.ref b160), .val (.ref b163), .val (.int (ob ((0 : Int32) < p0))), .val (.int (ob ((0 : Int32) < p1))), .val (.int (0 : Int32)), .val (.int (1 : Int32)), .val (.int (ob ((0 : Int32) < p1))), .val (.int (ob ((0 : Int32) < p0)))] [])) (fun _ kt => XS.ifNo X193.here hx rfl (hb hby at_173) rfl ((if0 _ _).trans (feq ((by decide) : ¬ ((1 : Int32) = (0 : Int32)))).1) kt) ?_
    refine Rch.of (T' := T193) (g' := (mkF m 178 #[.val (.int p0), .val (.int p1), .val (.int p2), .val (.ref b158), .val (.ref b159), .val (.ref b160), .val (.ref b163), .val (.int (ob ((0 : Int32) < p0))), .val (.int (ob ((0 : Int32) < p1))), .val (.int (0 : Int32)), .val (.int (1 : Int32)), .val (.int (ob ((0 : Int32) < p1))), .val (.int (ob ((0 : Int32) < p0)))] [(.int (ob ((0 : Int32) < p1)))])) (fun _ kt => XS.iload X193.here hx rfl (hb hby at_176) rfl  kt) ?_
    by_cases c195 : (ob ((0 : Int32) < p1)) = (0 : Int32)
    · skip
      refine Rch.of (T' := T193) (g' := (mkF m 186 #[.val (.int p0), .val (.int p1), .val (.int p2), .val (.ref b158), .val (.ref b159), .val (.ref b160), .val (.ref b163), .val (.int (ob ((0 : Int32) < p0))), .val (.int (ob ((0 : Int32) < p1))), .val (.int (0 : Int32)), .val (.int (1 : Int32)), .val (.int (ob ((0 : Int32) < p1))), .val (.int (ob ((0 : Int32) < p0)))] [])) (fun _ kt => XS.ifYes X193.here hx rfl (pc0 := 178) (pc' := 186) rfl (hb hby at_178) rfl ((if0 _ _).trans (teq c195).1) (by decide) (by decide) kt) ?_
      refine Rch.of (T' := T193) (g' := (mkF m 187 #[.val (.int p0), .val (.int p1), .val (.int p2), .val (.ref b158), .val (.ref b159), .val (.ref b160), .val (.ref b163), .val (.int (ob ((0 : Int32) < p0))), .val (.int (ob ((0 : Int32) < p1))), .val (.int (0 : Int32)), .val (.int (1 : Int32)), .val (.int (ob ((0 : Int32) < p1))), .val (.int (ob ((0 : Int32) < p0)))] [(.int (1 : Int32))])) (fun _ kt => XS.iconst X193.here hx rfl (hb hby at_186) kt) ?_
      refine Rch.of (T' := T193) (g' := (mkF m 191 #[.val (.int p0), .val (.int p1), .val (.int p2), .val (.ref b158), .val (.ref b159), .val (.ref b160), .val (.ref b163), .val (.int (ob ((0 : Int32) < p0))), .val (.int (ob ((0 : Int32) < p1))), .val (.int (0 : Int32)), .val (.int (1 : Int32)), .val (.int (ob ((0 : Int32) < p1))), .val (.int (ob ((0 : Int32) < p0)))] [(.int (1 : Int32))])) (fun _ kt => XS.goto X193.here hx rfl (pc0 := 187) (pc' := 191) rfl (hb hby at_187) (by decide) (by decide) kt) ?_
      exact Rch.retN X193 hx (t := .boolean) hret (by simp) hlk (hb hby at_191) (fun U hU hF => hK _ U _ _ _ (by show Q_rm0 Z p0 p1 p2 cs h0 n0 _ U.heap _; rw [hU, hQ193]; exact ⟨rfl, N193, trivial⟩) (own_end hS188 (by rw [hU, hQ193]; exact (Nat.le_refl _)) hF) (by decide) (by decide))
    · skip
      refine Rch.of (T' := T193) (g' := (mkF m 181 #[.val (.int p0), .val (.int p1), .val (.int p2), .val (.ref b158), .val (.ref b159), .val (.ref b160), .val (.ref b163), .val (.int (ob ((0 : Int32) < p0))), .val (.int (ob ((0 : Int32) < p1))), .val (.int (0 : Int32)), .val (.int (1 : Int32)), .val (.int (ob ((0 : Int32) < p1))), .val (.int (ob ((0 : Int32) < p0)))] [])) (fun _ kt => XS.ifNo X193.here hx rfl (hb hby at_178) rfl ((if0 _ _).trans (feq c195).1) kt) ?_
      have hlo : (ob ((0 : Int32) < p1)) = 1 := (ob01 _).resolve_left c195
      have hhi : (ob ((0 : Int32) < p0)) = 1 := own_mono (Int32.lt_asymm c194) hlo
      refine Rch.of (T' := T193) (g' := (mkF m 183 #[.val (.int p0), .val (.int p1), .val (.int p2), .val (.ref b158), .val (.ref b159), .val (.ref b160), .val (.ref b163), .val (.int (ob ((0 : Int32) < p0))), .val (.int (ob ((0 : Int32) < p1))), .val (.int (0 : Int32)), .val (.int (1 : Int32)), .val (.int (ob ((0 : Int32) < p1))), .val (.int (ob ((0 : Int32) < p0)))] [(.int (ob ((0 : Int32) < p0)))])) (fun _ kt => XS.iload X193.here hx rfl (hb hby at_181) rfl  kt) ?_
      refine Rch.of (T' := T193) (g' := (mkF m 186 #[.val (.int p0), .val (.int p1), .val (.int p2), .val (.ref b158), .val (.ref b159), .val (.ref b160), .val (.ref b163), .val (.int (ob ((0 : Int32) < p0))), .val (.int (ob ((0 : Int32) < p1))), .val (.int (0 : Int32)), .val (.int (1 : Int32)), .val (.int (ob ((0 : Int32) < p1))), .val (.int (ob ((0 : Int32) < p0)))] [])) (fun _ kt => XS.ifNo X193.here hx rfl (hb hby at_183) rfl ((if0 _ _).trans (feq (fun q => absurd (q.symm.trans hhi) (by decide))).1) kt) ?_
      refine Rch.of (T' := T193) (g' := (mkF m 187 #[.val (.int p0), .val (.int p1), .val (.int p2), .val (.ref b158), .val (.ref b159), .val (.ref b160), .val (.ref b163), .val (.int (ob ((0 : Int32) < p0))), .val (.int (ob ((0 : Int32) < p1))), .val (.int (0 : Int32)), .val (.int (1 : Int32)), .val (.int (ob ((0 : Int32) < p1))), .val (.int (ob ((0 : Int32) < p0)))] [(.int (1 : Int32))])) (fun _ kt => XS.iconst X193.here hx rfl (hb hby at_186) kt) ?_
      refine Rch.of (T' := T193) (g' := (mkF m 191 #[.val (.int p0), .val (.int p1), .val (.int p2), .val (.ref b158), .val (.ref b159), .val (.ref b160), .val (.ref b163), .val (.int (ob ((0 : Int32) < p0))), .val (.int (ob ((0 : Int32) < p1))), .val (.int (0 : Int32)), .val (.int (1 : Int32)), .val (.int (ob ((0 : Int32) < p1))), .val (.int (ob ((0 : Int32) < p0)))] [(.int (1 : Int32))])) (fun _ kt => XS.goto X193.here hx rfl (pc0 := 187) (pc' := 191) rfl (hb hby at_187) (by decide) (by decide) kt) ?_
      exact Rch.retN X193 hx (t := .boolean) hret (by simp) hlk (hb hby at_191) (fun U hU hF => hK _ U _ _ _ (by show Q_rm0 Z p0 p1 p2 cs h0 n0 _ U.heap _; rw [hU, hQ193]; exact ⟨rfl, N193, trivial⟩) (own_end hS188 (by rw [hU, hQ193]; exact (Nat.le_refl _)) hF) (by decide) (by decide))
  · skip
    refine Rch.of (T' := T193) (g' := (mkF m 143 #[.val (.int p0), .val (.int p1), .val (.int p2), .val (.ref b158), .val (.ref b159), .val (.ref b160), .val (.ref b163), .val (.int (ob ((0 : Int32) < p0))), .val (.int (ob ((0 : Int32) < p1))), .val (.int (0 : Int32)), .val (.int (1 : Int32)), .unset, .unset] [])) (fun _ kt => XS.icmpNo X193.here hx rfl (hb hby at_140) rfl (flt c194).2.2.1 kt) ?_
    refine Rch.of (T' := T193) (g' := (mkF m 145 #[.val (.int p0), .val (.int p1), .val (.int p2), .val (.ref b158), .val (.ref b159), .val (.ref b160), .val (.ref b163), .val (.int (ob ((0 : Int32) < p0))), .val (.int (ob ((0 : Int32) < p1))), .val (.int (0 : Int32)), .val (.int (1 : Int32)), .unset, .unset] [(.int (ob ((0 : Int32) < p0)))])) (fun _ kt => XS.iload X193.here hx rfl (hb hby at_143) rfl  kt) ?_
    refine Rch.of (T' := T193) (g' := (mkF m 150 #[.val (.int p0), .val (.int p1), .val (.int p2), .val (.ref b158), .val (.ref b159), .val (.ref b160), .val (.ref b163), .val (.int (ob ((0 : Int32) < p0))), .val (.int (ob ((0 : Int32) < p1))), .val (.int (0 : Int32)), .val (.int (1 : Int32)), .unset, .unset] [(.int (ob ((0 : Int32) < p0)))])) (fun _ kt => XS.goto X193.here hx rfl (pc0 := 145) (pc' := 150) rfl (hb hby at_145) (by decide) (by decide) kt) ?_
    refine Rch.of (T' := T193) (g' := (mkF m 152 #[.val (.int p0), .val (.int p1), .val (.int p2), .val (.ref b158), .val (.ref b159), .val (.ref b160), .val (.ref b163), .val (.int (ob ((0 : Int32) < p0))), .val (.int (ob ((0 : Int32) < p1))), .val (.int (0 : Int32)), .val (.int (1 : Int32)), .val (.int (ob ((0 : Int32) < p0))), .unset] [])) (fun _ kt => XS.istore X193.here hx rfl (hb hby at_150) rfl (l' := #[.val (.int p0), .val (.int p1), .val (.int p2), .val (.ref b158), .val (.ref b159), .val (.ref b160), .val (.ref b163), .val (.int (ob ((0 : Int32) < p0))), .val (.int (ob ((0 : Int32) < p1))), .val (.int (0 : Int32)), .val (.int (1 : Int32)), .val (.int (ob ((0 : Int32) < p0))), .unset]) rfl kt) ?_
    refine Rch.of (T' := T193) (g' := (mkF m 153 #[.val (.int p0), .val (.int p1), .val (.int p2), .val (.ref b158), .val (.ref b159), .val (.ref b160), .val (.ref b163), .val (.int (ob ((0 : Int32) < p0))), .val (.int (ob ((0 : Int32) < p1))), .val (.int (0 : Int32)), .val (.int (1 : Int32)), .val (.int (ob ((0 : Int32) < p0))), .unset] [(.int p0)])) (fun _ kt => XS.iloadN X193.here hx rfl (hb hby at_152) rfl  kt) ?_
    refine Rch.of (T' := T193) (g' := (mkF m 154 #[.val (.int p0), .val (.int p1), .val (.int p2), .val (.ref b158), .val (.ref b159), .val (.ref b160), .val (.ref b163), .val (.int (ob ((0 : Int32) < p0))), .val (.int (ob ((0 : Int32) < p1))), .val (.int (0 : Int32)), .val (.int (1 : Int32)), .val (.int (ob ((0 : Int32) < p0))), .unset] [(.int p1), (.int p0)])) (fun _ kt => XS.iloadN X193.here hx rfl (hb hby at_153) rfl  kt) ?_
    refine Rch.of (T' := T193) (g' := (mkF m 157 #[.val (.int p0), .val (.int p1), .val (.int p2), .val (.ref b158), .val (.ref b159), .val (.ref b160), .val (.ref b163), .val (.int (ob ((0 : Int32) < p0))), .val (.int (ob ((0 : Int32) < p1))), .val (.int (0 : Int32)), .val (.int (1 : Int32)), .val (.int (ob ((0 : Int32) < p0))), .unset] [])) (fun _ kt => XS.icmpNo X193.here hx rfl (hb hby at_154) rfl (flt c194).2.2.1 kt) ?_
    refine Rch.of (T' := T193) (g' := (mkF m 159 #[.val (.int p0), .val (.int p1), .val (.int p2), .val (.ref b158), .val (.ref b159), .val (.ref b160), .val (.ref b163), .val (.int (ob ((0 : Int32) < p0))), .val (.int (ob ((0 : Int32) < p1))), .val (.int (0 : Int32)), .val (.int (1 : Int32)), .val (.int (ob ((0 : Int32) < p0))), .unset] [(.int (ob ((0 : Int32) < p1)))])) (fun _ kt => XS.iload X193.here hx rfl (hb hby at_157) rfl  kt) ?_
    refine Rch.of (T' := T193) (g' := (mkF m 164 #[.val (.int p0), .val (.int p1), .val (.int p2), .val (.ref b158), .val (.ref b159), .val (.ref b160), .val (.ref b163), .val (.int (ob ((0 : Int32) < p0))), .val (.int (ob ((0 : Int32) < p1))), .val (.int (0 : Int32)), .val (.int (1 : Int32)), .val (.int (ob ((0 : Int32) < p0))), .unset] [(.int (ob ((0 : Int32) < p1)))])) (fun _ kt => XS.goto X193.here hx rfl (pc0 := 159) (pc' := 164) rfl (hb hby at_159) (by decide) (by decide) kt) ?_
    refine Rch.of (T' := T193) (g' := (mkF m 166 #[.val (.int p0), .val (.int p1), .val (.int p2), .val (.ref b158), .val (.ref b159), .val (.ref b160), .val (.ref b163), .val (.int (ob ((0 : Int32) < p0))), .val (.int (ob ((0 : Int32) < p1))), .val (.int (0 : Int32)), .val (.int (1 : Int32)), .val (.int (ob ((0 : Int32) < p0))), .val (.int (ob ((0 : Int32) < p1)))] [])) (fun _ kt => XS.istore X193.here hx rfl (hb hby at_164) rfl (l' := #[.val (.int p0), .val (.int p1), .val (.int p2), .val (.ref b158), .val (.ref b159), .val (.ref b160), .val (.ref b163), .val (.int (ob ((0 : Int32) < p0))), .val (.int (ob ((0 : Int32) < p1))), .val (.int (0 : Int32)), .val (.int (1 : Int32)), .val (.int (ob ((0 : Int32) < p0))), .val (.int (ob ((0 : Int32) < p1)))]) rfl kt) ?_
    refine Rch.of (T' := T193) (g' := (mkF m 168 #[.val (.int p0), .val (.int p1), .val (.int p2), .val (.ref b158), .val (.ref b159), .val (.ref b160), .val (.ref b163), .val (.int (ob ((0 : Int32) < p0))), .val (.int (ob ((0 : Int32) < p1))), .val (.int (0 : Int32)), .val (.int (1 : Int32)), .val (.int (ob ((0 : Int32) < p0))), .val (.int (ob ((0 : Int32) < p1)))] [(.int (0 : Int32))])) (fun _ kt => XS.iload X193.here hx rfl (hb hby at_166) rfl  kt) ?_
    refine Rch.of (T' := T193) (g' := (mkF m 171 #[.val (.int p0), .val (.int p1), .val (.int p2), .val (.ref b158), .val (.ref b159), .val (.ref b160), .val (.ref b163), .val (.int (ob ((0 : Int32) < p0))), .val (.int (ob ((0 : Int32) < p1))), .val (.int (0 : Int32)), .val (.int (1 : Int32)), .val (.int (ob ((0 : Int32) < p0))), .val (.int (ob ((0 : Int32) < p1)))] [])) (fun _ kt => XS.ifNo X193.here hx rfl (hb hby at_168) rfl ((if0 _ _).trans (teq ((by decide) : (0 : Int32) = (0 : Int32))).2) kt) ?_
    refine Rch.of (T' := T193) (g' := (mkF m 173 #[.val (.int p0), .val (.int p1), .val (.int p2), .val (.ref b158), .val (.ref b159), .val (.ref b160), .val (.ref b163), .val (.int (ob ((0 : Int32) < p0))), .val (.int (ob ((0 : Int32) < p1))), .val (.int (0 : Int32)), .val (.int (1 : Int32)), .val (.int (ob ((0 : Int32) < p0))), .val (.int (ob ((0 : Int32) < p1)))] [(.int (1 : Int32))])) (fun _ kt => XS.iload X193.here hx rfl (hb hby at_171) rfl  kt) ?_
    refine Rch.of (T' := T193) (g' := (mkF m 176 #[.val (.int p0), .val (.int p1), .val (.int p2), .val (.ref b158), .val (.ref b159), .val (.ref b160), .val (.ref b163), .val (.int (ob ((0 : Int32) < p0))), .val (.int (ob ((0 : Int32) < p1))), .val (.int (0 : Int32)), .val (.int (1 : Int32)), .val (.int (ob ((0 : Int32) < p0))), .val (.int (ob ((0 : Int32) < p1)))] [])) (fun _ kt => XS.ifNo X193.here hx rfl (hb hby at_173) rfl ((if0 _ _).trans (feq ((by decide) : ¬ ((1 : Int32) = (0 : Int32)))).1) kt) ?_
    refine Rch.of (T' := T193) (g' := (mkF m 178 #[.val (.int p0), .val (.int p1), .val (.int p2), .val (.ref b158), .val (.ref b159), .val (.ref b160), .val (.ref b163), .val (.int (ob ((0 : Int32) < p0))), .val (.int (ob ((0 : Int32) < p1))), .val (.int (0 : Int32)), .val (.int (1 : Int32)), .val (.int (ob ((0 : Int32) < p0))), .val (.int (ob ((0 : Int32) < p1)))] [(.int (ob ((0 : Int32) < p0)))])) (fun _ kt => XS.iload X193.here hx rfl (hb hby at_176) rfl  kt) ?_
    by_cases c196 : (ob ((0 : Int32) < p0)) = (0 : Int32)
    · skip
      refine Rch.of (T' := T193) (g' := (mkF m 186 #[.val (.int p0), .val (.int p1), .val (.int p2), .val (.ref b158), .val (.ref b159), .val (.ref b160), .val (.ref b163), .val (.int (ob ((0 : Int32) < p0))), .val (.int (ob ((0 : Int32) < p1))), .val (.int (0 : Int32)), .val (.int (1 : Int32)), .val (.int (ob ((0 : Int32) < p0))), .val (.int (ob ((0 : Int32) < p1)))] [])) (fun _ kt => XS.ifYes X193.here hx rfl (pc0 := 178) (pc' := 186) rfl (hb hby at_178) rfl ((if0 _ _).trans (teq c196).1) (by decide) (by decide) kt) ?_
      refine Rch.of (T' := T193) (g' := (mkF m 187 #[.val (.int p0), .val (.int p1), .val (.int p2), .val (.ref b158), .val (.ref b159), .val (.ref b160), .val (.ref b163), .val (.int (ob ((0 : Int32) < p0))), .val (.int (ob ((0 : Int32) < p1))), .val (.int (0 : Int32)), .val (.int (1 : Int32)), .val (.int (ob ((0 : Int32) < p0))), .val (.int (ob ((0 : Int32) < p1)))] [(.int (1 : Int32))])) (fun _ kt => XS.iconst X193.here hx rfl (hb hby at_186) kt) ?_
      refine Rch.of (T' := T193) (g' := (mkF m 191 #[.val (.int p0), .val (.int p1), .val (.int p2), .val (.ref b158), .val (.ref b159), .val (.ref b160), .val (.ref b163), .val (.int (ob ((0 : Int32) < p0))), .val (.int (ob ((0 : Int32) < p1))), .val (.int (0 : Int32)), .val (.int (1 : Int32)), .val (.int (ob ((0 : Int32) < p0))), .val (.int (ob ((0 : Int32) < p1)))] [(.int (1 : Int32))])) (fun _ kt => XS.goto X193.here hx rfl (pc0 := 187) (pc' := 191) rfl (hb hby at_187) (by decide) (by decide) kt) ?_
      exact Rch.retN X193 hx (t := .boolean) hret (by simp) hlk (hb hby at_191) (fun U hU hF => hK _ U _ _ _ (by show Q_rm0 Z p0 p1 p2 cs h0 n0 _ U.heap _; rw [hU, hQ193]; exact ⟨rfl, N193, trivial⟩) (own_end hS188 (by rw [hU, hQ193]; exact (Nat.le_refl _)) hF) (by decide) (by decide))
    · skip
      refine Rch.of (T' := T193) (g' := (mkF m 181 #[.val (.int p0), .val (.int p1), .val (.int p2), .val (.ref b158), .val (.ref b159), .val (.ref b160), .val (.ref b163), .val (.int (ob ((0 : Int32) < p0))), .val (.int (ob ((0 : Int32) < p1))), .val (.int (0 : Int32)), .val (.int (1 : Int32)), .val (.int (ob ((0 : Int32) < p0))), .val (.int (ob ((0 : Int32) < p1)))] [])) (fun _ kt => XS.ifNo X193.here hx rfl (hb hby at_178) rfl ((if0 _ _).trans (feq c196).1) kt) ?_
      have hlo : (ob ((0 : Int32) < p0)) = 1 := (ob01 _).resolve_left c196
      have hhi : (ob ((0 : Int32) < p1)) = 1 := own_mono c194 hlo
      refine Rch.of (T' := T193) (g' := (mkF m 183 #[.val (.int p0), .val (.int p1), .val (.int p2), .val (.ref b158), .val (.ref b159), .val (.ref b160), .val (.ref b163), .val (.int (ob ((0 : Int32) < p0))), .val (.int (ob ((0 : Int32) < p1))), .val (.int (0 : Int32)), .val (.int (1 : Int32)), .val (.int (ob ((0 : Int32) < p0))), .val (.int (ob ((0 : Int32) < p1)))] [(.int (ob ((0 : Int32) < p1)))])) (fun _ kt => XS.iload X193.here hx rfl (hb hby at_181) rfl  kt) ?_
      refine Rch.of (T' := T193) (g' := (mkF m 186 #[.val (.int p0), .val (.int p1), .val (.int p2), .val (.ref b158), .val (.ref b159), .val (.ref b160), .val (.ref b163), .val (.int (ob ((0 : Int32) < p0))), .val (.int (ob ((0 : Int32) < p1))), .val (.int (0 : Int32)), .val (.int (1 : Int32)), .val (.int (ob ((0 : Int32) < p0))), .val (.int (ob ((0 : Int32) < p1)))] [])) (fun _ kt => XS.ifNo X193.here hx rfl (hb hby at_183) rfl ((if0 _ _).trans (feq (fun q => absurd (q.symm.trans hhi) (by decide))).1) kt) ?_
      refine Rch.of (T' := T193) (g' := (mkF m 187 #[.val (.int p0), .val (.int p1), .val (.int p2), .val (.ref b158), .val (.ref b159), .val (.ref b160), .val (.ref b163), .val (.int (ob ((0 : Int32) < p0))), .val (.int (ob ((0 : Int32) < p1))), .val (.int (0 : Int32)), .val (.int (1 : Int32)), .val (.int (ob ((0 : Int32) < p0))), .val (.int (ob ((0 : Int32) < p1)))] [(.int (1 : Int32))])) (fun _ kt => XS.iconst X193.here hx rfl (hb hby at_186) kt) ?_
      refine Rch.of (T' := T193) (g' := (mkF m 191 #[.val (.int p0), .val (.int p1), .val (.int p2), .val (.ref b158), .val (.ref b159), .val (.ref b160), .val (.ref b163), .val (.int (ob ((0 : Int32) < p0))), .val (.int (ob ((0 : Int32) < p1))), .val (.int (0 : Int32)), .val (.int (1 : Int32)), .val (.int (ob ((0 : Int32) < p0))), .val (.int (ob ((0 : Int32) < p1)))] [(.int (1 : Int32))])) (fun _ kt => XS.goto X193.here hx rfl (pc0 := 187) (pc' := 191) rfl (hb hby at_187) (by decide) (by decide) kt) ?_
      exact Rch.retN X193 hx (t := .boolean) hret (by simp) hlk (hb hby at_191) (fun U hU hF => hK _ U _ _ _ (by show Q_rm0 Z p0 p1 p2 cs h0 n0 _ U.heap _; rw [hU, hQ193]; exact ⟨rfl, N193, trivial⟩) (own_end hS188 (by rw [hU, hQ193]; exact (Nat.le_refl _)) hF) (by decide) (by decide))
set_option maxRecDepth 65536 in
set_option maxHeartbeats 40000000 in
theorem comes_1 {Post : Tables → Env → Array Value → State → Outcome → State → Prop} (hpost : ∀ tb e args s v u, (limb_1_1.after args s (.returned v) u = true ∧ limb_1_2.after args s (.returned v) u = true ∧ True) → ReturnedEndW s (.returned v) u (Jvm.fieldLocs frame_1_writes args s ++ Jvm.arrayLocs frame_1_arrays args s ++ Jvm.staticLocs frame_1_statics s) 40 3264 → Post tb e args s (.returned v) u) :
    ArmFor flags0 classFile x code maxLocals ret World_1 tables_1 room_1 Calls_1 rest_1 Pre_1 Post := by
  intro l hfl _ _ p e ha hc hk s m args below hf hA hF happ hP
  obtain ⟨hcalls, hrest, hpre⟩ := hP
  obtain ⟨-, -, -, hnamed, -, -, -, hat⟩ := (Spec.applies_iff hf).mp happ
  obtain ⟨hg, hn⟩ := and_e (Cond.before_iff.mp (show (Jvm.Cond.and given_1 narrow_1).before args s = true from hpre))
  obtain ⟨g0, hg0⟩ := and_e hg
  obtain ⟨ga0, hg1⟩ := and_e hg0
  obtain ⟨ga1, hg2⟩ := and_e hg1
  obtain ⟨w0, w1, w2, rfl⟩ : ∃ w0 w1 w2 : Value, args = #[w0, w1, w2] := by
    have hs : args.size = 3 := by simpa [Cond.value, given_1] using g0
    obtain ⟨L⟩ := args
    match L, hs with
    | [w0, w1, w2], _ => exact ⟨w0, w1, w2, rfl⟩
  have hw := fun d (hd : d ∈ tables_1) => atoms_spec (ws := Jvm.Cond.code x code maxLocals ret :: tables_1) hat d (List.mem_cons_of_mem _ hd)
  obtain ⟨hsets, hown0⟩ := atoms_of _ (rest_1_c_eq ▸ (show rest_1_c.before _ s = true from hrest))
  obtain ⟨i0, ei0⟩ := is_v ga0
  obtain rfl : w0 = (.int i0) := Option.some.inj ei0
  obtain ⟨i1, ei1⟩ := is_v ga1
  obtain rfl : w1 = (.int i1) := Option.some.inj ei1
  obtain ⟨i2, ei2⟩ := is_v hg2
  obtain rfl : w2 = (.int i2) := Option.some.inj ei2
  have hfit : Fit s := fun {y c} hc i hi => by
    obtain ⟨ha, rfl⟩ := Array.getElem?_eq_some_iff.mp hc
    have q := List.all_eq_true.mp ((Array.all_eq_true_iff_forall_mem.mp hF) _ (Array.getElem_mem ha)) i (List.mem_range.mpr hi)
    simpa [Array.getElem?_eq_getElem hi] using q
  have q1 := Cond.before_iff.mp (hsets _ (List.mem_of_getElem? (i := 1) rfl))
  have q2 := Cond.before_iff.mp (hsets _ (List.mem_of_getElem? (i := 2) rfl))
  obtain ⟨cs, ec⟩ := is_v q1
  have Sc := Sta.start ec (Or.inl (hsets _ (List.mem_of_getElem? (i := 0) rfl)))
  have hcs : ¬ cs = (0 : Int32) := fun q => by
    have q3 := not_v q2
    rw [q] at ec
    rw [eq_i (y := .int 0) ec rfl rfl] at q3
    exact absurd q3 (by decide)
  obtain ⟨n, o, h1, h2, h3, _, L, rfl, ⟨rfl, N, -⟩, hq⟩ := rm0 l s _ hw tables_1 i0 i1 i2 cs s.heap s.heap.size (Nat.le_refl _) (Old.start s) Sc hcs p e ha hc hk s m _ below hf ((Spec.applies_iff_loose hf).mp happ).1 ⟨rfl, State.Warmed39.refl s, rfl⟩ trivial
  refine ⟨n, _, h1, h2, h3, hpost _ _ _ _ _ _ ⟨Cond.after_iff.mpr rfl, Cond.after_iff.mpr (eq_i res_at (Term.int_eval (1)) rfl), trivial⟩ ⟨hq.1, hq.2.1, hq.2.2.1, (hq.2.2.2.sift fun y hy => Or.inr (N y hy)).mono (by decide) (by decide)⟩⟩
theorem main_1_1 : Claimed_1_1 := comes_1 fun _ _ _ _ _ _ h hF => ⟨h.1, hF⟩
theorem main_1_2 : Claimed_1_2 := comes_1 fun _ _ _ _ _ _ h hF => ⟨h.2.1, hF⟩
end Jvm.Pilot.@@N@@
namespace Jvm.Pilot.@@N@@
open Jvm Jvm.ClassFile Sem Op Lib Jvm.Free Jvm.Stand Jvm.Pilot.@@N@@.Jvm.D
/-! MADE BY PROGRAM (witnessworld.py) out of the Statement's table words and the real class files: 21 classes; the members and pool entries that the words name. The judged class is class 1, her method 1. -/
namespace start1
open Jvm.ClassFile
def u (s : String) : CpInfo := .utf8 (stringToUtf16 s)
/-- a pool by its gaps: so many unusable entries, then the entry; so many at the end -/
def gap : Nat → List CpInfo → List CpInfo
  | 0, r => r
  | n + 1, r => .unusable :: gap n r
def poolList (es : List (Nat × CpInfo)) (last : Nat) : List CpInfo := es.foldr (fun e r => gap e.1 (e.2 :: r)) (gap last [])
def pool (es : List (Nat × CpInfo)) (last : Nat) : Array CpInfo := ⟨poolList es last⟩
def fileOf (pool : Array CpInfo) (this : Nat) (attrs : Array Attribute := #[]) (ms : Array MethodInfo := #[]) (fl : Nat := 33) (sup : Nat := 0) (ifs : Array Nat := #[]) (fds : Array FieldInfo := #[]) : ClassFile where
  minorVersion := 0
  majorVersion := 65
  constantPool := pool
  accessFlags := fl
  thisClass := this
  superClass := sup
  interfaces := ifs
  fields := fds
  methods := ms
  attributes := attrs
def plain (name : String) (sup : Option ClassId) : Class where
  name := name
  kind := .ordinary
  loader := none
  accessFlags := 33
  super := sup
  interfaces := #[]
  cf := none
  fields := #[]
  methods := #[]
  instanceTypes := #[]
  staticTypes := #[]
  resolved := #[]
  callSites := []
  init := .initialized
  statics := none
  mirror := none

def pool0 : Array CpInfo := pool [(5, u "<init>"), (0, u "()V"), (1, .class_ 10), (1, u "java/lang/Object")] 113

def k0c0 : Code := { maxStack := 0, maxLocals := 1, code := object_method_1_code, exceptionTable := #[], attributes := #[] }
def k0m0 : Method := { name := "<init>", desc := "()V", sig := { parameters := [], returnType := none }, accessFlags := 1, code := some k0c0 }
/-- java/lang/Object -/
def k0 : Class := { plain "java/lang/Object" none with
  accessFlags := 33
  interfaces := #[]
  cf := some (fileOf pool0 8 #[] #[{ accessFlags := 1, nameIndex := 5, descriptorIndex := 6, attributes := #[] }] 33 0 #[] #[])
  fields := #[]
  methods := #[k0m0]
  instanceTypes := #[]
  staticTypes := #[]
  resolved := Array.replicate 124 none
  statics := none }

def pool1 : Array CpInfo := pool [(2, .class_ 4), (1, u "java/lang/Object"), (0, u "<init>"), (0, u "()V"), (0, .methodref 8 9), (0, .class_ 10), (0, .nameAndType 11 12), (0, u "java/lang/String"), (0, u "valueOf"), (0, u "(C)Ljava/lang/String;"), (0, .methodref 8 14), (0, .nameAndType 5 15), (0, u "([C)V"), (0, .class_ 17), (0, u "com/example/ampliar/ampliar/model/Judgement"), (0, .methodref 16 19), (0, .nameAndType 5 20), (0, u "(Ljava/lang/String;Ljava/lang/String;Ljava/lang/String;I)V"), (0, .methodref 16 22), (0, .nameAndType 23 24), (0, u "isRelevant"), (0, u "()Z"), (0, .class_ 26), (0, u "com/example/ampliar/ampliar/model/JudgementIsRelevantPinLaw"), (2, u "law"), (0, u "(III)Z")] 5

def k1m0 : Method := { name := "<init>", desc := "()V", sig := { parameters := [], returnType := none }, accessFlags := 1, code := none }
def k1c1 : Code := { maxStack := 6, maxLocals := 13, code := code, exceptionTable := #[], attributes := #[] }
def k1m1 : Method := { name := "law", desc := "(III)Z", sig := { parameters := [.int, .int, .int], returnType := some .boolean }, accessFlags := 9, code := some k1c1 }
/-- com/example/ampliar/ampliar/model/JudgementIsRelevantPinLaw -/
def k1 : Class := { plain "com/example/ampliar/ampliar/model/JudgementIsRelevantPinLaw" (some 0) with
  accessFlags := 49
  interfaces := #[]
  cf := some (fileOf pool1 25 #[] #[{ accessFlags := 1, nameIndex := 5, descriptorIndex := 6, attributes := #[] }, { accessFlags := 9, nameIndex := 29, descriptorIndex := 30, attributes := #[] }] 49 2 #[] #[])
  fields := #[]
  methods := #[k1m0, k1m1]
  instanceTypes := #[]
  staticTypes := #[]
  resolved := Array.replicate 36 none
  statics := none }

def pool2 : Array CpInfo := pool [(1, .class_ 2), (0, u "java/io/Serializable"), (0, .class_ 4), (0, u "java/lang/Object")] 2

/-- java/io/Serializable -/
def k2 : Class := { plain "java/io/Serializable" (some 0) with
  accessFlags := 1537
  interfaces := #[]
  cf := some (fileOf pool2 1 #[] #[] 1537 3 #[] #[])
  fields := #[]
  methods := #[]
  instanceTypes := #[]
  staticTypes := #[]
  resolved := Array.replicate 7 none
  statics := none }

def pool3 : Array CpInfo := pool [(1, .class_ 2), (0, u "java/lang/Comparable"), (0, .class_ 4), (0, u "java/lang/Object")] 7

/-- java/lang/Comparable -/
def k3 : Class := { plain "java/lang/Comparable" (some 0) with
  accessFlags := 1537
  interfaces := #[]
  cf := some (fileOf pool3 1 #[] #[] 1537 3 #[] #[])
  fields := #[]
  methods := #[]
  instanceTypes := #[]
  staticTypes := #[]
  resolved := Array.replicate 12 none
  statics := none }

def pool4 : Array CpInfo := pool [(2, .class_ 4), (1, u "java/lang/CharSequence"), (42, .class_ 48), (0, u "java/lang/CharSequence$1CodePointIterator"), (10, .class_ 60), (0, u "java/lang/CharSequence$1CharIterator"), (5, .class_ 67), (0, u "java/lang/Object")] 63

/-- java/lang/CharSequence -/
def k4 : Class := { plain "java/lang/CharSequence" (some 0) with
  accessFlags := 1537
  interfaces := #[]
  cf := some (fileOf pool4 2 #[.nestMembers #[47, 59]] #[] 1537 66 #[] #[])
  fields := #[]
  methods := #[]
  instanceTypes := #[]
  staticTypes := #[]
  resolved := Array.replicate 131 none
  statics := none }

def pool5 : Array CpInfo := pool [(1, .class_ 2), (0, u "java/lang/constant/Constable"), (0, .class_ 4), (0, u "java/lang/Object")] 6

/-- java/lang/constant/Constable -/
def k5 : Class := { plain "java/lang/constant/Constable" (some 0) with
  accessFlags := 1537
  interfaces := #[]
  cf := some (fileOf pool5 1 #[] #[] 1537 3 #[] #[])
  fields := #[]
  methods := #[]
  instanceTypes := #[]
  staticTypes := #[]
  resolved := Array.replicate 11 none
  statics := none }

def pool6 : Array CpInfo := pool [(1, .class_ 2), (0, u "java/lang/constant/ConstantDesc"), (0, .class_ 4), (0, u "java/lang/Object")] 32

/-- java/lang/constant/ConstantDesc -/
def k6 : Class := { plain "java/lang/constant/ConstantDesc" (some 0) with
  accessFlags := 1537
  interfaces := #[]
  cf := some (fileOf pool6 1 #[] #[] 1537 3 #[] #[])
  fields := #[]
  methods := #[]
  instanceTypes := #[]
  staticTypes := #[]
  resolved := Array.replicate 37 none
  statics := none }

def pool7 : Array CpInfo := pool [(1, .methodref 2 3), (0, .class_ 4), (0, .nameAndType 5 6), (0, u "java/lang/Object"), (0, u "<init>"), (0, u "()V"), (2, .fieldref 10 11), (0, .class_ 12), (0, .nameAndType 13 14), (0, u "java/lang/String"), (0, u "value"), (0, u "[B"), (0, .fieldref 10 16), (0, .nameAndType 17 18), (0, u "coder"), (0, u "B"), (2, u "hash"), (0, u "I"), (2, u "hashIsZero"), (0, u "Z"), (0, .methodref 10 28), (0, .nameAndType 5 29), (0, u "([CIILjava/lang/Void;)V"), (8, .fieldref 10 39), (0, .nameAndType 40 26), (0, u "COMPACT_STRINGS"), (1, .class_ 44), (1, u "java/lang/StringUTF16"), (0, u "compress"), (1, .methodref 42 48), (0, .nameAndType 49 50), (0, u "coderFromArrayLen"), (0, u "([BI)B"), (2, u "toBytes"), (53, .class_ 109), (1, u "java/lang/StringLatin1"), (67, .methodref 42 178), (0, .nameAndType 45 179), (0, u "([CII)[B"), (29, .methodref 10 210), (0, .nameAndType 5 211), (0, u "([BB)V"), (157, u "(C)Z"), (205, .class_ 576), (0, u "java/lang/CharSequence"), (22, u "CASE_INSENSITIVE_ORDER"), (0, u "Ljava/util/Comparator;"), (181, u "valueOf"), (0, u "(C)Ljava/lang/String;"), (226, u "([C)V"), (4, .methodref 107 1016), (0, .nameAndType 1017 369), (0, u "canEncode"), (0, .methodref 107 1019), (0, .nameAndType 53 1020), (0, u "(C)[B"), (80, u "serialPersistentFields"), (0, u "[Ljava/io/ObjectStreamField;"), (0, .class_ 1104), (0, u "java/lang/String$CaseInsensitiveComparator"), (1, .class_ 1107), (0, u "java/io/Serializable"), (0, .class_ 1109), (0, u "java/lang/Comparable"), (0, .class_ 1111), (0, u "java/lang/constant/Constable"), (0, .class_ 1113), (0, u "java/lang/constant/ConstantDesc"), (2, u "serialVersionUID"), (0, u "J"), (3, u "REPL"), (0, u "C"), (2, u "LATIN1"), (1, u "UTF16")] 323

def k7m0 : Method := { name := "<init>", desc := "()V", sig := { parameters := [], returnType := none }, accessFlags := 1, code := none }
def k7c1 : Code := { maxStack := 5, maxLocals := 2, code := jdk_42_method_3_code, exceptionTable := #[], attributes := #[] }
def k7m1 : Method := { name := "<init>", desc := "([C)V", sig := { parameters := [(.array .char)], returnType := none }, accessFlags := 1, code := some k7c1 }
def k7c2 : Code := { maxStack := 4, maxLocals := 1, code := jdk_42_method_139_code, exceptionTable := #[], attributes := #[] }
def k7m2 : Method := { name := "valueOf", desc := "(C)Ljava/lang/String;", sig := { parameters := [.char], returnType := some (.object "java/lang/String") }, accessFlags := 9, code := some k7c2 }
def k7c3 : Code := { maxStack := 4, maxLocals := 6, code := jdk_42_method_149_code, exceptionTable := #[], attributes := #[] }
def k7m3 : Method := { name := "<init>", desc := "([CIILjava/lang/Void;)V", sig := { parameters := [(.array .char), .int, .int, (.object "java/lang/Void")], returnType := none }, accessFlags := 2, code := some k7c3 }
def k7c4 : Code := { maxStack := 2, maxLocals := 3, code := jdk_42_method_151_code, exceptionTable := #[], attributes := #[] }
def k7m4 : Method := { name := "<init>", desc := "([BB)V", sig := { parameters := [(.array .byte), .byte], returnType := none }, accessFlags := 0, code := some k7c4 }
/-- java/lang/String -/
def k7 : Class := { plain "java/lang/String" (some 0) with
  accessFlags := 49
  interfaces := #[2, 3, 4, 5, 6]
  cf := some (fileOf pool7 10 #[.nestMembers #[1103]] #[{ accessFlags := 1, nameIndex := 5, descriptorIndex := 6, attributes := #[] }, { accessFlags := 1, nameIndex := 5, descriptorIndex := 1010, attributes := #[] }, { accessFlags := 9, nameIndex := 782, descriptorIndex := 783, attributes := #[] }, { accessFlags := 2, nameIndex := 5, descriptorIndex := 29, attributes := #[] }, { accessFlags := 0, nameIndex := 5, descriptorIndex := 211, attributes := #[] }] 49 2 #[1106, 1108, 575, 1110, 1112] #[{ accessFlags := 18, nameIndex := 13, descriptorIndex := 14, attributes := #[] }, { accessFlags := 18, nameIndex := 17, descriptorIndex := 18, attributes := #[] }, { accessFlags := 2, nameIndex := 21, descriptorIndex := 22, attributes := #[] }, { accessFlags := 2, nameIndex := 25, descriptorIndex := 26, attributes := #[] }, { accessFlags := 26, nameIndex := 1116, descriptorIndex := 1117, attributes := #[] }, { accessFlags := 24, nameIndex := 40, descriptorIndex := 26, attributes := #[] }, { accessFlags := 26, nameIndex := 1101, descriptorIndex := 1102, attributes := #[] }, { accessFlags := 26, nameIndex := 1121, descriptorIndex := 1122, attributes := #[] }, { accessFlags := 25, nameIndex := 599, descriptorIndex := 600, attributes := #[] }, { accessFlags := 24, nameIndex := 1125, descriptorIndex := 18, attributes := #[] }, { accessFlags := 24, nameIndex := 1127, descriptorIndex := 18, attributes := #[] }])
  fields := #[{ name := "value", type := (.array .byte), accessFlags := 18, slot := 0, constantValue := 0 }, { name := "coder", type := .byte, accessFlags := 18, slot := 1, constantValue := 0 }, { name := "hash", type := .int, accessFlags := 2, slot := 2, constantValue := 0 }, { name := "hashIsZero", type := .boolean, accessFlags := 2, slot := 3, constantValue := 0 }, { name := "serialVersionUID", type := .long, accessFlags := 26, slot := 0, constantValue := 0 }, { name := "COMPACT_STRINGS", type := .boolean, accessFlags := 24, slot := 1, constantValue := 0 }, { name := "serialPersistentFields", type := (.array (.object "java/io/ObjectStreamField")), accessFlags := 26, slot := 2, constantValue := 0 }, { name := "REPL", type := .char, accessFlags := 26, slot := 3, constantValue := 0 }, { name := "CASE_INSENSITIVE_ORDER", type := (.object "java/util/Comparator"), accessFlags := 25, slot := 4, constantValue := 0 }, { name := "LATIN1", type := .byte, accessFlags := 24, slot := 5, constantValue := 0 }, { name := "UTF16", type := .byte, accessFlags := 24, slot := 6, constantValue := 0 }]
  methods := #[k7m0, k7m1, k7m2, k7m3, k7m4]
  instanceTypes := #[(.array .byte), .byte, .int, .boolean]
  staticTypes := #[.long, .boolean, (.array (.object "java/io/ObjectStreamField")), .char, (.object "java/util/Comparator"), .byte, .byte]
  resolved := Array.replicate 1451 none
  statics := some 0 }

def pool8 : Array CpInfo := pool [(4, .class_ 6), (1, u "java/lang/Object"), (0, u "<init>"), (0, u "()V"), (5, .class_ 16), (1, u "java/lang/StringLatin1"), (73, u "canEncode"), (14, u "(C)Z"), (15, u "$assertionsDisabled"), (0, u "Z"), (98, .class_ 223), (1, u "java/lang/StringLatin1$LinesSpliterator"), (156, u "toBytes"), (1, u "(C)[B"), (7, .class_ 391), (0, u "java/lang/StringLatin1$CharsSpliterator")] 3

def k8m0 : Method := { name := "<init>", desc := "()V", sig := { parameters := [], returnType := none }, accessFlags := 0, code := none }
def k8c1 : Code := { maxStack := 2, maxLocals := 1, code := jdk_43_method_3_code, exceptionTable := #[], attributes := #[] }
def k8m1 : Method := { name := "canEncode", desc := "(C)Z", sig := { parameters := [.char], returnType := some .boolean }, accessFlags := 9, code := some k8c1 }
def k8c2 : Code := { maxStack := 4, maxLocals := 1, code := jdk_43_method_46_code, exceptionTable := #[], attributes := #[] }
def k8m2 : Method := { name := "toBytes", desc := "(C)[B", sig := { parameters := [.char], returnType := some (.array .byte) }, accessFlags := 9, code := some k8c2 }
/-- java/lang/StringLatin1 -/
def k8 : Class := { plain "java/lang/StringLatin1" (some 0) with
  accessFlags := 48
  interfaces := #[]
  cf := some (fileOf pool8 14 #[.nestMembers #[390, 221]] #[{ accessFlags := 0, nameIndex := 7, descriptorIndex := 8, attributes := #[] }, { accessFlags := 9, nameIndex := 90, descriptorIndex := 105, attributes := #[] }, { accessFlags := 9, nameIndex := 380, descriptorIndex := 382, attributes := #[] }] 48 4 #[] #[{ accessFlags := 4120, nameIndex := 121, descriptorIndex := 122, attributes := #[] }])
  fields := #[{ name := "$assertionsDisabled", type := .boolean, accessFlags := 4120, slot := 0, constantValue := 0 }]
  methods := #[k8m0, k8m1, k8m2]
  instanceTypes := #[]
  staticTypes := #[.boolean]
  resolved := Array.replicate 395 none
  statics := none }

def pool9 : Array CpInfo := pool [(6, .class_ 8), (1, u "java/lang/Object"), (0, u "<init>"), (0, u "()V"), (1, .class_ 14), (1, u "java/lang/StringUTF16"), (31, u "$assertionsDisabled"), (0, u "Z"), (13, u "HI_BYTE_SHIFT"), (0, u "I"), (2, u "LO_BYTE_SHIFT"), (49, .methodref 12 116), (0, .nameAndType 117 118), (0, u "compress"), (0, u "([CI[BII)I"), (3, u "([CII)[B"), (138, u "coderFromArrayLen"), (0, u "([BI)B"), (106, .class_ 371), (1, u "java/lang/StringUTF16$LinesSpliterator"), (58, u "MAX_LENGTH"), (196, .class_ 628), (0, u "java/lang/StringUTF16$CodePointsSpliterator"), (0, .class_ 630), (0, u "java/lang/StringUTF16$CharsSpliterator")] 4

def k9m0 : Method := { name := "<init>", desc := "()V", sig := { parameters := [], returnType := none }, accessFlags := 0, code := none }
def k9c1 : Code := { maxStack := 2, maxLocals := 2, code := jdk_52_method_15_code, exceptionTable := #[], attributes := #[] }
def k9m1 : Method := { name := "coderFromArrayLen", desc := "([BI)B", sig := { parameters := [(.array .byte), .int], returnType := some .byte }, accessFlags := 8, code := some k9c1 }
def k9c2 : Code := { maxStack := 5, maxLocals := 6, code := jdk_52_method_16_code, exceptionTable := #[], attributes := #[] }
def k9m2 : Method := { name := "compress", desc := "([CII)[B", sig := { parameters := [(.array .char), .int, .int], returnType := some (.array .byte) }, accessFlags := 9, code := some k9c2 }
def k9c3 : Code := { maxStack := 3, maxLocals := 7, code := jdk_52_method_21_code, exceptionTable := #[], attributes := #[] }
def k9m3 : Method := { name := "compress", desc := "([CI[BII)I", sig := { parameters := [(.array .char), .int, (.array .byte), .int, .int], returnType := some .int }, accessFlags := 9, code := some k9c3 }
/-- java/lang/StringUTF16 -/
def k9 : Class := { plain "java/lang/StringUTF16" (some 0) with
  accessFlags := 48
  interfaces := #[]
  cf := some (fileOf pool9 12 #[.nestMembers #[627, 629, 369]] #[{ accessFlags := 0, nameIndex := 9, descriptorIndex := 10, attributes := #[] }, { accessFlags := 8, nameIndex := 261, descriptorIndex := 262, attributes := #[] }, { accessFlags := 9, nameIndex := 117, descriptorIndex := 122, attributes := #[] }, { accessFlags := 9, nameIndex := 117, descriptorIndex := 118, attributes := #[] }] 48 6 #[] #[{ accessFlags := 26, nameIndex := 61, descriptorIndex := 62, attributes := #[] }, { accessFlags := 26, nameIndex := 65, descriptorIndex := 62, attributes := #[] }, { accessFlags := 24, nameIndex := 430, descriptorIndex := 62, attributes := #[] }, { accessFlags := 4120, nameIndex := 46, descriptorIndex := 47, attributes := #[] }])
  fields := #[{ name := "HI_BYTE_SHIFT", type := .int, accessFlags := 26, slot := 0, constantValue := 0 }, { name := "LO_BYTE_SHIFT", type := .int, accessFlags := 26, slot := 1, constantValue := 0 }, { name := "MAX_LENGTH", type := .int, accessFlags := 24, slot := 2, constantValue := 0 }, { name := "$assertionsDisabled", type := .boolean, accessFlags := 4120, slot := 3, constantValue := 0 }]
  methods := #[k9m0, k9m1, k9m2, k9m3]
  instanceTypes := #[]
  staticTypes := #[.int, .int, .int, .boolean]
  resolved := Array.replicate 635 none
  statics := none }

def pool10 : Array CpInfo := pool [(1, .methodref 2 3), (0, .class_ 4), (0, .nameAndType 5 6), (0, u "java/lang/Object"), (0, u "<init>"), (0, u "()V"), (0, .string 8), (0, u "questionId"), (0, .methodref 10 11), (0, .class_ 12), (0, .nameAndType 13 14), (0, u "java/util/Objects"), (0, u "requireNonNull"), (0, u "(Ljava/lang/Object;Ljava/lang/String;)Ljava/lang/Object;"), (0, .class_ 16), (0, u "java/lang/String"), (0, .fieldref 18 19), (0, .class_ 20), (0, .nameAndType 8 21), (0, u "com/example/ampliar/ampliar/model/Judgement"), (0, u "Ljava/lang/String;"), (0, .string 23), (0, u "iteration"), (0, .fieldref 18 25), (0, .nameAndType 23 21), (0, .string 27), (0, u "passageId"), (0, .fieldref 18 29), (0, .nameAndType 27 21), (0, .fieldref 18 31), (0, .nameAndType 32 33), (0, u "relevance"), (0, u "I"), (63, u "(Ljava/lang/String;Ljava/lang/String;Ljava/lang/String;I)V"), (12, u "isRelevant"), (0, u "()Z")] 51

def k10c0 : Code := { maxStack := 3, maxLocals := 5, code := prog_66_method_1_code, exceptionTable := #[], attributes := #[] }
def k10m0 : Method := { name := "<init>", desc := "(Ljava/lang/String;Ljava/lang/String;Ljava/lang/String;I)V", sig := { parameters := [(.object "java/lang/String"), (.object "java/lang/String"), (.object "java/lang/String"), .int], returnType := none }, accessFlags := 1, code := some k10c0 }
def k10c1 : Code := { maxStack := 1, maxLocals := 1, code := prog_66_method_7_code, exceptionTable := #[], attributes := #[] }
def k10m1 : Method := { name := "isRelevant", desc := "()Z", sig := { parameters := [], returnType := some .boolean }, accessFlags := 1, code := some k10c1 }
/-- com/example/ampliar/ampliar/model/Judgement -/
def k10 : Class := { plain "com/example/ampliar/ampliar/model/Judgement" (some 0) with
  accessFlags := 49
  interfaces := #[]
  cf := some (fileOf pool10 18 #[] #[{ accessFlags := 1, nameIndex := 5, descriptorIndex := 97, attributes := #[] }, { accessFlags := 1, nameIndex := 110, descriptorIndex := 111, attributes := #[] }] 49 2 #[] #[{ accessFlags := 18, nameIndex := 8, descriptorIndex := 21, attributes := #[] }, { accessFlags := 18, nameIndex := 23, descriptorIndex := 21, attributes := #[] }, { accessFlags := 18, nameIndex := 27, descriptorIndex := 21, attributes := #[] }, { accessFlags := 18, nameIndex := 32, descriptorIndex := 33, attributes := #[] }])
  fields := #[{ name := "questionId", type := (.object "java/lang/String"), accessFlags := 18, slot := 0, constantValue := 0 }, { name := "iteration", type := (.object "java/lang/String"), accessFlags := 18, slot := 1, constantValue := 0 }, { name := "passageId", type := (.object "java/lang/String"), accessFlags := 18, slot := 2, constantValue := 0 }, { name := "relevance", type := .int, accessFlags := 18, slot := 3, constantValue := 0 }]
  methods := #[k10m0, k10m1]
  instanceTypes := #[(.object "java/lang/String"), (.object "java/lang/String"), (.object "java/lang/String"), .int]
  staticTypes := #[]
  resolved := Array.replicate 163 none
  statics := none }

def pool11 : Array CpInfo := pool [(2, .class_ 4), (1, u "java/lang/Object"), (0, u "<init>"), (0, u "()V"), (35, .class_ 44), (1, u "java/util/Objects"), (0, u "requireNonNull"), (48, u "(Ljava/lang/Object;Ljava/lang/String;)Ljava/lang/Object;")] 89

def k11m0 : Method := { name := "<init>", desc := "()V", sig := { parameters := [], returnType := none }, accessFlags := 2, code := none }
def k11c1 : Code := { maxStack := 3, maxLocals := 2, code := jdk_31_method_11_code, exceptionTable := #[], attributes := #[] }
def k11m1 : Method := { name := "requireNonNull", desc := "(Ljava/lang/Object;Ljava/lang/String;)Ljava/lang/Object;", sig := { parameters := [(.object "java/lang/Object"), (.object "java/lang/String")], returnType := some (.object "java/lang/Object") }, accessFlags := 9, code := some k11c1 }
/-- java/util/Objects -/
def k11 : Class := { plain "java/util/Objects" (some 0) with
  accessFlags := 49
  interfaces := #[]
  cf := some (fileOf pool11 42 #[] #[{ accessFlags := 2, nameIndex := 5, descriptorIndex := 6, attributes := #[] }, { accessFlags := 9, nameIndex := 45, descriptorIndex := 94, attributes := #[] }] 49 2 #[] #[])
  fields := #[]
  methods := #[k11m0, k11m1]
  instanceTypes := #[]
  staticTypes := #[]
  resolved := Array.replicate 184 none
  statics := none }

def pool12 : Array CpInfo := pool [(2, .class_ 4), (1, u "java/lang/Object"), (0, u "<init>"), (0, u "()V"), (17, .class_ 26), (1, u "jdk/internal/util/Preconditions"), (28, .class_ 56), (0, u "jdk/internal/util/Preconditions$4"), (57, .class_ 115), (0, u "jdk/internal/util/Preconditions$1"), (7, u "SIOOBE_FORMATTER"), (0, u "Ljava/util/function/BiFunction;"), (0, .class_ 126), (0, u "jdk/internal/util/Preconditions$2"), (3, u "AIOOBE_FORMATTER"), (0, .class_ 132), (0, u "jdk/internal/util/Preconditions$3"), (3, u "IOOBE_FORMATTER")] 57

def k12m0 : Method := { name := "<init>", desc := "()V", sig := { parameters := [], returnType := none }, accessFlags := 1, code := none }
/-- jdk/internal/util/Preconditions -/
def k12 : Class := { plain "jdk/internal/util/Preconditions" (some 0) with
  accessFlags := 33
  interfaces := #[]
  cf := some (fileOf pool12 24 #[.nestMembers #[55, 131, 125, 114]] #[{ accessFlags := 1, nameIndex := 5, descriptorIndex := 6, attributes := #[] }] 33 2 #[] #[{ accessFlags := 25, nameIndex := 123, descriptorIndex := 124, attributes := #[] }, { accessFlags := 25, nameIndex := 130, descriptorIndex := 124, attributes := #[] }, { accessFlags := 25, nameIndex := 136, descriptorIndex := 124, attributes := #[] }])
  fields := #[{ name := "SIOOBE_FORMATTER", type := (.object "java/util/function/BiFunction"), accessFlags := 25, slot := 0, constantValue := 0 }, { name := "AIOOBE_FORMATTER", type := (.object "java/util/function/BiFunction"), accessFlags := 25, slot := 1, constantValue := 0 }, { name := "IOOBE_FORMATTER", type := (.object "java/util/function/BiFunction"), accessFlags := 25, slot := 2, constantValue := 0 }]
  methods := #[k12m0]
  instanceTypes := #[]
  staticTypes := #[(.object "java/util/function/BiFunction"), (.object "java/util/function/BiFunction"), (.object "java/util/function/BiFunction")]
  resolved := Array.replicate 194 none
  statics := some 1 }

def pool13 : Array CpInfo := pool [(9, u "<init>"), (6, .class_ 18), (1, u "java/lang/Object"), (0, u "()V"), (1, .class_ 23), (1, u "jdk/internal/util/ArraysSupport"), (0, u "LOG2_ARRAY_LONG_INDEX_SCALE"), (0, u "I"), (2, u "U"), (0, u "Ljdk/internal/misc/Unsafe;"), (8, u "BIG_ENDIAN"), (0, u "Z"), (8, u "LOG2_BYTE_BIT_SIZE"), (4, u "LOG2_ARRAY_INT_INDEX_SCALE"), (54, u "JLA"), (0, u "Ljdk/internal/access/JavaLangAccess;"), (11, u "LOG2_ARRAY_BOOLEAN_INDEX_SCALE"), (9, u "LOG2_ARRAY_BYTE_INDEX_SCALE"), (5, u "LOG2_ARRAY_CHAR_INDEX_SCALE"), (5, u "LOG2_ARRAY_SHORT_INDEX_SCALE"), (18, u "LOG2_ARRAY_FLOAT_INDEX_SCALE"), (24, u "LOG2_ARRAY_DOUBLE_INDEX_SCALE"), (89, u "T_BOOLEAN"), (2, u "T_CHAR"), (1, u "T_FLOAT"), (1, u "T_DOUBLE"), (1, u "T_BYTE"), (1, u "T_SHORT"), (1, u "T_INT"), (1, u "T_LONG"), (1, u "SOFT_MAX_ARRAY_LENGTH")] 83

def k13m0 : Method := { name := "<init>", desc := "()V", sig := { parameters := [], returnType := none }, accessFlags := 2, code := none }
/-- jdk/internal/util/ArraysSupport -/
def k13 : Class := { plain "jdk/internal/util/ArraysSupport" (some 0) with
  accessFlags := 33
  interfaces := #[]
  cf := some (fileOf pool13 21 #[] #[{ accessFlags := 2, nameIndex := 9, descriptorIndex := 19, attributes := #[] }] 33 16 #[] #[{ accessFlags := 24, nameIndex := 28, descriptorIndex := 29, attributes := #[] }, { accessFlags := 26, nameIndex := 38, descriptorIndex := 39, attributes := #[] }, { accessFlags := 25, nameIndex := 121, descriptorIndex := 25, attributes := #[] }, { accessFlags := 25, nameIndex := 131, descriptorIndex := 25, attributes := #[] }, { accessFlags := 25, nameIndex := 137, descriptorIndex := 25, attributes := #[] }, { accessFlags := 25, nameIndex := 143, descriptorIndex := 25, attributes := #[] }, { accessFlags := 25, nameIndex := 53, descriptorIndex := 25, attributes := #[] }, { accessFlags := 25, nameIndex := 24, descriptorIndex := 25, attributes := #[] }, { accessFlags := 25, nameIndex := 162, descriptorIndex := 25, attributes := #[] }, { accessFlags := 25, nameIndex := 187, descriptorIndex := 25, attributes := #[] }, { accessFlags := 26, nameIndex := 48, descriptorIndex := 25, attributes := #[] }, { accessFlags := 25, nameIndex := 277, descriptorIndex := 25, attributes := #[] }, { accessFlags := 25, nameIndex := 280, descriptorIndex := 25, attributes := #[] }, { accessFlags := 25, nameIndex := 282, descriptorIndex := 25, attributes := #[] }, { accessFlags := 25, nameIndex := 284, descriptorIndex := 25, attributes := #[] }, { accessFlags := 25, nameIndex := 286, descriptorIndex := 25, attributes := #[] }, { accessFlags := 25, nameIndex := 288, descriptorIndex := 25, attributes := #[] }, { accessFlags := 25, nameIndex := 290, descriptorIndex := 25, attributes := #[] }, { accessFlags := 25, nameIndex := 292, descriptorIndex := 25, attributes := #[] }, { accessFlags := 26, nameIndex := 108, descriptorIndex := 109, attributes := #[] }, { accessFlags := 25, nameIndex := 294, descriptorIndex := 25, attributes := #[] }])
  fields := #[{ name := "U", type := (.object "jdk/internal/misc/Unsafe"), accessFlags := 24, slot := 0, constantValue := 0 }, { name := "BIG_ENDIAN", type := .boolean, accessFlags := 26, slot := 1, constantValue := 0 }, { name := "LOG2_ARRAY_BOOLEAN_INDEX_SCALE", type := .int, accessFlags := 25, slot := 2, constantValue := 0 }, { name := "LOG2_ARRAY_BYTE_INDEX_SCALE", type := .int, accessFlags := 25, slot := 3, constantValue := 0 }, { name := "LOG2_ARRAY_CHAR_INDEX_SCALE", type := .int, accessFlags := 25, slot := 4, constantValue := 0 }, { name := "LOG2_ARRAY_SHORT_INDEX_SCALE", type := .int, accessFlags := 25, slot := 5, constantValue := 0 }, { name := "LOG2_ARRAY_INT_INDEX_SCALE", type := .int, accessFlags := 25, slot := 6, constantValue := 0 }, { name := "LOG2_ARRAY_LONG_INDEX_SCALE", type := .int, accessFlags := 25, slot := 7, constantValue := 0 }, { name := "LOG2_ARRAY_FLOAT_INDEX_SCALE", type := .int, accessFlags := 25, slot := 8, constantValue := 0 }, { name := "LOG2_ARRAY_DOUBLE_INDEX_SCALE", type := .int, accessFlags := 25, slot := 9, constantValue := 0 }, { name := "LOG2_BYTE_BIT_SIZE", type := .int, accessFlags := 26, slot := 10, constantValue := 0 }, { name := "T_BOOLEAN", type := .int, accessFlags := 25, slot := 11, constantValue := 0 }, { name := "T_CHAR", type := .int, accessFlags := 25, slot := 12, constantValue := 0 }, { name := "T_FLOAT", type := .int, accessFlags := 25, slot := 13, constantValue := 0 }, { name := "T_DOUBLE", type := .int, accessFlags := 25, slot := 14, constantValue := 0 }, { name := "T_BYTE", type := .int, accessFlags := 25, slot := 15, constantValue := 0 }, { name := "T_SHORT", type := .int, accessFlags := 25, slot := 16, constantValue := 0 }, { name := "T_INT", type := .int, accessFlags := 25, slot := 17, constantValue := 0 }, { name := "T_LONG", type := .int, accessFlags := 25, slot := 18, constantValue := 0 }, { name := "JLA", type := (.object "jdk/internal/access/JavaLangAccess"), accessFlags := 26, slot := 19, constantValue := 0 }, { name := "SOFT_MAX_ARRAY_LENGTH", type := .int, accessFlags := 25, slot := 20, constantValue := 0 }]
  methods := #[k13m0]
  instanceTypes := #[]
  staticTypes := #[(.object "jdk/internal/misc/Unsafe"), .boolean, .int, .int, .int, .int, .int, .int, .int, .int, .int, .int, .int, .int, .int, .int, .int, .int, .int, (.object "jdk/internal/access/JavaLangAccess"), .int]
  resolved := Array.replicate 378 none
  statics := none }

def pool14 : Array CpInfo := pool [(1, u "java/lang/Cloneable"), (0, .class_ 1), (0, u "java/lang/Object"), (0, .class_ 3)] 3

/-- java/lang/Cloneable -/
def k14 : Class := { plain "java/lang/Cloneable" (some 0) with
  accessFlags := 1537
  interfaces := #[]
  cf := some (fileOf pool14 2 #[] #[] 1537 4 #[] #[])
  fields := #[]
  methods := #[]
  instanceTypes := #[]
  staticTypes := #[]
  resolved := Array.replicate 8 none
  statics := none }

/-- the primitive byte -/
def k15 : Class := { plain "byte" none with kind := .primitive 'B', accessFlags := 0x411 }
/-- [B -/
def k16 : Class := { plain "[B" (some 0) with kind := .array 15 .byte, interfaces := #[14, 2], accessFlags := 1041 }

/-- the primitive char -/
def k17 : Class := { plain "char" none with kind := .primitive 'C', accessFlags := 0x411 }
/-- [C -/
def k18 : Class := { plain "[C" (some 0) with kind := .array 17 .char, interfaces := #[14, 2], accessFlags := 1041 }

/-- the primitive int -/
def k19 : Class := { plain "int" none with kind := .primitive 'I', accessFlags := 0x411 }
/-- [I -/
def k20 : Class := { plain "[I" (some 0) with kind := .array 19 .int, interfaces := #[14, 2], accessFlags := 1041 }

def heap : Heap := #[{ cls := 7, slots := #[.long 0, .int 1, .null, .int 0, .null, .int 0, .int 0], vm := .statics 7 },
  { cls := 12, slots := #[.null, .null, .null], vm := .statics 12 }]
def classes : Array Class := #[k0, k1, k2, k3, k4, k5, k6, k7, k8, k9, k10, k11, k12, k13, k14, k15, k16, k17, k18, k19, k20]
def interned : List (Array UInt16 × Addr) := []
def slotsUsed : Nat := 10
def theMethod : MethodId := ⟨1, 1⟩
def args0 : Array Value := #[.int 1, .int 2, .int 3]
def aboutOver (below : List Frame) : State where
  vm := { classes := classes, interned := interned.toArray }
  heap := heap
  slotsUsed := slotsUsed
  threads := #[{ frames := .invoking theMethod args0 :: below }]
def below0 : List Frame := [.native { method := ⟨0, 0⟩, args := #[] }]
def about1 : State := aboutOver below0
def p0 : Program := .bare "" "" ""
def e0 : Env := launch0.env 0 0 0
theorem w_frames : about1.frames = Frame.invoking theMethod args0 :: below0 := rfl
set_option maxRecDepth 65536 in
theorem w_args : argsFit about1.vm theMethod args0 = true := by decide +kernel
set_option maxRecDepth 65536 in
theorem w_heap : heapFits about1 = true := by decide +kernel
set_option maxRecDepth 65536 in
theorem w_runnable : about1.curStatus? = some .runnable := by decide +kernel
set_option maxRecDepth 65536 in
theorem w_alone : about1.alone = true := by decide +kernel
set_option maxRecDepth 65536 in
theorem w_named : about1.methodNamed? x = some theMethod := by decide +kernel
set_option maxRecDepth 65536 in
theorem w_hears : about1.hears theMethod below0 = true := by decide +kernel
set_option maxRecDepth 65536 in
theorem w_ripe : about1.ripe theMethod args0 below0 = true := by decide +kernel
theorem w_running : about1.status = .running := rfl
set_option maxRecDepth 65536 in
theorem w_room : about1.hasRoom e0.platform room_1 = true :=
  launch0.hasRoom_least _ room_1 (by decide +kernel) (by decide +kernel) (by decide +kernel) (by decide +kernel) (by decide +kernel) (by decide +kernel)
theorem allAtoms_all (ts : List Jvm.Cond) (a : Array Jvm.Value) (st : Jvm.State) : (allAtoms ts).before a st = ts.all (fun c => c.before a st) := by
  induction ts with
  | nil => rfl
  | cons c t ih =>
    show (Jvm.Cond.and c (allAtoms t)).before a st = _
    rw [Jvm.Cond.before_and, ih, List.all_cons]
def words1 : List Jvm.Cond := Jvm.Cond.code x code maxLocals ret :: tables_1
/-- a 'code' word, met by the world's own term for the bytes: nothing is compared byte by byte -/
theorem code_word {y : MethodName} {bytes : ByteArray} {mx : Nat} {rt : Option FieldType} {a : Array Value} {s : State} {m : MethodId} {meth : Method} {c : Code} (h1 : s.methodNamed? y = some m) (h2 : s.vm.method? m = some meth) (h3 : meth.code = some c) (h4 : c.code = bytes)
    (h5 : (c.maxLocals == mx && c.exceptionTable.isEmpty && decide (c.maxStack ≤ mostOperands) && decide (meth.sig.returnType = rt) && !meth.locks && decide (parseMethodDescriptor y.desc = some meth.sig)) = true) : (Jvm.Cond.code y bytes mx rt).before a s = true := by
  simp only [Bool.and_eq_true, beq_iff_eq, Bool.not_eq_true', decide_eq_true_eq] at h5
  obtain ⟨⟨⟨⟨⟨g1, g2⟩, g3⟩, g4⟩, g5⟩, g6⟩ := h5
  simp [Cond.before, Cond.holds, Cond.value, h1, h2, h3, h4, g1, g2, g3, g4, g5, g6]
def isCode : Jvm.Cond → Bool
  | .code _ _ _ _ => true
  | _ => false
theorem all_split {L : List Jvm.Cond} {P : Jvm.Cond → Bool} (h1 : L.all (fun c => isCode c || P c) = true) (h2 : ∀ c ∈ L.filter isCode, P c = true) : L.all P = true := by
  refine List.all_eq_true.mpr fun c hc => ?_
  have h := List.all_eq_true.mp h1 c hc
  rcases Bool.eq_false_or_eq_true (isCode c) with hi | hi
  · exact h2 c (List.mem_filter.mpr ⟨hc, hi⟩)
  · simpa [hi] using h
set_option maxRecDepth 65536 in
theorem w_c0 : (Jvm.Cond.code x code maxLocals ret).before args0 about1 = true := code_word (m := ⟨1, 1⟩) (meth := k1m1) (c := k1c1) (by decide +kernel) rfl rfl rfl (by decide +kernel)
set_option maxRecDepth 65536 in
theorem w_c1 : (Jvm.Cond.code ({ cls := "java/lang/String", name := "valueOf", desc := "(C)Ljava/lang/String;" } : Jvm.MethodName) jdk_42_method_139_code (1 : Nat) (Option.some (Jvm.ClassFile.FieldType.object "java/lang/String"))).before args0 about1 = true := code_word (m := ⟨7, 2⟩) (meth := k7m2) (c := k7c2) (by decide +kernel) rfl rfl rfl (by decide +kernel)
set_option maxRecDepth 65536 in
theorem w_c2 : (Jvm.Cond.code ({ cls := "java/lang/StringLatin1", name := "canEncode", desc := "(C)Z" } : Jvm.MethodName) jdk_43_method_3_code (1 : Nat) (Option.some Jvm.ClassFile.FieldType.boolean)).before args0 about1 = true := code_word (m := ⟨8, 1⟩) (meth := k8m1) (c := k8c1) (by decide +kernel) rfl rfl rfl (by decide +kernel)
set_option maxRecDepth 65536 in
theorem w_c3 : (Jvm.Cond.code ({ cls := "java/lang/StringLatin1", name := "toBytes", desc := "(C)[B" } : Jvm.MethodName) jdk_43_method_46_code (1 : Nat) (Option.some (Jvm.ClassFile.FieldType.array Jvm.ClassFile.FieldType.byte))).before args0 about1 = true := code_word (m := ⟨8, 2⟩) (meth := k8m2) (c := k8c2) (by decide +kernel) rfl rfl rfl (by decide +kernel)
set_option maxRecDepth 65536 in
theorem w_c4 : (Jvm.Cond.code ({ cls := "java/lang/String", name := "<init>", desc := "([BB)V" } : Jvm.MethodName) jdk_42_method_151_code (3 : Nat) (Option.none : Option Jvm.ClassFile.FieldType)).before args0 about1 = true := code_word (m := ⟨7, 4⟩) (meth := k7m4) (c := k7c4) (by decide +kernel) rfl rfl rfl (by decide +kernel)
set_option maxRecDepth 65536 in
theorem w_c5 : (Jvm.Cond.code ({ cls := "java/lang/Object", name := "<init>", desc := "()V" } : Jvm.MethodName) object_method_1_code (1 : Nat) (Option.none : Option Jvm.ClassFile.FieldType)).before args0 about1 = true := code_word (m := ⟨0, 0⟩) (meth := k0m0) (c := k0c0) (by decide +kernel) rfl rfl rfl (by decide +kernel)
set_option maxRecDepth 65536 in
theorem w_c6 : (Jvm.Cond.code ({ cls := "java/lang/String", name := "<init>", desc := "([C)V" } : Jvm.MethodName) jdk_42_method_3_code (2 : Nat) (Option.none : Option Jvm.ClassFile.FieldType)).before args0 about1 = true := code_word (m := ⟨7, 1⟩) (meth := k7m1) (c := k7c1) (by decide +kernel) rfl rfl rfl (by decide +kernel)
set_option maxRecDepth 65536 in
theorem w_c7 : (Jvm.Cond.code ({ cls := "java/lang/String", name := "<init>", desc := "([CIILjava/lang/Void;)V" } : Jvm.MethodName) jdk_42_method_149_code (6 : Nat) (Option.none : Option Jvm.ClassFile.FieldType)).before args0 about1 = true := code_word (m := ⟨7, 3⟩) (meth := k7m3) (c := k7c3) (by decide +kernel) rfl rfl rfl (by decide +kernel)
set_option maxRecDepth 65536 in
theorem w_c8 : (Jvm.Cond.code ({ cls := "java/lang/StringUTF16", name := "compress", desc := "([CII)[B" } : Jvm.MethodName) jdk_52_method_16_code (6 : Nat) (Option.some (Jvm.ClassFile.FieldType.array Jvm.ClassFile.FieldType.byte))).before args0 about1 = true := code_word (m := ⟨9, 2⟩) (meth := k9m2) (c := k9c2) (by decide +kernel) rfl rfl rfl (by decide +kernel)
set_option maxRecDepth 65536 in
theorem w_c9 : (Jvm.Cond.code ({ cls := "java/lang/StringUTF16", name := "compress", desc := "([CI[BII)I" } : Jvm.MethodName) jdk_52_method_21_code (7 : Nat) (Option.some Jvm.ClassFile.FieldType.int)).before args0 about1 = true := code_word (m := ⟨9, 3⟩) (meth := k9m3) (c := k9c3) (by decide +kernel) rfl rfl rfl (by decide +kernel)
set_option maxRecDepth 65536 in
theorem w_c10 : (Jvm.Cond.code ({ cls := "java/lang/StringUTF16", name := "coderFromArrayLen", desc := "([BI)B" } : Jvm.MethodName) jdk_52_method_15_code (2 : Nat) (Option.some Jvm.ClassFile.FieldType.byte)).before args0 about1 = true := code_word (m := ⟨9, 1⟩) (meth := k9m1) (c := k9c1) (by decide +kernel) rfl rfl rfl (by decide +kernel)
set_option maxRecDepth 65536 in
theorem w_c11 : (Jvm.Cond.code ({ cls := "com/example/ampliar/ampliar/model/Judgement", name := "<init>", desc := "(Ljava/lang/String;Ljava/lang/String;Ljava/lang/String;I)V" } : Jvm.MethodName) prog_66_method_1_code (5 : Nat) (Option.none : Option Jvm.ClassFile.FieldType)).before args0 about1 = true := code_word (m := ⟨10, 0⟩) (meth := k10m0) (c := k10c0) (by decide +kernel) rfl rfl rfl (by decide +kernel)
set_option maxRecDepth 65536 in
theorem w_c12 : (Jvm.Cond.code ({ cls := "java/util/Objects", name := "requireNonNull", desc := "(Ljava/lang/Object;Ljava/lang/String;)Ljava/lang/Object;" } : Jvm.MethodName) jdk_31_method_11_code (2 : Nat) (Option.some (Jvm.ClassFile.FieldType.object "java/lang/Object"))).before args0 about1 = true := code_word (m := ⟨11, 1⟩) (meth := k11m1) (c := k11c1) (by decide +kernel) rfl rfl rfl (by decide +kernel)
set_option maxRecDepth 65536 in
theorem w_c13 : (Jvm.Cond.code ({ cls := "com/example/ampliar/ampliar/model/Judgement", name := "isRelevant", desc := "()Z" } : Jvm.MethodName) prog_66_method_7_code (1 : Nat) (Option.some Jvm.ClassFile.FieldType.boolean)).before args0 about1 = true := code_word (m := ⟨10, 1⟩) (meth := k10m1) (c := k10c1) (by decide +kernel) rfl rfl rfl (by decide +kernel)
def codes1 : List Jvm.Cond := [Jvm.Cond.code x code maxLocals ret, Jvm.Cond.code ({ cls := "java/lang/String", name := "valueOf", desc := "(C)Ljava/lang/String;" } : Jvm.MethodName) jdk_42_method_139_code (1 : Nat) (Option.some (Jvm.ClassFile.FieldType.object "java/lang/String")), Jvm.Cond.code ({ cls := "java/lang/StringLatin1", name := "canEncode", desc := "(C)Z" } : Jvm.MethodName) jdk_43_method_3_code (1 : Nat) (Option.some Jvm.ClassFile.FieldType.boolean), Jvm.Cond.code ({ cls := "java/lang/StringLatin1", name := "toBytes", desc := "(C)[B" } : Jvm.MethodName) jdk_43_method_46_code (1 : Nat) (Option.some (Jvm.ClassFile.FieldType.array Jvm.ClassFile.FieldType.byte)), Jvm.Cond.code ({ cls := "java/lang/String", name := "<init>", desc := "([BB)V" } : Jvm.MethodName) jdk_42_method_151_code (3 : Nat) (Option.none : Option Jvm.ClassFile.FieldType), Jvm.Cond.code ({ cls := "java/lang/Object", name := "<init>", desc := "()V" } : Jvm.MethodName) object_method_1_code (1 : Nat) (Option.none : Option Jvm.ClassFile.FieldType), Jvm.Cond.code ({ cls := "java/lang/String", name := "<init>", desc := "([C)V" } : Jvm.MethodName) jdk_42_method_3_code (2 : Nat) (Option.none : Option Jvm.ClassFile.FieldType), Jvm.Cond.code ({ cls := "java/lang/String", name := "<init>", desc := "([CIILjava/lang/Void;)V" } : Jvm.MethodName) jdk_42_method_149_code (6 : Nat) (Option.none : Option Jvm.ClassFile.FieldType), Jvm.Cond.code ({ cls := "java/lang/StringUTF16", name := "compress", desc := "([CII)[B" } : Jvm.MethodName) jdk_52_method_16_code (6 : Nat) (Option.some (Jvm.ClassFile.FieldType.array Jvm.ClassFile.FieldType.byte)), Jvm.Cond.code ({ cls := "java/lang/StringUTF16", name := "compress", desc := "([CI[BII)I" } : Jvm.MethodName) jdk_52_method_21_code (7 : Nat) (Option.some Jvm.ClassFile.FieldType.int), Jvm.Cond.code ({ cls := "java/lang/StringUTF16", name := "coderFromArrayLen", desc := "([BI)B" } : Jvm.MethodName) jdk_52_method_15_code (2 : Nat) (Option.some Jvm.ClassFile.FieldType.byte), Jvm.Cond.code ({ cls := "com/example/ampliar/ampliar/model/Judgement", name := "<init>", desc := "(Ljava/lang/String;Ljava/lang/String;Ljava/lang/String;I)V" } : Jvm.MethodName) prog_66_method_1_code (5 : Nat) (Option.none : Option Jvm.ClassFile.FieldType), Jvm.Cond.code ({ cls := "java/util/Objects", name := "requireNonNull", desc := "(Ljava/lang/Object;Ljava/lang/String;)Ljava/lang/Object;" } : Jvm.MethodName) jdk_31_method_11_code (2 : Nat) (Option.some (Jvm.ClassFile.FieldType.object "java/lang/Object")), Jvm.Cond.code ({ cls := "com/example/ampliar/ampliar/model/Judgement", name := "isRelevant", desc := "()Z" } : Jvm.MethodName) prog_66_method_7_code (1 : Nat) (Option.some Jvm.ClassFile.FieldType.boolean)]
set_option maxRecDepth 65536 in
theorem codes_eq : words1.filter isCode = codes1 := rfl
theorem w_codes : ∀ c ∈ words1.filter isCode, c.before args0 about1 = true := by
  rw [codes_eq]
  intro c hc
  simp only [codes1, List.mem_cons, List.not_mem_nil, or_false] at hc
  rcases hc with rfl | rfl | rfl | rfl | rfl | rfl | rfl | rfl | rfl | rfl | rfl | rfl | rfl | rfl
  · exact w_c0
  · exact w_c1
  · exact w_c2
  · exact w_c3
  · exact w_c4
  · exact w_c5
  · exact w_c6
  · exact w_c7
  · exact w_c8
  · exact w_c9
  · exact w_c10
  · exact w_c11
  · exact w_c12
  · exact w_c13
set_option maxRecDepth 65536 in
theorem w_t1 : (words1.take 24).all (fun c => isCode c || c.before args0 about1) = true := by decide +kernel
set_option maxRecDepth 65536 in
theorem w_t2 : ((words1.drop 24).take 24).all (fun c => isCode c || c.before args0 about1) = true := by decide +kernel
set_option maxRecDepth 65536 in
theorem w_t3 : (((words1.drop 24).drop 24).take 24).all (fun c => isCode c || c.before args0 about1) = true := by decide +kernel
set_option maxRecDepth 65536 in
theorem w_t4 : (((words1.drop 24).drop 24).drop 24).all (fun c => isCode c || c.before args0 about1) = true := by decide +kernel
theorem w_tables : (allAtoms (Jvm.Cond.code x code maxLocals ret :: tables_1)).before args0 about1 = true := by
  rw [allAtoms_all]
  show words1.all (fun c => c.before args0 about1) = true
  refine all_split ?_ w_codes
  rw [← List.take_append_drop 24 words1, List.all_append, w_t1, ← List.take_append_drop 24 (words1.drop 24), List.all_append, w_t2, ← List.take_append_drop 24 ((words1.drop 24).drop 24), List.all_append, w_t3, w_t4]
  rfl
set_option maxRecDepth 65536 in
theorem w_rest : rest_1_c.before args0 about1 = true := by decide +kernel
set_option maxRecDepth 65536 in
theorem w_case : (Jvm.Cond.and given_1 narrow_1).before args0 about1 = true := by decide +kernel
theorem w_applies : (headSpec (Jvm.Cond.code x code maxLocals ret :: tables_1) room_1).applies x e0.platform about1 = true :=
  (Spec.applies_iff w_frames).mpr ⟨w_running, w_runnable, w_alone, w_named, w_hears, w_ripe, w_room, w_tables⟩
theorem atStart : AtStart classFile x code maxLocals ret World_1 tables_1 room_1 Calls_1 rest_1 Pre_1 launch0 p0 e0 about1 theMethod args0 below0 :=
  ⟨lists_1, trivial, launch0.admits_env _ _ _, launch0.least_env, fairChoices_fair.cas, fairChoices_fair.clock, w_frames, w_args, w_heap, w_applies, trivial, w_rest, w_case⟩
end start1
theorem witness_1 : WitnessClaimed_1 := ⟨start1.p0, start1.e0, start1.about1, start1.theMethod, start1.args0, start1.below0, start1.atStart⟩
end Jvm.Pilot.@@N@@
