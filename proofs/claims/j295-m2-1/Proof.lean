import JvmDerived
import JvmDerived.Pilot.@@N@@Statement
import JvmDerived.Pilot.@@N@@Code
set_option linter.unusedVariables false
set_option linter.unusedSimpArgs false
@@BLOCK:LamKit.lean.txt@@
namespace Jvm.RoadKit
open Sem ClassFile Op Lib Jvm.Stand Jvm.Free Jvm.LawKit
section New
variable {p : Program} {l : Launch} {e : Env} {R : Room} {s : State} {m : MethodId} {args : Array Value} {below : List Frame} {meth : Method} {c : Code} {T : State} {locs : List Loc} {cells slots : Nat} {K : Outcome → State → Prop}
theorem retI (X : Stand p l e R s m args below meth c T locs cells slots) (hx : p.tables.exec = Jvm.exec) {pc : Nat} {Ls : Array Slot} {z : Int32} {rest : List Value} (hret : meth.sig.returnType = some .int) (hd : decode c.code pc = .ok (.ireturn, 1)) {fs : List Frame}
    (hl : ∀ (f : JFrame) (acts : List Action), f.method = m → f.locked = none → f.entered = [] → (doReturn e (T.setTop f) acts (some (.int z))).1 = T.setFrames fs) : Steps p.tables e below (T.setTop (mkF m pc Ls (.int z :: rest))) (T.setFrames fs) := by
  have hm' : T.vm.method? m = some meth := X.method'
  have hn : narrow .int (.int z) = .int z := rfl
  show Steps p.tables e below (T.setTop { method := m, pc := pc, locals := Ls, stack := _ :: rest, locked := none }) _
  jvm_step X.here [X.here.top, hx, hd, hm', hret, hn]
  first | (intro acts; rw [hl _ acts rfl rfl rfl]) | rw [hl _ _ rfl rfl rfl]
  exact Steps.refl _
/-- from here the run comes to an end that K holds of -/
def Rch (p : Program) (e : Env) (below : List Frame) (K : Outcome → State → Prop) (T : State) (g : JFrame) : Prop := ∃ s₂ o, Steps p.tables e below (T.setTop g) s₂ ∧ s₂.status = .running ∧ Ended s₂ below o ∧ K o s₂
theorem Rch.of {T T' : State} {g g' : JFrame} (h : ∀ t, Steps p.tables e below (T'.setTop g') t → Steps p.tables e below (T.setTop g) t) (k : Rch p e below K T' g') : Rch p e below K T g := by
  obtain ⟨s₂, o, h1, h2⟩ := k
  exact ⟨s₂, o, h _ h1, h2⟩
theorem Rch.via {T T' : State} {g g' : JFrame} (h : Steps p.tables e below (T.setTop g) (T'.setTop g')) (k : Rch p e below K T' g') : Rch p e below K T g := Rch.of (fun _ kt => h.trans kt) k
theorem Rch.cast {T : State} {g g' : JFrame} (q : g = g') (k : Rch p e below K T g') : Rch p e below K T g := q ▸ k
theorem Rch.retN (X : Stand p l e R s m args below meth c T locs cells slots) (hx : p.tables.exec = Jvm.exec) {pc : Nat} {Ls : Array Slot} {z : Int32} {t : FieldType} {rest : List Value} (hret : meth.sig.returnType = some t) (ht : t = .boolean ∨ t = .byte ∨ t = .char ∨ t = .short) (hlk : meth.locks = false) (hd : decode c.code pc = .ok (.ireturn, 1))
    (k : ∀ U : State, U.heap = T.heap → FrameEnd s (.returned (some (.int (nar t z)))) U locs cells slots → K (.returned (some (.int (nar t z)))) U) : Rch p e below K T (mkF m pc Ls (.int z :: rest)) := by
  obtain ⟨fs, hr, hrun, hended, hW, hsame⟩ := X.leave (v := some (.int (nar t z))) (fun h => by rw [hret] at h; cases h) hlk
  exact ⟨_, _, Jvm.RoadKit.retN X hx hret ht hd hr, hrun, hended, k _ rfl ⟨⟨_, rfl⟩, hW, hsame⟩⟩
theorem Rch.retI (X : Stand p l e R s m args below meth c T locs cells slots) (hx : p.tables.exec = Jvm.exec) {pc : Nat} {Ls : Array Slot} {z : Int32} {rest : List Value} (hret : meth.sig.returnType = some .int) (hlk : meth.locks = false) (hd : decode c.code pc = .ok (.ireturn, 1))
    (k : ∀ U : State, U.heap = T.heap → FrameEnd s (.returned (some (.int z))) U locs cells slots → K (.returned (some (.int z))) U) : Rch p e below K T (mkF m pc Ls (.int z :: rest)) := by
  obtain ⟨fs, hr, hrun, hended, hW, hsame⟩ := X.leave (v := some (.int z)) (fun h => by rw [hret] at h; cases h) hlk
  exact ⟨_, _, Jvm.RoadKit.retI X hx hret hd hr, hrun, hended, k _ rfl ⟨⟨_, rfl⟩, hW, hsame⟩⟩
theorem Rch.retJ (X : Stand p l e R s m args below meth c T locs cells slots) (hx : p.tables.exec = Jvm.exec) {pc : Nat} {Ls : Array Slot} {z : Int64} {rest : List Value} (hret : meth.sig.returnType = some .long) (hlk : meth.locks = false) (hd : decode c.code pc = .ok (.lreturn, 1))
    (k : ∀ U : State, U.heap = T.heap → FrameEnd s (.returned (some (.long z))) U locs cells slots → K (.returned (some (.long z))) U) : Rch p e below K T (mkF m pc Ls (.long z :: rest)) := by
  obtain ⟨fs, hr, hrun, hended, hW, hsame⟩ := X.leave (v := some (.long z)) (fun h => by rw [hret] at h; cases h) hlk
  exact ⟨_, _, retOut X hx hret rfl (Or.inr (Or.inl ⟨rfl, rfl, z, rfl⟩)) hd hr, hrun, hended, k _ rfl ⟨⟨_, rfl⟩, hW, hsame⟩⟩
theorem Rch.retA (X : Stand p l e R s m args below meth c T locs cells slots) (hx : p.tables.exec = Jvm.exec) {pc : Nat} {Ls : Array Slot} {w : Value} {t : FieldType} {rest : List Value} (hret : meth.sig.returnType = some t) (ht : t.isReference = true) (hw : w.isRef = true) (hlk : meth.locks = false) (hd : decode c.code pc = .ok (.areturn, 1))
    (k : ∀ U : State, U.heap = T.heap → FrameEnd s (.returned (some w)) U locs cells slots → K (.returned (some w)) U) : Rch p e below K T (mkF m pc Ls (w :: rest)) := by
  obtain ⟨fs, hr, hrun, hended, hW, hsame⟩ := X.leave (v := some w) (fun h => by rw [hret] at h; cases h) hlk
  have hn : narrow t w = w := by
    rcases ref_cases hw with rfl | ⟨a, rfl⟩ <;> cases t <;> first | rfl | (simp [FieldType.isReference] at ht)
  exact ⟨_, _, retOut X hx hret hn (Or.inr (Or.inr (Or.inr (Or.inr ⟨rfl, ht, hw⟩)))) hd hr, hrun, hended, k _ rfl ⟨⟨_, rfl⟩, hW, hsame⟩⟩
theorem Rch.retV (X : Stand p l e R s m args below meth c T locs cells slots) (hx : p.tables.exec = Jvm.exec) {pc : Nat} {Ls : Array Slot} (hret : meth.sig.returnType = none) (hlk : meth.locks = false) (hd : decode c.code pc = .ok (.return_, 1))
    (k : ∀ U : State, U.heap = T.heap → FrameEnd s (.returned none) U locs cells slots → K (.returned none) U) : Rch p e below K T (mkF m pc Ls []) := by
  obtain ⟨fs, hr, hrun, hended, hW, hsame⟩ := X.leave (v := none) (fun _ => rfl) hlk
  exact ⟨_, _, X.returnOut hx hret hd hr, hrun, hended, k _ rfl ⟨⟨_, rfl⟩, hW, hsame⟩⟩
theorem own_met {y : MethodName} {bytes : ByteArray} {maxL : Nat} {ret : Option FieldType} {ws : List Cond} {rm : Room} {as' : Array Value} {Z : State} {h0 : Heap} {Q : Option Value → Heap → List Loc → Prop} {ck sk : Nat} (hn : plainFor y = true)
    (body : ∀ (p : Program) (e : Env) (s : State) (m : MethodId) (below : List Frame) (meth : Method) (c : Code) (T : State) (K : Outcome → State → Prop), p.tables.exec = Jvm.exec → c.code = bytes → c.maxLocals = maxL → meth.sig.returnType = ret → meth.locks = false → s.vm.findClass y.cls = some m.cls → meth.name = y.name → Z.Warmed39 s.vm → Stand p l e rm s m as' below meth c T [] 0 0 → T.heap = h0 →
      (∀ (v : Option Value) (U : State) (L : List Loc) (k n : Nat), Q v U.heap L → FrameEnd s (.returned v) U L k n → k ≤ ck → n ≤ sk → K (.returned v) U) → Rch p e below K T (entryFrame m as' maxL)) :
    MetFree l y (head1 (Cond.code y bytes maxL ret :: ws) rm) (fun a U => a = as' ∧ Z.Warmed39 U.vm ∧ U.heap = h0) (fun _ _ _ _ _ => True) (fun _ U o U' => ∃ v L, o = .returned v ∧ Q v U'.heap L ∧ FrameEnd U o U' L ck sk) := by
  refine MetFree.of_bodySF hn hisR ?_
  intro p e s m args below meth c s₁ Bd hml0 hP hK
  obtain ⟨rfl, hZ, hh⟩ := hP
  show Rch p e below (fun o U' => ∃ v L, o = .returned v ∧ Q v U'.heap L ∧ FrameEnd s o U' L ck sk) s₁ (entryFrame m args maxL)
  refine body p e s m below meth c s₁ _ Bd.exec Bd.bytes hml0 Bd.returns Bd.notSynchronized (findClass_of_methodNamed Bd.named) (name_of_methodNamed Bd.named Bd.method).1 hZ (Stand.of_body Bd) (by rw [← hh, Bd.state]; rfl) ?_
  intro v U L k n hQ hF hk hs
  exact ⟨v, L, rfl, hQ, hF.1, hF.2.1, hF.2.2.mono hk hs⟩
/-- a truth as an int -/
theorem own_selP {args : Array Value} {y : MethodName} {n : Nat} (wi : (Cond.instantiable y.cls n).before args s = true) (hp : (Cond.privateMethod y).before args s = true) (hinst : (Cond.instanceMethod y).before args s = true) (hy : y.cls ≠ "java/lang/invoke/MethodHandle" ∧ y.cls ≠ "java/lang/invoke/VarHandle") : (Cond.selects y.cls y y).before args s = true := by
  obtain ⟨c, k, h1, h2, -, h4, -⟩ := Cond.instantiable_spec wi
  exact Jvm.Stand.selects_self_of_private h1 h2 (by cases hq : k.isInterface <;> simp [hq] at h4 ⊢) (Cond.privateMethod_at hp) hinst hy
end New
section Arrays
variable {Z : State} {h h' : Heap} {a b : Addr} {ty : FieldType} {n i : Nat} {f f' : Nat → Value} {sl : Nat} {v : Value} {ws : List Addr} {j : Int32} {c : Cell}
/-- the array at a has n places; place q holds f q -/
def Av (Z : State) (h : Heap) (a : Addr) (ty : FieldType) (n : Nat) (f : Nat → Value) : Prop := ∃ cl : Cell, Arr Z h a cl ty ∧ cl.slots.size = n ∧ ∀ j, j < n → cl.slots[j]? = some (f j)
theorem Av.ext (V : Av Z h a ty n f) (E : Ext h h') : Av Z h' a ty n f := by obtain ⟨c, A, r⟩ := V; exact ⟨c, A.ext E, r⟩
theorem Av.other (V : Av Z h b ty n f) (W : Wr h h' a sl v) (q : b ≠ a) : Av Z h' b ty n f := by obtain ⟨c, A, r⟩ := V; exact ⟨c, A.other W q, r⟩
theorem Av.keep (V : Av Z h a ty n f) (K : Keep h h' ws) (q : a ∉ ws) : Av Z h' a ty n f := by obtain ⟨c, A, r⟩ := V; exact ⟨c, ⟨K.2.1 a c A.1 q, A.2⟩, r⟩
theorem Av.lt (V : Av Z h a ty n f) : a < h.size := by obtain ⟨c, A, -⟩ := V; exact A.lt
theorem Av.congr (V : Av Z h a ty n f) (q : ∀ j, j < n → f j = f' j) : Av Z h a ty n f' := by obtain ⟨c, A, S, H⟩ := V; exact ⟨c, A, S, fun j hj => by rw [H j hj, q j hj]⟩
theorem oNat (e : j.toInt = (i : Int)) : j.toNatClampNeg = i := by simp only [Int32.toNatClampNeg]; omega
theorem oNn (e : j.toInt = (i : Int)) : ¬ j < 0 := by
  rw [Int32.lt_iff_toInt_lt]; have : (0 : Int32).toInt = 0 := rfl
  omega
theorem oIn (S : c.slots.size = n) (e : j.toInt = (i : Int)) (hi : i < n) : ¬ (j < 0 ∨ c.slots.size ≤ j.toNatClampNeg) := by
  rw [oNat e, S]; intro q
  rcases q with q | q
  · exact oNn e q
  · omega
theorem oAt (H : ∀ j, j < n → c.slots[j]? = some (f j)) (e : j.toInt = (i : Int)) (hi : i < n) : c.slots[j.toNatClampNeg]? = some (f i) := by rw [oNat e]; exact H i hi
theorem Av.set (V : Av Z h a ty n f) (e : j.toInt = (i : Int)) (hi : i < n) (W : Wr h h' a j.toNatClampNeg v) : Av Z h' a ty n (fun q => if q = i then v else f q) := by
  obtain ⟨c, A, S, H⟩ := V
  rw [oNat e] at W
  refine ⟨_, A.same W, by rw [sz_set]; exact S, fun k hk => ?_⟩
  by_cases u : k = i
  · subst u; simp [Cell.setSlot, S, hk]
  · simp only [u, if_false, Cell.setSlot]; rw [Array.getElem?_setIfInBounds_ne (Ne.symm u)]; exact H k hk
theorem Av.setJ {y : Nat → Int64} {x : Int64} (V : Av Z h a ty n (fun q => .long (y q))) (e : j.toInt = (i : Int)) (hi : i < n) (W : Wr h h' a j.toNatClampNeg (.long x)) : Av Z h' a ty n (fun q => .long (if q = i then x else y q)) := (V.set e hi W).congr fun k _ => by
  by_cases u : k = i <;> simp [u]
theorem oLen (S : c.slots.size = n) : c.slots.size.toInt32 = Int32.ofNat n := by rw [S]
theorem Av.new {k : ClassId} {z : Int32} (A : Arr Z h a (newA k ty z) ty) (e : z.toInt = (n : Int)) : Av Z h a ty n (fun _ => defaultValue ty) :=
  ⟨_, A, by rw [sz_new]; exact oNat e, fun j hj => by have := oNat e; simp [newA, this, hj]⟩
/-- the array at a takes what is a C -/
def OvA (Z : State) (h : Heap) (a : Addr) (C : String) : Prop := ∃ cl : Cell, h[a]? = some cl ∧ Ovr Z cl.cls C
theorem OvA.ext {C : String} (F : OvA Z h a C) (E : Ext h h') : OvA Z h' a C := by obtain ⟨c, h1, h2⟩ := F; exact ⟨c, E.2 _ _ h1, h2⟩
theorem OvA.wr {C : String} (F : OvA Z h a C) (W : Wr h h' b sl v) : OvA Z h' a C := by
  obtain ⟨c, h1, h2⟩ := F
  obtain ⟨c', e1, e2, -⟩ := wr_at W h1
  exact ⟨c', e1, by rw [e2]; exact h2⟩
theorem OvA.keep {C : String} (F : OvA Z h a C) (K : Keep h h' ws) : OvA Z h' a C := by
  obtain ⟨c, h1, h2⟩ := F
  obtain ⟨c', e1, e2, -⟩ := K.2.2 a c h1
  exact ⟨c', e1, by rw [e2]; exact h2⟩
theorem OvA.at {C : String} (F : OvA Z h a C) (A : Arr Z h a c ty) : Ovr Z c.cls C := by
  obtain ⟨c', h1, h2⟩ := F
  cases h1.symm.trans A.1; exact h2
theorem oTo {n : Nat} (h : n < 2 ^ 31) : (Int32.ofNat n).toInt = (n : Int) := len_toInt h
end Arrays
end Jvm.RoadKit
namespace Jvm.RoadKit
open Sem ClassFile Op Lib Bundle Jvm.Stand Jvm.Free Jvm.LawKit Jvm.Free.SB Jvm.Free.SBG
section HeldOwn
variable {p : Program} {l : Launch} {e : Env} {R : Room} {s : State} {m : MethodId} {args : Array Value} {below : List Frame} {meth : Method} {c : Code} {T : State} {locs : List Loc} {cells slots : Nat} {Z : State} {EL : List (String × Nat)} {h h' h1 : Heap} {vm vm1 : Vm} {a b : Addr}
variable {ty : FieldType} {n : Nat} {f f' : Nat → Value} {k : ClassId} {z : Int32} {vs : List Value} {dv : Value}
theorem Av.arv (V : Av Z h a ty n f) (hn : n < 2 ^ 31) (G : ∀ q, q < n → fits ty (f q) = true) : ∃ k, Arv Z h a k ty (Int32.ofNat n) ((List.range n).map f) .null := by
  obtain ⟨c, A, S, H⟩ := V
  have e := oNat (oTo hn)
  refine ⟨c.cls, c, A, rfl, by rw [e]; exact S, oNn (oTo hn), fun j hj => ?_, fun j hj => ?_⟩
  · rw [S] at hj; rw [H j hj]; simp [hj]
  · rw [S] at hj; simpa [hj] using G j hj
theorem Arv.av (V : Arv Z h a k ty z vs dv) (e : z.toInt = (n : Int)) : Av Z h a ty n (fun j => vs.getD j dv) := by
  obtain ⟨c, A, -, S, -, H, -⟩ := V
  have S' : c.slots.size = n := by rw [S]; exact oNat e
  exact ⟨c, A, S', fun j hj => H j (by rw [S']; exact hj)⟩
/-- a copy of no component -/
theorem own_cp0 (X : Stand p l e R s m args below meth c T locs cells slots) (hx : p.tables.exec = Jvm.exec) (hZ : Z.Warmed39 s.vm) {a0 : Array Value} {own : String} {index : Nat} (hown : s.vm.findClass own = some m.cls)
    (w1 : (Cond.methodLink own index Jvm.Stand.acN).before a0 Z = true) (w2 : (Cond.native Jvm.Stand.acN).before a0 Z = true) (w3 : (Cond.static Jvm.Stand.acN).before a0 Z = true) (w4 : (Cond.initialized "java/lang/System").before a0 Z = true) (eT : T.heap = h)
    {n' i j : Nat} {sp dp : Int32} (A : Av Z h a ty n f) (B : Av Z h b ty n' f') (hn : n < 2 ^ 31) (hn' : n' < 2 ^ 31) (Ga : ∀ q, q < n → fits ty (f q) = true) (Gb : ∀ q, q < n' → fits ty (f' q) = true)
    (es : sp.toInt = (i : Int)) (ed : dp.toInt = (j : Int)) (h4 : i ≤ n) (h5 : j ≤ n') {n0 : Nat} (N : Fr n0 locs) (ge : n0 ≤ b)
    {g : JFrame} (hg : g.method = m) (hsize : g.locals.size = c.maxLocals) {rest : List Value} (hs : g.stack = .int (0 : Int32) :: .int dp :: .ref b :: .int sp :: .ref a :: rest) (hd : decode c.code g.pc = .ok (.invokestatic index, 3))
    (hf : 1 ≤ R.frames) {W : Nat} (hW : 2 * g.monitorRoom + (rest.map fun v => v.category).sum ≤ W) (hlo : W + (nativeFrameWords "java/lang/System" "arraycopy" 5 + 11) ≤ R.locals) :
    ∃ T' h' L, Stand p l e R s m args below meth c T' L cells slots ∧ T'.heap = h' ∧ Fr n0 L ∧ Keep h h' [b] ∧ Av Z h' b ty n' f' ∧
      ∀ target, Steps p.tables e below (T'.setTop { g with pc := g.pc + 3, stack := rest }) target → Steps p.tables e below (T.setTop g) target := by
  obtain ⟨kA, A'⟩ := A.arv hn Ga
  obtain ⟨kB, B'⟩ := B.arv hn' Gb
  have en : (0 : Int32).toInt = ((0 : Nat) : Int) := rfl
  have hty : (ty = ty ∧ refKind ty = false) ∨ (refKind ty = true ∧ refKind ty = true ∧ StoL Z h b []) := by
    cases hk : refKind ty
    · exact Or.inl ⟨rfl, rfl⟩
    · exact Or.inr ⟨rfl, rfl, trivial⟩
  obtain ⟨T', h', L, r1, r2, r3, r4, r5, r6⟩ := cpA (us := []) X hx hZ hown w1 w2 w3 w4 eT A' B' hty (oNn es) (oNn ed) (oNn en) (by rw [oNat es, oNat en, oNat (oTo hn)]; omega) (by rw [oNat ed, oNat en, oNat (oTo hn')]; omega) rfl (by rw [oNat ed, oNat en]; simpa using h5) N ge hg hsize hs hd hf hW hlo
  refine ⟨T', h', L, r1, r2, r3, r4, (Arv.av r5 (oTo hn')).congr (fun q hq => ?_), r6⟩
  rw [oNat ed, oNat en]
  simp [hq]
theorem Av.same {ty' : FieldType} {n' : Nat} (V : Av Z h a ty n f) (W : Av Z h a ty' n' f') : n = n' ∧ ∀ q, q < n → f q = f' q := by
  obtain ⟨c, A, S, H⟩ := V
  obtain ⟨c', A', S', H'⟩ := W
  cases A.1.symm.trans A'.1
  have e : n = n' := S.symm.trans S'
  exact ⟨e, fun q hq => Option.some.inj ((H q hq).symm.trans (H' q (e ▸ hq)))⟩
theorem own_exane {C D : String} (E : Exa Z h a C) (F : Exa Z h b D) (q : C ≠ D) : a ≠ b := fun e => by
  subst e
  obtain ⟨c1, k1, e1, e2, -⟩ := E
  obtain ⟨c2, k2, f1, f2, -⟩ := F
  cases e1.symm.trans f1
  exact ids_ne e2 f2 q rfl
end HeldOwn
end Jvm.RoadKit
namespace Jvm.RoadKit
open Sem ClassFile Op Lib Jvm.Stand Jvm.Free Jvm.LawKit Jvm.Free.Fn Jvm.Free.Fw Jvm.Free.HMW
section Warm
variable {p : Program} {l : Launch} {e : Env} {R : Room} {s : State} {m : MethodId} {args : Array Value} {below : List Frame} {meth : Method} {c : Code} {T : State} {locs : List Loc} {cells slots : Nat} {Z : State} {h : Heap} {a0 : Array Value}
/-- getfield through an entry that was resolved ahead -/
theorem own_getR (X : Stand p l e R s m args below meth c T locs cells slots) (hx : p.tables.exec = Jvm.exec) (hZ : Z.Warmed39 s.vm) {own O n d : String} {index : Nat} (hown : s.vm.findClass own = some m.cls) (w : (Cond.fieldRef own index O n d).before a0 Z = true)
    (eT : T.heap = h) {a : Addr} {v : Value} (F : Fld Z h a O n d v) {g : JFrame} (hg : g.method = m) {rest : List Value} (hs : g.stack = .ref a :: rest) (hd : decode c.code g.pc = .ok (.getfield index, 3)) : ∀ target, Steps p.tables e below (T.setTop { g with pc := g.pc + 3, stack := v :: rest }) target → Steps p.tables e below (T.setTop g) target := by
  obtain ⟨cell, cf, k, i, f, h1, h2, h3, h4, -, -, h7⟩ := F
  have hU : Z.Warmed39 T.vm := wtrans hZ X.warmed
  obtain ⟨k1, hi, -⟩ := State.fieldFound?_setVm (s := Z) hU.alike h2
  have hcur : (Z.setVm T.vm).vm.findClass own = some g.method.cls := by rw [hg]; show T.vm.findClass own = _; rw [X.warmed.alike.findClass]; exact hown
  obtain ⟨c', k', i', f', q1, q2⟩ := Cond.fieldRef_spec hcur (Cond.fieldRef_warmed39 hU w)
  rw [hi] at q1
  simp only [Option.some.injEq, Prod.mk.injEq] at q1
  obtain ⟨rfl, -, -, rfl⟩ := q1
  intro target k
  have hA : At T g.method c below := by rw [hg]; exact X.here
  jvm_step hA [hx, hd, getfield.wp_ready (e := e) (s := T) (f := g) (c := cf) (field := f) (a := a) (rest := rest) (cell := cell) (v := v) X.here.top q2 h3 hs (by rw [eT]; exact h1) h4 h7]
  exact k
/-- a constructor's call through an entry that was resolved ahead -/
theorem own_spR (X : Stand p l e R s m args below meth c T locs cells slots) (hx : p.tables.exec = Jvm.exec) (hZ : Z.Warmed39 s.vm) {own : String} {index : Nat} {y : MethodName} (hy1 : y.name = "<init>") (hown : s.vm.findClass own = some m.cls) (w : (Cond.methodRef own index y).before a0 Z = true) (hinst : (Cond.instanceMethod y).before a0 Z = true)
    {bytes : ByteArray} {maxL : Nat} (hcode : (Cond.code y bytes maxL none).before a0 Z = true) (hy : y.cls ≠ "java/lang/invoke/MethodHandle" ∧ y.cls ≠ "java/lang/invoke/VarHandle") : SCall p l e R s m args below meth c index y := by
  refine SCall.of_ready hx hy1 (mvT hZ hinst) (mvT hZ hcode) ?_
  intro U r hW hr
  have hU : Z.Warmed39 U.vm := wtrans hZ hW
  obtain ⟨mT, hmT⟩ := Cond.code_named hcode
  have hr' : mT = r := by
    have q := State.methodNamed?_setVm (s := Z) hZ.alike y
    rw [hmT] at q
    exact Option.some.inj (q.symm.trans hr)
  subst hr'
  have hcur : (Z.setVm U.vm).vm.findClass own = some m.cls := by show U.vm.findClass own = _; rw [hW.alike.findClass]; exact hown
  obtain ⟨m', c', q1, q2, q3, q4⟩ := Cond.methodRef_named e hcur (Cond.methodRef_warmed39 hU hmT hy w)
  rw [State.methodFound?_setVm_of_named hU.alike hmT hy, State.methodFound?_of_named hmT hy] at q1
  cases q1
  have q3' : U.vm.findClass y.cls = some c' := q3
  rw [hU.alike.findClass, findClass_of_methodNamed hmT] at q3'
  cases q3'
  exact ⟨q4, q2⟩
theorem own_fnX (hZ : Z.Warmed39 s.vm) {xi : MethodName} {cF : ClassId} {mk : MethodId} (h : FnX xi cF mk Z) : FnX xi cF mk s := by
  have hA := hZ.alike
  obtain ⟨kF, mK, h1, h2, h3, h4, h5⟩ := h
  obtain ⟨k', h1', -⟩ := hA.2.2 _ _ h1
  refine ⟨k', mK, h1', by rw [hA.method?]; exact h2, h3, h4, fun r0 r q1 q2 => ?_⟩
  have q1' : Z.methodNamed? xi = some r0 := by
    have q := State.methodNamed?_setVm (s := Z) hA xi
    exact q.symm.trans q1
  rw [hA.method?] at q2
  obtain ⟨a1, a2, a3⟩ := h5 r0 r q1' q2
  refine ⟨by rw [hA.assignable]; exact a1, by rw [hA.selectMethod]; exact a2, ?_⟩
  rw [hA.superclasses]
  simpa only [hA.declaredIn] using a3
theorem own_metN {y : MethodName} {bytes : ByteArray} {maxL : Nat} {ret : Option FieldType} {ws : List Cond} {rm : Room} {as' : Array Value} {h0 : Heap} {Q : Option Value → Heap → List Loc → Prop} {ck sk : Nat} (hn : plainFor y = true)
    (body : ∀ (p : Program) (e : Env) (s : State) (m : MethodId) (below : List Frame) (meth : Method) (c : Code) (T : State) (K : Outcome → State → Prop), p.tables.exec = Jvm.exec → c.code = bytes → c.maxLocals = maxL → meth.sig.returnType = ret → meth.locks = false → s.vm.findClass y.cls = some m.cls → meth.name = y.name → s.methodNamed? y = some m → Z.Warmed39 s.vm → Stand p l e rm s m as' below meth c T [] 0 0 → T.heap = h0 →
      (∀ (v : Option Value) (U : State) (L : List Loc) (k n : Nat), Q v U.heap L → FrameEnd s (.returned v) U L k n → k ≤ ck → n ≤ sk → K (.returned v) U) → Rch p e below K T (entryFrame m as' maxL)) :
    MetFree l y (head1 (Cond.code y bytes maxL ret :: ws) rm) (fun a U => a = as' ∧ Z.Warmed39 U.vm ∧ U.heap = h0) (fun _ _ _ _ _ => True) (fun _ U o U' => ∃ v L, o = .returned v ∧ Q v U'.heap L ∧ FrameEnd U o U' L ck sk) := by
  refine MetFree.of_bodySF hn hisR ?_
  intro p e s m args below meth c s₁ Bd hml0 hP hK
  obtain ⟨rfl, hZ, hh⟩ := hP
  show Rch p e below (fun o U' => ∃ v L, o = .returned v ∧ Q v U'.heap L ∧ FrameEnd s o U' L ck sk) s₁ (entryFrame m args maxL)
  refine body p e s m below meth c s₁ _ Bd.exec Bd.bytes hml0 Bd.returns Bd.notSynchronized (findClass_of_methodNamed Bd.named) (name_of_methodNamed Bd.named Bd.method).1 Bd.named hZ (Stand.of_body Bd) (by rw [← hh, Bd.state]; rfl) ?_
  intro v U L k n hQ hF hk hs
  exact ⟨v, L, rfl, hQ, hF.1, hF.2.1, hF.2.2.mono hk hs⟩
theorem own_fwd {σ : Lambda.Shape} {host : String} {fcode : ByteArray} {fml idx ci : Nat} {fret : Option FieldType} (hok : Jvm.LamKit.fwdOK σ host fcode fml fret idx ci = true) :
    ∃ cf methods am, σ.file host = some cf ∧ layoutMethods cf = some methods ∧ methods[1]? = some am ∧ am.accessFlags = 0x0001 := by
  unfold Jvm.LamKit.fwdOK at hok
  rw [Bool.and_eq_true] at hok
  obtain ⟨-, hok⟩ := hok
  cases hf : σ.file host with
  | none => rw [hf] at hok; cases hok
  | some D =>
    rw [hf] at hok
    dsimp only at hok
    split at hok
    · rename_i f ci' nt n h1 h2 h3
      simp only [Bool.and_eq_true, decide_eq_true_eq] at hok
      obtain ⟨⟨⟨⟨⟨⟨⟨-, ffl⟩, -⟩, -⟩, -⟩, -⟩, -⟩, -⟩ := hok
      rw [Option.bind_eq_some_iff] at h1
      obtain ⟨ms, q1, q2⟩ := h1
      exact ⟨D, ms, f, rfl, q1, q2, ffl⟩
    · cases hok
/-- what is known of a function object that captures nothing, over the start alone -/
def FnZ (Z : State) (x xi : MethodName) (σ : Lambda.Shape) (a : Addr) : Prop :=
  ∃ (cK d : ClassId) (dk : Class) (cell : Cell), Z.vm.classes[d]? = some dk ∧ dk.name = x.cls ∧ Lambda.isMade { classPath := fun _ => none } Z.vm d σ cK = true ∧ FnX xi cK ⟨cK, 1⟩ Z ∧ Z.heap[a]? = some cell ∧ cell.cls = cK ∧ cell.vm = .none
theorem own_site (X : Stand p l e R s m args below meth c T locs cells slots) (hx : p.tables.exec = Jvm.exec) (hZ : Z.Warmed39 s.vm) {x xi : MethodName} {pc index : Nat} {σ : Lambda.Shape} (w : (Cond.lambdaSite x pc index σ).before a0 Z = true) (hcap : σ.captured = [])
    (hcls : σ.iface = xi.cls) (hname : σ.name = xi.name) (hdesc : σ.sam.toString = xi.desc) (hword : (Cond.interfaceMethod xi.cls xi.cls xi.name xi.desc).before a0 Z = true)
    {cf : ClassFile} {methods : Array Method} {am : Method} (hfile : σ.file x.cls = some cf) (hlay : layoutMethods cf = some methods) (h1 : methods[1]? = some am) (hfl : am.accessFlags = 0x0001)
    (hnamed : s.methodNamed? x = some m) {g : JFrame} (hg : g.method = m) (hpc : g.pc = pc) (hsize : g.locals.size = c.maxLocals)
    (hdg : decode c.code g.pc = .ok (.invokedynamic index, 5)) (hwords : 2 * g.monitorRoom + (g.stack.map fun v => v.category).sum + 3072 ≤ R.locals) :
    ∃ a, FnZ Z x xi σ a ∧ ∀ target, Steps p.tables e below (T.setTop { g with pc := g.pc + 5, stack := .ref a :: g.stack }) target → Steps p.tables e below (T.setTop g) target := by
  obtain ⟨cK, one, hat⟩ := Cond.lambdaSite_spec w
  have hF := (Jvm.Free.Fn.of_lambdaAt hat hcls hname hdesc hword hfile hlay h1 hfl).1
  obtain ⟨mD, kD, cfD, i0, p0, lk, hmD, hkD, -, -, -, hfind, hmade, hcan, hl⟩ := State.lambdaAt?_spec hat
  have hmm : mD = m := by
    have q := State.methodNamed?_setVm (s := Z) hZ.alike x
    rw [hmD] at q
    exact Option.some.inj (q.symm.trans hnamed)
  subst hmm
  obtain ⟨kD', hkD', hnameD⟩ := className_of_methodNamed hmD
  cases hkD.symm.trans hkD'
  obtain ⟨kS, hkS, heS⟩ := hZ.alike.2.2 _ _ hkD
  rcases hl with ⟨a, cell, rfl, -, -, hcell, hcl, hvm, -⟩ | ⟨-, -, hne⟩
  · have hw : e.platform.lambdaLinkWords = 3072 := by rw [X.admits.platform]
    refine ⟨a, ⟨cK, _, kD, cell, hkD, hnameD, hmade, hF, hcell, hcl, hvm⟩, fun target h => ?_⟩
    exact X.lambdaConstant hx hg hsize hdg hkS (by rw [hpc, heS]; exact hfind) (by rw [hw]; exact hwords) h
  · exact absurd hcap hne
/-- an entry that stands resolved stays -/
theorem own_res (hU : Z.Warmed39 s.vm) {cK i : Nat} {k : Class} {x : Resolved} (hk : Z.vm.classes[cK]? = some k) (hr : k.resolved[i]? = some (some x)) : ∃ k', s.vm.classes[cK]? = some k' ∧ k'.resolved[i]? = some (some x) := by
  obtain ⟨k', h1, -, -, h2, -⟩ := hU.2.2.2 _ _ hk
  refine ⟨k', h1, ?_⟩
  rcases h2 i with q | ⟨q, -⟩
  · rw [q]; exact hr
  · rw [hr] at q; cases q
/-- the forwarder's pool names at cc the class to cast to -/
def castOK (σ : Lambda.Shape) (host : String) (cc : Nat) (name : String) : Bool :=
  match σ.file host with
  | none => false
  | some D => match D.constantPool[cc]? with
    | some (.class_ n) => decide (D.constantPool.string? n = some name) && decide (cc ≠ D.thisClass)
    | _ => false
theorem own_cast {st : Setting} {vm : Vm} {d cK x : ClassId} {dk : Class} {σ : Lambda.Shape} {host name : String} {cc : Nat} (hok : castOK σ host cc name = true) (hd : vm.classes[d]? = some dk) (hname : dk.name = host) (h : Lambda.isMade st vm d σ cK = true) (hf : vm.findClass name = some x) :
    vm.classReady cK cc x := by
  obtain ⟨dk', k, ok, tk, file, cf, object, iface, toy, lay, methods, target, found, hd', hk, hfile, hcf, -, -, -, -, hms, ht, htk, hg, -, hrec, -, -, -, -, hpool, hmeth, -, -, hres, -⟩ := Lambda.isMade_spec h
  cases hd.symm.trans hd'
  rw [hname] at hcf
  unfold castOK at hok
  rw [hcf] at hok
  dsimp only at hok
  split at hok
  · rename_i n hn
    simp only [Bool.and_eq_true, decide_eq_true_eq] at hok
    exact ⟨k, hk, hres cc _ (Lambda.resolvedOf_class hn hok.2 hok.1 hf)⟩
  · cases hok
/-- f.apply(k): f the object of a lambda with a static target of one parameter, which captures nothing -/
theorem own_lam (X : Stand p l e R s m args below meth c T locs cells slots) (hx : p.tables.exec = Jvm.exec) (hZ : Z.Warmed39 s.vm) {own KC : String} {index count : Nat} {x xi y : MethodName} {σ : Lambda.Shape} (hown : s.vm.findClass own = some m.cls)
    (w1 : (Cond.methodLink own index xi).before args s = true) (w2 : (Cond.declares xi).before args s = true) (w3 : (Cond.interfaceMethod xi.cls xi.cls xi.name xi.desc).before args s = true) (hxi : xi.cls ≠ "java/lang/invoke/MethodHandle" ∧ xi.cls ≠ "java/lang/invoke/VarHandle")
    {b k : Addr} (hb : FnZ Z x xi σ b) (eT : T.heap = h) (E : Ext Z.heap h) (Ek : Exa Z h k KC)
    {fcode : ByteArray} {idx ci cc : Nat} (hok : Jvm.LamKit.fwdOK σ x.cls fcode 2 (some OT) idx ci = true) (hcok : castOK σ x.cls cc KC = true)
    (f0 : decode fcode 0 = .ok (.aload_n 1, 1)) (f1 : decode fcode 1 = .ok (.checkcast cc, 3)) (f4 : decode fcode 4 = .ok (.invokestatic idx, 3)) (f7 : decode fcode 7 = .ok (.areturn, 1))
    (hy : y.cls = σ.implClass ∧ y.name = σ.implName ∧ y.desc = σ.implDesc.toString) (hpoly : y.cls ≠ "java/lang/invoke/MethodHandle" ∧ y.cls ≠ "java/lang/invoke/VarHandle")
    {bytes : ByteArray} {maxL : Nat} {ret : Option FieldType} (hcode : (Cond.code y bytes maxL ret).before a0 Z = true) (hst : (Cond.static y).before a0 Z = true) (hini : (Cond.initialized y.cls).before a0 Z = true)
    {sig : MethodDescriptor} (hsig : parseMethodDescriptor y.desc = some sig) (hn1 : sig.parameters.length = 1)
    {rm : Room} {Q : Option Value → Heap → List Loc → Prop} (hM : MetFree l y (head1 [Cond.code y bytes maxL ret] rm) (fun a U => a = #[.ref k] ∧ Z.Warmed39 U.vm ∧ U.heap = h) (fun _ _ _ _ _ => True) (fun _ U o U' => ∃ v L, o = .returned v ∧ Q v U'.heap L ∧ FrameEnd U o U' L rm.cells rm.slots))
    (hout : ∀ v h' L, Q v h' L → ∃ w, v = some w ∧ w.isRef = true)
    {g : JFrame} (hg : g.method = m) (hsize : g.locals.size = c.maxLocals) {rest : List Value} (hlen : ∀ sg, parseMethodDescriptor xi.desc = some sg → ([.ref k] : List Value).length = sg.parameters.length) (hstack : g.stack = ([.ref k] : List Value).reverse ++ .ref b :: rest)
    (hdg : decode c.code g.pc = .ok (.invokeinterface index count, 5)) {W : Nat} (hW : 2 * g.monitorRoom + (rest.map fun v => v.category).sum ≤ W) (hfr : rm.frames + 2 ≤ R.frames) (hlo : W + (2 + 11) + (maxL + 11 + rm.locals) ≤ R.locals) (hce : cells + rm.cells ≤ R.cells) (hsl : slots + rm.slots ≤ R.slots) :
    ∃ (v : Option Value) (T' : State) (L : List Loc), Stand p l e R s m args below meth c T' (locs ++ L) (cells + rm.cells) (slots + rm.slots) ∧ Q v T'.heap L ∧
      Steps p.tables e below (T.setTop g) (T'.setTop { g with pc := g.pc + 5, stack := v.toList ++ rest }) := by
  obtain ⟨cK, d, dk, cell, hd, hdn, hmade, hF, hcell, rfl, hvm⟩ := hb
  obtain ⟨kZ, tkZ, fileZ, methk, ck, toy, t, nt, hkZ, hpn, hfileZ, hidx, hnt, hmk, hck, hbytes, hml, hlk, -, hret, htoy, htk, hlook, hready, hclsR⟩ := Jvm.LamKit.made_static hok hd hdn hmade
  obtain ⟨cellk, kk, e1, e2, e3, e4, -⟩ := id Ek
  have hcr := own_cast hcok hd hdn hmade e2
  obtain ⟨y1, y2, y3⟩ := hy
  have hfound : Z.methodFound? y.cls y.name y.desc = some t := by
    rw [y1, y2, y3]
    simp only [State.methodFound?, htoy, htk, Option.bind_eq_bind, Option.bind_some]
    rw [hlook]; rfl
  let R' : Room := { frames := rm.frames + 1, cells := rm.cells, slots := rm.slots, locals := maxL + 11 + rm.locals }
  have hF' : ∀ U : State, s.WarmedH U.vm → Base U cell.cls methk ck 2 (some OT) ∧ U.vm.classReady cell.cls cc cellk.cls ∧ StaticAt e U cell.cls idx y 1 := fun U hWU => by
    have hU : Z.Warmed39 U.vm := wtrans hZ hWU
    have hA := hU.alike
    obtain ⟨kU, hkU, heU⟩ := hA.2.2 _ _ hkZ
    obtain ⟨tkU, htkU, hetU⟩ := hA.2.2 _ _ htk
    obtain ⟨k1, g1, g2⟩ := hready
    obtain ⟨k2, g3, g4⟩ := hclsR
    obtain ⟨k3, g5, g6⟩ := hcr
    refine ⟨⟨by rw [hA.method?]; exact hmk, hck, hlk, State.plainMethod.of_name (fun k' hk' => by cases hkU.symm.trans hk'; rw [heU]; exact hpn), hml, hret⟩, own_res hU g5 g6, ?_⟩
    have hfU : (Z.setVm U.vm).methodFound? y.cls y.name y.desc = some t := by rw [State.methodFound?_setVm hA]; exact hfound
    have htoyU : U.vm.findClass y.cls = some toy := by rw [hA.findClass, y1]; exact htoy
    simp only [State.methodFound?, State.vm_setVm, htoyU, htkU, Option.bind_eq_bind, Option.bind_some] at hfU
    have hlookU : ((methodIn toy y.name y.desc tkU.isInterface none).ask { classPath := fun _ => none } U.vm).1 = .ok t := by
      revert hfU
      cases ((methodIn toy y.name y.desc tkU.isInterface none).ask { classPath := fun _ => none } U.vm).1 with
      | ok z => intro q; simp only [Except.toOption, Option.some.injEq] at q; rw [q]
      | error z => intro q; simp [Except.toOption] at q
    exact StaticAt.of_made (y := y) (ci := ci) (nt := nt) hkU (file := fileZ) (by rw [heU]; exact hfileZ) hidx (by rw [y2, y3]; exact hnt) (own_res hU g1 g2) (own_res hU g3 g4) htoyU htkU hlookU hpoly (mvT hU hcode) (mvT hU hst) (mvT hU hini) hsig hn1
  have hK := fn1Static (l := l) (p := p) (e := e) hx (Rm := R) (R' := R') (below' := below) (s' := s) (sargs' := args) (cK := cell.cls) (ci := cc) (mi := idx) (cT := cellk.cls) (y := y) (methk := methk) (ck := ck) (len := 5) (W := W)
    (by rw [hbytes]; exact f0) (by rw [hbytes]; exact f1) (by rw [hbytes]; exact f4) (by rw [hbytes]; exact f7) hF'
    (fun U g' a hWU => backOf (W := 0) hM (show Z.Warmed39 (U.calling g' ⟨cell.cls, 1⟩ a).vm from wtrans hZ hWU) hcode hini (Nat.le_refl _) (by show 0 + (maxL + 11) + rm.locals ≤ maxL + 11 + rm.locals; omega))
    (fun A a v B _ hp => by obtain ⟨L, q, -⟩ := hp; exact hout _ _ _ q) (by show rm.frames + 1 + 1 ≤ R.frames; omega) hlo
  obtain ⟨v, vm₁, ⟨T', L', k', n'⟩, hW1, X', hP, st⟩ := X.fnAt hx hown (fun w hw => by
      simp only [fnW, List.mem_cons, List.not_mem_nil, or_false] at hw
      rcases hw with rfl | rfl | rfl
      · exact w1
      · exact w2
      · exact w3) hxi (own_fnX hZ hF) hK (fun _ _ => rfl) (b := b) ⟨cell, by rw [eT]; exact E.2 _ _ hcell, rfl, by rw [hvm]; rfl⟩ hg hsize (Steps.refl _) (argsL := [.ref k]) (rest := rest) hlen hstack hW hdg
    (fun vm₁ hv => by
      have hU : Z.Warmed39 vm₁ := State.Warmed39.trans hZ hv.wide
      obtain ⟨ks, q1, -⟩ := hU.alike.2.2 _ _ e3
      have hs := Ins.self Ek
      obtain ⟨cell2, cT, i1, i2, i3⟩ := hs
      cases e1.symm.trans i1
      rw [e2] at i2
      cases i2
      simp only [Bool.and_eq_true] at i3
      refine ⟨b, .ref k, rfl, rfl, Or.inr ⟨k, cellk, ks, ks, rfl, by show T.heap[k]? = _; rw [eT]; exact e1, (fun z hz => by rw [hz] at e4; cases e4), q1, q1, by show vm₁.assignable _ _ = true; rw [hU.alike.assignable]; exact i3.2⟩, hce, hsl, fun U₀ _ hh => ⟨rfl, by rw [hh]; exact eT, by show 0 + rm.cells ≤ rm.cells; omega, by show 0 + rm.slots ≤ rm.slots; omega⟩⟩)
  dsimp only [Pt.U, Pt.locs, Pt.cells, Pt.slots] at X' hP st
  obtain ⟨xv, U₀, U₁, L₁, c₁, n₁, -, -, -, ⟨Lq, hQ, l1, l2, l3⟩, hh, -, rfl, rfl, rfl⟩ := hP
  rw [List.nil_append] at l1
  rw [Nat.zero_add] at l2 l3
  subst l1 l2 l3
  exact ⟨v, T', L₁, X', by rw [hh]; exact hQ, st⟩
end Warm
end Jvm.RoadKit
namespace Jvm.RoadKit
open Sem ClassFile Op Lib Jvm.Stand Jvm.Free Jvm.LawKit
abbrev DB (p : Program) (c : Code) (Lz : List (Nat × Instr × Nat)) : Prop := p.tables.exec = Jvm.exec ∧ ∀ q ∈ Lz, decode c.code q.1 = .ok q.2
theorem DB.at {p : Program} {c : Code} {Lz : List (Nat × Instr × Nat)} (D : DB p c Lz) {i : Nat} {pc : Nat} {r : Instr × Nat} (h : Lz[i]? = some (pc, r)) : decode c.code pc = .ok r := D.2 (pc, r) (List.mem_of_getElem? h)
theorem DB.on {p : Program} {c : Code} {Lz : List (Nat × Instr × Nat)} (D : DB p c Lz) (i : Nat) {pc : Nat} {r : Instr × Nat} (h : Lz[i]? = some (pc, r)) : decode c.code pc = .ok r := D.at h
theorem DB.of {p : Program} {c : Code} {b : ByteArray} {Lz : List (Nat × Instr × Nat)} (hx : p.tables.exec = Jvm.exec) (hby : c.code = b) (d : ∀ q ∈ Lz, decode b q.1 = .ok q.2) : DB p c Lz := ⟨hx, fun q hq => hb hby (d q hq)⟩
section Tight
variable {p : Program} {l : Launch} {e : Env} {R : Room} {s : State} {m : MethodId} {args : Array Value} {below : List Frame} {meth : Method} {c : Code} {T : State} {locs : List Loc} {cells slots : Nat} {K : Outcome → State → Prop} {Lz : List (Nat × Instr × Nat)} {Z : State} {h : Heap} {a0 : Array Value}
theorem ziinc (X : Stand p l e R s m args below meth c T locs cells slots) (D : DB p c Lz) (iz : Nat) {pcz pc_ : Nat} {Lz_ : Array Slot} {st_ : List Value} {k : Nat} {cst : Int} {x : Int32} {l' : Array Slot} (h_ : Lz[iz]? = some (pcz, .iinc k cst, 3)) (e_ : pc_ = pcz) (hl : Lz_[k]? = some (.val (.int x))) (hl' : storeLocals Lz_ k (.int (x + Int32.ofInt cst)) = some l') (hr : Rch p e below K T (mkF m (pcz + 3) l' st_)) : Rch p e below K T (mkF m pc_ Lz_ st_) := by
  subst e_
  exact Rch.of (fun _ kt => XS.iinc X.here D.1 rfl (D.at h_) hl hl' kt) hr
theorem ziN (X : Stand p l e R s m args below meth c T locs cells slots) (D : DB p c Lz) (iz : Nat) {pcz pc_ : Nat} {Lz_ : Array Slot} {st_ : List Value} {k : Fin 4} {v : Int32} (h_ : Lz[iz]? = some (pcz, .iload_n k, 1)) (e_ : pc_ = pcz) (hl : Lz_[k.val]? = some (.val (.int v))) (hr : Rch p e below K T (mkF m (pcz + 1) Lz_ (.int v :: st_))) : Rch p e below K T (mkF m pc_ Lz_ st_) := by
  subst e_
  exact Rch.of (fun _ kt => XS.iloadN X.here D.1 rfl (D.at h_) hl kt) hr
theorem zN (X : Stand p l e R s m args below meth c T locs cells slots) (D : DB p c Lz) (iz : Nat) {pcz pc_ : Nat} {Lz_ : Array Slot} {cd : ClassFile.Cond} {o : Int} {x : Int32} {rest : List Value} (h_ : Lz[iz]? = some (pcz, .ifCond cd o, 3)) (e_ : pc_ = pcz) (hc : ifCond.holds cd x = false) (hr : Rch p e below K T (mkF m (pcz + 3) Lz_ rest)) : Rch p e below K T (mkF m pc_ Lz_ (.int x :: rest)) := by
  subst e_
  exact Rch.of (fun _ kt => XS.ifNo X.here D.1 rfl (D.at h_) rfl hc kt) hr
theorem zic (X : Stand p l e R s m args below meth c T locs cells slots) (D : DB p c Lz) (iz : Nat) (zz : Int32) {pcz pc_ : Nat} {Lz_ : Array Slot} {st_ : List Value} {i : Int} (h_ : Lz[iz]? = some (pcz, .iconst i, 1)) (e_ : pc_ = pcz) (hz : (Int32.ofInt i) = zz) (hr : Rch p e below K T (mkF m (pcz + 1) Lz_ (.int zz :: st_))) : Rch p e below K T (mkF m pc_ Lz_ st_) := by
  subst e_ hz
  exact Rch.of (fun _ kt => XS.iconst X.here D.1 rfl (D.at h_) kt) hr
theorem zisub (X : Stand p l e R s m args below meth c T locs cells slots) (D : DB p c Lz) (iz : Nat) (zz : Int32) {pcz pc_ : Nat} {Lz_ : Array Slot} {x y : Int32} {rest : List Value} (h_ : Lz[iz]? = some (pcz, .isub, 1)) (e_ : pc_ = pcz) (hz : (x - y) = zz) (hr : Rch p e below K T (mkF m (pcz + 1) Lz_ (.int zz :: rest))) : Rch p e below K T (mkF m pc_ Lz_ (.int y :: .int x :: rest)) := by
  subst e_ hz
  exact Rch.of (fun _ kt => XS.isub X.here D.1 rfl (D.at h_) rfl kt) hr
theorem zistoreN (X : Stand p l e R s m args below meth c T locs cells slots) (D : DB p c Lz) (iz : Nat) {pcz pc_ : Nat} {Lz_ : Array Slot} {k : Fin 4} {x : Int32} {rest : List Value} {l' : Array Slot} (h_ : Lz[iz]? = some (pcz, .istore_n k, 1)) (e_ : pc_ = pcz) (hl : storeLocals Lz_ k.val (.int x) = some l') (hr : Rch p e below K T (mkF m (pcz + 1) l' rest)) : Rch p e below K T (mkF m pc_ Lz_ (.int x :: rest)) := by
  subst e_
  exact Rch.of (fun _ kt => XS.istoreN X.here D.1 rfl (D.at h_) rfl hl kt) hr
theorem zY (X : Stand p l e R s m args below meth c T locs cells slots) (D : DB p c Lz) (iz : Nat) (pq : Nat) {pcz pc_ : Nat} {Lz_ : Array Slot} {cd : ClassFile.Cond} {x : Int32} {rest : List Value} {o : Int} (h_ : Lz[iz]? = some (pcz, .ifCond cd o, 3)) (e_ : pc_ = pcz) (hc : ifCond.holds cd x = true) (hp : (pcz : Int) + o = (pq : Int)) (hr : Rch p e below K T (mkF m pq Lz_ rest)) : Rch p e below K T (mkF m pc_ Lz_ (.int x :: rest)) := by
  subst e_
  exact Rch.of (fun _ kt => XS.ifYes X.here D.1 rfl rfl (D.at h_) rfl hc (by rw [hp]; exact Int.natCast_nonneg _) (by rw [hp]; exact Int.toNat_natCast _) kt) hr
theorem zcY (X : Stand p l e R s m args below meth c T locs cells slots) (D : DB p c Lz) (iz : Nat) (pq : Nat) {pcz pc_ : Nat} {Lz_ : Array Slot} {cd : ClassFile.Cond} {x y : Int32} {rest : List Value} {o : Int} (h_ : Lz[iz]? = some (pcz, .if_icmp cd o, 3)) (e_ : pc_ = pcz) (hc : if_icmp.holds cd x y = true) (hp : (pcz : Int) + o = (pq : Int)) (hr : Rch p e below K T (mkF m pq Lz_ rest)) : Rch p e below K T (mkF m pc_ Lz_ (.int y :: .int x :: rest)) := by
  subst e_
  exact Rch.of (fun _ kt => XS.icmpYes X.here D.1 rfl rfl (D.at h_) rfl hc (by rw [hp]; exact Int.natCast_nonneg _) (by rw [hp]; exact Int.toNat_natCast _) kt) hr
theorem zcN (X : Stand p l e R s m args below meth c T locs cells slots) (D : DB p c Lz) (iz : Nat) {pcz pc_ : Nat} {Lz_ : Array Slot} {cd : ClassFile.Cond} {o : Int} {x y : Int32} {rest : List Value} (h_ : Lz[iz]? = some (pcz, .if_icmp cd o, 3)) (e_ : pc_ = pcz) (hc : if_icmp.holds cd x y = false) (hr : Rch p e below K T (mkF m (pcz + 3) Lz_ rest)) : Rch p e below K T (mkF m pc_ Lz_ (.int y :: .int x :: rest)) := by
  subst e_
  exact Rch.of (fun _ kt => XS.icmpNo X.here D.1 rfl (D.at h_) rfl hc kt) hr
theorem zdu (X : Stand p l e R s m args below meth c T locs cells slots) (D : DB p c Lz) (iz : Nat) {pcz pc_ : Nat} {Lz_ : Array Slot} {x : Value} {rest : List Value} (h_ : Lz[iz]? = some (pcz, .dup, 1)) (e_ : pc_ = pcz) (hc : x.category = 1) (hr : Rch p e below K T (mkF m (pcz + 1) Lz_ (x :: x :: rest))) : Rch p e below K T (mkF m pc_ Lz_ (x :: rest)) := by
  subst e_
  exact Rch.of (fun _ kt => XS.dup X.here D.1 rfl (D.at h_) rfl hc kt) hr
theorem ziadd (X : Stand p l e R s m args below meth c T locs cells slots) (D : DB p c Lz) (iz : Nat) (zz : Int32) {pcz pc_ : Nat} {Lz_ : Array Slot} {x y : Int32} {rest : List Value} (h_ : Lz[iz]? = some (pcz, .iadd, 1)) (e_ : pc_ = pcz) (hz : (x + y) = zz) (hr : Rch p e below K T (mkF m (pcz + 1) Lz_ (.int zz :: rest))) : Rch p e below K T (mkF m pc_ Lz_ (.int y :: .int x :: rest)) := by
  subst e_ hz
  exact Rch.of (fun _ kt => XS.iadd X.here D.1 rfl (D.at h_) rfl kt) hr
theorem zaN (X : Stand p l e R s m args below meth c T locs cells slots) (D : DB p c Lz) (iz : Nat) {pcz pc_ : Nat} {Lz_ : Array Slot} {st_ : List Value} {k : Fin 4} {v : Value} (h_ : Lz[iz]? = some (pcz, .aload_n k, 1)) (e_ : pc_ = pcz) (hl : Lz_[k.val]? = some (.val v)) (hv : v.isRef = true) (hr : Rch p e below K T (mkF m (pcz + 1) Lz_ (v :: st_))) : Rch p e below K T (mkF m pc_ Lz_ st_) := by
  subst e_
  exact Rch.of (fun _ kt => XS.aloadN X.here D.1 rfl (D.at h_) hl hv kt) hr
theorem zat (X : Stand p l e R s m args below meth c T locs cells slots) (D : DB p c Lz) (iz : Nat) {pcz pc_ : Nat} {Lz_ : Array Slot} {k : Fin 4} {x : Value} {rest : List Value} {l' : Array Slot} (h_ : Lz[iz]? = some (pcz, .astore_n k, 1)) (e_ : pc_ = pcz) (hv : x.isRef = true) (hl : storeLocals Lz_ k.val x = some l') (hr : Rch p e below K T (mkF m (pcz + 1) l' rest)) : Rch p e below K T (mkF m pc_ Lz_ (x :: rest)) := by
  subst e_
  exact Rch.of (fun _ kt => XS.astoreN X.here D.1 rfl (D.at h_) rfl hv hl kt) hr
theorem zifnonnullYes (X : Stand p l e R s m args below meth c T locs cells slots) (D : DB p c Lz) (iz : Nat) (pq : Nat) {pcz pc_ : Nat} {Lz_ : Array Slot} {b : Addr} {rest : List Value} {o : Int} (h_ : Lz[iz]? = some (pcz, .ifnonnull o, 3)) (e_ : pc_ = pcz) (hp : (pcz : Int) + o = (pq : Int)) (hr : Rch p e below K T (mkF m pq Lz_ rest)) : Rch p e below K T (mkF m pc_ Lz_ (.ref b :: rest)) := by
  subst e_
  exact Rch.of (fun _ kt => XS.ifnonnullYes X.here D.1 rfl rfl (D.at h_) rfl (by rw [hp]; exact Int.natCast_nonneg _) (by rw [hp]; exact Int.toNat_natCast _) kt) hr
theorem zdupX1 (X : Stand p l e R s m args below meth c T locs cells slots) (D : DB p c Lz) (iz : Nat) {pcz pc_ : Nat} {Lz_ : Array Slot} {x y : Value} {rest : List Value} (h_ : Lz[iz]? = some (pcz, .dup_x1, 1)) (e_ : pc_ = pcz) (hc : x.category = 1) (hc2 : y.category = 1) (hr : Rch p e below K T (mkF m (pcz + 1) Lz_ (x :: y :: x :: rest))) : Rch p e below K T (mkF m pc_ Lz_ (x :: y :: rest)) := by
  subst e_
  exact Rch.of (fun _ kt => XS.dupX1 X.here D.1 rfl (D.at h_) rfl hc hc2 kt) hr
theorem zifnullNo (X : Stand p l e R s m args below meth c T locs cells slots) (D : DB p c Lz) (iz : Nat) {pcz pc_ : Nat} {Lz_ : Array Slot} {o : Int} {b : Addr} {rest : List Value} (h_ : Lz[iz]? = some (pcz, .ifnull o, 3)) (e_ : pc_ = pcz) (hr : Rch p e below K T (mkF m (pcz + 3) Lz_ rest)) : Rch p e below K T (mkF m pc_ Lz_ (.ref b :: rest)) := by
  subst e_
  exact Rch.of (fun _ kt => XS.ifnullNo X.here D.1 rfl (D.at h_) rfl kt) hr
theorem zaconstNull (X : Stand p l e R s m args below meth c T locs cells slots) (D : DB p c Lz) (iz : Nat) {pcz pc_ : Nat} {Lz_ : Array Slot} {st_ : List Value} (h_ : Lz[iz]? = some (pcz, .aconst_null, 1)) (e_ : pc_ = pcz) (hr : Rch p e below K T (mkF m (pcz + 1) Lz_ (.null :: st_))) : Rch p e below K T (mkF m pc_ Lz_ st_) := by
  subst e_
  exact Rch.of (fun _ kt => XS.aconstNull X.here D.1 rfl (D.at h_) kt) hr
theorem zbipush (X : Stand p l e R s m args below meth c T locs cells slots) (D : DB p c Lz) (iz : Nat) (zz : Int32) {pcz pc_ : Nat} {Lz_ : Array Slot} {st_ : List Value} {i : Int} (h_ : Lz[iz]? = some (pcz, .bipush i, 2)) (e_ : pc_ = pcz) (hz : (Int8.ofInt i).toInt32 = zz) (hr : Rch p e below K T (mkF m (pcz + 2) Lz_ (.int zz :: st_))) : Rch p e below K T (mkF m pc_ Lz_ st_) := by
  subst e_ hz
  exact Rch.of (fun _ kt => XS.bipush X.here D.1 rfl (D.at h_) kt) hr
theorem zsipush (X : Stand p l e R s m args below meth c T locs cells slots) (D : DB p c Lz) (iz : Nat) (zz : Int32) {pcz pc_ : Nat} {Lz_ : Array Slot} {st_ : List Value} {i : Int} (h_ : Lz[iz]? = some (pcz, .sipush i, 3)) (e_ : pc_ = pcz) (hz : (Int16.ofInt i).toInt32 = zz) (hr : Rch p e below K T (mkF m (pcz + 3) Lz_ (.int zz :: st_))) : Rch p e below K T (mkF m pc_ Lz_ st_) := by
  subst e_ hz
  exact Rch.of (fun _ kt => XS.sipush X.here D.1 rfl (D.at h_) kt) hr
theorem zgo (X : Stand p l e R s m args below meth c T locs cells slots) (D : DB p c Lz) (iz : Nat) (pq : Nat) {pcz pc_ : Nat} {Lz_ : Array Slot} {st_ : List Value} {o : Int} (h_ : Lz[iz]? = some (pcz, .goto o, 3)) (e_ : pc_ = pcz) (hp : (pcz : Int) + o = (pq : Int)) (hr : Rch p e below K T (mkF m pq Lz_ st_)) : Rch p e below K T (mkF m pc_ Lz_ st_) := by
  subst e_
  exact Rch.of (fun _ kt => XS.goto X.here D.1 rfl rfl (D.at h_) (by rw [hp]; exact Int.natCast_nonneg _) (by rw [hp]; exact Int.toNat_natCast _) kt) hr
theorem zas (X : Stand p l e R s m args below meth c T locs cells slots) (D : DB p c Lz) (iz : Nat) {pcz pc_ : Nat} {Lz_ : Array Slot} {k : Nat} {x : Value} {rest : List Value} {l' : Array Slot} (h_ : Lz[iz]? = some (pcz, .astore k, 2)) (e_ : pc_ = pcz) (hv : x.isRef = true) (hl : storeLocals Lz_ k x = some l') (hr : Rch p e below K T (mkF m (pcz + 2) l' rest)) : Rch p e below K T (mkF m pc_ Lz_ (x :: rest)) := by
  subst e_
  exact Rch.of (fun _ kt => XS.astore X.here D.1 rfl (D.at h_) rfl hv hl kt) hr
theorem za (X : Stand p l e R s m args below meth c T locs cells slots) (D : DB p c Lz) (iz : Nat) {pcz pc_ : Nat} {Lz_ : Array Slot} {st_ : List Value} {k : Nat} {v : Value} (h_ : Lz[iz]? = some (pcz, .aload k, 2)) (e_ : pc_ = pcz) (hl : Lz_[k]? = some (.val v)) (hv : v.isRef = true) (hr : Rch p e below K T (mkF m (pcz + 2) Lz_ (v :: st_))) : Rch p e below K T (mkF m pc_ Lz_ st_) := by
  subst e_
  exact Rch.of (fun _ kt => XS.aload X.here D.1 rfl (D.at h_) hl hv kt) hr
theorem zis (X : Stand p l e R s m args below meth c T locs cells slots) (D : DB p c Lz) (iz : Nat) {pcz pc_ : Nat} {Lz_ : Array Slot} {k : Nat} {x : Int32} {rest : List Value} {l' : Array Slot} (h_ : Lz[iz]? = some (pcz, .istore k, 2)) (e_ : pc_ = pcz) (hl : storeLocals Lz_ k (.int x) = some l') (hr : Rch p e below K T (mkF m (pcz + 2) l' rest)) : Rch p e below K T (mkF m pc_ Lz_ (.int x :: rest)) := by
  subst e_
  exact Rch.of (fun _ kt => XS.istore X.here D.1 rfl (D.at h_) rfl hl kt) hr
theorem zi (X : Stand p l e R s m args below meth c T locs cells slots) (D : DB p c Lz) (iz : Nat) {pcz pc_ : Nat} {Lz_ : Array Slot} {st_ : List Value} {k : Nat} {v : Int32} (h_ : Lz[iz]? = some (pcz, .iload k, 2)) (e_ : pc_ = pcz) (hl : Lz_[k]? = some (.val (.int v))) (hr : Rch p e below K T (mkF m (pcz + 2) Lz_ (.int v :: st_))) : Rch p e below K T (mkF m pc_ Lz_ st_) := by
  subst e_
  exact Rch.of (fun _ kt => XS.iload X.here D.1 rfl (D.at h_) hl kt) hr
theorem zpop (X : Stand p l e R s m args below meth c T locs cells slots) (D : DB p c Lz) (iz : Nat) {pcz pc_ : Nat} {Lz_ : Array Slot} {x : Value} {rest : List Value} (h_ : Lz[iz]? = some (pcz, .pop, 1)) (e_ : pc_ = pcz) (hc : x.category = 1) (hr : Rch p e below K T (mkF m (pcz + 1) Lz_ rest)) : Rch p e below K T (mkF m pc_ Lz_ (x :: rest)) := by
  subst e_
  exact Rch.of (fun _ kt => XS.pop X.here D.1 rfl (D.at h_) rfl hc kt) hr
theorem zifnullYes (X : Stand p l e R s m args below meth c T locs cells slots) (D : DB p c Lz) (iz : Nat) (pq : Nat) {pcz pc_ : Nat} {Lz_ : Array Slot} {rest : List Value} {o : Int} (h_ : Lz[iz]? = some (pcz, .ifnull o, 3)) (e_ : pc_ = pcz) (hp : (pcz : Int) + o = (pq : Int)) (hr : Rch p e below K T (mkF m pq Lz_ rest)) : Rch p e below K T (mkF m pc_ Lz_ (.null :: rest)) := by
  subst e_
  exact Rch.of (fun _ kt => XS.ifnullYes X.here D.1 rfl rfl (D.at h_) rfl (by rw [hp]; exact Int.natCast_nonneg _) (by rw [hp]; exact Int.toNat_natCast _) kt) hr
theorem zifnonnullNo (X : Stand p l e R s m args below meth c T locs cells slots) (D : DB p c Lz) (iz : Nat) {pcz pc_ : Nat} {Lz_ : Array Slot} {o : Int} {rest : List Value} (h_ : Lz[iz]? = some (pcz, .ifnonnull o, 3)) (e_ : pc_ = pcz) (hr : Rch p e below K T (mkF m (pcz + 3) Lz_ rest)) : Rch p e below K T (mkF m pc_ Lz_ (.null :: rest)) := by
  subst e_
  exact Rch.of (fun _ kt => XS.ifnonnullNo X.here D.1 rfl (D.at h_) rfl kt) hr
theorem zineg (X : Stand p l e R s m args below meth c T locs cells slots) (D : DB p c Lz) (iz : Nat) (zz : Int32) {pcz pc_ : Nat} {Lz_ : Array Slot} {x : Int32} {rest : List Value} (h_ : Lz[iz]? = some (pcz, .ineg, 1)) (e_ : pc_ = pcz) (hz : (-x) = zz) (hr : Rch p e below K T (mkF m (pcz + 1) Lz_ (.int zz :: rest))) : Rch p e below K T (mkF m pc_ Lz_ (.int x :: rest)) := by
  subst e_ hz
  exact Rch.of (fun _ kt => XS.ineg X.here D.1 rfl (D.at h_) rfl kt) hr
theorem ziushr (X : Stand p l e R s m args below meth c T locs cells slots) (D : DB p c Lz) (iz : Nat) (zz : Int32) {pcz pc_ : Nat} {Lz_ : Array Slot} {x : Int32} {y : Int32} {rest : List Value} (h_ : Lz[iz]? = some (pcz, .iushr, 1)) (e_ : pc_ = pcz) (hz : ((x.toUInt32 >>> (y &&& 31).toUInt32).toInt32) = zz) (hr : Rch p e below K T (mkF m (pcz + 1) Lz_ (.int zz :: rest))) : Rch p e below K T (mkF m pc_ Lz_ (.int y :: .int x :: rest)) := by
  subst e_ hz
  exact Rch.of (fun _ kt => XS.iushr X.here D.1 rfl (D.at h_) rfl kt) hr
theorem zlstore (X : Stand p l e R s m args below meth c T locs cells slots) (D : DB p c Lz) (iz : Nat) {pcz pc_ : Nat} {Lz_ : Array Slot} {k : Nat} {x : Int64} {rest : List Value} {l' : Array Slot} (h_ : Lz[iz]? = some (pcz, .lstore k, 2)) (e_ : pc_ = pcz) (hl : storeLocals Lz_ k (.long x) = some l') (hr : Rch p e below K T (mkF m (pcz + 2) l' rest)) : Rch p e below K T (mkF m pc_ Lz_ (.long x :: rest)) := by
  subst e_
  exact Rch.of (fun _ kt => XS.lstore X.here D.1 rfl (D.at h_) rfl hl kt) hr
theorem zl (X : Stand p l e R s m args below meth c T locs cells slots) (D : DB p c Lz) (iz : Nat) {pcz pc_ : Nat} {Lz_ : Array Slot} {st_ : List Value} {k : Nat} {v : Int64} (h_ : Lz[iz]? = some (pcz, .lload k, 2)) (e_ : pc_ = pcz) (hl : Lz_[k]? = some (.val (.long v))) (hr : Rch p e below K T (mkF m (pcz + 2) Lz_ (.long v :: st_))) : Rch p e below K T (mkF m pc_ Lz_ st_) := by
  subst e_
  exact Rch.of (fun _ kt => XS.lload X.here D.1 rfl (D.at h_) hl kt) hr
theorem zlN (X : Stand p l e R s m args below meth c T locs cells slots) (D : DB p c Lz) (iz : Nat) {pcz pc_ : Nat} {Lz_ : Array Slot} {st_ : List Value} {k : Fin 4} {v : Int64} (h_ : Lz[iz]? = some (pcz, .lload_n k, 1)) (e_ : pc_ = pcz) (hl : Lz_[k.val]? = some (.val (.long v))) (hr : Rch p e below K T (mkF m (pcz + 1) Lz_ (.long v :: st_))) : Rch p e below K T (mkF m pc_ Lz_ st_) := by
  subst e_
  exact Rch.of (fun _ kt => XS.lloadN X.here D.1 rfl (D.at h_) hl kt) hr
theorem zlcmp (X : Stand p l e R s m args below meth c T locs cells slots) (D : DB p c Lz) (iz : Nat) (zz : Int32) {pcz pc_ : Nat} {Lz_ : Array Slot} {x y : Int64} {rest : List Value} (h_ : Lz[iz]? = some (pcz, .lcmp, 1)) (e_ : pc_ = pcz) (hz : (if x > y then 1 else if x = y then 0 else -1) = zz) (hr : Rch p e below K T (mkF m (pcz + 1) Lz_ (.int zz :: rest))) : Rch p e below K T (mkF m pc_ Lz_ (.long y :: .long x :: rest)) := by
  subst e_ hz
  exact Rch.of (fun _ kt => XS.lcmp X.here D.1 rfl (D.at h_) rfl kt) hr
theorem zlstoreN (X : Stand p l e R s m args below meth c T locs cells slots) (D : DB p c Lz) (iz : Nat) {pcz pc_ : Nat} {Lz_ : Array Slot} {k : Fin 4} {x : Int64} {rest : List Value} {l' : Array Slot} (h_ : Lz[iz]? = some (pcz, .lstore_n k, 1)) (e_ : pc_ = pcz) (hl : storeLocals Lz_ k.val (.long x) = some l') (hr : Rch p e below K T (mkF m (pcz + 1) l' rest)) : Rch p e below K T (mkF m pc_ Lz_ (.long x :: rest)) := by
  subst e_
  exact Rch.of (fun _ kt => XS.lstoreN X.here D.1 rfl (D.at h_) rfl hl kt) hr
theorem zlconst (X : Stand p l e R s m args below meth c T locs cells slots) (D : DB p c Lz) (iz : Nat) (zz : Int64) {pcz pc_ : Nat} {Lz_ : Array Slot} {st_ : List Value} {k : Fin 2} (h_ : Lz[iz]? = some (pcz, .lconst k, 1)) (e_ : pc_ = pcz) (hz : (Int64.ofNat k) = zz) (hr : Rch p e below K T (mkF m (pcz + 1) Lz_ (.long zz :: st_))) : Rch p e below K T (mkF m pc_ Lz_ st_) := by
  subst e_ hz
  exact Rch.of (fun _ kt => XS.lconst X.here D.1 rfl (D.at h_) kt) hr
theorem zlsub (X : Stand p l e R s m args below meth c T locs cells slots) (D : DB p c Lz) (iz : Nat) (zz : Int64) {pcz pc_ : Nat} {Lz_ : Array Slot} {x : Int64} {y : Int64} {rest : List Value} (h_ : Lz[iz]? = some (pcz, .lsub, 1)) (e_ : pc_ = pcz) (hz : (x - y) = zz) (hr : Rch p e below K T (mkF m (pcz + 1) Lz_ (.long zz :: rest))) : Rch p e below K T (mkF m pc_ Lz_ (.long y :: .long x :: rest)) := by
  subst e_ hz
  exact Rch.of (fun _ kt => XS.lsub X.here D.1 rfl (D.at h_) rfl kt) hr
theorem zi2l (X : Stand p l e R s m args below meth c T locs cells slots) (D : DB p c Lz) (iz : Nat) (zz : Int64) {pcz pc_ : Nat} {Lz_ : Array Slot} {v : Int32} {rest : List Value} (h_ : Lz[iz]? = some (pcz, .i2l, 1)) (e_ : pc_ = pcz) (hz : (v.toInt64) = zz) (hr : Rch p e below K T (mkF m (pcz + 1) Lz_ (.long zz :: rest))) : Rch p e below K T (mkF m pc_ Lz_ (.int v :: rest)) := by
  subst e_ hz
  exact Rch.of (fun _ kt => XS.i2l X.here D.1 rfl (D.at h_) rfl kt) hr
theorem zidiv (X : Stand p l e R s m args below meth c T locs cells slots) (D : DB p c Lz) (iz : Nat) (zz : Int32) {pcz pc_ : Nat} {Lz_ : Array Slot} {x y : Int32} {rest : List Value} (h_ : Lz[iz]? = some (pcz, .idiv, 1)) (e_ : pc_ = pcz) (hy : y ≠ 0) (hz : (x / y) = zz) (hr : Rch p e below K T (mkF m (pcz + 1) Lz_ (.int zz :: rest))) : Rch p e below K T (mkF m pc_ Lz_ (.int y :: .int x :: rest)) := by
  subst e_ hz
  exact Rch.of (fun _ kt => XS.idiv X.here D.1 rfl (D.at h_) rfl hy kt) hr
theorem zlshl (X : Stand p l e R s m args below meth c T locs cells slots) (D : DB p c Lz) (iz : Nat) (zz : Int64) {pcz pc_ : Nat} {Lz_ : Array Slot} {x : Int64} {y : Int32} {rest : List Value} (h_ : Lz[iz]? = some (pcz, .lshl, 1)) (e_ : pc_ = pcz) (hz : (x <<< (y &&& 0x3f).toInt64) = zz) (hr : Rch p e below K T (mkF m (pcz + 1) Lz_ (.long zz :: rest))) : Rch p e below K T (mkF m pc_ Lz_ (.int y :: .long x :: rest)) := by
  subst e_ hz
  exact Rch.of (fun _ kt => XS.lshl X.here D.1 rfl (D.at h_) rfl kt) hr
theorem zland (X : Stand p l e R s m args below meth c T locs cells slots) (D : DB p c Lz) (iz : Nat) (zz : Int64) {pcz pc_ : Nat} {Lz_ : Array Slot} {x : Int64} {y : Int64} {rest : List Value} (h_ : Lz[iz]? = some (pcz, .land, 1)) (e_ : pc_ = pcz) (hz : (x &&& y) = zz) (hr : Rch p e below K T (mkF m (pcz + 1) Lz_ (.long zz :: rest))) : Rch p e below K T (mkF m pc_ Lz_ (.long y :: .long x :: rest)) := by
  subst e_ hz
  exact Rch.of (fun _ kt => XS.land X.here D.1 rfl (D.at h_) rfl kt) hr
theorem zlor (X : Stand p l e R s m args below meth c T locs cells slots) (D : DB p c Lz) (iz : Nat) (zz : Int64) {pcz pc_ : Nat} {Lz_ : Array Slot} {x : Int64} {y : Int64} {rest : List Value} (h_ : Lz[iz]? = some (pcz, .lor, 1)) (e_ : pc_ = pcz) (hz : (x ||| y) = zz) (hr : Rch p e below K T (mkF m (pcz + 1) Lz_ (.long zz :: rest))) : Rch p e below K T (mkF m pc_ Lz_ (.long y :: .long x :: rest)) := by
  subst e_ hz
  exact Rch.of (fun _ kt => XS.lor X.here D.1 rfl (D.at h_) rfl kt) hr
theorem zlxor (X : Stand p l e R s m args below meth c T locs cells slots) (D : DB p c Lz) (iz : Nat) (zz : Int64) {pcz pc_ : Nat} {Lz_ : Array Slot} {x : Int64} {y : Int64} {rest : List Value} (h_ : Lz[iz]? = some (pcz, .lxor, 1)) (e_ : pc_ = pcz) (hz : (x ^^^ y) = zz) (hr : Rch p e below K T (mkF m (pcz + 1) Lz_ (.long zz :: rest))) : Rch p e below K T (mkF m pc_ Lz_ (.long y :: .long x :: rest)) := by
  subst e_ hz
  exact Rch.of (fun _ kt => XS.lxor X.here D.1 rfl (D.at h_) rfl kt) hr
theorem zl2i (X : Stand p l e R s m args below meth c T locs cells slots) (D : DB p c Lz) (iz : Nat) (zz : Int32) {pcz pc_ : Nat} {Lz_ : Array Slot} {v : Int64} {rest : List Value} (h_ : Lz[iz]? = some (pcz, .l2i, 1)) (e_ : pc_ = pcz) (hz : (v.toInt32) = zz) (hr : Rch p e below K T (mkF m (pcz + 1) Lz_ (.int zz :: rest))) : Rch p e below K T (mkF m pc_ Lz_ (.long v :: rest)) := by
  subst e_ hz
  exact Rch.of (fun _ kt => XS.l2i X.here D.1 rfl (D.at h_) rfl kt) hr
theorem zlushr (X : Stand p l e R s m args below meth c T locs cells slots) (D : DB p c Lz) (iz : Nat) (zz : Int64) {pcz pc_ : Nat} {Lz_ : Array Slot} {x : Int64} {y : Int32} {rest : List Value} (h_ : Lz[iz]? = some (pcz, .lushr, 1)) (e_ : pc_ = pcz) (hz : ((x.toUInt64 >>> (y &&& 0x3f).toInt64.toUInt64).toInt64) = zz) (hr : Rch p e below K T (mkF m (pcz + 1) Lz_ (.long zz :: rest))) : Rch p e below K T (mkF m pc_ Lz_ (.int y :: .long x :: rest)) := by
  subst e_ hz
  exact Rch.of (fun _ kt => XS.lushr X.here D.1 rfl (D.at h_) rfl kt) hr
theorem zimul (X : Stand p l e R s m args below meth c T locs cells slots) (D : DB p c Lz) (iz : Nat) (zz : Int32) {pcz pc_ : Nat} {Lz_ : Array Slot} {x y : Int32} {rest : List Value} (h_ : Lz[iz]? = some (pcz, .imul, 1)) (e_ : pc_ = pcz) (hz : (x * y) = zz) (hr : Rch p e below K T (mkF m (pcz + 1) Lz_ (.int zz :: rest))) : Rch p e below K T (mkF m pc_ Lz_ (.int y :: .int x :: rest)) := by
  subst e_ hz
  exact Rch.of (fun _ kt => XS.imul X.here D.1 rfl (D.at h_) rfl kt) hr
theorem zladd (X : Stand p l e R s m args below meth c T locs cells slots) (D : DB p c Lz) (iz : Nat) (zz : Int64) {pcz pc_ : Nat} {Lz_ : Array Slot} {x : Int64} {y : Int64} {rest : List Value} (h_ : Lz[iz]? = some (pcz, .ladd, 1)) (e_ : pc_ = pcz) (hz : (x + y) = zz) (hr : Rch p e below K T (mkF m (pcz + 1) Lz_ (.long zz :: rest))) : Rch p e below K T (mkF m pc_ Lz_ (.long y :: .long x :: rest)) := by
  subst e_ hz
  exact Rch.of (fun _ kt => XS.ladd X.here D.1 rfl (D.at h_) rfl kt) hr
theorem ziand (X : Stand p l e R s m args below meth c T locs cells slots) (D : DB p c Lz) (iz : Nat) (zz : Int32) {pcz pc_ : Nat} {Lz_ : Array Slot} {x y : Int32} {rest : List Value} (h_ : Lz[iz]? = some (pcz, .iand, 1)) (e_ : pc_ = pcz) (hz : (x &&& y) = zz) (hr : Rch p e below K T (mkF m (pcz + 1) Lz_ (.int zz :: rest))) : Rch p e below K T (mkF m pc_ Lz_ (.int y :: .int x :: rest)) := by
  subst e_ hz
  exact Rch.of (fun _ kt => XS.iand X.here D.1 rfl (D.at h_) rfl kt) hr
theorem zgf (X : Stand p l e R s m args below meth c T locs cells slots) (D : DB p c Lz) (i : Nat) (hZ : Z.Warmed39 s.vm) {own O n d : String} {index : Nat} (hown : s.vm.findClass own = some m.cls) (w : (Cond.fieldLink own index O n d).before a0 Z = true) (eT : T.heap = h) {a : Addr} {v : Value} (F : Fld Z h a O n d v) {pc pc0 : Nat} {Ls : Array Slot} {st : List Value}
    (hi : Lz[i]? = some (pc, .getfield index, 3)) (e0 : pc0 = pc) (k : ∀ T' : State, Stand p l e R s m args below meth c T' locs cells slots → T'.heap = h → Rch p e below K T' (mkF m (pc + 3) Ls (v :: st))) : Rch p e below K T (mkF m pc0 Ls (.ref a :: st)) := by
  subst e0
  obtain ⟨T', X', e', st'⟩ := getF X D.1 hZ hown (host := "") (Or.inl w) Via.refl eT F (g := mkF m pc0 Ls (.ref a :: st)) rfl rfl (D.at hi)
  exact Rch.of st' (k T' X' e')
theorem zpf (X : Stand p l e R s m args below meth c T locs cells slots) (D : DB p c Lz) (i : Nat) (hZ : Z.Warmed39 s.vm) {own O n d C : String} {index kk : Nat} (hown : s.vm.findClass own = some m.cls) (w : (Cond.fieldLink own index O n d).before a0 Z = true) (eT : T.heap = h) {a : Addr} {v old : Value} (F : Fld Z h a O n d old) (E : Exa Z h a C)
    (La : (Cond.lays C O n d).before a0 Z = true ∨ ((Cond.laysFinal C O n d).before a0 Z = true ∧ own = O ∧ meth.name = "<init>")) (wi : (Cond.instantiable C kk).before a0 Z = true) (ty : FieldType) (hty : parseFieldDescriptor d = some ty) {pc pc0 : Nat} {Ls : Array Slot} {st : List Value}
    (hn : narrow ty v = v) (hf : fits ty v = true) (hi : Lz[i]? = some (pc, .putfield index, 3)) (e0 : pc0 = pc) (k : ∀ (T' : State) (h' : Heap), Stand p l e R s m args below meth c T' (locs ++ [⟨a, slotOf Z O n d⟩]) cells slots → T'.heap = h' → Wr h h' a (slotOf Z O n d) v → Rch p e below K T' (mkF m (pc + 3) Ls st)) : Rch p e below K T (mkF m pc0 Ls (v :: .ref a :: st)) := by
  subst e0
  obtain ⟨T', h', X', e', W', st'⟩ := putF X D.1 hZ hown (host := "") (Or.inl w) Via.refl eT F E La wi hty hn hf (g := mkF m pc0 Ls (v :: .ref a :: st)) rfl rfl (D.at hi)
  exact Rch.of st' (k T' h' X' e' W')
theorem zdup2 (X : Stand p l e R s m args below meth c T locs cells slots) (D : DB p c Lz) (i : Nat) {pc pc0 : Nat} {Ls : Array Slot} {x y : Value} {rest : List Value} (hi : Lz[i]? = some (pc, .dup2, 1)) (e0 : pc0 = pc) (c1 : x.category = 1) (c2 : y.category = 1) (hr : Rch p e below K T (mkF m (pc + 1) Ls (x :: y :: x :: y :: rest))) : Rch p e below K T (mkF m pc0 Ls (x :: y :: rest)) := by
  subst e0
  refine Rch.of (T' := T) (g' := mkF m (pc0 + 1) Ls (x :: y :: x :: y :: rest)) (fun _ kt => ?_) hr
  have hx := D.1
  have hd := D.at hi
  jvm_step X.here [X.here.top, hx, hd, c1, c2]
  exact kt
section Calls
variable {bytes : ByteArray} {maxL mlx W : Nat} {ret : Option FieldType} {rm : Room} {as' : Array Value} {Q : Option Value → Heap → List Loc → Prop}
abbrev Mz (l : Launch) (Z : State) (h : Heap) (y : MethodName) (bytes : ByteArray) (maxL : Nat) (ret : Option FieldType) (rm : Room) (as' : Array Value) (Q : Option Value → Heap → List Loc → Prop) : Prop := MetFree l y (head1 [Cond.code y bytes maxL ret] rm) (fun a U => a = as' ∧ Z.Warmed39 U.vm ∧ U.heap = h) (fun _ _ _ _ _ => True) (fun _ U o U' => ∃ v L, o = .returned v ∧ Q v U'.heap L ∧ FrameEnd U o U' L rm.cells rm.slots)
abbrev Rz (R rm : Room) (W maxL cells slots : Nat) : Prop := rm.frames + 1 ≤ R.frames ∧ W + (maxL + 11) + rm.locals ≤ R.locals ∧ cells + rm.cells ≤ R.cells ∧ slots + rm.slots ≤ R.slots
theorem zW {rest : List Value} {g : JFrame} (hg : g.monitorRoom = 0) (hW : (rest.map fun v => v.category).sum = W) : 2 * g.monitorRoom + (rest.map fun v => v.category).sum ≤ W := by rw [hg, hW]; omega
theorem zst (X : Stand p l e R s m args below meth c T locs cells slots) (D : DB p c Lz) (i : Nat) (hZ : Z.Warmed39 s.vm) {own : String} {index : Nat} (y : MethodName) (hown : s.vm.findClass own = some m.cls) (w1 : (Cond.methodLink own index y).before a0 Z = true) (w2 : (Cond.static y).before a0 Z = true) (w3 : (Cond.initialized y.cls).before a0 Z = true) (wc : (Cond.code y bytes maxL ret).before a0 Z = true)
    (eT : T.heap = h) (hM : Mz l Z h y bytes maxL ret rm as' Q) (hml : c.maxLocals = mlx) (argsL rest : List Value) (hlen : ∀ sig, parseMethodDescriptor y.desc = some sig → argsL.length = sig.parameters.length) {pc pc0 : Nat} {Ls : Array Slot} {st : List Value} (hi : Lz[i]? = some (pc, .invokestatic index, 3)) (e0 : pc0 = pc) (hL : Ls.size = mlx) (hst : st = argsL.reverse ++ rest) (has : argsL.toArray = as') (hW : (rest.map fun v => v.category).sum = W)
    (hy : y.cls ≠ "java/lang/invoke/MethodHandle" ∧ y.cls ≠ "java/lang/invoke/VarHandle") (hR : Rz R rm W maxL cells slots)
    (k : ∀ (v : Option Value) (T' : State) (L' : List Loc), Stand p l e R s m args below meth c T' (locs ++ L') (cells + rm.cells) (slots + rm.slots) → Q v T'.heap L' → Rch p e below K T' (mkF m (pc + 3) Ls (v.toList ++ rest))) : Rch p e below K T (mkF m pc0 Ls st) := by
  subst e0
  obtain ⟨v, _, ⟨T', L', k', n'⟩, -, X', ⟨Lc, hQ, q1, q2, q3⟩, st'⟩ := Jvm.LawKit.callS X D.1 (y := y) hown (mvT hZ w1) (mvT hZ w2) (mvT hZ w3) (mvT hZ wc) hy (backOf (W := W) hM hZ wc w3 hR.1 hR.2.1) (g := mkF m pc0 Ls st) rfl (hL.trans hml.symm) (argsL := argsL) (rest := rest) hlen hst (zW rfl hW) (D.at hi) (fun _ _ => ⟨has, eT, hR.2.2.1, hR.2.2.2⟩)
  dsimp only [Pt.U, Pt.locs, Pt.cells, Pt.slots] at X' q1 q2 q3 st' hQ
  subst q1 q2 q3
  exact Rch.of st' (k v T' Lc X' hQ)
theorem zvb (X : Stand p l e R s m args below meth c T locs cells slots) (D : DB p c Lz) (i : Nat) (hZ : Z.Warmed39 s.vm) {own C : String} {index : Nat} (y z : MethodName) (hown : s.vm.findClass own = some m.cls) (hnf : NotFace s y) (w1 : (Cond.methodLink own index y).before a0 Z = true) (w2 : (Cond.declares y).before a0 Z = true) (w3 : (Cond.selects C y z).before a0 Z = true) (w4 : (Cond.instanceMethod z).before a0 Z = true) (wc : (Cond.code z bytes maxL ret).before a0 Z = true) (wz : (Cond.initialized z.cls).before a0 Z = true)
    (eT : T.heap = h) {b : Addr} (E : Exa Z h b C) (hM : Mz l Z h z bytes maxL ret rm as' Q) (hml : c.maxLocals = mlx) (argsL rest : List Value) (hlen : ∀ sig, parseMethodDescriptor y.desc = some sig → argsL.length = sig.parameters.length) {pc pc0 : Nat} {Ls : Array Slot} {st : List Value} (hi : Lz[i]? = some (pc, .invokevirtual index, 3)) (e0 : pc0 = pc) (hL : Ls.size = mlx) (hst : st = argsL.reverse ++ .ref b :: rest) (has : (.ref b :: argsL).toArray = as') (hW : (rest.map fun v => v.category).sum = W)
    (hy : y.cls ≠ "java/lang/invoke/MethodHandle" ∧ y.cls ≠ "java/lang/invoke/VarHandle") (hR : Rz R rm W maxL cells slots)
    (k : ∀ (v : Option Value) (T' : State) (L' : List Loc), Stand p l e R s m args below meth c T' (locs ++ L') (cells + rm.cells) (slots + rm.slots) → Q v T'.heap L' → Rch p e below K T' (mkF m (pc + 3) Ls (v.toList ++ rest))) : Rch p e below K T (mkF m pc0 Ls st) := by
  subst e0
  obtain ⟨cq, kq, qa, qb, qc⟩ := isOf hZ eT E
  obtain ⟨v, _, ⟨T', L', k', n'⟩, -, X', ⟨Lc, hQ, q1, q2, q3⟩, st'⟩ := X.virtualBack D.1 (y := y) (z := z) hown (mvT hZ w1) (mvT hZ w2) hnf (mvT hZ w3) (mvT hZ w4) hy (backOf (W := W) hM hZ wc wz hR.1 hR.2.1) qa qc (g := mkF m pc0 Ls st) rfl (hL.trans hml.symm) (Steps.refl _) (argsL := argsL) (rest := rest) hlen hst (zW rfl hW) (D.at hi) (fun _ _ => ⟨has, eT, hR.2.2.1, hR.2.2.2⟩)
  dsimp only [Pt.U, Pt.locs, Pt.cells, Pt.slots] at X' q1 q2 q3 st' hQ
  subst q1 q2 q3
  exact Rch.via st' (k v T' Lc X' hQ)
theorem zvs (X : Stand p l e R s m args below meth c T locs cells slots) (D : DB p c Lz) (i : Nat) (hZ : Z.Warmed39 s.vm) {own C : String} {index : Nat} (y : MethodName) (hown : s.vm.findClass own = some m.cls) (w1 : (Cond.methodLink own index y).before a0 Z = true) (w2 : (Cond.declares y).before a0 Z = true) (w3 : (Cond.selects C y y).before a0 Z = true) (w4 : (Cond.instanceMethod y).before a0 Z = true) (wc : (Cond.code y bytes maxL ret).before a0 Z = true) (wz : (Cond.initialized y.cls).before a0 Z = true)
    (eT : T.heap = h) {b : Addr} (E : Exa Z h b C) (hM : Mz l Z h y bytes maxL ret rm as' Q) (hml : c.maxLocals = mlx) (argsL rest : List Value) (hlen : ∀ sig, parseMethodDescriptor y.desc = some sig → argsL.length = sig.parameters.length) {pc pc0 : Nat} {Ls : Array Slot} {st : List Value} (hi : Lz[i]? = some (pc, .invokevirtual index, 3)) (e0 : pc0 = pc) (hL : Ls.size = mlx) (hst : st = argsL.reverse ++ .ref b :: rest) (has : (.ref b :: argsL).toArray = as') (hW : (rest.map fun v => v.category).sum = W)
    (hy : y.cls ≠ "java/lang/invoke/MethodHandle" ∧ y.cls ≠ "java/lang/invoke/VarHandle") (hR : Rz R rm W maxL cells slots)
    (k : ∀ (v : Option Value) (T' : State) (L' : List Loc), Stand p l e R s m args below meth c T' (locs ++ L') (cells + rm.cells) (slots + rm.slots) → Q v T'.heap L' → Rch p e below K T' (mkF m (pc + 3) Ls (v.toList ++ rest))) : Rch p e below K T (mkF m pc0 Ls st) :=
  zvb X D i hZ y y hown (notFace_of_selects (args := #[]) (mvT hZ w3)) w1 w2 w3 w4 wc wz eT E hM hml argsL rest hlen hi e0 hL hst has hW hy hR k
theorem zsb (X : Stand p l e R s m args below meth c T locs cells slots) (D : DB p c Lz) (i : Nat) (hZ : Z.Warmed39 s.vm) {own : String} {index : Nat} (y : MethodName) (hown : s.vm.findClass own = some m.cls) (w1 : (Cond.methodLink own index y).before a0 Z = true) (w2 : (Cond.instanceMethod y).before a0 Z = true) (wc : (Cond.code y bytes maxL none).before a0 Z = true) (wz : (Cond.initialized y.cls).before a0 Z = true)
    (eT : T.heap = h) (b : Addr) (hM : Mz l Z h y bytes maxL none rm as' Q) (hml : c.maxLocals = mlx) (argsL rest : List Value) (hlen : ∀ sig, parseMethodDescriptor y.desc = some sig → argsL.length = sig.parameters.length) {pc pc0 : Nat} {Ls : Array Slot} {st : List Value} (hi : Lz[i]? = some (pc, .invokespecial index, 3)) (e0 : pc0 = pc) (hL : Ls.size = mlx) (hst : st = argsL.reverse ++ .ref b :: rest) (has : (.ref b :: argsL).toArray = as') (hW : (rest.map fun v => v.category).sum = W)
    (hy1 : y.name = "<init>") (hy : y.cls ≠ "java/lang/invoke/MethodHandle" ∧ y.cls ≠ "java/lang/invoke/VarHandle") (hR : Rz R rm W maxL cells slots)
    (k : ∀ (v : Option Value) (T' : State) (L' : List Loc), Stand p l e R s m args below meth c T' (locs ++ L') (cells + rm.cells) (slots + rm.slots) → Q v T'.heap L' → Rch p e below K T' (mkF m (pc + 3) Ls (v.toList ++ rest))) : Rch p e below K T (mkF m pc0 Ls st) := by
  subst e0
  obtain ⟨v, _, ⟨T', L', k', n'⟩, -, X', ⟨Lc, hQ, q1, q2, q3⟩, st'⟩ := X.specialBack D.1 (y := y) hy1 hown (mvT hZ w1) (mvT hZ w2) (mvT hZ wc) hy (backOf (W := W) hM hZ wc wz hR.1 hR.2.1) (g := mkF m pc0 Ls st) rfl (hL.trans hml.symm) (Steps.refl _) (a := b) (argsL := argsL) (rest := rest) hlen hst (zW rfl hW) (D.at hi) (fun _ _ => ⟨has, eT, hR.2.2.1, hR.2.2.2⟩)
  dsimp only [Pt.U, Pt.locs, Pt.cells, Pt.slots] at X' q1 q2 q3 st' hQ
  subst q1 q2 q3
  exact Rch.via st' (k v T' Lc X' hQ)
theorem zpb (X : Stand p l e R s m args below meth c T locs cells slots) (D : DB p c Lz) (i : Nat) (hZ : Z.Warmed39 s.vm) {own : String} {index : Nat} (y : MethodName) (hown : s.vm.findClass own = some m.cls) (hsel : (Cond.selects y.cls y y).before args s = true) (w1 : (Cond.methodLink own index y).before a0 Z = true) (w2 : (Cond.instanceMethod y).before a0 Z = true) (w4 : (Cond.privateMethod y).before a0 Z = true) (wc : (Cond.code y bytes maxL ret).before a0 Z = true) (wz : (Cond.initialized y.cls).before a0 Z = true)
    (eT : T.heap = h) {b : Addr} {C : String} (E : Exa Z h b C) (hM : Mz l Z h y bytes maxL ret rm as' Q) (hml : c.maxLocals = mlx) (argsL rest : List Value) (hlen : ∀ sig, parseMethodDescriptor y.desc = some sig → argsL.length = sig.parameters.length) {pc pc0 : Nat} {Ls : Array Slot} {st : List Value} (hi : Lz[i]? = some (pc, .invokevirtual index, 3)) (e0 : pc0 = pc) (hL : Ls.size = mlx) (hst : st = argsL.reverse ++ .ref b :: rest) (has : (.ref b :: argsL).toArray = as') (hW : (rest.map fun v => v.category).sum = W)
    (hy : y.cls ≠ "java/lang/invoke/MethodHandle" ∧ y.cls ≠ "java/lang/invoke/VarHandle") (hR : Rz R rm W maxL cells slots)
    (k : ∀ (v : Option Value) (T' : State) (L' : List Loc), Stand p l e R s m args below meth c T' (locs ++ L') (cells + rm.cells) (slots + rm.slots) → Q v T'.heap L' → Rch p e below K T' (mkF m (pc + 3) Ls (v.toList ++ rest))) : Rch p e below K T (mkF m pc0 Ls st) := by
  subst e0
  obtain ⟨cq, q, q'⟩ := E.cell
  obtain ⟨v, _, ⟨T', L', k', n'⟩, -, X', ⟨Lc, hQ, q1, q2, q3⟩, st'⟩ := X.privateBack D.1 (y := y) hown (mvT hZ w1) (mvT hZ w2) hsel (Cond.privateMethod_at (mvP hZ w4 (args := #[]))) (mvT hZ wc) hy (backOf (W := W) hM hZ wc wz hR.1 hR.2.1) (g := mkF m pc0 Ls st) rfl (hL.trans hml.symm) (Steps.refl _) (a := b) (by rw [eT]; exact q) q' (argsL := argsL) (rest := rest) hlen hst (zW rfl hW) (D.at hi) (fun _ _ => ⟨has, eT, hR.2.2.1, hR.2.2.2⟩)
  dsimp only [Pt.U, Pt.locs, Pt.cells, Pt.slots] at X' q1 q2 q3 st' hQ
  subst q1 q2 q3
  exact Rch.via st' (k v T' Lc X' hQ)
theorem zib (X : Stand p l e R s m args below meth c T locs cells slots) (D : DB p c Lz) (i : Nat) (hZ : Z.Warmed39 s.vm) {own C : String} {index count : Nat} (x y : MethodName) (hown : s.vm.findClass own = some m.cls) (w1 : (Cond.methodLink own index x).before a0 Z = true) (w2 : (Cond.declares x).before a0 Z = true) (w3 : (Cond.interfaceMethod x.cls x.cls x.name x.desc).before args s = true) (w4 : (Cond.selects C x y).before a0 Z = true) (w5 : (Cond.instanceMethod y).before a0 Z = true) (w6 : (Cond.publicMethod y).before a0 Z = true) (w7 : (Cond.unhidden C x.name x.desc).before a0 Z = true) (w8 : (Cond.castable C x.cls).before a0 Z = true) (wc : (Cond.code y bytes maxL ret).before a0 Z = true) (wz : (Cond.initialized y.cls).before a0 Z = true)
    (eT : T.heap = h) {b : Addr} (E : Exa Z h b C) (hM : Mz l Z h y bytes maxL ret rm as' Q) (hml : c.maxLocals = mlx) (argsL rest : List Value) (hlen : ∀ sig, parseMethodDescriptor x.desc = some sig → argsL.length = sig.parameters.length) {pc pc0 : Nat} {Ls : Array Slot} {st : List Value} (hi : Lz[i]? = some (pc, .invokeinterface index count, 5)) (e0 : pc0 = pc) (hL : Ls.size = mlx) (hst : st = argsL.reverse ++ .ref b :: rest) (has : (.ref b :: argsL).toArray = as') (hW : (rest.map fun v => v.category).sum = W)
    (hy : x.cls ≠ "java/lang/invoke/MethodHandle" ∧ x.cls ≠ "java/lang/invoke/VarHandle") (hR : Rz R rm W maxL cells slots)
    (k : ∀ (v : Option Value) (T' : State) (L' : List Loc), Stand p l e R s m args below meth c T' (locs ++ L') (cells + rm.cells) (slots + rm.slots) → Q v T'.heap L' → Rch p e below K T' (mkF m (pc + 5) Ls (v.toList ++ rest))) : Rch p e below K T (mkF m pc0 Ls st) := by
  subst e0
  obtain ⟨cq, kq, qa, qb, qc⟩ := isOf hZ eT E
  obtain ⟨v, _, ⟨T', L', k', n'⟩, -, X', ⟨Lc, hQ, q1, q2, q3⟩, st'⟩ := X.interfaceBack D.1 (xi := x) (y := y) hown (mvT hZ w1) (mvT hZ w2) w3 (mvT hZ w4) (mvT hZ w5) (mvT hZ w6) (mvT hZ w7) (mvT hZ w8) hy (backOf (W := W) hM hZ wc wz hR.1 hR.2.1) qa qb qc (g := mkF m pc0 Ls st) rfl (hL.trans hml.symm) (Steps.refl _) (argsL := argsL) (rest := rest) hlen hst (zW rfl hW) (D.at hi) (fun _ _ => ⟨has, eT, hR.2.2.1, hR.2.2.2⟩)
  dsimp only [Pt.U, Pt.locs, Pt.cells, Pt.slots] at X' q1 q2 q3 st' hQ
  subst q1 q2 q3
  exact Rch.via st' (k v T' Lc X' hQ)
end Calls
end Tight
end Jvm.RoadKit
namespace Jvm.Pilot.@@N@@
open Jvm Jvm.ClassFile Sem Op Lib Jvm.Free Jvm.Stand Jvm.LawKit Jvm.RoadKit Bundle Jvm.Pilot.@@N@@.Jvm.D
set_option maxRecDepth 65536
set_option maxHeartbeats 40000000
abbrev HW (a0 : Array Value) (Z : State) : Prop := ∀ d ∈ tables_1, d.before a0 Z = true
abbrev MF (l : Launch) (Z : State) (y : MethodName) (c : Jvm.Cond) (ws : List Jvm.Cond) (R : Room) (A : Array Value) (h0 : Heap) (Q : Option Value → Heap → List Loc → Prop) : Prop := MetFree l y (head1 (c :: ws) R) (fun aa_ UU_ => aa_ = A ∧ Z.Warmed39 UU_.vm ∧ UU_.heap = h0) (fun _ _ _ _ _ => True) (fun _ UU_ oo_ VV_ => ∃ vv_ LL_, oo_ = .returned vv_ ∧ Q vv_ VV_.heap LL_ ∧ FrameEnd UU_ oo_ VV_ LL_ R.cells R.slots)
theorem ow {a0 : Array Value} {Z : State} (hw : HW a0 Z) (i : Nat) {d : Jvm.Cond} (h : tables_1[i]? = some d) : d.before a0 Z = true := hw d (List.mem_of_getElem? h)
def own_dec (tl : Nat) : Nat := if tl = 0 then 16 else tl - 1
def own_decI (p1 p2 : Int32) : Int32 := if p1 + (-1 : Int32) < 0 then p2 - (1 : Int32) else p1 + (-1 : Int32)
def own_incI (p1 p2 : Int32) : Int32 := if p1 + (1 : Int32) < p2 then p1 + (1 : Int32) else 0
def own_subI (p1 p2 p3 : Int32) : Int32 := if p1 - p2 < 0 then (p1 - p2) + p3 else p1 - p2
theorem own_dec_eq {tl : Nat} (h : tl ≤ 8) : own_decI (Int32.ofNat tl) (Int32.ofNat 17) = Int32.ofNat (own_dec tl) := by
  have e : ∀ t : Fin 9, own_decI (Int32.ofNat t.1) (Int32.ofNat 17) = Int32.ofNat (own_dec t.1) := by decide
  exact e ⟨tl, by omega⟩
theorem own_inc_eq {tl : Nat} (h : tl ≤ 8) : own_incI (Int32.ofNat tl) (Int32.ofNat 17) = Int32.ofNat (tl + 1) := by
  have e : ∀ t : Fin 9, own_incI (Int32.ofNat t.1) (Int32.ofNat 17) = Int32.ofNat (t.1 + 1) := by decide
  exact e ⟨tl, by omega⟩
theorem own_sub_eq {hd : Nat} (h : hd ≤ 8) : own_subI (Int32.ofNat (hd + 1)) (Int32.ofNat hd) (Int32.ofNat 17) = (1 : Int32) := by
  have e : ∀ t : Fin 9, own_subI (Int32.ofNat (t.1 + 1)) (Int32.ofNat t.1) (Int32.ofNat 17) = (1 : Int32) := by decide
  exact e ⟨hd, by omega⟩
theorem own_dec_lt {tl : Nat} (h : tl ≤ 8) : own_dec tl < 17 := by unfold own_dec; split <;> omega
theorem own_hne {hd : Nat} (h : hd ≤ 8) : ¬ Int32.ofNat hd = Int32.ofNat (hd + 1) := by
  intro q
  have := Int32.toInt_inj.mpr q
  rw [oTo (by omega), oTo (by omega)] at this
  omega
/-- the run at the front ends -/
def own_u (s : Int64) : Nat := s.toUInt64.toNat
def own_mk (k : Nat) : Int64 := ((1 : Int64) <<< ((Int32.ofNat k) &&& 0x3f).toInt64)
theorem own_w6 {k : Nat} (h : k < 256) : (((Int32.ofNat k).toUInt32 >>> ((6 : Int32) &&& 31).toUInt32).toInt32).toInt = ((k / 64 : Nat) : Int) :=
  (by decide +kernel : ∀ k : Fin 256, (((Int32.ofNat k.val).toUInt32 >>> ((6 : Int32) &&& 31).toUInt32).toInt32).toInt = ((k.val / 64 : Nat) : Int)) ⟨k, h⟩
theorem own_mk_mod {k : Nat} (h : k < 256) : own_mk k = own_mk (k % 64) := (by decide +kernel : ∀ k : Fin 256, own_mk k.val = own_mk (k.val % 64)) ⟨k, h⟩
theorem own_mk_self {k : Nat} (h : k < 256) : ((0 : Int64) ||| own_mk k) &&& own_mk k ≠ 0 := (by decide +kernel : ∀ k : Fin 256, ((0 : Int64) ||| own_mk k) &&& own_mk k ≠ 0) ⟨k, h⟩
theorem own_mk_ne {j k : Nat} (hj : j < 64) (hk : k < 64) (h : j ≠ k) : ((0 : Int64) ||| own_mk j) &&& own_mk k = 0 := (by decide +kernel : ∀ j k : Fin 64, j.val ≠ k.val → ((0 : Int64) ||| own_mk j.val) &&& own_mk k.val = 0) ⟨j, hj⟩ ⟨k, hk⟩ h
theorem own_bit (s : Int64) : ((s &&& (255 : Int64)).toInt32) = Int32.ofNat (own_u s % 256) := by
  have e : own_u s = s.toBitVec.toNat := rfl
  rw [e]
  have h : s.toBitVec.toNat < 2 ^ 64 := s.toBitVec.isLt
  apply Int32.toBitVec_inj.mp
  apply BitVec.eq_of_toNat_eq
  have e2 : (s &&& (255 : Int64)).toInt32.toBitVec = (s.toBitVec &&& 255#64).setWidth 32 := by
    show BitVec.signExtend 32 (s &&& 255).toBitVec = _
    rw [BitVec.signExtend_eq_setWidth_of_le _ (by decide)]
    rfl
  rw [e2]
  have e3 : (s.toBitVec &&& 255#64).toNat = s.toBitVec.toNat % 256 := by
    rw [BitVec.toNat_and]
    exact Nat.and_two_pow_sub_one_eq_mod _ 8
  show ((s.toBitVec &&& 255#64).setWidth 32).toNat = (BitVec.ofNat 32 _).toNat
  rw [BitVec.toNat_setWidth, e3, BitVec.toNat_ofNat]
theorem own_sh (s : Int64) : ((s.toUInt64 >>> ((8 : Int32) &&& 0x3f).toInt64.toUInt64).toInt64) = Int64.ofNat (own_u s / 256) := by
  have e : own_u s = s.toBitVec.toNat := rfl
  rw [e]
  have h : s.toBitVec.toNat < 2 ^ 64 := s.toBitVec.isLt
  apply Int64.toBitVec_inj.mp
  apply BitVec.eq_of_toNat_eq
  simp
  rw [Nat.shiftRight_eq_div_pow]
  omega
theorem own_u_lt (s : Int64) : own_u s < 18446744073709551616 := s.toBitVec.isLt
theorem own_u_inj {s t : Int64} (h : own_u s = own_u t) : s = t := Int64.toBitVec_inj.mp (BitVec.eq_of_toNat_eq h)
theorem own_sh_inj {s t : Int64} (h : Int64.ofNat (own_u s / 256) = Int64.ofNat (own_u t / 256)) : own_u s / 256 = own_u t / 256 := by
  have hs := own_u_lt s
  have ht := own_u_lt t
  have q := congrArg (fun z => z.toBitVec.toNat) h
  have e : ∀ n, (Int64.ofNat n).toBitVec.toNat = n % 2 ^ 64 := fun n => by rw [Int64.toBitVec_ofNat']; exact BitVec.toNat_ofNat ..
  simp only [e] at q
  omega
def own_yw (s : Int64) (q : Nat) : Int64 := if q = own_u s % 256 / 64 then (0 : Int64) ||| own_mk (own_u s % 256) else 0
theorem own_yw_hit (s : Int64) : own_yw s (own_u s % 256 / 64) &&& own_mk (own_u s % 256) ≠ 0 := by
  have e : own_yw s (own_u s % 256 / 64) = (0 : Int64) ||| own_mk (own_u s % 256) := if_pos rfl
  rw [e]
  exact own_mk_self (Nat.mod_lt _ (by decide))
theorem own_yw_miss {s t : Int64} (h : t ≠ s) (hp : own_u s / 256 = own_u t / 256) : own_yw s (own_u t % 256 / 64) &&& own_mk (own_u t % 256) = 0 := by
  by_cases e : own_u t % 256 / 64 = own_u s % 256 / 64
  · have e1 : own_yw s (own_u t % 256 / 64) = (0 : Int64) ||| own_mk (own_u s % 256) := if_pos e
    rw [e1, own_mk_mod (k := own_u s % 256) (Nat.mod_lt _ (by decide)), own_mk_mod (k := own_u t % 256) (Nat.mod_lt _ (by decide))]
    refine own_mk_ne (Nat.mod_lt _ (by decide)) (Nat.mod_lt _ (by decide)) fun q => h (own_u_inj ?_)
    omega
  · have e1 : own_yw s (own_u t % 256 / 64) = 0 := if_neg e
    rw [e1]
    exact Int64.zero_and
theorem own_ge1 {p n : Int64} (h : ¬ p - n < (0 : Int64)) (hne : n ≠ p) : ¬ p - n < (1 : Int64) := by
  have h0 : p - n ≠ 0 := fun q => hne (by have := congrArg (· + n) q; simp only [Int64.sub_add_cancel, Int64.zero_add] at this; exact this.symm)
  rw [Int64.lt_iff_toInt_lt] at *
  have h1 : (p - n).toInt ≠ 0 := fun q => h0 (Int64.toInt_inj.mp (by rw [q]; rfl))
  have e0 : (0 : Int64).toInt = 0 := rfl
  have e1 : (1 : Int64).toInt = 1 := rfl
  rw [e0] at h
  rw [e1]
  omega
theorem pn_0 : plainName "java/util/ArrayDeque" = true := by first | (simp [plainName, overriddenIn]; done) | decide +kernel
theorem pd_0 : parseMethodDescriptor "()V" = some ⟨[], none⟩ := by decide +kernel
theorem pd_1 : parseMethodDescriptor "()Ljava/util/Comparator;" = some ⟨[], some (.object "java/util/Comparator")⟩ := by decide +kernel
theorem pd_2 : parseMethodDescriptor "(Ljava/util/Comparator;)V" = some ⟨[(.object "java/util/Comparator")], none⟩ := by decide +kernel
theorem pd_3 : parseMethodDescriptor "()Z" = some ⟨[], some .boolean⟩ := by decide +kernel
theorem pd_4 : parseMethodDescriptor "()I" = some ⟨[], some .int⟩ := by decide +kernel
theorem pd_5 : parseMethodDescriptor "(JI)V" = some ⟨[.long, .int], none⟩ := by decide +kernel
theorem pd_6 : parseMethodDescriptor "(I)Lcom/example/kept_till_acked/kepttillacked/queue/ReadyLine$Line;" = some ⟨[.int], some (.object "com/example/kept_till_acked/kepttillacked/queue/ReadyLine$Line")⟩ := by decide +kernel
theorem pd_7 : parseMethodDescriptor "(I)Ljava/lang/Integer;" = some ⟨[.int], some (.object "java/lang/Integer")⟩ := by decide +kernel
theorem pd_8 : parseMethodDescriptor "(I)V" = some ⟨[.int], none⟩ := by decide +kernel
theorem pd_9 : parseMethodDescriptor "(Ljava/lang/Object;Ljava/util/function/Function;)Ljava/lang/Object;" = some ⟨[(.object "java/lang/Object"), (.object "java/util/function/Function")], some (.object "java/lang/Object")⟩ := by decide +kernel
theorem pd_10 : parseMethodDescriptor "(Ljava/lang/Object;)Ljava/lang/Object;" = some ⟨[(.object "java/lang/Object")], some (.object "java/lang/Object")⟩ := by decide +kernel
theorem pd_11 : parseMethodDescriptor "(Ljava/lang/Integer;)Lcom/example/kept_till_acked/kepttillacked/queue/ReadyLine$Line;" = some ⟨[(.object "java/lang/Integer")], some (.object "com/example/kept_till_acked/kepttillacked/queue/ReadyLine$Line")⟩ := by decide +kernel
theorem pd_12 : parseMethodDescriptor "(Ljava/lang/Object;Ljava/lang/Object;)V" = some ⟨[(.object "java/lang/Object"), (.object "java/lang/Object")], none⟩ := by decide +kernel
theorem pd_13 : parseMethodDescriptor "(Ljava/lang/Object;Ljava/lang/Object;)I" = some ⟨[(.object "java/lang/Object"), (.object "java/lang/Object")], some .int⟩ := by decide +kernel
theorem pd_14 : parseMethodDescriptor "(Ljava/lang/Comparable;Ljava/lang/Comparable;)I" = some ⟨[(.object "java/lang/Comparable"), (.object "java/lang/Comparable")], some .int⟩ := by decide +kernel
theorem pd_15 : parseMethodDescriptor "(Ljava/lang/Object;)I" = some ⟨[(.object "java/lang/Object")], some .int⟩ := by decide +kernel
theorem pd_16 : parseMethodDescriptor "(Ljava/lang/Integer;)I" = some ⟨[(.object "java/lang/Integer")], some .int⟩ := by decide +kernel
theorem pd_17 : parseMethodDescriptor "(II)I" = some ⟨[.int, .int], some .int⟩ := by decide +kernel
theorem pd_18 : parseMethodDescriptor "(Ljava/lang/Object;Ljava/lang/Object;Ljava/util/TreeMap$Entry;)V" = some ⟨[(.object "java/lang/Object"), (.object "java/lang/Object"), (.object "java/util/TreeMap$Entry")], none⟩ := by decide +kernel
theorem pd_19 : parseMethodDescriptor "(J)V" = some ⟨[.long], none⟩ := by decide +kernel
theorem pd_20 : parseMethodDescriptor "(J)Ljava/lang/Object;" = some ⟨[.long], some (.object "java/lang/Object")⟩ := by decide +kernel
theorem pd_21 : parseMethodDescriptor "(J)I" = some ⟨[.long], some .int⟩ := by decide +kernel
theorem pd_22 : parseMethodDescriptor "([JIIJ)I" = some ⟨[(.array .long), .int, .int, .long], some .int⟩ := by decide +kernel
theorem pd_23 : parseMethodDescriptor "(III)V" = some ⟨[.int, .int, .int], none⟩ := by decide +kernel
theorem pd_24 : parseMethodDescriptor "(JLjava/lang/Object;)V" = some ⟨[.long, (.object "java/lang/Object")], none⟩ := by decide +kernel
theorem pd_25 : parseMethodDescriptor "(Ljava/lang/Object;ILjava/lang/Object;II)V" = some ⟨[(.object "java/lang/Object"), .int, (.object "java/lang/Object"), .int, .int], none⟩ := by decide +kernel
theorem pd_26 : parseMethodDescriptor "(I)Z" = some ⟨[.int], some .boolean⟩ := by decide +kernel
theorem pd_27 : parseMethodDescriptor "(Ljava/lang/Object;)Ljava/util/TreeMap$Entry;" = some ⟨[(.object "java/lang/Object")], some (.object "java/util/TreeMap$Entry")⟩ := by decide +kernel
theorem pd_28 : parseMethodDescriptor "(J)Z" = some ⟨[.long], some .boolean⟩ := by decide +kernel
theorem pd_29 : parseMethodDescriptor "(Ljava/util/TreeMap$Entry;)V" = some ⟨[(.object "java/util/TreeMap$Entry")], none⟩ := by decide +kernel
theorem pd_30 : parseMethodDescriptor "(JIJ)V" = some ⟨[.long, .int, .long], none⟩ := by decide +kernel
theorem pd_31 : parseMethodDescriptor "(JJ)V" = some ⟨[.long, .long], none⟩ := by decide +kernel
theorem pd_32 : parseMethodDescriptor "()Ljava/lang/Object;" = some ⟨[], some (.object "java/lang/Object")⟩ := by decide +kernel
theorem pd_33 : parseMethodDescriptor "([Ljava/lang/Object;I)Ljava/lang/Object;" = some ⟨[(.array (.object "java/lang/Object")), .int], some (.object "java/lang/Object")⟩ := by decide +kernel
theorem pd_34 : parseMethodDescriptor "(Ljava/lang/Object;)V" = some ⟨[(.object "java/lang/Object")], none⟩ := by decide +kernel
theorem pd_35 : parseMethodDescriptor "()J" = some ⟨[], some .long⟩ := by decide +kernel
theorem pd_36 : parseMethodDescriptor "(III)I" = some ⟨[.int, .int, .int], some .int⟩ := by decide +kernel
theorem pd_37 : parseMethodDescriptor "(Ljava/lang/Object;Ljava/lang/Object;Ljava/util/TreeMap$Entry;Z)V" = some ⟨[(.object "java/lang/Object"), (.object "java/lang/Object"), (.object "java/util/TreeMap$Entry"), .boolean], none⟩ := by decide +kernel
theorem pd_38 : parseMethodDescriptor "(Ljava/util/TreeMap$Entry;Z)V" = some ⟨[(.object "java/util/TreeMap$Entry"), .boolean], none⟩ := by decide +kernel
def Q_rm8 (Z : State) (p1 p2 : Int32) (h0 : Heap) (n0 : Nat) (vv_ : Option Value) (h : Heap) (LL_ : List Loc) : Prop := vv_ = some (.int (own_decI p1 p2)) ∧ Fr n0 LL_ ∧ (h = h0)
def Ld0 : List (Nat × Instr × Nat) := [(0, .iinc 0 (-1), 3), (3, .iload_n 0, 1), (4, .ifCond .ge 7, 3), (7, .iload_n 1, 1), (8, .iconst 1, 1), (9, .isub, 1), (10, .istore_n 0, 1), (11, .iload_n 0, 1), (12, .ireturn, 1)]
theorem d0 : ∀ q ∈ Ld0, decode jdk_21_method_7_code q.1 = .ok q.2 := by decide +kernel
abbrev me0 : MethodName := ⟨"java/util/ArrayDeque", "dec", "(II)I"⟩
theorem rm8 (lh : Launch) (Z : State) (a0 : Array Value) (hw : HW a0 Z) (ws : List Jvm.Cond) (p1 p2 : Int32) (h0 : Heap) (n0 : Nat) (Z0 : n0 ≤ h0.size)  :
    MF lh Z me0 (.code me0 jdk_21_method_7_code 2 (some .int)) ws ⟨0, 0, 0, 0⟩ #[.int p1, .int p2] h0 (Q_rm8 Z p1 p2 h0 n0) := by
  refine own_met (y := me0) (plainFor_of_name pn_0) ?_
  intro p ev sT m below meth c T0 K hx hby hml hret hlk hown hnm hZ X0 e0 hK
  have N0 := Fr.nil n0
  have D : DB p c Ld0 := DB.of hx hby d0
  refine Rch.cast (g' := mkF m 0 #[.val (.int p1), .val (.int p2)] []) (by first | rfl | simp [entryFrame, mkF, argsToLocals, Value.category]) ?_
  refine ziinc X0 D 0 (l' := #[.val (.int (p1 + (-1 : Int32))), .val (.int p2)]) rfl rfl rfl rfl (ziN X0 D 1 rfl rfl rfl  ?_)
  by_cases c101 : (p1 + (-1 : Int32)) < (0 : Int32)
  · skip
    refine zN X0 D 2 rfl rfl ((if0 _ _).trans (tlt c101).2.1) (ziN X0 D 3 rfl rfl rfl  (zic X0 D 4 1 rfl rfl rfl (zisub X0 D 5 _ rfl rfl rfl (zistoreN X0 D 6 (l' := #[.val (.int (p2 - (1 : Int32))), .val (.int p2)]) rfl rfl rfl (ziN X0 D 7 rfl rfl rfl  ?_)))))
    exact Rch.retI X0 hx hret hlk (D.on 8 rfl) (fun U hU hF => hK _ U _ _ _ (by show Q_rm8 Z p1 p2 h0 n0 _ U.heap _; rw [hU, e0]; exact ⟨by simp [own_decI, c101], N0, rfl⟩) hF (by decide) (by decide))
  · skip
    refine zY X0 D 2 11 rfl rfl ((if0 _ _).trans (flt c101).2.1) rfl (ziN X0 D 7 rfl rfl rfl  ?_)
    exact Rch.retI X0 hx hret hlk (D.on 8 rfl) (fun U hU hF => hK _ U _ _ _ (by show Q_rm8 Z p1 p2 h0 n0 _ U.heap _; rw [hU, e0]; exact ⟨by simp [own_decI, c101], N0, rfl⟩) hF (by decide) (by decide))
def Q_rm11 (Z : State) (p1 p2 : Int32) (h0 : Heap) (n0 : Nat) (vv_ : Option Value) (h : Heap) (LL_ : List Loc) : Prop := vv_ = some (.int (own_incI p1 p2)) ∧ Fr n0 LL_ ∧ (h = h0)
def Ld1 : List (Nat × Instr × Nat) := [(0, .iinc 0 1, 3), (3, .iload_n 0, 1), (4, .iload_n 1, 1), (5, .if_icmp .lt 5, 3), (10, .iload_n 0, 1), (11, .ireturn, 1), (8, .iconst 0, 1), (9, .istore_n 0, 1)]
theorem d1 : ∀ q ∈ Ld1, decode jdk_21_method_6_code q.1 = .ok q.2 := by decide +kernel
abbrev me1 : MethodName := ⟨"java/util/ArrayDeque", "inc", "(II)I"⟩
theorem rm11 (lh : Launch) (Z : State) (a0 : Array Value) (hw : HW a0 Z) (ws : List Jvm.Cond) (p1 p2 : Int32) (h0 : Heap) (n0 : Nat) (Z0 : n0 ≤ h0.size)  :
    MF lh Z me1 (.code me1 jdk_21_method_6_code 2 (some .int)) ws ⟨0, 0, 0, 0⟩ #[.int p1, .int p2] h0 (Q_rm11 Z p1 p2 h0 n0) := by
  refine own_met (y := me1) (plainFor_of_name pn_0) ?_
  intro p ev sT m below meth c T0 K hx hby hml hret hlk hown hnm hZ X0 e0 hK
  have N0 := Fr.nil n0
  have D : DB p c Ld1 := DB.of hx hby d1
  refine Rch.cast (g' := mkF m 0 #[.val (.int p1), .val (.int p2)] []) (by first | rfl | simp [entryFrame, mkF, argsToLocals, Value.category]) ?_
  refine ziinc X0 D 0 (l' := #[.val (.int (p1 + (1 : Int32))), .val (.int p2)]) rfl rfl rfl rfl (ziN X0 D 1 rfl rfl rfl  (ziN X0 D 2 rfl rfl rfl  ?_))
  by_cases c102 : (p1 + (1 : Int32)) < p2
  · skip
    refine zcY X0 D 3 10 rfl rfl (tlt c102).1 rfl (ziN X0 D 4 rfl rfl rfl  ?_)
    exact Rch.retI X0 hx hret hlk (D.on 5 rfl) (fun U hU hF => hK _ U _ _ _ (by show Q_rm11 Z p1 p2 h0 n0 _ U.heap _; rw [hU, e0]; exact ⟨by simp [own_incI, c102], N0, rfl⟩) hF (by decide) (by decide))
  · skip
    refine zcN X0 D 3 rfl rfl (flt c102).1 (zic X0 D 6 0 rfl rfl rfl (zistoreN X0 D 7 (l' := #[.val (.int (0 : Int32)), .val (.int p2)]) rfl rfl rfl (ziN X0 D 4 rfl rfl rfl  ?_)))
    exact Rch.retI X0 hx hret hlk (D.on 5 rfl) (fun U hU hF => hK _ U _ _ _ (by show Q_rm11 Z p1 p2 h0 n0 _ U.heap _; rw [hU, e0]; exact ⟨by simp [own_incI, c102], N0, rfl⟩) hF (by decide) (by decide))
def Q_rm15 (Z : State) (p1 p2 p3 : Int32) (h0 : Heap) (n0 : Nat) (vv_ : Option Value) (h : Heap) (LL_ : List Loc) : Prop := vv_ = some (.int (own_subI p1 p2 p3)) ∧ Fr n0 LL_ ∧ (h = h0)
def Ld2 : List (Nat × Instr × Nat) := [(0, .iload_n 0, 1), (1, .iload_n 1, 1), (2, .isub, 1), (3, .dup, 1), (4, .istore_n 0, 1), (5, .ifCond .ge 7, 3), (8, .iload_n 0, 1), (9, .iload_n 2, 1), (10, .iadd, 1), (11, .istore_n 0, 1), (12, .iload_n 0, 1), (13, .ireturn, 1)]
theorem d2 : ∀ q ∈ Ld2, decode jdk_21_method_9_code q.1 = .ok q.2 := by decide +kernel
abbrev me2 : MethodName := ⟨"java/util/ArrayDeque", "sub", "(III)I"⟩
theorem rm15 (lh : Launch) (Z : State) (a0 : Array Value) (hw : HW a0 Z) (ws : List Jvm.Cond) (p1 p2 p3 : Int32) (h0 : Heap) (n0 : Nat) (Z0 : n0 ≤ h0.size)  :
    MF lh Z me2 (.code me2 jdk_21_method_9_code 3 (some .int)) ws ⟨0, 0, 0, 0⟩ #[.int p1, .int p2, .int p3] h0 (Q_rm15 Z p1 p2 p3 h0 n0) := by
  refine own_met (y := me2) (plainFor_of_name pn_0) ?_
  intro p ev sT m below meth c T0 K hx hby hml hret hlk hown hnm hZ X0 e0 hK
  have N0 := Fr.nil n0
  have D : DB p c Ld2 := DB.of hx hby d2
  refine Rch.cast (g' := mkF m 0 #[.val (.int p1), .val (.int p2), .val (.int p3)] []) (by first | rfl | simp [entryFrame, mkF, argsToLocals, Value.category]) ?_
  refine ziN X0 D 0 rfl rfl rfl  (ziN X0 D 1 rfl rfl rfl  (zisub X0 D 2 _ rfl rfl rfl (zdu X0 D 3 rfl rfl rfl (zistoreN X0 D 4 (l' := #[.val (.int (p1 - p2)), .val (.int p2), .val (.int p3)]) rfl rfl rfl ?_))))
  by_cases c103 : (p1 - p2) < (0 : Int32)
  · skip
    refine zN X0 D 5 rfl rfl ((if0 _ _).trans (tlt c103).2.1) (ziN X0 D 6 rfl rfl rfl  (ziN X0 D 7 rfl rfl rfl  (ziadd X0 D 8 _ rfl rfl rfl (zistoreN X0 D 9 (l' := #[.val (.int ((p1 - p2) + p3)), .val (.int p2), .val (.int p3)]) rfl rfl rfl (ziN X0 D 10 rfl rfl rfl  ?_)))))
    exact Rch.retI X0 hx hret hlk (D.on 11 rfl) (fun U hU hF => hK _ U _ _ _ (by show Q_rm15 Z p1 p2 p3 h0 n0 _ U.heap _; rw [hU, e0]; exact ⟨by simp [own_subI, c103], N0, rfl⟩) hF (by decide) (by decide))
  · skip
    refine zY X0 D 5 12 rfl rfl ((if0 _ _).trans (flt c103).2.1) rfl (ziN X0 D 10 rfl rfl rfl  ?_)
    exact Rch.retI X0 hx hret hlk (D.on 11 rfl) (fun U hU hF => hK _ U _ _ _ (by show Q_rm15 Z p1 p2 p3 h0 n0 _ U.heap _; rw [hU, e0]; exact ⟨by simp [own_subI, c103], N0, rfl⟩) hF (by decide) (by decide))
def Q_rm9 (Z : State) (a1 : Addr) (p2 : Int32) (y : Nat → Value) (i : Nat) (v : Value) (h0 : Heap) (n0 : Nat) (vv_ : Option Value) (h : Heap) (LL_ : List Loc) : Prop := vv_ = some v ∧ Fr n0 LL_ ∧ (h = h0)
def Ld3 : List (Nat × Instr × Nat) := [(0, .aload_n 0, 1), (1, .iload_n 1, 1), (2, .aaload, 1), (3, .areturn, 1)]
theorem d3 : ∀ q ∈ Ld3, decode jdk_21_method_10_code q.1 = .ok q.2 := by decide +kernel
abbrev me3 : MethodName := ⟨"java/util/ArrayDeque", "elementAt", "([Ljava/lang/Object;I)Ljava/lang/Object;"⟩
theorem rm9 (lh : Launch) (Z : State) (a0 : Array Value) (hw : HW a0 Z) (ws : List Jvm.Cond) (a1 : Addr) (p2 : Int32) (y : Nat → Value) (i : Nat) (v : Value) (h0 : Heap) (n0 : Nat) (Z0 : n0 ≤ h0.size) (V1 : Av Z h0 a1 (.object "java/lang/Object") 17 (fun q => y q)) (hi : p2.toInt = (i : Int)) (hi17 : i < 17) (hv : y i = v) (hr : v.isRef = true) :
    MF lh Z me3 (.code me3 jdk_21_method_10_code 2 (some (.object "java/lang/Object"))) ws ⟨0, 0, 0, 0⟩ #[.ref a1, .int p2] h0 (Q_rm9 Z a1 p2 y i v h0 n0) := by
  refine own_met (y := me3) (plainFor_of_name pn_0) ?_
  intro p ev sT m below meth c T0 K hx hby hml hret hlk hown hnm hZ X0 e0 hK
  have N0 := Fr.nil n0
  have D : DB p c Ld3 := DB.of hx hby d3
  refine Rch.cast (g' := mkF m 0 #[.val (.ref a1), .val (.int p2)] []) (by first | rfl | simp [entryFrame, mkF, argsToLocals, Value.category]) ?_
  refine zaN X0 D 0 rfl rfl rfl rfl (ziN X0 D 1 rfl rfl rfl  ?_)
  obtain ⟨cl104, Ar104, Sz104, Ha104⟩ := id V1
  have hval104 : (y) i = v := hv
  refine Rch.of (T' := T0) (g' := (mkF m 3 #[.val (.ref a1), .val (.int p2)] [v])) (X0.aaload hx (j := p2) (v := v) (by rw [e0]; exact Ar104.1) (State.isArrayOf_alike hZ.alike Ar104.2.1) rfl Ar104.2.2 (oIn (i := i) Sz104 hi hi17) (by rw [← hval104]; exact oAt (i := i) Ha104 hi hi17) (g := (mkF m 2 #[.val (.ref a1), .val (.int p2)] [.int p2, .ref a1])) rfl rfl (D.on 2 rfl)) ?_
  exact Rch.retA X0 hx (w := v) hret rfl hr hlk (D.on 3 rfl) (fun U hU hF => hK _ U _ _ _ (by show Q_rm9 Z a1 p2 y i v h0 n0 _ U.heap _; rw [hU, e0]; exact ⟨rfl, N0, rfl⟩) hF (by decide) (by decide))
def Q_rm7 (Z : State) (a1 el : Addr) (tl : Nat) (y : Nat → Value) (v : Value) (h0 : Heap) (n0 : Nat) (vv_ : Option Value) (h : Heap) (LL_ : List Loc) : Prop := vv_ = some v ∧ Fr n0 LL_ ∧ (h = h0)
def Ld4 : List (Nat × Instr × Nat) := [(0, .aload_n 0, 1), (1, .getfield 3, 3), (4, .dup, 1), (5, .astore_n 1, 1), (6, .aload_n 0, 1), (7, .getfield 20, 3), (10, .aload_n 1, 1), (11, .arraylength, 1), (12, .invokestatic 68, 3), (15, .invokestatic 103, 3), (18, .areturn, 1)]
theorem d4 : ∀ q ∈ Ld4, decode jdk_21_method_25_code q.1 = .ok q.2 := by decide +kernel
abbrev me4 : MethodName := ⟨"java/util/ArrayDeque", "peekLast", "()Ljava/lang/Object;"⟩
theorem rm7 (lh : Launch) (Z : State) (a0 : Array Value) (hw : HW a0 Z) (ws : List Jvm.Cond) (a1 el : Addr) (tl : Nat) (y : Nat → Value) (v : Value) (h0 : Heap) (n0 : Nat) (Z0 : n0 ≤ h0.size) (F1 : Fld Z h0 a1 "java/util/ArrayDeque" "elements" "[Ljava/lang/Object;" (.ref el)) (F2 : Fld Z h0 a1 "java/util/ArrayDeque" "tail" "I" (.int (Int32.ofNat tl))) (V1 : Av Z h0 el (.object "java/lang/Object") 17 (fun q => y q)) (htl : tl ≤ 8) (hv : y (own_dec tl) = v) (hr : v.isRef = true) :
    MF lh Z me4 (.code me4 jdk_21_method_25_code 2 (some (.object "java/lang/Object"))) ws ⟨1, 0, 0, 14⟩ #[.ref a1] h0 (Q_rm7 Z a1 el tl y v h0 n0) := by
  refine own_met (y := me4) (plainFor_of_name pn_0) ?_
  intro p ev sT m below meth c T0 K hx hby hml hret hlk hown hnm hZ X0 e0 hK
  have N0 := Fr.nil n0
  have D : DB p c Ld4 := DB.of hx hby d4
  refine Rch.cast (g' := mkF m 0 #[.val (.ref a1), .unset] []) (by first | rfl | simp [entryFrame, mkF, argsToLocals, Value.category]) ?_
  refine zaN X0 D 0 rfl rfl rfl rfl (zgf X0 D 1 hZ hown (ow hw 159 rfl) e0 F1 rfl rfl fun T105 X105 e105 => ?_)
  refine zdu X105 D 2 rfl rfl rfl (zat X105 D 3 (l' := #[.val (.ref a1), .val (.ref el)]) rfl rfl rfl rfl (zaN X105 D 4 rfl rfl rfl rfl (zgf X105 D 5 hZ hown (ow hw 369 rfl) e105 F2 rfl rfl fun T106 X106 e106 => ?_)))
  refine zaN X106 D 6 rfl rfl rfl rfl ?_
  obtain ⟨cl107, Ar107, Sz107, Ha107⟩ := id V1
  refine Rch.of (T' := T106) (g' := (mkF m 12 #[.val (.ref a1), .val (.ref el)] [.int cl107.slots.size.toInt32, .int (Int32.ofNat tl), .ref el])) (X106.arraylength hx (by rw [e106]; exact Ar107.1) (State.isArrayOf_alike hZ.alike Ar107.2.1) (g := (mkF m 11 #[.val (.ref a1), .val (.ref el)] [.ref el, .int (Int32.ofNat tl), .ref el])) rfl rfl (D.on 7 rfl)) ?_
  rw [oLen Sz107]
  show Rch p ev below K T106 (mkF m 12 #[.val (.ref a1), .val (.ref el)] [.int (17 : Int32), .int (Int32.ofNat tl), .ref el])
  refine zst (W := 1) X106 D 8 hZ me0 hown (ow hw 371 rfl) (ow hw 372 rfl) (ow hw 147 rfl) (ow hw 373 rfl) e106 (rm8 lh Z a0 hw [] (Int32.ofNat tl) (17 : Int32) h0 n0 Z0 ) hml [.int (Int32.ofNat tl), .int (17 : Int32)] [.ref el] (lenOf pd_17 rfl) rfl rfl rfl rfl rfl rfl (by decide) (by decide) fun v108 T108 L108 X108 hQ108 => ?_
  obtain ⟨rfl, N108q, hQ108⟩ := hQ108
  have N108 := Fr.app N0 N108q
  rw [show (own_decI (Int32.ofNat tl) (17 : Int32)) = Int32.ofNat (own_dec tl) from own_dec_eq htl]
  refine zst X108 D 9 hZ me3 hown (ow hw 374 rfl) (ow hw 375 rfl) (ow hw 147 rfl) (ow hw 376 rfl) hQ108 (rm9 lh Z a0 hw [] el (Int32.ofNat (own_dec tl)) y (own_dec tl) v h0 n0 Z0 V1 (oTo (by have := own_dec_lt htl; omega)) (own_dec_lt htl) hv hr) hml [.ref el, .int (Int32.ofNat (own_dec tl))] [] (lenOf pd_33 rfl) rfl rfl rfl rfl rfl rfl (by decide) (by decide) fun v109 T109 L109 X109 hQ109 => ?_
  obtain ⟨rfl, N109q, hQ109⟩ := hQ109
  have N109 := Fr.app N108 N109q
  exact Rch.retA X109 hx (w := v) hret rfl hr hlk (D.on 10 rfl) (fun U hU hF => hK _ U _ _ _ (by show Q_rm7 Z a1 el tl y v h0 n0 _ U.heap _; rw [hU, hQ109]; exact ⟨rfl, N109, rfl⟩) hF (by decide) (by decide))
def Q_rm13 (Z : State) (a1 el : Addr) (tl : Nat) (y : Nat → Value) (v : Addr) (h0 : Heap) (n0 : Nat) (vv_ : Option Value) (h : Heap) (LL_ : List Loc) : Prop := vv_ = some (.ref v) ∧ Fr n0 LL_ ∧ (h = h0)
def Ld5 : List (Nat × Instr × Nat) := [(0, .aload_n 0, 1), (1, .getfield 3, 3), (4, .aload_n 0, 1), (5, .getfield 24, 3), (8, .invokestatic 103, 3), (11, .astore_n 1, 1), (12, .aload_n 1, 1), (13, .ifnonnull 11, 3), (24, .aload_n 1, 1), (25, .areturn, 1)]
theorem d5 : ∀ q ∈ Ld5, decode jdk_21_method_22_code q.1 = .ok q.2 := by decide +kernel
abbrev me5 : MethodName := ⟨"java/util/ArrayDeque", "getFirst", "()Ljava/lang/Object;"⟩
theorem rm13 (lh : Launch) (Z : State) (a0 : Array Value) (hw : HW a0 Z) (ws : List Jvm.Cond) (a1 el : Addr) (tl : Nat) (y : Nat → Value) (v : Addr) (h0 : Heap) (n0 : Nat) (Z0 : n0 ≤ h0.size) (F1 : Fld Z h0 a1 "java/util/ArrayDeque" "elements" "[Ljava/lang/Object;" (.ref el)) (F2 : Fld Z h0 a1 "java/util/ArrayDeque" "head" "I" (.int (Int32.ofNat tl))) (V1 : Av Z h0 el (.object "java/lang/Object") 17 (fun q => y q)) (htl : tl ≤ 8) (hv : y tl = (.ref v)) :
    MF lh Z me5 (.code me5 jdk_21_method_22_code 2 (some (.object "java/lang/Object"))) ws ⟨1, 0, 0, 13⟩ #[.ref a1] h0 (Q_rm13 Z a1 el tl y v h0 n0) := by
  refine own_met (y := me5) (plainFor_of_name pn_0) ?_
  intro p ev sT m below meth c T0 K hx hby hml hret hlk hown hnm hZ X0 e0 hK
  have N0 := Fr.nil n0
  have D : DB p c Ld5 := DB.of hx hby d5
  refine Rch.cast (g' := mkF m 0 #[.val (.ref a1), .unset] []) (by first | rfl | simp [entryFrame, mkF, argsToLocals, Value.category]) ?_
  refine zaN X0 D 0 rfl rfl rfl rfl (zgf X0 D 1 hZ hown (ow hw 159 rfl) e0 F1 rfl rfl fun T110 X110 e110 => ?_)
  refine zaN X110 D 2 rfl rfl rfl rfl (zgf X110 D 3 hZ hown (ow hw 385 rfl) e110 F2 rfl rfl fun T111 X111 e111 => ?_)
  refine zst X111 D 4 hZ me3 hown (ow hw 374 rfl) (ow hw 375 rfl) (ow hw 147 rfl) (ow hw 376 rfl) e111 (rm9 lh Z a0 hw [] el (Int32.ofNat tl) y tl (.ref v) h0 n0 Z0 V1 (oTo (by omega)) (by omega) hv rfl) hml [.ref el, .int (Int32.ofNat tl)] [] (lenOf pd_33 rfl) rfl rfl rfl rfl rfl rfl (by decide) (by decide) fun v112 T112 L112 X112 hQ112 => ?_
  obtain ⟨rfl, N112q, hQ112⟩ := hQ112
  have N112 := Fr.app N0 N112q
  refine zat X112 D 5 (l' := #[.val (.ref a1), .val (.ref v)]) rfl rfl rfl rfl (zaN X112 D 6 rfl rfl rfl rfl (zifnonnullYes X112 D 7 24 rfl rfl rfl (zaN X112 D 8 rfl rfl rfl rfl ?_)))
  exact Rch.retA X112 hx (w := (.ref v)) hret rfl rfl hlk (D.on 9 rfl) (fun U hU hF => hK _ U _ _ _ (by show Q_rm13 Z a1 el tl y v h0 n0 _ U.heap _; rw [hU, hQ112]; exact ⟨rfl, N112, rfl⟩) hF (by decide) (by decide))
def Q_rm14 (Z : State) (a1 el : Addr) (hd : Nat) (y : Nat → Value) (h0 : Heap) (n0 : Nat) (vv_ : Option Value) (h : Heap) (LL_ : List Loc) : Prop := vv_ = some (.int (1 : Int32)) ∧ Fr n0 LL_ ∧ (h = h0)
def Ld6 : List (Nat × Instr × Nat) := [(0, .aload_n 0, 1), (1, .getfield 20, 3), (4, .aload_n 0, 1), (5, .getfield 24, 3), (8, .aload_n 0, 1), (9, .getfield 3, 3), (12, .arraylength, 1), (13, .invokestatic 127, 3), (16, .ireturn, 1)]
theorem d6 : ∀ q ∈ Ld6, decode jdk_21_method_37_code q.1 = .ok q.2 := by decide +kernel
abbrev me6 : MethodName := ⟨"java/util/ArrayDeque", "size", "()I"⟩
theorem rm14 (lh : Launch) (Z : State) (a0 : Array Value) (hw : HW a0 Z) (ws : List Jvm.Cond) (a1 el : Addr) (hd : Nat) (y : Nat → Value) (h0 : Heap) (n0 : Nat) (Z0 : n0 ≤ h0.size) (F1 : Fld Z h0 a1 "java/util/ArrayDeque" "elements" "[Ljava/lang/Object;" (.ref el)) (F2 : Fld Z h0 a1 "java/util/ArrayDeque" "tail" "I" (.int (Int32.ofNat (hd + 1)))) (F3 : Fld Z h0 a1 "java/util/ArrayDeque" "head" "I" (.int (Int32.ofNat hd))) (V1 : Av Z h0 el (.object "java/lang/Object") 17 (fun q => y q)) (hhd : hd ≤ 8) :
    MF lh Z me6 (.code me6 jdk_21_method_37_code 1 (some .int)) ws ⟨1, 0, 0, 14⟩ #[.ref a1] h0 (Q_rm14 Z a1 el hd y h0 n0) := by
  refine own_met (y := me6) (plainFor_of_name pn_0) ?_
  intro p ev sT m below meth c T0 K hx hby hml hret hlk hown hnm hZ X0 e0 hK
  have N0 := Fr.nil n0
  have D : DB p c Ld6 := DB.of hx hby d6
  refine Rch.cast (g' := mkF m 0 #[.val (.ref a1)] []) (by first | rfl | simp [entryFrame, mkF, argsToLocals, Value.category]) ?_
  refine zaN X0 D 0 rfl rfl rfl rfl (zgf X0 D 1 hZ hown (ow hw 369 rfl) e0 F2 rfl rfl fun T113 X113 e113 => ?_)
  refine zaN X113 D 2 rfl rfl rfl rfl (zgf X113 D 3 hZ hown (ow hw 385 rfl) e113 F3 rfl rfl fun T114 X114 e114 => ?_)
  refine zaN X114 D 4 rfl rfl rfl rfl (zgf X114 D 5 hZ hown (ow hw 159 rfl) e114 F1 rfl rfl fun T115 X115 e115 => ?_)
  obtain ⟨cl116, Ar116, Sz116, Ha116⟩ := id V1
  refine Rch.of (T' := T115) (g' := (mkF m 13 #[.val (.ref a1)] [.int cl116.slots.size.toInt32, .int (Int32.ofNat hd), .int (Int32.ofNat (hd + 1))])) (X115.arraylength hx (by rw [e115]; exact Ar116.1) (State.isArrayOf_alike hZ.alike Ar116.2.1) (g := (mkF m 12 #[.val (.ref a1)] [.ref el, .int (Int32.ofNat hd), .int (Int32.ofNat (hd + 1))])) rfl rfl (D.on 6 rfl)) ?_
  rw [oLen Sz116]
  show Rch p ev below K T115 (mkF m 13 #[.val (.ref a1)] [.int (17 : Int32), .int (Int32.ofNat hd), .int (Int32.ofNat (hd + 1))])
  refine zst X115 D 7 hZ me2 hown (ow hw 420 rfl) (ow hw 421 rfl) (ow hw 147 rfl) (ow hw 422 rfl) e115 (rm15 lh Z a0 hw [] (Int32.ofNat (hd + 1)) (Int32.ofNat hd) (17 : Int32) h0 n0 Z0 ) hml [.int (Int32.ofNat (hd + 1)), .int (Int32.ofNat hd), .int (17 : Int32)] [] (lenOf pd_36 rfl) rfl rfl rfl rfl rfl rfl (by decide) (by decide) fun v117 T117 L117 X117 hQ117 => ?_
  obtain ⟨rfl, N117q, hQ117⟩ := hQ117
  have N117 := Fr.app N0 N117q
  rw [show (own_subI (Int32.ofNat (hd + 1)) (Int32.ofNat hd) (17 : Int32)) = (1 : Int32) from own_sub_eq hhd]
  exact Rch.retI X117 hx hret hlk (D.on 8 rfl) (fun U hU hF => hK _ U _ _ _ (by show Q_rm14 Z a1 el hd y h0 n0 _ U.heap _; rw [hU, hQ117]; exact ⟨rfl, N117, rfl⟩) hF (by decide) (by decide))
def Q_rm10 (Z : State) (a1 ck el : Addr) (hd : Nat) (h0 : Heap) (n0 : Nat) (vv_ : Option Value) (h : Heap) (LL_ : List Loc) : Prop := vv_ = none ∧ Fr n0 LL_ ∧ (Keep h0 h [a1, el] ∧ Fld Z h a1 "java/util/ArrayDeque" "elements" "[Ljava/lang/Object;" (.ref el) ∧ Fld Z h a1 "java/util/ArrayDeque" "tail" "I" (.int (Int32.ofNat (hd + 1))) ∧ Fld Z h a1 "java/util/ArrayDeque" "head" "I" (.int (Int32.ofNat hd)) ∧ Av Z h el (.object "java/lang/Object") 17 (fun k => if k = hd then .ref ck else .null))
def Ld7 : List (Nat × Instr × Nat) := [(0, .aload_n 1, 1), (1, .ifnonnull 11, 3), (12, .aload_n 0, 1), (13, .getfield 3, 3), (16, .astore_n 2, 1), (17, .aload_n 2, 1), (18, .aload_n 0, 1), (19, .getfield 20, 3), (22, .aload_n 1, 1), (23, .aastore, 1), (24, .aload_n 0, 1), (25, .getfield 24, 3), (28, .aload_n 0, 1), (29, .aload_n 0, 1), (30, .getfield 20, 3), (33, .aload_n 2, 1), (34, .arraylength, 1), (35, .invokestatic 74, 3), (38, .dup_x1, 1), (39, .putfield 20, 3), (42, .if_icmp .ne 8, 3), (50, .return_, 1)]
theorem d7 : ∀ q ∈ Ld7, decode jdk_21_method_13_code q.1 = .ok q.2 := by decide +kernel
abbrev me7 : MethodName := ⟨"java/util/ArrayDeque", "addLast", "(Ljava/lang/Object;)V"⟩
def sn0 {a0 : Array Value} {Z : State} (hw : HW a0 Z) := slot_ne (C := "java/util/ArrayDeque") (Or.inl (ow hw 160 rfl)) (Or.inl (ow hw 370 rfl)) (by decide) (t := (.array (.object "java/lang/Object"))) (t' := .int) (by decide) (by decide)
def sn1 {a0 : Array Value} {Z : State} (hw : HW a0 Z) := slot_ne (C := "java/util/ArrayDeque") (Or.inl (ow hw 386 rfl)) (Or.inl (ow hw 370 rfl)) (by decide) (t := .int) (t' := .int) (by decide) (by decide)
theorem rm10 (lh : Launch) (Z : State) (a0 : Array Value) (hw : HW a0 Z) (ws : List Jvm.Cond) (a1 ck el : Addr) (hd : Nat) (h0 : Heap) (n0 : Nat) (Z0 : n0 ≤ h0.size) (E1 : Exa Z h0 a1 "java/util/ArrayDeque") (E2 : Exa Z h0 ck "[J") (O1 : OvA Z h0 el "java/lang/Object") (F1 : Fld Z h0 a1 "java/util/ArrayDeque" "elements" "[Ljava/lang/Object;" (.ref el)) (F2 : Fld Z h0 a1 "java/util/ArrayDeque" "tail" "I" (.int (Int32.ofNat hd))) (F3 : Fld Z h0 a1 "java/util/ArrayDeque" "head" "I" (.int (Int32.ofNat hd))) (V1 : Av Z h0 el (.object "java/lang/Object") 17 (fun q => (fun _ => .null) q)) (g1 : n0 ≤ a1) (g2 : n0 ≤ el) (n1 : a1 ≠ el) (n2 : ck ≠ el) (n3 : ck ≠ a1) (hhd : hd ≤ 8) :
    MF lh Z me7 (.code me7 jdk_21_method_13_code 3 none) ws ⟨1, 0, 0, 15⟩ #[.ref a1, .ref ck] h0 (Q_rm10 Z a1 ck el hd h0 n0) := by
  refine own_met (y := me7) (plainFor_of_name pn_0) ?_
  intro p ev sT m below meth c T0 K hx hby hml hret hlk hown hnm hZ X0 e0 hK
  have N0 := Fr.nil n0
  have D : DB p c Ld7 := DB.of hx hby d7
  refine Rch.cast (g' := mkF m 0 #[.val (.ref a1), .val (.ref ck), .unset] []) (by first | rfl | simp [entryFrame, mkF, argsToLocals, Value.category]) ?_
  refine zaN X0 D 0 rfl rfl rfl rfl (zifnonnullYes X0 D 1 12 rfl rfl rfl (zaN X0 D 2 rfl rfl rfl rfl (zgf X0 D 3 hZ hown (ow hw 159 rfl) e0 F1 rfl rfl fun T118 X118 e118 => ?_)))
  refine zat X118 D 4 (l' := #[.val (.ref a1), .val (.ref ck), .val (.ref el)]) rfl rfl rfl rfl (zaN X118 D 5 rfl rfl rfl rfl (zaN X118 D 6 rfl rfl rfl rfl (zgf X118 D 7 hZ hown (ow hw 369 rfl) e118 F2 rfl rfl fun T119 X119 e119 => ?_)))
  refine zaN X119 D 8 rfl rfl rfl rfl ?_
  obtain ⟨cl120, Ar120, Sz120, Ha120⟩ := id V1
  have ov120 := OvA.at O1 Ar120
  obtain ⟨T120, h120, X120, e120, W120, st120⟩ := stR X119 hx hZ e119 Ar120 (j := (Int32.ofNat hd)) (oIn (i := hd) Sz120 (oTo (by omega)) (by omega)) rfl (Sto.of Ar120 ov120 (Ins.of_exa E2 (ow hw 384 rfl))) (g := (mkF m 23 #[.val (.ref a1), .val (.ref ck), .val (.ref el)] [.ref ck, .int (Int32.ofNat hd), .ref el])) rfl rfl (D.on 9 rfl)
  have V120 := Av.set (i := hd) V1 (oTo (by omega)) (by omega) W120
  have N120 := Fr.snoc X120 N0 g2
  refine Rch.of (T' := T120) (g' := (mkF m 24 #[.val (.ref a1), .val (.ref ck), .val (.ref el)] [])) st120 ?_
  refine zaN X120 D 10 rfl rfl rfl rfl (zgf X120 D 11 hZ hown (ow hw 385 rfl) e120 (F3.other W120 (Or.inl n1)) rfl rfl fun T121 X121 e121 => ?_)
  refine zaN X121 D 12 rfl rfl rfl rfl (zaN X121 D 13 rfl rfl rfl rfl (zgf X121 D 14 hZ hown (ow hw 369 rfl) e121 (F2.other W120 (Or.inl n1)) rfl rfl fun T122 X122 e122 => ?_))
  refine zaN X122 D 15 rfl rfl rfl rfl ?_
  obtain ⟨cl123, Ar123, Sz123, Ha123⟩ := id V120
  refine Rch.of (T' := T122) (g' := (mkF m 35 #[.val (.ref a1), .val (.ref ck), .val (.ref el)] [.int cl123.slots.size.toInt32, .int (Int32.ofNat hd), .ref a1, .int (Int32.ofNat hd)])) (X122.arraylength hx (by rw [e122]; exact Ar123.1) (State.isArrayOf_alike hZ.alike Ar123.2.1) (g := (mkF m 34 #[.val (.ref a1), .val (.ref ck), .val (.ref el)] [.ref el, .int (Int32.ofNat hd), .ref a1, .int (Int32.ofNat hd)])) rfl rfl (D.on 16 rfl)) ?_
  rw [oLen Sz123]
  show Rch p ev below K T122 (mkF m 35 #[.val (.ref a1), .val (.ref ck), .val (.ref el)] [.int (17 : Int32), .int (Int32.ofNat hd), .ref a1, .int (Int32.ofNat hd)])
  refine zst (W := 2) X122 D 17 hZ me1 hown (ow hw 387 rfl) (ow hw 388 rfl) (ow hw 147 rfl) (ow hw 389 rfl) e122 (rm11 lh Z a0 hw [] (Int32.ofNat hd) (17 : Int32) h120 n0 (Nat.le_trans Z0 (Keep.of_wr W120).1) ) hml [.int (Int32.ofNat hd), .int (17 : Int32)] [.ref a1, .int (Int32.ofNat hd)] (lenOf pd_17 rfl) rfl rfl rfl rfl rfl rfl (by decide) (by decide) fun v124 T124 L124 X124 hQ124 => ?_
  obtain ⟨rfl, N124q, hQ124⟩ := hQ124
  have N124 := Fr.app N120 N124q
  rw [show (own_incI (Int32.ofNat hd) (17 : Int32)) = Int32.ofNat (hd + 1) from own_inc_eq hhd]
  refine zdupX1 X124 D 18 rfl rfl rfl rfl (zpf X124 D 19 hZ hown (ow hw 369 rfl) hQ124 (F2.other W120 (Or.inl n1)) (E1.wr W120) (Or.inl (ow hw 370 rfl)) (ow hw 146 rfl) .int (by decide) rfl rfl rfl rfl fun T125 h125 X125 e125 W125 => ?_)
  have N125 := Fr.snoc X125 N124 g1
  have Fw125 := Fld.same W125 (F2.other W120 (Or.inl n1))
  refine zcY X125 D 20 50 rfl rfl (feq (own_hne hhd)).2 rfl ?_
  exact Rch.retV X125 hx hret hlk (D.on 21 rfl) (fun U hU hF => hK _ U _ _ _ (by show Q_rm10 Z a1 ck el hd h0 n0 _ U.heap _; rw [hU, e125]; exact ⟨rfl, N125, (((Keep.refl h0 [a1, el]).wr W120 (Or.inl (List.mem_of_getElem? (i := 1) rfl))).wr W125 (Or.inl (List.mem_of_getElem? (i := 0) rfl))), ((F1.other W120 (Or.inl n1)).other W125 (Or.inr (sn0 hw))), Fw125, ((F3.other W120 (Or.inl n1)).other W125 (Or.inr (sn1 hw))), (V120.other W125 (Ne.symm n1))⟩) hF (by decide) (by decide))
def Q_rm17 (Z : State) (a1 el : Addr) (hd : Nat) (ck : Addr) (h0 : Heap) (n0 : Nat) (vv_ : Option Value) (h : Heap) (LL_ : List Loc) : Prop := vv_ = some (.ref ck) ∧ Fr n0 LL_ ∧ (Keep h0 h [a1, el] ∧ Fld Z h a1 "java/util/ArrayDeque" "elements" "[Ljava/lang/Object;" (.ref el) ∧ Fld Z h a1 "java/util/ArrayDeque" "tail" "I" (.int (Int32.ofNat (hd + 1))) ∧ Fld Z h a1 "java/util/ArrayDeque" "head" "I" (.int (Int32.ofNat (hd + 1))) ∧ Av Z h el (.object "java/lang/Object") 17 (fun _ => .null))
def Ld8 : List (Nat × Instr × Nat) := [(0, .aload_n 0, 1), (1, .getfield 3, 3), (4, .dup, 1), (5, .astore_n 1, 1), (6, .aload_n 0, 1), (7, .getfield 24, 3), (10, .dup, 1), (11, .istore_n 2, 1), (12, .invokestatic 103, 3), (15, .astore_n 3, 1), (16, .aload_n 3, 1), (17, .ifnull 17, 3), (20, .aload_n 1, 1), (21, .iload_n 2, 1), (22, .aconst_null, 1), (23, .aastore, 1), (24, .aload_n 0, 1), (25, .iload_n 2, 1), (26, .aload_n 1, 1), (27, .arraylength, 1), (28, .invokestatic 74, 3), (31, .putfield 24, 3), (34, .aload_n 3, 1), (35, .areturn, 1)]
theorem d8 : ∀ q ∈ Ld8, decode jdk_21_method_20_code q.1 = .ok q.2 := by decide +kernel
abbrev me8 : MethodName := ⟨"java/util/ArrayDeque", "pollFirst", "()Ljava/lang/Object;"⟩
def sn2 {a0 : Array Value} {Z : State} (hw : HW a0 Z) := slot_ne (C := "java/util/ArrayDeque") (Or.inl (ow hw 160 rfl)) (Or.inl (ow hw 386 rfl)) (by decide) (t := (.array (.object "java/lang/Object"))) (t' := .int) (by decide) (by decide)
def sn3 {a0 : Array Value} {Z : State} (hw : HW a0 Z) := slot_ne (C := "java/util/ArrayDeque") (Or.inl (ow hw 370 rfl)) (Or.inl (ow hw 386 rfl)) (by decide) (t := .int) (t' := .int) (by decide) (by decide)
theorem rm17 (lh : Launch) (Z : State) (a0 : Array Value) (hw : HW a0 Z) (ws : List Jvm.Cond) (a1 el : Addr) (hd : Nat) (ck : Addr) (h0 : Heap) (n0 : Nat) (Z0 : n0 ≤ h0.size) (E1 : Exa Z h0 a1 "java/util/ArrayDeque") (O1 : OvA Z h0 el "java/lang/Object") (F1 : Fld Z h0 a1 "java/util/ArrayDeque" "elements" "[Ljava/lang/Object;" (.ref el)) (F2 : Fld Z h0 a1 "java/util/ArrayDeque" "tail" "I" (.int (Int32.ofNat (hd + 1)))) (F3 : Fld Z h0 a1 "java/util/ArrayDeque" "head" "I" (.int (Int32.ofNat hd))) (V1 : Av Z h0 el (.object "java/lang/Object") 17 (fun q => (fun k => if k = hd then .ref ck else .null) q)) (g1 : n0 ≤ a1) (g2 : n0 ≤ el) (n1 : a1 ≠ el) (hhd : hd ≤ 8) :
    MF lh Z me8 (.code me8 jdk_21_method_20_code 4 (some (.object "java/lang/Object"))) ws ⟨1, 0, 0, 14⟩ #[.ref a1] h0 (Q_rm17 Z a1 el hd ck h0 n0) := by
  refine own_met (y := me8) (plainFor_of_name pn_0) ?_
  intro p ev sT m below meth c T0 K hx hby hml hret hlk hown hnm hZ X0 e0 hK
  have N0 := Fr.nil n0
  have D : DB p c Ld8 := DB.of hx hby d8
  refine Rch.cast (g' := mkF m 0 #[.val (.ref a1), .unset, .unset, .unset] []) (by first | rfl | simp [entryFrame, mkF, argsToLocals, Value.category]) ?_
  refine zaN X0 D 0 rfl rfl rfl rfl (zgf X0 D 1 hZ hown (ow hw 159 rfl) e0 F1 rfl rfl fun T126 X126 e126 => ?_)
  refine zdu X126 D 2 rfl rfl rfl (zat X126 D 3 (l' := #[.val (.ref a1), .val (.ref el), .unset, .unset]) rfl rfl rfl rfl (zaN X126 D 4 rfl rfl rfl rfl (zgf X126 D 5 hZ hown (ow hw 385 rfl) e126 F3 rfl rfl fun T127 X127 e127 => ?_)))
  refine zdu X127 D 6 rfl rfl rfl (zistoreN X127 D 7 (l' := #[.val (.ref a1), .val (.ref el), .val (.int (Int32.ofNat hd)), .unset]) rfl rfl rfl (zst X127 D 8 hZ me3 hown (ow hw 374 rfl) (ow hw 375 rfl) (ow hw 147 rfl) (ow hw 376 rfl) e127 (rm9 lh Z a0 hw [] el (Int32.ofNat hd) (fun k => if k = hd then .ref ck else .null) hd (.ref ck) h0 n0 Z0 V1 (oTo (by omega)) (by omega) (by simp) rfl) hml [.ref el, .int (Int32.ofNat hd)] [] (lenOf pd_33 rfl) rfl rfl rfl rfl rfl rfl (by decide) (by decide) fun v128 T128 L128 X128 hQ128 => ?_))
  obtain ⟨rfl, N128q, hQ128⟩ := hQ128
  have N128 := Fr.app N0 N128q
  refine zat X128 D 9 (l' := #[.val (.ref a1), .val (.ref el), .val (.int (Int32.ofNat hd)), .val (.ref ck)]) rfl rfl rfl rfl (zaN X128 D 10 rfl rfl rfl rfl (zifnullNo X128 D 11 rfl rfl (zaN X128 D 12 rfl rfl rfl rfl (ziN X128 D 13 rfl rfl rfl  (zaconstNull X128 D 14 rfl rfl ?_)))))
  obtain ⟨cl129, Ar129, Sz129, Ha129⟩ := id V1
  obtain ⟨T129, h129, X129, e129, W129, st129⟩ := stR X128 hx hZ hQ128 Ar129 (j := (Int32.ofNat hd)) (oIn (i := hd) Sz129 (oTo (by omega)) (by omega)) rfl (Or.inl rfl) (g := (mkF m 23 #[.val (.ref a1), .val (.ref el), .val (.int (Int32.ofNat hd)), .val (.ref ck)] [.null, .int (Int32.ofNat hd), .ref el])) rfl rfl (D.on 15 rfl)
  have V129 := Av.set (i := hd) V1 (oTo (by omega)) (by omega) W129
  have N129 := Fr.snoc X129 N128 g2
  refine Rch.of (T' := T129) (g' := (mkF m 24 #[.val (.ref a1), .val (.ref el), .val (.int (Int32.ofNat hd)), .val (.ref ck)] [])) st129 ?_
  refine zaN X129 D 16 rfl rfl rfl rfl (ziN X129 D 17 rfl rfl rfl  (zaN X129 D 18 rfl rfl rfl rfl ?_))
  obtain ⟨cl130, Ar130, Sz130, Ha130⟩ := id V129
  refine Rch.of (T' := T129) (g' := (mkF m 28 #[.val (.ref a1), .val (.ref el), .val (.int (Int32.ofNat hd)), .val (.ref ck)] [.int cl130.slots.size.toInt32, .int (Int32.ofNat hd), .ref a1])) (X129.arraylength hx (by rw [e129]; exact Ar130.1) (State.isArrayOf_alike hZ.alike Ar130.2.1) (g := (mkF m 27 #[.val (.ref a1), .val (.ref el), .val (.int (Int32.ofNat hd)), .val (.ref ck)] [.ref el, .int (Int32.ofNat hd), .ref a1])) rfl rfl (D.on 19 rfl)) ?_
  rw [oLen Sz130]
  show Rch p ev below K T129 (mkF m 28 #[.val (.ref a1), .val (.ref el), .val (.int (Int32.ofNat hd)), .val (.ref ck)] [.int (17 : Int32), .int (Int32.ofNat hd), .ref a1])
  refine zst (W := 1) X129 D 20 hZ me1 hown (ow hw 387 rfl) (ow hw 388 rfl) (ow hw 147 rfl) (ow hw 389 rfl) e129 (rm11 lh Z a0 hw [] (Int32.ofNat hd) (17 : Int32) h129 n0 (Nat.le_trans Z0 (Keep.of_wr W129).1) ) hml [.int (Int32.ofNat hd), .int (17 : Int32)] [.ref a1] (lenOf pd_17 rfl) rfl rfl rfl rfl rfl rfl (by decide) (by decide) fun v131 T131 L131 X131 hQ131 => ?_
  obtain ⟨rfl, N131q, hQ131⟩ := hQ131
  have N131 := Fr.app N129 N131q
  rw [show (own_incI (Int32.ofNat hd) (17 : Int32)) = Int32.ofNat (hd + 1) from own_inc_eq hhd]
  refine zpf X131 D 21 hZ hown (ow hw 385 rfl) hQ131 (F3.other W129 (Or.inl n1)) (E1.wr W129) (Or.inl (ow hw 386 rfl)) (ow hw 146 rfl) .int (by decide) rfl rfl rfl rfl fun T132 h132 X132 e132 W132 => ?_
  have N132 := Fr.snoc X132 N131 g1
  have Fw132 := Fld.same W132 (F3.other W129 (Or.inl n1))
  refine zaN X132 D 22 rfl rfl rfl rfl ?_
  exact Rch.retA X132 hx (w := (.ref ck)) hret rfl rfl hlk (D.on 23 rfl) (fun U hU hF => hK _ U _ _ _ (by show Q_rm17 Z a1 el hd ck h0 n0 _ U.heap _; rw [hU, e132]; exact ⟨rfl, N132, (((Keep.refl h0 [a1, el]).wr W129 (Or.inl (List.mem_of_getElem? (i := 1) rfl))).wr W132 (Or.inl (List.mem_of_getElem? (i := 0) rfl))), ((F1.other W129 (Or.inl n1)).other W132 (Or.inr (sn2 hw))), ((F2.other W129 (Or.inl n1)).other W132 (Or.inr (sn3 hw))), Fw132, Av.congr (V129.other W132 (Ne.symm n1)) (fun j hj => by by_cases q : j = hd <;> simp [q])⟩) hF (by decide) (by decide))
def Q_rm16 (Z : State) (a1 el : Addr) (hd : Nat) (ck : Addr) (h0 : Heap) (n0 : Nat) (vv_ : Option Value) (h : Heap) (LL_ : List Loc) : Prop := vv_ = some (.ref ck) ∧ Fr n0 LL_ ∧ (Keep h0 h [a1, el] ∧ Fld Z h a1 "java/util/ArrayDeque" "elements" "[Ljava/lang/Object;" (.ref el) ∧ Fld Z h a1 "java/util/ArrayDeque" "tail" "I" (.int (Int32.ofNat (hd + 1))) ∧ Fld Z h a1 "java/util/ArrayDeque" "head" "I" (.int (Int32.ofNat (hd + 1))) ∧ Av Z h el (.object "java/lang/Object") 17 (fun _ => .null))
def Ld9 : List (Nat × Instr × Nat) := [(0, .aload_n 0, 1), (1, .invokevirtual 93, 3), (4, .astore_n 1, 1), (5, .aload_n 1, 1), (6, .ifnonnull 11, 3), (17, .aload_n 1, 1), (18, .areturn, 1)]
theorem d9 : ∀ q ∈ Ld9, decode jdk_21_method_18_code q.1 = .ok q.2 := by decide +kernel
abbrev me9 : MethodName := ⟨"java/util/ArrayDeque", "removeFirst", "()Ljava/lang/Object;"⟩
theorem rm16 (lh : Launch) (Z : State) (a0 : Array Value) (hw : HW a0 Z) (ws : List Jvm.Cond) (a1 el : Addr) (hd : Nat) (ck : Addr) (h0 : Heap) (n0 : Nat) (Z0 : n0 ≤ h0.size) (E1 : Exa Z h0 a1 "java/util/ArrayDeque") (O1 : OvA Z h0 el "java/lang/Object") (F1 : Fld Z h0 a1 "java/util/ArrayDeque" "elements" "[Ljava/lang/Object;" (.ref el)) (F2 : Fld Z h0 a1 "java/util/ArrayDeque" "tail" "I" (.int (Int32.ofNat (hd + 1)))) (F3 : Fld Z h0 a1 "java/util/ArrayDeque" "head" "I" (.int (Int32.ofNat hd))) (V1 : Av Z h0 el (.object "java/lang/Object") 17 (fun q => (fun k => if k = hd then .ref ck else .null) q)) (g1 : n0 ≤ a1) (g2 : n0 ≤ el) (n1 : a1 ≠ el) (hhd : hd ≤ 8) :
    MF lh Z me9 (.code me9 jdk_21_method_18_code 2 (some (.object "java/lang/Object"))) ws ⟨2, 0, 0, 29⟩ #[.ref a1] h0 (Q_rm16 Z a1 el hd ck h0 n0) := by
  refine own_met (y := me9) (plainFor_of_name pn_0) ?_
  intro p ev sT m below meth c T0 K hx hby hml hret hlk hown hnm hZ X0 e0 hK
  have N0 := Fr.nil n0
  have D : DB p c Ld9 := DB.of hx hby d9
  refine Rch.cast (g' := mkF m 0 #[.val (.ref a1), .unset] []) (by first | rfl | simp [entryFrame, mkF, argsToLocals, Value.category]) ?_
  refine zaN X0 D 0 rfl rfl rfl rfl (zvs X0 D 1 hZ me8 hown (ow hw 428 rfl) (ow hw 429 rfl) (ow hw 431 rfl) (ow hw 430 rfl) (ow hw 432 rfl) (ow hw 147 rfl) e0 E1 (rm17 lh Z a0 hw [] a1 el hd ck h0 n0 Z0 E1 O1 F1 F2 F3 V1 g1 g2 n1 hhd) hml [] [] (lenOf pd_32 rfl) rfl rfl rfl rfl rfl rfl (by decide) (by decide) fun v133 T133 L133 X133 hQ133 => ?_)
  obtain ⟨rfl, N133q, hQ133⟩ := hQ133
  have N133 := Fr.app N0 N133q
  obtain ⟨K133, Fa133, Fb133, Fc133, Va133⟩ := hQ133
  refine zat X133 D 2 (l' := #[.val (.ref a1), .val (.ref ck)]) rfl rfl rfl rfl (zaN X133 D 3 rfl rfl rfl rfl (zifnonnullYes X133 D 4 17 rfl rfl rfl (zaN X133 D 5 rfl rfl rfl rfl ?_)))
  exact Rch.retA X133 hx (w := (.ref ck)) hret rfl rfl hlk (D.on 6 rfl) (fun U hU hF => hK _ U _ _ _ (by show Q_rm16 Z a1 el hd ck h0 n0 _ U.heap _; rw [hU]; exact ⟨rfl, N133, ((Keep.refl h0 [a1, el]).trans K133 (allS (Or.inl (List.mem_of_getElem? (i := 0) rfl)) (allS (Or.inl (List.mem_of_getElem? (i := 1) rfl)) all0))), Fa133, Fb133, Fc133, Va133⟩) hF (by decide) (by decide))
theorem pn_1 : plainName "java/util/AbstractCollection" = true := by first | (simp [plainName, overriddenIn]; done) | decide +kernel
def Q_rm4 (Z : State) (a1 : Addr) (h0 : Heap) (n0 : Nat) (vv_ : Option Value) (h : Heap) (LL_ : List Loc) : Prop := vv_ = none ∧ Fr n0 LL_ ∧ (h = h0)
def Ld10 : List (Nat × Instr × Nat) := [(0, .aload_n 0, 1), (1, .invokespecial 1, 3), (4, .return_, 1)]
theorem d10 : ∀ q ∈ Ld10, decode jdk_22_method_1_code q.1 = .ok q.2 := by decide +kernel
abbrev me10 : MethodName := ⟨"java/util/AbstractCollection", "<init>", "()V"⟩
theorem rm4 (lh : Launch) (Z : State) (a0 : Array Value) (hw : HW a0 Z) (ws : List Jvm.Cond) (a1 : Addr) (h0 : Heap) (n0 : Nat) (Z0 : n0 ≤ h0.size)  :
    MF lh Z me10 (.code me10 jdk_22_method_1_code 1 none) ws ⟨1, 0, 0, 12⟩ #[.ref a1] h0 (Q_rm4 Z a1 h0 n0) := by
  refine own_met (y := me10) (plainFor_of_name pn_1) ?_
  intro p ev sT m below meth c T0 K hx hby hml hret hlk hown hnm hZ X0 e0 hK
  have N0 := Fr.nil n0
  have D : DB p c Ld10 := DB.of hx hby d10
  refine Rch.cast (g' := mkF m 0 #[.val (.ref a1)] []) (by first | rfl | simp [entryFrame, mkF, argsToLocals, Value.category]) ?_
  refine zaN X0 D 0 rfl rfl rfl rfl ?_
  obtain ⟨T134, X134, e134, st134⟩ := initO X0 hx hZ hown (ow hw 157 rfl) (ow hw 7 rfl) (ow hw 8 rfl) e0 (g := (mkF m 1 #[.val (.ref a1)] [.ref a1])) rfl (by rw [hml]; rfl) rfl (D.on 1 rfl) (by decide) (W := 0) (by show 2 * 0 + _ ≤ _; exact Nat.le_of_eq rfl) (by decide)
  refine Rch.of (T' := T134) (g' := (mkF m 4 #[.val (.ref a1)] [])) st134 ?_
  exact Rch.retV X134 hx hret hlk (D.on 2 rfl) (fun U hU hF => hK _ U _ _ _ (by show Q_rm4 Z a1 h0 n0 _ U.heap _; rw [hU, e134]; exact ⟨rfl, N0, rfl⟩) hF (by decide) (by decide))
def Q_rm3 (Z : State) (a1 : Addr) (u1 : Value) (h0 : Heap) (n0 : Nat) (vv_ : Option Value) (h : Heap) (LL_ : List Loc) : Prop := vv_ = none ∧ Fr n0 LL_ ∧ (∃ el, h0.size ≤ el ∧ Keep h0 h [a1] ∧ Exa Z h a1 "java/util/ArrayDeque" ∧ OvA Z h el "java/lang/Object" ∧ Exa Z h el "[Ljava/lang/Object;" ∧ Fld Z h a1 "java/util/ArrayDeque" "elements" "[Ljava/lang/Object;" (.ref el) ∧ Fld Z h a1 "java/util/ArrayDeque" "tail" "I" (.int (0 : Int32)) ∧ Fld Z h a1 "java/util/ArrayDeque" "head" "I" (.int (0 : Int32)) ∧ Av Z h el (.object "java/lang/Object") 17 (fun _ => .null))
def Ld11 : List (Nat × Instr × Nat) := [(0, .aload_n 0, 1), (1, .invokespecial 42, 3), (4, .aload_n 0, 1), (5, .bipush 17, 2), (7, .anewarray 47, 3), (10, .putfield 3, 3), (13, .return_, 1)]
theorem d11 : ∀ q ∈ Ld11, decode jdk_21_method_3_code q.1 = .ok q.2 := by decide +kernel
abbrev me11 : MethodName := ⟨"java/util/ArrayDeque", "<init>", "()V"⟩
def sn4 {a0 : Array Value} {Z : State} (hw : HW a0 Z) := slot_ne (C := "java/util/ArrayDeque") (Or.inl (ow hw 370 rfl)) (Or.inl (ow hw 160 rfl)) (by decide) (t := .int) (t' := (.array (.object "java/lang/Object"))) (by decide) (by decide)
def sn5 {a0 : Array Value} {Z : State} (hw : HW a0 Z) := slot_ne (C := "java/util/ArrayDeque") (Or.inl (ow hw 386 rfl)) (Or.inl (ow hw 160 rfl)) (by decide) (t := .int) (t' := (.array (.object "java/lang/Object"))) (by decide) (by decide)
theorem rm3 (lh : Launch) (Z : State) (a0 : Array Value) (hw : HW a0 Z) (ws : List Jvm.Cond) (a1 : Addr) (u1 : Value) (h0 : Heap) (n0 : Nat) (Z0 : n0 ≤ h0.size) (E1 : Exa Z h0 a1 "java/util/ArrayDeque") (F1 : Fld Z h0 a1 "java/util/ArrayDeque" "elements" "[Ljava/lang/Object;" u1) (F2 : Fld Z h0 a1 "java/util/ArrayDeque" "tail" "I" (.int (0 : Int32))) (F3 : Fld Z h0 a1 "java/util/ArrayDeque" "head" "I" (.int (0 : Int32))) (g1 : n0 ≤ a1) :
    MF lh Z me11 (.code me11 jdk_21_method_3_code 1 none) ws ⟨2, 1, 17, 24⟩ #[.ref a1] h0 (Q_rm3 Z a1 u1 h0 n0) := by
  refine own_met (y := me11) (plainFor_of_name pn_0) ?_
  intro p ev sT m below meth c T0 K hx hby hml hret hlk hown hnm hZ X0 e0 hK
  have N0 := Fr.nil n0
  have D : DB p c Ld11 := DB.of hx hby d11
  refine Rch.cast (g' := mkF m 0 #[.val (.ref a1)] []) (by first | rfl | simp [entryFrame, mkF, argsToLocals, Value.category]) ?_
  refine zaN X0 D 0 rfl rfl rfl rfl (zsb X0 D 1 hZ me10 hown (ow hw 151 rfl) (ow hw 152 rfl) (ow hw 156 rfl) (ow hw 155 rfl) e0 a1 (rm4 lh Z a0 hw [] a1 h0 n0 Z0 ) hml [] [] (lenOf pd_0 rfl) rfl rfl rfl rfl rfl rfl rfl (by decide) (by decide) fun v135 T135 L135 X135 hQ135 => ?_)
  obtain ⟨rfl, N135q, hQ135⟩ := hQ135
  have N135 := Fr.app N0 N135q
  refine zaN X135 D 2 rfl rfl rfl rfl (zbipush X135 D 3 17 rfl rfl rfl ?_)
  obtain ⟨T136, h136, k136, X136, e136, E136, A136, Q136, O136, st136⟩ := newRE X135 hx hZ hown (ow hw 158 rfl) (ow hw 131 rfl) hQ135 (g := (mkF m 7 #[.val (.ref a1)] [.int (17 : Int32), .ref a1])) rfl (D.on 4 rfl) rfl (oNn (i := 17) (by decide)) (cap := 17) (by decide) (by decide) (by decide) (by decide) (ad := "[Ljava/lang/Object;") rfl
  obtain ⟨b136, g136⟩ : ∃ zz_, zz_ = h0.size := ⟨_, rfl⟩
  have ge_b136 : n0 ≤ b136 := Nat.le_trans Z0 (Nat.le_of_eq g136.symm)
  have sz_b136 : h0.size ≤ b136 := Nat.le_trans (Keep.refl h0 [a1]).1 (Nat.le_of_eq g136.symm)
  rw [← g136] at A136 Q136 st136
  have V136 : Av Z h136 b136 (.object "java/lang/Object") 17 (fun _ => .null) := Av.new A136 (by decide)
  have Ov136 : OvA Z h136 b136 "java/lang/Object" := ⟨_, A136.1, O136⟩
  refine Rch.of (T' := T136) (g' := (mkF m 10 #[.val (.ref a1)] [.ref b136, .ref a1])) st136 ?_
  refine zpf X136 D 5 hZ hown (ow hw 159 rfl) e136 (F1.ext E136) (E1.ext E136) (Or.inl (ow hw 160 rfl)) (ow hw 146 rfl) (.array (.object "java/lang/Object")) (by decide) rfl rfl rfl rfl fun T137 h137 X137 e137 W137 => ?_
  have N137 := Fr.snoc X137 N135 g1
  have Fw137 := Fld.same W137 (F1.ext E136)
  have nl138 : a1 ≠ b136 := Nat.ne_of_lt (Nat.lt_of_lt_of_le E1.lt (Nat.le_of_eq g136.symm))
  exact Rch.retV X137 hx hret hlk (D.on 6 rfl) (fun U hU hF => hK _ U _ _ _ (by show Q_rm3 Z a1 u1 h0 n0 _ U.heap _; rw [hU, e137]; exact ⟨rfl, N137, b136, sz_b136, (((Keep.refl h0 [a1]).ext E136).wr W137 (Or.inl (List.mem_of_getElem? (i := 0) rfl))), ((E1.ext E136).wr W137), (Ov136.wr W137), (Q136.wr W137), Fw137, ((F2.ext E136).other W137 (Or.inr (sn4 hw))), ((F3.ext E136).other W137 (Or.inr (sn5 hw))), (V136.other W137 (Ne.symm nl138))⟩) hF (by decide) (by decide))
def own_cmp (x y : Int32) : Int32 := if x < y then -1 else if x = y then 0 else 1
theorem own_cmp_lt {x y : Int32} : own_cmp x y < (0 : Int32) ↔ x < y := by
  unfold own_cmp
  by_cases h : x < y
  · simp only [h, if_true, iff_true]; decide
  · by_cases e : x = y
    · simp [h, e]
    · simp only [h, e, if_false, iff_false]; decide
theorem own_cmp_gt {x y : Int32} : (0 : Int32) < own_cmp x y ↔ y < x := by
  unfold own_cmp
  by_cases h : x < y
  · simp only [h, if_true]
    constructor
    · intro q; exact absurd q (by decide)
    · intro q; rw [Int32.lt_iff_toInt_lt] at *; omega
  · by_cases e : x = y
    · simp [e]
    · simp only [h, e, if_false]
      constructor
      · intro _
        rw [Int32.lt_iff_toInt_lt] at *
        have : x.toInt ≠ y.toInt := fun q => e (Int32.toInt_inj.mp q)
        omega
      · intro _; decide
theorem own_vidx {x : Int32} (h1 : ¬ x < (-128 : Int32)) (h2 : ¬ (127 : Int32) < x) : ∃ i : Nat, i < 256 ∧ (x + (128 : Int32)).toInt = (i : Int) ∧ Int32.ofNat i - (128 : Int32) = x := by
  rw [Int32.lt_iff_toInt_lt] at h1 h2
  have e1 : (-128 : Int32).toInt = -128 := by decide
  have e2 : (127 : Int32).toInt = 127 := by decide
  rw [e1] at h1
  rw [e2] at h2
  have e3 : (128 : Int32).toInt = 128 := by decide
  have es : (x + (128 : Int32)).toInt = x.toInt + 128 := by
    rw [Int32.toInt_add, e3, Int.bmod_def]
    split <;> omega
  refine ⟨(x.toInt + 128).toNat, by omega, by rw [es]; omega, ?_⟩
  have e4 : Int32.ofNat (x.toInt + 128).toNat = x + (128 : Int32) := by
    apply Int32.toInt_inj.mp
    rw [es, oTo (by omega)]
    omega
  rw [e4]; exact Int32.add_sub_cancel _ _
theorem pn_2 : plainName "java/lang/Number" = true := by first | (simp [plainName, overriddenIn]; done) | decide +kernel
def Q_rnV0 (Z : State) (a1 : Addr) (h0 : Heap) (n0 : Nat) (vv_ : Option Value) (h : Heap) (LL_ : List Loc) : Prop := vv_ = none ∧ Fr n0 LL_ ∧ (h = h0)
def Ld12 : List (Nat × Instr × Nat) := [(0, .aload_n 0, 1), (1, .invokespecial 1, 3), (4, .return_, 1)]
theorem d12 : ∀ q ∈ Ld12, decode jdk_18_method_1_code q.1 = .ok q.2 := by decide +kernel
abbrev me12 : MethodName := ⟨"java/lang/Number", "<init>", "()V"⟩
theorem rnV0 (lh : Launch) (Z : State) (a0 : Array Value) (hw : HW a0 Z) (ws : List Jvm.Cond) (a1 : Addr) (h0 : Heap) (n0 : Nat) (Z0 : n0 ≤ h0.size)  :
    MF lh Z me12 (.code me12 jdk_18_method_1_code 1 none) ws ⟨1, 0, 0, 12⟩ #[.ref a1] h0 (Q_rnV0 Z a1 h0 n0) := by
  refine own_met (y := me12) (plainFor_of_name pn_2) ?_
  intro p ev sT m below meth c T0 K hx hby hml hret hlk hown hnm hZ X0 e0 hK
  have N0 := Fr.nil n0
  have D : DB p c Ld12 := DB.of hx hby d12
  refine Rch.cast (g' := mkF m 0 #[.val (.ref a1)] []) (by first | rfl | simp [entryFrame, mkF, argsToLocals, Value.category]) ?_
  refine zaN X0 D 0 rfl rfl rfl rfl ?_
  obtain ⟨T139, X139, e139, st139⟩ := initO X0 hx hZ hown (ow hw 79 rfl) (ow hw 7 rfl) (ow hw 8 rfl) e0 (g := (mkF m 1 #[.val (.ref a1)] [.ref a1])) rfl (by rw [hml]; rfl) rfl (D.on 1 rfl) (by decide) (W := 0) (by show 2 * 0 + _ ≤ _; exact Nat.le_of_eq rfl) (by decide)
  refine Rch.of (T' := T139) (g' := (mkF m 4 #[.val (.ref a1)] [])) st139 ?_
  exact Rch.retV X139 hx hret hlk (D.on 2 rfl) (fun U hU hF => hK _ U _ _ _ (by show Q_rnV0 Z a1 h0 n0 _ U.heap _; rw [hU, e139]; exact ⟨rfl, N0, rfl⟩) hF (by decide) (by decide))
theorem pn_3 : plainName "java/util/AbstractMap" = true := by first | (simp [plainName, overriddenIn]; done) | decide +kernel
def Q_rnV1 (Z : State) (a1 : Addr) (h0 : Heap) (n0 : Nat) (vv_ : Option Value) (h : Heap) (LL_ : List Loc) : Prop := vv_ = none ∧ Fr n0 LL_ ∧ (h = h0)
def Ld13 : List (Nat × Instr × Nat) := [(0, .aload_n 0, 1), (1, .invokespecial 1, 3), (4, .return_, 1)]
theorem d13 : ∀ q ∈ Ld13, decode jdk_71_method_1_code q.1 = .ok q.2 := by decide +kernel
abbrev me13 : MethodName := ⟨"java/util/AbstractMap", "<init>", "()V"⟩
theorem rnV1 (lh : Launch) (Z : State) (a0 : Array Value) (hw : HW a0 Z) (ws : List Jvm.Cond) (a1 : Addr) (h0 : Heap) (n0 : Nat) (Z0 : n0 ≤ h0.size)  :
    MF lh Z me13 (.code me13 jdk_71_method_1_code 1 none) ws ⟨1, 0, 0, 12⟩ #[.ref a1] h0 (Q_rnV1 Z a1 h0 n0) := by
  refine own_met (y := me13) (plainFor_of_name pn_3) ?_
  intro p ev sT m below meth c T0 K hx hby hml hret hlk hown hnm hZ X0 e0 hK
  have N0 := Fr.nil n0
  have D : DB p c Ld13 := DB.of hx hby d13
  refine Rch.cast (g' := mkF m 0 #[.val (.ref a1)] []) (by first | rfl | simp [entryFrame, mkF, argsToLocals, Value.category]) ?_
  refine zaN X0 D 0 rfl rfl rfl rfl ?_
  obtain ⟨T140, X140, e140, st140⟩ := initO X0 hx hZ hown (ow hw 31 rfl) (ow hw 7 rfl) (ow hw 8 rfl) e0 (g := (mkF m 1 #[.val (.ref a1)] [.ref a1])) rfl (by rw [hml]; rfl) rfl (D.on 1 rfl) (by decide) (W := 0) (by show 2 * 0 + _ ≤ _; exact Nat.le_of_eq rfl) (by decide)
  refine Rch.of (T' := T140) (g' := (mkF m 4 #[.val (.ref a1)] [])) st140 ?_
  exact Rch.retV X140 hx hret hlk (D.on 2 rfl) (fun U hU hF => hK _ U _ _ _ (by show Q_rnV1 Z a1 h0 n0 _ U.heap _; rw [hU, e140]; exact ⟨rfl, N0, rfl⟩) hF (by decide) (by decide))
theorem pn_4 : plainName "java/lang/Integer" = true := by first | (simp [plainName, overriddenIn]; done) | decide +kernel
def Q_rnII (Z : State) (a1 : Addr) (p1 : Int32) (u1 : Value) (h0 : Heap) (n0 : Nat) (vv_ : Option Value) (h : Heap) (LL_ : List Loc) : Prop := vv_ = none ∧ Fr n0 LL_ ∧ (Keep h0 h [a1] ∧ Exa Z h a1 "java/lang/Integer" ∧ Fld Z h a1 "java/lang/Integer" "value" "I" (.int p1))
def Ld14 : List (Nat × Instr × Nat) := [(0, .aload_n 0, 1), (1, .invokespecial 202, 3), (4, .aload_n 0, 1), (5, .iload_n 1, 1), (6, .putfield 205, 3), (9, .return_, 1)]
theorem d14 : ∀ q ∈ Ld14, decode jdk_33_method_23_code q.1 = .ok q.2 := by decide +kernel
abbrev me14 : MethodName := ⟨"java/lang/Integer", "<init>", "(I)V"⟩
theorem rnII (lh : Launch) (Z : State) (a0 : Array Value) (hw : HW a0 Z) (ws : List Jvm.Cond) (a1 : Addr) (p1 : Int32) (u1 : Value) (h0 : Heap) (n0 : Nat) (Z0 : n0 ≤ h0.size) (E1 : Exa Z h0 a1 "java/lang/Integer") (F1 : Fld Z h0 a1 "java/lang/Integer" "value" "I" u1) (g1 : n0 ≤ a1) :
    MF lh Z me14 (.code me14 jdk_33_method_23_code 2 none) ws ⟨2, 0, 0, 24⟩ #[.ref a1, .int p1] h0 (Q_rnII Z a1 p1 u1 h0 n0) := by
  refine own_met (y := me14) (plainFor_of_name pn_4) ?_
  intro p ev sT m below meth c T0 K hx hby hml hret hlk hown hnm hZ X0 e0 hK
  have N0 := Fr.nil n0
  have D : DB p c Ld14 := DB.of hx hby d14
  refine Rch.cast (g' := mkF m 0 #[.val (.ref a1), .val (.int p1)] []) (by first | rfl | simp [entryFrame, mkF, argsToLocals, Value.category]) ?_
  refine zaN X0 D 0 rfl rfl rfl rfl (zsb X0 D 1 hZ me12 hown (ow hw 73 rfl) (ow hw 74 rfl) (ow hw 78 rfl) (ow hw 77 rfl) e0 a1 (rnV0 lh Z a0 hw [] a1 h0 n0 Z0 ) hml [] [] (lenOf pd_0 rfl) rfl rfl rfl rfl rfl rfl rfl (by decide) (by decide) fun v141 T141 L141 X141 hQ141 => ?_)
  obtain ⟨rfl, N141q, hQ141⟩ := hQ141
  have N141 := Fr.app N0 N141q
  refine zaN X141 D 2 rfl rfl rfl rfl (ziN X141 D 3 rfl rfl rfl  (zpf X141 D 4 hZ hown (ow hw 80 rfl) hQ141 F1 E1 (Or.inr ⟨(ow hw 81 rfl), rfl, hnm⟩) (ow hw 68 rfl) .int (by decide) rfl rfl rfl rfl fun T142 h142 X142 e142 W142 => ?_))
  have N142 := Fr.snoc X142 N141 g1
  have Fw142 := Fld.same W142 F1
  exact Rch.retV X142 hx hret hlk (D.on 5 rfl) (fun U hU hF => hK _ U _ _ _ (by show Q_rnII Z a1 p1 u1 h0 n0 _ U.heap _; rw [hU, e142]; exact ⟨rfl, N142, ((Keep.refl h0 [a1]).wr W142 (Or.inl (List.mem_of_getElem? (i := 0) rfl))), (E1.wr W142), Fw142⟩) hF (by decide) (by decide))
def Q_rnVO (Z : State) (p1 : Int32) (ca : Addr) (yc : Nat → Value) (h0 : Heap) (n0 : Nat) (vv_ : Option Value) (h : Heap) (LL_ : List Loc) : Prop := ∃ r : Addr, vv_ = some (.ref r) ∧ Fr n0 LL_ ∧ (Keep h0 h [] ∧ Exa Z h r "java/lang/Integer" ∧ Fld Z h r "java/lang/Integer" "value" "I" (.int p1))
def Ld15 : List (Nat × Instr × Nat) := [(0, .iload_n 0, 1), (1, .bipush (-128), 2), (3, .if_icmp .lt 20, 3), (23, .new 1, 3), (26, .dup, 1), (27, .iload_n 0, 1), (28, .invokespecial 199, 3), (31, .areturn, 1), (6, .iload_n 0, 1), (7, .getstatic 191, 3), (10, .if_icmp .gt 13, 3), (13, .getstatic 195, 3), (16, .iload_n 0, 1), (17, .sipush 128, 3), (20, .iadd, 1), (21, .aaload, 1), (22, .areturn, 1)]
theorem d15 : ∀ q ∈ Ld15, decode jdk_33_method_22_code q.1 = .ok q.2 := by decide +kernel
abbrev me15 : MethodName := ⟨"java/lang/Integer", "valueOf", "(I)Ljava/lang/Integer;"⟩
theorem rnVO (lh : Launch) (Z : State) (a0 : Array Value) (hw : HW a0 Z) (ws : List Jvm.Cond) (p1 : Int32) (ca : Addr) (yc : Nat → Value) (h0 : Heap) (n0 : Nat) (Z0 : n0 ≤ h0.size) (O0 : Old Z n0 h0) (SH : Sta Z Z.heap "java/lang/Integer$IntegerCache" "high" "I" (.int (127 : Int32))) (SCa : Sta Z Z.heap "java/lang/Integer$IntegerCache" "cache" "[Ljava/lang/Integer;" (.ref ca)) (VCa : Av Z Z.heap ca (.object "java/lang/Integer") 256 yc) (hca : ∀ q, q < 256 → ∃ r, yc q = .ref r ∧ Exa Z Z.heap r "java/lang/Integer" ∧ Fld Z Z.heap r "java/lang/Integer" "value" "I" (.int (Int32.ofNat q - (128 : Int32)))) :
    MF lh Z me15 (.code me15 jdk_33_method_22_code 1 (some (.object "java/lang/Integer"))) ws ⟨3, 1, 1, 38⟩ #[.int p1] h0 (Q_rnVO Z p1 ca yc h0 n0) := by
  refine own_met (y := me15) (plainFor_of_name pn_4) ?_
  intro p ev sT m below meth c T0 K hx hby hml hret hlk hown hnm hZ X0 e0 hK
  have N0 := Fr.nil n0
  have D : DB p c Ld15 := DB.of hx hby d15
  refine Rch.cast (g' := mkF m 0 #[.val (.int p1)] []) (by first | rfl | simp [entryFrame, mkF, argsToLocals, Value.category]) ?_
  refine ziN X0 D 0 rfl rfl rfl  (zbipush X0 D 1 (-128) rfl rfl rfl ?_)
  by_cases c143 : p1 < (-128 : Int32)
  · skip
    refine zcY X0 D 2 23 rfl rfl (tlt c143).1 rfl ?_
    obtain ⟨T144, h144, X144, e144, E144, A144, D144, -, st144⟩ := newO X0 hx hZ hown (ow hw 67 rfl) (ow hw 68 rfl) (ow hw 63 rfl) e0 (g := (mkF m 23 #[.val (.int p1)] [])) rfl (D.on 3 rfl) (by decide) (by decide)
    obtain ⟨b144, g144⟩ : ∃ zz_, zz_ = h0.size := ⟨_, rfl⟩
    have ge_b144 : n0 ≤ b144 := Nat.le_trans Z0 (Nat.le_of_eq g144.symm)
    have sz_b144 : h0.size ≤ b144 := Nat.le_trans (Keep.refl h0 []).1 (Nat.le_of_eq g144.symm)
    rw [← g144] at A144 D144 st144
    have F144_value : Fld Z h144 b144 "java/lang/Integer" "value" "I" (.int (0 : Int32)) := D144 (Or.inr (ow hw 81 rfl)) (ty := .int) (by decide)
    refine Rch.of (T' := T144) (g' := (mkF m 26 #[.val (.int p1)] [.ref b144])) st144 ?_
    refine zdu X144 D 4 rfl rfl rfl (ziN X144 D 5 rfl rfl rfl  (zsb (W := 1) X144 D 6 hZ me14 hown (ow hw 69 rfl) (ow hw 70 rfl) (ow hw 72 rfl) (ow hw 63 rfl) e144 b144 (rnII lh Z a0 hw [] b144 p1 (.int (0 : Int32)) h144 n0 (Nat.le_trans Z0 E144.1) A144 F144_value ge_b144) hml [.int p1] [.ref b144] (lenOf pd_8 rfl) rfl rfl rfl rfl rfl rfl rfl (by decide) (by decide) fun v145 T145 L145 X145 hQ145 => ?_))
    obtain ⟨rfl, N145q, hQ145⟩ := hQ145
    have N145 := Fr.app N0 N145q
    obtain ⟨K145, Ex145, Fa145⟩ := hQ145
    have nl146 : ca ≠ b144 := Nat.ne_of_lt (Nat.lt_of_lt_of_le (VCa.ext O0.2).lt (Nat.le_of_eq g144.symm))
    exact Rch.retA X145 hx (w := (.ref b144)) hret rfl rfl hlk (D.on 7 rfl) (fun U hU hF => hK _ U _ _ _ (by show Q_rnVO Z p1 ca yc h0 n0 _ U.heap _; rw [hU]; exact ⟨b144, rfl, N145, (((Keep.refl h0 []).ext E144).trans K145 (allS (Or.inr sz_b144) all0)), Ex145, Fa145⟩) hF (by decide) (by decide))
  · skip
    refine zcN X0 D 2 rfl rfl (flt c143).1 (ziN X0 D 8 rfl rfl rfl  ?_)
    obtain ⟨T147, X147, e147, st147⟩ := getS2 X0 hx hZ hown (host := "") (Or.inl (ow hw 65 rfl)) Via.refl e0 (SH.ext O0.2) (g := (mkF m 7 #[.val (.int p1)] [.int p1])) rfl (D.on 9 rfl)
    refine Rch.of (T' := T147) (g' := (mkF m 10 #[.val (.int p1)] [.int (127 : Int32), .int p1])) st147 ?_
    by_cases c148 : (127 : Int32) < p1
    · skip
      refine zcY X147 D 10 23 rfl rfl (tlt c148).2.2.1 rfl ?_
      obtain ⟨T149, h149, X149, e149, E149, A149, D149, -, st149⟩ := newO X147 hx hZ hown (ow hw 67 rfl) (ow hw 68 rfl) (ow hw 63 rfl) e147 (g := (mkF m 23 #[.val (.int p1)] [])) rfl (D.on 3 rfl) (by decide) (by decide)
      obtain ⟨b149, g149⟩ : ∃ zz_, zz_ = h0.size := ⟨_, rfl⟩
      have ge_b149 : n0 ≤ b149 := Nat.le_trans Z0 (Nat.le_of_eq g149.symm)
      have sz_b149 : h0.size ≤ b149 := Nat.le_trans (Keep.refl h0 []).1 (Nat.le_of_eq g149.symm)
      rw [← g149] at A149 D149 st149
      have F149_value : Fld Z h149 b149 "java/lang/Integer" "value" "I" (.int (0 : Int32)) := D149 (Or.inr (ow hw 81 rfl)) (ty := .int) (by decide)
      refine Rch.of (T' := T149) (g' := (mkF m 26 #[.val (.int p1)] [.ref b149])) st149 ?_
      refine zdu X149 D 4 rfl rfl rfl (ziN X149 D 5 rfl rfl rfl  (zsb (W := 1) X149 D 6 hZ me14 hown (ow hw 69 rfl) (ow hw 70 rfl) (ow hw 72 rfl) (ow hw 63 rfl) e149 b149 (rnII lh Z a0 hw [] b149 p1 (.int (0 : Int32)) h149 n0 (Nat.le_trans Z0 E149.1) A149 F149_value ge_b149) hml [.int p1] [.ref b149] (lenOf pd_8 rfl) rfl rfl rfl rfl rfl rfl rfl (by decide) (by decide) fun v150 T150 L150 X150 hQ150 => ?_))
      obtain ⟨rfl, N150q, hQ150⟩ := hQ150
      have N150 := Fr.app N0 N150q
      obtain ⟨K150, Ex150, Fa150⟩ := hQ150
      have nl151 : ca ≠ b149 := Nat.ne_of_lt (Nat.lt_of_lt_of_le (VCa.ext O0.2).lt (Nat.le_of_eq g149.symm))
      exact Rch.retA X150 hx (w := (.ref b149)) hret rfl rfl hlk (D.on 7 rfl) (fun U hU hF => hK _ U _ _ _ (by show Q_rnVO Z p1 ca yc h0 n0 _ U.heap _; rw [hU]; exact ⟨b149, rfl, N150, (((Keep.refl h0 []).ext E149).trans K150 (allS (Or.inr sz_b149) all0)), Ex150, Fa150⟩) hF (by decide) (by decide))
    · skip
      refine zcN X147 D 10 rfl rfl (flt c148).2.2.1 ?_
      obtain ⟨T152, X152, e152, st152⟩ := getS2 X147 hx hZ hown (host := "") (Or.inl (ow hw 433 rfl)) Via.refl e147 (SCa.ext O0.2) (g := (mkF m 13 #[.val (.int p1)] [])) rfl (D.on 11 rfl)
      refine Rch.of (T' := T152) (g' := (mkF m 16 #[.val (.int p1)] [.ref ca])) st152 ?_
      refine ziN X152 D 12 rfl rfl rfl  (zsipush X152 D 13 128 rfl rfl rfl (ziadd X152 D 14 _ rfl rfl rfl ?_))
      obtain ⟨i, hi, ti, ei⟩ := own_vidx c143 c148
      obtain ⟨r, er, Er, Fr_⟩ := hca i hi
      obtain ⟨cl153, Ar153, Sz153, Ha153⟩ := id (VCa.ext O0.2)
      have hval153 : (yc) i = (.ref r) := er
      refine Rch.of (T' := T152) (g' := (mkF m 22 #[.val (.int p1)] [.ref r])) (X152.aaload hx (j := (p1 + (128 : Int32))) (v := (.ref r)) (by rw [e152]; exact Ar153.1) (State.isArrayOf_alike hZ.alike Ar153.2.1) rfl Ar153.2.2 (oIn (i := i) Sz153 ti hi) (by rw [← hval153]; exact oAt (i := i) Ha153 ti hi) (g := (mkF m 21 #[.val (.int p1)] [.int (p1 + (128 : Int32)), .ref ca])) rfl rfl (D.on 15 rfl)) ?_
      exact Rch.retA X152 hx (w := (.ref r)) hret rfl rfl hlk (D.on 16 rfl) (fun U hU hF => hK _ U _ _ _ (by show Q_rnVO Z p1 ca yc h0 n0 _ U.heap _; rw [hU, e152]; exact ⟨r, rfl, N0, (Keep.refl h0 []), Er.ext O0.2, by rw [← ei]; exact Fr_.ext O0.2⟩) hF (by decide) (by decide))
def Q_rnC0 (Z : State) (x1 x2 : Int32) (h0 : Heap) (n0 : Nat) (vv_ : Option Value) (h : Heap) (LL_ : List Loc) : Prop := vv_ = some (.int (own_cmp x1 x2)) ∧ Fr n0 LL_ ∧ (h = h0)
def Ld16 : List (Nat × Instr × Nat) := [(0, .iload_n 0, 1), (1, .iload_n 1, 1), (2, .if_icmp .ge 7, 3), (5, .iconst (-1), 1), (6, .goto 13, 3), (19, .ireturn, 1), (9, .iload_n 0, 1), (10, .iload_n 1, 1), (11, .if_icmp .ne 7, 3), (14, .iconst 0, 1), (15, .goto 4, 3), (18, .iconst 1, 1)]
theorem d16 : ∀ q ∈ Ld16, decode jdk_33_method_40_code q.1 = .ok q.2 := by decide +kernel
abbrev me16 : MethodName := ⟨"java/lang/Integer", "compare", "(II)I"⟩
theorem rnC0 (lh : Launch) (Z : State) (a0 : Array Value) (hw : HW a0 Z) (ws : List Jvm.Cond) (x1 x2 : Int32) (h0 : Heap) (n0 : Nat) (Z0 : n0 ≤ h0.size)  :
    MF lh Z me16 (.code me16 jdk_33_method_40_code 2 (some .int)) ws ⟨0, 0, 0, 0⟩ #[.int x1, .int x2] h0 (Q_rnC0 Z x1 x2 h0 n0) := by
  refine own_met (y := me16) (plainFor_of_name pn_4) ?_
  intro p ev sT m below meth c T0 K hx hby hml hret hlk hown hnm hZ X0 e0 hK
  have N0 := Fr.nil n0
  have D : DB p c Ld16 := DB.of hx hby d16
  refine Rch.cast (g' := mkF m 0 #[.val (.int x1), .val (.int x2)] []) (by first | rfl | simp [entryFrame, mkF, argsToLocals, Value.category]) ?_
  refine ziN X0 D 0 rfl rfl rfl  (ziN X0 D 1 rfl rfl rfl  ?_)
  by_cases c154 : x1 < x2
  · skip
    refine zcN X0 D 2 rfl rfl (tlt c154).2.1 (zic X0 D 3 (-1) rfl rfl rfl (zgo X0 D 4 19 rfl rfl rfl ?_))
    exact Rch.retI X0 hx hret hlk (D.on 5 rfl) (fun U hU hF => hK _ U _ _ _ (by show Q_rnC0 Z x1 x2 h0 n0 _ U.heap _; rw [hU, e0]; exact ⟨by simp [own_cmp, c154], N0, rfl⟩) hF (by decide) (by decide))
  · skip
    refine zcY X0 D 2 9 rfl rfl (flt c154).2.1 rfl (ziN X0 D 6 rfl rfl rfl  (ziN X0 D 7 rfl rfl rfl  ?_))
    by_cases c155 : x1 = x2
    · skip
      refine zcN X0 D 8 rfl rfl (teq c155).2 (zic X0 D 9 0 rfl rfl rfl (zgo X0 D 10 19 rfl rfl rfl ?_))
      exact Rch.retI X0 hx hret hlk (D.on 5 rfl) (fun U hU hF => hK _ U _ _ _ (by show Q_rnC0 Z x1 x2 h0 n0 _ U.heap _; rw [hU, e0]; exact ⟨by simp [own_cmp, c154, c155], N0, rfl⟩) hF (by decide) (by decide))
    · skip
      refine zcY X0 D 8 18 rfl rfl (feq c155).2 rfl (zic X0 D 11 1 rfl rfl rfl ?_)
      exact Rch.retI X0 hx hret hlk (D.on 5 rfl) (fun U hU hF => hK _ U _ _ _ (by show Q_rnC0 Z x1 x2 h0 n0 _ U.heap _; rw [hU, e0]; exact ⟨by simp [own_cmp, c154, c155], N0, rfl⟩) hF (by decide) (by decide))
def Q_rnC1 (Z : State) (a1 a2 : Addr) (x1 x2 : Int32) (h0 : Heap) (n0 : Nat) (vv_ : Option Value) (h : Heap) (LL_ : List Loc) : Prop := vv_ = some (.int (own_cmp x1 x2)) ∧ Fr n0 LL_ ∧ (h = h0)
def Ld17 : List (Nat × Instr × Nat) := [(0, .aload_n 0, 1), (1, .getfield 205, 3), (4, .aload_n 1, 1), (5, .getfield 205, 3), (8, .invokestatic 259, 3), (11, .ireturn, 1)]
theorem d17 : ∀ q ∈ Ld17, decode jdk_33_method_39_code q.1 = .ok q.2 := by decide +kernel
abbrev me17 : MethodName := ⟨"java/lang/Integer", "compareTo", "(Ljava/lang/Integer;)I"⟩
theorem rnC1 (lh : Launch) (Z : State) (a0 : Array Value) (hw : HW a0 Z) (ws : List Jvm.Cond) (a1 a2 : Addr) (x1 x2 : Int32) (h0 : Heap) (n0 : Nat) (Z0 : n0 ≤ h0.size) (Ek1 : Exa Z h0 a1 "java/lang/Integer") (Fk1 : Fld Z h0 a1 "java/lang/Integer" "value" "I" (.int x1)) (Ek2 : Exa Z h0 a2 "java/lang/Integer") (Fk2 : Fld Z h0 a2 "java/lang/Integer" "value" "I" (.int x2)) :
    MF lh Z me17 (.code me17 jdk_33_method_39_code 2 (some .int)) ws ⟨1, 0, 0, 13⟩ #[.ref a1, .ref a2] h0 (Q_rnC1 Z a1 a2 x1 x2 h0 n0) := by
  refine own_met (y := me17) (plainFor_of_name pn_4) ?_
  intro p ev sT m below meth c T0 K hx hby hml hret hlk hown hnm hZ X0 e0 hK
  have N0 := Fr.nil n0
  have D : DB p c Ld17 := DB.of hx hby d17
  refine Rch.cast (g' := mkF m 0 #[.val (.ref a1), .val (.ref a2)] []) (by first | rfl | simp [entryFrame, mkF, argsToLocals, Value.category]) ?_
  refine zaN X0 D 0 rfl rfl rfl rfl (zgf X0 D 1 hZ hown (ow hw 80 rfl) e0 Fk1 rfl rfl fun T156 X156 e156 => ?_)
  refine zaN X156 D 2 rfl rfl rfl rfl (zgf X156 D 3 hZ hown (ow hw 80 rfl) e156 Fk2 rfl rfl fun T157 X157 e157 => ?_)
  refine zst X157 D 4 hZ me16 hown (ow hw 204 rfl) (ow hw 205 rfl) (ow hw 63 rfl) (ow hw 206 rfl) e157 (rnC0 lh Z a0 hw [] x1 x2 h0 n0 Z0 ) hml [.int x1, .int x2] [] (lenOf pd_17 rfl) rfl rfl rfl rfl rfl rfl (by decide) (by decide) fun v158 T158 L158 X158 hQ158 => ?_
  obtain ⟨rfl, N158q, hQ158⟩ := hQ158
  have N158 := Fr.app N0 N158q
  exact Rch.retI X158 hx hret hlk (D.on 5 rfl) (fun U hU hF => hK _ U _ _ _ (by show Q_rnC1 Z a1 a2 x1 x2 h0 n0 _ U.heap _; rw [hU, hQ158]; exact ⟨rfl, N158, rfl⟩) hF (by decide) (by decide))
def Q_rnC2 (Z : State) (a1 a2 : Addr) (x1 x2 : Int32) (h0 : Heap) (n0 : Nat) (vv_ : Option Value) (h : Heap) (LL_ : List Loc) : Prop := vv_ = some (.int (own_cmp x1 x2)) ∧ Fr n0 LL_ ∧ (h = h0)
def Ld18 : List (Nat × Instr × Nat) := [(0, .aload_n 0, 1), (1, .aload_n 1, 1), (2, .checkcast 1, 3), (5, .invokevirtual 284, 3), (8, .ireturn, 1)]
theorem d18 : ∀ q ∈ Ld18, decode jdk_33_method_63_code q.1 = .ok q.2 := by decide +kernel
abbrev me18 : MethodName := ⟨"java/lang/Integer", "compareTo", "(Ljava/lang/Object;)I"⟩
theorem rnC2 (lh : Launch) (Z : State) (a0 : Array Value) (hw : HW a0 Z) (ws : List Jvm.Cond) (a1 a2 : Addr) (x1 x2 : Int32) (h0 : Heap) (n0 : Nat) (Z0 : n0 ≤ h0.size) (Ek1 : Exa Z h0 a1 "java/lang/Integer") (Fk1 : Fld Z h0 a1 "java/lang/Integer" "value" "I" (.int x1)) (Ek2 : Exa Z h0 a2 "java/lang/Integer") (Fk2 : Fld Z h0 a2 "java/lang/Integer" "value" "I" (.int x2)) :
    MF lh Z me18 (.code me18 jdk_33_method_63_code 2 (some .int)) ws ⟨2, 0, 0, 26⟩ #[.ref a1, .ref a2] h0 (Q_rnC2 Z a1 a2 x1 x2 h0 n0) := by
  refine own_met (y := me18) (plainFor_of_name pn_4) ?_
  intro p ev sT m below meth c T0 K hx hby hml hret hlk hown hnm hZ X0 e0 hK
  have N0 := Fr.nil n0
  have D : DB p c Ld18 := DB.of hx hby d18
  refine Rch.cast (g' := mkF m 0 #[.val (.ref a1), .val (.ref a2)] []) (by first | rfl | simp [entryFrame, mkF, argsToLocals, Value.category]) ?_
  refine zaN X0 D 0 rfl rfl rfl rfl (zaN X0 D 1 rfl rfl rfl rfl ?_)
  obtain ⟨T159, X159, e159, st159⟩ := castY X0 hx hZ hown (ow hw 67 rfl) e0 (Ins.of_exa Ek2 (ow hw 71 rfl)) (g := (mkF m 2 #[.val (.ref a1), .val (.ref a2)] [.ref a2, .ref a1])) rfl rfl (D.on 2 rfl)
  refine Rch.of (T' := T159) (g' := (mkF m 5 #[.val (.ref a1), .val (.ref a2)] [.ref a2, .ref a1])) st159 ?_
  refine zvs X159 D 3 hZ me17 hown (ow hw 199 rfl) (ow hw 200 rfl) (ow hw 202 rfl) (ow hw 201 rfl) (ow hw 203 rfl) (ow hw 63 rfl) e159 Ek1 (rnC1 lh Z a0 hw [] a1 a2 x1 x2 h0 n0 Z0 Ek1 Fk1 Ek2 Fk2) hml [.ref a2] [] (lenOf pd_16 rfl) rfl rfl rfl rfl rfl rfl (by decide) (by decide) fun v160 T160 L160 X160 hQ160 => ?_
  obtain ⟨rfl, N160q, hQ160⟩ := hQ160
  have N160 := Fr.app N0 N160q
  exact Rch.retI X160 hx hret hlk (D.on 4 rfl) (fun U hU hF => hK _ U _ _ _ (by show Q_rnC2 Z a1 a2 x1 x2 h0 n0 _ U.heap _; rw [hU, hQ160]; exact ⟨rfl, N160, rfl⟩) hF (by decide) (by decide))
theorem pn_5 : plainName "java/util/Collections$ReverseComparator" = true := by first | (simp [plainName, overriddenIn]; done) | decide +kernel
def Q_rnC3 (Z : State) (a0_ a1 a2 : Addr) (x1 x2 : Int32) (h0 : Heap) (n0 : Nat) (vv_ : Option Value) (h : Heap) (LL_ : List Loc) : Prop := vv_ = some (.int (own_cmp x2 x1)) ∧ Fr n0 LL_ ∧ (h = h0)
def Ld19 : List (Nat × Instr × Nat) := [(0, .aload_n 2, 1), (1, .aload_n 1, 1), (2, .invokeinterface 7 2, 5), (7, .ireturn, 1)]
theorem d19 : ∀ q ∈ Ld19, decode jdk_2483_method_2_code q.1 = .ok q.2 := by decide +kernel
abbrev me19 : MethodName := ⟨"java/util/Collections$ReverseComparator", "compare", "(Ljava/lang/Comparable;Ljava/lang/Comparable;)I"⟩
abbrev me20 : MethodName := ⟨"java/lang/Comparable", "compareTo", "(Ljava/lang/Object;)I"⟩
theorem rnC3 (lh : Launch) (Z : State) (a0 : Array Value) (hw : HW a0 Z) (ws : List Jvm.Cond) (a0_ a1 a2 : Addr) (x1 x2 : Int32) (h0 : Heap) (n0 : Nat) (Z0 : n0 ≤ h0.size) (E0 : Exa Z h0 a0_ "java/util/Collections$ReverseComparator") (Ek1 : Exa Z h0 a1 "java/lang/Integer") (Fk1 : Fld Z h0 a1 "java/lang/Integer" "value" "I" (.int x1)) (Ek2 : Exa Z h0 a2 "java/lang/Integer") (Fk2 : Fld Z h0 a2 "java/lang/Integer" "value" "I" (.int x2)) :
    MF lh Z me19 (.code me19 jdk_2483_method_2_code 3 (some .int)) ws ⟨3, 0, 0, 39⟩ #[.ref a0_, .ref a1, .ref a2] h0 (Q_rnC3 Z a0_ a1 a2 x1 x2 h0 n0) := by
  refine own_met (y := me19) (plainFor_of_name pn_5) ?_
  intro p ev sT m below meth c T0 K hx hby hml hret hlk hown hnm hZ X0 e0 hK
  have N0 := Fr.nil n0
  have D : DB p c Ld19 := DB.of hx hby d19
  refine Rch.cast (g' := mkF m 0 #[.val (.ref a0_), .val (.ref a1), .val (.ref a2)] []) (by first | rfl | simp [entryFrame, mkF, argsToLocals, Value.category]) ?_
  refine zaN X0 D 0 rfl rfl rfl rfl (zaN X0 D 1 rfl rfl rfl rfl (zib X0 D 2 hZ me20 me18 hown (ow hw 191 rfl) (ow hw 192 rfl) (mvT hZ (ow hw 193 rfl)) (ow hw 194 rfl) (ow hw 195 rfl) (ow hw 196 rfl) (ow hw 197 rfl) (ow hw 185 rfl) (ow hw 198 rfl) (ow hw 63 rfl) e0 Ek2 (rnC2 lh Z a0 hw [] a2 a1 x2 x1 h0 n0 Z0 Ek2 Fk2 Ek1 Fk1) hml [.ref a1] [] (lenOf pd_15 rfl) rfl rfl rfl rfl rfl rfl (by decide) (by decide) fun v161 T161 L161 X161 hQ161 => ?_))
  obtain ⟨rfl, N161q, hQ161⟩ := hQ161
  have N161 := Fr.app N0 N161q
  exact Rch.retI X161 hx hret hlk (D.on 3 rfl) (fun U hU hF => hK _ U _ _ _ (by show Q_rnC3 Z a0_ a1 a2 x1 x2 h0 n0 _ U.heap _; rw [hU, hQ161]; exact ⟨rfl, N161, rfl⟩) hF (by decide) (by decide))
def Q_rnC4 (Z : State) (a0_ a1 a2 : Addr) (x1 x2 : Int32) (h0 : Heap) (n0 : Nat) (vv_ : Option Value) (h : Heap) (LL_ : List Loc) : Prop := vv_ = some (.int (own_cmp x2 x1)) ∧ Fr n0 LL_ ∧ (h = h0)
def Ld20 : List (Nat × Instr × Nat) := [(0, .aload_n 0, 1), (1, .aload_n 1, 1), (2, .checkcast 8, 3), (5, .aload_n 2, 1), (6, .checkcast 8, 3), (9, .invokevirtual 24, 3), (12, .ireturn, 1)]
theorem d20 : ∀ q ∈ Ld20, decode jdk_2483_method_5_code q.1 = .ok q.2 := by decide +kernel
abbrev me21 : MethodName := ⟨"java/util/Collections$ReverseComparator", "compare", "(Ljava/lang/Object;Ljava/lang/Object;)I"⟩
theorem rnC4 (lh : Launch) (Z : State) (a0 : Array Value) (hw : HW a0 Z) (ws : List Jvm.Cond) (a0_ a1 a2 : Addr) (x1 x2 : Int32) (h0 : Heap) (n0 : Nat) (Z0 : n0 ≤ h0.size) (E0 : Exa Z h0 a0_ "java/util/Collections$ReverseComparator") (Ek1 : Exa Z h0 a1 "java/lang/Integer") (Fk1 : Fld Z h0 a1 "java/lang/Integer" "value" "I" (.int x1)) (Ek2 : Exa Z h0 a2 "java/lang/Integer") (Fk2 : Fld Z h0 a2 "java/lang/Integer" "value" "I" (.int x2)) :
    MF lh Z me21 (.code me21 jdk_2483_method_5_code 3 (some .int)) ws ⟨4, 0, 0, 53⟩ #[.ref a0_, .ref a1, .ref a2] h0 (Q_rnC4 Z a0_ a1 a2 x1 x2 h0 n0) := by
  refine own_met (y := me21) (plainFor_of_name pn_5) ?_
  intro p ev sT m below meth c T0 K hx hby hml hret hlk hown hnm hZ X0 e0 hK
  have N0 := Fr.nil n0
  have D : DB p c Ld20 := DB.of hx hby d20
  refine Rch.cast (g' := mkF m 0 #[.val (.ref a0_), .val (.ref a1), .val (.ref a2)] []) (by first | rfl | simp [entryFrame, mkF, argsToLocals, Value.category]) ?_
  refine zaN X0 D 0 rfl rfl rfl rfl (zaN X0 D 1 rfl rfl rfl rfl ?_)
  obtain ⟨T162, X162, e162, st162⟩ := castY X0 hx hZ hown (ow hw 184 rfl) e0 (Ins.of_exa Ek1 (ow hw 185 rfl)) (g := (mkF m 2 #[.val (.ref a0_), .val (.ref a1), .val (.ref a2)] [.ref a1, .ref a0_])) rfl rfl (D.on 2 rfl)
  refine Rch.of (T' := T162) (g' := (mkF m 5 #[.val (.ref a0_), .val (.ref a1), .val (.ref a2)] [.ref a1, .ref a0_])) st162 ?_
  refine zaN X162 D 3 rfl rfl rfl rfl ?_
  obtain ⟨T163, X163, e163, st163⟩ := castY X162 hx hZ hown (ow hw 184 rfl) e162 (Ins.of_exa Ek2 (ow hw 185 rfl)) (g := (mkF m 6 #[.val (.ref a0_), .val (.ref a1), .val (.ref a2)] [.ref a2, .ref a1, .ref a0_])) rfl rfl (D.on 4 rfl)
  refine Rch.of (T' := T163) (g' := (mkF m 9 #[.val (.ref a0_), .val (.ref a1), .val (.ref a2)] [.ref a2, .ref a1, .ref a0_])) st163 ?_
  refine zvs X163 D 5 hZ me19 hown (ow hw 186 rfl) (ow hw 187 rfl) (ow hw 189 rfl) (ow hw 188 rfl) (ow hw 190 rfl) (ow hw 21 rfl) e163 E0 (rnC3 lh Z a0 hw [] a0_ a1 a2 x1 x2 h0 n0 Z0 E0 Ek1 Fk1 Ek2 Fk2) hml [.ref a1, .ref a2] [] (lenOf pd_14 rfl) rfl rfl rfl rfl rfl rfl (by decide) (by decide) fun v164 T164 L164 X164 hQ164 => ?_
  obtain ⟨rfl, N164q, hQ164⟩ := hQ164
  have N164 := Fr.app N0 N164q
  exact Rch.retI X164 hx hret hlk (D.on 6 rfl) (fun U hU hF => hK _ U _ _ _ (by show Q_rnC4 Z a0_ a1 a2 x1 x2 h0 n0 _ U.heap _; rw [hU, hQ164]; exact ⟨rfl, N164, rfl⟩) hF (by decide) (by decide))
theorem pn_6 : plainName "java/util/Collections" = true := by first | (simp [plainName, overriddenIn]; done) | decide +kernel
def Q_rnR1 (Z : State) (rc : Addr) (h0 : Heap) (n0 : Nat) (vv_ : Option Value) (h : Heap) (LL_ : List Loc) : Prop := vv_ = some (.ref rc) ∧ Fr n0 LL_ ∧ (h = h0)
def Ld21 : List (Nat × Instr × Nat) := [(0, .getstatic 422, 3), (3, .areturn, 1)]
theorem d21 : ∀ q ∈ Ld21, decode jdk_79_method_77_code q.1 = .ok q.2 := by decide +kernel
abbrev me22 : MethodName := ⟨"java/util/Collections", "reverseOrder", "()Ljava/util/Comparator;"⟩
theorem rnR1 (lh : Launch) (Z : State) (a0 : Array Value) (hw : HW a0 Z) (ws : List Jvm.Cond) (rc : Addr) (h0 : Heap) (n0 : Nat) (Z0 : n0 ≤ h0.size) (O0 : Old Z n0 h0) (SRO : Sta Z Z.heap "java/util/Collections$ReverseComparator" "REVERSE_ORDER" "Ljava/util/Collections$ReverseComparator;" (.ref rc)) :
    MF lh Z me22 (.code me22 jdk_79_method_77_code 0 (some (.object "java/util/Comparator"))) ws ⟨0, 0, 0, 0⟩ #[] h0 (Q_rnR1 Z rc h0 n0) := by
  refine own_met (y := me22) (plainFor_of_name pn_6) ?_
  intro p ev sT m below meth c T0 K hx hby hml hret hlk hown hnm hZ X0 e0 hK
  have N0 := Fr.nil n0
  have D : DB p c Ld21 := DB.of hx hby d21
  refine Rch.cast (g' := mkF m 0 #[] []) (by first | rfl | simp [entryFrame, mkF, argsToLocals, Value.category]) ?_
  obtain ⟨T165, X165, e165, st165⟩ := getS2 X0 hx hZ hown (host := "") (Or.inl (ow hw 20 rfl)) Via.refl e0 (SRO.ext O0.2) (g := (mkF m 0 #[] [])) rfl (D.on 0 rfl)
  refine Rch.of (T' := T165) (g' := (mkF m 3 #[] [.ref rc])) st165 ?_
  exact Rch.retA X165 hx (w := (.ref rc)) hret rfl rfl hlk (D.on 1 rfl) (fun U hU hF => hK _ U _ _ _ (by show Q_rnR1 Z rc h0 n0 _ U.heap _; rw [hU, e165]; exact ⟨rfl, N0, rfl⟩) hF (by decide) (by decide))
theorem pn_7 : plainName "java/util/Comparator" = true := by first | (simp [plainName, overriddenIn]; done) | decide +kernel
def Q_rnR2 (Z : State) (rc : Addr) (h0 : Heap) (n0 : Nat) (vv_ : Option Value) (h : Heap) (LL_ : List Loc) : Prop := vv_ = some (.ref rc) ∧ Fr n0 LL_ ∧ (h = h0)
def Ld22 : List (Nat × Instr × Nat) := [(0, .invokestatic 43, 3), (3, .areturn, 1)]
theorem d22 : ∀ q ∈ Ld22, decode jdk_2515_method_10_code q.1 = .ok q.2 := by decide +kernel
abbrev me23 : MethodName := ⟨"java/util/Comparator", "reverseOrder", "()Ljava/util/Comparator;"⟩
theorem rnR2 (lh : Launch) (Z : State) (a0 : Array Value) (hw : HW a0 Z) (ws : List Jvm.Cond) (rc : Addr) (h0 : Heap) (n0 : Nat) (Z0 : n0 ≤ h0.size) (O0 : Old Z n0 h0) (SRO : Sta Z Z.heap "java/util/Collections$ReverseComparator" "REVERSE_ORDER" "Ljava/util/Collections$ReverseComparator;" (.ref rc)) :
    MF lh Z me23 (.code me23 jdk_2515_method_10_code 0 (some (.object "java/util/Comparator"))) ws ⟨1, 0, 0, 11⟩ #[] h0 (Q_rnR2 Z rc h0 n0) := by
  refine own_met (y := me23) (plainFor_of_name pn_7) ?_
  intro p ev sT m below meth c T0 K hx hby hml hret hlk hown hnm hZ X0 e0 hK
  have N0 := Fr.nil n0
  have D : DB p c Ld22 := DB.of hx hby d22
  refine Rch.cast (g' := mkF m 0 #[] []) (by first | rfl | simp [entryFrame, mkF, argsToLocals, Value.category]) ?_
  refine zst X0 D 0 hZ me22 hown (ow hw 16 rfl) (ow hw 17 rfl) (ow hw 18 rfl) (ow hw 19 rfl) e0 (rnR1 lh Z a0 hw [] rc h0 n0 Z0 O0 SRO) hml [] [] (lenOf pd_1 rfl) rfl rfl rfl rfl rfl rfl (by decide) (by decide) fun v166 T166 L166 X166 hQ166 => ?_
  obtain ⟨rfl, N166q, hQ166⟩ := hQ166
  have N166 := Fr.app N0 N166q
  exact Rch.retA X166 hx (w := (.ref rc)) hret rfl rfl hlk (D.on 1 rfl) (fun U hU hF => hK _ U _ _ _ (by show Q_rnR2 Z rc h0 n0 _ U.heap _; rw [hU, hQ166]; exact ⟨rfl, N166, rfl⟩) hF (by decide) (by decide))
theorem pn_8 : plainName "java/util/Objects" = true := by first | (simp [plainName, overriddenIn]; done) | decide +kernel
def Q_rnRN (Z : State) (a1 : Addr) (h0 : Heap) (n0 : Nat) (vv_ : Option Value) (h : Heap) (LL_ : List Loc) : Prop := vv_ = some (.ref a1) ∧ Fr n0 LL_ ∧ (h = h0)
def Ld23 : List (Nat × Instr × Nat) := [(0, .aload_n 0, 1), (1, .ifnonnull 11, 3), (12, .aload_n 0, 1), (13, .areturn, 1)]
theorem d23 : ∀ q ∈ Ld23, decode jdk_31_method_10_code q.1 = .ok q.2 := by decide +kernel
abbrev me24 : MethodName := ⟨"java/util/Objects", "requireNonNull", "(Ljava/lang/Object;)Ljava/lang/Object;"⟩
theorem rnRN (lh : Launch) (Z : State) (a0 : Array Value) (hw : HW a0 Z) (ws : List Jvm.Cond) (a1 : Addr) (h0 : Heap) (n0 : Nat) (Z0 : n0 ≤ h0.size)  :
    MF lh Z me24 (.code me24 jdk_31_method_10_code 1 (some (.object "java/lang/Object"))) ws ⟨0, 0, 0, 0⟩ #[.ref a1] h0 (Q_rnRN Z a1 h0 n0) := by
  refine own_met (y := me24) (plainFor_of_name pn_8) ?_
  intro p ev sT m below meth c T0 K hx hby hml hret hlk hown hnm hZ X0 e0 hK
  have N0 := Fr.nil n0
  have D : DB p c Ld23 := DB.of hx hby d23
  refine Rch.cast (g' := mkF m 0 #[.val (.ref a1)] []) (by first | rfl | simp [entryFrame, mkF, argsToLocals, Value.category]) ?_
  refine zaN X0 D 0 rfl rfl rfl rfl (zifnonnullYes X0 D 1 12 rfl rfl rfl (zaN X0 D 2 rfl rfl rfl rfl ?_))
  exact Rch.retA X0 hx (w := (.ref a1)) hret rfl rfl hlk (D.on 3 rfl) (fun U hU hF => hK _ U _ _ _ (by show Q_rnRN Z a1 h0 n0 _ U.heap _; rw [hU, e0]; exact ⟨rfl, N0, rfl⟩) hF (by decide) (by decide))
theorem pn_9 : plainName "java/util/TreeMap" = true := by first | (simp [plainName, overriddenIn]; done) | decide +kernel
def Q_rnTI (Z : State) (a1 a2 : Addr) (u1 u2 u3 : Value) (h0 : Heap) (n0 : Nat) (vv_ : Option Value) (h : Heap) (LL_ : List Loc) : Prop := vv_ = none ∧ Fr n0 LL_ ∧ (Keep h0 h [a1] ∧ Exa Z h a1 "java/util/TreeMap" ∧ Fld Z h a1 "java/util/TreeMap" "root" "Ljava/util/TreeMap$Entry;" .null ∧ Fld Z h a1 "java/util/TreeMap" "size" "I" (.int (0 : Int32)) ∧ Fld Z h a1 "java/util/TreeMap" "modCount" "I" (.int (0 : Int32)) ∧ Fld Z h a1 "java/util/TreeMap" "comparator" "Ljava/util/Comparator;" (.ref a2))
def Ld24 : List (Nat × Instr × Nat) := [(0, .aload_n 0, 1), (1, .invokespecial 1, 3), (4, .aload_n 0, 1), (5, .iconst 0, 1), (6, .putfield 7, 3), (9, .aload_n 0, 1), (10, .iconst 0, 1), (11, .putfield 13, 3), (14, .aload_n 0, 1), (15, .aload_n 1, 1), (16, .putfield 16, 3), (19, .return_, 1)]
theorem d24 : ∀ q ∈ Ld24, decode jdk_2729_method_2_code q.1 = .ok q.2 := by decide +kernel
abbrev me25 : MethodName := ⟨"java/util/TreeMap", "<init>", "(Ljava/util/Comparator;)V"⟩
def sn6 {a0 : Array Value} {Z : State} (hw : HW a0 Z) := slot_ne (C := "java/util/TreeMap") (Or.inl (ow hw 95 rfl)) (Or.inl (ow hw 33 rfl)) (by decide) (t := (.object "java/util/TreeMap$Entry")) (t' := .int) (by decide) (by decide)
def sn7 {a0 : Array Value} {Z : State} (hw : HW a0 Z) := slot_ne (C := "java/util/TreeMap") (Or.inl (ow hw 35 rfl)) (Or.inl (ow hw 33 rfl)) (by decide) (t := .int) (t' := .int) (by decide) (by decide)
def sn8 {a0 : Array Value} {Z : State} (hw : HW a0 Z) := slot_ne (C := "java/util/TreeMap") (Or.inr (ow hw 37 rfl)) (Or.inl (ow hw 33 rfl)) (by decide) (t := (.object "java/util/Comparator")) (t' := .int) (by decide) (by decide)
def sn9 {a0 : Array Value} {Z : State} (hw : HW a0 Z) := slot_ne (C := "java/util/TreeMap") (Or.inl (ow hw 95 rfl)) (Or.inl (ow hw 35 rfl)) (by decide) (t := (.object "java/util/TreeMap$Entry")) (t' := .int) (by decide) (by decide)
def sn10 {a0 : Array Value} {Z : State} (hw : HW a0 Z) := slot_ne (C := "java/util/TreeMap") (Or.inl (ow hw 33 rfl)) (Or.inl (ow hw 35 rfl)) (by decide) (t := .int) (t' := .int) (by decide) (by decide)
def sn11 {a0 : Array Value} {Z : State} (hw : HW a0 Z) := slot_ne (C := "java/util/TreeMap") (Or.inr (ow hw 37 rfl)) (Or.inl (ow hw 35 rfl)) (by decide) (t := (.object "java/util/Comparator")) (t' := .int) (by decide) (by decide)
def sn12 {a0 : Array Value} {Z : State} (hw : HW a0 Z) := slot_ne (C := "java/util/TreeMap") (Or.inl (ow hw 95 rfl)) (Or.inr (ow hw 37 rfl)) (by decide) (t := (.object "java/util/TreeMap$Entry")) (t' := (.object "java/util/Comparator")) (by decide) (by decide)
def sn13 {a0 : Array Value} {Z : State} (hw : HW a0 Z) := slot_ne (C := "java/util/TreeMap") (Or.inl (ow hw 33 rfl)) (Or.inr (ow hw 37 rfl)) (by decide) (t := .int) (t' := (.object "java/util/Comparator")) (by decide) (by decide)
def sn14 {a0 : Array Value} {Z : State} (hw : HW a0 Z) := slot_ne (C := "java/util/TreeMap") (Or.inl (ow hw 35 rfl)) (Or.inr (ow hw 37 rfl)) (by decide) (t := .int) (t' := (.object "java/util/Comparator")) (by decide) (by decide)
theorem rnTI (lh : Launch) (Z : State) (a0 : Array Value) (hw : HW a0 Z) (ws : List Jvm.Cond) (a1 a2 : Addr) (u1 u2 u3 : Value) (h0 : Heap) (n0 : Nat) (Z0 : n0 ≤ h0.size) (E1 : Exa Z h0 a1 "java/util/TreeMap") (F0 : Fld Z h0 a1 "java/util/TreeMap" "root" "Ljava/util/TreeMap$Entry;" .null) (F1 : Fld Z h0 a1 "java/util/TreeMap" "size" "I" u1) (F2 : Fld Z h0 a1 "java/util/TreeMap" "modCount" "I" u2) (F3 : Fld Z h0 a1 "java/util/TreeMap" "comparator" "Ljava/util/Comparator;" u3) (g1 : n0 ≤ a1) :
    MF lh Z me25 (.code me25 jdk_2729_method_2_code 2 none) ws ⟨2, 0, 0, 24⟩ #[.ref a1, .ref a2] h0 (Q_rnTI Z a1 a2 u1 u2 u3 h0 n0) := by
  refine own_met (y := me25) (plainFor_of_name pn_9) ?_
  intro p ev sT m below meth c T0 K hx hby hml hret hlk hown hnm hZ X0 e0 hK
  have N0 := Fr.nil n0
  have D : DB p c Ld24 := DB.of hx hby d24
  refine Rch.cast (g' := mkF m 0 #[.val (.ref a1), .val (.ref a2)] []) (by first | rfl | simp [entryFrame, mkF, argsToLocals, Value.category]) ?_
  refine zaN X0 D 0 rfl rfl rfl rfl (zsb X0 D 1 hZ me13 hown (ow hw 25 rfl) (ow hw 26 rfl) (ow hw 30 rfl) (ow hw 29 rfl) e0 a1 (rnV1 lh Z a0 hw [] a1 h0 n0 Z0 ) hml [] [] (lenOf pd_0 rfl) rfl rfl rfl rfl rfl rfl rfl (by decide) (by decide) fun v167 T167 L167 X167 hQ167 => ?_)
  obtain ⟨rfl, N167q, hQ167⟩ := hQ167
  have N167 := Fr.app N0 N167q
  refine zaN X167 D 2 rfl rfl rfl rfl (zic X167 D 3 0 rfl rfl rfl (zpf X167 D 4 hZ hown (ow hw 32 rfl) hQ167 F1 E1 (Or.inl (ow hw 33 rfl)) (ow hw 10 rfl) .int (by decide) rfl rfl rfl rfl fun T168 h168 X168 e168 W168 => ?_))
  have N168 := Fr.snoc X168 N167 g1
  have Fw168 := Fld.same W168 F1
  refine zaN X168 D 5 rfl rfl rfl rfl (zic X168 D 6 0 rfl rfl rfl (zpf X168 D 7 hZ hown (ow hw 34 rfl) e168 (F2.other W168 (Or.inr (sn7 hw))) (E1.wr W168) (Or.inl (ow hw 35 rfl)) (ow hw 10 rfl) .int (by decide) rfl rfl rfl rfl fun T169 h169 X169 e169 W169 => ?_))
  have N169 := Fr.snoc X169 N168 g1
  have Fw169 := Fld.same W169 (F2.other W168 (Or.inr (sn7 hw)))
  refine zaN X169 D 8 rfl rfl rfl rfl (zaN X169 D 9 rfl rfl rfl rfl (zpf X169 D 10 hZ hown (ow hw 36 rfl) e169 ((F3.other W168 (Or.inr (sn8 hw))).other W169 (Or.inr (sn11 hw))) ((E1.wr W168).wr W169) (Or.inr ⟨(ow hw 37 rfl), rfl, hnm⟩) (ow hw 10 rfl) (.object "java/util/Comparator") (by decide) rfl rfl rfl rfl fun T170 h170 X170 e170 W170 => ?_))
  have N170 := Fr.snoc X170 N169 g1
  have Fw170 := Fld.same W170 ((F3.other W168 (Or.inr (sn8 hw))).other W169 (Or.inr (sn11 hw)))
  have Fb171 := ((((Keep.refl h0 [a1]).wr W168 (Or.inl (List.mem_of_getElem? (i := 0) rfl))).wr W169 (Or.inl (List.mem_of_getElem? (i := 0) rfl))).wr W170 (Or.inl (List.mem_of_getElem? (i := 0) rfl)))
  exact Rch.retV X170 hx hret hlk (D.on 11 rfl) (fun U hU hF => hK _ U _ _ _ (by show Q_rnTI Z a1 a2 u1 u2 u3 h0 n0 _ U.heap _; rw [hU, e170]; exact ⟨rfl, N170, Fb171, (((E1.wr W168).wr W169).wr W170), (((F0.other W168 (Or.inr (sn6 hw))).other W169 (Or.inr (sn9 hw))).other W170 (Or.inr (sn12 hw))), ((Fw168.other W169 (Or.inr (sn10 hw))).other W170 (Or.inr (sn13 hw))), (Fw169.other W170 (Or.inr (sn14 hw))), Fw170⟩) hF (by decide) (by decide))
theorem pn_10 : plainName "java/util/TreeMap$Entry" = true := by first | (simp [plainName, overriddenIn]; done) | decide +kernel
def Q_rnEn (Z : State) (a1 a2 a3 : Addr) (u0 u1 u2 u3 : Value) (h0 : Heap) (n0 : Nat) (vv_ : Option Value) (h : Heap) (LL_ : List Loc) : Prop := vv_ = none ∧ Fr n0 LL_ ∧ (Keep h0 h [a1] ∧ Exa Z h a1 "java/util/TreeMap$Entry" ∧ Fld Z h a1 "java/util/TreeMap$Entry" "color" "Z" (.int (1 : Int32)) ∧ Fld Z h a1 "java/util/TreeMap$Entry" "key" "Ljava/lang/Object;" (.ref a2) ∧ Fld Z h a1 "java/util/TreeMap$Entry" "value" "Ljava/lang/Object;" (.ref a3) ∧ Fld Z h a1 "java/util/TreeMap$Entry" "parent" "Ljava/util/TreeMap$Entry;" .null ∧ Fld Z h a1 "java/util/TreeMap$Entry" "left" "Ljava/util/TreeMap$Entry;" .null ∧ Fld Z h a1 "java/util/TreeMap$Entry" "right" "Ljava/util/TreeMap$Entry;" .null)
def Ld25 : List (Nat × Instr × Nat) := [(0, .aload_n 0, 1), (1, .invokespecial 3, 3), (4, .aload_n 0, 1), (5, .iconst 1, 1), (6, .putfield 9, 3), (9, .aload_n 0, 1), (10, .aload_n 1, 1), (11, .putfield 15, 3), (14, .aload_n 0, 1), (15, .aload_n 2, 1), (16, .putfield 19, 3), (19, .aload_n 0, 1), (20, .aload_n 3, 1), (21, .putfield 22, 3), (24, .return_, 1)]
theorem d25 : ∀ q ∈ Ld25, decode jdk_2736_method_1_code q.1 = .ok q.2 := by decide +kernel
abbrev me26 : MethodName := ⟨"java/util/TreeMap$Entry", "<init>", "(Ljava/lang/Object;Ljava/lang/Object;Ljava/util/TreeMap$Entry;)V"⟩
def sn15 {a0 : Array Value} {Z : State} (hw : HW a0 Z) := slot_ne (C := "java/util/TreeMap$Entry") (Or.inl (ow hw 218 rfl)) (Or.inl (ow hw 216 rfl)) (by decide) (t := (.object "java/lang/Object")) (t' := .boolean) (by decide) (by decide)
def sn16 {a0 : Array Value} {Z : State} (hw : HW a0 Z) := slot_ne (C := "java/util/TreeMap$Entry") (Or.inl (ow hw 220 rfl)) (Or.inl (ow hw 216 rfl)) (by decide) (t := (.object "java/lang/Object")) (t' := .boolean) (by decide) (by decide)
def sn17 {a0 : Array Value} {Z : State} (hw : HW a0 Z) := slot_ne (C := "java/util/TreeMap$Entry") (Or.inl (ow hw 222 rfl)) (Or.inl (ow hw 216 rfl)) (by decide) (t := (.object "java/util/TreeMap$Entry")) (t' := .boolean) (by decide) (by decide)
def sn18 {a0 : Array Value} {Z : State} (hw : HW a0 Z) := slot_ne (C := "java/util/TreeMap$Entry") (Or.inl (ow hw 350 rfl)) (Or.inl (ow hw 216 rfl)) (by decide) (t := (.object "java/util/TreeMap$Entry")) (t' := .boolean) (by decide) (by decide)
def sn19 {a0 : Array Value} {Z : State} (hw : HW a0 Z) := slot_ne (C := "java/util/TreeMap$Entry") (Or.inl (ow hw 352 rfl)) (Or.inl (ow hw 216 rfl)) (by decide) (t := (.object "java/util/TreeMap$Entry")) (t' := .boolean) (by decide) (by decide)
def sn20 {a0 : Array Value} {Z : State} (hw : HW a0 Z) := slot_ne (C := "java/util/TreeMap$Entry") (Or.inl (ow hw 216 rfl)) (Or.inl (ow hw 218 rfl)) (by decide) (t := .boolean) (t' := (.object "java/lang/Object")) (by decide) (by decide)
def sn21 {a0 : Array Value} {Z : State} (hw : HW a0 Z) := slot_ne (C := "java/util/TreeMap$Entry") (Or.inl (ow hw 220 rfl)) (Or.inl (ow hw 218 rfl)) (by decide) (t := (.object "java/lang/Object")) (t' := (.object "java/lang/Object")) (by decide) (by decide)
def sn22 {a0 : Array Value} {Z : State} (hw : HW a0 Z) := slot_ne (C := "java/util/TreeMap$Entry") (Or.inl (ow hw 222 rfl)) (Or.inl (ow hw 218 rfl)) (by decide) (t := (.object "java/util/TreeMap$Entry")) (t' := (.object "java/lang/Object")) (by decide) (by decide)
def sn23 {a0 : Array Value} {Z : State} (hw : HW a0 Z) := slot_ne (C := "java/util/TreeMap$Entry") (Or.inl (ow hw 350 rfl)) (Or.inl (ow hw 218 rfl)) (by decide) (t := (.object "java/util/TreeMap$Entry")) (t' := (.object "java/lang/Object")) (by decide) (by decide)
def sn24 {a0 : Array Value} {Z : State} (hw : HW a0 Z) := slot_ne (C := "java/util/TreeMap$Entry") (Or.inl (ow hw 352 rfl)) (Or.inl (ow hw 218 rfl)) (by decide) (t := (.object "java/util/TreeMap$Entry")) (t' := (.object "java/lang/Object")) (by decide) (by decide)
def sn25 {a0 : Array Value} {Z : State} (hw : HW a0 Z) := slot_ne (C := "java/util/TreeMap$Entry") (Or.inl (ow hw 216 rfl)) (Or.inl (ow hw 220 rfl)) (by decide) (t := .boolean) (t' := (.object "java/lang/Object")) (by decide) (by decide)
def sn26 {a0 : Array Value} {Z : State} (hw : HW a0 Z) := slot_ne (C := "java/util/TreeMap$Entry") (Or.inl (ow hw 218 rfl)) (Or.inl (ow hw 220 rfl)) (by decide) (t := (.object "java/lang/Object")) (t' := (.object "java/lang/Object")) (by decide) (by decide)
def sn27 {a0 : Array Value} {Z : State} (hw : HW a0 Z) := slot_ne (C := "java/util/TreeMap$Entry") (Or.inl (ow hw 222 rfl)) (Or.inl (ow hw 220 rfl)) (by decide) (t := (.object "java/util/TreeMap$Entry")) (t' := (.object "java/lang/Object")) (by decide) (by decide)
def sn28 {a0 : Array Value} {Z : State} (hw : HW a0 Z) := slot_ne (C := "java/util/TreeMap$Entry") (Or.inl (ow hw 350 rfl)) (Or.inl (ow hw 220 rfl)) (by decide) (t := (.object "java/util/TreeMap$Entry")) (t' := (.object "java/lang/Object")) (by decide) (by decide)
def sn29 {a0 : Array Value} {Z : State} (hw : HW a0 Z) := slot_ne (C := "java/util/TreeMap$Entry") (Or.inl (ow hw 352 rfl)) (Or.inl (ow hw 220 rfl)) (by decide) (t := (.object "java/util/TreeMap$Entry")) (t' := (.object "java/lang/Object")) (by decide) (by decide)
def sn30 {a0 : Array Value} {Z : State} (hw : HW a0 Z) := slot_ne (C := "java/util/TreeMap$Entry") (Or.inl (ow hw 216 rfl)) (Or.inl (ow hw 222 rfl)) (by decide) (t := .boolean) (t' := (.object "java/util/TreeMap$Entry")) (by decide) (by decide)
def sn31 {a0 : Array Value} {Z : State} (hw : HW a0 Z) := slot_ne (C := "java/util/TreeMap$Entry") (Or.inl (ow hw 218 rfl)) (Or.inl (ow hw 222 rfl)) (by decide) (t := (.object "java/lang/Object")) (t' := (.object "java/util/TreeMap$Entry")) (by decide) (by decide)
def sn32 {a0 : Array Value} {Z : State} (hw : HW a0 Z) := slot_ne (C := "java/util/TreeMap$Entry") (Or.inl (ow hw 220 rfl)) (Or.inl (ow hw 222 rfl)) (by decide) (t := (.object "java/lang/Object")) (t' := (.object "java/util/TreeMap$Entry")) (by decide) (by decide)
def sn33 {a0 : Array Value} {Z : State} (hw : HW a0 Z) := slot_ne (C := "java/util/TreeMap$Entry") (Or.inl (ow hw 350 rfl)) (Or.inl (ow hw 222 rfl)) (by decide) (t := (.object "java/util/TreeMap$Entry")) (t' := (.object "java/util/TreeMap$Entry")) (by decide) (by decide)
def sn34 {a0 : Array Value} {Z : State} (hw : HW a0 Z) := slot_ne (C := "java/util/TreeMap$Entry") (Or.inl (ow hw 352 rfl)) (Or.inl (ow hw 222 rfl)) (by decide) (t := (.object "java/util/TreeMap$Entry")) (t' := (.object "java/util/TreeMap$Entry")) (by decide) (by decide)
theorem rnEn (lh : Launch) (Z : State) (a0 : Array Value) (hw : HW a0 Z) (ws : List Jvm.Cond) (a1 a2 a3 : Addr) (u0 u1 u2 u3 : Value) (h0 : Heap) (n0 : Nat) (Z0 : n0 ≤ h0.size) (E1 : Exa Z h0 a1 "java/util/TreeMap$Entry") (F0 : Fld Z h0 a1 "java/util/TreeMap$Entry" "color" "Z" u0) (F1 : Fld Z h0 a1 "java/util/TreeMap$Entry" "key" "Ljava/lang/Object;" u1) (F2 : Fld Z h0 a1 "java/util/TreeMap$Entry" "value" "Ljava/lang/Object;" u2) (F3 : Fld Z h0 a1 "java/util/TreeMap$Entry" "parent" "Ljava/util/TreeMap$Entry;" u3) (F4 : Fld Z h0 a1 "java/util/TreeMap$Entry" "left" "Ljava/util/TreeMap$Entry;" .null) (F5 : Fld Z h0 a1 "java/util/TreeMap$Entry" "right" "Ljava/util/TreeMap$Entry;" .null) (g1 : n0 ≤ a1) :
    MF lh Z me26 (.code me26 jdk_2736_method_1_code 4 none) ws ⟨1, 0, 0, 12⟩ #[.ref a1, .ref a2, .ref a3, .null] h0 (Q_rnEn Z a1 a2 a3 u0 u1 u2 u3 h0 n0) := by
  refine own_met (y := me26) (plainFor_of_name pn_10) ?_
  intro p ev sT m below meth c T0 K hx hby hml hret hlk hown hnm hZ X0 e0 hK
  have N0 := Fr.nil n0
  have D : DB p c Ld25 := DB.of hx hby d25
  refine Rch.cast (g' := mkF m 0 #[.val (.ref a1), .val (.ref a2), .val (.ref a3), .val .null] []) (by first | rfl | simp [entryFrame, mkF, argsToLocals, Value.category]) ?_
  refine zaN X0 D 0 rfl rfl rfl rfl ?_
  obtain ⟨T172, X172, e172, st172⟩ := initO X0 hx hZ hown (ow hw 214 rfl) (ow hw 7 rfl) (ow hw 8 rfl) e0 (g := (mkF m 1 #[.val (.ref a1), .val (.ref a2), .val (.ref a3), .val .null] [.ref a1])) rfl (by rw [hml]; rfl) rfl (D.on 1 rfl) (by decide) (W := 0) (by show 2 * 0 + _ ≤ _; exact Nat.le_of_eq rfl) (by decide)
  refine Rch.of (T' := T172) (g' := (mkF m 4 #[.val (.ref a1), .val (.ref a2), .val (.ref a3), .val .null] [])) st172 ?_
  refine zaN X172 D 2 rfl rfl rfl rfl (zic X172 D 3 1 rfl rfl rfl ?_)
  obtain ⟨T173, h173, X173, e173, W173, st173⟩ := putFN X172 hx hZ hown (ow hw 215 rfl) Via.refl e172 F0 E1 (Or.inl (ow hw 216 rfl)) (ow hw 208 rfl) (ty := .boolean) (v' := (.int (1 : Int32))) (by decide) rfl rfl (g := (mkF m 6 #[.val (.ref a1), .val (.ref a2), .val (.ref a3), .val .null] [.int (1 : Int32), .ref a1])) rfl rfl (D.on 4 rfl)
  have N173 := Fr.snoc X173 N0 g1
  have Fw173 := Fld.same W173 F0
  refine Rch.of (T' := T173) (g' := (mkF m 9 #[.val (.ref a1), .val (.ref a2), .val (.ref a3), .val .null] [])) st173 ?_
  refine zaN X173 D 5 rfl rfl rfl rfl (zaN X173 D 6 rfl rfl rfl rfl (zpf X173 D 7 hZ hown (ow hw 217 rfl) e173 (F1.other W173 (Or.inr (sn15 hw))) (E1.wr W173) (Or.inl (ow hw 218 rfl)) (ow hw 208 rfl) (.object "java/lang/Object") (by decide) rfl rfl rfl rfl fun T174 h174 X174 e174 W174 => ?_))
  have N174 := Fr.snoc X174 N173 g1
  have Fw174 := Fld.same W174 (F1.other W173 (Or.inr (sn15 hw)))
  refine zaN X174 D 8 rfl rfl rfl rfl (zaN X174 D 9 rfl rfl rfl rfl (zpf X174 D 10 hZ hown (ow hw 219 rfl) e174 ((F2.other W173 (Or.inr (sn16 hw))).other W174 (Or.inr (sn21 hw))) ((E1.wr W173).wr W174) (Or.inl (ow hw 220 rfl)) (ow hw 208 rfl) (.object "java/lang/Object") (by decide) rfl rfl rfl rfl fun T175 h175 X175 e175 W175 => ?_))
  have N175 := Fr.snoc X175 N174 g1
  have Fw175 := Fld.same W175 ((F2.other W173 (Or.inr (sn16 hw))).other W174 (Or.inr (sn21 hw)))
  have Fb176 := ((((Keep.refl h0 [a1]).wr W173 (Or.inl (List.mem_of_getElem? (i := 0) rfl))).wr W174 (Or.inl (List.mem_of_getElem? (i := 0) rfl))).wr W175 (Or.inl (List.mem_of_getElem? (i := 0) rfl)))
  refine zaN X175 D 11 rfl rfl rfl rfl (zaN X175 D 12 rfl rfl rfl rfl (zpf X175 D 13 hZ hown (ow hw 221 rfl) e175 (((F3.other W173 (Or.inr (sn17 hw))).other W174 (Or.inr (sn22 hw))).other W175 (Or.inr (sn27 hw))) (((E1.wr W173).wr W174).wr W175) (Or.inl (ow hw 222 rfl)) (ow hw 208 rfl) (.object "java/util/TreeMap$Entry") (by decide) rfl rfl rfl rfl fun T177 h177 X177 e177 W177 => ?_))
  have N177 := Fr.snoc X177 N175 g1
  have Fw177 := Fld.same W177 (((F3.other W173 (Or.inr (sn17 hw))).other W174 (Or.inr (sn22 hw))).other W175 (Or.inr (sn27 hw)))
  exact Rch.retV X177 hx hret hlk (D.on 14 rfl) (fun U hU hF => hK _ U _ _ _ (by show Q_rnEn Z a1 a2 a3 u0 u1 u2 u3 h0 n0 _ U.heap _; rw [hU, e177]; exact ⟨rfl, N177, (Fb176.wr W177 (Or.inl (List.mem_of_getElem? (i := 0) rfl))), ((((E1.wr W173).wr W174).wr W175).wr W177), (((Fw173.other W174 (Or.inr (sn20 hw))).other W175 (Or.inr (sn25 hw))).other W177 (Or.inr (sn30 hw))), ((Fw174.other W175 (Or.inr (sn26 hw))).other W177 (Or.inr (sn31 hw))), (Fw175.other W177 (Or.inr (sn32 hw))), Fw177, ((((F4.other W173 (Or.inr (sn18 hw))).other W174 (Or.inr (sn23 hw))).other W175 (Or.inr (sn28 hw))).other W177 (Or.inr (sn33 hw))), ((((F5.other W173 (Or.inr (sn19 hw))).other W174 (Or.inr (sn24 hw))).other W175 (Or.inr (sn29 hw))).other W177 (Or.inr (sn34 hw)))⟩) hF (by decide) (by decide))
def Q_rnEr (Z : State) (a1 a2 a3 a4 : Addr) (u0 u1 u2 u3 : Value) (h0 : Heap) (n0 : Nat) (vv_ : Option Value) (h : Heap) (LL_ : List Loc) : Prop := vv_ = none ∧ Fr n0 LL_ ∧ (Keep h0 h [a1] ∧ Exa Z h a1 "java/util/TreeMap$Entry" ∧ Fld Z h a1 "java/util/TreeMap$Entry" "color" "Z" (.int (1 : Int32)) ∧ Fld Z h a1 "java/util/TreeMap$Entry" "key" "Ljava/lang/Object;" (.ref a2) ∧ Fld Z h a1 "java/util/TreeMap$Entry" "value" "Ljava/lang/Object;" (.ref a3) ∧ Fld Z h a1 "java/util/TreeMap$Entry" "parent" "Ljava/util/TreeMap$Entry;" (.ref a4) ∧ Fld Z h a1 "java/util/TreeMap$Entry" "left" "Ljava/util/TreeMap$Entry;" .null ∧ Fld Z h a1 "java/util/TreeMap$Entry" "right" "Ljava/util/TreeMap$Entry;" .null)
theorem rnEr (lh : Launch) (Z : State) (a0 : Array Value) (hw : HW a0 Z) (ws : List Jvm.Cond) (a1 a2 a3 a4 : Addr) (u0 u1 u2 u3 : Value) (h0 : Heap) (n0 : Nat) (Z0 : n0 ≤ h0.size) (E1 : Exa Z h0 a1 "java/util/TreeMap$Entry") (F0 : Fld Z h0 a1 "java/util/TreeMap$Entry" "color" "Z" u0) (F1 : Fld Z h0 a1 "java/util/TreeMap$Entry" "key" "Ljava/lang/Object;" u1) (F2 : Fld Z h0 a1 "java/util/TreeMap$Entry" "value" "Ljava/lang/Object;" u2) (F3 : Fld Z h0 a1 "java/util/TreeMap$Entry" "parent" "Ljava/util/TreeMap$Entry;" u3) (F4 : Fld Z h0 a1 "java/util/TreeMap$Entry" "left" "Ljava/util/TreeMap$Entry;" .null) (F5 : Fld Z h0 a1 "java/util/TreeMap$Entry" "right" "Ljava/util/TreeMap$Entry;" .null) (g1 : n0 ≤ a1) :
    MF lh Z me26 (.code me26 jdk_2736_method_1_code 4 none) ws ⟨1, 0, 0, 12⟩ #[.ref a1, .ref a2, .ref a3, .ref a4] h0 (Q_rnEr Z a1 a2 a3 a4 u0 u1 u2 u3 h0 n0) := by
  refine own_met (y := me26) (plainFor_of_name pn_10) ?_
  intro p ev sT m below meth c T0 K hx hby hml hret hlk hown hnm hZ X0 e0 hK
  have N0 := Fr.nil n0
  have D : DB p c Ld25 := DB.of hx hby d25
  refine Rch.cast (g' := mkF m 0 #[.val (.ref a1), .val (.ref a2), .val (.ref a3), .val (.ref a4)] []) (by first | rfl | simp [entryFrame, mkF, argsToLocals, Value.category]) ?_
  refine zaN X0 D 0 rfl rfl rfl rfl ?_
  obtain ⟨T178, X178, e178, st178⟩ := initO X0 hx hZ hown (ow hw 214 rfl) (ow hw 7 rfl) (ow hw 8 rfl) e0 (g := (mkF m 1 #[.val (.ref a1), .val (.ref a2), .val (.ref a3), .val (.ref a4)] [.ref a1])) rfl (by rw [hml]; rfl) rfl (D.on 1 rfl) (by decide) (W := 0) (by show 2 * 0 + _ ≤ _; exact Nat.le_of_eq rfl) (by decide)
  refine Rch.of (T' := T178) (g' := (mkF m 4 #[.val (.ref a1), .val (.ref a2), .val (.ref a3), .val (.ref a4)] [])) st178 ?_
  refine zaN X178 D 2 rfl rfl rfl rfl (zic X178 D 3 1 rfl rfl rfl ?_)
  obtain ⟨T179, h179, X179, e179, W179, st179⟩ := putFN X178 hx hZ hown (ow hw 215 rfl) Via.refl e178 F0 E1 (Or.inl (ow hw 216 rfl)) (ow hw 208 rfl) (ty := .boolean) (v' := (.int (1 : Int32))) (by decide) rfl rfl (g := (mkF m 6 #[.val (.ref a1), .val (.ref a2), .val (.ref a3), .val (.ref a4)] [.int (1 : Int32), .ref a1])) rfl rfl (D.on 4 rfl)
  have N179 := Fr.snoc X179 N0 g1
  have Fw179 := Fld.same W179 F0
  refine Rch.of (T' := T179) (g' := (mkF m 9 #[.val (.ref a1), .val (.ref a2), .val (.ref a3), .val (.ref a4)] [])) st179 ?_
  refine zaN X179 D 5 rfl rfl rfl rfl (zaN X179 D 6 rfl rfl rfl rfl (zpf X179 D 7 hZ hown (ow hw 217 rfl) e179 (F1.other W179 (Or.inr (sn15 hw))) (E1.wr W179) (Or.inl (ow hw 218 rfl)) (ow hw 208 rfl) (.object "java/lang/Object") (by decide) rfl rfl rfl rfl fun T180 h180 X180 e180 W180 => ?_))
  have N180 := Fr.snoc X180 N179 g1
  have Fw180 := Fld.same W180 (F1.other W179 (Or.inr (sn15 hw)))
  refine zaN X180 D 8 rfl rfl rfl rfl (zaN X180 D 9 rfl rfl rfl rfl (zpf X180 D 10 hZ hown (ow hw 219 rfl) e180 ((F2.other W179 (Or.inr (sn16 hw))).other W180 (Or.inr (sn21 hw))) ((E1.wr W179).wr W180) (Or.inl (ow hw 220 rfl)) (ow hw 208 rfl) (.object "java/lang/Object") (by decide) rfl rfl rfl rfl fun T181 h181 X181 e181 W181 => ?_))
  have N181 := Fr.snoc X181 N180 g1
  have Fw181 := Fld.same W181 ((F2.other W179 (Or.inr (sn16 hw))).other W180 (Or.inr (sn21 hw)))
  have Fb182 := ((((Keep.refl h0 [a1]).wr W179 (Or.inl (List.mem_of_getElem? (i := 0) rfl))).wr W180 (Or.inl (List.mem_of_getElem? (i := 0) rfl))).wr W181 (Or.inl (List.mem_of_getElem? (i := 0) rfl)))
  refine zaN X181 D 11 rfl rfl rfl rfl (zaN X181 D 12 rfl rfl rfl rfl (zpf X181 D 13 hZ hown (ow hw 221 rfl) e181 (((F3.other W179 (Or.inr (sn17 hw))).other W180 (Or.inr (sn22 hw))).other W181 (Or.inr (sn27 hw))) (((E1.wr W179).wr W180).wr W181) (Or.inl (ow hw 222 rfl)) (ow hw 208 rfl) (.object "java/util/TreeMap$Entry") (by decide) rfl rfl rfl rfl fun T183 h183 X183 e183 W183 => ?_))
  have N183 := Fr.snoc X183 N181 g1
  have Fw183 := Fld.same W183 (((F3.other W179 (Or.inr (sn17 hw))).other W180 (Or.inr (sn22 hw))).other W181 (Or.inr (sn27 hw)))
  exact Rch.retV X183 hx hret hlk (D.on 14 rfl) (fun U hU hF => hK _ U _ _ _ (by show Q_rnEr Z a1 a2 a3 a4 u0 u1 u2 u3 h0 n0 _ U.heap _; rw [hU, e183]; exact ⟨rfl, N183, (Fb182.wr W183 (Or.inl (List.mem_of_getElem? (i := 0) rfl))), ((((E1.wr W179).wr W180).wr W181).wr W183), (((Fw179.other W180 (Or.inr (sn20 hw))).other W181 (Or.inr (sn25 hw))).other W183 (Or.inr (sn30 hw))), ((Fw180.other W181 (Or.inr (sn26 hw))).other W183 (Or.inr (sn31 hw))), (Fw181.other W183 (Or.inr (sn32 hw))), Fw183, ((((F4.other W179 (Or.inr (sn18 hw))).other W180 (Or.inr (sn23 hw))).other W181 (Or.inr (sn28 hw))).other W183 (Or.inr (sn33 hw))), ((((F5.other W179 (Or.inr (sn19 hw))).other W180 (Or.inr (sn24 hw))).other W181 (Or.inr (sn29 hw))).other W183 (Or.inr (sn34 hw)))⟩) hF (by decide) (by decide))
def Q_rnTC (Z : State) (a1 a2 a3 rc : Addr) (x1 x2 : Int32) (h0 : Heap) (n0 : Nat) (vv_ : Option Value) (h : Heap) (LL_ : List Loc) : Prop := vv_ = some (.int (own_cmp x2 x1)) ∧ Fr n0 LL_ ∧ (h = h0)
def Ld26 : List (Nat × Instr × Nat) := [(0, .aload_n 0, 1), (1, .getfield 16, 3), (4, .ifnonnull 16, 3), (20, .aload_n 0, 1), (21, .getfield 16, 3), (24, .aload_n 1, 1), (25, .aload_n 2, 1), (26, .invokeinterface 117 3, 5), (31, .ireturn, 1)]
theorem d26 : ∀ q ∈ Ld26, decode jdk_2729_method_67_code q.1 = .ok q.2 := by decide +kernel
abbrev me27 : MethodName := ⟨"java/util/TreeMap", "compare", "(Ljava/lang/Object;Ljava/lang/Object;)I"⟩
abbrev me28 : MethodName := ⟨"java/util/Comparator", "compare", "(Ljava/lang/Object;Ljava/lang/Object;)I"⟩
theorem rnTC (lh : Launch) (Z : State) (a0 : Array Value) (hw : HW a0 Z) (ws : List Jvm.Cond) (a1 a2 a3 rc : Addr) (x1 x2 : Int32) (h0 : Heap) (n0 : Nat) (Z0 : n0 ≤ h0.size) (E1 : Exa Z h0 a1 "java/util/TreeMap") (F1 : Fld Z h0 a1 "java/util/TreeMap" "comparator" "Ljava/util/Comparator;" (.ref rc)) (Erc : Exa Z h0 rc "java/util/Collections$ReverseComparator") (Ek1 : Exa Z h0 a2 "java/lang/Integer") (Fk1 : Fld Z h0 a2 "java/lang/Integer" "value" "I" (.int x1)) (Ek2 : Exa Z h0 a3 "java/lang/Integer") (Fk2 : Fld Z h0 a3 "java/lang/Integer" "value" "I" (.int x2)) :
    MF lh Z me27 (.code me27 jdk_2729_method_67_code 3 (some .int)) ws ⟨5, 0, 0, 67⟩ #[.ref a1, .ref a2, .ref a3] h0 (Q_rnTC Z a1 a2 a3 rc x1 x2 h0 n0) := by
  refine own_met (y := me27) (plainFor_of_name pn_9) ?_
  intro p ev sT m below meth c T0 K hx hby hml hret hlk hown hnm hZ X0 e0 hK
  have N0 := Fr.nil n0
  have D : DB p c Ld26 := DB.of hx hby d26
  refine Rch.cast (g' := mkF m 0 #[.val (.ref a1), .val (.ref a2), .val (.ref a3)] []) (by first | rfl | simp [entryFrame, mkF, argsToLocals, Value.category]) ?_
  refine zaN X0 D 0 rfl rfl rfl rfl (zgf X0 D 1 hZ hown (ow hw 36 rfl) e0 F1 rfl rfl fun T184 X184 e184 => ?_)
  refine zifnonnullYes X184 D 2 20 rfl rfl rfl (zaN X184 D 3 rfl rfl rfl rfl (zgf X184 D 4 hZ hown (ow hw 36 rfl) e184 F1 rfl rfl fun T185 X185 e185 => ?_))
  refine zaN X185 D 5 rfl rfl rfl rfl (zaN X185 D 6 rfl rfl rfl rfl (zib X185 D 7 hZ me28 me21 hown (ow hw 175 rfl) (ow hw 176 rfl) (mvT hZ (ow hw 177 rfl)) (ow hw 178 rfl) (ow hw 179 rfl) (ow hw 180 rfl) (ow hw 181 rfl) (ow hw 182 rfl) (ow hw 183 rfl) (ow hw 21 rfl) e185 Erc (rnC4 lh Z a0 hw [] rc a2 a3 x1 x2 h0 n0 Z0 Erc Ek1 Fk1 Ek2 Fk2) hml [.ref a2, .ref a3] [] (lenOf pd_13 rfl) rfl rfl rfl rfl rfl rfl (by decide) (by decide) fun v186 T186 L186 X186 hQ186 => ?_))
  obtain ⟨rfl, N186q, hQ186⟩ := hQ186
  have N186 := Fr.app N0 N186q
  exact Rch.retI X186 hx hret hlk (D.on 8 rfl) (fun U hU hF => hK _ U _ _ _ (by show Q_rnTC Z a1 a2 a3 rc x1 x2 h0 n0 _ U.heap _; rw [hU, hQ186]; exact ⟨rfl, N186, rfl⟩) hF (by decide) (by decide))
def Q_rnGU0 (Z : State) (a1 a2 rc e1 k1 : Addr) (x1 : Int32) (h0 : Heap) (n0 : Nat) (vv_ : Option Value) (h : Heap) (LL_ : List Loc) : Prop := vv_ = some (.ref e1) ∧ Fr n0 LL_ ∧ (h = h0)
def Ld27 : List (Nat × Instr × Nat) := [(0, .aload_n 1, 1), (1, .astore_n 2, 1), (2, .aload_n 0, 1), (3, .getfield 16, 3), (6, .astore_n 3, 1), (7, .aload_n 3, 1), (8, .ifnull 64, 3), (11, .aload_n 0, 1), (12, .getfield 101, 3), (15, .astore 4, 2), (17, .aload 4, 2), (19, .ifnull 53, 3), (22, .aload_n 3, 1), (23, .aload_n 2, 1), (24, .aload 4, 2), (26, .getfield 105, 3), (29, .invokeinterface 117 3, 5), (34, .istore 5, 2), (36, .iload 5, 2), (38, .ifCond .ge 13, 3), (51, .iload 5, 2), (53, .ifCond .le 13, 3), (66, .aload 4, 2), (68, .areturn, 1), (41, .aload 4, 2), (43, .getfield 111, 3), (46, .astore 4, 2), (48, .goto 21, 3), (69, .goto (-52), 3), (56, .aload 4, 2), (58, .getfield 114, 3), (61, .astore 4, 2), (63, .goto 6, 3)]
theorem d27 : ∀ q ∈ Ld27, decode jdk_2729_method_16_code q.1 = .ok q.2 := by decide +kernel
abbrev me29 : MethodName := ⟨"java/util/TreeMap", "getEntryUsingComparator", "(Ljava/lang/Object;)Ljava/util/TreeMap$Entry;"⟩
theorem rnGU0 (lh : Launch) (Z : State) (a0 : Array Value) (hw : HW a0 Z) (ws : List Jvm.Cond) (a1 a2 rc e1 k1 : Addr) (x1 : Int32) (h0 : Heap) (n0 : Nat) (Z0 : n0 ≤ h0.size) (E1 : Exa Z h0 a1 "java/util/TreeMap") (F1 : Fld Z h0 a1 "java/util/TreeMap" "comparator" "Ljava/util/Comparator;" (.ref rc)) (Erc : Exa Z h0 rc "java/util/Collections$ReverseComparator") (F2 : Fld Z h0 a1 "java/util/TreeMap" "root" "Ljava/util/TreeMap$Entry;" (.ref e1)) (F3 : Fld Z h0 e1 "java/util/TreeMap$Entry" "key" "Ljava/lang/Object;" (.ref k1)) (Ek1 : Exa Z h0 k1 "java/lang/Integer") (Fk1 : Fld Z h0 k1 "java/lang/Integer" "value" "I" (.int x1)) (Ek3 : Exa Z h0 a2 "java/lang/Integer") (Fk3 : Fld Z h0 a2 "java/lang/Integer" "value" "I" (.int x1)) :
    MF lh Z me29 (.code me29 jdk_2729_method_16_code 6 (some (.object "java/util/TreeMap$Entry"))) ws ⟨5, 0, 0, 67⟩ #[.ref a1, .ref a2] h0 (Q_rnGU0 Z a1 a2 rc e1 k1 x1 h0 n0) := by
  refine own_met (y := me29) (plainFor_of_name pn_9) ?_
  intro p ev sT m below meth c T0 K hx hby hml hret hlk hown hnm hZ X0 e0 hK
  have N0 := Fr.nil n0
  have D : DB p c Ld27 := DB.of hx hby d27
  refine Rch.cast (g' := mkF m 0 #[.val (.ref a1), .val (.ref a2), .unset, .unset, .unset, .unset] []) (by first | rfl | simp [entryFrame, mkF, argsToLocals, Value.category]) ?_
  have kn187 : ¬ ((own_cmp x1 x1) < (0 : Int32)) := fun q => Int32.lt_irrefl (own_cmp_lt.mp q)
  have kn188 : ¬ ((0 : Int32) < (own_cmp x1 x1)) := fun q => Int32.lt_irrefl (own_cmp_gt.mp q)
  refine zaN X0 D 0 rfl rfl rfl rfl (zat X0 D 1 (l' := #[.val (.ref a1), .val (.ref a2), .val (.ref a2), .unset, .unset, .unset]) rfl rfl rfl rfl (zaN X0 D 2 rfl rfl rfl rfl (zgf X0 D 3 hZ hown (ow hw 36 rfl) e0 F1 rfl rfl fun T189 X189 e189 => ?_)))
  refine zat X189 D 4 (l' := #[.val (.ref a1), .val (.ref a2), .val (.ref a2), .val (.ref rc), .unset, .unset]) rfl rfl rfl rfl (zaN X189 D 5 rfl rfl rfl rfl (zifnullNo X189 D 6 rfl rfl (zaN X189 D 7 rfl rfl rfl rfl (zgf X189 D 8 hZ hown (ow hw 94 rfl) e189 F2 rfl rfl fun T190 X190 e190 => ?_))))
  refine zas X190 D 9 (l' := #[.val (.ref a1), .val (.ref a2), .val (.ref a2), .val (.ref rc), .val (.ref e1), .unset]) rfl rfl rfl rfl (za X190 D 10 rfl rfl rfl rfl (zifnullNo X190 D 11 rfl rfl (zaN X190 D 12 rfl rfl rfl rfl (zaN X190 D 13 rfl rfl rfl rfl (za X190 D 14 rfl rfl rfl rfl (zgf X190 D 15 hZ hown (ow hw 306 rfl) e190 F3 rfl rfl fun T191 X191 e191 => ?_))))))
  refine zib X191 D 16 hZ me28 me21 hown (ow hw 175 rfl) (ow hw 176 rfl) (mvT hZ (ow hw 177 rfl)) (ow hw 178 rfl) (ow hw 179 rfl) (ow hw 180 rfl) (ow hw 181 rfl) (ow hw 182 rfl) (ow hw 183 rfl) (ow hw 21 rfl) e191 Erc (rnC4 lh Z a0 hw [] rc a2 k1 x1 x1 h0 n0 Z0 Erc Ek3 Fk3 Ek1 Fk1) hml [.ref a2, .ref k1] [] (lenOf pd_13 rfl) rfl rfl rfl rfl rfl rfl (by decide) (by decide) fun v192 T192 L192 X192 hQ192 => ?_
  obtain ⟨rfl, N192q, hQ192⟩ := hQ192
  have N192 := Fr.app N0 N192q
  refine zis X192 D 17 (l' := #[.val (.ref a1), .val (.ref a2), .val (.ref a2), .val (.ref rc), .val (.ref e1), .val (.int (own_cmp x1 x1))]) rfl rfl rfl (zi X192 D 18 rfl rfl rfl  (zY X192 D 19 51 rfl rfl ((if0 _ _).trans (flt kn187).2.1) rfl (zi X192 D 20 rfl rfl rfl  (zY X192 D 21 66 rfl rfl ((if0 _ _).trans (flt kn188).2.2.2) rfl (za X192 D 22 rfl rfl rfl rfl ?_)))))
  exact Rch.retA X192 hx (w := (.ref e1)) hret rfl rfl hlk (D.on 23 rfl) (fun U hU hF => hK _ U _ _ _ (by show Q_rnGU0 Z a1 a2 rc e1 k1 x1 h0 n0 _ U.heap _; rw [hU, hQ192]; exact ⟨rfl, N192, rfl⟩) hF (by decide) (by decide))
def Q_rnGU1 (Z : State) (a1 a2 rc e1 k1 : Addr) (x1 : Int32) (e2 k2 : Addr) (x2 : Int32) (h0 : Heap) (n0 : Nat) (vv_ : Option Value) (h : Heap) (LL_ : List Loc) : Prop := vv_ = some (.ref e2) ∧ Fr n0 LL_ ∧ (h = h0)
theorem rnGU1 (lh : Launch) (Z : State) (a0 : Array Value) (hw : HW a0 Z) (ws : List Jvm.Cond) (a1 a2 rc e1 k1 : Addr) (x1 : Int32) (e2 k2 : Addr) (x2 : Int32) (h0 : Heap) (n0 : Nat) (Z0 : n0 ≤ h0.size) (E1 : Exa Z h0 a1 "java/util/TreeMap") (F1 : Fld Z h0 a1 "java/util/TreeMap" "comparator" "Ljava/util/Comparator;" (.ref rc)) (Erc : Exa Z h0 rc "java/util/Collections$ReverseComparator") (F2 : Fld Z h0 a1 "java/util/TreeMap" "root" "Ljava/util/TreeMap$Entry;" (.ref e1)) (F3 : Fld Z h0 e1 "java/util/TreeMap$Entry" "key" "Ljava/lang/Object;" (.ref k1)) (Ek1 : Exa Z h0 k1 "java/lang/Integer") (Fk1 : Fld Z h0 k1 "java/lang/Integer" "value" "I" (.int x1)) (F4 : Fld Z h0 e1 "java/util/TreeMap$Entry" "left" "Ljava/util/TreeMap$Entry;" (.ref e2)) (F5 : Fld Z h0 e2 "java/util/TreeMap$Entry" "key" "Ljava/lang/Object;" (.ref k2)) (Ek2 : Exa Z h0 k2 "java/lang/Integer") (Fk2 : Fld Z h0 k2 "java/lang/Integer" "value" "I" (.int x2)) (hx12 : x1 < x2) (Ek3 : Exa Z h0 a2 "java/lang/Integer") (Fk3 : Fld Z h0 a2 "java/lang/Integer" "value" "I" (.int x2)) :
    MF lh Z me29 (.code me29 jdk_2729_method_16_code 6 (some (.object "java/util/TreeMap$Entry"))) ws ⟨5, 0, 0, 67⟩ #[.ref a1, .ref a2] h0 (Q_rnGU1 Z a1 a2 rc e1 k1 x1 e2 k2 x2 h0 n0) := by
  refine own_met (y := me29) (plainFor_of_name pn_9) ?_
  intro p ev sT m below meth c T0 K hx hby hml hret hlk hown hnm hZ X0 e0 hK
  have N0 := Fr.nil n0
  have D : DB p c Ld27 := DB.of hx hby d27
  refine Rch.cast (g' := mkF m 0 #[.val (.ref a1), .val (.ref a2), .unset, .unset, .unset, .unset] []) (by first | rfl | simp [entryFrame, mkF, argsToLocals, Value.category]) ?_
  have kn193 : ¬ ((own_cmp x2 x2) < (0 : Int32)) := fun q => Int32.lt_irrefl (own_cmp_lt.mp q)
  have kn194 : ¬ ((0 : Int32) < (own_cmp x2 x2)) := fun q => Int32.lt_irrefl (own_cmp_gt.mp q)
  have kn195 : (own_cmp x1 x2) < (0 : Int32) := own_cmp_lt.mpr hx12
  refine zaN X0 D 0 rfl rfl rfl rfl (zat X0 D 1 (l' := #[.val (.ref a1), .val (.ref a2), .val (.ref a2), .unset, .unset, .unset]) rfl rfl rfl rfl (zaN X0 D 2 rfl rfl rfl rfl (zgf X0 D 3 hZ hown (ow hw 36 rfl) e0 F1 rfl rfl fun T196 X196 e196 => ?_)))
  refine zat X196 D 4 (l' := #[.val (.ref a1), .val (.ref a2), .val (.ref a2), .val (.ref rc), .unset, .unset]) rfl rfl rfl rfl (zaN X196 D 5 rfl rfl rfl rfl (zifnullNo X196 D 6 rfl rfl (zaN X196 D 7 rfl rfl rfl rfl (zgf X196 D 8 hZ hown (ow hw 94 rfl) e196 F2 rfl rfl fun T197 X197 e197 => ?_))))
  refine zas X197 D 9 (l' := #[.val (.ref a1), .val (.ref a2), .val (.ref a2), .val (.ref rc), .val (.ref e1), .unset]) rfl rfl rfl rfl (za X197 D 10 rfl rfl rfl rfl (zifnullNo X197 D 11 rfl rfl (zaN X197 D 12 rfl rfl rfl rfl (zaN X197 D 13 rfl rfl rfl rfl (za X197 D 14 rfl rfl rfl rfl (zgf X197 D 15 hZ hown (ow hw 306 rfl) e197 F3 rfl rfl fun T198 X198 e198 => ?_))))))
  refine zib X198 D 16 hZ me28 me21 hown (ow hw 175 rfl) (ow hw 176 rfl) (mvT hZ (ow hw 177 rfl)) (ow hw 178 rfl) (ow hw 179 rfl) (ow hw 180 rfl) (ow hw 181 rfl) (ow hw 182 rfl) (ow hw 183 rfl) (ow hw 21 rfl) e198 Erc (rnC4 lh Z a0 hw [] rc a2 k1 x2 x1 h0 n0 Z0 Erc Ek3 Fk3 Ek1 Fk1) hml [.ref a2, .ref k1] [] (lenOf pd_13 rfl) rfl rfl rfl rfl rfl rfl (by decide) (by decide) fun v199 T199 L199 X199 hQ199 => ?_
  obtain ⟨rfl, N199q, hQ199⟩ := hQ199
  have N199 := Fr.app N0 N199q
  refine zis X199 D 17 (l' := #[.val (.ref a1), .val (.ref a2), .val (.ref a2), .val (.ref rc), .val (.ref e1), .val (.int (own_cmp x1 x2))]) rfl rfl rfl (zi X199 D 18 rfl rfl rfl  (zN X199 D 19 rfl rfl ((if0 _ _).trans (tlt kn195).2.1) (za X199 D 24 rfl rfl rfl rfl (zgf X199 D 25 hZ hown (ow hw 349 rfl) hQ199 F4 rfl rfl fun T200 X200 e200 => ?_))))
  refine zas X200 D 26 (l' := #[.val (.ref a1), .val (.ref a2), .val (.ref a2), .val (.ref rc), .val (.ref e2), .val (.int (own_cmp x1 x2))]) rfl rfl rfl rfl (zgo X200 D 27 69 rfl rfl rfl (zgo X200 D 28 17 rfl rfl rfl (za X200 D 10 rfl rfl rfl rfl (zifnullNo X200 D 11 rfl rfl (zaN X200 D 12 rfl rfl rfl rfl (zaN X200 D 13 rfl rfl rfl rfl (za X200 D 14 rfl rfl rfl rfl (zgf X200 D 15 hZ hown (ow hw 306 rfl) e200 F5 rfl rfl fun T201 X201 e201 => ?_))))))))
  refine zib X201 D 16 hZ me28 me21 hown (ow hw 175 rfl) (ow hw 176 rfl) (mvT hZ (ow hw 177 rfl)) (ow hw 178 rfl) (ow hw 179 rfl) (ow hw 180 rfl) (ow hw 181 rfl) (ow hw 182 rfl) (ow hw 183 rfl) (ow hw 21 rfl) e201 Erc (rnC4 lh Z a0 hw [] rc a2 k2 x2 x2 h0 n0 Z0 Erc Ek3 Fk3 Ek2 Fk2) hml [.ref a2, .ref k2] [] (lenOf pd_13 rfl) rfl rfl rfl rfl rfl rfl (by decide) (by decide) fun v202 T202 L202 X202 hQ202 => ?_
  obtain ⟨rfl, N202q, hQ202⟩ := hQ202
  have N202 := Fr.app N199 N202q
  refine zis X202 D 17 (l' := #[.val (.ref a1), .val (.ref a2), .val (.ref a2), .val (.ref rc), .val (.ref e2), .val (.int (own_cmp x2 x2))]) rfl rfl rfl (zi X202 D 18 rfl rfl rfl  (zY X202 D 19 51 rfl rfl ((if0 _ _).trans (flt kn193).2.1) rfl (zi X202 D 20 rfl rfl rfl  (zY X202 D 21 66 rfl rfl ((if0 _ _).trans (flt kn194).2.2.2) rfl (za X202 D 22 rfl rfl rfl rfl ?_)))))
  exact Rch.retA X202 hx (w := (.ref e2)) hret rfl rfl hlk (D.on 23 rfl) (fun U hU hF => hK _ U _ _ _ (by show Q_rnGU1 Z a1 a2 rc e1 k1 x1 e2 k2 x2 h0 n0 _ U.heap _; rw [hU, hQ202]; exact ⟨rfl, N202, rfl⟩) hF (by decide) (by decide))
def Q_rnGU2 (Z : State) (a1 a2 rc e1 k1 : Addr) (x1 : Int32) (e2 k2 : Addr) (x2 : Int32) (h0 : Heap) (n0 : Nat) (vv_ : Option Value) (h : Heap) (LL_ : List Loc) : Prop := vv_ = some (.ref e2) ∧ Fr n0 LL_ ∧ (h = h0)
theorem rnGU2 (lh : Launch) (Z : State) (a0 : Array Value) (hw : HW a0 Z) (ws : List Jvm.Cond) (a1 a2 rc e1 k1 : Addr) (x1 : Int32) (e2 k2 : Addr) (x2 : Int32) (h0 : Heap) (n0 : Nat) (Z0 : n0 ≤ h0.size) (E1 : Exa Z h0 a1 "java/util/TreeMap") (F1 : Fld Z h0 a1 "java/util/TreeMap" "comparator" "Ljava/util/Comparator;" (.ref rc)) (Erc : Exa Z h0 rc "java/util/Collections$ReverseComparator") (F2 : Fld Z h0 a1 "java/util/TreeMap" "root" "Ljava/util/TreeMap$Entry;" (.ref e1)) (F3 : Fld Z h0 e1 "java/util/TreeMap$Entry" "key" "Ljava/lang/Object;" (.ref k1)) (Ek1 : Exa Z h0 k1 "java/lang/Integer") (Fk1 : Fld Z h0 k1 "java/lang/Integer" "value" "I" (.int x1)) (F4 : Fld Z h0 e1 "java/util/TreeMap$Entry" "right" "Ljava/util/TreeMap$Entry;" (.ref e2)) (F5 : Fld Z h0 e2 "java/util/TreeMap$Entry" "key" "Ljava/lang/Object;" (.ref k2)) (Ek2 : Exa Z h0 k2 "java/lang/Integer") (Fk2 : Fld Z h0 k2 "java/lang/Integer" "value" "I" (.int x2)) (hx12 : x2 < x1) (Ek3 : Exa Z h0 a2 "java/lang/Integer") (Fk3 : Fld Z h0 a2 "java/lang/Integer" "value" "I" (.int x2)) :
    MF lh Z me29 (.code me29 jdk_2729_method_16_code 6 (some (.object "java/util/TreeMap$Entry"))) ws ⟨5, 0, 0, 67⟩ #[.ref a1, .ref a2] h0 (Q_rnGU2 Z a1 a2 rc e1 k1 x1 e2 k2 x2 h0 n0) := by
  refine own_met (y := me29) (plainFor_of_name pn_9) ?_
  intro p ev sT m below meth c T0 K hx hby hml hret hlk hown hnm hZ X0 e0 hK
  have N0 := Fr.nil n0
  have D : DB p c Ld27 := DB.of hx hby d27
  refine Rch.cast (g' := mkF m 0 #[.val (.ref a1), .val (.ref a2), .unset, .unset, .unset, .unset] []) (by first | rfl | simp [entryFrame, mkF, argsToLocals, Value.category]) ?_
  have kn203 : ¬ ((own_cmp x2 x2) < (0 : Int32)) := fun q => Int32.lt_irrefl (own_cmp_lt.mp q)
  have kn204 : ¬ ((0 : Int32) < (own_cmp x2 x2)) := fun q => Int32.lt_irrefl (own_cmp_gt.mp q)
  have kn205 : ¬ ((own_cmp x1 x2) < (0 : Int32)) := fun q => Int32.lt_asymm (own_cmp_lt.mp q) hx12
  have kn206 : (0 : Int32) < (own_cmp x1 x2) := own_cmp_gt.mpr hx12
  refine zaN X0 D 0 rfl rfl rfl rfl (zat X0 D 1 (l' := #[.val (.ref a1), .val (.ref a2), .val (.ref a2), .unset, .unset, .unset]) rfl rfl rfl rfl (zaN X0 D 2 rfl rfl rfl rfl (zgf X0 D 3 hZ hown (ow hw 36 rfl) e0 F1 rfl rfl fun T207 X207 e207 => ?_)))
  refine zat X207 D 4 (l' := #[.val (.ref a1), .val (.ref a2), .val (.ref a2), .val (.ref rc), .unset, .unset]) rfl rfl rfl rfl (zaN X207 D 5 rfl rfl rfl rfl (zifnullNo X207 D 6 rfl rfl (zaN X207 D 7 rfl rfl rfl rfl (zgf X207 D 8 hZ hown (ow hw 94 rfl) e207 F2 rfl rfl fun T208 X208 e208 => ?_))))
  refine zas X208 D 9 (l' := #[.val (.ref a1), .val (.ref a2), .val (.ref a2), .val (.ref rc), .val (.ref e1), .unset]) rfl rfl rfl rfl (za X208 D 10 rfl rfl rfl rfl (zifnullNo X208 D 11 rfl rfl (zaN X208 D 12 rfl rfl rfl rfl (zaN X208 D 13 rfl rfl rfl rfl (za X208 D 14 rfl rfl rfl rfl (zgf X208 D 15 hZ hown (ow hw 306 rfl) e208 F3 rfl rfl fun T209 X209 e209 => ?_))))))
  refine zib X209 D 16 hZ me28 me21 hown (ow hw 175 rfl) (ow hw 176 rfl) (mvT hZ (ow hw 177 rfl)) (ow hw 178 rfl) (ow hw 179 rfl) (ow hw 180 rfl) (ow hw 181 rfl) (ow hw 182 rfl) (ow hw 183 rfl) (ow hw 21 rfl) e209 Erc (rnC4 lh Z a0 hw [] rc a2 k1 x2 x1 h0 n0 Z0 Erc Ek3 Fk3 Ek1 Fk1) hml [.ref a2, .ref k1] [] (lenOf pd_13 rfl) rfl rfl rfl rfl rfl rfl (by decide) (by decide) fun v210 T210 L210 X210 hQ210 => ?_
  obtain ⟨rfl, N210q, hQ210⟩ := hQ210
  have N210 := Fr.app N0 N210q
  refine zis X210 D 17 (l' := #[.val (.ref a1), .val (.ref a2), .val (.ref a2), .val (.ref rc), .val (.ref e1), .val (.int (own_cmp x1 x2))]) rfl rfl rfl (zi X210 D 18 rfl rfl rfl  (zY X210 D 19 51 rfl rfl ((if0 _ _).trans (flt kn205).2.1) rfl (zi X210 D 20 rfl rfl rfl  (zN X210 D 21 rfl rfl ((if0 _ _).trans (tlt kn206).2.2.2) (za X210 D 29 rfl rfl rfl rfl (zgf X210 D 30 hZ hown (ow hw 351 rfl) hQ210 F4 rfl rfl fun T211 X211 e211 => ?_))))))
  refine zas X211 D 31 (l' := #[.val (.ref a1), .val (.ref a2), .val (.ref a2), .val (.ref rc), .val (.ref e2), .val (.int (own_cmp x1 x2))]) rfl rfl rfl rfl (zgo X211 D 32 69 rfl rfl rfl (zgo X211 D 28 17 rfl rfl rfl (za X211 D 10 rfl rfl rfl rfl (zifnullNo X211 D 11 rfl rfl (zaN X211 D 12 rfl rfl rfl rfl (zaN X211 D 13 rfl rfl rfl rfl (za X211 D 14 rfl rfl rfl rfl (zgf X211 D 15 hZ hown (ow hw 306 rfl) e211 F5 rfl rfl fun T212 X212 e212 => ?_))))))))
  refine zib X212 D 16 hZ me28 me21 hown (ow hw 175 rfl) (ow hw 176 rfl) (mvT hZ (ow hw 177 rfl)) (ow hw 178 rfl) (ow hw 179 rfl) (ow hw 180 rfl) (ow hw 181 rfl) (ow hw 182 rfl) (ow hw 183 rfl) (ow hw 21 rfl) e212 Erc (rnC4 lh Z a0 hw [] rc a2 k2 x2 x2 h0 n0 Z0 Erc Ek3 Fk3 Ek2 Fk2) hml [.ref a2, .ref k2] [] (lenOf pd_13 rfl) rfl rfl rfl rfl rfl rfl (by decide) (by decide) fun v213 T213 L213 X213 hQ213 => ?_
  obtain ⟨rfl, N213q, hQ213⟩ := hQ213
  have N213 := Fr.app N210 N213q
  refine zis X213 D 17 (l' := #[.val (.ref a1), .val (.ref a2), .val (.ref a2), .val (.ref rc), .val (.ref e2), .val (.int (own_cmp x2 x2))]) rfl rfl rfl (zi X213 D 18 rfl rfl rfl  (zY X213 D 19 51 rfl rfl ((if0 _ _).trans (flt kn203).2.1) rfl (zi X213 D 20 rfl rfl rfl  (zY X213 D 21 66 rfl rfl ((if0 _ _).trans (flt kn204).2.2.2) rfl (za X213 D 22 rfl rfl rfl rfl ?_)))))
  exact Rch.retA X213 hx (w := (.ref e2)) hret rfl rfl hlk (D.on 23 rfl) (fun U hU hF => hK _ U _ _ _ (by show Q_rnGU2 Z a1 a2 rc e1 k1 x1 e2 k2 x2 h0 n0 _ U.heap _; rw [hU, hQ213]; exact ⟨rfl, N213, rfl⟩) hF (by decide) (by decide))
def own_EN (Z : State) (h : Heap) (e : Addr) (k : Addr) (l : Addr) (pa_ : Value) (le : Value) (ri : Value) (co : Int32) : Prop := (Exa Z h e "java/util/TreeMap$Entry") ∧ (Fld Z h e "java/util/TreeMap$Entry" "color" "Z" (.int co)) ∧ (Fld Z h e "java/util/TreeMap$Entry" "key" "Ljava/lang/Object;" (.ref k)) ∧ (Fld Z h e "java/util/TreeMap$Entry" "value" "Ljava/lang/Object;" (.ref l)) ∧ (Fld Z h e "java/util/TreeMap$Entry" "parent" "Ljava/util/TreeMap$Entry;" pa_) ∧ (Fld Z h e "java/util/TreeMap$Entry" "left" "Ljava/util/TreeMap$Entry;" le) ∧ (Fld Z h e "java/util/TreeMap$Entry" "right" "Ljava/util/TreeMap$Entry;" ri)
theorem own_EN.keep {Z : State} {h h' : Heap} {ws : List Addr} {e : Addr} {k : Addr} {l : Addr} {pa_ : Value} {le : Value} {ri : Value} {co : Int32} (H : own_EN Z h e k l pa_ le ri co) (K : Keep h h' ws) (n_e : e ∉ ws) : own_EN Z h' e k l pa_ le ri co := by
  obtain ⟨f0, f1, f2, f3, f4, f5, f6⟩ := H
  exact ⟨f0.keep K, f1.keep K n_e, f2.keep K n_e, f3.keep K n_e, f4.keep K n_e, f5.keep K n_e, f6.keep K n_e⟩
theorem own_EN.ext {Z : State} {h h' : Heap} {e : Addr} {k : Addr} {l : Addr} {pa_ : Value} {le : Value} {ri : Value} {co : Int32} (H : own_EN Z h e k l pa_ le ri co) (E : Ext h h') : own_EN Z h' e k l pa_ le ri co := by
  obtain ⟨f0, f1, f2, f3, f4, f5, f6⟩ := H
  exact ⟨f0.ext E, f1.ext E, f2.ext E, f3.ext E, f4.ext E, f5.ext E, f6.ext E⟩
theorem own_EN.x_e {Z : State} {h : Heap} {e : Addr} {k : Addr} {l : Addr} {pa_ : Value} {le : Value} {ri : Value} {co : Int32} (H : own_EN Z h e k l pa_ le ri co) : Exa Z h e "java/util/TreeMap$Entry" := by
  obtain ⟨f0, f1, f2, f3, f4, f5, f6⟩ := H
  exact f0
theorem own_EN.lt_e {Z : State} {h : Heap} {e : Addr} {k : Addr} {l : Addr} {pa_ : Value} {le : Value} {ri : Value} {co : Int32} (H : own_EN Z h e k l pa_ le ri co) : e < h.size := by
  obtain ⟨f0, f1, f2, f3, f4, f5, f6⟩ := H
  exact f0.lt
def own_TM (Z : State) (h : Heap) (tm : Addr) (ro : Value) (rc : Addr) (sz : Int32) (mc : Int32) : Prop := (Exa Z h tm "java/util/TreeMap") ∧ (Fld Z h tm "java/util/TreeMap" "root" "Ljava/util/TreeMap$Entry;" ro) ∧ (Fld Z h tm "java/util/TreeMap" "size" "I" (.int sz)) ∧ (Fld Z h tm "java/util/TreeMap" "modCount" "I" (.int mc)) ∧ (Fld Z h tm "java/util/TreeMap" "comparator" "Ljava/util/Comparator;" (.ref rc)) ∧ (Exa Z h rc "java/util/Collections$ReverseComparator")
theorem own_TM.keep {Z : State} {h h' : Heap} {ws : List Addr} {tm : Addr} {ro : Value} {rc : Addr} {sz : Int32} {mc : Int32} (H : own_TM Z h tm ro rc sz mc) (K : Keep h h' ws) (n_tm : tm ∉ ws) : own_TM Z h' tm ro rc sz mc := by
  obtain ⟨f0, f1, f2, f3, f4, f5⟩ := H
  exact ⟨f0.keep K, f1.keep K n_tm, f2.keep K n_tm, f3.keep K n_tm, f4.keep K n_tm, f5.keep K⟩
theorem own_TM.ext {Z : State} {h h' : Heap} {tm : Addr} {ro : Value} {rc : Addr} {sz : Int32} {mc : Int32} (H : own_TM Z h tm ro rc sz mc) (E : Ext h h') : own_TM Z h' tm ro rc sz mc := by
  obtain ⟨f0, f1, f2, f3, f4, f5⟩ := H
  exact ⟨f0.ext E, f1.ext E, f2.ext E, f3.ext E, f4.ext E, f5.ext E⟩
theorem own_TM.x_tm {Z : State} {h : Heap} {tm : Addr} {ro : Value} {rc : Addr} {sz : Int32} {mc : Int32} (H : own_TM Z h tm ro rc sz mc) : Exa Z h tm "java/util/TreeMap" := by
  obtain ⟨f0, f1, f2, f3, f4, f5⟩ := H
  exact f0
theorem own_TM.lt_tm {Z : State} {h : Heap} {tm : Addr} {ro : Value} {rc : Addr} {sz : Int32} {mc : Int32} (H : own_TM Z h tm ro rc sz mc) : tm < h.size := by
  obtain ⟨f0, f1, f2, f3, f4, f5⟩ := H
  exact f0.lt
def own_KI (Z : State) (h : Heap) (k : Addr) (x : Int32) : Prop := (Exa Z h k "java/lang/Integer") ∧ (Fld Z h k "java/lang/Integer" "value" "I" (.int x))
theorem own_KI.keep {Z : State} {h h' : Heap} {ws : List Addr} {k : Addr} {x : Int32} (H : own_KI Z h k x) (K : Keep h h' ws) (n_k : k ∉ ws) : own_KI Z h' k x := by
  obtain ⟨f0, f1⟩ := H
  exact ⟨f0.keep K, f1.keep K n_k⟩
theorem own_KI.ext {Z : State} {h h' : Heap} {k : Addr} {x : Int32} (H : own_KI Z h k x) (E : Ext h h') : own_KI Z h' k x := by
  obtain ⟨f0, f1⟩ := H
  exact ⟨f0.ext E, f1.ext E⟩
theorem own_KI.x_k {Z : State} {h : Heap} {k : Addr} {x : Int32} (H : own_KI Z h k x) : Exa Z h k "java/lang/Integer" := by
  obtain ⟨f0, f1⟩ := H
  exact f0
def Q_rnSC (Z : State) (e1 k1 l1 : Addr) (pa_ le ri : Value) (co : Int32) (h0 : Heap) (n0 : Nat) (vv_ : Option Value) (h : Heap) (LL_ : List Loc) : Prop := vv_ = none ∧ Fr n0 LL_ ∧ (Keep h0 h [e1] ∧ own_EN Z h e1 k1 l1 pa_ le ri (1 : Int32))
def Ld28 : List (Nat × Instr × Nat) := [(0, .aload_n 0, 1), (1, .ifnull 8, 3), (4, .aload_n 0, 1), (5, .iload_n 1, 1), (6, .putfield 290, 3), (9, .return_, 1)]
theorem d28 : ∀ q ∈ Ld28, decode jdk_2729_method_78_code q.1 = .ok q.2 := by decide +kernel
abbrev me30 : MethodName := ⟨"java/util/TreeMap", "setColor", "(Ljava/util/TreeMap$Entry;Z)V"⟩
theorem rnSC (lh : Launch) (Z : State) (a0 : Array Value) (hw : HW a0 Z) (ws : List Jvm.Cond) (e1 k1 l1 : Addr) (pa_ le ri : Value) (co : Int32) (h0 : Heap) (n0 : Nat) (Z0 : n0 ≤ h0.size) (H1 : own_EN Z h0 e1 k1 l1 pa_ le ri co) (g1 : n0 ≤ e1) :
    MF lh Z me30 (.code me30 jdk_2729_method_78_code 2 none) ws ⟨0, 0, 0, 0⟩ #[.ref e1, .int (1 : Int32)] h0 (Q_rnSC Z e1 k1 l1 pa_ le ri co h0 n0) := by
  refine own_met (y := me30) (plainFor_of_name pn_9) ?_
  intro p ev sT m below meth c T0 K hx hby hml hret hlk hown hnm hZ X0 e0 hK
  have N0 := Fr.nil n0
  have D : DB p c Ld28 := DB.of hx hby d28
  refine Rch.cast (g' := mkF m 0 #[.val (.ref e1), .val (.int (1 : Int32))] []) (by first | rfl | simp [entryFrame, mkF, argsToLocals, Value.category]) ?_
  obtain ⟨u214_0, u214_1, u214_2, u214_3, u214_4, u214_5, u214_6⟩ := id H1
  refine zaN X0 D 0 rfl rfl rfl rfl (zifnullNo X0 D 1 rfl rfl (zaN X0 D 2 rfl rfl rfl rfl (ziN X0 D 3 rfl rfl rfl  ?_)))
  obtain ⟨T215, h215, X215, e215, W215, st215⟩ := putFN X0 hx hZ hown (ow hw 444 rfl) Via.refl e0 u214_1 u214_0 (Or.inl (ow hw 216 rfl)) (ow hw 208 rfl) (ty := .boolean) (v' := (.int (1 : Int32))) (by decide) rfl rfl (g := (mkF m 6 #[.val (.ref e1), .val (.int (1 : Int32))] [.int (1 : Int32), .ref e1])) rfl rfl (D.on 4 rfl)
  have N215 := Fr.snoc X215 N0 g1
  have Fw215 := Fld.same W215 u214_1
  refine Rch.of (T' := T215) (g' := (mkF m 9 #[.val (.ref e1), .val (.int (1 : Int32))] [])) st215 ?_
  exact Rch.retV X215 hx hret hlk (D.on 5 rfl) (fun U hU hF => hK _ U _ _ _ (by show Q_rnSC Z e1 k1 l1 pa_ le ri co h0 n0 _ U.heap _; rw [hU, e215]; exact ⟨rfl, N215, ((Keep.refl h0 [e1]).wr W215 (Or.inl (List.mem_of_getElem? (i := 0) rfl))), ⟨(u214_0.wr W215), Fw215, (u214_2.other W215 (Or.inr (sn15 hw))), (u214_3.other W215 (Or.inr (sn16 hw))), (u214_4.other W215 (Or.inr (sn17 hw))), (u214_5.other W215 (Or.inr (sn18 hw))), (u214_6.other W215 (Or.inr (sn19 hw)))⟩⟩) hF (by decide) (by decide))
def Q_rnFD (Z : State) (a1 rc : Addr) (sz mc : Int32) (e1 k1 l1 : Addr) (pa_ le ri : Value) (co : Int32) (h0 : Heap) (n0 : Nat) (vv_ : Option Value) (h : Heap) (LL_ : List Loc) : Prop := vv_ = none ∧ Fr n0 LL_ ∧ (Keep h0 h [e1] ∧ own_EN Z h e1 k1 l1 pa_ le ri (1 : Int32))
def Ld29 : List (Nat × Instr × Nat) := [(0, .aload_n 1, 1), (1, .aload_n 0, 1), (2, .getfield 101, 3), (5, .if_acmp .eq 340, 3), (345, .aload_n 1, 1), (346, .iconst 1, 1), (347, .invokestatic 307, 3), (350, .return_, 1)]
theorem d29 : ∀ q ∈ Ld29, decode jdk_2729_method_85_code q.1 = .ok q.2 := by decide +kernel
abbrev me31 : MethodName := ⟨"java/util/TreeMap", "fixAfterDeletion", "(Ljava/util/TreeMap$Entry;)V"⟩
theorem rnFD (lh : Launch) (Z : State) (a0 : Array Value) (hw : HW a0 Z) (ws : List Jvm.Cond) (a1 rc : Addr) (sz mc : Int32) (e1 k1 l1 : Addr) (pa_ le ri : Value) (co : Int32) (h0 : Heap) (n0 : Nat) (Z0 : n0 ≤ h0.size) (H0 : own_TM Z h0 a1 (.ref e1) rc sz mc) (H1 : own_EN Z h0 e1 k1 l1 pa_ le ri co) (g1 : n0 ≤ e1) :
    MF lh Z me31 (.code me31 jdk_2729_method_85_code 3 none) ws ⟨1, 0, 0, 13⟩ #[.ref a1, .ref e1] h0 (Q_rnFD Z a1 rc sz mc e1 k1 l1 pa_ le ri co h0 n0) := by
  refine own_met (y := me31) (plainFor_of_name pn_9) ?_
  intro p ev sT m below meth c T0 K hx hby hml hret hlk hown hnm hZ X0 e0 hK
  have N0 := Fr.nil n0
  have D : DB p c Ld29 := DB.of hx hby d29
  refine Rch.cast (g' := mkF m 0 #[.val (.ref a1), .val (.ref e1), .unset] []) (by first | rfl | simp [entryFrame, mkF, argsToLocals, Value.category]) ?_
  obtain ⟨u216_0, u216_1, u216_2, u216_3, u216_4, u216_5⟩ := id H0
  refine zaN X0 D 0 rfl rfl rfl rfl (zaN X0 D 1 rfl rfl rfl rfl (zgf X0 D 2 hZ hown (ow hw 94 rfl) e0 u216_1 rfl rfl fun T217 X217 e217 => ?_))
  refine Rch.of (T' := T217) (g' := (mkF m 345 #[.val (.ref a1), .val (.ref e1), .unset] [])) (fun _ kt => Jvm.RoadKit.acmp (g := (mkF m 5 #[.val (.ref a1), .val (.ref e1), .unset] [.ref e1, .ref e1])) X217 hx rfl rfl rfl (pc0 := 5) (pc' := 345) (same := true) rfl (D.on 3 rfl) rfl (decide_eq_true rfl) (by decide) (by decide) kt) ?_
  refine zaN X217 D 4 rfl rfl rfl rfl (zic X217 D 5 1 rfl rfl rfl (zst X217 D 6 hZ me30 hown (ow hw 450 rfl) (ow hw 451 rfl) (ow hw 11 rfl) (ow hw 452 rfl) e217 (rnSC lh Z a0 hw [] e1 k1 l1 pa_ le ri co h0 n0 Z0 H1 g1) hml [.ref e1, .int (1 : Int32)] [] (lenOf pd_38 rfl) rfl rfl rfl rfl rfl rfl (by decide) (by decide) fun v218 T218 L218 X218 hQ218 => ?_))
  obtain ⟨rfl, N218q, hQ218⟩ := hQ218
  have N218 := Fr.app N0 N218q
  obtain ⟨K218, Pq218_0⟩ := hQ218
  have nc219 : a1 ≠ e1 := own_exane u216_0 (own_EN.x_e H1) (by decide)
  exact Rch.retV X218 hx hret hlk (D.on 7 rfl) (fun U hU hF => hK _ U _ _ _ (by show Q_rnFD Z a1 rc sz mc e1 k1 l1 pa_ le ri co h0 n0 _ U.heap _; rw [hU]; exact ⟨rfl, N218, ((Keep.refl h0 [e1]).trans K218 (allS (Or.inl (List.mem_of_getElem? (i := 0) rfl)) all0)), Pq218_0⟩) hF (by decide) (by decide))
def Q_rnFI0 (Z : State) (a1 rc : Addr) (sz mc : Int32) (e1 k1 l1 e2 k2 l2 : Addr) (h0 : Heap) (n0 : Nat) (vv_ : Option Value) (h : Heap) (LL_ : List Loc) : Prop := vv_ = none ∧ Fr n0 LL_ ∧ (Keep h0 h [e1, e2] ∧ own_EN Z h e1 k1 l1 .null (.ref e2) .null (1 : Int32) ∧ own_EN Z h e2 k2 l2 (.ref e1) .null .null (0 : Int32))
def Ld30 : List (Nat × Instr × Nat) := [(0, .aload_n 1, 1), (1, .iconst 0, 1), (2, .putfield 290, 3), (5, .aload_n 1, 1), (6, .ifnull 252, 3), (9, .aload_n 1, 1), (10, .aload_n 0, 1), (11, .getfield 101, 3), (14, .if_acmp .eq 244, 3), (17, .aload_n 1, 1), (18, .getfield 124, 3), (21, .getfield 290, 3), (24, .ifCond .ne 234, 3), (258, .aload_n 0, 1), (259, .getfield 101, 3), (262, .iconst 1, 1), (263, .putfield 290, 3), (266, .return_, 1)]
theorem d30 : ∀ q ∈ Ld30, decode jdk_2729_method_83_code q.1 = .ok q.2 := by decide +kernel
abbrev me32 : MethodName := ⟨"java/util/TreeMap", "fixAfterInsertion", "(Ljava/util/TreeMap$Entry;)V"⟩
theorem rnFI0 (lh : Launch) (Z : State) (a0 : Array Value) (hw : HW a0 Z) (ws : List Jvm.Cond) (a1 rc : Addr) (sz mc : Int32) (e1 k1 l1 e2 k2 l2 : Addr) (h0 : Heap) (n0 : Nat) (Z0 : n0 ≤ h0.size) (H0 : own_TM Z h0 a1 (.ref e1) rc sz mc) (H1 : own_EN Z h0 e1 k1 l1 .null (.ref e2) .null (1 : Int32)) (H2 : own_EN Z h0 e2 k2 l2 (.ref e1) .null .null (1 : Int32)) (g1 : n0 ≤ e1) (g2 : n0 ≤ e2) (n1 : e1 ≠ e2) :
    MF lh Z me32 (.code me32 jdk_2729_method_83_code 3 none) ws ⟨0, 0, 0, 0⟩ #[.ref a1, .ref e2] h0 (Q_rnFI0 Z a1 rc sz mc e1 k1 l1 e2 k2 l2 h0 n0) := by
  refine own_met (y := me32) (plainFor_of_name pn_9) ?_
  intro p ev sT m below meth c T0 K hx hby hml hret hlk hown hnm hZ X0 e0 hK
  have N0 := Fr.nil n0
  have D : DB p c Ld30 := DB.of hx hby d30
  refine Rch.cast (g' := mkF m 0 #[.val (.ref a1), .val (.ref e2), .unset] []) (by first | rfl | simp [entryFrame, mkF, argsToLocals, Value.category]) ?_
  obtain ⟨u220_0, u220_1, u220_2, u220_3, u220_4, u220_5⟩ := id H0
  obtain ⟨u221_0, u221_1, u221_2, u221_3, u221_4, u221_5, u221_6⟩ := id H1
  obtain ⟨u222_0, u222_1, u222_2, u222_3, u222_4, u222_5, u222_6⟩ := id H2
  refine zaN X0 D 0 rfl rfl rfl rfl (zic X0 D 1 0 rfl rfl rfl ?_)
  obtain ⟨T223, h223, X223, e223, W223, st223⟩ := putFN X0 hx hZ hown (ow hw 444 rfl) Via.refl e0 u222_1 u222_0 (Or.inl (ow hw 216 rfl)) (ow hw 208 rfl) (ty := .boolean) (v' := (.int (0 : Int32))) (by decide) rfl rfl (g := (mkF m 2 #[.val (.ref a1), .val (.ref e2), .unset] [.int (0 : Int32), .ref e2])) rfl rfl (D.on 2 rfl)
  have N223 := Fr.snoc X223 N0 g2
  have Fw223 := Fld.same W223 u222_1
  have nc224 : a1 ≠ e2 := own_exane u220_0 u222_0 (by decide)
  refine Rch.of (T' := T223) (g' := (mkF m 5 #[.val (.ref a1), .val (.ref e2), .unset] [])) st223 ?_
  refine zaN X223 D 3 rfl rfl rfl rfl (zifnullNo X223 D 4 rfl rfl (zaN X223 D 5 rfl rfl rfl rfl (zaN X223 D 6 rfl rfl rfl rfl (zgf X223 D 7 hZ hown (ow hw 94 rfl) e223 (u220_1.other W223 (Or.inl nc224)) rfl rfl fun T225 X225 e225 => ?_))))
  refine Rch.of (T' := T225) (g' := (mkF m 17 #[.val (.ref a1), .val (.ref e2), .unset] [])) (fun _ kt => Jvm.RoadKit.acmp (g := (mkF m 14 #[.val (.ref a1), .val (.ref e2), .unset] [.ref e1, .ref e2])) X225 hx rfl rfl rfl (pc0 := 14) (pc' := 17) (same := false) rfl (D.on 8 rfl) rfl (decide_eq_false fun q => (Ne.symm n1) (Value.ref.inj q)) (by decide) (by decide) kt) ?_
  refine zaN X225 D 9 rfl rfl rfl rfl (zgf X225 D 10 hZ hown (ow hw 353 rfl) e225 (u222_4.other W223 (Or.inr (sn17 hw))) rfl rfl fun T226 X226 e226 => ?_)
  refine zgf X226 D 11 hZ hown (ow hw 444 rfl) e226 (u221_1.other W223 (Or.inl n1)) rfl rfl fun T227 X227 e227 => ?_
  refine zY X227 D 12 258 rfl rfl ((if0 _ _).trans (feq ((by decide) : ¬ ((1 : Int32) = (0 : Int32)))).2) rfl (zaN X227 D 13 rfl rfl rfl rfl (zgf X227 D 14 hZ hown (ow hw 94 rfl) e227 (u220_1.other W223 (Or.inl nc224)) rfl rfl fun T228 X228 e228 => ?_))
  refine zic X228 D 15 1 rfl rfl rfl ?_
  obtain ⟨T229, h229, X229, e229, W229, st229⟩ := putFN X228 hx hZ hown (ow hw 444 rfl) Via.refl e228 (u221_1.other W223 (Or.inl n1)) (u221_0.wr W223) (Or.inl (ow hw 216 rfl)) (ow hw 208 rfl) (ty := .boolean) (v' := (.int (1 : Int32))) (by decide) rfl rfl (g := (mkF m 263 #[.val (.ref a1), .val (.ref e2), .unset] [.int (1 : Int32), .ref e1])) rfl rfl (D.on 16 rfl)
  have N229 := Fr.snoc X229 N223 g1
  have Fw229 := Fld.same W229 (u221_1.other W223 (Or.inl n1))
  have nc230 : a1 ≠ e1 := own_exane (u220_0.wr W223) (u221_0.wr W223) (by decide)
  refine Rch.of (T' := T229) (g' := (mkF m 266 #[.val (.ref a1), .val (.ref e2), .unset] [])) st229 ?_
  exact Rch.retV X229 hx hret hlk (D.on 17 rfl) (fun U hU hF => hK _ U _ _ _ (by show Q_rnFI0 Z a1 rc sz mc e1 k1 l1 e2 k2 l2 h0 n0 _ U.heap _; rw [hU, e229]; exact ⟨rfl, N229, (((Keep.refl h0 [e1, e2]).wr W223 (Or.inl (List.mem_of_getElem? (i := 1) rfl))).wr W229 (Or.inl (List.mem_of_getElem? (i := 0) rfl))), ⟨((u221_0.wr W223).wr W229), Fw229, ((u221_2.other W223 (Or.inl n1)).other W229 (Or.inr (sn15 hw))), ((u221_3.other W223 (Or.inl n1)).other W229 (Or.inr (sn16 hw))), ((u221_4.other W223 (Or.inl n1)).other W229 (Or.inr (sn17 hw))), ((u221_5.other W223 (Or.inl n1)).other W229 (Or.inr (sn18 hw))), ((u221_6.other W223 (Or.inl n1)).other W229 (Or.inr (sn19 hw)))⟩, ⟨((u222_0.wr W223).wr W229), (Fw223.other W229 (Or.inl (Ne.symm n1))), ((u222_2.other W223 (Or.inr (sn15 hw))).other W229 (Or.inl (Ne.symm n1))), ((u222_3.other W223 (Or.inr (sn16 hw))).other W229 (Or.inl (Ne.symm n1))), ((u222_4.other W223 (Or.inr (sn17 hw))).other W229 (Or.inl (Ne.symm n1))), ((u222_5.other W223 (Or.inr (sn18 hw))).other W229 (Or.inl (Ne.symm n1))), ((u222_6.other W223 (Or.inr (sn19 hw))).other W229 (Or.inl (Ne.symm n1)))⟩⟩) hF (by decide) (by decide))
def Q_rnFI1 (Z : State) (a1 rc : Addr) (sz mc : Int32) (e1 k1 l1 e2 k2 l2 : Addr) (h0 : Heap) (n0 : Nat) (vv_ : Option Value) (h : Heap) (LL_ : List Loc) : Prop := vv_ = none ∧ Fr n0 LL_ ∧ (Keep h0 h [e1, e2] ∧ own_EN Z h e1 k1 l1 .null .null (.ref e2) (1 : Int32) ∧ own_EN Z h e2 k2 l2 (.ref e1) .null .null (0 : Int32))
theorem rnFI1 (lh : Launch) (Z : State) (a0 : Array Value) (hw : HW a0 Z) (ws : List Jvm.Cond) (a1 rc : Addr) (sz mc : Int32) (e1 k1 l1 e2 k2 l2 : Addr) (h0 : Heap) (n0 : Nat) (Z0 : n0 ≤ h0.size) (H0 : own_TM Z h0 a1 (.ref e1) rc sz mc) (H1 : own_EN Z h0 e1 k1 l1 .null .null (.ref e2) (1 : Int32)) (H2 : own_EN Z h0 e2 k2 l2 (.ref e1) .null .null (1 : Int32)) (g1 : n0 ≤ e1) (g2 : n0 ≤ e2) (n1 : e1 ≠ e2) :
    MF lh Z me32 (.code me32 jdk_2729_method_83_code 3 none) ws ⟨0, 0, 0, 0⟩ #[.ref a1, .ref e2] h0 (Q_rnFI1 Z a1 rc sz mc e1 k1 l1 e2 k2 l2 h0 n0) := by
  refine own_met (y := me32) (plainFor_of_name pn_9) ?_
  intro p ev sT m below meth c T0 K hx hby hml hret hlk hown hnm hZ X0 e0 hK
  have N0 := Fr.nil n0
  have D : DB p c Ld30 := DB.of hx hby d30
  refine Rch.cast (g' := mkF m 0 #[.val (.ref a1), .val (.ref e2), .unset] []) (by first | rfl | simp [entryFrame, mkF, argsToLocals, Value.category]) ?_
  obtain ⟨u231_0, u231_1, u231_2, u231_3, u231_4, u231_5⟩ := id H0
  obtain ⟨u232_0, u232_1, u232_2, u232_3, u232_4, u232_5, u232_6⟩ := id H1
  obtain ⟨u233_0, u233_1, u233_2, u233_3, u233_4, u233_5, u233_6⟩ := id H2
  refine zaN X0 D 0 rfl rfl rfl rfl (zic X0 D 1 0 rfl rfl rfl ?_)
  obtain ⟨T234, h234, X234, e234, W234, st234⟩ := putFN X0 hx hZ hown (ow hw 444 rfl) Via.refl e0 u233_1 u233_0 (Or.inl (ow hw 216 rfl)) (ow hw 208 rfl) (ty := .boolean) (v' := (.int (0 : Int32))) (by decide) rfl rfl (g := (mkF m 2 #[.val (.ref a1), .val (.ref e2), .unset] [.int (0 : Int32), .ref e2])) rfl rfl (D.on 2 rfl)
  have N234 := Fr.snoc X234 N0 g2
  have Fw234 := Fld.same W234 u233_1
  have nc235 : a1 ≠ e2 := own_exane u231_0 u233_0 (by decide)
  refine Rch.of (T' := T234) (g' := (mkF m 5 #[.val (.ref a1), .val (.ref e2), .unset] [])) st234 ?_
  refine zaN X234 D 3 rfl rfl rfl rfl (zifnullNo X234 D 4 rfl rfl (zaN X234 D 5 rfl rfl rfl rfl (zaN X234 D 6 rfl rfl rfl rfl (zgf X234 D 7 hZ hown (ow hw 94 rfl) e234 (u231_1.other W234 (Or.inl nc235)) rfl rfl fun T236 X236 e236 => ?_))))
  refine Rch.of (T' := T236) (g' := (mkF m 17 #[.val (.ref a1), .val (.ref e2), .unset] [])) (fun _ kt => Jvm.RoadKit.acmp (g := (mkF m 14 #[.val (.ref a1), .val (.ref e2), .unset] [.ref e1, .ref e2])) X236 hx rfl rfl rfl (pc0 := 14) (pc' := 17) (same := false) rfl (D.on 8 rfl) rfl (decide_eq_false fun q => (Ne.symm n1) (Value.ref.inj q)) (by decide) (by decide) kt) ?_
  refine zaN X236 D 9 rfl rfl rfl rfl (zgf X236 D 10 hZ hown (ow hw 353 rfl) e236 (u233_4.other W234 (Or.inr (sn17 hw))) rfl rfl fun T237 X237 e237 => ?_)
  refine zgf X237 D 11 hZ hown (ow hw 444 rfl) e237 (u232_1.other W234 (Or.inl n1)) rfl rfl fun T238 X238 e238 => ?_
  refine zY X238 D 12 258 rfl rfl ((if0 _ _).trans (feq ((by decide) : ¬ ((1 : Int32) = (0 : Int32)))).2) rfl (zaN X238 D 13 rfl rfl rfl rfl (zgf X238 D 14 hZ hown (ow hw 94 rfl) e238 (u231_1.other W234 (Or.inl nc235)) rfl rfl fun T239 X239 e239 => ?_))
  refine zic X239 D 15 1 rfl rfl rfl ?_
  obtain ⟨T240, h240, X240, e240, W240, st240⟩ := putFN X239 hx hZ hown (ow hw 444 rfl) Via.refl e239 (u232_1.other W234 (Or.inl n1)) (u232_0.wr W234) (Or.inl (ow hw 216 rfl)) (ow hw 208 rfl) (ty := .boolean) (v' := (.int (1 : Int32))) (by decide) rfl rfl (g := (mkF m 263 #[.val (.ref a1), .val (.ref e2), .unset] [.int (1 : Int32), .ref e1])) rfl rfl (D.on 16 rfl)
  have N240 := Fr.snoc X240 N234 g1
  have Fw240 := Fld.same W240 (u232_1.other W234 (Or.inl n1))
  have nc241 : a1 ≠ e1 := own_exane (u231_0.wr W234) (u232_0.wr W234) (by decide)
  refine Rch.of (T' := T240) (g' := (mkF m 266 #[.val (.ref a1), .val (.ref e2), .unset] [])) st240 ?_
  exact Rch.retV X240 hx hret hlk (D.on 17 rfl) (fun U hU hF => hK _ U _ _ _ (by show Q_rnFI1 Z a1 rc sz mc e1 k1 l1 e2 k2 l2 h0 n0 _ U.heap _; rw [hU, e240]; exact ⟨rfl, N240, (((Keep.refl h0 [e1, e2]).wr W234 (Or.inl (List.mem_of_getElem? (i := 1) rfl))).wr W240 (Or.inl (List.mem_of_getElem? (i := 0) rfl))), ⟨((u232_0.wr W234).wr W240), Fw240, ((u232_2.other W234 (Or.inl n1)).other W240 (Or.inr (sn15 hw))), ((u232_3.other W234 (Or.inl n1)).other W240 (Or.inr (sn16 hw))), ((u232_4.other W234 (Or.inl n1)).other W240 (Or.inr (sn17 hw))), ((u232_5.other W234 (Or.inl n1)).other W240 (Or.inr (sn18 hw))), ((u232_6.other W234 (Or.inl n1)).other W240 (Or.inr (sn19 hw)))⟩, ⟨((u233_0.wr W234).wr W240), (Fw234.other W240 (Or.inl (Ne.symm n1))), ((u233_2.other W234 (Or.inr (sn15 hw))).other W240 (Or.inl (Ne.symm n1))), ((u233_3.other W234 (Or.inr (sn16 hw))).other W240 (Or.inl (Ne.symm n1))), ((u233_4.other W234 (Or.inr (sn17 hw))).other W240 (Or.inl (Ne.symm n1))), ((u233_5.other W234 (Or.inr (sn18 hw))).other W240 (Or.inl (Ne.symm n1))), ((u233_6.other W234 (Or.inr (sn19 hw))).other W240 (Or.inl (Ne.symm n1)))⟩⟩) hF (by decide) (by decide))
def Q_rnAE (Z : State) (a1 rc : Addr) (sz mc : Int32) (k1 l1 : Addr) (x1 : Int32) (h0 : Heap) (n0 : Nat) (vv_ : Option Value) (h : Heap) (LL_ : List Loc) : Prop := ∃ e1 : Addr, vv_ = none ∧ Fr n0 LL_ ∧ (h0.size ≤ e1 ∧ Keep h0 h [a1] ∧ own_TM Z h a1 (.ref e1) rc (1 : Int32) (mc + (1 : Int32)) ∧ own_EN Z h e1 k1 l1 .null .null .null (1 : Int32))
def Ld31 : List (Nat × Instr × Nat) := [(0, .aload_n 0, 1), (1, .aload_n 1, 1), (2, .aload_n 1, 1), (3, .invokevirtual 123, 3), (6, .pop, 1), (7, .aload_n 0, 1), (8, .new 59, 3), (11, .dup, 1), (12, .aload_n 1, 1), (13, .aload_n 2, 1), (14, .aconst_null, 1), (15, .invokespecial 167, 3), (18, .putfield 101, 3), (21, .aload_n 0, 1), (22, .iconst 1, 1), (23, .putfield 7, 3), (26, .aload_n 0, 1), (27, .dup, 1), (28, .getfield 13, 3), (31, .iconst 1, 1), (32, .iadd, 1), (33, .putfield 13, 3), (36, .return_, 1)]
theorem d31 : ∀ q ∈ Ld31, decode jdk_2729_method_30_code q.1 = .ok q.2 := by decide +kernel
abbrev me33 : MethodName := ⟨"java/util/TreeMap", "addEntryToEmptyMap", "(Ljava/lang/Object;Ljava/lang/Object;)V"⟩
def sn35 {a0 : Array Value} {Z : State} (hw : HW a0 Z) := slot_ne (C := "java/util/TreeMap") (Or.inl (ow hw 33 rfl)) (Or.inl (ow hw 95 rfl)) (by decide) (t := .int) (t' := (.object "java/util/TreeMap$Entry")) (by decide) (by decide)
def sn36 {a0 : Array Value} {Z : State} (hw : HW a0 Z) := slot_ne (C := "java/util/TreeMap") (Or.inl (ow hw 35 rfl)) (Or.inl (ow hw 95 rfl)) (by decide) (t := .int) (t' := (.object "java/util/TreeMap$Entry")) (by decide) (by decide)
def sn37 {a0 : Array Value} {Z : State} (hw : HW a0 Z) := slot_ne (C := "java/util/TreeMap") (Or.inr (ow hw 37 rfl)) (Or.inl (ow hw 95 rfl)) (by decide) (t := (.object "java/util/Comparator")) (t' := (.object "java/util/TreeMap$Entry")) (by decide) (by decide)
theorem rnAE (lh : Launch) (Z : State) (a0 : Array Value) (hw : HW a0 Z) (ws : List Jvm.Cond) (a1 rc : Addr) (sz mc : Int32) (k1 l1 : Addr) (x1 : Int32) (h0 : Heap) (n0 : Nat) (Z0 : n0 ≤ h0.size) (H0 : own_TM Z h0 a1 .null rc sz mc) (H1 : own_KI Z h0 k1 x1) (g1 : n0 ≤ a1) :
    MF lh Z me33 (.code me33 jdk_2729_method_30_code 3 none) ws ⟨6, 1, 6, 81⟩ #[.ref a1, .ref k1, .ref l1] h0 (Q_rnAE Z a1 rc sz mc k1 l1 x1 h0 n0) := by
  refine own_met (y := me33) (plainFor_of_name pn_9) ?_
  intro p ev sT m below meth c T0 K hx hby hml hret hlk hown hnm hZ X0 e0 hK
  have N0 := Fr.nil n0
  have D : DB p c Ld31 := DB.of hx hby d31
  refine Rch.cast (g' := mkF m 0 #[.val (.ref a1), .val (.ref k1), .val (.ref l1)] []) (by first | rfl | simp [entryFrame, mkF, argsToLocals, Value.category]) ?_
  obtain ⟨u242_0, u242_1, u242_2, u242_3, u242_4, u242_5⟩ := id H0
  obtain ⟨u243_0, u243_1⟩ := id H1
  refine zaN X0 D 0 rfl rfl rfl rfl (zaN X0 D 1 rfl rfl rfl rfl (zaN X0 D 2 rfl rfl rfl rfl (zvs X0 D 3 hZ me27 hown (ow hw 170 rfl) (ow hw 171 rfl) (ow hw 173 rfl) (ow hw 172 rfl) (ow hw 174 rfl) (ow hw 11 rfl) e0 u242_0 (rnTC lh Z a0 hw [] a1 k1 k1 rc x1 x1 h0 n0 Z0 u242_0 u242_4 u242_5 u243_0 u243_1 u243_0 u243_1) hml [.ref k1, .ref k1] [] (lenOf pd_13 rfl) rfl rfl rfl rfl rfl rfl (by decide) (by decide) fun v244 T244 L244 X244 hQ244 => ?_)))
  obtain ⟨rfl, N244q, hQ244⟩ := hQ244
  have N244 := Fr.app N0 N244q
  refine zpop X244 D 4 rfl rfl rfl (zaN X244 D 5 rfl rfl rfl rfl ?_)
  obtain ⟨T245, h245, X245, e245, E245, A245, D245, -, st245⟩ := newO X244 hx hZ hown (ow hw 207 rfl) (ow hw 208 rfl) (ow hw 209 rfl) hQ244 (g := (mkF m 8 #[.val (.ref a1), .val (.ref k1), .val (.ref l1)] [.ref a1])) rfl (D.on 6 rfl) (by decide) (by decide)
  obtain ⟨b245, g245⟩ : ∃ zz_, zz_ = h0.size := ⟨_, rfl⟩
  have ge_b245 : n0 ≤ b245 := Nat.le_trans Z0 (Nat.le_of_eq g245.symm)
  have sz_b245 : h0.size ≤ b245 := Nat.le_trans (Keep.refl h0 [a1]).1 (Nat.le_of_eq g245.symm)
  rw [← g245] at A245 D245 st245
  have F245_color : Fld Z h245 b245 "java/util/TreeMap$Entry" "color" "Z" (.int (0 : Int32)) := D245 (Or.inl (ow hw 216 rfl)) (ty := .boolean) (by decide)
  have F245_key : Fld Z h245 b245 "java/util/TreeMap$Entry" "key" "Ljava/lang/Object;" .null := D245 (Or.inl (ow hw 218 rfl)) (ty := (.object "java/lang/Object")) (by decide)
  have F245_value : Fld Z h245 b245 "java/util/TreeMap$Entry" "value" "Ljava/lang/Object;" .null := D245 (Or.inl (ow hw 220 rfl)) (ty := (.object "java/lang/Object")) (by decide)
  have F245_parent : Fld Z h245 b245 "java/util/TreeMap$Entry" "parent" "Ljava/util/TreeMap$Entry;" .null := D245 (Or.inl (ow hw 222 rfl)) (ty := (.object "java/util/TreeMap$Entry")) (by decide)
  have F245_left : Fld Z h245 b245 "java/util/TreeMap$Entry" "left" "Ljava/util/TreeMap$Entry;" .null := D245 (Or.inl (ow hw 350 rfl)) (ty := (.object "java/util/TreeMap$Entry")) (by decide)
  have F245_right : Fld Z h245 b245 "java/util/TreeMap$Entry" "right" "Ljava/util/TreeMap$Entry;" .null := D245 (Or.inl (ow hw 352 rfl)) (ty := (.object "java/util/TreeMap$Entry")) (by decide)
  refine Rch.of (T' := T245) (g' := (mkF m 11 #[.val (.ref a1), .val (.ref k1), .val (.ref l1)] [.ref b245, .ref a1])) st245 ?_
  refine zdu X245 D 7 rfl rfl rfl (zaN X245 D 8 rfl rfl rfl rfl (zaN X245 D 9 rfl rfl rfl rfl (zaconstNull X245 D 10 rfl rfl (zsb (W := 2) X245 D 11 hZ me26 hown (ow hw 210 rfl) (ow hw 211 rfl) (ow hw 213 rfl) (ow hw 209 rfl) e245 b245 (rnEn lh Z a0 hw [] b245 k1 l1 (.int (0 : Int32)) .null .null .null h245 n0 (Nat.le_trans Z0 E245.1) A245 F245_color F245_key F245_value F245_parent F245_left F245_right ge_b245) hml [.ref k1, .ref l1, .null] [.ref b245, .ref a1] (lenOf pd_18 rfl) rfl rfl rfl rfl rfl rfl rfl (by decide) (by decide) fun v246 T246 L246 X246 hQ246 => ?_))))
  obtain ⟨rfl, N246q, hQ246⟩ := hQ246
  have N246 := Fr.app N244 N246q
  obtain ⟨K246, Ex246, Fa246_0, Fa246_1, Fa246_2, Fa246_3, Fa246_4, Fa246_5⟩ := hQ246
  have nl247 : a1 ≠ b245 := Nat.ne_of_lt (Nat.lt_of_lt_of_le u242_0.lt (Nat.le_of_eq g245.symm))
  have nl248 : k1 ≠ b245 := Nat.ne_of_lt (Nat.lt_of_lt_of_le u243_0.lt (Nat.le_of_eq g245.symm))
  refine zpf X246 D 12 hZ hown (ow hw 94 rfl) rfl ((u242_1.ext E245).keep K246 (ninS nl247 nin0)) ((u242_0.ext E245).keep K246) (Or.inl (ow hw 95 rfl)) (ow hw 10 rfl) (.object "java/util/TreeMap$Entry") (by decide) rfl rfl rfl rfl fun T249 h249 X249 e249 W249 => ?_
  have N249 := Fr.snoc X249 N246 g1
  have Fw249 := Fld.same W249 ((u242_1.ext E245).keep K246 (ninS nl247 nin0))
  have nc250 : k1 ≠ a1 := own_exane ((u243_0.ext E245).keep K246) ((u242_0.ext E245).keep K246) (by decide)
  refine zaN X249 D 13 rfl rfl rfl rfl (zic X249 D 14 1 rfl rfl rfl (zpf X249 D 15 hZ hown (ow hw 32 rfl) e249 (((u242_2.ext E245).keep K246 (ninS nl247 nin0)).other W249 (Or.inr (sn35 hw))) (((u242_0.ext E245).keep K246).wr W249) (Or.inl (ow hw 33 rfl)) (ow hw 10 rfl) .int (by decide) rfl rfl rfl rfl fun T251 h251 X251 e251 W251 => ?_))
  have N251 := Fr.snoc X251 N249 g1
  have Fw251 := Fld.same W251 (((u242_2.ext E245).keep K246 (ninS nl247 nin0)).other W249 (Or.inr (sn35 hw)))
  have Fb252 := (((((Keep.refl h0 [a1]).ext E245).trans K246 (allS (Or.inr sz_b245) all0)).wr W249 (Or.inl (List.mem_of_getElem? (i := 0) rfl))).wr W251 (Or.inl (List.mem_of_getElem? (i := 0) rfl)))
  refine zaN X251 D 16 rfl rfl rfl rfl (zdu X251 D 17 rfl rfl rfl (zgf X251 D 18 hZ hown (ow hw 34 rfl) e251 ((((u242_3.ext E245).keep K246 (ninS nl247 nin0)).other W249 (Or.inr (sn36 hw))).other W251 (Or.inr (sn7 hw))) rfl rfl fun T253 X253 e253 => ?_))
  refine zic X253 D 19 1 rfl rfl rfl (ziadd X253 D 20 _ rfl rfl rfl (zpf X253 D 21 hZ hown (ow hw 34 rfl) e253 ((((u242_3.ext E245).keep K246 (ninS nl247 nin0)).other W249 (Or.inr (sn36 hw))).other W251 (Or.inr (sn7 hw))) ((((u242_0.ext E245).keep K246).wr W249).wr W251) (Or.inl (ow hw 35 rfl)) (ow hw 10 rfl) .int (by decide) rfl rfl rfl rfl fun T254 h254 X254 e254 W254 => ?_))
  have N254 := Fr.snoc X254 N251 g1
  have Fw254 := Fld.same W254 ((((u242_3.ext E245).keep K246 (ninS nl247 nin0)).other W249 (Or.inr (sn36 hw))).other W251 (Or.inr (sn7 hw)))
  exact Rch.retV X254 hx hret hlk (D.on 22 rfl) (fun U hU hF => hK _ U _ _ _ (by show Q_rnAE Z a1 rc sz mc k1 l1 x1 h0 n0 _ U.heap _; rw [hU, e254]; exact ⟨b245, rfl, N254, sz_b245, (Fb252.wr W254 (Or.inl (List.mem_of_getElem? (i := 0) rfl))), ⟨(((((u242_0.ext E245).keep K246).wr W249).wr W251).wr W254), ((Fw249.other W251 (Or.inr (sn6 hw))).other W254 (Or.inr (sn9 hw))), (Fw251.other W254 (Or.inr (sn10 hw))), Fw254, (((((u242_4.ext E245).keep K246 (ninS nl247 nin0)).other W249 (Or.inr (sn37 hw))).other W251 (Or.inr (sn8 hw))).other W254 (Or.inr (sn11 hw))), (((((u242_5.ext E245).keep K246).wr W249).wr W251).wr W254)⟩, ⟨(((Ex246.wr W249).wr W251).wr W254), (((Fa246_0.other W249 (Or.inl (Ne.symm nl247))).other W251 (Or.inl (Ne.symm nl247))).other W254 (Or.inl (Ne.symm nl247))), (((Fa246_1.other W249 (Or.inl (Ne.symm nl247))).other W251 (Or.inl (Ne.symm nl247))).other W254 (Or.inl (Ne.symm nl247))), (((Fa246_2.other W249 (Or.inl (Ne.symm nl247))).other W251 (Or.inl (Ne.symm nl247))).other W254 (Or.inl (Ne.symm nl247))), (((Fa246_3.other W249 (Or.inl (Ne.symm nl247))).other W251 (Or.inl (Ne.symm nl247))).other W254 (Or.inl (Ne.symm nl247))), (((Fa246_4.other W249 (Or.inl (Ne.symm nl247))).other W251 (Or.inl (Ne.symm nl247))).other W254 (Or.inl (Ne.symm nl247))), (((Fa246_5.other W249 (Or.inl (Ne.symm nl247))).other W251 (Or.inl (Ne.symm nl247))).other W254 (Or.inl (Ne.symm nl247)))⟩⟩) hF (by decide) (by decide))
def Q_rnAD0 (Z : State) (a1 rc : Addr) (sz mc : Int32) (e1 k1 l1 k2 l2 : Addr) (h0 : Heap) (n0 : Nat) (vv_ : Option Value) (h : Heap) (LL_ : List Loc) : Prop := ∃ e2 : Addr, vv_ = none ∧ Fr n0 LL_ ∧ (h0.size ≤ e2 ∧ Keep h0 h [a1, e1] ∧ own_TM Z h a1 (.ref e1) rc (sz + (1 : Int32)) (mc + (1 : Int32)) ∧ own_EN Z h e1 k1 l1 .null (.ref e2) .null (1 : Int32) ∧ own_EN Z h e2 k2 l2 (.ref e1) .null .null (0 : Int32))
def Ld32 : List (Nat × Instr × Nat) := [(0, .new 59, 3), (3, .dup, 1), (4, .aload_n 1, 1), (5, .aload_n 2, 1), (6, .aload_n 3, 1), (7, .invokespecial 167, 3), (10, .astore 5, 2), (12, .iload 4, 2), (14, .ifCond .eq 12, 3), (17, .aload_n 3, 1), (18, .aload 5, 2), (20, .putfield 111, 3), (23, .goto 9, 3), (32, .aload_n 0, 1), (33, .aload 5, 2), (35, .invokevirtual 170, 3), (38, .aload_n 0, 1), (39, .dup, 1), (40, .getfield 7, 3), (43, .iconst 1, 1), (44, .iadd, 1), (45, .putfield 7, 3), (48, .aload_n 0, 1), (49, .dup, 1), (50, .getfield 13, 3), (53, .iconst 1, 1), (54, .iadd, 1), (55, .putfield 13, 3), (58, .return_, 1), (26, .aload_n 3, 1), (27, .aload 5, 2), (29, .putfield 114, 3)]
theorem d32 : ∀ q ∈ Ld32, decode jdk_2729_method_29_code q.1 = .ok q.2 := by decide +kernel
abbrev me34 : MethodName := ⟨"java/util/TreeMap", "addEntry", "(Ljava/lang/Object;Ljava/lang/Object;Ljava/util/TreeMap$Entry;Z)V"⟩
def sn38 {a0 : Array Value} {Z : State} (hw : HW a0 Z) := slot_ne (C := "java/util/TreeMap$Entry") (Or.inl (ow hw 216 rfl)) (Or.inl (ow hw 350 rfl)) (by decide) (t := .boolean) (t' := (.object "java/util/TreeMap$Entry")) (by decide) (by decide)
def sn39 {a0 : Array Value} {Z : State} (hw : HW a0 Z) := slot_ne (C := "java/util/TreeMap$Entry") (Or.inl (ow hw 218 rfl)) (Or.inl (ow hw 350 rfl)) (by decide) (t := (.object "java/lang/Object")) (t' := (.object "java/util/TreeMap$Entry")) (by decide) (by decide)
def sn40 {a0 : Array Value} {Z : State} (hw : HW a0 Z) := slot_ne (C := "java/util/TreeMap$Entry") (Or.inl (ow hw 220 rfl)) (Or.inl (ow hw 350 rfl)) (by decide) (t := (.object "java/lang/Object")) (t' := (.object "java/util/TreeMap$Entry")) (by decide) (by decide)
def sn41 {a0 : Array Value} {Z : State} (hw : HW a0 Z) := slot_ne (C := "java/util/TreeMap$Entry") (Or.inl (ow hw 222 rfl)) (Or.inl (ow hw 350 rfl)) (by decide) (t := (.object "java/util/TreeMap$Entry")) (t' := (.object "java/util/TreeMap$Entry")) (by decide) (by decide)
def sn42 {a0 : Array Value} {Z : State} (hw : HW a0 Z) := slot_ne (C := "java/util/TreeMap$Entry") (Or.inl (ow hw 352 rfl)) (Or.inl (ow hw 350 rfl)) (by decide) (t := (.object "java/util/TreeMap$Entry")) (t' := (.object "java/util/TreeMap$Entry")) (by decide) (by decide)
theorem rnAD0 (lh : Launch) (Z : State) (a0 : Array Value) (hw : HW a0 Z) (ws : List Jvm.Cond) (a1 rc : Addr) (sz mc : Int32) (e1 k1 l1 k2 l2 : Addr) (h0 : Heap) (n0 : Nat) (Z0 : n0 ≤ h0.size) (H0 : own_TM Z h0 a1 (.ref e1) rc sz mc) (H1 : own_EN Z h0 e1 k1 l1 .null .null .null (1 : Int32)) (g1 : n0 ≤ a1) (g2 : n0 ≤ e1) :
    MF lh Z me34 (.code me34 jdk_2729_method_29_code 6 none) ws ⟨2, 1, 6, 28⟩ #[.ref a1, .ref k2, .ref l2, .ref e1, .int (1 : Int32)] h0 (Q_rnAD0 Z a1 rc sz mc e1 k1 l1 k2 l2 h0 n0) := by
  refine own_met (y := me34) (plainFor_of_name pn_9) ?_
  intro p ev sT m below meth c T0 K hx hby hml hret hlk hown hnm hZ X0 e0 hK
  have N0 := Fr.nil n0
  have D : DB p c Ld32 := DB.of hx hby d32
  refine Rch.cast (g' := mkF m 0 #[.val (.ref a1), .val (.ref k2), .val (.ref l2), .val (.ref e1), .val (.int (1 : Int32)), .unset] []) (by first | rfl | simp [entryFrame, mkF, argsToLocals, Value.category]) ?_
  obtain ⟨u255_0, u255_1, u255_2, u255_3, u255_4, u255_5, u255_6⟩ := id H1
  obtain ⟨T256, h256, X256, e256, E256, A256, D256, -, st256⟩ := newO X0 hx hZ hown (ow hw 207 rfl) (ow hw 208 rfl) (ow hw 209 rfl) e0 (g := (mkF m 0 #[.val (.ref a1), .val (.ref k2), .val (.ref l2), .val (.ref e1), .val (.int (1 : Int32)), .unset] [])) rfl (D.on 0 rfl) (by decide) (by decide)
  obtain ⟨b256, g256⟩ : ∃ zz_, zz_ = h0.size := ⟨_, rfl⟩
  have ge_b256 : n0 ≤ b256 := Nat.le_trans Z0 (Nat.le_of_eq g256.symm)
  have sz_b256 : h0.size ≤ b256 := Nat.le_trans (Keep.refl h0 [a1, e1]).1 (Nat.le_of_eq g256.symm)
  rw [← g256] at A256 D256 st256
  have F256_color : Fld Z h256 b256 "java/util/TreeMap$Entry" "color" "Z" (.int (0 : Int32)) := D256 (Or.inl (ow hw 216 rfl)) (ty := .boolean) (by decide)
  have F256_key : Fld Z h256 b256 "java/util/TreeMap$Entry" "key" "Ljava/lang/Object;" .null := D256 (Or.inl (ow hw 218 rfl)) (ty := (.object "java/lang/Object")) (by decide)
  have F256_value : Fld Z h256 b256 "java/util/TreeMap$Entry" "value" "Ljava/lang/Object;" .null := D256 (Or.inl (ow hw 220 rfl)) (ty := (.object "java/lang/Object")) (by decide)
  have F256_parent : Fld Z h256 b256 "java/util/TreeMap$Entry" "parent" "Ljava/util/TreeMap$Entry;" .null := D256 (Or.inl (ow hw 222 rfl)) (ty := (.object "java/util/TreeMap$Entry")) (by decide)
  have F256_left : Fld Z h256 b256 "java/util/TreeMap$Entry" "left" "Ljava/util/TreeMap$Entry;" .null := D256 (Or.inl (ow hw 350 rfl)) (ty := (.object "java/util/TreeMap$Entry")) (by decide)
  have F256_right : Fld Z h256 b256 "java/util/TreeMap$Entry" "right" "Ljava/util/TreeMap$Entry;" .null := D256 (Or.inl (ow hw 352 rfl)) (ty := (.object "java/util/TreeMap$Entry")) (by decide)
  refine Rch.of (T' := T256) (g' := (mkF m 3 #[.val (.ref a1), .val (.ref k2), .val (.ref l2), .val (.ref e1), .val (.int (1 : Int32)), .unset] [.ref b256])) st256 ?_
  refine zdu X256 D 1 rfl rfl rfl (zaN X256 D 2 rfl rfl rfl rfl (zaN X256 D 3 rfl rfl rfl rfl (zaN X256 D 4 rfl rfl rfl rfl (zsb (W := 1) X256 D 5 hZ me26 hown (ow hw 210 rfl) (ow hw 211 rfl) (ow hw 213 rfl) (ow hw 209 rfl) e256 b256 (rnEr lh Z a0 hw [] b256 k2 l2 e1 (.int (0 : Int32)) .null .null .null h256 n0 (Nat.le_trans Z0 E256.1) A256 F256_color F256_key F256_value F256_parent F256_left F256_right ge_b256) hml [.ref k2, .ref l2, .ref e1] [.ref b256] (lenOf pd_18 rfl) rfl rfl rfl rfl rfl rfl rfl (by decide) (by decide) fun v257 T257 L257 X257 hQ257 => ?_))))
  obtain ⟨rfl, N257q, hQ257⟩ := hQ257
  have N257 := Fr.app N0 N257q
  obtain ⟨K257, Ex257, Fa257_0, Fa257_1, Fa257_2, Fa257_3, Fa257_4, Fa257_5⟩ := hQ257
  have nl258 : a1 ≠ b256 := Nat.ne_of_lt (Nat.lt_of_lt_of_le (own_TM.lt_tm H0) (Nat.le_of_eq g256.symm))
  have nl259 : e1 ≠ b256 := Nat.ne_of_lt (Nat.lt_of_lt_of_le u255_0.lt (Nat.le_of_eq g256.symm))
  refine zas X257 D 6 (l' := #[.val (.ref a1), .val (.ref k2), .val (.ref l2), .val (.ref e1), .val (.int (1 : Int32)), .val (.ref b256)]) rfl rfl rfl rfl (zi X257 D 7 rfl rfl rfl  (zN X257 D 8 rfl rfl ((if0 _ _).trans (feq ((by decide) : ¬ ((1 : Int32) = (0 : Int32)))).1) (zaN X257 D 9 rfl rfl rfl rfl (za X257 D 10 rfl rfl rfl rfl (zpf X257 D 11 hZ hown (ow hw 349 rfl) rfl ((u255_5.ext E256).keep K257 (ninS nl259 nin0)) ((u255_0.ext E256).keep K257) (Or.inl (ow hw 350 rfl)) (ow hw 208 rfl) (.object "java/util/TreeMap$Entry") (by decide) rfl rfl rfl rfl fun T260 h260 X260 e260 W260 => ?_)))))
  have N260 := Fr.snoc X260 N257 g2
  have Fw260 := Fld.same W260 ((u255_5.ext E256).keep K257 (ninS nl259 nin0))
  have nc261 : a1 ≠ e1 := own_exane (own_TM.x_tm (own_TM.keep (own_TM.ext H0 E256) K257 (ninS nl258 nin0))) ((u255_0.ext E256).keep K257) (by decide)
  refine zgo X260 D 12 32 rfl rfl rfl ?_
  have Fb262 := (show own_EN Z h260 e1 k1 l1 .null (.ref b256) .null (1 : Int32) from ⟨(((u255_0.ext E256).keep K257).wr W260), (((u255_1.ext E256).keep K257 (ninS nl259 nin0)).other W260 (Or.inr (sn38 hw))), (((u255_2.ext E256).keep K257 (ninS nl259 nin0)).other W260 (Or.inr (sn39 hw))), (((u255_3.ext E256).keep K257 (ninS nl259 nin0)).other W260 (Or.inr (sn40 hw))), (((u255_4.ext E256).keep K257 (ninS nl259 nin0)).other W260 (Or.inr (sn41 hw))), Fw260, (((u255_6.ext E256).keep K257 (ninS nl259 nin0)).other W260 (Or.inr (sn42 hw)))⟩)
  have Fb263 := (show own_EN Z h260 b256 k2 l2 (.ref e1) .null .null (1 : Int32) from ⟨(Ex257.wr W260), (Fa257_0.other W260 (Or.inl (Ne.symm nl259))), (Fa257_1.other W260 (Or.inl (Ne.symm nl259))), (Fa257_2.other W260 (Or.inl (Ne.symm nl259))), (Fa257_3.other W260 (Or.inl (Ne.symm nl259))), (Fa257_4.other W260 (Or.inl (Ne.symm nl259))), (Fa257_5.other W260 (Or.inl (Ne.symm nl259)))⟩)
  refine zaN X260 D 13 rfl rfl rfl rfl (za X260 D 14 rfl rfl rfl rfl (zpb X260 D 15 hZ me32 hown (mvT hZ (ow hw 442 rfl)) (ow hw 439 rfl) (ow hw 440 rfl) (ow hw 441 rfl) (ow hw 443 rfl) (ow hw 11 rfl) e260 (own_TM.x_tm (own_TM.keep (own_TM.keep (own_TM.ext H0 E256) K257 (ninS nl258 nin0)) (Keep.of_wr W260) (ninS nc261 nin0))) (rnFI0 lh Z a0 hw [] a1 rc sz mc e1 k1 l1 b256 k2 l2 h260 n0 (Nat.le_trans (Nat.le_trans (Nat.le_trans Z0 E256.1) K257.1) (Keep.of_wr W260).1) (own_TM.keep (own_TM.keep (own_TM.ext H0 E256) K257 (ninS nl258 nin0)) (Keep.of_wr W260) (ninS nc261 nin0)) Fb262 Fb263 g2 ge_b256 nl259) hml [.ref b256] [] (lenOf pd_29 rfl) rfl rfl rfl rfl rfl rfl (by decide) (by decide) fun v264 T264 L264 X264 hQ264 => ?_))
  obtain ⟨rfl, N264q, hQ264⟩ := hQ264
  have N264 := Fr.app N260 N264q
  obtain ⟨K264, Pq264_0, Pq264_1⟩ := hQ264
  have Fb265 := (((((Keep.refl h0 [a1, e1]).ext E256).trans K257 (allS (Or.inr sz_b256) all0)).wr W260 (Or.inl (List.mem_of_getElem? (i := 1) rfl))).trans K264 (allS (Or.inl (List.mem_of_getElem? (i := 1) rfl)) (allS (Or.inr sz_b256) all0)))
  obtain ⟨u266_0, u266_1, u266_2, u266_3, u266_4, u266_5⟩ := id (own_TM.keep (own_TM.keep (own_TM.keep (own_TM.ext H0 E256) K257 (ninS nl258 nin0)) (Keep.of_wr W260) (ninS nc261 nin0)) K264 (ninS nc261 (ninS nl258 nin0)))
  refine zaN X264 D 16 rfl rfl rfl rfl (zdu X264 D 17 rfl rfl rfl (zgf X264 D 18 hZ hown (ow hw 32 rfl) rfl u266_2 rfl rfl fun T267 X267 e267 => ?_))
  refine zic X267 D 19 1 rfl rfl rfl (ziadd X267 D 20 _ rfl rfl rfl (zpf X267 D 21 hZ hown (ow hw 32 rfl) e267 u266_2 u266_0 (Or.inl (ow hw 33 rfl)) (ow hw 10 rfl) .int (by decide) rfl rfl rfl rfl fun T268 h268 X268 e268 W268 => ?_))
  have N268 := Fr.snoc X268 N264 g1
  have Fw268 := Fld.same W268 u266_2
  refine zaN X268 D 22 rfl rfl rfl rfl (zdu X268 D 23 rfl rfl rfl (zgf X268 D 24 hZ hown (ow hw 34 rfl) e268 (u266_3.other W268 (Or.inr (sn7 hw))) rfl rfl fun T269 X269 e269 => ?_))
  refine zic X269 D 25 1 rfl rfl rfl (ziadd X269 D 26 _ rfl rfl rfl (zpf X269 D 27 hZ hown (ow hw 34 rfl) e269 (u266_3.other W268 (Or.inr (sn7 hw))) (u266_0.wr W268) (Or.inl (ow hw 35 rfl)) (ow hw 10 rfl) .int (by decide) rfl rfl rfl rfl fun T270 h270 X270 e270 W270 => ?_))
  have N270 := Fr.snoc X270 N268 g1
  have Fw270 := Fld.same W270 (u266_3.other W268 (Or.inr (sn7 hw)))
  have Fb271 := (Nat.le_trans (Nat.le_trans (Nat.le_trans (Nat.le_trans (Nat.le_trans (Nat.le_trans Z0 E256.1) K257.1) (Keep.of_wr W260).1) K264.1) (Keep.of_wr W268).1) (Keep.of_wr W270).1)
  exact Rch.retV X270 hx hret hlk (D.on 28 rfl) (fun U hU hF => hK _ U _ _ _ (by show Q_rnAD0 Z a1 rc sz mc e1 k1 l1 k2 l2 h0 n0 _ U.heap _; rw [hU, e270]; exact ⟨b256, rfl, N270, sz_b256, ((Fb265.wr W268 (Or.inl (List.mem_of_getElem? (i := 0) rfl))).wr W270 (Or.inl (List.mem_of_getElem? (i := 0) rfl))), ⟨((u266_0.wr W268).wr W270), ((u266_1.other W268 (Or.inr (sn6 hw))).other W270 (Or.inr (sn9 hw))), (Fw268.other W270 (Or.inr (sn10 hw))), Fw270, ((u266_4.other W268 (Or.inr (sn8 hw))).other W270 (Or.inr (sn11 hw))), ((u266_5.wr W268).wr W270)⟩, (own_EN.keep (own_EN.keep Pq264_0 (Keep.of_wr W268) (ninS (Ne.symm nc261) nin0)) (Keep.of_wr W270) (ninS (Ne.symm nc261) nin0)), (own_EN.keep (own_EN.keep Pq264_1 (Keep.of_wr W268) (ninS (Ne.symm nl258) nin0)) (Keep.of_wr W270) (ninS (Ne.symm nl258) nin0))⟩) hF (by decide) (by decide))
def Q_rnAD1 (Z : State) (a1 rc : Addr) (sz mc : Int32) (e1 k1 l1 k2 l2 : Addr) (h0 : Heap) (n0 : Nat) (vv_ : Option Value) (h : Heap) (LL_ : List Loc) : Prop := ∃ e2 : Addr, vv_ = none ∧ Fr n0 LL_ ∧ (h0.size ≤ e2 ∧ Keep h0 h [a1, e1] ∧ own_TM Z h a1 (.ref e1) rc (sz + (1 : Int32)) (mc + (1 : Int32)) ∧ own_EN Z h e1 k1 l1 .null .null (.ref e2) (1 : Int32) ∧ own_EN Z h e2 k2 l2 (.ref e1) .null .null (0 : Int32))
def sn43 {a0 : Array Value} {Z : State} (hw : HW a0 Z) := slot_ne (C := "java/util/TreeMap$Entry") (Or.inl (ow hw 216 rfl)) (Or.inl (ow hw 352 rfl)) (by decide) (t := .boolean) (t' := (.object "java/util/TreeMap$Entry")) (by decide) (by decide)
def sn44 {a0 : Array Value} {Z : State} (hw : HW a0 Z) := slot_ne (C := "java/util/TreeMap$Entry") (Or.inl (ow hw 218 rfl)) (Or.inl (ow hw 352 rfl)) (by decide) (t := (.object "java/lang/Object")) (t' := (.object "java/util/TreeMap$Entry")) (by decide) (by decide)
def sn45 {a0 : Array Value} {Z : State} (hw : HW a0 Z) := slot_ne (C := "java/util/TreeMap$Entry") (Or.inl (ow hw 220 rfl)) (Or.inl (ow hw 352 rfl)) (by decide) (t := (.object "java/lang/Object")) (t' := (.object "java/util/TreeMap$Entry")) (by decide) (by decide)
def sn46 {a0 : Array Value} {Z : State} (hw : HW a0 Z) := slot_ne (C := "java/util/TreeMap$Entry") (Or.inl (ow hw 222 rfl)) (Or.inl (ow hw 352 rfl)) (by decide) (t := (.object "java/util/TreeMap$Entry")) (t' := (.object "java/util/TreeMap$Entry")) (by decide) (by decide)
def sn47 {a0 : Array Value} {Z : State} (hw : HW a0 Z) := slot_ne (C := "java/util/TreeMap$Entry") (Or.inl (ow hw 350 rfl)) (Or.inl (ow hw 352 rfl)) (by decide) (t := (.object "java/util/TreeMap$Entry")) (t' := (.object "java/util/TreeMap$Entry")) (by decide) (by decide)
theorem rnAD1 (lh : Launch) (Z : State) (a0 : Array Value) (hw : HW a0 Z) (ws : List Jvm.Cond) (a1 rc : Addr) (sz mc : Int32) (e1 k1 l1 k2 l2 : Addr) (h0 : Heap) (n0 : Nat) (Z0 : n0 ≤ h0.size) (H0 : own_TM Z h0 a1 (.ref e1) rc sz mc) (H1 : own_EN Z h0 e1 k1 l1 .null .null .null (1 : Int32)) (g1 : n0 ≤ a1) (g2 : n0 ≤ e1) :
    MF lh Z me34 (.code me34 jdk_2729_method_29_code 6 none) ws ⟨2, 1, 6, 28⟩ #[.ref a1, .ref k2, .ref l2, .ref e1, .int (0 : Int32)] h0 (Q_rnAD1 Z a1 rc sz mc e1 k1 l1 k2 l2 h0 n0) := by
  refine own_met (y := me34) (plainFor_of_name pn_9) ?_
  intro p ev sT m below meth c T0 K hx hby hml hret hlk hown hnm hZ X0 e0 hK
  have N0 := Fr.nil n0
  have D : DB p c Ld32 := DB.of hx hby d32
  refine Rch.cast (g' := mkF m 0 #[.val (.ref a1), .val (.ref k2), .val (.ref l2), .val (.ref e1), .val (.int (0 : Int32)), .unset] []) (by first | rfl | simp [entryFrame, mkF, argsToLocals, Value.category]) ?_
  obtain ⟨u272_0, u272_1, u272_2, u272_3, u272_4, u272_5, u272_6⟩ := id H1
  obtain ⟨T273, h273, X273, e273, E273, A273, D273, -, st273⟩ := newO X0 hx hZ hown (ow hw 207 rfl) (ow hw 208 rfl) (ow hw 209 rfl) e0 (g := (mkF m 0 #[.val (.ref a1), .val (.ref k2), .val (.ref l2), .val (.ref e1), .val (.int (0 : Int32)), .unset] [])) rfl (D.on 0 rfl) (by decide) (by decide)
  obtain ⟨b273, g273⟩ : ∃ zz_, zz_ = h0.size := ⟨_, rfl⟩
  have ge_b273 : n0 ≤ b273 := Nat.le_trans Z0 (Nat.le_of_eq g273.symm)
  have sz_b273 : h0.size ≤ b273 := Nat.le_trans (Keep.refl h0 [a1, e1]).1 (Nat.le_of_eq g273.symm)
  rw [← g273] at A273 D273 st273
  have F273_color : Fld Z h273 b273 "java/util/TreeMap$Entry" "color" "Z" (.int (0 : Int32)) := D273 (Or.inl (ow hw 216 rfl)) (ty := .boolean) (by decide)
  have F273_key : Fld Z h273 b273 "java/util/TreeMap$Entry" "key" "Ljava/lang/Object;" .null := D273 (Or.inl (ow hw 218 rfl)) (ty := (.object "java/lang/Object")) (by decide)
  have F273_value : Fld Z h273 b273 "java/util/TreeMap$Entry" "value" "Ljava/lang/Object;" .null := D273 (Or.inl (ow hw 220 rfl)) (ty := (.object "java/lang/Object")) (by decide)
  have F273_parent : Fld Z h273 b273 "java/util/TreeMap$Entry" "parent" "Ljava/util/TreeMap$Entry;" .null := D273 (Or.inl (ow hw 222 rfl)) (ty := (.object "java/util/TreeMap$Entry")) (by decide)
  have F273_left : Fld Z h273 b273 "java/util/TreeMap$Entry" "left" "Ljava/util/TreeMap$Entry;" .null := D273 (Or.inl (ow hw 350 rfl)) (ty := (.object "java/util/TreeMap$Entry")) (by decide)
  have F273_right : Fld Z h273 b273 "java/util/TreeMap$Entry" "right" "Ljava/util/TreeMap$Entry;" .null := D273 (Or.inl (ow hw 352 rfl)) (ty := (.object "java/util/TreeMap$Entry")) (by decide)
  refine Rch.of (T' := T273) (g' := (mkF m 3 #[.val (.ref a1), .val (.ref k2), .val (.ref l2), .val (.ref e1), .val (.int (0 : Int32)), .unset] [.ref b273])) st273 ?_
  refine zdu X273 D 1 rfl rfl rfl (zaN X273 D 2 rfl rfl rfl rfl (zaN X273 D 3 rfl rfl rfl rfl (zaN X273 D 4 rfl rfl rfl rfl (zsb (W := 1) X273 D 5 hZ me26 hown (ow hw 210 rfl) (ow hw 211 rfl) (ow hw 213 rfl) (ow hw 209 rfl) e273 b273 (rnEr lh Z a0 hw [] b273 k2 l2 e1 (.int (0 : Int32)) .null .null .null h273 n0 (Nat.le_trans Z0 E273.1) A273 F273_color F273_key F273_value F273_parent F273_left F273_right ge_b273) hml [.ref k2, .ref l2, .ref e1] [.ref b273] (lenOf pd_18 rfl) rfl rfl rfl rfl rfl rfl rfl (by decide) (by decide) fun v274 T274 L274 X274 hQ274 => ?_))))
  obtain ⟨rfl, N274q, hQ274⟩ := hQ274
  have N274 := Fr.app N0 N274q
  obtain ⟨K274, Ex274, Fa274_0, Fa274_1, Fa274_2, Fa274_3, Fa274_4, Fa274_5⟩ := hQ274
  have nl275 : a1 ≠ b273 := Nat.ne_of_lt (Nat.lt_of_lt_of_le (own_TM.lt_tm H0) (Nat.le_of_eq g273.symm))
  have nl276 : e1 ≠ b273 := Nat.ne_of_lt (Nat.lt_of_lt_of_le u272_0.lt (Nat.le_of_eq g273.symm))
  refine zas X274 D 6 (l' := #[.val (.ref a1), .val (.ref k2), .val (.ref l2), .val (.ref e1), .val (.int (0 : Int32)), .val (.ref b273)]) rfl rfl rfl rfl (zi X274 D 7 rfl rfl rfl  (zY X274 D 8 26 rfl rfl ((if0 _ _).trans (teq ((by decide) : (0 : Int32) = (0 : Int32))).1) rfl (zaN X274 D 29 rfl rfl rfl rfl (za X274 D 30 rfl rfl rfl rfl (zpf X274 D 31 hZ hown (ow hw 351 rfl) rfl ((u272_6.ext E273).keep K274 (ninS nl276 nin0)) ((u272_0.ext E273).keep K274) (Or.inl (ow hw 352 rfl)) (ow hw 208 rfl) (.object "java/util/TreeMap$Entry") (by decide) rfl rfl rfl rfl fun T277 h277 X277 e277 W277 => ?_)))))
  have N277 := Fr.snoc X277 N274 g2
  have Fw277 := Fld.same W277 ((u272_6.ext E273).keep K274 (ninS nl276 nin0))
  have nc278 : a1 ≠ e1 := own_exane (own_TM.x_tm (own_TM.keep (own_TM.ext H0 E273) K274 (ninS nl275 nin0))) ((u272_0.ext E273).keep K274) (by decide)
  have Fb279 := (show own_EN Z h277 e1 k1 l1 .null .null (.ref b273) (1 : Int32) from ⟨(((u272_0.ext E273).keep K274).wr W277), (((u272_1.ext E273).keep K274 (ninS nl276 nin0)).other W277 (Or.inr (sn43 hw))), (((u272_2.ext E273).keep K274 (ninS nl276 nin0)).other W277 (Or.inr (sn44 hw))), (((u272_3.ext E273).keep K274 (ninS nl276 nin0)).other W277 (Or.inr (sn45 hw))), (((u272_4.ext E273).keep K274 (ninS nl276 nin0)).other W277 (Or.inr (sn46 hw))), (((u272_5.ext E273).keep K274 (ninS nl276 nin0)).other W277 (Or.inr (sn47 hw))), Fw277⟩)
  have Fb280 := (show own_EN Z h277 b273 k2 l2 (.ref e1) .null .null (1 : Int32) from ⟨(Ex274.wr W277), (Fa274_0.other W277 (Or.inl (Ne.symm nl276))), (Fa274_1.other W277 (Or.inl (Ne.symm nl276))), (Fa274_2.other W277 (Or.inl (Ne.symm nl276))), (Fa274_3.other W277 (Or.inl (Ne.symm nl276))), (Fa274_4.other W277 (Or.inl (Ne.symm nl276))), (Fa274_5.other W277 (Or.inl (Ne.symm nl276)))⟩)
  refine zaN X277 D 13 rfl rfl rfl rfl (za X277 D 14 rfl rfl rfl rfl (zpb X277 D 15 hZ me32 hown (mvT hZ (ow hw 442 rfl)) (ow hw 439 rfl) (ow hw 440 rfl) (ow hw 441 rfl) (ow hw 443 rfl) (ow hw 11 rfl) e277 (own_TM.x_tm (own_TM.keep (own_TM.keep (own_TM.ext H0 E273) K274 (ninS nl275 nin0)) (Keep.of_wr W277) (ninS nc278 nin0))) (rnFI1 lh Z a0 hw [] a1 rc sz mc e1 k1 l1 b273 k2 l2 h277 n0 (Nat.le_trans (Nat.le_trans (Nat.le_trans Z0 E273.1) K274.1) (Keep.of_wr W277).1) (own_TM.keep (own_TM.keep (own_TM.ext H0 E273) K274 (ninS nl275 nin0)) (Keep.of_wr W277) (ninS nc278 nin0)) Fb279 Fb280 g2 ge_b273 nl276) hml [.ref b273] [] (lenOf pd_29 rfl) rfl rfl rfl rfl rfl rfl (by decide) (by decide) fun v281 T281 L281 X281 hQ281 => ?_))
  obtain ⟨rfl, N281q, hQ281⟩ := hQ281
  have N281 := Fr.app N277 N281q
  obtain ⟨K281, Pq281_0, Pq281_1⟩ := hQ281
  have Fb282 := (((((Keep.refl h0 [a1, e1]).ext E273).trans K274 (allS (Or.inr sz_b273) all0)).wr W277 (Or.inl (List.mem_of_getElem? (i := 1) rfl))).trans K281 (allS (Or.inl (List.mem_of_getElem? (i := 1) rfl)) (allS (Or.inr sz_b273) all0)))
  obtain ⟨u283_0, u283_1, u283_2, u283_3, u283_4, u283_5⟩ := id (own_TM.keep (own_TM.keep (own_TM.keep (own_TM.ext H0 E273) K274 (ninS nl275 nin0)) (Keep.of_wr W277) (ninS nc278 nin0)) K281 (ninS nc278 (ninS nl275 nin0)))
  refine zaN X281 D 16 rfl rfl rfl rfl (zdu X281 D 17 rfl rfl rfl (zgf X281 D 18 hZ hown (ow hw 32 rfl) rfl u283_2 rfl rfl fun T284 X284 e284 => ?_))
  refine zic X284 D 19 1 rfl rfl rfl (ziadd X284 D 20 _ rfl rfl rfl (zpf X284 D 21 hZ hown (ow hw 32 rfl) e284 u283_2 u283_0 (Or.inl (ow hw 33 rfl)) (ow hw 10 rfl) .int (by decide) rfl rfl rfl rfl fun T285 h285 X285 e285 W285 => ?_))
  have N285 := Fr.snoc X285 N281 g1
  have Fw285 := Fld.same W285 u283_2
  refine zaN X285 D 22 rfl rfl rfl rfl (zdu X285 D 23 rfl rfl rfl (zgf X285 D 24 hZ hown (ow hw 34 rfl) e285 (u283_3.other W285 (Or.inr (sn7 hw))) rfl rfl fun T286 X286 e286 => ?_))
  refine zic X286 D 25 1 rfl rfl rfl (ziadd X286 D 26 _ rfl rfl rfl (zpf X286 D 27 hZ hown (ow hw 34 rfl) e286 (u283_3.other W285 (Or.inr (sn7 hw))) (u283_0.wr W285) (Or.inl (ow hw 35 rfl)) (ow hw 10 rfl) .int (by decide) rfl rfl rfl rfl fun T287 h287 X287 e287 W287 => ?_))
  have N287 := Fr.snoc X287 N285 g1
  have Fw287 := Fld.same W287 (u283_3.other W285 (Or.inr (sn7 hw)))
  have Fb288 := (Nat.le_trans (Nat.le_trans (Nat.le_trans (Nat.le_trans (Nat.le_trans (Nat.le_trans Z0 E273.1) K274.1) (Keep.of_wr W277).1) K281.1) (Keep.of_wr W285).1) (Keep.of_wr W287).1)
  exact Rch.retV X287 hx hret hlk (D.on 28 rfl) (fun U hU hF => hK _ U _ _ _ (by show Q_rnAD1 Z a1 rc sz mc e1 k1 l1 k2 l2 h0 n0 _ U.heap _; rw [hU, e287]; exact ⟨b273, rfl, N287, sz_b273, ((Fb282.wr W285 (Or.inl (List.mem_of_getElem? (i := 0) rfl))).wr W287 (Or.inl (List.mem_of_getElem? (i := 0) rfl))), ⟨((u283_0.wr W285).wr W287), ((u283_1.other W285 (Or.inr (sn6 hw))).other W287 (Or.inr (sn9 hw))), (Fw285.other W287 (Or.inr (sn10 hw))), Fw287, ((u283_4.other W285 (Or.inr (sn8 hw))).other W287 (Or.inr (sn11 hw))), ((u283_5.wr W285).wr W287)⟩, (own_EN.keep (own_EN.keep Pq281_0 (Keep.of_wr W285) (ninS (Ne.symm nc278) nin0)) (Keep.of_wr W287) (ninS (Ne.symm nc278) nin0)), (own_EN.keep (own_EN.keep Pq281_1 (Keep.of_wr W285) (ninS (Ne.symm nl275) nin0)) (Keep.of_wr W287) (ninS (Ne.symm nl275) nin0))⟩) hF (by decide) (by decide))
abbrev own_TC : List String := ["java/util/TreeMap", "java/util/TreeMap$Entry", "java/lang/Integer"]
def own_BC (Z : State) (h : Heap) (ws : List Addr) : Prop := ∀ y ∈ ws, ∀ C ∈ own_TC, ¬ Exa Z h y C
theorem own_bc0 {Z : State} {h : Heap} : own_BC Z h [] := fun _ q => nomatch q
theorem own_bcS {Z : State} {h : Heap} {y : Addr} {C : String} {ws : List Addr} (E : Exa Z h y C) (hC : C ∉ own_TC) (r : own_BC Z h ws) : own_BC Z h (y :: ws) := fun y' hy D hD E' => by
  rcases List.mem_cons.mp hy with rfl | q
  · exact own_exane E E' (fun e => hC (e ▸ hD)) rfl
  · exact r _ q _ hD E'
theorem own_nbc {Z : State} {h : Heap} {y : Addr} {C : String} {ws : List Addr} (B : own_BC Z h ws) (E : Exa Z h y C) (hC : C ∈ own_TC) : y ∉ ws := fun m => B y m C hC E
def own_T1 (Z : State) (h : Heap) (tm rc : Addr) (x : Int32) (l e : Addr) : Prop := ∃ (k : Addr) (sz mc : Int32), own_TM Z h tm (.ref e) rc sz mc ∧ own_EN Z h e k l .null .null .null 1 ∧ own_KI Z h k x
def own_T2 (Z : State) (h : Heap) (tm rc : Addr) (x1 : Int32) (l1 e1 : Addr) (x2 : Int32) (l2 e2 : Addr) : Prop := ∃ (k1 k2 : Addr) (sz mc : Int32), own_TM Z h tm (.ref e1) rc sz mc ∧ own_KI Z h k1 x1 ∧ own_KI Z h k2 x2 ∧ own_EN Z h e2 k2 l2 (.ref e1) .null .null 0 ∧ e1 ≠ e2 ∧
  ((x1 < x2 ∧ own_EN Z h e1 k1 l1 .null (.ref e2) .null 1) ∨ (x2 < x1 ∧ own_EN Z h e1 k1 l1 .null .null (.ref e2) 1))
def own_MQ (Z : State) (h : Heap) (tm rc : Addr) (x : Int32) (l : Addr) (E : List Addr) (T : Heap → Prop) (n0 : Nat) (e : Addr) : Prop :=
  (E = [e] ∧ n0 ≤ e ∧ own_T1 Z h tm rc x l e ∧ T = fun _ => True) ∨
  (∃ e2 x2 l2, E = [e, e2] ∧ n0 ≤ e ∧ n0 ≤ e2 ∧ own_T2 Z h tm rc x l e x2 l2 e2 ∧ T = fun h' => own_T1 Z h' tm rc x2 l2 e2) ∨
  (∃ e1 x1 l1, E = [e1, e] ∧ n0 ≤ e1 ∧ n0 ≤ e ∧ own_T2 Z h tm rc x1 l1 e1 x l e ∧ T = fun _ => True)
section Shapes
variable {Z : State} {h h' : Heap} {ws E : List Addr} {tm rc l l1 l2 e e1 e2 : Addr} {x x1 x2 : Int32} {T : Heap → Prop} {n0 : Nat}
theorem own_T1.x_tm (H : own_T1 Z h tm rc x l e) : Exa Z h tm "java/util/TreeMap" := by
  obtain ⟨k, sz, mc, H1, -⟩ := H
  exact own_TM.x_tm H1
theorem own_T1.x_e (H : own_T1 Z h tm rc x l e) : Exa Z h e "java/util/TreeMap$Entry" := by
  obtain ⟨k, sz, mc, -, H2, -⟩ := H
  exact own_EN.x_e H2
theorem own_T1.lt_tm (H : own_T1 Z h tm rc x l e) : tm < h.size := H.x_tm.lt
theorem own_T1.lt_e (H : own_T1 Z h tm rc x l e) : e < h.size := H.x_e.lt
theorem own_T1.keep (H : own_T1 Z h tm rc x l e) (K : Keep h h' ws) (B : own_BC Z h ws) : own_T1 Z h' tm rc x l e := by
  obtain ⟨k, sz, mc, H1, H2, H3⟩ := H
  exact ⟨k, sz, mc, own_TM.keep H1 K (own_nbc B (own_TM.x_tm H1) (by decide)), own_EN.keep H2 K (own_nbc B (own_EN.x_e H2) (by decide)), own_KI.keep H3 K (own_nbc B (own_KI.x_k H3) (by decide))⟩
theorem own_T1.ext (H : own_T1 Z h tm rc x l e) (E : Ext h h') : own_T1 Z h' tm rc x l e := by
  obtain ⟨k, sz, mc, H1, H2, H3⟩ := H
  exact ⟨k, sz, mc, own_TM.ext H1 E, own_EN.ext H2 E, own_KI.ext H3 E⟩
theorem own_T2.x_tm (H : own_T2 Z h tm rc x1 l1 e1 x2 l2 e2) : Exa Z h tm "java/util/TreeMap" := by
  obtain ⟨k1, k2, sz, mc, H1, -⟩ := H
  exact own_TM.x_tm H1
theorem own_T2.root (H : own_T2 Z h tm rc x1 l1 e1 x2 l2 e2) : ∃ (k1 : Addr) (le ri : Value) (sz mc : Int32), own_TM Z h tm (.ref e1) rc sz mc ∧ own_EN Z h e1 k1 l1 .null le ri 1 ∧ own_KI Z h k1 x1 := by
  obtain ⟨k1, k2, sz, mc, H1, H2, -, -, -, q⟩ := H
  rcases q with ⟨-, q⟩ | ⟨-, q⟩
  · exact ⟨k1, _, _, sz, mc, H1, q, H2⟩
  · exact ⟨k1, _, _, sz, mc, H1, q, H2⟩
theorem own_T2.x_e1 (H : own_T2 Z h tm rc x1 l1 e1 x2 l2 e2) : Exa Z h e1 "java/util/TreeMap$Entry" := by
  obtain ⟨k1, le, ri, sz, mc, -, q, -⟩ := H.root
  exact own_EN.x_e q
theorem own_T2.x_e2 (H : own_T2 Z h tm rc x1 l1 e1 x2 l2 e2) : Exa Z h e2 "java/util/TreeMap$Entry" := by
  obtain ⟨k1, k2, sz, mc, -, -, -, q, -⟩ := H
  exact own_EN.x_e q
theorem own_T2.lt_tm (H : own_T2 Z h tm rc x1 l1 e1 x2 l2 e2) : tm < h.size := H.x_tm.lt
theorem own_T2.keep (H : own_T2 Z h tm rc x1 l1 e1 x2 l2 e2) (K : Keep h h' ws) (B : own_BC Z h ws) : own_T2 Z h' tm rc x1 l1 e1 x2 l2 e2 := by
  obtain ⟨k1, k2, sz, mc, H1, H2, H3, H4, hne, q⟩ := H
  refine ⟨k1, k2, sz, mc, own_TM.keep H1 K (own_nbc B (own_TM.x_tm H1) (by decide)), own_KI.keep H2 K (own_nbc B (own_KI.x_k H2) (by decide)), own_KI.keep H3 K (own_nbc B (own_KI.x_k H3) (by decide)), own_EN.keep H4 K (own_nbc B (own_EN.x_e H4) (by decide)), hne, ?_⟩
  rcases q with ⟨a, q⟩ | ⟨a, q⟩
  · exact Or.inl ⟨a, own_EN.keep q K (own_nbc B (own_EN.x_e q) (by decide))⟩
  · exact Or.inr ⟨a, own_EN.keep q K (own_nbc B (own_EN.x_e q) (by decide))⟩
theorem own_T2.ext (H : own_T2 Z h tm rc x1 l1 e1 x2 l2 e2) (E : Ext h h') : own_T2 Z h' tm rc x1 l1 e1 x2 l2 e2 := by
  obtain ⟨k1, k2, sz, mc, H1, H2, H3, H4, hne, q⟩ := H
  exact ⟨k1, k2, sz, mc, own_TM.ext H1 E, own_KI.ext H2 E, own_KI.ext H3 E, own_EN.ext H4 E, hne, q.imp (fun z => ⟨z.1, own_EN.ext z.2 E⟩) (fun z => ⟨z.1, own_EN.ext z.2 E⟩)⟩
theorem own_MQ.keep (H : own_MQ Z h tm rc x l E T n0 e) (K : Keep h h' ws) (B : own_BC Z h ws) : own_MQ Z h' tm rc x l E T n0 e := by
  rcases H with ⟨a, b, q, r⟩ | ⟨e2, y, z, a, b, c, q, r⟩ | ⟨e1, y, z, a, b, c, q, r⟩
  · exact Or.inl ⟨a, b, own_T1.keep q K B, r⟩
  · exact Or.inr (Or.inl ⟨e2, y, z, a, b, c, own_T2.keep q K B, r⟩)
  · exact Or.inr (Or.inr ⟨e1, y, z, a, b, c, own_T2.keep q K B, r⟩)
theorem own_MQ.ext (H : own_MQ Z h tm rc x l E T n0 e) (X : Ext h h') : own_MQ Z h' tm rc x l E T n0 e := by
  rcases H with ⟨a, b, q, r⟩ | ⟨e2, y, z, a, b, c, q, r⟩ | ⟨e1, y, z, a, b, c, q, r⟩
  · exact Or.inl ⟨a, b, own_T1.ext q X, r⟩
  · exact Or.inr (Or.inl ⟨e2, y, z, a, b, c, own_T2.ext q X, r⟩)
  · exact Or.inr (Or.inr ⟨e1, y, z, a, b, c, own_T2.ext q X, r⟩)
theorem own_MQ.x_tm (H : own_MQ Z h tm rc x l E T n0 e) : Exa Z h tm "java/util/TreeMap" := by
  rcases H with ⟨a, b, q, r⟩ | ⟨e2, y, z, a, b, c, q, r⟩ | ⟨e1, y, z, a, b, c, q, r⟩
  · exact q.x_tm
  · exact q.x_tm
  · exact q.x_tm
theorem own_MQ.x_e (H : own_MQ Z h tm rc x l E T n0 e) : Exa Z h e "java/util/TreeMap$Entry" := by
  rcases H with ⟨a, b, q, r⟩ | ⟨e2, y, z, a, b, c, q, r⟩ | ⟨e1, y, z, a, b, c, q, r⟩
  · exact q.x_e
  · exact q.x_e1
  · exact q.x_e2
theorem own_MQ.lt_tm (H : own_MQ Z h tm rc x l E T n0 e) : tm < h.size := H.x_tm.lt
theorem own_MQ.lt_e (H : own_MQ Z h tm rc x l E T n0 e) : e < h.size := H.x_e.lt
theorem own_MQ.ge (H : own_MQ Z h tm rc x l E T n0 e) (g : n0 ≤ tm) : ∀ y ∈ tm :: E, n0 ≤ y := by
  rcases H with ⟨rfl, b, q, r⟩ | ⟨e2, y, z, rfl, b, c, q, r⟩ | ⟨e1, y, z, rfl, b, c, q, r⟩
  · exact allS g (allS b all0)
  · exact allS g (allS b (allS c all0))
  · exact allS g (allS b (allS c all0))
theorem own_MQ.nin {y : Addr} {C : String} (H : own_MQ Z h tm rc x l E T n0 e) (X : Exa Z h y C) (hC : C ∉ own_TC) : y ∉ tm :: E := by
  have N : ∀ {z D}, Exa Z h z D → D ∈ own_TC → y ≠ z := fun q hD => own_exane X q (fun e => hC (e ▸ hD))
  rcases H with ⟨rfl, b, q, r⟩ | ⟨e2, u, z, rfl, b, c, q, r⟩ | ⟨e1, u, z, rfl, b, c, q, r⟩
  · exact ninS (N q.x_tm (by decide)) (ninS (N q.x_e (by decide)) nin0)
  · exact ninS (N q.x_tm (by decide)) (ninS (N q.x_e1 (by decide)) (ninS (N q.x_e2 (by decide)) nin0))
  · exact ninS (N q.x_tm (by decide)) (ninS (N q.x_e1 (by decide)) (ninS (N q.x_e2 (by decide)) nin0))
theorem own_MQ.cases (H : own_MQ Z h tm rc x l E T n0 e) : (∃ (k1 : Addr) (le ri : Value) (sz mc : Int32), own_TM Z h tm (.ref e) rc sz mc ∧ own_EN Z h e k1 l .null le ri 1 ∧ own_KI Z h k1 x) ∨ ∃ e1 x1 l1, own_T2 Z h tm rc x1 l1 e1 x l e := by
  rcases H with ⟨a, b, ⟨k, sz, mc, q1, q2, q3⟩, r⟩ | ⟨e2, y, z, a, b, c, q, r⟩ | ⟨e1, y, z, a, b, c, q, r⟩
  · exact Or.inl ⟨k, _, _, sz, mc, q1, q2, q3⟩
  · exact Or.inl q.root
  · exact Or.inr ⟨e1, y, z, q⟩
theorem own_MQ.val (H : own_MQ Z h tm rc x l E T n0 e) : Fld Z h e "java/util/TreeMap$Entry" "value" "Ljava/lang/Object;" (.ref l) := by
  rcases H.cases with ⟨k1, le, ri, sz, mc, -, q, -⟩ | ⟨e1, x1, l1, k1, k2, sz, mc, -, -, -, q, -⟩
  · exact q.2.2.2.1
  · exact q.2.2.2.1
theorem own_T2.root2 (H : own_T2 Z h tm rc x1 l1 e1 x2 l2 e2) : ∃ (k1 k2 : Addr) (le ri : Value) (sz mc : Int32), own_TM Z h tm (.ref e1) rc sz mc ∧ own_EN Z h e1 k1 l1 .null le ri 1 ∧ own_EN Z h e2 k2 l2 (.ref e1) .null .null 0 ∧ own_KI Z h k2 x2 ∧ e1 ≠ e2 ∧ ((le = .ref e2 ∧ ri = .null) ∨ (le = .null ∧ ri = .ref e2)) := by
  obtain ⟨k1, k2, sz, mc, H1, H2, H3, H4, hne, q⟩ := H
  rcases q with ⟨-, q⟩ | ⟨-, q⟩
  · exact ⟨k1, k2, _, _, sz, mc, H1, q, H4, H3, hne, Or.inl ⟨rfl, rfl⟩⟩
  · exact ⟨k1, k2, _, _, sz, mc, H1, q, H4, H3, hne, Or.inr ⟨rfl, rfl⟩⟩
end Shapes
def Q_rnDE0 (Z : State) (a1 rc : Addr) (x1 : Int32) (l1 e1 : Addr) (h0 : Heap) (n0 : Nat) (vv_ : Option Value) (h : Heap) (LL_ : List Loc) : Prop := vv_ = none ∧ Fr n0 LL_ ∧ (Keep h0 h [a1, e1] ∧ True)
def Ld33 : List (Nat × Instr × Nat) := [(0, .aload_n 0, 1), (1, .dup, 1), (2, .getfield 13, 3), (5, .iconst 1, 1), (6, .iadd, 1), (7, .putfield 13, 3), (10, .aload_n 0, 1), (11, .dup, 1), (12, .getfield 7, 3), (15, .iconst 1, 1), (16, .isub, 1), (17, .putfield 7, 3), (20, .aload_n 1, 1), (21, .getfield 111, 3), (24, .ifnull 33, 3), (57, .aload_n 1, 1), (58, .getfield 111, 3), (61, .ifnull 10, 3), (71, .aload_n 1, 1), (72, .getfield 114, 3), (75, .astore_n 2, 1), (76, .aload_n 2, 1), (77, .ifnull 87, 3), (164, .aload_n 1, 1), (165, .getfield 124, 3), (168, .ifnonnull 11, 3), (171, .aload_n 0, 1), (172, .aconst_null, 1), (173, .putfield 101, 3), (176, .goto 69, 3), (245, .return_, 1), (80, .aload_n 2, 1), (81, .aload_n 1, 1), (82, .getfield 124, 3), (85, .putfield 124, 3), (88, .aload_n 1, 1), (89, .getfield 124, 3), (92, .ifnonnull 11, 3), (95, .aload_n 0, 1), (96, .aload_n 2, 1), (97, .putfield 101, 3), (100, .goto 33, 3), (133, .aload_n 1, 1), (134, .aload_n 1, 1), (135, .aload_n 1, 1), (136, .aconst_null, 1), (137, .dup_x1, 1), (138, .putfield 124, 3), (141, .dup_x1, 1), (142, .putfield 114, 3), (145, .putfield 111, 3), (148, .aload_n 1, 1), (149, .getfield 290, 3), (152, .iconst 1, 1), (153, .if_icmp .ne 92, 3), (156, .aload_n 0, 1), (157, .aload_n 2, 1), (158, .invokevirtual 317, 3), (161, .goto 84, 3), (27, .aload_n 1, 1), (28, .getfield 114, 3), (31, .ifnull 26, 3), (64, .aload_n 1, 1), (65, .getfield 111, 3), (68, .goto 7, 3), (179, .aload_n 1, 1), (180, .getfield 290, 3), (183, .iconst 1, 1), (184, .if_icmp .ne 8, 3), (192, .aload_n 1, 1), (193, .getfield 124, 3), (196, .ifnull 49, 3), (199, .aload_n 1, 1), (200, .aload_n 1, 1), (201, .getfield 124, 3), (204, .getfield 111, 3), (207, .if_acmp .ne 14, 3), (210, .aload_n 1, 1), (211, .getfield 124, 3), (214, .aconst_null, 1), (215, .putfield 111, 3), (218, .goto 22, 3), (240, .aload_n 1, 1), (241, .aconst_null, 1), (242, .putfield 124, 3), (221, .aload_n 1, 1), (222, .aload_n 1, 1), (223, .getfield 124, 3), (226, .getfield 114, 3), (229, .if_acmp .ne 11, 3), (232, .aload_n 1, 1), (233, .getfield 124, 3), (236, .aconst_null, 1), (237, .putfield 114, 3)]
theorem d33 : ∀ q ∈ Ld33, decode jdk_2729_method_84_code q.1 = .ok q.2 := by decide +kernel
abbrev me35 : MethodName := ⟨"java/util/TreeMap", "deleteEntry", "(Ljava/util/TreeMap$Entry;)V"⟩
theorem rnDE0 (lh : Launch) (Z : State) (a0 : Array Value) (hw : HW a0 Z) (ws : List Jvm.Cond) (a1 rc : Addr) (x1 : Int32) (l1 e1 : Addr) (h0 : Heap) (n0 : Nat) (Z0 : n0 ≤ h0.size) (HH : own_T1 Z h0 a1 rc x1 l1 e1) (g1 : n0 ≤ a1) :
    MF lh Z me35 (.code me35 jdk_2729_method_84_code 3 none) ws ⟨3, 0, 0, 40⟩ #[.ref a1, .ref e1] h0 (Q_rnDE0 Z a1 rc x1 l1 e1 h0 n0) := by
  refine own_met (y := me35) (plainFor_of_name pn_9) ?_
  intro p ev sT m below meth c T0 K hx hby hml hret hlk hown hnm hZ X0 e0 hK
  have N0 := Fr.nil n0
  have D : DB p c Ld33 := DB.of hx hby d33
  refine Rch.cast (g' := mkF m 0 #[.val (.ref a1), .val (.ref e1), .unset] []) (by first | rfl | simp [entryFrame, mkF, argsToLocals, Value.category]) ?_
  obtain ⟨k1, sz, mc, HT, HE1, HK1⟩ := id HH
  obtain ⟨u289_0, u289_1, u289_2, u289_3, u289_4, u289_5⟩ := id HT
  obtain ⟨u290_0, u290_1, u290_2, u290_3, u290_4, u290_5, u290_6⟩ := id HE1
  refine zaN X0 D 0 rfl rfl rfl rfl (zdu X0 D 1 rfl rfl rfl (zgf X0 D 2 hZ hown (ow hw 34 rfl) e0 u289_3 rfl rfl fun T291 X291 e291 => ?_))
  refine zic X291 D 3 1 rfl rfl rfl (ziadd X291 D 4 _ rfl rfl rfl (zpf X291 D 5 hZ hown (ow hw 34 rfl) e291 u289_3 u289_0 (Or.inl (ow hw 35 rfl)) (ow hw 10 rfl) .int (by decide) rfl rfl rfl rfl fun T292 h292 X292 e292 W292 => ?_))
  have N292 := Fr.snoc X292 N0 g1
  have Fw292 := Fld.same W292 u289_3
  have nc293 : k1 ≠ a1 := own_exane (own_KI.x_k HK1) u289_0 (by decide)
  have nc294 : e1 ≠ a1 := own_exane u290_0 u289_0 (by decide)
  refine zaN X292 D 6 rfl rfl rfl rfl (zdu X292 D 7 rfl rfl rfl (zgf X292 D 8 hZ hown (ow hw 32 rfl) e292 (u289_2.other W292 (Or.inr (sn10 hw))) rfl rfl fun T295 X295 e295 => ?_))
  refine zic X295 D 9 1 rfl rfl rfl (zisub X295 D 10 _ rfl rfl rfl (zpf X295 D 11 hZ hown (ow hw 32 rfl) e295 (u289_2.other W292 (Or.inr (sn10 hw))) (u289_0.wr W292) (Or.inl (ow hw 33 rfl)) (ow hw 10 rfl) .int (by decide) rfl rfl rfl rfl fun T296 h296 X296 e296 W296 => ?_))
  have N296 := Fr.snoc X296 N292 g1
  have Fw296 := Fld.same W296 (u289_2.other W292 (Or.inr (sn10 hw)))
  refine zaN X296 D 12 rfl rfl rfl rfl (zgf X296 D 13 hZ hown (ow hw 349 rfl) e296 ((u290_5.other W292 (Or.inl nc294)).other W296 (Or.inl nc294)) rfl rfl fun T297 X297 e297 => ?_)
  refine zifnullYes X297 D 14 57 rfl rfl rfl (zaN X297 D 15 rfl rfl rfl rfl (zgf X297 D 16 hZ hown (ow hw 349 rfl) e297 ((u290_5.other W292 (Or.inl nc294)).other W296 (Or.inl nc294)) rfl rfl fun T298 X298 e298 => ?_))
  refine zifnullYes X298 D 17 71 rfl rfl rfl (zaN X298 D 18 rfl rfl rfl rfl (zgf X298 D 19 hZ hown (ow hw 351 rfl) e298 ((u290_6.other W292 (Or.inl nc294)).other W296 (Or.inl nc294)) rfl rfl fun T299 X299 e299 => ?_))
  refine zat X299 D 20 (l' := #[.val (.ref a1), .val (.ref e1), .val .null]) rfl rfl rfl rfl (zaN X299 D 21 rfl rfl rfl rfl (zifnullYes X299 D 22 164 rfl rfl rfl (zaN X299 D 23 rfl rfl rfl rfl (zgf X299 D 24 hZ hown (ow hw 353 rfl) e299 ((u290_4.other W292 (Or.inl nc294)).other W296 (Or.inl nc294)) rfl rfl fun T300 X300 e300 => ?_))))
  refine zifnonnullNo X300 D 25 rfl rfl (zaN X300 D 26 rfl rfl rfl rfl (zaconstNull X300 D 27 rfl rfl (zpf X300 D 28 hZ hown (ow hw 94 rfl) e300 ((u289_1.other W292 (Or.inr (sn9 hw))).other W296 (Or.inr (sn6 hw))) ((u289_0.wr W292).wr W296) (Or.inl (ow hw 95 rfl)) (ow hw 10 rfl) (.object "java/util/TreeMap$Entry") (by decide) rfl rfl rfl rfl fun T301 h301 X301 e301 W301 => ?_)))
  have N301 := Fr.snoc X301 N296 g1
  have Fw301 := Fld.same W301 ((u289_1.other W292 (Or.inr (sn9 hw))).other W296 (Or.inr (sn6 hw)))
  have Fb302 := ((((Keep.refl h0 [a1, e1]).wr W292 (Or.inl (List.mem_of_getElem? (i := 0) rfl))).wr W296 (Or.inl (List.mem_of_getElem? (i := 0) rfl))).wr W301 (Or.inl (List.mem_of_getElem? (i := 0) rfl)))
  refine zgo X301 D 29 245 rfl rfl rfl ?_
  exact Rch.retV X301 hx hret hlk (D.on 30 rfl) (fun U hU hF => hK _ U _ _ _ (by show Q_rnDE0 Z a1 rc x1 l1 e1 h0 n0 _ U.heap _; rw [hU, e301]; exact ⟨rfl, N301, Fb302, trivial⟩) hF (by decide) (by decide))
def Q_rnDE1 (Z : State) (a1 rc : Addr) (x1 : Int32) (l1 e1 : Addr) (x2 : Int32) (l2 e2 : Addr) (h0 : Heap) (n0 : Nat) (vv_ : Option Value) (h : Heap) (LL_ : List Loc) : Prop := vv_ = none ∧ Fr n0 LL_ ∧ (Keep h0 h [a1, e1, e2] ∧ own_T1 Z h a1 rc x2 l2 e2)
theorem rnDE1 (lh : Launch) (Z : State) (a0 : Array Value) (hw : HW a0 Z) (ws : List Jvm.Cond) (a1 rc : Addr) (x1 : Int32) (l1 e1 : Addr) (x2 : Int32) (l2 e2 : Addr) (h0 : Heap) (n0 : Nat) (Z0 : n0 ≤ h0.size) (HH : own_T2 Z h0 a1 rc x1 l1 e1 x2 l2 e2) (g1 : n0 ≤ a1) (g2 : n0 ≤ e1) (g3 : n0 ≤ e2) :
    MF lh Z me35 (.code me35 jdk_2729_method_84_code 3 none) ws ⟨3, 0, 0, 40⟩ #[.ref a1, .ref e1] h0 (Q_rnDE1 Z a1 rc x1 l1 e1 x2 l2 e2 h0 n0) := by
  refine own_met (y := me35) (plainFor_of_name pn_9) ?_
  intro p ev sT m below meth c T0 K hx hby hml hret hlk hown hnm hZ X0 e0 hK
  have N0 := Fr.nil n0
  have D : DB p c Ld33 := DB.of hx hby d33
  refine Rch.cast (g' := mkF m 0 #[.val (.ref a1), .val (.ref e1), .unset] []) (by first | rfl | simp [entryFrame, mkF, argsToLocals, Value.category]) ?_
  obtain ⟨k1, k2, le, ri, sz, mc, HT, HE1, HE2, HK2, hne, hq⟩ := own_T2.root2 HH
  obtain ⟨u303_0, u303_1, u303_2, u303_3, u303_4, u303_5⟩ := id HT
  obtain ⟨u304_0, u304_1, u304_2, u304_3, u304_4, u304_5, u304_6⟩ := id HE1
  obtain ⟨u305_0, u305_1, u305_2, u305_3, u305_4, u305_5, u305_6⟩ := id HE2
  refine zaN X0 D 0 rfl rfl rfl rfl (zdu X0 D 1 rfl rfl rfl (zgf X0 D 2 hZ hown (ow hw 34 rfl) e0 u303_3 rfl rfl fun T306 X306 e306 => ?_))
  refine zic X306 D 3 1 rfl rfl rfl (ziadd X306 D 4 _ rfl rfl rfl (zpf X306 D 5 hZ hown (ow hw 34 rfl) e306 u303_3 u303_0 (Or.inl (ow hw 35 rfl)) (ow hw 10 rfl) .int (by decide) rfl rfl rfl rfl fun T307 h307 X307 e307 W307 => ?_))
  have N307 := Fr.snoc X307 N0 g1
  have Fw307 := Fld.same W307 u303_3
  have nc308 : k2 ≠ a1 := own_exane (own_KI.x_k HK2) u303_0 (by decide)
  have nc309 : e1 ≠ a1 := own_exane u304_0 u303_0 (by decide)
  have nc310 : e2 ≠ a1 := own_exane u305_0 u303_0 (by decide)
  refine zaN X307 D 6 rfl rfl rfl rfl (zdu X307 D 7 rfl rfl rfl (zgf X307 D 8 hZ hown (ow hw 32 rfl) e307 (u303_2.other W307 (Or.inr (sn10 hw))) rfl rfl fun T311 X311 e311 => ?_))
  refine zic X311 D 9 1 rfl rfl rfl (zisub X311 D 10 _ rfl rfl rfl (zpf X311 D 11 hZ hown (ow hw 32 rfl) e311 (u303_2.other W307 (Or.inr (sn10 hw))) (u303_0.wr W307) (Or.inl (ow hw 33 rfl)) (ow hw 10 rfl) .int (by decide) rfl rfl rfl rfl fun T312 h312 X312 e312 W312 => ?_))
  have N312 := Fr.snoc X312 N307 g1
  have Fw312 := Fld.same W312 (u303_2.other W307 (Or.inr (sn10 hw)))
  have J : ∀ (TJ : State) (LJ : List Loc) (XJ : Stand p lh ev ({ frames := 3, cells := 0, slots := 0, locals := 40 } : Room) sT m #[.ref a1, .ref e1] below meth c TJ LJ 0 0) (eJ : TJ.heap = h312) (NJ : Fr n0 LJ), Rch p ev below K TJ (mkF m 76 #[.val (.ref a1), .val (.ref e1), .val (.ref e2)] []) := by
    intro TJ LJ XJ eJ NJ
    refine zaN XJ D 21 rfl rfl rfl rfl (zifnullNo XJ D 22 rfl rfl (zaN XJ D 31 rfl rfl rfl rfl (zaN XJ D 32 rfl rfl rfl rfl (zgf XJ D 33 hZ hown (ow hw 353 rfl) eJ ((u304_4.other W307 (Or.inl nc309)).other W312 (Or.inl nc309)) rfl rfl fun T313 X313 e313 => ?_))))
    refine zpf X313 D 34 hZ hown (ow hw 353 rfl) e313 ((u305_4.other W307 (Or.inl nc310)).other W312 (Or.inl nc310)) ((u305_0.wr W307).wr W312) (Or.inl (ow hw 222 rfl)) (ow hw 208 rfl) (.object "java/util/TreeMap$Entry") (by decide) rfl rfl rfl rfl fun T314 h314 X314 e314 W314 => ?_
    have N314 := Fr.snoc X314 NJ g3
    have Fw314 := Fld.same W314 ((u305_4.other W307 (Or.inl nc310)).other W312 (Or.inl nc310))
    have nc315 : k2 ≠ e2 := own_exane (own_KI.x_k (own_KI.keep (own_KI.keep HK2 (Keep.of_wr W307) (ninS nc308 nin0)) (Keep.of_wr W312) (ninS nc308 nin0))) ((u305_0.wr W307).wr W312) (by decide)
    have Fb316 := ((((Keep.refl h0 [a1, e1, e2]).wr W307 (Or.inl (List.mem_of_getElem? (i := 0) rfl))).wr W312 (Or.inl (List.mem_of_getElem? (i := 0) rfl))).wr W314 (Or.inl (List.mem_of_getElem? (i := 2) rfl)))
    refine zaN X314 D 35 rfl rfl rfl rfl (zgf X314 D 36 hZ hown (ow hw 353 rfl) e314 (((u304_4.other W307 (Or.inl nc309)).other W312 (Or.inl nc309)).other W314 (Or.inl hne)) rfl rfl fun T317 X317 e317 => ?_)
    refine zifnonnullNo X317 D 37 rfl rfl (zaN X317 D 38 rfl rfl rfl rfl (zaN X317 D 39 rfl rfl rfl rfl (zpf X317 D 40 hZ hown (ow hw 94 rfl) e317 (((u303_1.other W307 (Or.inr (sn9 hw))).other W312 (Or.inr (sn6 hw))).other W314 (Or.inl (Ne.symm nc310))) (((u303_0.wr W307).wr W312).wr W314) (Or.inl (ow hw 95 rfl)) (ow hw 10 rfl) (.object "java/util/TreeMap$Entry") (by decide) rfl rfl rfl rfl fun T318 h318 X318 e318 W318 => ?_)))
    have N318 := Fr.snoc X318 N314 g1
    have Fw318 := Fld.same W318 (((u303_1.other W307 (Or.inr (sn9 hw))).other W312 (Or.inr (sn6 hw))).other W314 (Or.inl (Ne.symm nc310)))
    have Fb319 := (own_KI.keep (own_KI.keep (own_KI.keep (own_KI.keep HK2 (Keep.of_wr W307) (ninS nc308 nin0)) (Keep.of_wr W312) (ninS nc308 nin0)) (Keep.of_wr W314) (ninS nc315 nin0)) (Keep.of_wr W318) (ninS nc308 nin0))
    refine zgo X318 D 41 133 rfl rfl rfl (zaN X318 D 42 rfl rfl rfl rfl (zaN X318 D 43 rfl rfl rfl rfl (zaN X318 D 44 rfl rfl rfl rfl (zaconstNull X318 D 45 rfl rfl (zdupX1 X318 D 46 rfl rfl rfl rfl (zpf X318 D 47 hZ hown (ow hw 353 rfl) e318 ((((u304_4.other W307 (Or.inl nc309)).other W312 (Or.inl nc309)).other W314 (Or.inl hne)).other W318 (Or.inl nc309)) ((((u304_0.wr W307).wr W312).wr W314).wr W318) (Or.inl (ow hw 222 rfl)) (ow hw 208 rfl) (.object "java/util/TreeMap$Entry") (by decide) rfl rfl rfl rfl fun T320 h320 X320 e320 W320 => ?_))))))
    have N320 := Fr.snoc X320 N318 g2
    have Fw320 := Fld.same W320 ((((u304_4.other W307 (Or.inl nc309)).other W312 (Or.inl nc309)).other W314 (Or.inl hne)).other W318 (Or.inl nc309))
    have nc321 : k2 ≠ e1 := own_exane (own_KI.x_k Fb319) ((((u304_0.wr W307).wr W312).wr W314).wr W318) (by decide)
    have Fb322 := (((((u303_4.other W307 (Or.inr (sn11 hw))).other W312 (Or.inr (sn8 hw))).other W314 (Or.inl (Ne.symm nc310))).other W318 (Or.inr (sn37 hw))).other W320 (Or.inl (Ne.symm nc309)))
    have Fb323 := (Nat.le_trans (Nat.le_trans (Nat.le_trans (Nat.le_trans (Nat.le_trans Z0 (Keep.of_wr W307).1) (Keep.of_wr W312).1) (Keep.of_wr W314).1) (Keep.of_wr W318).1) (Keep.of_wr W320).1)
    refine zdupX1 X320 D 48 rfl rfl rfl rfl (zpf X320 D 49 hZ hown (ow hw 351 rfl) e320 (((((u304_6.other W307 (Or.inl nc309)).other W312 (Or.inl nc309)).other W314 (Or.inl hne)).other W318 (Or.inl nc309)).other W320 (Or.inr (sn34 hw))) (((((u304_0.wr W307).wr W312).wr W314).wr W318).wr W320) (Or.inl (ow hw 352 rfl)) (ow hw 208 rfl) (.object "java/util/TreeMap$Entry") (by decide) rfl rfl rfl rfl fun T324 h324 X324 e324 W324 => ?_)
    have N324 := Fr.snoc X324 N320 g2
    have Fw324 := Fld.same W324 (((((u304_6.other W307 (Or.inl nc309)).other W312 (Or.inl nc309)).other W314 (Or.inl hne)).other W318 (Or.inl nc309)).other W320 (Or.inr (sn34 hw)))
    have Fb325 := (((((Fw307.other W312 (Or.inr (sn7 hw))).other W314 (Or.inl (Ne.symm nc310))).other W318 (Or.inr (sn36 hw))).other W320 (Or.inl (Ne.symm nc309))).other W324 (Or.inl (Ne.symm nc309)))
    have Fb326 := ((((((u304_1.other W307 (Or.inl nc309)).other W312 (Or.inl nc309)).other W314 (Or.inl hne)).other W318 (Or.inl nc309)).other W320 (Or.inr (sn30 hw))).other W324 (Or.inr (sn43 hw)))
    have Fb327 := ((((((u304_2.other W307 (Or.inl nc309)).other W312 (Or.inl nc309)).other W314 (Or.inl hne)).other W318 (Or.inl nc309)).other W320 (Or.inr (sn31 hw))).other W324 (Or.inr (sn44 hw)))
    have Fb328 := ((((((u304_3.other W307 (Or.inl nc309)).other W312 (Or.inl nc309)).other W314 (Or.inl hne)).other W318 (Or.inl nc309)).other W320 (Or.inr (sn32 hw))).other W324 (Or.inr (sn45 hw)))
    have Fb329 := ((((((u304_5.other W307 (Or.inl nc309)).other W312 (Or.inl nc309)).other W314 (Or.inl hne)).other W318 (Or.inl nc309)).other W320 (Or.inr (sn33 hw))).other W324 (Or.inr (sn47 hw)))
    have Fb330 := ((((((u305_1.other W307 (Or.inl nc310)).other W312 (Or.inl nc310)).other W314 (Or.inr (sn30 hw))).other W318 (Or.inl nc310)).other W320 (Or.inl (Ne.symm hne))).other W324 (Or.inl (Ne.symm hne)))
    have Fb331 := ((((((u305_2.other W307 (Or.inl nc310)).other W312 (Or.inl nc310)).other W314 (Or.inr (sn31 hw))).other W318 (Or.inl nc310)).other W320 (Or.inl (Ne.symm hne))).other W324 (Or.inl (Ne.symm hne)))
    have Fb332 := ((((((u305_3.other W307 (Or.inl nc310)).other W312 (Or.inl nc310)).other W314 (Or.inr (sn32 hw))).other W318 (Or.inl nc310)).other W320 (Or.inl (Ne.symm hne))).other W324 (Or.inl (Ne.symm hne)))
    have Fb333 := ((((((u305_5.other W307 (Or.inl nc310)).other W312 (Or.inl nc310)).other W314 (Or.inr (sn33 hw))).other W318 (Or.inl nc310)).other W320 (Or.inl (Ne.symm hne))).other W324 (Or.inl (Ne.symm hne)))
    have Fb334 := ((((((u305_6.other W307 (Or.inl nc310)).other W312 (Or.inl nc310)).other W314 (Or.inr (sn34 hw))).other W318 (Or.inl nc310)).other W320 (Or.inl (Ne.symm hne))).other W324 (Or.inl (Ne.symm hne)))
    have Fb335 := (((Fb316.wr W318 (Or.inl (List.mem_of_getElem? (i := 0) rfl))).wr W320 (Or.inl (List.mem_of_getElem? (i := 1) rfl))).wr W324 (Or.inl (List.mem_of_getElem? (i := 1) rfl)))
    refine zpf X324 D 50 hZ hown (ow hw 349 rfl) e324 Fb329 ((((((u304_0.wr W307).wr W312).wr W314).wr W318).wr W320).wr W324) (Or.inl (ow hw 350 rfl)) (ow hw 208 rfl) (.object "java/util/TreeMap$Entry") (by decide) rfl rfl rfl rfl fun T336 h336 X336 e336 W336 => ?_
    have N336 := Fr.snoc X336 N324 g2
    have Fw336 := Fld.same W336 Fb329
    have Fb337 := (((((Fw312.other W314 (Or.inl (Ne.symm nc310))).other W318 (Or.inr (sn35 hw))).other W320 (Or.inl (Ne.symm nc309))).other W324 (Or.inl (Ne.symm nc309))).other W336 (Or.inl (Ne.symm nc309)))
    refine zaN X336 D 51 rfl rfl rfl rfl (zgf X336 D 52 hZ hown (ow hw 444 rfl) e336 (Fb326.other W336 (Or.inr (sn38 hw))) rfl rfl fun T338 X338 e338 => ?_)
    refine zic X338 D 53 1 rfl rfl rfl (zcN X338 D 54 rfl rfl (teq ((by decide) : (1 : Int32) = (1 : Int32))).2 (zaN X338 D 55 rfl rfl rfl rfl (zaN X338 D 56 rfl rfl rfl rfl ?_)))
    have Fb339 := (show own_TM Z h336 a1 (.ref e2) rc (sz - (1 : Int32)) (mc + (1 : Int32)) from ⟨(((((((u303_0.wr W307).wr W312).wr W314).wr W318).wr W320).wr W324).wr W336), (((Fw318.other W320 (Or.inl (Ne.symm nc309))).other W324 (Or.inl (Ne.symm nc309))).other W336 (Or.inl (Ne.symm nc309))), Fb337, (Fb325.other W336 (Or.inl (Ne.symm nc309))), ((Fb322.other W324 (Or.inl (Ne.symm nc309))).other W336 (Or.inl (Ne.symm nc309))), (((((((u303_5.wr W307).wr W312).wr W314).wr W318).wr W320).wr W324).wr W336)⟩)
    have Fb340 := (show own_EN Z h336 e2 k2 l2 .null .null .null (0 : Int32) from ⟨(((((((u305_0.wr W307).wr W312).wr W314).wr W318).wr W320).wr W324).wr W336), (Fb330.other W336 (Or.inl (Ne.symm hne))), (Fb331.other W336 (Or.inl (Ne.symm hne))), (Fb332.other W336 (Or.inl (Ne.symm hne))), ((((Fw314.other W318 (Or.inl nc310)).other W320 (Or.inl (Ne.symm hne))).other W324 (Or.inl (Ne.symm hne))).other W336 (Or.inl (Ne.symm hne))), (Fb333.other W336 (Or.inl (Ne.symm hne))), (Fb334.other W336 (Or.inl (Ne.symm hne)))⟩)
    refine zpb X338 D 57 hZ me31 hown (mvT hZ (ow hw 448 rfl)) (ow hw 445 rfl) (ow hw 446 rfl) (ow hw 447 rfl) (ow hw 449 rfl) (ow hw 11 rfl) e338 (own_TM.x_tm Fb339) (rnFD lh Z a0 hw [] a1 rc (sz - (1 : Int32)) (mc + (1 : Int32)) e2 k2 l2 .null .null .null (0 : Int32) h336 n0 (Nat.le_trans (Nat.le_trans Fb323 (Keep.of_wr W324).1) (Keep.of_wr W336).1) Fb339 Fb340 g3) hml [.ref e2] [] (lenOf pd_29 rfl) rfl rfl rfl rfl rfl rfl (by decide) (by decide) fun v341 T341 L341 X341 hQ341 => ?_
    obtain ⟨rfl, N341q, hQ341⟩ := hQ341
    have N341 := Fr.app N336 N341q
    obtain ⟨K341, Pq341_0⟩ := hQ341
    have Fb342 := (own_KI.keep (own_KI.keep (own_KI.keep (own_KI.keep Fb319 (Keep.of_wr W320) (ninS nc321 nin0)) (Keep.of_wr W324) (ninS nc321 nin0)) (Keep.of_wr W336) (ninS nc321 nin0)) K341 (ninS nc315 nin0))
    refine zgo X341 D 58 245 rfl rfl rfl ?_
    exact Rch.retV X341 hx hret hlk (D.on 30 rfl) (fun U hU hF => hK _ U _ _ _ (by show Q_rnDE1 Z a1 rc x1 l1 e1 x2 l2 e2 h0 n0 _ U.heap _; rw [hU]; exact ⟨rfl, N341, ((Fb335.wr W336 (Or.inl (List.mem_of_getElem? (i := 1) rfl))).trans K341 (allS (Or.inl (List.mem_of_getElem? (i := 2) rfl)) all0)), k2, _, _, (own_TM.keep Fb339 K341 (ninS (Ne.symm nc310) nin0)), Pq341_0, Fb342⟩) hF (by decide) (by decide))
  rcases hq with ⟨rfl, rfl⟩ | ⟨rfl, rfl⟩
  · skip
    refine zaN X312 D 12 rfl rfl rfl rfl (zgf X312 D 13 hZ hown (ow hw 349 rfl) e312 ((u304_5.other W307 (Or.inl nc309)).other W312 (Or.inl nc309)) rfl rfl fun T343 X343 e343 => ?_)
    refine zifnullNo X343 D 14 rfl rfl (zaN X343 D 59 rfl rfl rfl rfl (zgf X343 D 60 hZ hown (ow hw 351 rfl) e343 ((u304_6.other W307 (Or.inl nc309)).other W312 (Or.inl nc309)) rfl rfl fun T344 X344 e344 => ?_))
    refine zifnullYes X344 D 61 57 rfl rfl rfl (zaN X344 D 15 rfl rfl rfl rfl (zgf X344 D 16 hZ hown (ow hw 349 rfl) e344 ((u304_5.other W307 (Or.inl nc309)).other W312 (Or.inl nc309)) rfl rfl fun T345 X345 e345 => ?_))
    refine zifnullNo X345 D 17 rfl rfl (zaN X345 D 62 rfl rfl rfl rfl (zgf X345 D 63 hZ hown (ow hw 349 rfl) e345 ((u304_5.other W307 (Or.inl nc309)).other W312 (Or.inl nc309)) rfl rfl fun T346 X346 e346 => ?_))
    refine zgo X346 D 64 75 rfl rfl rfl (zat X346 D 20 (l' := #[.val (.ref a1), .val (.ref e1), .val (.ref e2)]) rfl rfl rfl rfl ?_)
    exact J T346 _ X346 e346 N312
  · skip
    refine zaN X312 D 12 rfl rfl rfl rfl (zgf X312 D 13 hZ hown (ow hw 349 rfl) e312 ((u304_5.other W307 (Or.inl nc309)).other W312 (Or.inl nc309)) rfl rfl fun T347 X347 e347 => ?_)
    refine zifnullYes X347 D 14 57 rfl rfl rfl (zaN X347 D 15 rfl rfl rfl rfl (zgf X347 D 16 hZ hown (ow hw 349 rfl) e347 ((u304_5.other W307 (Or.inl nc309)).other W312 (Or.inl nc309)) rfl rfl fun T348 X348 e348 => ?_))
    refine zifnullYes X348 D 17 71 rfl rfl rfl (zaN X348 D 18 rfl rfl rfl rfl (zgf X348 D 19 hZ hown (ow hw 351 rfl) e348 ((u304_6.other W307 (Or.inl nc309)).other W312 (Or.inl nc309)) rfl rfl fun T349 X349 e349 => ?_))
    refine zat X349 D 20 (l' := #[.val (.ref a1), .val (.ref e1), .val (.ref e2)]) rfl rfl rfl rfl ?_
    exact J T349 _ X349 e349 N312
def Q_rnDE2 (Z : State) (a1 rc : Addr) (x1 : Int32) (l1 e1 : Addr) (x2 : Int32) (l2 e2 : Addr) (h0 : Heap) (n0 : Nat) (vv_ : Option Value) (h : Heap) (LL_ : List Loc) : Prop := vv_ = none ∧ Fr n0 LL_ ∧ (Keep h0 h [a1, e1, e2] ∧ True)
theorem rnDE2 (lh : Launch) (Z : State) (a0 : Array Value) (hw : HW a0 Z) (ws : List Jvm.Cond) (a1 rc : Addr) (x1 : Int32) (l1 e1 : Addr) (x2 : Int32) (l2 e2 : Addr) (h0 : Heap) (n0 : Nat) (Z0 : n0 ≤ h0.size) (HH : own_T2 Z h0 a1 rc x1 l1 e1 x2 l2 e2) (g1 : n0 ≤ a1) (g2 : n0 ≤ e1) (g3 : n0 ≤ e2) :
    MF lh Z me35 (.code me35 jdk_2729_method_84_code 3 none) ws ⟨3, 0, 0, 40⟩ #[.ref a1, .ref e2] h0 (Q_rnDE2 Z a1 rc x1 l1 e1 x2 l2 e2 h0 n0) := by
  refine own_met (y := me35) (plainFor_of_name pn_9) ?_
  intro p ev sT m below meth c T0 K hx hby hml hret hlk hown hnm hZ X0 e0 hK
  have N0 := Fr.nil n0
  have D : DB p c Ld33 := DB.of hx hby d33
  refine Rch.cast (g' := mkF m 0 #[.val (.ref a1), .val (.ref e2), .unset] []) (by first | rfl | simp [entryFrame, mkF, argsToLocals, Value.category]) ?_
  obtain ⟨k1, k2, le, ri, sz, mc, HT, HE1, HE2, HK2, hne, hq⟩ := own_T2.root2 HH
  obtain ⟨u350_0, u350_1, u350_2, u350_3, u350_4, u350_5⟩ := id HT
  obtain ⟨u351_0, u351_1, u351_2, u351_3, u351_4, u351_5, u351_6⟩ := id HE1
  obtain ⟨u352_0, u352_1, u352_2, u352_3, u352_4, u352_5, u352_6⟩ := id HE2
  refine zaN X0 D 0 rfl rfl rfl rfl (zdu X0 D 1 rfl rfl rfl (zgf X0 D 2 hZ hown (ow hw 34 rfl) e0 u350_3 rfl rfl fun T353 X353 e353 => ?_))
  refine zic X353 D 3 1 rfl rfl rfl (ziadd X353 D 4 _ rfl rfl rfl (zpf X353 D 5 hZ hown (ow hw 34 rfl) e353 u350_3 u350_0 (Or.inl (ow hw 35 rfl)) (ow hw 10 rfl) .int (by decide) rfl rfl rfl rfl fun T354 h354 X354 e354 W354 => ?_))
  have N354 := Fr.snoc X354 N0 g1
  have Fw354 := Fld.same W354 u350_3
  have nc355 : k2 ≠ a1 := own_exane (own_KI.x_k HK2) u350_0 (by decide)
  have nc356 : e1 ≠ a1 := own_exane u351_0 u350_0 (by decide)
  have nc357 : e2 ≠ a1 := own_exane u352_0 u350_0 (by decide)
  refine zaN X354 D 6 rfl rfl rfl rfl (zdu X354 D 7 rfl rfl rfl (zgf X354 D 8 hZ hown (ow hw 32 rfl) e354 (u350_2.other W354 (Or.inr (sn10 hw))) rfl rfl fun T358 X358 e358 => ?_))
  refine zic X358 D 9 1 rfl rfl rfl (zisub X358 D 10 _ rfl rfl rfl (zpf X358 D 11 hZ hown (ow hw 32 rfl) e358 (u350_2.other W354 (Or.inr (sn10 hw))) (u350_0.wr W354) (Or.inl (ow hw 33 rfl)) (ow hw 10 rfl) .int (by decide) rfl rfl rfl rfl fun T359 h359 X359 e359 W359 => ?_))
  have N359 := Fr.snoc X359 N354 g1
  have Fw359 := Fld.same W359 (u350_2.other W354 (Or.inr (sn10 hw)))
  refine zaN X359 D 12 rfl rfl rfl rfl (zgf X359 D 13 hZ hown (ow hw 349 rfl) e359 ((u352_5.other W354 (Or.inl nc357)).other W359 (Or.inl nc357)) rfl rfl fun T360 X360 e360 => ?_)
  refine zifnullYes X360 D 14 57 rfl rfl rfl (zaN X360 D 15 rfl rfl rfl rfl (zgf X360 D 16 hZ hown (ow hw 349 rfl) e360 ((u352_5.other W354 (Or.inl nc357)).other W359 (Or.inl nc357)) rfl rfl fun T361 X361 e361 => ?_))
  refine zifnullYes X361 D 17 71 rfl rfl rfl (zaN X361 D 18 rfl rfl rfl rfl (zgf X361 D 19 hZ hown (ow hw 351 rfl) e361 ((u352_6.other W354 (Or.inl nc357)).other W359 (Or.inl nc357)) rfl rfl fun T362 X362 e362 => ?_))
  refine zat X362 D 20 (l' := #[.val (.ref a1), .val (.ref e2), .val .null]) rfl rfl rfl rfl (zaN X362 D 21 rfl rfl rfl rfl (zifnullYes X362 D 22 164 rfl rfl rfl (zaN X362 D 23 rfl rfl rfl rfl (zgf X362 D 24 hZ hown (ow hw 353 rfl) e362 ((u352_4.other W354 (Or.inl nc357)).other W359 (Or.inl nc357)) rfl rfl fun T363 X363 e363 => ?_))))
  refine zifnonnullYes X363 D 25 179 rfl rfl rfl (zaN X363 D 65 rfl rfl rfl rfl (zgf X363 D 66 hZ hown (ow hw 444 rfl) e363 ((u352_1.other W354 (Or.inl nc357)).other W359 (Or.inl nc357)) rfl rfl fun T364 X364 e364 => ?_))
  refine zic X364 D 67 1 rfl rfl rfl (zcY X364 D 68 192 rfl rfl (feq ((by decide) : ¬ ((0 : Int32) = (1 : Int32)))).2 rfl (zaN X364 D 69 rfl rfl rfl rfl (zgf X364 D 70 hZ hown (ow hw 353 rfl) e364 ((u352_4.other W354 (Or.inl nc357)).other W359 (Or.inl nc357)) rfl rfl fun T365 X365 e365 => ?_)))
  refine zifnullNo X365 D 71 rfl rfl ?_
  rcases hq with ⟨rfl, rfl⟩ | ⟨rfl, rfl⟩
  · skip
    refine zaN X365 D 72 rfl rfl rfl rfl (zaN X365 D 73 rfl rfl rfl rfl (zgf X365 D 74 hZ hown (ow hw 353 rfl) e365 ((u352_4.other W354 (Or.inl nc357)).other W359 (Or.inl nc357)) rfl rfl fun T366 X366 e366 => ?_))
    refine zgf X366 D 75 hZ hown (ow hw 349 rfl) e366 ((u351_5.other W354 (Or.inl nc356)).other W359 (Or.inl nc356)) rfl rfl fun T367 X367 e367 => ?_
    refine Rch.of (T' := T367) (g' := (mkF m 210 #[.val (.ref a1), .val (.ref e2), .val .null] [])) (fun _ kt => Jvm.RoadKit.acmp (g := (mkF m 207 #[.val (.ref a1), .val (.ref e2), .val .null] [.ref e2, .ref e2])) X367 hx rfl rfl rfl (pc0 := 207) (pc' := 210) (same := true) rfl (D.on 76 rfl) rfl (decide_eq_true rfl) (by decide) (by decide) kt) ?_
    refine zaN X367 D 77 rfl rfl rfl rfl (zgf X367 D 78 hZ hown (ow hw 353 rfl) e367 ((u352_4.other W354 (Or.inl nc357)).other W359 (Or.inl nc357)) rfl rfl fun T368 X368 e368 => ?_)
    refine zaconstNull X368 D 79 rfl rfl (zpf X368 D 80 hZ hown (ow hw 349 rfl) e368 ((u351_5.other W354 (Or.inl nc356)).other W359 (Or.inl nc356)) ((u351_0.wr W354).wr W359) (Or.inl (ow hw 350 rfl)) (ow hw 208 rfl) (.object "java/util/TreeMap$Entry") (by decide) rfl rfl rfl rfl fun T369 h369 X369 e369 W369 => ?_)
    have N369 := Fr.snoc X369 N359 g2
    have Fw369 := Fld.same W369 ((u351_5.other W354 (Or.inl nc356)).other W359 (Or.inl nc356))
    have nc370 : k2 ≠ e1 := own_exane (own_KI.x_k (own_KI.keep (own_KI.keep HK2 (Keep.of_wr W354) (ninS nc355 nin0)) (Keep.of_wr W359) (ninS nc355 nin0))) ((u351_0.wr W354).wr W359) (by decide)
    have Fb371 := ((((Keep.refl h0 [a1, e1, e2]).wr W354 (Or.inl (List.mem_of_getElem? (i := 0) rfl))).wr W359 (Or.inl (List.mem_of_getElem? (i := 0) rfl))).wr W369 (Or.inl (List.mem_of_getElem? (i := 1) rfl)))
    refine zgo X369 D 81 240 rfl rfl rfl (zaN X369 D 82 rfl rfl rfl rfl (zaconstNull X369 D 83 rfl rfl (zpf X369 D 84 hZ hown (ow hw 353 rfl) e369 (((u352_4.other W354 (Or.inl nc357)).other W359 (Or.inl nc357)).other W369 (Or.inl (Ne.symm hne))) (((u352_0.wr W354).wr W359).wr W369) (Or.inl (ow hw 222 rfl)) (ow hw 208 rfl) (.object "java/util/TreeMap$Entry") (by decide) rfl rfl rfl rfl fun T372 h372 X372 e372 W372 => ?_)))
    have N372 := Fr.snoc X372 N369 g3
    have Fw372 := Fld.same W372 (((u352_4.other W354 (Or.inl nc357)).other W359 (Or.inl nc357)).other W369 (Or.inl (Ne.symm hne)))
    have nc373 : k2 ≠ e2 := own_exane (own_KI.x_k (own_KI.keep (own_KI.keep (own_KI.keep HK2 (Keep.of_wr W354) (ninS nc355 nin0)) (Keep.of_wr W359) (ninS nc355 nin0)) (Keep.of_wr W369) (ninS nc370 nin0))) (((u352_0.wr W354).wr W359).wr W369) (by decide)
    have Fb374 := (own_KI.keep (own_KI.keep (own_KI.keep (own_KI.keep HK2 (Keep.of_wr W354) (ninS nc355 nin0)) (Keep.of_wr W359) (ninS nc355 nin0)) (Keep.of_wr W369) (ninS nc370 nin0)) (Keep.of_wr W372) (ninS nc373 nin0))
    exact Rch.retV X372 hx hret hlk (D.on 30 rfl) (fun U hU hF => hK _ U _ _ _ (by show Q_rnDE2 Z a1 rc x1 l1 e1 x2 l2 e2 h0 n0 _ U.heap _; rw [hU, e372]; exact ⟨rfl, N372, (Fb371.wr W372 (Or.inl (List.mem_of_getElem? (i := 2) rfl))), trivial⟩) hF (by decide) (by decide))
  · skip
    refine zaN X365 D 72 rfl rfl rfl rfl (zaN X365 D 73 rfl rfl rfl rfl (zgf X365 D 74 hZ hown (ow hw 353 rfl) e365 ((u352_4.other W354 (Or.inl nc357)).other W359 (Or.inl nc357)) rfl rfl fun T375 X375 e375 => ?_))
    refine zgf X375 D 75 hZ hown (ow hw 349 rfl) e375 ((u351_5.other W354 (Or.inl nc356)).other W359 (Or.inl nc356)) rfl rfl fun T376 X376 e376 => ?_
    refine Rch.of (T' := T376) (g' := (mkF m 221 #[.val (.ref a1), .val (.ref e2), .val .null] [])) (fun _ kt => Jvm.RoadKit.acmp (g := (mkF m 207 #[.val (.ref a1), .val (.ref e2), .val .null] [.null, .ref e2])) X376 hx rfl rfl rfl (pc0 := 207) (pc' := 221) (same := false) rfl (D.on 76 rfl) rfl (decide_eq_false nofun) (by decide) (by decide) kt) ?_
    refine zaN X376 D 85 rfl rfl rfl rfl (zaN X376 D 86 rfl rfl rfl rfl (zgf X376 D 87 hZ hown (ow hw 353 rfl) e376 ((u352_4.other W354 (Or.inl nc357)).other W359 (Or.inl nc357)) rfl rfl fun T377 X377 e377 => ?_))
    refine zgf X377 D 88 hZ hown (ow hw 351 rfl) e377 ((u351_6.other W354 (Or.inl nc356)).other W359 (Or.inl nc356)) rfl rfl fun T378 X378 e378 => ?_
    refine Rch.of (T' := T378) (g' := (mkF m 232 #[.val (.ref a1), .val (.ref e2), .val .null] [])) (fun _ kt => Jvm.RoadKit.acmp (g := (mkF m 229 #[.val (.ref a1), .val (.ref e2), .val .null] [.ref e2, .ref e2])) X378 hx rfl rfl rfl (pc0 := 229) (pc' := 232) (same := true) rfl (D.on 89 rfl) rfl (decide_eq_true rfl) (by decide) (by decide) kt) ?_
    refine zaN X378 D 90 rfl rfl rfl rfl (zgf X378 D 91 hZ hown (ow hw 353 rfl) e378 ((u352_4.other W354 (Or.inl nc357)).other W359 (Or.inl nc357)) rfl rfl fun T379 X379 e379 => ?_)
    refine zaconstNull X379 D 92 rfl rfl (zpf X379 D 93 hZ hown (ow hw 351 rfl) e379 ((u351_6.other W354 (Or.inl nc356)).other W359 (Or.inl nc356)) ((u351_0.wr W354).wr W359) (Or.inl (ow hw 352 rfl)) (ow hw 208 rfl) (.object "java/util/TreeMap$Entry") (by decide) rfl rfl rfl rfl fun T380 h380 X380 e380 W380 => ?_)
    have N380 := Fr.snoc X380 N359 g2
    have Fw380 := Fld.same W380 ((u351_6.other W354 (Or.inl nc356)).other W359 (Or.inl nc356))
    have nc381 : k2 ≠ e1 := own_exane (own_KI.x_k (own_KI.keep (own_KI.keep HK2 (Keep.of_wr W354) (ninS nc355 nin0)) (Keep.of_wr W359) (ninS nc355 nin0))) ((u351_0.wr W354).wr W359) (by decide)
    have Fb382 := ((((Keep.refl h0 [a1, e1, e2]).wr W354 (Or.inl (List.mem_of_getElem? (i := 0) rfl))).wr W359 (Or.inl (List.mem_of_getElem? (i := 0) rfl))).wr W380 (Or.inl (List.mem_of_getElem? (i := 1) rfl)))
    refine zaN X380 D 82 rfl rfl rfl rfl (zaconstNull X380 D 83 rfl rfl (zpf X380 D 84 hZ hown (ow hw 353 rfl) e380 (((u352_4.other W354 (Or.inl nc357)).other W359 (Or.inl nc357)).other W380 (Or.inl (Ne.symm hne))) (((u352_0.wr W354).wr W359).wr W380) (Or.inl (ow hw 222 rfl)) (ow hw 208 rfl) (.object "java/util/TreeMap$Entry") (by decide) rfl rfl rfl rfl fun T383 h383 X383 e383 W383 => ?_))
    have N383 := Fr.snoc X383 N380 g3
    have Fw383 := Fld.same W383 (((u352_4.other W354 (Or.inl nc357)).other W359 (Or.inl nc357)).other W380 (Or.inl (Ne.symm hne)))
    have nc384 : k2 ≠ e2 := own_exane (own_KI.x_k (own_KI.keep (own_KI.keep (own_KI.keep HK2 (Keep.of_wr W354) (ninS nc355 nin0)) (Keep.of_wr W359) (ninS nc355 nin0)) (Keep.of_wr W380) (ninS nc381 nin0))) (((u352_0.wr W354).wr W359).wr W380) (by decide)
    have Fb385 := (own_KI.keep (own_KI.keep (own_KI.keep (own_KI.keep HK2 (Keep.of_wr W354) (ninS nc355 nin0)) (Keep.of_wr W359) (ninS nc355 nin0)) (Keep.of_wr W380) (ninS nc381 nin0)) (Keep.of_wr W383) (ninS nc384 nin0))
    exact Rch.retV X383 hx hret hlk (D.on 30 rfl) (fun U hU hF => hK _ U _ _ _ (by show Q_rnDE2 Z a1 rc x1 l1 e1 x2 l2 e2 h0 n0 _ U.heap _; rw [hU, e383]; exact ⟨rfl, N383, (Fb382.wr W383 (Or.inl (List.mem_of_getElem? (i := 2) rfl))), trivial⟩) hF (by decide) (by decide))
def Q_rnDE (Z : State) (a1 e rc : Addr) (x : Int32) (l : Addr) (E : List Addr) (T : Heap → Prop) (h0 : Heap) (n0 : Nat) (vv_ : Option Value) (h : Heap) (LL_ : List Loc) : Prop := vv_ = none ∧ Fr n0 LL_ ∧ (Keep h0 h (a1 :: E) ∧ T h)
theorem rnDE (lh : Launch) (Z : State) (a0 : Array Value) (hw : HW a0 Z) (ws : List Jvm.Cond) (a1 e rc : Addr) (x : Int32) (l : Addr) (E : List Addr) (T : Heap → Prop) (h0 : Heap) (n0 : Nat) (Z0 : n0 ≤ h0.size) (HM : own_MQ Z h0 a1 rc x l E T n0 e) (g1 : n0 ≤ a1) :
    MF lh Z me35 (.code me35 jdk_2729_method_84_code 3 none) ws ⟨3, 0, 0, 40⟩ #[(.ref a1), (.ref e)] h0 (Q_rnDE Z a1 e rc x l E T h0 n0) := by
  rcases HM with ⟨rfl, g2, H, rfl⟩ | ⟨e2, x2, l2, rfl, g2, g3, H, rfl⟩ | ⟨e1, x1, l1, rfl, g2, g3, H, rfl⟩
  · exact rnDE0 lh Z a0 hw ws _ _ _ _ _ h0 n0 Z0 H g1
  · exact rnDE1 lh Z a0 hw ws _ _ _ _ _ _ _ _ h0 n0 Z0 H g1 g2 g3
  · exact rnDE2 lh Z a0 hw ws _ _ _ _ _ _ _ _ h0 n0 Z0 H g1 g2 g3
def Q_rnGE (Z : State) (a1 a2 rc : Addr) (x : Int32) (l : Addr) (E : List Addr) (T : Heap → Prop) (e : Addr) (h0 : Heap) (n0 : Nat) (vv_ : Option Value) (h : Heap) (LL_ : List Loc) : Prop := vv_ = some (.ref e) ∧ Fr n0 LL_ ∧ (h = h0)
def Ld34 : List (Nat × Instr × Nat) := [(0, .aload_n 0, 1), (1, .getfield 16, 3), (4, .ifnull 9, 3), (7, .aload_n 0, 1), (8, .aload_n 1, 1), (9, .invokevirtual 92, 3), (12, .areturn, 1)]
theorem d34 : ∀ q ∈ Ld34, decode jdk_2729_method_15_code q.1 = .ok q.2 := by decide +kernel
abbrev me36 : MethodName := ⟨"java/util/TreeMap", "getEntry", "(Ljava/lang/Object;)Ljava/util/TreeMap$Entry;"⟩
theorem rnGE (lh : Launch) (Z : State) (a0 : Array Value) (hw : HW a0 Z) (ws : List Jvm.Cond) (a1 a2 rc : Addr) (x : Int32) (l : Addr) (E : List Addr) (T : Heap → Prop) (e : Addr) (h0 : Heap) (n0 : Nat) (Z0 : n0 ≤ h0.size) (HM : own_MQ Z h0 a1 rc x l E T n0 e) (HK : own_KI Z h0 a2 x) :
    MF lh Z me36 (.code me36 jdk_2729_method_15_code 5 (some (.object "java/util/TreeMap$Entry"))) ws ⟨6, 0, 0, 84⟩ #[.ref a1, .ref a2] h0 (Q_rnGE Z a1 a2 rc x l E T e h0 n0) := by
  refine own_met (y := me36) (plainFor_of_name pn_9) ?_
  intro p ev sT m below meth c T0 K hx hby hml hret hlk hown hnm hZ X0 e0 hK
  have N0 := Fr.nil n0
  have D : DB p c Ld34 := DB.of hx hby d34
  refine Rch.cast (g' := mkF m 0 #[.val (.ref a1), .val (.ref a2), .unset, .unset, .unset] []) (by first | rfl | simp [entryFrame, mkF, argsToLocals, Value.category]) ?_
  obtain ⟨u386_0, u386_1⟩ := id HK
  rcases own_MQ.cases HM with ⟨k1, le, ri, sz, mc, HT, HE1, HK1⟩ | ⟨e1, x1, l1, H⟩
  · skip
    obtain ⟨u387_0, u387_1, u387_2, u387_3, u387_4, u387_5⟩ := id HT
    obtain ⟨u388_0, u388_1, u388_2, u388_3, u388_4, u388_5, u388_6⟩ := id HE1
    obtain ⟨u389_0, u389_1⟩ := id HK1
    refine zaN X0 D 0 rfl rfl rfl rfl (zgf X0 D 1 hZ hown (ow hw 36 rfl) e0 u387_4 rfl rfl fun T390 X390 e390 => ?_)
    refine zifnullNo X390 D 2 rfl rfl (zaN X390 D 3 rfl rfl rfl rfl (zaN X390 D 4 rfl rfl rfl rfl (zvs X390 D 5 hZ me29 hown (ow hw 301 rfl) (ow hw 302 rfl) (ow hw 304 rfl) (ow hw 303 rfl) (ow hw 305 rfl) (ow hw 11 rfl) e390 u387_0 (rnGU0 lh Z a0 hw [] a1 a2 rc e k1 x h0 n0 Z0 u387_0 u387_4 u387_5 u387_1 u388_2 u389_0 u389_1 u386_0 u386_1) hml [.ref a2] [] (lenOf pd_27 rfl) rfl rfl rfl rfl rfl rfl (by decide) (by decide) fun v391 T391 L391 X391 hQ391 => ?_)))
    obtain ⟨rfl, N391q, hQ391⟩ := hQ391
    have N391 := Fr.app N0 N391q
    exact Rch.retA X391 hx (w := (.ref e)) hret rfl rfl hlk (D.on 6 rfl) (fun U hU hF => hK _ U _ _ _ (by show Q_rnGE Z a1 a2 rc x l E T e h0 n0 _ U.heap _; rw [hU, hQ391]; exact ⟨rfl, N391, rfl⟩) hF (by decide) (by decide))
  · skip
    obtain ⟨k1, k2, sz, mc, HT, HK1, HK2, HE2, hne, ⟨hlt, HE1⟩ | ⟨hlt, HE1⟩⟩ := id H
    · skip
      obtain ⟨u392_0, u392_1, u392_2, u392_3, u392_4, u392_5⟩ := id HT
      obtain ⟨u393_0, u393_1, u393_2, u393_3, u393_4, u393_5, u393_6⟩ := id HE1
      obtain ⟨u394_0, u394_1, u394_2, u394_3, u394_4, u394_5, u394_6⟩ := id HE2
      obtain ⟨u395_0, u395_1⟩ := id HK1
      obtain ⟨u396_0, u396_1⟩ := id HK2
      refine zaN X0 D 0 rfl rfl rfl rfl (zgf X0 D 1 hZ hown (ow hw 36 rfl) e0 u392_4 rfl rfl fun T397 X397 e397 => ?_)
      refine zifnullNo X397 D 2 rfl rfl (zaN X397 D 3 rfl rfl rfl rfl (zaN X397 D 4 rfl rfl rfl rfl (zvs X397 D 5 hZ me29 hown (ow hw 301 rfl) (ow hw 302 rfl) (ow hw 304 rfl) (ow hw 303 rfl) (ow hw 305 rfl) (ow hw 11 rfl) e397 u392_0 (rnGU1 lh Z a0 hw [] a1 a2 rc e1 k1 x1 e k2 x h0 n0 Z0 u392_0 u392_4 u392_5 u392_1 u393_2 u395_0 u395_1 u393_5 u394_2 u396_0 u396_1 hlt u386_0 u386_1) hml [.ref a2] [] (lenOf pd_27 rfl) rfl rfl rfl rfl rfl rfl (by decide) (by decide) fun v398 T398 L398 X398 hQ398 => ?_)))
      obtain ⟨rfl, N398q, hQ398⟩ := hQ398
      have N398 := Fr.app N0 N398q
      exact Rch.retA X398 hx (w := (.ref e)) hret rfl rfl hlk (D.on 6 rfl) (fun U hU hF => hK _ U _ _ _ (by show Q_rnGE Z a1 a2 rc x l E T e h0 n0 _ U.heap _; rw [hU, hQ398]; exact ⟨rfl, N398, rfl⟩) hF (by decide) (by decide))
    · skip
      obtain ⟨u399_0, u399_1, u399_2, u399_3, u399_4, u399_5⟩ := id HT
      obtain ⟨u400_0, u400_1, u400_2, u400_3, u400_4, u400_5, u400_6⟩ := id HE1
      obtain ⟨u401_0, u401_1, u401_2, u401_3, u401_4, u401_5, u401_6⟩ := id HE2
      obtain ⟨u402_0, u402_1⟩ := id HK1
      obtain ⟨u403_0, u403_1⟩ := id HK2
      refine zaN X0 D 0 rfl rfl rfl rfl (zgf X0 D 1 hZ hown (ow hw 36 rfl) e0 u399_4 rfl rfl fun T404 X404 e404 => ?_)
      refine zifnullNo X404 D 2 rfl rfl (zaN X404 D 3 rfl rfl rfl rfl (zaN X404 D 4 rfl rfl rfl rfl (zvs X404 D 5 hZ me29 hown (ow hw 301 rfl) (ow hw 302 rfl) (ow hw 304 rfl) (ow hw 303 rfl) (ow hw 305 rfl) (ow hw 11 rfl) e404 u399_0 (rnGU2 lh Z a0 hw [] a1 a2 rc e1 k1 x1 e k2 x h0 n0 Z0 u399_0 u399_4 u399_5 u399_1 u400_2 u402_0 u402_1 u400_6 u401_2 u403_0 u403_1 hlt u386_0 u386_1) hml [.ref a2] [] (lenOf pd_27 rfl) rfl rfl rfl rfl rfl rfl (by decide) (by decide) fun v405 T405 L405 X405 hQ405 => ?_)))
      obtain ⟨rfl, N405q, hQ405⟩ := hQ405
      have N405 := Fr.app N0 N405q
      exact Rch.retA X405 hx (w := (.ref e)) hret rfl rfl hlk (D.on 6 rfl) (fun U hU hF => hK _ U _ _ _ (by show Q_rnGE Z a1 a2 rc x l E T e h0 n0 _ U.heap _; rw [hU, hQ405]; exact ⟨rfl, N405, rfl⟩) hF (by decide) (by decide))
def Q_rnGG (Z : State) (a1 a2 rc : Addr) (x : Int32) (l : Addr) (E : List Addr) (T : Heap → Prop) (e : Addr) (h0 : Heap) (n0 : Nat) (vv_ : Option Value) (h : Heap) (LL_ : List Loc) : Prop := vv_ = some (.ref l) ∧ Fr n0 LL_ ∧ (h = h0)
def Ld35 : List (Nat × Instr × Nat) := [(0, .aload_n 0, 1), (1, .aload_n 1, 1), (2, .invokevirtual 50, 3), (5, .astore_n 2, 1), (6, .aload_n 2, 1), (7, .ifnonnull 7, 3), (14, .aload_n 2, 1), (15, .getfield 58, 3), (18, .areturn, 1)]
theorem d35 : ∀ q ∈ Ld35, decode jdk_2729_method_8_code q.1 = .ok q.2 := by decide +kernel
abbrev me37 : MethodName := ⟨"java/util/TreeMap", "get", "(Ljava/lang/Object;)Ljava/lang/Object;"⟩
theorem rnGG (lh : Launch) (Z : State) (a0 : Array Value) (hw : HW a0 Z) (ws : List Jvm.Cond) (a1 a2 rc : Addr) (x : Int32) (l : Addr) (E : List Addr) (T : Heap → Prop) (e : Addr) (h0 : Heap) (n0 : Nat) (Z0 : n0 ≤ h0.size) (HM : own_MQ Z h0 a1 rc x l E T n0 e) (HK : own_KI Z h0 a2 x) :
    MF lh Z me37 (.code me37 jdk_2729_method_8_code 3 (some (.object "java/lang/Object"))) ws ⟨7, 0, 0, 100⟩ #[.ref a1, .ref a2] h0 (Q_rnGG Z a1 a2 rc x l E T e h0 n0) := by
  refine own_met (y := me37) (plainFor_of_name pn_9) ?_
  intro p ev sT m below meth c T0 K hx hby hml hret hlk hown hnm hZ X0 e0 hK
  have N0 := Fr.nil n0
  have D : DB p c Ld35 := DB.of hx hby d35
  refine Rch.cast (g' := mkF m 0 #[.val (.ref a1), .val (.ref a2), .unset] []) (by first | rfl | simp [entryFrame, mkF, argsToLocals, Value.category]) ?_
  refine zaN X0 D 0 rfl rfl rfl rfl (zaN X0 D 1 rfl rfl rfl rfl (zvs X0 D 2 hZ me36 hown (ow hw 296 rfl) (ow hw 297 rfl) (ow hw 299 rfl) (ow hw 298 rfl) (ow hw 300 rfl) (ow hw 11 rfl) e0 (own_MQ.x_tm HM) (rnGE lh Z a0 hw [] a1 a2 rc x l E T e h0 n0 Z0 HM HK) hml [.ref a2] [] (lenOf pd_27 rfl) rfl rfl rfl rfl rfl rfl (by decide) (by decide) fun v406 T406 L406 X406 hQ406 => ?_))
  obtain ⟨rfl, N406q, hQ406⟩ := hQ406
  have N406 := Fr.app N0 N406q
  refine zat X406 D 3 (l' := #[.val (.ref a1), .val (.ref a2), .val (.ref e)]) rfl rfl rfl rfl (zaN X406 D 4 rfl rfl rfl rfl (zifnonnullYes X406 D 5 14 rfl rfl rfl (zaN X406 D 6 rfl rfl rfl rfl (zgf X406 D 7 hZ hown (ow hw 307 rfl) hQ406 (own_MQ.val HM) rfl rfl fun T407 X407 e407 => ?_))))
  exact Rch.retA X407 hx (w := (.ref l)) hret rfl rfl hlk (D.on 8 rfl) (fun U hU hF => hK _ U _ _ _ (by show Q_rnGG Z a1 a2 rc x l E T e h0 n0 _ U.heap _; rw [hU, e407]; exact ⟨rfl, N406, rfl⟩) hF (by decide) (by decide))
def Q_rnRE (Z : State) (a1 a2 rc : Addr) (x : Int32) (l : Addr) (E : List Addr) (T : Heap → Prop) (e : Addr) (h0 : Heap) (n0 : Nat) (vv_ : Option Value) (h : Heap) (LL_ : List Loc) : Prop := vv_ = some (.ref l) ∧ Fr n0 LL_ ∧ (Keep h0 h (a1 :: E) ∧ T h)
def Ld36 : List (Nat × Instr × Nat) := [(0, .aload_n 0, 1), (1, .aload_n 1, 1), (2, .invokevirtual 50, 3), (5, .astore_n 2, 1), (6, .aload_n 2, 1), (7, .ifnonnull 5, 3), (12, .aload_n 2, 1), (13, .getfield 58, 3), (16, .astore_n 3, 1), (17, .aload_n 0, 1), (18, .aload_n 2, 1), (19, .invokevirtual 174, 3), (22, .aload_n 3, 1), (23, .areturn, 1)]
theorem d36 : ∀ q ∈ Ld36, decode jdk_2729_method_34_code q.1 = .ok q.2 := by decide +kernel
abbrev me38 : MethodName := ⟨"java/util/TreeMap", "remove", "(Ljava/lang/Object;)Ljava/lang/Object;"⟩
theorem rnRE (lh : Launch) (Z : State) (a0 : Array Value) (hw : HW a0 Z) (ws : List Jvm.Cond) (a1 a2 rc : Addr) (x : Int32) (l : Addr) (E : List Addr) (T : Heap → Prop) (e : Addr) (h0 : Heap) (n0 : Nat) (Z0 : n0 ≤ h0.size) (HM : own_MQ Z h0 a1 rc x l E T n0 e) (HK : own_KI Z h0 a2 x) (g1 : n0 ≤ a1) :
    MF lh Z me38 (.code me38 jdk_2729_method_34_code 4 (some (.object "java/lang/Object"))) ws ⟨7, 0, 0, 100⟩ #[.ref a1, .ref a2] h0 (Q_rnRE Z a1 a2 rc x l E T e h0 n0) := by
  refine own_met (y := me38) (plainFor_of_name pn_9) ?_
  intro p ev sT m below meth c T0 K hx hby hml hret hlk hown hnm hZ X0 e0 hK
  have N0 := Fr.nil n0
  have D : DB p c Ld36 := DB.of hx hby d36
  refine Rch.cast (g' := mkF m 0 #[.val (.ref a1), .val (.ref a2), .unset, .unset] []) (by first | rfl | simp [entryFrame, mkF, argsToLocals, Value.category]) ?_
  refine zaN X0 D 0 rfl rfl rfl rfl (zaN X0 D 1 rfl rfl rfl rfl (zvs X0 D 2 hZ me36 hown (ow hw 296 rfl) (ow hw 297 rfl) (ow hw 299 rfl) (ow hw 298 rfl) (ow hw 300 rfl) (ow hw 11 rfl) e0 (own_MQ.x_tm HM) (rnGE lh Z a0 hw [] a1 a2 rc x l E T e h0 n0 Z0 HM HK) hml [.ref a2] [] (lenOf pd_27 rfl) rfl rfl rfl rfl rfl rfl (by decide) (by decide) fun v408 T408 L408 X408 hQ408 => ?_))
  obtain ⟨rfl, N408q, hQ408⟩ := hQ408
  have N408 := Fr.app N0 N408q
  refine zat X408 D 3 (l' := #[.val (.ref a1), .val (.ref a2), .val (.ref e), .unset]) rfl rfl rfl rfl (zaN X408 D 4 rfl rfl rfl rfl (zifnonnullYes X408 D 5 12 rfl rfl rfl (zaN X408 D 6 rfl rfl rfl rfl (zgf X408 D 7 hZ hown (ow hw 307 rfl) hQ408 (own_MQ.val HM) rfl rfl fun T409 X409 e409 => ?_))))
  refine zat X409 D 8 (l' := #[.val (.ref a1), .val (.ref a2), .val (.ref e), .val (.ref l)]) rfl rfl rfl rfl (zaN X409 D 9 rfl rfl rfl rfl (zaN X409 D 10 rfl rfl rfl rfl (zpb X409 D 11 hZ me35 hown (mvT hZ (ow hw 347 rfl)) (ow hw 344 rfl) (ow hw 345 rfl) (ow hw 346 rfl) (ow hw 348 rfl) (ow hw 11 rfl) e409 (own_MQ.x_tm HM) (rnDE lh Z a0 hw [] a1 e rc x l E T h0 n0 Z0 HM g1) hml [.ref e] [] (lenOf pd_29 rfl) rfl rfl rfl rfl rfl rfl (by decide) (by decide) fun v410 T410 L410 X410 hQ410 => ?_)))
  obtain ⟨rfl, N410q, hQ410⟩ := hQ410
  have N410 := Fr.app N408 N410q
  obtain ⟨K410, HT410⟩ := hQ410
  refine zaN X410 D 12 rfl rfl rfl rfl ?_
  exact Rch.retA X410 hx (w := (.ref l)) hret rfl rfl hlk (D.on 13 rfl) (fun U hU hF => hK _ U _ _ _ (by show Q_rnRE Z a1 a2 rc x l E T e h0 n0 _ U.heap _; rw [hU]; exact ⟨rfl, N410, K410, HT410⟩) hF (by decide) (by decide))
theorem own_int_tri {x y : Int32} (h : x ≠ y) : x < y ∨ y < x := by
  simp only [Int32.lt_iff_toInt_lt]
  have : x.toInt ≠ y.toInt := fun q => h (Int32.toInt_inj.mp q)
  omega
def own_LN (Z : State) (h : Heap) (l : Addr) (sb : Addr) (mv : Addr) : Prop := (Exa Z h l "com/example/kept_till_acked/kepttillacked/queue/ReadyLine$Line") ∧ (Fld Z h l "com/example/kept_till_acked/kepttillacked/queue/ReadyLine$Line" "home" "Lcom/example/kept_till_acked/kepttillacked/queue/SeqBits;" (.ref sb)) ∧ (Fld Z h l "com/example/kept_till_acked/kepttillacked/queue/ReadyLine$Line" "moved" "Lcom/example/kept_till_acked/kepttillacked/queue/MovedRuns;" (.ref mv))
theorem own_LN.keep {Z : State} {h h' : Heap} {ws : List Addr} {l : Addr} {sb : Addr} {mv : Addr} (H : own_LN Z h l sb mv) (K : Keep h h' ws) (n_l : l ∉ ws) : own_LN Z h' l sb mv := by
  obtain ⟨f0, f1, f2⟩ := H
  exact ⟨f0.keep K, f1.keep K n_l, f2.keep K n_l⟩
theorem own_LN.ext {Z : State} {h h' : Heap} {l : Addr} {sb : Addr} {mv : Addr} (H : own_LN Z h l sb mv) (E : Ext h h') : own_LN Z h' l sb mv := by
  obtain ⟨f0, f1, f2⟩ := H
  exact ⟨f0.ext E, f1.ext E, f2.ext E⟩
theorem own_LN.x_l {Z : State} {h : Heap} {l : Addr} {sb : Addr} {mv : Addr} (H : own_LN Z h l sb mv) : Exa Z h l "com/example/kept_till_acked/kepttillacked/queue/ReadyLine$Line" := by
  obtain ⟨f0, f1, f2⟩ := H
  exact f0
theorem own_LN.lt_l {Z : State} {h : Heap} {l : Addr} {sb : Addr} {mv : Addr} (H : own_LN Z h l sb mv) : l < h.size := by
  obtain ⟨f0, f1, f2⟩ := H
  exact f0.lt
def own_P0 (Z : State) (h : Heap) (pg : Addr) (na : Addr) (yn : Nat → Int64) : Prop := (Exa Z h pg "com/example/kept_till_acked/kepttillacked/queue/Pages") ∧ (Fld Z h pg "com/example/kept_till_acked/kepttillacked/queue/Pages" "numbers" "[J" (.ref na)) ∧ (Fld Z h pg "com/example/kept_till_acked/kepttillacked/queue/Pages" "count" "I" (.int (0 : Int32))) ∧ (Fld Z h pg "com/example/kept_till_acked/kepttillacked/queue/Pages" "found" "I" (.int (0 : Int32))) ∧ (Exa Z h na "[J") ∧ (Av Z h na .long 16 (fun q => .long (yn q)))
theorem own_P0.keep {Z : State} {h h' : Heap} {ws : List Addr} {pg : Addr} {na : Addr} {yn : Nat → Int64} (H : own_P0 Z h pg na yn) (K : Keep h h' ws) (n_pg : pg ∉ ws) (n_na : na ∉ ws) : own_P0 Z h' pg na yn := by
  obtain ⟨f0, f1, f2, f3, f4, f5⟩ := H
  exact ⟨f0.keep K, f1.keep K n_pg, f2.keep K n_pg, f3.keep K n_pg, f4.keep K, f5.keep K n_na⟩
theorem own_P0.ext {Z : State} {h h' : Heap} {pg : Addr} {na : Addr} {yn : Nat → Int64} (H : own_P0 Z h pg na yn) (E : Ext h h') : own_P0 Z h' pg na yn := by
  obtain ⟨f0, f1, f2, f3, f4, f5⟩ := H
  exact ⟨f0.ext E, f1.ext E, f2.ext E, f3.ext E, f4.ext E, f5.ext E⟩
theorem own_P0.x_pg {Z : State} {h : Heap} {pg : Addr} {na : Addr} {yn : Nat → Int64} (H : own_P0 Z h pg na yn) : Exa Z h pg "com/example/kept_till_acked/kepttillacked/queue/Pages" := by
  obtain ⟨f0, f1, f2, f3, f4, f5⟩ := H
  exact f0
theorem own_P0.x_na {Z : State} {h : Heap} {pg : Addr} {na : Addr} {yn : Nat → Int64} (H : own_P0 Z h pg na yn) : Exa Z h na "[J" := by
  obtain ⟨f0, f1, f2, f3, f4, f5⟩ := H
  exact f4
theorem own_P0.lt_pg {Z : State} {h : Heap} {pg : Addr} {na : Addr} {yn : Nat → Int64} (H : own_P0 Z h pg na yn) : pg < h.size := by
  obtain ⟨f0, f1, f2, f3, f4, f5⟩ := H
  exact f0.lt
theorem own_P0.lt_na {Z : State} {h : Heap} {pg : Addr} {na : Addr} {yn : Nat → Int64} (H : own_P0 Z h pg na yn) : na < h.size := by
  obtain ⟨f0, f1, f2, f3, f4, f5⟩ := H
  exact f4.lt
def own_P1 (Z : State) (h : Heap) (pg : Addr) (na : Addr) (yn : Nat → Int64) : Prop := (Exa Z h pg "com/example/kept_till_acked/kepttillacked/queue/Pages") ∧ (Fld Z h pg "com/example/kept_till_acked/kepttillacked/queue/Pages" "numbers" "[J" (.ref na)) ∧ (Fld Z h pg "com/example/kept_till_acked/kepttillacked/queue/Pages" "count" "I" (.int (1 : Int32))) ∧ (Fld Z h pg "com/example/kept_till_acked/kepttillacked/queue/Pages" "found" "I" (.int (0 : Int32))) ∧ (Exa Z h na "[J") ∧ (Av Z h na .long 16 (fun q => .long (yn q)))
theorem own_P1.keep {Z : State} {h h' : Heap} {ws : List Addr} {pg : Addr} {na : Addr} {yn : Nat → Int64} (H : own_P1 Z h pg na yn) (K : Keep h h' ws) (n_pg : pg ∉ ws) (n_na : na ∉ ws) : own_P1 Z h' pg na yn := by
  obtain ⟨f0, f1, f2, f3, f4, f5⟩ := H
  exact ⟨f0.keep K, f1.keep K n_pg, f2.keep K n_pg, f3.keep K n_pg, f4.keep K, f5.keep K n_na⟩
theorem own_P1.ext {Z : State} {h h' : Heap} {pg : Addr} {na : Addr} {yn : Nat → Int64} (H : own_P1 Z h pg na yn) (E : Ext h h') : own_P1 Z h' pg na yn := by
  obtain ⟨f0, f1, f2, f3, f4, f5⟩ := H
  exact ⟨f0.ext E, f1.ext E, f2.ext E, f3.ext E, f4.ext E, f5.ext E⟩
theorem own_P1.x_pg {Z : State} {h : Heap} {pg : Addr} {na : Addr} {yn : Nat → Int64} (H : own_P1 Z h pg na yn) : Exa Z h pg "com/example/kept_till_acked/kepttillacked/queue/Pages" := by
  obtain ⟨f0, f1, f2, f3, f4, f5⟩ := H
  exact f0
theorem own_P1.x_na {Z : State} {h : Heap} {pg : Addr} {na : Addr} {yn : Nat → Int64} (H : own_P1 Z h pg na yn) : Exa Z h na "[J" := by
  obtain ⟨f0, f1, f2, f3, f4, f5⟩ := H
  exact f4
theorem own_P1.lt_pg {Z : State} {h : Heap} {pg : Addr} {na : Addr} {yn : Nat → Int64} (H : own_P1 Z h pg na yn) : pg < h.size := by
  obtain ⟨f0, f1, f2, f3, f4, f5⟩ := H
  exact f0.lt
theorem own_P1.lt_na {Z : State} {h : Heap} {pg : Addr} {na : Addr} {yn : Nat → Int64} (H : own_P1 Z h pg na yn) : na < h.size := by
  obtain ⟨f0, f1, f2, f3, f4, f5⟩ := H
  exact f4.lt
def own_SF (Z : State) (h : Heap) (sb : Addr) (pg : Addr) (na : Addr) (pa : Addr) : Prop := (Exa Z h sb "com/example/kept_till_acked/kepttillacked/queue/SeqBits") ∧ (Fld Z h sb "com/example/kept_till_acked/kepttillacked/queue/SeqBits" "pages" "Lcom/example/kept_till_acked/kepttillacked/queue/Pages;" (.ref pg)) ∧ (Fld Z h sb "com/example/kept_till_acked/kepttillacked/queue/SeqBits" "size" "I" (.int (0 : Int32))) ∧ (own_P0 Z h pg na (fun _ => (0 : Int64))) ∧ (Fld Z h pg "com/example/kept_till_acked/kepttillacked/queue/Pages" "pages" "[Ljava/lang/Object;" (.ref pa)) ∧ (Exa Z h pa "[Ljava/lang/Object;") ∧ (OvA Z h pa "java/lang/Object") ∧ (Av Z h pa (.object "java/lang/Object") 16 (fun q => (fun _ => .null) q))
theorem own_SF.keep {Z : State} {h h' : Heap} {ws : List Addr} {sb : Addr} {pg : Addr} {na : Addr} {pa : Addr} (H : own_SF Z h sb pg na pa) (K : Keep h h' ws) (n_sb : sb ∉ ws) (n_pg : pg ∉ ws) (n_na : na ∉ ws) (n_pa : pa ∉ ws) : own_SF Z h' sb pg na pa := by
  obtain ⟨f0, f1, f2, f3, f4, f5, f6, f7⟩ := H
  exact ⟨f0.keep K, f1.keep K n_sb, f2.keep K n_sb, own_P0.keep f3 K n_pg n_na, f4.keep K n_pg, f5.keep K, f6.keep K, f7.keep K n_pa⟩
theorem own_SF.ext {Z : State} {h h' : Heap} {sb : Addr} {pg : Addr} {na : Addr} {pa : Addr} (H : own_SF Z h sb pg na pa) (E : Ext h h') : own_SF Z h' sb pg na pa := by
  obtain ⟨f0, f1, f2, f3, f4, f5, f6, f7⟩ := H
  exact ⟨f0.ext E, f1.ext E, f2.ext E, own_P0.ext f3 E, f4.ext E, f5.ext E, f6.ext E, f7.ext E⟩
theorem own_SF.x_sb {Z : State} {h : Heap} {sb : Addr} {pg : Addr} {na : Addr} {pa : Addr} (H : own_SF Z h sb pg na pa) : Exa Z h sb "com/example/kept_till_acked/kepttillacked/queue/SeqBits" := by
  obtain ⟨f0, f1, f2, f3, f4, f5, f6, f7⟩ := H
  exact f0
theorem own_SF.x_pg {Z : State} {h : Heap} {sb : Addr} {pg : Addr} {na : Addr} {pa : Addr} (H : own_SF Z h sb pg na pa) : Exa Z h pg "com/example/kept_till_acked/kepttillacked/queue/Pages" := by
  obtain ⟨f0, f1, f2, f3, f4, f5, f6, f7⟩ := H
  exact (own_P0.x_pg f3)
theorem own_SF.x_na {Z : State} {h : Heap} {sb : Addr} {pg : Addr} {na : Addr} {pa : Addr} (H : own_SF Z h sb pg na pa) : Exa Z h na "[J" := by
  obtain ⟨f0, f1, f2, f3, f4, f5, f6, f7⟩ := H
  exact (own_P0.x_na f3)
theorem own_SF.x_pa {Z : State} {h : Heap} {sb : Addr} {pg : Addr} {na : Addr} {pa : Addr} (H : own_SF Z h sb pg na pa) : Exa Z h pa "[Ljava/lang/Object;" := by
  obtain ⟨f0, f1, f2, f3, f4, f5, f6, f7⟩ := H
  exact f5
theorem own_SF.lt_sb {Z : State} {h : Heap} {sb : Addr} {pg : Addr} {na : Addr} {pa : Addr} (H : own_SF Z h sb pg na pa) : sb < h.size := by
  obtain ⟨f0, f1, f2, f3, f4, f5, f6, f7⟩ := H
  exact f0.lt
theorem own_SF.lt_pg {Z : State} {h : Heap} {sb : Addr} {pg : Addr} {na : Addr} {pa : Addr} (H : own_SF Z h sb pg na pa) : pg < h.size := by
  obtain ⟨f0, f1, f2, f3, f4, f5, f6, f7⟩ := H
  exact (own_P0.lt_pg f3)
theorem own_SF.lt_na {Z : State} {h : Heap} {sb : Addr} {pg : Addr} {na : Addr} {pa : Addr} (H : own_SF Z h sb pg na pa) : na < h.size := by
  obtain ⟨f0, f1, f2, f3, f4, f5, f6, f7⟩ := H
  exact (own_P0.lt_na f3)
theorem own_SF.lt_pa {Z : State} {h : Heap} {sb : Addr} {pg : Addr} {na : Addr} {pa : Addr} (H : own_SF Z h sb pg na pa) : pa < h.size := by
  obtain ⟨f0, f1, f2, f3, f4, f5, f6, f7⟩ := H
  exact f5.lt
def own_S0 (Z : State) (h : Heap) (sb : Addr) (pg : Addr) (na : Addr) (yn : Nat → Int64) : Prop := (Exa Z h sb "com/example/kept_till_acked/kepttillacked/queue/SeqBits") ∧ (Fld Z h sb "com/example/kept_till_acked/kepttillacked/queue/SeqBits" "pages" "Lcom/example/kept_till_acked/kepttillacked/queue/Pages;" (.ref pg)) ∧ (Fld Z h sb "com/example/kept_till_acked/kepttillacked/queue/SeqBits" "size" "I" (.int (0 : Int32))) ∧ (own_P0 Z h pg na yn)
theorem own_S0.keep {Z : State} {h h' : Heap} {ws : List Addr} {sb : Addr} {pg : Addr} {na : Addr} {yn : Nat → Int64} (H : own_S0 Z h sb pg na yn) (K : Keep h h' ws) (n_sb : sb ∉ ws) (n_pg : pg ∉ ws) (n_na : na ∉ ws) : own_S0 Z h' sb pg na yn := by
  obtain ⟨f0, f1, f2, f3⟩ := H
  exact ⟨f0.keep K, f1.keep K n_sb, f2.keep K n_sb, own_P0.keep f3 K n_pg n_na⟩
theorem own_S0.ext {Z : State} {h h' : Heap} {sb : Addr} {pg : Addr} {na : Addr} {yn : Nat → Int64} (H : own_S0 Z h sb pg na yn) (E : Ext h h') : own_S0 Z h' sb pg na yn := by
  obtain ⟨f0, f1, f2, f3⟩ := H
  exact ⟨f0.ext E, f1.ext E, f2.ext E, own_P0.ext f3 E⟩
theorem own_S0.x_sb {Z : State} {h : Heap} {sb : Addr} {pg : Addr} {na : Addr} {yn : Nat → Int64} (H : own_S0 Z h sb pg na yn) : Exa Z h sb "com/example/kept_till_acked/kepttillacked/queue/SeqBits" := by
  obtain ⟨f0, f1, f2, f3⟩ := H
  exact f0
theorem own_S0.x_pg {Z : State} {h : Heap} {sb : Addr} {pg : Addr} {na : Addr} {yn : Nat → Int64} (H : own_S0 Z h sb pg na yn) : Exa Z h pg "com/example/kept_till_acked/kepttillacked/queue/Pages" := by
  obtain ⟨f0, f1, f2, f3⟩ := H
  exact (own_P0.x_pg f3)
theorem own_S0.x_na {Z : State} {h : Heap} {sb : Addr} {pg : Addr} {na : Addr} {yn : Nat → Int64} (H : own_S0 Z h sb pg na yn) : Exa Z h na "[J" := by
  obtain ⟨f0, f1, f2, f3⟩ := H
  exact (own_P0.x_na f3)
theorem own_S0.lt_sb {Z : State} {h : Heap} {sb : Addr} {pg : Addr} {na : Addr} {yn : Nat → Int64} (H : own_S0 Z h sb pg na yn) : sb < h.size := by
  obtain ⟨f0, f1, f2, f3⟩ := H
  exact f0.lt
theorem own_S0.lt_pg {Z : State} {h : Heap} {sb : Addr} {pg : Addr} {na : Addr} {yn : Nat → Int64} (H : own_S0 Z h sb pg na yn) : pg < h.size := by
  obtain ⟨f0, f1, f2, f3⟩ := H
  exact (own_P0.lt_pg f3)
theorem own_S0.lt_na {Z : State} {h : Heap} {sb : Addr} {pg : Addr} {na : Addr} {yn : Nat → Int64} (H : own_S0 Z h sb pg na yn) : na < h.size := by
  obtain ⟨f0, f1, f2, f3⟩ := H
  exact (own_P0.lt_na f3)
def own_PF (Z : State) (h : Heap) (pp : Addr) (wa : Addr) : Prop := (Exa Z h pp "com/example/kept_till_acked/kepttillacked/queue/SeqBits$Page") ∧ (Fld Z h pp "com/example/kept_till_acked/kepttillacked/queue/SeqBits$Page" "words" "[J" (.ref wa)) ∧ (Fld Z h pp "com/example/kept_till_acked/kepttillacked/queue/SeqBits$Page" "count" "I" (.int (0 : Int32))) ∧ (Exa Z h wa "[J") ∧ (Av Z h wa .long 4 (fun q => .long ((fun _ => (0 : Int64)) q)))
theorem own_PF.keep {Z : State} {h h' : Heap} {ws : List Addr} {pp : Addr} {wa : Addr} (H : own_PF Z h pp wa) (K : Keep h h' ws) (n_pp : pp ∉ ws) (n_wa : wa ∉ ws) : own_PF Z h' pp wa := by
  obtain ⟨f0, f1, f2, f3, f4⟩ := H
  exact ⟨f0.keep K, f1.keep K n_pp, f2.keep K n_pp, f3.keep K, f4.keep K n_wa⟩
theorem own_PF.ext {Z : State} {h h' : Heap} {pp : Addr} {wa : Addr} (H : own_PF Z h pp wa) (E : Ext h h') : own_PF Z h' pp wa := by
  obtain ⟨f0, f1, f2, f3, f4⟩ := H
  exact ⟨f0.ext E, f1.ext E, f2.ext E, f3.ext E, f4.ext E⟩
theorem own_PF.x_pp {Z : State} {h : Heap} {pp : Addr} {wa : Addr} (H : own_PF Z h pp wa) : Exa Z h pp "com/example/kept_till_acked/kepttillacked/queue/SeqBits$Page" := by
  obtain ⟨f0, f1, f2, f3, f4⟩ := H
  exact f0
theorem own_PF.x_wa {Z : State} {h : Heap} {pp : Addr} {wa : Addr} (H : own_PF Z h pp wa) : Exa Z h wa "[J" := by
  obtain ⟨f0, f1, f2, f3, f4⟩ := H
  exact f3
theorem own_PF.lt_pp {Z : State} {h : Heap} {pp : Addr} {wa : Addr} (H : own_PF Z h pp wa) : pp < h.size := by
  obtain ⟨f0, f1, f2, f3, f4⟩ := H
  exact f0.lt
theorem own_PF.lt_wa {Z : State} {h : Heap} {pp : Addr} {wa : Addr} (H : own_PF Z h pp wa) : wa < h.size := by
  obtain ⟨f0, f1, f2, f3, f4⟩ := H
  exact f3.lt
def own_PW (Z : State) (h : Heap) (pp : Addr) (wa : Addr) (yw : Nat → Int64) : Prop := (Exa Z h pp "com/example/kept_till_acked/kepttillacked/queue/SeqBits$Page") ∧ (Fld Z h pp "com/example/kept_till_acked/kepttillacked/queue/SeqBits$Page" "words" "[J" (.ref wa)) ∧ (Fld Z h pp "com/example/kept_till_acked/kepttillacked/queue/SeqBits$Page" "count" "I" (.int (1 : Int32))) ∧ (Exa Z h wa "[J") ∧ (Av Z h wa .long 4 (fun q => .long (yw q)))
theorem own_PW.keep {Z : State} {h h' : Heap} {ws : List Addr} {pp : Addr} {wa : Addr} {yw : Nat → Int64} (H : own_PW Z h pp wa yw) (K : Keep h h' ws) (n_pp : pp ∉ ws) (n_wa : wa ∉ ws) : own_PW Z h' pp wa yw := by
  obtain ⟨f0, f1, f2, f3, f4⟩ := H
  exact ⟨f0.keep K, f1.keep K n_pp, f2.keep K n_pp, f3.keep K, f4.keep K n_wa⟩
theorem own_PW.ext {Z : State} {h h' : Heap} {pp : Addr} {wa : Addr} {yw : Nat → Int64} (H : own_PW Z h pp wa yw) (E : Ext h h') : own_PW Z h' pp wa yw := by
  obtain ⟨f0, f1, f2, f3, f4⟩ := H
  exact ⟨f0.ext E, f1.ext E, f2.ext E, f3.ext E, f4.ext E⟩
theorem own_PW.x_pp {Z : State} {h : Heap} {pp : Addr} {wa : Addr} {yw : Nat → Int64} (H : own_PW Z h pp wa yw) : Exa Z h pp "com/example/kept_till_acked/kepttillacked/queue/SeqBits$Page" := by
  obtain ⟨f0, f1, f2, f3, f4⟩ := H
  exact f0
theorem own_PW.x_wa {Z : State} {h : Heap} {pp : Addr} {wa : Addr} {yw : Nat → Int64} (H : own_PW Z h pp wa yw) : Exa Z h wa "[J" := by
  obtain ⟨f0, f1, f2, f3, f4⟩ := H
  exact f3
theorem own_PW.lt_pp {Z : State} {h : Heap} {pp : Addr} {wa : Addr} {yw : Nat → Int64} (H : own_PW Z h pp wa yw) : pp < h.size := by
  obtain ⟨f0, f1, f2, f3, f4⟩ := H
  exact f0.lt
theorem own_PW.lt_wa {Z : State} {h : Heap} {pp : Addr} {wa : Addr} {yw : Nat → Int64} (H : own_PW Z h pp wa yw) : wa < h.size := by
  obtain ⟨f0, f1, f2, f3, f4⟩ := H
  exact f3.lt
def own_S1 (Z : State) (h : Heap) (sb : Addr) (pg : Addr) (na : Addr) (pa : Addr) (pp : Addr) (wa : Addr) (s : Int64) (yn : Nat → Int64) : Prop := (Exa Z h sb "com/example/kept_till_acked/kepttillacked/queue/SeqBits") ∧ (Fld Z h sb "com/example/kept_till_acked/kepttillacked/queue/SeqBits" "pages" "Lcom/example/kept_till_acked/kepttillacked/queue/Pages;" (.ref pg)) ∧ (Fld Z h sb "com/example/kept_till_acked/kepttillacked/queue/SeqBits" "size" "I" (.int (1 : Int32))) ∧ (own_P1 Z h pg na yn) ∧ (Fld Z h pg "com/example/kept_till_acked/kepttillacked/queue/Pages" "pages" "[Ljava/lang/Object;" (.ref pa)) ∧ (Exa Z h pa "[Ljava/lang/Object;") ∧ (OvA Z h pa "java/lang/Object") ∧ (Av Z h pa (.object "java/lang/Object") 16 (fun q => (fun q => if q = 0 then Value.ref pp else Value.null) q)) ∧ (own_PW Z h pp wa (own_yw s)) ∧ (yn 0 = Int64.ofNat (own_u s / 256)) ∧ (na ≠ wa)
theorem own_S1.keep {Z : State} {h h' : Heap} {ws : List Addr} {sb : Addr} {pg : Addr} {na : Addr} {pa : Addr} {pp : Addr} {wa : Addr} {s : Int64} {yn : Nat → Int64} (H : own_S1 Z h sb pg na pa pp wa s yn) (K : Keep h h' ws) (n_sb : sb ∉ ws) (n_pg : pg ∉ ws) (n_na : na ∉ ws) (n_pa : pa ∉ ws) (n_pp : pp ∉ ws) (n_wa : wa ∉ ws) : own_S1 Z h' sb pg na pa pp wa s yn := by
  obtain ⟨f0, f1, f2, f3, f4, f5, f6, f7, f8, f9, f10⟩ := H
  exact ⟨f0.keep K, f1.keep K n_sb, f2.keep K n_sb, own_P1.keep f3 K n_pg n_na, f4.keep K n_pg, f5.keep K, f6.keep K, f7.keep K n_pa, own_PW.keep f8 K n_pp n_wa, f9, f10⟩
theorem own_S1.ext {Z : State} {h h' : Heap} {sb : Addr} {pg : Addr} {na : Addr} {pa : Addr} {pp : Addr} {wa : Addr} {s : Int64} {yn : Nat → Int64} (H : own_S1 Z h sb pg na pa pp wa s yn) (E : Ext h h') : own_S1 Z h' sb pg na pa pp wa s yn := by
  obtain ⟨f0, f1, f2, f3, f4, f5, f6, f7, f8, f9, f10⟩ := H
  exact ⟨f0.ext E, f1.ext E, f2.ext E, own_P1.ext f3 E, f4.ext E, f5.ext E, f6.ext E, f7.ext E, own_PW.ext f8 E, f9, f10⟩
theorem own_S1.x_sb {Z : State} {h : Heap} {sb : Addr} {pg : Addr} {na : Addr} {pa : Addr} {pp : Addr} {wa : Addr} {s : Int64} {yn : Nat → Int64} (H : own_S1 Z h sb pg na pa pp wa s yn) : Exa Z h sb "com/example/kept_till_acked/kepttillacked/queue/SeqBits" := by
  obtain ⟨f0, f1, f2, f3, f4, f5, f6, f7, f8, f9, f10⟩ := H
  exact f0
theorem own_S1.x_pg {Z : State} {h : Heap} {sb : Addr} {pg : Addr} {na : Addr} {pa : Addr} {pp : Addr} {wa : Addr} {s : Int64} {yn : Nat → Int64} (H : own_S1 Z h sb pg na pa pp wa s yn) : Exa Z h pg "com/example/kept_till_acked/kepttillacked/queue/Pages" := by
  obtain ⟨f0, f1, f2, f3, f4, f5, f6, f7, f8, f9, f10⟩ := H
  exact (own_P1.x_pg f3)
theorem own_S1.x_na {Z : State} {h : Heap} {sb : Addr} {pg : Addr} {na : Addr} {pa : Addr} {pp : Addr} {wa : Addr} {s : Int64} {yn : Nat → Int64} (H : own_S1 Z h sb pg na pa pp wa s yn) : Exa Z h na "[J" := by
  obtain ⟨f0, f1, f2, f3, f4, f5, f6, f7, f8, f9, f10⟩ := H
  exact (own_P1.x_na f3)
theorem own_S1.x_pa {Z : State} {h : Heap} {sb : Addr} {pg : Addr} {na : Addr} {pa : Addr} {pp : Addr} {wa : Addr} {s : Int64} {yn : Nat → Int64} (H : own_S1 Z h sb pg na pa pp wa s yn) : Exa Z h pa "[Ljava/lang/Object;" := by
  obtain ⟨f0, f1, f2, f3, f4, f5, f6, f7, f8, f9, f10⟩ := H
  exact f5
theorem own_S1.x_pp {Z : State} {h : Heap} {sb : Addr} {pg : Addr} {na : Addr} {pa : Addr} {pp : Addr} {wa : Addr} {s : Int64} {yn : Nat → Int64} (H : own_S1 Z h sb pg na pa pp wa s yn) : Exa Z h pp "com/example/kept_till_acked/kepttillacked/queue/SeqBits$Page" := by
  obtain ⟨f0, f1, f2, f3, f4, f5, f6, f7, f8, f9, f10⟩ := H
  exact (own_PW.x_pp f8)
theorem own_S1.x_wa {Z : State} {h : Heap} {sb : Addr} {pg : Addr} {na : Addr} {pa : Addr} {pp : Addr} {wa : Addr} {s : Int64} {yn : Nat → Int64} (H : own_S1 Z h sb pg na pa pp wa s yn) : Exa Z h wa "[J" := by
  obtain ⟨f0, f1, f2, f3, f4, f5, f6, f7, f8, f9, f10⟩ := H
  exact (own_PW.x_wa f8)
theorem own_S1.lt_sb {Z : State} {h : Heap} {sb : Addr} {pg : Addr} {na : Addr} {pa : Addr} {pp : Addr} {wa : Addr} {s : Int64} {yn : Nat → Int64} (H : own_S1 Z h sb pg na pa pp wa s yn) : sb < h.size := by
  obtain ⟨f0, f1, f2, f3, f4, f5, f6, f7, f8, f9, f10⟩ := H
  exact f0.lt
theorem own_S1.lt_pg {Z : State} {h : Heap} {sb : Addr} {pg : Addr} {na : Addr} {pa : Addr} {pp : Addr} {wa : Addr} {s : Int64} {yn : Nat → Int64} (H : own_S1 Z h sb pg na pa pp wa s yn) : pg < h.size := by
  obtain ⟨f0, f1, f2, f3, f4, f5, f6, f7, f8, f9, f10⟩ := H
  exact (own_P1.lt_pg f3)
theorem own_S1.lt_na {Z : State} {h : Heap} {sb : Addr} {pg : Addr} {na : Addr} {pa : Addr} {pp : Addr} {wa : Addr} {s : Int64} {yn : Nat → Int64} (H : own_S1 Z h sb pg na pa pp wa s yn) : na < h.size := by
  obtain ⟨f0, f1, f2, f3, f4, f5, f6, f7, f8, f9, f10⟩ := H
  exact (own_P1.lt_na f3)
theorem own_S1.lt_pa {Z : State} {h : Heap} {sb : Addr} {pg : Addr} {na : Addr} {pa : Addr} {pp : Addr} {wa : Addr} {s : Int64} {yn : Nat → Int64} (H : own_S1 Z h sb pg na pa pp wa s yn) : pa < h.size := by
  obtain ⟨f0, f1, f2, f3, f4, f5, f6, f7, f8, f9, f10⟩ := H
  exact f5.lt
theorem own_S1.lt_pp {Z : State} {h : Heap} {sb : Addr} {pg : Addr} {na : Addr} {pa : Addr} {pp : Addr} {wa : Addr} {s : Int64} {yn : Nat → Int64} (H : own_S1 Z h sb pg na pa pp wa s yn) : pp < h.size := by
  obtain ⟨f0, f1, f2, f3, f4, f5, f6, f7, f8, f9, f10⟩ := H
  exact (own_PW.lt_pp f8)
theorem own_S1.lt_wa {Z : State} {h : Heap} {sb : Addr} {pg : Addr} {na : Addr} {pa : Addr} {pp : Addr} {wa : Addr} {s : Int64} {yn : Nat → Int64} (H : own_S1 Z h sb pg na pa pp wa s yn) : wa < h.size := by
  obtain ⟨f0, f1, f2, f3, f4, f5, f6, f7, f8, f9, f10⟩ := H
  exact (own_PW.lt_wa f8)
def own_M0 (Z : State) (h : Heap) (mv : Addr) (ad : Addr) (el : Addr) : Prop := (Exa Z h mv "com/example/kept_till_acked/kepttillacked/queue/MovedRuns") ∧ (Fld Z h mv "com/example/kept_till_acked/kepttillacked/queue/MovedRuns" "chunks" "Ljava/util/ArrayDeque;" (.ref ad)) ∧ (Fld Z h mv "com/example/kept_till_acked/kepttillacked/queue/MovedRuns" "front" "I" (.int (0 : Int32))) ∧ (Fld Z h mv "com/example/kept_till_acked/kepttillacked/queue/MovedRuns" "taken" "J" (.long (0 : Int64))) ∧ (Fld Z h mv "com/example/kept_till_acked/kepttillacked/queue/MovedRuns" "back" "I" (.int (0 : Int32))) ∧ (Fld Z h mv "com/example/kept_till_acked/kepttillacked/queue/MovedRuns" "size" "I" (.int (0 : Int32))) ∧ (Fld Z h mv "com/example/kept_till_acked/kepttillacked/queue/MovedRuns" "runs" "I" (.int (0 : Int32))) ∧ (Fld Z h mv "com/example/kept_till_acked/kepttillacked/queue/MovedRuns" "sealed" "Z" (.int (0 : Int32))) ∧ (Exa Z h ad "java/util/ArrayDeque") ∧ (Fld Z h ad "java/util/ArrayDeque" "elements" "[Ljava/lang/Object;" (.ref el)) ∧ (Fld Z h ad "java/util/ArrayDeque" "head" "I" (.int (0 : Int32))) ∧ (Fld Z h ad "java/util/ArrayDeque" "tail" "I" (.int (0 : Int32))) ∧ (Exa Z h el "[Ljava/lang/Object;") ∧ (OvA Z h el "java/lang/Object") ∧ (Av Z h el (.object "java/lang/Object") 17 (fun q => (fun _ => .null) q))
theorem own_M0.keep {Z : State} {h h' : Heap} {ws : List Addr} {mv : Addr} {ad : Addr} {el : Addr} (H : own_M0 Z h mv ad el) (K : Keep h h' ws) (n_mv : mv ∉ ws) (n_ad : ad ∉ ws) (n_el : el ∉ ws) : own_M0 Z h' mv ad el := by
  obtain ⟨f0, f1, f2, f3, f4, f5, f6, f7, f8, f9, f10, f11, f12, f13, f14⟩ := H
  exact ⟨f0.keep K, f1.keep K n_mv, f2.keep K n_mv, f3.keep K n_mv, f4.keep K n_mv, f5.keep K n_mv, f6.keep K n_mv, f7.keep K n_mv, f8.keep K, f9.keep K n_ad, f10.keep K n_ad, f11.keep K n_ad, f12.keep K, f13.keep K, f14.keep K n_el⟩
theorem own_M0.ext {Z : State} {h h' : Heap} {mv : Addr} {ad : Addr} {el : Addr} (H : own_M0 Z h mv ad el) (E : Ext h h') : own_M0 Z h' mv ad el := by
  obtain ⟨f0, f1, f2, f3, f4, f5, f6, f7, f8, f9, f10, f11, f12, f13, f14⟩ := H
  exact ⟨f0.ext E, f1.ext E, f2.ext E, f3.ext E, f4.ext E, f5.ext E, f6.ext E, f7.ext E, f8.ext E, f9.ext E, f10.ext E, f11.ext E, f12.ext E, f13.ext E, f14.ext E⟩
theorem own_M0.x_mv {Z : State} {h : Heap} {mv : Addr} {ad : Addr} {el : Addr} (H : own_M0 Z h mv ad el) : Exa Z h mv "com/example/kept_till_acked/kepttillacked/queue/MovedRuns" := by
  obtain ⟨f0, f1, f2, f3, f4, f5, f6, f7, f8, f9, f10, f11, f12, f13, f14⟩ := H
  exact f0
theorem own_M0.x_ad {Z : State} {h : Heap} {mv : Addr} {ad : Addr} {el : Addr} (H : own_M0 Z h mv ad el) : Exa Z h ad "java/util/ArrayDeque" := by
  obtain ⟨f0, f1, f2, f3, f4, f5, f6, f7, f8, f9, f10, f11, f12, f13, f14⟩ := H
  exact f8
theorem own_M0.x_el {Z : State} {h : Heap} {mv : Addr} {ad : Addr} {el : Addr} (H : own_M0 Z h mv ad el) : Exa Z h el "[Ljava/lang/Object;" := by
  obtain ⟨f0, f1, f2, f3, f4, f5, f6, f7, f8, f9, f10, f11, f12, f13, f14⟩ := H
  exact f12
theorem own_M0.lt_mv {Z : State} {h : Heap} {mv : Addr} {ad : Addr} {el : Addr} (H : own_M0 Z h mv ad el) : mv < h.size := by
  obtain ⟨f0, f1, f2, f3, f4, f5, f6, f7, f8, f9, f10, f11, f12, f13, f14⟩ := H
  exact f0.lt
theorem own_M0.lt_ad {Z : State} {h : Heap} {mv : Addr} {ad : Addr} {el : Addr} (H : own_M0 Z h mv ad el) : ad < h.size := by
  obtain ⟨f0, f1, f2, f3, f4, f5, f6, f7, f8, f9, f10, f11, f12, f13, f14⟩ := H
  exact f8.lt
theorem own_M0.lt_el {Z : State} {h : Heap} {mv : Addr} {ad : Addr} {el : Addr} (H : own_M0 Z h mv ad el) : el < h.size := by
  obtain ⟨f0, f1, f2, f3, f4, f5, f6, f7, f8, f9, f10, f11, f12, f13, f14⟩ := H
  exact f12.lt
def own_M1 (Z : State) (h : Heap) (mv : Addr) (ad : Addr) (el : Addr) (ck : Addr) (s : Int64) (yc : Nat → Int64) : Prop := (Exa Z h mv "com/example/kept_till_acked/kepttillacked/queue/MovedRuns") ∧ (Fld Z h mv "com/example/kept_till_acked/kepttillacked/queue/MovedRuns" "chunks" "Ljava/util/ArrayDeque;" (.ref ad)) ∧ (Fld Z h mv "com/example/kept_till_acked/kepttillacked/queue/MovedRuns" "front" "I" (.int (0 : Int32))) ∧ (Fld Z h mv "com/example/kept_till_acked/kepttillacked/queue/MovedRuns" "taken" "J" (.long (0 : Int64))) ∧ (Fld Z h mv "com/example/kept_till_acked/kepttillacked/queue/MovedRuns" "back" "I" (.int (1 : Int32))) ∧ (Fld Z h mv "com/example/kept_till_acked/kepttillacked/queue/MovedRuns" "size" "I" (.int (1 : Int32))) ∧ (Fld Z h mv "com/example/kept_till_acked/kepttillacked/queue/MovedRuns" "runs" "I" (.int (1 : Int32))) ∧ (Fld Z h mv "com/example/kept_till_acked/kepttillacked/queue/MovedRuns" "sealed" "Z" (.int (0 : Int32))) ∧ (Exa Z h ad "java/util/ArrayDeque") ∧ (Fld Z h ad "java/util/ArrayDeque" "elements" "[Ljava/lang/Object;" (.ref el)) ∧ (Fld Z h ad "java/util/ArrayDeque" "head" "I" (.int (0 : Int32))) ∧ (Fld Z h ad "java/util/ArrayDeque" "tail" "I" (.int (1 : Int32))) ∧ (Exa Z h el "[Ljava/lang/Object;") ∧ (OvA Z h el "java/lang/Object") ∧ (Av Z h el (.object "java/lang/Object") 17 (fun q => (fun k => if k = 0 then Value.ref ck else Value.null) q)) ∧ (Exa Z h ck "[J") ∧ (Av Z h ck .long 12 (fun q => .long (yc q))) ∧ (yc 0 = s ∧ yc 1 = s)
theorem own_M1.keep {Z : State} {h h' : Heap} {ws : List Addr} {mv : Addr} {ad : Addr} {el : Addr} {ck : Addr} {s : Int64} {yc : Nat → Int64} (H : own_M1 Z h mv ad el ck s yc) (K : Keep h h' ws) (n_mv : mv ∉ ws) (n_ad : ad ∉ ws) (n_el : el ∉ ws) (n_ck : ck ∉ ws) : own_M1 Z h' mv ad el ck s yc := by
  obtain ⟨f0, f1, f2, f3, f4, f5, f6, f7, f8, f9, f10, f11, f12, f13, f14, f15, f16, f17⟩ := H
  exact ⟨f0.keep K, f1.keep K n_mv, f2.keep K n_mv, f3.keep K n_mv, f4.keep K n_mv, f5.keep K n_mv, f6.keep K n_mv, f7.keep K n_mv, f8.keep K, f9.keep K n_ad, f10.keep K n_ad, f11.keep K n_ad, f12.keep K, f13.keep K, f14.keep K n_el, f15.keep K, f16.keep K n_ck, f17⟩
theorem own_M1.ext {Z : State} {h h' : Heap} {mv : Addr} {ad : Addr} {el : Addr} {ck : Addr} {s : Int64} {yc : Nat → Int64} (H : own_M1 Z h mv ad el ck s yc) (E : Ext h h') : own_M1 Z h' mv ad el ck s yc := by
  obtain ⟨f0, f1, f2, f3, f4, f5, f6, f7, f8, f9, f10, f11, f12, f13, f14, f15, f16, f17⟩ := H
  exact ⟨f0.ext E, f1.ext E, f2.ext E, f3.ext E, f4.ext E, f5.ext E, f6.ext E, f7.ext E, f8.ext E, f9.ext E, f10.ext E, f11.ext E, f12.ext E, f13.ext E, f14.ext E, f15.ext E, f16.ext E, f17⟩
theorem own_M1.x_mv {Z : State} {h : Heap} {mv : Addr} {ad : Addr} {el : Addr} {ck : Addr} {s : Int64} {yc : Nat → Int64} (H : own_M1 Z h mv ad el ck s yc) : Exa Z h mv "com/example/kept_till_acked/kepttillacked/queue/MovedRuns" := by
  obtain ⟨f0, f1, f2, f3, f4, f5, f6, f7, f8, f9, f10, f11, f12, f13, f14, f15, f16, f17⟩ := H
  exact f0
theorem own_M1.x_ad {Z : State} {h : Heap} {mv : Addr} {ad : Addr} {el : Addr} {ck : Addr} {s : Int64} {yc : Nat → Int64} (H : own_M1 Z h mv ad el ck s yc) : Exa Z h ad "java/util/ArrayDeque" := by
  obtain ⟨f0, f1, f2, f3, f4, f5, f6, f7, f8, f9, f10, f11, f12, f13, f14, f15, f16, f17⟩ := H
  exact f8
theorem own_M1.x_el {Z : State} {h : Heap} {mv : Addr} {ad : Addr} {el : Addr} {ck : Addr} {s : Int64} {yc : Nat → Int64} (H : own_M1 Z h mv ad el ck s yc) : Exa Z h el "[Ljava/lang/Object;" := by
  obtain ⟨f0, f1, f2, f3, f4, f5, f6, f7, f8, f9, f10, f11, f12, f13, f14, f15, f16, f17⟩ := H
  exact f12
theorem own_M1.x_ck {Z : State} {h : Heap} {mv : Addr} {ad : Addr} {el : Addr} {ck : Addr} {s : Int64} {yc : Nat → Int64} (H : own_M1 Z h mv ad el ck s yc) : Exa Z h ck "[J" := by
  obtain ⟨f0, f1, f2, f3, f4, f5, f6, f7, f8, f9, f10, f11, f12, f13, f14, f15, f16, f17⟩ := H
  exact f15
theorem own_M1.lt_mv {Z : State} {h : Heap} {mv : Addr} {ad : Addr} {el : Addr} {ck : Addr} {s : Int64} {yc : Nat → Int64} (H : own_M1 Z h mv ad el ck s yc) : mv < h.size := by
  obtain ⟨f0, f1, f2, f3, f4, f5, f6, f7, f8, f9, f10, f11, f12, f13, f14, f15, f16, f17⟩ := H
  exact f0.lt
theorem own_M1.lt_ad {Z : State} {h : Heap} {mv : Addr} {ad : Addr} {el : Addr} {ck : Addr} {s : Int64} {yc : Nat → Int64} (H : own_M1 Z h mv ad el ck s yc) : ad < h.size := by
  obtain ⟨f0, f1, f2, f3, f4, f5, f6, f7, f8, f9, f10, f11, f12, f13, f14, f15, f16, f17⟩ := H
  exact f8.lt
theorem own_M1.lt_el {Z : State} {h : Heap} {mv : Addr} {ad : Addr} {el : Addr} {ck : Addr} {s : Int64} {yc : Nat → Int64} (H : own_M1 Z h mv ad el ck s yc) : el < h.size := by
  obtain ⟨f0, f1, f2, f3, f4, f5, f6, f7, f8, f9, f10, f11, f12, f13, f14, f15, f16, f17⟩ := H
  exact f12.lt
def own_LL (Z : State) (h : Heap) (l : Addr) (sb : Addr) (pg : Addr) (na : Addr) (pa : Addr) (mv : Addr) (ad : Addr) (el : Addr) : Prop := (own_LN Z h l sb mv) ∧ (own_SF Z h sb pg na pa) ∧ (own_M0 Z h mv ad el) ∧ (pa ≠ el)
theorem own_LL.keep {Z : State} {h h' : Heap} {ws : List Addr} {l : Addr} {sb : Addr} {pg : Addr} {na : Addr} {pa : Addr} {mv : Addr} {ad : Addr} {el : Addr} (H : own_LL Z h l sb pg na pa mv ad el) (K : Keep h h' ws) (n_l : l ∉ ws) (n_sb : sb ∉ ws) (n_pg : pg ∉ ws) (n_na : na ∉ ws) (n_pa : pa ∉ ws) (n_mv : mv ∉ ws) (n_ad : ad ∉ ws) (n_el : el ∉ ws) : own_LL Z h' l sb pg na pa mv ad el := by
  obtain ⟨f0, f1, f2, f3⟩ := H
  exact ⟨own_LN.keep f0 K n_l, own_SF.keep f1 K n_sb n_pg n_na n_pa, own_M0.keep f2 K n_mv n_ad n_el, f3⟩
theorem own_LL.ext {Z : State} {h h' : Heap} {l : Addr} {sb : Addr} {pg : Addr} {na : Addr} {pa : Addr} {mv : Addr} {ad : Addr} {el : Addr} (H : own_LL Z h l sb pg na pa mv ad el) (E : Ext h h') : own_LL Z h' l sb pg na pa mv ad el := by
  obtain ⟨f0, f1, f2, f3⟩ := H
  exact ⟨own_LN.ext f0 E, own_SF.ext f1 E, own_M0.ext f2 E, f3⟩
theorem own_LL.x_l {Z : State} {h : Heap} {l : Addr} {sb : Addr} {pg : Addr} {na : Addr} {pa : Addr} {mv : Addr} {ad : Addr} {el : Addr} (H : own_LL Z h l sb pg na pa mv ad el) : Exa Z h l "com/example/kept_till_acked/kepttillacked/queue/ReadyLine$Line" := by
  obtain ⟨f0, f1, f2, f3⟩ := H
  exact (own_LN.x_l f0)
theorem own_LL.x_sb {Z : State} {h : Heap} {l : Addr} {sb : Addr} {pg : Addr} {na : Addr} {pa : Addr} {mv : Addr} {ad : Addr} {el : Addr} (H : own_LL Z h l sb pg na pa mv ad el) : Exa Z h sb "com/example/kept_till_acked/kepttillacked/queue/SeqBits" := by
  obtain ⟨f0, f1, f2, f3⟩ := H
  exact (own_SF.x_sb f1)
theorem own_LL.x_pg {Z : State} {h : Heap} {l : Addr} {sb : Addr} {pg : Addr} {na : Addr} {pa : Addr} {mv : Addr} {ad : Addr} {el : Addr} (H : own_LL Z h l sb pg na pa mv ad el) : Exa Z h pg "com/example/kept_till_acked/kepttillacked/queue/Pages" := by
  obtain ⟨f0, f1, f2, f3⟩ := H
  exact (own_SF.x_pg f1)
theorem own_LL.x_na {Z : State} {h : Heap} {l : Addr} {sb : Addr} {pg : Addr} {na : Addr} {pa : Addr} {mv : Addr} {ad : Addr} {el : Addr} (H : own_LL Z h l sb pg na pa mv ad el) : Exa Z h na "[J" := by
  obtain ⟨f0, f1, f2, f3⟩ := H
  exact (own_SF.x_na f1)
theorem own_LL.x_pa {Z : State} {h : Heap} {l : Addr} {sb : Addr} {pg : Addr} {na : Addr} {pa : Addr} {mv : Addr} {ad : Addr} {el : Addr} (H : own_LL Z h l sb pg na pa mv ad el) : Exa Z h pa "[Ljava/lang/Object;" := by
  obtain ⟨f0, f1, f2, f3⟩ := H
  exact (own_SF.x_pa f1)
theorem own_LL.x_mv {Z : State} {h : Heap} {l : Addr} {sb : Addr} {pg : Addr} {na : Addr} {pa : Addr} {mv : Addr} {ad : Addr} {el : Addr} (H : own_LL Z h l sb pg na pa mv ad el) : Exa Z h mv "com/example/kept_till_acked/kepttillacked/queue/MovedRuns" := by
  obtain ⟨f0, f1, f2, f3⟩ := H
  exact (own_M0.x_mv f2)
theorem own_LL.x_ad {Z : State} {h : Heap} {l : Addr} {sb : Addr} {pg : Addr} {na : Addr} {pa : Addr} {mv : Addr} {ad : Addr} {el : Addr} (H : own_LL Z h l sb pg na pa mv ad el) : Exa Z h ad "java/util/ArrayDeque" := by
  obtain ⟨f0, f1, f2, f3⟩ := H
  exact (own_M0.x_ad f2)
theorem own_LL.x_el {Z : State} {h : Heap} {l : Addr} {sb : Addr} {pg : Addr} {na : Addr} {pa : Addr} {mv : Addr} {ad : Addr} {el : Addr} (H : own_LL Z h l sb pg na pa mv ad el) : Exa Z h el "[Ljava/lang/Object;" := by
  obtain ⟨f0, f1, f2, f3⟩ := H
  exact (own_M0.x_el f2)
theorem own_LL.lt_l {Z : State} {h : Heap} {l : Addr} {sb : Addr} {pg : Addr} {na : Addr} {pa : Addr} {mv : Addr} {ad : Addr} {el : Addr} (H : own_LL Z h l sb pg na pa mv ad el) : l < h.size := by
  obtain ⟨f0, f1, f2, f3⟩ := H
  exact (own_LN.lt_l f0)
theorem own_LL.lt_sb {Z : State} {h : Heap} {l : Addr} {sb : Addr} {pg : Addr} {na : Addr} {pa : Addr} {mv : Addr} {ad : Addr} {el : Addr} (H : own_LL Z h l sb pg na pa mv ad el) : sb < h.size := by
  obtain ⟨f0, f1, f2, f3⟩ := H
  exact (own_SF.lt_sb f1)
theorem own_LL.lt_pg {Z : State} {h : Heap} {l : Addr} {sb : Addr} {pg : Addr} {na : Addr} {pa : Addr} {mv : Addr} {ad : Addr} {el : Addr} (H : own_LL Z h l sb pg na pa mv ad el) : pg < h.size := by
  obtain ⟨f0, f1, f2, f3⟩ := H
  exact (own_SF.lt_pg f1)
theorem own_LL.lt_na {Z : State} {h : Heap} {l : Addr} {sb : Addr} {pg : Addr} {na : Addr} {pa : Addr} {mv : Addr} {ad : Addr} {el : Addr} (H : own_LL Z h l sb pg na pa mv ad el) : na < h.size := by
  obtain ⟨f0, f1, f2, f3⟩ := H
  exact (own_SF.lt_na f1)
theorem own_LL.lt_pa {Z : State} {h : Heap} {l : Addr} {sb : Addr} {pg : Addr} {na : Addr} {pa : Addr} {mv : Addr} {ad : Addr} {el : Addr} (H : own_LL Z h l sb pg na pa mv ad el) : pa < h.size := by
  obtain ⟨f0, f1, f2, f3⟩ := H
  exact (own_SF.lt_pa f1)
theorem own_LL.lt_mv {Z : State} {h : Heap} {l : Addr} {sb : Addr} {pg : Addr} {na : Addr} {pa : Addr} {mv : Addr} {ad : Addr} {el : Addr} (H : own_LL Z h l sb pg na pa mv ad el) : mv < h.size := by
  obtain ⟨f0, f1, f2, f3⟩ := H
  exact (own_M0.lt_mv f2)
theorem own_LL.lt_ad {Z : State} {h : Heap} {l : Addr} {sb : Addr} {pg : Addr} {na : Addr} {pa : Addr} {mv : Addr} {ad : Addr} {el : Addr} (H : own_LL Z h l sb pg na pa mv ad el) : ad < h.size := by
  obtain ⟨f0, f1, f2, f3⟩ := H
  exact (own_M0.lt_ad f2)
theorem own_LL.lt_el {Z : State} {h : Heap} {l : Addr} {sb : Addr} {pg : Addr} {na : Addr} {pa : Addr} {mv : Addr} {ad : Addr} {el : Addr} (H : own_LL Z h l sb pg na pa mv ad el) : el < h.size := by
  obtain ⟨f0, f1, f2, f3⟩ := H
  exact (own_M0.lt_el f2)
abbrev own_TD : List String := ["java/util/TreeMap", "java/util/TreeMap$Entry"]
def own_BT (Z : State) (h : Heap) (ws : List Addr) : Prop := ∀ y ∈ ws, ∃ C ∈ own_TD, Exa Z h y C
theorem own_bt0 {Z : State} {h : Heap} : own_BT Z h [] := fun _ q => nomatch q
theorem own_btS {Z : State} {h : Heap} {y : Addr} {C : String} {ws : List Addr} (E : Exa Z h y C) (hC : C ∈ own_TD) (r : own_BT Z h ws) : own_BT Z h (y :: ws) := fun y' hy => by
  rcases List.mem_cons.mp hy with rfl | q
  · exact ⟨C, hC, E⟩
  · exact r _ q
theorem own_nbt {Z : State} {h : Heap} {y : Addr} {C : String} {ws : List Addr} (B : own_BT Z h ws) (E : Exa Z h y C) (hC : C ∉ own_TD) : y ∉ ws := fun m => by
  obtain ⟨D, hD, E'⟩ := B y m
  exact own_exane E E' (fun e => hC (e ▸ hD)) rfl
theorem own_LL.keept {Z : State} {h h' : Heap} {ws : List Addr} {l sb pg na pa mv ad el : Addr} (H : own_LL Z h l sb pg na pa mv ad el) (K : Keep h h' ws) (B : own_BT Z h ws) : own_LL Z h' l sb pg na pa mv ad el :=
  own_LL.keep H K (own_nbt B (own_LL.x_l H) (by decide)) (own_nbt B (own_LL.x_sb H) (by decide)) (own_nbt B (own_LL.x_pg H) (by decide)) (own_nbt B (own_LL.x_na H) (by decide)) (own_nbt B (own_LL.x_pa H) (by decide)) (own_nbt B (own_LL.x_mv H) (by decide)) (own_nbt B (own_LL.x_ad H) (by decide)) (own_nbt B (own_LL.x_el H) (by decide))
def own_MZ (Z : State) (h : Heap) (mv : Addr) (z : Int32) : Prop := (Exa Z h mv "com/example/kept_till_acked/kepttillacked/queue/MovedRuns") ∧ (Fld Z h mv "com/example/kept_till_acked/kepttillacked/queue/MovedRuns" "size" "I" (.int z))
theorem own_MZ.keep {Z : State} {h h' : Heap} {ws : List Addr} {mv : Addr} {z : Int32} (H : own_MZ Z h mv z) (K : Keep h h' ws) (n_mv : mv ∉ ws) : own_MZ Z h' mv z := by
  obtain ⟨f0, f1⟩ := H
  exact ⟨f0.keep K, f1.keep K n_mv⟩
theorem own_MZ.ext {Z : State} {h h' : Heap} {mv : Addr} {z : Int32} (H : own_MZ Z h mv z) (E : Ext h h') : own_MZ Z h' mv z := by
  obtain ⟨f0, f1⟩ := H
  exact ⟨f0.ext E, f1.ext E⟩
theorem own_MZ.x_mv {Z : State} {h : Heap} {mv : Addr} {z : Int32} (H : own_MZ Z h mv z) : Exa Z h mv "com/example/kept_till_acked/kepttillacked/queue/MovedRuns" := by
  obtain ⟨f0, f1⟩ := H
  exact f0
theorem own_MZ.lt_mv {Z : State} {h : Heap} {mv : Addr} {z : Int32} (H : own_MZ Z h mv z) : mv < h.size := by
  obtain ⟨f0, f1⟩ := H
  exact f0.lt
def own_RL (Z : State) (h : Heap) (rl : Addr) (tm : Addr) (z : Int32) : Prop := (Exa Z h rl "com/example/kept_till_acked/kepttillacked/queue/ReadyLine") ∧ (Fld Z h rl "com/example/kept_till_acked/kepttillacked/queue/ReadyLine" "byPriority" "Ljava/util/TreeMap;" (.ref tm)) ∧ (Fld Z h rl "com/example/kept_till_acked/kepttillacked/queue/ReadyLine" "size" "I" (.int z))
theorem own_RL.keep {Z : State} {h h' : Heap} {ws : List Addr} {rl : Addr} {tm : Addr} {z : Int32} (H : own_RL Z h rl tm z) (K : Keep h h' ws) (n_rl : rl ∉ ws) : own_RL Z h' rl tm z := by
  obtain ⟨f0, f1, f2⟩ := H
  exact ⟨f0.keep K, f1.keep K n_rl, f2.keep K n_rl⟩
theorem own_RL.ext {Z : State} {h h' : Heap} {rl : Addr} {tm : Addr} {z : Int32} (H : own_RL Z h rl tm z) (E : Ext h h') : own_RL Z h' rl tm z := by
  obtain ⟨f0, f1, f2⟩ := H
  exact ⟨f0.ext E, f1.ext E, f2.ext E⟩
theorem own_RL.x_rl {Z : State} {h : Heap} {rl : Addr} {tm : Addr} {z : Int32} (H : own_RL Z h rl tm z) : Exa Z h rl "com/example/kept_till_acked/kepttillacked/queue/ReadyLine" := by
  obtain ⟨f0, f1, f2⟩ := H
  exact f0
theorem own_RL.lt_rl {Z : State} {h : Heap} {rl : Addr} {tm : Addr} {z : Int32} (H : own_RL Z h rl tm z) : rl < h.size := by
  obtain ⟨f0, f1, f2⟩ := H
  exact f0.lt
def own_PG (Z : State) (h : Heap) (pg : Addr) (na : Addr) (pa : Addr) : Prop := (own_P0 Z h pg na (fun _ => (0 : Int64))) ∧ (Fld Z h pg "com/example/kept_till_acked/kepttillacked/queue/Pages" "pages" "[Ljava/lang/Object;" (.ref pa)) ∧ (Exa Z h pa "[Ljava/lang/Object;") ∧ (OvA Z h pa "java/lang/Object") ∧ (Av Z h pa (.object "java/lang/Object") 16 (fun q => (fun _ => .null) q))
theorem own_PG.keep {Z : State} {h h' : Heap} {ws : List Addr} {pg : Addr} {na : Addr} {pa : Addr} (H : own_PG Z h pg na pa) (K : Keep h h' ws) (n_pg : pg ∉ ws) (n_na : na ∉ ws) (n_pa : pa ∉ ws) : own_PG Z h' pg na pa := by
  obtain ⟨f0, f1, f2, f3, f4⟩ := H
  exact ⟨own_P0.keep f0 K n_pg n_na, f1.keep K n_pg, f2.keep K, f3.keep K, f4.keep K n_pa⟩
theorem own_PG.ext {Z : State} {h h' : Heap} {pg : Addr} {na : Addr} {pa : Addr} (H : own_PG Z h pg na pa) (E : Ext h h') : own_PG Z h' pg na pa := by
  obtain ⟨f0, f1, f2, f3, f4⟩ := H
  exact ⟨own_P0.ext f0 E, f1.ext E, f2.ext E, f3.ext E, f4.ext E⟩
theorem own_PG.x_pg {Z : State} {h : Heap} {pg : Addr} {na : Addr} {pa : Addr} (H : own_PG Z h pg na pa) : Exa Z h pg "com/example/kept_till_acked/kepttillacked/queue/Pages" := by
  obtain ⟨f0, f1, f2, f3, f4⟩ := H
  exact (own_P0.x_pg f0)
theorem own_PG.x_na {Z : State} {h : Heap} {pg : Addr} {na : Addr} {pa : Addr} (H : own_PG Z h pg na pa) : Exa Z h na "[J" := by
  obtain ⟨f0, f1, f2, f3, f4⟩ := H
  exact (own_P0.x_na f0)
theorem own_PG.x_pa {Z : State} {h : Heap} {pg : Addr} {na : Addr} {pa : Addr} (H : own_PG Z h pg na pa) : Exa Z h pa "[Ljava/lang/Object;" := by
  obtain ⟨f0, f1, f2, f3, f4⟩ := H
  exact f2
theorem own_PG.lt_pg {Z : State} {h : Heap} {pg : Addr} {na : Addr} {pa : Addr} (H : own_PG Z h pg na pa) : pg < h.size := by
  obtain ⟨f0, f1, f2, f3, f4⟩ := H
  exact (own_P0.lt_pg f0)
theorem own_PG.lt_na {Z : State} {h : Heap} {pg : Addr} {na : Addr} {pa : Addr} (H : own_PG Z h pg na pa) : na < h.size := by
  obtain ⟨f0, f1, f2, f3, f4⟩ := H
  exact (own_P0.lt_na f0)
theorem own_PG.lt_pa {Z : State} {h : Heap} {pg : Addr} {na : Addr} {pa : Addr} (H : own_PG Z h pg na pa) : pa < h.size := by
  obtain ⟨f0, f1, f2, f3, f4⟩ := H
  exact f2.lt
theorem pn_11 : plainName "com/example/kept_till_acked/kepttillacked/queue/Pages" = true := by first | (simp [plainName, overriddenIn]; done) | decide +kernel
def Q_rnPI (Z : State) (pg : Addr) (h0 : Heap) (n0 : Nat) (vv_ : Option Value) (h : Heap) (LL_ : List Loc) : Prop := ∃ na : Addr, ∃ pa : Addr, vv_ = none ∧ Fr n0 LL_ ∧ (h0.size ≤ na ∧ h0.size ≤ pa ∧ Keep h0 h [pg] ∧ own_PG Z h pg na pa)
def Ld37 : List (Nat × Instr × Nat) := [(0, .aload_n 0, 1), (1, .invokespecial 1, 3), (4, .aload_n 0, 1), (5, .bipush 16, 2), (7, .newarray .long, 2), (9, .putfield 9, 3), (12, .aload_n 0, 1), (13, .bipush 16, 2), (15, .anewarray 2, 3), (18, .putfield 13, 3), (21, .return_, 1)]
theorem d37 : ∀ q ∈ Ld37, decode prog_49_method_1_code q.1 = .ok q.2 := by decide +kernel
abbrev me39 : MethodName := ⟨"com/example/kept_till_acked/kepttillacked/queue/Pages", "<init>", "()V"⟩
def sn48 {a0 : Array Value} {Z : State} (hw : HW a0 Z) := slot_ne (C := "com/example/kept_till_acked/kepttillacked/queue/Pages") (Or.inl (ow hw 133 rfl)) (Or.inl (ow hw 129 rfl)) (by decide) (t := (.array (.object "java/lang/Object"))) (t' := (.array .long)) (by decide) (by decide)
def sn49 {a0 : Array Value} {Z : State} (hw : HW a0 Z) := slot_ne (C := "com/example/kept_till_acked/kepttillacked/queue/Pages") (Or.inl (ow hw 242 rfl)) (Or.inl (ow hw 129 rfl)) (by decide) (t := .int) (t' := (.array .long)) (by decide) (by decide)
def sn50 {a0 : Array Value} {Z : State} (hw : HW a0 Z) := slot_ne (C := "com/example/kept_till_acked/kepttillacked/queue/Pages") (Or.inl (ow hw 240 rfl)) (Or.inl (ow hw 129 rfl)) (by decide) (t := .int) (t' := (.array .long)) (by decide) (by decide)
def sn51 {a0 : Array Value} {Z : State} (hw : HW a0 Z) := slot_ne (C := "com/example/kept_till_acked/kepttillacked/queue/Pages") (Or.inl (ow hw 129 rfl)) (Or.inl (ow hw 133 rfl)) (by decide) (t := (.array .long)) (t' := (.array (.object "java/lang/Object"))) (by decide) (by decide)
def sn52 {a0 : Array Value} {Z : State} (hw : HW a0 Z) := slot_ne (C := "com/example/kept_till_acked/kepttillacked/queue/Pages") (Or.inl (ow hw 242 rfl)) (Or.inl (ow hw 133 rfl)) (by decide) (t := .int) (t' := (.array (.object "java/lang/Object"))) (by decide) (by decide)
def sn53 {a0 : Array Value} {Z : State} (hw : HW a0 Z) := slot_ne (C := "com/example/kept_till_acked/kepttillacked/queue/Pages") (Or.inl (ow hw 240 rfl)) (Or.inl (ow hw 133 rfl)) (by decide) (t := .int) (t' := (.array (.object "java/lang/Object"))) (by decide) (by decide)
theorem rnPI (lh : Launch) (Z : State) (a0 : Array Value) (hw : HW a0 Z) (ws : List Jvm.Cond) (pg : Addr) (h0 : Heap) (n0 : Nat) (Z0 : n0 ≤ h0.size) (E1 : Exa Z h0 pg "com/example/kept_till_acked/kepttillacked/queue/Pages") (F0 : Fld Z h0 pg "com/example/kept_till_acked/kepttillacked/queue/Pages" "numbers" "[J" .null) (F1 : Fld Z h0 pg "com/example/kept_till_acked/kepttillacked/queue/Pages" "pages" "[Ljava/lang/Object;" .null) (F2 : Fld Z h0 pg "com/example/kept_till_acked/kepttillacked/queue/Pages" "count" "I" (.int (0 : Int32))) (F3 : Fld Z h0 pg "com/example/kept_till_acked/kepttillacked/queue/Pages" "found" "I" (.int (0 : Int32))) (g1 : n0 ≤ pg) :
    MF lh Z me39 (.code me39 prog_49_method_1_code 1 none) ws ⟨1, 2, 32, 12⟩ #[.ref pg] h0 (Q_rnPI Z pg h0 n0) := by
  refine own_met (y := me39) (plainFor_of_name pn_11) ?_
  intro p ev sT m below meth c T0 K hx hby hml hret hlk hown hnm hZ X0 e0 hK
  have N0 := Fr.nil n0
  have D : DB p c Ld37 := DB.of hx hby d37
  refine Rch.cast (g' := mkF m 0 #[.val (.ref pg)] []) (by first | rfl | simp [entryFrame, mkF, argsToLocals, Value.category]) ?_
  refine zaN X0 D 0 rfl rfl rfl rfl ?_
  obtain ⟨T411, X411, e411, st411⟩ := initO X0 hx hZ hown (ow hw 126 rfl) (ow hw 7 rfl) (ow hw 8 rfl) e0 (g := (mkF m 1 #[.val (.ref pg)] [.ref pg])) rfl (by rw [hml]; rfl) rfl (D.on 1 rfl) (by decide) (W := 0) (by show 2 * 0 + _ ≤ _; exact Nat.le_of_eq rfl) (by decide)
  refine Rch.of (T' := T411) (g' := (mkF m 4 #[.val (.ref pg)] [])) st411 ?_
  refine zaN X411 D 2 rfl rfl rfl rfl (zbipush X411 D 3 16 rfl rfl rfl ?_)
  obtain ⟨T412, h412, k412, X412, e412, E412, A412, Q412, st412⟩ := newPE X411 hx hZ (ow hw 127 rfl) e411 (g := (mkF m 7 #[.val (.ref pg)] [.int (16 : Int32), .ref pg])) rfl (D.on 4 rfl) rfl (by decide) (cap := 16) (by decide) (by decide) (by decide) (by decide) (ad := "[J") rfl
  obtain ⟨b412, g412⟩ : ∃ zz_, zz_ = h0.size := ⟨_, rfl⟩
  have ge_b412 : n0 ≤ b412 := Nat.le_trans Z0 (Nat.le_of_eq g412.symm)
  have sz_b412 : h0.size ≤ b412 := Nat.le_trans (Keep.refl h0 [pg]).1 (Nat.le_of_eq g412.symm)
  rw [← g412] at A412 Q412 st412
  have V412 : Av Z h412 b412 .long 16 (fun _ => (.long (0 : Int64))) := Av.new A412 (by decide)
  refine Rch.of (T' := T412) (g' := (mkF m 9 #[.val (.ref pg)] [.ref b412, .ref pg])) st412 ?_
  refine zpf X412 D 5 hZ hown (ow hw 128 rfl) e412 (F0.ext E412) (E1.ext E412) (Or.inl (ow hw 129 rfl)) (ow hw 121 rfl) (.array .long) (by decide) rfl rfl rfl rfl fun T413 h413 X413 e413 W413 => ?_
  have N413 := Fr.snoc X413 N0 g1
  have Fw413 := Fld.same W413 (F0.ext E412)
  have nl414 : pg ≠ b412 := Nat.ne_of_lt (Nat.lt_of_lt_of_le E1.lt (Nat.le_of_eq g412.symm))
  refine zaN X413 D 6 rfl rfl rfl rfl (zbipush X413 D 7 16 rfl rfl rfl ?_)
  obtain ⟨T415, h415, k415, X415, e415, E415, A415, Q415, O415, st415⟩ := newRE X413 hx hZ hown (ow hw 130 rfl) (ow hw 131 rfl) e413 (g := (mkF m 15 #[.val (.ref pg)] [.int (16 : Int32), .ref pg])) rfl (D.on 8 rfl) rfl (oNn (i := 16) (by decide)) (cap := 16) (by decide) (by decide) (by decide) (by decide) (ad := "[Ljava/lang/Object;") rfl
  obtain ⟨b415, g415⟩ : ∃ zz_, zz_ = h413.size := ⟨_, rfl⟩
  have ge_b415 : n0 ≤ b415 := Nat.le_trans (Nat.le_trans (Nat.le_trans Z0 E412.1) (Keep.of_wr W413).1) (Nat.le_of_eq g415.symm)
  have sz_b415 : h0.size ≤ b415 := Nat.le_trans (((Keep.refl h0 [pg]).ext E412).wr W413 (Or.inl (List.mem_of_getElem? (i := 0) rfl))).1 (Nat.le_of_eq g415.symm)
  rw [← g415] at A415 Q415 st415
  have V415 : Av Z h415 b415 (.object "java/lang/Object") 16 (fun _ => .null) := Av.new A415 (by decide)
  have Ov415 : OvA Z h415 b415 "java/lang/Object" := ⟨_, A415.1, O415⟩
  refine Rch.of (T' := T415) (g' := (mkF m 18 #[.val (.ref pg)] [.ref b415, .ref pg])) st415 ?_
  refine zpf X415 D 9 hZ hown (ow hw 132 rfl) e415 (((F1.ext E412).other W413 (Or.inr (sn48 hw))).ext E415) (((E1.ext E412).wr W413).ext E415) (Or.inl (ow hw 133 rfl)) (ow hw 121 rfl) (.array (.object "java/lang/Object")) (by decide) rfl rfl rfl rfl fun T416 h416 X416 e416 W416 => ?_
  have N416 := Fr.snoc X416 N413 g1
  have Fw416 := Fld.same W416 (((F1.ext E412).other W413 (Or.inr (sn48 hw))).ext E415)
  have nl417 : pg ≠ b415 := Nat.ne_of_lt (Nat.lt_of_lt_of_le ((E1.ext E412).wr W413).lt (Nat.le_of_eq g415.symm))
  exact Rch.retV X416 hx hret hlk (D.on 10 rfl) (fun U hU hF => hK _ U _ _ _ (by show Q_rnPI Z pg h0 n0 _ U.heap _; rw [hU, e416]; exact ⟨b412, b415, rfl, N416, sz_b412, sz_b415, (((((Keep.refl h0 [pg]).ext E412).wr W413 (Or.inl (List.mem_of_getElem? (i := 0) rfl))).ext E415).wr W416 (Or.inl (List.mem_of_getElem? (i := 0) rfl))), ⟨⟨((((E1.ext E412).wr W413).ext E415).wr W416), ((Fw413.ext E415).other W416 (Or.inr (sn51 hw))), ((((F2.ext E412).other W413 (Or.inr (sn49 hw))).ext E415).other W416 (Or.inr (sn52 hw))), ((((F3.ext E412).other W413 (Or.inr (sn50 hw))).ext E415).other W416 (Or.inr (sn53 hw))), (((Q412.wr W413).ext E415).wr W416), (((V412.other W413 (Ne.symm nl414)).ext E415).other W416 (Ne.symm nl414))⟩, Fw416, (Q415.wr W416), (Ov415.wr W416), (V415.other W416 (Ne.symm nl417))⟩⟩) hF (by decide) (by decide))
theorem pn_12 : plainName "com/example/kept_till_acked/kepttillacked/queue/SeqBits" = true := by first | (simp [plainName, overriddenIn]; done) | decide +kernel
def Q_rnSI (Z : State) (sb : Addr) (h0 : Heap) (n0 : Nat) (vv_ : Option Value) (h : Heap) (LL_ : List Loc) : Prop := ∃ pg : Addr, ∃ na : Addr, ∃ pa : Addr, vv_ = none ∧ Fr n0 LL_ ∧ (h0.size ≤ pg ∧ h0.size ≤ na ∧ h0.size ≤ pa ∧ Keep h0 h [sb] ∧ own_SF Z h sb pg na pa)
def Ld38 : List (Nat × Instr × Nat) := [(0, .aload_n 0, 1), (1, .invokespecial 5, 3), (4, .aload_n 0, 1), (5, .new 11, 3), (8, .dup, 1), (9, .invokespecial 13, 3), (12, .putfield 14, 3), (15, .return_, 1)]
theorem d38 : ∀ q ∈ Ld38, decode prog_63_method_1_code q.1 = .ok q.2 := by decide +kernel
abbrev me40 : MethodName := ⟨"com/example/kept_till_acked/kepttillacked/queue/SeqBits", "<init>", "()V"⟩
def sn54 {a0 : Array Value} {Z : State} (hw : HW a0 Z) := slot_ne (C := "com/example/kept_till_acked/kepttillacked/queue/SeqBits") (Or.inl (ow hw 285 rfl)) (Or.inr (ow hw 135 rfl)) (by decide) (t := .int) (t' := (.object "com/example/kept_till_acked/kepttillacked/queue/Pages")) (by decide) (by decide)
theorem rnSI (lh : Launch) (Z : State) (a0 : Array Value) (hw : HW a0 Z) (ws : List Jvm.Cond) (sb : Addr) (h0 : Heap) (n0 : Nat) (Z0 : n0 ≤ h0.size) (E1 : Exa Z h0 sb "com/example/kept_till_acked/kepttillacked/queue/SeqBits") (F0 : Fld Z h0 sb "com/example/kept_till_acked/kepttillacked/queue/SeqBits" "pages" "Lcom/example/kept_till_acked/kepttillacked/queue/Pages;" .null) (F1 : Fld Z h0 sb "com/example/kept_till_acked/kepttillacked/queue/SeqBits" "size" "I" (.int (0 : Int32))) (g1 : n0 ≤ sb) :
    MF lh Z me40 (.code me40 prog_63_method_1_code 1 none) ws ⟨2, 3, 36, 26⟩ #[.ref sb] h0 (Q_rnSI Z sb h0 n0) := by
  refine own_met (y := me40) (plainFor_of_name pn_12) ?_
  intro p ev sT m below meth c T0 K hx hby hml hret hlk hown hnm hZ X0 e0 hK
  have N0 := Fr.nil n0
  have D : DB p c Ld38 := DB.of hx hby d38
  refine Rch.cast (g' := mkF m 0 #[.val (.ref sb)] []) (by first | rfl | simp [entryFrame, mkF, argsToLocals, Value.category]) ?_
  refine zaN X0 D 0 rfl rfl rfl rfl ?_
  obtain ⟨T418, X418, e418, st418⟩ := initO X0 hx hZ hown (ow hw 119 rfl) (ow hw 7 rfl) (ow hw 8 rfl) e0 (g := (mkF m 1 #[.val (.ref sb)] [.ref sb])) rfl (by rw [hml]; rfl) rfl (D.on 1 rfl) (by decide) (W := 0) (by show 2 * 0 + _ ≤ _; exact Nat.le_of_eq rfl) (by decide)
  refine Rch.of (T' := T418) (g' := (mkF m 4 #[.val (.ref sb)] [])) st418 ?_
  refine zaN X418 D 2 rfl rfl rfl rfl ?_
  obtain ⟨T419, h419, X419, e419, E419, A419, D419, -, st419⟩ := newO X418 hx hZ hown (ow hw 120 rfl) (ow hw 121 rfl) (ow hw 122 rfl) e418 (g := (mkF m 5 #[.val (.ref sb)] [.ref sb])) rfl (D.on 3 rfl) (by decide) (by decide)
  obtain ⟨b419, g419⟩ : ∃ zz_, zz_ = h0.size := ⟨_, rfl⟩
  have ge_b419 : n0 ≤ b419 := Nat.le_trans Z0 (Nat.le_of_eq g419.symm)
  have sz_b419 : h0.size ≤ b419 := Nat.le_trans (Keep.refl h0 [sb]).1 (Nat.le_of_eq g419.symm)
  rw [← g419] at A419 D419 st419
  have F419_numbers : Fld Z h419 b419 "com/example/kept_till_acked/kepttillacked/queue/Pages" "numbers" "[J" .null := D419 (Or.inl (ow hw 129 rfl)) (ty := (.array .long)) (by decide)
  have F419_pages : Fld Z h419 b419 "com/example/kept_till_acked/kepttillacked/queue/Pages" "pages" "[Ljava/lang/Object;" .null := D419 (Or.inl (ow hw 133 rfl)) (ty := (.array (.object "java/lang/Object"))) (by decide)
  have F419_found : Fld Z h419 b419 "com/example/kept_till_acked/kepttillacked/queue/Pages" "found" "I" (.int (0 : Int32)) := D419 (Or.inl (ow hw 240 rfl)) (ty := .int) (by decide)
  have F419_count : Fld Z h419 b419 "com/example/kept_till_acked/kepttillacked/queue/Pages" "count" "I" (.int (0 : Int32)) := D419 (Or.inl (ow hw 242 rfl)) (ty := .int) (by decide)
  refine Rch.of (T' := T419) (g' := (mkF m 8 #[.val (.ref sb)] [.ref b419, .ref sb])) st419 ?_
  refine zdu X419 D 4 rfl rfl rfl (zsb (W := 2) X419 D 5 hZ me39 hown (ow hw 123 rfl) (ow hw 124 rfl) (ow hw 125 rfl) (ow hw 122 rfl) e419 b419 (rnPI lh Z a0 hw [] b419 h419 n0 (Nat.le_trans Z0 E419.1) A419 F419_numbers F419_pages F419_count F419_found ge_b419) hml [] [.ref b419, .ref sb] (lenOf pd_0 rfl) rfl rfl rfl rfl rfl rfl rfl (by decide) (by decide) fun v420 T420 L420 X420 hQ420 => ?_)
  obtain ⟨rna420, rpa420, rfl, N420q, hQ420⟩ := hQ420
  have N420 := Fr.app N0 N420q
  obtain ⟨ze420_0, ze420_1, K420, Pq420_0⟩ := hQ420
  have nl421 : sb ≠ b419 := Nat.ne_of_lt (Nat.lt_of_lt_of_le E1.lt (Nat.le_of_eq g419.symm))
  refine zpf X420 D 6 hZ hown (ow hw 134 rfl) rfl ((F0.ext E419).keep K420 (ninS nl421 nin0)) ((E1.ext E419).keep K420) (Or.inr ⟨(ow hw 135 rfl), rfl, hnm⟩) (ow hw 114 rfl) (.object "com/example/kept_till_acked/kepttillacked/queue/Pages") (by decide) rfl rfl rfl rfl fun T422 h422 X422 e422 W422 => ?_
  have N422 := Fr.snoc X422 N420 g1
  have Fw422 := Fld.same W422 ((F0.ext E419).keep K420 (ninS nl421 nin0))
  have nl423 : sb ≠ rna420 := Nat.ne_of_lt (Nat.lt_of_lt_of_le (E1.ext E419).lt ze420_0)
  have nl424 : sb ≠ rpa420 := Nat.ne_of_lt (Nat.lt_of_lt_of_le (E1.ext E419).lt ze420_1)
  obtain ⟨u425_0, u425_1, u425_2, u425_3, u425_4⟩ := id (own_PG.keep Pq420_0 (Keep.of_wr W422) (ninS (Ne.symm nl421) nin0) (ninS (Ne.symm nl423) nin0) (ninS (Ne.symm nl424) nin0))
  exact Rch.retV X422 hx hret hlk (D.on 7 rfl) (fun U hU hF => hK _ U _ _ _ (by show Q_rnSI Z sb h0 n0 _ U.heap _; rw [hU, e422]; exact ⟨b419, rna420, rpa420, rfl, N422, sz_b419, (Nat.le_trans ((Keep.refl h0 [sb]).ext E419).1 ze420_0), (Nat.le_trans ((Keep.refl h0 [sb]).ext E419).1 ze420_1), ((((Keep.refl h0 [sb]).ext E419).trans K420 (allS (Or.inr sz_b419) all0)).wr W422 (Or.inl (List.mem_of_getElem? (i := 0) rfl))), ⟨(((E1.ext E419).keep K420).wr W422), Fw422, (((F1.ext E419).keep K420 (ninS nl421 nin0)).other W422 (Or.inr (sn54 hw))), u425_0, u425_1, u425_2, u425_3, u425_4⟩⟩) hF (by decide) (by decide))
theorem pn_13 : plainName "com/example/kept_till_acked/kepttillacked/queue/MovedRuns" = true := by first | (simp [plainName, overriddenIn]; done) | decide +kernel
def Q_rnMI (Z : State) (mv : Addr) (h0 : Heap) (n0 : Nat) (vv_ : Option Value) (h : Heap) (LL_ : List Loc) : Prop := ∃ ad : Addr, ∃ el : Addr, vv_ = none ∧ Fr n0 LL_ ∧ (h0.size ≤ ad ∧ h0.size ≤ el ∧ Keep h0 h [mv] ∧ own_M0 Z h mv ad el)
def Ld39 : List (Nat × Instr × Nat) := [(0, .aload_n 0, 1), (1, .invokespecial 1, 3), (4, .aload_n 0, 1), (5, .new 7, 3), (8, .dup, 1), (9, .invokespecial 9, 3), (12, .putfield 10, 3), (15, .return_, 1)]
theorem d39 : ∀ q ∈ Ld39, decode prog_45_method_1_code q.1 = .ok q.2 := by decide +kernel
abbrev me41 : MethodName := ⟨"com/example/kept_till_acked/kepttillacked/queue/MovedRuns", "<init>", "()V"⟩
def sn55 {a0 : Array Value} {Z : State} (hw : HW a0 Z) := slot_ne (C := "com/example/kept_till_acked/kepttillacked/queue/MovedRuns") (Or.inl (ow hw 407 rfl)) (Or.inr (ow hw 162 rfl)) (by decide) (t := .int) (t' := (.object "java/util/ArrayDeque")) (by decide) (by decide)
def sn56 {a0 : Array Value} {Z : State} (hw : HW a0 Z) := slot_ne (C := "com/example/kept_till_acked/kepttillacked/queue/MovedRuns") (Or.inl (ow hw 409 rfl)) (Or.inr (ow hw 162 rfl)) (by decide) (t := .long) (t' := (.object "java/util/ArrayDeque")) (by decide) (by decide)
def sn57 {a0 : Array Value} {Z : State} (hw : HW a0 Z) := slot_ne (C := "com/example/kept_till_acked/kepttillacked/queue/MovedRuns") (Or.inl (ow hw 378 rfl)) (Or.inr (ow hw 162 rfl)) (by decide) (t := .int) (t' := (.object "java/util/ArrayDeque")) (by decide) (by decide)
def sn58 {a0 : Array Value} {Z : State} (hw : HW a0 Z) := slot_ne (C := "com/example/kept_till_acked/kepttillacked/queue/MovedRuns") (Or.inl (ow hw 338 rfl)) (Or.inr (ow hw 162 rfl)) (by decide) (t := .int) (t' := (.object "java/util/ArrayDeque")) (by decide) (by decide)
def sn59 {a0 : Array Value} {Z : State} (hw : HW a0 Z) := slot_ne (C := "com/example/kept_till_acked/kepttillacked/queue/MovedRuns") (Or.inl (ow hw 391 rfl)) (Or.inr (ow hw 162 rfl)) (by decide) (t := .int) (t' := (.object "java/util/ArrayDeque")) (by decide) (by decide)
def sn60 {a0 : Array Value} {Z : State} (hw : HW a0 Z) := slot_ne (C := "com/example/kept_till_acked/kepttillacked/queue/MovedRuns") (Or.inl (ow hw 393 rfl)) (Or.inr (ow hw 162 rfl)) (by decide) (t := .boolean) (t' := (.object "java/util/ArrayDeque")) (by decide) (by decide)
theorem rnMI (lh : Launch) (Z : State) (a0 : Array Value) (hw : HW a0 Z) (ws : List Jvm.Cond) (mv : Addr) (h0 : Heap) (n0 : Nat) (Z0 : n0 ≤ h0.size) (E1 : Exa Z h0 mv "com/example/kept_till_acked/kepttillacked/queue/MovedRuns") (F0 : Fld Z h0 mv "com/example/kept_till_acked/kepttillacked/queue/MovedRuns" "chunks" "Ljava/util/ArrayDeque;" .null) (F1 : Fld Z h0 mv "com/example/kept_till_acked/kepttillacked/queue/MovedRuns" "front" "I" (.int (0 : Int32))) (F2 : Fld Z h0 mv "com/example/kept_till_acked/kepttillacked/queue/MovedRuns" "taken" "J" (.long (0 : Int64))) (F3 : Fld Z h0 mv "com/example/kept_till_acked/kepttillacked/queue/MovedRuns" "back" "I" (.int (0 : Int32))) (F4 : Fld Z h0 mv "com/example/kept_till_acked/kepttillacked/queue/MovedRuns" "size" "I" (.int (0 : Int32))) (F5 : Fld Z h0 mv "com/example/kept_till_acked/kepttillacked/queue/MovedRuns" "runs" "I" (.int (0 : Int32))) (F6 : Fld Z h0 mv "com/example/kept_till_acked/kepttillacked/queue/MovedRuns" "sealed" "Z" (.int (0 : Int32))) (g1 : n0 ≤ mv) :
    MF lh Z me41 (.code me41 prog_45_method_1_code 1 none) ws ⟨3, 2, 20, 38⟩ #[.ref mv] h0 (Q_rnMI Z mv h0 n0) := by
  refine own_met (y := me41) (plainFor_of_name pn_13) ?_
  intro p ev sT m below meth c T0 K hx hby hml hret hlk hown hnm hZ X0 e0 hK
  have N0 := Fr.nil n0
  have D : DB p c Ld39 := DB.of hx hby d39
  refine Rch.cast (g' := mkF m 0 #[.val (.ref mv)] []) (by first | rfl | simp [entryFrame, mkF, argsToLocals, Value.category]) ?_
  refine zaN X0 D 0 rfl rfl rfl rfl ?_
  obtain ⟨T426, X426, e426, st426⟩ := initO X0 hx hZ hown (ow hw 144 rfl) (ow hw 7 rfl) (ow hw 8 rfl) e0 (g := (mkF m 1 #[.val (.ref mv)] [.ref mv])) rfl (by rw [hml]; rfl) rfl (D.on 1 rfl) (by decide) (W := 0) (by show 2 * 0 + _ ≤ _; exact Nat.le_of_eq rfl) (by decide)
  refine Rch.of (T' := T426) (g' := (mkF m 4 #[.val (.ref mv)] [])) st426 ?_
  refine zaN X426 D 2 rfl rfl rfl rfl ?_
  obtain ⟨T427, h427, X427, e427, E427, A427, D427, -, st427⟩ := newO X426 hx hZ hown (ow hw 145 rfl) (ow hw 146 rfl) (ow hw 147 rfl) e426 (g := (mkF m 5 #[.val (.ref mv)] [.ref mv])) rfl (D.on 3 rfl) (by decide) (by decide)
  obtain ⟨b427, g427⟩ : ∃ zz_, zz_ = h0.size := ⟨_, rfl⟩
  have ge_b427 : n0 ≤ b427 := Nat.le_trans Z0 (Nat.le_of_eq g427.symm)
  have sz_b427 : h0.size ≤ b427 := Nat.le_trans (Keep.refl h0 [mv]).1 (Nat.le_of_eq g427.symm)
  rw [← g427] at A427 D427 st427
  have F427_elements : Fld Z h427 b427 "java/util/ArrayDeque" "elements" "[Ljava/lang/Object;" .null := D427 (Or.inl (ow hw 160 rfl)) (ty := (.array (.object "java/lang/Object"))) (by decide)
  have F427_tail : Fld Z h427 b427 "java/util/ArrayDeque" "tail" "I" (.int (0 : Int32)) := D427 (Or.inl (ow hw 370 rfl)) (ty := .int) (by decide)
  have F427_head : Fld Z h427 b427 "java/util/ArrayDeque" "head" "I" (.int (0 : Int32)) := D427 (Or.inl (ow hw 386 rfl)) (ty := .int) (by decide)
  refine Rch.of (T' := T427) (g' := (mkF m 8 #[.val (.ref mv)] [.ref b427, .ref mv])) st427 ?_
  refine zdu X427 D 4 rfl rfl rfl (zsb (W := 2) X427 D 5 hZ me11 hown (ow hw 148 rfl) (ow hw 149 rfl) (ow hw 150 rfl) (ow hw 147 rfl) e427 b427 (rm3 lh Z a0 hw [] b427 .null h427 n0 (Nat.le_trans Z0 E427.1) A427 F427_elements F427_tail F427_head ge_b427) hml [] [.ref b427, .ref mv] (lenOf pd_0 rfl) rfl rfl rfl rfl rfl rfl rfl (by decide) (by decide) fun v428 T428 L428 X428 hQ428 => ?_)
  obtain ⟨rfl, N428q, hQ428⟩ := hQ428
  have N428 := Fr.app N0 N428q
  obtain ⟨el428, ze428, K428, Ex428, Ov428, Xe428, Fa428, Fb428, Fc428, Va428⟩ := hQ428
  have ne_mv_el428 : mv ≠ el428 := Nat.ne_of_lt (Nat.lt_of_lt_of_le (E1.ext E427).lt ze428)
  have ne_b427_el428 : b427 ≠ el428 := Nat.ne_of_lt (Nat.lt_of_lt_of_le A427.lt ze428)
  have ge_el428 : n0 ≤ el428 := Nat.le_trans (Nat.le_trans Z0 E427.1) ze428
  have sz_el428 : h0.size ≤ el428 := Nat.le_trans ((Keep.refl h0 [mv]).ext E427).1 ze428
  have nl429 : mv ≠ b427 := Nat.ne_of_lt (Nat.lt_of_lt_of_le E1.lt (Nat.le_of_eq g427.symm))
  refine zpf X428 D 6 hZ hown (ow hw 161 rfl) rfl ((F0.ext E427).keep K428 (ninS nl429 nin0)) ((E1.ext E427).keep K428) (Or.inr ⟨(ow hw 162 rfl), rfl, hnm⟩) (ow hw 139 rfl) (.object "java/util/ArrayDeque") (by decide) rfl rfl rfl rfl fun T430 h430 X430 e430 W430 => ?_
  have N430 := Fr.snoc X430 N428 g1
  have Fw430 := Fld.same W430 ((F0.ext E427).keep K428 (ninS nl429 nin0))
  exact Rch.retV X430 hx hret hlk (D.on 7 rfl) (fun U hU hF => hK _ U _ _ _ (by show Q_rnMI Z mv h0 n0 _ U.heap _; rw [hU, e430]; exact ⟨b427, el428, rfl, N430, sz_b427, sz_el428, ((((Keep.refl h0 [mv]).ext E427).trans K428 (allS (Or.inr sz_b427) all0)).wr W430 (Or.inl (List.mem_of_getElem? (i := 0) rfl))), ⟨(((E1.ext E427).keep K428).wr W430), Fw430, (((F1.ext E427).keep K428 (ninS nl429 nin0)).other W430 (Or.inr (sn55 hw))), (((F2.ext E427).keep K428 (ninS nl429 nin0)).other W430 (Or.inr (sn56 hw))), (((F3.ext E427).keep K428 (ninS nl429 nin0)).other W430 (Or.inr (sn57 hw))), (((F4.ext E427).keep K428 (ninS nl429 nin0)).other W430 (Or.inr (sn58 hw))), (((F5.ext E427).keep K428 (ninS nl429 nin0)).other W430 (Or.inr (sn59 hw))), (((F6.ext E427).keep K428 (ninS nl429 nin0)).other W430 (Or.inr (sn60 hw))), (Ex428.wr W430), (Fa428.other W430 (Or.inl (Ne.symm nl429))), (Fc428.other W430 (Or.inl (Ne.symm nl429))), (Fb428.other W430 (Or.inl (Ne.symm nl429))), (Xe428.wr W430), (Ov428.wr W430), (Va428.other W430 (Ne.symm ne_mv_el428))⟩⟩) hF (by decide) (by decide))
theorem pn_14 : plainName "com/example/kept_till_acked/kepttillacked/queue/ReadyLine$Line" = true := by first | (simp [plainName, overriddenIn]; done) | decide +kernel
def Q_rnLI (Z : State) (l : Addr) (h0 : Heap) (n0 : Nat) (vv_ : Option Value) (h : Heap) (LL_ : List Loc) : Prop := ∃ sb : Addr, ∃ pg : Addr, ∃ na : Addr, ∃ pa : Addr, ∃ mv : Addr, ∃ ad : Addr, ∃ el : Addr, vv_ = none ∧ Fr n0 LL_ ∧ (h0.size ≤ sb ∧ h0.size ≤ pg ∧ h0.size ≤ na ∧ h0.size ≤ pa ∧ h0.size ≤ mv ∧ h0.size ≤ ad ∧ h0.size ≤ el ∧ Keep h0 h [l] ∧ own_LL Z h l sb pg na pa mv ad el)
def Ld40 : List (Nat × Instr × Nat) := [(0, .aload_n 0, 1), (1, .invokespecial 1, 3), (4, .aload_n 0, 1), (5, .new 7, 3), (8, .dup, 1), (9, .invokespecial 9, 3), (12, .putfield 10, 3), (15, .aload_n 0, 1), (16, .new 16, 3), (19, .dup, 1), (20, .invokespecial 18, 3), (23, .putfield 19, 3), (26, .return_, 1)]
theorem d40 : ∀ q ∈ Ld40, decode prog_58_method_1_code q.1 = .ok q.2 := by decide +kernel
abbrev me42 : MethodName := ⟨"com/example/kept_till_acked/kepttillacked/queue/ReadyLine$Line", "<init>", "()V"⟩
def sn61 {a0 : Array Value} {Z : State} (hw : HW a0 Z) := slot_ne (C := "com/example/kept_till_acked/kepttillacked/queue/ReadyLine$Line") (Or.inr (ow hw 164 rfl)) (Or.inr (ow hw 137 rfl)) (by decide) (t := (.object "com/example/kept_till_acked/kepttillacked/queue/MovedRuns")) (t' := (.object "com/example/kept_till_acked/kepttillacked/queue/SeqBits")) (by decide) (by decide)
def sn62 {a0 : Array Value} {Z : State} (hw : HW a0 Z) := slot_ne (C := "com/example/kept_till_acked/kepttillacked/queue/ReadyLine$Line") (Or.inr (ow hw 137 rfl)) (Or.inr (ow hw 164 rfl)) (by decide) (t := (.object "com/example/kept_till_acked/kepttillacked/queue/SeqBits")) (t' := (.object "com/example/kept_till_acked/kepttillacked/queue/MovedRuns")) (by decide) (by decide)
theorem rnLI (lh : Launch) (Z : State) (a0 : Array Value) (hw : HW a0 Z) (ws : List Jvm.Cond) (l : Addr) (h0 : Heap) (n0 : Nat) (Z0 : n0 ≤ h0.size) (E1 : Exa Z h0 l "com/example/kept_till_acked/kepttillacked/queue/ReadyLine$Line") (F0 : Fld Z h0 l "com/example/kept_till_acked/kepttillacked/queue/ReadyLine$Line" "home" "Lcom/example/kept_till_acked/kepttillacked/queue/SeqBits;" .null) (F1 : Fld Z h0 l "com/example/kept_till_acked/kepttillacked/queue/ReadyLine$Line" "moved" "Lcom/example/kept_till_acked/kepttillacked/queue/MovedRuns;" .null) (g1 : n0 ≤ l) :
    MF lh Z me42 (.code me42 prog_58_method_1_code 1 none) ws ⟨4, 7, 65, 52⟩ #[.ref l] h0 (Q_rnLI Z l h0 n0) := by
  refine own_met (y := me42) (plainFor_of_name pn_14) ?_
  intro p ev sT m below meth c T0 K hx hby hml hret hlk hown hnm hZ X0 e0 hK
  have N0 := Fr.nil n0
  have D : DB p c Ld40 := DB.of hx hby d40
  refine Rch.cast (g' := mkF m 0 #[.val (.ref l)] []) (by first | rfl | simp [entryFrame, mkF, argsToLocals, Value.category]) ?_
  refine zaN X0 D 0 rfl rfl rfl rfl ?_
  obtain ⟨T431, X431, e431, st431⟩ := initO X0 hx hZ hown (ow hw 112 rfl) (ow hw 7 rfl) (ow hw 8 rfl) e0 (g := (mkF m 1 #[.val (.ref l)] [.ref l])) rfl (by rw [hml]; rfl) rfl (D.on 1 rfl) (by decide) (W := 0) (by show 2 * 0 + _ ≤ _; exact Nat.le_of_eq rfl) (by decide)
  refine Rch.of (T' := T431) (g' := (mkF m 4 #[.val (.ref l)] [])) st431 ?_
  refine zaN X431 D 2 rfl rfl rfl rfl ?_
  obtain ⟨T432, h432, X432, e432, E432, A432, D432, -, st432⟩ := newO X431 hx hZ hown (ow hw 113 rfl) (ow hw 114 rfl) (ow hw 115 rfl) e431 (g := (mkF m 5 #[.val (.ref l)] [.ref l])) rfl (D.on 3 rfl) (by decide) (by decide)
  obtain ⟨b432, g432⟩ : ∃ zz_, zz_ = h0.size := ⟨_, rfl⟩
  have ge_b432 : n0 ≤ b432 := Nat.le_trans Z0 (Nat.le_of_eq g432.symm)
  have sz_b432 : h0.size ≤ b432 := Nat.le_trans (Keep.refl h0 [l]).1 (Nat.le_of_eq g432.symm)
  rw [← g432] at A432 D432 st432
  have F432_pages : Fld Z h432 b432 "com/example/kept_till_acked/kepttillacked/queue/SeqBits" "pages" "Lcom/example/kept_till_acked/kepttillacked/queue/Pages;" .null := D432 (Or.inr (ow hw 135 rfl)) (ty := (.object "com/example/kept_till_acked/kepttillacked/queue/Pages")) (by decide)
  have F432_size : Fld Z h432 b432 "com/example/kept_till_acked/kepttillacked/queue/SeqBits" "size" "I" (.int (0 : Int32)) := D432 (Or.inl (ow hw 285 rfl)) (ty := .int) (by decide)
  refine Rch.of (T' := T432) (g' := (mkF m 8 #[.val (.ref l)] [.ref b432, .ref l])) st432 ?_
  refine zdu X432 D 4 rfl rfl rfl (zsb (W := 2) X432 D 5 hZ me40 hown (ow hw 116 rfl) (ow hw 117 rfl) (ow hw 118 rfl) (ow hw 115 rfl) e432 b432 (rnSI lh Z a0 hw [] b432 h432 n0 (Nat.le_trans Z0 E432.1) A432 F432_pages F432_size ge_b432) hml [] [.ref b432, .ref l] (lenOf pd_0 rfl) rfl rfl rfl rfl rfl rfl rfl (by decide) (by decide) fun v433 T433 L433 X433 hQ433 => ?_)
  obtain ⟨rpg433, rna433, rpa433, rfl, N433q, hQ433⟩ := hQ433
  have N433 := Fr.app N0 N433q
  obtain ⟨ze433_0, ze433_1, ze433_2, K433, Pq433_0⟩ := hQ433
  have nl434 : l ≠ b432 := Nat.ne_of_lt (Nat.lt_of_lt_of_le E1.lt (Nat.le_of_eq g432.symm))
  refine zpf X433 D 6 hZ hown (ow hw 136 rfl) rfl ((F0.ext E432).keep K433 (ninS nl434 nin0)) ((E1.ext E432).keep K433) (Or.inr ⟨(ow hw 137 rfl), rfl, hnm⟩) (ow hw 107 rfl) (.object "com/example/kept_till_acked/kepttillacked/queue/SeqBits") (by decide) rfl rfl rfl rfl fun T435 h435 X435 e435 W435 => ?_
  have N435 := Fr.snoc X435 N433 g1
  have Fw435 := Fld.same W435 ((F0.ext E432).keep K433 (ninS nl434 nin0))
  have nl436 : l ≠ rpg433 := Nat.ne_of_lt (Nat.lt_of_lt_of_le (E1.ext E432).lt ze433_0)
  have nl437 : l ≠ rna433 := Nat.ne_of_lt (Nat.lt_of_lt_of_le (E1.ext E432).lt ze433_1)
  have nl438 : l ≠ rpa433 := Nat.ne_of_lt (Nat.lt_of_lt_of_le (E1.ext E432).lt ze433_2)
  refine zaN X435 D 7 rfl rfl rfl rfl ?_
  obtain ⟨T439, h439, X439, e439, E439, A439, D439, -, st439⟩ := newO X435 hx hZ hown (ow hw 138 rfl) (ow hw 139 rfl) (ow hw 140 rfl) e435 (g := (mkF m 16 #[.val (.ref l)] [.ref l])) rfl (D.on 8 rfl) (by decide) (by decide)
  obtain ⟨b439, g439⟩ : ∃ zz_, zz_ = h435.size := ⟨_, rfl⟩
  have ge_b439 : n0 ≤ b439 := Nat.le_trans (Nat.le_trans (Nat.le_trans (Nat.le_trans Z0 E432.1) K433.1) (Keep.of_wr W435).1) (Nat.le_of_eq g439.symm)
  have sz_b439 : h0.size ≤ b439 := Nat.le_trans ((((Keep.refl h0 [l]).ext E432).trans K433 (allS (Or.inr sz_b432) all0)).wr W435 (Or.inl (List.mem_of_getElem? (i := 0) rfl))).1 (Nat.le_of_eq g439.symm)
  rw [← g439] at A439 D439 st439
  have Fb440 := (own_SF.ext (own_SF.keep Pq433_0 (Keep.of_wr W435) (ninS (Ne.symm nl434) nin0) (ninS (Ne.symm nl436) nin0) (ninS (Ne.symm nl437) nin0) (ninS (Ne.symm nl438) nin0)) E439)
  have F439_chunks : Fld Z h439 b439 "com/example/kept_till_acked/kepttillacked/queue/MovedRuns" "chunks" "Ljava/util/ArrayDeque;" .null := D439 (Or.inr (ow hw 162 rfl)) (ty := (.object "java/util/ArrayDeque")) (by decide)
  have F439_size : Fld Z h439 b439 "com/example/kept_till_acked/kepttillacked/queue/MovedRuns" "size" "I" (.int (0 : Int32)) := D439 (Or.inl (ow hw 338 rfl)) (ty := .int) (by decide)
  have F439_back : Fld Z h439 b439 "com/example/kept_till_acked/kepttillacked/queue/MovedRuns" "back" "I" (.int (0 : Int32)) := D439 (Or.inl (ow hw 378 rfl)) (ty := .int) (by decide)
  have F439_runs : Fld Z h439 b439 "com/example/kept_till_acked/kepttillacked/queue/MovedRuns" "runs" "I" (.int (0 : Int32)) := D439 (Or.inl (ow hw 391 rfl)) (ty := .int) (by decide)
  have F439_sealed : Fld Z h439 b439 "com/example/kept_till_acked/kepttillacked/queue/MovedRuns" "sealed" "Z" (.int (0 : Int32)) := D439 (Or.inl (ow hw 393 rfl)) (ty := .boolean) (by decide)
  have F439_front : Fld Z h439 b439 "com/example/kept_till_acked/kepttillacked/queue/MovedRuns" "front" "I" (.int (0 : Int32)) := D439 (Or.inl (ow hw 407 rfl)) (ty := .int) (by decide)
  have F439_taken : Fld Z h439 b439 "com/example/kept_till_acked/kepttillacked/queue/MovedRuns" "taken" "J" (.long (0 : Int64)) := D439 (Or.inl (ow hw 409 rfl)) (ty := .long) (by decide)
  refine Rch.of (T' := T439) (g' := (mkF m 19 #[.val (.ref l)] [.ref b439, .ref l])) st439 ?_
  refine zdu X439 D 9 rfl rfl rfl (zsb (W := 2) X439 D 10 hZ me41 hown (ow hw 141 rfl) (ow hw 142 rfl) (ow hw 143 rfl) (ow hw 140 rfl) e439 b439 (rnMI lh Z a0 hw [] b439 h439 n0 (Nat.le_trans (Nat.le_trans (Nat.le_trans (Nat.le_trans Z0 E432.1) K433.1) (Keep.of_wr W435).1) E439.1) A439 F439_chunks F439_front F439_taken F439_back F439_size F439_runs F439_sealed ge_b439) hml [] [.ref b439, .ref l] (lenOf pd_0 rfl) rfl rfl rfl rfl rfl rfl rfl (by decide) (by decide) fun v441 T441 L441 X441 hQ441 => ?_)
  obtain ⟨rad441, rel441, rfl, N441q, hQ441⟩ := hQ441
  have N441 := Fr.app N435 N441q
  obtain ⟨ze441_0, ze441_1, K441, Pq441_0⟩ := hQ441
  have nl442 : l ≠ b439 := Nat.ne_of_lt (Nat.lt_of_lt_of_le (((E1.ext E432).keep K433).wr W435).lt (Nat.le_of_eq g439.symm))
  have nl443 : b432 ≠ b439 := Nat.ne_of_lt (Nat.lt_of_lt_of_le ((A432.keep K433).wr W435).lt (Nat.le_of_eq g439.symm))
  have nl444 : rpg433 ≠ b439 := Nat.ne_of_lt (Nat.lt_of_lt_of_le (own_SF.lt_pg (own_SF.keep Pq433_0 (Keep.of_wr W435) (ninS (Ne.symm nl434) nin0) (ninS (Ne.symm nl436) nin0) (ninS (Ne.symm nl437) nin0) (ninS (Ne.symm nl438) nin0))) (Nat.le_of_eq g439.symm))
  have nl445 : rna433 ≠ b439 := Nat.ne_of_lt (Nat.lt_of_lt_of_le (own_SF.lt_na (own_SF.keep Pq433_0 (Keep.of_wr W435) (ninS (Ne.symm nl434) nin0) (ninS (Ne.symm nl436) nin0) (ninS (Ne.symm nl437) nin0) (ninS (Ne.symm nl438) nin0))) (Nat.le_of_eq g439.symm))
  have nl446 : rpa433 ≠ b439 := Nat.ne_of_lt (Nat.lt_of_lt_of_le (own_SF.lt_pa (own_SF.keep Pq433_0 (Keep.of_wr W435) (ninS (Ne.symm nl434) nin0) (ninS (Ne.symm nl436) nin0) (ninS (Ne.symm nl437) nin0) (ninS (Ne.symm nl438) nin0))) (Nat.le_of_eq g439.symm))
  have Fb447 := ((((((Keep.refl h0 [l]).ext E432).trans K433 (allS (Or.inr sz_b432) all0)).wr W435 (Or.inl (List.mem_of_getElem? (i := 0) rfl))).ext E439).trans K441 (allS (Or.inr sz_b439) all0))
  refine zpf X441 D 11 hZ hown (ow hw 163 rfl) rfl (((((F1.ext E432).keep K433 (ninS nl434 nin0)).other W435 (Or.inr (sn61 hw))).ext E439).keep K441 (ninS nl442 nin0)) (((((E1.ext E432).keep K433).wr W435).ext E439).keep K441) (Or.inr ⟨(ow hw 164 rfl), rfl, hnm⟩) (ow hw 107 rfl) (.object "com/example/kept_till_acked/kepttillacked/queue/MovedRuns") (by decide) rfl rfl rfl rfl fun T448 h448 X448 e448 W448 => ?_
  have N448 := Fr.snoc X448 N441 g1
  have Fw448 := Fld.same W448 (((((F1.ext E432).keep K433 (ninS nl434 nin0)).other W435 (Or.inr (sn61 hw))).ext E439).keep K441 (ninS nl442 nin0))
  have nl449 : l ≠ rad441 := Nat.ne_of_lt (Nat.lt_of_lt_of_le ((((E1.ext E432).keep K433).wr W435).ext E439).lt ze441_0)
  have nl450 : l ≠ rel441 := Nat.ne_of_lt (Nat.lt_of_lt_of_le ((((E1.ext E432).keep K433).wr W435).ext E439).lt ze441_1)
  have Fb451 := (own_SF.keep (own_SF.keep Fb440 K441 (ninS nl443 nin0) (ninS nl444 nin0) (ninS nl445 nin0) (ninS nl446 nin0)) (Keep.of_wr W448) (ninS (Ne.symm nl434) nin0) (ninS (Ne.symm nl436) nin0) (ninS (Ne.symm nl437) nin0) (ninS (Ne.symm nl438) nin0))
  have Fb452 := (Nat.le_trans (Nat.le_trans (Nat.le_trans (Nat.le_trans (Nat.le_trans (Nat.le_trans Z0 E432.1) K433.1) (Keep.of_wr W435).1) E439.1) K441.1) (Keep.of_wr W448).1)
  have nl453 : rpa433 ≠ rel441 := Nat.ne_of_lt (Nat.lt_of_lt_of_le (own_SF.lt_pa Fb440) ze441_1)
  exact Rch.retV X448 hx hret hlk (D.on 12 rfl) (fun U hU hF => hK _ U _ _ _ (by show Q_rnLI Z l h0 n0 _ U.heap _; rw [hU, e448]; exact ⟨b432, rpg433, rna433, rpa433, b439, rad441, rel441, rfl, N448, sz_b432, (Nat.le_trans ((Keep.refl h0 [l]).ext E432).1 ze433_0), (Nat.le_trans ((Keep.refl h0 [l]).ext E432).1 ze433_1), (Nat.le_trans ((Keep.refl h0 [l]).ext E432).1 ze433_2), sz_b439, (Nat.le_trans (((((Keep.refl h0 [l]).ext E432).trans K433 (allS (Or.inr sz_b432) all0)).wr W435 (Or.inl (List.mem_of_getElem? (i := 0) rfl))).ext E439).1 ze441_0), (Nat.le_trans (((((Keep.refl h0 [l]).ext E432).trans K433 (allS (Or.inr sz_b432) all0)).wr W435 (Or.inl (List.mem_of_getElem? (i := 0) rfl))).ext E439).1 ze441_1), (Fb447.wr W448 (Or.inl (List.mem_of_getElem? (i := 0) rfl))), ⟨⟨((((((E1.ext E432).keep K433).wr W435).ext E439).keep K441).wr W448), (((Fw435.ext E439).keep K441 (ninS nl442 nin0)).other W448 (Or.inr (sn62 hw))), Fw448⟩, Fb451, (own_M0.keep Pq441_0 (Keep.of_wr W448) (ninS (Ne.symm nl442) nin0) (ninS (Ne.symm nl449) nin0) (ninS (Ne.symm nl450) nin0)), nl453⟩⟩) hF (by decide) (by decide))
def own_sig : Jvm.Lambda.Shape := (Jvm.Lambda.Shape.mk "java/util/function/Function" "apply" (Jvm.ClassFile.MethodDescriptor.mk ([(Jvm.ClassFile.FieldType.object "java/lang/Object")] : List Jvm.ClassFile.FieldType) (Option.some (Jvm.ClassFile.FieldType.object "java/lang/Object"))) ([] : List Jvm.ClassFile.FieldType) (6 : Nat) "com/example/kept_till_acked/kepttillacked/queue/ReadyLine" "lambda$line$2" (Jvm.ClassFile.MethodDescriptor.mk ([(Jvm.ClassFile.FieldType.object "java/lang/Integer")] : List Jvm.ClassFile.FieldType) (Option.some (Jvm.ClassFile.FieldType.object "com/example/kept_till_acked/kepttillacked/queue/ReadyLine$Line"))) false (Jvm.ClassFile.MethodDescriptor.mk ([(Jvm.ClassFile.FieldType.object "java/lang/Integer")] : List Jvm.ClassFile.FieldType) (Option.some (Jvm.ClassFile.FieldType.object "com/example/kept_till_acked/kepttillacked/queue/ReadyLine$Line"))))
abbrev own_fc : ByteArray := .mk #[0x2b, 0xc0, 0x00, 0x0e, 0xb8, 0x00, 0x14, 0xb0]
theorem own_fok : Jvm.LamKit.fwdOK own_sig "com/example/kept_till_acked/kepttillacked/queue/ReadyLine" own_fc 2 (some (.object "java/lang/Object")) 20 16 = true := by decide +kernel
theorem own_cok : castOK own_sig "com/example/kept_till_acked/kepttillacked/queue/ReadyLine" 14 "java/lang/Integer" = true := by decide +kernel
theorem own_f0 : decode own_fc 0 = .ok (.aload_n 1, 1) := by decide +kernel
theorem own_f1 : decode own_fc 1 = .ok (.checkcast 14, 3) := by decide +kernel
theorem own_f4 : decode own_fc 4 = .ok (.invokestatic 20, 3) := by decide +kernel
theorem own_f7 : decode own_fc 7 = .ok (.areturn, 1) := by decide +kernel
theorem pn_15 : plainName "com/example/kept_till_acked/kepttillacked/queue/ReadyLine" = true := by first | (simp [plainName, overriddenIn]; done) | decide +kernel
def Q_rnLM (Z : State) (k1 : Addr) (h0 : Heap) (n0 : Nat) (vv_ : Option Value) (h : Heap) (LL_ : List Loc) : Prop := ∃ l : Addr, ∃ sb : Addr, ∃ pg : Addr, ∃ na : Addr, ∃ pa : Addr, ∃ mv : Addr, ∃ ad : Addr, ∃ el : Addr, vv_ = some (.ref l) ∧ Fr n0 LL_ ∧ (h0.size ≤ l ∧ h0.size ≤ sb ∧ h0.size ≤ pg ∧ h0.size ≤ na ∧ h0.size ≤ pa ∧ h0.size ≤ mv ∧ h0.size ≤ ad ∧ h0.size ≤ el ∧ Keep h0 h [] ∧ own_LL Z h l sb pg na pa mv ad el)
def Ld41 : List (Nat × Instr × Nat) := [(0, .new 59, 3), (3, .dup, 1), (4, .invokespecial 158, 3), (7, .areturn, 1)]
theorem d41 : ∀ q ∈ Ld41, decode prog_56_method_13_code q.1 = .ok q.2 := by decide +kernel
abbrev me43 : MethodName := ⟨"com/example/kept_till_acked/kepttillacked/queue/ReadyLine", "lambda$line$2", "(Ljava/lang/Integer;)Lcom/example/kept_till_acked/kepttillacked/queue/ReadyLine$Line;"⟩
theorem rnLM (lh : Launch) (Z : State) (a0 : Array Value) (hw : HW a0 Z) (ws : List Jvm.Cond) (k1 : Addr) (h0 : Heap) (n0 : Nat) (Z0 : n0 ≤ h0.size)  :
    MF lh Z me43 (.code me43 prog_56_method_13_code 1 (some (.object "com/example/kept_till_acked/kepttillacked/queue/ReadyLine$Line"))) ws ⟨5, 8, 67, 65⟩ #[.ref k1] h0 (Q_rnLM Z k1 h0 n0) := by
  refine own_met (y := me43) (plainFor_of_name pn_15) ?_
  intro p ev sT m below meth c T0 K hx hby hml hret hlk hown hnm hZ X0 e0 hK
  have N0 := Fr.nil n0
  have D : DB p c Ld41 := DB.of hx hby d41
  refine Rch.cast (g' := mkF m 0 #[.val (.ref k1)] []) (by first | rfl | simp [entryFrame, mkF, argsToLocals, Value.category]) ?_
  obtain ⟨T454, h454, X454, e454, E454, A454, D454, -, st454⟩ := newO X0 hx hZ hown (ow hw 106 rfl) (ow hw 107 rfl) (ow hw 108 rfl) e0 (g := (mkF m 0 #[.val (.ref k1)] [])) rfl (D.on 0 rfl) (by decide) (by decide)
  obtain ⟨b454, g454⟩ : ∃ zz_, zz_ = h0.size := ⟨_, rfl⟩
  have ge_b454 : n0 ≤ b454 := Nat.le_trans Z0 (Nat.le_of_eq g454.symm)
  have sz_b454 : h0.size ≤ b454 := Nat.le_trans (Keep.refl h0 []).1 (Nat.le_of_eq g454.symm)
  rw [← g454] at A454 D454 st454
  have F454_home : Fld Z h454 b454 "com/example/kept_till_acked/kepttillacked/queue/ReadyLine$Line" "home" "Lcom/example/kept_till_acked/kepttillacked/queue/SeqBits;" .null := D454 (Or.inr (ow hw 137 rfl)) (ty := (.object "com/example/kept_till_acked/kepttillacked/queue/SeqBits")) (by decide)
  have F454_moved : Fld Z h454 b454 "com/example/kept_till_acked/kepttillacked/queue/ReadyLine$Line" "moved" "Lcom/example/kept_till_acked/kepttillacked/queue/MovedRuns;" .null := D454 (Or.inr (ow hw 164 rfl)) (ty := (.object "com/example/kept_till_acked/kepttillacked/queue/MovedRuns")) (by decide)
  refine Rch.of (T' := T454) (g' := (mkF m 3 #[.val (.ref k1)] [.ref b454])) st454 ?_
  refine zdu X454 D 1 rfl rfl rfl ?_
  obtain ⟨_, _, ⟨T455, L455, k455, n455⟩, -, X455, ⟨Lc455, hQ455, l455, y455, z455⟩, st455⟩ := own_spR X454 hx hZ (y := me42) rfl hown (ow hw 109 rfl) (ow hw 110 rfl) (ow hw 111 rfl) (by decide) X454 (backOf (W := 1) (rnLI lh Z a0 hw [] b454 h454 n0 (Nat.le_trans Z0 E454.1) A454 F454_home F454_moved ge_b454) hZ (ow hw 111 rfl) (ow hw 108 rfl) (by decide) (by decide)) (g := (mkF m 4 #[.val (.ref k1)] [.ref b454, .ref b454])) rfl (by rw [hml]; rfl) (Steps.refl _) (a := b454) (argsL := []) (rest := [(.ref b454)]) (lenOf pd_0 rfl) rfl (by show 2 * 0 + _ ≤ _; exact Nat.le_of_eq rfl) (D.on 2 rfl) (fun _ _ => ⟨rfl, e454, (by decide : 1 + 7 ≤ _), (by decide : 2 + 65 ≤ _)⟩)
  dsimp only [Pt.U, Pt.locs, Pt.cells, Pt.slots] at X455 l455 y455 z455 st455 hQ455
  subst l455 y455 z455
  obtain ⟨rsb455, rpg455, rna455, rpa455, rmv455, rad455, rel455, rfl, N455q, hQ455⟩ := hQ455
  have N455 := Fr.app N0 N455q
  obtain ⟨ze455_0, ze455_1, ze455_2, ze455_3, ze455_4, ze455_5, ze455_6, K455, Pq455_0⟩ := hQ455
  refine Rch.via (T' := T455) (g' := (mkF m 7 #[.val (.ref k1)] [.ref b454])) st455 ?_
  exact Rch.retA X455 hx (w := (.ref b454)) hret rfl rfl hlk (D.on 3 rfl) (fun U hU hF => hK _ U _ _ _ (by show Q_rnLM Z k1 h0 n0 _ U.heap _; rw [hU]; exact ⟨b454, rsb455, rpg455, rna455, rpa455, rmv455, rad455, rel455, rfl, N455, sz_b454, (Nat.le_trans ((Keep.refl h0 []).ext E454).1 ze455_0), (Nat.le_trans ((Keep.refl h0 []).ext E454).1 ze455_1), (Nat.le_trans ((Keep.refl h0 []).ext E454).1 ze455_2), (Nat.le_trans ((Keep.refl h0 []).ext E454).1 ze455_3), (Nat.le_trans ((Keep.refl h0 []).ext E454).1 ze455_4), (Nat.le_trans ((Keep.refl h0 []).ext E454).1 ze455_5), (Nat.le_trans ((Keep.refl h0 []).ext E454).1 ze455_6), (((Keep.refl h0 []).ext E454).trans K455 (allS (Or.inr sz_b454) all0)), Pq455_0⟩) hF (by decide) (by decide))
theorem own_hout {Z : State} {k1 : Addr} {h0 : Heap} {n0 : Nat} : ∀ v h' L, Q_rnLM Z k1 h0 n0 v h' L → ∃ w, v = some w ∧ w.isRef = true := by
  rintro v h' L ⟨_, _, _, _, _, _, _, _, rfl, -⟩
  exact ⟨_, rfl, rfl⟩
def Q_rnCM (Z : State) (a1 rc k1 fa : Addr) (ro : Value) (sz mc x1 : Int32) (h0 : Heap) (n0 : Nat) (vv_ : Option Value) (h : Heap) (LL_ : List Loc) : Prop := ∃ l : Addr, ∃ sb : Addr, ∃ pg : Addr, ∃ na : Addr, ∃ pa : Addr, ∃ mv : Addr, ∃ ad : Addr, ∃ el : Addr, vv_ = some (.ref l) ∧ Fr n0 LL_ ∧ (h0.size ≤ l ∧ h0.size ≤ sb ∧ h0.size ≤ pg ∧ h0.size ≤ na ∧ h0.size ≤ pa ∧ h0.size ≤ mv ∧ h0.size ≤ ad ∧ h0.size ≤ el ∧ Keep h0 h [] ∧ own_LL Z h l sb pg na pa mv ad el)
def Ld42 : List (Nat × Instr × Nat) := [(0, .aload_n 0, 1), (1, .getfield 13, 3), (4, .istore_n 3, 1), (5, .aload_n 2, 1), (6, .aload_n 1, 1), (7, .invokeinterface 154 2, 5), (12, .astore 4, 2), (14, .iload_n 3, 1), (15, .aload_n 0, 1), (16, .getfield 13, 3), (19, .if_icmp .eq 11, 3), (30, .aload 4, 2), (32, .areturn, 1)]
theorem d42 : ∀ q ∈ Ld42, decode jdk_2729_method_27_code q.1 = .ok q.2 := by decide +kernel
abbrev me44 : MethodName := ⟨"com/example/kept_till_acked/kepttillacked/queue/ReadyLine", "line", "(I)Lcom/example/kept_till_acked/kepttillacked/queue/ReadyLine$Line;"⟩
abbrev me45 : MethodName := ⟨"java/util/function/Function", "apply", "(Ljava/lang/Object;)Ljava/lang/Object;"⟩
abbrev me46 : MethodName := ⟨"java/util/TreeMap", "callMappingFunctionWithCheck", "(Ljava/lang/Object;Ljava/util/function/Function;)Ljava/lang/Object;"⟩
theorem rnCM (lh : Launch) (Z : State) (a0 : Array Value) (hw : HW a0 Z) (ws : List Jvm.Cond) (a1 rc k1 fa : Addr) (ro : Value) (sz mc x1 : Int32) (h0 : Heap) (n0 : Nat) (Z0 : n0 ≤ h0.size) (H0 : own_TM Z h0 a1 ro rc sz mc) (H1 : own_KI Z h0 k1 x1) (O0 : Old Z n0 h0) (hfn : FnZ Z me44 me45 own_sig fa) :
    MF lh Z me46 (.code me46 jdk_2729_method_27_code 5 (some (.object "java/lang/Object"))) ws ⟨7, 8, 67, 90⟩ #[.ref a1, .ref k1, .ref fa] h0 (Q_rnCM Z a1 rc k1 fa ro sz mc x1 h0 n0) := by
  refine own_met (y := me46) (plainFor_of_name pn_9) ?_
  intro p ev sT m below meth c T0 K hx hby hml hret hlk hown hnm hZ X0 e0 hK
  have N0 := Fr.nil n0
  have D : DB p c Ld42 := DB.of hx hby d42
  refine Rch.cast (g' := mkF m 0 #[.val (.ref a1), .val (.ref k1), .val (.ref fa), .unset, .unset] []) (by first | rfl | simp [entryFrame, mkF, argsToLocals, Value.category]) ?_
  obtain ⟨u456_0, u456_1, u456_2, u456_3, u456_4, u456_5⟩ := id H0
  refine zaN X0 D 0 rfl rfl rfl rfl (zgf X0 D 1 hZ hown (ow hw 34 rfl) e0 u456_3 rfl rfl fun T457 X457 e457 => ?_)
  refine zistoreN X457 D 2 (l' := #[.val (.ref a1), .val (.ref k1), .val (.ref fa), .val (.int mc), .unset]) rfl rfl rfl (zaN X457 D 3 rfl rfl rfl rfl (zaN X457 D 4 rfl rfl rfl rfl ?_))
  obtain ⟨_, T458, L458, X458, hQ458, st458⟩ := own_lam X457 hx hZ (y := me43) hown (mvT hZ (ow hw 101 rfl)) (mvT hZ (ow hw 102 rfl)) (mvT hZ (ow hw 103 rfl)) (by decide) hfn e457 O0.2 (own_KI.x_k H1) own_fok own_cok own_f0 own_f1 own_f4 own_f7 ⟨rfl, rfl, by decide +kernel⟩ (by decide) (ow hw 105 rfl) (ow hw 104 rfl) (ow hw 2 rfl) pd_11 rfl (rnLM lh Z a0 hw [] k1 h0 n0 Z0 ) own_hout (g := (mkF m 7 #[.val (.ref a1), .val (.ref k1), .val (.ref fa), .val (.int mc), .unset] [.ref k1, .ref fa])) rfl (by rw [hml]; rfl) (lenOf pd_10 rfl) rfl (D.on 5 rfl) (W := 0) (by show 2 * 0 + _ ≤ _; exact Nat.le_of_eq rfl) (by decide) (by decide) (by decide) (by decide)
  obtain ⟨rl458, rsb458, rpg458, rna458, rpa458, rmv458, rad458, rel458, rfl, N458q, hQ458⟩ := hQ458
  have N458 := Fr.app N0 N458q
  obtain ⟨ze458_0, ze458_1, ze458_2, ze458_3, ze458_4, ze458_5, ze458_6, ze458_7, K458, Pq458_0⟩ := hQ458
  refine Rch.via (T' := T458) (g' := (mkF m 12 #[.val (.ref a1), .val (.ref k1), .val (.ref fa), .val (.int mc), .unset] [.ref rl458])) st458 ?_
  refine zas X458 D 6 (l' := #[.val (.ref a1), .val (.ref k1), .val (.ref fa), .val (.int mc), .val (.ref rl458)]) rfl rfl rfl rfl (ziN X458 D 7 rfl rfl rfl  (zaN X458 D 8 rfl rfl rfl rfl (zgf X458 D 9 hZ hown (ow hw 34 rfl) rfl (u456_3.keep K458 nin0) rfl rfl fun T459 X459 e459 => ?_)))
  refine zcY X459 D 10 30 rfl rfl (teq (rfl : mc = mc)).1 rfl (za X459 D 11 rfl rfl rfl rfl ?_)
  exact Rch.retA X459 hx (w := (.ref rl458)) hret rfl rfl hlk (D.on 12 rfl) (fun U hU hF => hK _ U _ _ _ (by show Q_rnCM Z a1 rc k1 fa ro sz mc x1 h0 n0 _ U.heap _; rw [hU, e459]; exact ⟨rl458, rsb458, rpg458, rna458, rpa458, rmv458, rad458, rel458, rfl, N458, (Nat.le_trans (Keep.refl h0 []).1 ze458_0), (Nat.le_trans (Keep.refl h0 []).1 ze458_1), (Nat.le_trans (Keep.refl h0 []).1 ze458_2), (Nat.le_trans (Keep.refl h0 []).1 ze458_3), (Nat.le_trans (Keep.refl h0 []).1 ze458_4), (Nat.le_trans (Keep.refl h0 []).1 ze458_5), (Nat.le_trans (Keep.refl h0 []).1 ze458_6), (Nat.le_trans (Keep.refl h0 []).1 ze458_7), ((Keep.refl h0 []).trans K458 all0), Pq458_0⟩) hF (by decide) (by decide))
def Q_rnCI0 (Z : State) (a1 rc k1 fa : Addr) (x sz mc : Int32) (h0 : Heap) (n0 : Nat) (vv_ : Option Value) (h : Heap) (LL_ : List Loc) : Prop := ∃ e : Addr, ∃ l : Addr, ∃ sb : Addr, ∃ pg : Addr, ∃ na : Addr, ∃ pa : Addr, ∃ mv : Addr, ∃ ad : Addr, ∃ el : Addr, vv_ = some (.ref l) ∧ Fr n0 LL_ ∧ (h0.size ≤ e ∧ h0.size ≤ l ∧ h0.size ≤ sb ∧ h0.size ≤ pg ∧ h0.size ≤ na ∧ h0.size ≤ pa ∧ h0.size ≤ mv ∧ h0.size ≤ ad ∧ h0.size ≤ el ∧ Keep h0 h [a1] ∧ own_T1 Z h a1 rc x l e ∧ own_LL Z h l sb pg na pa mv ad el)
def Ld43 : List (Nat × Instr × Nat) := [(0, .aload_n 2, 1), (1, .invokestatic 95, 3), (4, .pop, 1), (5, .aload_n 0, 1), (6, .getfield 101, 3), (9, .astore 4, 2), (11, .aload 4, 2), (13, .ifnonnull 24, 3), (16, .aload_n 0, 1), (17, .aload_n 1, 1), (18, .aload_n 2, 1), (19, .invokevirtual 131, 3), (22, .astore_n 3, 1), (23, .aload_n 3, 1), (24, .ifnull 11, 3), (27, .aload_n 0, 1), (28, .aload_n 1, 1), (29, .aload_n 3, 1), (30, .invokevirtual 135, 3), (33, .aload_n 3, 1), (34, .areturn, 1), (37, .aload_n 0, 1), (38, .getfield 16, 3), (41, .astore 7, 2), (43, .aload 7, 2), (45, .ifnull 85, 3), (48, .aload 4, 2), (50, .astore 6, 2), (52, .aload 7, 2), (54, .aload_n 1, 1), (55, .aload 4, 2), (57, .getfield 105, 3), (60, .invokeinterface 117 3, 5), (65, .istore 5, 2), (67, .iload 5, 2), (69, .ifCond .ge 13, 3), (82, .iload 5, 2), (84, .ifCond .le 13, 3), (97, .aload 4, 2), (99, .getfield 58, 3), (102, .ifnonnull 14, 3), (116, .aload 4, 2), (118, .getfield 58, 3), (121, .areturn, 1), (219, .aload_n 0, 1), (220, .aload_n 1, 1), (221, .aload_n 2, 1), (222, .invokevirtual 131, 3), (225, .astore_n 3, 1), (226, .aload_n 3, 1), (227, .ifnull 23, 3), (230, .aload_n 0, 1), (231, .aload_n 1, 1), (232, .aload_n 3, 1), (233, .aload 6, 2), (235, .iload 5, 2), (237, .ifCond .ge 7, 3), (240, .iconst 1, 1), (241, .goto 4, 3), (245, .invokevirtual 139, 3), (248, .aload_n 3, 1), (249, .areturn, 1), (244, .iconst 0, 1), (72, .aload 4, 2), (74, .getfield 111, 3), (77, .astore 4, 2), (79, .goto 43, 3), (122, .aload 4, 2), (124, .ifnonnull (-76), 3), (127, .goto 92, 3), (87, .aload 4, 2), (89, .getfield 114, 3), (92, .astore 4, 2), (94, .goto 28, 3)]
theorem d43 : ∀ q ∈ Ld43, decode jdk_2729_method_23_code q.1 = .ok q.2 := by decide +kernel
abbrev me47 : MethodName := ⟨"java/util/TreeMap", "computeIfAbsent", "(Ljava/lang/Object;Ljava/util/function/Function;)Ljava/lang/Object;"⟩
theorem rnCI0 (lh : Launch) (Z : State) (a0 : Array Value) (hw : HW a0 Z) (ws : List Jvm.Cond) (a1 rc k1 fa : Addr) (x sz mc : Int32) (h0 : Heap) (n0 : Nat) (Z0 : n0 ≤ h0.size) (H0 : own_TM Z h0 a1 .null rc sz mc) (H1 : own_KI Z h0 k1 x) (O0 : Old Z n0 h0) (hfn : FnZ Z me44 me45 own_sig fa) (g1 : n0 ≤ a1) :
    MF lh Z me47 (.code me47 jdk_2729_method_23_code 9 (some (.object "java/lang/Object"))) ws ⟨8, 9, 73, 106⟩ #[.ref a1, .ref k1, .ref fa] h0 (Q_rnCI0 Z a1 rc k1 fa x sz mc h0 n0) := by
  refine own_met (y := me47) (plainFor_of_name pn_9) ?_
  intro p ev sT m below meth c T0 K hx hby hml hret hlk hown hnm hZ X0 e0 hK
  have N0 := Fr.nil n0
  have D : DB p c Ld43 := DB.of hx hby d43
  refine Rch.cast (g' := mkF m 0 #[.val (.ref a1), .val (.ref k1), .val (.ref fa), .unset, .unset, .unset, .unset, .unset, .unset] []) (by first | rfl | simp [entryFrame, mkF, argsToLocals, Value.category]) ?_
  obtain ⟨u460_0, u460_1, u460_2, u460_3, u460_4, u460_5⟩ := id H0
  refine zaN X0 D 0 rfl rfl rfl rfl (zst X0 D 1 hZ me24 hown (ow hw 90 rfl) (ow hw 91 rfl) (ow hw 92 rfl) (ow hw 93 rfl) e0 (rnRN lh Z a0 hw [] fa h0 n0 Z0 ) hml [.ref fa] [] (lenOf pd_10 rfl) rfl rfl rfl rfl rfl rfl (by decide) (by decide) fun v461 T461 L461 X461 hQ461 => ?_)
  obtain ⟨rfl, N461q, hQ461⟩ := hQ461
  have N461 := Fr.app N0 N461q
  refine zpop X461 D 2 rfl rfl rfl (zaN X461 D 3 rfl rfl rfl rfl (zgf X461 D 4 hZ hown (ow hw 94 rfl) hQ461 u460_1 rfl rfl fun T462 X462 e462 => ?_))
  refine zas X462 D 5 (l' := #[.val (.ref a1), .val (.ref k1), .val (.ref fa), .unset, .val .null, .unset, .unset, .unset, .unset]) rfl rfl rfl rfl (za X462 D 6 rfl rfl rfl rfl (zifnonnullNo X462 D 7 rfl rfl (zaN X462 D 8 rfl rfl rfl rfl (zaN X462 D 9 rfl rfl rfl rfl (zaN X462 D 10 rfl rfl rfl rfl (zpb X462 D 11 hZ me46 hown (mvT hZ (ow hw 99 rfl)) (ow hw 96 rfl) (ow hw 97 rfl) (ow hw 98 rfl) (ow hw 100 rfl) (ow hw 11 rfl) e462 (own_TM.x_tm H0) (rnCM lh Z a0 hw [] a1 rc k1 fa .null sz mc x h0 n0 Z0 H0 H1 O0 hfn) hml [.ref k1, .ref fa] [] (lenOf pd_9 rfl) rfl rfl rfl rfl rfl rfl (by decide) (by decide) fun v463 T463 L463 X463 hQ463 => ?_))))))
  obtain ⟨rl463, rsb463, rpg463, rna463, rpa463, rmv463, rad463, rel463, rfl, N463q, hQ463⟩ := hQ463
  have N463 := Fr.app N461 N463q
  obtain ⟨ze463_0, ze463_1, ze463_2, ze463_3, ze463_4, ze463_5, ze463_6, ze463_7, K463, Pq463_0⟩ := hQ463
  refine zat X463 D 12 (l' := #[.val (.ref a1), .val (.ref k1), .val (.ref fa), .val (.ref rl463), .val .null, .unset, .unset, .unset, .unset]) rfl rfl rfl rfl (zaN X463 D 13 rfl rfl rfl rfl (zifnullNo X463 D 14 rfl rfl (zaN X463 D 15 rfl rfl rfl rfl (zaN X463 D 16 rfl rfl rfl rfl (zaN X463 D 17 rfl rfl rfl rfl (zpb X463 D 18 hZ me33 hown (mvT hZ (ow hw 168 rfl)) (ow hw 165 rfl) (ow hw 166 rfl) (ow hw 167 rfl) (ow hw 169 rfl) (ow hw 11 rfl) rfl (own_TM.x_tm (own_TM.keep H0 K463 nin0)) (rnAE lh Z a0 hw [] a1 rc sz mc k1 rl463 x T463.heap n0 (Nat.le_trans Z0 K463.1) (own_TM.keep H0 K463 nin0) (own_KI.keep H1 K463 nin0) g1) hml [.ref k1, .ref rl463] [] (lenOf pd_12 rfl) rfl rfl rfl rfl rfl rfl (by decide) (by decide) fun v464 T464 L464 X464 hQ464 => ?_))))))
  obtain ⟨re1464, rfl, N464q, hQ464⟩ := hQ464
  have N464 := Fr.app N463 N464q
  obtain ⟨ze464_0, K464, Pq464_0, Pq464_1⟩ := hQ464
  have nc465 : k1 ≠ a1 := own_exane (own_KI.x_k (own_KI.keep H1 K463 nin0)) (own_TM.x_tm (own_TM.keep H0 K463 nin0)) (by decide)
  refine zaN X464 D 19 rfl rfl rfl rfl ?_
  exact Rch.retA X464 hx (w := (.ref rl463)) hret rfl rfl hlk (D.on 20 rfl) (fun U hU hF => hK _ U _ _ _ (by show Q_rnCI0 Z a1 rc k1 fa x sz mc h0 n0 _ U.heap _; rw [hU]; exact ⟨re1464, rl463, rsb463, rpg463, rna463, rpa463, rmv463, rad463, rel463, rfl, N464, (Nat.le_trans ((Keep.refl h0 [a1]).trans K463 all0).1 ze464_0), (Nat.le_trans (Keep.refl h0 [a1]).1 ze463_0), (Nat.le_trans (Keep.refl h0 [a1]).1 ze463_1), (Nat.le_trans (Keep.refl h0 [a1]).1 ze463_2), (Nat.le_trans (Keep.refl h0 [a1]).1 ze463_3), (Nat.le_trans (Keep.refl h0 [a1]).1 ze463_4), (Nat.le_trans (Keep.refl h0 [a1]).1 ze463_5), (Nat.le_trans (Keep.refl h0 [a1]).1 ze463_6), (Nat.le_trans (Keep.refl h0 [a1]).1 ze463_7), (((Keep.refl h0 [a1]).trans K463 all0).trans K464 (allS (Or.inl (List.mem_of_getElem? (i := 0) rfl)) all0)), ⟨k1, _, _, Pq464_0, Pq464_1, (own_KI.keep (own_KI.keep H1 K463 nin0) K464 (ninS nc465 nin0))⟩, (own_LL.keept Pq463_0 K464 (own_btS (own_TM.x_tm (own_TM.keep H0 K463 nin0)) (by decide) own_bt0))⟩) hF (by decide) (by decide))
def Q_rnCI1 (Z : State) (a1 rc k1 fa : Addr) (x : Int32) (l e : Addr) (h0 : Heap) (n0 : Nat) (vv_ : Option Value) (h : Heap) (LL_ : List Loc) : Prop := vv_ = some (.ref l) ∧ Fr n0 LL_ ∧ (h = h0)
theorem rnCI1 (lh : Launch) (Z : State) (a0 : Array Value) (hw : HW a0 Z) (ws : List Jvm.Cond) (a1 rc k1 fa : Addr) (x : Int32) (l e : Addr) (h0 : Heap) (n0 : Nat) (Z0 : n0 ≤ h0.size) (HH : own_T1 Z h0 a1 rc x l e) (H1 : own_KI Z h0 k1 x) :
    MF lh Z me47 (.code me47 jdk_2729_method_23_code 9 (some (.object "java/lang/Object"))) ws ⟨5, 0, 0, 67⟩ #[.ref a1, .ref k1, .ref fa] h0 (Q_rnCI1 Z a1 rc k1 fa x l e h0 n0) := by
  refine own_met (y := me47) (plainFor_of_name pn_9) ?_
  intro p ev sT m below meth c T0 K hx hby hml hret hlk hown hnm hZ X0 e0 hK
  have N0 := Fr.nil n0
  have D : DB p c Ld43 := DB.of hx hby d43
  refine Rch.cast (g' := mkF m 0 #[.val (.ref a1), .val (.ref k1), .val (.ref fa), .unset, .unset, .unset, .unset, .unset, .unset] []) (by first | rfl | simp [entryFrame, mkF, argsToLocals, Value.category]) ?_
  obtain ⟨k2, sz, mc, HT, HE1, HK1⟩ := id HH
  obtain ⟨u466_0, u466_1, u466_2, u466_3, u466_4, u466_5⟩ := id HT
  obtain ⟨u467_0, u467_1, u467_2, u467_3, u467_4, u467_5, u467_6⟩ := id HE1
  obtain ⟨u468_0, u468_1⟩ := id HK1
  obtain ⟨u469_0, u469_1⟩ := id H1
  have kn470 : ¬ ((own_cmp x x) < (0 : Int32)) := fun q => Int32.lt_irrefl (own_cmp_lt.mp q)
  have kn471 : ¬ ((0 : Int32) < (own_cmp x x)) := fun q => Int32.lt_irrefl (own_cmp_gt.mp q)
  refine zaN X0 D 0 rfl rfl rfl rfl (zst X0 D 1 hZ me24 hown (ow hw 90 rfl) (ow hw 91 rfl) (ow hw 92 rfl) (ow hw 93 rfl) e0 (rnRN lh Z a0 hw [] fa h0 n0 Z0 ) hml [.ref fa] [] (lenOf pd_10 rfl) rfl rfl rfl rfl rfl rfl (by decide) (by decide) fun v472 T472 L472 X472 hQ472 => ?_)
  obtain ⟨rfl, N472q, hQ472⟩ := hQ472
  have N472 := Fr.app N0 N472q
  refine zpop X472 D 2 rfl rfl rfl (zaN X472 D 3 rfl rfl rfl rfl (zgf X472 D 4 hZ hown (ow hw 94 rfl) hQ472 u466_1 rfl rfl fun T473 X473 e473 => ?_))
  refine zas X473 D 5 (l' := #[.val (.ref a1), .val (.ref k1), .val (.ref fa), .unset, .val (.ref e), .unset, .unset, .unset, .unset]) rfl rfl rfl rfl (za X473 D 6 rfl rfl rfl rfl (zifnonnullYes X473 D 7 37 rfl rfl rfl (zaN X473 D 21 rfl rfl rfl rfl (zgf X473 D 22 hZ hown (ow hw 36 rfl) e473 u466_4 rfl rfl fun T474 X474 e474 => ?_))))
  refine zas X474 D 23 (l' := #[.val (.ref a1), .val (.ref k1), .val (.ref fa), .unset, .val (.ref e), .unset, .unset, .val (.ref rc), .unset]) rfl rfl rfl rfl (za X474 D 24 rfl rfl rfl rfl (zifnullNo X474 D 25 rfl rfl (za X474 D 26 rfl rfl rfl rfl (zas X474 D 27 (l' := #[.val (.ref a1), .val (.ref k1), .val (.ref fa), .unset, .val (.ref e), .unset, .val (.ref e), .val (.ref rc), .unset]) rfl rfl rfl rfl (za X474 D 28 rfl rfl rfl rfl (zaN X474 D 29 rfl rfl rfl rfl (za X474 D 30 rfl rfl rfl rfl (zgf X474 D 31 hZ hown (ow hw 306 rfl) e474 u467_2 rfl rfl fun T475 X475 e475 => ?_))))))))
  refine zib X475 D 32 hZ me28 me21 hown (ow hw 175 rfl) (ow hw 176 rfl) (mvT hZ (ow hw 177 rfl)) (ow hw 178 rfl) (ow hw 179 rfl) (ow hw 180 rfl) (ow hw 181 rfl) (ow hw 182 rfl) (ow hw 183 rfl) (ow hw 21 rfl) e475 u466_5 (rnC4 lh Z a0 hw [] rc k1 k2 x x h0 n0 Z0 u466_5 u469_0 u469_1 u468_0 u468_1) hml [.ref k1, .ref k2] [] (lenOf pd_13 rfl) rfl rfl rfl rfl rfl rfl (by decide) (by decide) fun v476 T476 L476 X476 hQ476 => ?_
  obtain ⟨rfl, N476q, hQ476⟩ := hQ476
  have N476 := Fr.app N472 N476q
  refine zis X476 D 33 (l' := #[.val (.ref a1), .val (.ref k1), .val (.ref fa), .unset, .val (.ref e), .val (.int (own_cmp x x)), .val (.ref e), .val (.ref rc), .unset]) rfl rfl rfl (zi X476 D 34 rfl rfl rfl  (zY X476 D 35 82 rfl rfl ((if0 _ _).trans (flt kn470).2.1) rfl (zi X476 D 36 rfl rfl rfl  (zY X476 D 37 97 rfl rfl ((if0 _ _).trans (flt kn471).2.2.2) rfl (za X476 D 38 rfl rfl rfl rfl (zgf X476 D 39 hZ hown (ow hw 307 rfl) hQ476 u467_3 rfl rfl fun T477 X477 e477 => ?_))))))
  refine zifnonnullYes X477 D 40 116 rfl rfl rfl (za X477 D 41 rfl rfl rfl rfl (zgf X477 D 42 hZ hown (ow hw 307 rfl) e477 u467_3 rfl rfl fun T478 X478 e478 => ?_))
  exact Rch.retA X478 hx (w := (.ref l)) hret rfl rfl hlk (D.on 43 rfl) (fun U hU hF => hK _ U _ _ _ (by show Q_rnCI1 Z a1 rc k1 fa x l e h0 n0 _ U.heap _; rw [hU, e478]; exact ⟨rfl, N476, rfl⟩) hF (by decide) (by decide))
def Q_rnCI2 (Z : State) (a1 rc k1 fa : Addr) (x x1 : Int32) (l1 e1 : Addr) (h0 : Heap) (n0 : Nat) (vv_ : Option Value) (h : Heap) (LL_ : List Loc) : Prop := ∃ e2 : Addr, ∃ l2 : Addr, ∃ sb : Addr, ∃ pg : Addr, ∃ na : Addr, ∃ pa : Addr, ∃ mv : Addr, ∃ ad : Addr, ∃ el : Addr, vv_ = some (.ref l2) ∧ Fr n0 LL_ ∧ (h0.size ≤ e2 ∧ h0.size ≤ l2 ∧ h0.size ≤ sb ∧ h0.size ≤ pg ∧ h0.size ≤ na ∧ h0.size ≤ pa ∧ h0.size ≤ mv ∧ h0.size ≤ ad ∧ h0.size ≤ el ∧ Keep h0 h [a1, e1] ∧ own_T2 Z h a1 rc x1 l1 e1 x l2 e2 ∧ own_LL Z h l2 sb pg na pa mv ad el)
theorem rnCI2 (lh : Launch) (Z : State) (a0 : Array Value) (hw : HW a0 Z) (ws : List Jvm.Cond) (a1 rc k1 fa : Addr) (x x1 : Int32) (l1 e1 : Addr) (h0 : Heap) (n0 : Nat) (Z0 : n0 ≤ h0.size) (HH : own_T1 Z h0 a1 rc x1 l1 e1) (H1 : own_KI Z h0 k1 x) (hne : x1 ≠ x) (O0 : Old Z n0 h0) (hfn : FnZ Z me44 me45 own_sig fa) (g1 : n0 ≤ a1) (g2 : n0 ≤ e1) :
    MF lh Z me47 (.code me47 jdk_2729_method_23_code 9 (some (.object "java/lang/Object"))) ws ⟨8, 9, 73, 106⟩ #[.ref a1, .ref k1, .ref fa] h0 (Q_rnCI2 Z a1 rc k1 fa x x1 l1 e1 h0 n0) := by
  refine own_met (y := me47) (plainFor_of_name pn_9) ?_
  intro p ev sT m below meth c T0 K hx hby hml hret hlk hown hnm hZ X0 e0 hK
  have N0 := Fr.nil n0
  have D : DB p c Ld43 := DB.of hx hby d43
  refine Rch.cast (g' := mkF m 0 #[.val (.ref a1), .val (.ref k1), .val (.ref fa), .unset, .unset, .unset, .unset, .unset, .unset] []) (by first | rfl | simp [entryFrame, mkF, argsToLocals, Value.category]) ?_
  obtain ⟨k2, sz, mc, HT, HE1, HK1⟩ := id HH
  obtain ⟨u479_0, u479_1, u479_2, u479_3, u479_4, u479_5⟩ := id HT
  obtain ⟨u480_0, u480_1, u480_2, u480_3, u480_4, u480_5, u480_6⟩ := id HE1
  obtain ⟨u481_0, u481_1⟩ := id HK1
  obtain ⟨u482_0, u482_1⟩ := id H1
  refine zaN X0 D 0 rfl rfl rfl rfl (zst X0 D 1 hZ me24 hown (ow hw 90 rfl) (ow hw 91 rfl) (ow hw 92 rfl) (ow hw 93 rfl) e0 (rnRN lh Z a0 hw [] fa h0 n0 Z0 ) hml [.ref fa] [] (lenOf pd_10 rfl) rfl rfl rfl rfl rfl rfl (by decide) (by decide) fun v483 T483 L483 X483 hQ483 => ?_)
  obtain ⟨rfl, N483q, hQ483⟩ := hQ483
  have N483 := Fr.app N0 N483q
  refine zpop X483 D 2 rfl rfl rfl (zaN X483 D 3 rfl rfl rfl rfl (zgf X483 D 4 hZ hown (ow hw 94 rfl) hQ483 u479_1 rfl rfl fun T484 X484 e484 => ?_))
  refine zas X484 D 5 (l' := #[.val (.ref a1), .val (.ref k1), .val (.ref fa), .unset, .val (.ref e1), .unset, .unset, .unset, .unset]) rfl rfl rfl rfl (za X484 D 6 rfl rfl rfl rfl (zifnonnullYes X484 D 7 37 rfl rfl rfl (zaN X484 D 21 rfl rfl rfl rfl (zgf X484 D 22 hZ hown (ow hw 36 rfl) e484 u479_4 rfl rfl fun T485 X485 e485 => ?_))))
  refine zas X485 D 23 (l' := #[.val (.ref a1), .val (.ref k1), .val (.ref fa), .unset, .val (.ref e1), .unset, .unset, .val (.ref rc), .unset]) rfl rfl rfl rfl (za X485 D 24 rfl rfl rfl rfl (zifnullNo X485 D 25 rfl rfl (za X485 D 26 rfl rfl rfl rfl (zas X485 D 27 (l' := #[.val (.ref a1), .val (.ref k1), .val (.ref fa), .unset, .val (.ref e1), .unset, .val (.ref e1), .val (.ref rc), .unset]) rfl rfl rfl rfl (za X485 D 28 rfl rfl rfl rfl (zaN X485 D 29 rfl rfl rfl rfl (za X485 D 30 rfl rfl rfl rfl (zgf X485 D 31 hZ hown (ow hw 306 rfl) e485 u480_2 rfl rfl fun T486 X486 e486 => ?_))))))))
  refine zib X486 D 32 hZ me28 me21 hown (ow hw 175 rfl) (ow hw 176 rfl) (mvT hZ (ow hw 177 rfl)) (ow hw 178 rfl) (ow hw 179 rfl) (ow hw 180 rfl) (ow hw 181 rfl) (ow hw 182 rfl) (ow hw 183 rfl) (ow hw 21 rfl) e486 u479_5 (rnC4 lh Z a0 hw [] rc k1 k2 x x1 h0 n0 Z0 u479_5 u482_0 u482_1 u481_0 u481_1) hml [.ref k1, .ref k2] [] (lenOf pd_13 rfl) rfl rfl rfl rfl rfl rfl (by decide) (by decide) fun v487 T487 L487 X487 hQ487 => ?_
  obtain ⟨rfl, N487q, hQ487⟩ := hQ487
  have N487 := Fr.app N483 N487q
  refine zis X487 D 33 (l' := #[.val (.ref a1), .val (.ref k1), .val (.ref fa), .unset, .val (.ref e1), .val (.int (own_cmp x1 x)), .val (.ref e1), .val (.ref rc), .unset]) rfl rfl rfl ?_
  have J : ∀ (TJ : State) (LJ : List Loc) (XJ : Stand p lh ev ({ frames := 8, cells := 9, slots := 73, locals := 106 } : Room) sT m #[.ref a1, .ref k1, .ref fa] below meth c TJ LJ 0 0) (eJ : TJ.heap = h0) (NJ : Fr n0 LJ), Rch p ev below K TJ (mkF m 219 #[.val (.ref a1), .val (.ref k1), .val (.ref fa), .unset, .val .null, .val (.int (own_cmp x1 x)), .val (.ref e1), .val (.ref rc), .unset] []) := by
    intro TJ LJ XJ eJ NJ
    refine zaN XJ D 44 rfl rfl rfl rfl (zaN XJ D 45 rfl rfl rfl rfl (zaN XJ D 46 rfl rfl rfl rfl (zpb XJ D 47 hZ me46 hown (mvT hZ (ow hw 99 rfl)) (ow hw 96 rfl) (ow hw 97 rfl) (ow hw 98 rfl) (ow hw 100 rfl) (ow hw 11 rfl) eJ (own_TM.x_tm HT) (rnCM lh Z a0 hw [] a1 rc k1 fa (.ref e1) sz mc x h0 n0 Z0 HT H1 O0 hfn) hml [.ref k1, .ref fa] [] (lenOf pd_9 rfl) rfl rfl rfl rfl rfl rfl (by decide) (by decide) fun v488 T488 L488 X488 hQ488 => ?_)))
    obtain ⟨rl488, rsb488, rpg488, rna488, rpa488, rmv488, rad488, rel488, rfl, N488q, hQ488⟩ := hQ488
    have N488 := Fr.app NJ N488q
    obtain ⟨ze488_0, ze488_1, ze488_2, ze488_3, ze488_4, ze488_5, ze488_6, ze488_7, K488, Pq488_0⟩ := hQ488
    refine zat X488 D 48 (l' := #[.val (.ref a1), .val (.ref k1), .val (.ref fa), .val (.ref rl488), .val .null, .val (.int (own_cmp x1 x)), .val (.ref e1), .val (.ref rc), .unset]) rfl rfl rfl rfl (zaN X488 D 49 rfl rfl rfl rfl (zifnullNo X488 D 50 rfl rfl (zaN X488 D 51 rfl rfl rfl rfl (zaN X488 D 52 rfl rfl rfl rfl (zaN X488 D 53 rfl rfl rfl rfl (za X488 D 54 rfl rfl rfl rfl (zi X488 D 55 rfl rfl rfl  ?_)))))))
    by_cases c489 : (own_cmp x1 x) < (0 : Int32)
    · skip
      refine zN X488 D 56 rfl rfl ((if0 _ _).trans (tlt c489).2.1) (zic X488 D 57 1 rfl rfl rfl (zgo X488 D 58 245 rfl rfl rfl (zpb X488 D 59 hZ me34 hown (mvT hZ (ow hw 437 rfl)) (ow hw 434 rfl) (ow hw 435 rfl) (ow hw 436 rfl) (ow hw 438 rfl) (ow hw 11 rfl) rfl (own_TM.x_tm (own_TM.keep HT K488 nin0)) (rnAD0 lh Z a0 hw [] a1 rc sz mc e1 k2 l1 k1 rl488 T488.heap n0 (Nat.le_trans Z0 K488.1) (own_TM.keep HT K488 nin0) (own_EN.keep HE1 K488 nin0) g1 g2) hml [.ref k1, .ref rl488, .ref e1, .int (1 : Int32)] [] (lenOf pd_37 rfl) rfl rfl rfl rfl rfl rfl (by decide) (by decide) fun v490 T490 L490 X490 hQ490 => ?_)))
      obtain ⟨re2490, rfl, N490q, hQ490⟩ := hQ490
      have N490 := Fr.app N488 N490q
      obtain ⟨ze490_0, K490, Pq490_0, Pq490_1, Pq490_2⟩ := hQ490
      have nc491 : k1 ≠ a1 := own_exane (own_KI.x_k (own_KI.keep H1 K488 nin0)) (own_TM.x_tm (own_TM.keep HT K488 nin0)) (by decide)
      have nc492 : k1 ≠ e1 := own_exane (own_KI.x_k (own_KI.keep H1 K488 nin0)) (own_EN.x_e (own_EN.keep HE1 K488 nin0)) (by decide)
      have nc493 : k2 ≠ a1 := own_exane (own_KI.x_k (own_KI.keep HK1 K488 nin0)) (own_TM.x_tm (own_TM.keep HT K488 nin0)) (by decide)
      have nc494 : k2 ≠ e1 := own_exane (own_KI.x_k (own_KI.keep HK1 K488 nin0)) (own_EN.x_e (own_EN.keep HE1 K488 nin0)) (by decide)
      have Fb495 := (own_LL.keept Pq488_0 K490 (own_btS (own_TM.x_tm (own_TM.keep HT K488 nin0)) (by decide) (own_btS (own_EN.x_e (own_EN.keep HE1 K488 nin0)) (by decide) own_bt0)))
      have Fb496 := (((Keep.refl h0 [a1, e1]).trans K488 all0).trans K490 (allS (Or.inl (List.mem_of_getElem? (i := 0) rfl)) (allS (Or.inl (List.mem_of_getElem? (i := 1) rfl)) all0)))
      refine zaN X490 D 60 rfl rfl rfl rfl ?_
      have nl497 : e1 ≠ re2490 := Nat.ne_of_lt (Nat.lt_of_lt_of_le (own_EN.lt_e (own_EN.keep HE1 K488 nin0)) ze490_0)
      exact Rch.retA X490 hx (w := (.ref rl488)) hret rfl rfl hlk (D.on 61 rfl) (fun U hU hF => hK _ U _ _ _ (by show Q_rnCI2 Z a1 rc k1 fa x x1 l1 e1 h0 n0 _ U.heap _; rw [hU]; exact ⟨re2490, rl488, rsb488, rpg488, rna488, rpa488, rmv488, rad488, rel488, rfl, N490, (Nat.le_trans ((Keep.refl h0 [a1, e1]).trans K488 all0).1 ze490_0), (Nat.le_trans (Keep.refl h0 [a1, e1]).1 ze488_0), (Nat.le_trans (Keep.refl h0 [a1, e1]).1 ze488_1), (Nat.le_trans (Keep.refl h0 [a1, e1]).1 ze488_2), (Nat.le_trans (Keep.refl h0 [a1, e1]).1 ze488_3), (Nat.le_trans (Keep.refl h0 [a1, e1]).1 ze488_4), (Nat.le_trans (Keep.refl h0 [a1, e1]).1 ze488_5), (Nat.le_trans (Keep.refl h0 [a1, e1]).1 ze488_6), (Nat.le_trans (Keep.refl h0 [a1, e1]).1 ze488_7), Fb496, ⟨k2, k1, _, _, Pq490_0, (own_KI.keep (own_KI.keep HK1 K488 nin0) K490 (ninS nc493 (ninS nc494 nin0))), (own_KI.keep (own_KI.keep H1 K488 nin0) K490 (ninS nc491 (ninS nc492 nin0))), Pq490_2, nl497, Or.inl ⟨(own_cmp_lt.mp c489), Pq490_1⟩⟩, Fb495⟩) hF (by decide) (by decide))
    · skip
      refine zY X488 D 56 244 rfl rfl ((if0 _ _).trans (flt c489).2.1) rfl (zic X488 D 62 0 rfl rfl rfl (zpb X488 D 59 hZ me34 hown (mvT hZ (ow hw 437 rfl)) (ow hw 434 rfl) (ow hw 435 rfl) (ow hw 436 rfl) (ow hw 438 rfl) (ow hw 11 rfl) rfl (own_TM.x_tm (own_TM.keep HT K488 nin0)) (rnAD1 lh Z a0 hw [] a1 rc sz mc e1 k2 l1 k1 rl488 T488.heap n0 (Nat.le_trans Z0 K488.1) (own_TM.keep HT K488 nin0) (own_EN.keep HE1 K488 nin0) g1 g2) hml [.ref k1, .ref rl488, .ref e1, .int (0 : Int32)] [] (lenOf pd_37 rfl) rfl rfl rfl rfl rfl rfl (by decide) (by decide) fun v498 T498 L498 X498 hQ498 => ?_))
      obtain ⟨re2498, rfl, N498q, hQ498⟩ := hQ498
      have N498 := Fr.app N488 N498q
      obtain ⟨ze498_0, K498, Pq498_0, Pq498_1, Pq498_2⟩ := hQ498
      have nc499 : k1 ≠ a1 := own_exane (own_KI.x_k (own_KI.keep H1 K488 nin0)) (own_TM.x_tm (own_TM.keep HT K488 nin0)) (by decide)
      have nc500 : k1 ≠ e1 := own_exane (own_KI.x_k (own_KI.keep H1 K488 nin0)) (own_EN.x_e (own_EN.keep HE1 K488 nin0)) (by decide)
      have nc501 : k2 ≠ a1 := own_exane (own_KI.x_k (own_KI.keep HK1 K488 nin0)) (own_TM.x_tm (own_TM.keep HT K488 nin0)) (by decide)
      have nc502 : k2 ≠ e1 := own_exane (own_KI.x_k (own_KI.keep HK1 K488 nin0)) (own_EN.x_e (own_EN.keep HE1 K488 nin0)) (by decide)
      have Fb503 := (own_LL.keept Pq488_0 K498 (own_btS (own_TM.x_tm (own_TM.keep HT K488 nin0)) (by decide) (own_btS (own_EN.x_e (own_EN.keep HE1 K488 nin0)) (by decide) own_bt0)))
      have Fb504 := (((Keep.refl h0 [a1, e1]).trans K488 all0).trans K498 (allS (Or.inl (List.mem_of_getElem? (i := 0) rfl)) (allS (Or.inl (List.mem_of_getElem? (i := 1) rfl)) all0)))
      refine zaN X498 D 60 rfl rfl rfl rfl ?_
      have nl505 : e1 ≠ re2498 := Nat.ne_of_lt (Nat.lt_of_lt_of_le (own_EN.lt_e (own_EN.keep HE1 K488 nin0)) ze498_0)
      exact Rch.retA X498 hx (w := (.ref rl488)) hret rfl rfl hlk (D.on 61 rfl) (fun U hU hF => hK _ U _ _ _ (by show Q_rnCI2 Z a1 rc k1 fa x x1 l1 e1 h0 n0 _ U.heap _; rw [hU]; exact ⟨re2498, rl488, rsb488, rpg488, rna488, rpa488, rmv488, rad488, rel488, rfl, N498, (Nat.le_trans ((Keep.refl h0 [a1, e1]).trans K488 all0).1 ze498_0), (Nat.le_trans (Keep.refl h0 [a1, e1]).1 ze488_0), (Nat.le_trans (Keep.refl h0 [a1, e1]).1 ze488_1), (Nat.le_trans (Keep.refl h0 [a1, e1]).1 ze488_2), (Nat.le_trans (Keep.refl h0 [a1, e1]).1 ze488_3), (Nat.le_trans (Keep.refl h0 [a1, e1]).1 ze488_4), (Nat.le_trans (Keep.refl h0 [a1, e1]).1 ze488_5), (Nat.le_trans (Keep.refl h0 [a1, e1]).1 ze488_6), (Nat.le_trans (Keep.refl h0 [a1, e1]).1 ze488_7), Fb504, ⟨k2, k1, _, _, Pq498_0, (own_KI.keep (own_KI.keep HK1 K488 nin0) K498 (ninS nc501 (ninS nc502 nin0))), (own_KI.keep (own_KI.keep H1 K488 nin0) K498 (ninS nc499 (ninS nc500 nin0))), Pq498_2, nl505, Or.inr ⟨((own_int_tri hne).resolve_left fun q => c489 (own_cmp_lt.mpr q)), Pq498_1⟩⟩, Fb503⟩) hF (by decide) (by decide))
  refine zi X487 D 34 rfl rfl rfl  ?_
  by_cases c506 : (own_cmp x1 x) < (0 : Int32)
  · skip
    refine zN X487 D 35 rfl rfl ((if0 _ _).trans (tlt c506).2.1) (za X487 D 63 rfl rfl rfl rfl (zgf X487 D 64 hZ hown (ow hw 349 rfl) hQ487 u480_5 rfl rfl fun T507 X507 e507 => ?_))
    refine zas X507 D 65 (l' := #[.val (.ref a1), .val (.ref k1), .val (.ref fa), .unset, .val .null, .val (.int (own_cmp x1 x)), .val (.ref e1), .val (.ref rc), .unset]) rfl rfl rfl rfl (zgo X507 D 66 122 rfl rfl rfl (za X507 D 67 rfl rfl rfl rfl (zifnonnullNo X507 D 68 rfl rfl (zgo X507 D 69 219 rfl rfl rfl ?_))))
    exact J T507 _ X507 e507 N487
  · skip
    refine zY X487 D 35 82 rfl rfl ((if0 _ _).trans (flt c506).2.1) rfl ?_
    have kn508 : (0 : Int32) < (own_cmp x1 x) := own_cmp_gt.mpr ((own_int_tri hne).resolve_left fun q => c506 (own_cmp_lt.mpr q))
    refine zi X487 D 36 rfl rfl rfl  (zN X487 D 37 rfl rfl ((if0 _ _).trans (tlt kn508).2.2.2) (za X487 D 70 rfl rfl rfl rfl (zgf X487 D 71 hZ hown (ow hw 351 rfl) hQ487 u480_6 rfl rfl fun T509 X509 e509 => ?_)))
    refine zas X509 D 72 (l' := #[.val (.ref a1), .val (.ref k1), .val (.ref fa), .unset, .val .null, .val (.int (own_cmp x1 x)), .val (.ref e1), .val (.ref rc), .unset]) rfl rfl rfl rfl (zgo X509 D 73 122 rfl rfl rfl (za X509 D 67 rfl rfl rfl rfl (zifnonnullNo X509 D 68 rfl rfl (zgo X509 D 69 219 rfl rfl rfl ?_))))
    exact J T509 _ X509 e509 N487
theorem pn_16 : plainName "java/util/Arrays" = true := by first | (simp [plainName, overriddenIn]; done) | decide +kernel
def Q_rnRK (Z : State) (p1 p2 p3 : Int32) (h0 : Heap) (n0 : Nat) (vv_ : Option Value) (h : Heap) (LL_ : List Loc) : Prop := vv_ = none ∧ Fr n0 LL_ ∧ (h = h0)
def Ld44 : List (Nat × Instr × Nat) := [(0, .iload_n 1, 1), (1, .iload_n 2, 1), (2, .if_icmp .le 44, 3), (46, .iload_n 1, 1), (47, .ifCond .ge 12, 3), (59, .iload_n 2, 1), (60, .iload_n 0, 1), (61, .if_icmp .le 12, 3), (73, .return_, 1)]
theorem d44 : ∀ q ∈ Ld44, decode jdk_65_method_30_code q.1 = .ok q.2 := by decide +kernel
abbrev me48 : MethodName := ⟨"java/util/Arrays", "rangeCheck", "(III)V"⟩
theorem rnRK (lh : Launch) (Z : State) (a0 : Array Value) (hw : HW a0 Z) (ws : List Jvm.Cond) (p1 p2 p3 : Int32) (h0 : Heap) (n0 : Nat) (Z0 : n0 ≤ h0.size) (q1 : ¬ p3 < p2) (q2 : ¬ p2 < (0 : Int32)) (q3 : ¬ p1 < p3) :
    MF lh Z me48 (.code me48 jdk_65_method_30_code 3 none) ws ⟨0, 0, 0, 0⟩ #[.int p1, .int p2, .int p3] h0 (Q_rnRK Z p1 p2 p3 h0 n0) := by
  refine own_met (y := me48) (plainFor_of_name pn_16) ?_
  intro p ev sT m below meth c T0 K hx hby hml hret hlk hown hnm hZ X0 e0 hK
  have N0 := Fr.nil n0
  have D : DB p c Ld44 := DB.of hx hby d44
  refine Rch.cast (g' := mkF m 0 #[.val (.int p1), .val (.int p2), .val (.int p3)] []) (by first | rfl | simp [entryFrame, mkF, argsToLocals, Value.category]) ?_
  refine ziN X0 D 0 rfl rfl rfl  (ziN X0 D 1 rfl rfl rfl  (zcY X0 D 2 46 rfl rfl (flt q1).2.2.2 rfl (ziN X0 D 3 rfl rfl rfl  (zY X0 D 4 59 rfl rfl ((if0 _ _).trans (flt q2).2.1) rfl (ziN X0 D 5 rfl rfl rfl  (ziN X0 D 6 rfl rfl rfl  (zcY X0 D 7 73 rfl rfl (flt q3).2.2.2 rfl ?_)))))))
  exact Rch.retV X0 hx hret hlk (D.on 8 rfl) (fun U hU hF => hK _ U _ _ _ (by show Q_rnRK Z p1 p2 p3 h0 n0 _ U.heap _; rw [hU, e0]; exact ⟨rfl, N0, rfl⟩) hF (by decide) (by decide))
theorem own_tri64 {x y : Int64} (h : x ≠ y) : x < y ∨ y < x := by
  simp only [Int64.lt_iff_toInt_lt]
  have : x.toInt ≠ y.toInt := fun q => h (Int64.toInt_inj.mp q)
  omega
def Q_rnB00 (Z : State) (na : Addr) (p4 : Int64) (yn : Nat → Int64) (h0 : Heap) (n0 : Nat) (vv_ : Option Value) (h : Heap) (LL_ : List Loc) : Prop := vv_ = some (.int (-1 : Int32)) ∧ Fr n0 LL_ ∧ (h = h0)
def Ld45 : List (Nat × Instr × Nat) := [(0, .iload_n 1, 1), (1, .istore 5, 2), (3, .iload_n 2, 1), (4, .iconst 1, 1), (5, .isub, 1), (6, .istore 6, 2), (8, .iload 5, 2), (10, .iload 6, 2), (12, .if_icmp .gt 56, 3), (68, .iload 5, 2), (70, .iconst 1, 1), (71, .iadd, 1), (72, .ineg, 1), (73, .ireturn, 1), (15, .iload 5, 2), (17, .iload 6, 2), (19, .iadd, 1), (20, .iconst 1, 1), (21, .iushr, 1), (22, .istore 7, 2), (24, .aload_n 0, 1), (25, .iload 7, 2), (27, .laload, 1), (28, .lstore 8, 2), (30, .lload 8, 2), (32, .lload_n 3, 1), (33, .lcmp, 1), (34, .ifCond .ge 12, 3), (37, .iload 7, 2), (39, .iconst 1, 1), (40, .iadd, 1), (41, .istore 5, 2), (43, .goto 22, 3), (65, .goto (-57), 3), (46, .lload 8, 2), (48, .lload_n 3, 1), (49, .lcmp, 1), (50, .ifCond .le 12, 3), (53, .iload 7, 2), (55, .iconst 1, 1), (56, .isub, 1), (57, .istore 6, 2), (59, .goto 6, 3)]
theorem d45 : ∀ q ∈ Ld45, decode jdk_65_method_56_code q.1 = .ok q.2 := by decide +kernel
abbrev me49 : MethodName := ⟨"java/util/Arrays", "binarySearch0", "([JIIJ)I"⟩
theorem rnB00 (lh : Launch) (Z : State) (a0 : Array Value) (hw : HW a0 Z) (ws : List Jvm.Cond) (na : Addr) (p4 : Int64) (yn : Nat → Int64) (h0 : Heap) (n0 : Nat) (Z0 : n0 ≤ h0.size) (V1 : Av Z h0 na .long 16 (fun q => .long (yn q))) :
    MF lh Z me49 (.code me49 jdk_65_method_56_code 10 (some .int)) ws ⟨0, 0, 0, 0⟩ #[.ref na, .int (0 : Int32), .int (0 : Int32), .long p4] h0 (Q_rnB00 Z na p4 yn h0 n0) := by
  refine own_met (y := me49) (plainFor_of_name pn_16) ?_
  intro p ev sT m below meth c T0 K hx hby hml hret hlk hown hnm hZ X0 e0 hK
  have N0 := Fr.nil n0
  have D : DB p c Ld45 := DB.of hx hby d45
  refine Rch.cast (g' := mkF m 0 #[.val (.ref na), .val (.int (0 : Int32)), .val (.int (0 : Int32)), .val (.long p4), .second, .unset, .unset, .unset, .unset, .unset] []) (by first | rfl | simp [entryFrame, mkF, argsToLocals, Value.category]) ?_
  refine ziN X0 D 0 rfl rfl rfl  (zis X0 D 1 (l' := #[.val (.ref na), .val (.int (0 : Int32)), .val (.int (0 : Int32)), .val (.long p4), .second, .val (.int (0 : Int32)), .unset, .unset, .unset, .unset]) rfl rfl rfl (ziN X0 D 2 rfl rfl rfl  (zic X0 D 3 1 rfl rfl rfl (zisub X0 D 4 (-1) rfl rfl rfl (zis X0 D 5 (l' := #[.val (.ref na), .val (.int (0 : Int32)), .val (.int (0 : Int32)), .val (.long p4), .second, .val (.int (0 : Int32)), .val (.int (-1 : Int32)), .unset, .unset, .unset]) rfl rfl rfl (zi X0 D 6 rfl rfl rfl  (zi X0 D 7 rfl rfl rfl  (zcY X0 D 8 68 rfl rfl (tlt ((by decide) : (-1 : Int32) < (0 : Int32))).2.2.1 rfl (zi X0 D 9 rfl rfl rfl  (zic X0 D 10 1 rfl rfl rfl (ziadd X0 D 11 1 rfl rfl rfl (zineg X0 D 12 (-1) rfl rfl rfl ?_))))))))))))
  exact Rch.retI X0 hx hret hlk (D.on 13 rfl) (fun U hU hF => hK _ U _ _ _ (by show Q_rnB00 Z na p4 yn h0 n0 _ U.heap _; rw [hU, e0]; exact ⟨rfl, N0, rfl⟩) hF (by decide) (by decide))
def Q_rnB01 (Z : State) (na : Addr) (p4 : Int64) (yn : Nat → Int64) (h0 : Heap) (n0 : Nat) (vv_ : Option Value) (h : Heap) (LL_ : List Loc) : Prop := ∃ r : Int32, vv_ = some (.int r) ∧ Fr n0 LL_ ∧ (r < (0 : Int32) ∧ h = h0)
theorem rnB01 (lh : Launch) (Z : State) (a0 : Array Value) (hw : HW a0 Z) (ws : List Jvm.Cond) (na : Addr) (p4 : Int64) (yn : Nat → Int64) (h0 : Heap) (n0 : Nat) (Z0 : n0 ≤ h0.size) (V1 : Av Z h0 na .long 16 (fun q => .long (yn q))) (hne : yn 0 ≠ p4) :
    MF lh Z me49 (.code me49 jdk_65_method_56_code 10 (some .int)) ws ⟨0, 0, 0, 0⟩ #[.ref na, .int (0 : Int32), .int (1 : Int32), .long p4] h0 (Q_rnB01 Z na p4 yn h0 n0) := by
  refine own_met (y := me49) (plainFor_of_name pn_16) ?_
  intro p ev sT m below meth c T0 K hx hby hml hret hlk hown hnm hZ X0 e0 hK
  have N0 := Fr.nil n0
  have D : DB p c Ld45 := DB.of hx hby d45
  refine Rch.cast (g' := mkF m 0 #[.val (.ref na), .val (.int (0 : Int32)), .val (.int (1 : Int32)), .val (.long p4), .second, .unset, .unset, .unset, .unset, .unset] []) (by first | rfl | simp [entryFrame, mkF, argsToLocals, Value.category]) ?_
  refine ziN X0 D 0 rfl rfl rfl  (zis X0 D 1 (l' := #[.val (.ref na), .val (.int (0 : Int32)), .val (.int (1 : Int32)), .val (.long p4), .second, .val (.int (0 : Int32)), .unset, .unset, .unset, .unset]) rfl rfl rfl (ziN X0 D 2 rfl rfl rfl  (zic X0 D 3 1 rfl rfl rfl (zisub X0 D 4 0 rfl rfl rfl (zis X0 D 5 (l' := #[.val (.ref na), .val (.int (0 : Int32)), .val (.int (1 : Int32)), .val (.long p4), .second, .val (.int (0 : Int32)), .val (.int (0 : Int32)), .unset, .unset, .unset]) rfl rfl rfl (zi X0 D 6 rfl rfl rfl  (zi X0 D 7 rfl rfl rfl  (zcN X0 D 8 rfl rfl (flt ((by decide) : ¬ ((0 : Int32) < (0 : Int32)))).2.2.1 (zi X0 D 14 rfl rfl rfl  (zi X0 D 15 rfl rfl rfl  (ziadd X0 D 16 0 rfl rfl rfl (zic X0 D 17 1 rfl rfl rfl (ziushr X0 D 18 0 rfl rfl rfl (zis X0 D 19 (l' := #[.val (.ref na), .val (.int (0 : Int32)), .val (.int (1 : Int32)), .val (.long p4), .second, .val (.int (0 : Int32)), .val (.int (0 : Int32)), .val (.int (0 : Int32)), .unset, .unset]) rfl rfl rfl (zaN X0 D 20 rfl rfl rfl rfl (zi X0 D 21 rfl rfl rfl  ?_))))))))))))))))
  obtain ⟨cl510, Ar510, Sz510, Ha510⟩ := id V1
  refine Rch.of (T' := T0) (g' := (mkF m 28 #[.val (.ref na), .val (.int (0 : Int32)), .val (.int (1 : Int32)), .val (.long p4), .second, .val (.int (0 : Int32)), .val (.int (0 : Int32)), .val (.int (0 : Int32)), .unset, .unset] [.long (yn 0)])) (X0.laload hx (j := (0 : Int32)) (v := (.long (yn 0))) (by rw [e0]; exact Ar510.1) (State.isArrayOf_alike hZ.alike Ar510.2.1) Ar510.2.2 (oIn (i := 0) Sz510 (by decide) (by decide)) (oAt (i := 0) Ha510 (by decide) (by decide)) (g := (mkF m 27 #[.val (.ref na), .val (.int (0 : Int32)), .val (.int (1 : Int32)), .val (.long p4), .second, .val (.int (0 : Int32)), .val (.int (0 : Int32)), .val (.int (0 : Int32)), .unset, .unset] [.int (0 : Int32), .ref na])) rfl rfl (D.on 22 rfl)) ?_
  refine zlstore X0 D 23 (l' := #[.val (.ref na), .val (.int (0 : Int32)), .val (.int (1 : Int32)), .val (.long p4), .second, .val (.int (0 : Int32)), .val (.int (0 : Int32)), .val (.int (0 : Int32)), .val (.long (yn 0)), .second]) rfl rfl rfl (zl X0 D 24 rfl rfl rfl  (zlN X0 D 25 rfl rfl rfl  (zlcmp X0 D 26 _ rfl rfl rfl ?_)))
  by_cases c511 : (lcmpW (yn 0) p4) < (0 : Int32)
  · skip
    refine zN X0 D 27 rfl rfl ((if0 _ _).trans (tlt c511).2.1) (zi X0 D 28 rfl rfl rfl  (zic X0 D 29 1 rfl rfl rfl (ziadd X0 D 30 1 rfl rfl rfl (zis X0 D 31 (l' := #[.val (.ref na), .val (.int (0 : Int32)), .val (.int (1 : Int32)), .val (.long p4), .second, .val (.int (1 : Int32)), .val (.int (0 : Int32)), .val (.int (0 : Int32)), .val (.long (yn 0)), .second]) rfl rfl rfl (zgo X0 D 32 65 rfl rfl rfl (zgo X0 D 33 8 rfl rfl rfl (zi X0 D 6 rfl rfl rfl  (zi X0 D 7 rfl rfl rfl  (zcY X0 D 8 68 rfl rfl (tlt ((by decide) : (0 : Int32) < (1 : Int32))).2.2.1 rfl (zi X0 D 9 rfl rfl rfl  (zic X0 D 10 1 rfl rfl rfl (ziadd X0 D 11 2 rfl rfl rfl (zineg X0 D 12 (-2) rfl rfl rfl ?_)))))))))))))
    exact Rch.retI X0 hx hret hlk (D.on 13 rfl) (fun U hU hF => hK _ U _ _ _ (by show Q_rnB01 Z na p4 yn h0 n0 _ U.heap _; rw [hU, e0]; exact ⟨(-2 : Int32), rfl, N0, (by decide), rfl⟩) hF (by decide) (by decide))
  · skip
    refine zY X0 D 27 46 rfl rfl ((if0 _ _).trans (flt c511).2.1) rfl ?_
    have kn512 : (0 : Int32) < (lcmpW (yn 0) p4) := (lw_gt _ _).mpr ((own_tri64 hne).resolve_left fun q => c511 ((lw_lt _ _).mpr q))
    refine zl X0 D 34 rfl rfl rfl  (zlN X0 D 35 rfl rfl rfl  (zlcmp X0 D 36 _ rfl rfl rfl (zN X0 D 37 rfl rfl ((if0 _ _).trans (tlt kn512).2.2.2) (zi X0 D 38 rfl rfl rfl  (zic X0 D 39 1 rfl rfl rfl (zisub X0 D 40 (-1) rfl rfl rfl (zis X0 D 41 (l' := #[.val (.ref na), .val (.int (0 : Int32)), .val (.int (1 : Int32)), .val (.long p4), .second, .val (.int (0 : Int32)), .val (.int (-1 : Int32)), .val (.int (0 : Int32)), .val (.long (yn 0)), .second]) rfl rfl rfl (zgo X0 D 42 65 rfl rfl rfl (zgo X0 D 33 8 rfl rfl rfl (zi X0 D 6 rfl rfl rfl  (zi X0 D 7 rfl rfl rfl  (zcY X0 D 8 68 rfl rfl (tlt ((by decide) : (-1 : Int32) < (0 : Int32))).2.2.1 rfl (zi X0 D 9 rfl rfl rfl  (zic X0 D 10 1 rfl rfl rfl (ziadd X0 D 11 1 rfl rfl rfl (zineg X0 D 12 (-1) rfl rfl rfl ?_))))))))))))))))
    exact Rch.retI X0 hx hret hlk (D.on 13 rfl) (fun U hU hF => hK _ U _ _ _ (by show Q_rnB01 Z na p4 yn h0 n0 _ U.heap _; rw [hU, e0]; exact ⟨(-1 : Int32), rfl, N0, (by decide), rfl⟩) hF (by decide) (by decide))
def Q_rnBS0 (Z : State) (na : Addr) (p4 : Int64) (yn : Nat → Int64) (h0 : Heap) (n0 : Nat) (vv_ : Option Value) (h : Heap) (LL_ : List Loc) : Prop := vv_ = some (.int (-1 : Int32)) ∧ Fr n0 LL_ ∧ (h = h0)
def Ld46 : List (Nat × Instr × Nat) := [(0, .aload_n 0, 1), (1, .arraylength, 1), (2, .iload_n 1, 1), (3, .iload_n 2, 1), (4, .invokestatic 13, 3), (7, .aload_n 0, 1), (8, .iload_n 1, 1), (9, .iload_n 2, 1), (10, .lload_n 3, 1), (11, .invokestatic 205, 3), (14, .ireturn, 1)]
theorem d46 : ∀ q ∈ Ld46, decode jdk_65_method_55_code q.1 = .ok q.2 := by decide +kernel
abbrev me50 : MethodName := ⟨"java/util/Arrays", "binarySearch", "([JIIJ)I"⟩
theorem rnBS0 (lh : Launch) (Z : State) (a0 : Array Value) (hw : HW a0 Z) (ws : List Jvm.Cond) (na : Addr) (p4 : Int64) (yn : Nat → Int64) (h0 : Heap) (n0 : Nat) (Z0 : n0 ≤ h0.size) (V1 : Av Z h0 na .long 16 (fun q => .long (yn q))) :
    MF lh Z me50 (.code me50 jdk_65_method_55_code 5 (some .int)) ws ⟨1, 0, 0, 21⟩ #[.ref na, .int (0 : Int32), .int (0 : Int32), .long p4] h0 (Q_rnBS0 Z na p4 yn h0 n0) := by
  refine own_met (y := me50) (plainFor_of_name pn_16) ?_
  intro p ev sT m below meth c T0 K hx hby hml hret hlk hown hnm hZ X0 e0 hK
  have N0 := Fr.nil n0
  have D : DB p c Ld46 := DB.of hx hby d46
  refine Rch.cast (g' := mkF m 0 #[.val (.ref na), .val (.int (0 : Int32)), .val (.int (0 : Int32)), .val (.long p4), .second] []) (by first | rfl | simp [entryFrame, mkF, argsToLocals, Value.category]) ?_
  refine zaN X0 D 0 rfl rfl rfl rfl ?_
  obtain ⟨cl513, Ar513, Sz513, Ha513⟩ := id V1
  refine Rch.of (T' := T0) (g' := (mkF m 2 #[.val (.ref na), .val (.int (0 : Int32)), .val (.int (0 : Int32)), .val (.long p4), .second] [.int cl513.slots.size.toInt32])) (X0.arraylength hx (by rw [e0]; exact Ar513.1) (State.isArrayOf_alike hZ.alike Ar513.2.1) (g := (mkF m 1 #[.val (.ref na), .val (.int (0 : Int32)), .val (.int (0 : Int32)), .val (.long p4), .second] [.ref na])) rfl rfl (D.on 1 rfl)) ?_
  rw [oLen Sz513]
  show Rch p ev below K T0 (mkF m 2 #[.val (.ref na), .val (.int (0 : Int32)), .val (.int (0 : Int32)), .val (.long p4), .second] [.int (16 : Int32)])
  refine ziN X0 D 2 rfl rfl rfl  (ziN X0 D 3 rfl rfl rfl  (zst X0 D 4 hZ me48 hown (ow hw 248 rfl) (ow hw 249 rfl) (ow hw 246 rfl) (ow hw 250 rfl) e0 (rnRK lh Z a0 hw [] (16 : Int32) (0 : Int32) (0 : Int32) h0 n0 Z0 (by decide) (by decide) (by decide)) hml [.int (16 : Int32), .int (0 : Int32), .int (0 : Int32)] [] (lenOf pd_23 rfl) rfl rfl rfl rfl rfl rfl (by decide) (by decide) fun v514 T514 L514 X514 hQ514 => ?_))
  obtain ⟨rfl, N514q, hQ514⟩ := hQ514
  have N514 := Fr.app N0 N514q
  refine zaN X514 D 5 rfl rfl rfl rfl (ziN X514 D 6 rfl rfl rfl  (ziN X514 D 7 rfl rfl rfl  (zlN X514 D 8 rfl rfl rfl  (zst X514 D 9 hZ me49 hown (ow hw 251 rfl) (ow hw 252 rfl) (ow hw 246 rfl) (ow hw 253 rfl) hQ514 (rnB00 lh Z a0 hw [] na p4 yn h0 n0 Z0 V1) hml [.ref na, .int (0 : Int32), .int (0 : Int32), .long p4] [] (lenOf pd_22 rfl) rfl rfl rfl rfl rfl rfl (by decide) (by decide) fun v515 T515 L515 X515 hQ515 => ?_))))
  obtain ⟨rfl, N515q, hQ515⟩ := hQ515
  have N515 := Fr.app N514 N515q
  exact Rch.retI X515 hx hret hlk (D.on 10 rfl) (fun U hU hF => hK _ U _ _ _ (by show Q_rnBS0 Z na p4 yn h0 n0 _ U.heap _; rw [hU, hQ515]; exact ⟨rfl, N515, rfl⟩) hF (by decide) (by decide))
def Q_rnBS1 (Z : State) (na : Addr) (p4 : Int64) (yn : Nat → Int64) (h0 : Heap) (n0 : Nat) (vv_ : Option Value) (h : Heap) (LL_ : List Loc) : Prop := ∃ r : Int32, vv_ = some (.int r) ∧ Fr n0 LL_ ∧ (r < (0 : Int32) ∧ h = h0)
theorem rnBS1 (lh : Launch) (Z : State) (a0 : Array Value) (hw : HW a0 Z) (ws : List Jvm.Cond) (na : Addr) (p4 : Int64) (yn : Nat → Int64) (h0 : Heap) (n0 : Nat) (Z0 : n0 ≤ h0.size) (V1 : Av Z h0 na .long 16 (fun q => .long (yn q))) (hne : yn 0 ≠ p4) :
    MF lh Z me50 (.code me50 jdk_65_method_55_code 5 (some .int)) ws ⟨1, 0, 0, 21⟩ #[.ref na, .int (0 : Int32), .int (1 : Int32), .long p4] h0 (Q_rnBS1 Z na p4 yn h0 n0) := by
  refine own_met (y := me50) (plainFor_of_name pn_16) ?_
  intro p ev sT m below meth c T0 K hx hby hml hret hlk hown hnm hZ X0 e0 hK
  have N0 := Fr.nil n0
  have D : DB p c Ld46 := DB.of hx hby d46
  refine Rch.cast (g' := mkF m 0 #[.val (.ref na), .val (.int (0 : Int32)), .val (.int (1 : Int32)), .val (.long p4), .second] []) (by first | rfl | simp [entryFrame, mkF, argsToLocals, Value.category]) ?_
  refine zaN X0 D 0 rfl rfl rfl rfl ?_
  obtain ⟨cl516, Ar516, Sz516, Ha516⟩ := id V1
  refine Rch.of (T' := T0) (g' := (mkF m 2 #[.val (.ref na), .val (.int (0 : Int32)), .val (.int (1 : Int32)), .val (.long p4), .second] [.int cl516.slots.size.toInt32])) (X0.arraylength hx (by rw [e0]; exact Ar516.1) (State.isArrayOf_alike hZ.alike Ar516.2.1) (g := (mkF m 1 #[.val (.ref na), .val (.int (0 : Int32)), .val (.int (1 : Int32)), .val (.long p4), .second] [.ref na])) rfl rfl (D.on 1 rfl)) ?_
  rw [oLen Sz516]
  show Rch p ev below K T0 (mkF m 2 #[.val (.ref na), .val (.int (0 : Int32)), .val (.int (1 : Int32)), .val (.long p4), .second] [.int (16 : Int32)])
  refine ziN X0 D 2 rfl rfl rfl  (ziN X0 D 3 rfl rfl rfl  (zst X0 D 4 hZ me48 hown (ow hw 248 rfl) (ow hw 249 rfl) (ow hw 246 rfl) (ow hw 250 rfl) e0 (rnRK lh Z a0 hw [] (16 : Int32) (0 : Int32) (1 : Int32) h0 n0 Z0 (by decide) (by decide) (by decide)) hml [.int (16 : Int32), .int (0 : Int32), .int (1 : Int32)] [] (lenOf pd_23 rfl) rfl rfl rfl rfl rfl rfl (by decide) (by decide) fun v517 T517 L517 X517 hQ517 => ?_))
  obtain ⟨rfl, N517q, hQ517⟩ := hQ517
  have N517 := Fr.app N0 N517q
  refine zaN X517 D 5 rfl rfl rfl rfl (ziN X517 D 6 rfl rfl rfl  (ziN X517 D 7 rfl rfl rfl  (zlN X517 D 8 rfl rfl rfl  (zst X517 D 9 hZ me49 hown (ow hw 251 rfl) (ow hw 252 rfl) (ow hw 246 rfl) (ow hw 253 rfl) hQ517 (rnB01 lh Z a0 hw [] na p4 yn h0 n0 Z0 V1 hne) hml [.ref na, .int (0 : Int32), .int (1 : Int32), .long p4] [] (lenOf pd_22 rfl) rfl rfl rfl rfl rfl rfl (by decide) (by decide) fun v518 T518 L518 X518 hQ518 => ?_))))
  obtain ⟨rr518, rfl, N518q, hQ518⟩ := hQ518
  have N518 := Fr.app N517 N518q
  obtain ⟨hr518, he518⟩ := hQ518
  exact Rch.retI X518 hx hret hlk (D.on 10 rfl) (fun U hU hF => hK _ U _ _ _ (by show Q_rnBS1 Z na p4 yn h0 n0 _ U.heap _; rw [hU, he518]; exact ⟨rr518, rfl, N518, hr518, rfl⟩) hF (by decide) (by decide))
def Q_rnF0 (Z : State) (pg na : Addr) (p1 : Int64) (yn : Nat → Int64) (h0 : Heap) (n0 : Nat) (vv_ : Option Value) (h : Heap) (LL_ : List Loc) : Prop := vv_ = some (.int (-1 : Int32)) ∧ Fr n0 LL_ ∧ (h = h0)
def Ld47 : List (Nat × Instr × Nat) := [(0, .aload_n 0, 1), (1, .getfield 47, 3), (4, .aload_n 0, 1), (5, .getfield 21, 3), (8, .if_icmp .ge 22, 3), (30, .aload_n 0, 1), (31, .getfield 21, 3), (34, .ifCond .le 26, 3), (60, .aload_n 0, 1), (61, .getfield 21, 3), (64, .ifCond .le 14, 3), (78, .ldc2_w 35, 3), (81, .lstore_n 3, 1), (82, .lload_n 3, 1), (83, .lconst 0, 1), (84, .lcmp, 1), (85, .ifCond .lt 36, 3), (121, .aload_n 0, 1), (122, .getfield 9, 3), (125, .iconst 0, 1), (126, .aload_n 0, 1), (127, .getfield 21, 3), (130, .lload_n 1, 1), (131, .invokestatic 50, 3), (134, .istore 5, 2), (136, .iload 5, 2), (138, .ifCond .lt 9, 3), (147, .iload 5, 2), (149, .ireturn, 1), (11, .aload_n 0, 1), (12, .getfield 9, 3), (15, .aload_n 0, 1), (16, .getfield 47, 3), (19, .laload, 1), (20, .lload_n 1, 1), (21, .lcmp, 1), (22, .ifCond .ne 8, 3), (25, .aload_n 0, 1), (26, .getfield 47, 3), (29, .ireturn, 1), (37, .aload_n 0, 1), (38, .getfield 9, 3), (41, .aload_n 0, 1), (42, .getfield 21, 3), (45, .iconst 1, 1), (46, .isub, 1), (47, .laload, 1), (48, .lload_n 1, 1), (49, .lcmp, 1), (50, .ifCond .ne 10, 3), (67, .lload_n 1, 1), (68, .aload_n 0, 1), (69, .getfield 9, 3), (72, .iconst 0, 1), (73, .laload, 1), (74, .lsub, 1), (75, .goto 6, 3), (88, .lload_n 3, 1), (89, .aload_n 0, 1), (90, .getfield 21, 3), (93, .i2l, 1), (94, .lcmp, 1), (95, .ifCond .ge 26, 3)]
theorem d47 : ∀ q ∈ Ld47, decode prog_49_method_7_code q.1 = .ok q.2 := by decide +kernel
abbrev me51 : MethodName := ⟨"com/example/kept_till_acked/kepttillacked/queue/Pages", "find", "(J)I"⟩
theorem rnF0 (lh : Launch) (Z : State) (a0 : Array Value) (hw : HW a0 Z) (ws : List Jvm.Cond) (pg na : Addr) (p1 : Int64) (yn : Nat → Int64) (h0 : Heap) (n0 : Nat) (Z0 : n0 ≤ h0.size) (H0 : own_P0 Z h0 pg na yn) :
    MF lh Z me51 (.code me51 prog_49_method_7_code 6 (some .int)) ws ⟨2, 0, 0, 37⟩ #[.ref pg, .long p1] h0 (Q_rnF0 Z pg na p1 yn h0 n0) := by
  refine own_met (y := me51) (plainFor_of_name pn_11) ?_
  intro p ev sT m below meth c T0 K hx hby hml hret hlk hown hnm hZ X0 e0 hK
  have N0 := Fr.nil n0
  have D : DB p c Ld47 := DB.of hx hby d47
  refine Rch.cast (g' := mkF m 0 #[.val (.ref pg), .val (.long p1), .second, .unset, .unset, .unset] []) (by first | rfl | simp [entryFrame, mkF, argsToLocals, Value.category]) ?_
  obtain ⟨u519_0, u519_1, u519_2, u519_3, u519_4, u519_5⟩ := id H0
  refine zaN X0 D 0 rfl rfl rfl rfl (zgf X0 D 1 hZ hown (ow hw 239 rfl) e0 u519_3 rfl rfl fun T520 X520 e520 => ?_)
  refine zaN X520 D 2 rfl rfl rfl rfl (zgf X520 D 3 hZ hown (ow hw 241 rfl) e520 u519_2 rfl rfl fun T521 X521 e521 => ?_)
  refine zcY X521 D 4 30 rfl rfl (flt ((by decide) : ¬ ((0 : Int32) < (0 : Int32)))).2.1 rfl (zaN X521 D 5 rfl rfl rfl rfl (zgf X521 D 6 hZ hown (ow hw 241 rfl) e521 u519_2 rfl rfl fun T522 X522 e522 => ?_))
  refine zY X522 D 7 60 rfl rfl ((if0 _ _).trans (flt ((by decide) : ¬ ((0 : Int32) < (0 : Int32)))).2.2.2) rfl (zaN X522 D 8 rfl rfl rfl rfl (zgf X522 D 9 hZ hown (ow hw 241 rfl) e522 u519_2 rfl rfl fun T523 X523 e523 => ?_))
  refine zY X523 D 10 78 rfl rfl ((if0 _ _).trans (flt ((by decide) : ¬ ((0 : Int32) < (0 : Int32)))).2.2.2) rfl ?_
  refine Rch.of (T' := T523) (g' := (mkF m 81 #[.val (.ref pg), .val (.long p1), .second, .unset, .unset, .unset] [.long (-1 : Int64)])) (X523.ldc2Long hx hown (mvT hZ (ow hw 243 rfl)) (g := (mkF m 78 #[.val (.ref pg), .val (.long p1), .second, .unset, .unset, .unset] [])) rfl (D.on 11 rfl)) ?_
  refine zlstoreN X523 D 12 (l' := #[.val (.ref pg), .val (.long p1), .second, .val (.long (-1 : Int64)), .second, .unset]) rfl rfl rfl (zlN X523 D 13 rfl rfl rfl  (zlconst X523 D 14 0 rfl rfl rfl (zlcmp X523 D 15 (-1) rfl rfl rfl (zY X523 D 16 121 rfl rfl ((if0 _ _).trans (tlt ((by decide) : (-1 : Int32) < (0 : Int32))).1) rfl (zaN X523 D 17 rfl rfl rfl rfl (zgf X523 D 18 hZ hown (ow hw 128 rfl) e523 u519_1 rfl rfl fun T524 X524 e524 => ?_))))))
  refine zic X524 D 19 0 rfl rfl rfl (zaN X524 D 20 rfl rfl rfl rfl (zgf X524 D 21 hZ hown (ow hw 241 rfl) e524 u519_2 rfl rfl fun T525 X525 e525 => ?_))
  refine zlN X525 D 22 rfl rfl rfl  (zst X525 D 23 hZ me50 hown (ow hw 244 rfl) (ow hw 245 rfl) (ow hw 246 rfl) (ow hw 247 rfl) e525 (rnBS0 lh Z a0 hw [] na p1 yn h0 n0 Z0 u519_5) hml [.ref na, .int (0 : Int32), .int (0 : Int32), .long p1] [] (lenOf pd_22 rfl) rfl rfl rfl rfl rfl rfl (by decide) (by decide) fun v526 T526 L526 X526 hQ526 => ?_)
  obtain ⟨rfl, N526q, hQ526⟩ := hQ526
  have N526 := Fr.app N0 N526q
  refine zis X526 D 24 (l' := #[.val (.ref pg), .val (.long p1), .second, .val (.long (-1 : Int64)), .second, .val (.int (-1 : Int32))]) rfl rfl rfl (zi X526 D 25 rfl rfl rfl  (zY X526 D 26 147 rfl rfl ((if0 _ _).trans (tlt ((by decide) : (-1 : Int32) < (0 : Int32))).1) rfl (zi X526 D 27 rfl rfl rfl  ?_)))
  exact Rch.retI X526 hx hret hlk (D.on 28 rfl) (fun U hU hF => hK _ U _ _ _ (by show Q_rnF0 Z pg na p1 yn h0 n0 _ U.heap _; rw [hU, hQ526]; exact ⟨rfl, N526, rfl⟩) hF (by decide) (by decide))
def Q_rnF1 (Z : State) (pg na : Addr) (p1 : Int64) (yn : Nat → Int64) (h0 : Heap) (n0 : Nat) (vv_ : Option Value) (h : Heap) (LL_ : List Loc) : Prop := vv_ = some (.int (0 : Int32)) ∧ Fr n0 LL_ ∧ (h = h0)
theorem rnF1 (lh : Launch) (Z : State) (a0 : Array Value) (hw : HW a0 Z) (ws : List Jvm.Cond) (pg na : Addr) (p1 : Int64) (yn : Nat → Int64) (h0 : Heap) (n0 : Nat) (Z0 : n0 ≤ h0.size) (H1 : own_P1 Z h0 pg na yn) (hit : yn 0 = p1) :
    MF lh Z me51 (.code me51 prog_49_method_7_code 6 (some .int)) ws ⟨0, 0, 0, 0⟩ #[.ref pg, .long p1] h0 (Q_rnF1 Z pg na p1 yn h0 n0) := by
  refine own_met (y := me51) (plainFor_of_name pn_11) ?_
  intro p ev sT m below meth c T0 K hx hby hml hret hlk hown hnm hZ X0 e0 hK
  have N0 := Fr.nil n0
  have D : DB p c Ld47 := DB.of hx hby d47
  refine Rch.cast (g' := mkF m 0 #[.val (.ref pg), .val (.long p1), .second, .unset, .unset, .unset] []) (by first | rfl | simp [entryFrame, mkF, argsToLocals, Value.category]) ?_
  obtain ⟨u527_0, u527_1, u527_2, u527_3, u527_4, u527_5⟩ := id H1
  have kn528 : (lcmpW (yn 0) p1) = (0 : Int32) := (lw_eq _ _).mpr hit
  refine zaN X0 D 0 rfl rfl rfl rfl (zgf X0 D 1 hZ hown (ow hw 239 rfl) e0 u527_3 rfl rfl fun T529 X529 e529 => ?_)
  refine zaN X529 D 2 rfl rfl rfl rfl (zgf X529 D 3 hZ hown (ow hw 241 rfl) e529 u527_2 rfl rfl fun T530 X530 e530 => ?_)
  refine zcN X530 D 4 rfl rfl (tlt ((by decide) : (0 : Int32) < (1 : Int32))).2.1 (zaN X530 D 29 rfl rfl rfl rfl (zgf X530 D 30 hZ hown (ow hw 128 rfl) e530 u527_1 rfl rfl fun T531 X531 e531 => ?_))
  refine zaN X531 D 31 rfl rfl rfl rfl (zgf X531 D 32 hZ hown (ow hw 239 rfl) e531 u527_3 rfl rfl fun T532 X532 e532 => ?_)
  obtain ⟨cl533, Ar533, Sz533, Ha533⟩ := id u527_5
  refine Rch.of (T' := T532) (g' := (mkF m 20 #[.val (.ref pg), .val (.long p1), .second, .unset, .unset, .unset] [.long (yn 0)])) (X532.laload hx (j := (0 : Int32)) (v := (.long (yn 0))) (by rw [e532]; exact Ar533.1) (State.isArrayOf_alike hZ.alike Ar533.2.1) Ar533.2.2 (oIn (i := 0) Sz533 (by decide) (by decide)) (oAt (i := 0) Ha533 (by decide) (by decide)) (g := (mkF m 19 #[.val (.ref pg), .val (.long p1), .second, .unset, .unset, .unset] [.int (0 : Int32), .ref na])) rfl rfl (D.on 33 rfl)) ?_
  refine zlN X532 D 34 rfl rfl rfl  (zlcmp X532 D 35 _ rfl rfl rfl (zN X532 D 36 rfl rfl ((if0 _ _).trans (teq kn528).2) (zaN X532 D 37 rfl rfl rfl rfl (zgf X532 D 38 hZ hown (ow hw 239 rfl) e532 u527_3 rfl rfl fun T534 X534 e534 => ?_))))
  exact Rch.retI X534 hx hret hlk (D.on 39 rfl) (fun U hU hF => hK _ U _ _ _ (by show Q_rnF1 Z pg na p1 yn h0 n0 _ U.heap _; rw [hU, e534]; exact ⟨rfl, N0, rfl⟩) hF (by decide) (by decide))
def Q_rnF2 (Z : State) (pg na : Addr) (p1 : Int64) (yn : Nat → Int64) (h0 : Heap) (n0 : Nat) (vv_ : Option Value) (h : Heap) (LL_ : List Loc) : Prop := ∃ r : Int32, vv_ = some (.int r) ∧ Fr n0 LL_ ∧ (r < (0 : Int32) ∧ h = h0)
theorem rnF2 (lh : Launch) (Z : State) (a0 : Array Value) (hw : HW a0 Z) (ws : List Jvm.Cond) (pg na : Addr) (p1 : Int64) (yn : Nat → Int64) (h0 : Heap) (n0 : Nat) (Z0 : n0 ≤ h0.size) (H1 : own_P1 Z h0 pg na yn) (mis : yn 0 ≠ p1) :
    MF lh Z me51 (.code me51 prog_49_method_7_code 6 (some .int)) ws ⟨2, 0, 0, 37⟩ #[.ref pg, .long p1] h0 (Q_rnF2 Z pg na p1 yn h0 n0) := by
  refine own_met (y := me51) (plainFor_of_name pn_11) ?_
  intro p ev sT m below meth c T0 K hx hby hml hret hlk hown hnm hZ X0 e0 hK
  have N0 := Fr.nil n0
  have D : DB p c Ld47 := DB.of hx hby d47
  refine Rch.cast (g' := mkF m 0 #[.val (.ref pg), .val (.long p1), .second, .unset, .unset, .unset] []) (by first | rfl | simp [entryFrame, mkF, argsToLocals, Value.category]) ?_
  obtain ⟨u535_0, u535_1, u535_2, u535_3, u535_4, u535_5⟩ := id H1
  have kn536 : ¬ ((lcmpW (yn 0) p1) = (0 : Int32)) := fun q => mis ((lw_eq _ _).mp q)
  refine zaN X0 D 0 rfl rfl rfl rfl (zgf X0 D 1 hZ hown (ow hw 239 rfl) e0 u535_3 rfl rfl fun T537 X537 e537 => ?_)
  refine zaN X537 D 2 rfl rfl rfl rfl (zgf X537 D 3 hZ hown (ow hw 241 rfl) e537 u535_2 rfl rfl fun T538 X538 e538 => ?_)
  refine zcN X538 D 4 rfl rfl (tlt ((by decide) : (0 : Int32) < (1 : Int32))).2.1 (zaN X538 D 29 rfl rfl rfl rfl (zgf X538 D 30 hZ hown (ow hw 128 rfl) e538 u535_1 rfl rfl fun T539 X539 e539 => ?_))
  refine zaN X539 D 31 rfl rfl rfl rfl (zgf X539 D 32 hZ hown (ow hw 239 rfl) e539 u535_3 rfl rfl fun T540 X540 e540 => ?_)
  obtain ⟨cl541, Ar541, Sz541, Ha541⟩ := id u535_5
  refine Rch.of (T' := T540) (g' := (mkF m 20 #[.val (.ref pg), .val (.long p1), .second, .unset, .unset, .unset] [.long (yn 0)])) (X540.laload hx (j := (0 : Int32)) (v := (.long (yn 0))) (by rw [e540]; exact Ar541.1) (State.isArrayOf_alike hZ.alike Ar541.2.1) Ar541.2.2 (oIn (i := 0) Sz541 (by decide) (by decide)) (oAt (i := 0) Ha541 (by decide) (by decide)) (g := (mkF m 19 #[.val (.ref pg), .val (.long p1), .second, .unset, .unset, .unset] [.int (0 : Int32), .ref na])) rfl rfl (D.on 33 rfl)) ?_
  refine zlN X540 D 34 rfl rfl rfl  (zlcmp X540 D 35 _ rfl rfl rfl (zY X540 D 36 30 rfl rfl ((if0 _ _).trans (feq kn536).2) rfl (zaN X540 D 5 rfl rfl rfl rfl (zgf X540 D 6 hZ hown (ow hw 241 rfl) e540 u535_2 rfl rfl fun T542 X542 e542 => ?_))))
  refine zN X542 D 7 rfl rfl ((if0 _ _).trans (tlt ((by decide) : (0 : Int32) < (1 : Int32))).2.2.2) (zaN X542 D 40 rfl rfl rfl rfl (zgf X542 D 41 hZ hown (ow hw 128 rfl) e542 u535_1 rfl rfl fun T543 X543 e543 => ?_))
  refine zaN X543 D 42 rfl rfl rfl rfl (zgf X543 D 43 hZ hown (ow hw 241 rfl) e543 u535_2 rfl rfl fun T544 X544 e544 => ?_)
  refine zic X544 D 44 1 rfl rfl rfl (zisub X544 D 45 0 rfl rfl rfl ?_)
  obtain ⟨cl545, Ar545, Sz545, Ha545⟩ := id u535_5
  refine Rch.of (T' := T544) (g' := (mkF m 48 #[.val (.ref pg), .val (.long p1), .second, .unset, .unset, .unset] [.long (yn 0)])) (X544.laload hx (j := (0 : Int32)) (v := (.long (yn 0))) (by rw [e544]; exact Ar545.1) (State.isArrayOf_alike hZ.alike Ar545.2.1) Ar545.2.2 (oIn (i := 0) Sz545 (by decide) (by decide)) (oAt (i := 0) Ha545 (by decide) (by decide)) (g := (mkF m 47 #[.val (.ref pg), .val (.long p1), .second, .unset, .unset, .unset] [.int (0 : Int32), .ref na])) rfl rfl (D.on 46 rfl)) ?_
  refine zlN X544 D 47 rfl rfl rfl  (zlcmp X544 D 48 _ rfl rfl rfl (zY X544 D 49 60 rfl rfl ((if0 _ _).trans (feq kn536).2) rfl (zaN X544 D 8 rfl rfl rfl rfl (zgf X544 D 9 hZ hown (ow hw 241 rfl) e544 u535_2 rfl rfl fun T546 X546 e546 => ?_))))
  refine zN X546 D 10 rfl rfl ((if0 _ _).trans (tlt ((by decide) : (0 : Int32) < (1 : Int32))).2.2.2) (zlN X546 D 50 rfl rfl rfl  (zaN X546 D 51 rfl rfl rfl rfl (zgf X546 D 52 hZ hown (ow hw 128 rfl) e546 u535_1 rfl rfl fun T547 X547 e547 => ?_)))
  refine zic X547 D 53 0 rfl rfl rfl ?_
  obtain ⟨cl548, Ar548, Sz548, Ha548⟩ := id u535_5
  refine Rch.of (T' := T547) (g' := (mkF m 74 #[.val (.ref pg), .val (.long p1), .second, .unset, .unset, .unset] [.long (yn 0), .long p1])) (X547.laload hx (j := (0 : Int32)) (v := (.long (yn 0))) (by rw [e547]; exact Ar548.1) (State.isArrayOf_alike hZ.alike Ar548.2.1) Ar548.2.2 (oIn (i := 0) Sz548 (by decide) (by decide)) (oAt (i := 0) Ha548 (by decide) (by decide)) (g := (mkF m 73 #[.val (.ref pg), .val (.long p1), .second, .unset, .unset, .unset] [.int (0 : Int32), .ref na, .long p1])) rfl rfl (D.on 54 rfl)) ?_
  refine zlsub X547 D 55 _ rfl rfl rfl (zgo X547 D 56 81 rfl rfl rfl ?_)
  have J : ∀ (TJ : State) (LJ : List Loc) (XJ : Stand p lh ev ({ frames := 2, cells := 0, slots := 0, locals := 37 } : Room) sT m #[.ref pg, .long p1] below meth c TJ LJ 0 0) (eJ : TJ.heap = h0) (NJ : Fr n0 LJ), Rch p ev below K TJ (mkF m 121 #[.val (.ref pg), .val (.long p1), .second, .val (.long (p1 - (yn 0))), .second, .unset] []) := by
    intro TJ LJ XJ eJ NJ
    refine zaN XJ D 17 rfl rfl rfl rfl (zgf XJ D 18 hZ hown (ow hw 128 rfl) eJ u535_1 rfl rfl fun T549 X549 e549 => ?_)
    refine zic X549 D 19 0 rfl rfl rfl (zaN X549 D 20 rfl rfl rfl rfl (zgf X549 D 21 hZ hown (ow hw 241 rfl) e549 u535_2 rfl rfl fun T550 X550 e550 => ?_))
    refine zlN X550 D 22 rfl rfl rfl  (zst X550 D 23 hZ me50 hown (ow hw 244 rfl) (ow hw 245 rfl) (ow hw 246 rfl) (ow hw 247 rfl) e550 (rnBS1 lh Z a0 hw [] na p1 yn h0 n0 Z0 u535_5 mis) hml [.ref na, .int (0 : Int32), .int (1 : Int32), .long p1] [] (lenOf pd_22 rfl) rfl rfl rfl rfl rfl rfl (by decide) (by decide) fun v551 T551 L551 X551 hQ551 => ?_)
    obtain ⟨rr551, rfl, N551q, hQ551⟩ := hQ551
    have N551 := Fr.app NJ N551q
    obtain ⟨hr551, he551⟩ := hQ551
    refine zis X551 D 24 (l' := #[.val (.ref pg), .val (.long p1), .second, .val (.long (p1 - (yn 0))), .second, .val (.int rr551)]) rfl rfl rfl (zi X551 D 25 rfl rfl rfl  (zY X551 D 26 147 rfl rfl ((if0 _ _).trans (tlt hr551).1) rfl (zi X551 D 27 rfl rfl rfl  ?_)))
    exact Rch.retI X551 hx hret hlk (D.on 28 rfl) (fun U hU hF => hK _ U _ _ _ (by show Q_rnF2 Z pg na p1 yn h0 n0 _ U.heap _; rw [hU, he551]; exact ⟨rr551, rfl, N551, hr551, rfl⟩) hF (by decide) (by decide))
  refine zlstoreN X547 D 12 (l' := #[.val (.ref pg), .val (.long p1), .second, .val (.long (p1 - (yn 0))), .second, .unset]) rfl rfl rfl (zlN X547 D 13 rfl rfl rfl  (zlconst X547 D 14 0 rfl rfl rfl (zlcmp X547 D 15 _ rfl rfl rfl ?_)))
  by_cases c552 : (lcmpW (p1 - (yn 0)) (0 : Int64)) < (0 : Int32)
  · skip
    refine zY X547 D 16 121 rfl rfl ((if0 _ _).trans (tlt c552).1) rfl ?_
    exact J T547 _ X547 e547 N0
  · skip
    refine zN X547 D 16 rfl rfl ((if0 _ _).trans (flt c552).1) ?_
    have kn553 : ¬ ((lcmpW (p1 - (yn 0)) (1 : Int64)) < (0 : Int32)) := fun q => own_ge1 (fun t => c552 ((lw_lt _ _).mpr t)) mis ((lw_lt _ _).mp q)
    refine zlN X547 D 57 rfl rfl rfl  (zaN X547 D 58 rfl rfl rfl rfl (zgf X547 D 59 hZ hown (ow hw 241 rfl) e547 u535_2 rfl rfl fun T554 X554 e554 => ?_))
    refine zi2l X554 D 60 1 rfl rfl rfl (zlcmp X554 D 61 _ rfl rfl rfl (zY X554 D 62 121 rfl rfl ((if0 _ _).trans (flt kn553).2.1) rfl ?_))
    exact J T554 _ X554 e554 N0
def Q_rnG0 (Z : State) (pg na : Addr) (p1 : Int64) (yn : Nat → Int64) (h0 : Heap) (n0 : Nat) (vv_ : Option Value) (h : Heap) (LL_ : List Loc) : Prop := vv_ = some .null ∧ Fr n0 LL_ ∧ (h = h0)
def Ld48 : List (Nat × Instr × Nat) := [(0, .aload_n 0, 1), (1, .lload_n 1, 1), (2, .invokevirtual 17, 3), (5, .istore_n 3, 1), (6, .iload_n 3, 1), (7, .ifCond .lt 12, 3), (19, .aconst_null, 1), (20, .areturn, 1), (10, .aload_n 0, 1), (11, .getfield 13, 3), (14, .iload_n 3, 1), (15, .aaload, 1), (16, .goto 4, 3)]
theorem d48 : ∀ q ∈ Ld48, decode prog_49_method_2_code q.1 = .ok q.2 := by decide +kernel
abbrev me52 : MethodName := ⟨"com/example/kept_till_acked/kepttillacked/queue/Pages", "get", "(J)Ljava/lang/Object;"⟩
theorem rnG0 (lh : Launch) (Z : State) (a0 : Array Value) (hw : HW a0 Z) (ws : List Jvm.Cond) (pg na : Addr) (p1 : Int64) (yn : Nat → Int64) (h0 : Heap) (n0 : Nat) (Z0 : n0 ≤ h0.size) (H0 : own_P0 Z h0 pg na yn) :
    MF lh Z me52 (.code me52 prog_49_method_2_code 4 (some (.object "java/lang/Object"))) ws ⟨3, 0, 0, 54⟩ #[.ref pg, .long p1] h0 (Q_rnG0 Z pg na p1 yn h0 n0) := by
  refine own_met (y := me52) (plainFor_of_name pn_11) ?_
  intro p ev sT m below meth c T0 K hx hby hml hret hlk hown hnm hZ X0 e0 hK
  have N0 := Fr.nil n0
  have D : DB p c Ld48 := DB.of hx hby d48
  refine Rch.cast (g' := mkF m 0 #[.val (.ref pg), .val (.long p1), .second, .unset] []) (by first | rfl | simp [entryFrame, mkF, argsToLocals, Value.category]) ?_
  refine zaN X0 D 0 rfl rfl rfl rfl (zlN X0 D 1 rfl rfl rfl  (zpb X0 D 2 hZ me51 hown (own_selP (mvT hZ (ow hw 121 rfl)) (mvP hZ (ow hw 237 rfl)) (mvT hZ (ow hw 236 rfl)) (by decide)) (ow hw 235 rfl) (ow hw 236 rfl) (ow hw 237 rfl) (ow hw 238 rfl) (ow hw 122 rfl) e0 (own_P0.x_pg H0) (rnF0 lh Z a0 hw [] pg na p1 yn h0 n0 Z0 H0) hml [.long p1] [] (lenOf pd_21 rfl) rfl rfl rfl rfl rfl rfl (by decide) (by decide) fun v555 T555 L555 X555 hQ555 => ?_))
  obtain ⟨rfl, N555q, hQ555⟩ := hQ555
  have N555 := Fr.app N0 N555q
  refine zistoreN X555 D 3 (l' := #[.val (.ref pg), .val (.long p1), .second, .val (.int (-1 : Int32))]) rfl rfl rfl (ziN X555 D 4 rfl rfl rfl  (zY X555 D 5 19 rfl rfl ((if0 _ _).trans (tlt ((by decide) : (-1 : Int32) < (0 : Int32))).1) rfl (zaconstNull X555 D 6 rfl rfl ?_)))
  exact Rch.retA X555 hx (w := .null) hret rfl rfl hlk (D.on 7 rfl) (fun U hU hF => hK _ U _ _ _ (by show Q_rnG0 Z pg na p1 yn h0 n0 _ U.heap _; rw [hU, hQ555]; exact ⟨rfl, N555, rfl⟩) hF (by decide) (by decide))
def Q_rnG1 (Z : State) (pg na : Addr) (p1 : Int64) (yn : Nat → Int64) (pa pp : Addr) (h0 : Heap) (n0 : Nat) (vv_ : Option Value) (h : Heap) (LL_ : List Loc) : Prop := vv_ = some (.ref pp) ∧ Fr n0 LL_ ∧ (h = h0)
theorem rnG1 (lh : Launch) (Z : State) (a0 : Array Value) (hw : HW a0 Z) (ws : List Jvm.Cond) (pg na : Addr) (p1 : Int64) (yn : Nat → Int64) (pa pp : Addr) (h0 : Heap) (n0 : Nat) (Z0 : n0 ≤ h0.size) (H1 : own_P1 Z h0 pg na yn) (hit : yn 0 = p1) (F1 : Fld Z h0 pg "com/example/kept_till_acked/kepttillacked/queue/Pages" "pages" "[Ljava/lang/Object;" (.ref pa)) (V2 : Av Z h0 pa (.object "java/lang/Object") 16 (fun q => (fun q => if q = 0 then Value.ref pp else Value.null) q)) :
    MF lh Z me52 (.code me52 prog_49_method_2_code 4 (some (.object "java/lang/Object"))) ws ⟨1, 0, 0, 17⟩ #[.ref pg, .long p1] h0 (Q_rnG1 Z pg na p1 yn pa pp h0 n0) := by
  refine own_met (y := me52) (plainFor_of_name pn_11) ?_
  intro p ev sT m below meth c T0 K hx hby hml hret hlk hown hnm hZ X0 e0 hK
  have N0 := Fr.nil n0
  have D : DB p c Ld48 := DB.of hx hby d48
  refine Rch.cast (g' := mkF m 0 #[.val (.ref pg), .val (.long p1), .second, .unset] []) (by first | rfl | simp [entryFrame, mkF, argsToLocals, Value.category]) ?_
  refine zaN X0 D 0 rfl rfl rfl rfl (zlN X0 D 1 rfl rfl rfl  (zpb X0 D 2 hZ me51 hown (own_selP (mvT hZ (ow hw 121 rfl)) (mvP hZ (ow hw 237 rfl)) (mvT hZ (ow hw 236 rfl)) (by decide)) (ow hw 235 rfl) (ow hw 236 rfl) (ow hw 237 rfl) (ow hw 238 rfl) (ow hw 122 rfl) e0 (own_P1.x_pg H1) (rnF1 lh Z a0 hw [] pg na p1 yn h0 n0 Z0 H1 hit) hml [.long p1] [] (lenOf pd_21 rfl) rfl rfl rfl rfl rfl rfl (by decide) (by decide) fun v556 T556 L556 X556 hQ556 => ?_))
  obtain ⟨rfl, N556q, hQ556⟩ := hQ556
  have N556 := Fr.app N0 N556q
  refine zistoreN X556 D 3 (l' := #[.val (.ref pg), .val (.long p1), .second, .val (.int (0 : Int32))]) rfl rfl rfl (ziN X556 D 4 rfl rfl rfl  (zN X556 D 5 rfl rfl ((if0 _ _).trans (flt ((by decide) : ¬ ((0 : Int32) < (0 : Int32)))).1) (zaN X556 D 8 rfl rfl rfl rfl (zgf X556 D 9 hZ hown (ow hw 132 rfl) hQ556 F1 rfl rfl fun T557 X557 e557 => ?_))))
  refine ziN X557 D 10 rfl rfl rfl  ?_
  obtain ⟨cl558, Ar558, Sz558, Ha558⟩ := id V2
  have hval558 : ((fun q => if q = 0 then Value.ref pp else Value.null)) 0 = (.ref pp) := rfl
  refine Rch.of (T' := T557) (g' := (mkF m 16 #[.val (.ref pg), .val (.long p1), .second, .val (.int (0 : Int32))] [.ref pp])) (X557.aaload hx (j := (0 : Int32)) (v := (.ref pp)) (by rw [e557]; exact Ar558.1) (State.isArrayOf_alike hZ.alike Ar558.2.1) rfl Ar558.2.2 (oIn (i := 0) Sz558 (by decide) (by decide)) (by rw [← hval558]; exact oAt (i := 0) Ha558 (by decide) (by decide)) (g := (mkF m 15 #[.val (.ref pg), .val (.long p1), .second, .val (.int (0 : Int32))] [.int (0 : Int32), .ref pa])) rfl rfl (D.on 11 rfl)) ?_
  refine zgo X557 D 12 20 rfl rfl rfl ?_
  exact Rch.retA X557 hx (w := (.ref pp)) hret rfl rfl hlk (D.on 7 rfl) (fun U hU hF => hK _ U _ _ _ (by show Q_rnG1 Z pg na p1 yn pa pp h0 n0 _ U.heap _; rw [hU, e557]; exact ⟨rfl, N556, rfl⟩) hF (by decide) (by decide))
def Q_rnG2 (Z : State) (pg na : Addr) (p1 : Int64) (yn : Nat → Int64) (h0 : Heap) (n0 : Nat) (vv_ : Option Value) (h : Heap) (LL_ : List Loc) : Prop := vv_ = some .null ∧ Fr n0 LL_ ∧ (h = h0)
theorem rnG2 (lh : Launch) (Z : State) (a0 : Array Value) (hw : HW a0 Z) (ws : List Jvm.Cond) (pg na : Addr) (p1 : Int64) (yn : Nat → Int64) (h0 : Heap) (n0 : Nat) (Z0 : n0 ≤ h0.size) (H1 : own_P1 Z h0 pg na yn) (mis : yn 0 ≠ p1) :
    MF lh Z me52 (.code me52 prog_49_method_2_code 4 (some (.object "java/lang/Object"))) ws ⟨3, 0, 0, 54⟩ #[.ref pg, .long p1] h0 (Q_rnG2 Z pg na p1 yn h0 n0) := by
  refine own_met (y := me52) (plainFor_of_name pn_11) ?_
  intro p ev sT m below meth c T0 K hx hby hml hret hlk hown hnm hZ X0 e0 hK
  have N0 := Fr.nil n0
  have D : DB p c Ld48 := DB.of hx hby d48
  refine Rch.cast (g' := mkF m 0 #[.val (.ref pg), .val (.long p1), .second, .unset] []) (by first | rfl | simp [entryFrame, mkF, argsToLocals, Value.category]) ?_
  refine zaN X0 D 0 rfl rfl rfl rfl (zlN X0 D 1 rfl rfl rfl  (zpb X0 D 2 hZ me51 hown (own_selP (mvT hZ (ow hw 121 rfl)) (mvP hZ (ow hw 237 rfl)) (mvT hZ (ow hw 236 rfl)) (by decide)) (ow hw 235 rfl) (ow hw 236 rfl) (ow hw 237 rfl) (ow hw 238 rfl) (ow hw 122 rfl) e0 (own_P1.x_pg H1) (rnF2 lh Z a0 hw [] pg na p1 yn h0 n0 Z0 H1 mis) hml [.long p1] [] (lenOf pd_21 rfl) rfl rfl rfl rfl rfl rfl (by decide) (by decide) fun v559 T559 L559 X559 hQ559 => ?_))
  obtain ⟨rr559, rfl, N559q, hQ559⟩ := hQ559
  have N559 := Fr.app N0 N559q
  obtain ⟨hr559, he559⟩ := hQ559
  refine zistoreN X559 D 3 (l' := #[.val (.ref pg), .val (.long p1), .second, .val (.int rr559)]) rfl rfl rfl (ziN X559 D 4 rfl rfl rfl  (zY X559 D 5 19 rfl rfl ((if0 _ _).trans (tlt hr559).1) rfl (zaconstNull X559 D 6 rfl rfl ?_)))
  exact Rch.retA X559 hx (w := .null) hret rfl rfl hlk (D.on 7 rfl) (fun U hU hF => hK _ U _ _ _ (by show Q_rnG2 Z pg na p1 yn h0 n0 _ U.heap _; rw [hU, he559]; exact ⟨rfl, N559, rfl⟩) hF (by decide) (by decide))
def Q_rnPU (Z : State) (pg na pa a3 : Addr) (p1 : Int64) (yn : Nat → Int64) (h0 : Heap) (n0 : Nat) (vv_ : Option Value) (h : Heap) (LL_ : List Loc) : Prop := ∃ yn' : Nat → Int64, vv_ = none ∧ Fr n0 LL_ ∧ (Keep h0 h [pg, na, pa] ∧ own_P1 Z h pg na yn' ∧ Fld Z h pg "com/example/kept_till_acked/kepttillacked/queue/Pages" "pages" "[Ljava/lang/Object;" (.ref pa) ∧ Exa Z h pa "[Ljava/lang/Object;" ∧ OvA Z h pa "java/lang/Object" ∧ Av Z h pa (.object "java/lang/Object") 16 (fun q => if q = 0 then Value.ref a3 else Value.null) ∧ yn' 0 = p1)
def Ld49 : List (Nat × Instr × Nat) := [(0, .aload_n 0, 1), (1, .lload_n 1, 1), (2, .invokevirtual 17, 3), (5, .istore 4, 2), (7, .iload 4, 2), (9, .ifCond .lt 12, 3), (21, .iload 4, 2), (23, .ineg, 1), (24, .iconst 1, 1), (25, .isub, 1), (26, .istore 4, 2), (28, .aload_n 0, 1), (29, .getfield 21, 3), (32, .aload_n 0, 1), (33, .getfield 9, 3), (36, .arraylength, 1), (37, .if_icmp .ne 14, 3), (51, .aload_n 0, 1), (52, .getfield 9, 3), (55, .iload 4, 2), (57, .aload_n 0, 1), (58, .getfield 9, 3), (61, .iload 4, 2), (63, .iconst 1, 1), (64, .iadd, 1), (65, .aload_n 0, 1), (66, .getfield 21, 3), (69, .iload 4, 2), (71, .isub, 1), (72, .invokestatic 29, 3), (75, .aload_n 0, 1), (76, .getfield 13, 3), (79, .iload 4, 2), (81, .aload_n 0, 1), (82, .getfield 13, 3), (85, .iload 4, 2), (87, .iconst 1, 1), (88, .iadd, 1), (89, .aload_n 0, 1), (90, .getfield 21, 3), (93, .iload 4, 2), (95, .isub, 1), (96, .invokestatic 29, 3), (99, .aload_n 0, 1), (100, .getfield 9, 3), (103, .iload 4, 2), (105, .lload_n 1, 1), (106, .lastore, 1), (107, .aload_n 0, 1), (108, .getfield 13, 3), (111, .iload 4, 2), (113, .aload_n 3, 1), (114, .aastore, 1), (115, .aload_n 0, 1), (116, .dup, 1), (117, .getfield 21, 3), (120, .iconst 1, 1), (121, .iadd, 1), (122, .putfield 21, 3), (125, .return_, 1)]
theorem d49 : ∀ q ∈ Ld49, decode prog_49_method_3_code q.1 = .ok q.2 := by decide +kernel
abbrev me53 : MethodName := ⟨"com/example/kept_till_acked/kepttillacked/queue/Pages", "put", "(JLjava/lang/Object;)V"⟩
def sn63 {a0 : Array Value} {Z : State} (hw : HW a0 Z) := slot_ne (C := "com/example/kept_till_acked/kepttillacked/queue/Pages") (Or.inl (ow hw 133 rfl)) (Or.inl (ow hw 242 rfl)) (by decide) (t := (.array (.object "java/lang/Object"))) (t' := .int) (by decide) (by decide)
def sn64 {a0 : Array Value} {Z : State} (hw : HW a0 Z) := slot_ne (C := "com/example/kept_till_acked/kepttillacked/queue/Pages") (Or.inl (ow hw 129 rfl)) (Or.inl (ow hw 242 rfl)) (by decide) (t := (.array .long)) (t' := .int) (by decide) (by decide)
def sn65 {a0 : Array Value} {Z : State} (hw : HW a0 Z) := slot_ne (C := "com/example/kept_till_acked/kepttillacked/queue/Pages") (Or.inl (ow hw 240 rfl)) (Or.inl (ow hw 242 rfl)) (by decide) (t := .int) (t' := .int) (by decide) (by decide)
theorem rnPU (lh : Launch) (Z : State) (a0 : Array Value) (hw : HW a0 Z) (ws : List Jvm.Cond) (pg na pa a3 : Addr) (p1 : Int64) (yn : Nat → Int64) (h0 : Heap) (n0 : Nat) (Z0 : n0 ≤ h0.size) (H0 : own_P0 Z h0 pg na yn) (F1 : Fld Z h0 pg "com/example/kept_till_acked/kepttillacked/queue/Pages" "pages" "[Ljava/lang/Object;" (.ref pa)) (E2 : Exa Z h0 pa "[Ljava/lang/Object;") (O2 : OvA Z h0 pa "java/lang/Object") (V2 : Av Z h0 pa (.object "java/lang/Object") 16 (fun q => (fun _ => .null) q)) (E3 : Exa Z h0 a3 "com/example/kept_till_acked/kepttillacked/queue/SeqBits$Page") (g1 : n0 ≤ pg) (g2 : n0 ≤ na) (g3 : n0 ≤ pa) :
    MF lh Z me53 (.code me53 prog_49_method_3_code 5 none) ws ⟨3, 0, 0, 54⟩ #[.ref pg, .long p1, .ref a3] h0 (Q_rnPU Z pg na pa a3 p1 yn h0 n0) := by
  refine own_met (y := me53) (plainFor_of_name pn_11) ?_
  intro p ev sT m below meth c T0 K hx hby hml hret hlk hown hnm hZ X0 e0 hK
  have N0 := Fr.nil n0
  have D : DB p c Ld49 := DB.of hx hby d49
  refine Rch.cast (g' := mkF m 0 #[.val (.ref pg), .val (.long p1), .second, .val (.ref a3), .unset] []) (by first | rfl | simp [entryFrame, mkF, argsToLocals, Value.category]) ?_
  refine zaN X0 D 0 rfl rfl rfl rfl (zlN X0 D 1 rfl rfl rfl  (zpb X0 D 2 hZ me51 hown (own_selP (mvT hZ (ow hw 121 rfl)) (mvP hZ (ow hw 237 rfl)) (mvT hZ (ow hw 236 rfl)) (by decide)) (ow hw 235 rfl) (ow hw 236 rfl) (ow hw 237 rfl) (ow hw 238 rfl) (ow hw 122 rfl) e0 (own_P0.x_pg H0) (rnF0 lh Z a0 hw [] pg na p1 yn h0 n0 Z0 H0) hml [.long p1] [] (lenOf pd_21 rfl) rfl rfl rfl rfl rfl rfl (by decide) (by decide) fun v560 T560 L560 X560 hQ560 => ?_))
  obtain ⟨rfl, N560q, hQ560⟩ := hQ560
  have N560 := Fr.app N0 N560q
  refine zis X560 D 3 (l' := #[.val (.ref pg), .val (.long p1), .second, .val (.ref a3), .val (.int (-1 : Int32))]) rfl rfl rfl ?_
  obtain ⟨u561_0, u561_1, u561_2, u561_3, u561_4, u561_5⟩ := id H0
  refine zi X560 D 4 rfl rfl rfl  (zY X560 D 5 21 rfl rfl ((if0 _ _).trans (tlt ((by decide) : (-1 : Int32) < (0 : Int32))).1) rfl (zi X560 D 6 rfl rfl rfl  (zineg X560 D 7 1 rfl rfl rfl (zic X560 D 8 1 rfl rfl rfl (zisub X560 D 9 0 rfl rfl rfl (zis X560 D 10 (l' := #[.val (.ref pg), .val (.long p1), .second, .val (.ref a3), .val (.int (0 : Int32))]) rfl rfl rfl (zaN X560 D 11 rfl rfl rfl rfl (zgf X560 D 12 hZ hown (ow hw 241 rfl) hQ560 u561_2 rfl rfl fun T562 X562 e562 => ?_))))))))
  refine zaN X562 D 13 rfl rfl rfl rfl (zgf X562 D 14 hZ hown (ow hw 128 rfl) e562 u561_1 rfl rfl fun T563 X563 e563 => ?_)
  obtain ⟨cl564, Ar564, Sz564, Ha564⟩ := id u561_5
  refine Rch.of (T' := T563) (g' := (mkF m 37 #[.val (.ref pg), .val (.long p1), .second, .val (.ref a3), .val (.int (0 : Int32))] [.int cl564.slots.size.toInt32, .int (0 : Int32)])) (X563.arraylength hx (by rw [e563]; exact Ar564.1) (State.isArrayOf_alike hZ.alike Ar564.2.1) (g := (mkF m 36 #[.val (.ref pg), .val (.long p1), .second, .val (.ref a3), .val (.int (0 : Int32))] [.ref na, .int (0 : Int32)])) rfl rfl (D.on 15 rfl)) ?_
  rw [oLen Sz564]
  show Rch p ev below K T563 (mkF m 37 #[.val (.ref pg), .val (.long p1), .second, .val (.ref a3), .val (.int (0 : Int32))] [.int (16 : Int32), .int (0 : Int32)])
  refine zcY X563 D 16 51 rfl rfl (feq ((by decide) : ¬ ((0 : Int32) = (16 : Int32)))).2 rfl (zaN X563 D 17 rfl rfl rfl rfl (zgf X563 D 18 hZ hown (ow hw 128 rfl) e563 u561_1 rfl rfl fun T565 X565 e565 => ?_))
  refine zi X565 D 19 rfl rfl rfl  (zaN X565 D 20 rfl rfl rfl rfl (zgf X565 D 21 hZ hown (ow hw 128 rfl) e565 u561_1 rfl rfl fun T566 X566 e566 => ?_))
  refine zi X566 D 22 rfl rfl rfl  (zic X566 D 23 1 rfl rfl rfl (ziadd X566 D 24 1 rfl rfl rfl (zaN X566 D 25 rfl rfl rfl rfl (zgf X566 D 26 hZ hown (ow hw 241 rfl) e566 u561_2 rfl rfl fun T567 X567 e567 => ?_))))
  refine zi X567 D 27 rfl rfl rfl  (zisub X567 D 28 0 rfl rfl rfl ?_)
  obtain ⟨T568, h568, L568, X568, e568, N568, K568, V568, st568⟩ := own_cp0 X567 hx hZ hown (ow hw 268 rfl) (ow hw 271 rfl) (ow hw 269 rfl) (ow hw 270 rfl) e567 (f := (fun q => .long (yn q))) (f' := (fun q => .long (yn q))) (i := 0) (j := 1) u561_5 u561_5 (by decide) (by decide) (fun q _ => rfl) (fun q _ => rfl) (by decide) (by decide) (by decide) (by decide) N560 g2 (g := (mkF m 72 #[.val (.ref pg), .val (.long p1), .second, .val (.ref a3), .val (.int (0 : Int32))] [.int (0 : Int32), .int (1 : Int32), .ref na, .int (0 : Int32), .ref na])) rfl (by rw [hml]; rfl) rfl (D.on 29 rfl) (by decide) (W := 0) (by show 2 * 0 + _ ≤ _; exact Nat.le_of_eq rfl) (by decide)
  have nc569 : pg ≠ na := own_exane u561_0 u561_4 (by decide)
  have nc570 : pa ≠ na := own_exane E2 u561_4 (by decide)
  refine Rch.of (T' := T568) (g' := (mkF m 75 #[.val (.ref pg), .val (.long p1), .second, .val (.ref a3), .val (.int (0 : Int32))] [])) st568 ?_
  refine zaN X568 D 30 rfl rfl rfl rfl (zgf X568 D 31 hZ hown (ow hw 132 rfl) e568 (F1.keep K568 (ninS nc569 nin0)) rfl rfl fun T571 X571 e571 => ?_)
  refine zi X571 D 32 rfl rfl rfl  (zaN X571 D 33 rfl rfl rfl rfl (zgf X571 D 34 hZ hown (ow hw 132 rfl) e571 (F1.keep K568 (ninS nc569 nin0)) rfl rfl fun T572 X572 e572 => ?_))
  refine zi X572 D 35 rfl rfl rfl  (zic X572 D 36 1 rfl rfl rfl (ziadd X572 D 37 1 rfl rfl rfl (zaN X572 D 38 rfl rfl rfl rfl (zgf X572 D 39 hZ hown (ow hw 241 rfl) e572 (u561_2.keep K568 (ninS nc569 nin0)) rfl rfl fun T573 X573 e573 => ?_))))
  refine zi X573 D 40 rfl rfl rfl  (zisub X573 D 41 0 rfl rfl rfl ?_)
  obtain ⟨T574, h574, L574, X574, e574, N574, K574, V574, st574⟩ := own_cp0 X573 hx hZ hown (ow hw 268 rfl) (ow hw 271 rfl) (ow hw 269 rfl) (ow hw 270 rfl) e573 (f := (fun q => (fun _ => .null) q)) (f' := (fun q => (fun _ => .null) q)) (i := 0) (j := 1) (V2.keep K568 (ninS nc570 nin0)) (V2.keep K568 (ninS nc570 nin0)) (by decide) (by decide) (fun q _ => rfl) (fun q _ => rfl) (by decide) (by decide) (by decide) (by decide) N568 g3 (g := (mkF m 96 #[.val (.ref pg), .val (.long p1), .second, .val (.ref a3), .val (.int (0 : Int32))] [.int (0 : Int32), .int (1 : Int32), .ref pa, .int (0 : Int32), .ref pa])) rfl (by rw [hml]; rfl) rfl (D.on 42 rfl) (by decide) (W := 0) (by show 2 * 0 + _ ≤ _; exact Nat.le_of_eq rfl) (by decide)
  have nc575 : pg ≠ pa := own_exane (u561_0.keep K568) (E2.keep K568) (by decide)
  have Fb576 := (((Keep.refl h0 [pg, na, pa]).trans K568 (allS (Or.inl (List.mem_of_getElem? (i := 1) rfl)) all0)).trans K574 (allS (Or.inl (List.mem_of_getElem? (i := 2) rfl)) all0))
  refine Rch.of (T' := T574) (g' := (mkF m 99 #[.val (.ref pg), .val (.long p1), .second, .val (.ref a3), .val (.int (0 : Int32))] [])) st574 ?_
  refine zaN X574 D 43 rfl rfl rfl rfl (zgf X574 D 44 hZ hown (ow hw 128 rfl) e574 ((u561_1.keep K568 (ninS nc569 nin0)).keep K574 (ninS nc575 nin0)) rfl rfl fun T577 X577 e577 => ?_)
  refine zi X577 D 45 rfl rfl rfl  (zlN X577 D 46 rfl rfl rfl  ?_)
  obtain ⟨cl578, Ar578, Sz578, Ha578⟩ := id (V568.keep K574 (ninS (Ne.symm nc570) nin0))
  obtain ⟨T578, h578, X578, e578, W578, st578⟩ := stJ X577 hx hZ e577 Ar578 (j := (0 : Int32)) (oIn (i := 0) Sz578 (by decide) (by decide)) (g := (mkF m 106 #[.val (.ref pg), .val (.long p1), .second, .val (.ref a3), .val (.int (0 : Int32))] [.long p1, .int (0 : Int32), .ref na])) rfl rfl (D.on 47 rfl)
  have V578 := Av.setJ (i := 0) (V568.keep K574 (ninS (Ne.symm nc570) nin0)) (by decide) (by decide) W578
  obtain ⟨y578, hy578⟩ : ∃ zz_ : Nat → Int64, zz_ = fun q => if q = 0 then p1 else yn q := ⟨_, rfl⟩
  have V578 : Av Z h578 na .long 16 (fun q => .long (y578 q)) := by rw [hy578]; exact V578
  have N578 := Fr.snoc X578 N574 g2
  refine Rch.of (T' := T578) (g' := (mkF m 107 #[.val (.ref pg), .val (.long p1), .second, .val (.ref a3), .val (.int (0 : Int32))] [])) st578 ?_
  refine zaN X578 D 48 rfl rfl rfl rfl (zgf X578 D 49 hZ hown (ow hw 132 rfl) e578 (((F1.keep K568 (ninS nc569 nin0)).keep K574 (ninS nc575 nin0)).other W578 (Or.inl nc569)) rfl rfl fun T579 X579 e579 => ?_)
  refine zi X579 D 50 rfl rfl rfl  (zaN X579 D 51 rfl rfl rfl rfl ?_)
  obtain ⟨cl580, Ar580, Sz580, Ha580⟩ := id (V574.other W578 nc570)
  have ov580 := OvA.at (((O2.keep K568).keep K574).wr W578) Ar580
  obtain ⟨T580, h580, X580, e580, W580, st580⟩ := stR X579 hx hZ e579 Ar580 (j := (0 : Int32)) (oIn (i := 0) Sz580 (by decide) (by decide)) rfl (Sto.of Ar580 ov580 (Ins.of_exa (((E3.keep K568).keep K574).wr W578) (ow hw 272 rfl))) (g := (mkF m 114 #[.val (.ref pg), .val (.long p1), .second, .val (.ref a3), .val (.int (0 : Int32))] [.ref a3, .int (0 : Int32), .ref pa])) rfl rfl (D.on 52 rfl)
  have V580 := Av.set (i := 0) (V574.other W578 nc570) (by decide) (by decide) W580
  have N580 := Fr.snoc X580 N578 g3
  refine Rch.of (T' := T580) (g' := (mkF m 115 #[.val (.ref pg), .val (.long p1), .second, .val (.ref a3), .val (.int (0 : Int32))] [])) st580 ?_
  refine zaN X580 D 53 rfl rfl rfl rfl (zdu X580 D 54 rfl rfl rfl (zgf X580 D 55 hZ hown (ow hw 241 rfl) e580 ((((u561_2.keep K568 (ninS nc569 nin0)).keep K574 (ninS nc575 nin0)).other W578 (Or.inl nc569)).other W580 (Or.inl nc575)) rfl rfl fun T581 X581 e581 => ?_))
  refine zic X581 D 56 1 rfl rfl rfl (ziadd X581 D 57 1 rfl rfl rfl (zpf X581 D 58 hZ hown (ow hw 241 rfl) e581 ((((u561_2.keep K568 (ninS nc569 nin0)).keep K574 (ninS nc575 nin0)).other W578 (Or.inl nc569)).other W580 (Or.inl nc575)) ((((u561_0.keep K568).keep K574).wr W578).wr W580) (Or.inl (ow hw 242 rfl)) (ow hw 121 rfl) .int (by decide) rfl rfl rfl rfl fun T582 h582 X582 e582 W582 => ?_))
  have N582 := Fr.snoc X582 N580 g1
  have Fw582 := Fld.same W582 ((((u561_2.keep K568 (ninS nc569 nin0)).keep K574 (ninS nc575 nin0)).other W578 (Or.inl nc569)).other W580 (Or.inl nc575))
  have Fb583 := (((Fb576.wr W578 (Or.inl (List.mem_of_getElem? (i := 1) rfl))).wr W580 (Or.inl (List.mem_of_getElem? (i := 2) rfl))).wr W582 (Or.inl (List.mem_of_getElem? (i := 0) rfl)))
  exact Rch.retV X582 hx hret hlk (D.on 59 rfl) (fun U hU hF => hK _ U _ _ _ (by show Q_rnPU Z pg na pa a3 p1 yn h0 n0 _ U.heap _; rw [hU, e582]; exact ⟨y578, rfl, N582, Fb583, ⟨(((((u561_0.keep K568).keep K574).wr W578).wr W580).wr W582), (((((u561_1.keep K568 (ninS nc569 nin0)).keep K574 (ninS nc575 nin0)).other W578 (Or.inl nc569)).other W580 (Or.inl nc575)).other W582 (Or.inr (sn64 hw))), Fw582, (((((u561_3.keep K568 (ninS nc569 nin0)).keep K574 (ninS nc575 nin0)).other W578 (Or.inl nc569)).other W580 (Or.inl nc575)).other W582 (Or.inr (sn65 hw))), (((((u561_4.keep K568).keep K574).wr W578).wr W580).wr W582), ((V578.other W580 (Ne.symm nc570)).other W582 (Ne.symm nc569))⟩, (((((F1.keep K568 (ninS nc569 nin0)).keep K574 (ninS nc575 nin0)).other W578 (Or.inl nc569)).other W580 (Or.inl nc575)).other W582 (Or.inr (sn63 hw))), (((((E2.keep K568).keep K574).wr W578).wr W580).wr W582), (((((O2.keep K568).keep K574).wr W578).wr W580).wr W582), (V580.other W582 (Ne.symm nc575)), by rw [hy578]; rfl⟩) hF (by decide) (by decide))
theorem own_fit1 {pp : Addr} : ∀ q, q < 16 → fits (.object "java/lang/Object") ((fun q => if q = 0 then Value.ref pp else .null) q) = true := fun q _ => by
  by_cases h : q = 0
  · simp only [h, if_true]; rfl
  · simp only [h, if_false]; rfl
def Q_rnPR (Z : State) (pg na : Addr) (p1 : Int64) (yn : Nat → Int64) (pa pp : Addr) (h0 : Heap) (n0 : Nat) (vv_ : Option Value) (h : Heap) (LL_ : List Loc) : Prop := vv_ = none ∧ Fr n0 LL_ ∧ (Keep h0 h [pg, na, pa] ∧ own_P0 Z h pg na yn)
def Ld50 : List (Nat × Instr × Nat) := [(0, .aload_n 0, 1), (1, .lload_n 1, 1), (2, .invokevirtual 17, 3), (5, .istore_n 3, 1), (6, .iload_n 3, 1), (7, .ifCond .ge 4, 3), (11, .aload_n 0, 1), (12, .dup, 1), (13, .getfield 21, 3), (16, .iconst 1, 1), (17, .isub, 1), (18, .putfield 21, 3), (21, .aload_n 0, 1), (22, .getfield 9, 3), (25, .iload_n 3, 1), (26, .iconst 1, 1), (27, .iadd, 1), (28, .aload_n 0, 1), (29, .getfield 9, 3), (32, .iload_n 3, 1), (33, .aload_n 0, 1), (34, .getfield 21, 3), (37, .iload_n 3, 1), (38, .isub, 1), (39, .invokestatic 29, 3), (42, .aload_n 0, 1), (43, .getfield 13, 3), (46, .iload_n 3, 1), (47, .iconst 1, 1), (48, .iadd, 1), (49, .aload_n 0, 1), (50, .getfield 13, 3), (53, .iload_n 3, 1), (54, .aload_n 0, 1), (55, .getfield 21, 3), (58, .iload_n 3, 1), (59, .isub, 1), (60, .invokestatic 29, 3), (63, .aload_n 0, 1), (64, .getfield 13, 3), (67, .aload_n 0, 1), (68, .getfield 21, 3), (71, .aconst_null, 1), (72, .aastore, 1), (73, .aload_n 0, 1), (74, .getfield 21, 3), (77, .aload_n 0, 1), (78, .getfield 9, 3), (81, .arraylength, 1), (82, .iconst 4, 1), (83, .idiv, 1), (84, .if_icmp .ge 24, 3), (87, .aload_n 0, 1), (88, .getfield 9, 3), (91, .arraylength, 1), (92, .bipush 16, 2), (94, .if_icmp .le 14, 3), (108, .return_, 1)]
theorem d50 : ∀ q ∈ Ld50, decode prog_49_method_4_code q.1 = .ok q.2 := by decide +kernel
abbrev me54 : MethodName := ⟨"com/example/kept_till_acked/kepttillacked/queue/Pages", "remove", "(J)V"⟩
theorem rnPR (lh : Launch) (Z : State) (a0 : Array Value) (hw : HW a0 Z) (ws : List Jvm.Cond) (pg na : Addr) (p1 : Int64) (yn : Nat → Int64) (pa pp : Addr) (h0 : Heap) (n0 : Nat) (Z0 : n0 ≤ h0.size) (H1 : own_P1 Z h0 pg na yn) (hit : yn 0 = p1) (F1 : Fld Z h0 pg "com/example/kept_till_acked/kepttillacked/queue/Pages" "pages" "[Ljava/lang/Object;" (.ref pa)) (E2 : Exa Z h0 pa "[Ljava/lang/Object;") (V2 : Av Z h0 pa (.object "java/lang/Object") 16 (fun q => (fun q => if q = 0 then Value.ref pp else Value.null) q)) (g1 : n0 ≤ pg) (g2 : n0 ≤ na) (g3 : n0 ≤ pa) :
    MF lh Z me54 (.code me54 prog_49_method_4_code 4 none) ws ⟨1, 0, 0, 18⟩ #[.ref pg, .long p1] h0 (Q_rnPR Z pg na p1 yn pa pp h0 n0) := by
  refine own_met (y := me54) (plainFor_of_name pn_11) ?_
  intro p ev sT m below meth c T0 K hx hby hml hret hlk hown hnm hZ X0 e0 hK
  have N0 := Fr.nil n0
  have D : DB p c Ld50 := DB.of hx hby d50
  refine Rch.cast (g' := mkF m 0 #[.val (.ref pg), .val (.long p1), .second, .unset] []) (by first | rfl | simp [entryFrame, mkF, argsToLocals, Value.category]) ?_
  refine zaN X0 D 0 rfl rfl rfl rfl (zlN X0 D 1 rfl rfl rfl  (zpb X0 D 2 hZ me51 hown (own_selP (mvT hZ (ow hw 121 rfl)) (mvP hZ (ow hw 237 rfl)) (mvT hZ (ow hw 236 rfl)) (by decide)) (ow hw 235 rfl) (ow hw 236 rfl) (ow hw 237 rfl) (ow hw 238 rfl) (ow hw 122 rfl) e0 (own_P1.x_pg H1) (rnF1 lh Z a0 hw [] pg na p1 yn h0 n0 Z0 H1 hit) hml [.long p1] [] (lenOf pd_21 rfl) rfl rfl rfl rfl rfl rfl (by decide) (by decide) fun v584 T584 L584 X584 hQ584 => ?_))
  obtain ⟨rfl, N584q, hQ584⟩ := hQ584
  have N584 := Fr.app N0 N584q
  refine zistoreN X584 D 3 (l' := #[.val (.ref pg), .val (.long p1), .second, .val (.int (0 : Int32))]) rfl rfl rfl ?_
  obtain ⟨u585_0, u585_1, u585_2, u585_3, u585_4, u585_5⟩ := id H1
  refine ziN X584 D 4 rfl rfl rfl  (zY X584 D 5 11 rfl rfl ((if0 _ _).trans (flt ((by decide) : ¬ ((0 : Int32) < (0 : Int32)))).2.1) rfl (zaN X584 D 6 rfl rfl rfl rfl (zdu X584 D 7 rfl rfl rfl (zgf X584 D 8 hZ hown (ow hw 241 rfl) hQ584 u585_2 rfl rfl fun T586 X586 e586 => ?_))))
  refine zic X586 D 9 1 rfl rfl rfl (zisub X586 D 10 0 rfl rfl rfl (zpf X586 D 11 hZ hown (ow hw 241 rfl) e586 u585_2 u585_0 (Or.inl (ow hw 242 rfl)) (ow hw 121 rfl) .int (by decide) rfl rfl rfl rfl fun T587 h587 X587 e587 W587 => ?_))
  have N587 := Fr.snoc X587 N584 g1
  have Fw587 := Fld.same W587 u585_2
  have nc588 : pa ≠ pg := own_exane E2 u585_0 (by decide)
  have nc589 : na ≠ pg := own_exane u585_4 u585_0 (by decide)
  refine zaN X587 D 12 rfl rfl rfl rfl (zgf X587 D 13 hZ hown (ow hw 128 rfl) e587 (u585_1.other W587 (Or.inr (sn64 hw))) rfl rfl fun T590 X590 e590 => ?_)
  refine ziN X590 D 14 rfl rfl rfl  (zic X590 D 15 1 rfl rfl rfl (ziadd X590 D 16 1 rfl rfl rfl (zaN X590 D 17 rfl rfl rfl rfl (zgf X590 D 18 hZ hown (ow hw 128 rfl) e590 (u585_1.other W587 (Or.inr (sn64 hw))) rfl rfl fun T591 X591 e591 => ?_))))
  refine ziN X591 D 19 rfl rfl rfl  (zaN X591 D 20 rfl rfl rfl rfl (zgf X591 D 21 hZ hown (ow hw 241 rfl) e591 Fw587 rfl rfl fun T592 X592 e592 => ?_))
  refine ziN X592 D 22 rfl rfl rfl  (zisub X592 D 23 0 rfl rfl rfl ?_)
  obtain ⟨T593, h593, L593, X593, e593, N593, K593, V593, st593⟩ := own_cp0 X592 hx hZ hown (ow hw 268 rfl) (ow hw 271 rfl) (ow hw 269 rfl) (ow hw 270 rfl) e592 (f := (fun q => .long (yn q))) (f' := (fun q => .long (yn q))) (i := 1) (j := 0) (u585_5.other W587 nc589) (u585_5.other W587 nc589) (by decide) (by decide) (fun q _ => rfl) (fun q _ => rfl) (by decide) (by decide) (by decide) (by decide) N587 g2 (g := (mkF m 39 #[.val (.ref pg), .val (.long p1), .second, .val (.int (0 : Int32))] [.int (0 : Int32), .int (0 : Int32), .ref na, .int (1 : Int32), .ref na])) rfl (by rw [hml]; rfl) rfl (D.on 24 rfl) (by decide) (W := 0) (by show 2 * 0 + _ ≤ _; exact Nat.le_of_eq rfl) (by decide)
  have nc594 : pa ≠ na := own_exane (E2.wr W587) (u585_4.wr W587) (by decide)
  refine Rch.of (T' := T593) (g' := (mkF m 42 #[.val (.ref pg), .val (.long p1), .second, .val (.int (0 : Int32))] [])) st593 ?_
  refine zaN X593 D 25 rfl rfl rfl rfl (zgf X593 D 26 hZ hown (ow hw 132 rfl) e593 ((F1.other W587 (Or.inr (sn63 hw))).keep K593 (ninS (Ne.symm nc589) nin0)) rfl rfl fun T595 X595 e595 => ?_)
  refine ziN X595 D 27 rfl rfl rfl  (zic X595 D 28 1 rfl rfl rfl (ziadd X595 D 29 1 rfl rfl rfl (zaN X595 D 30 rfl rfl rfl rfl (zgf X595 D 31 hZ hown (ow hw 132 rfl) e595 ((F1.other W587 (Or.inr (sn63 hw))).keep K593 (ninS (Ne.symm nc589) nin0)) rfl rfl fun T596 X596 e596 => ?_))))
  refine ziN X596 D 32 rfl rfl rfl  (zaN X596 D 33 rfl rfl rfl rfl (zgf X596 D 34 hZ hown (ow hw 241 rfl) e596 (Fw587.keep K593 (ninS (Ne.symm nc589) nin0)) rfl rfl fun T597 X597 e597 => ?_))
  refine ziN X597 D 35 rfl rfl rfl  (zisub X597 D 36 0 rfl rfl rfl ?_)
  obtain ⟨T598, h598, L598, X598, e598, N598, K598, V598, st598⟩ := own_cp0 X597 hx hZ hown (ow hw 268 rfl) (ow hw 271 rfl) (ow hw 269 rfl) (ow hw 270 rfl) e597 (f := (fun q => (fun q => if q = 0 then Value.ref pp else Value.null) q)) (f' := (fun q => (fun q => if q = 0 then Value.ref pp else Value.null) q)) (i := 1) (j := 0) ((V2.other W587 nc588).keep K593 (ninS nc594 nin0)) ((V2.other W587 nc588).keep K593 (ninS nc594 nin0)) (by decide) (by decide) (own_fit1 (pp := pp)) (own_fit1 (pp := pp)) (by decide) (by decide) (by decide) (by decide) N593 g3 (g := (mkF m 60 #[.val (.ref pg), .val (.long p1), .second, .val (.int (0 : Int32))] [.int (0 : Int32), .int (0 : Int32), .ref pa, .int (1 : Int32), .ref pa])) rfl (by rw [hml]; rfl) rfl (D.on 37 rfl) (by decide) (W := 0) (by show 2 * 0 + _ ≤ _; exact Nat.le_of_eq rfl) (by decide)
  have Fb599 := ((((Keep.refl h0 [pg, na, pa]).wr W587 (Or.inl (List.mem_of_getElem? (i := 0) rfl))).trans K593 (allS (Or.inl (List.mem_of_getElem? (i := 1) rfl)) all0)).trans K598 (allS (Or.inl (List.mem_of_getElem? (i := 2) rfl)) all0))
  refine Rch.of (T' := T598) (g' := (mkF m 63 #[.val (.ref pg), .val (.long p1), .second, .val (.int (0 : Int32))] [])) st598 ?_
  refine zaN X598 D 38 rfl rfl rfl rfl (zgf X598 D 39 hZ hown (ow hw 132 rfl) e598 (((F1.other W587 (Or.inr (sn63 hw))).keep K593 (ninS (Ne.symm nc589) nin0)).keep K598 (ninS (Ne.symm nc588) nin0)) rfl rfl fun T600 X600 e600 => ?_)
  refine zaN X600 D 40 rfl rfl rfl rfl (zgf X600 D 41 hZ hown (ow hw 241 rfl) e600 ((Fw587.keep K593 (ninS (Ne.symm nc589) nin0)).keep K598 (ninS (Ne.symm nc588) nin0)) rfl rfl fun T601 X601 e601 => ?_)
  refine zaconstNull X601 D 42 rfl rfl ?_
  obtain ⟨cl602, Ar602, Sz602, Ha602⟩ := id V598
  obtain ⟨T602, h602, X602, e602, W602, st602⟩ := stR X601 hx hZ e601 Ar602 (j := (0 : Int32)) (oIn (i := 0) Sz602 (by decide) (by decide)) rfl (Or.inl rfl) (g := (mkF m 72 #[.val (.ref pg), .val (.long p1), .second, .val (.int (0 : Int32))] [.null, .int (0 : Int32), .ref pa])) rfl rfl (D.on 43 rfl)
  have V602 := Av.set (i := 0) V598 (by decide) (by decide) W602
  have N602 := Fr.snoc X602 N598 g3
  refine Rch.of (T' := T602) (g' := (mkF m 73 #[.val (.ref pg), .val (.long p1), .second, .val (.int (0 : Int32))] [])) st602 ?_
  refine zaN X602 D 44 rfl rfl rfl rfl (zgf X602 D 45 hZ hown (ow hw 241 rfl) e602 (((Fw587.keep K593 (ninS (Ne.symm nc589) nin0)).keep K598 (ninS (Ne.symm nc588) nin0)).other W602 (Or.inl (Ne.symm nc588))) rfl rfl fun T603 X603 e603 => ?_)
  refine zaN X603 D 46 rfl rfl rfl rfl (zgf X603 D 47 hZ hown (ow hw 128 rfl) e603 ((((u585_1.other W587 (Or.inr (sn64 hw))).keep K593 (ninS (Ne.symm nc589) nin0)).keep K598 (ninS (Ne.symm nc588) nin0)).other W602 (Or.inl (Ne.symm nc588))) rfl rfl fun T604 X604 e604 => ?_)
  obtain ⟨cl605, Ar605, Sz605, Ha605⟩ := id ((V593.keep K598 (ninS (Ne.symm nc594) nin0)).other W602 (Ne.symm nc594))
  refine Rch.of (T' := T604) (g' := (mkF m 82 #[.val (.ref pg), .val (.long p1), .second, .val (.int (0 : Int32))] [.int cl605.slots.size.toInt32, .int (0 : Int32)])) (X604.arraylength hx (by rw [e604]; exact Ar605.1) (State.isArrayOf_alike hZ.alike Ar605.2.1) (g := (mkF m 81 #[.val (.ref pg), .val (.long p1), .second, .val (.int (0 : Int32))] [.ref na, .int (0 : Int32)])) rfl rfl (D.on 48 rfl)) ?_
  rw [oLen Sz605]
  show Rch p ev below K T604 (mkF m 82 #[.val (.ref pg), .val (.long p1), .second, .val (.int (0 : Int32))] [.int (16 : Int32), .int (0 : Int32)])
  refine zic X604 D 49 4 rfl rfl rfl (zidiv X604 D 50 4 rfl rfl (by decide) rfl (zcN X604 D 51 rfl rfl (tlt ((by decide) : (0 : Int32) < (4 : Int32))).2.1 (zaN X604 D 52 rfl rfl rfl rfl (zgf X604 D 53 hZ hown (ow hw 128 rfl) e604 ((((u585_1.other W587 (Or.inr (sn64 hw))).keep K593 (ninS (Ne.symm nc589) nin0)).keep K598 (ninS (Ne.symm nc588) nin0)).other W602 (Or.inl (Ne.symm nc588))) rfl rfl fun T606 X606 e606 => ?_))))
  obtain ⟨cl607, Ar607, Sz607, Ha607⟩ := id ((V593.keep K598 (ninS (Ne.symm nc594) nin0)).other W602 (Ne.symm nc594))
  refine Rch.of (T' := T606) (g' := (mkF m 92 #[.val (.ref pg), .val (.long p1), .second, .val (.int (0 : Int32))] [.int cl607.slots.size.toInt32])) (X606.arraylength hx (by rw [e606]; exact Ar607.1) (State.isArrayOf_alike hZ.alike Ar607.2.1) (g := (mkF m 91 #[.val (.ref pg), .val (.long p1), .second, .val (.int (0 : Int32))] [.ref na])) rfl rfl (D.on 54 rfl)) ?_
  rw [oLen Sz607]
  show Rch p ev below K T606 (mkF m 92 #[.val (.ref pg), .val (.long p1), .second, .val (.int (0 : Int32))] [.int (16 : Int32)])
  refine zbipush X606 D 55 16 rfl rfl rfl (zcY X606 D 56 108 rfl rfl (flt ((by decide) : ¬ ((16 : Int32) < (16 : Int32)))).2.2.2 rfl ?_)
  exact Rch.retV X606 hx hret hlk (D.on 57 rfl) (fun U hU hF => hK _ U _ _ _ (by show Q_rnPR Z pg na p1 yn pa pp h0 n0 _ U.heap _; rw [hU, e606]; exact ⟨rfl, N602, (Fb599.wr W602 (Or.inl (List.mem_of_getElem? (i := 2) rfl))), ⟨((((u585_0.wr W587).keep K593).keep K598).wr W602), ((((u585_1.other W587 (Or.inr (sn64 hw))).keep K593 (ninS (Ne.symm nc589) nin0)).keep K598 (ninS (Ne.symm nc588) nin0)).other W602 (Or.inl (Ne.symm nc588))), (((Fw587.keep K593 (ninS (Ne.symm nc589) nin0)).keep K598 (ninS (Ne.symm nc588) nin0)).other W602 (Or.inl (Ne.symm nc588))), ((((u585_3.other W587 (Or.inr (sn65 hw))).keep K593 (ninS (Ne.symm nc589) nin0)).keep K598 (ninS (Ne.symm nc588) nin0)).other W602 (Or.inl (Ne.symm nc588))), ((((u585_4.wr W587).keep K593).keep K598).wr W602), ((V593.keep K598 (ninS (Ne.symm nc594) nin0)).other W602 (Ne.symm nc594))⟩⟩) hF (by decide) (by decide))
theorem pn_17 : plainName "com/example/kept_till_acked/kepttillacked/queue/SeqBits$Page" = true := by first | (simp [plainName, overriddenIn]; done) | decide +kernel
def Q_rnQI (Z : State) (pp : Addr) (h0 : Heap) (n0 : Nat) (vv_ : Option Value) (h : Heap) (LL_ : List Loc) : Prop := ∃ wa : Addr, vv_ = none ∧ Fr n0 LL_ ∧ (h0.size ≤ wa ∧ Keep h0 h [pp] ∧ own_PF Z h pp wa)
def Ld51 : List (Nat × Instr × Nat) := [(0, .aload_n 0, 1), (1, .invokespecial 3, 3), (4, .aload_n 0, 1), (5, .iconst 4, 1), (6, .newarray .long, 2), (8, .putfield 9, 3), (11, .return_, 1)]
theorem d51 : ∀ q ∈ Ld51, decode prog_64_method_1_code q.1 = .ok q.2 := by decide +kernel
abbrev me55 : MethodName := ⟨"com/example/kept_till_acked/kepttillacked/queue/SeqBits$Page", "<init>", "()V"⟩
def sn66 {a0 : Array Value} {Z : State} (hw : HW a0 Z) := slot_ne (C := "com/example/kept_till_acked/kepttillacked/queue/SeqBits$Page") (Or.inl (ow hw 283 rfl)) (Or.inr (ow hw 262 rfl)) (by decide) (t := .int) (t' := (.array .long)) (by decide) (by decide)
theorem rnQI (lh : Launch) (Z : State) (a0 : Array Value) (hw : HW a0 Z) (ws : List Jvm.Cond) (pp : Addr) (h0 : Heap) (n0 : Nat) (Z0 : n0 ≤ h0.size) (E1 : Exa Z h0 pp "com/example/kept_till_acked/kepttillacked/queue/SeqBits$Page") (F0 : Fld Z h0 pp "com/example/kept_till_acked/kepttillacked/queue/SeqBits$Page" "words" "[J" .null) (F1 : Fld Z h0 pp "com/example/kept_till_acked/kepttillacked/queue/SeqBits$Page" "count" "I" (.int (0 : Int32))) (g1 : n0 ≤ pp) :
    MF lh Z me55 (.code me55 prog_64_method_1_code 1 none) ws ⟨1, 1, 4, 12⟩ #[.ref pp] h0 (Q_rnQI Z pp h0 n0) := by
  refine own_met (y := me55) (plainFor_of_name pn_17) ?_
  intro p ev sT m below meth c T0 K hx hby hml hret hlk hown hnm hZ X0 e0 hK
  have N0 := Fr.nil n0
  have D : DB p c Ld51 := DB.of hx hby d51
  refine Rch.cast (g' := mkF m 0 #[.val (.ref pp)] []) (by first | rfl | simp [entryFrame, mkF, argsToLocals, Value.category]) ?_
  refine zaN X0 D 0 rfl rfl rfl rfl ?_
  obtain ⟨T608, X608, e608, st608⟩ := initO X0 hx hZ hown (ow hw 260 rfl) (ow hw 7 rfl) (ow hw 8 rfl) e0 (g := (mkF m 1 #[.val (.ref pp)] [.ref pp])) rfl (by rw [hml]; rfl) rfl (D.on 1 rfl) (by decide) (W := 0) (by show 2 * 0 + _ ≤ _; exact Nat.le_of_eq rfl) (by decide)
  refine Rch.of (T' := T608) (g' := (mkF m 4 #[.val (.ref pp)] [])) st608 ?_
  refine zaN X608 D 2 rfl rfl rfl rfl (zic X608 D 3 4 rfl rfl rfl ?_)
  obtain ⟨T609, h609, k609, X609, e609, E609, A609, Q609, st609⟩ := newPE X608 hx hZ (ow hw 127 rfl) e608 (g := (mkF m 6 #[.val (.ref pp)] [.int (4 : Int32), .ref pp])) rfl (D.on 4 rfl) rfl (by decide) (cap := 4) (by decide) (by decide) (by decide) (by decide) (ad := "[J") rfl
  obtain ⟨b609, g609⟩ : ∃ zz_, zz_ = h0.size := ⟨_, rfl⟩
  have ge_b609 : n0 ≤ b609 := Nat.le_trans Z0 (Nat.le_of_eq g609.symm)
  have sz_b609 : h0.size ≤ b609 := Nat.le_trans (Keep.refl h0 [pp]).1 (Nat.le_of_eq g609.symm)
  rw [← g609] at A609 Q609 st609
  have V609 : Av Z h609 b609 .long 4 (fun _ => (.long (0 : Int64))) := Av.new A609 (by decide)
  refine Rch.of (T' := T609) (g' := (mkF m 8 #[.val (.ref pp)] [.ref b609, .ref pp])) st609 ?_
  refine zpf X609 D 5 hZ hown (ow hw 261 rfl) e609 (F0.ext E609) (E1.ext E609) (Or.inr ⟨(ow hw 262 rfl), rfl, hnm⟩) (ow hw 255 rfl) (.array .long) (by decide) rfl rfl rfl rfl fun T610 h610 X610 e610 W610 => ?_
  have N610 := Fr.snoc X610 N0 g1
  have Fw610 := Fld.same W610 (F0.ext E609)
  have nl611 : pp ≠ b609 := Nat.ne_of_lt (Nat.lt_of_lt_of_le E1.lt (Nat.le_of_eq g609.symm))
  exact Rch.retV X610 hx hret hlk (D.on 6 rfl) (fun U hU hF => hK _ U _ _ _ (by show Q_rnQI Z pp h0 n0 _ U.heap _; rw [hU, e610]; exact ⟨b609, rfl, N610, sz_b609, (((Keep.refl h0 [pp]).ext E609).wr W610 (Or.inl (List.mem_of_getElem? (i := 0) rfl))), ⟨((E1.ext E609).wr W610), Fw610, ((F1.ext E609).other W610 (Or.inr (sn66 hw))), (Q609.wr W610), (V609.other W610 (Ne.symm nl611))⟩⟩) hF (by decide) (by decide))
def Q_rnQS (Z : State) (pp wa : Addr) (k : Nat) (h0 : Heap) (n0 : Nat) (vv_ : Option Value) (h : Heap) (LL_ : List Loc) : Prop := vv_ = some (.int (1 : Int32)) ∧ Fr n0 LL_ ∧ (Keep h0 h [pp, wa] ∧ own_PW Z h pp wa (fun q => if q = k / 64 then (0 : Int64) ||| own_mk k else 0))
def Ld52 : List (Nat × Instr × Nat) := [(0, .lconst 1, 1), (1, .iload_n 1, 1), (2, .lshl, 1), (3, .lstore_n 2, 1), (4, .aload_n 0, 1), (5, .getfield 9, 3), (8, .iload_n 1, 1), (9, .bipush 6, 2), (11, .iushr, 1), (12, .laload, 1), (13, .lload_n 2, 1), (14, .land, 1), (15, .lconst 0, 1), (16, .lcmp, 1), (17, .ifCond .eq 5, 3), (22, .aload_n 0, 1), (23, .getfield 9, 3), (26, .iload_n 1, 1), (27, .bipush 6, 2), (29, .iushr, 1), (30, .dup2, 1), (31, .laload, 1), (32, .lload_n 2, 1), (33, .lor, 1), (34, .lastore, 1), (35, .aload_n 0, 1), (36, .dup, 1), (37, .getfield 15, 3), (40, .iconst 1, 1), (41, .iadd, 1), (42, .putfield 15, 3), (45, .iconst 1, 1), (46, .ireturn, 1)]
theorem d52 : ∀ q ∈ Ld52, decode prog_64_method_2_code q.1 = .ok q.2 := by decide +kernel
abbrev me56 : MethodName := ⟨"com/example/kept_till_acked/kepttillacked/queue/SeqBits$Page", "set", "(I)Z"⟩
def sn67 {a0 : Array Value} {Z : State} (hw : HW a0 Z) := slot_ne (C := "com/example/kept_till_acked/kepttillacked/queue/SeqBits$Page") (Or.inr (ow hw 262 rfl)) (Or.inl (ow hw 283 rfl)) (by decide) (t := (.array .long)) (t' := .int) (by decide) (by decide)
theorem rnQS (lh : Launch) (Z : State) (a0 : Array Value) (hw : HW a0 Z) (ws : List Jvm.Cond) (pp wa : Addr) (k : Nat) (h0 : Heap) (n0 : Nat) (Z0 : n0 ≤ h0.size) (H0 : own_PF Z h0 pp wa) (hk : k < 256) (g1 : n0 ≤ pp) (g2 : n0 ≤ wa) :
    MF lh Z me56 (.code me56 prog_64_method_2_code 4 (some .boolean)) ws ⟨0, 0, 0, 0⟩ #[.ref pp, .int (Int32.ofNat k)] h0 (Q_rnQS Z pp wa k h0 n0) := by
  refine own_met (y := me56) (plainFor_of_name pn_17) ?_
  intro p ev sT m below meth c T0 K hx hby hml hret hlk hown hnm hZ X0 e0 hK
  have N0 := Fr.nil n0
  have D : DB p c Ld52 := DB.of hx hby d52
  refine Rch.cast (g' := mkF m 0 #[.val (.ref pp), .val (.int (Int32.ofNat k)), .unset, .unset] []) (by first | rfl | simp [entryFrame, mkF, argsToLocals, Value.category]) ?_
  obtain ⟨u612_0, u612_1, u612_2, u612_3, u612_4⟩ := id H0
  refine zlconst X0 D 0 1 rfl rfl rfl (ziN X0 D 1 rfl rfl rfl  (zlshl X0 D 2 _ rfl rfl rfl (zlstoreN X0 D 3 (l' := #[.val (.ref pp), .val (.int (Int32.ofNat k)), .val (.long ((1 : Int64) <<< ((Int32.ofNat k) &&& 0x3f).toInt64)), .second]) rfl rfl rfl (zaN X0 D 4 rfl rfl rfl rfl (zgf X0 D 5 hZ hown (ow hw 261 rfl) e0 u612_1 rfl rfl fun T613 X613 e613 => ?_)))))
  refine ziN X613 D 6 rfl rfl rfl  (zbipush X613 D 7 6 rfl rfl rfl (ziushr X613 D 8 _ rfl rfl rfl ?_))
  obtain ⟨cl614, Ar614, Sz614, Ha614⟩ := id u612_4
  refine Rch.of (T' := T613) (g' := (mkF m 13 #[.val (.ref pp), .val (.int (Int32.ofNat k)), .val (.long ((1 : Int64) <<< ((Int32.ofNat k) &&& 0x3f).toInt64)), .second] [.long ((fun _ => (0 : Int64)) (k / 64))])) (X613.laload hx (j := (((Int32.ofNat k).toUInt32 >>> ((6 : Int32) &&& 31).toUInt32).toInt32)) (v := (.long ((fun _ => (0 : Int64)) (k / 64)))) (by rw [e613]; exact Ar614.1) (State.isArrayOf_alike hZ.alike Ar614.2.1) Ar614.2.2 (oIn (i := (k / 64)) Sz614 (own_w6 hk) (by omega)) (oAt (i := (k / 64)) Ha614 (own_w6 hk) (by omega)) (g := (mkF m 12 #[.val (.ref pp), .val (.int (Int32.ofNat k)), .val (.long ((1 : Int64) <<< ((Int32.ofNat k) &&& 0x3f).toInt64)), .second] [.int (((Int32.ofNat k).toUInt32 >>> ((6 : Int32) &&& 31).toUInt32).toInt32), .ref wa])) rfl rfl (D.on 9 rfl)) ?_
  refine zlN X613 D 10 rfl rfl rfl  (zland X613 D 11 _ rfl rfl rfl (zlconst X613 D 12 0 rfl rfl rfl (zlcmp X613 D 13 _ rfl rfl rfl ?_)))
  have kn615 : (lcmpW (((fun _ => (0 : Int64)) (k / 64)) &&& ((1 : Int64) <<< ((Int32.ofNat k) &&& 0x3f).toInt64)) (0 : Int64)) = (0 : Int32) := (lw_eq _ _).mpr Int64.zero_and
  refine zY X613 D 14 22 rfl rfl ((if0 _ _).trans (teq kn615).1) rfl (zaN X613 D 15 rfl rfl rfl rfl (zgf X613 D 16 hZ hown (ow hw 261 rfl) e613 u612_1 rfl rfl fun T616 X616 e616 => ?_))
  refine ziN X616 D 17 rfl rfl rfl  (zbipush X616 D 18 6 rfl rfl rfl (ziushr X616 D 19 _ rfl rfl rfl (zdup2 X616 D 20 rfl rfl rfl rfl ?_)))
  obtain ⟨cl617, Ar617, Sz617, Ha617⟩ := id u612_4
  refine Rch.of (T' := T616) (g' := (mkF m 32 #[.val (.ref pp), .val (.int (Int32.ofNat k)), .val (.long ((1 : Int64) <<< ((Int32.ofNat k) &&& 0x3f).toInt64)), .second] [.long ((fun _ => (0 : Int64)) (k / 64)), .int (((Int32.ofNat k).toUInt32 >>> ((6 : Int32) &&& 31).toUInt32).toInt32), .ref wa])) (X616.laload hx (j := (((Int32.ofNat k).toUInt32 >>> ((6 : Int32) &&& 31).toUInt32).toInt32)) (v := (.long ((fun _ => (0 : Int64)) (k / 64)))) (by rw [e616]; exact Ar617.1) (State.isArrayOf_alike hZ.alike Ar617.2.1) Ar617.2.2 (oIn (i := (k / 64)) Sz617 (own_w6 hk) (by omega)) (oAt (i := (k / 64)) Ha617 (own_w6 hk) (by omega)) (g := (mkF m 31 #[.val (.ref pp), .val (.int (Int32.ofNat k)), .val (.long ((1 : Int64) <<< ((Int32.ofNat k) &&& 0x3f).toInt64)), .second] [.int (((Int32.ofNat k).toUInt32 >>> ((6 : Int32) &&& 31).toUInt32).toInt32), .ref wa, .int (((Int32.ofNat k).toUInt32 >>> ((6 : Int32) &&& 31).toUInt32).toInt32), .ref wa])) rfl rfl (D.on 21 rfl)) ?_
  refine zlN X616 D 22 rfl rfl rfl  (zlor X616 D 23 _ rfl rfl rfl ?_)
  obtain ⟨cl618, Ar618, Sz618, Ha618⟩ := id u612_4
  obtain ⟨T618, h618, X618, e618, W618, st618⟩ := stJ X616 hx hZ e616 Ar618 (j := (((Int32.ofNat k).toUInt32 >>> ((6 : Int32) &&& 31).toUInt32).toInt32)) (oIn (i := (k / 64)) Sz618 (own_w6 hk) (by omega)) (g := (mkF m 34 #[.val (.ref pp), .val (.int (Int32.ofNat k)), .val (.long ((1 : Int64) <<< ((Int32.ofNat k) &&& 0x3f).toInt64)), .second] [.long (((fun _ => (0 : Int64)) (k / 64)) ||| ((1 : Int64) <<< ((Int32.ofNat k) &&& 0x3f).toInt64)), .int (((Int32.ofNat k).toUInt32 >>> ((6 : Int32) &&& 31).toUInt32).toInt32), .ref wa])) rfl rfl (D.on 24 rfl)
  have V618 := Av.setJ (i := (k / 64)) u612_4 (own_w6 hk) (by omega) W618
  obtain ⟨y618, hy618⟩ : ∃ zz_ : Nat → Int64, zz_ = fun q => if q = (k / 64) then (((fun _ => (0 : Int64)) (k / 64)) ||| ((1 : Int64) <<< ((Int32.ofNat k) &&& 0x3f).toInt64)) else (fun _ => (0 : Int64)) q := ⟨_, rfl⟩
  have V618 : Av Z h618 wa .long 4 (fun q => .long (y618 q)) := by rw [hy618]; exact V618
  have N618 := Fr.snoc X618 N0 g2
  have nc619 : pp ≠ wa := own_exane u612_0 u612_3 (by decide)
  refine Rch.of (T' := T618) (g' := (mkF m 35 #[.val (.ref pp), .val (.int (Int32.ofNat k)), .val (.long ((1 : Int64) <<< ((Int32.ofNat k) &&& 0x3f).toInt64)), .second] [])) st618 ?_
  refine zaN X618 D 25 rfl rfl rfl rfl (zdu X618 D 26 rfl rfl rfl (zgf X618 D 27 hZ hown (ow hw 282 rfl) e618 (u612_2.other W618 (Or.inl nc619)) rfl rfl fun T620 X620 e620 => ?_))
  refine zic X620 D 28 1 rfl rfl rfl (ziadd X620 D 29 1 rfl rfl rfl (zpf X620 D 30 hZ hown (ow hw 282 rfl) e620 (u612_2.other W618 (Or.inl nc619)) (u612_0.wr W618) (Or.inl (ow hw 283 rfl)) (ow hw 255 rfl) .int (by decide) rfl rfl rfl rfl fun T621 h621 X621 e621 W621 => ?_))
  have N621 := Fr.snoc X621 N618 g1
  have Fw621 := Fld.same W621 (u612_2.other W618 (Or.inl nc619))
  refine zic X621 D 31 1 rfl rfl rfl ?_
  exact Rch.retN X621 hx (t := .boolean) hret (by simp) hlk (D.on 32 rfl) (fun U hU hF => hK _ U _ _ _ (by show Q_rnQS Z pp wa k h0 n0 _ U.heap _; rw [hU, e621]; exact ⟨rfl, N621, (((Keep.refl h0 [pp, wa]).wr W618 (Or.inl (List.mem_of_getElem? (i := 1) rfl))).wr W621 (Or.inl (List.mem_of_getElem? (i := 0) rfl))), ⟨((u612_0.wr W618).wr W621), ((u612_1.other W618 (Or.inl nc619)).other W621 (Or.inr (sn67 hw))), Fw621, ((u612_3.wr W618).wr W621), (by have q := (V618.other W621 (Ne.symm nc619)); rw [hy618] at q; exact q)⟩⟩) hF (by decide) (by decide))
def Q_rnQ1 (Z : State) (pp wa : Addr) (k : Nat) (yw : Nat → Int64) (h0 : Heap) (n0 : Nat) (vv_ : Option Value) (h : Heap) (LL_ : List Loc) : Prop := vv_ = some (.int (1 : Int32)) ∧ Fr n0 LL_ ∧ (Keep h0 h [pp, wa] ∧ Exa Z h pp "com/example/kept_till_acked/kepttillacked/queue/SeqBits$Page" ∧ Fld Z h pp "com/example/kept_till_acked/kepttillacked/queue/SeqBits$Page" "count" "I" (.int (0 : Int32)))
def Ld53 : List (Nat × Instr × Nat) := [(0, .lconst 1, 1), (1, .iload_n 1, 1), (2, .lshl, 1), (3, .lstore_n 2, 1), (4, .aload_n 0, 1), (5, .getfield 9, 3), (8, .iload_n 1, 1), (9, .bipush 6, 2), (11, .iushr, 1), (12, .laload, 1), (13, .lload_n 2, 1), (14, .land, 1), (15, .lconst 0, 1), (16, .lcmp, 1), (17, .ifCond .ne 5, 3), (22, .aload_n 0, 1), (23, .getfield 9, 3), (26, .iload_n 1, 1), (27, .bipush 6, 2), (29, .iushr, 1), (30, .dup2, 1), (31, .laload, 1), (32, .lload_n 2, 1), (33, .ldc2_w 19, 3), (36, .lxor, 1), (37, .land, 1), (38, .lastore, 1), (39, .aload_n 0, 1), (40, .dup, 1), (41, .getfield 15, 3), (44, .iconst 1, 1), (45, .isub, 1), (46, .putfield 15, 3), (49, .iconst 1, 1), (50, .ireturn, 1), (20, .iconst 0, 1), (21, .ireturn, 1)]
theorem d53 : ∀ q ∈ Ld53, decode prog_64_method_3_code q.1 = .ok q.2 := by decide +kernel
abbrev me57 : MethodName := ⟨"com/example/kept_till_acked/kepttillacked/queue/SeqBits$Page", "clear", "(I)Z"⟩
theorem rnQ1 (lh : Launch) (Z : State) (a0 : Array Value) (hw : HW a0 Z) (ws : List Jvm.Cond) (pp wa : Addr) (k : Nat) (yw : Nat → Int64) (h0 : Heap) (n0 : Nat) (Z0 : n0 ≤ h0.size) (H0 : own_PW Z h0 pp wa yw) (hk : k < 256) (hc : yw (k / 64) &&& own_mk k ≠ 0) (g1 : n0 ≤ pp) (g2 : n0 ≤ wa) :
    MF lh Z me57 (.code me57 prog_64_method_3_code 4 (some .boolean)) ws ⟨0, 0, 0, 0⟩ #[.ref pp, .int (Int32.ofNat k)] h0 (Q_rnQ1 Z pp wa k yw h0 n0) := by
  refine own_met (y := me57) (plainFor_of_name pn_17) ?_
  intro p ev sT m below meth c T0 K hx hby hml hret hlk hown hnm hZ X0 e0 hK
  have N0 := Fr.nil n0
  have D : DB p c Ld53 := DB.of hx hby d53
  refine Rch.cast (g' := mkF m 0 #[.val (.ref pp), .val (.int (Int32.ofNat k)), .unset, .unset] []) (by first | rfl | simp [entryFrame, mkF, argsToLocals, Value.category]) ?_
  obtain ⟨u622_0, u622_1, u622_2, u622_3, u622_4⟩ := id H0
  refine zlconst X0 D 0 1 rfl rfl rfl (ziN X0 D 1 rfl rfl rfl  (zlshl X0 D 2 _ rfl rfl rfl (zlstoreN X0 D 3 (l' := #[.val (.ref pp), .val (.int (Int32.ofNat k)), .val (.long ((1 : Int64) <<< ((Int32.ofNat k) &&& 0x3f).toInt64)), .second]) rfl rfl rfl (zaN X0 D 4 rfl rfl rfl rfl (zgf X0 D 5 hZ hown (ow hw 261 rfl) e0 u622_1 rfl rfl fun T623 X623 e623 => ?_)))))
  refine ziN X623 D 6 rfl rfl rfl  (zbipush X623 D 7 6 rfl rfl rfl (ziushr X623 D 8 _ rfl rfl rfl ?_))
  obtain ⟨cl624, Ar624, Sz624, Ha624⟩ := id u622_4
  refine Rch.of (T' := T623) (g' := (mkF m 13 #[.val (.ref pp), .val (.int (Int32.ofNat k)), .val (.long ((1 : Int64) <<< ((Int32.ofNat k) &&& 0x3f).toInt64)), .second] [.long (yw (k / 64))])) (X623.laload hx (j := (((Int32.ofNat k).toUInt32 >>> ((6 : Int32) &&& 31).toUInt32).toInt32)) (v := (.long (yw (k / 64)))) (by rw [e623]; exact Ar624.1) (State.isArrayOf_alike hZ.alike Ar624.2.1) Ar624.2.2 (oIn (i := (k / 64)) Sz624 (own_w6 hk) (by omega)) (oAt (i := (k / 64)) Ha624 (own_w6 hk) (by omega)) (g := (mkF m 12 #[.val (.ref pp), .val (.int (Int32.ofNat k)), .val (.long ((1 : Int64) <<< ((Int32.ofNat k) &&& 0x3f).toInt64)), .second] [.int (((Int32.ofNat k).toUInt32 >>> ((6 : Int32) &&& 31).toUInt32).toInt32), .ref wa])) rfl rfl (D.on 9 rfl)) ?_
  refine zlN X623 D 10 rfl rfl rfl  (zland X623 D 11 _ rfl rfl rfl (zlconst X623 D 12 0 rfl rfl rfl (zlcmp X623 D 13 _ rfl rfl rfl ?_)))
  have kn625 : ¬ ((lcmpW ((yw (k / 64)) &&& ((1 : Int64) <<< ((Int32.ofNat k) &&& 0x3f).toInt64)) (0 : Int64)) = (0 : Int32)) := fun q => hc ((lw_eq _ _).mp q)
  refine zY X623 D 14 22 rfl rfl ((if0 _ _).trans (feq kn625).2) rfl (zaN X623 D 15 rfl rfl rfl rfl (zgf X623 D 16 hZ hown (ow hw 261 rfl) e623 u622_1 rfl rfl fun T626 X626 e626 => ?_))
  refine ziN X626 D 17 rfl rfl rfl  (zbipush X626 D 18 6 rfl rfl rfl (ziushr X626 D 19 _ rfl rfl rfl (zdup2 X626 D 20 rfl rfl rfl rfl ?_)))
  obtain ⟨cl627, Ar627, Sz627, Ha627⟩ := id u622_4
  refine Rch.of (T' := T626) (g' := (mkF m 32 #[.val (.ref pp), .val (.int (Int32.ofNat k)), .val (.long ((1 : Int64) <<< ((Int32.ofNat k) &&& 0x3f).toInt64)), .second] [.long (yw (k / 64)), .int (((Int32.ofNat k).toUInt32 >>> ((6 : Int32) &&& 31).toUInt32).toInt32), .ref wa])) (X626.laload hx (j := (((Int32.ofNat k).toUInt32 >>> ((6 : Int32) &&& 31).toUInt32).toInt32)) (v := (.long (yw (k / 64)))) (by rw [e626]; exact Ar627.1) (State.isArrayOf_alike hZ.alike Ar627.2.1) Ar627.2.2 (oIn (i := (k / 64)) Sz627 (own_w6 hk) (by omega)) (oAt (i := (k / 64)) Ha627 (own_w6 hk) (by omega)) (g := (mkF m 31 #[.val (.ref pp), .val (.int (Int32.ofNat k)), .val (.long ((1 : Int64) <<< ((Int32.ofNat k) &&& 0x3f).toInt64)), .second] [.int (((Int32.ofNat k).toUInt32 >>> ((6 : Int32) &&& 31).toUInt32).toInt32), .ref wa, .int (((Int32.ofNat k).toUInt32 >>> ((6 : Int32) &&& 31).toUInt32).toInt32), .ref wa])) rfl rfl (D.on 21 rfl)) ?_
  refine zlN X626 D 22 rfl rfl rfl  ?_
  refine Rch.of (T' := T626) (g' := (mkF m 36 #[.val (.ref pp), .val (.int (Int32.ofNat k)), .val (.long ((1 : Int64) <<< ((Int32.ofNat k) &&& 0x3f).toInt64)), .second] [.long (-1 : Int64), .long ((1 : Int64) <<< ((Int32.ofNat k) &&& 0x3f).toInt64), .long (yw (k / 64)), .int (((Int32.ofNat k).toUInt32 >>> ((6 : Int32) &&& 31).toUInt32).toInt32), .ref wa])) (X626.ldc2Long hx hown (mvT hZ (ow hw 319 rfl)) (g := (mkF m 33 #[.val (.ref pp), .val (.int (Int32.ofNat k)), .val (.long ((1 : Int64) <<< ((Int32.ofNat k) &&& 0x3f).toInt64)), .second] [.long ((1 : Int64) <<< ((Int32.ofNat k) &&& 0x3f).toInt64), .long (yw (k / 64)), .int (((Int32.ofNat k).toUInt32 >>> ((6 : Int32) &&& 31).toUInt32).toInt32), .ref wa])) rfl (D.on 23 rfl)) ?_
  refine zlxor X626 D 24 _ rfl rfl rfl (zland X626 D 25 _ rfl rfl rfl ?_)
  obtain ⟨cl628, Ar628, Sz628, Ha628⟩ := id u622_4
  obtain ⟨T628, h628, X628, e628, W628, st628⟩ := stJ X626 hx hZ e626 Ar628 (j := (((Int32.ofNat k).toUInt32 >>> ((6 : Int32) &&& 31).toUInt32).toInt32)) (oIn (i := (k / 64)) Sz628 (own_w6 hk) (by omega)) (g := (mkF m 38 #[.val (.ref pp), .val (.int (Int32.ofNat k)), .val (.long ((1 : Int64) <<< ((Int32.ofNat k) &&& 0x3f).toInt64)), .second] [.long ((yw (k / 64)) &&& (((1 : Int64) <<< ((Int32.ofNat k) &&& 0x3f).toInt64) ^^^ (-1 : Int64))), .int (((Int32.ofNat k).toUInt32 >>> ((6 : Int32) &&& 31).toUInt32).toInt32), .ref wa])) rfl rfl (D.on 26 rfl)
  have V628 := Av.setJ (i := (k / 64)) u622_4 (own_w6 hk) (by omega) W628
  obtain ⟨y628, hy628⟩ : ∃ zz_ : Nat → Int64, zz_ = fun q => if q = (k / 64) then ((yw (k / 64)) &&& (((1 : Int64) <<< ((Int32.ofNat k) &&& 0x3f).toInt64) ^^^ (-1 : Int64))) else yw q := ⟨_, rfl⟩
  have V628 : Av Z h628 wa .long 4 (fun q => .long (y628 q)) := by rw [hy628]; exact V628
  have N628 := Fr.snoc X628 N0 g2
  have nc629 : pp ≠ wa := own_exane u622_0 u622_3 (by decide)
  refine Rch.of (T' := T628) (g' := (mkF m 39 #[.val (.ref pp), .val (.int (Int32.ofNat k)), .val (.long ((1 : Int64) <<< ((Int32.ofNat k) &&& 0x3f).toInt64)), .second] [])) st628 ?_
  refine zaN X628 D 27 rfl rfl rfl rfl (zdu X628 D 28 rfl rfl rfl (zgf X628 D 29 hZ hown (ow hw 282 rfl) e628 (u622_2.other W628 (Or.inl nc629)) rfl rfl fun T630 X630 e630 => ?_))
  refine zic X630 D 30 1 rfl rfl rfl (zisub X630 D 31 0 rfl rfl rfl (zpf X630 D 32 hZ hown (ow hw 282 rfl) e630 (u622_2.other W628 (Or.inl nc629)) (u622_0.wr W628) (Or.inl (ow hw 283 rfl)) (ow hw 255 rfl) .int (by decide) rfl rfl rfl rfl fun T631 h631 X631 e631 W631 => ?_))
  have N631 := Fr.snoc X631 N628 g1
  have Fw631 := Fld.same W631 (u622_2.other W628 (Or.inl nc629))
  refine zic X631 D 33 1 rfl rfl rfl ?_
  exact Rch.retN X631 hx (t := .boolean) hret (by simp) hlk (D.on 34 rfl) (fun U hU hF => hK _ U _ _ _ (by show Q_rnQ1 Z pp wa k yw h0 n0 _ U.heap _; rw [hU, e631]; exact ⟨rfl, N631, (((Keep.refl h0 [pp, wa]).wr W628 (Or.inl (List.mem_of_getElem? (i := 1) rfl))).wr W631 (Or.inl (List.mem_of_getElem? (i := 0) rfl))), ((u622_0.wr W628).wr W631), Fw631⟩) hF (by decide) (by decide))
def Q_rnQ0 (Z : State) (pp wa : Addr) (k : Nat) (yw : Nat → Int64) (h0 : Heap) (n0 : Nat) (vv_ : Option Value) (h : Heap) (LL_ : List Loc) : Prop := vv_ = some (.int (0 : Int32)) ∧ Fr n0 LL_ ∧ (h = h0)
theorem rnQ0 (lh : Launch) (Z : State) (a0 : Array Value) (hw : HW a0 Z) (ws : List Jvm.Cond) (pp wa : Addr) (k : Nat) (yw : Nat → Int64) (h0 : Heap) (n0 : Nat) (Z0 : n0 ≤ h0.size) (H0 : own_PW Z h0 pp wa yw) (hk : k < 256) (hc : yw (k / 64) &&& own_mk k = 0) :
    MF lh Z me57 (.code me57 prog_64_method_3_code 4 (some .boolean)) ws ⟨0, 0, 0, 0⟩ #[.ref pp, .int (Int32.ofNat k)] h0 (Q_rnQ0 Z pp wa k yw h0 n0) := by
  refine own_met (y := me57) (plainFor_of_name pn_17) ?_
  intro p ev sT m below meth c T0 K hx hby hml hret hlk hown hnm hZ X0 e0 hK
  have N0 := Fr.nil n0
  have D : DB p c Ld53 := DB.of hx hby d53
  refine Rch.cast (g' := mkF m 0 #[.val (.ref pp), .val (.int (Int32.ofNat k)), .unset, .unset] []) (by first | rfl | simp [entryFrame, mkF, argsToLocals, Value.category]) ?_
  obtain ⟨u632_0, u632_1, u632_2, u632_3, u632_4⟩ := id H0
  refine zlconst X0 D 0 1 rfl rfl rfl (ziN X0 D 1 rfl rfl rfl  (zlshl X0 D 2 _ rfl rfl rfl (zlstoreN X0 D 3 (l' := #[.val (.ref pp), .val (.int (Int32.ofNat k)), .val (.long ((1 : Int64) <<< ((Int32.ofNat k) &&& 0x3f).toInt64)), .second]) rfl rfl rfl (zaN X0 D 4 rfl rfl rfl rfl (zgf X0 D 5 hZ hown (ow hw 261 rfl) e0 u632_1 rfl rfl fun T633 X633 e633 => ?_)))))
  refine ziN X633 D 6 rfl rfl rfl  (zbipush X633 D 7 6 rfl rfl rfl (ziushr X633 D 8 _ rfl rfl rfl ?_))
  obtain ⟨cl634, Ar634, Sz634, Ha634⟩ := id u632_4
  refine Rch.of (T' := T633) (g' := (mkF m 13 #[.val (.ref pp), .val (.int (Int32.ofNat k)), .val (.long ((1 : Int64) <<< ((Int32.ofNat k) &&& 0x3f).toInt64)), .second] [.long (yw (k / 64))])) (X633.laload hx (j := (((Int32.ofNat k).toUInt32 >>> ((6 : Int32) &&& 31).toUInt32).toInt32)) (v := (.long (yw (k / 64)))) (by rw [e633]; exact Ar634.1) (State.isArrayOf_alike hZ.alike Ar634.2.1) Ar634.2.2 (oIn (i := (k / 64)) Sz634 (own_w6 hk) (by omega)) (oAt (i := (k / 64)) Ha634 (own_w6 hk) (by omega)) (g := (mkF m 12 #[.val (.ref pp), .val (.int (Int32.ofNat k)), .val (.long ((1 : Int64) <<< ((Int32.ofNat k) &&& 0x3f).toInt64)), .second] [.int (((Int32.ofNat k).toUInt32 >>> ((6 : Int32) &&& 31).toUInt32).toInt32), .ref wa])) rfl rfl (D.on 9 rfl)) ?_
  refine zlN X633 D 10 rfl rfl rfl  (zland X633 D 11 _ rfl rfl rfl (zlconst X633 D 12 0 rfl rfl rfl (zlcmp X633 D 13 _ rfl rfl rfl ?_)))
  have kn635 : (lcmpW ((yw (k / 64)) &&& ((1 : Int64) <<< ((Int32.ofNat k) &&& 0x3f).toInt64)) (0 : Int64)) = (0 : Int32) := (lw_eq _ _).mpr hc
  refine zN X633 D 14 rfl rfl ((if0 _ _).trans (teq kn635).2) (zic X633 D 35 0 rfl rfl rfl ?_)
  exact Rch.retN X633 hx (t := .boolean) hret (by simp) hlk (D.on 36 rfl) (fun U hU hF => hK _ U _ _ _ (by show Q_rnQ0 Z pp wa k yw h0 n0 _ U.heap _; rw [hU, e633]; exact ⟨rfl, N0, rfl⟩) hF (by decide) (by decide))
def Q_rnBI (Z : State) (p1 : Int64) (h0 : Heap) (n0 : Nat) (vv_ : Option Value) (h : Heap) (LL_ : List Loc) : Prop := vv_ = some (.int (Int32.ofNat (own_u p1 % 256))) ∧ Fr n0 LL_ ∧ (h = h0)
def Ld54 : List (Nat × Instr × Nat) := [(0, .lload_n 0, 1), (1, .ldc2_w 60, 3), (4, .land, 1), (5, .l2i, 1), (6, .ireturn, 1)]
theorem d54 : ∀ q ∈ Ld54, decode prog_63_method_6_code q.1 = .ok q.2 := by decide +kernel
abbrev me58 : MethodName := ⟨"com/example/kept_till_acked/kepttillacked/queue/SeqBits", "bit", "(J)I"⟩
theorem rnBI (lh : Launch) (Z : State) (a0 : Array Value) (hw : HW a0 Z) (ws : List Jvm.Cond) (p1 : Int64) (h0 : Heap) (n0 : Nat) (Z0 : n0 ≤ h0.size)  :
    MF lh Z me58 (.code me58 prog_63_method_6_code 2 (some .int)) ws ⟨0, 0, 0, 0⟩ #[.long p1] h0 (Q_rnBI Z p1 h0 n0) := by
  refine own_met (y := me58) (plainFor_of_name pn_12) ?_
  intro p ev sT m below meth c T0 K hx hby hml hret hlk hown hnm hZ X0 e0 hK
  have N0 := Fr.nil n0
  have D : DB p c Ld54 := DB.of hx hby d54
  refine Rch.cast (g' := mkF m 0 #[.val (.long p1), .second] []) (by first | rfl | simp [entryFrame, mkF, argsToLocals, Value.category]) ?_
  refine zlN X0 D 0 rfl rfl rfl  ?_
  refine Rch.of (T' := T0) (g' := (mkF m 4 #[.val (.long p1), .second] [.long (255 : Int64), .long p1])) (X0.ldc2Long hx hown (mvT hZ (ow hw 276 rfl)) (g := (mkF m 1 #[.val (.long p1), .second] [.long p1])) rfl (D.on 1 rfl)) ?_
  refine zland X0 D 2 _ rfl rfl rfl (zl2i X0 D 3 _ rfl rfl rfl ?_)
  exact Rch.retI X0 hx hret hlk (D.on 4 rfl) (fun U hU hF => hK _ U _ _ _ (by show Q_rnBI Z p1 h0 n0 _ U.heap _; rw [hU, e0]; exact ⟨congrArg (fun t => some (Value.int t)) (own_bit p1), N0, rfl⟩) hF (by decide) (by decide))
def Q_rnSZ (Z : State) (sb : Addr) (z : Int32) (h0 : Heap) (n0 : Nat) (vv_ : Option Value) (h : Heap) (LL_ : List Loc) : Prop := vv_ = some (.int z) ∧ Fr n0 LL_ ∧ (h = h0)
def Ld55 : List (Nat × Instr × Nat) := [(0, .aload_n 0, 1), (1, .getfield 18, 3), (4, .ireturn, 1)]
theorem d55 : ∀ q ∈ Ld55, decode prog_63_method_2_code q.1 = .ok q.2 := by decide +kernel
abbrev me59 : MethodName := ⟨"com/example/kept_till_acked/kepttillacked/queue/SeqBits", "size", "()I"⟩
theorem rnSZ (lh : Launch) (Z : State) (a0 : Array Value) (hw : HW a0 Z) (ws : List Jvm.Cond) (sb : Addr) (z : Int32) (h0 : Heap) (n0 : Nat) (Z0 : n0 ≤ h0.size) (F1 : Fld Z h0 sb "com/example/kept_till_acked/kepttillacked/queue/SeqBits" "size" "I" (.int z)) :
    MF lh Z me59 (.code me59 prog_63_method_2_code 1 (some .int)) ws ⟨0, 0, 0, 0⟩ #[.ref sb] h0 (Q_rnSZ Z sb z h0 n0) := by
  refine own_met (y := me59) (plainFor_of_name pn_12) ?_
  intro p ev sT m below meth c T0 K hx hby hml hret hlk hown hnm hZ X0 e0 hK
  have N0 := Fr.nil n0
  have D : DB p c Ld55 := DB.of hx hby d55
  refine Rch.cast (g' := mkF m 0 #[.val (.ref sb)] []) (by first | rfl | simp [entryFrame, mkF, argsToLocals, Value.category]) ?_
  refine zaN X0 D 0 rfl rfl rfl rfl (zgf X0 D 1 hZ hown (ow hw 284 rfl) e0 F1 rfl rfl fun T636 X636 e636 => ?_)
  exact Rch.retI X636 hx hret hlk (D.on 2 rfl) (fun U hU hF => hK _ U _ _ _ (by show Q_rnSZ Z sb z h0 n0 _ U.heap _; rw [hU, e636]; exact ⟨rfl, N0, rfl⟩) hF (by decide) (by decide))
def Q_rnSA (Z : State) (sb pg na pa : Addr) (p1 : Int64) (h0 : Heap) (n0 : Nat) (vv_ : Option Value) (h : Heap) (LL_ : List Loc) : Prop := ∃ pp : Addr, ∃ wa : Addr, ∃ yn : Nat → Int64, vv_ = none ∧ Fr n0 LL_ ∧ (h0.size ≤ pp ∧ h0.size ≤ wa ∧ Keep h0 h [sb, pg, na, pa] ∧ own_S1 Z h sb pg na pa pp wa p1 yn)
def Ld56 : List (Nat × Instr × Nat) := [(0, .lload_n 1, 1), (1, .bipush 8, 2), (3, .lushr, 1), (4, .lstore_n 3, 1), (5, .aload_n 0, 1), (6, .getfield 14, 3), (9, .lload_n 3, 1), (10, .invokevirtual 22, 3), (13, .checkcast 26, 3), (16, .astore 5, 2), (18, .aload 5, 2), (20, .ifnonnull 22, 3), (23, .new 26, 3), (26, .dup, 1), (27, .invokespecial 28, 3), (30, .astore 5, 2), (32, .aload_n 0, 1), (33, .getfield 14, 3), (36, .lload_n 3, 1), (37, .aload 5, 2), (39, .invokevirtual 29, 3), (42, .aload 5, 2), (44, .lload_n 1, 1), (45, .invokestatic 33, 3), (48, .invokevirtual 37, 3), (51, .ifCond .eq 13, 3), (54, .aload_n 0, 1), (55, .dup, 1), (56, .getfield 18, 3), (59, .iconst 1, 1), (60, .iadd, 1), (61, .putfield 18, 3), (64, .return_, 1)]
theorem d56 : ∀ q ∈ Ld56, decode prog_63_method_3_code q.1 = .ok q.2 := by decide +kernel
abbrev me60 : MethodName := ⟨"com/example/kept_till_acked/kepttillacked/queue/SeqBits", "add", "(J)V"⟩
def sn68 {a0 : Array Value} {Z : State} (hw : HW a0 Z) := slot_ne (C := "com/example/kept_till_acked/kepttillacked/queue/SeqBits") (Or.inr (ow hw 135 rfl)) (Or.inl (ow hw 285 rfl)) (by decide) (t := (.object "com/example/kept_till_acked/kepttillacked/queue/Pages")) (t' := .int) (by decide) (by decide)
theorem rnSA (lh : Launch) (Z : State) (a0 : Array Value) (hw : HW a0 Z) (ws : List Jvm.Cond) (sb pg na pa : Addr) (p1 : Int64) (h0 : Heap) (n0 : Nat) (Z0 : n0 ≤ h0.size) (H0 : own_SF Z h0 sb pg na pa) (g0 : n0 ≤ sb) (g1 : n0 ≤ pg) (g2 : n0 ≤ na) (g3 : n0 ≤ pa) :
    MF lh Z me60 (.code me60 prog_63_method_3_code 6 none) ws ⟨4, 2, 6, 70⟩ #[.ref sb, .long p1] h0 (Q_rnSA Z sb pg na pa p1 h0 n0) := by
  refine own_met (y := me60) (plainFor_of_name pn_12) ?_
  intro p ev sT m below meth c T0 K hx hby hml hret hlk hown hnm hZ X0 e0 hK
  have N0 := Fr.nil n0
  have D : DB p c Ld56 := DB.of hx hby d56
  refine Rch.cast (g' := mkF m 0 #[.val (.ref sb), .val (.long p1), .second, .unset, .unset, .unset] []) (by first | rfl | simp [entryFrame, mkF, argsToLocals, Value.category]) ?_
  obtain ⟨u637_0, u637_1, u637_2, u637_3, u637_4, u637_5, u637_6, u637_7⟩ := id H0
  refine zlN X0 D 0 rfl rfl rfl  (zbipush X0 D 1 8 rfl rfl rfl (zlushr X0 D 2 _ rfl rfl rfl ?_))
  have sw638 : ((p1.toUInt64 >>> ((8 : Int32) &&& 0x3f).toInt64.toUInt64).toInt64) = (Int64.ofNat (own_u p1 / 256)) := own_sh p1
  show Rch p ev below K T0 (mkF m 4 #[.val (.ref sb), .val (.long p1), .second, .unset, .unset, .unset] [.long ((p1.toUInt64 >>> ((8 : Int32) &&& 0x3f).toInt64.toUInt64).toInt64)])
  rw [sw638]
  show Rch p ev below K T0 (mkF m 4 #[.val (.ref sb), .val (.long p1), .second, .unset, .unset, .unset] [.long (Int64.ofNat (own_u p1 / 256))])
  refine zlstoreN X0 D 3 (l' := #[.val (.ref sb), .val (.long p1), .second, .val (.long (Int64.ofNat (own_u p1 / 256))), .second, .unset]) rfl rfl rfl (zaN X0 D 4 rfl rfl rfl rfl (zgf X0 D 5 hZ hown (ow hw 134 rfl) e0 u637_1 rfl rfl fun T639 X639 e639 => ?_))
  refine zlN X639 D 6 rfl rfl rfl  (zvs X639 D 7 hZ me52 hown (ow hw 230 rfl) (ow hw 231 rfl) (ow hw 233 rfl) (ow hw 232 rfl) (ow hw 234 rfl) (ow hw 122 rfl) e639 (own_P0.x_pg u637_3) (rnG0 lh Z a0 hw [] pg na (Int64.ofNat (own_u p1 / 256)) (fun _ => (0 : Int64)) h0 n0 Z0 u637_3) hml [.long (Int64.ofNat (own_u p1 / 256))] [] (lenOf pd_20 rfl) rfl rfl rfl rfl rfl rfl (by decide) (by decide) fun v640 T640 L640 X640 hQ640 => ?_)
  obtain ⟨rfl, N640q, hQ640⟩ := hQ640
  have N640 := Fr.app N0 N640q
  refine Rch.of (T' := T640) (g' := (mkF m 16 #[.val (.ref sb), .val (.long p1), .second, .val (.long (Int64.ofNat (own_u p1 / 256))), .second, .unset] [.null])) (X640.checkcastNull hx (g := (mkF m 13 #[.val (.ref sb), .val (.long p1), .second, .val (.long (Int64.ofNat (own_u p1 / 256))), .second, .unset] [.null])) rfl rfl (D.on 8 rfl)) ?_
  refine zas X640 D 9 (l' := #[.val (.ref sb), .val (.long p1), .second, .val (.long (Int64.ofNat (own_u p1 / 256))), .second, .val .null]) rfl rfl rfl rfl (za X640 D 10 rfl rfl rfl rfl (zifnonnullNo X640 D 11 rfl rfl ?_))
  obtain ⟨T641, h641, X641, e641, E641, A641, D641, -, st641⟩ := newO X640 hx hZ hown (ow hw 254 rfl) (ow hw 255 rfl) (ow hw 256 rfl) hQ640 (g := (mkF m 23 #[.val (.ref sb), .val (.long p1), .second, .val (.long (Int64.ofNat (own_u p1 / 256))), .second, .val .null] [])) rfl (D.on 12 rfl) (by decide) (by decide)
  obtain ⟨b641, g641⟩ : ∃ zz_, zz_ = h0.size := ⟨_, rfl⟩
  have ge_b641 : n0 ≤ b641 := Nat.le_trans Z0 (Nat.le_of_eq g641.symm)
  have sz_b641 : h0.size ≤ b641 := Nat.le_trans (Keep.refl h0 [sb, pg, na, pa]).1 (Nat.le_of_eq g641.symm)
  rw [← g641] at A641 D641 st641
  have F641_words : Fld Z h641 b641 "com/example/kept_till_acked/kepttillacked/queue/SeqBits$Page" "words" "[J" .null := D641 (Or.inr (ow hw 262 rfl)) (ty := (.array .long)) (by decide)
  have F641_count : Fld Z h641 b641 "com/example/kept_till_acked/kepttillacked/queue/SeqBits$Page" "count" "I" (.int (0 : Int32)) := D641 (Or.inl (ow hw 283 rfl)) (ty := .int) (by decide)
  refine Rch.of (T' := T641) (g' := (mkF m 26 #[.val (.ref sb), .val (.long p1), .second, .val (.long (Int64.ofNat (own_u p1 / 256))), .second, .val .null] [.ref b641])) st641 ?_
  refine zdu X641 D 13 rfl rfl rfl ?_
  obtain ⟨_, _, ⟨T642, L642, k642, n642⟩, -, X642, ⟨Lc642, hQ642, l642, y642, z642⟩, st642⟩ := own_spR X641 hx hZ (y := me55) rfl hown (ow hw 257 rfl) (ow hw 258 rfl) (ow hw 259 rfl) (by decide) X641 (backOf (W := 1) (rnQI lh Z a0 hw [] b641 h641 n0 (Nat.le_trans Z0 E641.1) A641 F641_words F641_count ge_b641) hZ (ow hw 259 rfl) (ow hw 256 rfl) (by decide) (by decide)) (g := (mkF m 27 #[.val (.ref sb), .val (.long p1), .second, .val (.long (Int64.ofNat (own_u p1 / 256))), .second, .val .null] [.ref b641, .ref b641])) rfl (by rw [hml]; rfl) (Steps.refl _) (a := b641) (argsL := []) (rest := [(.ref b641)]) (lenOf pd_0 rfl) rfl (by show 2 * 0 + _ ≤ _; exact Nat.le_of_eq rfl) (D.on 14 rfl) (fun _ _ => ⟨rfl, e641, (by decide : 1 + 1 ≤ _), (by decide : 2 + 4 ≤ _)⟩)
  dsimp only [Pt.U, Pt.locs, Pt.cells, Pt.slots] at X642 l642 y642 z642 st642 hQ642
  subst l642 y642 z642
  obtain ⟨rwa642, rfl, N642q, hQ642⟩ := hQ642
  have N642 := Fr.app N640 N642q
  obtain ⟨ze642_0, K642, Pq642_0⟩ := hQ642
  have nl643 : sb ≠ b641 := Nat.ne_of_lt (Nat.lt_of_lt_of_le u637_0.lt (Nat.le_of_eq g641.symm))
  have nl644 : pg ≠ b641 := Nat.ne_of_lt (Nat.lt_of_lt_of_le (own_P0.lt_pg u637_3) (Nat.le_of_eq g641.symm))
  have nl645 : na ≠ b641 := Nat.ne_of_lt (Nat.lt_of_lt_of_le (own_P0.lt_na u637_3) (Nat.le_of_eq g641.symm))
  have nl646 : pa ≠ b641 := Nat.ne_of_lt (Nat.lt_of_lt_of_le u637_5.lt (Nat.le_of_eq g641.symm))
  refine Rch.via (T' := T642) (g' := (mkF m 30 #[.val (.ref sb), .val (.long p1), .second, .val (.long (Int64.ofNat (own_u p1 / 256))), .second, .val .null] [.ref b641])) st642 ?_
  refine zas X642 D 15 (l' := #[.val (.ref sb), .val (.long p1), .second, .val (.long (Int64.ofNat (own_u p1 / 256))), .second, .val (.ref b641)]) rfl rfl rfl rfl (zaN X642 D 16 rfl rfl rfl rfl (zgf X642 D 17 hZ hown (ow hw 134 rfl) rfl ((u637_1.ext E641).keep K642 (ninS nl643 nin0)) rfl rfl fun T647 X647 e647 => ?_))
  refine zlN X647 D 18 rfl rfl rfl  (za X647 D 19 rfl rfl rfl rfl (zvs X647 D 20 hZ me53 hown (ow hw 263 rfl) (ow hw 264 rfl) (ow hw 266 rfl) (ow hw 265 rfl) (ow hw 267 rfl) (ow hw 122 rfl) e647 (own_P0.x_pg (own_P0.keep (own_P0.ext u637_3 E641) K642 (ninS nl644 nin0) (ninS nl645 nin0))) (rnPU lh Z a0 hw [] pg na pa b641 (Int64.ofNat (own_u p1 / 256)) (fun _ => (0 : Int64)) T642.heap n0 (Nat.le_trans (Nat.le_trans Z0 E641.1) K642.1) (own_P0.keep (own_P0.ext u637_3 E641) K642 (ninS nl644 nin0) (ninS nl645 nin0)) ((u637_4.ext E641).keep K642 (ninS nl644 nin0)) ((u637_5.ext E641).keep K642) ((u637_6.ext E641).keep K642) ((u637_7.ext E641).keep K642 (ninS nl646 nin0)) (A641.keep K642) g1 g2 g3) hml [.long (Int64.ofNat (own_u p1 / 256)), .ref b641] [] (lenOf pd_24 rfl) rfl rfl rfl rfl rfl rfl (by decide) (by decide) fun v648 T648 L648 X648 hQ648 => ?_))
  obtain ⟨ryn648, rfl, N648q, hQ648⟩ := hQ648
  have N648 := Fr.app N642 N648q
  obtain ⟨K648, Hp648, F648a, E648a, O648a, V648a, hy648⟩ := hQ648
  have nc649 : sb ≠ pg := own_exane ((u637_0.ext E641).keep K642) (own_P0.x_pg (own_P0.keep (own_P0.ext u637_3 E641) K642 (ninS nl644 nin0) (ninS nl645 nin0))) (by decide)
  have nc650 : sb ≠ na := own_exane ((u637_0.ext E641).keep K642) (own_P0.x_na (own_P0.keep (own_P0.ext u637_3 E641) K642 (ninS nl644 nin0) (ninS nl645 nin0))) (by decide)
  have nc651 : sb ≠ pa := own_exane ((u637_0.ext E641).keep K642) ((u637_5.ext E641).keep K642) (by decide)
  have nl652 : pg ≠ rwa642 := Nat.ne_of_lt (Nat.lt_of_lt_of_le (own_P0.lt_pg (own_P0.ext u637_3 E641)) ze642_0)
  have nl653 : na ≠ rwa642 := Nat.ne_of_lt (Nat.lt_of_lt_of_le (own_P0.lt_na (own_P0.ext u637_3 E641)) ze642_0)
  have nl654 : pa ≠ rwa642 := Nat.ne_of_lt (Nat.lt_of_lt_of_le (u637_5.ext E641).lt ze642_0)
  have Fb655 := (own_PF.keep Pq642_0 K648 (ninS (Ne.symm nl644) (ninS (Ne.symm nl645) (ninS (Ne.symm nl646) nin0))) (ninS (Ne.symm nl652) (ninS (Ne.symm nl653) (ninS (Ne.symm nl654) nin0))))
  have Fb656 := ((((Keep.refl h0 [sb, pg, na, pa]).ext E641).trans K642 (allS (Or.inr sz_b641) all0)).trans K648 (allS (Or.inl (List.mem_of_getElem? (i := 1) rfl)) (allS (Or.inl (List.mem_of_getElem? (i := 2) rfl)) (allS (Or.inl (List.mem_of_getElem? (i := 3) rfl)) all0))))
  refine za X648 D 21 rfl rfl rfl rfl (zlN X648 D 22 rfl rfl rfl  (zst (W := 1) X648 D 23 hZ me58 hown (ow hw 273 rfl) (ow hw 274 rfl) (ow hw 115 rfl) (ow hw 275 rfl) rfl (rnBI lh Z a0 hw [] p1 T648.heap n0 (Nat.le_trans (Nat.le_trans (Nat.le_trans Z0 E641.1) K642.1) K648.1) ) hml [.long p1] [.ref b641] (lenOf pd_21 rfl) rfl rfl rfl rfl rfl rfl (by decide) (by decide) fun v657 T657 L657 X657 hQ657 => ?_))
  obtain ⟨rfl, N657q, hQ657⟩ := hQ657
  have N657 := Fr.app N648 N657q
  refine zvs X657 D 24 hZ me56 hown (ow hw 277 rfl) (ow hw 278 rfl) (ow hw 280 rfl) (ow hw 279 rfl) (ow hw 281 rfl) (ow hw 256 rfl) hQ657 ((A641.keep K642).keep K648) (rnQS lh Z a0 hw [] b641 rwa642 (own_u p1 % 256) T648.heap n0 (Nat.le_trans (Nat.le_trans (Nat.le_trans Z0 E641.1) K642.1) K648.1) Fb655 (Nat.mod_lt _ (by decide)) ge_b641 (Nat.le_trans (Nat.le_trans Z0 E641.1) ze642_0)) hml [.int (Int32.ofNat (own_u p1 % 256))] [] (lenOf pd_26 rfl) rfl rfl rfl rfl rfl rfl (by decide) (by decide) fun v658 T658 L658 X658 hQ658 => ?_
  obtain ⟨rfl, N658q, hQ658⟩ := hQ658
  have N658 := Fr.app N657 N658q
  obtain ⟨K658, Pq658_0⟩ := hQ658
  have nl659 : sb ≠ rwa642 := Nat.ne_of_lt (Nat.lt_of_lt_of_le (u637_0.ext E641).lt ze642_0)
  refine zN X658 D 25 rfl rfl ((if0 _ _).trans (feq ((by decide) : ¬ ((1 : Int32) = (0 : Int32)))).1) (zaN X658 D 26 rfl rfl rfl rfl (zdu X658 D 27 rfl rfl rfl (zgf X658 D 28 hZ hown (ow hw 284 rfl) rfl ((((u637_2.ext E641).keep K642 (ninS nl643 nin0)).keep K648 (ninS nc649 (ninS nc650 (ninS nc651 nin0)))).keep K658 (ninS nl643 (ninS nl659 nin0))) rfl rfl fun T660 X660 e660 => ?_)))
  refine zic X660 D 29 1 rfl rfl rfl (ziadd X660 D 30 1 rfl rfl rfl (zpf X660 D 31 hZ hown (ow hw 284 rfl) e660 ((((u637_2.ext E641).keep K642 (ninS nl643 nin0)).keep K648 (ninS nc649 (ninS nc650 (ninS nc651 nin0)))).keep K658 (ninS nl643 (ninS nl659 nin0))) ((((u637_0.ext E641).keep K642).keep K648).keep K658) (Or.inl (ow hw 285 rfl)) (ow hw 114 rfl) .int (by decide) rfl rfl rfl rfl fun T661 h661 X661 e661 W661 => ?_))
  have N661 := Fr.snoc X661 N658 g0
  have Fw661 := Fld.same W661 ((((u637_2.ext E641).keep K642 (ninS nl643 nin0)).keep K648 (ninS nc649 (ninS nc650 (ninS nc651 nin0)))).keep K658 (ninS nl643 (ninS nl659 nin0)))
  have Fb662 := (((((u637_1.ext E641).keep K642 (ninS nl643 nin0)).keep K648 (ninS nc649 (ninS nc650 (ninS nc651 nin0)))).keep K658 (ninS nl643 (ninS nl659 nin0))).other W661 (Or.inr (sn68 hw)))
  have Fb663 := (own_P1.keep (own_P1.keep Hp648 K658 (ninS nl644 (ninS nl652 nin0)) (ninS nl645 (ninS nl653 nin0))) (Keep.of_wr W661) (ninS (Ne.symm nc649) nin0) (ninS (Ne.symm nc650) nin0))
  have Fb664 := ((Fb656.trans K658 (allS (Or.inr sz_b641) (allS (Or.inr (Nat.le_trans ((Keep.refl h0 [sb, pg, na, pa]).ext E641).1 ze642_0)) all0))).wr W661 (Or.inl (List.mem_of_getElem? (i := 0) rfl)))
  exact Rch.retV X661 hx hret hlk (D.on 32 rfl) (fun U hU hF => hK _ U _ _ _ (by show Q_rnSA Z sb pg na pa p1 h0 n0 _ U.heap _; rw [hU, e661]; exact ⟨b641, rwa642, ryn648, rfl, N661, sz_b641, (Nat.le_trans ((Keep.refl h0 [sb, pg, na, pa]).ext E641).1 ze642_0), Fb664, ⟨(((((u637_0.ext E641).keep K642).keep K648).keep K658).wr W661), Fb662, Fw661, Fb663, ((F648a.keep K658 (ninS nl644 (ninS nl652 nin0))).other W661 (Or.inl (Ne.symm nc649))), ((E648a.keep K658).wr W661), ((O648a.keep K658).wr W661), ((V648a.keep K658 (ninS nl646 (ninS nl654 nin0))).other W661 (Ne.symm nc651)), (own_PW.keep Pq658_0 (Keep.of_wr W661) (ninS (Ne.symm nl643) nin0) (ninS (Ne.symm nl659) nin0)), hy648, nl653⟩⟩) hF (by decide) (by decide))
def Q_rnS0 (Z : State) (sb pg na : Addr) (yn : Nat → Int64) (p1 : Int64) (h0 : Heap) (n0 : Nat) (vv_ : Option Value) (h : Heap) (LL_ : List Loc) : Prop := vv_ = some (.int (0 : Int32)) ∧ Fr n0 LL_ ∧ (h = h0)
def Ld57 : List (Nat × Instr × Nat) := [(0, .lload_n 1, 1), (1, .bipush 8, 2), (3, .lushr, 1), (4, .lstore_n 3, 1), (5, .aload_n 0, 1), (6, .getfield 14, 3), (9, .lload_n 3, 1), (10, .invokevirtual 22, 3), (13, .checkcast 26, 3), (16, .astore 5, 2), (18, .aload 5, 2), (20, .ifnull 15, 3), (35, .iconst 0, 1), (36, .ireturn, 1), (23, .aload 5, 2), (25, .lload_n 1, 1), (26, .invokestatic 33, 3), (29, .invokevirtual 41, 3), (32, .ifCond .ne 5, 3), (37, .aload_n 0, 1), (38, .dup, 1), (39, .getfield 18, 3), (42, .iconst 1, 1), (43, .isub, 1), (44, .putfield 18, 3), (47, .aload 5, 2), (49, .getfield 44, 3), (52, .ifCond .ne 11, 3), (55, .aload_n 0, 1), (56, .getfield 14, 3), (59, .lload_n 3, 1), (60, .invokevirtual 47, 3), (63, .iconst 1, 1), (64, .ireturn, 1)]
theorem d57 : ∀ q ∈ Ld57, decode prog_63_method_4_code q.1 = .ok q.2 := by decide +kernel
abbrev me61 : MethodName := ⟨"com/example/kept_till_acked/kepttillacked/queue/SeqBits", "remove", "(J)Z"⟩
theorem rnS0 (lh : Launch) (Z : State) (a0 : Array Value) (hw : HW a0 Z) (ws : List Jvm.Cond) (sb pg na : Addr) (yn : Nat → Int64) (p1 : Int64) (h0 : Heap) (n0 : Nat) (Z0 : n0 ≤ h0.size) (H0 : own_S0 Z h0 sb pg na yn) :
    MF lh Z me61 (.code me61 prog_63_method_4_code 6 (some .boolean)) ws ⟨4, 0, 0, 69⟩ #[.ref sb, .long p1] h0 (Q_rnS0 Z sb pg na yn p1 h0 n0) := by
  refine own_met (y := me61) (plainFor_of_name pn_12) ?_
  intro p ev sT m below meth c T0 K hx hby hml hret hlk hown hnm hZ X0 e0 hK
  have N0 := Fr.nil n0
  have D : DB p c Ld57 := DB.of hx hby d57
  refine Rch.cast (g' := mkF m 0 #[.val (.ref sb), .val (.long p1), .second, .unset, .unset, .unset] []) (by first | rfl | simp [entryFrame, mkF, argsToLocals, Value.category]) ?_
  obtain ⟨u665_0, u665_1, u665_2, u665_3⟩ := id H0
  refine zlN X0 D 0 rfl rfl rfl  (zbipush X0 D 1 8 rfl rfl rfl (zlushr X0 D 2 _ rfl rfl rfl (zlstoreN X0 D 3 (l' := #[.val (.ref sb), .val (.long p1), .second, .val (.long ((p1.toUInt64 >>> ((8 : Int32) &&& 0x3f).toInt64.toUInt64).toInt64)), .second, .unset]) rfl rfl rfl (zaN X0 D 4 rfl rfl rfl rfl (zgf X0 D 5 hZ hown (ow hw 134 rfl) e0 u665_1 rfl rfl fun T666 X666 e666 => ?_)))))
  refine zlN X666 D 6 rfl rfl rfl  (zvs X666 D 7 hZ me52 hown (ow hw 230 rfl) (ow hw 231 rfl) (ow hw 233 rfl) (ow hw 232 rfl) (ow hw 234 rfl) (ow hw 122 rfl) e666 (own_P0.x_pg u665_3) (rnG0 lh Z a0 hw [] pg na ((p1.toUInt64 >>> ((8 : Int32) &&& 0x3f).toInt64.toUInt64).toInt64) yn h0 n0 Z0 u665_3) hml [.long ((p1.toUInt64 >>> ((8 : Int32) &&& 0x3f).toInt64.toUInt64).toInt64)] [] (lenOf pd_20 rfl) rfl rfl rfl rfl rfl rfl (by decide) (by decide) fun v667 T667 L667 X667 hQ667 => ?_)
  obtain ⟨rfl, N667q, hQ667⟩ := hQ667
  have N667 := Fr.app N0 N667q
  refine Rch.of (T' := T667) (g' := (mkF m 16 #[.val (.ref sb), .val (.long p1), .second, .val (.long ((p1.toUInt64 >>> ((8 : Int32) &&& 0x3f).toInt64.toUInt64).toInt64)), .second, .unset] [.null])) (X667.checkcastNull hx (g := (mkF m 13 #[.val (.ref sb), .val (.long p1), .second, .val (.long ((p1.toUInt64 >>> ((8 : Int32) &&& 0x3f).toInt64.toUInt64).toInt64)), .second, .unset] [.null])) rfl rfl (D.on 8 rfl)) ?_
  refine zas X667 D 9 (l' := #[.val (.ref sb), .val (.long p1), .second, .val (.long ((p1.toUInt64 >>> ((8 : Int32) &&& 0x3f).toInt64.toUInt64).toInt64)), .second, .val .null]) rfl rfl rfl rfl (za X667 D 10 rfl rfl rfl rfl (zifnullYes X667 D 11 35 rfl rfl rfl (zic X667 D 12 0 rfl rfl rfl ?_)))
  exact Rch.retN X667 hx (t := .boolean) hret (by simp) hlk (D.on 13 rfl) (fun U hU hF => hK _ U _ _ _ (by show Q_rnS0 Z sb pg na yn p1 h0 n0 _ U.heap _; rw [hU, hQ667]; exact ⟨rfl, N667, rfl⟩) hF (by decide) (by decide))
def Q_rnS1 (Z : State) (sb pg na pa pp wa : Addr) (p1 : Int64) (yn : Nat → Int64) (h0 : Heap) (n0 : Nat) (vv_ : Option Value) (h : Heap) (LL_ : List Loc) : Prop := vv_ = some (.int (1 : Int32)) ∧ Fr n0 LL_ ∧ (Keep h0 h [sb, pg, na, pa, pp, wa] ∧ own_S0 Z h sb pg na yn)
theorem rnS1 (lh : Launch) (Z : State) (a0 : Array Value) (hw : HW a0 Z) (ws : List Jvm.Cond) (sb pg na pa pp wa : Addr) (p1 : Int64) (yn : Nat → Int64) (h0 : Heap) (n0 : Nat) (Z0 : n0 ≤ h0.size) (H0 : own_S1 Z h0 sb pg na pa pp wa p1 yn) (g0 : n0 ≤ sb) (g1 : n0 ≤ pg) (g2 : n0 ≤ na) (g3 : n0 ≤ pa) (g4 : n0 ≤ pp) (g5 : n0 ≤ wa) :
    MF lh Z me61 (.code me61 prog_63_method_4_code 6 (some .boolean)) ws ⟨2, 0, 0, 33⟩ #[.ref sb, .long p1] h0 (Q_rnS1 Z sb pg na pa pp wa p1 yn h0 n0) := by
  refine own_met (y := me61) (plainFor_of_name pn_12) ?_
  intro p ev sT m below meth c T0 K hx hby hml hret hlk hown hnm hZ X0 e0 hK
  have N0 := Fr.nil n0
  have D : DB p c Ld57 := DB.of hx hby d57
  refine Rch.cast (g' := mkF m 0 #[.val (.ref sb), .val (.long p1), .second, .unset, .unset, .unset] []) (by first | rfl | simp [entryFrame, mkF, argsToLocals, Value.category]) ?_
  obtain ⟨u668_0, u668_1, u668_2, u668_3, u668_4, u668_5, u668_6, u668_7, u668_8, u668_9, u668_10⟩ := id H0
  refine zlN X0 D 0 rfl rfl rfl  (zbipush X0 D 1 8 rfl rfl rfl (zlushr X0 D 2 _ rfl rfl rfl ?_))
  have sw669 : ((p1.toUInt64 >>> ((8 : Int32) &&& 0x3f).toInt64.toUInt64).toInt64) = (Int64.ofNat (own_u p1 / 256)) := own_sh p1
  show Rch p ev below K T0 (mkF m 4 #[.val (.ref sb), .val (.long p1), .second, .unset, .unset, .unset] [.long ((p1.toUInt64 >>> ((8 : Int32) &&& 0x3f).toInt64.toUInt64).toInt64)])
  rw [sw669]
  show Rch p ev below K T0 (mkF m 4 #[.val (.ref sb), .val (.long p1), .second, .unset, .unset, .unset] [.long (Int64.ofNat (own_u p1 / 256))])
  refine zlstoreN X0 D 3 (l' := #[.val (.ref sb), .val (.long p1), .second, .val (.long (Int64.ofNat (own_u p1 / 256))), .second, .unset]) rfl rfl rfl (zaN X0 D 4 rfl rfl rfl rfl (zgf X0 D 5 hZ hown (ow hw 134 rfl) e0 u668_1 rfl rfl fun T670 X670 e670 => ?_))
  refine zlN X670 D 6 rfl rfl rfl  (zvs X670 D 7 hZ me52 hown (ow hw 230 rfl) (ow hw 231 rfl) (ow hw 233 rfl) (ow hw 232 rfl) (ow hw 234 rfl) (ow hw 122 rfl) e670 (own_P1.x_pg u668_3) (rnG1 lh Z a0 hw [] pg na (Int64.ofNat (own_u p1 / 256)) yn pa pp h0 n0 Z0 u668_3 u668_9 u668_4 u668_7) hml [.long (Int64.ofNat (own_u p1 / 256))] [] (lenOf pd_20 rfl) rfl rfl rfl rfl rfl rfl (by decide) (by decide) fun v671 T671 L671 X671 hQ671 => ?_)
  obtain ⟨rfl, N671q, hQ671⟩ := hQ671
  have N671 := Fr.app N0 N671q
  obtain ⟨T672, X672, e672, st672⟩ := castY X671 hx hZ hown (ow hw 254 rfl) hQ671 (Ins.of_exa (own_PW.x_pp u668_8) (ow hw 313 rfl)) (g := (mkF m 13 #[.val (.ref sb), .val (.long p1), .second, .val (.long (Int64.ofNat (own_u p1 / 256))), .second, .unset] [.ref pp])) rfl rfl (D.on 8 rfl)
  refine Rch.of (T' := T672) (g' := (mkF m 16 #[.val (.ref sb), .val (.long p1), .second, .val (.long (Int64.ofNat (own_u p1 / 256))), .second, .unset] [.ref pp])) st672 ?_
  refine zas X672 D 9 (l' := #[.val (.ref sb), .val (.long p1), .second, .val (.long (Int64.ofNat (own_u p1 / 256))), .second, .val (.ref pp)]) rfl rfl rfl rfl (za X672 D 10 rfl rfl rfl rfl (zifnullNo X672 D 11 rfl rfl (za X672 D 14 rfl rfl rfl rfl (zlN X672 D 15 rfl rfl rfl  (zst (W := 1) X672 D 16 hZ me58 hown (ow hw 273 rfl) (ow hw 274 rfl) (ow hw 115 rfl) (ow hw 275 rfl) e672 (rnBI lh Z a0 hw [] p1 h0 n0 Z0 ) hml [.long p1] [.ref pp] (lenOf pd_21 rfl) rfl rfl rfl rfl rfl rfl (by decide) (by decide) fun v673 T673 L673 X673 hQ673 => ?_)))))
  obtain ⟨rfl, N673q, hQ673⟩ := hQ673
  have N673 := Fr.app N671 N673q
  refine zvs X673 D 17 hZ me57 hown (ow hw 314 rfl) (ow hw 315 rfl) (ow hw 317 rfl) (ow hw 316 rfl) (ow hw 318 rfl) (ow hw 256 rfl) hQ673 (own_PW.x_pp u668_8) (rnQ1 lh Z a0 hw [] pp wa (own_u p1 % 256) (own_yw p1) h0 n0 Z0 u668_8 (Nat.mod_lt _ (by decide)) (own_yw_hit p1) g4 g5) hml [.int (Int32.ofNat (own_u p1 % 256))] [] (lenOf pd_26 rfl) rfl rfl rfl rfl rfl rfl (by decide) (by decide) fun v674 T674 L674 X674 hQ674 => ?_
  obtain ⟨rfl, N674q, hQ674⟩ := hQ674
  have N674 := Fr.app N673 N674q
  obtain ⟨K674, E674q, F674q⟩ := hQ674
  have nc675 : sb ≠ pp := own_exane u668_0 (own_PW.x_pp u668_8) (by decide)
  have nc676 : sb ≠ wa := own_exane u668_0 (own_PW.x_wa u668_8) (by decide)
  have nc677 : pg ≠ pp := own_exane (own_P1.x_pg u668_3) (own_PW.x_pp u668_8) (by decide)
  have nc678 : pg ≠ wa := own_exane (own_P1.x_pg u668_3) (own_PW.x_wa u668_8) (by decide)
  have nc679 : na ≠ pp := own_exane (own_P1.x_na u668_3) (own_PW.x_pp u668_8) (by decide)
  have nc680 : pa ≠ pp := own_exane u668_5 (own_PW.x_pp u668_8) (by decide)
  have nc681 : pa ≠ wa := own_exane u668_5 (own_PW.x_wa u668_8) (by decide)
  have Fb682 := ((Keep.refl h0 [sb, pg, na, pa, pp, wa]).trans K674 (allS (Or.inl (List.mem_of_getElem? (i := 4) rfl)) (allS (Or.inl (List.mem_of_getElem? (i := 5) rfl)) all0)))
  refine zY X674 D 18 37 rfl rfl ((if0 _ _).trans (feq ((by decide) : ¬ ((1 : Int32) = (0 : Int32)))).2) rfl (zaN X674 D 19 rfl rfl rfl rfl (zdu X674 D 20 rfl rfl rfl (zgf X674 D 21 hZ hown (ow hw 284 rfl) rfl (u668_2.keep K674 (ninS nc675 (ninS nc676 nin0))) rfl rfl fun T683 X683 e683 => ?_)))
  refine zic X683 D 22 1 rfl rfl rfl (zisub X683 D 23 0 rfl rfl rfl (zpf X683 D 24 hZ hown (ow hw 284 rfl) e683 (u668_2.keep K674 (ninS nc675 (ninS nc676 nin0))) (u668_0.keep K674) (Or.inl (ow hw 285 rfl)) (ow hw 114 rfl) .int (by decide) rfl rfl rfl rfl fun T684 h684 X684 e684 W684 => ?_))
  have N684 := Fr.snoc X684 N674 g0
  have Fw684 := Fld.same W684 (u668_2.keep K674 (ninS nc675 (ninS nc676 nin0)))
  have nc685 : pg ≠ sb := own_exane (own_P1.x_pg (own_P1.keep u668_3 K674 (ninS nc677 (ninS nc678 nin0)) (ninS nc679 (ninS u668_10 nin0)))) (u668_0.keep K674) (by decide)
  have nc686 : na ≠ sb := own_exane (own_P1.x_na (own_P1.keep u668_3 K674 (ninS nc677 (ninS nc678 nin0)) (ninS nc679 (ninS u668_10 nin0)))) (u668_0.keep K674) (by decide)
  have nc687 : pa ≠ sb := own_exane (u668_5.keep K674) (u668_0.keep K674) (by decide)
  refine za X684 D 25 rfl rfl rfl rfl ?_
  refine Rch.of (T' := T684) (g' := (mkF m 52 #[.val (.ref sb), .val (.long p1), .second, .val (.long (Int64.ofNat (own_u p1 / 256))), .second, .val (.ref pp)] [.int (0 : Int32)])) (own_getR X684 hx hZ hown (ow hw 320 rfl) e684 (F674q.other W684 (Or.inl (Ne.symm nc675))) (g := (mkF m 49 #[.val (.ref sb), .val (.long p1), .second, .val (.long (Int64.ofNat (own_u p1 / 256))), .second, .val (.ref pp)] [.ref pp])) rfl rfl (D.on 26 rfl)) ?_
  refine zN X684 D 27 rfl rfl ((if0 _ _).trans (teq ((by decide) : (0 : Int32) = (0 : Int32))).2) (zaN X684 D 28 rfl rfl rfl rfl (zgf X684 D 29 hZ hown (ow hw 134 rfl) e684 ((u668_1.keep K674 (ninS nc675 (ninS nc676 nin0))).other W684 (Or.inr (sn68 hw))) rfl rfl fun T688 X688 e688 => ?_))
  refine zlN X688 D 30 rfl rfl rfl  (zvs X688 D 31 hZ me54 hown (ow hw 321 rfl) (ow hw 322 rfl) (ow hw 324 rfl) (ow hw 323 rfl) (ow hw 325 rfl) (ow hw 122 rfl) e688 (own_P1.x_pg (own_P1.keep (own_P1.keep u668_3 K674 (ninS nc677 (ninS nc678 nin0)) (ninS nc679 (ninS u668_10 nin0))) (Keep.of_wr W684) (ninS nc685 nin0) (ninS nc686 nin0))) (rnPR lh Z a0 hw [] pg na (Int64.ofNat (own_u p1 / 256)) yn pa pp h684 n0 (Nat.le_trans (Nat.le_trans Z0 K674.1) (Keep.of_wr W684).1) (own_P1.keep (own_P1.keep u668_3 K674 (ninS nc677 (ninS nc678 nin0)) (ninS nc679 (ninS u668_10 nin0))) (Keep.of_wr W684) (ninS nc685 nin0) (ninS nc686 nin0)) u668_9 ((u668_4.keep K674 (ninS nc677 (ninS nc678 nin0))).other W684 (Or.inl nc685)) ((u668_5.keep K674).wr W684) ((u668_7.keep K674 (ninS nc680 (ninS nc681 nin0))).other W684 nc687) g1 g2 g3) hml [.long (Int64.ofNat (own_u p1 / 256))] [] (lenOf pd_19 rfl) rfl rfl rfl rfl rfl rfl (by decide) (by decide) fun v689 T689 L689 X689 hQ689 => ?_)
  obtain ⟨rfl, N689q, hQ689⟩ := hQ689
  have N689 := Fr.app N684 N689q
  obtain ⟨K689, Pq689_0⟩ := hQ689
  have Fb690 := (((u668_1.keep K674 (ninS nc675 (ninS nc676 nin0))).other W684 (Or.inr (sn68 hw))).keep K689 (ninS (Ne.symm nc685) (ninS (Ne.symm nc686) (ninS (Ne.symm nc687) nin0))))
  have Fb691 := ((Fb682.wr W684 (Or.inl (List.mem_of_getElem? (i := 0) rfl))).trans K689 (allS (Or.inl (List.mem_of_getElem? (i := 1) rfl)) (allS (Or.inl (List.mem_of_getElem? (i := 2) rfl)) (allS (Or.inl (List.mem_of_getElem? (i := 3) rfl)) all0))))
  refine zic X689 D 32 1 rfl rfl rfl ?_
  exact Rch.retN X689 hx (t := .boolean) hret (by simp) hlk (D.on 33 rfl) (fun U hU hF => hK _ U _ _ _ (by show Q_rnS1 Z sb pg na pa pp wa p1 yn h0 n0 _ U.heap _; rw [hU]; exact ⟨rfl, N689, Fb691, ⟨(((u668_0.keep K674).wr W684).keep K689), Fb690, (Fw684.keep K689 (ninS (Ne.symm nc685) (ninS (Ne.symm nc686) (ninS (Ne.symm nc687) nin0)))), Pq689_0⟩⟩) hF (by decide) (by decide))
def Q_rnS2 (Z : State) (sb pg na pa pp wa : Addr) (s : Int64) (yn : Nat → Int64) (p1 : Int64) (h0 : Heap) (n0 : Nat) (vv_ : Option Value) (h : Heap) (LL_ : List Loc) : Prop := vv_ = some (.int (0 : Int32)) ∧ Fr n0 LL_ ∧ (h = h0)
theorem rnS2 (lh : Launch) (Z : State) (a0 : Array Value) (hw : HW a0 Z) (ws : List Jvm.Cond) (sb pg na pa pp wa : Addr) (s : Int64) (yn : Nat → Int64) (p1 : Int64) (h0 : Heap) (n0 : Nat) (Z0 : n0 ≤ h0.size) (H0 : own_S1 Z h0 sb pg na pa pp wa s yn) (hne : p1 ≠ s) :
    MF lh Z me61 (.code me61 prog_63_method_4_code 6 (some .boolean)) ws ⟨4, 0, 0, 69⟩ #[.ref sb, .long p1] h0 (Q_rnS2 Z sb pg na pa pp wa s yn p1 h0 n0) := by
  refine own_met (y := me61) (plainFor_of_name pn_12) ?_
  intro p ev sT m below meth c T0 K hx hby hml hret hlk hown hnm hZ X0 e0 hK
  have N0 := Fr.nil n0
  have D : DB p c Ld57 := DB.of hx hby d57
  refine Rch.cast (g' := mkF m 0 #[.val (.ref sb), .val (.long p1), .second, .unset, .unset, .unset] []) (by first | rfl | simp [entryFrame, mkF, argsToLocals, Value.category]) ?_
  obtain ⟨u692_0, u692_1, u692_2, u692_3, u692_4, u692_5, u692_6, u692_7, u692_8, u692_9, u692_10⟩ := id H0
  refine zlN X0 D 0 rfl rfl rfl  (zbipush X0 D 1 8 rfl rfl rfl (zlushr X0 D 2 _ rfl rfl rfl ?_))
  have sw693 : ((p1.toUInt64 >>> ((8 : Int32) &&& 0x3f).toInt64.toUInt64).toInt64) = (Int64.ofNat (own_u p1 / 256)) := own_sh p1
  show Rch p ev below K T0 (mkF m 4 #[.val (.ref sb), .val (.long p1), .second, .unset, .unset, .unset] [.long ((p1.toUInt64 >>> ((8 : Int32) &&& 0x3f).toInt64.toUInt64).toInt64)])
  rw [sw693]
  show Rch p ev below K T0 (mkF m 4 #[.val (.ref sb), .val (.long p1), .second, .unset, .unset, .unset] [.long (Int64.ofNat (own_u p1 / 256))])
  refine zlstoreN X0 D 3 (l' := #[.val (.ref sb), .val (.long p1), .second, .val (.long (Int64.ofNat (own_u p1 / 256))), .second, .unset]) rfl rfl rfl ?_
  by_cases hp : own_u s / 256 = own_u p1 / 256
  · skip
    refine zaN X0 D 4 rfl rfl rfl rfl (zgf X0 D 5 hZ hown (ow hw 134 rfl) e0 u692_1 rfl rfl fun T694 X694 e694 => ?_)
    refine zlN X694 D 6 rfl rfl rfl  (zvs X694 D 7 hZ me52 hown (ow hw 230 rfl) (ow hw 231 rfl) (ow hw 233 rfl) (ow hw 232 rfl) (ow hw 234 rfl) (ow hw 122 rfl) e694 (own_P1.x_pg u692_3) (rnG1 lh Z a0 hw [] pg na (Int64.ofNat (own_u p1 / 256)) yn pa pp h0 n0 Z0 u692_3 (u692_9.trans (congrArg Int64.ofNat hp)) u692_4 u692_7) hml [.long (Int64.ofNat (own_u p1 / 256))] [] (lenOf pd_20 rfl) rfl rfl rfl rfl rfl rfl (by decide) (by decide) fun v695 T695 L695 X695 hQ695 => ?_)
    obtain ⟨rfl, N695q, hQ695⟩ := hQ695
    have N695 := Fr.app N0 N695q
    obtain ⟨T696, X696, e696, st696⟩ := castY X695 hx hZ hown (ow hw 254 rfl) hQ695 (Ins.of_exa (own_PW.x_pp u692_8) (ow hw 313 rfl)) (g := (mkF m 13 #[.val (.ref sb), .val (.long p1), .second, .val (.long (Int64.ofNat (own_u p1 / 256))), .second, .unset] [.ref pp])) rfl rfl (D.on 8 rfl)
    refine Rch.of (T' := T696) (g' := (mkF m 16 #[.val (.ref sb), .val (.long p1), .second, .val (.long (Int64.ofNat (own_u p1 / 256))), .second, .unset] [.ref pp])) st696 ?_
    refine zas X696 D 9 (l' := #[.val (.ref sb), .val (.long p1), .second, .val (.long (Int64.ofNat (own_u p1 / 256))), .second, .val (.ref pp)]) rfl rfl rfl rfl (za X696 D 10 rfl rfl rfl rfl (zifnullNo X696 D 11 rfl rfl (za X696 D 14 rfl rfl rfl rfl (zlN X696 D 15 rfl rfl rfl  (zst (W := 1) X696 D 16 hZ me58 hown (ow hw 273 rfl) (ow hw 274 rfl) (ow hw 115 rfl) (ow hw 275 rfl) e696 (rnBI lh Z a0 hw [] p1 h0 n0 Z0 ) hml [.long p1] [.ref pp] (lenOf pd_21 rfl) rfl rfl rfl rfl rfl rfl (by decide) (by decide) fun v697 T697 L697 X697 hQ697 => ?_)))))
    obtain ⟨rfl, N697q, hQ697⟩ := hQ697
    have N697 := Fr.app N695 N697q
    refine zvs X697 D 17 hZ me57 hown (ow hw 314 rfl) (ow hw 315 rfl) (ow hw 317 rfl) (ow hw 316 rfl) (ow hw 318 rfl) (ow hw 256 rfl) hQ697 (own_PW.x_pp u692_8) (rnQ0 lh Z a0 hw [] pp wa (own_u p1 % 256) (own_yw s) h0 n0 Z0 u692_8 (Nat.mod_lt _ (by decide)) (own_yw_miss hne hp)) hml [.int (Int32.ofNat (own_u p1 % 256))] [] (lenOf pd_26 rfl) rfl rfl rfl rfl rfl rfl (by decide) (by decide) fun v698 T698 L698 X698 hQ698 => ?_
    obtain ⟨rfl, N698q, hQ698⟩ := hQ698
    have N698 := Fr.app N697 N698q
    refine zN X698 D 18 rfl rfl ((if0 _ _).trans (teq ((by decide) : (0 : Int32) = (0 : Int32))).2) (zic X698 D 12 0 rfl rfl rfl ?_)
    exact Rch.retN X698 hx (t := .boolean) hret (by simp) hlk (D.on 13 rfl) (fun U hU hF => hK _ U _ _ _ (by show Q_rnS2 Z sb pg na pa pp wa s yn p1 h0 n0 _ U.heap _; rw [hU, hQ698]; exact ⟨rfl, N698, rfl⟩) hF (by decide) (by decide))
  · skip
    refine zaN X0 D 4 rfl rfl rfl rfl (zgf X0 D 5 hZ hown (ow hw 134 rfl) e0 u692_1 rfl rfl fun T699 X699 e699 => ?_)
    refine zlN X699 D 6 rfl rfl rfl  (zvs X699 D 7 hZ me52 hown (ow hw 230 rfl) (ow hw 231 rfl) (ow hw 233 rfl) (ow hw 232 rfl) (ow hw 234 rfl) (ow hw 122 rfl) e699 (own_P1.x_pg u692_3) (rnG2 lh Z a0 hw [] pg na (Int64.ofNat (own_u p1 / 256)) yn h0 n0 Z0 u692_3 (fun q => hp (own_sh_inj (u692_9.symm.trans q)))) hml [.long (Int64.ofNat (own_u p1 / 256))] [] (lenOf pd_20 rfl) rfl rfl rfl rfl rfl rfl (by decide) (by decide) fun v700 T700 L700 X700 hQ700 => ?_)
    obtain ⟨rfl, N700q, hQ700⟩ := hQ700
    have N700 := Fr.app N0 N700q
    refine Rch.of (T' := T700) (g' := (mkF m 16 #[.val (.ref sb), .val (.long p1), .second, .val (.long (Int64.ofNat (own_u p1 / 256))), .second, .unset] [.null])) (X700.checkcastNull hx (g := (mkF m 13 #[.val (.ref sb), .val (.long p1), .second, .val (.long (Int64.ofNat (own_u p1 / 256))), .second, .unset] [.null])) rfl rfl (D.on 8 rfl)) ?_
    refine zas X700 D 9 (l' := #[.val (.ref sb), .val (.long p1), .second, .val (.long (Int64.ofNat (own_u p1 / 256))), .second, .val .null]) rfl rfl rfl rfl (za X700 D 10 rfl rfl rfl rfl (zifnullYes X700 D 11 35 rfl rfl rfl (zic X700 D 12 0 rfl rfl rfl ?_)))
    exact Rch.retN X700 hx (t := .boolean) hret (by simp) hlk (D.on 13 rfl) (fun U hU hF => hK _ U _ _ _ (by show Q_rnS2 Z sb pg na pa pp wa s yn p1 h0 n0 _ U.heap _; rw [hU, hQ700]; exact ⟨rfl, N700, rfl⟩) hF (by decide) (by decide))
def Q_rnME (Z : State) (mv : Addr) (z r : Int32) (h0 : Heap) (n0 : Nat) (vv_ : Option Value) (h : Heap) (LL_ : List Loc) : Prop := vv_ = some (.int r) ∧ Fr n0 LL_ ∧ (h = h0)
def Ld58 : List (Nat × Instr × Nat) := [(0, .aload_n 0, 1), (1, .getfield 16, 3), (4, .ifCond .ne 7, 3), (7, .iconst 1, 1), (8, .goto 4, 3), (12, .ireturn, 1), (11, .iconst 0, 1)]
theorem d58 : ∀ q ∈ Ld58, decode prog_45_method_4_code q.1 = .ok q.2 := by decide +kernel
abbrev me62 : MethodName := ⟨"com/example/kept_till_acked/kepttillacked/queue/MovedRuns", "isEmpty", "()Z"⟩
theorem rnME (lh : Launch) (Z : State) (a0 : Array Value) (hw : HW a0 Z) (ws : List Jvm.Cond) (mv : Addr) (z r : Int32) (h0 : Heap) (n0 : Nat) (Z0 : n0 ≤ h0.size) (F1 : Fld Z h0 mv "com/example/kept_till_acked/kepttillacked/queue/MovedRuns" "size" "I" (.int z)) (hr : (if z = (0 : Int32) then (1 : Int32) else 0) = r) :
    MF lh Z me62 (.code me62 prog_45_method_4_code 1 (some .boolean)) ws ⟨0, 0, 0, 0⟩ #[.ref mv] h0 (Q_rnME Z mv z r h0 n0) := by
  refine own_met (y := me62) (plainFor_of_name pn_13) ?_
  intro p ev sT m below meth c T0 K hx hby hml hret hlk hown hnm hZ X0 e0 hK
  have N0 := Fr.nil n0
  have D : DB p c Ld58 := DB.of hx hby d58
  refine Rch.cast (g' := mkF m 0 #[.val (.ref mv)] []) (by first | rfl | simp [entryFrame, mkF, argsToLocals, Value.category]) ?_
  refine zaN X0 D 0 rfl rfl rfl rfl (zgf X0 D 1 hZ hown (ow hw 337 rfl) e0 F1 rfl rfl fun T701 X701 e701 => ?_)
  by_cases c702 : z = (0 : Int32)
  · skip
    refine zN X701 D 2 rfl rfl ((if0 _ _).trans (teq c702).2) (zic X701 D 3 1 rfl rfl rfl (zgo X701 D 4 12 rfl rfl rfl ?_))
    exact Rch.retN X701 hx (t := .boolean) hret (by simp) hlk (D.on 5 rfl) (fun U hU hF => hK _ U _ _ _ (by show Q_rnME Z mv z r h0 n0 _ U.heap _; rw [hU, e701]; exact ⟨by rw [← hr, if_pos c702]; rfl, N0, rfl⟩) hF (by decide) (by decide))
  · skip
    refine zY X701 D 2 11 rfl rfl ((if0 _ _).trans (feq c702).2) rfl (zic X701 D 6 0 rfl rfl rfl ?_)
    exact Rch.retN X701 hx (t := .boolean) hret (by simp) hlk (D.on 5 rfl) (fun U hU hF => hK _ U _ _ _ (by show Q_rnME Z mv z r h0 n0 _ U.heap _; rw [hU, e701]; exact ⟨by rw [← hr, if_neg c702]; rfl, N0, rfl⟩) hF (by decide) (by decide))
def Q_rnRE0 (Z : State) (rl tm : Addr) (z r : Int32) (h0 : Heap) (n0 : Nat) (vv_ : Option Value) (h : Heap) (LL_ : List Loc) : Prop := vv_ = some (.int r) ∧ Fr n0 LL_ ∧ (h = h0)
def Ld59 : List (Nat × Instr × Nat) := [(0, .aload_n 0, 1), (1, .getfield 24, 3), (4, .ifCond .ne 7, 3), (7, .iconst 1, 1), (8, .goto 4, 3), (12, .ireturn, 1), (11, .iconst 0, 1)]
theorem d59 : ∀ q ∈ Ld59, decode prog_56_method_3_code q.1 = .ok q.2 := by decide +kernel
abbrev me63 : MethodName := ⟨"com/example/kept_till_acked/kepttillacked/queue/ReadyLine", "isEmpty", "()Z"⟩
theorem rnRE0 (lh : Launch) (Z : State) (a0 : Array Value) (hw : HW a0 Z) (ws : List Jvm.Cond) (rl tm : Addr) (z r : Int32) (h0 : Heap) (n0 : Nat) (Z0 : n0 ≤ h0.size) (HR : own_RL Z h0 rl tm z) (hr : (if z = (0 : Int32) then (1 : Int32) else 0) = r) :
    MF lh Z me63 (.code me63 prog_56_method_3_code 1 (some .boolean)) ws ⟨0, 0, 0, 0⟩ #[.ref rl] h0 (Q_rnRE0 Z rl tm z r h0 n0) := by
  refine own_met (y := me63) (plainFor_of_name pn_15) ?_
  intro p ev sT m below meth c T0 K hx hby hml hret hlk hown hnm hZ X0 e0 hK
  have N0 := Fr.nil n0
  have D : DB p c Ld59 := DB.of hx hby d59
  refine Rch.cast (g' := mkF m 0 #[.val (.ref rl)] []) (by first | rfl | simp [entryFrame, mkF, argsToLocals, Value.category]) ?_
  obtain ⟨u703_0, u703_1, u703_2⟩ := id HR
  refine zaN X0 D 0 rfl rfl rfl rfl (zgf X0 D 1 hZ hown (ow hw 45 rfl) e0 u703_2 rfl rfl fun T704 X704 e704 => ?_)
  by_cases c705 : z = (0 : Int32)
  · skip
    refine zN X704 D 2 rfl rfl ((if0 _ _).trans (teq c705).2) (zic X704 D 3 1 rfl rfl rfl (zgo X704 D 4 12 rfl rfl rfl ?_))
    exact Rch.retN X704 hx (t := .boolean) hret (by simp) hlk (D.on 5 rfl) (fun U hU hF => hK _ U _ _ _ (by show Q_rnRE0 Z rl tm z r h0 n0 _ U.heap _; rw [hU, e704]; exact ⟨by rw [← hr, if_pos c705]; rfl, N0, rfl⟩) hF (by decide) (by decide))
  · skip
    refine zY X704 D 2 11 rfl rfl ((if0 _ _).trans (feq c705).2) rfl (zic X704 D 6 0 rfl rfl rfl ?_)
    exact Rch.retN X704 hx (t := .boolean) hret (by simp) hlk (D.on 5 rfl) (fun U hU hF => hK _ U _ _ _ (by show Q_rnRE0 Z rl tm z r h0 n0 _ U.heap _; rw [hU, e704]; exact ⟨by rw [← hr, if_neg c705]; rfl, N0, rfl⟩) hF (by decide) (by decide))
def Q_rnMA (Z : State) (mv ad el : Addr) (p1 p2 : Int64) (h0 : Heap) (n0 : Nat) (vv_ : Option Value) (h : Heap) (LL_ : List Loc) : Prop := ∃ ck : Addr, ∃ yc : Nat → Int64, vv_ = none ∧ Fr n0 LL_ ∧ (h0.size ≤ ck ∧ Keep h0 h [mv, ad, el] ∧ own_M1 Z h mv ad el ck p1 yc)
def Ld60 : List (Nat × Instr × Nat) := [(0, .aload_n 0, 1), (1, .getfield 10, 3), (4, .invokevirtual 23, 3), (7, .checkcast 27, 3), (10, .astore 5, 2), (12, .aload_n 0, 1), (13, .getfield 29, 3), (16, .iconst 1, 1), (17, .isub, 1), (18, .iconst 3, 1), (19, .imul, 1), (20, .istore 6, 2), (22, .aload 5, 2), (24, .ifnull 37, 3), (61, .aload 5, 2), (63, .ifnull 55, 3), (118, .aload 5, 2), (120, .ifnull 15, 3), (135, .aload 5, 2), (137, .ifnonnull 7, 3), (140, .iconst 4, 1), (141, .goto 16, 3), (157, .iconst 3, 1), (158, .imul, 1), (159, .newarray .long, 2), (161, .astore 5, 2), (163, .aload_n 0, 1), (164, .getfield 10, 3), (167, .aload 5, 2), (169, .invokevirtual 51, 3), (172, .aload_n 0, 1), (173, .iconst 0, 1), (174, .putfield 29, 3), (177, .aload_n 0, 1), (178, .getfield 29, 3), (181, .iconst 3, 1), (182, .imul, 1), (183, .istore 6, 2), (185, .aload 5, 2), (187, .iload 6, 2), (189, .lload_n 1, 1), (190, .lastore, 1), (191, .aload 5, 2), (193, .iload 6, 2), (195, .iconst 1, 1), (196, .iadd, 1), (197, .lload_n 1, 1), (198, .lastore, 1), (199, .aload 5, 2), (201, .iload 6, 2), (203, .iconst 2, 1), (204, .iadd, 1), (205, .lload_n 3, 1), (206, .lastore, 1), (207, .aload_n 0, 1), (208, .dup, 1), (209, .getfield 29, 3), (212, .iconst 1, 1), (213, .iadd, 1), (214, .putfield 29, 3), (217, .aload_n 0, 1), (218, .dup, 1), (219, .getfield 20, 3), (222, .iconst 1, 1), (223, .iadd, 1), (224, .putfield 20, 3), (227, .aload_n 0, 1), (228, .dup, 1), (229, .getfield 16, 3), (232, .iconst 1, 1), (233, .iadd, 1), (234, .putfield 16, 3), (237, .aload_n 0, 1), (238, .iconst 0, 1), (239, .putfield 41, 3), (242, .return_, 1)]
theorem d60 : ∀ q ∈ Ld60, decode prog_45_method_5_code q.1 = .ok q.2 := by decide +kernel
abbrev me64 : MethodName := ⟨"com/example/kept_till_acked/kepttillacked/queue/MovedRuns", "add", "(JJ)V"⟩
def sn69 {a0 : Array Value} {Z : State} (hw : HW a0 Z) := slot_ne (C := "com/example/kept_till_acked/kepttillacked/queue/MovedRuns") (Or.inr (ow hw 162 rfl)) (Or.inl (ow hw 378 rfl)) (by decide) (t := (.object "java/util/ArrayDeque")) (t' := .int) (by decide) (by decide)
def sn70 {a0 : Array Value} {Z : State} (hw : HW a0 Z) := slot_ne (C := "com/example/kept_till_acked/kepttillacked/queue/MovedRuns") (Or.inl (ow hw 407 rfl)) (Or.inl (ow hw 378 rfl)) (by decide) (t := .int) (t' := .int) (by decide) (by decide)
def sn71 {a0 : Array Value} {Z : State} (hw : HW a0 Z) := slot_ne (C := "com/example/kept_till_acked/kepttillacked/queue/MovedRuns") (Or.inl (ow hw 409 rfl)) (Or.inl (ow hw 378 rfl)) (by decide) (t := .long) (t' := .int) (by decide) (by decide)
def sn72 {a0 : Array Value} {Z : State} (hw : HW a0 Z) := slot_ne (C := "com/example/kept_till_acked/kepttillacked/queue/MovedRuns") (Or.inl (ow hw 338 rfl)) (Or.inl (ow hw 378 rfl)) (by decide) (t := .int) (t' := .int) (by decide) (by decide)
def sn73 {a0 : Array Value} {Z : State} (hw : HW a0 Z) := slot_ne (C := "com/example/kept_till_acked/kepttillacked/queue/MovedRuns") (Or.inl (ow hw 391 rfl)) (Or.inl (ow hw 378 rfl)) (by decide) (t := .int) (t' := .int) (by decide) (by decide)
def sn74 {a0 : Array Value} {Z : State} (hw : HW a0 Z) := slot_ne (C := "com/example/kept_till_acked/kepttillacked/queue/MovedRuns") (Or.inl (ow hw 393 rfl)) (Or.inl (ow hw 378 rfl)) (by decide) (t := .boolean) (t' := .int) (by decide) (by decide)
def sn75 {a0 : Array Value} {Z : State} (hw : HW a0 Z) := slot_ne (C := "com/example/kept_till_acked/kepttillacked/queue/MovedRuns") (Or.inr (ow hw 162 rfl)) (Or.inl (ow hw 391 rfl)) (by decide) (t := (.object "java/util/ArrayDeque")) (t' := .int) (by decide) (by decide)
def sn76 {a0 : Array Value} {Z : State} (hw : HW a0 Z) := slot_ne (C := "com/example/kept_till_acked/kepttillacked/queue/MovedRuns") (Or.inl (ow hw 407 rfl)) (Or.inl (ow hw 391 rfl)) (by decide) (t := .int) (t' := .int) (by decide) (by decide)
def sn77 {a0 : Array Value} {Z : State} (hw : HW a0 Z) := slot_ne (C := "com/example/kept_till_acked/kepttillacked/queue/MovedRuns") (Or.inl (ow hw 409 rfl)) (Or.inl (ow hw 391 rfl)) (by decide) (t := .long) (t' := .int) (by decide) (by decide)
def sn78 {a0 : Array Value} {Z : State} (hw : HW a0 Z) := slot_ne (C := "com/example/kept_till_acked/kepttillacked/queue/MovedRuns") (Or.inl (ow hw 378 rfl)) (Or.inl (ow hw 391 rfl)) (by decide) (t := .int) (t' := .int) (by decide) (by decide)
def sn79 {a0 : Array Value} {Z : State} (hw : HW a0 Z) := slot_ne (C := "com/example/kept_till_acked/kepttillacked/queue/MovedRuns") (Or.inl (ow hw 338 rfl)) (Or.inl (ow hw 391 rfl)) (by decide) (t := .int) (t' := .int) (by decide) (by decide)
def sn80 {a0 : Array Value} {Z : State} (hw : HW a0 Z) := slot_ne (C := "com/example/kept_till_acked/kepttillacked/queue/MovedRuns") (Or.inl (ow hw 393 rfl)) (Or.inl (ow hw 391 rfl)) (by decide) (t := .boolean) (t' := .int) (by decide) (by decide)
def sn81 {a0 : Array Value} {Z : State} (hw : HW a0 Z) := slot_ne (C := "com/example/kept_till_acked/kepttillacked/queue/MovedRuns") (Or.inr (ow hw 162 rfl)) (Or.inl (ow hw 338 rfl)) (by decide) (t := (.object "java/util/ArrayDeque")) (t' := .int) (by decide) (by decide)
def sn82 {a0 : Array Value} {Z : State} (hw : HW a0 Z) := slot_ne (C := "com/example/kept_till_acked/kepttillacked/queue/MovedRuns") (Or.inl (ow hw 407 rfl)) (Or.inl (ow hw 338 rfl)) (by decide) (t := .int) (t' := .int) (by decide) (by decide)
def sn83 {a0 : Array Value} {Z : State} (hw : HW a0 Z) := slot_ne (C := "com/example/kept_till_acked/kepttillacked/queue/MovedRuns") (Or.inl (ow hw 409 rfl)) (Or.inl (ow hw 338 rfl)) (by decide) (t := .long) (t' := .int) (by decide) (by decide)
def sn84 {a0 : Array Value} {Z : State} (hw : HW a0 Z) := slot_ne (C := "com/example/kept_till_acked/kepttillacked/queue/MovedRuns") (Or.inl (ow hw 378 rfl)) (Or.inl (ow hw 338 rfl)) (by decide) (t := .int) (t' := .int) (by decide) (by decide)
def sn85 {a0 : Array Value} {Z : State} (hw : HW a0 Z) := slot_ne (C := "com/example/kept_till_acked/kepttillacked/queue/MovedRuns") (Or.inl (ow hw 391 rfl)) (Or.inl (ow hw 338 rfl)) (by decide) (t := .int) (t' := .int) (by decide) (by decide)
def sn86 {a0 : Array Value} {Z : State} (hw : HW a0 Z) := slot_ne (C := "com/example/kept_till_acked/kepttillacked/queue/MovedRuns") (Or.inl (ow hw 393 rfl)) (Or.inl (ow hw 338 rfl)) (by decide) (t := .boolean) (t' := .int) (by decide) (by decide)
def sn87 {a0 : Array Value} {Z : State} (hw : HW a0 Z) := slot_ne (C := "com/example/kept_till_acked/kepttillacked/queue/MovedRuns") (Or.inr (ow hw 162 rfl)) (Or.inl (ow hw 393 rfl)) (by decide) (t := (.object "java/util/ArrayDeque")) (t' := .boolean) (by decide) (by decide)
def sn88 {a0 : Array Value} {Z : State} (hw : HW a0 Z) := slot_ne (C := "com/example/kept_till_acked/kepttillacked/queue/MovedRuns") (Or.inl (ow hw 407 rfl)) (Or.inl (ow hw 393 rfl)) (by decide) (t := .int) (t' := .boolean) (by decide) (by decide)
def sn89 {a0 : Array Value} {Z : State} (hw : HW a0 Z) := slot_ne (C := "com/example/kept_till_acked/kepttillacked/queue/MovedRuns") (Or.inl (ow hw 409 rfl)) (Or.inl (ow hw 393 rfl)) (by decide) (t := .long) (t' := .boolean) (by decide) (by decide)
def sn90 {a0 : Array Value} {Z : State} (hw : HW a0 Z) := slot_ne (C := "com/example/kept_till_acked/kepttillacked/queue/MovedRuns") (Or.inl (ow hw 378 rfl)) (Or.inl (ow hw 393 rfl)) (by decide) (t := .int) (t' := .boolean) (by decide) (by decide)
def sn91 {a0 : Array Value} {Z : State} (hw : HW a0 Z) := slot_ne (C := "com/example/kept_till_acked/kepttillacked/queue/MovedRuns") (Or.inl (ow hw 338 rfl)) (Or.inl (ow hw 393 rfl)) (by decide) (t := .int) (t' := .boolean) (by decide) (by decide)
def sn92 {a0 : Array Value} {Z : State} (hw : HW a0 Z) := slot_ne (C := "com/example/kept_till_acked/kepttillacked/queue/MovedRuns") (Or.inl (ow hw 391 rfl)) (Or.inl (ow hw 393 rfl)) (by decide) (t := .int) (t' := .boolean) (by decide) (by decide)
theorem rnMA (lh : Launch) (Z : State) (a0 : Array Value) (hw : HW a0 Z) (ws : List Jvm.Cond) (mv ad el : Addr) (p1 p2 : Int64) (h0 : Heap) (n0 : Nat) (Z0 : n0 ≤ h0.size) (H0 : own_M0 Z h0 mv ad el) (g0 : n0 ≤ mv) (g1 : n0 ≤ ad) (g2 : n0 ≤ el) :
    MF lh Z me64 (.code me64 prog_45_method_5_code 7 none) ws ⟨2, 1, 12, 29⟩ #[.ref mv, .long p1, .long p2] h0 (Q_rnMA Z mv ad el p1 p2 h0 n0) := by
  refine own_met (y := me64) (plainFor_of_name pn_13) ?_
  intro p ev sT m below meth c T0 K hx hby hml hret hlk hown hnm hZ X0 e0 hK
  have N0 := Fr.nil n0
  have D : DB p c Ld60 := DB.of hx hby d60
  refine Rch.cast (g' := mkF m 0 #[.val (.ref mv), .val (.long p1), .second, .val (.long p2), .second, .unset, .unset] []) (by first | rfl | simp [entryFrame, mkF, argsToLocals, Value.category]) ?_
  obtain ⟨u706_0, u706_1, u706_2, u706_3, u706_4, u706_5, u706_6, u706_7, u706_8, u706_9, u706_10, u706_11, u706_12, u706_13, u706_14⟩ := id H0
  refine zaN X0 D 0 rfl rfl rfl rfl (zgf X0 D 1 hZ hown (ow hw 161 rfl) e0 u706_1 rfl rfl fun T707 X707 e707 => ?_)
  refine zvs X707 D 2 hZ me4 hown (ow hw 364 rfl) (ow hw 365 rfl) (ow hw 367 rfl) (ow hw 366 rfl) (ow hw 368 rfl) (ow hw 147 rfl) e707 u706_8 (rm7 lh Z a0 hw [] ad el 0 (fun _ => .null) .null h0 n0 Z0 u706_9 u706_11 u706_14 (by decide) rfl rfl) hml [] [] (lenOf pd_32 rfl) rfl rfl rfl rfl rfl rfl (by decide) (by decide) fun v708 T708 L708 X708 hQ708 => ?_
  obtain ⟨rfl, N708q, hQ708⟩ := hQ708
  have N708 := Fr.app N0 N708q
  refine Rch.of (T' := T708) (g' := (mkF m 10 #[.val (.ref mv), .val (.long p1), .second, .val (.long p2), .second, .unset, .unset] [.null])) (X708.checkcastNull hx (g := (mkF m 7 #[.val (.ref mv), .val (.long p1), .second, .val (.long p2), .second, .unset, .unset] [.null])) rfl rfl (D.on 3 rfl)) ?_
  refine zas X708 D 4 (l' := #[.val (.ref mv), .val (.long p1), .second, .val (.long p2), .second, .val .null, .unset]) rfl rfl rfl rfl (zaN X708 D 5 rfl rfl rfl rfl (zgf X708 D 6 hZ hown (ow hw 377 rfl) hQ708 u706_4 rfl rfl fun T709 X709 e709 => ?_))
  refine zic X709 D 7 1 rfl rfl rfl (zisub X709 D 8 (-1) rfl rfl rfl (zic X709 D 9 3 rfl rfl rfl (zimul X709 D 10 (-3) rfl rfl rfl (zis X709 D 11 (l' := #[.val (.ref mv), .val (.long p1), .second, .val (.long p2), .second, .val .null, .val (.int (-3 : Int32))]) rfl rfl rfl (za X709 D 12 rfl rfl rfl rfl (zifnullYes X709 D 13 61 rfl rfl rfl (za X709 D 14 rfl rfl rfl rfl (zifnullYes X709 D 15 118 rfl rfl rfl (za X709 D 16 rfl rfl rfl rfl (zifnullYes X709 D 17 135 rfl rfl rfl (za X709 D 18 rfl rfl rfl rfl (zifnonnullNo X709 D 19 rfl rfl (zic X709 D 20 4 rfl rfl rfl (zgo X709 D 21 157 rfl rfl rfl (zic X709 D 22 3 rfl rfl rfl (zimul X709 D 23 12 rfl rfl rfl ?_))))))))))))))))
  obtain ⟨T710, h710, k710, X710, e710, E710, A710, Q710, st710⟩ := newPE X709 hx hZ (ow hw 127 rfl) e709 (g := (mkF m 159 #[.val (.ref mv), .val (.long p1), .second, .val (.long p2), .second, .val .null, .val (.int (-3 : Int32))] [.int (12 : Int32)])) rfl (D.on 24 rfl) rfl (by decide) (cap := 12) (by decide) (by decide) (by decide) (by decide) (ad := "[J") rfl
  obtain ⟨b710, g710⟩ : ∃ zz_, zz_ = h0.size := ⟨_, rfl⟩
  have ge_b710 : n0 ≤ b710 := Nat.le_trans Z0 (Nat.le_of_eq g710.symm)
  have sz_b710 : h0.size ≤ b710 := Nat.le_trans (Keep.refl h0 [mv, ad, el]).1 (Nat.le_of_eq g710.symm)
  rw [← g710] at A710 Q710 st710
  have V710 : Av Z h710 b710 .long 12 (fun _ => (.long (0 : Int64))) := Av.new A710 (by decide)
  refine Rch.of (T' := T710) (g' := (mkF m 161 #[.val (.ref mv), .val (.long p1), .second, .val (.long p2), .second, .val .null, .val (.int (-3 : Int32))] [.ref b710])) st710 ?_
  refine zas X710 D 25 (l' := #[.val (.ref mv), .val (.long p1), .second, .val (.long p2), .second, .val (.ref b710), .val (.int (-3 : Int32))]) rfl rfl rfl rfl (zaN X710 D 26 rfl rfl rfl rfl (zgf X710 D 27 hZ hown (ow hw 161 rfl) e710 (u706_1.ext E710) rfl rfl fun T711 X711 e711 => ?_))
  refine za X711 D 28 rfl rfl rfl rfl ?_
  have nc713 : ad ≠ el := own_exane (u706_8.ext E710) (u706_12.ext E710) (by decide)
  have nl714 : el ≠ b710 := Nat.ne_of_lt (Nat.lt_of_lt_of_le u706_12.lt (Nat.le_of_eq g710.symm))
  have nl715 : ad ≠ b710 := Nat.ne_of_lt (Nat.lt_of_lt_of_le u706_8.lt (Nat.le_of_eq g710.symm))
  refine zvs X711 D 29 hZ me7 hown (ow hw 379 rfl) (ow hw 380 rfl) (ow hw 382 rfl) (ow hw 381 rfl) (ow hw 383 rfl) (ow hw 147 rfl) e711 (u706_8.ext E710) (rm10 lh Z a0 hw [] ad b710 el 0 h710 n0 (Nat.le_trans Z0 E710.1) (u706_8.ext E710) Q710 (u706_13.ext E710) (u706_9.ext E710) (u706_11.ext E710) (u706_10.ext E710) (u706_14.ext E710) g1 g2 nc713 (Ne.symm nl714) (Ne.symm nl715) (by decide)) hml [.ref b710] [] (lenOf pd_34 rfl) rfl rfl rfl rfl rfl rfl (by decide) (by decide) fun v712 T712 L712 X712 hQ712 => ?_
  obtain ⟨rfl, N712q, hQ712⟩ := hQ712
  have N712 := Fr.app N708 N712q
  obtain ⟨K712, Fa712, Fb712, Fc712, Va712⟩ := hQ712
  have nc716 : mv ≠ ad := own_exane (u706_0.ext E710) (u706_8.ext E710) (by decide)
  have nc717 : mv ≠ el := own_exane (u706_0.ext E710) (u706_12.ext E710) (by decide)
  have Fb718 := (((Keep.refl h0 [mv, ad, el]).ext E710).trans K712 (allS (Or.inl (List.mem_of_getElem? (i := 1) rfl)) (allS (Or.inl (List.mem_of_getElem? (i := 2) rfl)) all0)))
  refine zaN X712 D 30 rfl rfl rfl rfl (zic X712 D 31 0 rfl rfl rfl (zpf X712 D 32 hZ hown (ow hw 377 rfl) rfl ((u706_4.ext E710).keep K712 (ninS nc716 (ninS nc717 nin0))) ((u706_0.ext E710).keep K712) (Or.inl (ow hw 378 rfl)) (ow hw 139 rfl) .int (by decide) rfl rfl rfl rfl fun T719 h719 X719 e719 W719 => ?_))
  have N719 := Fr.snoc X719 N712 g0
  have Fw719 := Fld.same W719 ((u706_4.ext E710).keep K712 (ninS nc716 (ninS nc717 nin0)))
  have nl720 : mv ≠ b710 := Nat.ne_of_lt (Nat.lt_of_lt_of_le u706_0.lt (Nat.le_of_eq g710.symm))
  refine zaN X719 D 33 rfl rfl rfl rfl (zgf X719 D 34 hZ hown (ow hw 377 rfl) e719 Fw719 rfl rfl fun T721 X721 e721 => ?_)
  refine zic X721 D 35 3 rfl rfl rfl (zimul X721 D 36 0 rfl rfl rfl (zis X721 D 37 (l' := #[.val (.ref mv), .val (.long p1), .second, .val (.long p2), .second, .val (.ref b710), .val (.int (0 : Int32))]) rfl rfl rfl (za X721 D 38 rfl rfl rfl rfl (zi X721 D 39 rfl rfl rfl  (zlN X721 D 40 rfl rfl rfl  ?_)))))
  obtain ⟨cl722, Ar722, Sz722, Ha722⟩ := id ((V710.keep K712 (ninS (Ne.symm nl715) (ninS (Ne.symm nl714) nin0))).other W719 (Ne.symm nl720))
  obtain ⟨T722, h722, X722, e722, W722, st722⟩ := stJ X721 hx hZ e721 Ar722 (j := (0 : Int32)) (oIn (i := 0) Sz722 (by decide) (by decide)) (g := (mkF m 190 #[.val (.ref mv), .val (.long p1), .second, .val (.long p2), .second, .val (.ref b710), .val (.int (0 : Int32))] [.long p1, .int (0 : Int32), .ref b710])) rfl rfl (D.on 41 rfl)
  have V722 := Av.setJ (i := 0) ((V710.keep K712 (ninS (Ne.symm nl715) (ninS (Ne.symm nl714) nin0))).other W719 (Ne.symm nl720)) (by decide) (by decide) W722
  obtain ⟨y722, hy722⟩ : ∃ zz_ : Nat → Int64, zz_ = fun q => if q = 0 then p1 else (fun _ => (0 : Int64)) q := ⟨_, rfl⟩
  have V722 : Av Z h722 b710 .long 12 (fun q => .long (y722 q)) := by rw [hy722]; exact V722
  have N722 := Fr.snoc X722 N719 ge_b710
  refine Rch.of (T' := T722) (g' := (mkF m 191 #[.val (.ref mv), .val (.long p1), .second, .val (.long p2), .second, .val (.ref b710), .val (.int (0 : Int32))] [])) st722 ?_
  refine za X722 D 42 rfl rfl rfl rfl (zi X722 D 43 rfl rfl rfl  (zic X722 D 44 1 rfl rfl rfl (ziadd X722 D 45 1 rfl rfl rfl (zlN X722 D 46 rfl rfl rfl  ?_))))
  obtain ⟨cl723, Ar723, Sz723, Ha723⟩ := id V722
  obtain ⟨T723, h723, X723, e723, W723, st723⟩ := stJ X722 hx hZ e722 Ar723 (j := (1 : Int32)) (oIn (i := 1) Sz723 (by decide) (by decide)) (g := (mkF m 198 #[.val (.ref mv), .val (.long p1), .second, .val (.long p2), .second, .val (.ref b710), .val (.int (0 : Int32))] [.long p1, .int (1 : Int32), .ref b710])) rfl rfl (D.on 47 rfl)
  have V723 := Av.setJ (i := 1) V722 (by decide) (by decide) W723
  obtain ⟨y723, hy723⟩ : ∃ zz_ : Nat → Int64, zz_ = fun q => if q = 1 then p1 else y722 q := ⟨_, rfl⟩
  have V723 : Av Z h723 b710 .long 12 (fun q => .long (y723 q)) := by rw [hy723]; exact V723
  have N723 := Fr.snoc X723 N722 ge_b710
  refine Rch.of (T' := T723) (g' := (mkF m 199 #[.val (.ref mv), .val (.long p1), .second, .val (.long p2), .second, .val (.ref b710), .val (.int (0 : Int32))] [])) st723 ?_
  refine za X723 D 48 rfl rfl rfl rfl (zi X723 D 49 rfl rfl rfl  (zic X723 D 50 2 rfl rfl rfl (ziadd X723 D 51 2 rfl rfl rfl (zlN X723 D 52 rfl rfl rfl  ?_))))
  obtain ⟨cl724, Ar724, Sz724, Ha724⟩ := id V723
  obtain ⟨T724, h724, X724, e724, W724, st724⟩ := stJ X723 hx hZ e723 Ar724 (j := (2 : Int32)) (oIn (i := 2) Sz724 (by decide) (by decide)) (g := (mkF m 206 #[.val (.ref mv), .val (.long p1), .second, .val (.long p2), .second, .val (.ref b710), .val (.int (0 : Int32))] [.long p2, .int (2 : Int32), .ref b710])) rfl rfl (D.on 53 rfl)
  have V724 := Av.setJ (i := 2) V723 (by decide) (by decide) W724
  obtain ⟨y724, hy724⟩ : ∃ zz_ : Nat → Int64, zz_ = fun q => if q = 2 then p2 else y723 q := ⟨_, rfl⟩
  have V724 : Av Z h724 b710 .long 12 (fun q => .long (y724 q)) := by rw [hy724]; exact V724
  have N724 := Fr.snoc X724 N723 ge_b710
  have Fb725 := ((((((u706_1.ext E710).keep K712 (ninS nc716 (ninS nc717 nin0))).other W719 (Or.inr (sn69 hw))).other W722 (Or.inl nl720)).other W723 (Or.inl nl720)).other W724 (Or.inl nl720))
  have Fb726 := ((((((u706_2.ext E710).keep K712 (ninS nc716 (ninS nc717 nin0))).other W719 (Or.inr (sn70 hw))).other W722 (Or.inl nl720)).other W723 (Or.inl nl720)).other W724 (Or.inl nl720))
  have Fb727 := ((((((u706_3.ext E710).keep K712 (ninS nc716 (ninS nc717 nin0))).other W719 (Or.inr (sn71 hw))).other W722 (Or.inl nl720)).other W723 (Or.inl nl720)).other W724 (Or.inl nl720))
  have Fb728 := ((((((u706_5.ext E710).keep K712 (ninS nc716 (ninS nc717 nin0))).other W719 (Or.inr (sn72 hw))).other W722 (Or.inl nl720)).other W723 (Or.inl nl720)).other W724 (Or.inl nl720))
  have Fb729 := ((((((u706_6.ext E710).keep K712 (ninS nc716 (ninS nc717 nin0))).other W719 (Or.inr (sn73 hw))).other W722 (Or.inl nl720)).other W723 (Or.inl nl720)).other W724 (Or.inl nl720))
  have Fb730 := ((((((u706_7.ext E710).keep K712 (ninS nc716 (ninS nc717 nin0))).other W719 (Or.inr (sn74 hw))).other W722 (Or.inl nl720)).other W723 (Or.inl nl720)).other W724 (Or.inl nl720))
  have Fb731 := (Nat.le_trans (Nat.le_trans (Nat.le_trans (Nat.le_trans (Nat.le_trans (Nat.le_trans Z0 E710.1) K712.1) (Keep.of_wr W719).1) (Keep.of_wr W722).1) (Keep.of_wr W723).1) (Keep.of_wr W724).1)
  refine Rch.of (T' := T724) (g' := (mkF m 207 #[.val (.ref mv), .val (.long p1), .second, .val (.long p2), .second, .val (.ref b710), .val (.int (0 : Int32))] [])) st724 ?_
  refine zaN X724 D 54 rfl rfl rfl rfl (zdu X724 D 55 rfl rfl rfl (zgf X724 D 56 hZ hown (ow hw 377 rfl) e724 (((Fw719.other W722 (Or.inl nl720)).other W723 (Or.inl nl720)).other W724 (Or.inl nl720)) rfl rfl fun T732 X732 e732 => ?_))
  refine zic X732 D 57 1 rfl rfl rfl (ziadd X732 D 58 1 rfl rfl rfl (zpf X732 D 59 hZ hown (ow hw 377 rfl) e732 (((Fw719.other W722 (Or.inl nl720)).other W723 (Or.inl nl720)).other W724 (Or.inl nl720)) ((((((u706_0.ext E710).keep K712).wr W719).wr W722).wr W723).wr W724) (Or.inl (ow hw 378 rfl)) (ow hw 139 rfl) .int (by decide) rfl rfl rfl rfl fun T733 h733 X733 e733 W733 => ?_))
  have N733 := Fr.snoc X733 N724 g0
  have Fw733 := Fld.same W733 (((Fw719.other W722 (Or.inl nl720)).other W723 (Or.inl nl720)).other W724 (Or.inl nl720))
  have Fb734 := (((((Fa712.other W719 (Or.inl (Ne.symm nc716))).other W722 (Or.inl nl715)).other W723 (Or.inl nl715)).other W724 (Or.inl nl715)).other W733 (Or.inl (Ne.symm nc716)))
  have Fb735 := (((((Fb712.other W719 (Or.inl (Ne.symm nc716))).other W722 (Or.inl nl715)).other W723 (Or.inl nl715)).other W724 (Or.inl nl715)).other W733 (Or.inl (Ne.symm nc716)))
  have Fb736 := (((((Fc712.other W719 (Or.inl (Ne.symm nc716))).other W722 (Or.inl nl715)).other W723 (Or.inl nl715)).other W724 (Or.inl nl715)).other W733 (Or.inl (Ne.symm nc716)))
  have Fb737 := (((((Fb718.wr W719 (Or.inl (List.mem_of_getElem? (i := 0) rfl))).wr W722 (Or.inr sz_b710)).wr W723 (Or.inr sz_b710)).wr W724 (Or.inr sz_b710)).wr W733 (Or.inl (List.mem_of_getElem? (i := 0) rfl)))
  refine zaN X733 D 60 rfl rfl rfl rfl (zdu X733 D 61 rfl rfl rfl (zgf X733 D 62 hZ hown (ow hw 390 rfl) e733 (Fb729.other W733 (Or.inr (sn73 hw))) rfl rfl fun T738 X738 e738 => ?_))
  refine zic X738 D 63 1 rfl rfl rfl (ziadd X738 D 64 1 rfl rfl rfl (zpf X738 D 65 hZ hown (ow hw 390 rfl) e738 (Fb729.other W733 (Or.inr (sn73 hw))) (((((((u706_0.ext E710).keep K712).wr W719).wr W722).wr W723).wr W724).wr W733) (Or.inl (ow hw 391 rfl)) (ow hw 139 rfl) .int (by decide) rfl rfl rfl rfl fun T739 h739 X739 e739 W739 => ?_))
  have N739 := Fr.snoc X739 N733 g0
  have Fw739 := Fld.same W739 (Fb729.other W733 (Or.inr (sn73 hw)))
  refine zaN X739 D 66 rfl rfl rfl rfl (zdu X739 D 67 rfl rfl rfl (zgf X739 D 68 hZ hown (ow hw 337 rfl) e739 ((Fb728.other W733 (Or.inr (sn72 hw))).other W739 (Or.inr (sn79 hw))) rfl rfl fun T740 X740 e740 => ?_))
  refine zic X740 D 69 1 rfl rfl rfl (ziadd X740 D 70 1 rfl rfl rfl (zpf X740 D 71 hZ hown (ow hw 337 rfl) e740 ((Fb728.other W733 (Or.inr (sn72 hw))).other W739 (Or.inr (sn79 hw))) ((((((((u706_0.ext E710).keep K712).wr W719).wr W722).wr W723).wr W724).wr W733).wr W739) (Or.inl (ow hw 338 rfl)) (ow hw 139 rfl) .int (by decide) rfl rfl rfl rfl fun T741 h741 X741 e741 W741 => ?_))
  have N741 := Fr.snoc X741 N739 g0
  have Fw741 := Fld.same W741 ((Fb728.other W733 (Or.inr (sn72 hw))).other W739 (Or.inr (sn79 hw)))
  have Fb742 := (((((((Va712.other W719 (Ne.symm nc717)).other W722 nl714).other W723 nl714).other W724 nl714).other W733 (Ne.symm nc717)).other W739 (Ne.symm nc717)).other W741 (Ne.symm nc717))
  refine zaN X741 D 72 rfl rfl rfl rfl (zic X741 D 73 0 rfl rfl rfl ?_)
  obtain ⟨T743, h743, X743, e743, W743, st743⟩ := putFN X741 hx hZ hown (ow hw 392 rfl) Via.refl e741 (((Fb730.other W733 (Or.inr (sn74 hw))).other W739 (Or.inr (sn80 hw))).other W741 (Or.inr (sn86 hw))) (((((((((u706_0.ext E710).keep K712).wr W719).wr W722).wr W723).wr W724).wr W733).wr W739).wr W741) (Or.inl (ow hw 393 rfl)) (ow hw 139 rfl) (ty := .boolean) (v' := (.int (0 : Int32))) (by decide) rfl rfl (g := (mkF m 239 #[.val (.ref mv), .val (.long p1), .second, .val (.long p2), .second, .val (.ref b710), .val (.int (0 : Int32))] [.int (0 : Int32), .ref mv])) rfl rfl (D.on 74 rfl)
  have N743 := Fr.snoc X743 N741 g0
  have Fw743 := Fld.same W743 (((Fb730.other W733 (Or.inr (sn74 hw))).other W739 (Or.inr (sn80 hw))).other W741 (Or.inr (sn86 hw)))
  have Fb744 := (((Fb737.wr W739 (Or.inl (List.mem_of_getElem? (i := 0) rfl))).wr W741 (Or.inl (List.mem_of_getElem? (i := 0) rfl))).wr W743 (Or.inl (List.mem_of_getElem? (i := 0) rfl)))
  refine Rch.of (T' := T743) (g' := (mkF m 242 #[.val (.ref mv), .val (.long p1), .second, .val (.long p2), .second, .val (.ref b710), .val (.int (0 : Int32))] [])) st743 ?_
  exact Rch.retV X743 hx hret hlk (D.on 75 rfl) (fun U hU hF => hK _ U _ _ _ (by show Q_rnMA Z mv ad el p1 p2 h0 n0 _ U.heap _; rw [hU, e743]; exact ⟨b710, y724, rfl, N743, sz_b710, Fb744, ⟨((((((((((u706_0.ext E710).keep K712).wr W719).wr W722).wr W723).wr W724).wr W733).wr W739).wr W741).wr W743), ((((Fb725.other W733 (Or.inr (sn69 hw))).other W739 (Or.inr (sn75 hw))).other W741 (Or.inr (sn81 hw))).other W743 (Or.inr (sn87 hw))), ((((Fb726.other W733 (Or.inr (sn70 hw))).other W739 (Or.inr (sn76 hw))).other W741 (Or.inr (sn82 hw))).other W743 (Or.inr (sn88 hw))), ((((Fb727.other W733 (Or.inr (sn71 hw))).other W739 (Or.inr (sn77 hw))).other W741 (Or.inr (sn83 hw))).other W743 (Or.inr (sn89 hw))), (((Fw733.other W739 (Or.inr (sn78 hw))).other W741 (Or.inr (sn84 hw))).other W743 (Or.inr (sn90 hw))), (Fw741.other W743 (Or.inr (sn91 hw))), ((Fw739.other W741 (Or.inr (sn85 hw))).other W743 (Or.inr (sn92 hw))), Fw743, ((((((((((u706_8.ext E710).keep K712).wr W719).wr W722).wr W723).wr W724).wr W733).wr W739).wr W741).wr W743), (((Fb734.other W739 (Or.inl (Ne.symm nc716))).other W741 (Or.inl (Ne.symm nc716))).other W743 (Or.inl (Ne.symm nc716))), (((Fb736.other W739 (Or.inl (Ne.symm nc716))).other W741 (Or.inl (Ne.symm nc716))).other W743 (Or.inl (Ne.symm nc716))), (((Fb735.other W739 (Or.inl (Ne.symm nc716))).other W741 (Or.inl (Ne.symm nc716))).other W743 (Or.inl (Ne.symm nc716))), ((((((((((u706_12.ext E710).keep K712).wr W719).wr W722).wr W723).wr W724).wr W733).wr W739).wr W741).wr W743), ((((((((((u706_13.ext E710).keep K712).wr W719).wr W722).wr W723).wr W724).wr W733).wr W739).wr W741).wr W743), (Fb742.other W743 (Ne.symm nc717)), (((((((((Q710.keep K712).wr W719).wr W722).wr W723).wr W724).wr W733).wr W739).wr W741).wr W743), ((((V724.other W733 (Ne.symm nl720)).other W739 (Ne.symm nl720)).other W741 (Ne.symm nl720)).other W743 (Ne.symm nl720)), (by rw [hy724, hy723, hy722]; exact ⟨rfl, rfl⟩)⟩⟩) hF (by decide) (by decide))
def Q_rnMF (Z : State) (mv ad el ck : Addr) (s : Int64) (yc : Nat → Int64) (h0 : Heap) (n0 : Nat) (vv_ : Option Value) (h : Heap) (LL_ : List Loc) : Prop := vv_ = some (.long s) ∧ Fr n0 LL_ ∧ (h = h0)
def Ld61 : List (Nat × Instr × Nat) := [(0, .aload_n 0, 1), (1, .getfield 10, 3), (4, .invokevirtual 55, 3), (7, .checkcast 27, 3), (10, .aload_n 0, 1), (11, .getfield 58, 3), (14, .iconst 3, 1), (15, .imul, 1), (16, .laload, 1), (17, .aload_n 0, 1), (18, .getfield 61, 3), (21, .ladd, 1), (22, .lreturn, 1)]
theorem d61 : ∀ q ∈ Ld61, decode prog_45_method_6_code q.1 = .ok q.2 := by decide +kernel
abbrev me65 : MethodName := ⟨"com/example/kept_till_acked/kepttillacked/queue/MovedRuns", "first", "()J"⟩
theorem rnMF (lh : Launch) (Z : State) (a0 : Array Value) (hw : HW a0 Z) (ws : List Jvm.Cond) (mv ad el ck : Addr) (s : Int64) (yc : Nat → Int64) (h0 : Heap) (n0 : Nat) (Z0 : n0 ≤ h0.size) (H0 : own_M1 Z h0 mv ad el ck s yc) :
    MF lh Z me65 (.code me65 prog_45_method_6_code 1 (some .long)) ws ⟨2, 0, 0, 26⟩ #[.ref mv] h0 (Q_rnMF Z mv ad el ck s yc h0 n0) := by
  refine own_met (y := me65) (plainFor_of_name pn_13) ?_
  intro p ev sT m below meth c T0 K hx hby hml hret hlk hown hnm hZ X0 e0 hK
  have N0 := Fr.nil n0
  have D : DB p c Ld61 := DB.of hx hby d61
  refine Rch.cast (g' := mkF m 0 #[.val (.ref mv)] []) (by first | rfl | simp [entryFrame, mkF, argsToLocals, Value.category]) ?_
  obtain ⟨u745_0, u745_1, u745_2, u745_3, u745_4, u745_5, u745_6, u745_7, u745_8, u745_9, u745_10, u745_11, u745_12, u745_13, u745_14, u745_15, u745_16, u745_17⟩ := id H0
  refine zaN X0 D 0 rfl rfl rfl rfl (zgf X0 D 1 hZ hown (ow hw 161 rfl) e0 u745_1 rfl rfl fun T746 X746 e746 => ?_)
  refine zvs X746 D 2 hZ me5 hown (ow hw 399 rfl) (ow hw 400 rfl) (ow hw 402 rfl) (ow hw 401 rfl) (ow hw 403 rfl) (ow hw 147 rfl) e746 u745_8 (rm13 lh Z a0 hw [] ad el 0 (fun k => if k = 0 then Value.ref ck else Value.null) ck h0 n0 Z0 u745_9 u745_10 u745_14 (by decide) rfl) hml [] [] (lenOf pd_32 rfl) rfl rfl rfl rfl rfl rfl (by decide) (by decide) fun v747 T747 L747 X747 hQ747 => ?_
  obtain ⟨rfl, N747q, hQ747⟩ := hQ747
  have N747 := Fr.app N0 N747q
  obtain ⟨T748, X748, e748, st748⟩ := castY X747 hx hZ hown (ow hw 404 rfl) hQ747 (Ins.of_exa u745_15 (ow hw 405 rfl)) (g := (mkF m 7 #[.val (.ref mv)] [.ref ck])) rfl rfl (D.on 3 rfl)
  refine Rch.of (T' := T748) (g' := (mkF m 10 #[.val (.ref mv)] [.ref ck])) st748 ?_
  refine zaN X748 D 4 rfl rfl rfl rfl (zgf X748 D 5 hZ hown (ow hw 406 rfl) e748 u745_2 rfl rfl fun T749 X749 e749 => ?_)
  refine zic X749 D 6 3 rfl rfl rfl (zimul X749 D 7 0 rfl rfl rfl ?_)
  obtain ⟨cl750, Ar750, Sz750, Ha750⟩ := id u745_16
  refine Rch.of (T' := T749) (g' := (mkF m 17 #[.val (.ref mv)] [.long (yc 0)])) (X749.laload hx (j := (0 : Int32)) (v := (.long (yc 0))) (by rw [e749]; exact Ar750.1) (State.isArrayOf_alike hZ.alike Ar750.2.1) Ar750.2.2 (oIn (i := 0) Sz750 (by decide) (by decide)) (oAt (i := 0) Ha750 (by decide) (by decide)) (g := (mkF m 16 #[.val (.ref mv)] [.int (0 : Int32), .ref ck])) rfl rfl (D.on 8 rfl)) ?_
  refine zaN X749 D 9 rfl rfl rfl rfl (zgf X749 D 10 hZ hown (ow hw 408 rfl) e749 u745_3 rfl rfl fun T751 X751 e751 => ?_)
  refine zladd X751 D 11 _ rfl rfl rfl ?_
  exact Rch.retJ X751 hx hret hlk (D.on 12 rfl) (fun U hU hF => hK _ U _ _ _ (by show Q_rnMF Z mv ad el ck s yc h0 n0 _ U.heap _; rw [hU, e751]; exact ⟨congrArg (fun t => some (Value.long t)) ((Int64.add_zero _).trans u745_17.1), N747, rfl⟩) hF (by decide) (by decide))
def Q_rnMR (Z : State) (mv ad el ck : Addr) (s : Int64) (yc : Nat → Int64) (h0 : Heap) (n0 : Nat) (vv_ : Option Value) (h : Heap) (LL_ : List Loc) : Prop := vv_ = none ∧ Fr n0 LL_ ∧ (Keep h0 h [mv, ad, el] ∧ own_MZ Z h mv 0)
def Ld62 : List (Nat × Instr × Nat) := [(0, .aload_n 0, 1), (1, .getfield 10, 3), (4, .invokevirtual 55, 3), (7, .checkcast 27, 3), (10, .astore_n 1, 1), (11, .aload_n 0, 1), (12, .dup, 1), (13, .getfield 61, 3), (16, .lconst 1, 1), (17, .ladd, 1), (18, .putfield 61, 3), (21, .aload_n 0, 1), (22, .dup, 1), (23, .getfield 16, 3), (26, .iconst 1, 1), (27, .isub, 1), (28, .putfield 16, 3), (31, .aload_n 1, 1), (32, .aload_n 0, 1), (33, .getfield 58, 3), (36, .iconst 3, 1), (37, .imul, 1), (38, .laload, 1), (39, .aload_n 0, 1), (40, .getfield 61, 3), (43, .ladd, 1), (44, .aload_n 1, 1), (45, .aload_n 0, 1), (46, .getfield 58, 3), (49, .iconst 3, 1), (50, .imul, 1), (51, .iconst 1, 1), (52, .iadd, 1), (53, .laload, 1), (54, .lcmp, 1), (55, .ifCond .gt 4, 3), (59, .aload_n 0, 1), (60, .dup, 1), (61, .getfield 58, 3), (64, .iconst 1, 1), (65, .iadd, 1), (66, .putfield 58, 3), (69, .aload_n 0, 1), (70, .lconst 0, 1), (71, .putfield 61, 3), (74, .aload_n 0, 1), (75, .dup, 1), (76, .getfield 20, 3), (79, .iconst 1, 1), (80, .isub, 1), (81, .putfield 20, 3), (84, .aload_n 0, 1), (85, .getfield 10, 3), (88, .invokevirtual 65, 3), (91, .iconst 1, 1), (92, .if_icmp .ne 7, 3), (95, .iconst 1, 1), (96, .goto 4, 3), (100, .istore_n 2, 1), (101, .iload_n 2, 1), (102, .ifCond .eq 17, 3), (105, .aload_n 0, 1), (106, .getfield 58, 3), (109, .aload_n 0, 1), (110, .getfield 29, 3), (113, .if_icmp .ne 46, 3), (116, .goto 14, 3), (130, .aload_n 0, 1), (131, .getfield 10, 3), (134, .invokevirtual 68, 3), (137, .pop, 1), (138, .aload_n 0, 1), (139, .iconst 0, 1), (140, .putfield 58, 3), (143, .aload_n 0, 1), (144, .iload_n 2, 1), (145, .ifCond .eq 7, 3), (148, .iconst 0, 1), (149, .goto 7, 3), (156, .putfield 29, 3), (159, .return_, 1), (58, .return_, 1)]
theorem d62 : ∀ q ∈ Ld62, decode prog_45_method_8_code q.1 = .ok q.2 := by decide +kernel
abbrev me66 : MethodName := ⟨"com/example/kept_till_acked/kepttillacked/queue/MovedRuns", "removeFirst", "()V"⟩
def sn93 {a0 : Array Value} {Z : State} (hw : HW a0 Z) := slot_ne (C := "com/example/kept_till_acked/kepttillacked/queue/MovedRuns") (Or.inr (ow hw 162 rfl)) (Or.inl (ow hw 409 rfl)) (by decide) (t := (.object "java/util/ArrayDeque")) (t' := .long) (by decide) (by decide)
def sn94 {a0 : Array Value} {Z : State} (hw : HW a0 Z) := slot_ne (C := "com/example/kept_till_acked/kepttillacked/queue/MovedRuns") (Or.inl (ow hw 407 rfl)) (Or.inl (ow hw 409 rfl)) (by decide) (t := .int) (t' := .long) (by decide) (by decide)
def sn95 {a0 : Array Value} {Z : State} (hw : HW a0 Z) := slot_ne (C := "com/example/kept_till_acked/kepttillacked/queue/MovedRuns") (Or.inl (ow hw 378 rfl)) (Or.inl (ow hw 409 rfl)) (by decide) (t := .int) (t' := .long) (by decide) (by decide)
def sn96 {a0 : Array Value} {Z : State} (hw : HW a0 Z) := slot_ne (C := "com/example/kept_till_acked/kepttillacked/queue/MovedRuns") (Or.inl (ow hw 338 rfl)) (Or.inl (ow hw 409 rfl)) (by decide) (t := .int) (t' := .long) (by decide) (by decide)
def sn97 {a0 : Array Value} {Z : State} (hw : HW a0 Z) := slot_ne (C := "com/example/kept_till_acked/kepttillacked/queue/MovedRuns") (Or.inl (ow hw 391 rfl)) (Or.inl (ow hw 409 rfl)) (by decide) (t := .int) (t' := .long) (by decide) (by decide)
def sn98 {a0 : Array Value} {Z : State} (hw : HW a0 Z) := slot_ne (C := "com/example/kept_till_acked/kepttillacked/queue/MovedRuns") (Or.inl (ow hw 393 rfl)) (Or.inl (ow hw 409 rfl)) (by decide) (t := .boolean) (t' := .long) (by decide) (by decide)
def sn99 {a0 : Array Value} {Z : State} (hw : HW a0 Z) := slot_ne (C := "com/example/kept_till_acked/kepttillacked/queue/MovedRuns") (Or.inr (ow hw 162 rfl)) (Or.inl (ow hw 407 rfl)) (by decide) (t := (.object "java/util/ArrayDeque")) (t' := .int) (by decide) (by decide)
def sn100 {a0 : Array Value} {Z : State} (hw : HW a0 Z) := slot_ne (C := "com/example/kept_till_acked/kepttillacked/queue/MovedRuns") (Or.inl (ow hw 409 rfl)) (Or.inl (ow hw 407 rfl)) (by decide) (t := .long) (t' := .int) (by decide) (by decide)
def sn101 {a0 : Array Value} {Z : State} (hw : HW a0 Z) := slot_ne (C := "com/example/kept_till_acked/kepttillacked/queue/MovedRuns") (Or.inl (ow hw 378 rfl)) (Or.inl (ow hw 407 rfl)) (by decide) (t := .int) (t' := .int) (by decide) (by decide)
def sn102 {a0 : Array Value} {Z : State} (hw : HW a0 Z) := slot_ne (C := "com/example/kept_till_acked/kepttillacked/queue/MovedRuns") (Or.inl (ow hw 338 rfl)) (Or.inl (ow hw 407 rfl)) (by decide) (t := .int) (t' := .int) (by decide) (by decide)
def sn103 {a0 : Array Value} {Z : State} (hw : HW a0 Z) := slot_ne (C := "com/example/kept_till_acked/kepttillacked/queue/MovedRuns") (Or.inl (ow hw 391 rfl)) (Or.inl (ow hw 407 rfl)) (by decide) (t := .int) (t' := .int) (by decide) (by decide)
def sn104 {a0 : Array Value} {Z : State} (hw : HW a0 Z) := slot_ne (C := "com/example/kept_till_acked/kepttillacked/queue/MovedRuns") (Or.inl (ow hw 393 rfl)) (Or.inl (ow hw 407 rfl)) (by decide) (t := .boolean) (t' := .int) (by decide) (by decide)
theorem rnMR (lh : Launch) (Z : State) (a0 : Array Value) (hw : HW a0 Z) (ws : List Jvm.Cond) (mv ad el ck : Addr) (s : Int64) (yc : Nat → Int64) (h0 : Heap) (n0 : Nat) (Z0 : n0 ≤ h0.size) (H0 : own_M1 Z h0 mv ad el ck s yc) (g0 : n0 ≤ mv) (g1 : n0 ≤ ad) (g2 : n0 ≤ el) :
    MF lh Z me66 (.code me66 prog_45_method_8_code 3 none) ws ⟨3, 0, 0, 42⟩ #[.ref mv] h0 (Q_rnMR Z mv ad el ck s yc h0 n0) := by
  refine own_met (y := me66) (plainFor_of_name pn_13) ?_
  intro p ev sT m below meth c T0 K hx hby hml hret hlk hown hnm hZ X0 e0 hK
  have N0 := Fr.nil n0
  have D : DB p c Ld62 := DB.of hx hby d62
  refine Rch.cast (g' := mkF m 0 #[.val (.ref mv), .unset, .unset] []) (by first | rfl | simp [entryFrame, mkF, argsToLocals, Value.category]) ?_
  obtain ⟨u752_0, u752_1, u752_2, u752_3, u752_4, u752_5, u752_6, u752_7, u752_8, u752_9, u752_10, u752_11, u752_12, u752_13, u752_14, u752_15, u752_16, u752_17⟩ := id H0
  refine zaN X0 D 0 rfl rfl rfl rfl (zgf X0 D 1 hZ hown (ow hw 161 rfl) e0 u752_1 rfl rfl fun T753 X753 e753 => ?_)
  refine zvs X753 D 2 hZ me5 hown (ow hw 399 rfl) (ow hw 400 rfl) (ow hw 402 rfl) (ow hw 401 rfl) (ow hw 403 rfl) (ow hw 147 rfl) e753 u752_8 (rm13 lh Z a0 hw [] ad el 0 (fun k => if k = 0 then Value.ref ck else Value.null) ck h0 n0 Z0 u752_9 u752_10 u752_14 (by decide) rfl) hml [] [] (lenOf pd_32 rfl) rfl rfl rfl rfl rfl rfl (by decide) (by decide) fun v754 T754 L754 X754 hQ754 => ?_
  obtain ⟨rfl, N754q, hQ754⟩ := hQ754
  have N754 := Fr.app N0 N754q
  obtain ⟨T755, X755, e755, st755⟩ := castY X754 hx hZ hown (ow hw 404 rfl) hQ754 (Ins.of_exa u752_15 (ow hw 405 rfl)) (g := (mkF m 7 #[.val (.ref mv), .unset, .unset] [.ref ck])) rfl rfl (D.on 3 rfl)
  refine Rch.of (T' := T755) (g' := (mkF m 10 #[.val (.ref mv), .unset, .unset] [.ref ck])) st755 ?_
  refine zat X755 D 4 (l' := #[.val (.ref mv), .val (.ref ck), .unset]) rfl rfl rfl rfl (zaN X755 D 5 rfl rfl rfl rfl (zdu X755 D 6 rfl rfl rfl (zgf X755 D 7 hZ hown (ow hw 408 rfl) e755 u752_3 rfl rfl fun T756 X756 e756 => ?_)))
  refine zlconst X756 D 8 1 rfl rfl rfl (zladd X756 D 9 1 rfl rfl rfl (zpf X756 D 10 hZ hown (ow hw 408 rfl) e756 u752_3 u752_0 (Or.inl (ow hw 409 rfl)) (ow hw 139 rfl) .long (by decide) rfl rfl rfl rfl fun T757 h757 X757 e757 W757 => ?_))
  have N757 := Fr.snoc X757 N754 g0
  have Fw757 := Fld.same W757 u752_3
  have nc758 : ad ≠ mv := own_exane u752_8 u752_0 (by decide)
  have nc759 : el ≠ mv := own_exane u752_12 u752_0 (by decide)
  have nc760 : ck ≠ mv := own_exane u752_15 u752_0 (by decide)
  refine zaN X757 D 11 rfl rfl rfl rfl (zdu X757 D 12 rfl rfl rfl (zgf X757 D 13 hZ hown (ow hw 337 rfl) e757 (u752_5.other W757 (Or.inr (sn96 hw))) rfl rfl fun T761 X761 e761 => ?_))
  refine zic X761 D 14 1 rfl rfl rfl (zisub X761 D 15 0 rfl rfl rfl (zpf X761 D 16 hZ hown (ow hw 337 rfl) e761 (u752_5.other W757 (Or.inr (sn96 hw))) (u752_0.wr W757) (Or.inl (ow hw 338 rfl)) (ow hw 139 rfl) .int (by decide) rfl rfl rfl rfl fun T762 h762 X762 e762 W762 => ?_))
  have N762 := Fr.snoc X762 N757 g0
  have Fw762 := Fld.same W762 (u752_5.other W757 (Or.inr (sn96 hw)))
  refine zaN X762 D 17 rfl rfl rfl rfl (zaN X762 D 18 rfl rfl rfl rfl (zgf X762 D 19 hZ hown (ow hw 406 rfl) e762 ((u752_2.other W757 (Or.inr (sn94 hw))).other W762 (Or.inr (sn82 hw))) rfl rfl fun T763 X763 e763 => ?_))
  refine zic X763 D 20 3 rfl rfl rfl (zimul X763 D 21 0 rfl rfl rfl ?_)
  obtain ⟨cl764, Ar764, Sz764, Ha764⟩ := id ((u752_16.other W757 nc760).other W762 nc760)
  refine Rch.of (T' := T763) (g' := (mkF m 39 #[.val (.ref mv), .val (.ref ck), .unset] [.long (yc 0)])) (X763.laload hx (j := (0 : Int32)) (v := (.long (yc 0))) (by rw [e763]; exact Ar764.1) (State.isArrayOf_alike hZ.alike Ar764.2.1) Ar764.2.2 (oIn (i := 0) Sz764 (by decide) (by decide)) (oAt (i := 0) Ha764 (by decide) (by decide)) (g := (mkF m 38 #[.val (.ref mv), .val (.ref ck), .unset] [.int (0 : Int32), .ref ck])) rfl rfl (D.on 22 rfl)) ?_
  refine zaN X763 D 23 rfl rfl rfl rfl (zgf X763 D 24 hZ hown (ow hw 408 rfl) e763 (Fw757.other W762 (Or.inr (sn83 hw))) rfl rfl fun T765 X765 e765 => ?_)
  refine zladd X765 D 25 _ rfl rfl rfl (zaN X765 D 26 rfl rfl rfl rfl (zaN X765 D 27 rfl rfl rfl rfl (zgf X765 D 28 hZ hown (ow hw 406 rfl) e765 ((u752_2.other W757 (Or.inr (sn94 hw))).other W762 (Or.inr (sn82 hw))) rfl rfl fun T766 X766 e766 => ?_)))
  refine zic X766 D 29 3 rfl rfl rfl (zimul X766 D 30 0 rfl rfl rfl (zic X766 D 31 1 rfl rfl rfl (ziadd X766 D 32 1 rfl rfl rfl ?_)))
  obtain ⟨cl767, Ar767, Sz767, Ha767⟩ := id ((u752_16.other W757 nc760).other W762 nc760)
  refine Rch.of (T' := T766) (g' := (mkF m 54 #[.val (.ref mv), .val (.ref ck), .unset] [.long (yc 1), .long ((yc 0) + (1 : Int64))])) (X766.laload hx (j := (1 : Int32)) (v := (.long (yc 1))) (by rw [e766]; exact Ar767.1) (State.isArrayOf_alike hZ.alike Ar767.2.1) Ar767.2.2 (oIn (i := 1) Sz767 (by decide) (by decide)) (oAt (i := 1) Ha767 (by decide) (by decide)) (g := (mkF m 53 #[.val (.ref mv), .val (.ref ck), .unset] [.int (1 : Int32), .ref ck, .long ((yc 0) + (1 : Int64))])) rfl rfl (D.on 33 rfl)) ?_
  refine zlcmp X766 D 34 _ rfl rfl rfl ?_
  by_cases c768 : (0 : Int32) < (lcmpW ((yc 0) + (1 : Int64)) (yc 1))
  · skip
    refine zY X766 D 35 59 rfl rfl ((if0 _ _).trans (tlt c768).2.2.1) rfl (zaN X766 D 36 rfl rfl rfl rfl (zdu X766 D 37 rfl rfl rfl (zgf X766 D 38 hZ hown (ow hw 406 rfl) e766 ((u752_2.other W757 (Or.inr (sn94 hw))).other W762 (Or.inr (sn82 hw))) rfl rfl fun T769 X769 e769 => ?_)))
    refine zic X769 D 39 1 rfl rfl rfl (ziadd X769 D 40 1 rfl rfl rfl (zpf X769 D 41 hZ hown (ow hw 406 rfl) e769 ((u752_2.other W757 (Or.inr (sn94 hw))).other W762 (Or.inr (sn82 hw))) ((u752_0.wr W757).wr W762) (Or.inl (ow hw 407 rfl)) (ow hw 139 rfl) .int (by decide) rfl rfl rfl rfl fun T770 h770 X770 e770 W770 => ?_))
    have N770 := Fr.snoc X770 N762 g0
    have Fw770 := Fld.same W770 ((u752_2.other W757 (Or.inr (sn94 hw))).other W762 (Or.inr (sn82 hw)))
    have Fb771 := ((((Keep.refl h0 [mv, ad, el]).wr W757 (Or.inl (List.mem_of_getElem? (i := 0) rfl))).wr W762 (Or.inl (List.mem_of_getElem? (i := 0) rfl))).wr W770 (Or.inl (List.mem_of_getElem? (i := 0) rfl)))
    refine zaN X770 D 42 rfl rfl rfl rfl (zlconst X770 D 43 0 rfl rfl rfl (zpf X770 D 44 hZ hown (ow hw 408 rfl) e770 ((Fw757.other W762 (Or.inr (sn83 hw))).other W770 (Or.inr (sn100 hw))) (((u752_0.wr W757).wr W762).wr W770) (Or.inl (ow hw 409 rfl)) (ow hw 139 rfl) .long (by decide) rfl rfl rfl rfl fun T772 h772 X772 e772 W772 => ?_))
    have N772 := Fr.snoc X772 N770 g0
    have Fw772 := Fld.same W772 ((Fw757.other W762 (Or.inr (sn83 hw))).other W770 (Or.inr (sn100 hw)))
    refine zaN X772 D 45 rfl rfl rfl rfl (zdu X772 D 46 rfl rfl rfl (zgf X772 D 47 hZ hown (ow hw 390 rfl) e772 ((((u752_6.other W757 (Or.inr (sn97 hw))).other W762 (Or.inr (sn85 hw))).other W770 (Or.inr (sn103 hw))).other W772 (Or.inr (sn97 hw))) rfl rfl fun T773 X773 e773 => ?_))
    refine zic X773 D 48 1 rfl rfl rfl (zisub X773 D 49 0 rfl rfl rfl (zpf X773 D 50 hZ hown (ow hw 390 rfl) e773 ((((u752_6.other W757 (Or.inr (sn97 hw))).other W762 (Or.inr (sn85 hw))).other W770 (Or.inr (sn103 hw))).other W772 (Or.inr (sn97 hw))) ((((u752_0.wr W757).wr W762).wr W770).wr W772) (Or.inl (ow hw 391 rfl)) (ow hw 139 rfl) .int (by decide) rfl rfl rfl rfl fun T774 h774 X774 e774 W774 => ?_))
    have N774 := Fr.snoc X774 N772 g0
    have Fw774 := Fld.same W774 ((((u752_6.other W757 (Or.inr (sn97 hw))).other W762 (Or.inr (sn85 hw))).other W770 (Or.inr (sn103 hw))).other W772 (Or.inr (sn97 hw)))
    have Fb775 := (((((u752_1.other W757 (Or.inr (sn93 hw))).other W762 (Or.inr (sn81 hw))).other W770 (Or.inr (sn99 hw))).other W772 (Or.inr (sn93 hw))).other W774 (Or.inr (sn75 hw)))
    have Fb776 := (((((u752_4.other W757 (Or.inr (sn95 hw))).other W762 (Or.inr (sn84 hw))).other W770 (Or.inr (sn101 hw))).other W772 (Or.inr (sn95 hw))).other W774 (Or.inr (sn78 hw)))
    have Fb777 := (((((u752_7.other W757 (Or.inr (sn98 hw))).other W762 (Or.inr (sn86 hw))).other W770 (Or.inr (sn104 hw))).other W772 (Or.inr (sn98 hw))).other W774 (Or.inr (sn80 hw)))
    have Fb778 := (Nat.le_trans (Nat.le_trans (Nat.le_trans (Nat.le_trans (Nat.le_trans Z0 (Keep.of_wr W757).1) (Keep.of_wr W762).1) (Keep.of_wr W770).1) (Keep.of_wr W772).1) (Keep.of_wr W774).1)
    refine zaN X774 D 51 rfl rfl rfl rfl (zgf X774 D 52 hZ hown (ow hw 161 rfl) e774 Fb775 rfl rfl fun T779 X779 e779 => ?_)
    refine zvs X779 D 53 hZ me6 hown (ow hw 415 rfl) (ow hw 416 rfl) (ow hw 418 rfl) (ow hw 417 rfl) (ow hw 419 rfl) (ow hw 147 rfl) e779 (((((u752_8.wr W757).wr W762).wr W770).wr W772).wr W774) (rm14 lh Z a0 hw [] ad el 0 (fun k => if k = 0 then Value.ref ck else Value.null) h774 n0 Fb778 (((((u752_9.other W757 (Or.inl nc758)).other W762 (Or.inl nc758)).other W770 (Or.inl nc758)).other W772 (Or.inl nc758)).other W774 (Or.inl nc758)) (((((u752_11.other W757 (Or.inl nc758)).other W762 (Or.inl nc758)).other W770 (Or.inl nc758)).other W772 (Or.inl nc758)).other W774 (Or.inl nc758)) (((((u752_10.other W757 (Or.inl nc758)).other W762 (Or.inl nc758)).other W770 (Or.inl nc758)).other W772 (Or.inl nc758)).other W774 (Or.inl nc758)) (((((u752_14.other W757 nc759).other W762 nc759).other W770 nc759).other W772 nc759).other W774 nc759) (by decide)) hml [] [] (lenOf pd_4 rfl) rfl rfl rfl rfl rfl rfl (by decide) (by decide) fun v780 T780 L780 X780 hQ780 => ?_
    obtain ⟨rfl, N780q, hQ780⟩ := hQ780
    have N780 := Fr.app N774 N780q
    refine zic X780 D 54 1 rfl rfl rfl (zcN X780 D 55 rfl rfl (teq ((by decide) : (1 : Int32) = (1 : Int32))).2 (zic X780 D 56 1 rfl rfl rfl (zgo X780 D 57 100 rfl rfl rfl (zistoreN X780 D 58 (l' := #[.val (.ref mv), .val (.ref ck), .val (.int (1 : Int32))]) rfl rfl rfl (ziN X780 D 59 rfl rfl rfl  (zN X780 D 60 rfl rfl ((if0 _ _).trans (feq ((by decide) : ¬ ((1 : Int32) = (0 : Int32)))).1) (zaN X780 D 61 rfl rfl rfl rfl (zgf X780 D 62 hZ hown (ow hw 406 rfl) hQ780 ((Fw770.other W772 (Or.inr (sn94 hw))).other W774 (Or.inr (sn76 hw))) rfl rfl fun T781 X781 e781 => ?_))))))))
    refine zaN X781 D 63 rfl rfl rfl rfl (zgf X781 D 64 hZ hown (ow hw 377 rfl) e781 Fb776 rfl rfl fun T782 X782 e782 => ?_)
    refine zcN X782 D 65 rfl rfl (teq ((by decide) : (1 : Int32) = (1 : Int32))).2 (zgo X782 D 66 130 rfl rfl rfl (zaN X782 D 67 rfl rfl rfl rfl (zgf X782 D 68 hZ hown (ow hw 161 rfl) e782 Fb775 rfl rfl fun T783 X783 e783 => ?_)))
    have nc785 : ad ≠ el := own_exane (((((u752_8.wr W757).wr W762).wr W770).wr W772).wr W774) (((((u752_12.wr W757).wr W762).wr W770).wr W772).wr W774) (by decide)
    refine zvs X783 D 69 hZ me9 hown (ow hw 423 rfl) (ow hw 424 rfl) (ow hw 426 rfl) (ow hw 425 rfl) (ow hw 427 rfl) (ow hw 147 rfl) e783 (((((u752_8.wr W757).wr W762).wr W770).wr W772).wr W774) (rm16 lh Z a0 hw [] ad el 0 ck h774 n0 Fb778 (((((u752_8.wr W757).wr W762).wr W770).wr W772).wr W774) (((((u752_13.wr W757).wr W762).wr W770).wr W772).wr W774) (((((u752_9.other W757 (Or.inl nc758)).other W762 (Or.inl nc758)).other W770 (Or.inl nc758)).other W772 (Or.inl nc758)).other W774 (Or.inl nc758)) (((((u752_11.other W757 (Or.inl nc758)).other W762 (Or.inl nc758)).other W770 (Or.inl nc758)).other W772 (Or.inl nc758)).other W774 (Or.inl nc758)) (((((u752_10.other W757 (Or.inl nc758)).other W762 (Or.inl nc758)).other W770 (Or.inl nc758)).other W772 (Or.inl nc758)).other W774 (Or.inl nc758)) (((((u752_14.other W757 nc759).other W762 nc759).other W770 nc759).other W772 nc759).other W774 nc759) g1 g2 nc785 (by decide)) hml [] [] (lenOf pd_32 rfl) rfl rfl rfl rfl rfl rfl (by decide) (by decide) fun v784 T784 L784 X784 hQ784 => ?_
    obtain ⟨rfl, N784q, hQ784⟩ := hQ784
    have N784 := Fr.app N780 N784q
    obtain ⟨K784, Fa784, Fb784, Fc784, Va784⟩ := hQ784
    have nc786 : ck ≠ ad := own_exane (((((u752_15.wr W757).wr W762).wr W770).wr W772).wr W774) (((((u752_8.wr W757).wr W762).wr W770).wr W772).wr W774) (by decide)
    have nc787 : ck ≠ el := own_exane (((((u752_15.wr W757).wr W762).wr W770).wr W772).wr W774) (((((u752_12.wr W757).wr W762).wr W770).wr W772).wr W774) (by decide)
    have Fb788 := ((((Fw762.other W770 (Or.inr (sn102 hw))).other W772 (Or.inr (sn96 hw))).other W774 (Or.inr (sn79 hw))).keep K784 (ninS (Ne.symm nc758) (ninS (Ne.symm nc759) nin0)))
    have Fb789 := (((Fb771.wr W772 (Or.inl (List.mem_of_getElem? (i := 0) rfl))).wr W774 (Or.inl (List.mem_of_getElem? (i := 0) rfl))).trans K784 (allS (Or.inl (List.mem_of_getElem? (i := 1) rfl)) (allS (Or.inl (List.mem_of_getElem? (i := 2) rfl)) all0)))
    refine zpop X784 D 70 rfl rfl rfl (zaN X784 D 71 rfl rfl rfl rfl (zic X784 D 72 0 rfl rfl rfl (zpf X784 D 73 hZ hown (ow hw 406 rfl) rfl (((Fw770.other W772 (Or.inr (sn94 hw))).other W774 (Or.inr (sn76 hw))).keep K784 (ninS (Ne.symm nc758) (ninS (Ne.symm nc759) nin0))) ((((((u752_0.wr W757).wr W762).wr W770).wr W772).wr W774).keep K784) (Or.inl (ow hw 407 rfl)) (ow hw 139 rfl) .int (by decide) rfl rfl rfl rfl fun T790 h790 X790 e790 W790 => ?_)))
    have N790 := Fr.snoc X790 N784 g0
    have Fw790 := Fld.same W790 (((Fw770.other W772 (Or.inr (sn94 hw))).other W774 (Or.inr (sn76 hw))).keep K784 (ninS (Ne.symm nc758) (ninS (Ne.symm nc759) nin0)))
    have Fb791 := (((((((u752_16.other W757 nc760).other W762 nc760).other W770 nc760).other W772 nc760).other W774 nc760).keep K784 (ninS nc786 (ninS nc787 nin0))).other W790 nc760)
    refine zaN X790 D 74 rfl rfl rfl rfl (ziN X790 D 75 rfl rfl rfl  (zN X790 D 76 rfl rfl ((if0 _ _).trans (feq ((by decide) : ¬ ((1 : Int32) = (0 : Int32)))).1) (zic X790 D 77 0 rfl rfl rfl (zgo X790 D 78 156 rfl rfl rfl (zpf X790 D 79 hZ hown (ow hw 377 rfl) e790 ((Fb776.keep K784 (ninS (Ne.symm nc758) (ninS (Ne.symm nc759) nin0))).other W790 (Or.inr (sn101 hw))) (((((((u752_0.wr W757).wr W762).wr W770).wr W772).wr W774).keep K784).wr W790) (Or.inl (ow hw 378 rfl)) (ow hw 139 rfl) .int (by decide) rfl rfl rfl rfl fun T792 h792 X792 e792 W792 => ?_)))))
    have N792 := Fr.snoc X792 N790 g0
    have Fw792 := Fld.same W792 ((Fb776.keep K784 (ninS (Ne.symm nc758) (ninS (Ne.symm nc759) nin0))).other W790 (Or.inr (sn101 hw)))
    have Fb793 := ((((Fw772.other W774 (Or.inr (sn77 hw))).keep K784 (ninS (Ne.symm nc758) (ninS (Ne.symm nc759) nin0))).other W790 (Or.inr (sn100 hw))).other W792 (Or.inr (sn71 hw)))
    exact Rch.retV X792 hx hret hlk (D.on 80 rfl) (fun U hU hF => hK _ U _ _ _ (by show Q_rnMR Z mv ad el ck s yc h0 n0 _ U.heap _; rw [hU, e792]; exact ⟨rfl, N792, ((Fb789.wr W790 (Or.inl (List.mem_of_getElem? (i := 0) rfl))).wr W792 (Or.inl (List.mem_of_getElem? (i := 0) rfl))), ((((((((u752_0.wr W757).wr W762).wr W770).wr W772).wr W774).keep K784).wr W790).wr W792), ((Fb788.other W790 (Or.inr (sn102 hw))).other W792 (Or.inr (sn72 hw)))⟩) hF (by decide) (by decide))
  · skip
    refine zN X766 D 35 rfl rfl ((if0 _ _).trans (flt c768).2.2.1) ?_
    exact Rch.retV X766 hx hret hlk (D.on 81 rfl) (fun U hU hF => hK _ U _ _ _ (by show Q_rnMR Z mv ad el ck s yc h0 n0 _ U.heap _; rw [hU, e766]; exact ⟨rfl, N762, (((Keep.refl h0 [mv, ad, el]).wr W757 (Or.inl (List.mem_of_getElem? (i := 0) rfl))).wr W762 (Or.inl (List.mem_of_getElem? (i := 0) rfl))), ((u752_0.wr W757).wr W762), Fw762⟩) hF (by decide) (by decide))
def Q_rnRI (Z : State) (rl rc : Addr) (h0 : Heap) (n0 : Nat) (vv_ : Option Value) (h : Heap) (LL_ : List Loc) : Prop := ∃ tm : Addr, vv_ = none ∧ Fr n0 LL_ ∧ (h0.size ≤ tm ∧ Keep h0 h [rl] ∧ own_RL Z h rl tm (0 : Int32) ∧ own_TM Z h tm .null rc (0 : Int32) (0 : Int32))
def Ld63 : List (Nat × Instr × Nat) := [(0, .aload_n 0, 1), (1, .invokespecial 1, 3), (4, .aload_n 0, 1), (5, .new 7, 3), (8, .dup, 1), (9, .invokestatic 9, 3), (12, .invokespecial 15, 3), (15, .putfield 18, 3), (18, .return_, 1)]
theorem d63 : ∀ q ∈ Ld63, decode prog_56_method_1_code q.1 = .ok q.2 := by decide +kernel
abbrev me67 : MethodName := ⟨"com/example/kept_till_acked/kepttillacked/queue/ReadyLine", "<init>", "()V"⟩
def sn105 {a0 : Array Value} {Z : State} (hw : HW a0 Z) := slot_ne (C := "com/example/kept_till_acked/kepttillacked/queue/ReadyLine") (Or.inl (ow hw 46 rfl)) (Or.inr (ow hw 39 rfl)) (by decide) (t := .int) (t' := (.object "java/util/TreeMap")) (by decide) (by decide)
theorem rnRI (lh : Launch) (Z : State) (a0 : Array Value) (hw : HW a0 Z) (ws : List Jvm.Cond) (rl rc : Addr) (h0 : Heap) (n0 : Nat) (Z0 : n0 ≤ h0.size) (E1 : Exa Z h0 rl "com/example/kept_till_acked/kepttillacked/queue/ReadyLine") (F0 : Fld Z h0 rl "com/example/kept_till_acked/kepttillacked/queue/ReadyLine" "byPriority" "Ljava/util/TreeMap;" .null) (F1 : Fld Z h0 rl "com/example/kept_till_acked/kepttillacked/queue/ReadyLine" "size" "I" (.int (0 : Int32))) (g1 : n0 ≤ rl) (O0 : Old Z n0 h0) (SRO : Sta Z Z.heap "java/util/Collections$ReverseComparator" "REVERSE_ORDER" "Ljava/util/Collections$ReverseComparator;" (.ref rc)) (ERC : Exa Z Z.heap rc "java/util/Collections$ReverseComparator") :
    MF lh Z me67 (.code me67 prog_56_method_1_code 1 none) ws ⟨3, 1, 9, 39⟩ #[.ref rl] h0 (Q_rnRI Z rl rc h0 n0) := by
  refine own_met (y := me67) (plainFor_of_name pn_15) ?_
  intro p ev sT m below meth c T0 K hx hby hml hret hlk hown hnm hZ X0 e0 hK
  have N0 := Fr.nil n0
  have D : DB p c Ld63 := DB.of hx hby d63
  refine Rch.cast (g' := mkF m 0 #[.val (.ref rl)] []) (by first | rfl | simp [entryFrame, mkF, argsToLocals, Value.category]) ?_
  refine zaN X0 D 0 rfl rfl rfl rfl ?_
  obtain ⟨T794, X794, e794, st794⟩ := initO X0 hx hZ hown (ow hw 6 rfl) (ow hw 7 rfl) (ow hw 8 rfl) e0 (g := (mkF m 1 #[.val (.ref rl)] [.ref rl])) rfl (by rw [hml]; rfl) rfl (D.on 1 rfl) (by decide) (W := 0) (by show 2 * 0 + _ ≤ _; exact Nat.le_of_eq rfl) (by decide)
  refine Rch.of (T' := T794) (g' := (mkF m 4 #[.val (.ref rl)] [])) st794 ?_
  refine zaN X794 D 2 rfl rfl rfl rfl ?_
  obtain ⟨T795, h795, X795, e795, E795, A795, D795, -, st795⟩ := newO X794 hx hZ hown (ow hw 9 rfl) (ow hw 10 rfl) (ow hw 11 rfl) e794 (g := (mkF m 5 #[.val (.ref rl)] [.ref rl])) rfl (D.on 3 rfl) (by decide) (by decide)
  obtain ⟨b795, g795⟩ : ∃ zz_, zz_ = h0.size := ⟨_, rfl⟩
  have ge_b795 : n0 ≤ b795 := Nat.le_trans Z0 (Nat.le_of_eq g795.symm)
  have sz_b795 : h0.size ≤ b795 := Nat.le_trans (Keep.refl h0 [rl]).1 (Nat.le_of_eq g795.symm)
  rw [← g795] at A795 D795 st795
  have F795_size : Fld Z h795 b795 "java/util/TreeMap" "size" "I" (.int (0 : Int32)) := D795 (Or.inl (ow hw 33 rfl)) (ty := .int) (by decide)
  have F795_modCount : Fld Z h795 b795 "java/util/TreeMap" "modCount" "I" (.int (0 : Int32)) := D795 (Or.inl (ow hw 35 rfl)) (ty := .int) (by decide)
  have F795_comparator : Fld Z h795 b795 "java/util/TreeMap" "comparator" "Ljava/util/Comparator;" .null := D795 (Or.inr (ow hw 37 rfl)) (ty := (.object "java/util/Comparator")) (by decide)
  have F795_root : Fld Z h795 b795 "java/util/TreeMap" "root" "Ljava/util/TreeMap$Entry;" .null := D795 (Or.inl (ow hw 95 rfl)) (ty := (.object "java/util/TreeMap$Entry")) (by decide)
  refine Rch.of (T' := T795) (g' := (mkF m 8 #[.val (.ref rl)] [.ref b795, .ref rl])) st795 ?_
  refine zdu X795 D 4 rfl rfl rfl (zst (W := 3) X795 D 5 hZ me23 hown (ow hw 12 rfl) (ow hw 13 rfl) (ow hw 14 rfl) (ow hw 15 rfl) e795 (rnR2 lh Z a0 hw [] rc h795 n0 (Nat.le_trans Z0 E795.1) (O0.ext E795) SRO) hml [] [.ref b795, .ref b795, .ref rl] (lenOf pd_1 rfl) rfl rfl rfl rfl rfl rfl (by decide) (by decide) fun v796 T796 L796 X796 hQ796 => ?_)
  obtain ⟨rfl, N796q, hQ796⟩ := hQ796
  have N796 := Fr.app N0 N796q
  refine zsb (W := 2) X796 D 6 hZ me25 hown (ow hw 22 rfl) (ow hw 23 rfl) (ow hw 24 rfl) (ow hw 11 rfl) hQ796 b795 (rnTI lh Z a0 hw [] b795 rc (.int (0 : Int32)) (.int (0 : Int32)) .null h795 n0 (Nat.le_trans Z0 E795.1) A795 F795_root F795_size F795_modCount F795_comparator ge_b795) hml [.ref rc] [.ref b795, .ref rl] (lenOf pd_2 rfl) rfl rfl rfl rfl rfl rfl rfl (by decide) (by decide) fun v797 T797 L797 X797 hQ797 => ?_
  obtain ⟨rfl, N797q, hQ797⟩ := hQ797
  have N797 := Fr.app N796 N797q
  obtain ⟨K797, Ex797, Fa797_0, Fa797_1, Fa797_2, Fa797_3⟩ := hQ797
  have nl798 : rl ≠ b795 := Nat.ne_of_lt (Nat.lt_of_lt_of_le E1.lt (Nat.le_of_eq g795.symm))
  refine zpf X797 D 7 hZ hown (ow hw 38 rfl) rfl ((F0.ext E795).keep K797 (ninS nl798 nin0)) ((E1.ext E795).keep K797) (Or.inr ⟨(ow hw 39 rfl), rfl, hnm⟩) (ow hw 1 rfl) (.object "java/util/TreeMap") (by decide) rfl rfl rfl rfl fun T799 h799 X799 e799 W799 => ?_
  have N799 := Fr.snoc X799 N797 g1
  have Fw799 := Fld.same W799 ((F0.ext E795).keep K797 (ninS nl798 nin0))
  exact Rch.retV X799 hx hret hlk (D.on 8 rfl) (fun U hU hF => hK _ U _ _ _ (by show Q_rnRI Z rl rc h0 n0 _ U.heap _; rw [hU, e799]; exact ⟨b795, rfl, N799, sz_b795, ((((Keep.refl h0 [rl]).ext E795).trans K797 (allS (Or.inr sz_b795) all0)).wr W799 (Or.inl (List.mem_of_getElem? (i := 0) rfl))), ⟨(((E1.ext E795).keep K797).wr W799), Fw799, (((F1.ext E795).keep K797 (ninS nl798 nin0)).other W799 (Or.inr (sn105 hw)))⟩, ⟨(Ex797.wr W799), (Fa797_0.other W799 (Or.inl (Ne.symm nl798))), (Fa797_1.other W799 (Or.inl (Ne.symm nl798))), (Fa797_2.other W799 (Or.inl (Ne.symm nl798))), (Fa797_3.other W799 (Or.inl (Ne.symm nl798))), ((((ERC.ext O0.2).ext E795).keep K797).wr W799)⟩⟩) hF (by decide) (by decide))
def Q_rnRS (Z : State) (rl tm : Addr) (z : Int32) (h0 : Heap) (n0 : Nat) (vv_ : Option Value) (h : Heap) (LL_ : List Loc) : Prop := vv_ = some (.int z) ∧ Fr n0 LL_ ∧ (h = h0)
def Ld64 : List (Nat × Instr × Nat) := [(0, .aload_n 0, 1), (1, .getfield 24, 3), (4, .ireturn, 1)]
theorem d64 : ∀ q ∈ Ld64, decode prog_56_method_2_code q.1 = .ok q.2 := by decide +kernel
abbrev me68 : MethodName := ⟨"com/example/kept_till_acked/kepttillacked/queue/ReadyLine", "size", "()I"⟩
theorem rnRS (lh : Launch) (Z : State) (a0 : Array Value) (hw : HW a0 Z) (ws : List Jvm.Cond) (rl tm : Addr) (z : Int32) (h0 : Heap) (n0 : Nat) (Z0 : n0 ≤ h0.size) (HR : own_RL Z h0 rl tm z) :
    MF lh Z me68 (.code me68 prog_56_method_2_code 1 (some .int)) ws ⟨0, 0, 0, 0⟩ #[.ref rl] h0 (Q_rnRS Z rl tm z h0 n0) := by
  refine own_met (y := me68) (plainFor_of_name pn_15) ?_
  intro p ev sT m below meth c T0 K hx hby hml hret hlk hown hnm hZ X0 e0 hK
  have N0 := Fr.nil n0
  have D : DB p c Ld64 := DB.of hx hby d64
  refine Rch.cast (g' := mkF m 0 #[.val (.ref rl)] []) (by first | rfl | simp [entryFrame, mkF, argsToLocals, Value.category]) ?_
  obtain ⟨u800_0, u800_1, u800_2⟩ := id HR
  refine zaN X0 D 0 rfl rfl rfl rfl (zgf X0 D 1 hZ hown (ow hw 45 rfl) e0 u800_2 rfl rfl fun T801 X801 e801 => ?_)
  exact Rch.retI X801 hx hret hlk (D.on 2 rfl) (fun U hU hF => hK _ U _ _ _ (by show Q_rnRS Z rl tm z h0 n0 _ U.heap _; rw [hU, e801]; exact ⟨rfl, N0, rfl⟩) hF (by decide) (by decide))
def Q_rnL0 (Z : State) (rl tm rc : Addr) (z p1 : Int32) (ca : Addr) (yc : Nat → Value) (s0 m0 : Int32) (h0 : Heap) (n0 : Nat) (vv_ : Option Value) (h : Heap) (LL_ : List Loc) : Prop := ∃ e : Addr, ∃ l : Addr, ∃ sb : Addr, ∃ pg : Addr, ∃ na : Addr, ∃ pa : Addr, ∃ mv : Addr, ∃ ad : Addr, ∃ el : Addr, vv_ = some (.ref l) ∧ Fr n0 LL_ ∧ (h0.size ≤ e ∧ h0.size ≤ l ∧ h0.size ≤ sb ∧ h0.size ≤ pg ∧ h0.size ≤ na ∧ h0.size ≤ pa ∧ h0.size ≤ mv ∧ h0.size ≤ ad ∧ h0.size ≤ el ∧ Keep h0 h [tm] ∧ own_T1 Z h tm rc p1 l e ∧ own_LL Z h l sb pg na pa mv ad el)
def Ld65 : List (Nat × Instr × Nat) := [(0, .aload_n 0, 1), (1, .getfield 18, 3), (4, .iload_n 1, 1), (5, .invokestatic 79, 3), (8, .invokedynamic 147, 5), (13, .invokevirtual 151, 3), (16, .checkcast 59, 3), (19, .areturn, 1)]
theorem d65 : ∀ q ∈ Ld65, decode prog_56_method_11_code q.1 = .ok q.2 := by decide +kernel
theorem rnL0 (lh : Launch) (Z : State) (a0 : Array Value) (hw : HW a0 Z) (ws : List Jvm.Cond) (rl tm rc : Addr) (z p1 : Int32) (ca : Addr) (yc : Nat → Value) (s0 m0 : Int32) (h0 : Heap) (n0 : Nat) (Z0 : n0 ≤ h0.size) (HR : own_RL Z h0 rl tm z) (HT : own_TM Z h0 tm .null rc s0 m0) (O0 : Old Z n0 h0) (SH : Sta Z Z.heap "java/lang/Integer$IntegerCache" "high" "I" (.int (127 : Int32))) (SCa : Sta Z Z.heap "java/lang/Integer$IntegerCache" "cache" "[Ljava/lang/Integer;" (.ref ca)) (VCa : Av Z Z.heap ca (.object "java/lang/Integer") 256 yc) (hca : ∀ q, q < 256 → ∃ r, yc q = .ref r ∧ Exa Z Z.heap r "java/lang/Integer" ∧ Fld Z Z.heap r "java/lang/Integer" "value" "I" (.int (Int32.ofNat q - (128 : Int32)))) (g1 : n0 ≤ tm) :
    MF lh Z me44 (.code me44 prog_56_method_11_code 2 (some (.object "com/example/kept_till_acked/kepttillacked/queue/ReadyLine$Line"))) ws ⟨9, 10, 74, 3074⟩ #[.ref rl, .int p1] h0 (Q_rnL0 Z rl tm rc z p1 ca yc s0 m0 h0 n0) := by
  refine own_metN (y := me44) (plainFor_of_name pn_15) ?_
  intro p ev sT m below meth c T0 K hx hby hml hret hlk hown hnm hnd hZ X0 e0 hK
  have N0 := Fr.nil n0
  have D : DB p c Ld65 := DB.of hx hby d65
  refine Rch.cast (g' := mkF m 0 #[.val (.ref rl), .val (.int p1)] []) (by first | rfl | simp [entryFrame, mkF, argsToLocals, Value.category]) ?_
  obtain ⟨u802_0, u802_1, u802_2⟩ := id HR
  obtain ⟨cf, ms, am, hf1, hf2, hf3, hf4⟩ := own_fwd own_fok
  refine zaN X0 D 0 rfl rfl rfl rfl (zgf X0 D 1 hZ hown (ow hw 38 rfl) e0 u802_1 rfl rfl fun T803 X803 e803 => ?_)
  refine ziN X803 D 2 rfl rfl rfl  (zst (W := 1) X803 D 3 hZ me15 hown (ow hw 61 rfl) (ow hw 62 rfl) (ow hw 63 rfl) (ow hw 64 rfl) e803 (rnVO lh Z a0 hw [] p1 ca yc h0 n0 Z0 O0 SH SCa VCa hca) hml [.int p1] [.ref tm] (lenOf pd_7 rfl) rfl rfl rfl rfl rfl rfl (by decide) (by decide) fun v804 T804 L804 X804 hQ804 => ?_)
  obtain ⟨rr804, rfl, N804q, hQ804⟩ := hQ804
  have N804 := Fr.app N0 N804q
  obtain ⟨K804, Ex804, Fa804⟩ := hQ804
  obtain ⟨fa805, Fz805, st805⟩ := own_site X804 hx hZ (xi := me45) (σ := own_sig) (ow hw 82 rfl) rfl rfl rfl (by decide +kernel) (ow hw 103 rfl) hf1 hf2 hf3 hf4 hnd (g := (mkF m 8 #[.val (.ref rl), .val (.int p1)] [.ref rr804, .ref tm])) rfl rfl (by rw [hml]; rfl) (D.on 4 rfl) (by show 2 * 0 + 2 + 3072 ≤ _; decide)
  refine Rch.of (T' := T804) (g' := (mkF m 13 #[.val (.ref rl), .val (.int p1)] [.ref fa805, .ref rr804, .ref tm])) st805 ?_
  refine zvs X804 D 5 hZ me47 hown (ow hw 85 rfl) (ow hw 86 rfl) (ow hw 88 rfl) (ow hw 87 rfl) (ow hw 89 rfl) (ow hw 11 rfl) rfl (own_TM.x_tm (own_TM.keep HT K804 nin0)) (rnCI0 lh Z a0 hw [] tm rc rr804 fa805 p1 s0 m0 T804.heap n0 (Nat.le_trans Z0 K804.1) (own_TM.keep HT K804 nin0) ⟨Ex804, Fa804⟩ (O0.keep K804 all0) Fz805 g1) hml [.ref rr804, .ref fa805] [] (lenOf pd_9 rfl) rfl rfl rfl rfl rfl rfl (by decide) (by decide) fun v806 T806 L806 X806 hQ806 => ?_
  obtain ⟨re806, rl806, rsb806, rpg806, rna806, rpa806, rmv806, rad806, rel806, rfl, N806q, hQ806⟩ := hQ806
  have N806 := Fr.app N804 N806q
  obtain ⟨ze806_0, ze806_1, ze806_2, ze806_3, ze806_4, ze806_5, ze806_6, ze806_7, ze806_8, K806, Pq806_0, Pq806_1⟩ := hQ806
  have nc807 : rl ≠ tm := own_exane (own_RL.x_rl (own_RL.keep HR K804 nin0)) (own_TM.x_tm (own_TM.keep HT K804 nin0)) (by decide)
  have nc808 : rr804 ≠ tm := own_exane (own_KI.x_k ⟨Ex804, Fa804⟩) (own_TM.x_tm (own_TM.keep HT K804 nin0)) (by decide)
  obtain ⟨T809, X809, e809, st809⟩ := castY X806 hx hZ hown (ow hw 106 rfl) rfl (Ins.of_exa (own_LL.x_l Pq806_1) (ow hw 223 rfl)) (g := (mkF m 16 #[.val (.ref rl), .val (.int p1)] [.ref rl806])) rfl rfl (D.on 6 rfl)
  refine Rch.of (T' := T809) (g' := (mkF m 19 #[.val (.ref rl), .val (.int p1)] [.ref rl806])) st809 ?_
  exact Rch.retA X809 hx (w := (.ref rl806)) hret rfl rfl hlk (D.on 7 rfl) (fun U hU hF => hK _ U _ _ _ (by show Q_rnL0 Z rl tm rc z p1 ca yc s0 m0 h0 n0 _ U.heap _; rw [hU, e809]; exact ⟨re806, rl806, rsb806, rpg806, rna806, rpa806, rmv806, rad806, rel806, rfl, N806, (Nat.le_trans ((Keep.refl h0 [tm]).trans K804 all0).1 ze806_0), (Nat.le_trans ((Keep.refl h0 [tm]).trans K804 all0).1 ze806_1), (Nat.le_trans ((Keep.refl h0 [tm]).trans K804 all0).1 ze806_2), (Nat.le_trans ((Keep.refl h0 [tm]).trans K804 all0).1 ze806_3), (Nat.le_trans ((Keep.refl h0 [tm]).trans K804 all0).1 ze806_4), (Nat.le_trans ((Keep.refl h0 [tm]).trans K804 all0).1 ze806_5), (Nat.le_trans ((Keep.refl h0 [tm]).trans K804 all0).1 ze806_6), (Nat.le_trans ((Keep.refl h0 [tm]).trans K804 all0).1 ze806_7), (Nat.le_trans ((Keep.refl h0 [tm]).trans K804 all0).1 ze806_8), (((Keep.refl h0 [tm]).trans K804 all0).trans K806 (allS (Or.inl (List.mem_of_getElem? (i := 0) rfl)) all0)), Pq806_0, Pq806_1⟩) hF (by decide) (by decide))
def Q_rnL1 (Z : State) (rl tm rc : Addr) (z p1 : Int32) (ca : Addr) (yc : Nat → Value) (l e : Addr) (h0 : Heap) (n0 : Nat) (vv_ : Option Value) (h : Heap) (LL_ : List Loc) : Prop := vv_ = some (.ref l) ∧ Fr n0 LL_ ∧ (Keep h0 h [])
theorem rnL1 (lh : Launch) (Z : State) (a0 : Array Value) (hw : HW a0 Z) (ws : List Jvm.Cond) (rl tm rc : Addr) (z p1 : Int32) (ca : Addr) (yc : Nat → Value) (l e : Addr) (h0 : Heap) (n0 : Nat) (Z0 : n0 ≤ h0.size) (HR : own_RL Z h0 rl tm z) (HT : own_T1 Z h0 tm rc p1 l e) (EL : Exa Z h0 l "com/example/kept_till_acked/kepttillacked/queue/ReadyLine$Line") (O0 : Old Z n0 h0) (SH : Sta Z Z.heap "java/lang/Integer$IntegerCache" "high" "I" (.int (127 : Int32))) (SCa : Sta Z Z.heap "java/lang/Integer$IntegerCache" "cache" "[Ljava/lang/Integer;" (.ref ca)) (VCa : Av Z Z.heap ca (.object "java/lang/Integer") 256 yc) (hca : ∀ q, q < 256 → ∃ r, yc q = .ref r ∧ Exa Z Z.heap r "java/lang/Integer" ∧ Fld Z Z.heap r "java/lang/Integer" "value" "I" (.int (Int32.ofNat q - (128 : Int32)))) :
    MF lh Z me44 (.code me44 prog_56_method_11_code 2 (some (.object "com/example/kept_till_acked/kepttillacked/queue/ReadyLine$Line"))) ws ⟨6, 1, 1, 3074⟩ #[.ref rl, .int p1] h0 (Q_rnL1 Z rl tm rc z p1 ca yc l e h0 n0) := by
  refine own_metN (y := me44) (plainFor_of_name pn_15) ?_
  intro p ev sT m below meth c T0 K hx hby hml hret hlk hown hnm hnd hZ X0 e0 hK
  have N0 := Fr.nil n0
  have D : DB p c Ld65 := DB.of hx hby d65
  refine Rch.cast (g' := mkF m 0 #[.val (.ref rl), .val (.int p1)] []) (by first | rfl | simp [entryFrame, mkF, argsToLocals, Value.category]) ?_
  obtain ⟨u810_0, u810_1, u810_2⟩ := id HR
  obtain ⟨cf, ms, am, hf1, hf2, hf3, hf4⟩ := own_fwd own_fok
  refine zaN X0 D 0 rfl rfl rfl rfl (zgf X0 D 1 hZ hown (ow hw 38 rfl) e0 u810_1 rfl rfl fun T811 X811 e811 => ?_)
  refine ziN X811 D 2 rfl rfl rfl  (zst (W := 1) X811 D 3 hZ me15 hown (ow hw 61 rfl) (ow hw 62 rfl) (ow hw 63 rfl) (ow hw 64 rfl) e811 (rnVO lh Z a0 hw [] p1 ca yc h0 n0 Z0 O0 SH SCa VCa hca) hml [.int p1] [.ref tm] (lenOf pd_7 rfl) rfl rfl rfl rfl rfl rfl (by decide) (by decide) fun v812 T812 L812 X812 hQ812 => ?_)
  obtain ⟨rr812, rfl, N812q, hQ812⟩ := hQ812
  have N812 := Fr.app N0 N812q
  obtain ⟨K812, Ex812, Fa812⟩ := hQ812
  obtain ⟨fa813, Fz813, st813⟩ := own_site X812 hx hZ (xi := me45) (σ := own_sig) (ow hw 82 rfl) rfl rfl rfl (by decide +kernel) (ow hw 103 rfl) hf1 hf2 hf3 hf4 hnd (g := (mkF m 8 #[.val (.ref rl), .val (.int p1)] [.ref rr812, .ref tm])) rfl rfl (by rw [hml]; rfl) (D.on 4 rfl) (by show 2 * 0 + 2 + 3072 ≤ _; decide)
  refine Rch.of (T' := T812) (g' := (mkF m 13 #[.val (.ref rl), .val (.int p1)] [.ref fa813, .ref rr812, .ref tm])) st813 ?_
  refine zvs X812 D 5 hZ me47 hown (ow hw 85 rfl) (ow hw 86 rfl) (ow hw 88 rfl) (ow hw 87 rfl) (ow hw 89 rfl) (ow hw 11 rfl) rfl (own_T1.x_tm (own_T1.keep HT K812 own_bc0)) (rnCI1 lh Z a0 hw [] tm rc rr812 fa813 p1 l e T812.heap n0 (Nat.le_trans Z0 K812.1) (own_T1.keep HT K812 own_bc0) ⟨Ex812, Fa812⟩) hml [.ref rr812, .ref fa813] [] (lenOf pd_9 rfl) rfl rfl rfl rfl rfl rfl (by decide) (by decide) fun v814 T814 L814 X814 hQ814 => ?_
  obtain ⟨rfl, N814q, hQ814⟩ := hQ814
  have N814 := Fr.app N812 N814q
  obtain ⟨T815, X815, e815, st815⟩ := castY X814 hx hZ hown (ow hw 106 rfl) hQ814 (Ins.of_exa (EL.keep K812) (ow hw 223 rfl)) (g := (mkF m 16 #[.val (.ref rl), .val (.int p1)] [.ref l])) rfl rfl (D.on 6 rfl)
  refine Rch.of (T' := T815) (g' := (mkF m 19 #[.val (.ref rl), .val (.int p1)] [.ref l])) st815 ?_
  exact Rch.retA X815 hx (w := (.ref l)) hret rfl rfl hlk (D.on 7 rfl) (fun U hU hF => hK _ U _ _ _ (by show Q_rnL1 Z rl tm rc z p1 ca yc l e h0 n0 _ U.heap _; rw [hU, e815]; exact ⟨rfl, N814, ((Keep.refl h0 []).trans K812 all0)⟩) hF (by decide) (by decide))
def Q_rnL2 (Z : State) (rl tm rc : Addr) (z p1 : Int32) (ca : Addr) (yc : Nat → Value) (x1 : Int32) (l1 e1 : Addr) (h0 : Heap) (n0 : Nat) (vv_ : Option Value) (h : Heap) (LL_ : List Loc) : Prop := ∃ e2 : Addr, ∃ l2 : Addr, ∃ sb : Addr, ∃ pg : Addr, ∃ na : Addr, ∃ pa : Addr, ∃ mv : Addr, ∃ ad : Addr, ∃ el : Addr, vv_ = some (.ref l2) ∧ Fr n0 LL_ ∧ (h0.size ≤ e2 ∧ h0.size ≤ l2 ∧ h0.size ≤ sb ∧ h0.size ≤ pg ∧ h0.size ≤ na ∧ h0.size ≤ pa ∧ h0.size ≤ mv ∧ h0.size ≤ ad ∧ h0.size ≤ el ∧ Keep h0 h [tm, e1] ∧ own_T2 Z h tm rc x1 l1 e1 p1 l2 e2 ∧ own_LL Z h l2 sb pg na pa mv ad el)
theorem rnL2 (lh : Launch) (Z : State) (a0 : Array Value) (hw : HW a0 Z) (ws : List Jvm.Cond) (rl tm rc : Addr) (z p1 : Int32) (ca : Addr) (yc : Nat → Value) (x1 : Int32) (l1 e1 : Addr) (h0 : Heap) (n0 : Nat) (Z0 : n0 ≤ h0.size) (HR : own_RL Z h0 rl tm z) (HT : own_T1 Z h0 tm rc x1 l1 e1) (hne : x1 ≠ p1) (O0 : Old Z n0 h0) (SH : Sta Z Z.heap "java/lang/Integer$IntegerCache" "high" "I" (.int (127 : Int32))) (SCa : Sta Z Z.heap "java/lang/Integer$IntegerCache" "cache" "[Ljava/lang/Integer;" (.ref ca)) (VCa : Av Z Z.heap ca (.object "java/lang/Integer") 256 yc) (hca : ∀ q, q < 256 → ∃ r, yc q = .ref r ∧ Exa Z Z.heap r "java/lang/Integer" ∧ Fld Z Z.heap r "java/lang/Integer" "value" "I" (.int (Int32.ofNat q - (128 : Int32)))) (g1 : n0 ≤ tm) (g2 : n0 ≤ e1) :
    MF lh Z me44 (.code me44 prog_56_method_11_code 2 (some (.object "com/example/kept_till_acked/kepttillacked/queue/ReadyLine$Line"))) ws ⟨9, 10, 74, 3074⟩ #[.ref rl, .int p1] h0 (Q_rnL2 Z rl tm rc z p1 ca yc x1 l1 e1 h0 n0) := by
  refine own_metN (y := me44) (plainFor_of_name pn_15) ?_
  intro p ev sT m below meth c T0 K hx hby hml hret hlk hown hnm hnd hZ X0 e0 hK
  have N0 := Fr.nil n0
  have D : DB p c Ld65 := DB.of hx hby d65
  refine Rch.cast (g' := mkF m 0 #[.val (.ref rl), .val (.int p1)] []) (by first | rfl | simp [entryFrame, mkF, argsToLocals, Value.category]) ?_
  obtain ⟨u816_0, u816_1, u816_2⟩ := id HR
  obtain ⟨cf, ms, am, hf1, hf2, hf3, hf4⟩ := own_fwd own_fok
  refine zaN X0 D 0 rfl rfl rfl rfl (zgf X0 D 1 hZ hown (ow hw 38 rfl) e0 u816_1 rfl rfl fun T817 X817 e817 => ?_)
  refine ziN X817 D 2 rfl rfl rfl  (zst (W := 1) X817 D 3 hZ me15 hown (ow hw 61 rfl) (ow hw 62 rfl) (ow hw 63 rfl) (ow hw 64 rfl) e817 (rnVO lh Z a0 hw [] p1 ca yc h0 n0 Z0 O0 SH SCa VCa hca) hml [.int p1] [.ref tm] (lenOf pd_7 rfl) rfl rfl rfl rfl rfl rfl (by decide) (by decide) fun v818 T818 L818 X818 hQ818 => ?_)
  obtain ⟨rr818, rfl, N818q, hQ818⟩ := hQ818
  have N818 := Fr.app N0 N818q
  obtain ⟨K818, Ex818, Fa818⟩ := hQ818
  obtain ⟨fa819, Fz819, st819⟩ := own_site X818 hx hZ (xi := me45) (σ := own_sig) (ow hw 82 rfl) rfl rfl rfl (by decide +kernel) (ow hw 103 rfl) hf1 hf2 hf3 hf4 hnd (g := (mkF m 8 #[.val (.ref rl), .val (.int p1)] [.ref rr818, .ref tm])) rfl rfl (by rw [hml]; rfl) (D.on 4 rfl) (by show 2 * 0 + 2 + 3072 ≤ _; decide)
  refine Rch.of (T' := T818) (g' := (mkF m 13 #[.val (.ref rl), .val (.int p1)] [.ref fa819, .ref rr818, .ref tm])) st819 ?_
  refine zvs X818 D 5 hZ me47 hown (ow hw 85 rfl) (ow hw 86 rfl) (ow hw 88 rfl) (ow hw 87 rfl) (ow hw 89 rfl) (ow hw 11 rfl) rfl (own_T1.x_tm (own_T1.keep HT K818 own_bc0)) (rnCI2 lh Z a0 hw [] tm rc rr818 fa819 p1 x1 l1 e1 T818.heap n0 (Nat.le_trans Z0 K818.1) (own_T1.keep HT K818 own_bc0) ⟨Ex818, Fa818⟩ hne (O0.keep K818 all0) Fz819 g1 g2) hml [.ref rr818, .ref fa819] [] (lenOf pd_9 rfl) rfl rfl rfl rfl rfl rfl (by decide) (by decide) fun v820 T820 L820 X820 hQ820 => ?_
  obtain ⟨re2820, rl2820, rsb820, rpg820, rna820, rpa820, rmv820, rad820, rel820, rfl, N820q, hQ820⟩ := hQ820
  have N820 := Fr.app N818 N820q
  obtain ⟨ze820_0, ze820_1, ze820_2, ze820_3, ze820_4, ze820_5, ze820_6, ze820_7, ze820_8, K820, Pq820_0, Pq820_1⟩ := hQ820
  have nc821 : rl ≠ tm := own_exane (own_RL.x_rl (own_RL.keep HR K818 nin0)) (own_T1.x_tm (own_T1.keep HT K818 own_bc0)) (by decide)
  have nc822 : rl ≠ e1 := own_exane (own_RL.x_rl (own_RL.keep HR K818 nin0)) (own_T1.x_e (own_T1.keep HT K818 own_bc0)) (by decide)
  have nc823 : rr818 ≠ tm := own_exane (own_KI.x_k ⟨Ex818, Fa818⟩) (own_T1.x_tm (own_T1.keep HT K818 own_bc0)) (by decide)
  have nc824 : rr818 ≠ e1 := own_exane (own_KI.x_k ⟨Ex818, Fa818⟩) (own_T1.x_e (own_T1.keep HT K818 own_bc0)) (by decide)
  have Fb825 := (((Keep.refl h0 [tm, e1]).trans K818 all0).trans K820 (allS (Or.inl (List.mem_of_getElem? (i := 0) rfl)) (allS (Or.inl (List.mem_of_getElem? (i := 1) rfl)) all0)))
  obtain ⟨T826, X826, e826, st826⟩ := castY X820 hx hZ hown (ow hw 106 rfl) rfl (Ins.of_exa (own_LL.x_l Pq820_1) (ow hw 223 rfl)) (g := (mkF m 16 #[.val (.ref rl), .val (.int p1)] [.ref rl2820])) rfl rfl (D.on 6 rfl)
  refine Rch.of (T' := T826) (g' := (mkF m 19 #[.val (.ref rl), .val (.int p1)] [.ref rl2820])) st826 ?_
  exact Rch.retA X826 hx (w := (.ref rl2820)) hret rfl rfl hlk (D.on 7 rfl) (fun U hU hF => hK _ U _ _ _ (by show Q_rnL2 Z rl tm rc z p1 ca yc x1 l1 e1 h0 n0 _ U.heap _; rw [hU, e826]; exact ⟨re2820, rl2820, rsb820, rpg820, rna820, rpa820, rmv820, rad820, rel820, rfl, N820, (Nat.le_trans ((Keep.refl h0 [tm, e1]).trans K818 all0).1 ze820_0), (Nat.le_trans ((Keep.refl h0 [tm, e1]).trans K818 all0).1 ze820_1), (Nat.le_trans ((Keep.refl h0 [tm, e1]).trans K818 all0).1 ze820_2), (Nat.le_trans ((Keep.refl h0 [tm, e1]).trans K818 all0).1 ze820_3), (Nat.le_trans ((Keep.refl h0 [tm, e1]).trans K818 all0).1 ze820_4), (Nat.le_trans ((Keep.refl h0 [tm, e1]).trans K818 all0).1 ze820_5), (Nat.le_trans ((Keep.refl h0 [tm, e1]).trans K818 all0).1 ze820_6), (Nat.le_trans ((Keep.refl h0 [tm, e1]).trans K818 all0).1 ze820_7), (Nat.le_trans ((Keep.refl h0 [tm, e1]).trans K818 all0).1 ze820_8), Fb825, Pq820_0, Pq820_1⟩) hF (by decide) (by decide))
def own_SE (Z : State) (h : Heap) (n0 : Nat) (rl rc : Addr) : Prop := ∃ (tm : Addr), own_RL Z h rl tm (0 : Int32) ∧ own_TM Z h tm .null rc (0 : Int32) (0 : Int32) ∧ n0 ≤ rl ∧ n0 ≤ tm
def own_SH (Z : State) (h : Heap) (n0 : Nat) (rl rc : Addr) (x : Int32) (s : Int64) : Prop := ∃ (tm l e sb pg na pa pp wa mv ad el : Addr) (yn : Nat → Int64), own_RL Z h rl tm (1 : Int32) ∧ own_T1 Z h tm rc x l e ∧ own_LN Z h l sb mv ∧ own_S1 Z h sb pg na pa pp wa s yn ∧ own_M0 Z h mv ad el ∧ pa ≠ el ∧ n0 ≤ rl ∧ n0 ≤ tm ∧ n0 ≤ e ∧ n0 ≤ sb ∧ n0 ≤ pg ∧ n0 ≤ na ∧ n0 ≤ pa ∧ n0 ≤ pp ∧ n0 ≤ wa ∧ n0 ≤ mv ∧ n0 ≤ ad ∧ n0 ≤ el
def own_SM (Z : State) (h : Heap) (n0 : Nat) (rl rc : Addr) (x : Int32) (s : Int64) : Prop := ∃ (tm l e sb pg na mv ad el ck : Addr) (yn yc : Nat → Int64), own_RL Z h rl tm (1 : Int32) ∧ own_T1 Z h tm rc x l e ∧ own_LN Z h l sb mv ∧ own_S0 Z h sb pg na yn ∧ own_M1 Z h mv ad el ck s yc ∧ n0 ≤ rl ∧ n0 ≤ tm ∧ n0 ≤ e ∧ n0 ≤ mv ∧ n0 ≤ ad ∧ n0 ≤ el
def own_SX (Z : State) (h : Heap) (n0 : Nat) (rl rc : Addr) (x : Int32) (s s2 : Int64) : Prop := ∃ (tm l e sb pg na pa pp wa mv ad el ck : Addr) (yn yc : Nat → Int64), own_RL Z h rl tm (2 : Int32) ∧ own_T1 Z h tm rc x l e ∧ own_LN Z h l sb mv ∧ own_S1 Z h sb pg na pa pp wa s yn ∧ own_M1 Z h mv ad el ck s2 yc ∧ pa ≠ el ∧ na ≠ ck ∧ wa ≠ ck ∧ n0 ≤ rl ∧ n0 ≤ tm ∧ n0 ≤ e ∧ n0 ≤ sb ∧ n0 ≤ pg ∧ n0 ≤ na ∧ n0 ≤ pa ∧ n0 ≤ pp ∧ n0 ≤ wa ∧ n0 ≤ mv ∧ n0 ≤ ad ∧ n0 ≤ el
def own_SY (Z : State) (h : Heap) (n0 : Nat) (rl rc : Addr) (x : Int32) (s : Int64) (x2 : Int32) (s2 : Int64) : Prop := ∃ (tm l e sb pg na pa pp wa mv ad el l2 e2 sb2 pg2 na2 mv2 ad2 el2 ck2 : Addr) (yn yn2 yc2 : Nat → Int64), own_RL Z h rl tm (2 : Int32) ∧ own_T2 Z h tm rc x l e x2 l2 e2 ∧ own_LN Z h l sb mv ∧ own_S1 Z h sb pg na pa pp wa s yn ∧ own_M0 Z h mv ad el ∧ own_LN Z h l2 sb2 mv2 ∧ own_S0 Z h sb2 pg2 na2 yn2 ∧ own_M1 Z h mv2 ad2 el2 ck2 s2 yc2 ∧ sb ≠ sb2 ∧ pg ≠ pg2 ∧ na ≠ na2 ∧ wa ≠ na2 ∧ pa ≠ el2 ∧ na ≠ ck2 ∧ wa ≠ ck2 ∧ n0 ≤ rl ∧ n0 ≤ tm ∧ n0 ≤ e ∧ n0 ≤ e2 ∧ n0 ≤ sb ∧ n0 ≤ pg ∧ n0 ≤ na ∧ n0 ≤ pa ∧ n0 ≤ pp ∧ n0 ≤ wa ∧ n0 ≤ mv2 ∧ n0 ≤ ad2 ∧ n0 ≤ el2
theorem own_zp {Z : State} {n0 : Nat} {h : Heap} (O : Old Z n0 h) : n0 ≤ h.size := Nat.le_trans (Nat.le_of_eq O.1.symm) O.2.1
def Q_rnAH (Z : State) (rl rc : Addr) (p1 : Int64) (p2 : Int32) (ca : Addr) (yc : Nat → Value) (h0 : Heap) (n0 : Nat) (vv_ : Option Value) (h : Heap) (LL_ : List Loc) : Prop := vv_ = none ∧ Fr n0 LL_ ∧ (Old Z n0 h ∧ own_SH Z h n0 rl rc p2 p1)
def Ld66 : List (Nat × Instr × Nat) := [(0, .aload_n 0, 1), (1, .iload_n 3, 1), (2, .invokevirtual 54, 3), (5, .getfield 58, 3), (8, .lload_n 1, 1), (9, .invokevirtual 64, 3), (12, .aload_n 0, 1), (13, .dup, 1), (14, .getfield 24, 3), (17, .iconst 1, 1), (18, .iadd, 1), (19, .putfield 24, 3), (22, .return_, 1)]
theorem d66 : ∀ q ∈ Ld66, decode prog_56_method_5_code q.1 = .ok q.2 := by decide +kernel
abbrev me69 : MethodName := ⟨"com/example/kept_till_acked/kepttillacked/queue/ReadyLine", "addAtHome", "(JI)V"⟩
def sn106 {a0 : Array Value} {Z : State} (hw : HW a0 Z) := slot_ne (C := "com/example/kept_till_acked/kepttillacked/queue/ReadyLine") (Or.inr (ow hw 39 rfl)) (Or.inl (ow hw 46 rfl)) (by decide) (t := (.object "java/util/TreeMap")) (t' := .int) (by decide) (by decide)
theorem rnAH (lh : Launch) (Z : State) (a0 : Array Value) (hw : HW a0 Z) (ws : List Jvm.Cond) (rl rc : Addr) (p1 : Int64) (p2 : Int32) (ca : Addr) (yc : Nat → Value) (h0 : Heap) (n0 : Nat) (Z0 : n0 ≤ h0.size) (HS : own_SE Z h0 n0 rl rc) (O0 : Old Z n0 h0) (SH : Sta Z Z.heap "java/lang/Integer$IntegerCache" "high" "I" (.int (127 : Int32))) (SCa : Sta Z Z.heap "java/lang/Integer$IntegerCache" "cache" "[Ljava/lang/Integer;" (.ref ca)) (VCa : Av Z Z.heap ca (.object "java/lang/Integer") 256 yc) (hca : ∀ q, q < 256 → ∃ r, yc q = .ref r ∧ Exa Z Z.heap r "java/lang/Integer" ∧ Fld Z Z.heap r "java/lang/Integer" "value" "I" (.int (Int32.ofNat q - (128 : Int32)))) :
    MF lh Z me69 (.code me69 prog_56_method_5_code 4 none) ws ⟨10, 12, 80, 3087⟩ #[.ref rl, .long p1, .int p2] h0 (Q_rnAH Z rl rc p1 p2 ca yc h0 n0) := by
  refine own_met (y := me69) (plainFor_of_name pn_15) ?_
  intro p ev sT m below meth c T0 K hx hby hml hret hlk hown hnm hZ X0 e0 hK
  have N0 := Fr.nil n0
  have D : DB p c Ld66 := DB.of hx hby d66
  refine Rch.cast (g' := mkF m 0 #[.val (.ref rl), .val (.long p1), .second, .val (.int p2)] []) (by first | rfl | simp [entryFrame, mkF, argsToLocals, Value.category]) ?_
  obtain ⟨tm_827, es827_0, es827_1, es827_2, es827_3⟩ := id HS
  refine zaN X0 D 0 rfl rfl rfl rfl (ziN X0 D 1 rfl rfl rfl  (zpb X0 D 2 hZ me44 hown (own_selP (mvT hZ (ow hw 1 rfl)) (mvP hZ (ow hw 59 rfl)) (mvT hZ (ow hw 58 rfl)) (by decide)) (ow hw 57 rfl) (ow hw 58 rfl) (ow hw 59 rfl) (ow hw 60 rfl) (ow hw 2 rfl) e0 (own_RL.x_rl es827_0) (rnL0 lh Z a0 hw [] rl tm_827 rc (0 : Int32) p2 ca yc (0 : Int32) (0 : Int32) h0 n0 Z0 es827_0 es827_1 O0 SH SCa VCa hca es827_3) hml [.int p2] [] (lenOf pd_6 rfl) rfl rfl rfl rfl rfl rfl (by decide) (by decide) fun v828 T828 L828 X828 hQ828 => ?_))
  obtain ⟨re828, rl828, rsb828, rpg828, rna828, rpa828, rmv828, rad828, rel828, rfl, N828q, hQ828⟩ := hQ828
  have N828 := Fr.app N0 N828q
  obtain ⟨ze828_0, ze828_1, ze828_2, ze828_3, ze828_4, ze828_5, ze828_6, ze828_7, ze828_8, K828, Pq828_0, Pq828_1⟩ := hQ828
  have nc829 : rl ≠ tm_827 := own_exane (own_RL.x_rl es827_0) (own_TM.x_tm es827_1) (by decide)
  obtain ⟨u830_0, u830_1, u830_2, u830_3⟩ := id Pq828_1
  obtain ⟨u831_0, u831_1, u831_2⟩ := id u830_0
  refine Rch.of (T' := T828) (g' := (mkF m 8 #[.val (.ref rl), .val (.long p1), .second, .val (.int p2)] [.ref rsb828])) (own_getR X828 hx hZ hown (ow hw 224 rfl) rfl u831_1 (g := (mkF m 5 #[.val (.ref rl), .val (.long p1), .second, .val (.int p2)] [.ref rl828])) rfl rfl (D.on 3 rfl)) ?_
  refine zlN X828 D 4 rfl rfl rfl  (zvs X828 D 5 hZ me60 hown (ow hw 225 rfl) (ow hw 226 rfl) (ow hw 228 rfl) (ow hw 227 rfl) (ow hw 229 rfl) (ow hw 115 rfl) rfl (own_SF.x_sb u830_1) (rnSA lh Z a0 hw [] rsb828 rpg828 rna828 rpa828 p1 T828.heap n0 (Nat.le_trans Z0 K828.1) u830_1 (Nat.le_trans Z0 ze828_2) (Nat.le_trans Z0 ze828_3) (Nat.le_trans Z0 ze828_4) (Nat.le_trans Z0 ze828_5)) hml [.long p1] [] (lenOf pd_19 rfl) rfl rfl rfl rfl rfl rfl (by decide) (by decide) fun v832 T832 L832 X832 hQ832 => ?_)
  obtain ⟨rpp832, rwa832, ryn832, rfl, N832q, hQ832⟩ := hQ832
  have N832 := Fr.app N828 N832q
  obtain ⟨ze832_0, ze832_1, K832, Pq832⟩ := hQ832
  have Fb833 := (own_bcS (own_SF.x_sb u830_1) (by decide) (own_bcS (own_SF.x_pg u830_1) (by decide) (own_bcS (own_SF.x_na u830_1) (by decide) (own_bcS (own_SF.x_pa u830_1) (by decide) own_bc0))))
  have nl834 : rl ≠ rsb828 := Nat.ne_of_lt (Nat.lt_of_lt_of_le (own_RL.lt_rl es827_0) ze828_2)
  have nl835 : rl ≠ rpg828 := Nat.ne_of_lt (Nat.lt_of_lt_of_le (own_RL.lt_rl es827_0) ze828_3)
  have nl836 : rl ≠ rna828 := Nat.ne_of_lt (Nat.lt_of_lt_of_le (own_RL.lt_rl es827_0) ze828_4)
  have nl837 : rl ≠ rpa828 := Nat.ne_of_lt (Nat.lt_of_lt_of_le (own_RL.lt_rl es827_0) ze828_5)
  have nc838 : rl828 ≠ rsb828 := own_exane u831_0 (own_SF.x_sb u830_1) (by decide)
  have nc839 : rl828 ≠ rpg828 := own_exane u831_0 (own_SF.x_pg u830_1) (by decide)
  have nc840 : rl828 ≠ rna828 := own_exane u831_0 (own_SF.x_na u830_1) (by decide)
  have nc841 : rl828 ≠ rpa828 := own_exane u831_0 (own_SF.x_pa u830_1) (by decide)
  have nc842 : rmv828 ≠ rsb828 := own_exane (own_M0.x_mv u830_2) (own_SF.x_sb u830_1) (by decide)
  have nc843 : rmv828 ≠ rpg828 := own_exane (own_M0.x_mv u830_2) (own_SF.x_pg u830_1) (by decide)
  have nc844 : rmv828 ≠ rna828 := own_exane (own_M0.x_mv u830_2) (own_SF.x_na u830_1) (by decide)
  have nc845 : rmv828 ≠ rpa828 := own_exane (own_M0.x_mv u830_2) (own_SF.x_pa u830_1) (by decide)
  have nc846 : rad828 ≠ rsb828 := own_exane (own_M0.x_ad u830_2) (own_SF.x_sb u830_1) (by decide)
  have nc847 : rad828 ≠ rpg828 := own_exane (own_M0.x_ad u830_2) (own_SF.x_pg u830_1) (by decide)
  have nc848 : rad828 ≠ rna828 := own_exane (own_M0.x_ad u830_2) (own_SF.x_na u830_1) (by decide)
  have nc849 : rad828 ≠ rpa828 := own_exane (own_M0.x_ad u830_2) (own_SF.x_pa u830_1) (by decide)
  have nc850 : rel828 ≠ rsb828 := own_exane (own_M0.x_el u830_2) (own_SF.x_sb u830_1) (by decide)
  have nc851 : rel828 ≠ rpg828 := own_exane (own_M0.x_el u830_2) (own_SF.x_pg u830_1) (by decide)
  have nc852 : rel828 ≠ rna828 := own_exane (own_M0.x_el u830_2) (own_SF.x_na u830_1) (by decide)
  have Fb853 := ((O0.keep K828 (allS es827_3 all0)).keep K832 (allS (Nat.le_trans Z0 ze828_2) (allS (Nat.le_trans Z0 ze828_3) (allS (Nat.le_trans Z0 ze828_4) (allS (Nat.le_trans Z0 ze828_5) all0)))))
  have Fb854 := (own_M0.keep u830_2 K832 (ninS nc842 (ninS nc843 (ninS nc844 (ninS nc845 nin0)))) (ninS nc846 (ninS nc847 (ninS nc848 (ninS nc849 nin0)))) (ninS nc850 (ninS nc851 (ninS nc852 (ninS (Ne.symm u830_3) nin0)))))
  obtain ⟨u855_0, u855_1, u855_2⟩ := id (own_RL.keep (own_RL.keep es827_0 K828 (ninS nc829 nin0)) K832 (ninS nl834 (ninS nl835 (ninS nl836 (ninS nl837 nin0)))))
  refine zaN X832 D 6 rfl rfl rfl rfl (zdu X832 D 7 rfl rfl rfl (zgf X832 D 8 hZ hown (ow hw 45 rfl) rfl u855_2 rfl rfl fun T856 X856 e856 => ?_))
  refine zic X856 D 9 1 rfl rfl rfl (ziadd X856 D 10 1 rfl rfl rfl (zpf X856 D 11 hZ hown (ow hw 45 rfl) e856 u855_2 u855_0 (Or.inl (ow hw 46 rfl)) (ow hw 1 rfl) .int (by decide) rfl rfl rfl rfl fun T857 h857 X857 e857 W857 => ?_))
  have N857 := Fr.snoc X857 N832 es827_2
  have Fw857 := Fld.same W857 u855_2
  have nl858 : rl ≠ rl828 := Nat.ne_of_lt (Nat.lt_of_lt_of_le (own_RL.lt_rl es827_0) ze828_1)
  have nl859 : rl ≠ rmv828 := Nat.ne_of_lt (Nat.lt_of_lt_of_le (own_RL.lt_rl es827_0) ze828_6)
  have nl860 : rl ≠ rad828 := Nat.ne_of_lt (Nat.lt_of_lt_of_le (own_RL.lt_rl es827_0) ze828_7)
  have nl861 : rl ≠ rel828 := Nat.ne_of_lt (Nat.lt_of_lt_of_le (own_RL.lt_rl es827_0) ze828_8)
  have nl862 : rl ≠ rpp832 := Nat.ne_of_lt (Nat.lt_of_lt_of_le (own_RL.lt_rl (own_RL.keep es827_0 K828 (ninS nc829 nin0))) ze832_0)
  have nl863 : rl ≠ rwa832 := Nat.ne_of_lt (Nat.lt_of_lt_of_le (own_RL.lt_rl (own_RL.keep es827_0 K828 (ninS nc829 nin0))) ze832_1)
  have Fb864 := (own_S1.keep Pq832 (Keep.of_wr W857) (ninS (Ne.symm nl834) nin0) (ninS (Ne.symm nl835) nin0) (ninS (Ne.symm nl836) nin0) (ninS (Ne.symm nl837) nin0) (ninS (Ne.symm nl862) nin0) (ninS (Ne.symm nl863) nin0))
  exact Rch.retV X857 hx hret hlk (D.on 12 rfl) (fun U hU hF => hK _ U _ _ _ (by show Q_rnAH Z rl rc p1 p2 ca yc h0 n0 _ U.heap _; rw [hU, e857]; exact ⟨rfl, N857, (Fb853.wr W857 es827_2), ⟨tm_827, rl828, re828, rsb828, rpg828, rna828, rpa828, rpp832, rwa832, rmv828, rad828, rel828, ryn832, ⟨(u855_0.wr W857), (u855_1.other W857 (Or.inr (sn106 hw))), Fw857⟩, (own_T1.keep (own_T1.keep Pq828_0 K832 Fb833) (Keep.of_wr W857) (own_bcS u855_0 (by decide) own_bc0)), (own_LN.keep (own_LN.keep u830_0 K832 (ninS nc838 (ninS nc839 (ninS nc840 (ninS nc841 nin0))))) (Keep.of_wr W857) (ninS (Ne.symm nl858) nin0)), Fb864, (own_M0.keep Fb854 (Keep.of_wr W857) (ninS (Ne.symm nl859) nin0) (ninS (Ne.symm nl860) nin0) (ninS (Ne.symm nl861) nin0)), u830_3, es827_2, es827_3, (Nat.le_trans Z0 ze828_0), (Nat.le_trans Z0 ze828_2), (Nat.le_trans Z0 ze828_3), (Nat.le_trans Z0 ze828_4), (Nat.le_trans Z0 ze828_5), (Nat.le_trans (Nat.le_trans Z0 K828.1) ze832_0), (Nat.le_trans (Nat.le_trans Z0 K828.1) ze832_1), (Nat.le_trans Z0 ze828_6), (Nat.le_trans Z0 ze828_7), (Nat.le_trans Z0 ze828_8)⟩⟩) hF (by decide) (by decide))
def Q_rnA0 (Z : State) (rl rc : Addr) (p1 : Int64) (p2 : Int32) (p3 : Int64) (ca : Addr) (yc : Nat → Value) (h0 : Heap) (n0 : Nat) (vv_ : Option Value) (h : Heap) (LL_ : List Loc) : Prop := vv_ = none ∧ Fr n0 LL_ ∧ (Old Z n0 h ∧ own_SM Z h n0 rl rc p2 p1)
def Ld67 : List (Nat × Instr × Nat) := [(0, .aload_n 0, 1), (1, .iload_n 3, 1), (2, .invokevirtual 54, 3), (5, .getfield 70, 3), (8, .lload_n 1, 1), (9, .lload 4, 2), (11, .invokevirtual 74, 3), (14, .aload_n 0, 1), (15, .dup, 1), (16, .getfield 24, 3), (19, .iconst 1, 1), (20, .iadd, 1), (21, .putfield 24, 3), (24, .return_, 1)]
theorem d67 : ∀ q ∈ Ld67, decode prog_56_method_6_code q.1 = .ok q.2 := by decide +kernel
abbrev me70 : MethodName := ⟨"com/example/kept_till_acked/kepttillacked/queue/ReadyLine", "addMoved", "(JIJ)V"⟩
theorem rnA0 (lh : Launch) (Z : State) (a0 : Array Value) (hw : HW a0 Z) (ws : List Jvm.Cond) (rl rc : Addr) (p1 : Int64) (p2 : Int32) (p3 : Int64) (ca : Addr) (yc : Nat → Value) (h0 : Heap) (n0 : Nat) (Z0 : n0 ≤ h0.size) (HS : own_SE Z h0 n0 rl rc) (O0 : Old Z n0 h0) (SH : Sta Z Z.heap "java/lang/Integer$IntegerCache" "high" "I" (.int (127 : Int32))) (SCa : Sta Z Z.heap "java/lang/Integer$IntegerCache" "cache" "[Ljava/lang/Integer;" (.ref ca)) (VCa : Av Z Z.heap ca (.object "java/lang/Integer") 256 yc) (hca : ∀ q, q < 256 → ∃ r, yc q = .ref r ∧ Exa Z Z.heap r "java/lang/Integer" ∧ Fld Z Z.heap r "java/lang/Integer" "value" "I" (.int (Int32.ofNat q - (128 : Int32)))) :
    MF lh Z me70 (.code me70 prog_56_method_6_code 6 none) ws ⟨10, 11, 86, 3087⟩ #[.ref rl, .long p1, .int p2, .long p3] h0 (Q_rnA0 Z rl rc p1 p2 p3 ca yc h0 n0) := by
  refine own_met (y := me70) (plainFor_of_name pn_15) ?_
  intro p ev sT m below meth c T0 K hx hby hml hret hlk hown hnm hZ X0 e0 hK
  have N0 := Fr.nil n0
  have D : DB p c Ld67 := DB.of hx hby d67
  refine Rch.cast (g' := mkF m 0 #[.val (.ref rl), .val (.long p1), .second, .val (.int p2), .val (.long p3), .second] []) (by first | rfl | simp [entryFrame, mkF, argsToLocals, Value.category]) ?_
  obtain ⟨tm_865, es865_0, es865_1, es865_2, es865_3⟩ := id HS
  refine zaN X0 D 0 rfl rfl rfl rfl (ziN X0 D 1 rfl rfl rfl  (zpb X0 D 2 hZ me44 hown (own_selP (mvT hZ (ow hw 1 rfl)) (mvP hZ (ow hw 59 rfl)) (mvT hZ (ow hw 58 rfl)) (by decide)) (ow hw 57 rfl) (ow hw 58 rfl) (ow hw 59 rfl) (ow hw 60 rfl) (ow hw 2 rfl) e0 (own_RL.x_rl es865_0) (rnL0 lh Z a0 hw [] rl tm_865 rc (0 : Int32) p2 ca yc (0 : Int32) (0 : Int32) h0 n0 Z0 es865_0 es865_1 O0 SH SCa VCa hca es865_3) hml [.int p2] [] (lenOf pd_6 rfl) rfl rfl rfl rfl rfl rfl (by decide) (by decide) fun v866 T866 L866 X866 hQ866 => ?_))
  obtain ⟨re866, rl866, rsb866, rpg866, rna866, rpa866, rmv866, rad866, rel866, rfl, N866q, hQ866⟩ := hQ866
  have N866 := Fr.app N0 N866q
  obtain ⟨ze866_0, ze866_1, ze866_2, ze866_3, ze866_4, ze866_5, ze866_6, ze866_7, ze866_8, K866, Pq866_0, Pq866_1⟩ := hQ866
  have nc867 : rl ≠ tm_865 := own_exane (own_RL.x_rl es865_0) (own_TM.x_tm es865_1) (by decide)
  obtain ⟨u868_0, u868_1, u868_2, u868_3⟩ := id Pq866_1
  obtain ⟨u869_0, u869_1, u869_2⟩ := id u868_0
  refine Rch.of (T' := T866) (g' := (mkF m 8 #[.val (.ref rl), .val (.long p1), .second, .val (.int p2), .val (.long p3), .second] [.ref rmv866])) (own_getR X866 hx hZ hown (ow hw 331 rfl) rfl u869_2 (g := (mkF m 5 #[.val (.ref rl), .val (.long p1), .second, .val (.int p2), .val (.long p3), .second] [.ref rl866])) rfl rfl (D.on 3 rfl)) ?_
  refine zlN X866 D 4 rfl rfl rfl  (zl X866 D 5 rfl rfl rfl  (zvs X866 D 6 hZ me64 hown (ow hw 359 rfl) (ow hw 360 rfl) (ow hw 362 rfl) (ow hw 361 rfl) (ow hw 363 rfl) (ow hw 140 rfl) rfl (own_M0.x_mv u868_2) (rnMA lh Z a0 hw [] rmv866 rad866 rel866 p1 p3 T866.heap n0 (Nat.le_trans Z0 K866.1) u868_2 (Nat.le_trans Z0 ze866_6) (Nat.le_trans Z0 ze866_7) (Nat.le_trans Z0 ze866_8)) hml [.long p1, .long p3] [] (lenOf pd_31 rfl) rfl rfl rfl rfl rfl rfl (by decide) (by decide) fun v870 T870 L870 X870 hQ870 => ?_))
  obtain ⟨rck870, ryc870, rfl, N870q, hQ870⟩ := hQ870
  have N870 := Fr.app N866 N870q
  obtain ⟨ze870, K870, Pq870⟩ := hQ870
  have nl871 : rl ≠ rmv866 := Nat.ne_of_lt (Nat.lt_of_lt_of_le (own_RL.lt_rl es865_0) ze866_6)
  have nl872 : rl ≠ rad866 := Nat.ne_of_lt (Nat.lt_of_lt_of_le (own_RL.lt_rl es865_0) ze866_7)
  have nl873 : rl ≠ rel866 := Nat.ne_of_lt (Nat.lt_of_lt_of_le (own_RL.lt_rl es865_0) ze866_8)
  have nc874 : rl866 ≠ rmv866 := own_exane u869_0 (own_M0.x_mv u868_2) (by decide)
  have nc875 : rl866 ≠ rad866 := own_exane u869_0 (own_M0.x_ad u868_2) (by decide)
  have nc876 : rl866 ≠ rel866 := own_exane u869_0 (own_M0.x_el u868_2) (by decide)
  have nc877 : rsb866 ≠ rmv866 := own_exane (own_SF.x_sb u868_1) (own_M0.x_mv u868_2) (by decide)
  have nc878 : rsb866 ≠ rad866 := own_exane (own_SF.x_sb u868_1) (own_M0.x_ad u868_2) (by decide)
  have nc879 : rsb866 ≠ rel866 := own_exane (own_SF.x_sb u868_1) (own_M0.x_el u868_2) (by decide)
  have nc880 : rpg866 ≠ rmv866 := own_exane (own_SF.x_pg u868_1) (own_M0.x_mv u868_2) (by decide)
  have nc881 : rpg866 ≠ rad866 := own_exane (own_SF.x_pg u868_1) (own_M0.x_ad u868_2) (by decide)
  have nc882 : rpg866 ≠ rel866 := own_exane (own_SF.x_pg u868_1) (own_M0.x_el u868_2) (by decide)
  have nc883 : rna866 ≠ rmv866 := own_exane (own_SF.x_na u868_1) (own_M0.x_mv u868_2) (by decide)
  have nc884 : rna866 ≠ rad866 := own_exane (own_SF.x_na u868_1) (own_M0.x_ad u868_2) (by decide)
  have nc885 : rna866 ≠ rel866 := own_exane (own_SF.x_na u868_1) (own_M0.x_el u868_2) (by decide)
  have nc886 : rpa866 ≠ rmv866 := own_exane (own_SF.x_pa u868_1) (own_M0.x_mv u868_2) (by decide)
  have nc887 : rpa866 ≠ rad866 := own_exane (own_SF.x_pa u868_1) (own_M0.x_ad u868_2) (by decide)
  have Fb888 := (own_T1.keep Pq866_0 K870 (own_bcS (own_M0.x_mv u868_2) (by decide) (own_bcS (own_M0.x_ad u868_2) (by decide) (own_bcS (own_M0.x_el u868_2) (by decide) own_bc0))))
  have Fb889 := (own_SF.keep u868_1 K870 (ninS nc877 (ninS nc878 (ninS nc879 nin0))) (ninS nc880 (ninS nc881 (ninS nc882 nin0))) (ninS nc883 (ninS nc884 (ninS nc885 nin0))) (ninS nc886 (ninS nc887 (ninS u868_3 nin0))))
  obtain ⟨u890_0, u890_1, u890_2⟩ := id (own_RL.keep (own_RL.keep es865_0 K866 (ninS nc867 nin0)) K870 (ninS nl871 (ninS nl872 (ninS nl873 nin0))))
  refine zaN X870 D 7 rfl rfl rfl rfl (zdu X870 D 8 rfl rfl rfl (zgf X870 D 9 hZ hown (ow hw 45 rfl) rfl u890_2 rfl rfl fun T891 X891 e891 => ?_))
  refine zic X891 D 10 1 rfl rfl rfl (ziadd X891 D 11 1 rfl rfl rfl (zpf X891 D 12 hZ hown (ow hw 45 rfl) e891 u890_2 u890_0 (Or.inl (ow hw 46 rfl)) (ow hw 1 rfl) .int (by decide) rfl rfl rfl rfl fun T892 h892 X892 e892 W892 => ?_))
  have N892 := Fr.snoc X892 N870 es865_2
  have Fw892 := Fld.same W892 u890_2
  have nl893 : rl ≠ rl866 := Nat.ne_of_lt (Nat.lt_of_lt_of_le (own_RL.lt_rl es865_0) ze866_1)
  have nl894 : rl ≠ rsb866 := Nat.ne_of_lt (Nat.lt_of_lt_of_le (own_RL.lt_rl es865_0) ze866_2)
  have nl895 : rl ≠ rpg866 := Nat.ne_of_lt (Nat.lt_of_lt_of_le (own_RL.lt_rl es865_0) ze866_3)
  have nl896 : rl ≠ rna866 := Nat.ne_of_lt (Nat.lt_of_lt_of_le (own_RL.lt_rl es865_0) ze866_4)
  have nl897 : rl ≠ rpa866 := Nat.ne_of_lt (Nat.lt_of_lt_of_le (own_RL.lt_rl es865_0) ze866_5)
  have nl898 : rl ≠ rck870 := Nat.ne_of_lt (Nat.lt_of_lt_of_le (own_RL.lt_rl (own_RL.keep es865_0 K866 (ninS nc867 nin0))) ze870)
  have Fb899 := (((O0.keep K866 (allS es865_3 all0)).keep K870 (allS (Nat.le_trans Z0 ze866_6) (allS (Nat.le_trans Z0 ze866_7) (allS (Nat.le_trans Z0 ze866_8) all0)))).wr W892 es865_2)
  have Fb900 := ((SH.ext ((O0.keep K866 (allS es865_3 all0)).keep K870 (allS (Nat.le_trans Z0 ze866_6) (allS (Nat.le_trans Z0 ze866_7) (allS (Nat.le_trans Z0 ze866_8) all0)))).2).wr W892)
  have Fb901 := ((SCa.ext ((O0.keep K866 (allS es865_3 all0)).keep K870 (allS (Nat.le_trans Z0 ze866_6) (allS (Nat.le_trans Z0 ze866_7) (allS (Nat.le_trans Z0 ze866_8) all0)))).2).wr W892)
  obtain ⟨u902_0, u902_1, u902_2, u902_3, u902_4, u902_5, u902_6, u902_7⟩ := id (own_SF.keep Fb889 (Keep.of_wr W892) (ninS (Ne.symm nl894) nin0) (ninS (Ne.symm nl895) nin0) (ninS (Ne.symm nl896) nin0) (ninS (Ne.symm nl897) nin0))
  exact Rch.retV X892 hx hret hlk (D.on 13 rfl) (fun U hU hF => hK _ U _ _ _ (by show Q_rnA0 Z rl rc p1 p2 p3 ca yc h0 n0 _ U.heap _; rw [hU, e892]; exact ⟨rfl, N892, Fb899, ⟨tm_865, rl866, re866, rsb866, rpg866, rna866, rmv866, rad866, rel866, rck870, (fun _ => (0 : Int64)), ryc870, ⟨(u890_0.wr W892), (u890_1.other W892 (Or.inr (sn106 hw))), Fw892⟩, (own_T1.keep Fb888 (Keep.of_wr W892) (own_bcS u890_0 (by decide) own_bc0)), (own_LN.keep (own_LN.keep u868_0 K870 (ninS nc874 (ninS nc875 (ninS nc876 nin0)))) (Keep.of_wr W892) (ninS (Ne.symm nl893) nin0)), ⟨u902_0, u902_1, u902_2, u902_3⟩, (own_M1.keep Pq870 (Keep.of_wr W892) (ninS (Ne.symm nl871) nin0) (ninS (Ne.symm nl872) nin0) (ninS (Ne.symm nl873) nin0) (ninS (Ne.symm nl898) nin0)), es865_2, es865_3, (Nat.le_trans Z0 ze866_0), (Nat.le_trans Z0 ze866_6), (Nat.le_trans Z0 ze866_7), (Nat.le_trans Z0 ze866_8)⟩⟩) hF (by decide) (by decide))
def Q_rnA1 (Z : State) (rl rc : Addr) (p1 : Int64) (p2 : Int32) (p3 : Int64) (ca : Addr) (yc : Nat → Value) (s1 : Int64) (h0 : Heap) (n0 : Nat) (vv_ : Option Value) (h : Heap) (LL_ : List Loc) : Prop := vv_ = none ∧ Fr n0 LL_ ∧ (Old Z n0 h ∧ own_SX Z h n0 rl rc p2 s1 p1)
theorem rnA1 (lh : Launch) (Z : State) (a0 : Array Value) (hw : HW a0 Z) (ws : List Jvm.Cond) (rl rc : Addr) (p1 : Int64) (p2 : Int32) (p3 : Int64) (ca : Addr) (yc : Nat → Value) (s1 : Int64) (h0 : Heap) (n0 : Nat) (Z0 : n0 ≤ h0.size) (HS : own_SH Z h0 n0 rl rc p2 s1) (O0 : Old Z n0 h0) (SH : Sta Z Z.heap "java/lang/Integer$IntegerCache" "high" "I" (.int (127 : Int32))) (SCa : Sta Z Z.heap "java/lang/Integer$IntegerCache" "cache" "[Ljava/lang/Integer;" (.ref ca)) (VCa : Av Z Z.heap ca (.object "java/lang/Integer") 256 yc) (hca : ∀ q, q < 256 → ∃ r, yc q = .ref r ∧ Exa Z Z.heap r "java/lang/Integer" ∧ Fld Z Z.heap r "java/lang/Integer" "value" "I" (.int (Int32.ofNat q - (128 : Int32)))) :
    MF lh Z me70 (.code me70 prog_56_method_6_code 6 none) ws ⟨7, 2, 13, 3087⟩ #[.ref rl, .long p1, .int p2, .long p3] h0 (Q_rnA1 Z rl rc p1 p2 p3 ca yc s1 h0 n0) := by
  refine own_met (y := me70) (plainFor_of_name pn_15) ?_
  intro p ev sT m below meth c T0 K hx hby hml hret hlk hown hnm hZ X0 e0 hK
  have N0 := Fr.nil n0
  have D : DB p c Ld67 := DB.of hx hby d67
  refine Rch.cast (g' := mkF m 0 #[.val (.ref rl), .val (.long p1), .second, .val (.int p2), .val (.long p3), .second] []) (by first | rfl | simp [entryFrame, mkF, argsToLocals, Value.category]) ?_
  obtain ⟨tm_903, l_903, e_903, sb_903, pg_903, na_903, pa_903, pp_903, wa_903, mv_903, ad_903, el_903, yn_903, es903_0, es903_1, es903_2, es903_3, es903_4, es903_5, es903_6, es903_7, es903_8, es903_9, es903_10, es903_11, es903_12, es903_13, es903_14, es903_15, es903_16, es903_17⟩ := id HS
  refine zaN X0 D 0 rfl rfl rfl rfl (ziN X0 D 1 rfl rfl rfl  (zpb X0 D 2 hZ me44 hown (own_selP (mvT hZ (ow hw 1 rfl)) (mvP hZ (ow hw 59 rfl)) (mvT hZ (ow hw 58 rfl)) (by decide)) (ow hw 57 rfl) (ow hw 58 rfl) (ow hw 59 rfl) (ow hw 60 rfl) (ow hw 2 rfl) e0 (own_RL.x_rl es903_0) (rnL1 lh Z a0 hw [] rl tm_903 rc (1 : Int32) p2 ca yc l_903 e_903 h0 n0 Z0 es903_0 es903_1 (own_LN.x_l es903_2) O0 SH SCa VCa hca) hml [.int p2] [] (lenOf pd_6 rfl) rfl rfl rfl rfl rfl rfl (by decide) (by decide) fun v904 T904 L904 X904 hQ904 => ?_))
  obtain ⟨rfl, N904q, hQ904⟩ := hQ904
  have N904 := Fr.app N0 N904q
  obtain ⟨u905_0, u905_1, u905_2⟩ := id (own_LN.keep es903_2 hQ904 nin0)
  refine Rch.of (T' := T904) (g' := (mkF m 8 #[.val (.ref rl), .val (.long p1), .second, .val (.int p2), .val (.long p3), .second] [.ref mv_903])) (own_getR X904 hx hZ hown (ow hw 331 rfl) rfl u905_2 (g := (mkF m 5 #[.val (.ref rl), .val (.long p1), .second, .val (.int p2), .val (.long p3), .second] [.ref l_903])) rfl rfl (D.on 3 rfl)) ?_
  refine zlN X904 D 4 rfl rfl rfl  (zl X904 D 5 rfl rfl rfl  (zvs X904 D 6 hZ me64 hown (ow hw 359 rfl) (ow hw 360 rfl) (ow hw 362 rfl) (ow hw 361 rfl) (ow hw 363 rfl) (ow hw 140 rfl) rfl (own_M0.x_mv (own_M0.keep es903_4 hQ904 nin0 nin0 nin0)) (rnMA lh Z a0 hw [] mv_903 ad_903 el_903 p1 p3 T904.heap n0 (Nat.le_trans Z0 hQ904.1) (own_M0.keep es903_4 hQ904 nin0 nin0 nin0) es903_15 es903_16 es903_17) hml [.long p1, .long p3] [] (lenOf pd_31 rfl) rfl rfl rfl rfl rfl rfl (by decide) (by decide) fun v906 T906 L906 X906 hQ906 => ?_))
  obtain ⟨rck906, ryc906, rfl, N906q, hQ906⟩ := hQ906
  have N906 := Fr.app N904 N906q
  obtain ⟨ze906, K906, Pq906⟩ := hQ906
  have Fb907 := (own_bcS (own_M0.x_mv (own_M0.keep es903_4 hQ904 nin0 nin0 nin0)) (by decide) (own_bcS (own_M0.x_ad (own_M0.keep es903_4 hQ904 nin0 nin0 nin0)) (by decide) (own_bcS (own_M0.x_el (own_M0.keep es903_4 hQ904 nin0 nin0 nin0)) (by decide) own_bc0)))
  have nc908 : rl ≠ mv_903 := own_exane (own_RL.x_rl (own_RL.keep es903_0 hQ904 nin0)) (own_M0.x_mv (own_M0.keep es903_4 hQ904 nin0 nin0 nin0)) (by decide)
  have nc909 : rl ≠ ad_903 := own_exane (own_RL.x_rl (own_RL.keep es903_0 hQ904 nin0)) (own_M0.x_ad (own_M0.keep es903_4 hQ904 nin0 nin0 nin0)) (by decide)
  have nc910 : rl ≠ el_903 := own_exane (own_RL.x_rl (own_RL.keep es903_0 hQ904 nin0)) (own_M0.x_el (own_M0.keep es903_4 hQ904 nin0 nin0 nin0)) (by decide)
  have nc911 : l_903 ≠ mv_903 := own_exane u905_0 (own_M0.x_mv (own_M0.keep es903_4 hQ904 nin0 nin0 nin0)) (by decide)
  have nc912 : l_903 ≠ ad_903 := own_exane u905_0 (own_M0.x_ad (own_M0.keep es903_4 hQ904 nin0 nin0 nin0)) (by decide)
  have nc913 : l_903 ≠ el_903 := own_exane u905_0 (own_M0.x_el (own_M0.keep es903_4 hQ904 nin0 nin0 nin0)) (by decide)
  have nc914 : sb_903 ≠ mv_903 := own_exane (own_S1.x_sb (own_S1.keep es903_3 hQ904 nin0 nin0 nin0 nin0 nin0 nin0)) (own_M0.x_mv (own_M0.keep es903_4 hQ904 nin0 nin0 nin0)) (by decide)
  have nc915 : sb_903 ≠ ad_903 := own_exane (own_S1.x_sb (own_S1.keep es903_3 hQ904 nin0 nin0 nin0 nin0 nin0 nin0)) (own_M0.x_ad (own_M0.keep es903_4 hQ904 nin0 nin0 nin0)) (by decide)
  have nc916 : sb_903 ≠ el_903 := own_exane (own_S1.x_sb (own_S1.keep es903_3 hQ904 nin0 nin0 nin0 nin0 nin0 nin0)) (own_M0.x_el (own_M0.keep es903_4 hQ904 nin0 nin0 nin0)) (by decide)
  have nc917 : pg_903 ≠ mv_903 := own_exane (own_S1.x_pg (own_S1.keep es903_3 hQ904 nin0 nin0 nin0 nin0 nin0 nin0)) (own_M0.x_mv (own_M0.keep es903_4 hQ904 nin0 nin0 nin0)) (by decide)
  have nc918 : pg_903 ≠ ad_903 := own_exane (own_S1.x_pg (own_S1.keep es903_3 hQ904 nin0 nin0 nin0 nin0 nin0 nin0)) (own_M0.x_ad (own_M0.keep es903_4 hQ904 nin0 nin0 nin0)) (by decide)
  have nc919 : pg_903 ≠ el_903 := own_exane (own_S1.x_pg (own_S1.keep es903_3 hQ904 nin0 nin0 nin0 nin0 nin0 nin0)) (own_M0.x_el (own_M0.keep es903_4 hQ904 nin0 nin0 nin0)) (by decide)
  have nc920 : na_903 ≠ mv_903 := own_exane (own_S1.x_na (own_S1.keep es903_3 hQ904 nin0 nin0 nin0 nin0 nin0 nin0)) (own_M0.x_mv (own_M0.keep es903_4 hQ904 nin0 nin0 nin0)) (by decide)
  have nc921 : na_903 ≠ ad_903 := own_exane (own_S1.x_na (own_S1.keep es903_3 hQ904 nin0 nin0 nin0 nin0 nin0 nin0)) (own_M0.x_ad (own_M0.keep es903_4 hQ904 nin0 nin0 nin0)) (by decide)
  have nc922 : na_903 ≠ el_903 := own_exane (own_S1.x_na (own_S1.keep es903_3 hQ904 nin0 nin0 nin0 nin0 nin0 nin0)) (own_M0.x_el (own_M0.keep es903_4 hQ904 nin0 nin0 nin0)) (by decide)
  have nc923 : pa_903 ≠ mv_903 := own_exane (own_S1.x_pa (own_S1.keep es903_3 hQ904 nin0 nin0 nin0 nin0 nin0 nin0)) (own_M0.x_mv (own_M0.keep es903_4 hQ904 nin0 nin0 nin0)) (by decide)
  have nc924 : pa_903 ≠ ad_903 := own_exane (own_S1.x_pa (own_S1.keep es903_3 hQ904 nin0 nin0 nin0 nin0 nin0 nin0)) (own_M0.x_ad (own_M0.keep es903_4 hQ904 nin0 nin0 nin0)) (by decide)
  have nc925 : pp_903 ≠ mv_903 := own_exane (own_S1.x_pp (own_S1.keep es903_3 hQ904 nin0 nin0 nin0 nin0 nin0 nin0)) (own_M0.x_mv (own_M0.keep es903_4 hQ904 nin0 nin0 nin0)) (by decide)
  have nc926 : pp_903 ≠ ad_903 := own_exane (own_S1.x_pp (own_S1.keep es903_3 hQ904 nin0 nin0 nin0 nin0 nin0 nin0)) (own_M0.x_ad (own_M0.keep es903_4 hQ904 nin0 nin0 nin0)) (by decide)
  have nc927 : pp_903 ≠ el_903 := own_exane (own_S1.x_pp (own_S1.keep es903_3 hQ904 nin0 nin0 nin0 nin0 nin0 nin0)) (own_M0.x_el (own_M0.keep es903_4 hQ904 nin0 nin0 nin0)) (by decide)
  have nc928 : wa_903 ≠ mv_903 := own_exane (own_S1.x_wa (own_S1.keep es903_3 hQ904 nin0 nin0 nin0 nin0 nin0 nin0)) (own_M0.x_mv (own_M0.keep es903_4 hQ904 nin0 nin0 nin0)) (by decide)
  have nc929 : wa_903 ≠ ad_903 := own_exane (own_S1.x_wa (own_S1.keep es903_3 hQ904 nin0 nin0 nin0 nin0 nin0 nin0)) (own_M0.x_ad (own_M0.keep es903_4 hQ904 nin0 nin0 nin0)) (by decide)
  have nc930 : wa_903 ≠ el_903 := own_exane (own_S1.x_wa (own_S1.keep es903_3 hQ904 nin0 nin0 nin0 nin0 nin0 nin0)) (own_M0.x_el (own_M0.keep es903_4 hQ904 nin0 nin0 nin0)) (by decide)
  have Fb931 := (own_S1.keep (own_S1.keep es903_3 hQ904 nin0 nin0 nin0 nin0 nin0 nin0) K906 (ninS nc914 (ninS nc915 (ninS nc916 nin0))) (ninS nc917 (ninS nc918 (ninS nc919 nin0))) (ninS nc920 (ninS nc921 (ninS nc922 nin0))) (ninS nc923 (ninS nc924 (ninS es903_5 nin0))) (ninS nc925 (ninS nc926 (ninS nc927 nin0))) (ninS nc928 (ninS nc929 (ninS nc930 nin0))))
  obtain ⟨u932_0, u932_1, u932_2⟩ := id (own_RL.keep (own_RL.keep es903_0 hQ904 nin0) K906 (ninS nc908 (ninS nc909 (ninS nc910 nin0))))
  refine zaN X906 D 7 rfl rfl rfl rfl (zdu X906 D 8 rfl rfl rfl (zgf X906 D 9 hZ hown (ow hw 45 rfl) rfl u932_2 rfl rfl fun T933 X933 e933 => ?_))
  refine zic X933 D 10 1 rfl rfl rfl (ziadd X933 D 11 2 rfl rfl rfl (zpf X933 D 12 hZ hown (ow hw 45 rfl) e933 u932_2 u932_0 (Or.inl (ow hw 46 rfl)) (ow hw 1 rfl) .int (by decide) rfl rfl rfl rfl fun T934 h934 X934 e934 W934 => ?_))
  have N934 := Fr.snoc X934 N906 es903_6
  have Fw934 := Fld.same W934 u932_2
  have nc935 : l_903 ≠ rl := own_exane (u905_0.keep K906) u932_0 (by decide)
  have nc936 : sb_903 ≠ rl := own_exane (own_S1.x_sb Fb931) u932_0 (by decide)
  have nc937 : pg_903 ≠ rl := own_exane (own_S1.x_pg Fb931) u932_0 (by decide)
  have nc938 : na_903 ≠ rl := own_exane (own_S1.x_na Fb931) u932_0 (by decide)
  have nc939 : pa_903 ≠ rl := own_exane (own_S1.x_pa Fb931) u932_0 (by decide)
  have nc940 : pp_903 ≠ rl := own_exane (own_S1.x_pp Fb931) u932_0 (by decide)
  have nc941 : wa_903 ≠ rl := own_exane (own_S1.x_wa Fb931) u932_0 (by decide)
  have nl942 : rl ≠ rck906 := Nat.ne_of_lt (Nat.lt_of_lt_of_le (own_RL.lt_rl (own_RL.keep es903_0 hQ904 nin0)) ze906)
  have nl943 : na_903 ≠ rck906 := Nat.ne_of_lt (Nat.lt_of_lt_of_le (own_S1.lt_na (own_S1.keep es903_3 hQ904 nin0 nin0 nin0 nin0 nin0 nin0)) ze906)
  have nl944 : wa_903 ≠ rck906 := Nat.ne_of_lt (Nat.lt_of_lt_of_le (own_S1.lt_wa (own_S1.keep es903_3 hQ904 nin0 nin0 nin0 nin0 nin0 nin0)) ze906)
  exact Rch.retV X934 hx hret hlk (D.on 13 rfl) (fun U hU hF => hK _ U _ _ _ (by show Q_rnA1 Z rl rc p1 p2 p3 ca yc s1 h0 n0 _ U.heap _; rw [hU, e934]; exact ⟨rfl, N934, (((O0.keep hQ904 all0).keep K906 (allS es903_15 (allS es903_16 (allS es903_17 all0)))).wr W934 es903_6), ⟨tm_903, l_903, e_903, sb_903, pg_903, na_903, pa_903, pp_903, wa_903, mv_903, ad_903, el_903, rck906, yn_903, ryc906, ⟨(u932_0.wr W934), (u932_1.other W934 (Or.inr (sn106 hw))), Fw934⟩, (own_T1.keep (own_T1.keep (own_T1.keep es903_1 hQ904 own_bc0) K906 Fb907) (Keep.of_wr W934) (own_bcS u932_0 (by decide) own_bc0)), (own_LN.keep (own_LN.keep (own_LN.keep es903_2 hQ904 nin0) K906 (ninS nc911 (ninS nc912 (ninS nc913 nin0)))) (Keep.of_wr W934) (ninS nc935 nin0)), (own_S1.keep Fb931 (Keep.of_wr W934) (ninS nc936 nin0) (ninS nc937 nin0) (ninS nc938 nin0) (ninS nc939 nin0) (ninS nc940 nin0) (ninS nc941 nin0)), (own_M1.keep Pq906 (Keep.of_wr W934) (ninS (Ne.symm nc908) nin0) (ninS (Ne.symm nc909) nin0) (ninS (Ne.symm nc910) nin0) (ninS (Ne.symm nl942) nin0)), es903_5, nl943, nl944, es903_6, es903_7, es903_8, es903_9, es903_10, es903_11, es903_12, es903_13, es903_14, es903_15, es903_16, es903_17⟩⟩) hF (by decide) (by decide))
def Q_rnA2 (Z : State) (rl rc : Addr) (p1 : Int64) (p2 : Int32) (p3 : Int64) (ca : Addr) (yc : Nat → Value) (x1 : Int32) (s1 : Int64) (h0 : Heap) (n0 : Nat) (vv_ : Option Value) (h : Heap) (LL_ : List Loc) : Prop := vv_ = none ∧ Fr n0 LL_ ∧ (Old Z n0 h ∧ own_SY Z h n0 rl rc x1 s1 p2 p1)
theorem rnA2 (lh : Launch) (Z : State) (a0 : Array Value) (hw : HW a0 Z) (ws : List Jvm.Cond) (rl rc : Addr) (p1 : Int64) (p2 : Int32) (p3 : Int64) (ca : Addr) (yc : Nat → Value) (x1 : Int32) (s1 : Int64) (h0 : Heap) (n0 : Nat) (Z0 : n0 ≤ h0.size) (HS : own_SH Z h0 n0 rl rc x1 s1) (hne : x1 ≠ p2) (O0 : Old Z n0 h0) (SH : Sta Z Z.heap "java/lang/Integer$IntegerCache" "high" "I" (.int (127 : Int32))) (SCa : Sta Z Z.heap "java/lang/Integer$IntegerCache" "cache" "[Ljava/lang/Integer;" (.ref ca)) (VCa : Av Z Z.heap ca (.object "java/lang/Integer") 256 yc) (hca : ∀ q, q < 256 → ∃ r, yc q = .ref r ∧ Exa Z Z.heap r "java/lang/Integer" ∧ Fld Z Z.heap r "java/lang/Integer" "value" "I" (.int (Int32.ofNat q - (128 : Int32)))) :
    MF lh Z me70 (.code me70 prog_56_method_6_code 6 none) ws ⟨10, 11, 86, 3087⟩ #[.ref rl, .long p1, .int p2, .long p3] h0 (Q_rnA2 Z rl rc p1 p2 p3 ca yc x1 s1 h0 n0) := by
  refine own_met (y := me70) (plainFor_of_name pn_15) ?_
  intro p ev sT m below meth c T0 K hx hby hml hret hlk hown hnm hZ X0 e0 hK
  have N0 := Fr.nil n0
  have D : DB p c Ld67 := DB.of hx hby d67
  refine Rch.cast (g' := mkF m 0 #[.val (.ref rl), .val (.long p1), .second, .val (.int p2), .val (.long p3), .second] []) (by first | rfl | simp [entryFrame, mkF, argsToLocals, Value.category]) ?_
  obtain ⟨tm_945, l_945, e_945, sb_945, pg_945, na_945, pa_945, pp_945, wa_945, mv_945, ad_945, el_945, yn_945, es945_0, es945_1, es945_2, es945_3, es945_4, es945_5, es945_6, es945_7, es945_8, es945_9, es945_10, es945_11, es945_12, es945_13, es945_14, es945_15, es945_16, es945_17⟩ := id HS
  refine zaN X0 D 0 rfl rfl rfl rfl (ziN X0 D 1 rfl rfl rfl  (zpb X0 D 2 hZ me44 hown (own_selP (mvT hZ (ow hw 1 rfl)) (mvP hZ (ow hw 59 rfl)) (mvT hZ (ow hw 58 rfl)) (by decide)) (ow hw 57 rfl) (ow hw 58 rfl) (ow hw 59 rfl) (ow hw 60 rfl) (ow hw 2 rfl) e0 (own_RL.x_rl es945_0) (rnL2 lh Z a0 hw [] rl tm_945 rc (1 : Int32) p2 ca yc x1 l_945 e_945 h0 n0 Z0 es945_0 es945_1 hne O0 SH SCa VCa hca es945_7 es945_8) hml [.int p2] [] (lenOf pd_6 rfl) rfl rfl rfl rfl rfl rfl (by decide) (by decide) fun v946 T946 L946 X946 hQ946 => ?_))
  obtain ⟨re2946, rl2946, rsb946, rpg946, rna946, rpa946, rmv946, rad946, rel946, rfl, N946q, hQ946⟩ := hQ946
  have N946 := Fr.app N0 N946q
  obtain ⟨ze946_0, ze946_1, ze946_2, ze946_3, ze946_4, ze946_5, ze946_6, ze946_7, ze946_8, K946, Pq946_0, Pq946_1⟩ := hQ946
  have nc947 : rl ≠ tm_945 := own_exane (own_RL.x_rl es945_0) (own_T1.x_tm es945_1) (by decide)
  have nc948 : rl ≠ e_945 := own_exane (own_RL.x_rl es945_0) (own_T1.x_e es945_1) (by decide)
  have nc949 : l_945 ≠ tm_945 := own_exane (own_LN.x_l es945_2) (own_T1.x_tm es945_1) (by decide)
  have nc950 : l_945 ≠ e_945 := own_exane (own_LN.x_l es945_2) (own_T1.x_e es945_1) (by decide)
  have nc951 : sb_945 ≠ tm_945 := own_exane (own_S1.x_sb es945_3) (own_T1.x_tm es945_1) (by decide)
  have nc952 : sb_945 ≠ e_945 := own_exane (own_S1.x_sb es945_3) (own_T1.x_e es945_1) (by decide)
  have nc953 : pg_945 ≠ tm_945 := own_exane (own_S1.x_pg es945_3) (own_T1.x_tm es945_1) (by decide)
  have nc954 : pg_945 ≠ e_945 := own_exane (own_S1.x_pg es945_3) (own_T1.x_e es945_1) (by decide)
  have nc955 : na_945 ≠ tm_945 := own_exane (own_S1.x_na es945_3) (own_T1.x_tm es945_1) (by decide)
  have nc956 : na_945 ≠ e_945 := own_exane (own_S1.x_na es945_3) (own_T1.x_e es945_1) (by decide)
  have nc957 : pa_945 ≠ tm_945 := own_exane (own_S1.x_pa es945_3) (own_T1.x_tm es945_1) (by decide)
  have nc958 : pa_945 ≠ e_945 := own_exane (own_S1.x_pa es945_3) (own_T1.x_e es945_1) (by decide)
  have nc959 : pp_945 ≠ tm_945 := own_exane (own_S1.x_pp es945_3) (own_T1.x_tm es945_1) (by decide)
  have nc960 : pp_945 ≠ e_945 := own_exane (own_S1.x_pp es945_3) (own_T1.x_e es945_1) (by decide)
  have nc961 : wa_945 ≠ tm_945 := own_exane (own_S1.x_wa es945_3) (own_T1.x_tm es945_1) (by decide)
  have nc962 : wa_945 ≠ e_945 := own_exane (own_S1.x_wa es945_3) (own_T1.x_e es945_1) (by decide)
  have nc963 : mv_945 ≠ tm_945 := own_exane (own_M0.x_mv es945_4) (own_T1.x_tm es945_1) (by decide)
  have nc964 : mv_945 ≠ e_945 := own_exane (own_M0.x_mv es945_4) (own_T1.x_e es945_1) (by decide)
  have nc965 : ad_945 ≠ tm_945 := own_exane (own_M0.x_ad es945_4) (own_T1.x_tm es945_1) (by decide)
  have nc966 : ad_945 ≠ e_945 := own_exane (own_M0.x_ad es945_4) (own_T1.x_e es945_1) (by decide)
  have nc967 : el_945 ≠ tm_945 := own_exane (own_M0.x_el es945_4) (own_T1.x_tm es945_1) (by decide)
  have nc968 : el_945 ≠ e_945 := own_exane (own_M0.x_el es945_4) (own_T1.x_e es945_1) (by decide)
  have Fb969 := (own_S1.keep es945_3 K946 (ninS nc951 (ninS nc952 nin0)) (ninS nc953 (ninS nc954 nin0)) (ninS nc955 (ninS nc956 nin0)) (ninS nc957 (ninS nc958 nin0)) (ninS nc959 (ninS nc960 nin0)) (ninS nc961 (ninS nc962 nin0)))
  obtain ⟨u970_0, u970_1, u970_2, u970_3⟩ := id Pq946_1
  obtain ⟨u971_0, u971_1, u971_2⟩ := id u970_0
  refine Rch.of (T' := T946) (g' := (mkF m 8 #[.val (.ref rl), .val (.long p1), .second, .val (.int p2), .val (.long p3), .second] [.ref rmv946])) (own_getR X946 hx hZ hown (ow hw 331 rfl) rfl u971_2 (g := (mkF m 5 #[.val (.ref rl), .val (.long p1), .second, .val (.int p2), .val (.long p3), .second] [.ref rl2946])) rfl rfl (D.on 3 rfl)) ?_
  refine zlN X946 D 4 rfl rfl rfl  (zl X946 D 5 rfl rfl rfl  (zvs X946 D 6 hZ me64 hown (ow hw 359 rfl) (ow hw 360 rfl) (ow hw 362 rfl) (ow hw 361 rfl) (ow hw 363 rfl) (ow hw 140 rfl) rfl (own_M0.x_mv u970_2) (rnMA lh Z a0 hw [] rmv946 rad946 rel946 p1 p3 T946.heap n0 (Nat.le_trans Z0 K946.1) u970_2 (Nat.le_trans Z0 ze946_6) (Nat.le_trans Z0 ze946_7) (Nat.le_trans Z0 ze946_8)) hml [.long p1, .long p3] [] (lenOf pd_31 rfl) rfl rfl rfl rfl rfl rfl (by decide) (by decide) fun v972 T972 L972 X972 hQ972 => ?_))
  obtain ⟨rck972, ryc972, rfl, N972q, hQ972⟩ := hQ972
  have N972 := Fr.app N946 N972q
  obtain ⟨ze972, K972, Pq972⟩ := hQ972
  have nl973 : rl ≠ rmv946 := Nat.ne_of_lt (Nat.lt_of_lt_of_le (own_RL.lt_rl es945_0) ze946_6)
  have nl974 : rl ≠ rad946 := Nat.ne_of_lt (Nat.lt_of_lt_of_le (own_RL.lt_rl es945_0) ze946_7)
  have nl975 : rl ≠ rel946 := Nat.ne_of_lt (Nat.lt_of_lt_of_le (own_RL.lt_rl es945_0) ze946_8)
  have nl976 : l_945 ≠ rmv946 := Nat.ne_of_lt (Nat.lt_of_lt_of_le (own_LN.lt_l es945_2) ze946_6)
  have nl977 : l_945 ≠ rad946 := Nat.ne_of_lt (Nat.lt_of_lt_of_le (own_LN.lt_l es945_2) ze946_7)
  have nl978 : l_945 ≠ rel946 := Nat.ne_of_lt (Nat.lt_of_lt_of_le (own_LN.lt_l es945_2) ze946_8)
  have nl979 : sb_945 ≠ rmv946 := Nat.ne_of_lt (Nat.lt_of_lt_of_le (own_S1.lt_sb es945_3) ze946_6)
  have nl980 : sb_945 ≠ rad946 := Nat.ne_of_lt (Nat.lt_of_lt_of_le (own_S1.lt_sb es945_3) ze946_7)
  have nl981 : sb_945 ≠ rel946 := Nat.ne_of_lt (Nat.lt_of_lt_of_le (own_S1.lt_sb es945_3) ze946_8)
  have nl982 : pg_945 ≠ rmv946 := Nat.ne_of_lt (Nat.lt_of_lt_of_le (own_S1.lt_pg es945_3) ze946_6)
  have nl983 : pg_945 ≠ rad946 := Nat.ne_of_lt (Nat.lt_of_lt_of_le (own_S1.lt_pg es945_3) ze946_7)
  have nl984 : pg_945 ≠ rel946 := Nat.ne_of_lt (Nat.lt_of_lt_of_le (own_S1.lt_pg es945_3) ze946_8)
  have nl985 : na_945 ≠ rmv946 := Nat.ne_of_lt (Nat.lt_of_lt_of_le (own_S1.lt_na es945_3) ze946_6)
  have nl986 : na_945 ≠ rad946 := Nat.ne_of_lt (Nat.lt_of_lt_of_le (own_S1.lt_na es945_3) ze946_7)
  have nl987 : na_945 ≠ rel946 := Nat.ne_of_lt (Nat.lt_of_lt_of_le (own_S1.lt_na es945_3) ze946_8)
  have nl988 : pa_945 ≠ rmv946 := Nat.ne_of_lt (Nat.lt_of_lt_of_le (own_S1.lt_pa es945_3) ze946_6)
  have nl989 : pa_945 ≠ rad946 := Nat.ne_of_lt (Nat.lt_of_lt_of_le (own_S1.lt_pa es945_3) ze946_7)
  have nl990 : pa_945 ≠ rel946 := Nat.ne_of_lt (Nat.lt_of_lt_of_le (own_S1.lt_pa es945_3) ze946_8)
  have nl991 : pp_945 ≠ rmv946 := Nat.ne_of_lt (Nat.lt_of_lt_of_le (own_S1.lt_pp es945_3) ze946_6)
  have nl992 : pp_945 ≠ rad946 := Nat.ne_of_lt (Nat.lt_of_lt_of_le (own_S1.lt_pp es945_3) ze946_7)
  have nl993 : pp_945 ≠ rel946 := Nat.ne_of_lt (Nat.lt_of_lt_of_le (own_S1.lt_pp es945_3) ze946_8)
  have nl994 : wa_945 ≠ rmv946 := Nat.ne_of_lt (Nat.lt_of_lt_of_le (own_S1.lt_wa es945_3) ze946_6)
  have nl995 : wa_945 ≠ rad946 := Nat.ne_of_lt (Nat.lt_of_lt_of_le (own_S1.lt_wa es945_3) ze946_7)
  have nl996 : wa_945 ≠ rel946 := Nat.ne_of_lt (Nat.lt_of_lt_of_le (own_S1.lt_wa es945_3) ze946_8)
  have nl997 : mv_945 ≠ rmv946 := Nat.ne_of_lt (Nat.lt_of_lt_of_le (own_M0.lt_mv es945_4) ze946_6)
  have nl998 : mv_945 ≠ rad946 := Nat.ne_of_lt (Nat.lt_of_lt_of_le (own_M0.lt_mv es945_4) ze946_7)
  have nl999 : mv_945 ≠ rel946 := Nat.ne_of_lt (Nat.lt_of_lt_of_le (own_M0.lt_mv es945_4) ze946_8)
  have nl1000 : ad_945 ≠ rmv946 := Nat.ne_of_lt (Nat.lt_of_lt_of_le (own_M0.lt_ad es945_4) ze946_6)
  have nl1001 : ad_945 ≠ rad946 := Nat.ne_of_lt (Nat.lt_of_lt_of_le (own_M0.lt_ad es945_4) ze946_7)
  have nl1002 : ad_945 ≠ rel946 := Nat.ne_of_lt (Nat.lt_of_lt_of_le (own_M0.lt_ad es945_4) ze946_8)
  have nl1003 : el_945 ≠ rmv946 := Nat.ne_of_lt (Nat.lt_of_lt_of_le (own_M0.lt_el es945_4) ze946_6)
  have nl1004 : el_945 ≠ rad946 := Nat.ne_of_lt (Nat.lt_of_lt_of_le (own_M0.lt_el es945_4) ze946_7)
  have nl1005 : el_945 ≠ rel946 := Nat.ne_of_lt (Nat.lt_of_lt_of_le (own_M0.lt_el es945_4) ze946_8)
  have nc1006 : rl2946 ≠ rmv946 := own_exane u971_0 (own_M0.x_mv u970_2) (by decide)
  have nc1007 : rl2946 ≠ rad946 := own_exane u971_0 (own_M0.x_ad u970_2) (by decide)
  have nc1008 : rl2946 ≠ rel946 := own_exane u971_0 (own_M0.x_el u970_2) (by decide)
  have nc1009 : rsb946 ≠ rmv946 := own_exane (own_SF.x_sb u970_1) (own_M0.x_mv u970_2) (by decide)
  have nc1010 : rsb946 ≠ rad946 := own_exane (own_SF.x_sb u970_1) (own_M0.x_ad u970_2) (by decide)
  have nc1011 : rsb946 ≠ rel946 := own_exane (own_SF.x_sb u970_1) (own_M0.x_el u970_2) (by decide)
  have nc1012 : rpg946 ≠ rmv946 := own_exane (own_SF.x_pg u970_1) (own_M0.x_mv u970_2) (by decide)
  have nc1013 : rpg946 ≠ rad946 := own_exane (own_SF.x_pg u970_1) (own_M0.x_ad u970_2) (by decide)
  have nc1014 : rpg946 ≠ rel946 := own_exane (own_SF.x_pg u970_1) (own_M0.x_el u970_2) (by decide)
  have nc1015 : rna946 ≠ rmv946 := own_exane (own_SF.x_na u970_1) (own_M0.x_mv u970_2) (by decide)
  have nc1016 : rna946 ≠ rad946 := own_exane (own_SF.x_na u970_1) (own_M0.x_ad u970_2) (by decide)
  have nc1017 : rna946 ≠ rel946 := own_exane (own_SF.x_na u970_1) (own_M0.x_el u970_2) (by decide)
  have nc1018 : rpa946 ≠ rmv946 := own_exane (own_SF.x_pa u970_1) (own_M0.x_mv u970_2) (by decide)
  have nc1019 : rpa946 ≠ rad946 := own_exane (own_SF.x_pa u970_1) (own_M0.x_ad u970_2) (by decide)
  have Fb1020 := ((O0.keep K946 (allS es945_7 (allS es945_8 all0))).keep K972 (allS (Nat.le_trans Z0 ze946_6) (allS (Nat.le_trans Z0 ze946_7) (allS (Nat.le_trans Z0 ze946_8) all0))))
  have Fb1021 := (own_S1.keep Fb969 K972 (ninS nl979 (ninS nl980 (ninS nl981 nin0))) (ninS nl982 (ninS nl983 (ninS nl984 nin0))) (ninS nl985 (ninS nl986 (ninS nl987 nin0))) (ninS nl988 (ninS nl989 (ninS nl990 nin0))) (ninS nl991 (ninS nl992 (ninS nl993 nin0))) (ninS nl994 (ninS nl995 (ninS nl996 nin0))))
  have Fb1022 := (own_M0.keep (own_M0.keep es945_4 K946 (ninS nc963 (ninS nc964 nin0)) (ninS nc965 (ninS nc966 nin0)) (ninS nc967 (ninS nc968 nin0))) K972 (ninS nl997 (ninS nl998 (ninS nl999 nin0))) (ninS nl1000 (ninS nl1001 (ninS nl1002 nin0))) (ninS nl1003 (ninS nl1004 (ninS nl1005 nin0))))
  have Fb1023 := (own_T2.keep Pq946_0 K972 (own_bcS (own_M0.x_mv u970_2) (by decide) (own_bcS (own_M0.x_ad u970_2) (by decide) (own_bcS (own_M0.x_el u970_2) (by decide) own_bc0))))
  have Fb1024 := (own_SF.keep u970_1 K972 (ninS nc1009 (ninS nc1010 (ninS nc1011 nin0))) (ninS nc1012 (ninS nc1013 (ninS nc1014 nin0))) (ninS nc1015 (ninS nc1016 (ninS nc1017 nin0))) (ninS nc1018 (ninS nc1019 (ninS u970_3 nin0))))
  obtain ⟨u1025_0, u1025_1, u1025_2⟩ := id (own_RL.keep (own_RL.keep es945_0 K946 (ninS nc947 (ninS nc948 nin0))) K972 (ninS nl973 (ninS nl974 (ninS nl975 nin0))))
  refine zaN X972 D 7 rfl rfl rfl rfl (zdu X972 D 8 rfl rfl rfl (zgf X972 D 9 hZ hown (ow hw 45 rfl) rfl u1025_2 rfl rfl fun T1026 X1026 e1026 => ?_))
  refine zic X1026 D 10 1 rfl rfl rfl (ziadd X1026 D 11 2 rfl rfl rfl (zpf X1026 D 12 hZ hown (ow hw 45 rfl) e1026 u1025_2 u1025_0 (Or.inl (ow hw 46 rfl)) (ow hw 1 rfl) .int (by decide) rfl rfl rfl rfl fun T1027 h1027 X1027 e1027 W1027 => ?_))
  have N1027 := Fr.snoc X1027 N972 es945_6
  have Fw1027 := Fld.same W1027 u1025_2
  have nc1028 : l_945 ≠ rl := own_exane (own_LN.x_l (own_LN.keep (own_LN.keep es945_2 K946 (ninS nc949 (ninS nc950 nin0))) K972 (ninS nl976 (ninS nl977 (ninS nl978 nin0))))) u1025_0 (by decide)
  have nc1029 : sb_945 ≠ rl := own_exane (own_S1.x_sb Fb1021) u1025_0 (by decide)
  have nc1030 : pg_945 ≠ rl := own_exane (own_S1.x_pg Fb1021) u1025_0 (by decide)
  have nc1031 : na_945 ≠ rl := own_exane (own_S1.x_na Fb1021) u1025_0 (by decide)
  have nc1032 : pa_945 ≠ rl := own_exane (own_S1.x_pa Fb1021) u1025_0 (by decide)
  have nc1033 : pp_945 ≠ rl := own_exane (own_S1.x_pp Fb1021) u1025_0 (by decide)
  have nc1034 : wa_945 ≠ rl := own_exane (own_S1.x_wa Fb1021) u1025_0 (by decide)
  have nc1035 : mv_945 ≠ rl := own_exane (own_M0.x_mv Fb1022) u1025_0 (by decide)
  have nc1036 : ad_945 ≠ rl := own_exane (own_M0.x_ad Fb1022) u1025_0 (by decide)
  have nc1037 : el_945 ≠ rl := own_exane (own_M0.x_el Fb1022) u1025_0 (by decide)
  have nl1038 : rl ≠ rl2946 := Nat.ne_of_lt (Nat.lt_of_lt_of_le (own_RL.lt_rl es945_0) ze946_1)
  have nl1039 : rl ≠ rsb946 := Nat.ne_of_lt (Nat.lt_of_lt_of_le (own_RL.lt_rl es945_0) ze946_2)
  have nl1040 : rl ≠ rpg946 := Nat.ne_of_lt (Nat.lt_of_lt_of_le (own_RL.lt_rl es945_0) ze946_3)
  have nl1041 : rl ≠ rna946 := Nat.ne_of_lt (Nat.lt_of_lt_of_le (own_RL.lt_rl es945_0) ze946_4)
  have nl1042 : rl ≠ rpa946 := Nat.ne_of_lt (Nat.lt_of_lt_of_le (own_RL.lt_rl es945_0) ze946_5)
  have nl1043 : rl ≠ rck972 := Nat.ne_of_lt (Nat.lt_of_lt_of_le (own_RL.lt_rl (own_RL.keep es945_0 K946 (ninS nc947 (ninS nc948 nin0)))) ze972)
  have Fb1044 := (own_LN.keep (own_LN.keep (own_LN.keep es945_2 K946 (ninS nc949 (ninS nc950 nin0))) K972 (ninS nl976 (ninS nl977 (ninS nl978 nin0)))) (Keep.of_wr W1027) (ninS nc1028 nin0))
  obtain ⟨u1045_0, u1045_1, u1045_2, u1045_3, u1045_4, u1045_5, u1045_6, u1045_7⟩ := id (own_SF.keep Fb1024 (Keep.of_wr W1027) (ninS (Ne.symm nl1039) nin0) (ninS (Ne.symm nl1040) nin0) (ninS (Ne.symm nl1041) nin0) (ninS (Ne.symm nl1042) nin0))
  have nl1046 : sb_945 ≠ rsb946 := Nat.ne_of_lt (Nat.lt_of_lt_of_le (own_S1.lt_sb es945_3) ze946_2)
  have nl1047 : pg_945 ≠ rpg946 := Nat.ne_of_lt (Nat.lt_of_lt_of_le (own_S1.lt_pg es945_3) ze946_3)
  have nl1048 : na_945 ≠ rna946 := Nat.ne_of_lt (Nat.lt_of_lt_of_le (own_S1.lt_na es945_3) ze946_4)
  have nl1049 : wa_945 ≠ rna946 := Nat.ne_of_lt (Nat.lt_of_lt_of_le (own_S1.lt_wa es945_3) ze946_4)
  have nl1050 : na_945 ≠ rck972 := Nat.ne_of_lt (Nat.lt_of_lt_of_le (own_S1.lt_na Fb969) ze972)
  have nl1051 : wa_945 ≠ rck972 := Nat.ne_of_lt (Nat.lt_of_lt_of_le (own_S1.lt_wa Fb969) ze972)
  exact Rch.retV X1027 hx hret hlk (D.on 13 rfl) (fun U hU hF => hK _ U _ _ _ (by show Q_rnA2 Z rl rc p1 p2 p3 ca yc x1 s1 h0 n0 _ U.heap _; rw [hU, e1027]; exact ⟨rfl, N1027, (Fb1020.wr W1027 es945_6), ⟨tm_945, l_945, e_945, sb_945, pg_945, na_945, pa_945, pp_945, wa_945, mv_945, ad_945, el_945, rl2946, re2946, rsb946, rpg946, rna946, rmv946, rad946, rel946, rck972, yn_945, (fun _ => (0 : Int64)), ryc972, ⟨(u1025_0.wr W1027), (u1025_1.other W1027 (Or.inr (sn106 hw))), Fw1027⟩, (own_T2.keep Fb1023 (Keep.of_wr W1027) (own_bcS u1025_0 (by decide) own_bc0)), Fb1044, (own_S1.keep Fb1021 (Keep.of_wr W1027) (ninS nc1029 nin0) (ninS nc1030 nin0) (ninS nc1031 nin0) (ninS nc1032 nin0) (ninS nc1033 nin0) (ninS nc1034 nin0)), (own_M0.keep Fb1022 (Keep.of_wr W1027) (ninS nc1035 nin0) (ninS nc1036 nin0) (ninS nc1037 nin0)), (own_LN.keep (own_LN.keep u970_0 K972 (ninS nc1006 (ninS nc1007 (ninS nc1008 nin0)))) (Keep.of_wr W1027) (ninS (Ne.symm nl1038) nin0)), ⟨u1045_0, u1045_1, u1045_2, u1045_3⟩, (own_M1.keep Pq972 (Keep.of_wr W1027) (ninS (Ne.symm nl973) nin0) (ninS (Ne.symm nl974) nin0) (ninS (Ne.symm nl975) nin0) (ninS (Ne.symm nl1043) nin0)), nl1046, nl1047, nl1048, nl1049, nl990, nl1050, nl1051, es945_6, es945_7, es945_8, (Nat.le_trans Z0 ze946_0), es945_9, es945_10, es945_11, es945_12, es945_13, es945_14, (Nat.le_trans Z0 ze946_6), (Nat.le_trans Z0 ze946_7), (Nat.le_trans Z0 ze946_8)⟩⟩) hF (by decide) (by decide))
def Q_rnRA (Z : State) (rl tm rc : Addr) (z : Int32) (p1 : Int64) (p2 : Int32) (ca : Addr) (yc : Nat → Value) (l e : Addr) (E : List Addr) (T : Heap → Prop) (sb mv pg na pa pp wa : Addr) (yn : Nat → Int64) (h0 : Heap) (n0 : Nat) (vv_ : Option Value) (h : Heap) (LL_ : List Loc) : Prop := vv_ = none ∧ Fr n0 LL_ ∧ (Keep h0 h (rl :: tm :: sb :: pg :: na :: pa :: pp :: wa :: E) ∧ own_RL Z h rl tm (z - (1 : Int32)) ∧ T h)
def Ld68 : List (Nat × Instr × Nat) := [(0, .aload_n 0, 1), (1, .getfield 18, 3), (4, .iload_n 3, 1), (5, .invokestatic 79, 3), (8, .invokevirtual 85, 3), (11, .checkcast 59, 3), (14, .astore 4, 2), (16, .aload 4, 2), (18, .ifnonnull 8, 3), (26, .aload 4, 2), (28, .getfield 58, 3), (31, .lload_n 1, 1), (32, .invokevirtual 89, 3), (35, .ifCond .ne 40, 3), (75, .aload_n 0, 1), (76, .dup, 1), (77, .getfield 24, 3), (80, .iconst 1, 1), (81, .isub, 1), (82, .putfield 24, 3), (85, .aload 4, 2), (87, .getfield 58, 3), (90, .invokevirtual 117, 3), (93, .ifCond .ne 26, 3), (96, .aload 4, 2), (98, .getfield 70, 3), (101, .invokevirtual 106, 3), (104, .ifCond .eq 15, 3), (107, .aload_n 0, 1), (108, .getfield 18, 3), (111, .iload_n 3, 1), (112, .invokestatic 79, 3), (115, .invokevirtual 119, 3), (118, .pop, 1), (119, .return_, 1), (38, .aload 4, 2), (40, .getfield 70, 3), (43, .invokevirtual 106, 3), (46, .ifCond .ne 16, 3), (49, .aload 4, 2), (51, .getfield 70, 3), (54, .invokevirtual 110, 3), (57, .lload_n 1, 1), (58, .lcmp, 1), (59, .ifCond .eq 8, 3), (67, .aload 4, 2), (69, .getfield 70, 3), (72, .invokevirtual 114, 3)]
theorem d68 : ∀ q ∈ Ld68, decode prog_56_method_8_code q.1 = .ok q.2 := by decide +kernel
abbrev me71 : MethodName := ⟨"com/example/kept_till_acked/kepttillacked/queue/ReadyLine", "remove", "(JI)V"⟩
theorem rnRA (lh : Launch) (Z : State) (a0 : Array Value) (hw : HW a0 Z) (ws : List Jvm.Cond) (rl tm rc : Addr) (z : Int32) (p1 : Int64) (p2 : Int32) (ca : Addr) (yc : Nat → Value) (l e : Addr) (E : List Addr) (T : Heap → Prop) (sb mv pg na pa pp wa : Addr) (yn : Nat → Int64) (h0 : Heap) (n0 : Nat) (Z0 : n0 ≤ h0.size) (HR : own_RL Z h0 rl tm z) (HM : own_MQ Z h0 tm rc p2 l E T n0 e) (HL : own_LN Z h0 l sb mv) (H1 : own_S1 Z h0 sb pg na pa pp wa p1 yn) (HZ : own_MZ Z h0 mv (0 : Int32)) (O0 : Old Z n0 h0) (SH : Sta Z Z.heap "java/lang/Integer$IntegerCache" "high" "I" (.int (127 : Int32))) (SCa : Sta Z Z.heap "java/lang/Integer$IntegerCache" "cache" "[Ljava/lang/Integer;" (.ref ca)) (VCa : Av Z Z.heap ca (.object "java/lang/Integer") 256 yc) (hca : ∀ q, q < 256 → ∃ r, yc q = .ref r ∧ Exa Z Z.heap r "java/lang/Integer" ∧ Fld Z Z.heap r "java/lang/Integer" "value" "I" (.int (Int32.ofNat q - (128 : Int32)))) (grl : n0 ≤ rl) (gtm : n0 ≤ tm) (gsb : n0 ≤ sb) (gpg : n0 ≤ pg) (gna : n0 ≤ na) (gpa : n0 ≤ pa) (gpp : n0 ≤ pp) (gwa : n0 ≤ wa) :
    MF lh Z me71 (.code me71 prog_56_method_8_code 5 none) ws ⟨8, 2, 2, 115⟩ #[.ref rl, .long p1, .int p2] h0 (Q_rnRA Z rl tm rc z p1 p2 ca yc l e E T sb mv pg na pa pp wa yn h0 n0) := by
  refine own_met (y := me71) (plainFor_of_name pn_15) ?_
  intro p ev sT m below meth c T0 K hx hby hml hret hlk hown hnm hZ X0 e0 hK
  have N0 := Fr.nil n0
  have D : DB p c Ld68 := DB.of hx hby d68
  refine Rch.cast (g' := mkF m 0 #[.val (.ref rl), .val (.long p1), .second, .val (.int p2), .unset] []) (by first | rfl | simp [entryFrame, mkF, argsToLocals, Value.category]) ?_
  obtain ⟨u1052_0, u1052_1, u1052_2⟩ := id HR
  obtain ⟨u1053_0, u1053_1, u1053_2⟩ := id HL
  obtain ⟨u1054_0, u1054_1⟩ := id HZ
  refine zaN X0 D 0 rfl rfl rfl rfl (zgf X0 D 1 hZ hown (ow hw 38 rfl) e0 u1052_1 rfl rfl fun T1055 X1055 e1055 => ?_)
  refine ziN X1055 D 2 rfl rfl rfl  (zst (W := 1) X1055 D 3 hZ me15 hown (ow hw 61 rfl) (ow hw 62 rfl) (ow hw 63 rfl) (ow hw 64 rfl) e1055 (rnVO lh Z a0 hw [] p2 ca yc h0 n0 Z0 O0 SH SCa VCa hca) hml [.int p2] [.ref tm] (lenOf pd_7 rfl) rfl rfl rfl rfl rfl rfl (by decide) (by decide) fun v1056 T1056 L1056 X1056 hQ1056 => ?_)
  obtain ⟨rr1056, rfl, N1056q, hQ1056⟩ := hQ1056
  have N1056 := Fr.app N0 N1056q
  obtain ⟨K1056, Ex1056, Fa1056⟩ := hQ1056
  refine zvs X1056 D 4 hZ me37 hown (ow hw 291 rfl) (ow hw 292 rfl) (ow hw 294 rfl) (ow hw 293 rfl) (ow hw 295 rfl) (ow hw 11 rfl) rfl (own_MQ.x_tm (own_MQ.keep HM K1056 own_bc0)) (rnGG lh Z a0 hw [] tm rr1056 rc p2 l E T e T1056.heap n0 (Nat.le_trans Z0 K1056.1) (own_MQ.keep HM K1056 own_bc0) ⟨Ex1056, Fa1056⟩) hml [.ref rr1056] [] (lenOf pd_10 rfl) rfl rfl rfl rfl rfl rfl (by decide) (by decide) fun v1057 T1057 L1057 X1057 hQ1057 => ?_
  obtain ⟨rfl, N1057q, hQ1057⟩ := hQ1057
  have N1057 := Fr.app N1056 N1057q
  obtain ⟨T1058, X1058, e1058, st1058⟩ := castY X1057 hx hZ hown (ow hw 106 rfl) hQ1057 (Ins.of_exa (u1053_0.keep K1056) (ow hw 223 rfl)) (g := (mkF m 11 #[.val (.ref rl), .val (.long p1), .second, .val (.int p2), .unset] [.ref l])) rfl rfl (D.on 5 rfl)
  refine Rch.of (T' := T1058) (g' := (mkF m 14 #[.val (.ref rl), .val (.long p1), .second, .val (.int p2), .unset] [.ref l])) st1058 ?_
  refine zas X1058 D 6 (l' := #[.val (.ref rl), .val (.long p1), .second, .val (.int p2), .val (.ref l)]) rfl rfl rfl rfl (za X1058 D 7 rfl rfl rfl rfl (zifnonnullYes X1058 D 8 26 rfl rfl rfl (za X1058 D 9 rfl rfl rfl rfl ?_)))
  refine Rch.of (T' := T1058) (g' := (mkF m 31 #[.val (.ref rl), .val (.long p1), .second, .val (.int p2), .val (.ref l)] [.ref sb])) (own_getR X1058 hx hZ hown (ow hw 224 rfl) e1058 (u1053_1.keep K1056 nin0) (g := (mkF m 28 #[.val (.ref rl), .val (.long p1), .second, .val (.int p2), .val (.ref l)] [.ref l])) rfl rfl (D.on 10 rfl)) ?_
  refine zlN X1058 D 11 rfl rfl rfl  (zvs X1058 D 12 hZ me61 hown (ow hw 308 rfl) (ow hw 309 rfl) (ow hw 311 rfl) (ow hw 310 rfl) (ow hw 312 rfl) (ow hw 115 rfl) e1058 (own_S1.x_sb (own_S1.keep H1 K1056 nin0 nin0 nin0 nin0 nin0 nin0)) (rnS1 lh Z a0 hw [] sb pg na pa pp wa p1 yn T1056.heap n0 (Nat.le_trans Z0 K1056.1) (own_S1.keep H1 K1056 nin0 nin0 nin0 nin0 nin0 nin0) gsb gpg gna gpa gpp gwa) hml [.long p1] [] (lenOf pd_28 rfl) rfl rfl rfl rfl rfl rfl (by decide) (by decide) fun v1059 T1059 L1059 X1059 hQ1059 => ?_)
  obtain ⟨rfl, N1059q, hQ1059⟩ := hQ1059
  have N1059 := Fr.app N1057 N1059q
  obtain ⟨K1059, Pq1059_0⟩ := hQ1059
  have Fb1060 := (own_bcS (own_S1.x_sb (own_S1.keep H1 K1056 nin0 nin0 nin0 nin0 nin0 nin0)) (by decide) (own_bcS (own_S1.x_pg (own_S1.keep H1 K1056 nin0 nin0 nin0 nin0 nin0 nin0)) (by decide) (own_bcS (own_S1.x_na (own_S1.keep H1 K1056 nin0 nin0 nin0 nin0 nin0 nin0)) (by decide) (own_bcS (own_S1.x_pa (own_S1.keep H1 K1056 nin0 nin0 nin0 nin0 nin0 nin0)) (by decide) (own_bcS (own_S1.x_pp (own_S1.keep H1 K1056 nin0 nin0 nin0 nin0 nin0 nin0)) (by decide) (own_bcS (own_S1.x_wa (own_S1.keep H1 K1056 nin0 nin0 nin0 nin0 nin0 nin0)) (by decide) own_bc0))))))
  have nc1061 : l ≠ sb := own_exane (u1053_0.keep K1056) (own_S1.x_sb (own_S1.keep H1 K1056 nin0 nin0 nin0 nin0 nin0 nin0)) (by decide)
  have nc1062 : l ≠ pg := own_exane (u1053_0.keep K1056) (own_S1.x_pg (own_S1.keep H1 K1056 nin0 nin0 nin0 nin0 nin0 nin0)) (by decide)
  have nc1063 : l ≠ na := own_exane (u1053_0.keep K1056) (own_S1.x_na (own_S1.keep H1 K1056 nin0 nin0 nin0 nin0 nin0 nin0)) (by decide)
  have nc1064 : l ≠ pa := own_exane (u1053_0.keep K1056) (own_S1.x_pa (own_S1.keep H1 K1056 nin0 nin0 nin0 nin0 nin0 nin0)) (by decide)
  have nc1065 : l ≠ pp := own_exane (u1053_0.keep K1056) (own_S1.x_pp (own_S1.keep H1 K1056 nin0 nin0 nin0 nin0 nin0 nin0)) (by decide)
  have nc1066 : l ≠ wa := own_exane (u1053_0.keep K1056) (own_S1.x_wa (own_S1.keep H1 K1056 nin0 nin0 nin0 nin0 nin0 nin0)) (by decide)
  have nc1067 : rl ≠ sb := own_exane (u1052_0.keep K1056) (own_S1.x_sb (own_S1.keep H1 K1056 nin0 nin0 nin0 nin0 nin0 nin0)) (by decide)
  have nc1068 : rl ≠ pg := own_exane (u1052_0.keep K1056) (own_S1.x_pg (own_S1.keep H1 K1056 nin0 nin0 nin0 nin0 nin0 nin0)) (by decide)
  have nc1069 : rl ≠ na := own_exane (u1052_0.keep K1056) (own_S1.x_na (own_S1.keep H1 K1056 nin0 nin0 nin0 nin0 nin0 nin0)) (by decide)
  have nc1070 : rl ≠ pa := own_exane (u1052_0.keep K1056) (own_S1.x_pa (own_S1.keep H1 K1056 nin0 nin0 nin0 nin0 nin0 nin0)) (by decide)
  have nc1071 : rl ≠ pp := own_exane (u1052_0.keep K1056) (own_S1.x_pp (own_S1.keep H1 K1056 nin0 nin0 nin0 nin0 nin0 nin0)) (by decide)
  have nc1072 : rl ≠ wa := own_exane (u1052_0.keep K1056) (own_S1.x_wa (own_S1.keep H1 K1056 nin0 nin0 nin0 nin0 nin0 nin0)) (by decide)
  have nc1073 : mv ≠ sb := own_exane (u1054_0.keep K1056) (own_S1.x_sb (own_S1.keep H1 K1056 nin0 nin0 nin0 nin0 nin0 nin0)) (by decide)
  have nc1074 : mv ≠ pg := own_exane (u1054_0.keep K1056) (own_S1.x_pg (own_S1.keep H1 K1056 nin0 nin0 nin0 nin0 nin0 nin0)) (by decide)
  have nc1075 : mv ≠ na := own_exane (u1054_0.keep K1056) (own_S1.x_na (own_S1.keep H1 K1056 nin0 nin0 nin0 nin0 nin0 nin0)) (by decide)
  have nc1076 : mv ≠ pa := own_exane (u1054_0.keep K1056) (own_S1.x_pa (own_S1.keep H1 K1056 nin0 nin0 nin0 nin0 nin0 nin0)) (by decide)
  have nc1077 : mv ≠ pp := own_exane (u1054_0.keep K1056) (own_S1.x_pp (own_S1.keep H1 K1056 nin0 nin0 nin0 nin0 nin0 nin0)) (by decide)
  have nc1078 : mv ≠ wa := own_exane (u1054_0.keep K1056) (own_S1.x_wa (own_S1.keep H1 K1056 nin0 nin0 nin0 nin0 nin0 nin0)) (by decide)
  have Fb1079 := (((Keep.refl h0 (rl :: tm :: sb :: pg :: na :: pa :: pp :: wa :: E)).trans K1056 all0).trans K1059 (allS (Or.inl (List.mem_of_getElem? (i := 2) rfl)) (allS (Or.inl (List.mem_of_getElem? (i := 3) rfl)) (allS (Or.inl (List.mem_of_getElem? (i := 4) rfl)) (allS (Or.inl (List.mem_of_getElem? (i := 5) rfl)) (allS (Or.inl (List.mem_of_getElem? (i := 6) rfl)) (allS (Or.inl (List.mem_of_getElem? (i := 7) rfl)) all0)))))))
  refine zY X1059 D 13 75 rfl rfl ((if0 _ _).trans (feq ((by decide) : ¬ ((1 : Int32) = (0 : Int32)))).2) rfl (zaN X1059 D 14 rfl rfl rfl rfl (zdu X1059 D 15 rfl rfl rfl (zgf X1059 D 16 hZ hown (ow hw 45 rfl) rfl ((u1052_2.keep K1056 nin0).keep K1059 (ninS nc1067 (ninS nc1068 (ninS nc1069 (ninS nc1070 (ninS nc1071 (ninS nc1072 nin0))))))) rfl rfl fun T1080 X1080 e1080 => ?_)))
  refine zic X1080 D 17 1 rfl rfl rfl (zisub X1080 D 18 _ rfl rfl rfl (zpf X1080 D 19 hZ hown (ow hw 45 rfl) e1080 ((u1052_2.keep K1056 nin0).keep K1059 (ninS nc1067 (ninS nc1068 (ninS nc1069 (ninS nc1070 (ninS nc1071 (ninS nc1072 nin0))))))) ((u1052_0.keep K1056).keep K1059) (Or.inl (ow hw 46 rfl)) (ow hw 1 rfl) .int (by decide) rfl rfl rfl rfl fun T1081 h1081 X1081 e1081 W1081 => ?_))
  have N1081 := Fr.snoc X1081 N1059 grl
  have Fw1081 := Fld.same W1081 ((u1052_2.keep K1056 nin0).keep K1059 (ninS nc1067 (ninS nc1068 (ninS nc1069 (ninS nc1070 (ninS nc1071 (ninS nc1072 nin0)))))))
  have nc1082 : l ≠ rl := own_exane ((u1053_0.keep K1056).keep K1059) ((u1052_0.keep K1056).keep K1059) (by decide)
  have nc1083 : mv ≠ rl := own_exane ((u1054_0.keep K1056).keep K1059) ((u1052_0.keep K1056).keep K1059) (by decide)
  have Fb1084 := (own_LN.keep (own_LN.keep (own_LN.keep HL K1056 nin0) K1059 (ninS nc1061 (ninS nc1062 (ninS nc1063 (ninS nc1064 (ninS nc1065 (ninS nc1066 nin0))))))) (Keep.of_wr W1081) (ninS nc1082 nin0))
  have Fb1085 := (((u1052_1.keep K1056 nin0).keep K1059 (ninS nc1067 (ninS nc1068 (ninS nc1069 (ninS nc1070 (ninS nc1071 (ninS nc1072 nin0))))))).other W1081 (Or.inr (sn106 hw)))
  obtain ⟨u1086_0, u1086_1, u1086_2, u1086_3⟩ := id (own_S0.keep Pq1059_0 (Keep.of_wr W1081) (ninS (Ne.symm nc1067) nin0) (ninS (Ne.symm nc1068) nin0) (ninS (Ne.symm nc1069) nin0))
  refine za X1081 D 20 rfl rfl rfl rfl ?_
  refine Rch.of (T' := T1081) (g' := (mkF m 90 #[.val (.ref rl), .val (.long p1), .second, .val (.int p2), .val (.ref l)] [.ref sb])) (own_getR X1081 hx hZ hown (ow hw 224 rfl) e1081 (((u1053_1.keep K1056 nin0).keep K1059 (ninS nc1061 (ninS nc1062 (ninS nc1063 (ninS nc1064 (ninS nc1065 (ninS nc1066 nin0))))))).other W1081 (Or.inl nc1082)) (g := (mkF m 87 #[.val (.ref rl), .val (.long p1), .second, .val (.int p2), .val (.ref l)] [.ref l])) rfl rfl (D.on 21 rfl)) ?_
  refine zvs X1081 D 22 hZ me59 hown (ow hw 326 rfl) (ow hw 327 rfl) (ow hw 329 rfl) (ow hw 328 rfl) (ow hw 330 rfl) (ow hw 115 rfl) e1081 u1086_0 (rnSZ lh Z a0 hw [] sb (0 : Int32) h1081 n0 (Nat.le_trans (Nat.le_trans (Nat.le_trans Z0 K1056.1) K1059.1) (Keep.of_wr W1081).1) u1086_2) hml [] [] (lenOf pd_4 rfl) rfl rfl rfl rfl rfl rfl (by decide) (by decide) fun v1087 T1087 L1087 X1087 hQ1087 => ?_
  obtain ⟨rfl, N1087q, hQ1087⟩ := hQ1087
  have N1087 := Fr.app N1081 N1087q
  refine zN X1087 D 23 rfl rfl ((if0 _ _).trans (teq ((by decide) : (0 : Int32) = (0 : Int32))).2) (za X1087 D 24 rfl rfl rfl rfl ?_)
  refine Rch.of (T' := T1087) (g' := (mkF m 101 #[.val (.ref rl), .val (.long p1), .second, .val (.int p2), .val (.ref l)] [.ref mv])) (own_getR X1087 hx hZ hown (ow hw 331 rfl) hQ1087 (((u1053_2.keep K1056 nin0).keep K1059 (ninS nc1061 (ninS nc1062 (ninS nc1063 (ninS nc1064 (ninS nc1065 (ninS nc1066 nin0))))))).other W1081 (Or.inl nc1082)) (g := (mkF m 98 #[.val (.ref rl), .val (.long p1), .second, .val (.int p2), .val (.ref l)] [.ref l])) rfl rfl (D.on 25 rfl)) ?_
  refine zvs X1087 D 26 hZ me62 hown (ow hw 332 rfl) (ow hw 333 rfl) (ow hw 335 rfl) (ow hw 334 rfl) (ow hw 336 rfl) (ow hw 140 rfl) hQ1087 (((u1054_0.keep K1056).keep K1059).wr W1081) (rnME lh Z a0 hw [] mv (0 : Int32) (1 : Int32) h1081 n0 (Nat.le_trans (Nat.le_trans (Nat.le_trans Z0 K1056.1) K1059.1) (Keep.of_wr W1081).1) (((u1054_1.keep K1056 nin0).keep K1059 (ninS nc1073 (ninS nc1074 (ninS nc1075 (ninS nc1076 (ninS nc1077 (ninS nc1078 nin0))))))).other W1081 (Or.inl nc1083)) rfl) hml [] [] (lenOf pd_3 rfl) rfl rfl rfl rfl rfl rfl (by decide) (by decide) fun v1088 T1088 L1088 X1088 hQ1088 => ?_
  obtain ⟨rfl, N1088q, hQ1088⟩ := hQ1088
  have N1088 := Fr.app N1087 N1088q
  refine zN X1088 D 27 rfl rfl ((if0 _ _).trans (feq ((by decide) : ¬ ((1 : Int32) = (0 : Int32)))).1) (zaN X1088 D 28 rfl rfl rfl rfl (zgf X1088 D 29 hZ hown (ow hw 38 rfl) hQ1088 Fb1085 rfl rfl fun T1089 X1089 e1089 => ?_))
  refine ziN X1089 D 30 rfl rfl rfl  (zst (W := 1) X1089 D 31 hZ me15 hown (ow hw 61 rfl) (ow hw 62 rfl) (ow hw 63 rfl) (ow hw 64 rfl) e1089 (rnVO lh Z a0 hw [] p2 ca yc h1081 n0 (Nat.le_trans (Nat.le_trans (Nat.le_trans Z0 K1056.1) K1059.1) (Keep.of_wr W1081).1) (((O0.keep K1056 all0).keep K1059 (allS gsb (allS gpg (allS gna (allS gpa (allS gpp (allS gwa all0))))))).wr W1081 grl) SH SCa VCa hca) hml [.int p2] [.ref tm] (lenOf pd_7 rfl) rfl rfl rfl rfl rfl rfl (by decide) (by decide) fun v1090 T1090 L1090 X1090 hQ1090 => ?_)
  obtain ⟨rr1090, rfl, N1090q, hQ1090⟩ := hQ1090
  have N1090 := Fr.app N1088 N1090q
  obtain ⟨K1090, Ex1090, Fa1090⟩ := hQ1090
  have Fb1091 := (own_MQ.keep (own_MQ.keep (own_MQ.keep (own_MQ.keep HM K1056 own_bc0) K1059 Fb1060) (Keep.of_wr W1081) (own_bcS ((u1052_0.keep K1056).keep K1059) (by decide) own_bc0)) K1090 own_bc0)
  have Fb1092 := ((((u1053_1.keep K1056 nin0).keep K1059 (ninS nc1061 (ninS nc1062 (ninS nc1063 (ninS nc1064 (ninS nc1065 (ninS nc1066 nin0))))))).other W1081 (Or.inl nc1082)).keep K1090 nin0)
  have Fb1093 := ((((u1053_2.keep K1056 nin0).keep K1059 (ninS nc1061 (ninS nc1062 (ninS nc1063 (ninS nc1064 (ninS nc1065 (ninS nc1066 nin0))))))).other W1081 (Or.inl nc1082)).keep K1090 nin0)
  have Fb1094 := ((((u1054_1.keep K1056 nin0).keep K1059 (ninS nc1073 (ninS nc1074 (ninS nc1075 (ninS nc1076 (ninS nc1077 (ninS nc1078 nin0))))))).other W1081 (Or.inl nc1083)).keep K1090 nin0)
  refine zvs X1090 D 32 hZ me38 hown (ow hw 339 rfl) (ow hw 340 rfl) (ow hw 342 rfl) (ow hw 341 rfl) (ow hw 343 rfl) (ow hw 11 rfl) rfl (own_MQ.x_tm Fb1091) (rnRE lh Z a0 hw [] tm rr1090 rc p2 l E T e T1090.heap n0 (Nat.le_trans (Nat.le_trans (Nat.le_trans (Nat.le_trans Z0 K1056.1) K1059.1) (Keep.of_wr W1081).1) K1090.1) Fb1091 ⟨Ex1090, Fa1090⟩ gtm) hml [.ref rr1090] [] (lenOf pd_10 rfl) rfl rfl rfl rfl rfl rfl (by decide) (by decide) fun v1095 T1095 L1095 X1095 hQ1095 => ?_
  obtain ⟨rfl, N1095q, hQ1095⟩ := hQ1095
  have N1095 := Fr.app N1090 N1095q
  obtain ⟨K1095, HT1095⟩ := hQ1095
  have nq1095 := own_MQ.nin Fb1091 ((((u1052_0.keep K1056).keep K1059).wr W1081).keep K1090) (by decide)
  refine zpop X1095 D 33 rfl rfl rfl ?_
  exact Rch.retV X1095 hx hret hlk (D.on 34 rfl) (fun U hU hF => hK _ U _ _ _ (by show Q_rnRA Z rl tm rc z p1 p2 ca yc l e E T sb mv pg na pa pp wa yn h0 n0 _ U.heap _; rw [hU]; exact ⟨rfl, N1095, (((Fb1079.wr W1081 (Or.inl (List.mem_of_getElem? (i := 0) rfl))).trans K1090 all0).trans K1095 (fun x hx => Or.inl (by rcases List.mem_cons.mp hx with q | q <;> simp [q]))), ⟨(((((u1052_0.keep K1056).keep K1059).wr W1081).keep K1090).keep K1095), ((Fb1085.keep K1090 nin0).keep K1095 nq1095), ((Fw1081.keep K1090 nin0).keep K1095 nq1095)⟩, HT1095⟩) hF (by decide) (by decide))
def Q_rnRB (Z : State) (rl tm rc : Addr) (z : Int32) (p1 : Int64) (p2 : Int32) (ca : Addr) (yc : Nat → Value) (l e : Addr) (E : List Addr) (T : Heap → Prop) (sb mv pg na pa pp wa : Addr) (yn : Nat → Int64) (h0 : Heap) (n0 : Nat) (vv_ : Option Value) (h : Heap) (LL_ : List Loc) : Prop := vv_ = none ∧ Fr n0 LL_ ∧ (Keep h0 h [rl, sb, pg, na, pa, pp, wa] ∧ own_RL Z h rl tm (z - (1 : Int32)) ∧ own_S0 Z h sb pg na yn)
theorem rnRB (lh : Launch) (Z : State) (a0 : Array Value) (hw : HW a0 Z) (ws : List Jvm.Cond) (rl tm rc : Addr) (z : Int32) (p1 : Int64) (p2 : Int32) (ca : Addr) (yc : Nat → Value) (l e : Addr) (E : List Addr) (T : Heap → Prop) (sb mv pg na pa pp wa : Addr) (yn : Nat → Int64) (h0 : Heap) (n0 : Nat) (Z0 : n0 ≤ h0.size) (HR : own_RL Z h0 rl tm z) (HM : own_MQ Z h0 tm rc p2 l E T n0 e) (HL : own_LN Z h0 l sb mv) (H1 : own_S1 Z h0 sb pg na pa pp wa p1 yn) (HZ : own_MZ Z h0 mv (1 : Int32)) (O0 : Old Z n0 h0) (SH : Sta Z Z.heap "java/lang/Integer$IntegerCache" "high" "I" (.int (127 : Int32))) (SCa : Sta Z Z.heap "java/lang/Integer$IntegerCache" "cache" "[Ljava/lang/Integer;" (.ref ca)) (VCa : Av Z Z.heap ca (.object "java/lang/Integer") 256 yc) (hca : ∀ q, q < 256 → ∃ r, yc q = .ref r ∧ Exa Z Z.heap r "java/lang/Integer" ∧ Fld Z Z.heap r "java/lang/Integer" "value" "I" (.int (Int32.ofNat q - (128 : Int32)))) (grl : n0 ≤ rl) (gsb : n0 ≤ sb) (gpg : n0 ≤ pg) (gna : n0 ≤ na) (gpa : n0 ≤ pa) (gpp : n0 ≤ pp) (gwa : n0 ≤ wa) :
    MF lh Z me71 (.code me71 prog_56_method_8_code 5 none) ws ⟨8, 1, 1, 114⟩ #[.ref rl, .long p1, .int p2] h0 (Q_rnRB Z rl tm rc z p1 p2 ca yc l e E T sb mv pg na pa pp wa yn h0 n0) := by
  refine own_met (y := me71) (plainFor_of_name pn_15) ?_
  intro p ev sT m below meth c T0 K hx hby hml hret hlk hown hnm hZ X0 e0 hK
  have N0 := Fr.nil n0
  have D : DB p c Ld68 := DB.of hx hby d68
  refine Rch.cast (g' := mkF m 0 #[.val (.ref rl), .val (.long p1), .second, .val (.int p2), .unset] []) (by first | rfl | simp [entryFrame, mkF, argsToLocals, Value.category]) ?_
  obtain ⟨u1096_0, u1096_1, u1096_2⟩ := id HR
  obtain ⟨u1097_0, u1097_1, u1097_2⟩ := id HL
  obtain ⟨u1098_0, u1098_1⟩ := id HZ
  refine zaN X0 D 0 rfl rfl rfl rfl (zgf X0 D 1 hZ hown (ow hw 38 rfl) e0 u1096_1 rfl rfl fun T1099 X1099 e1099 => ?_)
  refine ziN X1099 D 2 rfl rfl rfl  (zst (W := 1) X1099 D 3 hZ me15 hown (ow hw 61 rfl) (ow hw 62 rfl) (ow hw 63 rfl) (ow hw 64 rfl) e1099 (rnVO lh Z a0 hw [] p2 ca yc h0 n0 Z0 O0 SH SCa VCa hca) hml [.int p2] [.ref tm] (lenOf pd_7 rfl) rfl rfl rfl rfl rfl rfl (by decide) (by decide) fun v1100 T1100 L1100 X1100 hQ1100 => ?_)
  obtain ⟨rr1100, rfl, N1100q, hQ1100⟩ := hQ1100
  have N1100 := Fr.app N0 N1100q
  obtain ⟨K1100, Ex1100, Fa1100⟩ := hQ1100
  refine zvs X1100 D 4 hZ me37 hown (ow hw 291 rfl) (ow hw 292 rfl) (ow hw 294 rfl) (ow hw 293 rfl) (ow hw 295 rfl) (ow hw 11 rfl) rfl (own_MQ.x_tm (own_MQ.keep HM K1100 own_bc0)) (rnGG lh Z a0 hw [] tm rr1100 rc p2 l E T e T1100.heap n0 (Nat.le_trans Z0 K1100.1) (own_MQ.keep HM K1100 own_bc0) ⟨Ex1100, Fa1100⟩) hml [.ref rr1100] [] (lenOf pd_10 rfl) rfl rfl rfl rfl rfl rfl (by decide) (by decide) fun v1101 T1101 L1101 X1101 hQ1101 => ?_
  obtain ⟨rfl, N1101q, hQ1101⟩ := hQ1101
  have N1101 := Fr.app N1100 N1101q
  obtain ⟨T1102, X1102, e1102, st1102⟩ := castY X1101 hx hZ hown (ow hw 106 rfl) hQ1101 (Ins.of_exa (u1097_0.keep K1100) (ow hw 223 rfl)) (g := (mkF m 11 #[.val (.ref rl), .val (.long p1), .second, .val (.int p2), .unset] [.ref l])) rfl rfl (D.on 5 rfl)
  refine Rch.of (T' := T1102) (g' := (mkF m 14 #[.val (.ref rl), .val (.long p1), .second, .val (.int p2), .unset] [.ref l])) st1102 ?_
  refine zas X1102 D 6 (l' := #[.val (.ref rl), .val (.long p1), .second, .val (.int p2), .val (.ref l)]) rfl rfl rfl rfl (za X1102 D 7 rfl rfl rfl rfl (zifnonnullYes X1102 D 8 26 rfl rfl rfl (za X1102 D 9 rfl rfl rfl rfl ?_)))
  refine Rch.of (T' := T1102) (g' := (mkF m 31 #[.val (.ref rl), .val (.long p1), .second, .val (.int p2), .val (.ref l)] [.ref sb])) (own_getR X1102 hx hZ hown (ow hw 224 rfl) e1102 (u1097_1.keep K1100 nin0) (g := (mkF m 28 #[.val (.ref rl), .val (.long p1), .second, .val (.int p2), .val (.ref l)] [.ref l])) rfl rfl (D.on 10 rfl)) ?_
  refine zlN X1102 D 11 rfl rfl rfl  (zvs X1102 D 12 hZ me61 hown (ow hw 308 rfl) (ow hw 309 rfl) (ow hw 311 rfl) (ow hw 310 rfl) (ow hw 312 rfl) (ow hw 115 rfl) e1102 (own_S1.x_sb (own_S1.keep H1 K1100 nin0 nin0 nin0 nin0 nin0 nin0)) (rnS1 lh Z a0 hw [] sb pg na pa pp wa p1 yn T1100.heap n0 (Nat.le_trans Z0 K1100.1) (own_S1.keep H1 K1100 nin0 nin0 nin0 nin0 nin0 nin0) gsb gpg gna gpa gpp gwa) hml [.long p1] [] (lenOf pd_28 rfl) rfl rfl rfl rfl rfl rfl (by decide) (by decide) fun v1103 T1103 L1103 X1103 hQ1103 => ?_)
  obtain ⟨rfl, N1103q, hQ1103⟩ := hQ1103
  have N1103 := Fr.app N1101 N1103q
  obtain ⟨K1103, Pq1103_0⟩ := hQ1103
  have Fb1104 := (own_bcS (own_S1.x_sb (own_S1.keep H1 K1100 nin0 nin0 nin0 nin0 nin0 nin0)) (by decide) (own_bcS (own_S1.x_pg (own_S1.keep H1 K1100 nin0 nin0 nin0 nin0 nin0 nin0)) (by decide) (own_bcS (own_S1.x_na (own_S1.keep H1 K1100 nin0 nin0 nin0 nin0 nin0 nin0)) (by decide) (own_bcS (own_S1.x_pa (own_S1.keep H1 K1100 nin0 nin0 nin0 nin0 nin0 nin0)) (by decide) (own_bcS (own_S1.x_pp (own_S1.keep H1 K1100 nin0 nin0 nin0 nin0 nin0 nin0)) (by decide) (own_bcS (own_S1.x_wa (own_S1.keep H1 K1100 nin0 nin0 nin0 nin0 nin0 nin0)) (by decide) own_bc0))))))
  have nc1105 : l ≠ sb := own_exane (u1097_0.keep K1100) (own_S1.x_sb (own_S1.keep H1 K1100 nin0 nin0 nin0 nin0 nin0 nin0)) (by decide)
  have nc1106 : l ≠ pg := own_exane (u1097_0.keep K1100) (own_S1.x_pg (own_S1.keep H1 K1100 nin0 nin0 nin0 nin0 nin0 nin0)) (by decide)
  have nc1107 : l ≠ na := own_exane (u1097_0.keep K1100) (own_S1.x_na (own_S1.keep H1 K1100 nin0 nin0 nin0 nin0 nin0 nin0)) (by decide)
  have nc1108 : l ≠ pa := own_exane (u1097_0.keep K1100) (own_S1.x_pa (own_S1.keep H1 K1100 nin0 nin0 nin0 nin0 nin0 nin0)) (by decide)
  have nc1109 : l ≠ pp := own_exane (u1097_0.keep K1100) (own_S1.x_pp (own_S1.keep H1 K1100 nin0 nin0 nin0 nin0 nin0 nin0)) (by decide)
  have nc1110 : l ≠ wa := own_exane (u1097_0.keep K1100) (own_S1.x_wa (own_S1.keep H1 K1100 nin0 nin0 nin0 nin0 nin0 nin0)) (by decide)
  have nc1111 : rl ≠ sb := own_exane (u1096_0.keep K1100) (own_S1.x_sb (own_S1.keep H1 K1100 nin0 nin0 nin0 nin0 nin0 nin0)) (by decide)
  have nc1112 : rl ≠ pg := own_exane (u1096_0.keep K1100) (own_S1.x_pg (own_S1.keep H1 K1100 nin0 nin0 nin0 nin0 nin0 nin0)) (by decide)
  have nc1113 : rl ≠ na := own_exane (u1096_0.keep K1100) (own_S1.x_na (own_S1.keep H1 K1100 nin0 nin0 nin0 nin0 nin0 nin0)) (by decide)
  have nc1114 : rl ≠ pa := own_exane (u1096_0.keep K1100) (own_S1.x_pa (own_S1.keep H1 K1100 nin0 nin0 nin0 nin0 nin0 nin0)) (by decide)
  have nc1115 : rl ≠ pp := own_exane (u1096_0.keep K1100) (own_S1.x_pp (own_S1.keep H1 K1100 nin0 nin0 nin0 nin0 nin0 nin0)) (by decide)
  have nc1116 : rl ≠ wa := own_exane (u1096_0.keep K1100) (own_S1.x_wa (own_S1.keep H1 K1100 nin0 nin0 nin0 nin0 nin0 nin0)) (by decide)
  have nc1117 : mv ≠ sb := own_exane (u1098_0.keep K1100) (own_S1.x_sb (own_S1.keep H1 K1100 nin0 nin0 nin0 nin0 nin0 nin0)) (by decide)
  have nc1118 : mv ≠ pg := own_exane (u1098_0.keep K1100) (own_S1.x_pg (own_S1.keep H1 K1100 nin0 nin0 nin0 nin0 nin0 nin0)) (by decide)
  have nc1119 : mv ≠ na := own_exane (u1098_0.keep K1100) (own_S1.x_na (own_S1.keep H1 K1100 nin0 nin0 nin0 nin0 nin0 nin0)) (by decide)
  have nc1120 : mv ≠ pa := own_exane (u1098_0.keep K1100) (own_S1.x_pa (own_S1.keep H1 K1100 nin0 nin0 nin0 nin0 nin0 nin0)) (by decide)
  have nc1121 : mv ≠ pp := own_exane (u1098_0.keep K1100) (own_S1.x_pp (own_S1.keep H1 K1100 nin0 nin0 nin0 nin0 nin0 nin0)) (by decide)
  have nc1122 : mv ≠ wa := own_exane (u1098_0.keep K1100) (own_S1.x_wa (own_S1.keep H1 K1100 nin0 nin0 nin0 nin0 nin0 nin0)) (by decide)
  have Fb1123 := (((Keep.refl h0 [rl, sb, pg, na, pa, pp, wa]).trans K1100 all0).trans K1103 (allS (Or.inl (List.mem_of_getElem? (i := 1) rfl)) (allS (Or.inl (List.mem_of_getElem? (i := 2) rfl)) (allS (Or.inl (List.mem_of_getElem? (i := 3) rfl)) (allS (Or.inl (List.mem_of_getElem? (i := 4) rfl)) (allS (Or.inl (List.mem_of_getElem? (i := 5) rfl)) (allS (Or.inl (List.mem_of_getElem? (i := 6) rfl)) all0)))))))
  refine zY X1103 D 13 75 rfl rfl ((if0 _ _).trans (feq ((by decide) : ¬ ((1 : Int32) = (0 : Int32)))).2) rfl (zaN X1103 D 14 rfl rfl rfl rfl (zdu X1103 D 15 rfl rfl rfl (zgf X1103 D 16 hZ hown (ow hw 45 rfl) rfl ((u1096_2.keep K1100 nin0).keep K1103 (ninS nc1111 (ninS nc1112 (ninS nc1113 (ninS nc1114 (ninS nc1115 (ninS nc1116 nin0))))))) rfl rfl fun T1124 X1124 e1124 => ?_)))
  refine zic X1124 D 17 1 rfl rfl rfl (zisub X1124 D 18 _ rfl rfl rfl (zpf X1124 D 19 hZ hown (ow hw 45 rfl) e1124 ((u1096_2.keep K1100 nin0).keep K1103 (ninS nc1111 (ninS nc1112 (ninS nc1113 (ninS nc1114 (ninS nc1115 (ninS nc1116 nin0))))))) ((u1096_0.keep K1100).keep K1103) (Or.inl (ow hw 46 rfl)) (ow hw 1 rfl) .int (by decide) rfl rfl rfl rfl fun T1125 h1125 X1125 e1125 W1125 => ?_))
  have N1125 := Fr.snoc X1125 N1103 grl
  have Fw1125 := Fld.same W1125 ((u1096_2.keep K1100 nin0).keep K1103 (ninS nc1111 (ninS nc1112 (ninS nc1113 (ninS nc1114 (ninS nc1115 (ninS nc1116 nin0)))))))
  have nc1126 : l ≠ rl := own_exane ((u1097_0.keep K1100).keep K1103) ((u1096_0.keep K1100).keep K1103) (by decide)
  have nc1127 : mv ≠ rl := own_exane ((u1098_0.keep K1100).keep K1103) ((u1096_0.keep K1100).keep K1103) (by decide)
  have Fb1128 := (own_LN.keep (own_LN.keep (own_LN.keep HL K1100 nin0) K1103 (ninS nc1105 (ninS nc1106 (ninS nc1107 (ninS nc1108 (ninS nc1109 (ninS nc1110 nin0))))))) (Keep.of_wr W1125) (ninS nc1126 nin0))
  have Fb1129 := (((u1096_1.keep K1100 nin0).keep K1103 (ninS nc1111 (ninS nc1112 (ninS nc1113 (ninS nc1114 (ninS nc1115 (ninS nc1116 nin0))))))).other W1125 (Or.inr (sn106 hw)))
  obtain ⟨u1130_0, u1130_1, u1130_2, u1130_3⟩ := id (own_S0.keep Pq1103_0 (Keep.of_wr W1125) (ninS (Ne.symm nc1111) nin0) (ninS (Ne.symm nc1112) nin0) (ninS (Ne.symm nc1113) nin0))
  refine za X1125 D 20 rfl rfl rfl rfl ?_
  refine Rch.of (T' := T1125) (g' := (mkF m 90 #[.val (.ref rl), .val (.long p1), .second, .val (.int p2), .val (.ref l)] [.ref sb])) (own_getR X1125 hx hZ hown (ow hw 224 rfl) e1125 (((u1097_1.keep K1100 nin0).keep K1103 (ninS nc1105 (ninS nc1106 (ninS nc1107 (ninS nc1108 (ninS nc1109 (ninS nc1110 nin0))))))).other W1125 (Or.inl nc1126)) (g := (mkF m 87 #[.val (.ref rl), .val (.long p1), .second, .val (.int p2), .val (.ref l)] [.ref l])) rfl rfl (D.on 21 rfl)) ?_
  refine zvs X1125 D 22 hZ me59 hown (ow hw 326 rfl) (ow hw 327 rfl) (ow hw 329 rfl) (ow hw 328 rfl) (ow hw 330 rfl) (ow hw 115 rfl) e1125 u1130_0 (rnSZ lh Z a0 hw [] sb (0 : Int32) h1125 n0 (Nat.le_trans (Nat.le_trans (Nat.le_trans Z0 K1100.1) K1103.1) (Keep.of_wr W1125).1) u1130_2) hml [] [] (lenOf pd_4 rfl) rfl rfl rfl rfl rfl rfl (by decide) (by decide) fun v1131 T1131 L1131 X1131 hQ1131 => ?_
  obtain ⟨rfl, N1131q, hQ1131⟩ := hQ1131
  have N1131 := Fr.app N1125 N1131q
  refine zN X1131 D 23 rfl rfl ((if0 _ _).trans (teq ((by decide) : (0 : Int32) = (0 : Int32))).2) (za X1131 D 24 rfl rfl rfl rfl ?_)
  refine Rch.of (T' := T1131) (g' := (mkF m 101 #[.val (.ref rl), .val (.long p1), .second, .val (.int p2), .val (.ref l)] [.ref mv])) (own_getR X1131 hx hZ hown (ow hw 331 rfl) hQ1131 (((u1097_2.keep K1100 nin0).keep K1103 (ninS nc1105 (ninS nc1106 (ninS nc1107 (ninS nc1108 (ninS nc1109 (ninS nc1110 nin0))))))).other W1125 (Or.inl nc1126)) (g := (mkF m 98 #[.val (.ref rl), .val (.long p1), .second, .val (.int p2), .val (.ref l)] [.ref l])) rfl rfl (D.on 25 rfl)) ?_
  refine zvs X1131 D 26 hZ me62 hown (ow hw 332 rfl) (ow hw 333 rfl) (ow hw 335 rfl) (ow hw 334 rfl) (ow hw 336 rfl) (ow hw 140 rfl) hQ1131 (((u1098_0.keep K1100).keep K1103).wr W1125) (rnME lh Z a0 hw [] mv (1 : Int32) (0 : Int32) h1125 n0 (Nat.le_trans (Nat.le_trans (Nat.le_trans Z0 K1100.1) K1103.1) (Keep.of_wr W1125).1) (((u1098_1.keep K1100 nin0).keep K1103 (ninS nc1117 (ninS nc1118 (ninS nc1119 (ninS nc1120 (ninS nc1121 (ninS nc1122 nin0))))))).other W1125 (Or.inl nc1127)) rfl) hml [] [] (lenOf pd_3 rfl) rfl rfl rfl rfl rfl rfl (by decide) (by decide) fun v1132 T1132 L1132 X1132 hQ1132 => ?_
  obtain ⟨rfl, N1132q, hQ1132⟩ := hQ1132
  have N1132 := Fr.app N1131 N1132q
  refine zY X1132 D 27 119 rfl rfl ((if0 _ _).trans (teq ((by decide) : (0 : Int32) = (0 : Int32))).1) rfl ?_
  exact Rch.retV X1132 hx hret hlk (D.on 34 rfl) (fun U hU hF => hK _ U _ _ _ (by show Q_rnRB Z rl tm rc z p1 p2 ca yc l e E T sb mv pg na pa pp wa yn h0 n0 _ U.heap _; rw [hU, hQ1132]; exact ⟨rfl, N1132, (Fb1123.wr W1125 (Or.inl (List.mem_of_getElem? (i := 0) rfl))), ⟨(((u1096_0.keep K1100).keep K1103).wr W1125), Fb1129, Fw1125⟩, (own_S0.keep Pq1103_0 (Keep.of_wr W1125) (ninS (Ne.symm nc1111) nin0) (ninS (Ne.symm nc1112) nin0) (ninS (Ne.symm nc1113) nin0))⟩) hF (by decide) (by decide))
def Q_rnRC (Z : State) (rl tm rc : Addr) (z : Int32) (p1 : Int64) (p2 : Int32) (ca : Addr) (yc : Nat → Value) (l e : Addr) (E : List Addr) (T : Heap → Prop) (sb mv pg na : Addr) (yn : Nat → Int64) (ad el ck : Addr) (ym : Nat → Int64) (h0 : Heap) (n0 : Nat) (vv_ : Option Value) (h : Heap) (LL_ : List Loc) : Prop := vv_ = none ∧ Fr n0 LL_ ∧ (n0 ≤ h.size ∧ own_RL Z h rl tm (z - (1 : Int32)))
theorem rnRC (lh : Launch) (Z : State) (a0 : Array Value) (hw : HW a0 Z) (ws : List Jvm.Cond) (rl tm rc : Addr) (z : Int32) (p1 : Int64) (p2 : Int32) (ca : Addr) (yc : Nat → Value) (l e : Addr) (E : List Addr) (T : Heap → Prop) (sb mv pg na : Addr) (yn : Nat → Int64) (ad el ck : Addr) (ym : Nat → Int64) (h0 : Heap) (n0 : Nat) (Z0 : n0 ≤ h0.size) (HR : own_RL Z h0 rl tm z) (HM : own_MQ Z h0 tm rc p2 l E T n0 e) (HL : own_LN Z h0 l sb mv) (H1 : own_S0 Z h0 sb pg na yn) (H2 : own_M1 Z h0 mv ad el ck p1 ym) (O0 : Old Z n0 h0) (SH : Sta Z Z.heap "java/lang/Integer$IntegerCache" "high" "I" (.int (127 : Int32))) (SCa : Sta Z Z.heap "java/lang/Integer$IntegerCache" "cache" "[Ljava/lang/Integer;" (.ref ca)) (VCa : Av Z Z.heap ca (.object "java/lang/Integer") 256 yc) (hca : ∀ q, q < 256 → ∃ r, yc q = .ref r ∧ Exa Z Z.heap r "java/lang/Integer" ∧ Fld Z Z.heap r "java/lang/Integer" "value" "I" (.int (Int32.ofNat q - (128 : Int32)))) (grl : n0 ≤ rl) (gtm : n0 ≤ tm) (gmv : n0 ≤ mv) (gad : n0 ≤ ad) (gel : n0 ≤ el) :
    MF lh Z me71 (.code me71 prog_56_method_8_code 5 none) ws ⟨8, 2, 2, 115⟩ #[.ref rl, .long p1, .int p2] h0 (Q_rnRC Z rl tm rc z p1 p2 ca yc l e E T sb mv pg na yn ad el ck ym h0 n0) := by
  refine own_met (y := me71) (plainFor_of_name pn_15) ?_
  intro p ev sT m below meth c T0 K hx hby hml hret hlk hown hnm hZ X0 e0 hK
  have N0 := Fr.nil n0
  have D : DB p c Ld68 := DB.of hx hby d68
  refine Rch.cast (g' := mkF m 0 #[.val (.ref rl), .val (.long p1), .second, .val (.int p2), .unset] []) (by first | rfl | simp [entryFrame, mkF, argsToLocals, Value.category]) ?_
  obtain ⟨u1133_0, u1133_1, u1133_2⟩ := id HR
  obtain ⟨u1134_0, u1134_1, u1134_2⟩ := id HL
  have kn1135 : (lcmpW p1 p1) = (0 : Int32) := (lw_eq _ _).mpr rfl
  obtain ⟨u1136_0, u1136_1, u1136_2, u1136_3⟩ := id H1
  refine zaN X0 D 0 rfl rfl rfl rfl (zgf X0 D 1 hZ hown (ow hw 38 rfl) e0 u1133_1 rfl rfl fun T1137 X1137 e1137 => ?_)
  refine ziN X1137 D 2 rfl rfl rfl  (zst (W := 1) X1137 D 3 hZ me15 hown (ow hw 61 rfl) (ow hw 62 rfl) (ow hw 63 rfl) (ow hw 64 rfl) e1137 (rnVO lh Z a0 hw [] p2 ca yc h0 n0 Z0 O0 SH SCa VCa hca) hml [.int p2] [.ref tm] (lenOf pd_7 rfl) rfl rfl rfl rfl rfl rfl (by decide) (by decide) fun v1138 T1138 L1138 X1138 hQ1138 => ?_)
  obtain ⟨rr1138, rfl, N1138q, hQ1138⟩ := hQ1138
  have N1138 := Fr.app N0 N1138q
  obtain ⟨K1138, Ex1138, Fa1138⟩ := hQ1138
  refine zvs X1138 D 4 hZ me37 hown (ow hw 291 rfl) (ow hw 292 rfl) (ow hw 294 rfl) (ow hw 293 rfl) (ow hw 295 rfl) (ow hw 11 rfl) rfl (own_MQ.x_tm (own_MQ.keep HM K1138 own_bc0)) (rnGG lh Z a0 hw [] tm rr1138 rc p2 l E T e T1138.heap n0 (Nat.le_trans Z0 K1138.1) (own_MQ.keep HM K1138 own_bc0) ⟨Ex1138, Fa1138⟩) hml [.ref rr1138] [] (lenOf pd_10 rfl) rfl rfl rfl rfl rfl rfl (by decide) (by decide) fun v1139 T1139 L1139 X1139 hQ1139 => ?_
  obtain ⟨rfl, N1139q, hQ1139⟩ := hQ1139
  have N1139 := Fr.app N1138 N1139q
  obtain ⟨T1140, X1140, e1140, st1140⟩ := castY X1139 hx hZ hown (ow hw 106 rfl) hQ1139 (Ins.of_exa (u1134_0.keep K1138) (ow hw 223 rfl)) (g := (mkF m 11 #[.val (.ref rl), .val (.long p1), .second, .val (.int p2), .unset] [.ref l])) rfl rfl (D.on 5 rfl)
  refine Rch.of (T' := T1140) (g' := (mkF m 14 #[.val (.ref rl), .val (.long p1), .second, .val (.int p2), .unset] [.ref l])) st1140 ?_
  refine zas X1140 D 6 (l' := #[.val (.ref rl), .val (.long p1), .second, .val (.int p2), .val (.ref l)]) rfl rfl rfl rfl (za X1140 D 7 rfl rfl rfl rfl (zifnonnullYes X1140 D 8 26 rfl rfl rfl (za X1140 D 9 rfl rfl rfl rfl ?_)))
  refine Rch.of (T' := T1140) (g' := (mkF m 31 #[.val (.ref rl), .val (.long p1), .second, .val (.int p2), .val (.ref l)] [.ref sb])) (own_getR X1140 hx hZ hown (ow hw 224 rfl) e1140 (u1134_1.keep K1138 nin0) (g := (mkF m 28 #[.val (.ref rl), .val (.long p1), .second, .val (.int p2), .val (.ref l)] [.ref l])) rfl rfl (D.on 10 rfl)) ?_
  refine zlN X1140 D 11 rfl rfl rfl  (zvs X1140 D 12 hZ me61 hown (ow hw 308 rfl) (ow hw 309 rfl) (ow hw 311 rfl) (ow hw 310 rfl) (ow hw 312 rfl) (ow hw 115 rfl) e1140 (u1136_0.keep K1138) (rnS0 lh Z a0 hw [] sb pg na yn p1 T1138.heap n0 (Nat.le_trans Z0 K1138.1) (own_S0.keep H1 K1138 nin0 nin0 nin0)) hml [.long p1] [] (lenOf pd_28 rfl) rfl rfl rfl rfl rfl rfl (by decide) (by decide) fun v1141 T1141 L1141 X1141 hQ1141 => ?_)
  obtain ⟨rfl, N1141q, hQ1141⟩ := hQ1141
  have N1141 := Fr.app N1139 N1141q
  refine zN X1141 D 13 rfl rfl ((if0 _ _).trans (teq ((by decide) : (0 : Int32) = (0 : Int32))).2) ?_
  obtain ⟨u1142_0, u1142_1, u1142_2, u1142_3, u1142_4, u1142_5, u1142_6, u1142_7, u1142_8, u1142_9, u1142_10, u1142_11, u1142_12, u1142_13, u1142_14, u1142_15, u1142_16, u1142_17⟩ := id (own_M1.keep H2 K1138 nin0 nin0 nin0 nin0)
  refine za X1141 D 35 rfl rfl rfl rfl ?_
  refine Rch.of (T' := T1141) (g' := (mkF m 43 #[.val (.ref rl), .val (.long p1), .second, .val (.int p2), .val (.ref l)] [.ref mv])) (own_getR X1141 hx hZ hown (ow hw 331 rfl) hQ1141 (u1134_2.keep K1138 nin0) (g := (mkF m 40 #[.val (.ref rl), .val (.long p1), .second, .val (.int p2), .val (.ref l)] [.ref l])) rfl rfl (D.on 36 rfl)) ?_
  refine zvs X1141 D 37 hZ me62 hown (ow hw 332 rfl) (ow hw 333 rfl) (ow hw 335 rfl) (ow hw 334 rfl) (ow hw 336 rfl) (ow hw 140 rfl) hQ1141 u1142_0 (rnME lh Z a0 hw [] mv (1 : Int32) (0 : Int32) T1138.heap n0 (Nat.le_trans Z0 K1138.1) u1142_5 rfl) hml [] [] (lenOf pd_3 rfl) rfl rfl rfl rfl rfl rfl (by decide) (by decide) fun v1143 T1143 L1143 X1143 hQ1143 => ?_
  obtain ⟨rfl, N1143q, hQ1143⟩ := hQ1143
  have N1143 := Fr.app N1141 N1143q
  refine zN X1143 D 38 rfl rfl ((if0 _ _).trans (teq ((by decide) : (0 : Int32) = (0 : Int32))).2) (za X1143 D 39 rfl rfl rfl rfl ?_)
  refine Rch.of (T' := T1143) (g' := (mkF m 54 #[.val (.ref rl), .val (.long p1), .second, .val (.int p2), .val (.ref l)] [.ref mv])) (own_getR X1143 hx hZ hown (ow hw 331 rfl) hQ1143 (u1134_2.keep K1138 nin0) (g := (mkF m 51 #[.val (.ref rl), .val (.long p1), .second, .val (.int p2), .val (.ref l)] [.ref l])) rfl rfl (D.on 40 rfl)) ?_
  refine zvs X1143 D 41 hZ me65 hown (ow hw 394 rfl) (ow hw 395 rfl) (ow hw 397 rfl) (ow hw 396 rfl) (ow hw 398 rfl) (ow hw 140 rfl) hQ1143 (own_M1.x_mv (own_M1.keep H2 K1138 nin0 nin0 nin0 nin0)) (rnMF lh Z a0 hw [] mv ad el ck p1 ym T1138.heap n0 (Nat.le_trans Z0 K1138.1) (own_M1.keep H2 K1138 nin0 nin0 nin0 nin0)) hml [] [] (lenOf pd_35 rfl) rfl rfl rfl rfl rfl rfl (by decide) (by decide) fun v1144 T1144 L1144 X1144 hQ1144 => ?_
  obtain ⟨rfl, N1144q, hQ1144⟩ := hQ1144
  have N1144 := Fr.app N1143 N1144q
  refine zlN X1144 D 42 rfl rfl rfl  (zlcmp X1144 D 43 _ rfl rfl rfl (zY X1144 D 44 67 rfl rfl ((if0 _ _).trans (teq kn1135).1) rfl (za X1144 D 45 rfl rfl rfl rfl ?_)))
  refine Rch.of (T' := T1144) (g' := (mkF m 72 #[.val (.ref rl), .val (.long p1), .second, .val (.int p2), .val (.ref l)] [.ref mv])) (own_getR X1144 hx hZ hown (ow hw 331 rfl) hQ1144 (u1134_2.keep K1138 nin0) (g := (mkF m 69 #[.val (.ref rl), .val (.long p1), .second, .val (.int p2), .val (.ref l)] [.ref l])) rfl rfl (D.on 46 rfl)) ?_
  refine zvs X1144 D 47 hZ me66 hown (ow hw 410 rfl) (ow hw 411 rfl) (ow hw 413 rfl) (ow hw 412 rfl) (ow hw 414 rfl) (ow hw 140 rfl) hQ1144 (own_M1.x_mv (own_M1.keep H2 K1138 nin0 nin0 nin0 nin0)) (rnMR lh Z a0 hw [] mv ad el ck p1 ym T1138.heap n0 (Nat.le_trans Z0 K1138.1) (own_M1.keep H2 K1138 nin0 nin0 nin0 nin0) gmv gad gel) hml [] [] (lenOf pd_0 rfl) rfl rfl rfl rfl rfl rfl (by decide) (by decide) fun v1145 T1145 L1145 X1145 hQ1145 => ?_
  obtain ⟨rfl, N1145q, hQ1145⟩ := hQ1145
  have N1145 := Fr.app N1144 N1145q
  obtain ⟨K1145, Pq1145_0⟩ := hQ1145
  have Fb1146 := (own_bcS (own_M1.x_mv (own_M1.keep H2 K1138 nin0 nin0 nin0 nin0)) (by decide) (own_bcS (own_M1.x_ad (own_M1.keep H2 K1138 nin0 nin0 nin0 nin0)) (by decide) (own_bcS (own_M1.x_el (own_M1.keep H2 K1138 nin0 nin0 nin0 nin0)) (by decide) own_bc0)))
  have nc1147 : l ≠ mv := own_exane (u1134_0.keep K1138) (own_M1.x_mv (own_M1.keep H2 K1138 nin0 nin0 nin0 nin0)) (by decide)
  have nc1148 : l ≠ ad := own_exane (u1134_0.keep K1138) (own_M1.x_ad (own_M1.keep H2 K1138 nin0 nin0 nin0 nin0)) (by decide)
  have nc1149 : l ≠ el := own_exane (u1134_0.keep K1138) (own_M1.x_el (own_M1.keep H2 K1138 nin0 nin0 nin0 nin0)) (by decide)
  have nc1150 : rl ≠ mv := own_exane (u1133_0.keep K1138) (own_M1.x_mv (own_M1.keep H2 K1138 nin0 nin0 nin0 nin0)) (by decide)
  have nc1151 : rl ≠ ad := own_exane (u1133_0.keep K1138) (own_M1.x_ad (own_M1.keep H2 K1138 nin0 nin0 nin0 nin0)) (by decide)
  have nc1152 : rl ≠ el := own_exane (u1133_0.keep K1138) (own_M1.x_el (own_M1.keep H2 K1138 nin0 nin0 nin0 nin0)) (by decide)
  have nc1153 : sb ≠ mv := own_exane (u1136_0.keep K1138) (own_M1.x_mv (own_M1.keep H2 K1138 nin0 nin0 nin0 nin0)) (by decide)
  have nc1154 : sb ≠ ad := own_exane (u1136_0.keep K1138) (own_M1.x_ad (own_M1.keep H2 K1138 nin0 nin0 nin0 nin0)) (by decide)
  have nc1155 : sb ≠ el := own_exane (u1136_0.keep K1138) (own_M1.x_el (own_M1.keep H2 K1138 nin0 nin0 nin0 nin0)) (by decide)
  obtain ⟨u1156_0, u1156_1⟩ := id Pq1145_0
  refine zaN X1145 D 14 rfl rfl rfl rfl (zdu X1145 D 15 rfl rfl rfl (zgf X1145 D 16 hZ hown (ow hw 45 rfl) rfl ((u1133_2.keep K1138 nin0).keep K1145 (ninS nc1150 (ninS nc1151 (ninS nc1152 nin0)))) rfl rfl fun T1157 X1157 e1157 => ?_))
  refine zic X1157 D 17 1 rfl rfl rfl (zisub X1157 D 18 _ rfl rfl rfl (zpf X1157 D 19 hZ hown (ow hw 45 rfl) e1157 ((u1133_2.keep K1138 nin0).keep K1145 (ninS nc1150 (ninS nc1151 (ninS nc1152 nin0)))) ((u1133_0.keep K1138).keep K1145) (Or.inl (ow hw 46 rfl)) (ow hw 1 rfl) .int (by decide) rfl rfl rfl rfl fun T1158 h1158 X1158 e1158 W1158 => ?_))
  have N1158 := Fr.snoc X1158 N1145 grl
  have Fw1158 := Fld.same W1158 ((u1133_2.keep K1138 nin0).keep K1145 (ninS nc1150 (ninS nc1151 (ninS nc1152 nin0))))
  have nc1159 : l ≠ rl := own_exane ((u1134_0.keep K1138).keep K1145) ((u1133_0.keep K1138).keep K1145) (by decide)
  have nc1160 : sb ≠ rl := own_exane ((u1136_0.keep K1138).keep K1145) ((u1133_0.keep K1138).keep K1145) (by decide)
  refine za X1158 D 20 rfl rfl rfl rfl ?_
  refine Rch.of (T' := T1158) (g' := (mkF m 90 #[.val (.ref rl), .val (.long p1), .second, .val (.int p2), .val (.ref l)] [.ref sb])) (own_getR X1158 hx hZ hown (ow hw 224 rfl) e1158 (((u1134_1.keep K1138 nin0).keep K1145 (ninS nc1147 (ninS nc1148 (ninS nc1149 nin0)))).other W1158 (Or.inl nc1159)) (g := (mkF m 87 #[.val (.ref rl), .val (.long p1), .second, .val (.int p2), .val (.ref l)] [.ref l])) rfl rfl (D.on 21 rfl)) ?_
  refine zvs X1158 D 22 hZ me59 hown (ow hw 326 rfl) (ow hw 327 rfl) (ow hw 329 rfl) (ow hw 328 rfl) (ow hw 330 rfl) (ow hw 115 rfl) e1158 (((u1136_0.keep K1138).keep K1145).wr W1158) (rnSZ lh Z a0 hw [] sb (0 : Int32) h1158 n0 (Nat.le_trans (Nat.le_trans (Nat.le_trans Z0 K1138.1) K1145.1) (Keep.of_wr W1158).1) (((u1136_2.keep K1138 nin0).keep K1145 (ninS nc1153 (ninS nc1154 (ninS nc1155 nin0)))).other W1158 (Or.inl nc1160))) hml [] [] (lenOf pd_4 rfl) rfl rfl rfl rfl rfl rfl (by decide) (by decide) fun v1161 T1161 L1161 X1161 hQ1161 => ?_
  obtain ⟨rfl, N1161q, hQ1161⟩ := hQ1161
  have N1161 := Fr.app N1158 N1161q
  refine zN X1161 D 23 rfl rfl ((if0 _ _).trans (teq ((by decide) : (0 : Int32) = (0 : Int32))).2) (za X1161 D 24 rfl rfl rfl rfl ?_)
  refine Rch.of (T' := T1161) (g' := (mkF m 101 #[.val (.ref rl), .val (.long p1), .second, .val (.int p2), .val (.ref l)] [.ref mv])) (own_getR X1161 hx hZ hown (ow hw 331 rfl) hQ1161 (((u1134_2.keep K1138 nin0).keep K1145 (ninS nc1147 (ninS nc1148 (ninS nc1149 nin0)))).other W1158 (Or.inl nc1159)) (g := (mkF m 98 #[.val (.ref rl), .val (.long p1), .second, .val (.int p2), .val (.ref l)] [.ref l])) rfl rfl (D.on 25 rfl)) ?_
  refine zvs X1161 D 26 hZ me62 hown (ow hw 332 rfl) (ow hw 333 rfl) (ow hw 335 rfl) (ow hw 334 rfl) (ow hw 336 rfl) (ow hw 140 rfl) hQ1161 (u1156_0.wr W1158) (rnME lh Z a0 hw [] mv (0 : Int32) (1 : Int32) h1158 n0 (Nat.le_trans (Nat.le_trans (Nat.le_trans Z0 K1138.1) K1145.1) (Keep.of_wr W1158).1) (u1156_1.other W1158 (Or.inl (Ne.symm nc1150))) rfl) hml [] [] (lenOf pd_3 rfl) rfl rfl rfl rfl rfl rfl (by decide) (by decide) fun v1162 T1162 L1162 X1162 hQ1162 => ?_
  obtain ⟨rfl, N1162q, hQ1162⟩ := hQ1162
  have N1162 := Fr.app N1161 N1162q
  refine zN X1162 D 27 rfl rfl ((if0 _ _).trans (feq ((by decide) : ¬ ((1 : Int32) = (0 : Int32)))).1) (zaN X1162 D 28 rfl rfl rfl rfl (zgf X1162 D 29 hZ hown (ow hw 38 rfl) hQ1162 (((u1133_1.keep K1138 nin0).keep K1145 (ninS nc1150 (ninS nc1151 (ninS nc1152 nin0)))).other W1158 (Or.inr (sn106 hw))) rfl rfl fun T1163 X1163 e1163 => ?_))
  refine ziN X1163 D 30 rfl rfl rfl  (zst (W := 1) X1163 D 31 hZ me15 hown (ow hw 61 rfl) (ow hw 62 rfl) (ow hw 63 rfl) (ow hw 64 rfl) e1163 (rnVO lh Z a0 hw [] p2 ca yc h1158 n0 (Nat.le_trans (Nat.le_trans (Nat.le_trans Z0 K1138.1) K1145.1) (Keep.of_wr W1158).1) (((O0.keep K1138 all0).keep K1145 (allS gmv (allS gad (allS gel all0)))).wr W1158 grl) SH SCa VCa hca) hml [.int p2] [.ref tm] (lenOf pd_7 rfl) rfl rfl rfl rfl rfl rfl (by decide) (by decide) fun v1164 T1164 L1164 X1164 hQ1164 => ?_)
  obtain ⟨rr1164, rfl, N1164q, hQ1164⟩ := hQ1164
  have N1164 := Fr.app N1162 N1164q
  obtain ⟨K1164, Ex1164, Fa1164⟩ := hQ1164
  have Fb1165 := (own_MQ.keep (own_MQ.keep (own_MQ.keep (own_MQ.keep HM K1138 own_bc0) K1145 Fb1146) (Keep.of_wr W1158) (own_bcS ((u1133_0.keep K1138).keep K1145) (by decide) own_bc0)) K1164 own_bc0)
  have Fb1166 := (own_LN.keep (own_LN.keep (own_LN.keep (own_LN.keep HL K1138 nin0) K1145 (ninS nc1147 (ninS nc1148 (ninS nc1149 nin0)))) (Keep.of_wr W1158) (ninS nc1159 nin0)) K1164 nin0)
  refine zvs X1164 D 32 hZ me38 hown (ow hw 339 rfl) (ow hw 340 rfl) (ow hw 342 rfl) (ow hw 341 rfl) (ow hw 343 rfl) (ow hw 11 rfl) rfl (own_MQ.x_tm Fb1165) (rnRE lh Z a0 hw [] tm rr1164 rc p2 l E T e T1164.heap n0 (Nat.le_trans (Nat.le_trans (Nat.le_trans (Nat.le_trans Z0 K1138.1) K1145.1) (Keep.of_wr W1158).1) K1164.1) Fb1165 ⟨Ex1164, Fa1164⟩ gtm) hml [.ref rr1164] [] (lenOf pd_10 rfl) rfl rfl rfl rfl rfl rfl (by decide) (by decide) fun v1167 T1167 L1167 X1167 hQ1167 => ?_
  obtain ⟨rfl, N1167q, hQ1167⟩ := hQ1167
  have N1167 := Fr.app N1164 N1167q
  obtain ⟨K1167, HT1167⟩ := hQ1167
  have nq1167 := own_MQ.nin Fb1165 ((((u1133_0.keep K1138).keep K1145).wr W1158).keep K1164) (by decide)
  refine zpop X1167 D 33 rfl rfl rfl ?_
  exact Rch.retV X1167 hx hret hlk (D.on 34 rfl) (fun U hU hF => hK _ U _ _ _ (by show Q_rnRC Z rl tm rc z p1 p2 ca yc l e E T sb mv pg na yn ad el ck ym h0 n0 _ U.heap _; rw [hU]; exact ⟨rfl, N1167, (Nat.le_trans (Nat.le_trans (Nat.le_trans (Nat.le_trans (Nat.le_trans Z0 K1138.1) K1145.1) (Keep.of_wr W1158).1) K1164.1) K1167.1), ⟨(((((u1133_0.keep K1138).keep K1145).wr W1158).keep K1164).keep K1167), (((((u1133_1.keep K1138 nin0).keep K1145 (ninS nc1150 (ninS nc1151 (ninS nc1152 nin0)))).other W1158 (Or.inr (sn106 hw))).keep K1164 nin0).keep K1167 nq1167), ((Fw1158.keep K1164 nin0).keep K1167 nq1167)⟩⟩) hF (by decide) (by decide))
def Q_rnRD (Z : State) (rl tm rc : Addr) (z : Int32) (p1 : Int64) (p2 : Int32) (ca : Addr) (yc : Nat → Value) (l e : Addr) (E : List Addr) (T : Heap → Prop) (sb mv pg na pa pp wa : Addr) (yn : Nat → Int64) (s : Int64) (ad el ck : Addr) (ym : Nat → Int64) (h0 : Heap) (n0 : Nat) (vv_ : Option Value) (h : Heap) (LL_ : List Loc) : Prop := vv_ = none ∧ Fr n0 LL_ ∧ (n0 ≤ h.size ∧ own_RL Z h rl tm (z - (1 : Int32)))
theorem rnRD (lh : Launch) (Z : State) (a0 : Array Value) (hw : HW a0 Z) (ws : List Jvm.Cond) (rl tm rc : Addr) (z : Int32) (p1 : Int64) (p2 : Int32) (ca : Addr) (yc : Nat → Value) (l e : Addr) (E : List Addr) (T : Heap → Prop) (sb mv pg na pa pp wa : Addr) (yn : Nat → Int64) (s : Int64) (ad el ck : Addr) (ym : Nat → Int64) (h0 : Heap) (n0 : Nat) (Z0 : n0 ≤ h0.size) (HR : own_RL Z h0 rl tm z) (HM : own_MQ Z h0 tm rc p2 l E T n0 e) (HL : own_LN Z h0 l sb mv) (H1 : own_S1 Z h0 sb pg na pa pp wa s yn) (hne : p1 ≠ s) (H2 : own_M1 Z h0 mv ad el ck p1 ym) (O0 : Old Z n0 h0) (SH : Sta Z Z.heap "java/lang/Integer$IntegerCache" "high" "I" (.int (127 : Int32))) (SCa : Sta Z Z.heap "java/lang/Integer$IntegerCache" "cache" "[Ljava/lang/Integer;" (.ref ca)) (VCa : Av Z Z.heap ca (.object "java/lang/Integer") 256 yc) (hca : ∀ q, q < 256 → ∃ r, yc q = .ref r ∧ Exa Z Z.heap r "java/lang/Integer" ∧ Fld Z Z.heap r "java/lang/Integer" "value" "I" (.int (Int32.ofNat q - (128 : Int32)))) (grl : n0 ≤ rl) (gmv : n0 ≤ mv) (gad : n0 ≤ ad) (gel : n0 ≤ el) :
    MF lh Z me71 (.code me71 prog_56_method_8_code 5 none) ws ⟨8, 1, 1, 114⟩ #[.ref rl, .long p1, .int p2] h0 (Q_rnRD Z rl tm rc z p1 p2 ca yc l e E T sb mv pg na pa pp wa yn s ad el ck ym h0 n0) := by
  refine own_met (y := me71) (plainFor_of_name pn_15) ?_
  intro p ev sT m below meth c T0 K hx hby hml hret hlk hown hnm hZ X0 e0 hK
  have N0 := Fr.nil n0
  have D : DB p c Ld68 := DB.of hx hby d68
  refine Rch.cast (g' := mkF m 0 #[.val (.ref rl), .val (.long p1), .second, .val (.int p2), .unset] []) (by first | rfl | simp [entryFrame, mkF, argsToLocals, Value.category]) ?_
  obtain ⟨u1168_0, u1168_1, u1168_2⟩ := id HR
  obtain ⟨u1169_0, u1169_1, u1169_2⟩ := id HL
  have kn1170 : (lcmpW p1 p1) = (0 : Int32) := (lw_eq _ _).mpr rfl
  obtain ⟨u1171_0, u1171_1, u1171_2, u1171_3, u1171_4, u1171_5, u1171_6, u1171_7, u1171_8, u1171_9, u1171_10⟩ := id H1
  refine zaN X0 D 0 rfl rfl rfl rfl (zgf X0 D 1 hZ hown (ow hw 38 rfl) e0 u1168_1 rfl rfl fun T1172 X1172 e1172 => ?_)
  refine ziN X1172 D 2 rfl rfl rfl  (zst (W := 1) X1172 D 3 hZ me15 hown (ow hw 61 rfl) (ow hw 62 rfl) (ow hw 63 rfl) (ow hw 64 rfl) e1172 (rnVO lh Z a0 hw [] p2 ca yc h0 n0 Z0 O0 SH SCa VCa hca) hml [.int p2] [.ref tm] (lenOf pd_7 rfl) rfl rfl rfl rfl rfl rfl (by decide) (by decide) fun v1173 T1173 L1173 X1173 hQ1173 => ?_)
  obtain ⟨rr1173, rfl, N1173q, hQ1173⟩ := hQ1173
  have N1173 := Fr.app N0 N1173q
  obtain ⟨K1173, Ex1173, Fa1173⟩ := hQ1173
  refine zvs X1173 D 4 hZ me37 hown (ow hw 291 rfl) (ow hw 292 rfl) (ow hw 294 rfl) (ow hw 293 rfl) (ow hw 295 rfl) (ow hw 11 rfl) rfl (own_MQ.x_tm (own_MQ.keep HM K1173 own_bc0)) (rnGG lh Z a0 hw [] tm rr1173 rc p2 l E T e T1173.heap n0 (Nat.le_trans Z0 K1173.1) (own_MQ.keep HM K1173 own_bc0) ⟨Ex1173, Fa1173⟩) hml [.ref rr1173] [] (lenOf pd_10 rfl) rfl rfl rfl rfl rfl rfl (by decide) (by decide) fun v1174 T1174 L1174 X1174 hQ1174 => ?_
  obtain ⟨rfl, N1174q, hQ1174⟩ := hQ1174
  have N1174 := Fr.app N1173 N1174q
  obtain ⟨T1175, X1175, e1175, st1175⟩ := castY X1174 hx hZ hown (ow hw 106 rfl) hQ1174 (Ins.of_exa (u1169_0.keep K1173) (ow hw 223 rfl)) (g := (mkF m 11 #[.val (.ref rl), .val (.long p1), .second, .val (.int p2), .unset] [.ref l])) rfl rfl (D.on 5 rfl)
  refine Rch.of (T' := T1175) (g' := (mkF m 14 #[.val (.ref rl), .val (.long p1), .second, .val (.int p2), .unset] [.ref l])) st1175 ?_
  refine zas X1175 D 6 (l' := #[.val (.ref rl), .val (.long p1), .second, .val (.int p2), .val (.ref l)]) rfl rfl rfl rfl (za X1175 D 7 rfl rfl rfl rfl (zifnonnullYes X1175 D 8 26 rfl rfl rfl (za X1175 D 9 rfl rfl rfl rfl ?_)))
  refine Rch.of (T' := T1175) (g' := (mkF m 31 #[.val (.ref rl), .val (.long p1), .second, .val (.int p2), .val (.ref l)] [.ref sb])) (own_getR X1175 hx hZ hown (ow hw 224 rfl) e1175 (u1169_1.keep K1173 nin0) (g := (mkF m 28 #[.val (.ref rl), .val (.long p1), .second, .val (.int p2), .val (.ref l)] [.ref l])) rfl rfl (D.on 10 rfl)) ?_
  refine zlN X1175 D 11 rfl rfl rfl  (zvs X1175 D 12 hZ me61 hown (ow hw 308 rfl) (ow hw 309 rfl) (ow hw 311 rfl) (ow hw 310 rfl) (ow hw 312 rfl) (ow hw 115 rfl) e1175 (u1171_0.keep K1173) (rnS2 lh Z a0 hw [] sb pg na pa pp wa s yn p1 T1173.heap n0 (Nat.le_trans Z0 K1173.1) (own_S1.keep H1 K1173 nin0 nin0 nin0 nin0 nin0 nin0) hne) hml [.long p1] [] (lenOf pd_28 rfl) rfl rfl rfl rfl rfl rfl (by decide) (by decide) fun v1176 T1176 L1176 X1176 hQ1176 => ?_)
  obtain ⟨rfl, N1176q, hQ1176⟩ := hQ1176
  have N1176 := Fr.app N1174 N1176q
  refine zN X1176 D 13 rfl rfl ((if0 _ _).trans (teq ((by decide) : (0 : Int32) = (0 : Int32))).2) ?_
  obtain ⟨u1177_0, u1177_1, u1177_2, u1177_3, u1177_4, u1177_5, u1177_6, u1177_7, u1177_8, u1177_9, u1177_10, u1177_11, u1177_12, u1177_13, u1177_14, u1177_15, u1177_16, u1177_17⟩ := id (own_M1.keep H2 K1173 nin0 nin0 nin0 nin0)
  refine za X1176 D 35 rfl rfl rfl rfl ?_
  refine Rch.of (T' := T1176) (g' := (mkF m 43 #[.val (.ref rl), .val (.long p1), .second, .val (.int p2), .val (.ref l)] [.ref mv])) (own_getR X1176 hx hZ hown (ow hw 331 rfl) hQ1176 (u1169_2.keep K1173 nin0) (g := (mkF m 40 #[.val (.ref rl), .val (.long p1), .second, .val (.int p2), .val (.ref l)] [.ref l])) rfl rfl (D.on 36 rfl)) ?_
  refine zvs X1176 D 37 hZ me62 hown (ow hw 332 rfl) (ow hw 333 rfl) (ow hw 335 rfl) (ow hw 334 rfl) (ow hw 336 rfl) (ow hw 140 rfl) hQ1176 u1177_0 (rnME lh Z a0 hw [] mv (1 : Int32) (0 : Int32) T1173.heap n0 (Nat.le_trans Z0 K1173.1) u1177_5 rfl) hml [] [] (lenOf pd_3 rfl) rfl rfl rfl rfl rfl rfl (by decide) (by decide) fun v1178 T1178 L1178 X1178 hQ1178 => ?_
  obtain ⟨rfl, N1178q, hQ1178⟩ := hQ1178
  have N1178 := Fr.app N1176 N1178q
  refine zN X1178 D 38 rfl rfl ((if0 _ _).trans (teq ((by decide) : (0 : Int32) = (0 : Int32))).2) (za X1178 D 39 rfl rfl rfl rfl ?_)
  refine Rch.of (T' := T1178) (g' := (mkF m 54 #[.val (.ref rl), .val (.long p1), .second, .val (.int p2), .val (.ref l)] [.ref mv])) (own_getR X1178 hx hZ hown (ow hw 331 rfl) hQ1178 (u1169_2.keep K1173 nin0) (g := (mkF m 51 #[.val (.ref rl), .val (.long p1), .second, .val (.int p2), .val (.ref l)] [.ref l])) rfl rfl (D.on 40 rfl)) ?_
  refine zvs X1178 D 41 hZ me65 hown (ow hw 394 rfl) (ow hw 395 rfl) (ow hw 397 rfl) (ow hw 396 rfl) (ow hw 398 rfl) (ow hw 140 rfl) hQ1178 (own_M1.x_mv (own_M1.keep H2 K1173 nin0 nin0 nin0 nin0)) (rnMF lh Z a0 hw [] mv ad el ck p1 ym T1173.heap n0 (Nat.le_trans Z0 K1173.1) (own_M1.keep H2 K1173 nin0 nin0 nin0 nin0)) hml [] [] (lenOf pd_35 rfl) rfl rfl rfl rfl rfl rfl (by decide) (by decide) fun v1179 T1179 L1179 X1179 hQ1179 => ?_
  obtain ⟨rfl, N1179q, hQ1179⟩ := hQ1179
  have N1179 := Fr.app N1178 N1179q
  refine zlN X1179 D 42 rfl rfl rfl  (zlcmp X1179 D 43 _ rfl rfl rfl (zY X1179 D 44 67 rfl rfl ((if0 _ _).trans (teq kn1170).1) rfl (za X1179 D 45 rfl rfl rfl rfl ?_)))
  refine Rch.of (T' := T1179) (g' := (mkF m 72 #[.val (.ref rl), .val (.long p1), .second, .val (.int p2), .val (.ref l)] [.ref mv])) (own_getR X1179 hx hZ hown (ow hw 331 rfl) hQ1179 (u1169_2.keep K1173 nin0) (g := (mkF m 69 #[.val (.ref rl), .val (.long p1), .second, .val (.int p2), .val (.ref l)] [.ref l])) rfl rfl (D.on 46 rfl)) ?_
  refine zvs X1179 D 47 hZ me66 hown (ow hw 410 rfl) (ow hw 411 rfl) (ow hw 413 rfl) (ow hw 412 rfl) (ow hw 414 rfl) (ow hw 140 rfl) hQ1179 (own_M1.x_mv (own_M1.keep H2 K1173 nin0 nin0 nin0 nin0)) (rnMR lh Z a0 hw [] mv ad el ck p1 ym T1173.heap n0 (Nat.le_trans Z0 K1173.1) (own_M1.keep H2 K1173 nin0 nin0 nin0 nin0) gmv gad gel) hml [] [] (lenOf pd_0 rfl) rfl rfl rfl rfl rfl rfl (by decide) (by decide) fun v1180 T1180 L1180 X1180 hQ1180 => ?_
  obtain ⟨rfl, N1180q, hQ1180⟩ := hQ1180
  have N1180 := Fr.app N1179 N1180q
  obtain ⟨K1180, Pq1180_0⟩ := hQ1180
  have Fb1181 := (own_bcS (own_M1.x_mv (own_M1.keep H2 K1173 nin0 nin0 nin0 nin0)) (by decide) (own_bcS (own_M1.x_ad (own_M1.keep H2 K1173 nin0 nin0 nin0 nin0)) (by decide) (own_bcS (own_M1.x_el (own_M1.keep H2 K1173 nin0 nin0 nin0 nin0)) (by decide) own_bc0)))
  have nc1182 : l ≠ mv := own_exane (u1169_0.keep K1173) (own_M1.x_mv (own_M1.keep H2 K1173 nin0 nin0 nin0 nin0)) (by decide)
  have nc1183 : l ≠ ad := own_exane (u1169_0.keep K1173) (own_M1.x_ad (own_M1.keep H2 K1173 nin0 nin0 nin0 nin0)) (by decide)
  have nc1184 : l ≠ el := own_exane (u1169_0.keep K1173) (own_M1.x_el (own_M1.keep H2 K1173 nin0 nin0 nin0 nin0)) (by decide)
  have nc1185 : rl ≠ mv := own_exane (u1168_0.keep K1173) (own_M1.x_mv (own_M1.keep H2 K1173 nin0 nin0 nin0 nin0)) (by decide)
  have nc1186 : rl ≠ ad := own_exane (u1168_0.keep K1173) (own_M1.x_ad (own_M1.keep H2 K1173 nin0 nin0 nin0 nin0)) (by decide)
  have nc1187 : rl ≠ el := own_exane (u1168_0.keep K1173) (own_M1.x_el (own_M1.keep H2 K1173 nin0 nin0 nin0 nin0)) (by decide)
  have nc1188 : sb ≠ mv := own_exane (u1171_0.keep K1173) (own_M1.x_mv (own_M1.keep H2 K1173 nin0 nin0 nin0 nin0)) (by decide)
  have nc1189 : sb ≠ ad := own_exane (u1171_0.keep K1173) (own_M1.x_ad (own_M1.keep H2 K1173 nin0 nin0 nin0 nin0)) (by decide)
  have nc1190 : sb ≠ el := own_exane (u1171_0.keep K1173) (own_M1.x_el (own_M1.keep H2 K1173 nin0 nin0 nin0 nin0)) (by decide)
  obtain ⟨u1191_0, u1191_1⟩ := id Pq1180_0
  refine zaN X1180 D 14 rfl rfl rfl rfl (zdu X1180 D 15 rfl rfl rfl (zgf X1180 D 16 hZ hown (ow hw 45 rfl) rfl ((u1168_2.keep K1173 nin0).keep K1180 (ninS nc1185 (ninS nc1186 (ninS nc1187 nin0)))) rfl rfl fun T1192 X1192 e1192 => ?_))
  refine zic X1192 D 17 1 rfl rfl rfl (zisub X1192 D 18 _ rfl rfl rfl (zpf X1192 D 19 hZ hown (ow hw 45 rfl) e1192 ((u1168_2.keep K1173 nin0).keep K1180 (ninS nc1185 (ninS nc1186 (ninS nc1187 nin0)))) ((u1168_0.keep K1173).keep K1180) (Or.inl (ow hw 46 rfl)) (ow hw 1 rfl) .int (by decide) rfl rfl rfl rfl fun T1193 h1193 X1193 e1193 W1193 => ?_))
  have N1193 := Fr.snoc X1193 N1180 grl
  have Fw1193 := Fld.same W1193 ((u1168_2.keep K1173 nin0).keep K1180 (ninS nc1185 (ninS nc1186 (ninS nc1187 nin0))))
  have nc1194 : l ≠ rl := own_exane ((u1169_0.keep K1173).keep K1180) ((u1168_0.keep K1173).keep K1180) (by decide)
  have nc1195 : sb ≠ rl := own_exane ((u1171_0.keep K1173).keep K1180) ((u1168_0.keep K1173).keep K1180) (by decide)
  refine za X1193 D 20 rfl rfl rfl rfl ?_
  refine Rch.of (T' := T1193) (g' := (mkF m 90 #[.val (.ref rl), .val (.long p1), .second, .val (.int p2), .val (.ref l)] [.ref sb])) (own_getR X1193 hx hZ hown (ow hw 224 rfl) e1193 (((u1169_1.keep K1173 nin0).keep K1180 (ninS nc1182 (ninS nc1183 (ninS nc1184 nin0)))).other W1193 (Or.inl nc1194)) (g := (mkF m 87 #[.val (.ref rl), .val (.long p1), .second, .val (.int p2), .val (.ref l)] [.ref l])) rfl rfl (D.on 21 rfl)) ?_
  refine zvs X1193 D 22 hZ me59 hown (ow hw 326 rfl) (ow hw 327 rfl) (ow hw 329 rfl) (ow hw 328 rfl) (ow hw 330 rfl) (ow hw 115 rfl) e1193 (((u1171_0.keep K1173).keep K1180).wr W1193) (rnSZ lh Z a0 hw [] sb (1 : Int32) h1193 n0 (Nat.le_trans (Nat.le_trans (Nat.le_trans Z0 K1173.1) K1180.1) (Keep.of_wr W1193).1) (((u1171_2.keep K1173 nin0).keep K1180 (ninS nc1188 (ninS nc1189 (ninS nc1190 nin0)))).other W1193 (Or.inl nc1195))) hml [] [] (lenOf pd_4 rfl) rfl rfl rfl rfl rfl rfl (by decide) (by decide) fun v1196 T1196 L1196 X1196 hQ1196 => ?_
  obtain ⟨rfl, N1196q, hQ1196⟩ := hQ1196
  have N1196 := Fr.app N1193 N1196q
  refine zY X1196 D 23 119 rfl rfl ((if0 _ _).trans (feq ((by decide) : ¬ ((1 : Int32) = (0 : Int32)))).2) rfl ?_
  exact Rch.retV X1196 hx hret hlk (D.on 34 rfl) (fun U hU hF => hK _ U _ _ _ (by show Q_rnRD Z rl tm rc z p1 p2 ca yc l e E T sb mv pg na pa pp wa yn s ad el ck ym h0 n0 _ U.heap _; rw [hU, hQ1196]; exact ⟨rfl, N1196, (Nat.le_trans (Nat.le_trans (Nat.le_trans Z0 K1173.1) K1180.1) (Keep.of_wr W1193).1), ⟨(((u1168_0.keep K1173).keep K1180).wr W1193), (((u1168_1.keep K1173 nin0).keep K1180 (ninS nc1185 (ninS nc1186 (ninS nc1187 nin0)))).other W1193 (Or.inr (sn106 hw))), Fw1193⟩⟩) hF (by decide) (by decide))
theorem own_succ_ne (x : Int64) : x + (1 : Int64) ≠ x := fun h => by
  have q := congrArg (fun t => t - x) h
  simp only [Int64.sub_self] at q
  rw [Int64.add_comm, Int64.add_sub_cancel] at q
  exact absurd q (by decide)
theorem pn_18 : plainName "com/example/kept_till_acked/kepttillacked/queue/ReadyLineIsEmptyPinLaw" = true := by first | (simp [plainName, overriddenIn]; done) | decide +kernel
theorem ef_rm0 (m : MethodId) (p0 : Int32) (p1 p2 : Int64) (p3 p4 : Int32) (p5 : Int64) : entryFrame m #[.int p0, .long p1, .long p2, .int p3, .int p4, .long p5] maxLocals = mkF m 0 #[.val (.int p0), .val (.long p1), .second, .val (.long p2), .second, .val (.int p3), .val (.int p4), .val (.long p5), .second, .unset, .unset, .unset, .unset, .unset, .unset, .unset, .unset, .unset, .unset, .unset] [] := by first | (simp [entryFrame, mkF, argsToLocals, Value.category, maxLocals]; done) | rfl
def Q_rm0 (Z : State) (p0 : Int32) (p1 p2 : Int64) (p3 p4 : Int32) (p5 : Int64) (rc ca : Addr) (yc : Nat → Value) (h0 : Heap) (n0 : Nat) (vv_ : Option Value) (h : Heap) (LL_ : List Loc) : Prop := vv_ = some (.int 1) ∧ Fr n0 LL_ ∧ (True)
def Ld69 : List (Nat × Instr × Nat) := [(169, .aload 13, 2), (171, .invokevirtual 10, 3), (174, .istore 18, 2), (176, .aload 13, 2), (178, .invokevirtual 25, 3), (181, .ifCond .ne 7, 3), (184, .iconst 1, 1), (185, .goto 4, 3), (189, .istore 19, 2), (191, .iload 14, 2), (193, .ifCond .eq 44, 3), (196, .iload 16, 2), (198, .iload 15, 2), (200, .ifCond .ne 7, 3), (203, .iconst 1, 1), (204, .goto 4, 3), (208, .if_icmp .ne 29, 3), (211, .iload 18, 2), (213, .iload 17, 2), (215, .ifCond .ne 7, 3), (218, .iconst 1, 1), (219, .goto 4, 3), (223, .if_icmp .ne 14, 3), (226, .iload 18, 2), (228, .iload 19, 2), (230, .if_icmp .ne 7, 3), (233, .iconst 1, 1), (234, .goto 4, 3), (238, .ireturn, 1), (207, .iconst 0, 1), (188, .iconst 0, 1), (222, .iconst 0, 1), (73, .new 7, 3), (76, .dup, 1), (77, .invokespecial 9, 3), (80, .astore 13, 2), (82, .aload 13, 2), (84, .invokevirtual 10, 3), (87, .istore 14, 2), (89, .iconst 0, 1), (90, .istore 15, 2), (92, .iload 9, 2), (94, .ifCond .eq 14, 3), (108, .iload 10, 2), (110, .ifCond .eq 16, 3), (126, .aload 13, 2), (128, .invokevirtual 10, 3), (131, .istore 16, 2), (133, .iload 15, 2), (135, .istore 17, 2), (137, .iload 11, 2), (139, .ifCond .eq 14, 3), (153, .iload 12, 2), (155, .ifCond .eq 14, 3), (113, .aload 13, 2), (115, .lload_n 3, 1), (116, .iload 6, 2), (118, .lload 7, 2), (120, .invokevirtual 18, 3), (123, .iinc 15 1, 3), (158, .aload 13, 2), (160, .lload_n 3, 1), (161, .iload 6, 2), (163, .invokevirtual 22, 3), (166, .iinc 17 (-1), 3), (97, .aload 13, 2), (99, .lload_n 1, 1), (100, .iload 5, 2), (102, .invokevirtual 14, 3), (105, .iinc 15 1, 3), (142, .aload 13, 2), (144, .lload_n 1, 1), (145, .iload 5, 2), (147, .invokevirtual 22, 3), (150, .iinc 17 (-1), 3), (10, .iload_n 0, 1), (11, .iconst 1, 1), (12, .iand, 1), (13, .ifCond .eq 7, 3), (20, .iconst 0, 1), (21, .istore 9, 2), (23, .iload_n 0, 1), (24, .iconst 2, 1), (25, .iand, 1), (26, .ifCond .eq 7, 3), (33, .iconst 0, 1), (34, .istore 10, 2), (36, .iload 9, 2), (38, .ifCond .eq 13, 3), (51, .iconst 0, 1), (52, .istore 11, 2), (54, .iload 10, 2), (56, .ifCond .eq 14, 3), (70, .iconst 0, 1), (71, .istore 12, 2), (29, .iconst 1, 1), (30, .goto 4, 3), (59, .iload_n 0, 1), (60, .bipush 8, 2), (62, .iand, 1), (63, .ifCond .eq 7, 3), (66, .iconst 1, 1), (67, .goto 4, 3), (16, .iconst 1, 1), (17, .goto 4, 3), (41, .iload_n 0, 1), (42, .iconst 4, 1), (43, .iand, 1), (44, .ifCond .eq 7, 3), (47, .iconst 1, 1), (48, .goto 4, 3), (0, .lload_n 3, 1), (1, .lload_n 1, 1), (2, .lcmp, 1), (3, .ifCond .ne 7, 3), (6, .lload_n 1, 1), (7, .lconst 1, 1), (8, .ladd, 1), (9, .lstore_n 3, 1)]
theorem d69 : ∀ q ∈ Ld69, decode code q.1 = .ok q.2 := by decide +kernel
theorem rm0 (lh : Launch) (Z : State) (a0 : Array Value) (hw : ∀ d ∈ tables_1, d.before a0 Z = true) (ws : List Jvm.Cond) (p0 : Int32) (p1 p2 : Int64) (p3 p4 : Int32) (p5 : Int64) (rc ca : Addr) (yc : Nat → Value) (h0 : Heap) (n0 : Nat) (Z0 : n0 ≤ h0.size) (O0 : Old Z n0 h0) (SH : Sta Z Z.heap "java/lang/Integer$IntegerCache" "high" "I" (.int (127 : Int32))) (SCa : Sta Z Z.heap "java/lang/Integer$IntegerCache" "cache" "[Ljava/lang/Integer;" (.ref ca)) (VCa : Av Z Z.heap ca (.object "java/lang/Integer") 256 yc) (hca : ∀ q, q < 256 → ∃ r, yc q = .ref r ∧ Exa Z Z.heap r "java/lang/Integer" ∧ Fld Z Z.heap r "java/lang/Integer" "value" "I" (.int (Int32.ofNat q - (128 : Int32)))) (SRO : Sta Z Z.heap "java/util/Collections$ReverseComparator" "REVERSE_ORDER" "Ljava/util/Collections$ReverseComparator;" (.ref rc)) (ERC : Exa Z Z.heap rc "java/util/Collections$ReverseComparator") :
    MetFree lh x (head1 (Jvm.Cond.code x code maxLocals ret :: ws) room_1) (fun aa_ UU_ => aa_ = #[.int p0, .long p1, .long p2, .int p3, .int p4, .long p5] ∧ Z.Warmed39 UU_.vm ∧ UU_.heap = h0) (fun _ _ _ _ _ => True) (fun _ UU_ oo_ VV_ => ∃ vv_ LL_, oo_ = .returned vv_ ∧ Q_rm0 Z p0 p1 p2 p3 p4 p5 rc ca yc h0 n0 vv_ VV_.heap LL_ ∧ FrameEnd UU_ oo_ VV_ LL_ room_1.cells room_1.slots) := by
  refine own_met (y := x) (plainFor_of_name pn_18) ?_
  intro p ev sT m below meth c T0 K hx hby hml hret hlk hown hnm hZ X0 e0 hK
  have N0 := Fr.nil n0
  have D : DB p c Ld69 := DB.of hx hby d69
  refine Rch.cast (ef_rm0 m p0 p1 p2 p3 p4 p5) ?_
  have J1 : ∀ t : Int64, t ≠ p1 → Rch p ev below K T0 (mkF m 10 #[.val (.int p0), .val (.long p1), .second, .val (.long t), .second, .val (.int p3), .val (.int p4), .val (.long p5), .second, .unset, .unset, .unset, .unset, .unset, .unset, .unset, .unset, .unset, .unset, .unset] []) := by
    intro t hts
    have J2 : ∀ a b r q : Int32, (a = 0 → r = 0) → (b = 0 → q = 0) → Rch p ev below K T0 (mkF m 73 #[.val (.int p0), .val (.long p1), .second, .val (.long t), .second, .val (.int p3), .val (.int p4), .val (.long p5), .second, .val (.int a), .val (.int b), .val (.int r), .val (.int q), .unset, .unset, .unset, .unset, .unset, .unset, .unset] []) := by
      intro a b r q hr hq
      have J3 : ∀ (T : State) (L : List Loc) (X : Stand p lh ev room_1 sT m #[.int p0, .long p1, .long p2, .int p3, .int p4, .long p5] below meth c T L 72 448) (h : Heap) (eT : T.heap = h) (N : Fr n0 L) (Zh : n0 ≤ h.size) (rl tm : Addr) (z ad : Int32) (HR : own_RL Z h rl tm z), Rch p ev below K T (mkF m 169 #[.val (.int p0), .val (.long p1), .second, .val (.long t), .second, .val (.int p3), .val (.int p4), .val (.long p5), .second, .val (.int a), .val (.int b), .val (.int r), .val (.int q), .val (.ref rl), .val (.int (1 : Int32)), .val (.int ad), .val (.int (if ad = (0 : Int32) then (1 : Int32) else 0)), .val (.int z), .unset, .unset] []) := by
        intro T L X h eT N Zh rl tm z ad HR
        refine za X D 0 rfl rfl rfl rfl (zvs X D 1 hZ me63 hown (ow hw 40 rfl) (ow hw 41 rfl) (ow hw 43 rfl) (ow hw 42 rfl) (ow hw 44 rfl) (ow hw 2 rfl) eT (own_RL.x_rl HR) (rnRE0 lh Z a0 hw [] rl tm z (if z = (0 : Int32) then (1 : Int32) else 0) h n0 Zh HR rfl) hml [] [] (lenOf pd_3 rfl) rfl rfl rfl rfl rfl rfl (by decide) (by decide) fun v1197 T1197 L1197 X1197 hQ1197 => ?_)
        obtain ⟨rfl, N1197q, hQ1197⟩ := hQ1197
        have N1197 := Fr.app N N1197q
        refine zis X1197 D 2 (l' := #[.val (.int p0), .val (.long p1), .second, .val (.long t), .second, .val (.int p3), .val (.int p4), .val (.long p5), .second, .val (.int a), .val (.int b), .val (.int r), .val (.int q), .val (.ref rl), .val (.int (1 : Int32)), .val (.int ad), .val (.int (if ad = (0 : Int32) then (1 : Int32) else 0)), .val (.int z), .val (.int (if z = (0 : Int32) then (1 : Int32) else 0)), .unset]) rfl rfl rfl (za X1197 D 3 rfl rfl rfl rfl (zvs X1197 D 4 hZ me68 hown (ow hw 47 rfl) (ow hw 48 rfl) (ow hw 50 rfl) (ow hw 49 rfl) (ow hw 51 rfl) (ow hw 2 rfl) hQ1197 (own_RL.x_rl HR) (rnRS lh Z a0 hw [] rl tm z h n0 Zh HR) hml [] [] (lenOf pd_4 rfl) rfl rfl rfl rfl rfl rfl (by decide) (by decide) fun v1198 T1198 L1198 X1198 hQ1198 => ?_))
        obtain ⟨rfl, N1198q, hQ1198⟩ := hQ1198
        have N1198 := Fr.app N1197 N1198q
        by_cases c1199 : z = (0 : Int32)
        · skip
          refine zN X1198 D 5 rfl rfl ((if0 _ _).trans (teq c1199).2) ?_
          have sw1200 : (if z = (0 : Int32) then (1 : Int32) else 0) = (1 : Int32) := if_pos c1199
          show Rch p ev below K T1198 (mkF m 184 #[.val (.int p0), .val (.long p1), .second, .val (.long t), .second, .val (.int p3), .val (.int p4), .val (.long p5), .second, .val (.int a), .val (.int b), .val (.int r), .val (.int q), .val (.ref rl), .val (.int (1 : Int32)), .val (.int ad), .val (.int (if ad = (0 : Int32) then (1 : Int32) else 0)), .val (.int z), .val (.int (if z = (0 : Int32) then (1 : Int32) else 0)), .unset] [])
          rw [sw1200]
          show Rch p ev below K T1198 (mkF m 184 #[.val (.int p0), .val (.long p1), .second, .val (.long t), .second, .val (.int p3), .val (.int p4), .val (.long p5), .second, .val (.int a), .val (.int b), .val (.int r), .val (.int q), .val (.ref rl), .val (.int (1 : Int32)), .val (.int ad), .val (.int (if ad = (0 : Int32) then (1 : Int32) else 0)), .val (.int z), .val (.int (1 : Int32)), .unset] [])
          refine zic X1198 D 6 1 rfl rfl rfl (zgo X1198 D 7 189 rfl rfl rfl (zis X1198 D 8 (l' := #[.val (.int p0), .val (.long p1), .second, .val (.long t), .second, .val (.int p3), .val (.int p4), .val (.long p5), .second, .val (.int a), .val (.int b), .val (.int r), .val (.int q), .val (.ref rl), .val (.int (1 : Int32)), .val (.int ad), .val (.int (if ad = (0 : Int32) then (1 : Int32) else 0)), .val (.int z), .val (.int (1 : Int32)), .val (.int (1 : Int32))]) rfl rfl rfl (zi X1198 D 9 rfl rfl rfl  (zN X1198 D 10 rfl rfl ((if0 _ _).trans (feq ((by decide) : ¬ ((1 : Int32) = (0 : Int32)))).1) (zi X1198 D 11 rfl rfl rfl  (zi X1198 D 12 rfl rfl rfl  ?_))))))
          by_cases c1201 : ad = (0 : Int32)
          · skip
            refine zN X1198 D 13 rfl rfl ((if0 _ _).trans (teq c1201).2) ?_
            have sw1202 : (if ad = (0 : Int32) then (1 : Int32) else 0) = (1 : Int32) := if_pos c1201
            show Rch p ev below K T1198 (mkF m 203 #[.val (.int p0), .val (.long p1), .second, .val (.long t), .second, .val (.int p3), .val (.int p4), .val (.long p5), .second, .val (.int a), .val (.int b), .val (.int r), .val (.int q), .val (.ref rl), .val (.int (1 : Int32)), .val (.int ad), .val (.int (if ad = (0 : Int32) then (1 : Int32) else 0)), .val (.int z), .val (.int (1 : Int32)), .val (.int (1 : Int32))] [.int (if ad = (0 : Int32) then (1 : Int32) else 0)])
            rw [sw1202]
            show Rch p ev below K T1198 (mkF m 203 #[.val (.int p0), .val (.long p1), .second, .val (.long t), .second, .val (.int p3), .val (.int p4), .val (.long p5), .second, .val (.int a), .val (.int b), .val (.int r), .val (.int q), .val (.ref rl), .val (.int (1 : Int32)), .val (.int ad), .val (.int (1 : Int32)), .val (.int z), .val (.int (1 : Int32)), .val (.int (1 : Int32))] [.int (1 : Int32)])
            refine zic X1198 D 14 1 rfl rfl rfl (zgo X1198 D 15 208 rfl rfl rfl (zcN X1198 D 16 rfl rfl (teq ((by decide) : (1 : Int32) = (1 : Int32))).2 (zi X1198 D 17 rfl rfl rfl  (zi X1198 D 18 rfl rfl rfl  (zN X1198 D 19 rfl rfl ((if0 _ _).trans (teq c1199).2) (zic X1198 D 20 1 rfl rfl rfl (zgo X1198 D 21 223 rfl rfl rfl (zcN X1198 D 22 rfl rfl (teq ((by decide) : (1 : Int32) = (1 : Int32))).2 (zi X1198 D 23 rfl rfl rfl  (zi X1198 D 24 rfl rfl rfl  (zcN X1198 D 25 rfl rfl (teq ((by decide) : (1 : Int32) = (1 : Int32))).2 (zic X1198 D 26 1 rfl rfl rfl (zgo X1198 D 27 238 rfl rfl rfl ?_)))))))))))))
            exact Rch.retN X1198 hx (t := .boolean) hret (by simp) hlk (D.on 28 rfl) (fun U hU hF => hK _ U _ _ _ (by show Q_rm0 Z p0 p1 p2 p3 p4 p5 rc ca yc h0 n0 _ U.heap _; rw [hU, hQ1198]; exact ⟨rfl, N1198, trivial⟩) hF (by decide) (by decide))
          · skip
            refine zY X1198 D 13 207 rfl rfl ((if0 _ _).trans (feq c1201).2) rfl ?_
            have sw1203 : (if ad = (0 : Int32) then (1 : Int32) else 0) = (0 : Int32) := if_neg c1201
            show Rch p ev below K T1198 (mkF m 207 #[.val (.int p0), .val (.long p1), .second, .val (.long t), .second, .val (.int p3), .val (.int p4), .val (.long p5), .second, .val (.int a), .val (.int b), .val (.int r), .val (.int q), .val (.ref rl), .val (.int (1 : Int32)), .val (.int ad), .val (.int (if ad = (0 : Int32) then (1 : Int32) else 0)), .val (.int z), .val (.int (1 : Int32)), .val (.int (1 : Int32))] [.int (if ad = (0 : Int32) then (1 : Int32) else 0)])
            rw [sw1203]
            show Rch p ev below K T1198 (mkF m 207 #[.val (.int p0), .val (.long p1), .second, .val (.long t), .second, .val (.int p3), .val (.int p4), .val (.long p5), .second, .val (.int a), .val (.int b), .val (.int r), .val (.int q), .val (.ref rl), .val (.int (1 : Int32)), .val (.int ad), .val (.int (0 : Int32)), .val (.int z), .val (.int (1 : Int32)), .val (.int (1 : Int32))] [.int (0 : Int32)])
            refine zic X1198 D 29 0 rfl rfl rfl (zcN X1198 D 16 rfl rfl (teq ((by decide) : (0 : Int32) = (0 : Int32))).2 (zi X1198 D 17 rfl rfl rfl  (zi X1198 D 18 rfl rfl rfl  (zN X1198 D 19 rfl rfl ((if0 _ _).trans (teq c1199).2) (zic X1198 D 20 1 rfl rfl rfl (zgo X1198 D 21 223 rfl rfl rfl (zcN X1198 D 22 rfl rfl (teq ((by decide) : (1 : Int32) = (1 : Int32))).2 (zi X1198 D 23 rfl rfl rfl  (zi X1198 D 24 rfl rfl rfl  (zcN X1198 D 25 rfl rfl (teq ((by decide) : (1 : Int32) = (1 : Int32))).2 (zic X1198 D 26 1 rfl rfl rfl (zgo X1198 D 27 238 rfl rfl rfl ?_))))))))))))
            exact Rch.retN X1198 hx (t := .boolean) hret (by simp) hlk (D.on 28 rfl) (fun U hU hF => hK _ U _ _ _ (by show Q_rm0 Z p0 p1 p2 p3 p4 p5 rc ca yc h0 n0 _ U.heap _; rw [hU, hQ1198]; exact ⟨rfl, N1198, trivial⟩) hF (by decide) (by decide))
        · skip
          refine zY X1198 D 5 188 rfl rfl ((if0 _ _).trans (feq c1199).2) rfl ?_
          have sw1204 : (if z = (0 : Int32) then (1 : Int32) else 0) = (0 : Int32) := if_neg c1199
          show Rch p ev below K T1198 (mkF m 188 #[.val (.int p0), .val (.long p1), .second, .val (.long t), .second, .val (.int p3), .val (.int p4), .val (.long p5), .second, .val (.int a), .val (.int b), .val (.int r), .val (.int q), .val (.ref rl), .val (.int (1 : Int32)), .val (.int ad), .val (.int (if ad = (0 : Int32) then (1 : Int32) else 0)), .val (.int z), .val (.int (if z = (0 : Int32) then (1 : Int32) else 0)), .unset] [])
          rw [sw1204]
          show Rch p ev below K T1198 (mkF m 188 #[.val (.int p0), .val (.long p1), .second, .val (.long t), .second, .val (.int p3), .val (.int p4), .val (.long p5), .second, .val (.int a), .val (.int b), .val (.int r), .val (.int q), .val (.ref rl), .val (.int (1 : Int32)), .val (.int ad), .val (.int (if ad = (0 : Int32) then (1 : Int32) else 0)), .val (.int z), .val (.int (0 : Int32)), .unset] [])
          refine zic X1198 D 30 0 rfl rfl rfl (zis X1198 D 8 (l' := #[.val (.int p0), .val (.long p1), .second, .val (.long t), .second, .val (.int p3), .val (.int p4), .val (.long p5), .second, .val (.int a), .val (.int b), .val (.int r), .val (.int q), .val (.ref rl), .val (.int (1 : Int32)), .val (.int ad), .val (.int (if ad = (0 : Int32) then (1 : Int32) else 0)), .val (.int z), .val (.int (0 : Int32)), .val (.int (0 : Int32))]) rfl rfl rfl (zi X1198 D 9 rfl rfl rfl  (zN X1198 D 10 rfl rfl ((if0 _ _).trans (feq ((by decide) : ¬ ((1 : Int32) = (0 : Int32)))).1) (zi X1198 D 11 rfl rfl rfl  (zi X1198 D 12 rfl rfl rfl  ?_)))))
          by_cases c1205 : ad = (0 : Int32)
          · skip
            refine zN X1198 D 13 rfl rfl ((if0 _ _).trans (teq c1205).2) ?_
            have sw1206 : (if ad = (0 : Int32) then (1 : Int32) else 0) = (1 : Int32) := if_pos c1205
            show Rch p ev below K T1198 (mkF m 203 #[.val (.int p0), .val (.long p1), .second, .val (.long t), .second, .val (.int p3), .val (.int p4), .val (.long p5), .second, .val (.int a), .val (.int b), .val (.int r), .val (.int q), .val (.ref rl), .val (.int (1 : Int32)), .val (.int ad), .val (.int (if ad = (0 : Int32) then (1 : Int32) else 0)), .val (.int z), .val (.int (0 : Int32)), .val (.int (0 : Int32))] [.int (if ad = (0 : Int32) then (1 : Int32) else 0)])
            rw [sw1206]
            show Rch p ev below K T1198 (mkF m 203 #[.val (.int p0), .val (.long p1), .second, .val (.long t), .second, .val (.int p3), .val (.int p4), .val (.long p5), .second, .val (.int a), .val (.int b), .val (.int r), .val (.int q), .val (.ref rl), .val (.int (1 : Int32)), .val (.int ad), .val (.int (1 : Int32)), .val (.int z), .val (.int (0 : Int32)), .val (.int (0 : Int32))] [.int (1 : Int32)])
            refine zic X1198 D 14 1 rfl rfl rfl (zgo X1198 D 15 208 rfl rfl rfl (zcN X1198 D 16 rfl rfl (teq ((by decide) : (1 : Int32) = (1 : Int32))).2 (zi X1198 D 17 rfl rfl rfl  (zi X1198 D 18 rfl rfl rfl  (zY X1198 D 19 222 rfl rfl ((if0 _ _).trans (feq c1199).2) rfl (zic X1198 D 31 0 rfl rfl rfl (zcN X1198 D 22 rfl rfl (teq ((by decide) : (0 : Int32) = (0 : Int32))).2 (zi X1198 D 23 rfl rfl rfl  (zi X1198 D 24 rfl rfl rfl  (zcN X1198 D 25 rfl rfl (teq ((by decide) : (0 : Int32) = (0 : Int32))).2 (zic X1198 D 26 1 rfl rfl rfl (zgo X1198 D 27 238 rfl rfl rfl ?_))))))))))))
            exact Rch.retN X1198 hx (t := .boolean) hret (by simp) hlk (D.on 28 rfl) (fun U hU hF => hK _ U _ _ _ (by show Q_rm0 Z p0 p1 p2 p3 p4 p5 rc ca yc h0 n0 _ U.heap _; rw [hU, hQ1198]; exact ⟨rfl, N1198, trivial⟩) hF (by decide) (by decide))
          · skip
            refine zY X1198 D 13 207 rfl rfl ((if0 _ _).trans (feq c1205).2) rfl ?_
            have sw1207 : (if ad = (0 : Int32) then (1 : Int32) else 0) = (0 : Int32) := if_neg c1205
            show Rch p ev below K T1198 (mkF m 207 #[.val (.int p0), .val (.long p1), .second, .val (.long t), .second, .val (.int p3), .val (.int p4), .val (.long p5), .second, .val (.int a), .val (.int b), .val (.int r), .val (.int q), .val (.ref rl), .val (.int (1 : Int32)), .val (.int ad), .val (.int (if ad = (0 : Int32) then (1 : Int32) else 0)), .val (.int z), .val (.int (0 : Int32)), .val (.int (0 : Int32))] [.int (if ad = (0 : Int32) then (1 : Int32) else 0)])
            rw [sw1207]
            show Rch p ev below K T1198 (mkF m 207 #[.val (.int p0), .val (.long p1), .second, .val (.long t), .second, .val (.int p3), .val (.int p4), .val (.long p5), .second, .val (.int a), .val (.int b), .val (.int r), .val (.int q), .val (.ref rl), .val (.int (1 : Int32)), .val (.int ad), .val (.int (0 : Int32)), .val (.int z), .val (.int (0 : Int32)), .val (.int (0 : Int32))] [.int (0 : Int32)])
            refine zic X1198 D 29 0 rfl rfl rfl (zcN X1198 D 16 rfl rfl (teq ((by decide) : (0 : Int32) = (0 : Int32))).2 (zi X1198 D 17 rfl rfl rfl  (zi X1198 D 18 rfl rfl rfl  (zY X1198 D 19 222 rfl rfl ((if0 _ _).trans (feq c1199).2) rfl (zic X1198 D 31 0 rfl rfl rfl (zcN X1198 D 22 rfl rfl (teq ((by decide) : (0 : Int32) = (0 : Int32))).2 (zi X1198 D 23 rfl rfl rfl  (zi X1198 D 24 rfl rfl rfl  (zcN X1198 D 25 rfl rfl (teq ((by decide) : (0 : Int32) = (0 : Int32))).2 (zic X1198 D 26 1 rfl rfl rfl (zgo X1198 D 27 238 rfl rfl rfl ?_)))))))))))
            exact Rch.retN X1198 hx (t := .boolean) hret (by simp) hlk (D.on 28 rfl) (fun U hU hF => hK _ U _ _ _ (by show Q_rm0 Z p0 p1 p2 p3 p4 p5 rc ca yc h0 n0 _ U.heap _; rw [hU, hQ1198]; exact ⟨rfl, N1198, trivial⟩) hF (by decide) (by decide))
      obtain ⟨T1208, h1208, X1208, e1208, E1208, A1208, D1208, -, st1208⟩ := newO X0 hx hZ hown (ow hw 0 rfl) (ow hw 1 rfl) (ow hw 2 rfl) e0 (g := (mkF m 73 #[.val (.int p0), .val (.long p1), .second, .val (.long t), .second, .val (.int p3), .val (.int p4), .val (.long p5), .second, .val (.int a), .val (.int b), .val (.int r), .val (.int q), .unset, .unset, .unset, .unset, .unset, .unset, .unset] [])) rfl (D.on 32 rfl) (by decide) (by decide)
      obtain ⟨b1208, g1208⟩ : ∃ zz_, zz_ = h0.size := ⟨_, rfl⟩
      have ge_b1208 : n0 ≤ b1208 := Nat.le_trans Z0 (Nat.le_of_eq g1208.symm)
      rw [← g1208] at A1208 D1208 st1208
      have F1208_byPriority : Fld Z h1208 b1208 "com/example/kept_till_acked/kepttillacked/queue/ReadyLine" "byPriority" "Ljava/util/TreeMap;" .null := D1208 (Or.inr (ow hw 39 rfl)) (ty := (.object "java/util/TreeMap")) (by decide)
      have F1208_size : Fld Z h1208 b1208 "com/example/kept_till_acked/kepttillacked/queue/ReadyLine" "size" "I" (.int (0 : Int32)) := D1208 (Or.inl (ow hw 46 rfl)) (ty := .int) (by decide)
      refine Rch.of (T' := T1208) (g' := (mkF m 76 #[.val (.int p0), .val (.long p1), .second, .val (.long t), .second, .val (.int p3), .val (.int p4), .val (.long p5), .second, .val (.int a), .val (.int b), .val (.int r), .val (.int q), .unset, .unset, .unset, .unset, .unset, .unset, .unset] [.ref b1208])) st1208 ?_
      refine zdu X1208 D 33 rfl rfl rfl (zsb (W := 1) X1208 D 34 hZ me67 hown (ow hw 3 rfl) (ow hw 4 rfl) (ow hw 5 rfl) (ow hw 2 rfl) e1208 b1208 (rnRI lh Z a0 hw [] b1208 rc h1208 n0 (Nat.le_trans Z0 E1208.1) A1208 F1208_byPriority F1208_size ge_b1208 (O0.ext E1208) SRO ERC) hml [] [.ref b1208] (lenOf pd_0 rfl) rfl rfl rfl rfl rfl rfl rfl (by decide) (by decide) fun v1209 T1209 L1209 X1209 hQ1209 => ?_)
      obtain ⟨rtm1209, rfl, N1209q, hQ1209⟩ := hQ1209
      have N1209 := Fr.app N0 N1209q
      obtain ⟨ze1209_0, K1209, Pq1209_0, Pq1209_1⟩ := hQ1209
      have nl1210 : ca ≠ b1208 := Nat.ne_of_lt (Nat.lt_of_lt_of_le (VCa.ext O0.2).lt (Nat.le_of_eq g1208.symm))
      refine zas X1209 D 35 (l' := #[.val (.int p0), .val (.long p1), .second, .val (.long t), .second, .val (.int p3), .val (.int p4), .val (.long p5), .second, .val (.int a), .val (.int b), .val (.int r), .val (.int q), .val (.ref b1208), .unset, .unset, .unset, .unset, .unset, .unset]) rfl rfl rfl rfl ?_
      have SE1211 : own_SE Z T1209.heap n0 b1208 rc := ⟨rtm1209, Pq1209_0, Pq1209_1, ge_b1208, (Nat.le_trans (Nat.le_trans Z0 E1208.1) ze1209_0)⟩
      refine za X1209 D 36 rfl rfl rfl rfl (zvs X1209 D 37 hZ me63 hown (ow hw 40 rfl) (ow hw 41 rfl) (ow hw 43 rfl) (ow hw 42 rfl) (ow hw 44 rfl) (ow hw 2 rfl) rfl (A1208.keep K1209) (rnRE0 lh Z a0 hw [] b1208 rtm1209 (0 : Int32) (1 : Int32) T1209.heap n0 (Nat.le_trans (Nat.le_trans Z0 E1208.1) K1209.1) Pq1209_0 rfl) hml [] [] (lenOf pd_3 rfl) rfl rfl rfl rfl rfl rfl (by decide) (by decide) fun v1212 T1212 L1212 X1212 hQ1212 => ?_)
      obtain ⟨rfl, N1212q, hQ1212⟩ := hQ1212
      have N1212 := Fr.app N1209 N1212q
      refine zis X1212 D 38 (l' := #[.val (.int p0), .val (.long p1), .second, .val (.long t), .second, .val (.int p3), .val (.int p4), .val (.long p5), .second, .val (.int a), .val (.int b), .val (.int r), .val (.int q), .val (.ref b1208), .val (.int (1 : Int32)), .unset, .unset, .unset, .unset, .unset]) rfl rfl rfl (zic X1212 D 39 0 rfl rfl rfl (zis X1212 D 40 (l' := #[.val (.int p0), .val (.long p1), .second, .val (.long t), .second, .val (.int p3), .val (.int p4), .val (.long p5), .second, .val (.int a), .val (.int b), .val (.int r), .val (.int q), .val (.ref b1208), .val (.int (1 : Int32)), .val (.int (0 : Int32)), .unset, .unset, .unset, .unset]) rfl rfl rfl (zi X1212 D 41 rfl rfl rfl  ?_)))
      by_cases c1213 : a = (0 : Int32)
      · skip
        refine zY X1212 D 42 108 rfl rfl ((if0 _ _).trans (teq c1213).1) rfl ?_
        have kn1214 : r = (0 : Int32) := hr c1213
        refine zi X1212 D 43 rfl rfl rfl  ?_
        by_cases c1215 : b = (0 : Int32)
        · skip
          refine zY X1212 D 44 126 rfl rfl ((if0 _ _).trans (teq c1215).1) rfl ?_
          have kn1216 : q = (0 : Int32) := hq c1215
          refine za X1212 D 45 rfl rfl rfl rfl (zvs X1212 D 46 hZ me63 hown (ow hw 40 rfl) (ow hw 41 rfl) (ow hw 43 rfl) (ow hw 42 rfl) (ow hw 44 rfl) (ow hw 2 rfl) hQ1212 (A1208.keep K1209) (rnRE0 lh Z a0 hw [] b1208 rtm1209 (0 : Int32) (1 : Int32) T1209.heap n0 (Nat.le_trans (Nat.le_trans Z0 E1208.1) K1209.1) Pq1209_0 rfl) hml [] [] (lenOf pd_3 rfl) rfl rfl rfl rfl rfl rfl (by decide) (by decide) fun v1217 T1217 L1217 X1217 hQ1217 => ?_)
          obtain ⟨rfl, N1217q, hQ1217⟩ := hQ1217
          have N1217 := Fr.app N1212 N1217q
          refine zis X1217 D 47 (l' := #[.val (.int p0), .val (.long p1), .second, .val (.long t), .second, .val (.int p3), .val (.int p4), .val (.long p5), .second, .val (.int a), .val (.int b), .val (.int r), .val (.int q), .val (.ref b1208), .val (.int (1 : Int32)), .val (.int (0 : Int32)), .val (.int (1 : Int32)), .unset, .unset, .unset]) rfl rfl rfl (zi X1217 D 48 rfl rfl rfl  (zis X1217 D 49 (l' := #[.val (.int p0), .val (.long p1), .second, .val (.long t), .second, .val (.int p3), .val (.int p4), .val (.long p5), .second, .val (.int a), .val (.int b), .val (.int r), .val (.int q), .val (.ref b1208), .val (.int (1 : Int32)), .val (.int (0 : Int32)), .val (.int (1 : Int32)), .val (.int (0 : Int32)), .unset, .unset]) rfl rfl rfl (zi X1217 D 50 rfl rfl rfl  (zY X1217 D 51 153 rfl rfl ((if0 _ _).trans (teq kn1214).1) rfl (zi X1217 D 52 rfl rfl rfl  (zY X1217 D 53 169 rfl rfl ((if0 _ _).trans (teq kn1216).1) rfl ?_))))))
          exact J3 T1217 _ (X1217.more (by decide) (by decide)) _ hQ1217 N1217 (Nat.le_trans (Nat.le_trans Z0 E1208.1) K1209.1) _ rtm1209 (0 : Int32) (0 : Int32) Pq1209_0
        · skip
          refine zN X1212 D 44 rfl rfl ((if0 _ _).trans (feq c1215).1) (za X1212 D 54 rfl rfl rfl rfl (zlN X1212 D 55 rfl rfl rfl  (zi X1212 D 56 rfl rfl rfl  (zl X1212 D 57 rfl rfl rfl  (zvs X1212 D 58 hZ me70 hown (ow hw 354 rfl) (ow hw 355 rfl) (ow hw 357 rfl) (ow hw 356 rfl) (ow hw 358 rfl) (ow hw 2 rfl) hQ1212 (A1208.keep K1209) (rnA0 lh Z a0 hw [] b1208 rc t p4 p5 ca yc T1209.heap n0 (Nat.le_trans (Nat.le_trans Z0 E1208.1) K1209.1) SE1211 ((O0.ext E1208).keep K1209 (allS ge_b1208 all0)) SH SCa VCa hca) hml [.long t, .int p4, .long p5] [] (lenOf pd_30 rfl) rfl rfl rfl rfl rfl rfl (by decide) (by decide) fun v1218 T1218 L1218 X1218 hQ1218 => ?_)))))
          obtain ⟨rfl, N1218q, hQ1218⟩ := hQ1218
          have N1218 := Fr.app N1212 N1218q
          obtain ⟨O1218, S1218⟩ := hQ1218
          obtain ⟨tm_1219, l_1219, e_1219, sb_1219, pg_1219, na_1219, mv_1219, ad_1219, el_1219, ck_1219, yn_1219, yc_1219, es1219_0, es1219_1, es1219_2, es1219_3, es1219_4, es1219_5, es1219_6, es1219_7, es1219_8, es1219_9, es1219_10⟩ := id S1218
          refine ziinc X1218 D 59 (l' := #[.val (.int p0), .val (.long p1), .second, .val (.long t), .second, .val (.int p3), .val (.int p4), .val (.long p5), .second, .val (.int a), .val (.int b), .val (.int r), .val (.int q), .val (.ref b1208), .val (.int (1 : Int32)), .val (.int (1 : Int32)), .unset, .unset, .unset, .unset]) rfl rfl rfl rfl (za X1218 D 45 rfl rfl rfl rfl (zvs X1218 D 46 hZ me63 hown (ow hw 40 rfl) (ow hw 41 rfl) (ow hw 43 rfl) (ow hw 42 rfl) (ow hw 44 rfl) (ow hw 2 rfl) rfl (own_RL.x_rl es1219_0) (rnRE0 lh Z a0 hw [] b1208 tm_1219 (1 : Int32) (0 : Int32) T1218.heap n0 (own_zp O1218) es1219_0 rfl) hml [] [] (lenOf pd_3 rfl) rfl rfl rfl rfl rfl rfl (by decide) (by decide) fun v1220 T1220 L1220 X1220 hQ1220 => ?_))
          obtain ⟨rfl, N1220q, hQ1220⟩ := hQ1220
          have N1220 := Fr.app N1218 N1220q
          refine zis X1220 D 47 (l' := #[.val (.int p0), .val (.long p1), .second, .val (.long t), .second, .val (.int p3), .val (.int p4), .val (.long p5), .second, .val (.int a), .val (.int b), .val (.int r), .val (.int q), .val (.ref b1208), .val (.int (1 : Int32)), .val (.int (1 : Int32)), .val (.int (0 : Int32)), .unset, .unset, .unset]) rfl rfl rfl (zi X1220 D 48 rfl rfl rfl  (zis X1220 D 49 (l' := #[.val (.int p0), .val (.long p1), .second, .val (.long t), .second, .val (.int p3), .val (.int p4), .val (.long p5), .second, .val (.int a), .val (.int b), .val (.int r), .val (.int q), .val (.ref b1208), .val (.int (1 : Int32)), .val (.int (1 : Int32)), .val (.int (0 : Int32)), .val (.int (1 : Int32)), .unset, .unset]) rfl rfl rfl (zi X1220 D 50 rfl rfl rfl  (zY X1220 D 51 153 rfl rfl ((if0 _ _).trans (teq kn1214).1) rfl (zi X1220 D 52 rfl rfl rfl  ?_)))))
          by_cases c1221 : q = (0 : Int32)
          · skip
            refine zY X1220 D 53 169 rfl rfl ((if0 _ _).trans (teq c1221).1) rfl ?_
            exact J3 T1220 _ (X1220.more (by decide) (by decide)) _ hQ1220 N1220 (own_zp O1218) _ tm_1219 (1 : Int32) (1 : Int32) es1219_0
          · skip
            refine zN X1220 D 53 rfl rfl ((if0 _ _).trans (feq c1221).1) (za X1220 D 60 rfl rfl rfl rfl (zlN X1220 D 61 rfl rfl rfl  (zi X1220 D 62 rfl rfl rfl  ?_)))
            have HM1222 : own_MQ Z T1218.heap tm_1219 rc p4 l_1219 [e_1219] (fun _ => True) n0 e_1219 := Or.inl ⟨rfl, es1219_7, es1219_1, rfl⟩
            refine zvs X1220 D 63 hZ me71 hown (ow hw 286 rfl) (ow hw 287 rfl) (ow hw 289 rfl) (ow hw 288 rfl) (ow hw 290 rfl) (ow hw 2 rfl) hQ1220 (own_RL.x_rl es1219_0) (rnRC lh Z a0 hw [] b1208 tm_1219 rc (1 : Int32) t p4 ca yc l_1219 e_1219 [e_1219] (fun _ => True) sb_1219 mv_1219 pg_1219 na_1219 yn_1219 ad_1219 el_1219 ck_1219 yc_1219 T1218.heap n0 (own_zp O1218) es1219_0 HM1222 es1219_2 es1219_3 es1219_4 O1218 SH SCa VCa hca es1219_5 es1219_6 es1219_8 es1219_9 es1219_10) hml [.long t, .int p4] [] (lenOf pd_5 rfl) rfl rfl rfl rfl rfl rfl (by decide) (by decide) fun v1223 T1223 L1223 X1223 hQ1223 => ?_
            obtain ⟨rfl, N1223q, hQ1223⟩ := hQ1223
            have N1223 := Fr.app N1220 N1223q
            obtain ⟨hz1223, HR1223⟩ := hQ1223
            refine ziinc X1223 D 64 (l' := #[.val (.int p0), .val (.long p1), .second, .val (.long t), .second, .val (.int p3), .val (.int p4), .val (.long p5), .second, .val (.int a), .val (.int b), .val (.int r), .val (.int q), .val (.ref b1208), .val (.int (1 : Int32)), .val (.int (1 : Int32)), .val (.int (0 : Int32)), .val (.int (0 : Int32)), .unset, .unset]) rfl rfl rfl rfl ?_
            exact J3 T1223 _ (X1223.more (by decide) (by decide)) _ rfl N1223 hz1223 _ tm_1219 (0 : Int32) (1 : Int32) HR1223
      · skip
        refine zN X1212 D 42 rfl rfl ((if0 _ _).trans (feq c1213).1) (za X1212 D 65 rfl rfl rfl rfl (zlN X1212 D 66 rfl rfl rfl  (zi X1212 D 67 rfl rfl rfl  (zvs X1212 D 68 hZ me69 hown (ow hw 52 rfl) (ow hw 53 rfl) (ow hw 55 rfl) (ow hw 54 rfl) (ow hw 56 rfl) (ow hw 2 rfl) hQ1212 (A1208.keep K1209) (rnAH lh Z a0 hw [] b1208 rc p1 p3 ca yc T1209.heap n0 (Nat.le_trans (Nat.le_trans Z0 E1208.1) K1209.1) SE1211 ((O0.ext E1208).keep K1209 (allS ge_b1208 all0)) SH SCa VCa hca) hml [.long p1, .int p3] [] (lenOf pd_5 rfl) rfl rfl rfl rfl rfl rfl (by decide) (by decide) fun v1224 T1224 L1224 X1224 hQ1224 => ?_))))
        obtain ⟨rfl, N1224q, hQ1224⟩ := hQ1224
        have N1224 := Fr.app N1212 N1224q
        obtain ⟨O1224, S1224⟩ := hQ1224
        obtain ⟨tm_1225, l_1225, e_1225, sb_1225, pg_1225, na_1225, pa_1225, pp_1225, wa_1225, mv_1225, ad_1225, el_1225, yn_1225, es1225_0, es1225_1, es1225_2, es1225_3, es1225_4, es1225_5, es1225_6, es1225_7, es1225_8, es1225_9, es1225_10, es1225_11, es1225_12, es1225_13, es1225_14, es1225_15, es1225_16, es1225_17⟩ := id S1224
        refine ziinc X1224 D 69 (l' := #[.val (.int p0), .val (.long p1), .second, .val (.long t), .second, .val (.int p3), .val (.int p4), .val (.long p5), .second, .val (.int a), .val (.int b), .val (.int r), .val (.int q), .val (.ref b1208), .val (.int (1 : Int32)), .val (.int (1 : Int32)), .unset, .unset, .unset, .unset]) rfl rfl rfl rfl (zi X1224 D 43 rfl rfl rfl  ?_)
        by_cases c1226 : b = (0 : Int32)
        · skip
          refine zY X1224 D 44 126 rfl rfl ((if0 _ _).trans (teq c1226).1) rfl ?_
          have kn1227 : q = (0 : Int32) := hq c1226
          refine za X1224 D 45 rfl rfl rfl rfl (zvs X1224 D 46 hZ me63 hown (ow hw 40 rfl) (ow hw 41 rfl) (ow hw 43 rfl) (ow hw 42 rfl) (ow hw 44 rfl) (ow hw 2 rfl) rfl (own_RL.x_rl es1225_0) (rnRE0 lh Z a0 hw [] b1208 tm_1225 (1 : Int32) (0 : Int32) T1224.heap n0 (own_zp O1224) es1225_0 rfl) hml [] [] (lenOf pd_3 rfl) rfl rfl rfl rfl rfl rfl (by decide) (by decide) fun v1228 T1228 L1228 X1228 hQ1228 => ?_)
          obtain ⟨rfl, N1228q, hQ1228⟩ := hQ1228
          have N1228 := Fr.app N1224 N1228q
          refine zis X1228 D 47 (l' := #[.val (.int p0), .val (.long p1), .second, .val (.long t), .second, .val (.int p3), .val (.int p4), .val (.long p5), .second, .val (.int a), .val (.int b), .val (.int r), .val (.int q), .val (.ref b1208), .val (.int (1 : Int32)), .val (.int (1 : Int32)), .val (.int (0 : Int32)), .unset, .unset, .unset]) rfl rfl rfl (zi X1228 D 48 rfl rfl rfl  (zis X1228 D 49 (l' := #[.val (.int p0), .val (.long p1), .second, .val (.long t), .second, .val (.int p3), .val (.int p4), .val (.long p5), .second, .val (.int a), .val (.int b), .val (.int r), .val (.int q), .val (.ref b1208), .val (.int (1 : Int32)), .val (.int (1 : Int32)), .val (.int (0 : Int32)), .val (.int (1 : Int32)), .unset, .unset]) rfl rfl rfl (zi X1228 D 50 rfl rfl rfl  ?_)))
          by_cases c1229 : r = (0 : Int32)
          · skip
            refine zY X1228 D 51 153 rfl rfl ((if0 _ _).trans (teq c1229).1) rfl (zi X1228 D 52 rfl rfl rfl  (zY X1228 D 53 169 rfl rfl ((if0 _ _).trans (teq kn1227).1) rfl ?_))
            exact J3 T1228 _ (X1228.more (by decide) (by decide)) _ hQ1228 N1228 (own_zp O1224) _ tm_1225 (1 : Int32) (1 : Int32) es1225_0
          · skip
            refine zN X1228 D 51 rfl rfl ((if0 _ _).trans (feq c1229).1) (za X1228 D 70 rfl rfl rfl rfl (zlN X1228 D 71 rfl rfl rfl  (zi X1228 D 72 rfl rfl rfl  ?_)))
            have HZ1230 : own_MZ Z T1224.heap mv_1225 (0 : Int32) := ⟨es1225_4.1, es1225_4.2.2.2.2.2.1⟩
            have HM1231 : own_MQ Z T1224.heap tm_1225 rc p3 l_1225 [e_1225] (fun _ => True) n0 e_1225 := Or.inl ⟨rfl, es1225_8, es1225_1, rfl⟩
            refine zvs X1228 D 73 hZ me71 hown (ow hw 286 rfl) (ow hw 287 rfl) (ow hw 289 rfl) (ow hw 288 rfl) (ow hw 290 rfl) (ow hw 2 rfl) hQ1228 (own_RL.x_rl es1225_0) (rnRA lh Z a0 hw [] b1208 tm_1225 rc (1 : Int32) p1 p3 ca yc l_1225 e_1225 [e_1225] (fun _ => True) sb_1225 mv_1225 pg_1225 na_1225 pa_1225 pp_1225 wa_1225 yn_1225 T1224.heap n0 (own_zp O1224) es1225_0 HM1231 es1225_2 es1225_3 HZ1230 O1224 SH SCa VCa hca es1225_6 es1225_7 es1225_9 es1225_10 es1225_11 es1225_12 es1225_13 es1225_14) hml [.long p1, .int p3] [] (lenOf pd_5 rfl) rfl rfl rfl rfl rfl rfl (by decide) (by decide) fun v1232 T1232 L1232 X1232 hQ1232 => ?_
            obtain ⟨rfl, N1232q, hQ1232⟩ := hQ1232
            have N1232 := Fr.app N1228 N1232q
            obtain ⟨K1232, HR1232, HT1232⟩ := hQ1232
            have nc1233 : l_1225 ≠ b1208 := own_exane (own_LN.x_l es1225_2) (own_RL.x_rl es1225_0) (by decide)
            have nc1234 : l_1225 ≠ tm_1225 := own_exane (own_LN.x_l es1225_2) (own_T1.x_tm es1225_1) (by decide)
            have nc1235 : l_1225 ≠ sb_1225 := own_exane (own_LN.x_l es1225_2) (own_S1.x_sb es1225_3) (by decide)
            have nc1236 : l_1225 ≠ pg_1225 := own_exane (own_LN.x_l es1225_2) (own_S1.x_pg es1225_3) (by decide)
            have nc1237 : l_1225 ≠ na_1225 := own_exane (own_LN.x_l es1225_2) (own_S1.x_na es1225_3) (by decide)
            have nc1238 : l_1225 ≠ pa_1225 := own_exane (own_LN.x_l es1225_2) (own_S1.x_pa es1225_3) (by decide)
            have nc1239 : l_1225 ≠ pp_1225 := own_exane (own_LN.x_l es1225_2) (own_S1.x_pp es1225_3) (by decide)
            have nc1240 : l_1225 ≠ wa_1225 := own_exane (own_LN.x_l es1225_2) (own_S1.x_wa es1225_3) (by decide)
            have nc1241 : l_1225 ≠ e_1225 := own_exane (own_LN.x_l es1225_2) (own_T1.x_e es1225_1) (by decide)
            have nc1242 : mv_1225 ≠ b1208 := own_exane (own_M0.x_mv es1225_4) (own_RL.x_rl es1225_0) (by decide)
            have nc1243 : mv_1225 ≠ tm_1225 := own_exane (own_M0.x_mv es1225_4) (own_T1.x_tm es1225_1) (by decide)
            have nc1244 : mv_1225 ≠ sb_1225 := own_exane (own_M0.x_mv es1225_4) (own_S1.x_sb es1225_3) (by decide)
            have nc1245 : mv_1225 ≠ pg_1225 := own_exane (own_M0.x_mv es1225_4) (own_S1.x_pg es1225_3) (by decide)
            have nc1246 : mv_1225 ≠ na_1225 := own_exane (own_M0.x_mv es1225_4) (own_S1.x_na es1225_3) (by decide)
            have nc1247 : mv_1225 ≠ pa_1225 := own_exane (own_M0.x_mv es1225_4) (own_S1.x_pa es1225_3) (by decide)
            have nc1248 : mv_1225 ≠ pp_1225 := own_exane (own_M0.x_mv es1225_4) (own_S1.x_pp es1225_3) (by decide)
            have nc1249 : mv_1225 ≠ wa_1225 := own_exane (own_M0.x_mv es1225_4) (own_S1.x_wa es1225_3) (by decide)
            have nc1250 : mv_1225 ≠ e_1225 := own_exane (own_M0.x_mv es1225_4) (own_T1.x_e es1225_1) (by decide)
            have nc1251 : ad_1225 ≠ b1208 := own_exane (own_M0.x_ad es1225_4) (own_RL.x_rl es1225_0) (by decide)
            have nc1252 : ad_1225 ≠ tm_1225 := own_exane (own_M0.x_ad es1225_4) (own_T1.x_tm es1225_1) (by decide)
            have nc1253 : ad_1225 ≠ sb_1225 := own_exane (own_M0.x_ad es1225_4) (own_S1.x_sb es1225_3) (by decide)
            have nc1254 : ad_1225 ≠ pg_1225 := own_exane (own_M0.x_ad es1225_4) (own_S1.x_pg es1225_3) (by decide)
            have nc1255 : ad_1225 ≠ na_1225 := own_exane (own_M0.x_ad es1225_4) (own_S1.x_na es1225_3) (by decide)
            have nc1256 : ad_1225 ≠ pa_1225 := own_exane (own_M0.x_ad es1225_4) (own_S1.x_pa es1225_3) (by decide)
            have nc1257 : ad_1225 ≠ pp_1225 := own_exane (own_M0.x_ad es1225_4) (own_S1.x_pp es1225_3) (by decide)
            have nc1258 : ad_1225 ≠ wa_1225 := own_exane (own_M0.x_ad es1225_4) (own_S1.x_wa es1225_3) (by decide)
            have nc1259 : ad_1225 ≠ e_1225 := own_exane (own_M0.x_ad es1225_4) (own_T1.x_e es1225_1) (by decide)
            have nc1260 : el_1225 ≠ b1208 := own_exane (own_M0.x_el es1225_4) (own_RL.x_rl es1225_0) (by decide)
            have nc1261 : el_1225 ≠ tm_1225 := own_exane (own_M0.x_el es1225_4) (own_T1.x_tm es1225_1) (by decide)
            have nc1262 : el_1225 ≠ sb_1225 := own_exane (own_M0.x_el es1225_4) (own_S1.x_sb es1225_3) (by decide)
            have nc1263 : el_1225 ≠ pg_1225 := own_exane (own_M0.x_el es1225_4) (own_S1.x_pg es1225_3) (by decide)
            have nc1264 : el_1225 ≠ na_1225 := own_exane (own_M0.x_el es1225_4) (own_S1.x_na es1225_3) (by decide)
            have nc1265 : el_1225 ≠ pp_1225 := own_exane (own_M0.x_el es1225_4) (own_S1.x_pp es1225_3) (by decide)
            have nc1266 : el_1225 ≠ wa_1225 := own_exane (own_M0.x_el es1225_4) (own_S1.x_wa es1225_3) (by decide)
            have nc1267 : el_1225 ≠ e_1225 := own_exane (own_M0.x_el es1225_4) (own_T1.x_e es1225_1) (by decide)
            have Fb1268 := (O1224.keep K1232 (allS es1225_6 (allS es1225_7 (allS es1225_9 (allS es1225_10 (allS es1225_11 (allS es1225_12 (allS es1225_13 (allS es1225_14 (allS es1225_8 all0))))))))))
            have Fb1269 := (own_M0.keep es1225_4 K1232 (ninS nc1242 (ninS nc1243 (ninS nc1244 (ninS nc1245 (ninS nc1246 (ninS nc1247 (ninS nc1248 (ninS nc1249 (ninS nc1250 nin0))))))))) (ninS nc1251 (ninS nc1252 (ninS nc1253 (ninS nc1254 (ninS nc1255 (ninS nc1256 (ninS nc1257 (ninS nc1258 (ninS nc1259 nin0))))))))) (ninS nc1260 (ninS nc1261 (ninS nc1262 (ninS nc1263 (ninS nc1264 (ninS (Ne.symm es1225_5) (ninS nc1265 (ninS nc1266 (ninS nc1267 nin0))))))))))
            refine ziinc X1232 D 74 (l' := #[.val (.int p0), .val (.long p1), .second, .val (.long t), .second, .val (.int p3), .val (.int p4), .val (.long p5), .second, .val (.int a), .val (.int b), .val (.int r), .val (.int q), .val (.ref b1208), .val (.int (1 : Int32)), .val (.int (1 : Int32)), .val (.int (0 : Int32)), .val (.int (0 : Int32)), .unset, .unset]) rfl rfl rfl rfl (zi X1232 D 52 rfl rfl rfl  (zY X1232 D 53 169 rfl rfl ((if0 _ _).trans (teq kn1227).1) rfl ?_))
            exact J3 T1232 _ (X1232.more (by decide) (by decide)) _ rfl N1232 (Nat.le_trans (own_zp O1224) K1232.1) _ tm_1225 (0 : Int32) (1 : Int32) HR1232
        · skip
          refine zN X1224 D 44 rfl rfl ((if0 _ _).trans (feq c1226).1) (za X1224 D 54 rfl rfl rfl rfl (zlN X1224 D 55 rfl rfl rfl  (zi X1224 D 56 rfl rfl rfl  (zl X1224 D 57 rfl rfl rfl  ?_))))
          by_cases hx : p3 = p4
          · skip
            refine zvs X1224 D 58 hZ me70 hown (ow hw 354 rfl) (ow hw 355 rfl) (ow hw 357 rfl) (ow hw 356 rfl) (ow hw 358 rfl) (ow hw 2 rfl) rfl (own_RL.x_rl es1225_0) (rnA1 lh Z a0 hw [] b1208 rc t p4 p5 ca yc p1 T1224.heap n0 (own_zp O1224) (hx ▸ S1224) O1224 SH SCa VCa hca) hml [.long t, .int p4, .long p5] [] (lenOf pd_30 rfl) rfl rfl rfl rfl rfl rfl (by decide) (by decide) fun v1270 T1270 L1270 X1270 hQ1270 => ?_
            obtain ⟨rfl, N1270q, hQ1270⟩ := hQ1270
            have N1270 := Fr.app N1224 N1270q
            obtain ⟨O1270, S1270⟩ := hQ1270
            obtain ⟨tm_1271, l_1271, e_1271, sb_1271, pg_1271, na_1271, pa_1271, pp_1271, wa_1271, mv_1271, ad_1271, el_1271, ck_1271, yn_1271, yc_1271, es1271_0, es1271_1, es1271_2, es1271_3, es1271_4, es1271_5, es1271_6, es1271_7, es1271_8, es1271_9, es1271_10, es1271_11, es1271_12, es1271_13, es1271_14, es1271_15, es1271_16, es1271_17, es1271_18, es1271_19⟩ := id S1270
            refine ziinc X1270 D 59 (l' := #[.val (.int p0), .val (.long p1), .second, .val (.long t), .second, .val (.int p3), .val (.int p4), .val (.long p5), .second, .val (.int a), .val (.int b), .val (.int r), .val (.int q), .val (.ref b1208), .val (.int (1 : Int32)), .val (.int (2 : Int32)), .unset, .unset, .unset, .unset]) rfl rfl rfl rfl (za X1270 D 45 rfl rfl rfl rfl (zvs X1270 D 46 hZ me63 hown (ow hw 40 rfl) (ow hw 41 rfl) (ow hw 43 rfl) (ow hw 42 rfl) (ow hw 44 rfl) (ow hw 2 rfl) rfl (own_RL.x_rl es1271_0) (rnRE0 lh Z a0 hw [] b1208 tm_1271 (2 : Int32) (0 : Int32) T1270.heap n0 (own_zp O1270) es1271_0 rfl) hml [] [] (lenOf pd_3 rfl) rfl rfl rfl rfl rfl rfl (by decide) (by decide) fun v1272 T1272 L1272 X1272 hQ1272 => ?_))
            obtain ⟨rfl, N1272q, hQ1272⟩ := hQ1272
            have N1272 := Fr.app N1270 N1272q
            refine zis X1272 D 47 (l' := #[.val (.int p0), .val (.long p1), .second, .val (.long t), .second, .val (.int p3), .val (.int p4), .val (.long p5), .second, .val (.int a), .val (.int b), .val (.int r), .val (.int q), .val (.ref b1208), .val (.int (1 : Int32)), .val (.int (2 : Int32)), .val (.int (0 : Int32)), .unset, .unset, .unset]) rfl rfl rfl (zi X1272 D 48 rfl rfl rfl  (zis X1272 D 49 (l' := #[.val (.int p0), .val (.long p1), .second, .val (.long t), .second, .val (.int p3), .val (.int p4), .val (.long p5), .second, .val (.int a), .val (.int b), .val (.int r), .val (.int q), .val (.ref b1208), .val (.int (1 : Int32)), .val (.int (2 : Int32)), .val (.int (0 : Int32)), .val (.int (2 : Int32)), .unset, .unset]) rfl rfl rfl (zi X1272 D 50 rfl rfl rfl  ?_)))
            by_cases c1273 : r = (0 : Int32)
            · skip
              refine zY X1272 D 51 153 rfl rfl ((if0 _ _).trans (teq c1273).1) rfl (zi X1272 D 52 rfl rfl rfl  ?_)
              by_cases c1274 : q = (0 : Int32)
              · skip
                refine zY X1272 D 53 169 rfl rfl ((if0 _ _).trans (teq c1274).1) rfl ?_
                exact J3 T1272 _ (X1272.more (by decide) (by decide)) _ hQ1272 N1272 (own_zp O1270) _ tm_1271 (2 : Int32) (2 : Int32) es1271_0
              · skip
                refine zN X1272 D 53 rfl rfl ((if0 _ _).trans (feq c1274).1) (za X1272 D 60 rfl rfl rfl rfl (zlN X1272 D 61 rfl rfl rfl  (zi X1272 D 62 rfl rfl rfl  ?_)))
                have HM1275 : own_MQ Z T1270.heap tm_1271 rc p4 l_1271 [e_1271] (fun _ => True) n0 e_1271 := Or.inl ⟨rfl, es1271_10, es1271_1, rfl⟩
                refine zvs X1272 D 63 hZ me71 hown (ow hw 286 rfl) (ow hw 287 rfl) (ow hw 289 rfl) (ow hw 288 rfl) (ow hw 290 rfl) (ow hw 2 rfl) hQ1272 (own_RL.x_rl es1271_0) (rnRD lh Z a0 hw [] b1208 tm_1271 rc (2 : Int32) t p4 ca yc l_1271 e_1271 [e_1271] (fun _ => True) sb_1271 mv_1271 pg_1271 na_1271 pa_1271 pp_1271 wa_1271 yn_1271 p1 ad_1271 el_1271 ck_1271 yc_1271 T1270.heap n0 (own_zp O1270) es1271_0 HM1275 es1271_2 es1271_3 hts es1271_4 O1270 SH SCa VCa hca es1271_8 es1271_17 es1271_18 es1271_19) hml [.long t, .int p4] [] (lenOf pd_5 rfl) rfl rfl rfl rfl rfl rfl (by decide) (by decide) fun v1276 T1276 L1276 X1276 hQ1276 => ?_
                obtain ⟨rfl, N1276q, hQ1276⟩ := hQ1276
                have N1276 := Fr.app N1272 N1276q
                obtain ⟨hz1276, HR1276⟩ := hQ1276
                refine ziinc X1276 D 64 (l' := #[.val (.int p0), .val (.long p1), .second, .val (.long t), .second, .val (.int p3), .val (.int p4), .val (.long p5), .second, .val (.int a), .val (.int b), .val (.int r), .val (.int q), .val (.ref b1208), .val (.int (1 : Int32)), .val (.int (2 : Int32)), .val (.int (0 : Int32)), .val (.int (1 : Int32)), .unset, .unset]) rfl rfl rfl rfl ?_
                exact J3 T1276 _ (X1276.more (by decide) (by decide)) _ rfl N1276 hz1276 _ tm_1271 (1 : Int32) (2 : Int32) HR1276
            · skip
              refine zN X1272 D 51 rfl rfl ((if0 _ _).trans (feq c1273).1) (za X1272 D 70 rfl rfl rfl rfl (zlN X1272 D 71 rfl rfl rfl  (zi X1272 D 72 rfl rfl rfl  ?_)))
              have HZ1277 : own_MZ Z T1270.heap mv_1271 (1 : Int32) := ⟨es1271_4.1, es1271_4.2.2.2.2.2.1⟩
              have HM1278 : own_MQ Z T1270.heap tm_1271 rc p3 l_1271 [e_1271] (fun _ => True) n0 e_1271 := Or.inl ⟨rfl, es1271_10, hx.symm ▸ es1271_1, rfl⟩
              refine zvs X1272 D 73 hZ me71 hown (ow hw 286 rfl) (ow hw 287 rfl) (ow hw 289 rfl) (ow hw 288 rfl) (ow hw 290 rfl) (ow hw 2 rfl) hQ1272 (own_RL.x_rl es1271_0) (rnRB lh Z a0 hw [] b1208 tm_1271 rc (2 : Int32) p1 p3 ca yc l_1271 e_1271 [e_1271] (fun _ => True) sb_1271 mv_1271 pg_1271 na_1271 pa_1271 pp_1271 wa_1271 yn_1271 T1270.heap n0 (own_zp O1270) es1271_0 HM1278 es1271_2 es1271_3 HZ1277 O1270 SH SCa VCa hca es1271_8 es1271_11 es1271_12 es1271_13 es1271_14 es1271_15 es1271_16) hml [.long p1, .int p3] [] (lenOf pd_5 rfl) rfl rfl rfl rfl rfl rfl (by decide) (by decide) fun v1279 T1279 L1279 X1279 hQ1279 => ?_
              obtain ⟨rfl, N1279q, hQ1279⟩ := hQ1279
              have N1279 := Fr.app N1272 N1279q
              obtain ⟨K1279, HR1279, HS1279⟩ := hQ1279
              have Fb1280 := (own_bcS (own_RL.x_rl es1271_0) (by decide) (own_bcS (own_S1.x_sb es1271_3) (by decide) (own_bcS (own_S1.x_pg es1271_3) (by decide) (own_bcS (own_S1.x_na es1271_3) (by decide) (own_bcS (own_S1.x_pa es1271_3) (by decide) (own_bcS (own_S1.x_pp es1271_3) (by decide) (own_bcS (own_S1.x_wa es1271_3) (by decide) own_bc0)))))))
              have nc1281 : l_1271 ≠ b1208 := own_exane (own_LN.x_l es1271_2) (own_RL.x_rl es1271_0) (by decide)
              have nc1282 : l_1271 ≠ sb_1271 := own_exane (own_LN.x_l es1271_2) (own_S1.x_sb es1271_3) (by decide)
              have nc1283 : l_1271 ≠ pg_1271 := own_exane (own_LN.x_l es1271_2) (own_S1.x_pg es1271_3) (by decide)
              have nc1284 : l_1271 ≠ na_1271 := own_exane (own_LN.x_l es1271_2) (own_S1.x_na es1271_3) (by decide)
              have nc1285 : l_1271 ≠ pa_1271 := own_exane (own_LN.x_l es1271_2) (own_S1.x_pa es1271_3) (by decide)
              have nc1286 : l_1271 ≠ pp_1271 := own_exane (own_LN.x_l es1271_2) (own_S1.x_pp es1271_3) (by decide)
              have nc1287 : l_1271 ≠ wa_1271 := own_exane (own_LN.x_l es1271_2) (own_S1.x_wa es1271_3) (by decide)
              have nc1288 : mv_1271 ≠ b1208 := own_exane (own_M1.x_mv es1271_4) (own_RL.x_rl es1271_0) (by decide)
              have nc1289 : mv_1271 ≠ sb_1271 := own_exane (own_M1.x_mv es1271_4) (own_S1.x_sb es1271_3) (by decide)
              have nc1290 : mv_1271 ≠ pg_1271 := own_exane (own_M1.x_mv es1271_4) (own_S1.x_pg es1271_3) (by decide)
              have nc1291 : mv_1271 ≠ na_1271 := own_exane (own_M1.x_mv es1271_4) (own_S1.x_na es1271_3) (by decide)
              have nc1292 : mv_1271 ≠ pa_1271 := own_exane (own_M1.x_mv es1271_4) (own_S1.x_pa es1271_3) (by decide)
              have nc1293 : mv_1271 ≠ pp_1271 := own_exane (own_M1.x_mv es1271_4) (own_S1.x_pp es1271_3) (by decide)
              have nc1294 : mv_1271 ≠ wa_1271 := own_exane (own_M1.x_mv es1271_4) (own_S1.x_wa es1271_3) (by decide)
              have nc1295 : ad_1271 ≠ b1208 := own_exane (own_M1.x_ad es1271_4) (own_RL.x_rl es1271_0) (by decide)
              have nc1296 : ad_1271 ≠ sb_1271 := own_exane (own_M1.x_ad es1271_4) (own_S1.x_sb es1271_3) (by decide)
              have nc1297 : ad_1271 ≠ pg_1271 := own_exane (own_M1.x_ad es1271_4) (own_S1.x_pg es1271_3) (by decide)
              have nc1298 : ad_1271 ≠ na_1271 := own_exane (own_M1.x_ad es1271_4) (own_S1.x_na es1271_3) (by decide)
              have nc1299 : ad_1271 ≠ pa_1271 := own_exane (own_M1.x_ad es1271_4) (own_S1.x_pa es1271_3) (by decide)
              have nc1300 : ad_1271 ≠ pp_1271 := own_exane (own_M1.x_ad es1271_4) (own_S1.x_pp es1271_3) (by decide)
              have nc1301 : ad_1271 ≠ wa_1271 := own_exane (own_M1.x_ad es1271_4) (own_S1.x_wa es1271_3) (by decide)
              have nc1302 : el_1271 ≠ b1208 := own_exane (own_M1.x_el es1271_4) (own_RL.x_rl es1271_0) (by decide)
              have nc1303 : el_1271 ≠ sb_1271 := own_exane (own_M1.x_el es1271_4) (own_S1.x_sb es1271_3) (by decide)
              have nc1304 : el_1271 ≠ pg_1271 := own_exane (own_M1.x_el es1271_4) (own_S1.x_pg es1271_3) (by decide)
              have nc1305 : el_1271 ≠ na_1271 := own_exane (own_M1.x_el es1271_4) (own_S1.x_na es1271_3) (by decide)
              have nc1306 : el_1271 ≠ pp_1271 := own_exane (own_M1.x_el es1271_4) (own_S1.x_pp es1271_3) (by decide)
              have nc1307 : el_1271 ≠ wa_1271 := own_exane (own_M1.x_el es1271_4) (own_S1.x_wa es1271_3) (by decide)
              have nc1308 : ck_1271 ≠ b1208 := own_exane (own_M1.x_ck es1271_4) (own_RL.x_rl es1271_0) (by decide)
              have nc1309 : ck_1271 ≠ sb_1271 := own_exane (own_M1.x_ck es1271_4) (own_S1.x_sb es1271_3) (by decide)
              have nc1310 : ck_1271 ≠ pg_1271 := own_exane (own_M1.x_ck es1271_4) (own_S1.x_pg es1271_3) (by decide)
              have nc1311 : ck_1271 ≠ pa_1271 := own_exane (own_M1.x_ck es1271_4) (own_S1.x_pa es1271_3) (by decide)
              have nc1312 : ck_1271 ≠ pp_1271 := own_exane (own_M1.x_ck es1271_4) (own_S1.x_pp es1271_3) (by decide)
              have Fb1313 := (own_M1.keep es1271_4 K1279 (ninS nc1288 (ninS nc1289 (ninS nc1290 (ninS nc1291 (ninS nc1292 (ninS nc1293 (ninS nc1294 nin0))))))) (ninS nc1295 (ninS nc1296 (ninS nc1297 (ninS nc1298 (ninS nc1299 (ninS nc1300 (ninS nc1301 nin0))))))) (ninS nc1302 (ninS nc1303 (ninS nc1304 (ninS nc1305 (ninS (Ne.symm es1271_5) (ninS nc1306 (ninS nc1307 nin0))))))) (ninS nc1308 (ninS nc1309 (ninS nc1310 (ninS (Ne.symm es1271_6) (ninS nc1311 (ninS nc1312 (ninS (Ne.symm es1271_7) nin0))))))))
              refine ziinc X1279 D 74 (l' := #[.val (.int p0), .val (.long p1), .second, .val (.long t), .second, .val (.int p3), .val (.int p4), .val (.long p5), .second, .val (.int a), .val (.int b), .val (.int r), .val (.int q), .val (.ref b1208), .val (.int (1 : Int32)), .val (.int (2 : Int32)), .val (.int (0 : Int32)), .val (.int (1 : Int32)), .unset, .unset]) rfl rfl rfl rfl (zi X1279 D 52 rfl rfl rfl  ?_)
              by_cases c1314 : q = (0 : Int32)
              · skip
                refine zY X1279 D 53 169 rfl rfl ((if0 _ _).trans (teq c1314).1) rfl ?_
                exact J3 T1279 _ (X1279.more (by decide) (by decide)) _ rfl N1279 (Nat.le_trans (own_zp O1270) K1279.1) _ tm_1271 (1 : Int32) (2 : Int32) HR1279
              · skip
                refine zN X1279 D 53 rfl rfl ((if0 _ _).trans (feq c1314).1) (za X1279 D 60 rfl rfl rfl rfl (zlN X1279 D 61 rfl rfl rfl  (zi X1279 D 62 rfl rfl rfl  ?_)))
                have HM1315 : own_MQ Z T1279.heap tm_1271 rc p4 l_1271 [e_1271] (fun _ => True) n0 e_1271 := Or.inl ⟨rfl, es1271_10, (own_T1.keep es1271_1 K1279 Fb1280), rfl⟩
                refine zvs X1279 D 63 hZ me71 hown (ow hw 286 rfl) (ow hw 287 rfl) (ow hw 289 rfl) (ow hw 288 rfl) (ow hw 290 rfl) (ow hw 2 rfl) rfl (own_RL.x_rl HR1279) (rnRC lh Z a0 hw [] b1208 tm_1271 rc (1 : Int32) t p4 ca yc l_1271 e_1271 [e_1271] (fun _ => True) sb_1271 mv_1271 pg_1271 na_1271 yn_1271 ad_1271 el_1271 ck_1271 yc_1271 T1279.heap n0 (Nat.le_trans (own_zp O1270) K1279.1) HR1279 HM1315 (own_LN.keep es1271_2 K1279 (ninS nc1281 (ninS nc1282 (ninS nc1283 (ninS nc1284 (ninS nc1285 (ninS nc1286 (ninS nc1287 nin0)))))))) HS1279 Fb1313 (O1270.keep K1279 (allS es1271_8 (allS es1271_11 (allS es1271_12 (allS es1271_13 (allS es1271_14 (allS es1271_15 (allS es1271_16 all0)))))))) SH SCa VCa hca es1271_8 es1271_9 es1271_17 es1271_18 es1271_19) hml [.long t, .int p4] [] (lenOf pd_5 rfl) rfl rfl rfl rfl rfl rfl (by decide) (by decide) fun v1316 T1316 L1316 X1316 hQ1316 => ?_
                obtain ⟨rfl, N1316q, hQ1316⟩ := hQ1316
                have N1316 := Fr.app N1279 N1316q
                obtain ⟨hz1316, HR1316⟩ := hQ1316
                refine ziinc X1316 D 64 (l' := #[.val (.int p0), .val (.long p1), .second, .val (.long t), .second, .val (.int p3), .val (.int p4), .val (.long p5), .second, .val (.int a), .val (.int b), .val (.int r), .val (.int q), .val (.ref b1208), .val (.int (1 : Int32)), .val (.int (2 : Int32)), .val (.int (0 : Int32)), .val (.int (0 : Int32)), .unset, .unset]) rfl rfl rfl rfl ?_
                exact J3 T1316 _ (X1316.more (by decide) (by decide)) _ rfl N1316 hz1316 _ tm_1271 (0 : Int32) (2 : Int32) HR1316
          · skip
            refine zvs X1224 D 58 hZ me70 hown (ow hw 354 rfl) (ow hw 355 rfl) (ow hw 357 rfl) (ow hw 356 rfl) (ow hw 358 rfl) (ow hw 2 rfl) rfl (own_RL.x_rl es1225_0) (rnA2 lh Z a0 hw [] b1208 rc t p4 p5 ca yc p3 p1 T1224.heap n0 (own_zp O1224) S1224 hx O1224 SH SCa VCa hca) hml [.long t, .int p4, .long p5] [] (lenOf pd_30 rfl) rfl rfl rfl rfl rfl rfl (by decide) (by decide) fun v1317 T1317 L1317 X1317 hQ1317 => ?_
            obtain ⟨rfl, N1317q, hQ1317⟩ := hQ1317
            have N1317 := Fr.app N1224 N1317q
            obtain ⟨O1317, S1317⟩ := hQ1317
            obtain ⟨tm_1318, l_1318, e_1318, sb_1318, pg_1318, na_1318, pa_1318, pp_1318, wa_1318, mv_1318, ad_1318, el_1318, l2_1318, e2_1318, sb2_1318, pg2_1318, na2_1318, mv2_1318, ad2_1318, el2_1318, ck2_1318, yn_1318, yn2_1318, yc2_1318, es1318_0, es1318_1, es1318_2, es1318_3, es1318_4, es1318_5, es1318_6, es1318_7, es1318_8, es1318_9, es1318_10, es1318_11, es1318_12, es1318_13, es1318_14, es1318_15, es1318_16, es1318_17, es1318_18, es1318_19, es1318_20, es1318_21, es1318_22, es1318_23, es1318_24, es1318_25, es1318_26, es1318_27⟩ := id S1317
            refine ziinc X1317 D 59 (l' := #[.val (.int p0), .val (.long p1), .second, .val (.long t), .second, .val (.int p3), .val (.int p4), .val (.long p5), .second, .val (.int a), .val (.int b), .val (.int r), .val (.int q), .val (.ref b1208), .val (.int (1 : Int32)), .val (.int (2 : Int32)), .unset, .unset, .unset, .unset]) rfl rfl rfl rfl (za X1317 D 45 rfl rfl rfl rfl (zvs X1317 D 46 hZ me63 hown (ow hw 40 rfl) (ow hw 41 rfl) (ow hw 43 rfl) (ow hw 42 rfl) (ow hw 44 rfl) (ow hw 2 rfl) rfl (own_RL.x_rl es1318_0) (rnRE0 lh Z a0 hw [] b1208 tm_1318 (2 : Int32) (0 : Int32) T1317.heap n0 (own_zp O1317) es1318_0 rfl) hml [] [] (lenOf pd_3 rfl) rfl rfl rfl rfl rfl rfl (by decide) (by decide) fun v1319 T1319 L1319 X1319 hQ1319 => ?_))
            obtain ⟨rfl, N1319q, hQ1319⟩ := hQ1319
            have N1319 := Fr.app N1317 N1319q
            refine zis X1319 D 47 (l' := #[.val (.int p0), .val (.long p1), .second, .val (.long t), .second, .val (.int p3), .val (.int p4), .val (.long p5), .second, .val (.int a), .val (.int b), .val (.int r), .val (.int q), .val (.ref b1208), .val (.int (1 : Int32)), .val (.int (2 : Int32)), .val (.int (0 : Int32)), .unset, .unset, .unset]) rfl rfl rfl (zi X1319 D 48 rfl rfl rfl  (zis X1319 D 49 (l' := #[.val (.int p0), .val (.long p1), .second, .val (.long t), .second, .val (.int p3), .val (.int p4), .val (.long p5), .second, .val (.int a), .val (.int b), .val (.int r), .val (.int q), .val (.ref b1208), .val (.int (1 : Int32)), .val (.int (2 : Int32)), .val (.int (0 : Int32)), .val (.int (2 : Int32)), .unset, .unset]) rfl rfl rfl (zi X1319 D 50 rfl rfl rfl  ?_)))
            by_cases c1320 : r = (0 : Int32)
            · skip
              refine zY X1319 D 51 153 rfl rfl ((if0 _ _).trans (teq c1320).1) rfl (zi X1319 D 52 rfl rfl rfl  ?_)
              by_cases c1321 : q = (0 : Int32)
              · skip
                refine zY X1319 D 53 169 rfl rfl ((if0 _ _).trans (teq c1321).1) rfl ?_
                exact J3 T1319 _ (X1319.more (by decide) (by decide)) _ hQ1319 N1319 (own_zp O1317) _ tm_1318 (2 : Int32) (2 : Int32) es1318_0
              · skip
                refine zN X1319 D 53 rfl rfl ((if0 _ _).trans (feq c1321).1) (za X1319 D 60 rfl rfl rfl rfl (zlN X1319 D 61 rfl rfl rfl  (zi X1319 D 62 rfl rfl rfl  ?_)))
                have HM1322 : own_MQ Z T1317.heap tm_1318 rc p4 l2_1318 [e_1318, e2_1318] (fun _ => True) n0 e2_1318 := Or.inr (Or.inr ⟨e_1318, p3, l_1318, rfl, es1318_17, es1318_18, es1318_1, rfl⟩)
                refine zvs X1319 D 63 hZ me71 hown (ow hw 286 rfl) (ow hw 287 rfl) (ow hw 289 rfl) (ow hw 288 rfl) (ow hw 290 rfl) (ow hw 2 rfl) hQ1319 (own_RL.x_rl es1318_0) (rnRC lh Z a0 hw [] b1208 tm_1318 rc (2 : Int32) t p4 ca yc l2_1318 e2_1318 ([e_1318, e2_1318]) (fun _ => True) sb2_1318 mv2_1318 pg2_1318 na2_1318 yn2_1318 ad2_1318 el2_1318 ck2_1318 yc2_1318 T1317.heap n0 (own_zp O1317) es1318_0 HM1322 es1318_5 es1318_6 es1318_7 O1317 SH SCa VCa hca es1318_15 es1318_16 es1318_25 es1318_26 es1318_27) hml [.long t, .int p4] [] (lenOf pd_5 rfl) rfl rfl rfl rfl rfl rfl (by decide) (by decide) fun v1323 T1323 L1323 X1323 hQ1323 => ?_
                obtain ⟨rfl, N1323q, hQ1323⟩ := hQ1323
                have N1323 := Fr.app N1319 N1323q
                obtain ⟨hz1323, HR1323⟩ := hQ1323
                refine ziinc X1323 D 64 (l' := #[.val (.int p0), .val (.long p1), .second, .val (.long t), .second, .val (.int p3), .val (.int p4), .val (.long p5), .second, .val (.int a), .val (.int b), .val (.int r), .val (.int q), .val (.ref b1208), .val (.int (1 : Int32)), .val (.int (2 : Int32)), .val (.int (0 : Int32)), .val (.int (1 : Int32)), .unset, .unset]) rfl rfl rfl rfl ?_
                exact J3 T1323 _ (X1323.more (by decide) (by decide)) _ rfl N1323 hz1323 _ tm_1318 (1 : Int32) (2 : Int32) HR1323
            · skip
              refine zN X1319 D 51 rfl rfl ((if0 _ _).trans (feq c1320).1) (za X1319 D 70 rfl rfl rfl rfl (zlN X1319 D 71 rfl rfl rfl  (zi X1319 D 72 rfl rfl rfl  ?_)))
              have HZ1324 : own_MZ Z T1317.heap mv_1318 (0 : Int32) := ⟨es1318_4.1, es1318_4.2.2.2.2.2.1⟩
              have HM1325 : own_MQ Z T1317.heap tm_1318 rc p3 l_1318 [e_1318, e2_1318] (fun h' => own_T1 Z h' tm_1318 rc p4 l2_1318 e2_1318) n0 e_1318 := Or.inr (Or.inl ⟨e2_1318, p4, l2_1318, rfl, es1318_17, es1318_18, es1318_1, rfl⟩)
              refine zvs X1319 D 73 hZ me71 hown (ow hw 286 rfl) (ow hw 287 rfl) (ow hw 289 rfl) (ow hw 288 rfl) (ow hw 290 rfl) (ow hw 2 rfl) hQ1319 (own_RL.x_rl es1318_0) (rnRA lh Z a0 hw [] b1208 tm_1318 rc (2 : Int32) p1 p3 ca yc l_1318 e_1318 ([e_1318, e2_1318]) (fun h' => own_T1 Z h' tm_1318 rc p4 l2_1318 e2_1318) sb_1318 mv_1318 pg_1318 na_1318 pa_1318 pp_1318 wa_1318 yn_1318 T1317.heap n0 (own_zp O1317) es1318_0 HM1325 es1318_2 es1318_3 HZ1324 O1317 SH SCa VCa hca es1318_15 es1318_16 es1318_19 es1318_20 es1318_21 es1318_22 es1318_23 es1318_24) hml [.long p1, .int p3] [] (lenOf pd_5 rfl) rfl rfl rfl rfl rfl rfl (by decide) (by decide) fun v1326 T1326 L1326 X1326 hQ1326 => ?_
              obtain ⟨rfl, N1326q, hQ1326⟩ := hQ1326
              have N1326 := Fr.app N1319 N1326q
              obtain ⟨K1326, HR1326, HT1326⟩ := hQ1326
              have nc1327 : l_1318 ≠ b1208 := own_exane (own_LN.x_l es1318_2) (own_RL.x_rl es1318_0) (by decide)
              have nc1328 : l_1318 ≠ tm_1318 := own_exane (own_LN.x_l es1318_2) (own_T2.x_tm es1318_1) (by decide)
              have nc1329 : l_1318 ≠ sb_1318 := own_exane (own_LN.x_l es1318_2) (own_S1.x_sb es1318_3) (by decide)
              have nc1330 : l_1318 ≠ pg_1318 := own_exane (own_LN.x_l es1318_2) (own_S1.x_pg es1318_3) (by decide)
              have nc1331 : l_1318 ≠ na_1318 := own_exane (own_LN.x_l es1318_2) (own_S1.x_na es1318_3) (by decide)
              have nc1332 : l_1318 ≠ pa_1318 := own_exane (own_LN.x_l es1318_2) (own_S1.x_pa es1318_3) (by decide)
              have nc1333 : l_1318 ≠ pp_1318 := own_exane (own_LN.x_l es1318_2) (own_S1.x_pp es1318_3) (by decide)
              have nc1334 : l_1318 ≠ wa_1318 := own_exane (own_LN.x_l es1318_2) (own_S1.x_wa es1318_3) (by decide)
              have nc1335 : l_1318 ≠ e_1318 := own_exane (own_LN.x_l es1318_2) (own_T2.x_e1 es1318_1) (by decide)
              have nc1336 : l_1318 ≠ e2_1318 := own_exane (own_LN.x_l es1318_2) (own_T2.x_e2 es1318_1) (by decide)
              have nc1337 : mv_1318 ≠ b1208 := own_exane (own_M0.x_mv es1318_4) (own_RL.x_rl es1318_0) (by decide)
              have nc1338 : mv_1318 ≠ tm_1318 := own_exane (own_M0.x_mv es1318_4) (own_T2.x_tm es1318_1) (by decide)
              have nc1339 : mv_1318 ≠ sb_1318 := own_exane (own_M0.x_mv es1318_4) (own_S1.x_sb es1318_3) (by decide)
              have nc1340 : mv_1318 ≠ pg_1318 := own_exane (own_M0.x_mv es1318_4) (own_S1.x_pg es1318_3) (by decide)
              have nc1341 : mv_1318 ≠ na_1318 := own_exane (own_M0.x_mv es1318_4) (own_S1.x_na es1318_3) (by decide)
              have nc1342 : mv_1318 ≠ pa_1318 := own_exane (own_M0.x_mv es1318_4) (own_S1.x_pa es1318_3) (by decide)
              have nc1343 : mv_1318 ≠ pp_1318 := own_exane (own_M0.x_mv es1318_4) (own_S1.x_pp es1318_3) (by decide)
              have nc1344 : mv_1318 ≠ wa_1318 := own_exane (own_M0.x_mv es1318_4) (own_S1.x_wa es1318_3) (by decide)
              have nc1345 : mv_1318 ≠ e_1318 := own_exane (own_M0.x_mv es1318_4) (own_T2.x_e1 es1318_1) (by decide)
              have nc1346 : mv_1318 ≠ e2_1318 := own_exane (own_M0.x_mv es1318_4) (own_T2.x_e2 es1318_1) (by decide)
              have nc1347 : ad_1318 ≠ b1208 := own_exane (own_M0.x_ad es1318_4) (own_RL.x_rl es1318_0) (by decide)
              have nc1348 : ad_1318 ≠ tm_1318 := own_exane (own_M0.x_ad es1318_4) (own_T2.x_tm es1318_1) (by decide)
              have nc1349 : ad_1318 ≠ sb_1318 := own_exane (own_M0.x_ad es1318_4) (own_S1.x_sb es1318_3) (by decide)
              have nc1350 : ad_1318 ≠ pg_1318 := own_exane (own_M0.x_ad es1318_4) (own_S1.x_pg es1318_3) (by decide)
              have nc1351 : ad_1318 ≠ na_1318 := own_exane (own_M0.x_ad es1318_4) (own_S1.x_na es1318_3) (by decide)
              have nc1352 : ad_1318 ≠ pa_1318 := own_exane (own_M0.x_ad es1318_4) (own_S1.x_pa es1318_3) (by decide)
              have nc1353 : ad_1318 ≠ pp_1318 := own_exane (own_M0.x_ad es1318_4) (own_S1.x_pp es1318_3) (by decide)
              have nc1354 : ad_1318 ≠ wa_1318 := own_exane (own_M0.x_ad es1318_4) (own_S1.x_wa es1318_3) (by decide)
              have nc1355 : ad_1318 ≠ e_1318 := own_exane (own_M0.x_ad es1318_4) (own_T2.x_e1 es1318_1) (by decide)
              have nc1356 : ad_1318 ≠ e2_1318 := own_exane (own_M0.x_ad es1318_4) (own_T2.x_e2 es1318_1) (by decide)
              have nc1357 : el_1318 ≠ b1208 := own_exane (own_M0.x_el es1318_4) (own_RL.x_rl es1318_0) (by decide)
              have nc1358 : el_1318 ≠ tm_1318 := own_exane (own_M0.x_el es1318_4) (own_T2.x_tm es1318_1) (by decide)
              have nc1359 : el_1318 ≠ sb_1318 := own_exane (own_M0.x_el es1318_4) (own_S1.x_sb es1318_3) (by decide)
              have nc1360 : el_1318 ≠ pg_1318 := own_exane (own_M0.x_el es1318_4) (own_S1.x_pg es1318_3) (by decide)
              have nc1361 : el_1318 ≠ na_1318 := own_exane (own_M0.x_el es1318_4) (own_S1.x_na es1318_3) (by decide)
              have nc1362 : l2_1318 ≠ b1208 := own_exane (own_LN.x_l es1318_5) (own_RL.x_rl es1318_0) (by decide)
              have nc1363 : l2_1318 ≠ tm_1318 := own_exane (own_LN.x_l es1318_5) (own_T2.x_tm es1318_1) (by decide)
              have nc1364 : l2_1318 ≠ sb_1318 := own_exane (own_LN.x_l es1318_5) (own_S1.x_sb es1318_3) (by decide)
              have nc1365 : l2_1318 ≠ pg_1318 := own_exane (own_LN.x_l es1318_5) (own_S1.x_pg es1318_3) (by decide)
              have nc1366 : l2_1318 ≠ na_1318 := own_exane (own_LN.x_l es1318_5) (own_S1.x_na es1318_3) (by decide)
              have nc1367 : l2_1318 ≠ pa_1318 := own_exane (own_LN.x_l es1318_5) (own_S1.x_pa es1318_3) (by decide)
              have nc1368 : l2_1318 ≠ pp_1318 := own_exane (own_LN.x_l es1318_5) (own_S1.x_pp es1318_3) (by decide)
              have nc1369 : l2_1318 ≠ wa_1318 := own_exane (own_LN.x_l es1318_5) (own_S1.x_wa es1318_3) (by decide)
              have nc1370 : l2_1318 ≠ e_1318 := own_exane (own_LN.x_l es1318_5) (own_T2.x_e1 es1318_1) (by decide)
              have nc1371 : l2_1318 ≠ e2_1318 := own_exane (own_LN.x_l es1318_5) (own_T2.x_e2 es1318_1) (by decide)
              have nc1372 : sb2_1318 ≠ b1208 := own_exane (own_S0.x_sb es1318_6) (own_RL.x_rl es1318_0) (by decide)
              have nc1373 : sb2_1318 ≠ tm_1318 := own_exane (own_S0.x_sb es1318_6) (own_T2.x_tm es1318_1) (by decide)
              have nc1374 : sb2_1318 ≠ pg_1318 := own_exane (own_S0.x_sb es1318_6) (own_S1.x_pg es1318_3) (by decide)
              have nc1375 : sb2_1318 ≠ na_1318 := own_exane (own_S0.x_sb es1318_6) (own_S1.x_na es1318_3) (by decide)
              have nc1376 : sb2_1318 ≠ pa_1318 := own_exane (own_S0.x_sb es1318_6) (own_S1.x_pa es1318_3) (by decide)
              have nc1377 : sb2_1318 ≠ pp_1318 := own_exane (own_S0.x_sb es1318_6) (own_S1.x_pp es1318_3) (by decide)
              have nc1378 : sb2_1318 ≠ wa_1318 := own_exane (own_S0.x_sb es1318_6) (own_S1.x_wa es1318_3) (by decide)
              have nc1379 : sb2_1318 ≠ e_1318 := own_exane (own_S0.x_sb es1318_6) (own_T2.x_e1 es1318_1) (by decide)
              have nc1380 : sb2_1318 ≠ e2_1318 := own_exane (own_S0.x_sb es1318_6) (own_T2.x_e2 es1318_1) (by decide)
              have nc1381 : pg2_1318 ≠ b1208 := own_exane (own_S0.x_pg es1318_6) (own_RL.x_rl es1318_0) (by decide)
              have nc1382 : pg2_1318 ≠ tm_1318 := own_exane (own_S0.x_pg es1318_6) (own_T2.x_tm es1318_1) (by decide)
              have nc1383 : pg2_1318 ≠ sb_1318 := own_exane (own_S0.x_pg es1318_6) (own_S1.x_sb es1318_3) (by decide)
              have nc1384 : pg2_1318 ≠ na_1318 := own_exane (own_S0.x_pg es1318_6) (own_S1.x_na es1318_3) (by decide)
              have nc1385 : pg2_1318 ≠ pa_1318 := own_exane (own_S0.x_pg es1318_6) (own_S1.x_pa es1318_3) (by decide)
              have nc1386 : pg2_1318 ≠ pp_1318 := own_exane (own_S0.x_pg es1318_6) (own_S1.x_pp es1318_3) (by decide)
              have nc1387 : pg2_1318 ≠ wa_1318 := own_exane (own_S0.x_pg es1318_6) (own_S1.x_wa es1318_3) (by decide)
              have nc1388 : pg2_1318 ≠ e_1318 := own_exane (own_S0.x_pg es1318_6) (own_T2.x_e1 es1318_1) (by decide)
              have nc1389 : pg2_1318 ≠ e2_1318 := own_exane (own_S0.x_pg es1318_6) (own_T2.x_e2 es1318_1) (by decide)
              have nc1390 : na2_1318 ≠ b1208 := own_exane (own_S0.x_na es1318_6) (own_RL.x_rl es1318_0) (by decide)
              have nc1391 : na2_1318 ≠ tm_1318 := own_exane (own_S0.x_na es1318_6) (own_T2.x_tm es1318_1) (by decide)
              have nc1392 : na2_1318 ≠ sb_1318 := own_exane (own_S0.x_na es1318_6) (own_S1.x_sb es1318_3) (by decide)
              have nc1393 : na2_1318 ≠ pg_1318 := own_exane (own_S0.x_na es1318_6) (own_S1.x_pg es1318_3) (by decide)
              have nc1394 : na2_1318 ≠ pa_1318 := own_exane (own_S0.x_na es1318_6) (own_S1.x_pa es1318_3) (by decide)
              have nc1395 : na2_1318 ≠ pp_1318 := own_exane (own_S0.x_na es1318_6) (own_S1.x_pp es1318_3) (by decide)
              have nc1396 : na2_1318 ≠ e_1318 := own_exane (own_S0.x_na es1318_6) (own_T2.x_e1 es1318_1) (by decide)
              have nc1397 : na2_1318 ≠ e2_1318 := own_exane (own_S0.x_na es1318_6) (own_T2.x_e2 es1318_1) (by decide)
              have nc1398 : mv2_1318 ≠ b1208 := own_exane (own_M1.x_mv es1318_7) (own_RL.x_rl es1318_0) (by decide)
              have nc1399 : mv2_1318 ≠ tm_1318 := own_exane (own_M1.x_mv es1318_7) (own_T2.x_tm es1318_1) (by decide)
              have nc1400 : mv2_1318 ≠ sb_1318 := own_exane (own_M1.x_mv es1318_7) (own_S1.x_sb es1318_3) (by decide)
              have nc1401 : mv2_1318 ≠ pg_1318 := own_exane (own_M1.x_mv es1318_7) (own_S1.x_pg es1318_3) (by decide)
              have nc1402 : mv2_1318 ≠ na_1318 := own_exane (own_M1.x_mv es1318_7) (own_S1.x_na es1318_3) (by decide)
              have nc1403 : mv2_1318 ≠ pa_1318 := own_exane (own_M1.x_mv es1318_7) (own_S1.x_pa es1318_3) (by decide)
              have nc1404 : mv2_1318 ≠ pp_1318 := own_exane (own_M1.x_mv es1318_7) (own_S1.x_pp es1318_3) (by decide)
              have nc1405 : mv2_1318 ≠ wa_1318 := own_exane (own_M1.x_mv es1318_7) (own_S1.x_wa es1318_3) (by decide)
              have nc1406 : mv2_1318 ≠ e_1318 := own_exane (own_M1.x_mv es1318_7) (own_T2.x_e1 es1318_1) (by decide)
              have nc1407 : mv2_1318 ≠ e2_1318 := own_exane (own_M1.x_mv es1318_7) (own_T2.x_e2 es1318_1) (by decide)
              have nc1408 : ad2_1318 ≠ b1208 := own_exane (own_M1.x_ad es1318_7) (own_RL.x_rl es1318_0) (by decide)
              have nc1409 : ad2_1318 ≠ tm_1318 := own_exane (own_M1.x_ad es1318_7) (own_T2.x_tm es1318_1) (by decide)
              have nc1410 : ad2_1318 ≠ sb_1318 := own_exane (own_M1.x_ad es1318_7) (own_S1.x_sb es1318_3) (by decide)
              have nc1411 : ad2_1318 ≠ pg_1318 := own_exane (own_M1.x_ad es1318_7) (own_S1.x_pg es1318_3) (by decide)
              have nc1412 : ad2_1318 ≠ na_1318 := own_exane (own_M1.x_ad es1318_7) (own_S1.x_na es1318_3) (by decide)
              have nc1413 : ad2_1318 ≠ pa_1318 := own_exane (own_M1.x_ad es1318_7) (own_S1.x_pa es1318_3) (by decide)
              have nc1414 : ad2_1318 ≠ pp_1318 := own_exane (own_M1.x_ad es1318_7) (own_S1.x_pp es1318_3) (by decide)
              have nc1415 : ad2_1318 ≠ wa_1318 := own_exane (own_M1.x_ad es1318_7) (own_S1.x_wa es1318_3) (by decide)
              have nc1416 : ad2_1318 ≠ e_1318 := own_exane (own_M1.x_ad es1318_7) (own_T2.x_e1 es1318_1) (by decide)
              have nc1417 : ad2_1318 ≠ e2_1318 := own_exane (own_M1.x_ad es1318_7) (own_T2.x_e2 es1318_1) (by decide)
              have nc1418 : el2_1318 ≠ b1208 := own_exane (own_M1.x_el es1318_7) (own_RL.x_rl es1318_0) (by decide)
              have nc1419 : el2_1318 ≠ tm_1318 := own_exane (own_M1.x_el es1318_7) (own_T2.x_tm es1318_1) (by decide)
              have nc1420 : el2_1318 ≠ sb_1318 := own_exane (own_M1.x_el es1318_7) (own_S1.x_sb es1318_3) (by decide)
              have nc1421 : el2_1318 ≠ pg_1318 := own_exane (own_M1.x_el es1318_7) (own_S1.x_pg es1318_3) (by decide)
              have nc1422 : el2_1318 ≠ na_1318 := own_exane (own_M1.x_el es1318_7) (own_S1.x_na es1318_3) (by decide)
              have nc1423 : el2_1318 ≠ pp_1318 := own_exane (own_M1.x_el es1318_7) (own_S1.x_pp es1318_3) (by decide)
              have nc1424 : el2_1318 ≠ wa_1318 := own_exane (own_M1.x_el es1318_7) (own_S1.x_wa es1318_3) (by decide)
              have nc1425 : el2_1318 ≠ e_1318 := own_exane (own_M1.x_el es1318_7) (own_T2.x_e1 es1318_1) (by decide)
              have nc1426 : el2_1318 ≠ e2_1318 := own_exane (own_M1.x_el es1318_7) (own_T2.x_e2 es1318_1) (by decide)
              have nc1427 : ck2_1318 ≠ b1208 := own_exane (own_M1.x_ck es1318_7) (own_RL.x_rl es1318_0) (by decide)
              have nc1428 : ck2_1318 ≠ tm_1318 := own_exane (own_M1.x_ck es1318_7) (own_T2.x_tm es1318_1) (by decide)
              have nc1429 : ck2_1318 ≠ sb_1318 := own_exane (own_M1.x_ck es1318_7) (own_S1.x_sb es1318_3) (by decide)
              have nc1430 : ck2_1318 ≠ pg_1318 := own_exane (own_M1.x_ck es1318_7) (own_S1.x_pg es1318_3) (by decide)
              have nc1431 : ck2_1318 ≠ pa_1318 := own_exane (own_M1.x_ck es1318_7) (own_S1.x_pa es1318_3) (by decide)
              have nc1432 : ck2_1318 ≠ pp_1318 := own_exane (own_M1.x_ck es1318_7) (own_S1.x_pp es1318_3) (by decide)
              have nc1433 : ck2_1318 ≠ e_1318 := own_exane (own_M1.x_ck es1318_7) (own_T2.x_e1 es1318_1) (by decide)
              have nc1434 : ck2_1318 ≠ e2_1318 := own_exane (own_M1.x_ck es1318_7) (own_T2.x_e2 es1318_1) (by decide)
              have Fb1435 := (O1317.keep K1326 (allS es1318_15 (allS es1318_16 (allS es1318_19 (allS es1318_20 (allS es1318_21 (allS es1318_22 (allS es1318_23 (allS es1318_24 (allS es1318_17 (allS es1318_18 all0)))))))))))
              have Fb1436 := (own_LN.keep es1318_2 K1326 (ninS nc1327 (ninS nc1328 (ninS nc1329 (ninS nc1330 (ninS nc1331 (ninS nc1332 (ninS nc1333 (ninS nc1334 (ninS nc1335 (ninS nc1336 nin0)))))))))))
              have Fb1437 := (own_LN.keep es1318_5 K1326 (ninS nc1362 (ninS nc1363 (ninS nc1364 (ninS nc1365 (ninS nc1366 (ninS nc1367 (ninS nc1368 (ninS nc1369 (ninS nc1370 (ninS nc1371 nin0)))))))))))
              have Fb1438 := (own_S0.keep es1318_6 K1326 (ninS nc1372 (ninS nc1373 (ninS (Ne.symm es1318_8) (ninS nc1374 (ninS nc1375 (ninS nc1376 (ninS nc1377 (ninS nc1378 (ninS nc1379 (ninS nc1380 nin0)))))))))) (ninS nc1381 (ninS nc1382 (ninS nc1383 (ninS (Ne.symm es1318_9) (ninS nc1384 (ninS nc1385 (ninS nc1386 (ninS nc1387 (ninS nc1388 (ninS nc1389 nin0)))))))))) (ninS nc1390 (ninS nc1391 (ninS nc1392 (ninS nc1393 (ninS (Ne.symm es1318_10) (ninS nc1394 (ninS nc1395 (ninS (Ne.symm es1318_11) (ninS nc1396 (ninS nc1397 nin0)))))))))))
              have Fb1439 := (own_M1.keep es1318_7 K1326 (ninS nc1398 (ninS nc1399 (ninS nc1400 (ninS nc1401 (ninS nc1402 (ninS nc1403 (ninS nc1404 (ninS nc1405 (ninS nc1406 (ninS nc1407 nin0)))))))))) (ninS nc1408 (ninS nc1409 (ninS nc1410 (ninS nc1411 (ninS nc1412 (ninS nc1413 (ninS nc1414 (ninS nc1415 (ninS nc1416 (ninS nc1417 nin0)))))))))) (ninS nc1418 (ninS nc1419 (ninS nc1420 (ninS nc1421 (ninS nc1422 (ninS (Ne.symm es1318_12) (ninS nc1423 (ninS nc1424 (ninS nc1425 (ninS nc1426 nin0)))))))))) (ninS nc1427 (ninS nc1428 (ninS nc1429 (ninS nc1430 (ninS (Ne.symm es1318_13) (ninS nc1431 (ninS nc1432 (ninS (Ne.symm es1318_14) (ninS nc1433 (ninS nc1434 nin0)))))))))))
              have Fb1440 := (own_MZ.keep HZ1324 K1326 (ninS nc1337 (ninS nc1338 (ninS nc1339 (ninS nc1340 (ninS nc1341 (ninS nc1342 (ninS nc1343 (ninS nc1344 (ninS nc1345 (ninS nc1346 nin0)))))))))))
              have HU1326 : own_T1 Z T1326.heap tm_1318 rc p4 l2_1318 e2_1318 := HT1326
              refine ziinc X1326 D 74 (l' := #[.val (.int p0), .val (.long p1), .second, .val (.long t), .second, .val (.int p3), .val (.int p4), .val (.long p5), .second, .val (.int a), .val (.int b), .val (.int r), .val (.int q), .val (.ref b1208), .val (.int (1 : Int32)), .val (.int (2 : Int32)), .val (.int (0 : Int32)), .val (.int (1 : Int32)), .unset, .unset]) rfl rfl rfl rfl (zi X1326 D 52 rfl rfl rfl  ?_)
              by_cases c1441 : q = (0 : Int32)
              · skip
                refine zY X1326 D 53 169 rfl rfl ((if0 _ _).trans (teq c1441).1) rfl ?_
                exact J3 T1326 _ (X1326.more (by decide) (by decide)) _ rfl N1326 (Nat.le_trans (own_zp O1317) K1326.1) _ tm_1318 (1 : Int32) (2 : Int32) HR1326
              · skip
                refine zN X1326 D 53 rfl rfl ((if0 _ _).trans (feq c1441).1) (za X1326 D 60 rfl rfl rfl rfl (zlN X1326 D 61 rfl rfl rfl  (zi X1326 D 62 rfl rfl rfl  ?_)))
                have HM1442 : own_MQ Z T1326.heap tm_1318 rc p4 l2_1318 [e2_1318] (fun _ => True) n0 e2_1318 := Or.inl ⟨rfl, es1318_18, HU1326, rfl⟩
                refine zvs X1326 D 63 hZ me71 hown (ow hw 286 rfl) (ow hw 287 rfl) (ow hw 289 rfl) (ow hw 288 rfl) (ow hw 290 rfl) (ow hw 2 rfl) rfl (own_RL.x_rl HR1326) (rnRC lh Z a0 hw [] b1208 tm_1318 rc (1 : Int32) t p4 ca yc l2_1318 e2_1318 [e2_1318] (fun _ => True) sb2_1318 mv2_1318 pg2_1318 na2_1318 yn2_1318 ad2_1318 el2_1318 ck2_1318 yc2_1318 T1326.heap n0 (Nat.le_trans (own_zp O1317) K1326.1) HR1326 HM1442 Fb1437 Fb1438 Fb1439 Fb1435 SH SCa VCa hca es1318_15 es1318_16 es1318_25 es1318_26 es1318_27) hml [.long t, .int p4] [] (lenOf pd_5 rfl) rfl rfl rfl rfl rfl rfl (by decide) (by decide) fun v1443 T1443 L1443 X1443 hQ1443 => ?_
                obtain ⟨rfl, N1443q, hQ1443⟩ := hQ1443
                have N1443 := Fr.app N1326 N1443q
                obtain ⟨hz1443, HR1443⟩ := hQ1443
                refine ziinc X1443 D 64 (l' := #[.val (.int p0), .val (.long p1), .second, .val (.long t), .second, .val (.int p3), .val (.int p4), .val (.long p5), .second, .val (.int a), .val (.int b), .val (.int r), .val (.int q), .val (.ref b1208), .val (.int (1 : Int32)), .val (.int (2 : Int32)), .val (.int (0 : Int32)), .val (.int (0 : Int32)), .unset, .unset]) rfl rfl rfl rfl ?_
                exact J3 T1443 _ (X1443.more (by decide) (by decide)) _ rfl N1443 hz1443 _ tm_1318 (0 : Int32) (2 : Int32) HR1443
    refine ziN X0 D 75 rfl rfl rfl  (zic X0 D 76 1 rfl rfl rfl (ziand X0 D 77 _ rfl rfl rfl ?_))
    by_cases c1444 : (p0 &&& (1 : Int32)) = (0 : Int32)
    · skip
      refine zY X0 D 78 20 rfl rfl ((if0 _ _).trans (teq c1444).1) rfl (zic X0 D 79 0 rfl rfl rfl (zis X0 D 80 (l' := #[.val (.int p0), .val (.long p1), .second, .val (.long t), .second, .val (.int p3), .val (.int p4), .val (.long p5), .second, .val (.int (0 : Int32)), .unset, .unset, .unset, .unset, .unset, .unset, .unset, .unset, .unset, .unset]) rfl rfl rfl (ziN X0 D 81 rfl rfl rfl  (zic X0 D 82 2 rfl rfl rfl (ziand X0 D 83 _ rfl rfl rfl ?_)))))
      by_cases c1445 : (p0 &&& (2 : Int32)) = (0 : Int32)
      · skip
        refine zY X0 D 84 33 rfl rfl ((if0 _ _).trans (teq c1445).1) rfl (zic X0 D 85 0 rfl rfl rfl (zis X0 D 86 (l' := #[.val (.int p0), .val (.long p1), .second, .val (.long t), .second, .val (.int p3), .val (.int p4), .val (.long p5), .second, .val (.int (0 : Int32)), .val (.int (0 : Int32)), .unset, .unset, .unset, .unset, .unset, .unset, .unset, .unset, .unset]) rfl rfl rfl (zi X0 D 87 rfl rfl rfl  (zY X0 D 88 51 rfl rfl ((if0 _ _).trans (teq ((by decide) : (0 : Int32) = (0 : Int32))).1) rfl (zic X0 D 89 0 rfl rfl rfl (zis X0 D 90 (l' := #[.val (.int p0), .val (.long p1), .second, .val (.long t), .second, .val (.int p3), .val (.int p4), .val (.long p5), .second, .val (.int (0 : Int32)), .val (.int (0 : Int32)), .val (.int (0 : Int32)), .unset, .unset, .unset, .unset, .unset, .unset, .unset, .unset]) rfl rfl rfl (zi X0 D 91 rfl rfl rfl  (zY X0 D 92 70 rfl rfl ((if0 _ _).trans (teq ((by decide) : (0 : Int32) = (0 : Int32))).1) rfl (zic X0 D 93 0 rfl rfl rfl (zis X0 D 94 (l' := #[.val (.int p0), .val (.long p1), .second, .val (.long t), .second, .val (.int p3), .val (.int p4), .val (.long p5), .second, .val (.int (0 : Int32)), .val (.int (0 : Int32)), .val (.int (0 : Int32)), .val (.int (0 : Int32)), .unset, .unset, .unset, .unset, .unset, .unset, .unset]) rfl rfl rfl ?_))))))))))
        exact J2 (0 : Int32) (0 : Int32) (0 : Int32) (0 : Int32) (by decide) (by decide)
      · skip
        refine zN X0 D 84 rfl rfl ((if0 _ _).trans (feq c1445).1) (zic X0 D 95 1 rfl rfl rfl (zgo X0 D 96 34 rfl rfl rfl (zis X0 D 86 (l' := #[.val (.int p0), .val (.long p1), .second, .val (.long t), .second, .val (.int p3), .val (.int p4), .val (.long p5), .second, .val (.int (0 : Int32)), .val (.int (1 : Int32)), .unset, .unset, .unset, .unset, .unset, .unset, .unset, .unset, .unset]) rfl rfl rfl (zi X0 D 87 rfl rfl rfl  (zY X0 D 88 51 rfl rfl ((if0 _ _).trans (teq ((by decide) : (0 : Int32) = (0 : Int32))).1) rfl (zic X0 D 89 0 rfl rfl rfl (zis X0 D 90 (l' := #[.val (.int p0), .val (.long p1), .second, .val (.long t), .second, .val (.int p3), .val (.int p4), .val (.long p5), .second, .val (.int (0 : Int32)), .val (.int (1 : Int32)), .val (.int (0 : Int32)), .unset, .unset, .unset, .unset, .unset, .unset, .unset, .unset]) rfl rfl rfl (zi X0 D 91 rfl rfl rfl  (zN X0 D 92 rfl rfl ((if0 _ _).trans (feq ((by decide) : ¬ ((1 : Int32) = (0 : Int32)))).1) (ziN X0 D 97 rfl rfl rfl  (zbipush X0 D 98 8 rfl rfl rfl (ziand X0 D 99 _ rfl rfl rfl ?_))))))))))))
        by_cases c1446 : (p0 &&& (8 : Int32)) = (0 : Int32)
        · skip
          refine zY X0 D 100 70 rfl rfl ((if0 _ _).trans (teq c1446).1) rfl (zic X0 D 93 0 rfl rfl rfl (zis X0 D 94 (l' := #[.val (.int p0), .val (.long p1), .second, .val (.long t), .second, .val (.int p3), .val (.int p4), .val (.long p5), .second, .val (.int (0 : Int32)), .val (.int (1 : Int32)), .val (.int (0 : Int32)), .val (.int (0 : Int32)), .unset, .unset, .unset, .unset, .unset, .unset, .unset]) rfl rfl rfl ?_))
          exact J2 (0 : Int32) (1 : Int32) (0 : Int32) (0 : Int32) (by decide) (by decide)
        · skip
          refine zN X0 D 100 rfl rfl ((if0 _ _).trans (feq c1446).1) (zic X0 D 101 1 rfl rfl rfl (zgo X0 D 102 71 rfl rfl rfl (zis X0 D 94 (l' := #[.val (.int p0), .val (.long p1), .second, .val (.long t), .second, .val (.int p3), .val (.int p4), .val (.long p5), .second, .val (.int (0 : Int32)), .val (.int (1 : Int32)), .val (.int (0 : Int32)), .val (.int (1 : Int32)), .unset, .unset, .unset, .unset, .unset, .unset, .unset]) rfl rfl rfl ?_)))
          exact J2 (0 : Int32) (1 : Int32) (0 : Int32) (1 : Int32) (by decide) (by decide)
    · skip
      refine zN X0 D 78 rfl rfl ((if0 _ _).trans (feq c1444).1) (zic X0 D 103 1 rfl rfl rfl (zgo X0 D 104 21 rfl rfl rfl (zis X0 D 80 (l' := #[.val (.int p0), .val (.long p1), .second, .val (.long t), .second, .val (.int p3), .val (.int p4), .val (.long p5), .second, .val (.int (1 : Int32)), .unset, .unset, .unset, .unset, .unset, .unset, .unset, .unset, .unset, .unset]) rfl rfl rfl (ziN X0 D 81 rfl rfl rfl  (zic X0 D 82 2 rfl rfl rfl (ziand X0 D 83 _ rfl rfl rfl ?_))))))
      by_cases c1447 : (p0 &&& (2 : Int32)) = (0 : Int32)
      · skip
        refine zY X0 D 84 33 rfl rfl ((if0 _ _).trans (teq c1447).1) rfl (zic X0 D 85 0 rfl rfl rfl (zis X0 D 86 (l' := #[.val (.int p0), .val (.long p1), .second, .val (.long t), .second, .val (.int p3), .val (.int p4), .val (.long p5), .second, .val (.int (1 : Int32)), .val (.int (0 : Int32)), .unset, .unset, .unset, .unset, .unset, .unset, .unset, .unset, .unset]) rfl rfl rfl (zi X0 D 87 rfl rfl rfl  (zN X0 D 88 rfl rfl ((if0 _ _).trans (feq ((by decide) : ¬ ((1 : Int32) = (0 : Int32)))).1) (ziN X0 D 105 rfl rfl rfl  (zic X0 D 106 4 rfl rfl rfl (ziand X0 D 107 _ rfl rfl rfl ?_)))))))
        by_cases c1448 : (p0 &&& (4 : Int32)) = (0 : Int32)
        · skip
          refine zY X0 D 108 51 rfl rfl ((if0 _ _).trans (teq c1448).1) rfl (zic X0 D 89 0 rfl rfl rfl (zis X0 D 90 (l' := #[.val (.int p0), .val (.long p1), .second, .val (.long t), .second, .val (.int p3), .val (.int p4), .val (.long p5), .second, .val (.int (1 : Int32)), .val (.int (0 : Int32)), .val (.int (0 : Int32)), .unset, .unset, .unset, .unset, .unset, .unset, .unset, .unset]) rfl rfl rfl (zi X0 D 91 rfl rfl rfl  (zY X0 D 92 70 rfl rfl ((if0 _ _).trans (teq ((by decide) : (0 : Int32) = (0 : Int32))).1) rfl (zic X0 D 93 0 rfl rfl rfl (zis X0 D 94 (l' := #[.val (.int p0), .val (.long p1), .second, .val (.long t), .second, .val (.int p3), .val (.int p4), .val (.long p5), .second, .val (.int (1 : Int32)), .val (.int (0 : Int32)), .val (.int (0 : Int32)), .val (.int (0 : Int32)), .unset, .unset, .unset, .unset, .unset, .unset, .unset]) rfl rfl rfl ?_))))))
          exact J2 (1 : Int32) (0 : Int32) (0 : Int32) (0 : Int32) (by decide) (by decide)
        · skip
          refine zN X0 D 108 rfl rfl ((if0 _ _).trans (feq c1448).1) (zic X0 D 109 1 rfl rfl rfl (zgo X0 D 110 52 rfl rfl rfl (zis X0 D 90 (l' := #[.val (.int p0), .val (.long p1), .second, .val (.long t), .second, .val (.int p3), .val (.int p4), .val (.long p5), .second, .val (.int (1 : Int32)), .val (.int (0 : Int32)), .val (.int (1 : Int32)), .unset, .unset, .unset, .unset, .unset, .unset, .unset, .unset]) rfl rfl rfl (zi X0 D 91 rfl rfl rfl  (zY X0 D 92 70 rfl rfl ((if0 _ _).trans (teq ((by decide) : (0 : Int32) = (0 : Int32))).1) rfl (zic X0 D 93 0 rfl rfl rfl (zis X0 D 94 (l' := #[.val (.int p0), .val (.long p1), .second, .val (.long t), .second, .val (.int p3), .val (.int p4), .val (.long p5), .second, .val (.int (1 : Int32)), .val (.int (0 : Int32)), .val (.int (1 : Int32)), .val (.int (0 : Int32)), .unset, .unset, .unset, .unset, .unset, .unset, .unset]) rfl rfl rfl ?_)))))))
          exact J2 (1 : Int32) (0 : Int32) (1 : Int32) (0 : Int32) (by decide) (by decide)
      · skip
        refine zN X0 D 84 rfl rfl ((if0 _ _).trans (feq c1447).1) (zic X0 D 95 1 rfl rfl rfl (zgo X0 D 96 34 rfl rfl rfl (zis X0 D 86 (l' := #[.val (.int p0), .val (.long p1), .second, .val (.long t), .second, .val (.int p3), .val (.int p4), .val (.long p5), .second, .val (.int (1 : Int32)), .val (.int (1 : Int32)), .unset, .unset, .unset, .unset, .unset, .unset, .unset, .unset, .unset]) rfl rfl rfl (zi X0 D 87 rfl rfl rfl  (zN X0 D 88 rfl rfl ((if0 _ _).trans (feq ((by decide) : ¬ ((1 : Int32) = (0 : Int32)))).1) (ziN X0 D 105 rfl rfl rfl  (zic X0 D 106 4 rfl rfl rfl (ziand X0 D 107 _ rfl rfl rfl ?_))))))))
        by_cases c1449 : (p0 &&& (4 : Int32)) = (0 : Int32)
        · skip
          refine zY X0 D 108 51 rfl rfl ((if0 _ _).trans (teq c1449).1) rfl (zic X0 D 89 0 rfl rfl rfl (zis X0 D 90 (l' := #[.val (.int p0), .val (.long p1), .second, .val (.long t), .second, .val (.int p3), .val (.int p4), .val (.long p5), .second, .val (.int (1 : Int32)), .val (.int (1 : Int32)), .val (.int (0 : Int32)), .unset, .unset, .unset, .unset, .unset, .unset, .unset, .unset]) rfl rfl rfl (zi X0 D 91 rfl rfl rfl  (zN X0 D 92 rfl rfl ((if0 _ _).trans (feq ((by decide) : ¬ ((1 : Int32) = (0 : Int32)))).1) (ziN X0 D 97 rfl rfl rfl  (zbipush X0 D 98 8 rfl rfl rfl (ziand X0 D 99 _ rfl rfl rfl ?_)))))))
          by_cases c1450 : (p0 &&& (8 : Int32)) = (0 : Int32)
          · skip
            refine zY X0 D 100 70 rfl rfl ((if0 _ _).trans (teq c1450).1) rfl (zic X0 D 93 0 rfl rfl rfl (zis X0 D 94 (l' := #[.val (.int p0), .val (.long p1), .second, .val (.long t), .second, .val (.int p3), .val (.int p4), .val (.long p5), .second, .val (.int (1 : Int32)), .val (.int (1 : Int32)), .val (.int (0 : Int32)), .val (.int (0 : Int32)), .unset, .unset, .unset, .unset, .unset, .unset, .unset]) rfl rfl rfl ?_))
            exact J2 (1 : Int32) (1 : Int32) (0 : Int32) (0 : Int32) (by decide) (by decide)
          · skip
            refine zN X0 D 100 rfl rfl ((if0 _ _).trans (feq c1450).1) (zic X0 D 101 1 rfl rfl rfl (zgo X0 D 102 71 rfl rfl rfl (zis X0 D 94 (l' := #[.val (.int p0), .val (.long p1), .second, .val (.long t), .second, .val (.int p3), .val (.int p4), .val (.long p5), .second, .val (.int (1 : Int32)), .val (.int (1 : Int32)), .val (.int (0 : Int32)), .val (.int (1 : Int32)), .unset, .unset, .unset, .unset, .unset, .unset, .unset]) rfl rfl rfl ?_)))
            exact J2 (1 : Int32) (1 : Int32) (0 : Int32) (1 : Int32) (by decide) (by decide)
        · skip
          refine zN X0 D 108 rfl rfl ((if0 _ _).trans (feq c1449).1) (zic X0 D 109 1 rfl rfl rfl (zgo X0 D 110 52 rfl rfl rfl (zis X0 D 90 (l' := #[.val (.int p0), .val (.long p1), .second, .val (.long t), .second, .val (.int p3), .val (.int p4), .val (.long p5), .second, .val (.int (1 : Int32)), .val (.int (1 : Int32)), .val (.int (1 : Int32)), .unset, .unset, .unset, .unset, .unset, .unset, .unset, .unset]) rfl rfl rfl (zi X0 D 91 rfl rfl rfl  (zN X0 D 92 rfl rfl ((if0 _ _).trans (feq ((by decide) : ¬ ((1 : Int32) = (0 : Int32)))).1) (ziN X0 D 97 rfl rfl rfl  (zbipush X0 D 98 8 rfl rfl rfl (ziand X0 D 99 _ rfl rfl rfl ?_))))))))
          by_cases c1451 : (p0 &&& (8 : Int32)) = (0 : Int32)
          · skip
            refine zY X0 D 100 70 rfl rfl ((if0 _ _).trans (teq c1451).1) rfl (zic X0 D 93 0 rfl rfl rfl (zis X0 D 94 (l' := #[.val (.int p0), .val (.long p1), .second, .val (.long t), .second, .val (.int p3), .val (.int p4), .val (.long p5), .second, .val (.int (1 : Int32)), .val (.int (1 : Int32)), .val (.int (1 : Int32)), .val (.int (0 : Int32)), .unset, .unset, .unset, .unset, .unset, .unset, .unset]) rfl rfl rfl ?_))
            exact J2 (1 : Int32) (1 : Int32) (1 : Int32) (0 : Int32) (by decide) (by decide)
          · skip
            refine zN X0 D 100 rfl rfl ((if0 _ _).trans (feq c1451).1) (zic X0 D 101 1 rfl rfl rfl (zgo X0 D 102 71 rfl rfl rfl (zis X0 D 94 (l' := #[.val (.int p0), .val (.long p1), .second, .val (.long t), .second, .val (.int p3), .val (.int p4), .val (.long p5), .second, .val (.int (1 : Int32)), .val (.int (1 : Int32)), .val (.int (1 : Int32)), .val (.int (1 : Int32)), .unset, .unset, .unset, .unset, .unset, .unset, .unset]) rfl rfl rfl ?_)))
            exact J2 (1 : Int32) (1 : Int32) (1 : Int32) (1 : Int32) (by decide) (by decide)
  refine zlN X0 D 111 rfl rfl rfl  (zlN X0 D 112 rfl rfl rfl  (zlcmp X0 D 113 _ rfl rfl rfl ?_))
  by_cases c1452 : (lcmpW p2 p1) = (0 : Int32)
  · skip
    refine zN X0 D 114 rfl rfl ((if0 _ _).trans (teq c1452).2) (zlN X0 D 115 rfl rfl rfl  (zlconst X0 D 116 1 rfl rfl rfl (zladd X0 D 117 _ rfl rfl rfl (zlstoreN X0 D 118 (l' := #[.val (.int p0), .val (.long p1), .second, .val (.long (p1 + (1 : Int64))), .second, .val (.int p3), .val (.int p4), .val (.long p5), .second, .unset, .unset, .unset, .unset, .unset, .unset, .unset, .unset, .unset, .unset, .unset]) rfl rfl rfl ?_))))
    exact J1 _ (own_succ_ne p1)
  · skip
    refine zY X0 D 114 10 rfl rfl ((if0 _ _).trans (feq c1452).2) rfl ?_
    exact J1 _ (fun q => c1452 ((lw_eq _ _).mpr q))
theorem own_size {T : Jvm.Term} {args : Array Value} {s : State} {t : Addr} {cl : Cell} (et : T.eval args s none [] s = some (.ref t)) (ha : s.arrayAt? t = some cl) (c1 : (Jvm.Cond.eq (Jvm.Term.length T) (Jvm.Term.int (256 : Int32))).value args s none s [] = some true) : cl.slots.size = 256 := by
  have hlen := eqv_i (F := Jvm.Term.int (256 : Int32)) rfl c1
  have hlt : cl.slots.size < 2147483648 := by
    simp only [Term.eval, et, ha, Option.bind_eq_bind, Option.bind_some] at hlen
    by_cases hlt : cl.slots.size < 2147483648
    · exact hlt
    · simp [hlt] at hlen
  rw [len_f et ha hlt] at hlen
  have e1 : cl.slots.size.toInt32 = (256 : Int32) := Value.int.inj (Option.some.inj hlen)
  have e2 := congrArg Int32.toInt e1
  rw [len_toInt hlt] at e2
  have e3 : (256 : Int32).toInt = 256 := by decide
  omega
theorem own_stat {args : Array Value} {Z : State} (hs : ∀ d ∈ jdkStatics_1, d.before args Z = true) (hi : (Jvm.Cond.initialized "java/lang/Integer$IntegerCache").before args Z = true) : ∃ (rc ca : Addr) (yc : Nat → Value), Sta Z Z.heap "java/util/Collections$ReverseComparator" "REVERSE_ORDER" "Ljava/util/Collections$ReverseComparator;" (.ref rc) ∧ Exa Z Z.heap rc "java/util/Collections$ReverseComparator" ∧ Sta Z Z.heap "java/lang/Integer$IntegerCache" "high" "I" (.int (127 : Int32)) ∧ Sta Z Z.heap "java/lang/Integer$IntegerCache" "cache" "[Ljava/lang/Integer;" (.ref ca) ∧ Av Z Z.heap ca (.object "java/lang/Integer") 256 yc ∧
    ∀ q, q < 256 → ∃ r, yc q = .ref r ∧ Exa Z Z.heap r "java/lang/Integer" ∧ Fld Z Z.heap r "java/lang/Integer" "value" "I" (.int (Int32.ofNat q - (128 : Int32))) := by
  have g' : ∀ (i : Nat) {d : Jvm.Cond}, jdkStatics_1[i]? = some d → d.before args Z = true := fun i d h => hs d (List.mem_of_getElem? h)
  have g : ∀ (i : Nat) {d : Jvm.Cond}, jdkStatics_1[i]? = some d → d.value args Z none Z [] = some true := fun i d h => Cond.before_iff.mp (g' i h)
  have c2 := g 2 rfl
  obtain ⟨rc, e1⟩ := exa_v c2
  have e2 := eqv_i (F := Jvm.Term.int (127 : Int32)) rfl (g 6 rfl)
  have c7 := g 7 rfl
  obtain ⟨ca, e3⟩ := arr_v c7
  obtain ⟨cl, Ar⟩ := Arr.start e3 c7
  have har : Z.arrayAt? ca = some cl := Ar.fin (Vm.Alike.refl _)
  have hsz := own_size e3 har (g 9 rfl)
  have hel : ∀ q, q < 256 → ∃ r, cl.slots[q]? = some (.ref r) ∧ Exa Z Z.heap r "java/lang/Integer" ∧ Fld Z Z.heap r "java/lang/Integer" "value" "I" (.int (Int32.ofNat q - (128 : Int32))) := by
    intro q hq
    have h := Cond.all_elim e3 har (g 10 rfl) q (by omega)
    obtain ⟨h1, h2⟩ := and_e h
    obtain ⟨r, er⟩ := exa_v h1
    refine ⟨r, ?_, exa_at er h1, Fld.start ?_⟩
    · have := (elem_in er (show (Jvm.Term.static "java/lang/Integer$IntegerCache" "cache" "[Ljava/lang/Integer;").eval args Z none [q] Z = some (.ref ca) from e3) (show (Jvm.Term.index 0).eval args Z none [q] Z = some (.int q.toInt32) from rfl) Ar.1).2
      rw [oNat (len_toInt (by omega))] at this
      exact this
    · have := eqv_i (y := q.toInt32 - 128) rfl h2
      rw [fld_at er] at this
      exact this
  exact ⟨rc, ca, fun q => cl.slots[q]?.getD .null, Sta.start e1 (Or.inl (g' 1 rfl)), Exa.start e1 c2, Sta.start e2 (Or.inl (g' 4 rfl)), Sta.start e3 (Or.inr ⟨hi, g' 5 rfl⟩), ⟨cl, Ar, hsz, fun q hq => by
    obtain ⟨r, er, -⟩ := hel q hq
    show cl.slots[q]? = some (cl.slots[q]?.getD .null)
    rw [er]; rfl⟩, fun q hq => by
    obtain ⟨r, er, x⟩ := hel q hq
    exact ⟨r, by show cl.slots[q]?.getD .null = _; rw [er]; rfl, x⟩⟩
set_option maxRecDepth 65536 in
set_option maxHeartbeats 40000000 in
theorem comes_1 {Post : Tables → Env → Array Value → State → Outcome → State → Prop} (hpost : ∀ tb e args s v u, (limb_1_1.after args s (.returned v) u = true ∧ limb_1_2.after args s (.returned v) u = true ∧ True) → FrameEnd s (.returned v) u (Jvm.fieldLocs frame_1_writes args s ++ Jvm.arrayLocs frame_1_arrays args s ++ Jvm.staticLocs frame_1_statics s) 72 448 → Post tb e args s (.returned v) u) :
    ArmFor flags0 classFile x code maxLocals ret World_1 tables_1 room_1 Calls_1 rest_1 Pre_1 Post := by
  intro l hfl _ _ p e ha hc hk s m args below hf hA hF happ hP
  obtain ⟨hcalls, hrest, hpre⟩ := hP
  obtain ⟨-, -, -, hnamed, -, -, -, hat⟩ := (Spec.applies_iff hf).mp happ
  obtain ⟨hg, hn⟩ := and_e (Cond.before_iff.mp (show (Jvm.Cond.and given_1 narrow_1).before args s = true from hpre))
  obtain ⟨g0, hg0⟩ := and_e hg
  obtain ⟨ga0, hg1⟩ := and_e hg0
  obtain ⟨ga1, hg2⟩ := and_e hg1
  obtain ⟨ga2, hg3⟩ := and_e hg2
  obtain ⟨ga3, hg4⟩ := and_e hg3
  obtain ⟨ga4, hg5⟩ := and_e hg4
  obtain ⟨w0, w1, w2, w3, w4, w5, rfl⟩ : ∃ w0 w1 w2 w3 w4 w5 : Value, args = #[w0, w1, w2, w3, w4, w5] := by
    have hs : args.size = 6 := by simpa [Cond.value, given_1] using g0
    obtain ⟨L⟩ := args
    match L, hs with
    | [w0, w1, w2, w3, w4, w5], _ => exact ⟨w0, w1, w2, w3, w4, w5, rfl⟩
  have hw := fun d (hd : d ∈ tables_1) => atoms_spec (ws := Jvm.Cond.code x code maxLocals ret :: tables_1) hat d (List.mem_cons_of_mem _ hd)
  obtain ⟨hsets, hown0⟩ := atoms_of _ (rest_1_c_eq ▸ (show rest_1_c.before _ s = true from hrest))
  obtain ⟨i0, ei0⟩ := is_v ga0
  obtain rfl : w0 = (.int i0) := Option.some.inj ei0
  obtain ⟨i1, ei1⟩ := isL_v ga1
  obtain rfl : w1 = (.long i1) := Option.some.inj ei1
  obtain ⟨i2, ei2⟩ := isL_v ga2
  obtain rfl : w2 = (.long i2) := Option.some.inj ei2
  obtain ⟨i3, ei3⟩ := is_v ga3
  obtain rfl : w3 = (.int i3) := Option.some.inj ei3
  obtain ⟨i4, ei4⟩ := is_v ga4
  obtain rfl : w4 = (.int i4) := Option.some.inj ei4
  obtain ⟨i5, ei5⟩ := isL_v hg5
  obtain rfl : w5 = (.long i5) := Option.some.inj ei5
  have hfit : Fit s := fun {y c} hc i hi => by
    obtain ⟨ha, rfl⟩ := Array.getElem?_eq_some_iff.mp hc
    have q := List.all_eq_true.mp ((Array.all_eq_true_iff_forall_mem.mp hF) _ (Array.getElem_mem ha)) i (List.mem_range.mpr hi)
    simpa [Array.getElem?_eq_getElem hi] using q
  obtain ⟨rc, ca, yc, SRO, ERC, SH, SCa, VCa, hca⟩ := own_stat hsets (ow hw 66 rfl)
  obtain ⟨n, o, h1, h2, h3, _, L, rfl, ⟨rfl, N, -⟩, hq⟩ := rm0 l s _ hw tables_1 i0 i1 i2 i3 i4 i5 rc ca yc s.heap s.heap.size (Nat.le_refl _) (Old.start s) SH SCa VCa hca SRO ERC p e ha hc hk s m _ below hf ((Spec.applies_iff_loose hf).mp happ).1 ⟨rfl, State.Warmed39.refl s, rfl⟩ trivial
  refine ⟨n, _, h1, h2, h3, hpost _ _ _ _ _ _ ⟨Cond.after_iff.mpr rfl, Cond.after_iff.mpr (eq_i res_at (Term.int_eval (1)) rfl), trivial⟩ ⟨hq.1, hq.2.1, (hq.2.2.sift fun y hy => Or.inr (N y hy)).mono (by decide) (by decide)⟩⟩
theorem main_1_1 : Claimed_1_1 := comes_1 fun _ _ _ _ _ _ h hF => ⟨h.1, Jvm.LamKit.wideOf hF⟩
theorem main_1_2 : Claimed_1_2 := comes_1 fun _ _ _ _ _ _ h hF => ⟨h.2.1, Jvm.LamKit.wideOf hF⟩
end Jvm.Pilot.@@N@@
namespace Jvm.Pilot.@@N@@
open Jvm Jvm.ClassFile Sem Op Lib Jvm.Free Jvm.Stand Jvm.Pilot.@@N@@.Jvm.D
/-! MADE BY PROGRAM (witnessworld.py) out of the Statement's table words and the real class files: 47 classes; the members and pool entries that the words name. The judged class is class 1, her method 1. -/
namespace start1
open Jvm.ClassFile
def u (s : String) : CpInfo := .utf8 (stringToUtf16 s)
/-- a pool by its gaps: so many unusable entries, then the entry; so many at the end -/
def gap : Nat → List CpInfo → List CpInfo
  | 0, r => r
  | n + 1, r => .unusable :: gap n r
def poolList (es : List (Nat × CpInfo)) (last : Nat) : List CpInfo := es.foldr (fun e r => gap e.1 (e.2 :: r)) (gap last [])
def pool (es : List (Nat × CpInfo)) (last : Nat) : Array CpInfo := ⟨poolList es last⟩
def fileOf (pool : Array CpInfo) (this : Nat) (attrs : Array Attribute := #[]) (ms : Array MethodInfo := #[]) (fl : Nat := 33) (sup : Nat := 0) (ifs : Array Nat := #[]) (fds : Array FieldInfo := #[]) : ClassFile where
  minorVersion := 0
  majorVersion := 65
  constantPool := pool
  accessFlags := fl
  thisClass := this
  superClass := sup
  interfaces := ifs
  fields := fds
  methods := ms
  attributes := attrs
def plain (name : String) (sup : Option ClassId) : Class where
  name := name
  kind := .ordinary
  loader := none
  accessFlags := 33
  super := sup
  interfaces := #[]
  cf := none
  fields := #[]
  methods := #[]
  instanceTypes := #[]
  staticTypes := #[]
  resolved := #[]
  callSites := []
  init := .initialized
  statics := none
  mirror := none

def pool0 : Array CpInfo := pool [(5, u "<init>"), (0, u "()V"), (1, .class_ 10), (1, u "java/lang/Object")] 113

def k0c0 : Code := { maxStack := 0, maxLocals := 1, code := object_method_1_code, exceptionTable := #[], attributes := #[] }
def k0m0 : Method := { name := "<init>", desc := "()V", sig := { parameters := [], returnType := none }, accessFlags := 1, code := some k0c0 }
/-- java/lang/Object -/
def k0 : Class := { plain "java/lang/Object" none with
  accessFlags := 33
  interfaces := #[]
  cf := some (fileOf pool0 8 #[] #[{ accessFlags := 1, nameIndex := 5, descriptorIndex := 6, attributes := #[] }] 33 0 #[] #[])
  fields := #[]
  methods := #[k0m0]
  instanceTypes := #[]
  staticTypes := #[]
  resolved := Array.replicate 124 none
  statics := none }

def pool1 : Array CpInfo := pool [(2, .class_ 4), (0, .nameAndType 5 6), (0, u "java/lang/Object"), (0, u "<init>"), (0, u "()V"), (0, .class_ 8), (0, u "com/example/kept_till_acked/kepttillacked/queue/ReadyLine"), (0, .methodref 7 3), (0, .methodref 7 11), (0, .nameAndType 12 13), (0, u "isEmpty"), (0, u "()Z"), (0, .methodref 7 15), (0, .nameAndType 16 17), (0, u "addAtHome"), (0, u "(JI)V"), (0, .methodref 7 19), (0, .nameAndType 20 21), (0, u "addMoved"), (0, u "(JIJ)V"), (0, .methodref 7 23), (0, .nameAndType 24 17), (0, u "remove"), (0, .methodref 7 26), (0, .nameAndType 27 28), (0, u "size"), (0, u "()I"), (0, .class_ 30), (0, u "com/example/kept_till_acked/kepttillacked/queue/ReadyLineIsEmptyPinLaw"), (2, u "law"), (0, u "(IJJIIJ)Z")] 3

def k1m0 : Method := { name := "<init>", desc := "()V", sig := { parameters := [], returnType := none }, accessFlags := 1, code := none }
def k1c1 : Code := { maxStack := 6, maxLocals := 20, code := code, exceptionTable := #[], attributes := #[] }
def k1m1 : Method := { name := "law", desc := "(IJJIIJ)Z", sig := { parameters := [.int, .long, .long, .int, .int, .long], returnType := some .boolean }, accessFlags := 9, code := some k1c1 }
/-- com/example/kept_till_acked/kepttillacked/queue/ReadyLineIsEmptyPinLaw -/
def k1 : Class := { plain "com/example/kept_till_acked/kepttillacked/queue/ReadyLineIsEmptyPinLaw" (some 0) with
  accessFlags := 49
  interfaces := #[]
  cf := some (fileOf pool1 29 #[] #[{ accessFlags := 1, nameIndex := 5, descriptorIndex := 6, attributes := #[] }, { accessFlags := 9, nameIndex := 33, descriptorIndex := 34, attributes := #[] }] 49 2 #[] #[])
  fields := #[]
  methods := #[k1m0, k1m1]
  instanceTypes := #[]
  staticTypes := #[]
  resolved := Array.replicate 38 none
  statics := none }

def pool2 : Array CpInfo := pool [(1, .methodref 2 3), (0, .class_ 4), (0, .nameAndType 5 6), (0, u "java/lang/Object"), (0, u "<init>"), (0, u "()V"), (0, .class_ 8), (0, u "java/util/TreeMap"), (0, .interfaceMethodref 10 11), (0, .class_ 12), (0, .nameAndType 13 14), (0, u "java/util/Comparator"), (0, u "reverseOrder"), (0, u "()Ljava/util/Comparator;"), (0, .methodref 7 16), (0, .nameAndType 5 17), (0, u "(Ljava/util/Comparator;)V"), (0, .fieldref 19 20), (0, .class_ 21), (0, .nameAndType 22 23), (0, u "com/example/kept_till_acked/kepttillacked/queue/ReadyLine"), (0, u "byPriority"), (0, u "Ljava/util/TreeMap;"), (0, .fieldref 19 25), (0, .nameAndType 26 27), (0, u "size"), (0, u "I"), (25, u "()I"), (0, .methodref 19 55), (0, .nameAndType 56 57), (0, u "line"), (0, u "(I)Lcom/example/kept_till_acked/kepttillacked/queue/ReadyLine$Line;"), (0, .fieldref 59 60), (0, .class_ 61), (0, .nameAndType 62 63), (0, u "com/example/kept_till_acked/kepttillacked/queue/ReadyLine$Line"), (0, u "home"), (0, u "Lcom/example/kept_till_acked/kepttillacked/queue/SeqBits;"), (0, .methodref 65 66), (0, .class_ 67), (0, .nameAndType 68 69), (0, u "com/example/kept_till_acked/kepttillacked/queue/SeqBits"), (0, u "add"), (0, u "(J)V"), (0, .fieldref 59 71), (0, .nameAndType 72 73), (0, u "moved"), (0, u "Lcom/example/kept_till_acked/kepttillacked/queue/MovedRuns;"), (0, .methodref 75 76), (0, .class_ 77), (0, .nameAndType 68 78), (0, u "com/example/kept_till_acked/kepttillacked/queue/MovedRuns"), (0, u "(JJ)V"), (0, .methodref 80 81), (0, .class_ 82), (0, .nameAndType 83 84), (0, u "java/lang/Integer"), (0, u "valueOf"), (0, u "(I)Ljava/lang/Integer;"), (0, .methodref 7 86), (0, .nameAndType 87 88), (0, u "get"), (0, u "(Ljava/lang/Object;)Ljava/lang/Object;"), (0, .methodref 65 90), (0, .nameAndType 91 92), (0, u "remove"), (0, u "(J)Z"), (13, .methodref 75 107), (0, .nameAndType 108 109), (0, u "isEmpty"), (0, u "()Z"), (0, .methodref 75 111), (0, .nameAndType 112 113), (0, u "first"), (0, u "()J"), (0, .methodref 75 115), (0, .nameAndType 116 6), (0, u "removeFirst"), (0, .methodref 65 118), (0, .nameAndType 26 53), (0, .methodref 7 120), (0, .nameAndType 91 88), (21, .class_ 143), (0, u "com/example/kept_till_acked/kepttillacked/queue/ReadyLine$1"), (3, .invokeDynamic 3 148), (0, .nameAndType 149 150), (0, u "apply"), (0, u "()Ljava/util/function/Function;"), (0, .methodref 7 152), (0, .nameAndType 153 154), (0, u "computeIfAbsent"), (0, u "(Ljava/lang/Object;Ljava/util/function/Function;)Ljava/lang/Object;"), (3, .methodref 59 3), (19, u "addAtHome"), (0, u "(JI)V"), (0, u "addMoved"), (0, u "(JIJ)V"), (5, u "lambda$line$2"), (0, u "(Ljava/lang/Integer;)Lcom/example/kept_till_acked/kepttillacked/queue/ReadyLine$Line;"), (23, .methodType 88), (0, .methodHandle 6 214), (0, .methodref 19 215), (0, .nameAndType 187 188), (0, .methodType 188), (2, .methodHandle 6 220), (0, .methodref 221 222), (0, .class_ 223), (0, .nameAndType 224 225), (0, u "java/lang/invoke/LambdaMetafactory"), (0, u "metafactory"), (0, u "(Ljava/lang/invoke/MethodHandles$Lookup;Ljava/lang/String;Ljava/lang/invoke/MethodType;Ljava/lang/invoke/MethodType;Ljava/lang/invoke/MethodHandle;Ljava/lang/invoke/MethodType;)Ljava/lang/invoke/CallSite;")] 21

def k2c0 : Code := { maxStack := 4, maxLocals := 1, code := prog_56_method_1_code, exceptionTable := #[], attributes := #[] }
def k2m0 : Method := { name := "<init>", desc := "()V", sig := { parameters := [], returnType := none }, accessFlags := 0, code := some k2c0 }
def k2c1 : Code := { maxStack := 1, maxLocals := 1, code := prog_56_method_2_code, exceptionTable := #[], attributes := #[] }
def k2m1 : Method := { name := "size", desc := "()I", sig := { parameters := [], returnType := some .int }, accessFlags := 0, code := some k2c1 }
def k2c2 : Code := { maxStack := 1, maxLocals := 1, code := prog_56_method_3_code, exceptionTable := #[], attributes := #[] }
def k2m2 : Method := { name := "isEmpty", desc := "()Z", sig := { parameters := [], returnType := some .boolean }, accessFlags := 0, code := some k2c2 }
def k2c3 : Code := { maxStack := 3, maxLocals := 4, code := prog_56_method_5_code, exceptionTable := #[], attributes := #[] }
def k2m3 : Method := { name := "addAtHome", desc := "(JI)V", sig := { parameters := [.long, .int], returnType := none }, accessFlags := 0, code := some k2c3 }
def k2c4 : Code := { maxStack := 5, maxLocals := 6, code := prog_56_method_6_code, exceptionTable := #[], attributes := #[] }
def k2m4 : Method := { name := "addMoved", desc := "(JIJ)V", sig := { parameters := [.long, .int, .long], returnType := none }, accessFlags := 0, code := some k2c4 }
def k2c5 : Code := { maxStack := 4, maxLocals := 5, code := prog_56_method_8_code, exceptionTable := #[], attributes := #[] }
def k2m5 : Method := { name := "remove", desc := "(JI)V", sig := { parameters := [.long, .int], returnType := none }, accessFlags := 0, code := some k2c5 }
def k2c6 : Code := { maxStack := 3, maxLocals := 2, code := prog_56_method_11_code, exceptionTable := #[], attributes := #[] }
def k2m6 : Method := { name := "line", desc := "(I)Lcom/example/kept_till_acked/kepttillacked/queue/ReadyLine$Line;", sig := { parameters := [.int], returnType := some (.object "com/example/kept_till_acked/kepttillacked/queue/ReadyLine$Line") }, accessFlags := 2, code := some k2c6 }
def k2c7 : Code := { maxStack := 2, maxLocals := 1, code := prog_56_method_13_code, exceptionTable := #[], attributes := #[] }
def k2m7 : Method := { name := "lambda$line$2", desc := "(Ljava/lang/Integer;)Lcom/example/kept_till_acked/kepttillacked/queue/ReadyLine$Line;", sig := { parameters := [(.object "java/lang/Integer")], returnType := some (.object "com/example/kept_till_acked/kepttillacked/queue/ReadyLine$Line") }, accessFlags := 4106, code := some k2c7 }
/-- com/example/kept_till_acked/kepttillacked/queue/ReadyLine -/
def k2 : Class := { plain "com/example/kept_till_acked/kepttillacked/queue/ReadyLine" (some 0) with
  accessFlags := 32
  interfaces := #[]
  cf := some (fileOf pool2 19 #[.nestMembers #[59, 142], .bootstrapMethods #[⟨0, #[]⟩, ⟨0, #[]⟩, ⟨0, #[]⟩, ⟨219, #[212, 213, 216]⟩, ⟨0, #[]⟩]] #[{ accessFlags := 0, nameIndex := 5, descriptorIndex := 6, attributes := #[] }, { accessFlags := 0, nameIndex := 26, descriptorIndex := 53, attributes := #[] }, { accessFlags := 0, nameIndex := 108, descriptorIndex := 109, attributes := #[] }, { accessFlags := 0, nameIndex := 178, descriptorIndex := 179, attributes := #[] }, { accessFlags := 0, nameIndex := 180, descriptorIndex := 181, attributes := #[] }, { accessFlags := 0, nameIndex := 91, descriptorIndex := 179, attributes := #[] }, { accessFlags := 2, nameIndex := 56, descriptorIndex := 57, attributes := #[] }, { accessFlags := 4106, nameIndex := 187, descriptorIndex := 188, attributes := #[] }] 32 2 #[] #[{ accessFlags := 18, nameIndex := 22, descriptorIndex := 23, attributes := #[] }, { accessFlags := 2, nameIndex := 26, descriptorIndex := 27, attributes := #[] }])
  fields := #[{ name := "byPriority", type := (.object "java/util/TreeMap"), accessFlags := 18, slot := 0, constantValue := 0 }, { name := "size", type := .int, accessFlags := 2, slot := 1, constantValue := 0 }]
  methods := #[k2m0, k2m1, k2m2, k2m3, k2m4, k2m5, k2m6, k2m7]
  instanceTypes := #[(.object "java/util/TreeMap"), .int]
  staticTypes := #[]
  resolved := ((((Array.replicate 247 none).set! 58 (some (.field 22 0))).set! 70 (some (.field 22 1))).set! 158 (some (.method ⟨22, 0⟩))).set! 59 (some (.cls 22))
  callSites := [(6, 8, .constant 2)]
  statics := none }

def pool3 : Array CpInfo := pool [(2, .class_ 4), (1, u "java/util/Map"), (31, .class_ 37), (0, u "java/util/Map$Entry"), (55, .class_ 94), (0, u "java/lang/Object")] 168

/-- java/util/Map -/
def k3 : Class := { plain "java/util/Map" (some 0) with
  accessFlags := 1537
  interfaces := #[]
  cf := some (fileOf pool3 2 #[.nestMembers #[36]] #[] 1537 93 #[] #[])
  fields := #[]
  methods := #[]
  instanceTypes := #[]
  staticTypes := #[]
  resolved := Array.replicate 263 none
  statics := none }

def pool4 : Array CpInfo := pool [(1, .methodref 2 3), (0, .class_ 4), (0, .nameAndType 5 6), (0, u "java/lang/Object"), (0, u "<init>"), (0, u "()V"), (1, .class_ 10), (1, u "java/util/AbstractMap"), (42, .class_ 54), (0, u "java/util/Map"), (9, u "keySet"), (0, u "Ljava/util/Set;"), (0, .class_ 67), (0, u "java/util/AbstractMap$1"), (5, u "values"), (0, u "Ljava/util/Collection;"), (0, .class_ 76), (0, u "java/util/AbstractMap$2"), (104, .class_ 182), (0, u "java/util/AbstractMap$ViewCollection"), (0, .class_ 184), (0, u "java/util/AbstractMap$SimpleImmutableEntry"), (0, .class_ 186), (0, u "java/util/AbstractMap$SimpleEntry"), (0, .class_ 188), (0, u "java/util/AbstractMap$2$1"), (0, .class_ 190), (0, u "java/util/AbstractMap$1$1")] 5

def k4c0 : Code := { maxStack := 1, maxLocals := 1, code := jdk_71_method_1_code, exceptionTable := #[], attributes := #[] }
def k4m0 : Method := { name := "<init>", desc := "()V", sig := { parameters := [], returnType := none }, accessFlags := 4, code := some k4c0 }
/-- java/util/AbstractMap -/
def k4 : Class := { plain "java/util/AbstractMap" (some 0) with
  accessFlags := 1057
  interfaces := #[3]
  cf := some (fileOf pool4 8 #[.nestMembers #[181, 183, 185, 75, 187, 66, 189]] #[{ accessFlags := 4, nameIndex := 5, descriptorIndex := 6, attributes := #[] }] 1057 2 #[53] #[{ accessFlags := 128, nameIndex := 64, descriptorIndex := 65, attributes := #[] }, { accessFlags := 128, nameIndex := 73, descriptorIndex := 74, attributes := #[] }])
  fields := #[{ name := "keySet", type := (.object "java/util/Set"), accessFlags := 128, slot := 0, constantValue := 0 }, { name := "values", type := (.object "java/util/Collection"), accessFlags := 128, slot := 1, constantValue := 0 }]
  methods := #[k4m0]
  instanceTypes := #[(.object "java/util/Set"), (.object "java/util/Collection")]
  staticTypes := #[]
  resolved := Array.replicate 196 none
  statics := none }

def pool5 : Array CpInfo := pool [(2, .class_ 4), (1, u "java/util/SequencedMap"), (38, .class_ 44), (0, u "java/util/SequencedMap$1SeqKeySet"), (3, .class_ 49), (0, u "java/util/SequencedMap$1SeqValues"), (1, .class_ 52), (0, u "java/util/SequencedMap$1SeqEntrySet"), (1, .class_ 55), (0, u "java/lang/Object"), (0, .class_ 57), (0, u "java/util/Map")] 48

/-- java/util/SequencedMap -/
def k5 : Class := { plain "java/util/SequencedMap" (some 0) with
  accessFlags := 1537
  interfaces := #[3]
  cf := some (fileOf pool5 2 #[.nestMembers #[51, 48, 43]] #[] 1537 54 #[56] #[])
  fields := #[]
  methods := #[]
  instanceTypes := #[]
  staticTypes := #[]
  resolved := Array.replicate 106 none
  statics := none }

def pool6 : Array CpInfo := pool [(14, .class_ 16), (1, u "java/util/SortedMap"), (2, .class_ 20), (0, u "java/lang/Object"), (0, .class_ 22), (0, u "java/util/SequencedMap")] 50

/-- java/util/SortedMap -/
def k6 : Class := { plain "java/util/SortedMap" (some 0) with
  accessFlags := 1537
  interfaces := #[5]
  cf := some (fileOf pool6 14 #[] #[] 1537 19 #[21] #[])
  fields := #[]
  methods := #[]
  instanceTypes := #[]
  staticTypes := #[]
  resolved := Array.replicate 73 none
  statics := none }

def pool7 : Array CpInfo := pool [(2, .class_ 4), (1, u "java/util/NavigableMap"), (5, .class_ 11), (0, u "java/lang/Object"), (0, .class_ 13), (0, u "java/util/SortedMap")] 53

/-- java/util/NavigableMap -/
def k7 : Class := { plain "java/util/NavigableMap" (some 0) with
  accessFlags := 1537
  interfaces := #[6]
  cf := some (fileOf pool7 2 #[] #[] 1537 10 #[12] #[])
  fields := #[]
  methods := #[]
  instanceTypes := #[]
  staticTypes := #[]
  resolved := Array.replicate 67 none
  statics := none }

def pool8 : Array CpInfo := pool [(1, .class_ 2), (0, u "java/lang/Cloneable"), (0, .class_ 4), (0, u "java/lang/Object")] 2

/-- java/lang/Cloneable -/
def k8 : Class := { plain "java/lang/Cloneable" (some 0) with
  accessFlags := 1537
  interfaces := #[]
  cf := some (fileOf pool8 1 #[] #[] 1537 3 #[] #[])
  fields := #[]
  methods := #[]
  instanceTypes := #[]
  staticTypes := #[]
  resolved := Array.replicate 7 none
  statics := none }

def pool9 : Array CpInfo := pool [(1, .class_ 2), (0, u "java/io/Serializable"), (0, .class_ 4), (0, u "java/lang/Object")] 2

/-- java/io/Serializable -/
def k9 : Class := { plain "java/io/Serializable" (some 0) with
  accessFlags := 1537
  interfaces := #[]
  cf := some (fileOf pool9 1 #[] #[] 1537 3 #[] #[])
  fields := #[]
  methods := #[]
  instanceTypes := #[]
  staticTypes := #[]
  resolved := Array.replicate 7 none
  statics := none }

def pool10 : Array CpInfo := pool [(1, .methodref 2 3), (0, .class_ 4), (0, .nameAndType 5 6), (0, u "java/util/AbstractMap"), (0, u "<init>"), (0, u "()V"), (0, .fieldref 8 9), (0, .class_ 10), (0, .nameAndType 11 12), (0, u "java/util/TreeMap"), (0, u "size"), (0, u "I"), (0, .fieldref 8 14), (0, .nameAndType 15 12), (0, u "modCount"), (0, .fieldref 8 17), (0, .nameAndType 18 19), (0, u "comparator"), (0, u "Ljava/util/Comparator;"), (14, u "entrySet"), (15, .methodref 8 51), (0, .nameAndType 52 53), (0, u "getEntry"), (0, u "(Ljava/lang/Object;)Ljava/util/TreeMap$Entry;"), (4, .fieldref 59 60), (0, .class_ 61), (0, .nameAndType 62 63), (0, u "java/util/TreeMap$Entry"), (0, u "value"), (0, u "Ljava/lang/Object;"), (10, u "key"), (11, .class_ 88), (1, u "java/util/Objects"), (3, .methodref 8 93), (0, .nameAndType 94 53), (0, u "getEntryUsingComparator"), (0, .methodref 86 96), (0, .nameAndType 97 98), (0, u "requireNonNull"), (0, u "(Ljava/lang/Object;)Ljava/lang/Object;"), (2, .fieldref 8 102), (0, .nameAndType 103 104), (0, u "root"), (0, u "Ljava/util/TreeMap$Entry;"), (0, .fieldref 59 106), (0, .nameAndType 74 63), (4, .fieldref 59 112), (0, .nameAndType 113 104), (0, u "left"), (0, .fieldref 59 115), (0, .nameAndType 116 104), (0, u "right"), (0, .interfaceMethodref 118 119), (0, .class_ 120), (0, .nameAndType 121 122), (0, u "java/util/Comparator"), (0, u "compare"), (0, u "(Ljava/lang/Object;Ljava/lang/Object;)I"), (0, .methodref 8 119), (0, .fieldref 59 125), (0, .nameAndType 126 104), (0, u "parent"), (4, .methodref 8 132), (0, .nameAndType 133 134), (0, u "callMappingFunctionWithCheck"), (0, u "(Ljava/lang/Object;Ljava/util/function/Function;)Ljava/lang/Object;"), (0, .methodref 8 136), (0, .nameAndType 137 138), (0, u "addEntryToEmptyMap"), (0, u "(Ljava/lang/Object;Ljava/lang/Object;)V"), (0, .methodref 8 140), (0, .nameAndType 141 142), (0, u "addEntry"), (0, u "(Ljava/lang/Object;Ljava/lang/Object;Ljava/util/TreeMap$Entry;Z)V"), (11, .interfaceMethodref 155 156), (0, .class_ 157), (0, .nameAndType 158 98), (0, u "java/util/function/Function"), (0, u "apply"), (8, .methodref 59 168), (0, .nameAndType 5 169), (0, u "(Ljava/lang/Object;Ljava/lang/Object;Ljava/util/TreeMap$Entry;)V"), (0, .methodref 8 171), (0, .nameAndType 172 173), (0, u "fixAfterInsertion"), (0, u "(Ljava/util/TreeMap$Entry;)V"), (0, .methodref 8 175), (0, .nameAndType 176 173), (0, u "deleteEntry"), (13, u "Ljava/util/TreeMap$EntrySet;"), (2, u "navigableKeySet"), (0, u "Ljava/util/TreeMap$KeySet;"), (2, u "descendingMap"), (0, u "Ljava/util/NavigableMap;"), (23, .class_ 223), (0, u "java/util/TreeMap$KeySet"), (7, .class_ 232), (0, u "java/util/NavigableMap"), (4, .class_ 238), (0, u "java/util/TreeMap$Values"), (3, .class_ 243), (0, u "java/util/TreeMap$EntrySet"), (1, .class_ 246), (0, u "java/util/TreeMap$DescendingSubMap"), (3, .class_ 251), (0, u "java/util/TreeMap$AscendingSubMap"), (17, .class_ 270), (0, u "java/util/TreeMap$KeyIterator"), (3, .class_ 275), (0, u "java/util/TreeMap$DescendingKeyIterator"), (14, .fieldref 59 291), (0, .nameAndType 292 293), (0, u "color"), (0, u "Z"), (13, .methodref 8 308), (0, .nameAndType 309 310), (0, u "setColor"), (0, u "(Ljava/util/TreeMap$Entry;Z)V"), (6, .methodref 8 318), (0, .nameAndType 319 173), (0, u "fixAfterDeletion"), (68, .class_ 389), (0, u "java/util/TreeMap$NavigableSubMap"), (1, .class_ 392), (0, u "java/util/TreeMap$KeySpliterator"), (3, .class_ 397), (0, u "java/util/TreeMap$DescendingKeySpliterator"), (4, u "UNBOUNDED"), (0, .class_ 404), (0, u "java/lang/Cloneable"), (0, .class_ 406), (0, u "java/io/Serializable"), (6, u "RED"), (2, u "BLACK"), (1, u "serialVersionUID"), (0, u "J"), (8, u "(Ljava/util/Comparator;)V"), (14, u "get"), (23, u "computeIfAbsent"), (27, u "remove"), (138, .class_ 635), (0, u "java/util/TreeMap$EntrySpliterator"), (0, .class_ 637), (0, u "java/util/TreeMap$ValueSpliterator"), (0, .class_ 639), (0, u "java/util/TreeMap$TreeMapSpliterator"), (0, .class_ 641), (0, u "java/util/TreeMap$SubMap"), (0, .class_ 643), (0, u "java/util/TreeMap$DescendingSubMap$DescendingEntrySetView"), (0, .class_ 645), (0, u "java/util/TreeMap$AscendingSubMap$AscendingEntrySetView"), (0, .class_ 647), (0, u "java/util/TreeMap$NavigableSubMap$DescendingSubMapKeyIterator"), (0, .class_ 649), (0, u "java/util/TreeMap$NavigableSubMap$SubMapKeyIterator"), (0, .class_ 651), (0, u "java/util/TreeMap$NavigableSubMap$DescendingSubMapEntryIterator"), (0, .class_ 653), (0, u "java/util/TreeMap$NavigableSubMap$SubMapEntryIterator"), (0, .class_ 655), (0, u "java/util/TreeMap$NavigableSubMap$SubMapIterator"), (0, .class_ 657), (0, u "java/util/TreeMap$NavigableSubMap$EntrySetView"), (0, .class_ 659), (0, u "java/util/TreeMap$ValueIterator"), (0, .class_ 661), (0, u "java/util/TreeMap$EntryIterator"), (0, .class_ 663), (0, u "java/util/TreeMap$PrivateEntryIterator")] 28

def k10m0 : Method := { name := "<init>", desc := "()V", sig := { parameters := [], returnType := none }, accessFlags := 1, code := none }
def k10c1 : Code := { maxStack := 2, maxLocals := 2, code := jdk_2729_method_2_code, exceptionTable := #[], attributes := #[] }
def k10m1 : Method := { name := "<init>", desc := "(Ljava/util/Comparator;)V", sig := { parameters := [(.object "java/util/Comparator")], returnType := none }, accessFlags := 1, code := some k10c1 }
def k10c2 : Code := { maxStack := 2, maxLocals := 3, code := jdk_2729_method_8_code, exceptionTable := #[], attributes := #[] }
def k10m2 : Method := { name := "get", desc := "(Ljava/lang/Object;)Ljava/lang/Object;", sig := { parameters := [(.object "java/lang/Object")], returnType := some (.object "java/lang/Object") }, accessFlags := 1, code := some k10c2 }
def k10c3 : Code := { maxStack := 2, maxLocals := 5, code := jdk_2729_method_15_code, exceptionTable := #[], attributes := #[] }
def k10m3 : Method := { name := "getEntry", desc := "(Ljava/lang/Object;)Ljava/util/TreeMap$Entry;", sig := { parameters := [(.object "java/lang/Object")], returnType := some (.object "java/util/TreeMap$Entry") }, accessFlags := 16, code := some k10c3 }
def k10c4 : Code := { maxStack := 3, maxLocals := 6, code := jdk_2729_method_16_code, exceptionTable := #[], attributes := #[] }
def k10m4 : Method := { name := "getEntryUsingComparator", desc := "(Ljava/lang/Object;)Ljava/util/TreeMap$Entry;", sig := { parameters := [(.object "java/lang/Object")], returnType := some (.object "java/util/TreeMap$Entry") }, accessFlags := 16, code := some k10c4 }
def k10c5 : Code := { maxStack := 5, maxLocals := 9, code := jdk_2729_method_23_code, exceptionTable := #[], attributes := #[] }
def k10m5 : Method := { name := "computeIfAbsent", desc := "(Ljava/lang/Object;Ljava/util/function/Function;)Ljava/lang/Object;", sig := { parameters := [(.object "java/lang/Object"), (.object "java/util/function/Function")], returnType := some (.object "java/lang/Object") }, accessFlags := 1, code := some k10c5 }
def k10c6 : Code := { maxStack := 2, maxLocals := 5, code := jdk_2729_method_27_code, exceptionTable := #[], attributes := #[] }
def k10m6 : Method := { name := "callMappingFunctionWithCheck", desc := "(Ljava/lang/Object;Ljava/util/function/Function;)Ljava/lang/Object;", sig := { parameters := [(.object "java/lang/Object"), (.object "java/util/function/Function")], returnType := some (.object "java/lang/Object") }, accessFlags := 2, code := some k10c6 }
def k10c7 : Code := { maxStack := 5, maxLocals := 6, code := jdk_2729_method_29_code, exceptionTable := #[], attributes := #[] }
def k10m7 : Method := { name := "addEntry", desc := "(Ljava/lang/Object;Ljava/lang/Object;Ljava/util/TreeMap$Entry;Z)V", sig := { parameters := [(.object "java/lang/Object"), (.object "java/lang/Object"), (.object "java/util/TreeMap$Entry"), .boolean], returnType := none }, accessFlags := 2, code := some k10c7 }
def k10c8 : Code := { maxStack := 6, maxLocals := 3, code := jdk_2729_method_30_code, exceptionTable := #[], attributes := #[] }
def k10m8 : Method := { name := "addEntryToEmptyMap", desc := "(Ljava/lang/Object;Ljava/lang/Object;)V", sig := { parameters := [(.object "java/lang/Object"), (.object "java/lang/Object")], returnType := none }, accessFlags := 2, code := some k10c8 }
def k10c9 : Code := { maxStack := 2, maxLocals := 4, code := jdk_2729_method_34_code, exceptionTable := #[], attributes := #[] }
def k10m9 : Method := { name := "remove", desc := "(Ljava/lang/Object;)Ljava/lang/Object;", sig := { parameters := [(.object "java/lang/Object")], returnType := some (.object "java/lang/Object") }, accessFlags := 1, code := some k10c9 }
def k10c10 : Code := { maxStack := 3, maxLocals := 3, code := jdk_2729_method_67_code, exceptionTable := #[], attributes := #[] }
def k10m10 : Method := { name := "compare", desc := "(Ljava/lang/Object;Ljava/lang/Object;)I", sig := { parameters := [(.object "java/lang/Object"), (.object "java/lang/Object")], returnType := some .int }, accessFlags := 16, code := some k10c10 }
def k10c11 : Code := { maxStack := 2, maxLocals := 2, code := jdk_2729_method_78_code, exceptionTable := #[], attributes := #[] }
def k10m11 : Method := { name := "setColor", desc := "(Ljava/util/TreeMap$Entry;Z)V", sig := { parameters := [(.object "java/util/TreeMap$Entry"), .boolean], returnType := none }, accessFlags := 10, code := some k10c11 }
def k10c12 : Code := { maxStack := 2, maxLocals := 3, code := jdk_2729_method_83_code, exceptionTable := #[], attributes := #[] }
def k10m12 : Method := { name := "fixAfterInsertion", desc := "(Ljava/util/TreeMap$Entry;)V", sig := { parameters := [(.object "java/util/TreeMap$Entry")], returnType := none }, accessFlags := 2, code := some k10c12 }
def k10c13 : Code := { maxStack := 5, maxLocals := 3, code := jdk_2729_method_84_code, exceptionTable := #[], attributes := #[] }
def k10m13 : Method := { name := "deleteEntry", desc := "(Ljava/util/TreeMap$Entry;)V", sig := { parameters := [(.object "java/util/TreeMap$Entry")], returnType := none }, accessFlags := 2, code := some k10c13 }
def k10c14 : Code := { maxStack := 2, maxLocals := 3, code := jdk_2729_method_85_code, exceptionTable := #[], attributes := #[] }
def k10m14 : Method := { name := "fixAfterDeletion", desc := "(Ljava/util/TreeMap$Entry;)V", sig := { parameters := [(.object "java/util/TreeMap$Entry")], returnType := none }, accessFlags := 2, code := some k10c14 }
/-- java/util/TreeMap -/
def k10 : Class := { plain "java/util/TreeMap" (some 4) with
  accessFlags := 33
  interfaces := #[7, 8, 9]
  cf := some (fileOf pool10 8 #[.nestMembers #[634, 636, 396, 391, 638, 59, 640, 245, 642, 250, 644, 388, 646, 648, 650, 652, 654, 656, 274, 269, 658, 660, 662, 222, 242, 237]] #[{ accessFlags := 1, nameIndex := 5, descriptorIndex := 6, attributes := #[] }, { accessFlags := 1, nameIndex := 5, descriptorIndex := 428, attributes := #[] }, { accessFlags := 1, nameIndex := 443, descriptorIndex := 98, attributes := #[] }, { accessFlags := 16, nameIndex := 52, descriptorIndex := 53, attributes := #[] }, { accessFlags := 16, nameIndex := 94, descriptorIndex := 53, attributes := #[] }, { accessFlags := 1, nameIndex := 467, descriptorIndex := 134, attributes := #[] }, { accessFlags := 2, nameIndex := 133, descriptorIndex := 134, attributes := #[] }, { accessFlags := 2, nameIndex := 141, descriptorIndex := 142, attributes := #[] }, { accessFlags := 2, nameIndex := 137, descriptorIndex := 138, attributes := #[] }, { accessFlags := 1, nameIndex := 495, descriptorIndex := 98, attributes := #[] }, { accessFlags := 16, nameIndex := 121, descriptorIndex := 122, attributes := #[] }, { accessFlags := 10, nameIndex := 309, descriptorIndex := 310, attributes := #[] }, { accessFlags := 2, nameIndex := 172, descriptorIndex := 173, attributes := #[] }, { accessFlags := 2, nameIndex := 176, descriptorIndex := 173, attributes := #[] }, { accessFlags := 2, nameIndex := 319, descriptorIndex := 173, attributes := #[] }] 33 2 #[231, 403, 405] #[{ accessFlags := 18, nameIndex := 18, descriptorIndex := 19, attributes := #[] }, { accessFlags := 130, nameIndex := 103, descriptorIndex := 104, attributes := #[] }, { accessFlags := 130, nameIndex := 11, descriptorIndex := 12, attributes := #[] }, { accessFlags := 130, nameIndex := 15, descriptorIndex := 12, attributes := #[] }, { accessFlags := 130, nameIndex := 34, descriptorIndex := 190, attributes := #[] }, { accessFlags := 130, nameIndex := 193, descriptorIndex := 194, attributes := #[] }, { accessFlags := 130, nameIndex := 197, descriptorIndex := 198, attributes := #[] }, { accessFlags := 26, nameIndex := 402, descriptorIndex := 63, attributes := #[] }, { accessFlags := 26, nameIndex := 413, descriptorIndex := 293, attributes := #[] }, { accessFlags := 26, nameIndex := 416, descriptorIndex := 293, attributes := #[] }, { accessFlags := 26, nameIndex := 418, descriptorIndex := 419, attributes := #[] }])
  fields := #[{ name := "comparator", type := (.object "java/util/Comparator"), accessFlags := 18, slot := 2, constantValue := 0 }, { name := "root", type := (.object "java/util/TreeMap$Entry"), accessFlags := 130, slot := 3, constantValue := 0 }, { name := "size", type := .int, accessFlags := 130, slot := 4, constantValue := 0 }, { name := "modCount", type := .int, accessFlags := 130, slot := 5, constantValue := 0 }, { name := "entrySet", type := (.object "java/util/TreeMap$EntrySet"), accessFlags := 130, slot := 6, constantValue := 0 }, { name := "navigableKeySet", type := (.object "java/util/TreeMap$KeySet"), accessFlags := 130, slot := 7, constantValue := 0 }, { name := "descendingMap", type := (.object "java/util/NavigableMap"), accessFlags := 130, slot := 8, constantValue := 0 }, { name := "UNBOUNDED", type := (.object "java/lang/Object"), accessFlags := 26, slot := 0, constantValue := 0 }, { name := "RED", type := .boolean, accessFlags := 26, slot := 1, constantValue := 0 }, { name := "BLACK", type := .boolean, accessFlags := 26, slot := 2, constantValue := 0 }, { name := "serialVersionUID", type := .long, accessFlags := 26, slot := 3, constantValue := 0 }]
  methods := #[k10m0, k10m1, k10m2, k10m3, k10m4, k10m5, k10m6, k10m7, k10m8, k10m9, k10m10, k10m11, k10m12, k10m13, k10m14]
  instanceTypes := #[(.object "java/util/Set"), (.object "java/util/Collection"), (.object "java/util/Comparator"), (.object "java/util/TreeMap$Entry"), .int, .int, (.object "java/util/TreeMap$EntrySet"), (.object "java/util/TreeMap$KeySet"), (.object "java/util/NavigableMap")]
  staticTypes := #[(.object "java/lang/Object"), .boolean, .boolean, .long]
  resolved := Array.replicate 692 none
  statics := none }

def pool11 : Array CpInfo := pool [(2, .class_ 4), (1, u "java/util/Collections"), (0, u "reverseOrder"), (9, u "compare"), (3, .class_ 20), (0, u "java/util/Comparator"), (22, .methodref 2 44), (0, .nameAndType 5 45), (0, u "()Ljava/util/Comparator;"), (59, .class_ 106), (0, u "java/lang/Object"), (8, u "(Ljava/lang/Object;Ljava/lang/Object;)I")] 172

def k11m0 : Method := { name := "compare", desc := "(Ljava/lang/Object;Ljava/lang/Object;)I", sig := { parameters := [(.object "java/lang/Object"), (.object "java/lang/Object")], returnType := some .int }, accessFlags := 1025, code := none }
def k11c1 : Code := { maxStack := 1, maxLocals := 0, code := jdk_2515_method_10_code, exceptionTable := #[], attributes := #[] }
def k11m1 : Method := { name := "reverseOrder", desc := "()Ljava/util/Comparator;", sig := { parameters := [], returnType := some (.object "java/util/Comparator") }, accessFlags := 9, code := some k11c1 }
/-- java/util/Comparator -/
def k11 : Class := { plain "java/util/Comparator" (some 0) with
  accessFlags := 1537
  interfaces := #[]
  cf := some (fileOf pool11 19 #[] #[{ accessFlags := 1025, nameIndex := 15, descriptorIndex := 115, attributes := #[] }, { accessFlags := 9, nameIndex := 5, descriptorIndex := 45, attributes := #[] }] 1537 105 #[] #[])
  fields := #[]
  methods := #[k11m0, k11m1]
  instanceTypes := #[]
  staticTypes := #[]
  resolved := Array.replicate 288 none
  statics := none }

def pool12 : Array CpInfo := pool [(2, .class_ 4), (1, u "java/lang/Object"), (0, u "<init>"), (0, u "()V"), (12, .class_ 20), (0, u "java/util/Collections"), (63, u "r"), (0, u "Ljava/util/Random;"), (80, .class_ 167), (0, u "java/util/Collections$UnmodifiableCollection"), (6, .class_ 175), (0, u "java/util/Collections$UnmodifiableSequencedCollection"), (6, .class_ 183), (0, u "java/util/Collections$UnmodifiableSet"), (6, .class_ 191), (0, u "java/util/Collections$UnmodifiableSequencedSet"), (6, .class_ 199), (0, u "java/util/Collections$UnmodifiableSortedSet"), (6, .class_ 207), (0, u "java/util/Collections$UnmodifiableNavigableSet"), (4, .class_ 213), (0, u "java/util/Collections$UnmodifiableList"), (1, .class_ 216), (0, u "java/util/Collections$UnmodifiableRandomAccessList"), (6, .class_ 224), (0, u "java/util/Collections$UnmodifiableMap"), (6, .class_ 232), (0, u "java/util/Collections$UnmodifiableSequencedMap"), (4, .class_ 238), (0, u "java/util/Collections$UnmodifiableSortedMap"), (6, .class_ 246), (0, u "java/util/Collections$UnmodifiableNavigableMap"), (3, .class_ 251), (0, u "java/util/Collections$SynchronizedCollection"), (4, .class_ 257), (0, u "java/util/Collections$SynchronizedSet"), (4, .class_ 263), (0, u "java/util/Collections$SynchronizedSortedSet"), (1, .class_ 266), (0, u "java/util/Collections$SynchronizedNavigableSet"), (1, .class_ 269), (0, u "java/util/Collections$SynchronizedRandomAccessList"), (1, .class_ 272), (0, u "java/util/Collections$SynchronizedList"), (5, .class_ 279), (0, u "java/util/Collections$SynchronizedMap"), (1, .class_ 282), (0, u "java/util/Collections$SynchronizedSortedMap"), (1, .class_ 285), (0, u "java/util/Collections$SynchronizedNavigableMap"), (1, .class_ 288), (0, u "java/util/Collections$CheckedCollection"), (11, .class_ 301), (0, u "java/util/Collections$CheckedQueue"), (3, .class_ 306), (0, u "java/util/Collections$CheckedSet"), (3, .class_ 311), (0, u "java/util/Collections$CheckedSortedSet"), (3, .class_ 316), (0, u "java/util/Collections$CheckedNavigableSet"), (3, .class_ 321), (0, u "java/util/Collections$CheckedRandomAccessList"), (3, .class_ 326), (0, u "java/util/Collections$CheckedList"), (1, .class_ 329), (0, u "java/util/Collections$CheckedMap"), (3, .class_ 334), (0, u "java/util/Collections$CheckedSortedMap"), (3, .class_ 339), (0, u "java/util/Collections$CheckedNavigableMap"), (4, .class_ 346), (1, u "java/util/Collections$EmptyIterator"), (3, .class_ 352), (1, u "java/util/Collections$EmptyListIterator"), (2, .class_ 357), (1, u "java/util/Collections$EmptyEnumeration"), (4, u "EMPTY_SET"), (0, u "Ljava/util/Set;"), (6, u "EMPTY_LIST"), (0, u "Ljava/util/List;"), (2, u "EMPTY_MAP"), (0, u "Ljava/util/Map;"), (4, .class_ 381), (0, u "java/util/Collections$SingletonSet"), (2, .class_ 385), (0, u "java/util/Collections$1"), (1, .class_ 388), (0, u "java/util/Collections$2"), (1, .class_ 391), (0, u "java/util/Collections$SingletonList"), (1, .class_ 394), (0, u "java/util/Collections$SingletonMap"), (22, .class_ 418), (0, u "java/util/Collections$CopiesList"), (3, .fieldref 423 424), (0, .class_ 425), (0, .nameAndType 426 427), (0, u "java/util/Collections$ReverseComparator"), (0, u "REVERSE_ORDER"), (0, u "Ljava/util/Collections$ReverseComparator;"), (6, .class_ 435), (0, u "java/util/Collections$ReverseComparator2"), (6, .class_ 443), (0, u "java/util/Collections$3"), (25, .class_ 470), (0, u "java/util/Collections$SetFromMap"), (2, .class_ 474), (0, u "java/util/Collections$SequencedSetFromMap"), (3, .class_ 479), (0, u "java/util/Collections$AsLIFOQueue"), (11, .class_ 492), (0, u "java/util/Collections$EmptySet"), (1, .class_ 495), (0, u "java/util/Collections$EmptyList"), (1, .class_ 498), (0, u "java/util/Collections$EmptyMap"), (1, u "BINARYSEARCH_THRESHOLD"), (0, u "I"), (2, u "REVERSE_THRESHOLD"), (1, u "SHUFFLE_THRESHOLD"), (1, u "FILL_THRESHOLD"), (1, u "ROTATE_THRESHOLD"), (1, u "COPY_THRESHOLD"), (1, u "REPLACEALL_THRESHOLD"), (1, u "INDEXOFSUBLIST_THRESHOLD"), (277, u "reverseOrder"), (0, u "()Ljava/util/Comparator;"), (54, .class_ 851), (0, u "java/util/Collections$CheckedMap$CheckedEntrySet"), (0, .class_ 853), (0, u "java/util/Collections$CheckedMap$CheckedEntrySet$CheckedEntry"), (0, .class_ 855), (0, u "java/util/Collections$CheckedMap$CheckedEntrySet$1"), (0, .class_ 857), (0, u "java/util/Collections$CheckedList$1"), (0, .class_ 859), (0, u "java/util/Collections$CheckedCollection$1"), (0, .class_ 861), (0, u "java/util/Collections$UnmodifiableNavigableMap$EmptyNavigableMap"), (0, .class_ 863), (0, u "java/util/Collections$UnmodifiableMap$UnmodifiableEntrySet"), (0, .class_ 865), (0, u "java/util/Collections$UnmodifiableMap$UnmodifiableEntrySet$UnmodifiableEntry"), (0, .class_ 867), (0, u "java/util/Collections$UnmodifiableMap$UnmodifiableEntrySet$UnmodifiableEntrySetSpliterator"), (0, .class_ 869), (0, u "java/util/Collections$UnmodifiableMap$UnmodifiableEntrySet$1"), (0, .class_ 871), (0, u "java/util/Collections$UnmodifiableList$1"), (0, .class_ 873), (0, u "java/util/Collections$UnmodifiableNavigableSet$EmptyNavigableSet"), (0, .class_ 875), (0, u "java/util/Collections$UnmodifiableCollection$1")] 57

def k12m0 : Method := { name := "<init>", desc := "()V", sig := { parameters := [], returnType := none }, accessFlags := 2, code := none }
def k12c1 : Code := { maxStack := 1, maxLocals := 0, code := jdk_79_method_77_code, exceptionTable := #[], attributes := #[] }
def k12m1 : Method := { name := "reverseOrder", desc := "()Ljava/util/Comparator;", sig := { parameters := [], returnType := some (.object "java/util/Comparator") }, accessFlags := 9, code := some k12c1 }
/-- java/util/Collections -/
def k12 : Class := { plain "java/util/Collections" (some 0) with
  accessFlags := 33
  interfaces := #[]
  cf := some (fileOf pool12 19 #[.nestMembers #[478, 473, 469, 434, 423, 417, 393, 390, 380, 497, 494, 491, 355, 350, 344, 338, 333, 328, 850, 852, 854, 320, 325, 856, 315, 310, 305, 300, 287, 858, 284, 281, 278, 268, 271, 265, 262, 256, 250, 245, 860, 237, 231, 223, 862, 864, 866, 868, 215, 212, 870, 206, 872, 198, 190, 182, 174, 166, 874, 442, 387, 384]] #[{ accessFlags := 2, nameIndex := 5, descriptorIndex := 6, attributes := #[] }, { accessFlags := 9, nameIndex := 794, descriptorIndex := 795, attributes := #[] }] 33 2 #[] #[{ accessFlags := 26, nameIndex := 500, descriptorIndex := 501, attributes := #[] }, { accessFlags := 26, nameIndex := 504, descriptorIndex := 501, attributes := #[] }, { accessFlags := 26, nameIndex := 506, descriptorIndex := 501, attributes := #[] }, { accessFlags := 26, nameIndex := 508, descriptorIndex := 501, attributes := #[] }, { accessFlags := 26, nameIndex := 510, descriptorIndex := 501, attributes := #[] }, { accessFlags := 26, nameIndex := 512, descriptorIndex := 501, attributes := #[] }, { accessFlags := 26, nameIndex := 514, descriptorIndex := 501, attributes := #[] }, { accessFlags := 26, nameIndex := 516, descriptorIndex := 501, attributes := #[] }, { accessFlags := 10, nameIndex := 84, descriptorIndex := 85, attributes := #[] }, { accessFlags := 25, nameIndex := 362, descriptorIndex := 363, attributes := #[] }, { accessFlags := 25, nameIndex := 370, descriptorIndex := 371, attributes := #[] }, { accessFlags := 25, nameIndex := 374, descriptorIndex := 375, attributes := #[] }])
  fields := #[{ name := "BINARYSEARCH_THRESHOLD", type := .int, accessFlags := 26, slot := 0, constantValue := 0 }, { name := "REVERSE_THRESHOLD", type := .int, accessFlags := 26, slot := 1, constantValue := 0 }, { name := "SHUFFLE_THRESHOLD", type := .int, accessFlags := 26, slot := 2, constantValue := 0 }, { name := "FILL_THRESHOLD", type := .int, accessFlags := 26, slot := 3, constantValue := 0 }, { name := "ROTATE_THRESHOLD", type := .int, accessFlags := 26, slot := 4, constantValue := 0 }, { name := "COPY_THRESHOLD", type := .int, accessFlags := 26, slot := 5, constantValue := 0 }, { name := "REPLACEALL_THRESHOLD", type := .int, accessFlags := 26, slot := 6, constantValue := 0 }, { name := "INDEXOFSUBLIST_THRESHOLD", type := .int, accessFlags := 26, slot := 7, constantValue := 0 }, { name := "r", type := (.object "java/util/Random"), accessFlags := 10, slot := 8, constantValue := 0 }, { name := "EMPTY_SET", type := (.object "java/util/Set"), accessFlags := 25, slot := 9, constantValue := 0 }, { name := "EMPTY_LIST", type := (.object "java/util/List"), accessFlags := 25, slot := 10, constantValue := 0 }, { name := "EMPTY_MAP", type := (.object "java/util/Map"), accessFlags := 25, slot := 11, constantValue := 0 }]
  methods := #[k12m0, k12m1]
  instanceTypes := #[]
  staticTypes := #[.int, .int, .int, .int, .int, .int, .int, .int, (.object "java/util/Random"), (.object "java/util/Set"), (.object "java/util/List"), (.object "java/util/Map")]
  resolved := Array.replicate 933 none
  statics := none }

def pool13 : Array CpInfo := pool [(2, .class_ 4), (1, u "java/lang/Object"), (0, u "<init>"), (0, u "()V"), (0, .interfaceMethodref 8 9), (0, .class_ 10), (0, .nameAndType 11 12), (0, u "java/lang/Comparable"), (0, u "compareTo"), (0, u "(Ljava/lang/Object;)I"), (1, .class_ 16), (1, u "java/util/Collections"), (3, .class_ 22), (1, u "java/util/Comparator"), (1, .methodref 25 26), (0, .class_ 27), (0, .nameAndType 28 29), (0, u "java/util/Collections$ReverseComparator"), (0, u "compare"), (0, u "(Ljava/lang/Comparable;Ljava/lang/Comparable;)I"), (3, u "REVERSE_ORDER"), (0, u "Ljava/util/Collections$ReverseComparator;"), (0, .class_ 36), (0, u "java/io/Serializable"), (0, u "serialVersionUID"), (0, u "J"), (18, u "(Ljava/lang/Object;Ljava/lang/Object;)I")] 8

def k13m0 : Method := { name := "<init>", desc := "()V", sig := { parameters := [], returnType := none }, accessFlags := 2, code := none }
def k13c1 : Code := { maxStack := 2, maxLocals := 3, code := jdk_2483_method_2_code, exceptionTable := #[], attributes := #[] }
def k13m1 : Method := { name := "compare", desc := "(Ljava/lang/Comparable;Ljava/lang/Comparable;)I", sig := { parameters := [(.object "java/lang/Comparable"), (.object "java/lang/Comparable")], returnType := some .int }, accessFlags := 1, code := some k13c1 }
def k13c2 : Code := { maxStack := 3, maxLocals := 3, code := jdk_2483_method_5_code, exceptionTable := #[], attributes := #[] }
def k13m2 : Method := { name := "compare", desc := "(Ljava/lang/Object;Ljava/lang/Object;)I", sig := { parameters := [(.object "java/lang/Object"), (.object "java/lang/Object")], returnType := some .int }, accessFlags := 4161, code := some k13c2 }
/-- java/util/Collections$ReverseComparator -/
def k13 : Class := { plain "java/util/Collections$ReverseComparator" (some 0) with
  accessFlags := 32
  interfaces := #[11, 9]
  cf := some (fileOf pool13 25 #[.nestHost 14] #[{ accessFlags := 2, nameIndex := 5, descriptorIndex := 6, attributes := #[] }, { accessFlags := 1, nameIndex := 28, descriptorIndex := 29, attributes := #[] }, { accessFlags := 4161, nameIndex := 28, descriptorIndex := 57, attributes := #[] }] 32 2 #[20, 35] #[{ accessFlags := 26, nameIndex := 37, descriptorIndex := 38, attributes := #[] }, { accessFlags := 24, nameIndex := 33, descriptorIndex := 34, attributes := #[] }])
  fields := #[{ name := "serialVersionUID", type := .long, accessFlags := 26, slot := 0, constantValue := 0 }, { name := "REVERSE_ORDER", type := (.object "java/util/Collections$ReverseComparator"), accessFlags := 24, slot := 1, constantValue := 0 }]
  methods := #[k13m0, k13m1, k13m2]
  instanceTypes := #[]
  staticTypes := #[.long, (.object "java/util/Collections$ReverseComparator")]
  resolved := Array.replicate 66 none
  statics := some 0 }

def pool14 : Array CpInfo := pool [(1, .methodref 2 3), (0, .class_ 4), (0, .nameAndType 5 6), (0, u "java/lang/Object"), (0, u "<init>"), (0, u "()V"), (1, .class_ 10), (1, u "java/lang/Number"), (2, .class_ 14), (0, u "java/io/Serializable"), (0, u "serialVersionUID"), (0, u "J")] 20

def k14c0 : Code := { maxStack := 1, maxLocals := 1, code := jdk_18_method_1_code, exceptionTable := #[], attributes := #[] }
def k14m0 : Method := { name := "<init>", desc := "()V", sig := { parameters := [], returnType := none }, accessFlags := 1, code := some k14c0 }
/-- java/lang/Number -/
def k14 : Class := { plain "java/lang/Number" (some 0) with
  accessFlags := 1057
  interfaces := #[9]
  cf := some (fileOf pool14 8 #[] #[{ accessFlags := 1, nameIndex := 5, descriptorIndex := 6, attributes := #[] }] 1057 2 #[13] #[{ accessFlags := 26, nameIndex := 15, descriptorIndex := 16, attributes := #[] }])
  fields := #[{ name := "serialVersionUID", type := .long, accessFlags := 26, slot := 0, constantValue := 0 }]
  methods := #[k14m0]
  instanceTypes := #[]
  staticTypes := #[.long]
  resolved := Array.replicate 37 none
  statics := none }

def pool15 : Array CpInfo := pool [(1, .class_ 2), (0, u "java/lang/Comparable"), (0, .class_ 4), (0, u "java/lang/Object"), (0, u "compareTo"), (0, u "(Ljava/lang/Object;)I")] 5

def k15m0 : Method := { name := "compareTo", desc := "(Ljava/lang/Object;)I", sig := { parameters := [(.object "java/lang/Object")], returnType := some .int }, accessFlags := 1025, code := none }
/-- java/lang/Comparable -/
def k15 : Class := { plain "java/lang/Comparable" (some 0) with
  accessFlags := 1537
  interfaces := #[]
  cf := some (fileOf pool15 1 #[] #[{ accessFlags := 1025, nameIndex := 5, descriptorIndex := 6, attributes := #[] }] 1537 3 #[] #[])
  fields := #[]
  methods := #[k15m0]
  instanceTypes := #[]
  staticTypes := #[]
  resolved := Array.replicate 12 none
  statics := none }

def pool16 : Array CpInfo := pool [(1, .class_ 2), (0, u "java/lang/constant/Constable"), (0, .class_ 4), (0, u "java/lang/Object")] 6

/-- java/lang/constant/Constable -/
def k16 : Class := { plain "java/lang/constant/Constable" (some 0) with
  accessFlags := 1537
  interfaces := #[]
  cf := some (fileOf pool16 1 #[] #[] 1537 3 #[] #[])
  fields := #[]
  methods := #[]
  instanceTypes := #[]
  staticTypes := #[]
  resolved := Array.replicate 11 none
  statics := none }

def pool17 : Array CpInfo := pool [(1, .class_ 2), (0, u "java/lang/constant/ConstantDesc"), (0, .class_ 4), (0, u "java/lang/Object")] 32

/-- java/lang/constant/ConstantDesc -/
def k17 : Class := { plain "java/lang/constant/ConstantDesc" (some 0) with
  accessFlags := 1537
  interfaces := #[]
  cf := some (fileOf pool17 1 #[] #[] 1537 3 #[] #[])
  fields := #[]
  methods := #[]
  instanceTypes := #[]
  staticTypes := #[]
  resolved := Array.replicate 37 none
  statics := none }

def pool18 : Array CpInfo := pool [(1, .class_ 2), (0, u "java/lang/Integer"), (16, u "digits"), (0, u "[C"), (39, u "(II)I"), (6, u "<init>"), (17, u "DigitOnes"), (0, u "[B"), (2, u "DigitTens"), (10, .nameAndType 67 101), (0, u "()V"), (85, u "valueOf"), (0, u "(I)Ljava/lang/Integer;"), (0, .class_ 190), (0, u "java/lang/Integer$IntegerCache"), (0, .fieldref 189 192), (0, .nameAndType 193 194), (0, u "high"), (0, u "I"), (0, .fieldref 189 196), (0, .nameAndType 197 198), (0, u "cache"), (0, u "[Ljava/lang/Integer;"), (0, .methodref 1 200), (0, .nameAndType 67 201), (0, u "(I)V"), (0, .methodref 203 100), (0, .class_ 204), (0, u "java/lang/Number"), (0, .fieldref 1 206), (0, .nameAndType 207 194), (0, u "value"), (51, .methodref 1 260), (0, .nameAndType 261 60), (0, u "compare"), (22, .methodref 1 285), (0, .nameAndType 286 287), (0, u "compareTo"), (0, u "(Ljava/lang/Integer;)I"), (14, u "TYPE"), (0, u "Ljava/lang/Class;"), (0, .class_ 305), (0, u "java/lang/Comparable"), (0, .class_ 307), (0, u "java/lang/constant/Constable"), (0, .class_ 309), (0, u "java/lang/constant/ConstantDesc"), (0, u "MIN_VALUE"), (1, u "MAX_VALUE"), (3, u "SIZE"), (1, u "BYTES"), (1, u "serialVersionUID"), (0, u "J"), (113, u "(Ljava/lang/Object;)I")] 17

def k18c0 : Code := { maxStack := 3, maxLocals := 1, code := jdk_33_method_22_code, exceptionTable := #[], attributes := #[] }
def k18m0 : Method := { name := "valueOf", desc := "(I)Ljava/lang/Integer;", sig := { parameters := [.int], returnType := some (.object "java/lang/Integer") }, accessFlags := 9, code := some k18c0 }
def k18c1 : Code := { maxStack := 2, maxLocals := 2, code := jdk_33_method_23_code, exceptionTable := #[], attributes := #[] }
def k18m1 : Method := { name := "<init>", desc := "(I)V", sig := { parameters := [.int], returnType := none }, accessFlags := 1, code := some k18c1 }
def k18c2 : Code := { maxStack := 2, maxLocals := 2, code := jdk_33_method_39_code, exceptionTable := #[], attributes := #[] }
def k18m2 : Method := { name := "compareTo", desc := "(Ljava/lang/Integer;)I", sig := { parameters := [(.object "java/lang/Integer")], returnType := some .int }, accessFlags := 1, code := some k18c2 }
def k18c3 : Code := { maxStack := 2, maxLocals := 2, code := jdk_33_method_40_code, exceptionTable := #[], attributes := #[] }
def k18m3 : Method := { name := "compare", desc := "(II)I", sig := { parameters := [.int, .int], returnType := some .int }, accessFlags := 9, code := some k18c3 }
def k18c4 : Code := { maxStack := 2, maxLocals := 2, code := jdk_33_method_63_code, exceptionTable := #[], attributes := #[] }
def k18m4 : Method := { name := "compareTo", desc := "(Ljava/lang/Object;)I", sig := { parameters := [(.object "java/lang/Object")], returnType := some .int }, accessFlags := 4161, code := some k18c4 }
/-- java/lang/Integer -/
def k18 : Class := { plain "java/lang/Integer" (some 14) with
  accessFlags := 49
  interfaces := #[15, 16, 17]
  cf := some (fileOf pool18 1 #[.nestMembers #[189]] #[{ accessFlags := 9, nameIndex := 187, descriptorIndex := 188, attributes := #[] }, { accessFlags := 1, nameIndex := 67, descriptorIndex := 201, attributes := #[] }, { accessFlags := 1, nameIndex := 286, descriptorIndex := 287, attributes := #[] }, { accessFlags := 9, nameIndex := 261, descriptorIndex := 60, attributes := #[] }, { accessFlags := 4161, nameIndex := 286, descriptorIndex := 435, attributes := #[] }] 49 203 #[304, 306, 308] #[{ accessFlags := 25, nameIndex := 310, descriptorIndex := 194, attributes := #[] }, { accessFlags := 25, nameIndex := 312, descriptorIndex := 194, attributes := #[] }, { accessFlags := 25, nameIndex := 302, descriptorIndex := 303, attributes := #[] }, { accessFlags := 24, nameIndex := 19, descriptorIndex := 20, attributes := #[] }, { accessFlags := 24, nameIndex := 89, descriptorIndex := 86, attributes := #[] }, { accessFlags := 24, nameIndex := 85, descriptorIndex := 86, attributes := #[] }, { accessFlags := 18, nameIndex := 207, descriptorIndex := 194, attributes := #[] }, { accessFlags := 25, nameIndex := 316, descriptorIndex := 194, attributes := #[] }, { accessFlags := 25, nameIndex := 318, descriptorIndex := 194, attributes := #[] }, { accessFlags := 26, nameIndex := 320, descriptorIndex := 321, attributes := #[] }])
  fields := #[{ name := "MIN_VALUE", type := .int, accessFlags := 25, slot := 0, constantValue := 0 }, { name := "MAX_VALUE", type := .int, accessFlags := 25, slot := 1, constantValue := 0 }, { name := "TYPE", type := (.object "java/lang/Class"), accessFlags := 25, slot := 2, constantValue := 0 }, { name := "digits", type := (.array .char), accessFlags := 24, slot := 3, constantValue := 0 }, { name := "DigitTens", type := (.array .byte), accessFlags := 24, slot := 4, constantValue := 0 }, { name := "DigitOnes", type := (.array .byte), accessFlags := 24, slot := 5, constantValue := 0 }, { name := "value", type := .int, accessFlags := 18, slot := 0, constantValue := 0 }, { name := "SIZE", type := .int, accessFlags := 25, slot := 6, constantValue := 0 }, { name := "BYTES", type := .int, accessFlags := 25, slot := 7, constantValue := 0 }, { name := "serialVersionUID", type := .long, accessFlags := 26, slot := 8, constantValue := 0 }]
  methods := #[k18m0, k18m1, k18m2, k18m3, k18m4]
  instanceTypes := #[.int]
  staticTypes := #[.int, .int, (.object "java/lang/Class"), (.array .char), (.array .byte), (.array .byte), .int, .int, .long]
  resolved := Array.replicate 453 none
  statics := none }

def pool19 : Array CpInfo := pool [(2, .class_ 4), (1, u "java/lang/Object"), (0, u "<init>"), (0, u "()V"), (0, .class_ 8), (0, u "java/lang/Integer"), (7, .class_ 18), (1, u "java/lang/Integer$IntegerCache"), (0, u "$assertionsDisabled"), (0, u "Z"), (26, u "high"), (0, u "I"), (8, u "archivedCache"), (0, u "[Ljava/lang/Integer;"), (12, u "cache"), (0, u "low")] 27

def k19m0 : Method := { name := "<init>", desc := "()V", sig := { parameters := [], returnType := none }, accessFlags := 2, code := none }
/-- java/lang/Integer$IntegerCache -/
def k19 : Class := { plain "java/lang/Integer$IntegerCache" (some 0) with
  accessFlags := 48
  interfaces := #[]
  cf := some (fileOf pool19 16 #[.nestHost 7] #[{ accessFlags := 2, nameIndex := 5, descriptorIndex := 6, attributes := #[] }] 48 2 #[] #[{ accessFlags := 24, nameIndex := 72, descriptorIndex := 48, attributes := #[] }, { accessFlags := 24, nameIndex := 47, descriptorIndex := 48, attributes := #[] }, { accessFlags := 24, nameIndex := 71, descriptorIndex := 58, attributes := #[] }, { accessFlags := 8, nameIndex := 57, descriptorIndex := 58, attributes := #[] }, { accessFlags := 4120, nameIndex := 19, descriptorIndex := 20, attributes := #[] }])
  fields := #[{ name := "low", type := .int, accessFlags := 24, slot := 0, constantValue := 0 }, { name := "high", type := .int, accessFlags := 24, slot := 1, constantValue := 0 }, { name := "cache", type := (.array (.object "java/lang/Integer")), accessFlags := 24, slot := 2, constantValue := 0 }, { name := "archivedCache", type := (.array (.object "java/lang/Integer")), accessFlags := 8, slot := 3, constantValue := 0 }, { name := "$assertionsDisabled", type := .boolean, accessFlags := 4120, slot := 4, constantValue := 0 }]
  methods := #[k19m0]
  instanceTypes := #[]
  staticTypes := #[.int, .int, (.array (.object "java/lang/Integer")), (.array (.object "java/lang/Integer")), .boolean]
  resolved := Array.replicate 100 none
  statics := some 1 }

def pool20 : Array CpInfo := pool [(6, u "(Ljava/lang/Object;)Ljava/lang/Object;"), (2, u "apply"), (6, .class_ 18), (1, u "java/util/function/Function"), (0, .class_ 20), (0, u "java/lang/Object")] 56

def k20m0 : Method := { name := "apply", desc := "(Ljava/lang/Object;)Ljava/lang/Object;", sig := { parameters := [(.object "java/lang/Object")], returnType := some (.object "java/lang/Object") }, accessFlags := 1025, code := none }
/-- java/util/function/Function -/
def k20 : Class := { plain "java/util/function/Function" (some 0) with
  accessFlags := 1537
  interfaces := #[]
  cf := some (fileOf pool20 16 #[] #[{ accessFlags := 1025, nameIndex := 9, descriptorIndex := 6, attributes := #[] }] 1537 19 #[] #[])
  fields := #[]
  methods := #[k20m0]
  instanceTypes := #[]
  staticTypes := #[]
  resolved := Array.replicate 77 none
  statics := none }

def pool21 : Array CpInfo := pool [(2, .class_ 4), (1, u "java/lang/Object"), (0, u "<init>"), (0, u "()V"), (35, .class_ 44), (1, u "java/util/Objects"), (0, u "requireNonNull"), (0, u "(Ljava/lang/Object;)Ljava/lang/Object;")] 137

def k21m0 : Method := { name := "<init>", desc := "()V", sig := { parameters := [], returnType := none }, accessFlags := 2, code := none }
def k21c1 : Code := { maxStack := 2, maxLocals := 1, code := jdk_31_method_10_code, exceptionTable := #[], attributes := #[] }
def k21m1 : Method := { name := "requireNonNull", desc := "(Ljava/lang/Object;)Ljava/lang/Object;", sig := { parameters := [(.object "java/lang/Object")], returnType := some (.object "java/lang/Object") }, accessFlags := 9, code := some k21c1 }
/-- java/util/Objects -/
def k21 : Class := { plain "java/util/Objects" (some 0) with
  accessFlags := 49
  interfaces := #[]
  cf := some (fileOf pool21 42 #[] #[{ accessFlags := 2, nameIndex := 5, descriptorIndex := 6, attributes := #[] }, { accessFlags := 9, nameIndex := 45, descriptorIndex := 46, attributes := #[] }] 49 2 #[] #[])
  fields := #[]
  methods := #[k21m0, k21m1]
  instanceTypes := #[]
  staticTypes := #[]
  resolved := Array.replicate 184 none
  statics := none }

def pool22 : Array CpInfo := pool [(1, .methodref 2 3), (0, .class_ 4), (0, .nameAndType 5 6), (0, u "java/lang/Object"), (0, u "<init>"), (0, u "()V"), (0, .class_ 8), (0, u "com/example/kept_till_acked/kepttillacked/queue/SeqBits"), (0, .methodref 7 3), (0, .fieldref 11 12), (0, .class_ 13), (0, .nameAndType 14 15), (0, u "com/example/kept_till_acked/kepttillacked/queue/ReadyLine$Line"), (0, u "home"), (0, u "Lcom/example/kept_till_acked/kepttillacked/queue/SeqBits;"), (0, .class_ 17), (0, u "com/example/kept_till_acked/kepttillacked/queue/MovedRuns"), (0, .methodref 16 3), (0, .fieldref 11 20), (0, .nameAndType 21 22), (0, u "moved"), (0, u "Lcom/example/kept_till_acked/kepttillacked/queue/MovedRuns;"), (5, .class_ 29), (0, u "com/example/kept_till_acked/kepttillacked/queue/ReadyLine")] 2

def k22c0 : Code := { maxStack := 3, maxLocals := 1, code := prog_58_method_1_code, exceptionTable := #[], attributes := #[] }
def k22m0 : Method := { name := "<init>", desc := "()V", sig := { parameters := [], returnType := none }, accessFlags := 2, code := some k22c0 }
/-- com/example/kept_till_acked/kepttillacked/queue/ReadyLine$Line -/
def k22 : Class := { plain "com/example/kept_till_acked/kepttillacked/queue/ReadyLine$Line" (some 0) with
  accessFlags := 32
  interfaces := #[]
  cf := some (fileOf pool22 11 #[.nestHost 28] #[{ accessFlags := 2, nameIndex := 5, descriptorIndex := 6, attributes := #[] }] 32 2 #[] #[{ accessFlags := 18, nameIndex := 14, descriptorIndex := 15, attributes := #[] }, { accessFlags := 18, nameIndex := 21, descriptorIndex := 22, attributes := #[] }])
  fields := #[{ name := "home", type := (.object "com/example/kept_till_acked/kepttillacked/queue/SeqBits"), accessFlags := 18, slot := 0, constantValue := 0 }, { name := "moved", type := (.object "com/example/kept_till_acked/kepttillacked/queue/MovedRuns"), accessFlags := 18, slot := 1, constantValue := 0 }]
  methods := #[k22m0]
  instanceTypes := #[(.object "com/example/kept_till_acked/kepttillacked/queue/SeqBits"), (.object "com/example/kept_till_acked/kepttillacked/queue/MovedRuns")]
  staticTypes := #[]
  resolved := Array.replicate 32 none
  statics := none }

def pool23 : Array CpInfo := pool [(1, .class_ 2), (0, u "com/example/kept_till_acked/kepttillacked/queue/SeqBits"), (2, .methodref 6 7), (0, .class_ 8), (0, .nameAndType 9 10), (0, u "java/lang/Object"), (0, u "<init>"), (0, u "()V"), (0, .class_ 12), (0, u "com/example/kept_till_acked/kepttillacked/queue/Pages"), (0, .methodref 11 7), (0, .fieldref 1 15), (0, .nameAndType 16 17), (0, u "pages"), (0, u "Lcom/example/kept_till_acked/kepttillacked/queue/Pages;"), (0, .fieldref 1 19), (0, .nameAndType 20 21), (0, u "size"), (0, u "I"), (0, .methodref 11 23), (0, .nameAndType 24 25), (0, u "get"), (0, u "(J)Ljava/lang/Object;"), (0, .class_ 27), (0, u "com/example/kept_till_acked/kepttillacked/queue/SeqBits$Page"), (0, .methodref 26 7), (0, .methodref 11 30), (0, .nameAndType 31 32), (0, u "put"), (0, u "(JLjava/lang/Object;)V"), (0, .methodref 1 34), (0, .nameAndType 35 36), (0, u "bit"), (0, u "(J)I"), (0, .methodref 26 38), (0, .nameAndType 39 40), (0, u "set"), (0, u "(I)Z"), (0, .methodref 26 42), (0, .nameAndType 43 40), (0, u "clear"), (0, .fieldref 26 45), (0, .nameAndType 46 21), (0, u "count"), (0, .methodref 11 48), (0, .nameAndType 49 50), (0, u "remove"), (0, u "(J)V"), (9, .long 255), (1, u "PAGE_BITS"), (2, u "WORDS"), (5, u "()I"), (0, u "add"), (1, u "(J)Z")] 5

def k23c0 : Code := { maxStack := 3, maxLocals := 1, code := prog_63_method_1_code, exceptionTable := #[], attributes := #[] }
def k23m0 : Method := { name := "<init>", desc := "()V", sig := { parameters := [], returnType := none }, accessFlags := 0, code := some k23c0 }
def k23c1 : Code := { maxStack := 1, maxLocals := 1, code := prog_63_method_2_code, exceptionTable := #[], attributes := #[] }
def k23m1 : Method := { name := "size", desc := "()I", sig := { parameters := [], returnType := some .int }, accessFlags := 0, code := some k23c1 }
def k23c2 : Code := { maxStack := 4, maxLocals := 6, code := prog_63_method_3_code, exceptionTable := #[], attributes := #[] }
def k23m2 : Method := { name := "add", desc := "(J)V", sig := { parameters := [.long], returnType := none }, accessFlags := 0, code := some k23c2 }
def k23c3 : Code := { maxStack := 3, maxLocals := 6, code := prog_63_method_4_code, exceptionTable := #[], attributes := #[] }
def k23m3 : Method := { name := "remove", desc := "(J)Z", sig := { parameters := [.long], returnType := some .boolean }, accessFlags := 0, code := some k23c3 }
def k23c4 : Code := { maxStack := 4, maxLocals := 2, code := prog_63_method_6_code, exceptionTable := #[], attributes := #[] }
def k23m4 : Method := { name := "bit", desc := "(J)I", sig := { parameters := [.long], returnType := some .int }, accessFlags := 10, code := some k23c4 }
/-- com/example/kept_till_acked/kepttillacked/queue/SeqBits -/
def k23 : Class := { plain "com/example/kept_till_acked/kepttillacked/queue/SeqBits" (some 0) with
  accessFlags := 32
  interfaces := #[]
  cf := some (fileOf pool23 1 #[.nestMembers #[26]] #[{ accessFlags := 0, nameIndex := 9, descriptorIndex := 10, attributes := #[] }, { accessFlags := 0, nameIndex := 20, descriptorIndex := 71, attributes := #[] }, { accessFlags := 0, nameIndex := 72, descriptorIndex := 50, attributes := #[] }, { accessFlags := 0, nameIndex := 49, descriptorIndex := 74, attributes := #[] }, { accessFlags := 10, nameIndex := 35, descriptorIndex := 36, attributes := #[] }] 32 6 #[] #[{ accessFlags := 26, nameIndex := 62, descriptorIndex := 21, attributes := #[] }, { accessFlags := 26, nameIndex := 65, descriptorIndex := 21, attributes := #[] }, { accessFlags := 18, nameIndex := 16, descriptorIndex := 17, attributes := #[] }, { accessFlags := 2, nameIndex := 20, descriptorIndex := 21, attributes := #[] }])
  fields := #[{ name := "PAGE_BITS", type := .int, accessFlags := 26, slot := 0, constantValue := 0 }, { name := "WORDS", type := .int, accessFlags := 26, slot := 1, constantValue := 0 }, { name := "pages", type := (.object "com/example/kept_till_acked/kepttillacked/queue/Pages"), accessFlags := 18, slot := 0, constantValue := 0 }, { name := "size", type := .int, accessFlags := 2, slot := 1, constantValue := 0 }]
  methods := #[k23m0, k23m1, k23m2, k23m3, k23m4]
  instanceTypes := #[(.object "com/example/kept_till_acked/kepttillacked/queue/Pages"), .int]
  staticTypes := #[.int, .int]
  resolved := (((Array.replicate 80 none).set! 44 (some (.field 36 1))).set! 28 (some (.method ⟨36, 0⟩))).set! 26 (some (.cls 36))
  statics := none }

def pool24 : Array CpInfo := pool [(1, .methodref 2 3), (0, .class_ 4), (0, .nameAndType 5 6), (0, u "java/lang/Object"), (0, u "<init>"), (0, u "()V"), (0, .class_ 8), (0, u "com/example/kept_till_acked/kepttillacked/queue/Pages"), (0, .fieldref 7 10), (0, .nameAndType 11 12), (0, u "numbers"), (0, u "[J"), (0, .fieldref 7 14), (0, .nameAndType 15 16), (0, u "pages"), (0, u "[Ljava/lang/Object;"), (0, .methodref 7 18), (0, .nameAndType 19 20), (0, u "find"), (0, u "(J)I"), (0, .fieldref 7 22), (0, .nameAndType 23 24), (0, u "count"), (0, u "I"), (4, .methodref 30 31), (0, .class_ 32), (0, .nameAndType 33 34), (0, u "java/lang/System"), (0, u "arraycopy"), (0, u "(Ljava/lang/Object;ILjava/lang/Object;II)V"), (0, .long 18446744073709551615), (11, .fieldref 7 48), (0, .nameAndType 49 24), (0, u "found"), (0, .methodref 51 52), (0, .class_ 53), (0, .nameAndType 54 55), (0, u "java/util/Arrays"), (0, u "binarySearch"), (0, u "([JIIJ)I"), (7, u "LEAST_ROOM"), (4, u "get"), (0, u "(J)Ljava/lang/Object;"), (3, u "put"), (0, u "(JLjava/lang/Object;)V"), (1, u "remove"), (0, u "(J)V")] 8

def k24c0 : Code := { maxStack := 2, maxLocals := 1, code := prog_49_method_1_code, exceptionTable := #[], attributes := #[] }
def k24m0 : Method := { name := "<init>", desc := "()V", sig := { parameters := [], returnType := none }, accessFlags := 0, code := some k24c0 }
def k24c1 : Code := { maxStack := 3, maxLocals := 4, code := prog_49_method_2_code, exceptionTable := #[], attributes := #[] }
def k24m1 : Method := { name := "get", desc := "(J)Ljava/lang/Object;", sig := { parameters := [.long], returnType := some (.object "java/lang/Object") }, accessFlags := 0, code := some k24c1 }
def k24c2 : Code := { maxStack := 6, maxLocals := 5, code := prog_49_method_3_code, exceptionTable := #[], attributes := #[] }
def k24m2 : Method := { name := "put", desc := "(JLjava/lang/Object;)V", sig := { parameters := [.long, (.object "java/lang/Object")], returnType := none }, accessFlags := 0, code := some k24c2 }
def k24c3 : Code := { maxStack := 6, maxLocals := 4, code := prog_49_method_4_code, exceptionTable := #[], attributes := #[] }
def k24m3 : Method := { name := "remove", desc := "(J)V", sig := { parameters := [.long], returnType := none }, accessFlags := 0, code := some k24c3 }
def k24c4 : Code := { maxStack := 5, maxLocals := 6, code := prog_49_method_7_code, exceptionTable := #[], attributes := #[] }
def k24m4 : Method := { name := "find", desc := "(J)I", sig := { parameters := [.long], returnType := some .int }, accessFlags := 2, code := some k24c4 }
/-- com/example/kept_till_acked/kepttillacked/queue/Pages -/
def k24 : Class := { plain "com/example/kept_till_acked/kepttillacked/queue/Pages" (some 0) with
  accessFlags := 32
  interfaces := #[]
  cf := some (fileOf pool24 7 #[] #[{ accessFlags := 0, nameIndex := 5, descriptorIndex := 6, attributes := #[] }, { accessFlags := 0, nameIndex := 68, descriptorIndex := 69, attributes := #[] }, { accessFlags := 0, nameIndex := 73, descriptorIndex := 74, attributes := #[] }, { accessFlags := 0, nameIndex := 76, descriptorIndex := 77, attributes := #[] }, { accessFlags := 2, nameIndex := 19, descriptorIndex := 20, attributes := #[] }] 32 2 #[] #[{ accessFlags := 26, nameIndex := 63, descriptorIndex := 24, attributes := #[] }, { accessFlags := 2, nameIndex := 11, descriptorIndex := 12, attributes := #[] }, { accessFlags := 2, nameIndex := 15, descriptorIndex := 16, attributes := #[] }, { accessFlags := 2, nameIndex := 23, descriptorIndex := 24, attributes := #[] }, { accessFlags := 2, nameIndex := 49, descriptorIndex := 24, attributes := #[] }])
  fields := #[{ name := "LEAST_ROOM", type := .int, accessFlags := 26, slot := 0, constantValue := 0 }, { name := "numbers", type := (.array .long), accessFlags := 2, slot := 0, constantValue := 0 }, { name := "pages", type := (.array (.object "java/lang/Object")), accessFlags := 2, slot := 1, constantValue := 0 }, { name := "count", type := .int, accessFlags := 2, slot := 2, constantValue := 0 }, { name := "found", type := .int, accessFlags := 2, slot := 3, constantValue := 0 }]
  methods := #[k24m0, k24m1, k24m2, k24m3, k24m4]
  instanceTypes := #[(.array .long), (.array (.object "java/lang/Object")), .int, .int]
  staticTypes := #[.int]
  resolved := Array.replicate 86 none
  statics := none }

def pool25 : Array CpInfo := pool [(1, .methodref 2 3), (0, .class_ 4), (0, .nameAndType 5 6), (0, u "java/lang/Object"), (0, u "<init>"), (0, u "()V"), (0, .class_ 8), (0, u "java/util/ArrayDeque"), (0, .methodref 7 3), (0, .fieldref 11 12), (0, .class_ 13), (0, .nameAndType 14 15), (0, u "com/example/kept_till_acked/kepttillacked/queue/MovedRuns"), (0, u "chunks"), (0, u "Ljava/util/ArrayDeque;"), (0, .fieldref 11 17), (0, .nameAndType 18 19), (0, u "size"), (0, u "I"), (0, .fieldref 11 21), (0, .nameAndType 22 19), (0, u "runs"), (0, .methodref 7 24), (0, .nameAndType 25 26), (0, u "peekLast"), (0, u "()Ljava/lang/Object;"), (0, .class_ 28), (0, u "[J"), (0, .fieldref 11 30), (0, .nameAndType 31 19), (0, u "back"), (9, .fieldref 11 42), (0, .nameAndType 43 44), (0, u "sealed"), (0, u "Z"), (6, .methodref 7 52), (0, .nameAndType 53 54), (0, u "addLast"), (0, u "(Ljava/lang/Object;)V"), (0, .methodref 7 56), (0, .nameAndType 57 26), (0, u "getFirst"), (0, .fieldref 11 59), (0, .nameAndType 60 19), (0, u "front"), (0, .fieldref 11 62), (0, .nameAndType 63 64), (0, u "taken"), (0, u "J"), (0, .methodref 7 66), (0, .nameAndType 18 67), (0, u "()I"), (0, .methodref 7 69), (0, .nameAndType 70 26), (0, u "removeFirst"), (0, .class_ 72), (0, u "com/example/kept_till_acked/kepttillacked/queue/MovedRuns$Cursor"), (7, .class_ 81), (0, u "com/example/kept_till_acked/kepttillacked/queue/MovedRuns$Captured"), (9, u "RUN"), (2, u "FIRST_ROOM"), (1, u "MOST_ROOM"), (5, u "isEmpty"), (0, u "()Z"), (1, u "add"), (0, u "(JJ)V"), (0, u "first"), (0, u "()J")] 25

def k25c0 : Code := { maxStack := 3, maxLocals := 1, code := prog_45_method_1_code, exceptionTable := #[], attributes := #[] }
def k25m0 : Method := { name := "<init>", desc := "()V", sig := { parameters := [], returnType := none }, accessFlags := 0, code := some k25c0 }
def k25c1 : Code := { maxStack := 1, maxLocals := 1, code := prog_45_method_4_code, exceptionTable := #[], attributes := #[] }
def k25m1 : Method := { name := "isEmpty", desc := "()Z", sig := { parameters := [], returnType := some .boolean }, accessFlags := 0, code := some k25c1 }
def k25c2 : Code := { maxStack := 9, maxLocals := 7, code := prog_45_method_5_code, exceptionTable := #[], attributes := #[] }
def k25m2 : Method := { name := "add", desc := "(JJ)V", sig := { parameters := [.long, .long], returnType := none }, accessFlags := 0, code := some k25c2 }
def k25c3 : Code := { maxStack := 4, maxLocals := 1, code := prog_45_method_6_code, exceptionTable := #[], attributes := #[] }
def k25m3 : Method := { name := "first", desc := "()J", sig := { parameters := [], returnType := some .long }, accessFlags := 0, code := some k25c3 }
def k25c4 : Code := { maxStack := 5, maxLocals := 3, code := prog_45_method_8_code, exceptionTable := #[], attributes := #[] }
def k25m4 : Method := { name := "removeFirst", desc := "()V", sig := { parameters := [], returnType := none }, accessFlags := 0, code := some k25c4 }
/-- com/example/kept_till_acked/kepttillacked/queue/MovedRuns -/
def k25 : Class := { plain "com/example/kept_till_acked/kepttillacked/queue/MovedRuns" (some 0) with
  accessFlags := 32
  interfaces := #[]
  cf := some (fileOf pool25 11 #[.nestMembers #[80, 71]] #[{ accessFlags := 0, nameIndex := 5, descriptorIndex := 6, attributes := #[] }, { accessFlags := 0, nameIndex := 102, descriptorIndex := 103, attributes := #[] }, { accessFlags := 0, nameIndex := 105, descriptorIndex := 106, attributes := #[] }, { accessFlags := 0, nameIndex := 107, descriptorIndex := 108, attributes := #[] }, { accessFlags := 0, nameIndex := 70, descriptorIndex := 6, attributes := #[] }] 32 2 #[] #[{ accessFlags := 26, nameIndex := 91, descriptorIndex := 19, attributes := #[] }, { accessFlags := 26, nameIndex := 94, descriptorIndex := 19, attributes := #[] }, { accessFlags := 26, nameIndex := 96, descriptorIndex := 19, attributes := #[] }, { accessFlags := 18, nameIndex := 14, descriptorIndex := 15, attributes := #[] }, { accessFlags := 2, nameIndex := 60, descriptorIndex := 19, attributes := #[] }, { accessFlags := 2, nameIndex := 63, descriptorIndex := 64, attributes := #[] }, { accessFlags := 2, nameIndex := 31, descriptorIndex := 19, attributes := #[] }, { accessFlags := 2, nameIndex := 18, descriptorIndex := 19, attributes := #[] }, { accessFlags := 2, nameIndex := 22, descriptorIndex := 19, attributes := #[] }, { accessFlags := 2, nameIndex := 43, descriptorIndex := 44, attributes := #[] }])
  fields := #[{ name := "RUN", type := .int, accessFlags := 26, slot := 0, constantValue := 0 }, { name := "FIRST_ROOM", type := .int, accessFlags := 26, slot := 1, constantValue := 0 }, { name := "MOST_ROOM", type := .int, accessFlags := 26, slot := 2, constantValue := 0 }, { name := "chunks", type := (.object "java/util/ArrayDeque"), accessFlags := 18, slot := 0, constantValue := 0 }, { name := "front", type := .int, accessFlags := 2, slot := 1, constantValue := 0 }, { name := "taken", type := .long, accessFlags := 2, slot := 2, constantValue := 0 }, { name := "back", type := .int, accessFlags := 2, slot := 3, constantValue := 0 }, { name := "size", type := .int, accessFlags := 2, slot := 4, constantValue := 0 }, { name := "runs", type := .int, accessFlags := 2, slot := 5, constantValue := 0 }, { name := "sealed", type := .boolean, accessFlags := 2, slot := 6, constantValue := 0 }]
  methods := #[k25m0, k25m1, k25m2, k25m3, k25m4]
  instanceTypes := #[(.object "java/util/ArrayDeque"), .int, .long, .int, .int, .int, .boolean]
  staticTypes := #[.int, .int, .int]
  resolved := Array.replicate 134 none
  statics := none }

def pool26 : Array CpInfo := pool [(8, .class_ 10), (1, u "java/lang/Iterable"), (24, .class_ 36), (0, u "java/lang/Object")] 25

/-- java/lang/Iterable -/
def k26 : Class := { plain "java/lang/Iterable" (some 0) with
  accessFlags := 1537
  interfaces := #[]
  cf := some (fileOf pool26 8 #[] #[] 1537 35 #[] #[])
  fields := #[]
  methods := #[]
  instanceTypes := #[]
  staticTypes := #[]
  resolved := Array.replicate 62 none
  statics := none }

def pool27 : Array CpInfo := pool [(10, .class_ 12), (1, u "java/util/Collection"), (47, .class_ 61), (0, u "java/lang/Object"), (0, .class_ 63), (0, u "java/lang/Iterable")] 51

/-- java/util/Collection -/
def k27 : Class := { plain "java/util/Collection" (some 0) with
  accessFlags := 1537
  interfaces := #[26]
  cf := some (fileOf pool27 10 #[] #[] 1537 60 #[62] #[])
  fields := #[]
  methods := #[]
  instanceTypes := #[]
  staticTypes := #[]
  resolved := Array.replicate 115 none
  statics := none }

def pool28 : Array CpInfo := pool [(1, .methodref 2 3), (0, .class_ 4), (0, .nameAndType 5 6), (0, u "java/lang/Object"), (0, u "<init>"), (0, u "()V"), (1, .class_ 10), (1, u "java/util/AbstractCollection"), (66, .class_ 78), (0, u "java/util/Collection")] 81

def k28c0 : Code := { maxStack := 1, maxLocals := 1, code := jdk_22_method_1_code, exceptionTable := #[], attributes := #[] }
def k28m0 : Method := { name := "<init>", desc := "()V", sig := { parameters := [], returnType := none }, accessFlags := 4, code := some k28c0 }
/-- java/util/AbstractCollection -/
def k28 : Class := { plain "java/util/AbstractCollection" (some 0) with
  accessFlags := 1057
  interfaces := #[27]
  cf := some (fileOf pool28 8 #[] #[{ accessFlags := 4, nameIndex := 5, descriptorIndex := 6, attributes := #[] }] 1057 2 #[77] #[])
  fields := #[]
  methods := #[k28m0]
  instanceTypes := #[]
  staticTypes := #[]
  resolved := Array.replicate 160 none
  statics := none }

def pool29 : Array CpInfo := pool [(1, .class_ 2), (0, u "java/util/Queue"), (0, .class_ 4), (0, u "java/lang/Object"), (0, .class_ 6), (0, u "java/util/Collection")] 14

/-- java/util/Queue -/
def k29 : Class := { plain "java/util/Queue" (some 0) with
  accessFlags := 1537
  interfaces := #[27]
  cf := some (fileOf pool29 1 #[] #[] 1537 3 #[5] #[])
  fields := #[]
  methods := #[]
  instanceTypes := #[]
  staticTypes := #[]
  resolved := Array.replicate 21 none
  statics := none }

def pool30 : Array CpInfo := pool [(8, .class_ 10), (1, u "java/util/SequencedCollection"), (15, .class_ 27), (0, u "java/lang/Object"), (0, .class_ 29), (0, u "java/util/Collection")] 27

/-- java/util/SequencedCollection -/
def k30 : Class := { plain "java/util/SequencedCollection" (some 0) with
  accessFlags := 1537
  interfaces := #[27]
  cf := some (fileOf pool30 8 #[] #[] 1537 26 #[28] #[])
  fields := #[]
  methods := #[]
  instanceTypes := #[]
  staticTypes := #[]
  resolved := Array.replicate 57 none
  statics := none }

def pool31 : Array CpInfo := pool [(8, .class_ 10), (1, u "java/util/Deque"), (2, .class_ 14), (0, u "java/lang/Object"), (0, .class_ 16), (0, u "java/util/Queue"), (0, .class_ 18), (0, u "java/util/SequencedCollection")] 51

/-- java/util/Deque -/
def k31 : Class := { plain "java/util/Deque" (some 0) with
  accessFlags := 1537
  interfaces := #[29, 30]
  cf := some (fileOf pool31 8 #[] #[] 1537 13 #[15, 17] #[])
  fields := #[]
  methods := #[]
  instanceTypes := #[]
  staticTypes := #[]
  resolved := Array.replicate 70 none
  statics := none }

def pool32 : Array CpInfo := pool [(3, .fieldref 4 5), (0, .class_ 6), (0, .nameAndType 7 8), (0, u "java/util/ArrayDeque"), (0, u "elements"), (0, u "[Ljava/lang/Object;"), (4, u "(II)I"), (6, .fieldref 4 21), (0, .nameAndType 22 23), (0, u "tail"), (0, u "I"), (0, .fieldref 4 25), (0, .nameAndType 26 23), (0, u "head"), (12, u "<init>"), (2, .methodref 43 44), (0, .class_ 45), (0, .nameAndType 39 46), (0, u "java/util/AbstractCollection"), (0, u "()V"), (0, .class_ 48), (0, u "java/lang/Object"), (4, u "size"), (0, u "()I"), (13, .methodref 4 69), (0, .nameAndType 70 13), (0, u "dec"), (3, .methodref 4 75), (0, .nameAndType 76 13), (0, u "inc"), (12, u "(Ljava/lang/Object;)V"), (2, u "addLast"), (0, .methodref 4 94), (0, .nameAndType 95 96), (0, u "pollFirst"), (0, u "()Ljava/lang/Object;"), (6, .methodref 4 104), (0, .nameAndType 105 106), (0, u "elementAt"), (0, u "([Ljava/lang/Object;I)Ljava/lang/Object;"), (13, u "removeFirst"), (2, u "getFirst"), (3, .methodref 4 128), (0, .nameAndType 129 130), (0, u "sub"), (0, u "(III)I"), (0, .class_ 132), (0, u "java/util/ArrayDeque$DeqIterator"), (3, .class_ 137), (0, u "java/util/ArrayDeque$DescendingIterator"), (1, .class_ 140), (0, u "java/util/ArrayDeque$DeqSpliterator"), (137, .class_ 279), (0, u "java/util/Deque"), (0, .class_ 281), (0, u "java/lang/Cloneable"), (0, .class_ 283), (0, u "java/io/Serializable"), (0, u "MAX_ARRAY_SIZE"), (1, u "serialVersionUID"), (0, u "J"), (44, u "peekLast")] 105

def k32c0 : Code := { maxStack := 2, maxLocals := 1, code := jdk_21_method_3_code, exceptionTable := #[], attributes := #[] }
def k32m0 : Method := { name := "<init>", desc := "()V", sig := { parameters := [], returnType := none }, accessFlags := 1, code := some k32c0 }
def k32c1 : Code := { maxStack := 2, maxLocals := 2, code := jdk_21_method_6_code, exceptionTable := #[], attributes := #[] }
def k32m1 : Method := { name := "inc", desc := "(II)I", sig := { parameters := [.int, .int], returnType := some .int }, accessFlags := 24, code := some k32c1 }
def k32c2 : Code := { maxStack := 2, maxLocals := 2, code := jdk_21_method_7_code, exceptionTable := #[], attributes := #[] }
def k32m2 : Method := { name := "dec", desc := "(II)I", sig := { parameters := [.int, .int], returnType := some .int }, accessFlags := 24, code := some k32c2 }
def k32c3 : Code := { maxStack := 2, maxLocals := 3, code := jdk_21_method_9_code, exceptionTable := #[], attributes := #[] }
def k32m3 : Method := { name := "sub", desc := "(III)I", sig := { parameters := [.int, .int, .int], returnType := some .int }, accessFlags := 24, code := some k32c3 }
def k32c4 : Code := { maxStack := 2, maxLocals := 2, code := jdk_21_method_10_code, exceptionTable := #[], attributes := #[] }
def k32m4 : Method := { name := "elementAt", desc := "([Ljava/lang/Object;I)Ljava/lang/Object;", sig := { parameters := [(.array (.object "java/lang/Object")), .int], returnType := some (.object "java/lang/Object") }, accessFlags := 24, code := some k32c4 }
def k32c5 : Code := { maxStack := 4, maxLocals := 3, code := jdk_21_method_13_code, exceptionTable := #[], attributes := #[] }
def k32m5 : Method := { name := "addLast", desc := "(Ljava/lang/Object;)V", sig := { parameters := [(.object "java/lang/Object")], returnType := none }, accessFlags := 1, code := some k32c5 }
def k32c6 : Code := { maxStack := 2, maxLocals := 2, code := jdk_21_method_18_code, exceptionTable := #[], attributes := #[] }
def k32m6 : Method := { name := "removeFirst", desc := "()Ljava/lang/Object;", sig := { parameters := [], returnType := some (.object "java/lang/Object") }, accessFlags := 1, code := some k32c6 }
def k32c7 : Code := { maxStack := 3, maxLocals := 4, code := jdk_21_method_20_code, exceptionTable := #[], attributes := #[] }
def k32m7 : Method := { name := "pollFirst", desc := "()Ljava/lang/Object;", sig := { parameters := [], returnType := some (.object "java/lang/Object") }, accessFlags := 1, code := some k32c7 }
def k32c8 : Code := { maxStack := 2, maxLocals := 2, code := jdk_21_method_22_code, exceptionTable := #[], attributes := #[] }
def k32m8 : Method := { name := "getFirst", desc := "()Ljava/lang/Object;", sig := { parameters := [], returnType := some (.object "java/lang/Object") }, accessFlags := 1, code := some k32c8 }
def k32c9 : Code := { maxStack := 3, maxLocals := 2, code := jdk_21_method_25_code, exceptionTable := #[], attributes := #[] }
def k32m9 : Method := { name := "peekLast", desc := "()Ljava/lang/Object;", sig := { parameters := [], returnType := some (.object "java/lang/Object") }, accessFlags := 1, code := some k32c9 }
def k32c10 : Code := { maxStack := 3, maxLocals := 1, code := jdk_21_method_37_code, exceptionTable := #[], attributes := #[] }
def k32m10 : Method := { name := "size", desc := "()I", sig := { parameters := [], returnType := some .int }, accessFlags := 1, code := some k32c10 }
/-- java/util/ArrayDeque -/
def k32 : Class := { plain "java/util/ArrayDeque" (some 28) with
  accessFlags := 33
  interfaces := #[31, 8, 9]
  cf := some (fileOf pool32 4 #[.nestMembers #[139, 136, 131]] #[{ accessFlags := 1, nameIndex := 39, descriptorIndex := 46, attributes := #[] }, { accessFlags := 24, nameIndex := 76, descriptorIndex := 13, attributes := #[] }, { accessFlags := 24, nameIndex := 70, descriptorIndex := 13, attributes := #[] }, { accessFlags := 24, nameIndex := 129, descriptorIndex := 130, attributes := #[] }, { accessFlags := 24, nameIndex := 105, descriptorIndex := 106, attributes := #[] }, { accessFlags := 1, nameIndex := 92, descriptorIndex := 89, attributes := #[] }, { accessFlags := 1, nameIndex := 120, descriptorIndex := 96, attributes := #[] }, { accessFlags := 1, nameIndex := 95, descriptorIndex := 96, attributes := #[] }, { accessFlags := 1, nameIndex := 123, descriptorIndex := 96, attributes := #[] }, { accessFlags := 1, nameIndex := 332, descriptorIndex := 96, attributes := #[] }, { accessFlags := 1, nameIndex := 53, descriptorIndex := 54, attributes := #[] }] 33 43 #[278, 280, 282] #[{ accessFlags := 128, nameIndex := 7, descriptorIndex := 8, attributes := #[] }, { accessFlags := 128, nameIndex := 26, descriptorIndex := 23, attributes := #[] }, { accessFlags := 128, nameIndex := 22, descriptorIndex := 23, attributes := #[] }, { accessFlags := 26, nameIndex := 284, descriptorIndex := 23, attributes := #[] }, { accessFlags := 26, nameIndex := 286, descriptorIndex := 287, attributes := #[] }])
  fields := #[{ name := "elements", type := (.array (.object "java/lang/Object")), accessFlags := 128, slot := 0, constantValue := 0 }, { name := "head", type := .int, accessFlags := 128, slot := 1, constantValue := 0 }, { name := "tail", type := .int, accessFlags := 128, slot := 2, constantValue := 0 }, { name := "MAX_ARRAY_SIZE", type := .int, accessFlags := 26, slot := 0, constantValue := 0 }, { name := "serialVersionUID", type := .long, accessFlags := 26, slot := 1, constantValue := 0 }]
  methods := #[k32m0, k32m1, k32m2, k32m3, k32m4, k32m5, k32m6, k32m7, k32m8, k32m9, k32m10]
  instanceTypes := #[(.array (.object "java/lang/Object")), .int, .int]
  staticTypes := #[.int, .long]
  resolved := Array.replicate 438 none
  statics := none }

def pool33 : Array CpInfo := pool [(23, .class_ 25), (1, u "java/util/Map$Entry"), (6, .class_ 34), (1, u "java/util/Map"), (34, .class_ 70), (0, u "java/lang/Object")] 107

/-- java/util/Map$Entry -/
def k33 : Class := { plain "java/util/Map$Entry" (some 0) with
  accessFlags := 1537
  interfaces := #[]
  cf := some (fileOf pool33 23 #[.nestHost 32] #[] 1537 69 #[] #[])
  fields := #[]
  methods := #[]
  instanceTypes := #[]
  staticTypes := #[]
  resolved := Array.replicate 178 none
  statics := none }

def pool34 : Array CpInfo := pool [(1, .class_ 2), (0, u "java/util/TreeMap"), (0, .methodref 4 5), (0, .class_ 6), (0, .nameAndType 7 8), (0, u "java/lang/Object"), (0, u "<init>"), (0, u "()V"), (0, .fieldref 10 11), (0, .class_ 12), (0, .nameAndType 13 14), (0, u "java/util/TreeMap$Entry"), (0, u "color"), (0, u "Z"), (0, .fieldref 10 16), (0, .nameAndType 17 18), (0, u "key"), (0, u "Ljava/lang/Object;"), (0, .fieldref 10 20), (0, .nameAndType 21 18), (0, u "value"), (0, .fieldref 10 23), (0, .nameAndType 24 25), (0, u "parent"), (0, u "Ljava/util/TreeMap$Entry;"), (0, .class_ 27), (0, u "java/util/Map$Entry"), (34, u "left"), (1, u "right"), (0, u "(Ljava/lang/Object;Ljava/lang/Object;Ljava/util/TreeMap$Entry;)V")] 30

def k34c0 : Code := { maxStack := 2, maxLocals := 4, code := jdk_2736_method_1_code, exceptionTable := #[], attributes := #[] }
def k34m0 : Method := { name := "<init>", desc := "(Ljava/lang/Object;Ljava/lang/Object;Ljava/util/TreeMap$Entry;)V", sig := { parameters := [(.object "java/lang/Object"), (.object "java/lang/Object"), (.object "java/util/TreeMap$Entry")], returnType := none }, accessFlags := 0, code := some k34c0 }
/-- java/util/TreeMap$Entry -/
def k34 : Class := { plain "java/util/TreeMap$Entry" (some 0) with
  accessFlags := 48
  interfaces := #[33]
  cf := some (fileOf pool34 10 #[.nestHost 1] #[{ accessFlags := 0, nameIndex := 7, descriptorIndex := 65, attributes := #[] }] 48 4 #[26] #[{ accessFlags := 0, nameIndex := 17, descriptorIndex := 18, attributes := #[] }, { accessFlags := 0, nameIndex := 21, descriptorIndex := 18, attributes := #[] }, { accessFlags := 0, nameIndex := 62, descriptorIndex := 25, attributes := #[] }, { accessFlags := 0, nameIndex := 64, descriptorIndex := 25, attributes := #[] }, { accessFlags := 0, nameIndex := 24, descriptorIndex := 25, attributes := #[] }, { accessFlags := 0, nameIndex := 13, descriptorIndex := 14, attributes := #[] }])
  fields := #[{ name := "key", type := (.object "java/lang/Object"), accessFlags := 0, slot := 0, constantValue := 0 }, { name := "value", type := (.object "java/lang/Object"), accessFlags := 0, slot := 1, constantValue := 0 }, { name := "left", type := (.object "java/util/TreeMap$Entry"), accessFlags := 0, slot := 2, constantValue := 0 }, { name := "right", type := (.object "java/util/TreeMap$Entry"), accessFlags := 0, slot := 3, constantValue := 0 }, { name := "parent", type := (.object "java/util/TreeMap$Entry"), accessFlags := 0, slot := 4, constantValue := 0 }, { name := "color", type := .boolean, accessFlags := 0, slot := 5, constantValue := 0 }]
  methods := #[k34m0]
  instanceTypes := #[(.object "java/lang/Object"), (.object "java/lang/Object"), (.object "java/util/TreeMap$Entry"), (.object "java/util/TreeMap$Entry"), (.object "java/util/TreeMap$Entry"), .boolean]
  staticTypes := #[]
  resolved := Array.replicate 96 none
  statics := none }

def pool35 : Array CpInfo := pool [(2, .class_ 4), (1, u "java/lang/Object"), (0, u "<init>"), (0, u "()V"), (6, .methodref 14 15), (0, .class_ 16), (0, .nameAndType 17 18), (0, u "java/util/Arrays"), (0, u "rangeCheck"), (0, u "(III)V"), (55, .class_ 76), (1, u "java/util/Arrays$NaturalOrder"), (36, .class_ 115), (1, u "java/util/Arrays$LegacyMergeSort"), (1, u "Z"), (87, .methodref 14 206), (0, .nameAndType 207 208), (0, u "binarySearch0"), (0, u "([JIIJ)I"), (166, .class_ 376), (0, u "java/util/Arrays$ArrayList"), (68, u "$assertionsDisabled"), (269, u "MIN_ARRAY_SORT_GRAN"), (0, u "I"), (2, u "INSERTIONSORT_THRESHOLD"), (74, u "binarySearch"), (180, .class_ 976), (0, u "java/util/Arrays$ArrayItr")] 52

def k35m0 : Method := { name := "<init>", desc := "()V", sig := { parameters := [], returnType := none }, accessFlags := 2, code := none }
def k35c1 : Code := { maxStack := 4, maxLocals := 3, code := jdk_65_method_30_code, exceptionTable := #[], attributes := #[] }
def k35m1 : Method := { name := "rangeCheck", desc := "(III)V", sig := { parameters := [.int, .int, .int], returnType := none }, accessFlags := 8, code := some k35c1 }
def k35c2 : Code := { maxStack := 5, maxLocals := 5, code := jdk_65_method_55_code, exceptionTable := #[], attributes := #[] }
def k35m2 : Method := { name := "binarySearch", desc := "([JIIJ)I", sig := { parameters := [(.array .long), .int, .int, .long], returnType := some .int }, accessFlags := 9, code := some k35c2 }
def k35c3 : Code := { maxStack := 4, maxLocals := 10, code := jdk_65_method_56_code, exceptionTable := #[], attributes := #[] }
def k35m3 : Method := { name := "binarySearch0", desc := "([JIIJ)I", sig := { parameters := [(.array .long), .int, .int, .long], returnType := some .int }, accessFlags := 10, code := some k35c3 }
/-- java/util/Arrays -/
def k35 : Class := { plain "java/util/Arrays" (some 0) with
  accessFlags := 49
  interfaces := #[]
  cf := some (fileOf pool35 14 #[.nestMembers #[975, 375, 113, 74]] #[{ accessFlags := 2, nameIndex := 5, descriptorIndex := 6, attributes := #[] }, { accessFlags := 8, nameIndex := 17, descriptorIndex := 18, attributes := #[] }, { accessFlags := 9, nameIndex := 794, descriptorIndex := 208, attributes := #[] }, { accessFlags := 10, nameIndex := 207, descriptorIndex := 208, attributes := #[] }] 49 2 #[] #[{ accessFlags := 26, nameIndex := 715, descriptorIndex := 716, attributes := #[] }, { accessFlags := 26, nameIndex := 719, descriptorIndex := 716, attributes := #[] }, { accessFlags := 4120, nameIndex := 445, descriptorIndex := 117, attributes := #[] }])
  fields := #[{ name := "MIN_ARRAY_SORT_GRAN", type := .int, accessFlags := 26, slot := 0, constantValue := 0 }, { name := "INSERTIONSORT_THRESHOLD", type := .int, accessFlags := 26, slot := 1, constantValue := 0 }, { name := "$assertionsDisabled", type := .boolean, accessFlags := 4120, slot := 2, constantValue := 0 }]
  methods := #[k35m0, k35m1, k35m2, k35m3]
  instanceTypes := #[]
  staticTypes := #[.int, .int, .boolean]
  resolved := Array.replicate 1029 none
  statics := none }

def pool36 : Array CpInfo := pool [(1, .class_ 2), (0, u "com/example/kept_till_acked/kepttillacked/queue/SeqBits"), (0, .methodref 4 5), (0, .class_ 6), (0, .nameAndType 7 8), (0, u "java/lang/Object"), (0, u "<init>"), (0, u "()V"), (0, .fieldref 10 11), (0, .class_ 12), (0, .nameAndType 13 14), (0, u "com/example/kept_till_acked/kepttillacked/queue/SeqBits$Page"), (0, u "words"), (0, u "[J"), (0, .fieldref 10 16), (0, .nameAndType 17 18), (0, u "count"), (0, u "I"), (0, .long 18446744073709551615), (9, u "set"), (0, u "(I)Z"), (1, u "clear")] 7

def k36c0 : Code := { maxStack := 2, maxLocals := 1, code := prog_64_method_1_code, exceptionTable := #[], attributes := #[] }
def k36m0 : Method := { name := "<init>", desc := "()V", sig := { parameters := [], returnType := none }, accessFlags := 2, code := some k36c0 }
def k36c1 : Code := { maxStack := 6, maxLocals := 4, code := prog_64_method_2_code, exceptionTable := #[], attributes := #[] }
def k36m1 : Method := { name := "set", desc := "(I)Z", sig := { parameters := [.int], returnType := some .boolean }, accessFlags := 0, code := some k36c1 }
def k36c2 : Code := { maxStack := 8, maxLocals := 4, code := prog_64_method_3_code, exceptionTable := #[], attributes := #[] }
def k36m2 : Method := { name := "clear", desc := "(I)Z", sig := { parameters := [.int], returnType := some .boolean }, accessFlags := 0, code := some k36c2 }
/-- com/example/kept_till_acked/kepttillacked/queue/SeqBits$Page -/
def k36 : Class := { plain "com/example/kept_till_acked/kepttillacked/queue/SeqBits$Page" (some 0) with
  accessFlags := 32
  interfaces := #[]
  cf := some (fileOf pool36 10 #[.nestHost 1] #[{ accessFlags := 2, nameIndex := 7, descriptorIndex := 8, attributes := #[] }, { accessFlags := 0, nameIndex := 29, descriptorIndex := 30, attributes := #[] }, { accessFlags := 0, nameIndex := 32, descriptorIndex := 30, attributes := #[] }] 32 4 #[] #[{ accessFlags := 18, nameIndex := 13, descriptorIndex := 14, attributes := #[] }, { accessFlags := 2, nameIndex := 17, descriptorIndex := 18, attributes := #[] }])
  fields := #[{ name := "words", type := (.array .long), accessFlags := 18, slot := 0, constantValue := 0 }, { name := "count", type := .int, accessFlags := 2, slot := 1, constantValue := 0 }]
  methods := #[k36m0, k36m1, k36m2]
  instanceTypes := #[(.array .long), .int]
  staticTypes := #[]
  resolved := Array.replicate 40 none
  statics := none }

def pool37 : Array CpInfo := pool [(2, .class_ 4), (1, u "java/lang/Object"), (0, u "<init>"), (0, u "()V"), (1, .class_ 10), (1, u "java/lang/System"), (0, u "allowSecurityManager"), (0, u "I"), (16, u "cons"), (0, u "Ljava/io/Console;"), (77, .class_ 110), (1, u "java/lang/System$CallersHolder"), (43, u "initialErrStream"), (0, u "Ljava/io/PrintStream;"), (19, u "security"), (0, u "Ljava/lang/SecurityManager;"), (31, .class_ 209), (0, u "java/lang/System$1"), (7, u "props"), (0, u "Ljava/util/Properties;"), (2, u "lineSeparator"), (0, u "Ljava/lang/String;"), (96, .class_ 321), (1, u "java/lang/System$LoggerFinder"), (5, .class_ 328), (0, u "java/lang/System$Logger"), (67, u "err"), (2, u "out"), (91, u "notSupportedJnuEncoding"), (15, u "in"), (17, u "initialIn"), (0, u "Ljava/io/InputStream;"), (35, u "bootLayer"), (0, u "Ljava/lang/ModuleLayer;"), (99, .class_ 664), (0, u "java/lang/System$2"), (9, u "NEVER"), (2, u "MAYBE"), (49, u "arraycopy"), (0, u "(Ljava/lang/Object;ILjava/lang/Object;II)V"), (72, .class_ 802), (0, u "java/lang/System$Logger$Level")] 31

def k37m0 : Method := { name := "<init>", desc := "()V", sig := { parameters := [], returnType := none }, accessFlags := 2, code := none }
def k37m1 : Method := { name := "arraycopy", desc := "(Ljava/lang/Object;ILjava/lang/Object;II)V", sig := { parameters := [(.object "java/lang/Object"), .int, (.object "java/lang/Object"), .int, .int], returnType := none }, accessFlags := 265, code := none }
/-- java/lang/System -/
def k37 : Class := { plain "java/lang/System" (some 0) with
  accessFlags := 49
  interfaces := #[]
  cf := some (fileOf pool37 8 #[.nestMembers #[319, 327, 801, 108, 663, 208]] #[{ accessFlags := 2, nameIndex := 5, descriptorIndex := 6, attributes := #[] }, { accessFlags := 265, nameIndex := 727, descriptorIndex := 728, attributes := #[] }] 49 2 #[] #[{ accessFlags := 25, nameIndex := 507, descriptorIndex := 526, attributes := #[] }, { accessFlags := 25, nameIndex := 399, descriptorIndex := 155, attributes := #[] }, { accessFlags := 25, nameIndex := 396, descriptorIndex := 155, attributes := #[] }, { accessFlags := 10, nameIndex := 525, descriptorIndex := 526, attributes := #[] }, { accessFlags := 26, nameIndex := 674, descriptorIndex := 12, attributes := #[] }, { accessFlags := 26, nameIndex := 677, descriptorIndex := 12, attributes := #[] }, { accessFlags := 10, nameIndex := 11, descriptorIndex := 12, attributes := #[] }, { accessFlags := 74, nameIndex := 175, descriptorIndex := 176, attributes := #[] }, { accessFlags := 10, nameIndex := 491, descriptorIndex := 222, attributes := #[] }, { accessFlags := 74, nameIndex := 29, descriptorIndex := 30, attributes := #[] }, { accessFlags := 74, nameIndex := 154, descriptorIndex := 155, attributes := #[] }, { accessFlags := 10, nameIndex := 217, descriptorIndex := 218, attributes := #[] }, { accessFlags := 10, nameIndex := 221, descriptorIndex := 222, attributes := #[] }, { accessFlags := 8, nameIndex := 562, descriptorIndex := 563, attributes := #[] }])
  fields := #[{ name := "in", type := (.object "java/io/InputStream"), accessFlags := 25, slot := 0, constantValue := 0 }, { name := "out", type := (.object "java/io/PrintStream"), accessFlags := 25, slot := 1, constantValue := 0 }, { name := "err", type := (.object "java/io/PrintStream"), accessFlags := 25, slot := 2, constantValue := 0 }, { name := "initialIn", type := (.object "java/io/InputStream"), accessFlags := 10, slot := 3, constantValue := 0 }, { name := "NEVER", type := .int, accessFlags := 26, slot := 4, constantValue := 0 }, { name := "MAYBE", type := .int, accessFlags := 26, slot := 5, constantValue := 0 }, { name := "allowSecurityManager", type := .int, accessFlags := 10, slot := 6, constantValue := 0 }, { name := "security", type := (.object "java/lang/SecurityManager"), accessFlags := 74, slot := 7, constantValue := 0 }, { name := "notSupportedJnuEncoding", type := (.object "java/lang/String"), accessFlags := 10, slot := 8, constantValue := 0 }, { name := "cons", type := (.object "java/io/Console"), accessFlags := 74, slot := 9, constantValue := 0 }, { name := "initialErrStream", type := (.object "java/io/PrintStream"), accessFlags := 74, slot := 10, constantValue := 0 }, { name := "props", type := (.object "java/util/Properties"), accessFlags := 10, slot := 11, constantValue := 0 }, { name := "lineSeparator", type := (.object "java/lang/String"), accessFlags := 10, slot := 12, constantValue := 0 }, { name := "bootLayer", type := (.object "java/lang/ModuleLayer"), accessFlags := 8, slot := 13, constantValue := 0 }]
  methods := #[k37m0, k37m1]
  instanceTypes := #[]
  staticTypes := #[(.object "java/io/InputStream"), (.object "java/io/PrintStream"), (.object "java/io/PrintStream"), (.object "java/io/InputStream"), .int, .int, .int, (.object "java/lang/SecurityManager"), (.object "java/lang/String"), (.object "java/io/Console"), (.object "java/io/PrintStream"), (.object "java/util/Properties"), (.object "java/lang/String"), (.object "java/lang/ModuleLayer")]
  resolved := Array.replicate 834 none
  statics := none }

/-- the primitive byte -/
def k38 : Class := { plain "byte" none with kind := .primitive 'B', accessFlags := 0x411 }
/-- [B -/
def k39 : Class := { plain "[B" (some 0) with kind := .array 38 .byte, interfaces := #[8, 9], accessFlags := 1041 }

/-- the primitive int -/
def k40 : Class := { plain "int" none with kind := .primitive 'I', accessFlags := 0x411 }
/-- [I -/
def k41 : Class := { plain "[I" (some 0) with kind := .array 40 .int, interfaces := #[8, 9], accessFlags := 1041 }

/-- the primitive long -/
def k42 : Class := { plain "long" none with kind := .primitive 'J', accessFlags := 0x411 }
/-- [J -/
def k43 : Class := { plain "[J" (some 0) with kind := .array 42 .long, interfaces := #[8, 9], accessFlags := 1041 }

/-- [Ljava/lang/Integer; -/
def k44 : Class := { plain "[Ljava/lang/Integer;" (some 0) with kind := .array 18 (.object "java/lang/Integer"), interfaces := #[8, 9], accessFlags := 1041 }

/-- [Ljava/lang/Object; -/
def k45 : Class := { plain "[Ljava/lang/Object;" (some 0) with kind := .array 0 (.object "java/lang/Object"), interfaces := #[8, 9], accessFlags := 1041 }

def classes0 : Array Class := #[k0, k1, k2, k3, k4, k5, k6, k7, k8, k9, k10, k11, k12, k13, k14, k15, k16, k17, k18, k19, k20, k21, k22, k23, k24, k25, k26, k27, k28, k29, k30, k31, k32, k33, k34, k35, k36, k37, k38, k39, k40, k41, k42, k43, k44, k45]
/-- the class that the rule has made for the site at 8 of com/example/kept_till_acked/kepttillacked/queue/ReadyLine.line -/
def k46 : Class := Jvm.LamKit.madeRec { classes := classes0 } "com/example/kept_till_acked/kepttillacked/queue/ReadyLine" (Jvm.Lambda.Shape.mk "java/util/function/Function" "apply" (Jvm.ClassFile.MethodDescriptor.mk ([(Jvm.ClassFile.FieldType.object "java/lang/Object")] : List Jvm.ClassFile.FieldType) (Option.some (Jvm.ClassFile.FieldType.object "java/lang/Object"))) ([] : List Jvm.ClassFile.FieldType) (6 : Nat) "com/example/kept_till_acked/kepttillacked/queue/ReadyLine" "lambda$line$2" (Jvm.ClassFile.MethodDescriptor.mk ([(Jvm.ClassFile.FieldType.object "java/lang/Integer")] : List Jvm.ClassFile.FieldType) (Option.some (Jvm.ClassFile.FieldType.object "com/example/kept_till_acked/kepttillacked/queue/ReadyLine$Line"))) false (Jvm.ClassFile.MethodDescriptor.mk ([(Jvm.ClassFile.FieldType.object "java/lang/Integer")] : List Jvm.ClassFile.FieldType) (Option.some (Jvm.ClassFile.FieldType.object "com/example/kept_till_acked/kepttillacked/queue/ReadyLine$Line")))) 46

def heap : Heap := #[{ cls := 13, slots := #[.long 0, .ref 3], vm := .statics 13 },
  { cls := 19, slots := #[.int 0, .int 127, .ref 4, .null, .int 0], vm := .statics 19 },
  { cls := 46, slots := #[], vm := .none },
  { cls := 13, slots := #[], vm := .none },
  { cls := 44, slots := ((List.range 256).map fun i => Value.ref (5 + i)).toArray, vm := .none }] ++ ((List.range 256).map fun i => ({ cls := 18, slots := #[.int (Int32.ofNat i - 128)], vm := .none } : Cell)).toArray
def classes : Array Class := #[k0, k1, k2, k3, k4, k5, k6, k7, k8, k9, k10, k11, k12, k13, k14, k15, k16, k17, k18, k19, k20, k21, k22, k23, k24, k25, k26, k27, k28, k29, k30, k31, k32, k33, k34, k35, k36, k37, k38, k39, k40, k41, k42, k43, k44, k45, k46]
def interned : List (Array UInt16 × Addr) := []
def slotsUsed : Nat := 519
def theMethod : MethodId := ⟨1, 1⟩
def args0 : Array Value := #[.int 15, .long 5, .long 6, .int 7, .int 8, .long 9]
def aboutOver (below : List Frame) : State where
  vm := { classes := classes, interned := interned.toArray }
  heap := heap
  slotsUsed := slotsUsed
  threads := #[{ frames := .invoking theMethod args0 :: below }]
def below0 : List Frame := [.native { method := ⟨0, 0⟩, args := #[] }]
def about1 : State := aboutOver below0
def p0 : Program := .bare "" "" ""
def e0 : Env := launch0.env 0 0 0
theorem w_frames : about1.frames = Frame.invoking theMethod args0 :: below0 := rfl
set_option maxRecDepth 65536 in
theorem w_args : argsFit about1.vm theMethod args0 = true := by decide +kernel
set_option maxRecDepth 65536 in
theorem w_heap : heapFits about1 = true := by decide +kernel
set_option maxRecDepth 65536 in
theorem w_runnable : about1.curStatus? = some .runnable := by decide +kernel
set_option maxRecDepth 65536 in
theorem w_alone : about1.alone = true := by decide +kernel
set_option maxRecDepth 65536 in
theorem w_named : about1.methodNamed? x = some theMethod := by decide +kernel
set_option maxRecDepth 65536 in
theorem w_hears : about1.hears theMethod below0 = true := by decide +kernel
set_option maxRecDepth 65536 in
theorem w_ripe : about1.ripe theMethod args0 below0 = true := by decide +kernel
theorem w_running : about1.status = .running := rfl
set_option maxRecDepth 65536 in
theorem w_room : about1.hasRoom e0.platform room_1 = true :=
  launch0.hasRoom_least _ room_1 (by decide +kernel) (by decide +kernel) (by decide +kernel) (by decide +kernel) (by decide +kernel) (by decide +kernel)
theorem allAtoms_all (ts : List Jvm.Cond) (a : Array Jvm.Value) (st : Jvm.State) : (allAtoms ts).before a st = ts.all (fun c => c.before a st) := by
  induction ts with
  | nil => rfl
  | cons c t ih =>
    show (Jvm.Cond.and c (allAtoms t)).before a st = _
    rw [Jvm.Cond.before_and, ih, List.all_cons]
def words1 : List Jvm.Cond := Jvm.Cond.code x code maxLocals ret :: tables_1
/-- a 'code' word, met by the world's own term for the bytes: nothing is compared byte by byte -/
theorem code_word {y : MethodName} {bytes : ByteArray} {mx : Nat} {rt : Option FieldType} {a : Array Value} {s : State} {m : MethodId} {meth : Method} {c : Code} (h1 : s.methodNamed? y = some m) (h2 : s.vm.method? m = some meth) (h3 : meth.code = some c) (h4 : c.code = bytes)
    (h5 : (c.maxLocals == mx && c.exceptionTable.isEmpty && decide (c.maxStack ≤ mostOperands) && decide (meth.sig.returnType = rt) && !meth.locks && decide (parseMethodDescriptor y.desc = some meth.sig)) = true) : (Jvm.Cond.code y bytes mx rt).before a s = true := by
  simp only [Bool.and_eq_true, beq_iff_eq, Bool.not_eq_true', decide_eq_true_eq] at h5
  obtain ⟨⟨⟨⟨⟨g1, g2⟩, g3⟩, g4⟩, g5⟩, g6⟩ := h5
  simp [Cond.before, Cond.holds, Cond.value, h1, h2, h3, h4, g1, g2, g3, g4, g5, g6]
def isCode : Jvm.Cond → Bool
  | .code _ _ _ _ => true
  | _ => false
theorem all_split {L : List Jvm.Cond} {P : Jvm.Cond → Bool} (h1 : L.all (fun c => isCode c || P c) = true) (h2 : ∀ c ∈ L.filter isCode, P c = true) : L.all P = true := by
  refine List.all_eq_true.mpr fun c hc => ?_
  have h := List.all_eq_true.mp h1 c hc
  rcases Bool.eq_false_or_eq_true (isCode c) with hi | hi
  · exact h2 c (List.mem_filter.mpr ⟨hc, hi⟩)
  · simpa [hi] using h
set_option maxRecDepth 65536 in
theorem w_c0 : (Jvm.Cond.code x code maxLocals ret).before args0 about1 = true := code_word (m := ⟨1, 1⟩) (meth := k1m1) (c := k1c1) (by decide +kernel) rfl rfl rfl (by decide +kernel)
set_option maxRecDepth 65536 in
theorem w_c1 : (Jvm.Cond.code ({ cls := "com/example/kept_till_acked/kepttillacked/queue/ReadyLine", name := "<init>", desc := "()V" } : Jvm.MethodName) prog_56_method_1_code (1 : Nat) (Option.none : Option Jvm.ClassFile.FieldType)).before args0 about1 = true := code_word (m := ⟨2, 0⟩) (meth := k2m0) (c := k2c0) (by decide +kernel) rfl rfl rfl (by decide +kernel)
set_option maxRecDepth 65536 in
theorem w_c2 : (Jvm.Cond.code ({ cls := "java/lang/Object", name := "<init>", desc := "()V" } : Jvm.MethodName) object_method_1_code (1 : Nat) (Option.none : Option Jvm.ClassFile.FieldType)).before args0 about1 = true := code_word (m := ⟨0, 0⟩) (meth := k0m0) (c := k0c0) (by decide +kernel) rfl rfl rfl (by decide +kernel)
set_option maxRecDepth 65536 in
theorem w_c3 : (Jvm.Cond.code ({ cls := "java/util/Comparator", name := "reverseOrder", desc := "()Ljava/util/Comparator;" } : Jvm.MethodName) jdk_2515_method_10_code (0 : Nat) (Option.some (Jvm.ClassFile.FieldType.object "java/util/Comparator"))).before args0 about1 = true := code_word (m := ⟨11, 1⟩) (meth := k11m1) (c := k11c1) (by decide +kernel) rfl rfl rfl (by decide +kernel)
set_option maxRecDepth 65536 in
theorem w_c4 : (Jvm.Cond.code ({ cls := "java/util/Collections", name := "reverseOrder", desc := "()Ljava/util/Comparator;" } : Jvm.MethodName) jdk_79_method_77_code (0 : Nat) (Option.some (Jvm.ClassFile.FieldType.object "java/util/Comparator"))).before args0 about1 = true := code_word (m := ⟨12, 1⟩) (meth := k12m1) (c := k12c1) (by decide +kernel) rfl rfl rfl (by decide +kernel)
set_option maxRecDepth 65536 in
theorem w_c5 : (Jvm.Cond.code ({ cls := "java/util/TreeMap", name := "<init>", desc := "(Ljava/util/Comparator;)V" } : Jvm.MethodName) jdk_2729_method_2_code (2 : Nat) (Option.none : Option Jvm.ClassFile.FieldType)).before args0 about1 = true := code_word (m := ⟨10, 1⟩) (meth := k10m1) (c := k10c1) (by decide +kernel) rfl rfl rfl (by decide +kernel)
set_option maxRecDepth 65536 in
theorem w_c6 : (Jvm.Cond.code ({ cls := "java/util/AbstractMap", name := "<init>", desc := "()V" } : Jvm.MethodName) jdk_71_method_1_code (1 : Nat) (Option.none : Option Jvm.ClassFile.FieldType)).before args0 about1 = true := code_word (m := ⟨4, 0⟩) (meth := k4m0) (c := k4c0) (by decide +kernel) rfl rfl rfl (by decide +kernel)
set_option maxRecDepth 65536 in
theorem w_c7 : (Jvm.Cond.code ({ cls := "com/example/kept_till_acked/kepttillacked/queue/ReadyLine", name := "isEmpty", desc := "()Z" } : Jvm.MethodName) prog_56_method_3_code (1 : Nat) (Option.some Jvm.ClassFile.FieldType.boolean)).before args0 about1 = true := code_word (m := ⟨2, 2⟩) (meth := k2m2) (c := k2c2) (by decide +kernel) rfl rfl rfl (by decide +kernel)
set_option maxRecDepth 65536 in
theorem w_c8 : (Jvm.Cond.code ({ cls := "com/example/kept_till_acked/kepttillacked/queue/ReadyLine", name := "size", desc := "()I" } : Jvm.MethodName) prog_56_method_2_code (1 : Nat) (Option.some Jvm.ClassFile.FieldType.int)).before args0 about1 = true := code_word (m := ⟨2, 1⟩) (meth := k2m1) (c := k2c1) (by decide +kernel) rfl rfl rfl (by decide +kernel)
set_option maxRecDepth 65536 in
theorem w_c9 : (Jvm.Cond.code ({ cls := "com/example/kept_till_acked/kepttillacked/queue/ReadyLine", name := "addAtHome", desc := "(JI)V" } : Jvm.MethodName) prog_56_method_5_code (4 : Nat) (Option.none : Option Jvm.ClassFile.FieldType)).before args0 about1 = true := code_word (m := ⟨2, 3⟩) (meth := k2m3) (c := k2c3) (by decide +kernel) rfl rfl rfl (by decide +kernel)
set_option maxRecDepth 65536 in
theorem w_c10 : (Jvm.Cond.code ({ cls := "com/example/kept_till_acked/kepttillacked/queue/ReadyLine", name := "line", desc := "(I)Lcom/example/kept_till_acked/kepttillacked/queue/ReadyLine$Line;" } : Jvm.MethodName) prog_56_method_11_code (2 : Nat) (Option.some (Jvm.ClassFile.FieldType.object "com/example/kept_till_acked/kepttillacked/queue/ReadyLine$Line"))).before args0 about1 = true := code_word (m := ⟨2, 6⟩) (meth := k2m6) (c := k2c6) (by decide +kernel) rfl rfl rfl (by decide +kernel)
set_option maxRecDepth 65536 in
theorem w_c11 : (Jvm.Cond.code ({ cls := "java/lang/Integer", name := "valueOf", desc := "(I)Ljava/lang/Integer;" } : Jvm.MethodName) jdk_33_method_22_code (1 : Nat) (Option.some (Jvm.ClassFile.FieldType.object "java/lang/Integer"))).before args0 about1 = true := code_word (m := ⟨18, 0⟩) (meth := k18m0) (c := k18c0) (by decide +kernel) rfl rfl rfl (by decide +kernel)
set_option maxRecDepth 65536 in
theorem w_c12 : (Jvm.Cond.code ({ cls := "java/lang/Integer", name := "<init>", desc := "(I)V" } : Jvm.MethodName) jdk_33_method_23_code (2 : Nat) (Option.none : Option Jvm.ClassFile.FieldType)).before args0 about1 = true := code_word (m := ⟨18, 1⟩) (meth := k18m1) (c := k18c1) (by decide +kernel) rfl rfl rfl (by decide +kernel)
set_option maxRecDepth 65536 in
theorem w_c13 : (Jvm.Cond.code ({ cls := "java/lang/Number", name := "<init>", desc := "()V" } : Jvm.MethodName) jdk_18_method_1_code (1 : Nat) (Option.none : Option Jvm.ClassFile.FieldType)).before args0 about1 = true := code_word (m := ⟨14, 0⟩) (meth := k14m0) (c := k14c0) (by decide +kernel) rfl rfl rfl (by decide +kernel)
set_option maxRecDepth 65536 in
theorem w_c14 : (Jvm.Cond.code ({ cls := "java/util/TreeMap", name := "computeIfAbsent", desc := "(Ljava/lang/Object;Ljava/util/function/Function;)Ljava/lang/Object;" } : Jvm.MethodName) jdk_2729_method_23_code (9 : Nat) (Option.some (Jvm.ClassFile.FieldType.object "java/lang/Object"))).before args0 about1 = true := code_word (m := ⟨10, 5⟩) (meth := k10m5) (c := k10c5) (by decide +kernel) rfl rfl rfl (by decide +kernel)
set_option maxRecDepth 65536 in
theorem w_c15 : (Jvm.Cond.code ({ cls := "java/util/Objects", name := "requireNonNull", desc := "(Ljava/lang/Object;)Ljava/lang/Object;" } : Jvm.MethodName) jdk_31_method_10_code (1 : Nat) (Option.some (Jvm.ClassFile.FieldType.object "java/lang/Object"))).before args0 about1 = true := code_word (m := ⟨21, 1⟩) (meth := k21m1) (c := k21c1) (by decide +kernel) rfl rfl rfl (by decide +kernel)
set_option maxRecDepth 65536 in
theorem w_c16 : (Jvm.Cond.code ({ cls := "java/util/TreeMap", name := "callMappingFunctionWithCheck", desc := "(Ljava/lang/Object;Ljava/util/function/Function;)Ljava/lang/Object;" } : Jvm.MethodName) jdk_2729_method_27_code (5 : Nat) (Option.some (Jvm.ClassFile.FieldType.object "java/lang/Object"))).before args0 about1 = true := code_word (m := ⟨10, 6⟩) (meth := k10m6) (c := k10c6) (by decide +kernel) rfl rfl rfl (by decide +kernel)
set_option maxRecDepth 65536 in
theorem w_c17 : (Jvm.Cond.code ({ cls := "com/example/kept_till_acked/kepttillacked/queue/ReadyLine", name := "lambda$line$2", desc := "(Ljava/lang/Integer;)Lcom/example/kept_till_acked/kepttillacked/queue/ReadyLine$Line;" } : Jvm.MethodName) prog_56_method_13_code (1 : Nat) (Option.some (Jvm.ClassFile.FieldType.object "com/example/kept_till_acked/kepttillacked/queue/ReadyLine$Line"))).before args0 about1 = true := code_word (m := ⟨2, 7⟩) (meth := k2m7) (c := k2c7) (by decide +kernel) rfl rfl rfl (by decide +kernel)
set_option maxRecDepth 65536 in
theorem w_c18 : (Jvm.Cond.code ({ cls := "com/example/kept_till_acked/kepttillacked/queue/ReadyLine$Line", name := "<init>", desc := "()V" } : Jvm.MethodName) prog_58_method_1_code (1 : Nat) (Option.none : Option Jvm.ClassFile.FieldType)).before args0 about1 = true := code_word (m := ⟨22, 0⟩) (meth := k22m0) (c := k22c0) (by decide +kernel) rfl rfl rfl (by decide +kernel)
set_option maxRecDepth 65536 in
theorem w_c19 : (Jvm.Cond.code ({ cls := "com/example/kept_till_acked/kepttillacked/queue/SeqBits", name := "<init>", desc := "()V" } : Jvm.MethodName) prog_63_method_1_code (1 : Nat) (Option.none : Option Jvm.ClassFile.FieldType)).before args0 about1 = true := code_word (m := ⟨23, 0⟩) (meth := k23m0) (c := k23c0) (by decide +kernel) rfl rfl rfl (by decide +kernel)
set_option maxRecDepth 65536 in
theorem w_c20 : (Jvm.Cond.code ({ cls := "com/example/kept_till_acked/kepttillacked/queue/Pages", name := "<init>", desc := "()V" } : Jvm.MethodName) prog_49_method_1_code (1 : Nat) (Option.none : Option Jvm.ClassFile.FieldType)).before args0 about1 = true := code_word (m := ⟨24, 0⟩) (meth := k24m0) (c := k24c0) (by decide +kernel) rfl rfl rfl (by decide +kernel)
set_option maxRecDepth 65536 in
theorem w_c21 : (Jvm.Cond.code ({ cls := "com/example/kept_till_acked/kepttillacked/queue/MovedRuns", name := "<init>", desc := "()V" } : Jvm.MethodName) prog_45_method_1_code (1 : Nat) (Option.none : Option Jvm.ClassFile.FieldType)).before args0 about1 = true := code_word (m := ⟨25, 0⟩) (meth := k25m0) (c := k25c0) (by decide +kernel) rfl rfl rfl (by decide +kernel)
set_option maxRecDepth 65536 in
theorem w_c22 : (Jvm.Cond.code ({ cls := "java/util/ArrayDeque", name := "<init>", desc := "()V" } : Jvm.MethodName) jdk_21_method_3_code (1 : Nat) (Option.none : Option Jvm.ClassFile.FieldType)).before args0 about1 = true := code_word (m := ⟨32, 0⟩) (meth := k32m0) (c := k32c0) (by decide +kernel) rfl rfl rfl (by decide +kernel)
set_option maxRecDepth 65536 in
theorem w_c23 : (Jvm.Cond.code ({ cls := "java/util/AbstractCollection", name := "<init>", desc := "()V" } : Jvm.MethodName) jdk_22_method_1_code (1 : Nat) (Option.none : Option Jvm.ClassFile.FieldType)).before args0 about1 = true := code_word (m := ⟨28, 0⟩) (meth := k28m0) (c := k28c0) (by decide +kernel) rfl rfl rfl (by decide +kernel)
set_option maxRecDepth 65536 in
theorem w_c24 : (Jvm.Cond.code ({ cls := "java/util/TreeMap", name := "addEntryToEmptyMap", desc := "(Ljava/lang/Object;Ljava/lang/Object;)V" } : Jvm.MethodName) jdk_2729_method_30_code (3 : Nat) (Option.none : Option Jvm.ClassFile.FieldType)).before args0 about1 = true := code_word (m := ⟨10, 8⟩) (meth := k10m8) (c := k10c8) (by decide +kernel) rfl rfl rfl (by decide +kernel)
set_option maxRecDepth 65536 in
theorem w_c25 : (Jvm.Cond.code ({ cls := "java/util/TreeMap", name := "compare", desc := "(Ljava/lang/Object;Ljava/lang/Object;)I" } : Jvm.MethodName) jdk_2729_method_67_code (3 : Nat) (Option.some Jvm.ClassFile.FieldType.int)).before args0 about1 = true := code_word (m := ⟨10, 10⟩) (meth := k10m10) (c := k10c10) (by decide +kernel) rfl rfl rfl (by decide +kernel)
set_option maxRecDepth 65536 in
theorem w_c26 : (Jvm.Cond.code ({ cls := "java/util/Collections$ReverseComparator", name := "compare", desc := "(Ljava/lang/Object;Ljava/lang/Object;)I" } : Jvm.MethodName) jdk_2483_method_5_code (3 : Nat) (Option.some Jvm.ClassFile.FieldType.int)).before args0 about1 = true := code_word (m := ⟨13, 2⟩) (meth := k13m2) (c := k13c2) (by decide +kernel) rfl rfl rfl (by decide +kernel)
set_option maxRecDepth 65536 in
theorem w_c27 : (Jvm.Cond.code ({ cls := "java/util/Collections$ReverseComparator", name := "compare", desc := "(Ljava/lang/Comparable;Ljava/lang/Comparable;)I" } : Jvm.MethodName) jdk_2483_method_2_code (3 : Nat) (Option.some Jvm.ClassFile.FieldType.int)).before args0 about1 = true := code_word (m := ⟨13, 1⟩) (meth := k13m1) (c := k13c1) (by decide +kernel) rfl rfl rfl (by decide +kernel)
set_option maxRecDepth 65536 in
theorem w_c28 : (Jvm.Cond.code ({ cls := "java/lang/Integer", name := "compareTo", desc := "(Ljava/lang/Object;)I" } : Jvm.MethodName) jdk_33_method_63_code (2 : Nat) (Option.some Jvm.ClassFile.FieldType.int)).before args0 about1 = true := code_word (m := ⟨18, 4⟩) (meth := k18m4) (c := k18c4) (by decide +kernel) rfl rfl rfl (by decide +kernel)
set_option maxRecDepth 65536 in
theorem w_c29 : (Jvm.Cond.code ({ cls := "java/lang/Integer", name := "compareTo", desc := "(Ljava/lang/Integer;)I" } : Jvm.MethodName) jdk_33_method_39_code (2 : Nat) (Option.some Jvm.ClassFile.FieldType.int)).before args0 about1 = true := code_word (m := ⟨18, 2⟩) (meth := k18m2) (c := k18c2) (by decide +kernel) rfl rfl rfl (by decide +kernel)
set_option maxRecDepth 65536 in
theorem w_c30 : (Jvm.Cond.code ({ cls := "java/lang/Integer", name := "compare", desc := "(II)I" } : Jvm.MethodName) jdk_33_method_40_code (2 : Nat) (Option.some Jvm.ClassFile.FieldType.int)).before args0 about1 = true := code_word (m := ⟨18, 3⟩) (meth := k18m3) (c := k18c3) (by decide +kernel) rfl rfl rfl (by decide +kernel)
set_option maxRecDepth 65536 in
theorem w_c31 : (Jvm.Cond.code ({ cls := "java/util/TreeMap$Entry", name := "<init>", desc := "(Ljava/lang/Object;Ljava/lang/Object;Ljava/util/TreeMap$Entry;)V" } : Jvm.MethodName) jdk_2736_method_1_code (4 : Nat) (Option.none : Option Jvm.ClassFile.FieldType)).before args0 about1 = true := code_word (m := ⟨34, 0⟩) (meth := k34m0) (c := k34c0) (by decide +kernel) rfl rfl rfl (by decide +kernel)
set_option maxRecDepth 65536 in
theorem w_c32 : (Jvm.Cond.code ({ cls := "com/example/kept_till_acked/kepttillacked/queue/SeqBits", name := "add", desc := "(J)V" } : Jvm.MethodName) prog_63_method_3_code (6 : Nat) (Option.none : Option Jvm.ClassFile.FieldType)).before args0 about1 = true := code_word (m := ⟨23, 2⟩) (meth := k23m2) (c := k23c2) (by decide +kernel) rfl rfl rfl (by decide +kernel)
set_option maxRecDepth 65536 in
theorem w_c33 : (Jvm.Cond.code ({ cls := "com/example/kept_till_acked/kepttillacked/queue/Pages", name := "get", desc := "(J)Ljava/lang/Object;" } : Jvm.MethodName) prog_49_method_2_code (4 : Nat) (Option.some (Jvm.ClassFile.FieldType.object "java/lang/Object"))).before args0 about1 = true := code_word (m := ⟨24, 1⟩) (meth := k24m1) (c := k24c1) (by decide +kernel) rfl rfl rfl (by decide +kernel)
set_option maxRecDepth 65536 in
theorem w_c34 : (Jvm.Cond.code ({ cls := "com/example/kept_till_acked/kepttillacked/queue/Pages", name := "find", desc := "(J)I" } : Jvm.MethodName) prog_49_method_7_code (6 : Nat) (Option.some Jvm.ClassFile.FieldType.int)).before args0 about1 = true := code_word (m := ⟨24, 4⟩) (meth := k24m4) (c := k24c4) (by decide +kernel) rfl rfl rfl (by decide +kernel)
set_option maxRecDepth 65536 in
theorem w_c35 : (Jvm.Cond.code ({ cls := "java/util/Arrays", name := "binarySearch", desc := "([JIIJ)I" } : Jvm.MethodName) jdk_65_method_55_code (5 : Nat) (Option.some Jvm.ClassFile.FieldType.int)).before args0 about1 = true := code_word (m := ⟨35, 2⟩) (meth := k35m2) (c := k35c2) (by decide +kernel) rfl rfl rfl (by decide +kernel)
set_option maxRecDepth 65536 in
theorem w_c36 : (Jvm.Cond.code ({ cls := "java/util/Arrays", name := "rangeCheck", desc := "(III)V" } : Jvm.MethodName) jdk_65_method_30_code (3 : Nat) (Option.none : Option Jvm.ClassFile.FieldType)).before args0 about1 = true := code_word (m := ⟨35, 1⟩) (meth := k35m1) (c := k35c1) (by decide +kernel) rfl rfl rfl (by decide +kernel)
set_option maxRecDepth 65536 in
theorem w_c37 : (Jvm.Cond.code ({ cls := "java/util/Arrays", name := "binarySearch0", desc := "([JIIJ)I" } : Jvm.MethodName) jdk_65_method_56_code (10 : Nat) (Option.some Jvm.ClassFile.FieldType.int)).before args0 about1 = true := code_word (m := ⟨35, 3⟩) (meth := k35m3) (c := k35c3) (by decide +kernel) rfl rfl rfl (by decide +kernel)
set_option maxRecDepth 65536 in
theorem w_c38 : (Jvm.Cond.code ({ cls := "com/example/kept_till_acked/kepttillacked/queue/SeqBits$Page", name := "<init>", desc := "()V" } : Jvm.MethodName) prog_64_method_1_code (1 : Nat) (Option.none : Option Jvm.ClassFile.FieldType)).before args0 about1 = true := code_word (m := ⟨36, 0⟩) (meth := k36m0) (c := k36c0) (by decide +kernel) rfl rfl rfl (by decide +kernel)
set_option maxRecDepth 65536 in
theorem w_c39 : (Jvm.Cond.code ({ cls := "com/example/kept_till_acked/kepttillacked/queue/Pages", name := "put", desc := "(JLjava/lang/Object;)V" } : Jvm.MethodName) prog_49_method_3_code (5 : Nat) (Option.none : Option Jvm.ClassFile.FieldType)).before args0 about1 = true := code_word (m := ⟨24, 2⟩) (meth := k24m2) (c := k24c2) (by decide +kernel) rfl rfl rfl (by decide +kernel)
set_option maxRecDepth 65536 in
theorem w_c40 : (Jvm.Cond.code ({ cls := "com/example/kept_till_acked/kepttillacked/queue/SeqBits", name := "bit", desc := "(J)I" } : Jvm.MethodName) prog_63_method_6_code (2 : Nat) (Option.some Jvm.ClassFile.FieldType.int)).before args0 about1 = true := code_word (m := ⟨23, 4⟩) (meth := k23m4) (c := k23c4) (by decide +kernel) rfl rfl rfl (by decide +kernel)
set_option maxRecDepth 65536 in
theorem w_c41 : (Jvm.Cond.code ({ cls := "com/example/kept_till_acked/kepttillacked/queue/SeqBits$Page", name := "set", desc := "(I)Z" } : Jvm.MethodName) prog_64_method_2_code (4 : Nat) (Option.some Jvm.ClassFile.FieldType.boolean)).before args0 about1 = true := code_word (m := ⟨36, 1⟩) (meth := k36m1) (c := k36c1) (by decide +kernel) rfl rfl rfl (by decide +kernel)
set_option maxRecDepth 65536 in
theorem w_c42 : (Jvm.Cond.code ({ cls := "com/example/kept_till_acked/kepttillacked/queue/ReadyLine", name := "remove", desc := "(JI)V" } : Jvm.MethodName) prog_56_method_8_code (5 : Nat) (Option.none : Option Jvm.ClassFile.FieldType)).before args0 about1 = true := code_word (m := ⟨2, 5⟩) (meth := k2m5) (c := k2c5) (by decide +kernel) rfl rfl rfl (by decide +kernel)
set_option maxRecDepth 65536 in
theorem w_c43 : (Jvm.Cond.code ({ cls := "java/util/TreeMap", name := "get", desc := "(Ljava/lang/Object;)Ljava/lang/Object;" } : Jvm.MethodName) jdk_2729_method_8_code (3 : Nat) (Option.some (Jvm.ClassFile.FieldType.object "java/lang/Object"))).before args0 about1 = true := code_word (m := ⟨10, 2⟩) (meth := k10m2) (c := k10c2) (by decide +kernel) rfl rfl rfl (by decide +kernel)
set_option maxRecDepth 65536 in
theorem w_c44 : (Jvm.Cond.code ({ cls := "java/util/TreeMap", name := "getEntry", desc := "(Ljava/lang/Object;)Ljava/util/TreeMap$Entry;" } : Jvm.MethodName) jdk_2729_method_15_code (5 : Nat) (Option.some (Jvm.ClassFile.FieldType.object "java/util/TreeMap$Entry"))).before args0 about1 = true := code_word (m := ⟨10, 3⟩) (meth := k10m3) (c := k10c3) (by decide +kernel) rfl rfl rfl (by decide +kernel)
set_option maxRecDepth 65536 in
theorem w_c45 : (Jvm.Cond.code ({ cls := "java/util/TreeMap", name := "getEntryUsingComparator", desc := "(Ljava/lang/Object;)Ljava/util/TreeMap$Entry;" } : Jvm.MethodName) jdk_2729_method_16_code (6 : Nat) (Option.some (Jvm.ClassFile.FieldType.object "java/util/TreeMap$Entry"))).before args0 about1 = true := code_word (m := ⟨10, 4⟩) (meth := k10m4) (c := k10c4) (by decide +kernel) rfl rfl rfl (by decide +kernel)
set_option maxRecDepth 65536 in
theorem w_c46 : (Jvm.Cond.code ({ cls := "com/example/kept_till_acked/kepttillacked/queue/SeqBits", name := "remove", desc := "(J)Z" } : Jvm.MethodName) prog_63_method_4_code (6 : Nat) (Option.some Jvm.ClassFile.FieldType.boolean)).before args0 about1 = true := code_word (m := ⟨23, 3⟩) (meth := k23m3) (c := k23c3) (by decide +kernel) rfl rfl rfl (by decide +kernel)
set_option maxRecDepth 65536 in
theorem w_c47 : (Jvm.Cond.code ({ cls := "com/example/kept_till_acked/kepttillacked/queue/SeqBits$Page", name := "clear", desc := "(I)Z" } : Jvm.MethodName) prog_64_method_3_code (4 : Nat) (Option.some Jvm.ClassFile.FieldType.boolean)).before args0 about1 = true := code_word (m := ⟨36, 2⟩) (meth := k36m2) (c := k36c2) (by decide +kernel) rfl rfl rfl (by decide +kernel)
set_option maxRecDepth 65536 in
theorem w_c48 : (Jvm.Cond.code ({ cls := "com/example/kept_till_acked/kepttillacked/queue/Pages", name := "remove", desc := "(J)V" } : Jvm.MethodName) prog_49_method_4_code (4 : Nat) (Option.none : Option Jvm.ClassFile.FieldType)).before args0 about1 = true := code_word (m := ⟨24, 3⟩) (meth := k24m3) (c := k24c3) (by decide +kernel) rfl rfl rfl (by decide +kernel)
set_option maxRecDepth 65536 in
theorem w_c49 : (Jvm.Cond.code ({ cls := "com/example/kept_till_acked/kepttillacked/queue/SeqBits", name := "size", desc := "()I" } : Jvm.MethodName) prog_63_method_2_code (1 : Nat) (Option.some Jvm.ClassFile.FieldType.int)).before args0 about1 = true := code_word (m := ⟨23, 1⟩) (meth := k23m1) (c := k23c1) (by decide +kernel) rfl rfl rfl (by decide +kernel)
set_option maxRecDepth 65536 in
theorem w_c50 : (Jvm.Cond.code ({ cls := "com/example/kept_till_acked/kepttillacked/queue/MovedRuns", name := "isEmpty", desc := "()Z" } : Jvm.MethodName) prog_45_method_4_code (1 : Nat) (Option.some Jvm.ClassFile.FieldType.boolean)).before args0 about1 = true := code_word (m := ⟨25, 1⟩) (meth := k25m1) (c := k25c1) (by decide +kernel) rfl rfl rfl (by decide +kernel)
set_option maxRecDepth 65536 in
theorem w_c51 : (Jvm.Cond.code ({ cls := "java/util/TreeMap", name := "remove", desc := "(Ljava/lang/Object;)Ljava/lang/Object;" } : Jvm.MethodName) jdk_2729_method_34_code (4 : Nat) (Option.some (Jvm.ClassFile.FieldType.object "java/lang/Object"))).before args0 about1 = true := code_word (m := ⟨10, 9⟩) (meth := k10m9) (c := k10c9) (by decide +kernel) rfl rfl rfl (by decide +kernel)
set_option maxRecDepth 65536 in
theorem w_c52 : (Jvm.Cond.code ({ cls := "java/util/TreeMap", name := "deleteEntry", desc := "(Ljava/util/TreeMap$Entry;)V" } : Jvm.MethodName) jdk_2729_method_84_code (3 : Nat) (Option.none : Option Jvm.ClassFile.FieldType)).before args0 about1 = true := code_word (m := ⟨10, 13⟩) (meth := k10m13) (c := k10c13) (by decide +kernel) rfl rfl rfl (by decide +kernel)
set_option maxRecDepth 65536 in
theorem w_c53 : (Jvm.Cond.code ({ cls := "com/example/kept_till_acked/kepttillacked/queue/ReadyLine", name := "addMoved", desc := "(JIJ)V" } : Jvm.MethodName) prog_56_method_6_code (6 : Nat) (Option.none : Option Jvm.ClassFile.FieldType)).before args0 about1 = true := code_word (m := ⟨2, 4⟩) (meth := k2m4) (c := k2c4) (by decide +kernel) rfl rfl rfl (by decide +kernel)
set_option maxRecDepth 65536 in
theorem w_c54 : (Jvm.Cond.code ({ cls := "com/example/kept_till_acked/kepttillacked/queue/MovedRuns", name := "add", desc := "(JJ)V" } : Jvm.MethodName) prog_45_method_5_code (7 : Nat) (Option.none : Option Jvm.ClassFile.FieldType)).before args0 about1 = true := code_word (m := ⟨25, 2⟩) (meth := k25m2) (c := k25c2) (by decide +kernel) rfl rfl rfl (by decide +kernel)
set_option maxRecDepth 65536 in
theorem w_c55 : (Jvm.Cond.code ({ cls := "java/util/ArrayDeque", name := "peekLast", desc := "()Ljava/lang/Object;" } : Jvm.MethodName) jdk_21_method_25_code (2 : Nat) (Option.some (Jvm.ClassFile.FieldType.object "java/lang/Object"))).before args0 about1 = true := code_word (m := ⟨32, 9⟩) (meth := k32m9) (c := k32c9) (by decide +kernel) rfl rfl rfl (by decide +kernel)
set_option maxRecDepth 65536 in
theorem w_c56 : (Jvm.Cond.code ({ cls := "java/util/ArrayDeque", name := "dec", desc := "(II)I" } : Jvm.MethodName) jdk_21_method_7_code (2 : Nat) (Option.some Jvm.ClassFile.FieldType.int)).before args0 about1 = true := code_word (m := ⟨32, 2⟩) (meth := k32m2) (c := k32c2) (by decide +kernel) rfl rfl rfl (by decide +kernel)
set_option maxRecDepth 65536 in
theorem w_c57 : (Jvm.Cond.code ({ cls := "java/util/ArrayDeque", name := "elementAt", desc := "([Ljava/lang/Object;I)Ljava/lang/Object;" } : Jvm.MethodName) jdk_21_method_10_code (2 : Nat) (Option.some (Jvm.ClassFile.FieldType.object "java/lang/Object"))).before args0 about1 = true := code_word (m := ⟨32, 4⟩) (meth := k32m4) (c := k32c4) (by decide +kernel) rfl rfl rfl (by decide +kernel)
set_option maxRecDepth 65536 in
theorem w_c58 : (Jvm.Cond.code ({ cls := "java/util/ArrayDeque", name := "addLast", desc := "(Ljava/lang/Object;)V" } : Jvm.MethodName) jdk_21_method_13_code (3 : Nat) (Option.none : Option Jvm.ClassFile.FieldType)).before args0 about1 = true := code_word (m := ⟨32, 5⟩) (meth := k32m5) (c := k32c5) (by decide +kernel) rfl rfl rfl (by decide +kernel)
set_option maxRecDepth 65536 in
theorem w_c59 : (Jvm.Cond.code ({ cls := "java/util/ArrayDeque", name := "inc", desc := "(II)I" } : Jvm.MethodName) jdk_21_method_6_code (2 : Nat) (Option.some Jvm.ClassFile.FieldType.int)).before args0 about1 = true := code_word (m := ⟨32, 1⟩) (meth := k32m1) (c := k32c1) (by decide +kernel) rfl rfl rfl (by decide +kernel)
set_option maxRecDepth 65536 in
theorem w_c60 : (Jvm.Cond.code ({ cls := "com/example/kept_till_acked/kepttillacked/queue/MovedRuns", name := "first", desc := "()J" } : Jvm.MethodName) prog_45_method_6_code (1 : Nat) (Option.some Jvm.ClassFile.FieldType.long)).before args0 about1 = true := code_word (m := ⟨25, 3⟩) (meth := k25m3) (c := k25c3) (by decide +kernel) rfl rfl rfl (by decide +kernel)
set_option maxRecDepth 65536 in
theorem w_c61 : (Jvm.Cond.code ({ cls := "java/util/ArrayDeque", name := "getFirst", desc := "()Ljava/lang/Object;" } : Jvm.MethodName) jdk_21_method_22_code (2 : Nat) (Option.some (Jvm.ClassFile.FieldType.object "java/lang/Object"))).before args0 about1 = true := code_word (m := ⟨32, 8⟩) (meth := k32m8) (c := k32c8) (by decide +kernel) rfl rfl rfl (by decide +kernel)
set_option maxRecDepth 65536 in
theorem w_c62 : (Jvm.Cond.code ({ cls := "com/example/kept_till_acked/kepttillacked/queue/MovedRuns", name := "removeFirst", desc := "()V" } : Jvm.MethodName) prog_45_method_8_code (3 : Nat) (Option.none : Option Jvm.ClassFile.FieldType)).before args0 about1 = true := code_word (m := ⟨25, 4⟩) (meth := k25m4) (c := k25c4) (by decide +kernel) rfl rfl rfl (by decide +kernel)
set_option maxRecDepth 65536 in
theorem w_c63 : (Jvm.Cond.code ({ cls := "java/util/ArrayDeque", name := "size", desc := "()I" } : Jvm.MethodName) jdk_21_method_37_code (1 : Nat) (Option.some Jvm.ClassFile.FieldType.int)).before args0 about1 = true := code_word (m := ⟨32, 10⟩) (meth := k32m10) (c := k32c10) (by decide +kernel) rfl rfl rfl (by decide +kernel)
set_option maxRecDepth 65536 in
theorem w_c64 : (Jvm.Cond.code ({ cls := "java/util/ArrayDeque", name := "sub", desc := "(III)I" } : Jvm.MethodName) jdk_21_method_9_code (3 : Nat) (Option.some Jvm.ClassFile.FieldType.int)).before args0 about1 = true := code_word (m := ⟨32, 3⟩) (meth := k32m3) (c := k32c3) (by decide +kernel) rfl rfl rfl (by decide +kernel)
set_option maxRecDepth 65536 in
theorem w_c65 : (Jvm.Cond.code ({ cls := "java/util/ArrayDeque", name := "removeFirst", desc := "()Ljava/lang/Object;" } : Jvm.MethodName) jdk_21_method_18_code (2 : Nat) (Option.some (Jvm.ClassFile.FieldType.object "java/lang/Object"))).before args0 about1 = true := code_word (m := ⟨32, 6⟩) (meth := k32m6) (c := k32c6) (by decide +kernel) rfl rfl rfl (by decide +kernel)
set_option maxRecDepth 65536 in
theorem w_c66 : (Jvm.Cond.code ({ cls := "java/util/ArrayDeque", name := "pollFirst", desc := "()Ljava/lang/Object;" } : Jvm.MethodName) jdk_21_method_20_code (4 : Nat) (Option.some (Jvm.ClassFile.FieldType.object "java/lang/Object"))).before args0 about1 = true := code_word (m := ⟨32, 7⟩) (meth := k32m7) (c := k32c7) (by decide +kernel) rfl rfl rfl (by decide +kernel)
set_option maxRecDepth 65536 in
theorem w_c67 : (Jvm.Cond.code ({ cls := "java/util/TreeMap", name := "addEntry", desc := "(Ljava/lang/Object;Ljava/lang/Object;Ljava/util/TreeMap$Entry;Z)V" } : Jvm.MethodName) jdk_2729_method_29_code (6 : Nat) (Option.none : Option Jvm.ClassFile.FieldType)).before args0 about1 = true := code_word (m := ⟨10, 7⟩) (meth := k10m7) (c := k10c7) (by decide +kernel) rfl rfl rfl (by decide +kernel)
set_option maxRecDepth 65536 in
theorem w_c68 : (Jvm.Cond.code ({ cls := "java/util/TreeMap", name := "fixAfterInsertion", desc := "(Ljava/util/TreeMap$Entry;)V" } : Jvm.MethodName) jdk_2729_method_83_code (3 : Nat) (Option.none : Option Jvm.ClassFile.FieldType)).before args0 about1 = true := code_word (m := ⟨10, 12⟩) (meth := k10m12) (c := k10c12) (by decide +kernel) rfl rfl rfl (by decide +kernel)
set_option maxRecDepth 65536 in
theorem w_c69 : (Jvm.Cond.code ({ cls := "java/util/TreeMap", name := "fixAfterDeletion", desc := "(Ljava/util/TreeMap$Entry;)V" } : Jvm.MethodName) jdk_2729_method_85_code (3 : Nat) (Option.none : Option Jvm.ClassFile.FieldType)).before args0 about1 = true := code_word (m := ⟨10, 14⟩) (meth := k10m14) (c := k10c14) (by decide +kernel) rfl rfl rfl (by decide +kernel)
set_option maxRecDepth 65536 in
theorem w_c70 : (Jvm.Cond.code ({ cls := "java/util/TreeMap", name := "setColor", desc := "(Ljava/util/TreeMap$Entry;Z)V" } : Jvm.MethodName) jdk_2729_method_78_code (2 : Nat) (Option.none : Option Jvm.ClassFile.FieldType)).before args0 about1 = true := code_word (m := ⟨10, 11⟩) (meth := k10m11) (c := k10c11) (by decide +kernel) rfl rfl rfl (by decide +kernel)
def codes1 : List Jvm.Cond := [Jvm.Cond.code x code maxLocals ret, Jvm.Cond.code ({ cls := "com/example/kept_till_acked/kepttillacked/queue/ReadyLine", name := "<init>", desc := "()V" } : Jvm.MethodName) prog_56_method_1_code (1 : Nat) (Option.none : Option Jvm.ClassFile.FieldType), Jvm.Cond.code ({ cls := "java/lang/Object", name := "<init>", desc := "()V" } : Jvm.MethodName) object_method_1_code (1 : Nat) (Option.none : Option Jvm.ClassFile.FieldType), Jvm.Cond.code ({ cls := "java/util/Comparator", name := "reverseOrder", desc := "()Ljava/util/Comparator;" } : Jvm.MethodName) jdk_2515_method_10_code (0 : Nat) (Option.some (Jvm.ClassFile.FieldType.object "java/util/Comparator")), Jvm.Cond.code ({ cls := "java/util/Collections", name := "reverseOrder", desc := "()Ljava/util/Comparator;" } : Jvm.MethodName) jdk_79_method_77_code (0 : Nat) (Option.some (Jvm.ClassFile.FieldType.object "java/util/Comparator")), Jvm.Cond.code ({ cls := "java/util/TreeMap", name := "<init>", desc := "(Ljava/util/Comparator;)V" } : Jvm.MethodName) jdk_2729_method_2_code (2 : Nat) (Option.none : Option Jvm.ClassFile.FieldType), Jvm.Cond.code ({ cls := "java/util/AbstractMap", name := "<init>", desc := "()V" } : Jvm.MethodName) jdk_71_method_1_code (1 : Nat) (Option.none : Option Jvm.ClassFile.FieldType), Jvm.Cond.code ({ cls := "com/example/kept_till_acked/kepttillacked/queue/ReadyLine", name := "isEmpty", desc := "()Z" } : Jvm.MethodName) prog_56_method_3_code (1 : Nat) (Option.some Jvm.ClassFile.FieldType.boolean), Jvm.Cond.code ({ cls := "com/example/kept_till_acked/kepttillacked/queue/ReadyLine", name := "size", desc := "()I" } : Jvm.MethodName) prog_56_method_2_code (1 : Nat) (Option.some Jvm.ClassFile.FieldType.int), Jvm.Cond.code ({ cls := "com/example/kept_till_acked/kepttillacked/queue/ReadyLine", name := "addAtHome", desc := "(JI)V" } : Jvm.MethodName) prog_56_method_5_code (4 : Nat) (Option.none : Option Jvm.ClassFile.FieldType), Jvm.Cond.code ({ cls := "com/example/kept_till_acked/kepttillacked/queue/ReadyLine", name := "line", desc := "(I)Lcom/example/kept_till_acked/kepttillacked/queue/ReadyLine$Line;" } : Jvm.MethodName) prog_56_method_11_code (2 : Nat) (Option.some (Jvm.ClassFile.FieldType.object "com/example/kept_till_acked/kepttillacked/queue/ReadyLine$Line")), Jvm.Cond.code ({ cls := "java/lang/Integer", name := "valueOf", desc := "(I)Ljava/lang/Integer;" } : Jvm.MethodName) jdk_33_method_22_code (1 : Nat) (Option.some (Jvm.ClassFile.FieldType.object "java/lang/Integer")), Jvm.Cond.code ({ cls := "java/lang/Integer", name := "<init>", desc := "(I)V" } : Jvm.MethodName) jdk_33_method_23_code (2 : Nat) (Option.none : Option Jvm.ClassFile.FieldType), Jvm.Cond.code ({ cls := "java/lang/Number", name := "<init>", desc := "()V" } : Jvm.MethodName) jdk_18_method_1_code (1 : Nat) (Option.none : Option Jvm.ClassFile.FieldType), Jvm.Cond.code ({ cls := "java/util/TreeMap", name := "computeIfAbsent", desc := "(Ljava/lang/Object;Ljava/util/function/Function;)Ljava/lang/Object;" } : Jvm.MethodName) jdk_2729_method_23_code (9 : Nat) (Option.some (Jvm.ClassFile.FieldType.object "java/lang/Object")), Jvm.Cond.code ({ cls := "java/util/Objects", name := "requireNonNull", desc := "(Ljava/lang/Object;)Ljava/lang/Object;" } : Jvm.MethodName) jdk_31_method_10_code (1 : Nat) (Option.some (Jvm.ClassFile.FieldType.object "java/lang/Object")), Jvm.Cond.code ({ cls := "java/util/TreeMap", name := "callMappingFunctionWithCheck", desc := "(Ljava/lang/Object;Ljava/util/function/Function;)Ljava/lang/Object;" } : Jvm.MethodName) jdk_2729_method_27_code (5 : Nat) (Option.some (Jvm.ClassFile.FieldType.object "java/lang/Object")), Jvm.Cond.code ({ cls := "com/example/kept_till_acked/kepttillacked/queue/ReadyLine", name := "lambda$line$2", desc := "(Ljava/lang/Integer;)Lcom/example/kept_till_acked/kepttillacked/queue/ReadyLine$Line;" } : Jvm.MethodName) prog_56_method_13_code (1 : Nat) (Option.some (Jvm.ClassFile.FieldType.object "com/example/kept_till_acked/kepttillacked/queue/ReadyLine$Line")), Jvm.Cond.code ({ cls := "com/example/kept_till_acked/kepttillacked/queue/ReadyLine$Line", name := "<init>", desc := "()V" } : Jvm.MethodName) prog_58_method_1_code (1 : Nat) (Option.none : Option Jvm.ClassFile.FieldType), Jvm.Cond.code ({ cls := "com/example/kept_till_acked/kepttillacked/queue/SeqBits", name := "<init>", desc := "()V" } : Jvm.MethodName) prog_63_method_1_code (1 : Nat) (Option.none : Option Jvm.ClassFile.FieldType), Jvm.Cond.code ({ cls := "com/example/kept_till_acked/kepttillacked/queue/Pages", name := "<init>", desc := "()V" } : Jvm.MethodName) prog_49_method_1_code (1 : Nat) (Option.none : Option Jvm.ClassFile.FieldType), Jvm.Cond.code ({ cls := "com/example/kept_till_acked/kepttillacked/queue/MovedRuns", name := "<init>", desc := "()V" } : Jvm.MethodName) prog_45_method_1_code (1 : Nat) (Option.none : Option Jvm.ClassFile.FieldType), Jvm.Cond.code ({ cls := "java/util/ArrayDeque", name := "<init>", desc := "()V" } : Jvm.MethodName) jdk_21_method_3_code (1 : Nat) (Option.none : Option Jvm.ClassFile.FieldType), Jvm.Cond.code ({ cls := "java/util/AbstractCollection", name := "<init>", desc := "()V" } : Jvm.MethodName) jdk_22_method_1_code (1 : Nat) (Option.none : Option Jvm.ClassFile.FieldType), Jvm.Cond.code ({ cls := "java/util/TreeMap", name := "addEntryToEmptyMap", desc := "(Ljava/lang/Object;Ljava/lang/Object;)V" } : Jvm.MethodName) jdk_2729_method_30_code (3 : Nat) (Option.none : Option Jvm.ClassFile.FieldType), Jvm.Cond.code ({ cls := "java/util/TreeMap", name := "compare", desc := "(Ljava/lang/Object;Ljava/lang/Object;)I" } : Jvm.MethodName) jdk_2729_method_67_code (3 : Nat) (Option.some Jvm.ClassFile.FieldType.int), Jvm.Cond.code ({ cls := "java/util/Collections$ReverseComparator", name := "compare", desc := "(Ljava/lang/Object;Ljava/lang/Object;)I" } : Jvm.MethodName) jdk_2483_method_5_code (3 : Nat) (Option.some Jvm.ClassFile.FieldType.int), Jvm.Cond.code ({ cls := "java/util/Collections$ReverseComparator", name := "compare", desc := "(Ljava/lang/Comparable;Ljava/lang/Comparable;)I" } : Jvm.MethodName) jdk_2483_method_2_code (3 : Nat) (Option.some Jvm.ClassFile.FieldType.int), Jvm.Cond.code ({ cls := "java/lang/Integer", name := "compareTo", desc := "(Ljava/lang/Object;)I" } : Jvm.MethodName) jdk_33_method_63_code (2 : Nat) (Option.some Jvm.ClassFile.FieldType.int), Jvm.Cond.code ({ cls := "java/lang/Integer", name := "compareTo", desc := "(Ljava/lang/Integer;)I" } : Jvm.MethodName) jdk_33_method_39_code (2 : Nat) (Option.some Jvm.ClassFile.FieldType.int), Jvm.Cond.code ({ cls := "java/lang/Integer", name := "compare", desc := "(II)I" } : Jvm.MethodName) jdk_33_method_40_code (2 : Nat) (Option.some Jvm.ClassFile.FieldType.int), Jvm.Cond.code ({ cls := "java/util/TreeMap$Entry", name := "<init>", desc := "(Ljava/lang/Object;Ljava/lang/Object;Ljava/util/TreeMap$Entry;)V" } : Jvm.MethodName) jdk_2736_method_1_code (4 : Nat) (Option.none : Option Jvm.ClassFile.FieldType), Jvm.Cond.code ({ cls := "com/example/kept_till_acked/kepttillacked/queue/SeqBits", name := "add", desc := "(J)V" } : Jvm.MethodName) prog_63_method_3_code (6 : Nat) (Option.none : Option Jvm.ClassFile.FieldType), Jvm.Cond.code ({ cls := "com/example/kept_till_acked/kepttillacked/queue/Pages", name := "get", desc := "(J)Ljava/lang/Object;" } : Jvm.MethodName) prog_49_method_2_code (4 : Nat) (Option.some (Jvm.ClassFile.FieldType.object "java/lang/Object")), Jvm.Cond.code ({ cls := "com/example/kept_till_acked/kepttillacked/queue/Pages", name := "find", desc := "(J)I" } : Jvm.MethodName) prog_49_method_7_code (6 : Nat) (Option.some Jvm.ClassFile.FieldType.int), Jvm.Cond.code ({ cls := "java/util/Arrays", name := "binarySearch", desc := "([JIIJ)I" } : Jvm.MethodName) jdk_65_method_55_code (5 : Nat) (Option.some Jvm.ClassFile.FieldType.int), Jvm.Cond.code ({ cls := "java/util/Arrays", name := "rangeCheck", desc := "(III)V" } : Jvm.MethodName) jdk_65_method_30_code (3 : Nat) (Option.none : Option Jvm.ClassFile.FieldType), Jvm.Cond.code ({ cls := "java/util/Arrays", name := "binarySearch0", desc := "([JIIJ)I" } : Jvm.MethodName) jdk_65_method_56_code (10 : Nat) (Option.some Jvm.ClassFile.FieldType.int), Jvm.Cond.code ({ cls := "com/example/kept_till_acked/kepttillacked/queue/SeqBits$Page", name := "<init>", desc := "()V" } : Jvm.MethodName) prog_64_method_1_code (1 : Nat) (Option.none : Option Jvm.ClassFile.FieldType), Jvm.Cond.code ({ cls := "com/example/kept_till_acked/kepttillacked/queue/Pages", name := "put", desc := "(JLjava/lang/Object;)V" } : Jvm.MethodName) prog_49_method_3_code (5 : Nat) (Option.none : Option Jvm.ClassFile.FieldType), Jvm.Cond.code ({ cls := "com/example/kept_till_acked/kepttillacked/queue/SeqBits", name := "bit", desc := "(J)I" } : Jvm.MethodName) prog_63_method_6_code (2 : Nat) (Option.some Jvm.ClassFile.FieldType.int), Jvm.Cond.code ({ cls := "com/example/kept_till_acked/kepttillacked/queue/SeqBits$Page", name := "set", desc := "(I)Z" } : Jvm.MethodName) prog_64_method_2_code (4 : Nat) (Option.some Jvm.ClassFile.FieldType.boolean), Jvm.Cond.code ({ cls := "com/example/kept_till_acked/kepttillacked/queue/ReadyLine", name := "remove", desc := "(JI)V" } : Jvm.MethodName) prog_56_method_8_code (5 : Nat) (Option.none : Option Jvm.ClassFile.FieldType), Jvm.Cond.code ({ cls := "java/util/TreeMap", name := "get", desc := "(Ljava/lang/Object;)Ljava/lang/Object;" } : Jvm.MethodName) jdk_2729_method_8_code (3 : Nat) (Option.some (Jvm.ClassFile.FieldType.object "java/lang/Object")), Jvm.Cond.code ({ cls := "java/util/TreeMap", name := "getEntry", desc := "(Ljava/lang/Object;)Ljava/util/TreeMap$Entry;" } : Jvm.MethodName) jdk_2729_method_15_code (5 : Nat) (Option.some (Jvm.ClassFile.FieldType.object "java/util/TreeMap$Entry")), Jvm.Cond.code ({ cls := "java/util/TreeMap", name := "getEntryUsingComparator", desc := "(Ljava/lang/Object;)Ljava/util/TreeMap$Entry;" } : Jvm.MethodName) jdk_2729_method_16_code (6 : Nat) (Option.some (Jvm.ClassFile.FieldType.object "java/util/TreeMap$Entry")), Jvm.Cond.code ({ cls := "com/example/kept_till_acked/kepttillacked/queue/SeqBits", name := "remove", desc := "(J)Z" } : Jvm.MethodName) prog_63_method_4_code (6 : Nat) (Option.some Jvm.ClassFile.FieldType.boolean), Jvm.Cond.code ({ cls := "com/example/kept_till_acked/kepttillacked/queue/SeqBits$Page", name := "clear", desc := "(I)Z" } : Jvm.MethodName) prog_64_method_3_code (4 : Nat) (Option.some Jvm.ClassFile.FieldType.boolean), Jvm.Cond.code ({ cls := "com/example/kept_till_acked/kepttillacked/queue/Pages", name := "remove", desc := "(J)V" } : Jvm.MethodName) prog_49_method_4_code (4 : Nat) (Option.none : Option Jvm.ClassFile.FieldType), Jvm.Cond.code ({ cls := "com/example/kept_till_acked/kepttillacked/queue/SeqBits", name := "size", desc := "()I" } : Jvm.MethodName) prog_63_method_2_code (1 : Nat) (Option.some Jvm.ClassFile.FieldType.int), Jvm.Cond.code ({ cls := "com/example/kept_till_acked/kepttillacked/queue/MovedRuns", name := "isEmpty", desc := "()Z" } : Jvm.MethodName) prog_45_method_4_code (1 : Nat) (Option.some Jvm.ClassFile.FieldType.boolean), Jvm.Cond.code ({ cls := "java/util/TreeMap", name := "remove", desc := "(Ljava/lang/Object;)Ljava/lang/Object;" } : Jvm.MethodName) jdk_2729_method_34_code (4 : Nat) (Option.some (Jvm.ClassFile.FieldType.object "java/lang/Object")), Jvm.Cond.code ({ cls := "java/util/TreeMap", name := "deleteEntry", desc := "(Ljava/util/TreeMap$Entry;)V" } : Jvm.MethodName) jdk_2729_method_84_code (3 : Nat) (Option.none : Option Jvm.ClassFile.FieldType), Jvm.Cond.code ({ cls := "com/example/kept_till_acked/kepttillacked/queue/ReadyLine", name := "addMoved", desc := "(JIJ)V" } : Jvm.MethodName) prog_56_method_6_code (6 : Nat) (Option.none : Option Jvm.ClassFile.FieldType), Jvm.Cond.code ({ cls := "com/example/kept_till_acked/kepttillacked/queue/MovedRuns", name := "add", desc := "(JJ)V" } : Jvm.MethodName) prog_45_method_5_code (7 : Nat) (Option.none : Option Jvm.ClassFile.FieldType), Jvm.Cond.code ({ cls := "java/util/ArrayDeque", name := "peekLast", desc := "()Ljava/lang/Object;" } : Jvm.MethodName) jdk_21_method_25_code (2 : Nat) (Option.some (Jvm.ClassFile.FieldType.object "java/lang/Object")), Jvm.Cond.code ({ cls := "java/util/ArrayDeque", name := "dec", desc := "(II)I" } : Jvm.MethodName) jdk_21_method_7_code (2 : Nat) (Option.some Jvm.ClassFile.FieldType.int), Jvm.Cond.code ({ cls := "java/util/ArrayDeque", name := "elementAt", desc := "([Ljava/lang/Object;I)Ljava/lang/Object;" } : Jvm.MethodName) jdk_21_method_10_code (2 : Nat) (Option.some (Jvm.ClassFile.FieldType.object "java/lang/Object")), Jvm.Cond.code ({ cls := "java/util/ArrayDeque", name := "addLast", desc := "(Ljava/lang/Object;)V" } : Jvm.MethodName) jdk_21_method_13_code (3 : Nat) (Option.none : Option Jvm.ClassFile.FieldType), Jvm.Cond.code ({ cls := "java/util/ArrayDeque", name := "inc", desc := "(II)I" } : Jvm.MethodName) jdk_21_method_6_code (2 : Nat) (Option.some Jvm.ClassFile.FieldType.int), Jvm.Cond.code ({ cls := "com/example/kept_till_acked/kepttillacked/queue/MovedRuns", name := "first", desc := "()J" } : Jvm.MethodName) prog_45_method_6_code (1 : Nat) (Option.some Jvm.ClassFile.FieldType.long), Jvm.Cond.code ({ cls := "java/util/ArrayDeque", name := "getFirst", desc := "()Ljava/lang/Object;" } : Jvm.MethodName) jdk_21_method_22_code (2 : Nat) (Option.some (Jvm.ClassFile.FieldType.object "java/lang/Object")), Jvm.Cond.code ({ cls := "com/example/kept_till_acked/kepttillacked/queue/MovedRuns", name := "removeFirst", desc := "()V" } : Jvm.MethodName) prog_45_method_8_code (3 : Nat) (Option.none : Option Jvm.ClassFile.FieldType), Jvm.Cond.code ({ cls := "java/util/ArrayDeque", name := "size", desc := "()I" } : Jvm.MethodName) jdk_21_method_37_code (1 : Nat) (Option.some Jvm.ClassFile.FieldType.int), Jvm.Cond.code ({ cls := "java/util/ArrayDeque", name := "sub", desc := "(III)I" } : Jvm.MethodName) jdk_21_method_9_code (3 : Nat) (Option.some Jvm.ClassFile.FieldType.int), Jvm.Cond.code ({ cls := "java/util/ArrayDeque", name := "removeFirst", desc := "()Ljava/lang/Object;" } : Jvm.MethodName) jdk_21_method_18_code (2 : Nat) (Option.some (Jvm.ClassFile.FieldType.object "java/lang/Object")), Jvm.Cond.code ({ cls := "java/util/ArrayDeque", name := "pollFirst", desc := "()Ljava/lang/Object;" } : Jvm.MethodName) jdk_21_method_20_code (4 : Nat) (Option.some (Jvm.ClassFile.FieldType.object "java/lang/Object")), Jvm.Cond.code ({ cls := "java/util/TreeMap", name := "addEntry", desc := "(Ljava/lang/Object;Ljava/lang/Object;Ljava/util/TreeMap$Entry;Z)V" } : Jvm.MethodName) jdk_2729_method_29_code (6 : Nat) (Option.none : Option Jvm.ClassFile.FieldType), Jvm.Cond.code ({ cls := "java/util/TreeMap", name := "fixAfterInsertion", desc := "(Ljava/util/TreeMap$Entry;)V" } : Jvm.MethodName) jdk_2729_method_83_code (3 : Nat) (Option.none : Option Jvm.ClassFile.FieldType), Jvm.Cond.code ({ cls := "java/util/TreeMap", name := "fixAfterDeletion", desc := "(Ljava/util/TreeMap$Entry;)V" } : Jvm.MethodName) jdk_2729_method_85_code (3 : Nat) (Option.none : Option Jvm.ClassFile.FieldType), Jvm.Cond.code ({ cls := "java/util/TreeMap", name := "setColor", desc := "(Ljava/util/TreeMap$Entry;Z)V" } : Jvm.MethodName) jdk_2729_method_78_code (2 : Nat) (Option.none : Option Jvm.ClassFile.FieldType)]
set_option maxRecDepth 65536 in
theorem codes_eq : words1.filter isCode = codes1 := rfl
theorem w_codes : ∀ c ∈ words1.filter isCode, c.before args0 about1 = true := by
  rw [codes_eq]
  intro c hc
  simp only [codes1, List.mem_cons, List.not_mem_nil, or_false] at hc
  rcases hc with rfl | rfl | rfl | rfl | rfl | rfl | rfl | rfl | rfl | rfl | rfl | rfl | rfl | rfl | rfl | rfl | rfl | rfl | rfl | rfl | rfl | rfl | rfl | rfl | rfl | rfl | rfl | rfl | rfl | rfl | rfl | rfl | rfl | rfl | rfl | rfl | rfl | rfl | rfl | rfl | rfl | rfl | rfl | rfl | rfl | rfl | rfl | rfl | rfl | rfl | rfl | rfl | rfl | rfl | rfl | rfl | rfl | rfl | rfl | rfl | rfl | rfl | rfl | rfl | rfl | rfl | rfl | rfl | rfl | rfl | rfl
  · exact w_c0
  · exact w_c1
  · exact w_c2
  · exact w_c3
  · exact w_c4
  · exact w_c5
  · exact w_c6
  · exact w_c7
  · exact w_c8
  · exact w_c9
  · exact w_c10
  · exact w_c11
  · exact w_c12
  · exact w_c13
  · exact w_c14
  · exact w_c15
  · exact w_c16
  · exact w_c17
  · exact w_c18
  · exact w_c19
  · exact w_c20
  · exact w_c21
  · exact w_c22
  · exact w_c23
  · exact w_c24
  · exact w_c25
  · exact w_c26
  · exact w_c27
  · exact w_c28
  · exact w_c29
  · exact w_c30
  · exact w_c31
  · exact w_c32
  · exact w_c33
  · exact w_c34
  · exact w_c35
  · exact w_c36
  · exact w_c37
  · exact w_c38
  · exact w_c39
  · exact w_c40
  · exact w_c41
  · exact w_c42
  · exact w_c43
  · exact w_c44
  · exact w_c45
  · exact w_c46
  · exact w_c47
  · exact w_c48
  · exact w_c49
  · exact w_c50
  · exact w_c51
  · exact w_c52
  · exact w_c53
  · exact w_c54
  · exact w_c55
  · exact w_c56
  · exact w_c57
  · exact w_c58
  · exact w_c59
  · exact w_c60
  · exact w_c61
  · exact w_c62
  · exact w_c63
  · exact w_c64
  · exact w_c65
  · exact w_c66
  · exact w_c67
  · exact w_c68
  · exact w_c69
  · exact w_c70
set_option maxRecDepth 65536 in
theorem w_t1 : (words1.take 24).all (fun c => isCode c || c.before args0 about1) = true := by decide +kernel
set_option maxRecDepth 65536 in
theorem w_t2 : ((words1.drop 24).take 24).all (fun c => isCode c || c.before args0 about1) = true := by decide +kernel
set_option maxRecDepth 65536 in
theorem w_t3 : (((words1.drop 24).drop 24).take 24).all (fun c => isCode c || c.before args0 about1) = true := by decide +kernel
set_option maxRecDepth 65536 in
theorem w_t4 : ((((words1.drop 24).drop 24).drop 24).take 24).all (fun c => isCode c || c.before args0 about1) = true := by decide +kernel
set_option maxRecDepth 65536 in
theorem w_t5 : (((((words1.drop 24).drop 24).drop 24).drop 24).take 24).all (fun c => isCode c || c.before args0 about1) = true := by decide +kernel
set_option maxRecDepth 65536 in
theorem w_t6 : ((((((words1.drop 24).drop 24).drop 24).drop 24).drop 24).take 24).all (fun c => isCode c || c.before args0 about1) = true := by decide +kernel
set_option maxRecDepth 65536 in
theorem w_t7 : (((((((words1.drop 24).drop 24).drop 24).drop 24).drop 24).drop 24).take 24).all (fun c => isCode c || c.before args0 about1) = true := by decide +kernel
set_option maxRecDepth 65536 in
theorem w_t8 : ((((((((words1.drop 24).drop 24).drop 24).drop 24).drop 24).drop 24).drop 24).take 24).all (fun c => isCode c || c.before args0 about1) = true := by decide +kernel
set_option maxRecDepth 65536 in
theorem w_t9 : (((((((((words1.drop 24).drop 24).drop 24).drop 24).drop 24).drop 24).drop 24).drop 24).take 24).all (fun c => isCode c || c.before args0 about1) = true := by decide +kernel
set_option maxRecDepth 65536 in
theorem w_t10 : ((((((((((words1.drop 24).drop 24).drop 24).drop 24).drop 24).drop 24).drop 24).drop 24).drop 24).take 24).all (fun c => isCode c || c.before args0 about1) = true := by decide +kernel
set_option maxRecDepth 65536 in
theorem w_t11 : (((((((((((words1.drop 24).drop 24).drop 24).drop 24).drop 24).drop 24).drop 24).drop 24).drop 24).drop 24).take 24).all (fun c => isCode c || c.before args0 about1) = true := by decide +kernel
set_option maxRecDepth 65536 in
theorem w_t12 : ((((((((((((words1.drop 24).drop 24).drop 24).drop 24).drop 24).drop 24).drop 24).drop 24).drop 24).drop 24).drop 24).take 24).all (fun c => isCode c || c.before args0 about1) = true := by decide +kernel
set_option maxRecDepth 65536 in
theorem w_t13 : (((((((((((((words1.drop 24).drop 24).drop 24).drop 24).drop 24).drop 24).drop 24).drop 24).drop 24).drop 24).drop 24).drop 24).take 24).all (fun c => isCode c || c.before args0 about1) = true := by decide +kernel
set_option maxRecDepth 65536 in
theorem w_t14 : ((((((((((((((words1.drop 24).drop 24).drop 24).drop 24).drop 24).drop 24).drop 24).drop 24).drop 24).drop 24).drop 24).drop 24).drop 24).take 24).all (fun c => isCode c || c.before args0 about1) = true := by decide +kernel
set_option maxRecDepth 65536 in
theorem w_t15 : (((((((((((((((words1.drop 24).drop 24).drop 24).drop 24).drop 24).drop 24).drop 24).drop 24).drop 24).drop 24).drop 24).drop 24).drop 24).drop 24).take 24).all (fun c => isCode c || c.before args0 about1) = true := by decide +kernel
set_option maxRecDepth 65536 in
theorem w_t16 : ((((((((((((((((words1.drop 24).drop 24).drop 24).drop 24).drop 24).drop 24).drop 24).drop 24).drop 24).drop 24).drop 24).drop 24).drop 24).drop 24).drop 24).take 24).all (fun c => isCode c || c.before args0 about1) = true := by decide +kernel
set_option maxRecDepth 65536 in
theorem w_t17 : (((((((((((((((((words1.drop 24).drop 24).drop 24).drop 24).drop 24).drop 24).drop 24).drop 24).drop 24).drop 24).drop 24).drop 24).drop 24).drop 24).drop 24).drop 24).take 24).all (fun c => isCode c || c.before args0 about1) = true := by decide +kernel
set_option maxRecDepth 65536 in
theorem w_t18 : ((((((((((((((((((words1.drop 24).drop 24).drop 24).drop 24).drop 24).drop 24).drop 24).drop 24).drop 24).drop 24).drop 24).drop 24).drop 24).drop 24).drop 24).drop 24).drop 24).take 24).all (fun c => isCode c || c.before args0 about1) = true := by decide +kernel
set_option maxRecDepth 65536 in
theorem w_t19 : ((((((((((((((((((words1.drop 24).drop 24).drop 24).drop 24).drop 24).drop 24).drop 24).drop 24).drop 24).drop 24).drop 24).drop 24).drop 24).drop 24).drop 24).drop 24).drop 24).drop 24).all (fun c => isCode c || c.before args0 about1) = true := by decide +kernel
theorem w_tables : (allAtoms (Jvm.Cond.code x code maxLocals ret :: tables_1)).before args0 about1 = true := by
  rw [allAtoms_all]
  show words1.all (fun c => c.before args0 about1) = true
  refine all_split ?_ w_codes
  rw [← List.take_append_drop 24 words1, List.all_append, w_t1, ← List.take_append_drop 24 (words1.drop 24), List.all_append, w_t2, ← List.take_append_drop 24 ((words1.drop 24).drop 24), List.all_append, w_t3, ← List.take_append_drop 24 (((words1.drop 24).drop 24).drop 24), List.all_append, w_t4, ← List.take_append_drop 24 ((((words1.drop 24).drop 24).drop 24).drop 24), List.all_append, w_t5, ← List.take_append_drop 24 (((((words1.drop 24).drop 24).drop 24).drop 24).drop 24), List.all_append, w_t6, ← List.take_append_drop 24 ((((((words1.drop 24).drop 24).drop 24).drop 24).drop 24).drop 24), List.all_append, w_t7, ← List.take_append_drop 24 (((((((words1.drop 24).drop 24).drop 24).drop 24).drop 24).drop 24).drop 24), List.all_append, w_t8, ← List.take_append_drop 24 ((((((((words1.drop 24).drop 24).drop 24).drop 24).drop 24).drop 24).drop 24).drop 24), List.all_append, w_t9, ← List.take_append_drop 24 (((((((((words1.drop 24).drop 24).drop 24).drop 24).drop 24).drop 24).drop 24).drop 24).drop 24), List.all_append, w_t10, ← List.take_append_drop 24 ((((((((((words1.drop 24).drop 24).drop 24).drop 24).drop 24).drop 24).drop 24).drop 24).drop 24).drop 24), List.all_append, w_t11, ← List.take_append_drop 24 (((((((((((words1.drop 24).drop 24).drop 24).drop 24).drop 24).drop 24).drop 24).drop 24).drop 24).drop 24).drop 24), List.all_append, w_t12, ← List.take_append_drop 24 ((((((((((((words1.drop 24).drop 24).drop 24).drop 24).drop 24).drop 24).drop 24).drop 24).drop 24).drop 24).drop 24).drop 24), List.all_append, w_t13, ← List.take_append_drop 24 (((((((((((((words1.drop 24).drop 24).drop 24).drop 24).drop 24).drop 24).drop 24).drop 24).drop 24).drop 24).drop 24).drop 24).drop 24), List.all_append, w_t14, ← List.take_append_drop 24 ((((((((((((((words1.drop 24).drop 24).drop 24).drop 24).drop 24).drop 24).drop 24).drop 24).drop 24).drop 24).drop 24).drop 24).drop 24).drop 24), List.all_append, w_t15, ← List.take_append_drop 24 (((((((((((((((words1.drop 24).drop 24).drop 24).drop 24).drop 24).drop 24).drop 24).drop 24).drop 24).drop 24).drop 24).drop 24).drop 24).drop 24).drop 24), List.all_append, w_t16, ← List.take_append_drop 24 ((((((((((((((((words1.drop 24).drop 24).drop 24).drop 24).drop 24).drop 24).drop 24).drop 24).drop 24).drop 24).drop 24).drop 24).drop 24).drop 24).drop 24).drop 24), List.all_append, w_t17, ← List.take_append_drop 24 (((((((((((((((((words1.drop 24).drop 24).drop 24).drop 24).drop 24).drop 24).drop 24).drop 24).drop 24).drop 24).drop 24).drop 24).drop 24).drop 24).drop 24).drop 24).drop 24), List.all_append, w_t18, w_t19]
  rfl
set_option maxRecDepth 65536 in
theorem w_rest : rest_1_c.before args0 about1 = true := by decide +kernel
set_option maxRecDepth 65536 in
theorem w_case : (Jvm.Cond.and given_1 narrow_1).before args0 about1 = true := by decide +kernel
theorem w_applies : (headSpec (Jvm.Cond.code x code maxLocals ret :: tables_1) room_1).applies x e0.platform about1 = true :=
  (Spec.applies_iff w_frames).mpr ⟨w_running, w_runnable, w_alone, w_named, w_hears, w_ripe, w_room, w_tables⟩
theorem atStart : AtStart classFile x code maxLocals ret World_1 tables_1 room_1 Calls_1 rest_1 Pre_1 launch0 p0 e0 about1 theMethod args0 below0 :=
  ⟨lists_1, trivial, launch0.admits_env _ _ _, launch0.least_env, fairChoices_fair.cas, fairChoices_fair.clock, w_frames, w_args, w_heap, w_applies, trivial, w_rest, w_case⟩
end start1
theorem witness_1 : WitnessClaimed_1 := ⟨start1.p0, start1.e0, start1.about1, start1.theMethod, start1.args0, start1.below0, start1.atStart⟩
end Jvm.Pilot.@@N@@
