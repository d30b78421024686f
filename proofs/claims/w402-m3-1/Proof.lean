import JvmDerived
import JvmDerived.Pilot.@@N@@Statement
import JvmDerived.Pilot.@@N@@Code
set_option linter.unusedVariables false
set_option linter.unusedSimpArgs false
namespace Jvm.Pilot.@@N@@
open Jvm Jvm.ClassFile Sem Op Lib Jvm.Free Jvm.Stand Jvm.LawKit Jvm.RoadKit Bundle Jvm.Pilot.@@N@@.Jvm.D
/-! ## The frame of my walks: Gl: what is left to run ends well; St: where the run stands; Ctr: a body's contract; Ary: an array by its length and its values -/
def Gl (p : Program) (e : Env) (below : List Frame) (n0 : Nat) (Φ : Outcome → State → List Loc → Prop) (Q : Option Value → Heap → Prop) (U : State) : Prop :=
  ∃ s₂ o, Steps p.tables e below U s₂ ∧ s₂.status = .running ∧ Ended s₂ below o ∧ ∃ v L, o = .returned v ∧ (Q v s₂.heap ∧ Fr n0 L) ∧ Φ o s₂ L
abbrev Fn (s : State) (cs sl : Nat) : Outcome → State → List Loc → Prop := fun o t L => FrameEnd s o t L cs sl
abbrev Fw (s : State) (cs sl : Nat) : Outcome → State → List Loc → Prop := fun o t L => ReturnedEndW s o t L cs sl
def St (p : Program) (l : Launch) (e : Env) (R : Room) (s : State) (m : MethodId) (args : Array Value) (below : List Frame) (meth : Method) (c : Code) (n0 : Nat) (T : State) (h : Heap) (cells slots : Nat) : Prop :=
  ∃ locs, Stand p l e R s m args below meth c T locs cells slots ∧ T.heap = h ∧ Fr n0 locs
abbrev Ctr (l : Launch) (Z : State) (y : MethodName) (bytes : ByteArray) (maxL : Nat) (ret : Option FieldType) (ws : List Jvm.Cond) (rm : Room) (as' : Array Value) (h0 : Heap) (n0 cs sl : Nat) (Q : Option Value → Heap → Prop) : Prop :=
  MetFree l y (head1 (Jvm.Cond.code y bytes maxL ret :: ws) rm) (fun a U => a = as' ∧ Z.Warmed39 U.vm ∧ U.heap = h0) (fun _ _ _ _ _ => True) (fun _ U o U' => ∃ v L, o = .returned v ∧ (Q v U'.heap ∧ Fr n0 L) ∧ FrameEnd U o U' L cs sl)
theorem Ctr.of {l : Launch} {Z : State} {y : MethodName} {bytes : ByteArray} {maxL : Nat} {ret : Option FieldType} {ws : List Jvm.Cond} {rm : Room} {as' : Array Value} {h0 : Heap} {n0 cs sl : Nat} {Q : Option Value → Heap → Prop} (hn : plainFor y = true)
    (body : ∀ (p : Program) (e : Env) (s : State) (m : MethodId) (below : List Frame) (meth : Method) (c : Code) (T : State), p.tables.exec = Jvm.exec → c.code = bytes → c.maxLocals = maxL → meth.sig.returnType = ret → meth.locks = false → meth.name = y.name → s.vm.findClass y.cls = some m.cls → Z.Warmed39 s.vm →
      St p l e rm s m as' below meth c n0 T h0 0 0 → Gl p e below n0 (Fn s cs sl) Q (T.setTop (entryFrame m as' maxL))) : Ctr l Z y bytes maxL ret ws rm as' h0 n0 cs sl Q := by
  refine MetFree.of_bodySF hn hisR ?_
  intro p e s m args below meth c s₁ Bd hml0 hP hK
  obtain ⟨rfl, hZ, hh⟩ := hP
  exact body p e s m below meth c s₁ Bd.exec Bd.bytes hml0 Bd.returns Bd.notSynchronized (name_of_methodNamed Bd.named Bd.method).1 (findClass_of_methodNamed Bd.named) hZ ⟨[], Stand.of_body Bd, by rw [← hh, Bd.state]; rfl, Fr.nil n0⟩
theorem own_since (s : State) (n : Nat) : s.Since s.vm n := (State.WarmedH.refl s).since n
abbrev CtrW (l : Launch) (Z : State) (y : MethodName) (bytes : ByteArray) (maxL : Nat) (ret : Option FieldType) (ws : List Jvm.Cond) (rm : Room) (as' : Array Value) (h0 : Heap) (n0 cs sl : Nat) (Q : Option Value → Heap → Prop) : Prop :=
  MetFree l y (head1 (Jvm.Cond.code y bytes maxL ret :: ws) rm) (fun a U => a = as' ∧ Z.Warmed39 U.vm ∧ U.heap = h0) (fun _ _ _ _ _ => True) (fun _ U o U' => ∃ v L, o = .returned v ∧ (Q v U'.heap ∧ Fr n0 L) ∧ ReturnedEndW U o U' L cs sl)
theorem CtrW.of {l : Launch} {Z : State} {y : MethodName} {bytes : ByteArray} {maxL : Nat} {ret : Option FieldType} {ws : List Jvm.Cond} {rm : Room} {as' : Array Value} {h0 : Heap} {n0 cs sl : Nat} {Q : Option Value → Heap → Prop} (hn : plainFor y = true)
    (body : ∀ (p : Program) (e : Env) (s : State) (m : MethodId) (below : List Frame) (meth : Method) (c : Code) (T : State), p.tables.exec = Jvm.exec → c.code = bytes → c.maxLocals = maxL → meth.sig.returnType = ret → meth.locks = false → meth.name = y.name → (s.setVm s.vm).vm.findClass y.cls = some m.cls → Z.Warmed39 (s.setVm s.vm).vm →
      St p l e rm (s.setVm s.vm) m as' below meth c n0 T h0 0 0 → s.Since s.vm h0.size → Gl p e below n0 (Fw s cs sl) Q (T.setTop (entryFrame m as' maxL))) : CtrW l Z y bytes maxL ret ws rm as' h0 n0 cs sl Q := by
  refine MetFree.of_bodySF hn hisR ?_
  intro p e s m args below meth c s₁ Bd hml0 hP hK
  obtain ⟨rfl, hZ, hh⟩ := hP
  exact body p e s m below meth c s₁ Bd.exec Bd.bytes hml0 Bd.returns Bd.notSynchronized (name_of_methodNamed Bd.named Bd.method).1 (findClass_of_methodNamed Bd.named) hZ ⟨[], Stand.of_body Bd, by rw [← hh, Bd.state]; rfl, Fr.nil n0⟩ (own_since s h0.size)
abbrev CtrL (l : Launch) (Z : State) (y : MethodName) (bytes : ByteArray) (maxL : Nat) (ret : Option FieldType) (ws : List Jvm.Cond) (rm : Room) (as' : Array Value) (h0 : Heap) (n0 cs sl : Nat) (Q : Option Value → Heap → Prop) : Prop :=
  MetFree l y (head1 (Jvm.Cond.code y bytes maxL ret :: ws) rm) (fun a U => a = as' ∧ U = Z ∧ U.heap = h0) (fun _ _ _ _ _ => True) (fun _ U o U' => ∃ v L, o = .returned v ∧ (Q v U'.heap ∧ Fr n0 L) ∧ ReturnedEndW U o U' L cs sl)
theorem CtrL.of {l : Launch} {Z : State} {y : MethodName} {bytes : ByteArray} {maxL : Nat} {ret : Option FieldType} {ws : List Jvm.Cond} {rm : Room} {as' : Array Value} {h0 : Heap} {n0 cs sl : Nat} {Q : Option Value → Heap → Prop} (hn : plainFor y = true)
    (body : ∀ (p : Program) (e : Env) (s : State) (m : MethodId) (below : List Frame) (meth : Method) (c : Code) (T : State), p.tables.exec = Jvm.exec → c.code = bytes → c.maxLocals = maxL → meth.sig.returnType = ret → meth.locks = false → meth.name = y.name → (s.setVm s.vm).vm.findClass y.cls = some m.cls → Z.Warmed39 (s.setVm s.vm).vm →
      St p l e rm (s.setVm s.vm) m as' below meth c n0 T h0 0 0 → s.Since s.vm h0.size → s = Z → s.heap = h0 → Gl p e below n0 (Fw s cs sl) Q (T.setTop (entryFrame m as' maxL))) : CtrL l Z y bytes maxL ret ws rm as' h0 n0 cs sl Q := by
  refine MetFree.of_bodySF hn hisR ?_
  intro p e s m args below meth c s₁ Bd hml0 hP hK
  obtain ⟨rfl, hZ, hh⟩ := hP
  exact body p e s m below meth c s₁ Bd.exec Bd.bytes hml0 Bd.returns Bd.notSynchronized (name_of_methodNamed Bd.named Bd.method).1 (findClass_of_methodNamed Bd.named) (hZ ▸ State.Warmed39.refl s) ⟨[], Stand.of_body Bd, by rw [← hh, Bd.state]; rfl, Fr.nil n0⟩ (own_since s h0.size) hZ hh
def Ary (Z : State) (h : Heap) (a : Addr) (ty : FieldType) (n : Nat) (f : Nat → Value) : Prop := ∃ c : Cell, Arr Z h a c ty ∧ c.slots.size = n ∧ ∀ i, i < n → c.slots[i]? = some (f i)
def own_upd (f : Nat → Value) (i : Nat) (v : Value) : Nat → Value := fun j => if j = i then v else f j
theorem own_upd_same (f : Nat → Value) (i : Nat) (v : Value) : own_upd f i v i = v := by simp [own_upd]
theorem own_upd_ne (f : Nat → Value) {i j : Nat} (v : Value) (q : ¬ j = i) : own_upd f i v j = f j := by simp [own_upd, q]
theorem own_in {j : Int32} {i k : Nat} (hj : j.toInt = (i : Int)) (hi : i < k) : ¬ (j < 0 ∨ k ≤ j.toNatClampNeg) ∧ j.toNatClampNeg = i := by
  have e : j.toNatClampNeg = i := by simp only [Int32.toNatClampNeg]; omega
  refine ⟨?_, e⟩
  rw [e, Int32.lt_iff_toInt_lt]; have : (0 : Int32).toInt = 0 := rfl
  omega
section OwnFacts
variable {Z : State} {h h' : Heap} {a b : Addr} {ty : FieldType} {n sl : Nat} {f : Nat → Value} {v : Value} {ws : List Addr}
theorem Ary.lt (F : Ary Z h a ty n f) : a < h.size := by obtain ⟨c, A, -⟩ := F; exact A.lt
theorem Ary.ext (F : Ary Z h a ty n f) (E : Ext h h') : Ary Z h' a ty n f := by obtain ⟨c, A, r⟩ := F; exact ⟨c, A.ext E, r⟩
theorem Ary.other (F : Ary Z h b ty n f) (W : Wr h h' a sl v) (q : b ≠ a) : Ary Z h' b ty n f := by obtain ⟨c, A, r⟩ := F; exact ⟨c, A.other W q, r⟩
theorem Ary.keep (F : Ary Z h a ty n f) (K : Keep h h' ws) (q : a ∉ ws) : Ary Z h' a ty n f := by obtain ⟨c, A, r⟩ := F; exact ⟨c, ⟨K.2.1 a c A.1 q, A.2⟩, r⟩
theorem Ary.same {cl : Cell} (A : Arr Z h a cl ty) (sz : cl.slots.size = n) (H : ∀ i, i < n → cl.slots[i]? = some (f i)) {i : Nat} (W : Wr h h' a i v) : Ary Z h' a ty n (own_upd f i v) := by
  refine ⟨_, A.same W, by rw [sz_set]; exact sz, fun j hj => ?_⟩
  by_cases q : j = i
  · subst q; simp [Cell.setSlot, own_upd, sz, hj]
  · rw [own_upd_ne f v q]; exact (Array.getElem?_setIfInBounds_ne (Ne.symm q)).trans (H j hj)
theorem Ary.congr (F : Ary Z h a ty n f) {g : Nat → Value} (q : ∀ i, i < n → f i = g i) : Ary Z h a ty n g := by obtain ⟨c, A, sz, H⟩ := F; exact ⟨c, A, sz, fun i hi => by rw [← q i hi]; exact H i hi⟩
/-- what may lie in an array of C -/
def Ov (Z : State) (h : Heap) (a : Addr) (C : String) : Prop := ∃ c : Cell, h[a]? = some c ∧ Ovr Z c.cls C
theorem Ov.ext {C : String} (F : Ov Z h a C) (E : Ext h h') : Ov Z h' a C := by obtain ⟨c, h1, O⟩ := F; exact ⟨c, E.2 _ _ h1, O⟩
theorem Ov.wr {C : String} (F : Ov Z h a C) (W : Wr h h' b sl v) : Ov Z h' a C := by
  obtain ⟨c, h1, O⟩ := F
  obtain ⟨c', e1, e2, -⟩ := wr_at W h1
  exact ⟨c', e1, by rw [e2]; exact O⟩
theorem Ov.keep {C : String} (F : Ov Z h a C) (K : Keep h h' ws) : Ov Z h' a C := by
  obtain ⟨c, h1, O⟩ := F
  obtain ⟨c', e1, e2, -⟩ := K.2.2 a c h1
  exact ⟨c', e1, by rw [e2]; exact O⟩
theorem Ov.sto {C : String} {y : Addr} (F : Ov Z h a C) (A : Ary Z h a ty n f) (I : Ins Z h y C true) : Sto Z h a (.ref y) := by
  obtain ⟨c, h1, O⟩ := F
  obtain ⟨cl, A, -⟩ := A
  cases h1.symm.trans A.1
  exact Sto.of A O I
theorem own_plain {C : String} (F : Exa Z h a C) : ∃ c : Cell, h[a]? = some c ∧ c.vm.isStatics = false := by obtain ⟨c, k, h1, -, -, h4, -⟩ := F; exact ⟨c, h1, h4⟩
theorem own_plainA (F : Ary Z h a ty n f) : ∃ c : Cell, h[a]? = some c ∧ c.vm.isStatics = false := by obtain ⟨c, A, -⟩ := F; exact ⟨c, A.1, A.plain⟩
theorem own_sta_keep {C nm d : String} (F : Sta Z h C nm d v) (K : Keep h h' ws) (q : ∀ x ∈ ws, ∃ c : Cell, h[x]? = some c ∧ c.vm.isStatics = false) : Sta Z h' C nm d v := by
  obtain ⟨cf, i, k, fd, st, cell, h1, h2, h3, h4, h5, h6, h7⟩ := F
  refine ⟨cf, i, k, fd, st, cell, h1, h2, h3, h4, K.2.1 _ _ h5 fun z => ?_, h6, h7⟩
  obtain ⟨c, e1, e2⟩ := q _ z
  cases h5.symm.trans e1
  rw [e2] at h6; cases h6
theorem own_fld_of {a0 : Array Value} {C O nm d O' nm' d' : String} {k : Nat} (E : Exa Z h a C) (F : Fld Z h a O' nm' d' v) (wi : (Cond.instantiable C k).before a0 Z = true) (L : Laid Z a0 C O nm d) : ∃ v', Fld Z h a O nm d v' := by
  obtain ⟨c, _, _, _, _, h1, -, -, h4, -⟩ := F
  exact fld_laid E ⟨c, h1, h4⟩ wi L
theorem own_ne_ty {ty' : FieldType} {n' : Nat} {f' : Nat → Value} (F : Ary Z h a ty n f) (G : Ary Z h b ty' n' f') (q : ty ≠ ty') : a ≠ b := fun e => by
  subst e
  obtain ⟨c1, A1, -⟩ := F
  obtain ⟨c2, A2, -⟩ := G
  cases A1.1.symm.trans A2.1
  obtain ⟨-, k1, i1, p1, j1⟩ := A1.2.1
  obtain ⟨-, k2, i2, p2, j2⟩ := A2.2.1
  cases i1.symm.trans i2
  rw [j1] at j2; cases j2; exact q rfl
theorem own_ne_exa {a0 : Array Value} {C : String} {k : Nat} (E : Exa Z h a C) (wi : (Cond.instantiable C k).before a0 Z = true) (G : Ary Z h b ty n f) : a ≠ b := by
  obtain ⟨c, A, -⟩ := G; exact ne_arr E wi A
theorem own_fld_inj {C nm d : String} {w : Value} (F : Fld Z h a C nm d v) (G : Fld Z h a C nm d w) : v = w := by
  obtain ⟨c1, cf1, k1, i1, f1, a1, a2, -, -, -, -, a7⟩ := F
  obtain ⟨c2, cf2, k2, i2, f2, b1, b2, -, -, -, -, b7⟩ := G
  cases a1.symm.trans b1
  cases a2.symm.trans b2
  exact Option.some.inj (a7.symm.trans b7)
end OwnFacts
section OwnSteps
variable {p : Program} {l : Launch} {e : Env} {R : Room} {s : State} {m : MethodId} {args : Array Value} {below : List Frame} {meth : Method} {c : Code} {T : State} {n0 : Nat} {h : Heap} {cells slots : Nat} {cs sl : Nat} {Φ : Outcome → State → List Loc → Prop} {Q : Option Value → Heap → Prop} {pc pc' : Nat} {L L' : Array Slot} {S : List Value} {bs : ByteArray} {Z : State} {a0 : Array Value}
theorem Gl.st {U V : State} (q : ∀ t, Steps p.tables e below V t → Steps p.tables e below U t) (k : Gl p e below n0 Φ Q V) : Gl p e below n0 Φ Q U := by
  obtain ⟨t, o, h1, h2⟩ := k; exact ⟨t, o, q _ h1, h2⟩
theorem Gl.mono {U : State} {Q' : Option Value → Heap → Prop} (q : ∀ v h, Q v h → Q' v h) (k : Gl p e below n0 Φ Q U) : Gl p e below n0 Φ Q' U := by
  obtain ⟨t, o, h1, h2, h3, v, L, h4, ⟨h5, h6⟩, h7⟩ := k; exact ⟨t, o, h1, h2, h3, v, L, h4, ⟨q _ _ h5, h6⟩, h7⟩
theorem g_iload (X : St p l e R s m args below meth c n0 T h cells slots) (hx : p.tables.exec = Jvm.exec) (hby : c.code = bs) {k : Nat} {v : Int32} (hd : decode bs pc = .ok (.iload k, 2)) (hl : L[k]? = some (.val (.int v))) (hp : pc + 2 = pc') (K : Gl p e below n0 Φ Q (T.setTop (mkF m pc' L (.int v :: S)))) : Gl p e below n0 Φ Q (T.setTop (mkF m pc L S)) := by
  obtain ⟨locs, Y, -, -⟩ := X; subst hp; exact Gl.st (fun t k => XS.iload Y.here hx rfl (hb hby hd) hl k) K
theorem g_iloadN (X : St p l e R s m args below meth c n0 T h cells slots) (hx : p.tables.exec = Jvm.exec) (hby : c.code = bs) {k : Fin 4} {v : Int32} (hd : decode bs pc = .ok (.iload_n k, 1)) (hl : L[k.val]? = some (.val (.int v))) (hp : pc + 1 = pc') (K : Gl p e below n0 Φ Q (T.setTop (mkF m pc' L (.int v :: S)))) : Gl p e below n0 Φ Q (T.setTop (mkF m pc L S)) := by
  obtain ⟨locs, Y, -, -⟩ := X; subst hp; exact Gl.st (fun t k => XS.iloadN Y.here hx rfl (hb hby hd) hl k) K
theorem g_lload (X : St p l e R s m args below meth c n0 T h cells slots) (hx : p.tables.exec = Jvm.exec) (hby : c.code = bs) {k : Nat} {v : Int64} (hd : decode bs pc = .ok (.lload k, 2)) (hl : L[k]? = some (.val (.long v))) (hp : pc + 2 = pc') (K : Gl p e below n0 Φ Q (T.setTop (mkF m pc' L (.long v :: S)))) : Gl p e below n0 Φ Q (T.setTop (mkF m pc L S)) := by
  obtain ⟨locs, Y, -, -⟩ := X; subst hp; exact Gl.st (fun t k => XS.lload Y.here hx rfl (hb hby hd) hl k) K
theorem g_lloadN (X : St p l e R s m args below meth c n0 T h cells slots) (hx : p.tables.exec = Jvm.exec) (hby : c.code = bs) {k : Fin 4} {v : Int64} (hd : decode bs pc = .ok (.lload_n k, 1)) (hl : L[k.val]? = some (.val (.long v))) (hp : pc + 1 = pc') (K : Gl p e below n0 Φ Q (T.setTop (mkF m pc' L (.long v :: S)))) : Gl p e below n0 Φ Q (T.setTop (mkF m pc L S)) := by
  obtain ⟨locs, Y, -, -⟩ := X; subst hp; exact Gl.st (fun t k => XS.lloadN Y.here hx rfl (hb hby hd) hl k) K
theorem g_aload (X : St p l e R s m args below meth c n0 T h cells slots) (hx : p.tables.exec = Jvm.exec) (hby : c.code = bs) {k : Nat} {v : Value} (hd : decode bs pc = .ok (.aload k, 2)) (hl : L[k]? = some (.val v)) (hv : v.isRef = true) (hp : pc + 2 = pc') (K : Gl p e below n0 Φ Q (T.setTop (mkF m pc' L (v :: S)))) : Gl p e below n0 Φ Q (T.setTop (mkF m pc L S)) := by
  obtain ⟨locs, Y, -, -⟩ := X; subst hp; exact Gl.st (fun t k => XS.aload Y.here hx rfl (hb hby hd) hl hv k) K
theorem g_aloadN (X : St p l e R s m args below meth c n0 T h cells slots) (hx : p.tables.exec = Jvm.exec) (hby : c.code = bs) {k : Fin 4} {v : Value} (hd : decode bs pc = .ok (.aload_n k, 1)) (hl : L[k.val]? = some (.val v)) (hv : v.isRef = true) (hp : pc + 1 = pc') (K : Gl p e below n0 Φ Q (T.setTop (mkF m pc' L (v :: S)))) : Gl p e below n0 Φ Q (T.setTop (mkF m pc L S)) := by
  obtain ⟨locs, Y, -, -⟩ := X; subst hp; exact Gl.st (fun t k => XS.aloadN Y.here hx rfl (hb hby hd) hl hv k) K
theorem g_istore (X : St p l e R s m args below meth c n0 T h cells slots) (hx : p.tables.exec = Jvm.exec) (hby : c.code = bs) {k : Nat} {v : Int32} (hd : decode bs pc = .ok (.istore k, 2)) (hl : storeLocals L k (.int v) = some L') (hp : pc + 2 = pc') (K : Gl p e below n0 Φ Q (T.setTop (mkF m pc' L' S))) : Gl p e below n0 Φ Q (T.setTop (mkF m pc L (.int v :: S))) := by
  obtain ⟨locs, Y, -, -⟩ := X; subst hp; exact Gl.st (fun t k => XS.istore Y.here hx rfl (hb hby hd) rfl hl k) K
theorem g_istoreN (X : St p l e R s m args below meth c n0 T h cells slots) (hx : p.tables.exec = Jvm.exec) (hby : c.code = bs) {k : Fin 4} {v : Int32} (hd : decode bs pc = .ok (.istore_n k, 1)) (hl : storeLocals L k.val (.int v) = some L') (hp : pc + 1 = pc') (K : Gl p e below n0 Φ Q (T.setTop (mkF m pc' L' S))) : Gl p e below n0 Φ Q (T.setTop (mkF m pc L (.int v :: S))) := by
  obtain ⟨locs, Y, -, -⟩ := X; subst hp; exact Gl.st (fun t k => XS.istoreN Y.here hx rfl (hb hby hd) rfl hl k) K
theorem g_lstore (X : St p l e R s m args below meth c n0 T h cells slots) (hx : p.tables.exec = Jvm.exec) (hby : c.code = bs) {k : Nat} {v : Int64} (hd : decode bs pc = .ok (.lstore k, 2)) (hl : storeLocals L k (.long v) = some L') (hp : pc + 2 = pc') (K : Gl p e below n0 Φ Q (T.setTop (mkF m pc' L' S))) : Gl p e below n0 Φ Q (T.setTop (mkF m pc L (.long v :: S))) := by
  obtain ⟨locs, Y, -, -⟩ := X; subst hp; exact Gl.st (fun t k => XS.lstore Y.here hx rfl (hb hby hd) rfl hl k) K
theorem g_lstoreN (X : St p l e R s m args below meth c n0 T h cells slots) (hx : p.tables.exec = Jvm.exec) (hby : c.code = bs) {k : Fin 4} {v : Int64} (hd : decode bs pc = .ok (.lstore_n k, 1)) (hl : storeLocals L k.val (.long v) = some L') (hp : pc + 1 = pc') (K : Gl p e below n0 Φ Q (T.setTop (mkF m pc' L' S))) : Gl p e below n0 Φ Q (T.setTop (mkF m pc L (.long v :: S))) := by
  obtain ⟨locs, Y, -, -⟩ := X; subst hp; exact Gl.st (fun t k => XS.lstoreN Y.here hx rfl (hb hby hd) rfl hl k) K
theorem g_astore (X : St p l e R s m args below meth c n0 T h cells slots) (hx : p.tables.exec = Jvm.exec) (hby : c.code = bs) {k : Nat} {v : Value} (hd : decode bs pc = .ok (.astore k, 2)) (hv : v.isRef = true) (hl : storeLocals L k v = some L') (hp : pc + 2 = pc') (K : Gl p e below n0 Φ Q (T.setTop (mkF m pc' L' S))) : Gl p e below n0 Φ Q (T.setTop (mkF m pc L (v :: S))) := by
  obtain ⟨locs, Y, -, -⟩ := X; subst hp; exact Gl.st (fun t k => XS.astore Y.here hx rfl (hb hby hd) rfl hv hl k) K
theorem g_astoreN (X : St p l e R s m args below meth c n0 T h cells slots) (hx : p.tables.exec = Jvm.exec) (hby : c.code = bs) {k : Fin 4} {v : Value} (hd : decode bs pc = .ok (.astore_n k, 1)) (hv : v.isRef = true) (hl : storeLocals L k.val v = some L') (hp : pc + 1 = pc') (K : Gl p e below n0 Φ Q (T.setTop (mkF m pc' L' S))) : Gl p e below n0 Φ Q (T.setTop (mkF m pc L (v :: S))) := by
  obtain ⟨locs, Y, -, -⟩ := X; subst hp; exact Gl.st (fun t k => XS.astoreN Y.here hx rfl (hb hby hd) rfl hv hl k) K
theorem g_iconst (X : St p l e R s m args below meth c n0 T h cells slots) (hx : p.tables.exec = Jvm.exec) (hby : c.code = bs) {i : Int} {v : Int32} (hd : decode bs pc = .ok (.iconst i, 1)) (hv : Int32.ofInt i = v) (hp : pc + 1 = pc') (K : Gl p e below n0 Φ Q (T.setTop (mkF m pc' L (.int v :: S)))) : Gl p e below n0 Φ Q (T.setTop (mkF m pc L S)) := by
  obtain ⟨locs, Y, -, -⟩ := X; subst hp hv; exact Gl.st (fun t k => XS.iconst Y.here hx rfl (hb hby hd) k) K
theorem g_bipush (X : St p l e R s m args below meth c n0 T h cells slots) (hx : p.tables.exec = Jvm.exec) (hby : c.code = bs) {i : Int} {v : Int32} (hd : decode bs pc = .ok (.bipush i, 2)) (hv : (Int8.ofInt i).toInt32 = v) (hp : pc + 2 = pc') (K : Gl p e below n0 Φ Q (T.setTop (mkF m pc' L (.int v :: S)))) : Gl p e below n0 Φ Q (T.setTop (mkF m pc L S)) := by
  obtain ⟨locs, Y, -, -⟩ := X; subst hp hv; exact Gl.st (fun t k => XS.bipush Y.here hx rfl (hb hby hd) k) K
theorem g_sipush (X : St p l e R s m args below meth c n0 T h cells slots) (hx : p.tables.exec = Jvm.exec) (hby : c.code = bs) {i : Int} {v : Int32} (hd : decode bs pc = .ok (.sipush i, 3)) (hv : (Int16.ofInt i).toInt32 = v) (hp : pc + 3 = pc') (K : Gl p e below n0 Φ Q (T.setTop (mkF m pc' L (.int v :: S)))) : Gl p e below n0 Φ Q (T.setTop (mkF m pc L S)) := by
  obtain ⟨locs, Y, -, -⟩ := X; subst hp hv; exact Gl.st (fun t k => XS.sipush Y.here hx rfl (hb hby hd) k) K
theorem g_lconst (X : St p l e R s m args below meth c n0 T h cells slots) (hx : p.tables.exec = Jvm.exec) (hby : c.code = bs) {i : Fin 2} {v : Int64} (hd : decode bs pc = .ok (.lconst i, 1)) (hv : Int64.ofNat i = v) (hp : pc + 1 = pc') (K : Gl p e below n0 Φ Q (T.setTop (mkF m pc' L (.long v :: S)))) : Gl p e below n0 Φ Q (T.setTop (mkF m pc L S)) := by
  obtain ⟨locs, Y, -, -⟩ := X; subst hp hv; exact Gl.st (fun t k => XS.lconst Y.here hx rfl (hb hby hd) k) K
theorem g_aconst_null (X : St p l e R s m args below meth c n0 T h cells slots) (hx : p.tables.exec = Jvm.exec) (hby : c.code = bs) (hd : decode bs pc = .ok (.aconst_null, 1)) (hp : pc + 1 = pc') (K : Gl p e below n0 Φ Q (T.setTop (mkF m pc' L (.null :: S)))) : Gl p e below n0 Φ Q (T.setTop (mkF m pc L S)) := by
  obtain ⟨locs, Y, -, -⟩ := X; subst hp; exact Gl.st (fun t k => XS.aconstNull Y.here hx rfl (hb hby hd) k) K
theorem g_ldc (X : St p l e R s m args below meth c n0 T h cells slots) (hx : p.tables.exec = Jvm.exec) (hby : c.code = bs) (hZ : Z.Warmed39 s.vm) {own : String} {index : Nat} {v : Int32} (hown : s.vm.findClass own = some m.cls) (w : (Cond.constant own index v).before a0 Z = true) (hd : decode bs pc = .ok (.ldc index, 2)) (hp : pc + 2 = pc') (K : Gl p e below n0 Φ Q (T.setTop (mkF m pc' L (.int v :: S)))) : Gl p e below n0 Φ Q (T.setTop (mkF m pc L S)) := by
  obtain ⟨locs, Y, -, -⟩ := X; subst hp; exact Gl.st (Y.ldcInt hx hown (mvT hZ w) (g := mkF m pc L S) rfl (hb hby hd)) K
theorem g_ldc2_w (X : St p l e R s m args below meth c n0 T h cells slots) (hx : p.tables.exec = Jvm.exec) (hby : c.code = bs) (hZ : Z.Warmed39 s.vm) {own : String} {index : Nat} {v : Int64} (hown : s.vm.findClass own = some m.cls) (w : (Cond.constantLong own index v).before a0 Z = true) (hd : decode bs pc = .ok (.ldc2_w index, 3)) (hp : pc + 3 = pc') (K : Gl p e below n0 Φ Q (T.setTop (mkF m pc' L (.long v :: S)))) : Gl p e below n0 Φ Q (T.setTop (mkF m pc L S)) := by
  obtain ⟨locs, Y, -, -⟩ := X; subst hp; exact Gl.st (Y.ldc2Long hx hown (mvT hZ w) (g := mkF m pc L S) rfl (hb hby hd)) K
theorem g_iadd (X : St p l e R s m args below meth c n0 T h cells slots) (hx : p.tables.exec = Jvm.exec) (hby : c.code = bs) {x y : Int32} (hd : decode bs pc = .ok (.iadd, 1))  (hp : pc + 1 = pc') (K : Gl p e below n0 Φ Q (T.setTop (mkF m pc' L (.int (x + y) :: S)))) : Gl p e below n0 Φ Q (T.setTop (mkF m pc L (.int y :: .int x :: S))) := by
  obtain ⟨locs, Y, -, -⟩ := X; subst hp; exact Gl.st (fun t k => XS.iadd Y.here hx rfl (hb hby hd) rfl k) K
theorem g_isub (X : St p l e R s m args below meth c n0 T h cells slots) (hx : p.tables.exec = Jvm.exec) (hby : c.code = bs) {x y : Int32} (hd : decode bs pc = .ok (.isub, 1))  (hp : pc + 1 = pc') (K : Gl p e below n0 Φ Q (T.setTop (mkF m pc' L (.int (x - y) :: S)))) : Gl p e below n0 Φ Q (T.setTop (mkF m pc L (.int y :: .int x :: S))) := by
  obtain ⟨locs, Y, -, -⟩ := X; subst hp; exact Gl.st (fun t k => XS.isub Y.here hx rfl (hb hby hd) rfl k) K
theorem g_imul (X : St p l e R s m args below meth c n0 T h cells slots) (hx : p.tables.exec = Jvm.exec) (hby : c.code = bs) {x y : Int32} (hd : decode bs pc = .ok (.imul, 1))  (hp : pc + 1 = pc') (K : Gl p e below n0 Φ Q (T.setTop (mkF m pc' L (.int (x * y) :: S)))) : Gl p e below n0 Φ Q (T.setTop (mkF m pc L (.int y :: .int x :: S))) := by
  obtain ⟨locs, Y, -, -⟩ := X; subst hp; exact Gl.st (fun t k => XS.imul Y.here hx rfl (hb hby hd) rfl k) K
theorem g_iand (X : St p l e R s m args below meth c n0 T h cells slots) (hx : p.tables.exec = Jvm.exec) (hby : c.code = bs) {x y : Int32} (hd : decode bs pc = .ok (.iand, 1))  (hp : pc + 1 = pc') (K : Gl p e below n0 Φ Q (T.setTop (mkF m pc' L (.int (x &&& y) :: S)))) : Gl p e below n0 Φ Q (T.setTop (mkF m pc L (.int y :: .int x :: S))) := by
  obtain ⟨locs, Y, -, -⟩ := X; subst hp; exact Gl.st (fun t k => XS.iand Y.here hx rfl (hb hby hd) rfl k) K
theorem g_ior (X : St p l e R s m args below meth c n0 T h cells slots) (hx : p.tables.exec = Jvm.exec) (hby : c.code = bs) {x y : Int32} (hd : decode bs pc = .ok (.ior, 1))  (hp : pc + 1 = pc') (K : Gl p e below n0 Φ Q (T.setTop (mkF m pc' L (.int (x ||| y) :: S)))) : Gl p e below n0 Φ Q (T.setTop (mkF m pc L (.int y :: .int x :: S))) := by
  obtain ⟨locs, Y, -, -⟩ := X; subst hp; exact Gl.st (fun t k => XS.ior Y.here hx rfl (hb hby hd) rfl k) K
theorem g_ixor (X : St p l e R s m args below meth c n0 T h cells slots) (hx : p.tables.exec = Jvm.exec) (hby : c.code = bs) {x y : Int32} (hd : decode bs pc = .ok (.ixor, 1))  (hp : pc + 1 = pc') (K : Gl p e below n0 Φ Q (T.setTop (mkF m pc' L (.int (x ^^^ y) :: S)))) : Gl p e below n0 Φ Q (T.setTop (mkF m pc L (.int y :: .int x :: S))) := by
  obtain ⟨locs, Y, -, -⟩ := X; subst hp; exact Gl.st (fun t k => XS.ixor Y.here hx rfl (hb hby hd) rfl k) K
theorem g_ishl (X : St p l e R s m args below meth c n0 T h cells slots) (hx : p.tables.exec = Jvm.exec) (hby : c.code = bs) {x y : Int32} (hd : decode bs pc = .ok (.ishl, 1))  (hp : pc + 1 = pc') (K : Gl p e below n0 Φ Q (T.setTop (mkF m pc' L (.int (x <<< (y &&& 31)) :: S)))) : Gl p e below n0 Φ Q (T.setTop (mkF m pc L (.int y :: .int x :: S))) := by
  obtain ⟨locs, Y, -, -⟩ := X; subst hp; exact Gl.st (fun t k => XS.ishl Y.here hx rfl (hb hby hd) rfl k) K
theorem g_ishr (X : St p l e R s m args below meth c n0 T h cells slots) (hx : p.tables.exec = Jvm.exec) (hby : c.code = bs) {x y : Int32} (hd : decode bs pc = .ok (.ishr, 1))  (hp : pc + 1 = pc') (K : Gl p e below n0 Φ Q (T.setTop (mkF m pc' L (.int (x >>> (y &&& 31)) :: S)))) : Gl p e below n0 Φ Q (T.setTop (mkF m pc L (.int y :: .int x :: S))) := by
  obtain ⟨locs, Y, -, -⟩ := X; subst hp; exact Gl.st (fun t k => XS.ishr Y.here hx rfl (hb hby hd) rfl k) K
theorem g_iushr (X : St p l e R s m args below meth c n0 T h cells slots) (hx : p.tables.exec = Jvm.exec) (hby : c.code = bs) {x y : Int32} (hd : decode bs pc = .ok (.iushr, 1))  (hp : pc + 1 = pc') (K : Gl p e below n0 Φ Q (T.setTop (mkF m pc' L (.int ((x.toUInt32 >>> (y &&& 31).toUInt32).toInt32) :: S)))) : Gl p e below n0 Φ Q (T.setTop (mkF m pc L (.int y :: .int x :: S))) := by
  obtain ⟨locs, Y, -, -⟩ := X; subst hp; exact Gl.st (fun t k => XS.iushr Y.here hx rfl (hb hby hd) rfl k) K
theorem g_ladd (X : St p l e R s m args below meth c n0 T h cells slots) (hx : p.tables.exec = Jvm.exec) (hby : c.code = bs) {x y : Int64} (hd : decode bs pc = .ok (.ladd, 1))  (hp : pc + 1 = pc') (K : Gl p e below n0 Φ Q (T.setTop (mkF m pc' L (.long (x + y) :: S)))) : Gl p e below n0 Φ Q (T.setTop (mkF m pc L (.long y :: .long x :: S))) := by
  obtain ⟨locs, Y, -, -⟩ := X; subst hp; exact Gl.st (fun t k => XS.ladd Y.here hx rfl (hb hby hd) rfl k) K
theorem g_lsub (X : St p l e R s m args below meth c n0 T h cells slots) (hx : p.tables.exec = Jvm.exec) (hby : c.code = bs) {x y : Int64} (hd : decode bs pc = .ok (.lsub, 1))  (hp : pc + 1 = pc') (K : Gl p e below n0 Φ Q (T.setTop (mkF m pc' L (.long (x - y) :: S)))) : Gl p e below n0 Φ Q (T.setTop (mkF m pc L (.long y :: .long x :: S))) := by
  obtain ⟨locs, Y, -, -⟩ := X; subst hp; exact Gl.st (fun t k => XS.lsub Y.here hx rfl (hb hby hd) rfl k) K
theorem g_lmul (X : St p l e R s m args below meth c n0 T h cells slots) (hx : p.tables.exec = Jvm.exec) (hby : c.code = bs) {x y : Int64} (hd : decode bs pc = .ok (.lmul, 1))  (hp : pc + 1 = pc') (K : Gl p e below n0 Φ Q (T.setTop (mkF m pc' L (.long (x * y) :: S)))) : Gl p e below n0 Φ Q (T.setTop (mkF m pc L (.long y :: .long x :: S))) := by
  obtain ⟨locs, Y, -, -⟩ := X; subst hp; exact Gl.st (fun t k => XS.lmul Y.here hx rfl (hb hby hd) rfl k) K
theorem g_land (X : St p l e R s m args below meth c n0 T h cells slots) (hx : p.tables.exec = Jvm.exec) (hby : c.code = bs) {x y : Int64} (hd : decode bs pc = .ok (.land, 1))  (hp : pc + 1 = pc') (K : Gl p e below n0 Φ Q (T.setTop (mkF m pc' L (.long (x &&& y) :: S)))) : Gl p e below n0 Φ Q (T.setTop (mkF m pc L (.long y :: .long x :: S))) := by
  obtain ⟨locs, Y, -, -⟩ := X; subst hp; exact Gl.st (fun t k => XS.land Y.here hx rfl (hb hby hd) rfl k) K
theorem g_lor (X : St p l e R s m args below meth c n0 T h cells slots) (hx : p.tables.exec = Jvm.exec) (hby : c.code = bs) {x y : Int64} (hd : decode bs pc = .ok (.lor, 1))  (hp : pc + 1 = pc') (K : Gl p e below n0 Φ Q (T.setTop (mkF m pc' L (.long (x ||| y) :: S)))) : Gl p e below n0 Φ Q (T.setTop (mkF m pc L (.long y :: .long x :: S))) := by
  obtain ⟨locs, Y, -, -⟩ := X; subst hp; exact Gl.st (fun t k => XS.lor Y.here hx rfl (hb hby hd) rfl k) K
theorem g_lxor (X : St p l e R s m args below meth c n0 T h cells slots) (hx : p.tables.exec = Jvm.exec) (hby : c.code = bs) {x y : Int64} (hd : decode bs pc = .ok (.lxor, 1))  (hp : pc + 1 = pc') (K : Gl p e below n0 Φ Q (T.setTop (mkF m pc' L (.long (x ^^^ y) :: S)))) : Gl p e below n0 Φ Q (T.setTop (mkF m pc L (.long y :: .long x :: S))) := by
  obtain ⟨locs, Y, -, -⟩ := X; subst hp; exact Gl.st (fun t k => XS.lxor Y.here hx rfl (hb hby hd) rfl k) K
theorem g_lushr (X : St p l e R s m args below meth c n0 T h cells slots) (hx : p.tables.exec = Jvm.exec) (hby : c.code = bs) {x : Int64} {y : Int32} (hd : decode bs pc = .ok (.lushr, 1))  (hp : pc + 1 = pc') (K : Gl p e below n0 Φ Q (T.setTop (mkF m pc' L (.long ((x.toUInt64 >>> (y &&& 0x3f).toInt64.toUInt64).toInt64) :: S)))) : Gl p e below n0 Φ Q (T.setTop (mkF m pc L (.int y :: .long x :: S))) := by
  obtain ⟨locs, Y, -, -⟩ := X; subst hp; exact Gl.st (fun t k => XS.lushr Y.here hx rfl (hb hby hd) rfl k) K
theorem g_irem (X : St p l e R s m args below meth c n0 T h cells slots) (hx : p.tables.exec = Jvm.exec) (hby : c.code = bs) {x y : Int32} (hd : decode bs pc = .ok (.irem, 1)) (hy : y ≠ 0) (hp : pc + 1 = pc') (K : Gl p e below n0 Φ Q (T.setTop (mkF m pc' L (.int (x % y) :: S)))) : Gl p e below n0 Φ Q (T.setTop (mkF m pc L (.int y :: .int x :: S))) := by
  obtain ⟨locs, Y, -, -⟩ := X; subst hp; exact Gl.st (fun t k => iremM Y hx rfl (hb hby hd) rfl hy k) K
theorem g_lrem (X : St p l e R s m args below meth c n0 T h cells slots) (hx : p.tables.exec = Jvm.exec) (hby : c.code = bs) {x y : Int64} (hd : decode bs pc = .ok (.lrem, 1)) (hy : y ≠ 0) (hp : pc + 1 = pc') (K : Gl p e below n0 Φ Q (T.setTop (mkF m pc' L (.long (x - (x / y) * y) :: S)))) : Gl p e below n0 Φ Q (T.setTop (mkF m pc L (.long y :: .long x :: S))) := by
  obtain ⟨locs, Y, -, -⟩ := X; subst hp; exact Gl.st (fun t k => XS.lrem Y.here hx rfl (hb hby hd) rfl hy k) K
theorem g_i2l (X : St p l e R s m args below meth c n0 T h cells slots) (hx : p.tables.exec = Jvm.exec) (hby : c.code = bs) {x : Int32} (hd : decode bs pc = .ok (.i2l, 1))  (hp : pc + 1 = pc') (K : Gl p e below n0 Φ Q (T.setTop (mkF m pc' L (.long (x.toInt64) :: S)))) : Gl p e below n0 Φ Q (T.setTop (mkF m pc L (.int x :: S))) := by
  obtain ⟨locs, Y, -, -⟩ := X; subst hp; exact Gl.st (fun t k => XS.i2l Y.here hx rfl (hb hby hd) rfl k) K
theorem g_l2i (X : St p l e R s m args below meth c n0 T h cells slots) (hx : p.tables.exec = Jvm.exec) (hby : c.code = bs) {x : Int64} (hd : decode bs pc = .ok (.l2i, 1))  (hp : pc + 1 = pc') (K : Gl p e below n0 Φ Q (T.setTop (mkF m pc' L (.int (x.toInt32) :: S)))) : Gl p e below n0 Φ Q (T.setTop (mkF m pc L (.long x :: S))) := by
  obtain ⟨locs, Y, -, -⟩ := X; subst hp; exact Gl.st (fun t k => XS.l2i Y.here hx rfl (hb hby hd) rfl k) K
theorem g_i2b (X : St p l e R s m args below meth c n0 T h cells slots) (hx : p.tables.exec = Jvm.exec) (hby : c.code = bs) {x : Int32} (hd : decode bs pc = .ok (.i2b, 1))  (hp : pc + 1 = pc') (K : Gl p e below n0 Φ Q (T.setTop (mkF m pc' L (.int (x.toInt8.toInt32) :: S)))) : Gl p e below n0 Φ Q (T.setTop (mkF m pc L (.int x :: S))) := by
  obtain ⟨locs, Y, -, -⟩ := X; subst hp; exact Gl.st (fun t k => XS.i2b Y.here hx rfl (hb hby hd) rfl k) K
theorem g_i2c (X : St p l e R s m args below meth c n0 T h cells slots) (hx : p.tables.exec = Jvm.exec) (hby : c.code = bs) {x : Int32} (hd : decode bs pc = .ok (.i2c, 1))  (hp : pc + 1 = pc') (K : Gl p e below n0 Φ Q (T.setTop (mkF m pc' L (.int (x.toUInt32.toUInt16.toUInt32.toInt32) :: S)))) : Gl p e below n0 Φ Q (T.setTop (mkF m pc L (.int x :: S))) := by
  obtain ⟨locs, Y, -, -⟩ := X; subst hp; exact Gl.st (fun t k => XS.i2c Y.here hx rfl (hb hby hd) rfl k) K
theorem g_ineg (X : St p l e R s m args below meth c n0 T h cells slots) (hx : p.tables.exec = Jvm.exec) (hby : c.code = bs) {x : Int32} (hd : decode bs pc = .ok (.ineg, 1))  (hp : pc + 1 = pc') (K : Gl p e below n0 Φ Q (T.setTop (mkF m pc' L (.int (-x) :: S)))) : Gl p e below n0 Φ Q (T.setTop (mkF m pc L (.int x :: S))) := by
  obtain ⟨locs, Y, -, -⟩ := X; subst hp; exact Gl.st (fun t k => XS.ineg Y.here hx rfl (hb hby hd) rfl k) K
theorem g_dload (X : St p l e R s m args below meth c n0 T h cells slots) (hx : p.tables.exec = Jvm.exec) (hby : c.code = bs) {k : Nat} {v : UInt64} (hd : decode bs pc = .ok (.dload k, 2)) (hl : L[k]? = some (.val (.double v))) (hp : pc + 2 = pc') (K : Gl p e below n0 Φ Q (T.setTop (mkF m pc' L (.double v :: S)))) : Gl p e below n0 Φ Q (T.setTop (mkF m pc L S)) := by
  obtain ⟨locs, Y, -, -⟩ := X; subst hp; exact Gl.st (fun t k => XS.dload Y.here hx rfl (hb hby hd) hl k) K
theorem g_dloadN (X : St p l e R s m args below meth c n0 T h cells slots) (hx : p.tables.exec = Jvm.exec) (hby : c.code = bs) {k : Fin 4} {v : UInt64} (hd : decode bs pc = .ok (.dload_n k, 1)) (hl : L[k.val]? = some (.val (.double v))) (hp : pc + 1 = pc') (K : Gl p e below n0 Φ Q (T.setTop (mkF m pc' L (.double v :: S)))) : Gl p e below n0 Φ Q (T.setTop (mkF m pc L S)) := by
  obtain ⟨locs, Y, -, -⟩ := X; subst hp; exact Gl.st (fun t k => XS.dloadN Y.here hx rfl (hb hby hd) hl k) K
theorem g_dstore (X : St p l e R s m args below meth c n0 T h cells slots) (hx : p.tables.exec = Jvm.exec) (hby : c.code = bs) {k : Nat} {v : UInt64} (hd : decode bs pc = .ok (.dstore k, 2)) (hl : storeLocals L k (.double v) = some L') (hp : pc + 2 = pc') (K : Gl p e below n0 Φ Q (T.setTop (mkF m pc' L' S))) : Gl p e below n0 Φ Q (T.setTop (mkF m pc L (.double v :: S))) := by
  obtain ⟨locs, Y, -, -⟩ := X; subst hp; exact Gl.st (fun t k => XS.dstore Y.here hx rfl (hb hby hd) rfl hl k) K
theorem g_dstoreN (X : St p l e R s m args below meth c n0 T h cells slots) (hx : p.tables.exec = Jvm.exec) (hby : c.code = bs) {k : Fin 4} {v : UInt64} (hd : decode bs pc = .ok (.dstore_n k, 1)) (hl : storeLocals L k.val (.double v) = some L') (hp : pc + 1 = pc') (K : Gl p e below n0 Φ Q (T.setTop (mkF m pc' L' S))) : Gl p e below n0 Φ Q (T.setTop (mkF m pc L (.double v :: S))) := by
  obtain ⟨locs, Y, -, -⟩ := X; subst hp; exact Gl.st (fun t k => XS.dstoreN Y.here hx rfl (hb hby hd) rfl hl k) K
theorem g_i2d (X : St p l e R s m args below meth c n0 T h cells slots) (hx : p.tables.exec = Jvm.exec) (hby : c.code = bs) {x : Int32} (hd : decode bs pc = .ok (.i2d, 1))  (hp : pc + 1 = pc') (K : Gl p e below n0 Φ Q (T.setTop (mkF m pc' L (.double (FP.i2d x) :: S)))) : Gl p e below n0 Φ Q (T.setTop (mkF m pc L (.int x :: S))) := by
  obtain ⟨locs, Y, -, -⟩ := X; subst hp; exact Gl.st (fun t k => XS.i2dS Y.here hx rfl (hb hby hd) rfl rfl k) K
theorem g_dconst0 (X : St p l e R s m args below meth c n0 T h cells slots) (hx : p.tables.exec = Jvm.exec) (hby : c.code = bs) (hd : decode bs pc = .ok (.dconst 0, 1)) (hp : pc + 1 = pc') (K : Gl p e below n0 Φ Q (T.setTop (mkF m pc' L (.double FP.dconst0 :: S)))) : Gl p e below n0 Φ Q (T.setTop (mkF m pc L S)) := by
  obtain ⟨locs, Y, -, -⟩ := X; subst hp; exact Gl.st (fun t k => XS.dconst0 Y.here hx rfl (hb hby hd) rfl k) K
theorem g_dconst1 (X : St p l e R s m args below meth c n0 T h cells slots) (hx : p.tables.exec = Jvm.exec) (hby : c.code = bs) (hd : decode bs pc = .ok (.dconst 1, 1)) (hp : pc + 1 = pc') (K : Gl p e below n0 Φ Q (T.setTop (mkF m pc' L (.double FP.dconst1 :: S)))) : Gl p e below n0 Φ Q (T.setTop (mkF m pc L S)) := by
  obtain ⟨locs, Y, -, -⟩ := X; subst hp; exact Gl.st (fun t k => XS.dconst1 Y.here hx rfl (hb hby hd) rfl k) K
theorem g_ddiv (X : St p l e R s m args below meth c n0 T h cells slots) (hx : p.tables.exec = Jvm.exec) (hby : c.code = bs) {x y : UInt64} (hd : decode bs pc = .ok (.ddiv, 1)) (hn : Jvm.Free.Fl.NoNaN64 (FP.ddiv x y)) (hp : pc + 1 = pc') (K : Gl p e below n0 Φ Q (T.setTop (mkF m pc' L (.double (FP.ddiv x y) :: S)))) : Gl p e below n0 Φ Q (T.setTop (mkF m pc L (.double y :: .double x :: S))) := by
  obtain ⟨locs, Y, -, -⟩ := X; subst hp; exact Gl.st (fun t k => XS.ddivS Y.here hx rfl (hb hby hd) rfl hn rfl k) K
theorem g_dcmp (X : St p l e R s m args below meth c n0 T h cells slots) (hx : p.tables.exec = Jvm.exec) (hby : c.code = bs) {x y : UInt64} {o : CmpOp} {v : Int32} (hd : decode bs pc = .ok (.dcmp o, 1)) (hv : cmpValue (FP.dcmp x y) o = v) (hp : pc + 1 = pc') (K : Gl p e below n0 Φ Q (T.setTop (mkF m pc' L (.int v :: S)))) : Gl p e below n0 Φ Q (T.setTop (mkF m pc L (.double y :: .double x :: S))) := by
  obtain ⟨locs, Y, -, -⟩ := X; subst hp; exact Gl.st (fun t k => XS.dcmpS Y.here hx rfl (hb hby hd) rfl hv k) K
theorem g_dup (X : St p l e R s m args below meth c n0 T h cells slots) (hx : p.tables.exec = Jvm.exec) (hby : c.code = bs) {v : Value} (hd : decode bs pc = .ok (.dup, 1)) (hc : v.category = 1) (hp : pc + 1 = pc') (K : Gl p e below n0 Φ Q (T.setTop (mkF m pc' L (v :: v :: S)))) : Gl p e below n0 Φ Q (T.setTop (mkF m pc L (v :: S))) := by
  obtain ⟨locs, Y, -, -⟩ := X; subst hp; exact Gl.st (fun t k => XS.dup Y.here hx rfl (hb hby hd) rfl hc k) K
theorem g_pop (X : St p l e R s m args below meth c n0 T h cells slots) (hx : p.tables.exec = Jvm.exec) (hby : c.code = bs) {v : Value} (hd : decode bs pc = .ok (.pop, 1)) (hc : v.category = 1) (hp : pc + 1 = pc') (K : Gl p e below n0 Φ Q (T.setTop (mkF m pc' L S))) : Gl p e below n0 Φ Q (T.setTop (mkF m pc L (v :: S))) := by
  obtain ⟨locs, Y, -, -⟩ := X; subst hp; exact Gl.st (fun t k => XS.pop Y.here hx rfl (hb hby hd) rfl hc k) K
theorem g_dup2 (X : St p l e R s m args below meth c n0 T h cells slots) (hx : p.tables.exec = Jvm.exec) (hby : c.code = bs) {v w : Value} (hd : decode bs pc = .ok (.dup2, 1)) (hc : v.category = 1) (hc' : w.category = 1) (hp : pc + 1 = pc') (K : Gl p e below n0 Φ Q (T.setTop (mkF m pc' L (v :: w :: v :: w :: S)))) : Gl p e below n0 Φ Q (T.setTop (mkF m pc L (v :: w :: S))) := by
  obtain ⟨locs, Y, -, -⟩ := X; subst hp; exact Gl.st (fun t k => XT.dup2 Y.here hx rfl (hb hby hd) rfl hc hc' k) K
theorem g_iinc (X : St p l e R s m args below meth c n0 T h cells slots) (hx : p.tables.exec = Jvm.exec) (hby : c.code = bs) {k : Nat} {i : Int} {x y : Int32} (hd : decode bs pc = .ok (.iinc k i, 3)) (hl : L[k]? = some (.val (.int x))) (hy : Int32.ofInt i = y) (hl' : storeLocals L k (.int (x + y)) = some L') (hp : pc + 3 = pc') (K : Gl p e below n0 Φ Q (T.setTop (mkF m pc' L' S))) : Gl p e below n0 Φ Q (T.setTop (mkF m pc L S)) := by
  obtain ⟨locs, Y, -, -⟩ := X; subst hp hy; exact Gl.st (fun t k => XS.iinc Y.here hx rfl (hb hby hd) hl hl' k) K
theorem g_goto (X : St p l e R s m args below meth c n0 T h cells slots) (hx : p.tables.exec = Jvm.exec) (hby : c.code = bs) {o : Int} (hd : decode bs pc = .ok (.goto o, 3)) (ho : 0 ≤ (pc : Int) + o) (hp : ((pc : Int) + o).toNat = pc') (K : Gl p e below n0 Φ Q (T.setTop (mkF m pc' L S))) : Gl p e below n0 Φ Q (T.setTop (mkF m pc L S)) := by
  obtain ⟨locs, Y, -, -⟩ := X; exact Gl.st (fun t k => XS.goto Y.here hx rfl (pc0 := pc) rfl (hb hby hd) ho hp k) K
theorem g_icmp (X : St p l e R s m args below meth c n0 T h cells slots) (hx : p.tables.exec = Jvm.exec) (hby : c.code = bs) {cd : ClassFile.Cond} {o : Int} {x y : Int32} {pc2 : Nat} (hd : decode bs pc = .ok (.if_icmp cd o, 3)) (ho : 0 ≤ (pc : Int) + o) (hp : ((pc : Int) + o).toNat = pc') (hq : pc + 3 = pc2) (K1 : if_icmp.holds cd x y = true → Gl p e below n0 Φ Q (T.setTop (mkF m pc' L S))) (K2 : if_icmp.holds cd x y = false → Gl p e below n0 Φ Q (T.setTop (mkF m pc2 L S))) : Gl p e below n0 Φ Q (T.setTop (mkF m pc L (.int y :: .int x :: S))) := by
  obtain ⟨locs, Y, -, -⟩ := X; subst hq
  cases hc : if_icmp.holds cd x y with
  | true => exact Gl.st (fun t k => XS.icmpYes Y.here hx rfl (pc0 := pc) rfl (hb hby hd) rfl hc ho hp k) (K1 hc)
  | false => exact Gl.st (fun t k => XS.icmpNo Y.here hx rfl (hb hby hd) rfl hc k) (K2 hc)
theorem g_if (X : St p l e R s m args below meth c n0 T h cells slots) (hx : p.tables.exec = Jvm.exec) (hby : c.code = bs) {cd : ClassFile.Cond} {o : Int} {x : Int32} {pc2 : Nat} (hd : decode bs pc = .ok (.ifCond cd o, 3)) (ho : 0 ≤ (pc : Int) + o) (hp : ((pc : Int) + o).toNat = pc') (hq : pc + 3 = pc2) (K1 : if_icmp.holds cd x 0 = true → Gl p e below n0 Φ Q (T.setTop (mkF m pc' L S))) (K2 : if_icmp.holds cd x 0 = false → Gl p e below n0 Φ Q (T.setTop (mkF m pc2 L S))) : Gl p e below n0 Φ Q (T.setTop (mkF m pc L (.int x :: S))) := by
  obtain ⟨locs, Y, -, -⟩ := X; subst hq
  cases hc : if_icmp.holds cd x 0 with
  | true => exact Gl.st (fun t k => XS.ifYes Y.here hx rfl (pc0 := pc) rfl (hb hby hd) rfl ((if0 _ _).trans hc) ho hp k) (K1 hc)
  | false => exact Gl.st (fun t k => XS.ifNo Y.here hx rfl (hb hby hd) rfl ((if0 _ _).trans hc) k) (K2 hc)
theorem g_icmp_eq (X : St p l e R s m args below meth c n0 T h cells slots) (hx : p.tables.exec = Jvm.exec) (hby : c.code = bs) {o : Int} {x y : Int32} {pc2 : Nat} (hd : decode bs pc = .ok (.if_icmp .eq o, 3)) (ho : 0 ≤ (pc : Int) + o) (hp : ((pc : Int) + o).toNat = pc') (hq : pc + 3 = pc2) (K1 : x = y → Gl p e below n0 Φ Q (T.setTop (mkF m pc' L S))) (K2 : ¬ (x = y) → Gl p e below n0 Φ Q (T.setTop (mkF m pc2 L S))) : Gl p e below n0 Φ Q (T.setTop (mkF m pc L (.int y :: .int x :: S))) :=
  g_icmp X hx hby hd ho hp hq (fun q => K1 (by simpa [if_icmp.holds] using q)) (fun q => K2 (by simpa [if_icmp.holds] using q))
theorem g_if_eq (X : St p l e R s m args below meth c n0 T h cells slots) (hx : p.tables.exec = Jvm.exec) (hby : c.code = bs) {o : Int} {x : Int32} {pc2 : Nat} (hd : decode bs pc = .ok (.ifCond .eq o, 3)) (ho : 0 ≤ (pc : Int) + o) (hp : ((pc : Int) + o).toNat = pc') (hq : pc + 3 = pc2) (K1 : x = 0 → Gl p e below n0 Φ Q (T.setTop (mkF m pc' L S))) (K2 : ¬ (x = 0) → Gl p e below n0 Φ Q (T.setTop (mkF m pc2 L S))) : Gl p e below n0 Φ Q (T.setTop (mkF m pc L (.int x :: S))) :=
  g_if X hx hby hd ho hp hq (fun q => K1 (by simpa [if_icmp.holds] using q)) (fun q => K2 (by simpa [if_icmp.holds] using q))
theorem g_lcmp_eq (X : St p l e R s m args below meth c n0 T h cells slots) (hx : p.tables.exec = Jvm.exec) (hby : c.code = bs) {o : Int} {x y : Int64} {pc1 pc2 : Nat} (hd1 : decode bs pc = .ok (.lcmp, 1)) (hp1 : pc + 1 = pc1) (hd : decode bs pc1 = .ok (.ifCond .eq o, 3)) (ho : 0 ≤ (pc1 : Int) + o) (hp : ((pc1 : Int) + o).toNat = pc') (hq : pc1 + 3 = pc2) (K1 : x = y → Gl p e below n0 Φ Q (T.setTop (mkF m pc' L S))) (K2 : ¬ (x = y) → Gl p e below n0 Φ Q (T.setTop (mkF m pc2 L S))) : Gl p e below n0 Φ Q (T.setTop (mkF m pc L (.long y :: .long x :: S))) := by
  obtain ⟨locs, Y, b1, b2⟩ := X; subst hp1
  refine Gl.st (V := T.setTop (mkF m (pc + 1) L (.int (lcmpW x y) :: S))) (fun t k => XS.lcmp Y.here hx rfl (hb hby hd1) rfl k) ?_
  exact g_if_eq ⟨locs, Y, b1, b2⟩ hx hby hd ho hp hq (fun q => K1 (by simpa [lw_lt, lw_gt, lw_eq] using q)) (fun q => K2 (by simpa [lw_lt, lw_gt, lw_eq] using q))
theorem g_icmp_ne (X : St p l e R s m args below meth c n0 T h cells slots) (hx : p.tables.exec = Jvm.exec) (hby : c.code = bs) {o : Int} {x y : Int32} {pc2 : Nat} (hd : decode bs pc = .ok (.if_icmp .ne o, 3)) (ho : 0 ≤ (pc : Int) + o) (hp : ((pc : Int) + o).toNat = pc') (hq : pc + 3 = pc2) (K1 : ¬ (x = y) → Gl p e below n0 Φ Q (T.setTop (mkF m pc' L S))) (K2 : x = y → Gl p e below n0 Φ Q (T.setTop (mkF m pc2 L S))) : Gl p e below n0 Φ Q (T.setTop (mkF m pc L (.int y :: .int x :: S))) :=
  g_icmp X hx hby hd ho hp hq (fun q => K1 (by simpa [if_icmp.holds] using q)) (fun q => K2 (by simpa [if_icmp.holds] using q))
theorem g_if_ne (X : St p l e R s m args below meth c n0 T h cells slots) (hx : p.tables.exec = Jvm.exec) (hby : c.code = bs) {o : Int} {x : Int32} {pc2 : Nat} (hd : decode bs pc = .ok (.ifCond .ne o, 3)) (ho : 0 ≤ (pc : Int) + o) (hp : ((pc : Int) + o).toNat = pc') (hq : pc + 3 = pc2) (K1 : ¬ (x = 0) → Gl p e below n0 Φ Q (T.setTop (mkF m pc' L S))) (K2 : x = 0 → Gl p e below n0 Φ Q (T.setTop (mkF m pc2 L S))) : Gl p e below n0 Φ Q (T.setTop (mkF m pc L (.int x :: S))) :=
  g_if X hx hby hd ho hp hq (fun q => K1 (by simpa [if_icmp.holds] using q)) (fun q => K2 (by simpa [if_icmp.holds] using q))
theorem g_lcmp_ne (X : St p l e R s m args below meth c n0 T h cells slots) (hx : p.tables.exec = Jvm.exec) (hby : c.code = bs) {o : Int} {x y : Int64} {pc1 pc2 : Nat} (hd1 : decode bs pc = .ok (.lcmp, 1)) (hp1 : pc + 1 = pc1) (hd : decode bs pc1 = .ok (.ifCond .ne o, 3)) (ho : 0 ≤ (pc1 : Int) + o) (hp : ((pc1 : Int) + o).toNat = pc') (hq : pc1 + 3 = pc2) (K1 : ¬ (x = y) → Gl p e below n0 Φ Q (T.setTop (mkF m pc' L S))) (K2 : x = y → Gl p e below n0 Φ Q (T.setTop (mkF m pc2 L S))) : Gl p e below n0 Φ Q (T.setTop (mkF m pc L (.long y :: .long x :: S))) := by
  obtain ⟨locs, Y, b1, b2⟩ := X; subst hp1
  refine Gl.st (V := T.setTop (mkF m (pc + 1) L (.int (lcmpW x y) :: S))) (fun t k => XS.lcmp Y.here hx rfl (hb hby hd1) rfl k) ?_
  exact g_if_ne ⟨locs, Y, b1, b2⟩ hx hby hd ho hp hq (fun q => K1 (by simpa [lw_lt, lw_gt, lw_eq] using q)) (fun q => K2 (by simpa [lw_lt, lw_gt, lw_eq] using q))
theorem g_icmp_lt (X : St p l e R s m args below meth c n0 T h cells slots) (hx : p.tables.exec = Jvm.exec) (hby : c.code = bs) {o : Int} {x y : Int32} {pc2 : Nat} (hd : decode bs pc = .ok (.if_icmp .lt o, 3)) (ho : 0 ≤ (pc : Int) + o) (hp : ((pc : Int) + o).toNat = pc') (hq : pc + 3 = pc2) (K1 : x < y → Gl p e below n0 Φ Q (T.setTop (mkF m pc' L S))) (K2 : ¬ (x < y) → Gl p e below n0 Φ Q (T.setTop (mkF m pc2 L S))) : Gl p e below n0 Φ Q (T.setTop (mkF m pc L (.int y :: .int x :: S))) :=
  g_icmp X hx hby hd ho hp hq (fun q => K1 (by simpa [if_icmp.holds] using q)) (fun q => K2 (by simpa [if_icmp.holds] using q))
theorem g_if_lt (X : St p l e R s m args below meth c n0 T h cells slots) (hx : p.tables.exec = Jvm.exec) (hby : c.code = bs) {o : Int} {x : Int32} {pc2 : Nat} (hd : decode bs pc = .ok (.ifCond .lt o, 3)) (ho : 0 ≤ (pc : Int) + o) (hp : ((pc : Int) + o).toNat = pc') (hq : pc + 3 = pc2) (K1 : x < 0 → Gl p e below n0 Φ Q (T.setTop (mkF m pc' L S))) (K2 : ¬ (x < 0) → Gl p e below n0 Φ Q (T.setTop (mkF m pc2 L S))) : Gl p e below n0 Φ Q (T.setTop (mkF m pc L (.int x :: S))) :=
  g_if X hx hby hd ho hp hq (fun q => K1 (by simpa [if_icmp.holds] using q)) (fun q => K2 (by simpa [if_icmp.holds] using q))
theorem g_lcmp_lt (X : St p l e R s m args below meth c n0 T h cells slots) (hx : p.tables.exec = Jvm.exec) (hby : c.code = bs) {o : Int} {x y : Int64} {pc1 pc2 : Nat} (hd1 : decode bs pc = .ok (.lcmp, 1)) (hp1 : pc + 1 = pc1) (hd : decode bs pc1 = .ok (.ifCond .lt o, 3)) (ho : 0 ≤ (pc1 : Int) + o) (hp : ((pc1 : Int) + o).toNat = pc') (hq : pc1 + 3 = pc2) (K1 : x < y → Gl p e below n0 Φ Q (T.setTop (mkF m pc' L S))) (K2 : ¬ (x < y) → Gl p e below n0 Φ Q (T.setTop (mkF m pc2 L S))) : Gl p e below n0 Φ Q (T.setTop (mkF m pc L (.long y :: .long x :: S))) := by
  obtain ⟨locs, Y, b1, b2⟩ := X; subst hp1
  refine Gl.st (V := T.setTop (mkF m (pc + 1) L (.int (lcmpW x y) :: S))) (fun t k => XS.lcmp Y.here hx rfl (hb hby hd1) rfl k) ?_
  exact g_if_lt ⟨locs, Y, b1, b2⟩ hx hby hd ho hp hq (fun q => K1 (by simpa [lw_lt, lw_gt, lw_eq] using q)) (fun q => K2 (by simpa [lw_lt, lw_gt, lw_eq] using q))
theorem g_icmp_ge (X : St p l e R s m args below meth c n0 T h cells slots) (hx : p.tables.exec = Jvm.exec) (hby : c.code = bs) {o : Int} {x y : Int32} {pc2 : Nat} (hd : decode bs pc = .ok (.if_icmp .ge o, 3)) (ho : 0 ≤ (pc : Int) + o) (hp : ((pc : Int) + o).toNat = pc') (hq : pc + 3 = pc2) (K1 : ¬ (x < y) → Gl p e below n0 Φ Q (T.setTop (mkF m pc' L S))) (K2 : x < y → Gl p e below n0 Φ Q (T.setTop (mkF m pc2 L S))) : Gl p e below n0 Φ Q (T.setTop (mkF m pc L (.int y :: .int x :: S))) :=
  g_icmp X hx hby hd ho hp hq (fun q => K1 (by simpa [if_icmp.holds] using q)) (fun q => K2 (by simpa [if_icmp.holds] using q))
theorem g_if_ge (X : St p l e R s m args below meth c n0 T h cells slots) (hx : p.tables.exec = Jvm.exec) (hby : c.code = bs) {o : Int} {x : Int32} {pc2 : Nat} (hd : decode bs pc = .ok (.ifCond .ge o, 3)) (ho : 0 ≤ (pc : Int) + o) (hp : ((pc : Int) + o).toNat = pc') (hq : pc + 3 = pc2) (K1 : ¬ (x < 0) → Gl p e below n0 Φ Q (T.setTop (mkF m pc' L S))) (K2 : x < 0 → Gl p e below n0 Φ Q (T.setTop (mkF m pc2 L S))) : Gl p e below n0 Φ Q (T.setTop (mkF m pc L (.int x :: S))) :=
  g_if X hx hby hd ho hp hq (fun q => K1 (by simpa [if_icmp.holds] using q)) (fun q => K2 (by simpa [if_icmp.holds] using q))
theorem g_lcmp_ge (X : St p l e R s m args below meth c n0 T h cells slots) (hx : p.tables.exec = Jvm.exec) (hby : c.code = bs) {o : Int} {x y : Int64} {pc1 pc2 : Nat} (hd1 : decode bs pc = .ok (.lcmp, 1)) (hp1 : pc + 1 = pc1) (hd : decode bs pc1 = .ok (.ifCond .ge o, 3)) (ho : 0 ≤ (pc1 : Int) + o) (hp : ((pc1 : Int) + o).toNat = pc') (hq : pc1 + 3 = pc2) (K1 : ¬ (x < y) → Gl p e below n0 Φ Q (T.setTop (mkF m pc' L S))) (K2 : x < y → Gl p e below n0 Φ Q (T.setTop (mkF m pc2 L S))) : Gl p e below n0 Φ Q (T.setTop (mkF m pc L (.long y :: .long x :: S))) := by
  obtain ⟨locs, Y, b1, b2⟩ := X; subst hp1
  refine Gl.st (V := T.setTop (mkF m (pc + 1) L (.int (lcmpW x y) :: S))) (fun t k => XS.lcmp Y.here hx rfl (hb hby hd1) rfl k) ?_
  exact g_if_ge ⟨locs, Y, b1, b2⟩ hx hby hd ho hp hq (fun q => K1 (by simpa [lw_lt, lw_gt, lw_eq] using q)) (fun q => K2 (by simpa [lw_lt, lw_gt, lw_eq] using q))
theorem g_icmp_gt (X : St p l e R s m args below meth c n0 T h cells slots) (hx : p.tables.exec = Jvm.exec) (hby : c.code = bs) {o : Int} {x y : Int32} {pc2 : Nat} (hd : decode bs pc = .ok (.if_icmp .gt o, 3)) (ho : 0 ≤ (pc : Int) + o) (hp : ((pc : Int) + o).toNat = pc') (hq : pc + 3 = pc2) (K1 : y < x → Gl p e below n0 Φ Q (T.setTop (mkF m pc' L S))) (K2 : ¬ (y < x) → Gl p e below n0 Φ Q (T.setTop (mkF m pc2 L S))) : Gl p e below n0 Φ Q (T.setTop (mkF m pc L (.int y :: .int x :: S))) :=
  g_icmp X hx hby hd ho hp hq (fun q => K1 (by simpa [if_icmp.holds] using q)) (fun q => K2 (by simpa [if_icmp.holds] using q))
theorem g_if_gt (X : St p l e R s m args below meth c n0 T h cells slots) (hx : p.tables.exec = Jvm.exec) (hby : c.code = bs) {o : Int} {x : Int32} {pc2 : Nat} (hd : decode bs pc = .ok (.ifCond .gt o, 3)) (ho : 0 ≤ (pc : Int) + o) (hp : ((pc : Int) + o).toNat = pc') (hq : pc + 3 = pc2) (K1 : 0 < x → Gl p e below n0 Φ Q (T.setTop (mkF m pc' L S))) (K2 : ¬ (0 < x) → Gl p e below n0 Φ Q (T.setTop (mkF m pc2 L S))) : Gl p e below n0 Φ Q (T.setTop (mkF m pc L (.int x :: S))) :=
  g_if X hx hby hd ho hp hq (fun q => K1 (by simpa [if_icmp.holds] using q)) (fun q => K2 (by simpa [if_icmp.holds] using q))
theorem g_lcmp_gt (X : St p l e R s m args below meth c n0 T h cells slots) (hx : p.tables.exec = Jvm.exec) (hby : c.code = bs) {o : Int} {x y : Int64} {pc1 pc2 : Nat} (hd1 : decode bs pc = .ok (.lcmp, 1)) (hp1 : pc + 1 = pc1) (hd : decode bs pc1 = .ok (.ifCond .gt o, 3)) (ho : 0 ≤ (pc1 : Int) + o) (hp : ((pc1 : Int) + o).toNat = pc') (hq : pc1 + 3 = pc2) (K1 : y < x → Gl p e below n0 Φ Q (T.setTop (mkF m pc' L S))) (K2 : ¬ (y < x) → Gl p e below n0 Φ Q (T.setTop (mkF m pc2 L S))) : Gl p e below n0 Φ Q (T.setTop (mkF m pc L (.long y :: .long x :: S))) := by
  obtain ⟨locs, Y, b1, b2⟩ := X; subst hp1
  refine Gl.st (V := T.setTop (mkF m (pc + 1) L (.int (lcmpW x y) :: S))) (fun t k => XS.lcmp Y.here hx rfl (hb hby hd1) rfl k) ?_
  exact g_if_gt ⟨locs, Y, b1, b2⟩ hx hby hd ho hp hq (fun q => K1 (by simpa [lw_lt, lw_gt, lw_eq] using q)) (fun q => K2 (by simpa [lw_lt, lw_gt, lw_eq] using q))
theorem g_icmp_le (X : St p l e R s m args below meth c n0 T h cells slots) (hx : p.tables.exec = Jvm.exec) (hby : c.code = bs) {o : Int} {x y : Int32} {pc2 : Nat} (hd : decode bs pc = .ok (.if_icmp .le o, 3)) (ho : 0 ≤ (pc : Int) + o) (hp : ((pc : Int) + o).toNat = pc') (hq : pc + 3 = pc2) (K1 : ¬ (y < x) → Gl p e below n0 Φ Q (T.setTop (mkF m pc' L S))) (K2 : y < x → Gl p e below n0 Φ Q (T.setTop (mkF m pc2 L S))) : Gl p e below n0 Φ Q (T.setTop (mkF m pc L (.int y :: .int x :: S))) :=
  g_icmp X hx hby hd ho hp hq (fun q => K1 (by simpa [if_icmp.holds] using q)) (fun q => K2 (by simpa [if_icmp.holds] using q))
theorem g_if_le (X : St p l e R s m args below meth c n0 T h cells slots) (hx : p.tables.exec = Jvm.exec) (hby : c.code = bs) {o : Int} {x : Int32} {pc2 : Nat} (hd : decode bs pc = .ok (.ifCond .le o, 3)) (ho : 0 ≤ (pc : Int) + o) (hp : ((pc : Int) + o).toNat = pc') (hq : pc + 3 = pc2) (K1 : ¬ (0 < x) → Gl p e below n0 Φ Q (T.setTop (mkF m pc' L S))) (K2 : 0 < x → Gl p e below n0 Φ Q (T.setTop (mkF m pc2 L S))) : Gl p e below n0 Φ Q (T.setTop (mkF m pc L (.int x :: S))) :=
  g_if X hx hby hd ho hp hq (fun q => K1 (by simpa [if_icmp.holds] using q)) (fun q => K2 (by simpa [if_icmp.holds] using q))
theorem g_lcmp_le (X : St p l e R s m args below meth c n0 T h cells slots) (hx : p.tables.exec = Jvm.exec) (hby : c.code = bs) {o : Int} {x y : Int64} {pc1 pc2 : Nat} (hd1 : decode bs pc = .ok (.lcmp, 1)) (hp1 : pc + 1 = pc1) (hd : decode bs pc1 = .ok (.ifCond .le o, 3)) (ho : 0 ≤ (pc1 : Int) + o) (hp : ((pc1 : Int) + o).toNat = pc') (hq : pc1 + 3 = pc2) (K1 : ¬ (y < x) → Gl p e below n0 Φ Q (T.setTop (mkF m pc' L S))) (K2 : y < x → Gl p e below n0 Φ Q (T.setTop (mkF m pc2 L S))) : Gl p e below n0 Φ Q (T.setTop (mkF m pc L (.long y :: .long x :: S))) := by
  obtain ⟨locs, Y, b1, b2⟩ := X; subst hp1
  refine Gl.st (V := T.setTop (mkF m (pc + 1) L (.int (lcmpW x y) :: S))) (fun t k => XS.lcmp Y.here hx rfl (hb hby hd1) rfl k) ?_
  exact g_if_le ⟨locs, Y, b1, b2⟩ hx hby hd ho hp hq (fun q => K1 (by simpa [lw_lt, lw_gt, lw_eq] using q)) (fun q => K2 (by simpa [lw_lt, lw_gt, lw_eq] using q))
theorem g_ifnull_y (X : St p l e R s m args below meth c n0 T h cells slots) (hx : p.tables.exec = Jvm.exec) (hby : c.code = bs) {o : Int} (hd : decode bs pc = .ok (.ifnull o, 3)) (ho : 0 ≤ (pc : Int) + o) (hp : ((pc : Int) + o).toNat = pc') (K : Gl p e below n0 Φ Q (T.setTop (mkF m pc' L S))) : Gl p e below n0 Φ Q (T.setTop (mkF m pc L (.null :: S))) := by
  obtain ⟨locs, Y, -, -⟩ := X; exact Gl.st (fun t k => XS.ifnullYes Y.here hx rfl (pc0 := pc) rfl (hb hby hd) rfl ho hp k) K
theorem g_ifnull_n (X : St p l e R s m args below meth c n0 T h cells slots) (hx : p.tables.exec = Jvm.exec) (hby : c.code = bs) {o : Int} {a : Addr} (hd : decode bs pc = .ok (.ifnull o, 3)) (hp : pc + 3 = pc') (K : Gl p e below n0 Φ Q (T.setTop (mkF m pc' L S))) : Gl p e below n0 Φ Q (T.setTop (mkF m pc L ((.ref a) :: S))) := by
  obtain ⟨locs, Y, -, -⟩ := X; subst hp; exact Gl.st (fun t k => XS.ifnullNo Y.here hx rfl (hb hby hd) rfl k) K
theorem g_ifnonnull_y (X : St p l e R s m args below meth c n0 T h cells slots) (hx : p.tables.exec = Jvm.exec) (hby : c.code = bs) {o : Int} {a : Addr} (hd : decode bs pc = .ok (.ifnonnull o, 3)) (ho : 0 ≤ (pc : Int) + o) (hp : ((pc : Int) + o).toNat = pc') (K : Gl p e below n0 Φ Q (T.setTop (mkF m pc' L S))) : Gl p e below n0 Φ Q (T.setTop (mkF m pc L ((.ref a) :: S))) := by
  obtain ⟨locs, Y, -, -⟩ := X; exact Gl.st (fun t k => XS.ifnonnullYes Y.here hx rfl (pc0 := pc) rfl (hb hby hd) rfl ho hp k) K
theorem g_ifnonnull_n (X : St p l e R s m args below meth c n0 T h cells slots) (hx : p.tables.exec = Jvm.exec) (hby : c.code = bs) {o : Int} (hd : decode bs pc = .ok (.ifnonnull o, 3)) (hp : pc + 3 = pc') (K : Gl p e below n0 Φ Q (T.setTop (mkF m pc' L S))) : Gl p e below n0 Φ Q (T.setTop (mkF m pc L (.null :: S))) := by
  obtain ⟨locs, Y, -, -⟩ := X; subst hp; exact Gl.st (fun t k => XS.ifnonnullNo Y.here hx rfl (hb hby hd) rfl k) K
theorem g_acmp_y (X : St p l e R s m args below meth c n0 T h cells slots) (hx : p.tables.exec = Jvm.exec) (hby : c.code = bs) {cd : ACond} {o : Int} {x y : Value} {same : Bool} (hd : decode bs pc = .ok (.if_acmp cd o, 3)) (h1 : x.isRef = true) (h2 : y.isRef = true) (hq : decide (x = y) = same) (ho : 0 ≤ (pc : Int) + o) (hp : pc' = if acV cd same = true then ((pc : Int) + o).toNat else pc + 3) (K : Gl p e below n0 Φ Q (T.setTop (mkF m pc' L S))) : Gl p e below n0 Φ Q (T.setTop (mkF m pc L (y :: x :: S))) := by
  obtain ⟨locs, Y, -, -⟩ := X; exact Gl.st (fun t k => Jvm.RoadKit.acmp Y hx rfl h1 h2 (pc0 := pc) rfl (hb hby hd) rfl hq ho hp k) K
theorem g_retN (X : St p l e R s m args below meth c n0 T h cells slots) (hx : p.tables.exec = Jvm.exec) (hby : c.code = bs) {t : FieldType} {z : Int32} (hret : meth.sig.returnType = some t) (hlk : meth.locks = false) (ht : t = .boolean ∨ t = .byte ∨ t = .char ∨ t = .short) (hd : decode bs pc = .ok (.ireturn, 1)) (hq : Q (some (.int (nar t z))) h) (hc : cells ≤ cs) (hs : slots ≤ sl) : Gl p e below n0 (Fn s cs sl) Q (T.setTop (mkF m pc L (.int z :: S))) := by
  obtain ⟨locs, Y, eT, N⟩ := X
  obtain ⟨fs, hr, hrun, hended, hW, hsame⟩ := Y.leave (v := some (.int (nar t z))) (fun q => by rw [hret] at q; cases q) hlk
  exact ⟨_, _, retN Y hx hret ht (hb hby hd) hr, hrun, hended, _, locs, rfl, ⟨(show Q _ T.heap by rw [eT]; exact hq), N⟩, ⟨_, rfl⟩, hW, hsame.mono hc hs⟩
theorem g_retV (X : St p l e R s m args below meth c n0 T h cells slots) (hx : p.tables.exec = Jvm.exec) (hby : c.code = bs) {t : FieldType} {w : Value} {i : Instr} (hret : meth.sig.returnType = some t) (hlk : meth.locks = false) (hn : narrow t w = w) (hi : (i = .ireturn ∧ (t = .int ∨ t = .boolean ∨ t = .byte ∨ t = .char ∨ t = .short) ∧ ∃ z, w = .int z) ∨ (i = .lreturn ∧ t = .long ∧ ∃ z, w = .long z) ∨ (i = .dreturn ∧ t = .double ∧ ∃ z, w = .double z) ∨ (i = .freturn ∧ t = .float ∧ ∃ z, w = .float z) ∨ (i = .areturn ∧ t.isReference = true ∧ w.isRef = true)) (hd : decode bs pc = .ok (i, 1)) (hq : Q (some w) h) (hc : cells ≤ cs) (hs : slots ≤ sl) : Gl p e below n0 (Fn s cs sl) Q (T.setTop (mkF m pc L (w :: S))) := by
  obtain ⟨locs, Y, eT, N⟩ := X
  obtain ⟨fs, hr, hrun, hended, hW, hsame⟩ := Y.leave (v := some w) (fun q => by rw [hret] at q; cases q) hlk
  exact ⟨_, _, retOut Y hx hret hn hi (hb hby hd) hr, hrun, hended, _, locs, rfl, ⟨(show Q _ T.heap by rw [eT]; exact hq), N⟩, ⟨_, rfl⟩, hW, hsame.mono hc hs⟩
theorem g_retI (X : St p l e R s m args below meth c n0 T h cells slots) (hx : p.tables.exec = Jvm.exec) (hby : c.code = bs) {z : Int32} (hret : meth.sig.returnType = some .int) (hlk : meth.locks = false) (hd : decode bs pc = .ok (.ireturn, 1)) (hq : Q (some (.int z)) h) (hc : cells ≤ cs) (hs : slots ≤ sl) : Gl p e below n0 (Fn s cs sl) Q (T.setTop (mkF m pc L (.int z :: S))) := g_retV X hx hby hret hlk rfl (Or.inl ⟨rfl, Or.inl rfl, z, rfl⟩) hd hq hc hs
theorem g_retL (X : St p l e R s m args below meth c n0 T h cells slots) (hx : p.tables.exec = Jvm.exec) (hby : c.code = bs) {z : Int64} (hret : meth.sig.returnType = some .long) (hlk : meth.locks = false) (hd : decode bs pc = .ok (.lreturn, 1)) (hq : Q (some (.long z)) h) (hc : cells ≤ cs) (hs : slots ≤ sl) : Gl p e below n0 (Fn s cs sl) Q (T.setTop (mkF m pc L (.long z :: S))) := g_retV X hx hby hret hlk rfl (Or.inr (Or.inl ⟨rfl, rfl, z, rfl⟩)) hd hq hc hs
theorem g_retD (X : St p l e R s m args below meth c n0 T h cells slots) (hx : p.tables.exec = Jvm.exec) (hby : c.code = bs) {z : UInt64} (hret : meth.sig.returnType = some .double) (hlk : meth.locks = false) (hd : decode bs pc = .ok (.dreturn, 1)) (hq : Q (some (.double z)) h) (hc : cells ≤ cs) (hs : slots ≤ sl) : Gl p e below n0 (Fn s cs sl) Q (T.setTop (mkF m pc L (.double z :: S))) := g_retV X hx hby hret hlk rfl (Or.inr (Or.inr (Or.inl ⟨rfl, rfl, z, rfl⟩))) hd hq hc hs
theorem g_retA (X : St p l e R s m args below meth c n0 T h cells slots) (hx : p.tables.exec = Jvm.exec) (hby : c.code = bs) {t : FieldType} {w : Value} (hret : meth.sig.returnType = some t) (hlk : meth.locks = false) (ht : t.isReference = true) (hw : w.isRef = true) (hd : decode bs pc = .ok (.areturn, 1)) (hq : Q (some w) h) (hc : cells ≤ cs) (hs : slots ≤ sl) : Gl p e below n0 (Fn s cs sl) Q (T.setTop (mkF m pc L (w :: S))) := g_retV X hx hby hret hlk (by rcases ref_cases hw with rfl | ⟨a, rfl⟩ <;> cases t <;> first | rfl | (cases ht; done)) (Or.inr (Or.inr (Or.inr (Or.inr ⟨rfl, ht, hw⟩)))) hd hq hc hs
theorem g_ret (X : St p l e R s m args below meth c n0 T h cells slots) (hx : p.tables.exec = Jvm.exec) (hby : c.code = bs) (hret : meth.sig.returnType = none) (hlk : meth.locks = false) (hd : decode bs pc = .ok (.return_, 1)) (hq : Q none h) (hc : cells ≤ cs) (hs : slots ≤ sl) : Gl p e below n0 (Fn s cs sl) Q (T.setTop (mkF m pc L [])) := by
  obtain ⟨locs, Y, eT, N⟩ := X
  obtain ⟨fs, hr, hrun, hended, hW, hsame⟩ := Y.leave (v := none) (fun _ => rfl) hlk
  exact ⟨_, _, Y.returnOut hx hret (hb hby hd) hr, hrun, hended, _, locs, rfl, ⟨(show Q _ T.heap by rw [eT]; exact hq), N⟩, ⟨_, rfl⟩, hW, hsame.mono hc hs⟩
theorem gw_retN {vm0 : Vm} {k0 : Nat} (X : St p l e R (s.setVm vm0) m args below meth c n0 T h cells slots) (hx : p.tables.exec = Jvm.exec) (hby : c.code = bs) (hS : s.Since vm0 k0) (hk : k0 ≤ h.size) {t : FieldType} {z : Int32} (hret : meth.sig.returnType = some t) (hlk : meth.locks = false) (ht : t = .boolean ∨ t = .byte ∨ t = .char ∨ t = .short) (hd : decode bs pc = .ok (.ireturn, 1)) (hq : Q (some (.int (nar t z))) h) (hc : cells ≤ cs) (hs : slots ≤ sl) : Gl p e below n0 (Fw s cs sl) Q (T.setTop (mkF m pc L (.int z :: S))) := by
  obtain ⟨locs, Y, eT, N⟩ := X
  obtain ⟨fs, hr, hrun, hended, r1, r2, r3, r4⟩ := Y.leaveW hS (by rw [eT]; exact hk) (v := some (.int (nar t z))) (fun q => by rw [hret] at q; cases q) hlk
  exact ⟨_, _, retN Y hx hret ht (hb hby hd) hr, hrun, hended, _, locs, rfl, ⟨(show Q _ T.heap by rw [eT]; exact hq), N⟩, r1, r2, r3, r4.mono hc hs⟩
theorem g_ldcS {vm0 : Vm} {k0 : Nat} (X : St p l e R (s.setVm vm0) m args below meth c n0 T h cells slots) (hx : p.tables.exec = Jvm.exec) (hby : c.code = bs) (hZ : Z.Warmed39 (s.setVm vm0).vm) {own text : String} {index n : Nat} (hown : (s.setVm vm0).vm.findClass own = some m.cls) (w : (Cond.stringLink own index text).before a0 Z = true) (wS : ∀ a ∈ Bundle.stringAtoms, a.before a0 Z = true) (hS : s.Since vm0 k0) (hk : k0 ≤ h.size) (hd : decode bs pc = .ok (.ldc index, 2)) (hn : 4 * text.toList.length ≤ n) (hbig : n ≤ 536870912) (hc : cells + 2 ≤ R.cells) (hl : slots + (n + 4) ≤ R.slots) (hp : pc + 2 = pc') (K : ∀ (a : Addr) T' h' k1, St p l e R (s.setVm T'.vm) m args below meth c n0 T' h' (cells + 2) (slots + (n + 4)) → Ext h h' → s.Since T'.vm k1 → k1 ≤ h'.size → Z.Warmed39 (s.setVm T'.vm).vm → (s.setVm T'.vm).vm.findClass own = some m.cls → Gl p e below n0 Φ Q (T'.setTop (mkF m pc' L (.ref a :: S)))) : Gl p e below n0 Φ Q (T.setTop (mkF m pc L S)) := by
  obtain ⟨locs, Y, eT, N⟩ := X; subst hp
  obtain ⟨a, T', h', k1, Y', e', E, S1, hk1, hZ1, hown1, st⟩ := ldcS Y hx hZ hown w wS eT hS hk (g := mkF m pc L S) rfl (hb hby hd) hn hbig hc hl
  exact Gl.st st (K a T' h' k1 ⟨locs, Y', e', N⟩ E S1 hk1 hZ1 hown1)
theorem g_ldcSV {vm0 : Vm} {k0 : Nat} (X : St p l e R (s.setVm vm0) m args below meth c n0 T h cells slots) (hx : p.tables.exec = Jvm.exec) (hby : c.code = bs) (hZ : Z.Warmed39 (s.setVm vm0).vm) {own text : String} {index n : Nat} (hown : (s.setVm vm0).vm.findClass own = some m.cls) (w : (Cond.stringLink own index text).before a0 Z = true) (wS : ∀ a ∈ Bundle.stringAtoms, a.before a0 Z = true) (hS : s.Since vm0 k0) (hk : k0 ≤ h.size) (hn0 : s.heap.size ≤ n0) (hkeep : ∀ (b : Addr) (cl : Cell), Z.heap[b]? = some cl → s.heap[b]? = some cl) {Ts : List String} (I : IB Z vm0 Ts) (hnot : text ∉ Ts) (hh : Jvm.Lit.constHeld Z own index) (hcw : Jvm.Lit.compactW.before a0 Z = true) {vs : List Value} {kn : Nat} {f : Nat → Int32} (ht : (∀ c ∈ text.toList, c.toNat < 256) ∧ text.toList.map (fun c => Value.int (Jvm.Lit.byteI c.toNat.toUInt16)) = vs) (hl1 : vs.length = kn) (hl2 : kn < 2147483648) (hf : ∀ i, i < kn → vs.getD i (.int 0) = .int (f i)) (hd : decode bs pc = .ok (.ldc index, 2)) (hn : 4 * text.toList.length ≤ n) (hbig : n ≤ 536870912) (hc : cells + 2 ≤ R.cells) (hl : slots + (n + 4) ≤ R.slots) (hp : pc + 2 = pc') (K : ∀ (a b : Addr) T' h' k1, St p l e R (s.setVm T'.vm) m args below meth c n0 T' h' (cells + 2) (slots + (n + 4)) → Ext h h' → s.Since T'.vm k1 → k1 ≤ h'.size → Z.Warmed39 (s.setVm T'.vm).vm → (s.setVm T'.vm).vm.findClass own = some m.cls → Exa Z h' a "java/lang/String" → Fld Z h' a "java/lang/String" "coder" "B" (.int 0) → Fld Z h' a "java/lang/String" "value" "[B" (.ref b) → Ary Z h' b .byte kn (fun i => .int (f i)) → IB Z T'.vm (text :: Ts) → Gl p e below n0 Φ Q (T'.setTop (mkF m pc' L (.ref a :: S)))) : Gl p e below n0 Φ Q (T.setTop (mkF m pc L S)) := by
  obtain ⟨locs, Y, eT, N⟩ := X; subst hp
  have ek : (Int32.ofNat kn).toInt = (kn : Int) := Int32.toInt_ofNat_of_lt (by omega)
  have ez : (0 : Int32).toInt = 0 := rfl
  have ec : (Int32.ofNat kn).toNatClampNeg = kn := by simp only [Int32.toNatClampNeg]; omega
  obtain ⟨a, T', h', k1, b, kc, Y', e', E, S1, hk1, hZ1, hown1, x1, x2, x3, ⟨cl, Ar, -, sz, -, H, -⟩, -, -, I', st⟩ := ldcSV Y hx hZ hown w wS eT hS hk (fun y hy => Nat.le_trans hn0 (N y hy)) hkeep I hnot hh hcw ht (z := Int32.ofNat kn) (by rw [Int32.lt_iff_toInt_lt]; omega) (by rw [ec]; exact hl1.symm) (g := mkF m pc L S) rfl (hb hby hd) hn hbig hc hl
  exact Gl.st st (K a b T' h' k1 ⟨locs, Y', e', N⟩ E S1 hk1 hZ1 hown1 x1 x2 x3 ⟨cl, Ar, by rw [sz, ec], fun i hi => by rw [H i (by rw [sz, ec]; exact hi), hf i hi]⟩ I')
theorem g_getF (X : St p l e R s m args below meth c n0 T h cells slots) (hx : p.tables.exec = Jvm.exec) (hby : c.code = bs) (hZ : Z.Warmed39 s.vm) {own R0 O n d : String} {index : Nat} (hown : s.vm.findClass own = some m.cls) (w : (Cond.fieldLink own index R0 n d).before a0 Z = true) (via : Via Z R0 O n d) {a : Addr} {v : Value} (F : Fld Z h a O n d v) (hd : decode bs pc = .ok (.getfield index, 3)) (hp : pc + 3 = pc') (K : ∀ T', St p l e R s m args below meth c n0 T' h cells slots → Gl p e below n0 Φ Q (T'.setTop (mkF m pc' L (v :: S)))) : Gl p e below n0 Φ Q (T.setTop (mkF m pc L (.ref a :: S))) := by
  obtain ⟨locs, Y, eT, N⟩ := X; subst hp
  obtain ⟨T', Y', e', st⟩ := getF Y hx hZ hown (host := "") (Or.inl w) via eT F (g := mkF m pc L (.ref a :: S)) rfl rfl (hb hby hd)
  exact Gl.st st (K T' ⟨locs, Y', e', N⟩)
theorem g_putF (X : St p l e R s m args below meth c n0 T h cells slots) (hx : p.tables.exec = Jvm.exec) (hby : c.code = bs) (hZ : Z.Warmed39 s.vm) {own R0 O n d C : String} {index kk : Nat} {ty : FieldType} (hown : s.vm.findClass own = some m.cls) (w : (Cond.fieldLink own index R0 n d).before a0 Z = true) (via : Via Z R0 O n d) {a : Addr} {v old : Value} (F : Fld Z h a O n d old) (E : Exa Z h a C) (lay : (Cond.lays C O n d).before a0 Z = true ∨ ((Cond.laysFinal C O n d).before a0 Z = true ∧ own = O ∧ meth.name = "<init>")) (wi : (Cond.instantiable C kk).before a0 Z = true) (hty : parseFieldDescriptor d = some ty) (hn : narrow ty v = v) (hf : fits ty v = true) (hn0 : n0 ≤ a) (hd : decode bs pc = .ok (.putfield index, 3)) (hp : pc + 3 = pc') (K : ∀ T' h', St p l e R s m args below meth c n0 T' h' cells slots → Wr h h' a (Jvm.RoadKit.slotOf Z O n d) v → Gl p e below n0 Φ Q (T'.setTop (mkF m pc' L S))) : Gl p e below n0 Φ Q (T.setTop (mkF m pc L (v :: .ref a :: S))) := by
  obtain ⟨locs, Y, eT, N⟩ := X; subst hp
  obtain ⟨T', h', Y', e', W, st⟩ := putF Y hx hZ hown (host := "") (Or.inl w) via eT F E lay wi hty hn hf (g := mkF m pc L (v :: .ref a :: S)) rfl rfl (hb hby hd)
  exact Gl.st st (K T' h' ⟨_, Y', e', Fr.snoc Y' N hn0⟩ W)
theorem g_putFN (X : St p l e R s m args below meth c n0 T h cells slots) (hx : p.tables.exec = Jvm.exec) (hby : c.code = bs) (hZ : Z.Warmed39 s.vm) {own R0 O n d C : String} {index kk : Nat} {ty : FieldType} (hown : s.vm.findClass own = some m.cls) (w : (Cond.fieldLink own index R0 n d).before a0 Z = true) (via : Via Z R0 O n d) {a : Addr} {v v' old : Value} (F : Fld Z h a O n d old) (E : Exa Z h a C) (lay : (Cond.lays C O n d).before a0 Z = true ∨ ((Cond.laysFinal C O n d).before a0 Z = true ∧ own = O ∧ meth.name = "<init>")) (wi : (Cond.instantiable C kk).before a0 Z = true) (hty : parseFieldDescriptor d = some ty) (hn : narrow ty v = v') (hf : fits ty v' = true) (hn0 : n0 ≤ a) (hd : decode bs pc = .ok (.putfield index, 3)) (hp : pc + 3 = pc') (K : ∀ T' h', St p l e R s m args below meth c n0 T' h' cells slots → Wr h h' a (Jvm.RoadKit.slotOf Z O n d) v' → Gl p e below n0 Φ Q (T'.setTop (mkF m pc' L S))) : Gl p e below n0 Φ Q (T.setTop (mkF m pc L (v :: .ref a :: S))) := by
  obtain ⟨locs, Y, eT, N⟩ := X; subst hp
  obtain ⟨T', h', Y', e', W, st⟩ := putFN Y hx hZ hown w via eT F E lay wi hty hn hf (g := mkF m pc L (v :: .ref a :: S)) rfl rfl (hb hby hd)
  exact Gl.st st (K T' h' ⟨_, Y', e', Fr.snoc Y' N hn0⟩ W)
theorem g_getS (X : St p l e R s m args below meth c n0 T h cells slots) (hx : p.tables.exec = Jvm.exec) (hby : c.code = bs) (hZ : Z.Warmed39 s.vm) {own R0 O n d : String} {index : Nat} (hown : s.vm.findClass own = some m.cls) (w : (Cond.fieldLink own index R0 n d).before a0 Z = true) (via : Via Z R0 O n d) {v : Value} (F : Sta Z h O n d v) (hd : decode bs pc = .ok (.getstatic index, 3)) (hp : pc + 3 = pc') (K : ∀ T', St p l e R s m args below meth c n0 T' h cells slots → Gl p e below n0 Φ Q (T'.setTop (mkF m pc' L (v :: S)))) : Gl p e below n0 Φ Q (T.setTop (mkF m pc L S)) := by
  obtain ⟨locs, Y, eT, N⟩ := X; subst hp
  obtain ⟨T', Y', e', st⟩ := getS Y hx hZ hown (host := "") w via eT F (g := mkF m pc L S) rfl (hb hby hd)
  exact Gl.st st (K T' ⟨locs, Y', e', N⟩)
theorem g_new (X : St p l e R s m args below meth c n0 T h cells slots) (hx : p.tables.exec = Jvm.exec) (hby : c.code = bs) (hZ : Z.Warmed39 s.vm) {own C : String} {index n : Nat} (hown : s.vm.findClass own = some m.cls) (w : (Cond.classLink own index C).before a0 Z = true) (wi : (Cond.instantiable C n).before a0 Z = true) (wz : (Cond.initialized C).before a0 Z = true) (hd : decode bs pc = .ok (.new index, 3)) (hc : cells + 1 ≤ R.cells) (hs : slots + n ≤ R.slots) (hp : pc + 3 = pc') (K : ∀ T' h' (b : Addr), b = h.size → St p l e R s m args below meth c n0 T' h' (cells + 1) (slots + n) → Ext h h' → Exa Z h' b C → (∀ {O nm d : String} {ty : FieldType}, Laid Z a0 C O nm d → parseFieldDescriptor d = some ty → Fld Z h' b O nm d (defaultValue ty)) → Gl p e below n0 Φ Q (T'.setTop (mkF m pc' L (.ref b :: S)))) : Gl p e below n0 Φ Q (T.setTop (mkF m pc L S)) := by
  obtain ⟨locs, Y, eT, N⟩ := X; subst hp
  obtain ⟨T', h', Y', e', E, A, D, -, st⟩ := newO Y hx hZ hown w wi wz eT (g := mkF m pc L S) rfl (hb hby hd) hc hs
  exact Gl.st st (K T' h' _ rfl ⟨locs, Y', e', N⟩ E A D)
theorem g_newarray (X : St p l e R s m args below meth c n0 T h cells slots) (hx : p.tables.exec = Jvm.exec) (hby : c.code = bs) (hZ : Z.Warmed39 s.vm) {aty : ArrayType} (w : (Cond.arrayClass (newarray.typeOf aty)).before a0 Z = true) {n : Int32} {k cap : Nat} (hd : decode bs pc = .ok (.newarray aty, 2)) (hn : n.toInt = (k : Int)) (hcap : k ≤ cap) (hb8 : cap * 8 ≤ 536870912) (hc : cells + 1 ≤ R.cells) (hs : slots + cap ≤ R.slots) (hp : pc + 2 = pc') (K : ∀ T' h' (b : Addr), b = h.size → St p l e R s m args below meth c n0 T' h' (cells + 1) (slots + cap) → Ext h h' → Ary Z h' b (newarray.typeOf aty) k (fun _ => defaultValue (newarray.typeOf aty)) → Gl p e below n0 Φ Q (T'.setTop (mkF m pc' L (.ref b :: S)))) : Gl p e below n0 Φ Q (T.setTop (mkF m pc L (.int n :: S))) := by
  obtain ⟨locs, Y, eT, N⟩ := X; subst hp
  have e1 : n.toNatClampNeg = k := by simp only [Int32.toNatClampNeg]; omega
  obtain ⟨T', h', cA, Y', e', E, A, st⟩ := newP Y hx hZ w eT (g := mkF m pc L (.int n :: S)) rfl (hb hby hd) rfl (by rw [Int32.lt_iff_toInt_lt]; have : (0 : Int32).toInt = 0 := rfl; omega) (cap := cap) (by omega) hb8 hc hs
  exact Gl.st st (K T' h' _ rfl ⟨locs, Y', e', N⟩ E ⟨_, A, by rw [sz_new]; exact e1, fun i hi => by simp [newA, e1, hi]⟩)
theorem g_anewarray (X : St p l e R s m args below meth c n0 T h cells slots) (hx : p.tables.exec = Jvm.exec) (hby : c.code = bs) (hZ : Z.Warmed39 s.vm) {own C : String} {index : Nat} (hown : s.vm.findClass own = some m.cls) (w1 : (Cond.classLink own index C).before a0 Z = true) (w2 : (Cond.arrayOver (.object C)).before a0 Z = true) {n : Int32} {k cap : Nat} (hd : decode bs pc = .ok (.anewarray index, 3)) (hn : n.toInt = (k : Int)) (hcap : k ≤ cap) (hb8 : cap * 8 ≤ 536870912) (hc : cells + 1 ≤ R.cells) (hs : slots + cap ≤ R.slots) (hp : pc + 3 = pc') (K : ∀ T' h' (b : Addr), b = h.size → St p l e R s m args below meth c n0 T' h' (cells + 1) (slots + cap) → Ext h h' → Ary Z h' b (.object C) k (fun _ => .null) → Ov Z h' b C → Gl p e below n0 Φ Q (T'.setTop (mkF m pc' L (.ref b :: S)))) : Gl p e below n0 Φ Q (T.setTop (mkF m pc L (.int n :: S))) := by
  obtain ⟨locs, Y, eT, N⟩ := X; subst hp
  have e1 : n.toNatClampNeg = k := by simp only [Int32.toNatClampNeg]; omega
  obtain ⟨T', h', cA, Y', e', E, A, O, st⟩ := newR Y hx hZ hown w1 w2 eT (g := mkF m pc L (.int n :: S)) rfl (hb hby hd) rfl (by rw [Int32.lt_iff_toInt_lt]; have : (0 : Int32).toInt = 0 := rfl; omega) (cap := cap) (by omega) hb8 hc hs
  exact Gl.st st (K T' h' _ rfl ⟨locs, Y', e', N⟩ E ⟨_, A, by rw [sz_new]; exact e1, fun i hi => by simp [newA, e1, hi, defaultValue]⟩ ⟨_, A.1, O⟩)
theorem g_arraylength (X : St p l e R s m args below meth c n0 T h cells slots) (hx : p.tables.exec = Jvm.exec) (hby : c.code = bs) (hZ : Z.Warmed39 s.vm) {a : Addr} {ty : FieldType} {k : Nat} {f : Nat → Value} {n : Int32} (A : Ary Z h a ty k f) (hn : n.toInt = (k : Int)) (hd : decode bs pc = .ok (.arraylength, 1)) (hp : pc + 1 = pc') (K : Gl p e below n0 Φ Q (T.setTop (mkF m pc' L (.int n :: S)))) : Gl p e below n0 Φ Q (T.setTop (mkF m pc L (.ref a :: S))) := by
  obtain ⟨locs, Y, eT, -⟩ := X; subst hp
  obtain ⟨cl, Ar, sz, -⟩ := A
  have e1 : cl.slots.size.toInt32 = n := by
    have q := rng32 n
    rw [← Int32.toInt_inj, len_toInt (by omega), sz, hn]
  refine Gl.st (fun t k => Y.arraylength hx (by rw [eT]; exact Ar.1) (State.isArrayOf_alike hZ.alike Ar.2.1) (g := mkF m pc L (.ref a :: S)) rfl rfl (hb hby hd) t k) ?_
  rw [e1]; exact K
theorem g_iaload (X : St p l e R s m args below meth c n0 T h cells slots) (hx : p.tables.exec = Jvm.exec) (hby : c.code = bs) (hZ : Z.Warmed39 s.vm) {a : Addr} {k i : Nat} {f : Nat → Value} {j : Int32} {v : Value} (A : Ary Z h a .int k f) (hj : j.toInt = (i : Int)) (hi : i < k) (hv : f i = v) (hd : decode bs pc = .ok (.iaload, 1)) (hp : pc + 1 = pc') (K : Gl p e below n0 Φ Q (T.setTop (mkF m pc' L (v :: S)))) : Gl p e below n0 Φ Q (T.setTop (mkF m pc L (.int j :: .ref a :: S))) := by
  obtain ⟨locs, Y, eT, -⟩ := X; subst hp hv
  obtain ⟨cl, Ar, sz, H⟩ := A
  obtain ⟨q1, q2⟩ := own_in (k := k) hj hi
  exact Gl.st (fun t k => Y.iaload hx (by rw [eT]; exact Ar.1) (State.isArrayOf_alike hZ.alike Ar.2.1) Ar.2.2 (by rw [sz]; exact q1) (by rw [q2]; exact H i hi) (g := mkF m pc L (.int j :: .ref a :: S)) rfl rfl (hb hby hd) t k) K
theorem g_laload (X : St p l e R s m args below meth c n0 T h cells slots) (hx : p.tables.exec = Jvm.exec) (hby : c.code = bs) (hZ : Z.Warmed39 s.vm) {a : Addr} {k i : Nat} {f : Nat → Value} {j : Int32} {v : Value} (A : Ary Z h a .long k f) (hj : j.toInt = (i : Int)) (hi : i < k) (hv : f i = v) (hd : decode bs pc = .ok (.laload, 1)) (hp : pc + 1 = pc') (K : Gl p e below n0 Φ Q (T.setTop (mkF m pc' L (v :: S)))) : Gl p e below n0 Φ Q (T.setTop (mkF m pc L (.int j :: .ref a :: S))) := by
  obtain ⟨locs, Y, eT, -⟩ := X; subst hp hv
  obtain ⟨cl, Ar, sz, H⟩ := A
  obtain ⟨q1, q2⟩ := own_in (k := k) hj hi
  exact Gl.st (fun t k => Y.laload hx (by rw [eT]; exact Ar.1) (State.isArrayOf_alike hZ.alike Ar.2.1) Ar.2.2 (by rw [sz]; exact q1) (by rw [q2]; exact H i hi) (g := mkF m pc L (.int j :: .ref a :: S)) rfl rfl (hb hby hd) t k) K
theorem g_caload (X : St p l e R s m args below meth c n0 T h cells slots) (hx : p.tables.exec = Jvm.exec) (hby : c.code = bs) (hZ : Z.Warmed39 s.vm) {a : Addr} {k i : Nat} {f : Nat → Value} {j : Int32} {v : Value} (A : Ary Z h a .char k f) (hj : j.toInt = (i : Int)) (hi : i < k) (hv : f i = v) (hd : decode bs pc = .ok (.caload, 1)) (hp : pc + 1 = pc') (K : Gl p e below n0 Φ Q (T.setTop (mkF m pc' L (v :: S)))) : Gl p e below n0 Φ Q (T.setTop (mkF m pc L (.int j :: .ref a :: S))) := by
  obtain ⟨locs, Y, eT, -⟩ := X; subst hp hv
  obtain ⟨cl, Ar, sz, H⟩ := A
  obtain ⟨q1, q2⟩ := own_in (k := k) hj hi
  exact Gl.st (fun t k => Y.caload hx (by rw [eT]; exact Ar.1) (State.isArrayOf_alike hZ.alike Ar.2.1) Ar.2.2 (by rw [sz]; exact q1) (by rw [q2]; exact H i hi) (g := mkF m pc L (.int j :: .ref a :: S)) rfl rfl (hb hby hd) t k) K
theorem g_baload (X : St p l e R s m args below meth c n0 T h cells slots) (hx : p.tables.exec = Jvm.exec) (hby : c.code = bs) (hZ : Z.Warmed39 s.vm) {a : Addr} {k i : Nat} {f : Nat → Value} {j : Int32} {v : Value} (A : Ary Z h a .byte k f) (hj : j.toInt = (i : Int)) (hi : i < k) (hv : f i = v) (hd : decode bs pc = .ok (.baload, 1)) (hp : pc + 1 = pc') (K : Gl p e below n0 Φ Q (T.setTop (mkF m pc' L (v :: S)))) : Gl p e below n0 Φ Q (T.setTop (mkF m pc L (.int j :: .ref a :: S))) := by
  obtain ⟨locs, Y, eT, -⟩ := X; subst hp hv
  obtain ⟨cl, Ar, sz, H⟩ := A
  obtain ⟨q1, q2⟩ := own_in (k := k) hj hi
  exact Gl.st (fun t k => Y.baloadBytes hx (by rw [eT]; exact Ar.1) (State.isArrayOf_alike hZ.alike Ar.2.1) Ar.2.2 (by rw [sz]; exact q1) (by rw [q2]; exact H i hi) (g := mkF m pc L (.int j :: .ref a :: S)) rfl rfl (hb hby hd) t k) K
theorem g_zaload (X : St p l e R s m args below meth c n0 T h cells slots) (hx : p.tables.exec = Jvm.exec) (hby : c.code = bs) (hZ : Z.Warmed39 s.vm) {a : Addr} {k i : Nat} {f : Nat → Value} {j : Int32} {v : Value} (A : Ary Z h a .boolean k f) (hj : j.toInt = (i : Int)) (hi : i < k) (hv : f i = v) (hd : decode bs pc = .ok (.baload, 1)) (hp : pc + 1 = pc') (K : Gl p e below n0 Φ Q (T.setTop (mkF m pc' L (v :: S)))) : Gl p e below n0 Φ Q (T.setTop (mkF m pc L (.int j :: .ref a :: S))) := by
  obtain ⟨locs, Y, eT, -⟩ := X; subst hp hv
  obtain ⟨cl, Ar, sz, H⟩ := A
  obtain ⟨q1, q2⟩ := own_in (k := k) hj hi
  exact Gl.st (fun t k => Y.baloadBooleans hx (by rw [eT]; exact Ar.1) (State.isArrayOf_alike hZ.alike Ar.2.1) Ar.2.2 (by rw [sz]; exact q1) (by rw [q2]; exact H i hi) (g := mkF m pc L (.int j :: .ref a :: S)) rfl rfl (hb hby hd) t k) K
theorem g_aaload (X : St p l e R s m args below meth c n0 T h cells slots) (hx : p.tables.exec = Jvm.exec) (hby : c.code = bs) (hZ : Z.Warmed39 s.vm) {a : Addr} {k i : Nat} {f : Nat → Value} {j : Int32} {v : Value} {ty : FieldType} (A : Ary Z h a ty k f) (hty : ty.isReference = true) (hj : j.toInt = (i : Int)) (hi : i < k) (hv : f i = v) (hd : decode bs pc = .ok (.aaload, 1)) (hp : pc + 1 = pc') (K : Gl p e below n0 Φ Q (T.setTop (mkF m pc' L (v :: S)))) : Gl p e below n0 Φ Q (T.setTop (mkF m pc L (.int j :: .ref a :: S))) := by
  obtain ⟨locs, Y, eT, -⟩ := X; subst hp hv
  obtain ⟨cl, Ar, sz, H⟩ := A
  obtain ⟨q1, q2⟩ := own_in (k := k) hj hi
  exact Gl.st (fun t k => Y.aaload hx (by rw [eT]; exact Ar.1) (State.isArrayOf_alike hZ.alike Ar.2.1) hty Ar.2.2 (by rw [sz]; exact q1) (by rw [q2]; exact H i hi) (g := mkF m pc L (.int j :: .ref a :: S)) rfl rfl (hb hby hd) t k) K
theorem g_iastore (X : St p l e R s m args below meth c n0 T h cells slots) (hx : p.tables.exec = Jvm.exec) (hby : c.code = bs) (hZ : Z.Warmed39 s.vm) {a : Addr} {k i : Nat} {f : Nat → Value} {j : Int32} {x : Int32} (A : Ary Z h a .int k f) (hj : j.toInt = (i : Int)) (hi : i < k) (hn0 : n0 ≤ a) (hd : decode bs pc = .ok (.iastore, 1)) (hp : pc + 1 = pc') (K : ∀ T' h' sl0, St p l e R s m args below meth c n0 T' h' cells slots → Wr h h' a sl0 (.int x) → Ary Z h' a .int k (own_upd f i (.int x)) → Gl p e below n0 Φ Q (T'.setTop (mkF m pc' L S))) : Gl p e below n0 Φ Q (T.setTop (mkF m pc L (.int x :: .int j :: .ref a :: S))) := by
  obtain ⟨locs, Y, eT, N⟩ := X; subst hp
  obtain ⟨cl, Ar, sz, H⟩ := A
  obtain ⟨q1, q2⟩ := own_in (k := k) hj hi
  obtain ⟨T', h', Y', e', W, st⟩ := stI Y hx hZ eT Ar (j := j) (by rw [sz]; exact q1) (g := mkF m pc L (.int x :: .int j :: .ref a :: S)) rfl rfl (hb hby hd)
  exact Gl.st st (K T' h' _ ⟨_, Y', e', Fr.snoc Y' N hn0⟩ W (Ary.same Ar sz H (q2 ▸ W)))
theorem g_lastore (X : St p l e R s m args below meth c n0 T h cells slots) (hx : p.tables.exec = Jvm.exec) (hby : c.code = bs) (hZ : Z.Warmed39 s.vm) {a : Addr} {k i : Nat} {f : Nat → Value} {j : Int32} {x : Int64} (A : Ary Z h a .long k f) (hj : j.toInt = (i : Int)) (hi : i < k) (hn0 : n0 ≤ a) (hd : decode bs pc = .ok (.lastore, 1)) (hp : pc + 1 = pc') (K : ∀ T' h' sl0, St p l e R s m args below meth c n0 T' h' cells slots → Wr h h' a sl0 (.long x) → Ary Z h' a .long k (own_upd f i (.long x)) → Gl p e below n0 Φ Q (T'.setTop (mkF m pc' L S))) : Gl p e below n0 Φ Q (T.setTop (mkF m pc L (.long x :: .int j :: .ref a :: S))) := by
  obtain ⟨locs, Y, eT, N⟩ := X; subst hp
  obtain ⟨cl, Ar, sz, H⟩ := A
  obtain ⟨q1, q2⟩ := own_in (k := k) hj hi
  obtain ⟨T', h', Y', e', W, st⟩ := stJ Y hx hZ eT Ar (j := j) (by rw [sz]; exact q1) (g := mkF m pc L (.long x :: .int j :: .ref a :: S)) rfl rfl (hb hby hd)
  exact Gl.st st (K T' h' _ ⟨_, Y', e', Fr.snoc Y' N hn0⟩ W (Ary.same Ar sz H (q2 ▸ W)))
theorem g_bastore (X : St p l e R s m args below meth c n0 T h cells slots) (hx : p.tables.exec = Jvm.exec) (hby : c.code = bs) (hZ : Z.Warmed39 s.vm) {a : Addr} {k i : Nat} {f : Nat → Value} {j : Int32} {x : Int32} (A : Ary Z h a .byte k f) (hj : j.toInt = (i : Int)) (hi : i < k) (hn0 : n0 ≤ a) (hd : decode bs pc = .ok (.bastore, 1)) (hp : pc + 1 = pc') (K : ∀ T' h' sl0, St p l e R s m args below meth c n0 T' h' cells slots → Wr h h' a sl0 (.int (nar .byte x)) → Ary Z h' a .byte k (own_upd f i (.int (nar .byte x))) → Gl p e below n0 Φ Q (T'.setTop (mkF m pc' L S))) : Gl p e below n0 Φ Q (T.setTop (mkF m pc L (.int x :: .int j :: .ref a :: S))) := by
  obtain ⟨locs, Y, eT, N⟩ := X; subst hp
  obtain ⟨cl, Ar, sz, H⟩ := A
  obtain ⟨q1, q2⟩ := own_in (k := k) hj hi
  obtain ⟨T', h', Y', e', W, st⟩ := stB Y hx hZ eT Ar (j := j) (by rw [sz]; exact q1) (g := mkF m pc L (.int x :: .int j :: .ref a :: S)) rfl rfl (hb hby hd)
  exact Gl.st st (K T' h' _ ⟨_, Y', e', Fr.snoc Y' N hn0⟩ W (Ary.same Ar sz H (q2 ▸ W)))
theorem g_zastore (X : St p l e R s m args below meth c n0 T h cells slots) (hx : p.tables.exec = Jvm.exec) (hby : c.code = bs) (hZ : Z.Warmed39 s.vm) {a : Addr} {k i : Nat} {f : Nat → Value} {j : Int32} {x : Int32} (A : Ary Z h a .boolean k f) (hj : j.toInt = (i : Int)) (hi : i < k) (hn0 : n0 ≤ a) (hd : decode bs pc = .ok (.bastore, 1)) (hp : pc + 1 = pc') (K : ∀ T' h' sl0, St p l e R s m args below meth c n0 T' h' cells slots → Wr h h' a sl0 (.int (nar .boolean x)) → Ary Z h' a .boolean k (own_upd f i (.int (nar .boolean x))) → Gl p e below n0 Φ Q (T'.setTop (mkF m pc' L S))) : Gl p e below n0 Φ Q (T.setTop (mkF m pc L (.int x :: .int j :: .ref a :: S))) := by
  obtain ⟨locs, Y, eT, N⟩ := X; subst hp
  obtain ⟨cl, Ar, sz, H⟩ := A
  obtain ⟨q1, q2⟩ := own_in (k := k) hj hi
  obtain ⟨T', h', Y', e', W, st⟩ := stZ Y hx hZ eT Ar (j := j) (by rw [sz]; exact q1) (g := mkF m pc L (.int x :: .int j :: .ref a :: S)) rfl rfl (hb hby hd)
  exact Gl.st st (K T' h' _ ⟨_, Y', e', Fr.snoc Y' N hn0⟩ W (Ary.same Ar sz H (q2 ▸ W)))
theorem g_castore (X : St p l e R s m args below meth c n0 T h cells slots) (hx : p.tables.exec = Jvm.exec) (hby : c.code = bs) (hZ : Z.Warmed39 s.vm) {a : Addr} {k i : Nat} {f : Nat → Value} {j : Int32} {x : Int32} (A : Ary Z h a .char k f) (hj : j.toInt = (i : Int)) (hi : i < k) (hn0 : n0 ≤ a) (hd : decode bs pc = .ok (.castore, 1)) (hp : pc + 1 = pc') (K : ∀ T' h' sl0, St p l e R s m args below meth c n0 T' h' cells slots → Wr h h' a sl0 (.int (nar .char x)) → Ary Z h' a .char k (own_upd f i (.int (nar .char x))) → Gl p e below n0 Φ Q (T'.setTop (mkF m pc' L S))) : Gl p e below n0 Φ Q (T.setTop (mkF m pc L (.int x :: .int j :: .ref a :: S))) := by
  obtain ⟨locs, Y, eT, N⟩ := X; subst hp
  obtain ⟨cl, Ar, sz, H⟩ := A
  obtain ⟨q1, q2⟩ := own_in (k := k) hj hi
  obtain ⟨T', h', Y', e', W, st⟩ := stC Y hx hZ eT Ar (j := j) (by rw [sz]; exact q1) (g := mkF m pc L (.int x :: .int j :: .ref a :: S)) rfl rfl (hb hby hd)
  exact Gl.st st (K T' h' _ ⟨_, Y', e', Fr.snoc Y' N hn0⟩ W (Ary.same Ar sz H (q2 ▸ W)))
theorem g_aastore (X : St p l e R s m args below meth c n0 T h cells slots) (hx : p.tables.exec = Jvm.exec) (hby : c.code = bs) (hZ : Z.Warmed39 s.vm) {a : Addr} {k i : Nat} {f : Nat → Value} {j : Int32} {v : Value} {ty : FieldType} (A : Ary Z h a ty k f) (hty : ty.isReference = true) (St0 : Sto Z h a v) (hj : j.toInt = (i : Int)) (hi : i < k) (hn0 : n0 ≤ a) (hd : decode bs pc = .ok (.aastore, 1)) (hp : pc + 1 = pc') (K : ∀ T' h' sl0, St p l e R s m args below meth c n0 T' h' cells slots → Wr h h' a sl0 v → Ary Z h' a ty k (own_upd f i v) → Gl p e below n0 Φ Q (T'.setTop (mkF m pc' L S))) : Gl p e below n0 Φ Q (T.setTop (mkF m pc L (v :: .int j :: .ref a :: S))) := by
  obtain ⟨locs, Y, eT, N⟩ := X; subst hp
  obtain ⟨cl, Ar, sz, H⟩ := A
  obtain ⟨q1, q2⟩ := own_in (k := k) hj hi
  obtain ⟨T', h', Y', e', W, st⟩ := stR Y hx hZ eT Ar (j := j) (by rw [sz]; exact q1) hty St0 (g := mkF m pc L (v :: .int j :: .ref a :: S)) rfl rfl (hb hby hd)
  exact Gl.st st (K T' h' _ ⟨_, Y', e', Fr.snoc Y' N hn0⟩ W (Ary.same Ar sz H (q2 ▸ W)))
theorem g_instY (X : St p l e R s m args below meth c n0 T h cells slots) (hx : p.tables.exec = Jvm.exec) (hby : c.code = bs) (hZ : Z.Warmed39 s.vm) {own K : String} {index : Nat} {a : Addr} (hown : s.vm.findClass own = some m.cls) (w : (Cond.classLink own index K).before a0 Z = true) (I : Ins Z h a K true) (hd : decode bs pc = .ok (.instanceof index, 3)) (hp : pc + 3 = pc') (K1 : ∀ T', St p l e R s m args below meth c n0 T' h cells slots → Gl p e below n0 Φ Q (T'.setTop (mkF m pc' L (.int 1 :: S)))) : Gl p e below n0 Φ Q (T.setTop (mkF m pc L (.ref a :: S))) := by
  obtain ⟨locs, Y, eT, N⟩ := X; subst hp
  obtain ⟨T', Y', e', st⟩ := instY Y hx hZ hown w eT I (g := mkF m pc L (.ref a :: S)) rfl rfl (hb hby hd)
  exact Gl.st st (K1 T' ⟨locs, Y', e', N⟩)
theorem g_castY (X : St p l e R s m args below meth c n0 T h cells slots) (hx : p.tables.exec = Jvm.exec) (hby : c.code = bs) (hZ : Z.Warmed39 s.vm) {own K : String} {index : Nat} {a : Addr} (hown : s.vm.findClass own = some m.cls) (w : (Cond.classLink own index K).before a0 Z = true) (I : Ins Z h a K true) (hd : decode bs pc = .ok (.checkcast index, 3)) (hp : pc + 3 = pc') (K1 : ∀ T', St p l e R s m args below meth c n0 T' h cells slots → Gl p e below n0 Φ Q (T'.setTop (mkF m pc' L (.ref a :: S)))) : Gl p e below n0 Φ Q (T.setTop (mkF m pc L (.ref a :: S))) := by
  obtain ⟨locs, Y, eT, N⟩ := X; subst hp
  obtain ⟨T', Y', e', st⟩ := castY Y hx hZ hown w eT I (g := mkF m pc L (.ref a :: S)) rfl rfl (hb hby hd)
  exact Gl.st st (K1 T' ⟨locs, Y', e', N⟩)
theorem g_instNo (X : St p l e R s m args below meth c n0 T h cells slots) (hx : p.tables.exec = Jvm.exec) (hby : c.code = bs) (hZ : Z.Warmed39 s.vm) {own K C : String} {index : Nat} {a : Addr} (hown : s.vm.findClass own = some m.cls) (w : (Cond.classLink own index K).before a0 Z = true) (E : Exa Z h a C) (I : ∃ c t, Z.vm.findClass C = some c ∧ Z.vm.findClass K = some t ∧ Z.vm.assignable c t = false) (hd : decode bs pc = .ok (.instanceof index, 3)) (hp : pc + 3 = pc') (K1 : ∀ T', St p l e R s m args below meth c n0 T' h cells slots → Gl p e below n0 Φ Q (T'.setTop (mkF m pc' L (.int 0 :: S)))) : Gl p e below n0 Φ Q (T.setTop (mkF m pc L (.ref a :: S))) := by
  obtain ⟨locs, Y, eT, N⟩ := X; subst hp
  obtain ⟨T', Y', e', st⟩ := instNo Y hx hZ hown w eT E I (g := mkF m pc L (.ref a :: S)) rfl rfl (hb hby hd)
  exact Gl.st st (K1 T' ⟨locs, Y', e', N⟩)
theorem g_instNull (X : St p l e R s m args below meth c n0 T h cells slots) (hx : p.tables.exec = Jvm.exec) (hby : c.code = bs) {index : Nat} (hd : decode bs pc = .ok (.instanceof index, 3)) (hp : pc + 3 = pc') (K1 : Gl p e below n0 Φ Q (T.setTop (mkF m pc' L (.int 0 :: S)))) : Gl p e below n0 Φ Q (T.setTop (mkF m pc L (.null :: S))) := by
  obtain ⟨locs, Y, eT, N⟩ := X; subst hp
  exact Gl.st (fun t k => Y.instanceofNull hx (g := mkF m pc L (.null :: S)) rfl rfl (hb hby hd) t k) K1
theorem g_initO (X : St p l e R s m args below meth c n0 T h cells slots) (hx : p.tables.exec = Jvm.exec) (hby : c.code = bs) (hZ : Z.Warmed39 s.vm) {own : String} {idx W : Nat} {a : Addr} (hown : s.vm.findClass own = some m.cls) (w1 : (Cond.methodLink own idx Lib.objectInit).before a0 Z = true) (w2 : (Cond.instanceMethod Lib.objectInit).before a0 Z = true) (w3 : (Cond.code Lib.objectInit ⟨#[0xb1]⟩ 1 none).before a0 Z = true) (hsz : L.size = c.maxLocals) (hd : decode bs pc = .ok (.invokespecial idx, 3)) (hf : 1 ≤ R.frames) (hW : 2 * 0 + (S.map fun v => v.category).sum ≤ W) (hlo : W + 12 ≤ R.locals) (hp : pc + 3 = pc') (K : ∀ T', St p l e R s m args below meth c n0 T' h cells slots → Gl p e below n0 Φ Q (T'.setTop (mkF m pc' L S))) : Gl p e below n0 Φ Q (T.setTop (mkF m pc L (.ref a :: S))) := by
  obtain ⟨locs, Y, eT, N⟩ := X; subst hp
  obtain ⟨T', Y', e', st⟩ := initO Y hx hZ hown w1 w2 w3 eT (g := mkF m pc L (.ref a :: S)) rfl hsz rfl (hb hby hd) hf (W := W) hW hlo
  exact Gl.st st (K T' ⟨locs, Y', e', N⟩)
theorem g_callS (X : St p l e R s m args below meth c n0 T h cells slots) (hx : p.tables.exec = Jvm.exec) (hby : c.code = bs) (hZ : Z.Warmed39 s.vm) {rm : Room} {y : MethodName} {bytes : ByteArray} {maxL : Nat} {ret : Option FieldType} {Qc : Option Value → Heap → Prop} {own : String} {idx : Nat} {argsL S0 : List Value} (hown : s.vm.findClass own = some m.cls) (w1 : (Cond.methodLink own idx y).before a0 Z = true) (w2 : (Cond.static y).before a0 Z = true) (w3 : (Cond.initialized y.cls).before a0 Z = true) (w4 : (Cond.code y bytes maxL ret).before a0 Z = true) (hy : y.cls ≠ "java/lang/invoke/MethodHandle" ∧ y.cls ≠ "java/lang/invoke/VarHandle") (hM : Ctr l Z y bytes maxL ret [] rm argsL.toArray h n0 rm.cells rm.slots Qc) (hsz : L.size = c.maxLocals) (hlen : ∀ sig, parseMethodDescriptor y.desc = some sig → argsL.length = sig.parameters.length) (hst : S0 = argsL.reverse ++ S) (hd : decode bs pc = .ok (.invokestatic idx, 3)) (hf : rm.frames + 1 ≤ R.frames) {W : Nat} (hW : 2 * 0 + (S.map fun v => v.category).sum ≤ W) (hlo : W + (maxL + 11) + rm.locals ≤ R.locals) (hc : cells + rm.cells ≤ R.cells) (hs : slots + rm.slots ≤ R.slots) (hp : pc + 3 = pc') (K : ∀ T' v, St p l e R s m args below meth c n0 T' T'.heap (cells + rm.cells) (slots + rm.slots) → Qc v T'.heap → Gl p e below n0 Φ Q (T'.setTop (mkF m pc' L (v.toList ++ S)))) : Gl p e below n0 Φ Q (T.setTop (mkF m pc L S0)) := by
  obtain ⟨locs, Y, eT, N⟩ := X; subst hp
  obtain ⟨v, _, ⟨T', L1, k1, n1⟩, -, Y', ⟨Lc, hQ, l1, y1, z1⟩, st⟩ := Jvm.LawKit.callS Y hx (y := y) hown (mvT hZ w1) (mvT hZ w2) (mvT hZ w3) (mvT hZ w4) hy (backOf (W := W) (Q := fun v h L => Qc v h ∧ Fr n0 L) hM hZ w4 w3 hf hlo) (g := mkF m pc L S0) rfl hsz (argsL := argsL) (rest := S) hlen hst hW (hb hby hd) (fun _ _ => ⟨rfl, eT, hc, hs⟩)
  dsimp only [Pt.U, Pt.locs, Pt.cells, Pt.slots] at Y' l1 y1 z1 st hQ
  subst l1 y1 z1
  exact Gl.st (st) (K T' v ⟨_, Y', rfl, Fr.app N hQ.2⟩ hQ.1)
theorem g_callC (X : St p l e R s m args below meth c n0 T h cells slots) (hx : p.tables.exec = Jvm.exec) (hby : c.code = bs) (hZ : Z.Warmed39 s.vm) {rm : Room} {y : MethodName} {bytes : ByteArray} {maxL : Nat} {Qc : Option Value → Heap → Prop} {own : String} {idx : Nat} {a : Addr} {argsL S0 : List Value} (hy1 : y.name = "<init>") (hown : s.vm.findClass own = some m.cls) (w1 : (Cond.methodLink own idx y).before a0 Z = true) (w2 : (Cond.instanceMethod y).before a0 Z = true) (w3 : (Cond.initialized y.cls).before a0 Z = true) (w4 : (Cond.code y bytes maxL none).before a0 Z = true) (hy : y.cls ≠ "java/lang/invoke/MethodHandle" ∧ y.cls ≠ "java/lang/invoke/VarHandle") (hM : Ctr l Z y bytes maxL none [] rm (.ref a :: argsL).toArray h n0 rm.cells rm.slots Qc) (hsz : L.size = c.maxLocals) (hlen : ∀ sig, parseMethodDescriptor y.desc = some sig → argsL.length = sig.parameters.length) (hst : S0 = argsL.reverse ++ .ref a :: S) (hd : decode bs pc = .ok (.invokespecial idx, 3)) (hf : rm.frames + 1 ≤ R.frames) {W : Nat} (hW : 2 * 0 + (S.map fun v => v.category).sum ≤ W) (hlo : W + (maxL + 11) + rm.locals ≤ R.locals) (hc : cells + rm.cells ≤ R.cells) (hs : slots + rm.slots ≤ R.slots) (hp : pc + 3 = pc') (K : ∀ T' v, St p l e R s m args below meth c n0 T' T'.heap (cells + rm.cells) (slots + rm.slots) → Qc v T'.heap → Gl p e below n0 Φ Q (T'.setTop (mkF m pc' L (v.toList ++ S)))) : Gl p e below n0 Φ Q (T.setTop (mkF m pc L S0)) := by
  obtain ⟨locs, Y, eT, N⟩ := X; subst hp
  obtain ⟨v, _, ⟨T', L1, k1, n1⟩, -, Y', ⟨Lc, hQ, l1, y1, z1⟩, st⟩ := Y.specialBack hx (y := y) hy1 hown (mvT hZ w1) (mvT hZ w2) (mvT hZ w4) hy (backOf (W := W) (Q := fun v h L => Qc v h ∧ Fr n0 L) hM hZ w4 w3 hf hlo) (g := mkF m pc L S0) rfl hsz (Steps.refl _) (a := a) (argsL := argsL) (rest := S) hlen hst hW (hb hby hd) (fun _ _ => ⟨rfl, eT, hc, hs⟩)
  dsimp only [Pt.U, Pt.locs, Pt.cells, Pt.slots] at Y' l1 y1 z1 st hQ
  subst l1 y1 z1
  exact Gl.st (fun t k => st.trans k) (K T' v ⟨_, Y', rfl, Fr.app N hQ.2⟩ hQ.1)
theorem g_callV (X : St p l e R s m args below meth c n0 T h cells slots) (hx : p.tables.exec = Jvm.exec) (hby : c.code = bs) (hZ : Z.Warmed39 s.vm) {rm : Room} {y : MethodName} {bytes : ByteArray} {maxL : Nat} {ret : Option FieldType} {Qc : Option Value → Heap → Prop} {own C : String} {idx : Nat} {a : Addr} {y' : MethodName} {argsL S0 : List Value} (hown : s.vm.findClass own = some m.cls) (w1 : (Cond.methodLink own idx y').before a0 Z = true) (w2 : (Cond.declares y').before a0 Z = true) (w5 : NotFace s y') (w6 : (Cond.selects C y' y).before a0 Z = true) (w7 : (Cond.instanceMethod y).before a0 Z = true) (w3 : (Cond.initialized y.cls).before a0 Z = true) (w4 : (Cond.code y bytes maxL ret).before a0 Z = true) (hy : y'.cls ≠ "java/lang/invoke/MethodHandle" ∧ y'.cls ≠ "java/lang/invoke/VarHandle") (E : Exa Z h a C) (hM : Ctr l Z y bytes maxL ret [] rm (.ref a :: argsL).toArray h n0 rm.cells rm.slots Qc) (hsz : L.size = c.maxLocals) (hlen : ∀ sig, parseMethodDescriptor y'.desc = some sig → argsL.length = sig.parameters.length) (hst : S0 = argsL.reverse ++ .ref a :: S) (hd : decode bs pc = .ok (.invokevirtual idx, 3)) (hf : rm.frames + 1 ≤ R.frames) {W : Nat} (hW : 2 * 0 + (S.map fun v => v.category).sum ≤ W) (hlo : W + (maxL + 11) + rm.locals ≤ R.locals) (hc : cells + rm.cells ≤ R.cells) (hs : slots + rm.slots ≤ R.slots) (hp : pc + 3 = pc') (K : ∀ T' v, St p l e R s m args below meth c n0 T' T'.heap (cells + rm.cells) (slots + rm.slots) → Qc v T'.heap → Gl p e below n0 Φ Q (T'.setTop (mkF m pc' L (v.toList ++ S)))) : Gl p e below n0 Φ Q (T.setTop (mkF m pc L S0)) := by
  obtain ⟨locs, Y, eT, N⟩ := X; subst hp
  obtain ⟨cB, kB, qa, qb, qc⟩ := isOf hZ eT E
  obtain ⟨v, _, ⟨T', L1, k1, n1⟩, -, Y', ⟨Lc, hQ, l1, y1, z1⟩, st⟩ := Y.virtualBack hx (y := y') (z := y) hown (mvT hZ w1) (mvT hZ w2) w5 (mvT hZ w6) (mvT hZ w7) hy (backOf (W := W) (Q := fun v h L => Qc v h ∧ Fr n0 L) hM hZ w4 w3 hf hlo) qa qc (g := mkF m pc L S0) rfl hsz (Steps.refl _) (argsL := argsL) (rest := S) hlen hst hW (hb hby hd) (fun _ _ => ⟨rfl, eT, hc, hs⟩)
  dsimp only [Pt.U, Pt.locs, Pt.cells, Pt.slots] at Y' l1 y1 z1 st hQ
  subst l1 y1 z1
  exact Gl.st (fun t k => st.trans k) (K T' v ⟨_, Y', rfl, Fr.app N hQ.2⟩ hQ.1)
end OwnSteps
abbrev own_room (f c s l : Nat) : Room := { frames := f, cells := c, slots := s, locals := l }
def Str (Z : State) (h : Heap) (b : Addr) (x : Int32) : Prop := ∃ a' : Addr, Exa Z h b "java/lang/String" ∧ Fld Z h b "java/lang/String" "value" "[B" (.ref a') ∧ Fld Z h b "java/lang/String" "coder" "B" (.int 0) ∧ Ary Z h a' .byte 1 (fun _ => .int x)
section OwnStr
variable {Z : State} {h h' : Heap} {a b : Addr} {x x' : Int32} {ws : List Addr} {a0 : Array Value}
theorem Str.exa (F : Str Z h b x) : Exa Z h b "java/lang/String" := by obtain ⟨_, E, -⟩ := F; exact E
theorem Str.ext (F : Str Z h b x) (E : Ext h h') : Str Z h' b x := by obtain ⟨a, f1, f2, f3, f4⟩ := F; exact ⟨a, f1.ext E, f2.ext E, f3.ext E, f4.ext E⟩
theorem Str.keep0 (F : Str Z h b x) (K : Keep h h' []) : Str Z h' b x := by obtain ⟨a, f1, f2, f3, f4⟩ := F; exact ⟨a, f1.keep K, f2.keep K nin0, f3.keep K nin0, f4.keep K nin0⟩
theorem Str.keep1 {C : String} {k : Nat} (F : Str Z h b x) (K : Keep h h' [a]) (E : Exa Z h a C) (wi : (Cond.instantiable C k).before a0 Z = true) (hC : "java/lang/String" ≠ C) : Str Z h' b x := by
  obtain ⟨a', f1, f2, f3, f4⟩ := F
  have q := ninS (ne_exa f1 E hC) (nin0 (x := b))
  obtain ⟨cl, A, r⟩ := f4
  have q' := ninS (Ne.symm (ne_arr E wi A)) (nin0 (x := a'))
  exact ⟨a', f1.keep K, f2.keep K q, f3.keep K q, Ary.keep ⟨cl, A, r⟩ K q'⟩
theorem Ary.inj {ty : FieldType} {n : Nat} {f g : Nat → Value} (F : Ary Z h a ty n f) (G : Ary Z h a ty n g) : ∀ i, i < n → f i = g i := fun i hi => by
  obtain ⟨c1, A1, s1, H1⟩ := F
  obtain ⟨c2, A2, s2, H2⟩ := G
  cases A1.1.symm.trans A2.1
  exact Option.some.inj ((H1 i hi).symm.trans (H2 i hi))
theorem Str.inj (F : Str Z h b x) (G : Str Z h b x') : x = x' := by
  obtain ⟨a1, -, f2, -, f4⟩ := F
  obtain ⟨a2, -, g2, -, g4⟩ := G
  cases own_fld_inj f2 g2
  cases Ary.inj f4 g4 0 (by decide)
  rfl
end OwnStr
theorem own_ary1 {Z : State} {h : Heap} {a : Addr} {ty : FieldType} {f : Nat → Value} {v : Value} (F : Ary Z h a ty 1 f) (e : f 0 = v) : Ary Z h a ty 1 (fun _ => v) := F.congr fun i hi => by
  have : i = 0 := by omega
  subst this; exact e
def own_y (c : Int32) : Int32 := nar .byte c.toInt8.toInt32
def own_e (x y : Int32) : Int32 := if x = y then 1 else 0
theorem own_e1 {x y : Int32} (q : ¬ own_e x y = 0) : own_e x y = 1 := by unfold own_e at *; split at q <;> simp_all
theorem own_b8 (x : Int32) : nar .byte (nar .byte x) = nar .byte x := by show x.toInt8.toInt32.toInt8.toInt32 = x.toInt8.toInt32; rw [Int8.toInt8_toInt32]
theorem own_y_inj {c d : Int32} (hc : 0 ≤ c.toInt ∧ c.toInt ≤ 255) (hd : 0 ≤ d.toInt ∧ d.toInt ≤ 255) (q : own_y c = own_y d) : c = d := by
  have e1 : own_y c = c.toInt8.toInt32 := own_b8 c
  have e2 : own_y d = d.toInt8.toInt32 := own_b8 d
  rw [e1, e2] at q
  have f1 := c_i2b c; have f2 := c_i2b d
  rw [q] at f1
  exact Int32.toInt_inj.mp (by omega)
def Lat (Z : State) (h : Heap) (b : Addr) (n : Nat) (f : Nat → Int32) : Prop := ∃ a' : Addr, Exa Z h b "java/lang/String" ∧ Fld Z h b "java/lang/String" "value" "[B" (.ref a') ∧ Fld Z h b "java/lang/String" "coder" "B" (.int 0) ∧ Ary Z h a' .byte n (fun i => .int (f i))
theorem Str.lat {Z : State} {h : Heap} {b : Addr} {x y : Int32} (F : Str Z h b x) (q : x = y) : Lat Z h b 1 (fun _ => y) := by subst q; exact F
theorem own_shr0 (N : Int32) : N >>> ((0 : Int32) &&& 31) = N := by
  show N >>> (0 : Int32) = N
  simp
theorem own_narc (x : Int32) : nar .char ((x &&& (255 : Int32)).toUInt32.toUInt16.toUInt32.toInt32) = x &&& 255 := by
  show ((x &&& (255 : Int32)).toUInt32.toUInt16.toUInt32.toInt32).toUInt32.toUInt16.toUInt32.toInt32 = x &&& 255
  rw [i2c_mask, i2c_mask]
theorem own_i2c {x : Int32} (h : 0 ≤ x.toInt ∧ x.toInt ≤ 65535) : x.toUInt32.toUInt16.toUInt32.toInt32 = x := by
  have q := c_i2c x
  exact Int32.toInt_inj.mp (by omega)
theorem own_narC {x : Int32} (h : 0 ≤ x.toInt ∧ x.toInt ≤ 65535) : nar .char x = x := own_i2c h
theorem own_cat {v : Value} (h : v.isRef = true) : v.category = 1 := by rcases ref_cases h with rfl | ⟨a, rfl⟩ <;> rfl
theorem own_y_id {c : Int32} (h : 0 ≤ c.toInt ∧ c.toInt ≤ 127) : own_y c = c := by
  have e1 : own_y c = c.toInt8.toInt32 := own_b8 c
  have f1 := c_i2b c
  rw [e1]; exact Int32.toInt_inj.mp (by omega)
theorem own_chr_y {c : Int32} (h : 0 ≤ c.toInt ∧ c.toInt ≤ 255) : own_y c &&& (255 : Int32) = c := by
  have e1 : own_y c = c.toInt8.toInt32 := own_b8 c
  have f1 := c_i2b c
  have h1 := c_mask c.toInt8.toInt32 255 8 (by decide) (by decide); have h5 : ((2 ^ 8 : Nat) : Int) = 256 := rfl
  rw [e1]; exact Int32.toInt_inj.mp (by omega)
theorem own_ilt {i n : Nat} {I N : Int32} (h1 : I.toInt = (i : Int)) (h2 : N.toInt = (n : Int)) (h : i < n) : I < N := Int32.lt_iff_toInt_lt.mpr (by omega)
theorem own_i0 {i : Nat} {I : Int32} (h1 : I.toInt = (i : Int)) : ¬ I < 0 := fun q => by have := Int32.lt_iff_toInt_lt.mp q; have z : (0 : Int32).toInt = 0 := rfl; omega
theorem own_le255 {c : Int32} (h : 0 ≤ c.toInt ∧ c.toInt ≤ 255) : ¬ (255 : Int32) < c := fun q => by
  have := Int32.lt_iff_toInt_lt.mp q; have z : (255 : Int32).toInt = 255 := rfl; omega
section OwnHeld
variable {p : Program} {l : Launch} {e : Env} {R : Room} {s : State} {m : MethodId} {args : Array Value} {below : List Frame} {meth : Method} {c : Code} {T : State} {n0 : Nat} {h : Heap} {cells slots : Nat} {cs sl : Nat} {Φ : Outcome → State → List Loc → Prop} {Q : Option Value → Heap → Prop} {pc pc' : Nat} {L L' : Array Slot} {S : List Value} {bs : ByteArray} {Z : State} {a0 : Array Value} {vm0 vmS : Vm} {k0 : Nat} {EL : List (String × Nat)} {ss : List Addr} {hh0 : Heap}
abbrev Fh (Z : State) (EL : List (String × Nat)) (h0 : Heap) (s : State) (cs sl : Nat) : Outcome → State → List Loc → Prop := fun o t L => CHr Z EL s.vm h0 t.vm t.heap ∧ ReturnedEndW s o t L cs sl
abbrev CtrH (l : Launch) (Z : State) (EL : List (String × Nat)) (ss : List Addr) (y : MethodName) (bytes : ByteArray) (maxL : Nat) (ret : Option FieldType) (ws : List Jvm.Cond) (rm : Room) (as' : Array Value) (h0 : Heap) (n0 cs sl : Nat) (Q : Option Value → Heap → Prop) : Prop :=
  MetFree l y (head1 (Jvm.Cond.code y bytes maxL ret :: ws) rm) (fun a U => a = as' ∧ Z.Warmed39 U.vm ∧ U.heap = h0 ∧ CHv Z EL U.vm h0 ∧ ∀ x ∈ ss, x < h0.size ∧ Safe Z EL U.vm h0 x) (fun _ _ _ _ _ => True) (fun _ U o U' => ∃ v L, o = .returned v ∧ (Q v U'.heap ∧ Fr n0 L) ∧ CHr Z EL U.vm U.heap U'.vm U'.heap ∧ ReturnedEndW U o U' L cs sl)
theorem CtrH.of {y : MethodName} {bytes : ByteArray} {maxL : Nat} {ret : Option FieldType} {ws : List Jvm.Cond} {rm : Room} {as' : Array Value} {h0 : Heap} (hn : plainFor y = true)
    (body : ∀ (p : Program) (e : Env) (s : State) (m : MethodId) (below : List Frame) (meth : Method) (c : Code) (T : State), p.tables.exec = Jvm.exec → c.code = bytes → c.maxLocals = maxL → meth.sig.returnType = ret → meth.locks = false → meth.name = y.name → (s.setVm s.vm).vm.findClass y.cls = some m.cls → Z.Warmed39 (s.setVm s.vm).vm →
      St p l e rm (s.setVm s.vm) m as' below meth c n0 T h0 0 0 → s.Since s.vm h0.size → CHr Z EL s.vm h0 s.vm h0 → (∀ x ∈ ss, x < h0.size ∧ Safe Z EL s.vm h0 x) → Gl p e below n0 (Fh Z EL h0 s cs sl) Q (T.setTop (entryFrame m as' maxL))) : CtrH l Z EL ss y bytes maxL ret ws rm as' h0 n0 cs sl Q := by
  refine MetFree.of_bodySF hn hisR ?_
  intro p e s m args below meth c s₁ Bd hml0 hP hK
  obtain ⟨rfl, hZ, hh, hH, hss⟩ := hP
  subst hh
  exact body p e s m below meth c s₁ Bd.exec Bd.bytes hml0 Bd.returns Bd.notSynchronized (name_of_methodNamed Bd.named Bd.method).1 (findClass_of_methodNamed Bd.named) hZ ⟨[], Stand.of_body Bd, by rw [Bd.state]; rfl, Fr.nil n0⟩ (own_since s s.heap.size) (CHr.refl hH) hss
theorem own_backH {y : MethodName} {bytes : ByteArray} {maxL : Nat} {ret : Option FieldType} {rm : Room} {len W : Nat} {as' : Array Value} {Q : Option Value → Heap → List Loc → Prop}
    (hM : MetFree l y (head1 [Cond.code y bytes maxL ret] rm) (fun a U => a = as' ∧ Z.Warmed39 U.vm ∧ U.heap = h ∧ CHv Z EL U.vm h ∧ ∀ x ∈ ss, x < h.size ∧ Safe Z EL U.vm h x) (fun _ _ _ _ _ => True) (fun _ U o U' => ∃ v L, o = .returned v ∧ Q v U'.heap L ∧ CHr Z EL U.vm U.heap U'.vm U'.heap ∧ ReturnedEndW U o U' L rm.cells rm.slots))
    (hZ : Z.Warmed39 vm0) (wc : (Cond.code y bytes maxL ret).before a0 Z = true) (wz : (Cond.initialized y.cls).before a0 Z = true) (hf : rm.frames + 1 ≤ R.frames) (hl : W + (maxL + 11) + rm.locals ≤ R.locals) (hEL : EW Z a0 EL) (H : CHv Z EL vm0 h) (hss : ∀ x ∈ ss, x < h.size ∧ Safe Z EL vm0 h x) :
    BackS l R p e below (s.setVm vm0) args y len W (fun A a => a = as' ∧ A.U.heap = h ∧ A.cells + rm.cells ≤ R.cells ∧ A.slots + rm.slots ≤ R.slots)
      (fun A _ v B => ∃ L, Q v B.U.heap L ∧ B.locs = A.locs ++ L ∧ B.cells = A.cells + rm.cells ∧ B.slots = A.slots + rm.slots ∧ CHr Z EL vm0 h B.U.vm B.U.heap) :=
  BackS.of_freeW (bytes := bytes) (maxL := maxL) (ret := ret) (E := fun _ first o t L k n => k = rm.cells ∧ n = rm.slots ∧ (∃ v, o = .returned v ∧ Q v t.heap L) ∧ CHr Z EL first.vm first.heap t.vm t.heap) hM hf hl
    (fun m meth c A a Y hp => have hU : Z.Warmed39 A.U.vm := wtrans (s := s.setVm vm0) hZ Y.warmed
      ⟨by show (Cond.and _ .tt).before a A.U = true; rw [Cond.before_and, mv hU wc]; rfl, mv hU wc, mv hU wz, hp.2.2.1, hp.2.2.2⟩)
    (fun m meth c A a g mk Y hp => ⟨hp.1, wtrans (s := s.setVm vm0) hZ Y.warmed, hp.2.1, (CHv.at Y hZ hEL H).1, fun x hx => ⟨(hss x hx).1, (CHv.at Y hZ hEL H).safe (hss x hx).1 (hss x hx).2⟩⟩) (fun _ _ _ _ _ _ _ _ _ => trivial)
    (fun _ _ _ _ ⟨v, L, h1, h2, h3, h4⟩ => ⟨L, _, _, h4, rfl, rfl, ⟨v, h1, h2⟩, h3⟩)
    (fun m meth c A a g mk v t L k n Y hp _ _ ⟨e1, e2, ⟨v', e3, e4⟩, e5⟩ => by
      cases e3; subst e1 e2
      refine ⟨L, e4, rfl, rfl, rfl, (CHv.at Y hZ hEL H).trans ?_⟩
      rw [← hp.2.1]; exact e5)
theorem gh_callS (X : St p l e R (s.setVm vm0) m args below meth c n0 T h cells slots) (hx : p.tables.exec = Jvm.exec) (hby : c.code = bs) (hZ : Z.Warmed39 (s.setVm vm0).vm) (hS : s.Since vm0 k0) (hk : k0 ≤ h.size) (hEL : EW Z a0 EL) (hC : CHr Z EL vmS hh0 vm0 h) (hss : ∀ x ∈ ss, x < h.size ∧ Safe Z EL vm0 h x) {rm : Room} {y : MethodName} {bytes : ByteArray} {maxL : Nat} {ret : Option FieldType} {Qc : Option Value → Heap → Prop} {own : String} {idx : Nat} {argsL S0 : List Value} (hown : (s.setVm vm0).vm.findClass own = some m.cls) (w1 : (Cond.methodLink own idx y).before a0 Z = true) (w2 : (Cond.static y).before a0 Z = true) (w3 : (Cond.initialized y.cls).before a0 Z = true) (w4 : (Cond.code y bytes maxL ret).before a0 Z = true) (hy : y.cls ≠ "java/lang/invoke/MethodHandle" ∧ y.cls ≠ "java/lang/invoke/VarHandle") (hM : CtrH l Z EL ss y bytes maxL ret [] rm argsL.toArray h n0 rm.cells rm.slots Qc) (hsz : L.size = c.maxLocals) (hlen : ∀ sig, parseMethodDescriptor y.desc = some sig → argsL.length = sig.parameters.length) (hst : S0 = argsL.reverse ++ S) (hd : decode bs pc = .ok (.invokestatic idx, 3)) (hf : rm.frames + 1 ≤ R.frames) {W : Nat} (hW : 2 * 0 + (S.map fun v => v.category).sum ≤ W) (hlo : W + (maxL + 11) + rm.locals ≤ R.locals) (hc : cells + rm.cells ≤ R.cells) (hs : slots + rm.slots ≤ R.slots) (hp : pc + 3 = pc') (K : ∀ T' v k1, St p l e R (s.setVm T'.vm) m args below meth c n0 T' T'.heap (cells + rm.cells) (slots + rm.slots) → s.Since T'.vm k1 → k1 ≤ T'.heap.size → Z.Warmed39 (s.setVm T'.vm).vm → (s.setVm T'.vm).vm.findClass own = some m.cls → CHr Z EL vmS hh0 T'.vm T'.heap → CHr Z EL vm0 h T'.vm T'.heap → Qc v T'.heap → Gl p e below n0 Φ Q (T'.setTop (mkF m pc' L (v.toList ++ S)))) : Gl p e below n0 Φ Q (T.setTop (mkF m pc L S0)) := by
  obtain ⟨locs, Y, eT, N⟩ := X; subst hp
  obtain ⟨v, _, ⟨T', L1, k1, n1⟩, -, Y', hS2, hgr, ⟨Lc, hQ, l1, y1, z1, hC2⟩, st⟩ := callSS Y hx (y := y) hown (mvT hZ w1) (mvT hZ w2) (mvT hZ w3) (mvT hZ w4) hy (own_backH (W := W) (Q := fun v h L => Qc v h ∧ Fr n0 L) hM hZ w4 w3 hf hlo hEL hC.1 hss) (g := mkF m pc L S0) rfl hsz (argsL := argsL) (rest := S) hlen hst hW (hb hby hd) (fun _ _ => ⟨rfl, eT, hc, hs⟩)
  dsimp only [Pt.U, Pt.locs, Pt.cells, Pt.slots] at Y' hS2 hgr l1 y1 z1 st hQ hC2
  subst l1 y1 z1
  obtain ⟨Y2, hS3, hZ3, hown3⟩ := rebS hS (by rw [← eT] at hk; exact hk) Y' hS2 hgr hZ hown
  exact Gl.st (fun t k => st.trans k) (K T' v _ ⟨_, Y2, rfl, Fr.app N hQ.2⟩ hS3 (Nat.le_refl _) hZ3 hown3 (hC.trans hC2) hC2 hQ.1)
theorem gh_callC (X : St p l e R (s.setVm vm0) m args below meth c n0 T h cells slots) (hx : p.tables.exec = Jvm.exec) (hby : c.code = bs) (hZ : Z.Warmed39 (s.setVm vm0).vm) (hS : s.Since vm0 k0) (hk : k0 ≤ h.size) (hEL : EW Z a0 EL) (hC : CHr Z EL vmS hh0 vm0 h) (hss : ∀ x ∈ ss, x < h.size ∧ Safe Z EL vm0 h x) {rm : Room} {y : MethodName} {bytes : ByteArray} {maxL : Nat} {Qc : Option Value → Heap → Prop} {own : String} {idx : Nat} {a : Addr} {argsL S0 : List Value} (hy1 : y.name = "<init>") (hown : (s.setVm vm0).vm.findClass own = some m.cls) (w1 : (Cond.methodLink own idx y).before a0 Z = true) (w2 : (Cond.instanceMethod y).before a0 Z = true) (w3 : (Cond.initialized y.cls).before a0 Z = true) (w4 : (Cond.code y bytes maxL none).before a0 Z = true) (hy : y.cls ≠ "java/lang/invoke/MethodHandle" ∧ y.cls ≠ "java/lang/invoke/VarHandle") (hM : CtrH l Z EL ss y bytes maxL none [] rm (.ref a :: argsL).toArray h n0 rm.cells rm.slots Qc) (hsz : L.size = c.maxLocals) (hlen : ∀ sig, parseMethodDescriptor y.desc = some sig → argsL.length = sig.parameters.length) (hst : S0 = argsL.reverse ++ .ref a :: S) (hd : decode bs pc = .ok (.invokespecial idx, 3)) (hf : rm.frames + 1 ≤ R.frames) {W : Nat} (hW : 2 * 0 + (S.map fun v => v.category).sum ≤ W) (hlo : W + (maxL + 11) + rm.locals ≤ R.locals) (hc : cells + rm.cells ≤ R.cells) (hs : slots + rm.slots ≤ R.slots) (hp : pc + 3 = pc') (K : ∀ T' v k1, St p l e R (s.setVm T'.vm) m args below meth c n0 T' T'.heap (cells + rm.cells) (slots + rm.slots) → s.Since T'.vm k1 → k1 ≤ T'.heap.size → Z.Warmed39 (s.setVm T'.vm).vm → (s.setVm T'.vm).vm.findClass own = some m.cls → CHr Z EL vmS hh0 T'.vm T'.heap → CHr Z EL vm0 h T'.vm T'.heap → Qc v T'.heap → Gl p e below n0 Φ Q (T'.setTop (mkF m pc' L (v.toList ++ S)))) : Gl p e below n0 Φ Q (T.setTop (mkF m pc L S0)) := by
  obtain ⟨locs, Y, eT, N⟩ := X; subst hp
  obtain ⟨v, _, ⟨T', L1, k1, n1⟩, -, Y', hS2, hgr, ⟨Lc, hQ, l1, y1, z1, hC2⟩, st⟩ := Y.specialBackS hx (y := y) hy1 hown (mvT hZ w1) (mvT hZ w2) (mvT hZ w4) hy (own_backH (W := W) (Q := fun v h L => Qc v h ∧ Fr n0 L) hM hZ w4 w3 hf hlo hEL hC.1 hss) (g := mkF m pc L S0) rfl hsz (Steps.refl _) (a := a) (argsL := argsL) (rest := S) hlen hst hW (hb hby hd) (fun _ _ => ⟨rfl, eT, hc, hs⟩)
  dsimp only [Pt.U, Pt.locs, Pt.cells, Pt.slots] at Y' hS2 hgr l1 y1 z1 st hQ hC2
  subst l1 y1 z1
  obtain ⟨Y2, hS3, hZ3, hown3⟩ := rebS hS (by rw [← eT] at hk; exact hk) Y' hS2 hgr hZ hown
  exact Gl.st (fun t k => st.trans k) (K T' v _ ⟨_, Y2, rfl, Fr.app N hQ.2⟩ hS3 (Nat.le_refl _) hZ3 hown3 (hC.trans hC2) hC2 hQ.1)
theorem gh_callV (X : St p l e R (s.setVm vm0) m args below meth c n0 T h cells slots) (hx : p.tables.exec = Jvm.exec) (hby : c.code = bs) (hZ : Z.Warmed39 (s.setVm vm0).vm) (hS : s.Since vm0 k0) (hk : k0 ≤ h.size) (hEL : EW Z a0 EL) (hC : CHr Z EL vmS hh0 vm0 h) (hss : ∀ x ∈ ss, x < h.size ∧ Safe Z EL vm0 h x) {rm : Room} {y : MethodName} {bytes : ByteArray} {maxL : Nat} {ret : Option FieldType} {Qc : Option Value → Heap → Prop} {own C : String} {idx : Nat} {a : Addr} {y' : MethodName} {argsL S0 : List Value} (hown : (s.setVm vm0).vm.findClass own = some m.cls) (w1 : (Cond.methodLink own idx y').before a0 Z = true) (w2 : (Cond.declares y').before a0 Z = true) (w5 : NotFace (s.setVm vm0) y') (w6 : (Cond.selects C y' y).before a0 Z = true) (w7 : (Cond.instanceMethod y).before a0 Z = true) (w3 : (Cond.initialized y.cls).before a0 Z = true) (w4 : (Cond.code y bytes maxL ret).before a0 Z = true) (hy : y'.cls ≠ "java/lang/invoke/MethodHandle" ∧ y'.cls ≠ "java/lang/invoke/VarHandle") (E : Exa Z h a C) (hM : CtrH l Z EL ss y bytes maxL ret [] rm (.ref a :: argsL).toArray h n0 rm.cells rm.slots Qc) (hsz : L.size = c.maxLocals) (hlen : ∀ sig, parseMethodDescriptor y'.desc = some sig → argsL.length = sig.parameters.length) (hst : S0 = argsL.reverse ++ .ref a :: S) (hd : decode bs pc = .ok (.invokevirtual idx, 3)) (hf : rm.frames + 1 ≤ R.frames) {W : Nat} (hW : 2 * 0 + (S.map fun v => v.category).sum ≤ W) (hlo : W + (maxL + 11) + rm.locals ≤ R.locals) (hc : cells + rm.cells ≤ R.cells) (hs : slots + rm.slots ≤ R.slots) (hp : pc + 3 = pc') (K : ∀ T' v k1, St p l e R (s.setVm T'.vm) m args below meth c n0 T' T'.heap (cells + rm.cells) (slots + rm.slots) → s.Since T'.vm k1 → k1 ≤ T'.heap.size → Z.Warmed39 (s.setVm T'.vm).vm → (s.setVm T'.vm).vm.findClass own = some m.cls → CHr Z EL vmS hh0 T'.vm T'.heap → CHr Z EL vm0 h T'.vm T'.heap → Qc v T'.heap → Gl p e below n0 Φ Q (T'.setTop (mkF m pc' L (v.toList ++ S)))) : Gl p e below n0 Φ Q (T.setTop (mkF m pc L S0)) := by
  obtain ⟨locs, Y, eT, N⟩ := X; subst hp
  obtain ⟨cB, kB, qa, qb, qc⟩ := isOf hZ eT E
  obtain ⟨v, _, ⟨T', L1, k1, n1⟩, -, Y', hS2, hgr, ⟨Lc, hQ, l1, y1, z1, hC2⟩, st⟩ := Y.virtualBackS hx (y := y') (z := y) hown (mvT hZ w1) (mvT hZ w2) w5 (mvT hZ w6) (mvT hZ w7) hy (own_backH (W := W) (Q := fun v h L => Qc v h ∧ Fr n0 L) hM hZ w4 w3 hf hlo hEL hC.1 hss) qa qc (g := mkF m pc L S0) rfl hsz (Steps.refl _) (argsL := argsL) (rest := S) hlen hst hW (hb hby hd) (fun _ _ => ⟨rfl, eT, hc, hs⟩)
  dsimp only [Pt.U, Pt.locs, Pt.cells, Pt.slots] at Y' hS2 hgr l1 y1 z1 st hQ hC2
  subst l1 y1 z1
  obtain ⟨Y2, hS3, hZ3, hown3⟩ := rebS hS (by rw [← eT] at hk; exact hk) Y' hS2 hgr hZ hown
  exact Gl.st (fun t k => st.trans k) (K T' v _ ⟨_, Y2, rfl, Fr.app N hQ.2⟩ hS3 (Nat.le_refl _) hZ3 hown3 (hC.trans hC2) hC2 hQ.1)
theorem gh_ldc (X : St p l e R (s.setVm vm0) m args below meth c n0 T h cells slots) (hx : p.tables.exec = Jvm.exec) (hby : c.code = bs) (hZ : Z.Warmed39 (s.setVm vm0).vm) (hS : s.Since vm0 k0) (hk : k0 ≤ h.size) (hEL : EW Z a0 EL) (hC : CHr Z EL vmS hh0 vm0 h) {own text : String} {index n : Nat} (hown : (s.setVm vm0).vm.findClass own = some m.cls) (w : (Cond.stringLink own index text).before a0 Z = true) (wS : ∀ a ∈ Bundle.stringAtoms, a.before a0 Z = true) (hmem : (own, index) ∈ EL) {vs : List Value} {kn : Nat} {f : Nat → Int32} (ht : (∀ c ∈ text.toList, c.toNat < 256) ∧ text.toList.map (fun c => Value.int (Jvm.Lit.byteI c.toNat.toUInt16)) = vs) (hl1 : vs.length = kn) (hl2 : kn < 2147483648) (hf : ∀ i, i < kn → vs.getD i (.int 0) = .int (f i)) (hd : decode bs pc = .ok (.ldc index, 2)) (hn : 4 * text.toList.length ≤ n) (hbig : n ≤ 536870912) (hc : cells + 2 ≤ R.cells) (hl : slots + (n + 4) ≤ R.slots) (hp : pc + 2 = pc') (K : ∀ (a b : Addr) T' h' k1, St p l e R (s.setVm T'.vm) m args below meth c n0 T' h' (cells + 2) (slots + (n + 4)) → s.Since T'.vm k1 → k1 ≤ h'.size → Z.Warmed39 (s.setVm T'.vm).vm → (s.setVm T'.vm).vm.findClass own = some m.cls → CHr Z EL vmS hh0 T'.vm h' → CHr Z EL vm0 h T'.vm h' → Ext h h' → Exa Z h' a "java/lang/String" → Fld Z h' a "java/lang/String" "coder" "B" (.int 0) → Fld Z h' a "java/lang/String" "value" "[B" (.ref b) → Ary Z h' b .byte kn (fun i => .int (f i)) → Lit (s.setVm T'.vm) own index a → (∀ x, Safe Z EL T'.vm h' x → x ≠ a ∧ x ≠ b) → Gl p e below n0 Φ Q (T'.setTop (mkF m pc' L (.ref a :: S)))) : Gl p e below n0 Φ Q (T.setTop (mkF m pc L S)) := by
  obtain ⟨locs, Y, eT, N⟩ := X; subst hp
  have ek : (Int32.ofNat kn).toInt = (kn : Int) := Int32.toInt_ofNat_of_lt (by omega)
  have ez : (0 : Int32).toInt = 0 := rfl
  have ec : (Int32.ofNat kn).toNatClampNeg = kn := by simp only [Int32.toNatClampNeg]; omega
  obtain ⟨a, T', h', k1, b, kc, Y', e', E, S1, hk1, hZ1, hown1, x1, x2, x3, ⟨cl, Ar, -, sz, -, H, -⟩, -, -, hC2, hL, hne, st⟩ := ldcCH Y hx hZ hown w wS eT hS hk hEL hmem hC.1 ht (z := Int32.ofNat kn) (by rw [Int32.lt_iff_toInt_lt]; omega) (by rw [ec]; exact hl1.symm) (g := mkF m pc L S) rfl (hb hby hd) hn hbig hc hl
  exact Gl.st st (K a b T' h' k1 ⟨locs, Y', e', N⟩ S1 hk1 hZ1 hown1 (hC.trans hC2) hC2 E x1 x2 x3 ⟨cl, Ar, by rw [sz, ec], fun i hi => by rw [H i (by rw [sz, ec]; exact hi), hf i hi]⟩ hL hne)
theorem gh_again (X : St p l e R (s.setVm vm0) m args below meth c n0 T h cells slots) (hx : p.tables.exec = Jvm.exec) (hby : c.code = bs) (hZ : Z.Warmed39 (s.setVm vm0).vm) {own text : String} {index : Nat} (hown : (s.setVm vm0).vm.findClass own = some m.cls) (w : (Cond.stringLink own index text).before a0 Z = true) {a : Addr} (hL : Lit (s.setVm vm0) own index a) (hd : decode bs pc = .ok (.ldc index, 2)) (hp : pc + 2 = pc') (K : Gl p e below n0 Φ Q (T.setTop (mkF m pc' L (.ref a :: S)))) : Gl p e below n0 Φ Q (T.setTop (mkF m pc L S)) := by
  obtain ⟨locs, Y, eT, N⟩ := X; subst hp
  exact Gl.st (ldcAgain Y hx hZ hown w hL (g := mkF m pc L S) rfl (hb hby hd)) K
theorem gh_ret (X : St p l e R (s.setVm vm0) m args below meth c n0 T h cells slots) (hx : p.tables.exec = Jvm.exec) (hby : c.code = bs) (hZ : Z.Warmed39 (s.setVm vm0).vm) (hS : s.Since vm0 k0) (hk : k0 ≤ h.size) (hEL : EW Z a0 EL) (hC : CHr Z EL s.vm hh0 vm0 h) (hret : meth.sig.returnType = none) (hlk : meth.locks = false) (hd : decode bs pc = .ok (.return_, 1)) (hq : Q none h) (hc : cells ≤ cs) (hs : slots ≤ sl) : Gl p e below n0 (Fh Z EL hh0 s cs sl) Q (T.setTop (mkF m pc L [])) := by
  obtain ⟨locs, Y, eT, N⟩ := X
  have hA := hC.trans (CHv.at Y hZ hEL hC.1)
  obtain ⟨fs, hr, hrun, hended, r1, r2, r3, r4⟩ := Y.leaveW hS (by rw [eT]; exact hk) (v := none) (fun _ => rfl) hlk
  exact ⟨_, _, Y.returnOut hx hret (hb hby hd) hr, hrun, hended, _, locs, rfl, ⟨(show Q _ T.heap by rw [eT]; exact hq), N⟩, (show CHr Z EL s.vm hh0 T.vm T.heap by rw [eT]; exact hA), r1, r2, r3, r4.mono hc hs⟩
theorem gh_retA (X : St p l e R (s.setVm vm0) m args below meth c n0 T h cells slots) (hx : p.tables.exec = Jvm.exec) (hby : c.code = bs) (hZ : Z.Warmed39 (s.setVm vm0).vm) (hS : s.Since vm0 k0) (hk : k0 ≤ h.size) (hEL : EW Z a0 EL) (hC : CHr Z EL s.vm hh0 vm0 h) {t : FieldType} {w : Value} (hret : meth.sig.returnType = some t) (hlk : meth.locks = false) (ht : t.isReference = true) (hw : w.isRef = true) (hd : decode bs pc = .ok (.areturn, 1)) (hq : Q (some w) h) (hc : cells ≤ cs) (hs : slots ≤ sl) : Gl p e below n0 (Fh Z EL hh0 s cs sl) Q (T.setTop (mkF m pc L (w :: S))) := by
  obtain ⟨locs, Y, eT, N⟩ := X
  have hA := hC.trans (CHv.at Y hZ hEL hC.1)
  have hn : narrow t w = w := by rcases ref_cases hw with rfl | ⟨a, rfl⟩ <;> cases t <;> first | rfl | (cases ht; done)
  obtain ⟨fs, hr, hrun, hended, r1, r2, r3, r4⟩ := Y.leaveW hS (by rw [eT]; exact hk) (v := some w) (fun q => by rw [hret] at q; cases q) hlk
  exact ⟨_, _, retOut Y hx hret hn (Or.inr (Or.inr (Or.inr (Or.inr ⟨rfl, ht, hw⟩)))) (hb hby hd) hr, hrun, hended, _, locs, rfl, ⟨(show Q _ T.heap by rw [eT]; exact hq), N⟩, (show CHr Z EL s.vm hh0 T.vm T.heap by rw [eT]; exact hA), r1, r2, r3, r4.mono hc hs⟩
theorem own_nss : ∀ x ∈ ([] : List Addr), x < h.size ∧ Safe Z EL vm0 h x := fun x q => nomatch q
theorem own_nsf : ∀ x ∈ ([] : List Addr), Safe Z EL vm0 h x := fun x q => nomatch q
theorem own_ss1 {P : Addr → Prop} {y : Addr} (q : P y) : ∀ x ∈ [y], P x := fun x hx => by cases List.mem_singleton.mp hx; exact q
end OwnHeld
abbrev own_EL : List (String × Nat) := [("java/lang/String", 7), ("java/lang/StringLatin1", 151)]
theorem own_hEL {Z : State} {a0 : Array Value} (hw : ∀ d ∈ tables_1, d.before a0 Z = true) : EW Z a0 own_EL := EW.cons (hw _ (List.mem_of_getElem? (i := 19) rfl)) (by decide) (EW.cons (hw _ (List.mem_of_getElem? (i := 133) rfl)) (by decide) (EW.nil))
theorem own_wS {Z : State} {a0 : Array Value} (hw : ∀ d ∈ tables_1, d.before a0 Z = true) : ∀ a ∈ Bundle.stringAtoms, a.before a0 Z = true := by
  intro a ha; simp only [Bundle.stringAtoms, List.mem_cons, List.not_mem_nil, or_false] at ha
  rcases ha with rfl | rfl | rfl | rfl | rfl | rfl | rfl
  · exact (hw _ (List.mem_of_getElem? (i := 8) rfl))
  · exact (hw _ (List.mem_of_getElem? (i := 7) rfl))
  · exact (hw _ (List.mem_of_getElem? (i := 20) rfl))
  · exact (hw _ (List.mem_of_getElem? (i := 21) rfl))
  · exact (hw _ (List.mem_of_getElem? (i := 22) rfl))
  · exact (hw _ (List.mem_of_getElem? (i := 23) rfl))
  · exact (hw _ (List.mem_of_getElem? (i := 24) rfl))
theorem own_lt {a b : Int32} (q : a.toInt < b.toInt) : a < b := Int32.lt_iff_toInt_lt.mpr q
theorem own_nlt {a b : Int32} (q : b.toInt ≤ a.toInt) : ¬ a < b := fun z => by have := Int32.lt_iff_toInt_lt.mp z; omega
theorem own_dec1 {i : Int32} (q : 0 ≤ i.toInt) : (i - (1 : Int32)).toInt = i.toInt - 1 := by
  have h1 := c_isub i 1; have h2 := rng32 i; have h3 := rng32 (i - 1); have h4 : (1 : Int32).toInt = 1 := rfl
  omega
theorem own_decm {i : Int32} (q : 0 ≤ i.toInt) : (i + (-1 : Int32)).toInt = i.toInt - 1 := by
  have h1 := c_iadd i (-1); have h2 := rng32 i; have h3 := rng32 (i + (-1)); have h4 : (-1 : Int32).toInt = -1 := rfl
  omega
theorem own_inc {i : Int32} (q : i.toInt < 2147483647) : (i + (1 : Int32)).toInt = i.toInt + 1 := by
  have h1 := c_iadd i 1; have h2 := rng32 i; have h3 := rng32 (i + 1); have h4 : (1 : Int32).toInt = 1 := rfl
  omega
theorem own_subi {a b : Int32} (h1 : 0 ≤ b.toInt) (h2 : b.toInt ≤ a.toInt) : (a - b).toInt = a.toInt - b.toInt := by
  have e1 := c_isub a b; have e2 := rng32 a; have e3 := rng32 (a - b)
  omega
theorem own_addsub {a b : Int32} (h1 : 0 ≤ b.toInt) (h2 : b.toInt ≤ a.toInt) : b + (a - b) = a := by
  have e0 := own_subi h1 h2; have e1 := c_iadd b (a - b); have e2 := rng32 a; have e3 := rng32 (b + (a - b))
  exact Int32.toInt_inj.mp (by omega)
theorem own_ne0 {a : Int32} (h : 1 ≤ a.toInt) : ¬ a = 0 := fun q => by rw [q] at h; exact absurd h (by decide)
theorem own_dot {c : Int32} (h : 0 ≤ c.toInt ∧ c.toInt ≤ 255) : own_y c = 46 ↔ c = 46 := by
  constructor
  · intro q; have r := own_chr_y h; rw [q] at r; rw [← r]; rfl
  · intro q; rw [q]; decide
def own_cf (c0 c1 c2 c3 : Int32) : Nat → Int32
  | 0 => c0
  | 1 => c1
  | 2 => c2
  | _ => c3
theorem own_cfr {c0 c1 c2 c3 : Int32} (h0 : 0 ≤ c0.toInt ∧ c0.toInt ≤ 255) (h1 : 0 ≤ c1.toInt ∧ c1.toInt ≤ 255) (h2 : 0 ≤ c2.toInt ∧ c2.toInt ≤ 255) (h3 : 0 ≤ c3.toInt ∧ c3.toInt ≤ 255) (i : Nat) : 0 ≤ (own_cf c0 c1 c2 c3 i).toInt ∧ (own_cf c0 c1 c2 c3 i).toInt ≤ 255 := by
  match i with
  | 0 => exact h0
  | 1 => exact h1
  | 2 => exact h2
  | (k + 3) => exact h3
theorem own_five (x : Int32) : (x &&& (2147483647 : Int32)) % (5 : Int32) = 0 ∨ (x &&& (2147483647 : Int32)) % (5 : Int32) = 1 ∨ (x &&& (2147483647 : Int32)) % (5 : Int32) = 2 ∨ (x &&& (2147483647 : Int32)) % (5 : Int32) = 3 ∨ (x &&& (2147483647 : Int32)) % (5 : Int32) = 4 := by
  have h2 := c_mask x 2147483647 31 (by decide) (by decide +kernel)
  have h3 : ((2 ^ 31 : Nat) : Int) = 2147483648 := rfl
  have h4 := (c_irem (x &&& 2147483647) 5 5 rfl).1 (by omega)
  have e0 : (0 : Int32).toInt = 0 := rfl; have e1 : (1 : Int32).toInt = 1 := rfl; have e2 : (2 : Int32).toInt = 2 := rfl; have e3 : (3 : Int32).toInt = 3 := rfl; have e4 : (4 : Int32).toInt = 4 := rfl
  simp only [← Int32.toInt_inj, e0, e1, e2, e3, e4]
  omega
theorem own_ch (x : Int32) : 0 ≤ (x &&& (255 : Int32)).toInt ∧ (x &&& (255 : Int32)).toInt ≤ 255 := by
  have h1 := c_mask x 255 8 (by decide) (by decide); have h5 : ((2 ^ 8 : Nat) : Int) = 256 := rfl
  omega
def own_cp (f f' : Nat → Value) (sp dp nn : Nat) : Nat → Value := fun i => if dp ≤ i ∧ i < dp + nn then f (sp + (i - dp)) else f' i
theorem own_arv {Z : State} {h : Heap} {a : Addr} {ty : FieldType} {n : Nat} {f : Nat → Value} {z : Int32} (A : Ary Z h a ty n f) (hz : z.toInt = (n : Int)) (hf : ∀ i, i < n → fits ty (f i) = true) (d : Value) : ∃ k, Arv Z h a k ty z ((List.range n).map f) d := by
  obtain ⟨c, Ar, sz, H⟩ := A
  have e : ∀ i, i < n → ((List.range n).map f).getD i d = f i := fun i hi => by simp [List.getD_eq_getElem?_getD, hi]
  refine ⟨c.cls, c, Ar, rfl, by rw [sz]; simp only [Int32.toNatClampNeg]; omega, fun q => ?_, fun i hi => ?_, fun i hi => ?_⟩
  · rw [Int32.lt_iff_toInt_lt] at q; have : (0 : Int32).toInt = 0 := rfl; omega
  · rw [sz] at hi; rw [e i hi]; exact H i hi
  · rw [sz] at hi; rw [e i hi]; exact hf i hi
theorem own_list (f f' : Nat → Value) (sp dp nn n : Nat) (h : dp + nn ≤ n) (d : Value) {i : Nat} (hi : i < n) : (((List.range n).map f').take dp ++ ((List.range nn).map fun j => f (sp + j)) ++ ((List.range n).map f').drop (dp + nn)).getD i d = own_cp f f' sp dp nn i := by
  simp only [List.getD_eq_getElem?_getD, own_cp]
  by_cases h1 : i < dp
  · rw [List.append_assoc, List.getElem?_append_left (by simp; omega), List.getElem?_take_of_lt h1]
    simp [hi, show ¬ (dp ≤ i ∧ i < dp + nn) by omega]
  · by_cases h2 : i < dp + nn
    · rw [List.append_assoc, List.getElem?_append_right (by simp; omega), List.getElem?_append_left (by simp; omega)]
      have e : i - (List.take dp ((List.range n).map f')).length = i - dp := by simp; omega
      rw [e]
      simp [show i - dp < nn by omega, show dp ≤ i ∧ i < dp + nn by omega]
    · rw [List.getElem?_append_right (by simp; omega), List.getElem?_drop]
      have e : dp + nn + (i - (List.take dp ((List.range n).map f') ++ (List.range nn).map fun j => f (sp + j)).length) = i := by simp; omega
      rw [e]
      simp [hi, show ¬ (dp ≤ i ∧ i < dp + nn) by omega]
section OwnCopy
variable {p : Program} {l : Launch} {e : Env} {R : Room} {s : State} {m : MethodId} {args : Array Value} {below : List Frame} {meth : Method} {c : Code} {T : State} {n0 : Nat} {h : Heap} {cells slots : Nat} {Φ : Outcome → State → List Loc → Prop} {Q : Option Value → Heap → Prop} {pc pc' : Nat} {L : Array Slot} {S : List Value} {bs : ByteArray} {Z : State} {a0 : Array Value}
theorem own_acopy (X : St p l e R s m args below meth c n0 T h cells slots) (hx : p.tables.exec = Jvm.exec) (hby : c.code = bs) (hZ : Z.Warmed39 s.vm) {own : String} {index : Nat} (hown : s.vm.findClass own = some m.cls)
    (w1 : (Cond.methodLink own index Jvm.Stand.acN).before a0 Z = true) (w2 : (Cond.native Jvm.Stand.acN).before a0 Z = true) (w3 : (Cond.static Jvm.Stand.acN).before a0 Z = true) (w4 : (Cond.initialized "java/lang/System").before a0 Z = true)
    {a b : Addr} {f f' : Nat → Value} {sp dp nn : Int32} {isp idp inn : Nat} {na nb : Nat} {za zb : Int32} (ea : za.toInt = (na : Int)) (eb : zb.toInt = (nb : Int)) (A : Ary Z h a .byte na f) (B : Ary Z h b .byte nb f') (fa : ∀ i, i < na → fits .byte (f i) = true) (fb : ∀ i, i < nb → fits .byte (f' i) = true)
    (e1 : sp.toInt = (isp : Int)) (e2 : dp.toInt = (idp : Int)) (e3 : nn.toInt = (inn : Int)) (h4 : isp + inn ≤ na) (h5 : idp + inn ≤ nb) (hn0 : n0 ≤ b) (hsz : L.size = c.maxLocals) (hd : decode bs pc = .ok (.invokestatic index, 3))
    (hf : 1 ≤ R.frames) {W : Nat} (hW : 2 * 0 + (S.map fun v => v.category).sum ≤ W) (hlo : W + (nativeFrameWords "java/lang/System" "arraycopy" 5 + 11) ≤ R.locals) (hp : pc + 3 = pc')
    (K : ∀ T' h', St p l e R s m args below meth c n0 T' h' cells slots → Keep h h' [b] → Ary Z h' b .byte nb (own_cp f f' isp idp inn) → Gl p e below n0 Φ Q (T'.setTop (mkF m pc' L S))) :
    Gl p e below n0 Φ Q (T.setTop (mkF m pc L (.int nn :: .int dp :: .ref b :: .int sp :: .ref a :: S))) := by
  obtain ⟨locs, Y, eT, N⟩ := X; subst hp
  have z : (0 : Int32).toInt = 0 := rfl
  have q1 : sp.toNatClampNeg = isp := by simp only [Int32.toNatClampNeg]; omega
  have q2 : dp.toNatClampNeg = idp := by simp only [Int32.toNatClampNeg]; omega
  have q3 : nn.toNatClampNeg = inn := by simp only [Int32.toNatClampNeg]; omega
  obtain ⟨ka, Va⟩ := own_arv (z := za) A ea fa (.int 0)
  obtain ⟨kb, Vb⟩ := own_arv (z := zb) B eb fb (.int 0)
  have q6a : za.toNatClampNeg = na := by simp only [Int32.toNatClampNeg]; omega
  have q6 : zb.toNatClampNeg = nb := by simp only [Int32.toNatClampNeg]; omega
  obtain ⟨T', h', L', Y', e', N', K', V', st⟩ := cpA Y hx hZ hown w1 w2 w3 w4 eT Va Vb (us := (List.range inn).map fun j => f (isp + j)) (Or.inl ⟨rfl, rfl⟩)
    (by rw [Int32.lt_iff_toInt_lt]; omega) (by rw [Int32.lt_iff_toInt_lt]; omega) (by rw [Int32.lt_iff_toInt_lt]; omega) (by rw [q1, q3, q6a]; exact h4) (by rw [q2, q3, q6]; exact h5)
    (by rw [q1, q3]; refine List.map_congr_left fun i hi => ?_; have := List.mem_range.mp hi; simp [List.getD_eq_getElem?_getD, show isp + i < na by omega]) (by rw [q2, q3]; simpa using h5) N hn0
    (g := mkF m pc L (.int nn :: .int dp :: .ref b :: .int sp :: .ref a :: S)) rfl hsz rfl (hb hby hd) hf hW hlo
  rw [q2, q3] at V'
  obtain ⟨cl, Ar, -, sz, -, H, -⟩ := V'
  rw [q6] at sz
  exact Gl.st st (K T' h' ⟨L', Y', e', N'⟩ K' ⟨cl, Ar, sz, fun i hi => by rw [H i (by omega), own_list f f' isp idp inn nb h5 _ hi]⟩)
end OwnCopy
set_option maxRecDepth 65536 in
set_option maxHeartbeats 40000000 in
theorem own_ef1 (m : MethodId) (y0 : Addr)  : entryFrame m #[(.ref y0)] 1 = mkF m 0 #[.val (.ref y0)] [] := by first | (simp [entryFrame, mkF, argsToLocals, Value.category, maxLocals]; done) | rfl
theorem own_pn0 : plainName "java/lang/String" = true := by first | (simp [plainName, overriddenIn]; done) | decide +kernel
theorem own_d0_0 : decode jdk_42_method_152_code 0 = .ok (.getstatic 38, 3) := by decide +kernel
theorem own_d0_3 : decode jdk_42_method_152_code 3 = .ok (.ifCond .eq 10, 3) := by decide +kernel
theorem own_d0_6 : decode jdk_42_method_152_code 6 = .ok (.aload_n 0, 1) := by decide +kernel
theorem own_d0_7 : decode jdk_42_method_152_code 7 = .ok (.getfield 15, 3) := by decide +kernel
theorem own_d0_10 : decode jdk_42_method_152_code 10 = .ok (.goto 4, 3) := by decide +kernel
theorem own_d0_14 : decode jdk_42_method_152_code 14 = .ok (.ireturn, 1) := by decide +kernel
set_option maxRecDepth 65536 in
set_option maxHeartbeats 40000000 in
theorem own_co (l : Launch) (Z : State) (a0 : Array Value) (hw : ∀ d ∈ tables_1, d.before a0 Z = true) (y0 : Addr) (h0 : Heap) (n0 : Nat) (n : Nat) (N : Int32) (f : Nat → Int32) (hN : N.toInt = (n : Int)) (P0 : Lat Z h0 y0 n f) (cs : Int32) (Sc : Sta Z h0 "java/lang/String" "COMPACT_STRINGS" "Z" (.int cs)) (hcs : ¬ cs = 0) :
    Ctr l Z (⟨"java/lang/String", "coder", "()B"⟩ : MethodName) jdk_42_method_152_code 1 (some .byte) [] (own_room 0 0 0 0) #[(.ref y0)] h0 n0 0 0 (fun v h => v = some (.int 0) ∧ h = h0) := by
  refine Ctr.of (plainFor_of_name own_pn0) ?_
  intro p e s m below meth c T0 hx hby hml hret hlk hnm hown hZ X0
  rw [own_ef1 m (y0)]
  obtain ⟨v0, LE0, LV0, LC0, LA0⟩ := P0
  refine g_getS X0 hx hby hZ hown (hw _ (List.mem_of_getElem? (i := 46) rfl)) Via.refl Sc own_d0_0 (pc' := 3) rfl (fun T2 X2 => ?_)
  refine g_if_eq X2 hx hby own_d0_3 (by decide) (pc' := 13) (by decide) (pc2 := 6) rfl (fun q => absurd q hcs) (fun c3_3 => ?_)
  refine g_aloadN X2 hx hby own_d0_6 rfl rfl (pc' := 7) rfl ?_
  refine g_getF X2 hx hby hZ hown (hw _ (List.mem_of_getElem? (i := 26) rfl)) Via.refl LC0 own_d0_7 (pc' := 10) rfl (fun T4 X4 => ?_)
  refine g_goto X4 hx hby own_d0_10 (by decide) (pc' := 14) (by decide) ?_
  exact g_retN X4 hx hby hret hlk (by simp) own_d0_14 ⟨rfl, rfl⟩ (by decide) (by decide)
set_option maxRecDepth 65536 in
set_option maxHeartbeats 40000000 in
theorem own_ef5 (m : MethodId) (y0 : Addr)  : entryFrame m #[(.ref y0)] 1 = mkF m 0 #[.val (.ref y0)] [] := by first | (simp [entryFrame, mkF, argsToLocals, Value.category, maxLocals]; done) | rfl
theorem own_d1_0 : decode jdk_42_method_154_code 0 = .ok (.getstatic 38, 3) := by decide +kernel
theorem own_d1_3 : decode jdk_42_method_154_code 3 = .ok (.ifCond .eq 14, 3) := by decide +kernel
theorem own_d1_6 : decode jdk_42_method_154_code 6 = .ok (.aload_n 0, 1) := by decide +kernel
theorem own_d1_7 : decode jdk_42_method_154_code 7 = .ok (.getfield 15, 3) := by decide +kernel
theorem own_d1_10 : decode jdk_42_method_154_code 10 = .ok (.ifCond .ne 7, 3) := by decide +kernel
theorem own_d1_13 : decode jdk_42_method_154_code 13 = .ok (.iconst 1, 1) := by decide +kernel
theorem own_d1_14 : decode jdk_42_method_154_code 14 = .ok (.goto 4, 3) := by decide +kernel
theorem own_d1_18 : decode jdk_42_method_154_code 18 = .ok (.ireturn, 1) := by decide +kernel
set_option maxRecDepth 65536 in
set_option maxHeartbeats 40000000 in
theorem own_il (l : Launch) (Z : State) (a0 : Array Value) (hw : ∀ d ∈ tables_1, d.before a0 Z = true) (y0 : Addr) (h0 : Heap) (n0 : Nat) (n : Nat) (N : Int32) (f : Nat → Int32) (hN : N.toInt = (n : Int)) (P0 : Lat Z h0 y0 n f) (cs : Int32) (Sc : Sta Z h0 "java/lang/String" "COMPACT_STRINGS" "Z" (.int cs)) (hcs : ¬ cs = 0) :
    Ctr l Z (⟨"java/lang/String", "isLatin1", "()Z"⟩ : MethodName) jdk_42_method_154_code 1 (some .boolean) [] (own_room 0 0 0 0) #[(.ref y0)] h0 n0 0 0 (fun v h => v = some (.int 1) ∧ h = h0) := by
  refine Ctr.of (plainFor_of_name own_pn0) ?_
  intro p e s m below meth c T0 hx hby hml hret hlk hnm hown hZ X0
  rw [own_ef5 m (y0)]
  obtain ⟨v0, LE0, LV0, LC0, LA0⟩ := P0
  refine g_getS X0 hx hby hZ hown (hw _ (List.mem_of_getElem? (i := 46) rfl)) Via.refl Sc own_d1_0 (pc' := 3) rfl (fun T6 X6 => ?_)
  refine g_if_eq X6 hx hby own_d1_3 (by decide) (pc' := 17) (by decide) (pc2 := 6) rfl (fun q => absurd q hcs) (fun c3_7 => ?_)
  refine g_aloadN X6 hx hby own_d1_6 rfl rfl (pc' := 7) rfl ?_
  refine g_getF X6 hx hby hZ hown (hw _ (List.mem_of_getElem? (i := 26) rfl)) Via.refl LC0 own_d1_7 (pc' := 10) rfl (fun T8 X8 => ?_)
  refine g_if_ne X8 hx hby own_d1_10 (by decide) (pc' := 17) (by decide) (pc2 := 13) rfl (fun q => absurd (by decide) q) (fun c10_9 => ?_)
  refine g_iconst (v := 1) X8 hx hby own_d1_13 rfl (pc' := 14) rfl ?_
  refine g_goto X8 hx hby own_d1_14 (by decide) (pc' := 18) (by decide) ?_
  exact g_retN X8 hx hby hret hlk (by simp) own_d1_18 ⟨rfl, rfl⟩ (by decide) (by decide)
set_option maxRecDepth 65536 in
set_option maxHeartbeats 40000000 in
theorem own_ef10 (m : MethodId) (y0 : Addr)  : entryFrame m #[(.ref y0)] 1 = mkF m 0 #[.val (.ref y0)] [] := by first | (simp [entryFrame, mkF, argsToLocals, Value.category, maxLocals]; done) | rfl
theorem own_d2_0 : decode jdk_42_method_54_code 0 = .ok (.aload_n 0, 1) := by decide +kernel
theorem own_d2_1 : decode jdk_42_method_54_code 1 = .ok (.getfield 9, 3) := by decide +kernel
theorem own_d2_4 : decode jdk_42_method_54_code 4 = .ok (.arraylength, 1) := by decide +kernel
theorem own_d2_5 : decode jdk_42_method_54_code 5 = .ok (.aload_n 0, 1) := by decide +kernel
theorem own_d2_6 : decode jdk_42_method_54_code 6 = .ok (.invokevirtual 335, 3) := by decide +kernel
theorem own_pd0 : parseMethodDescriptor "()B" = some ⟨[], (some .byte)⟩ := by decide +kernel
theorem own_d2_9 : decode jdk_42_method_54_code 9 = .ok (.ishr, 1) := by decide +kernel
theorem own_d2_10 : decode jdk_42_method_54_code 10 = .ok (.ireturn, 1) := by decide +kernel
set_option maxRecDepth 65536 in
set_option maxHeartbeats 40000000 in
theorem own_ln (l : Launch) (Z : State) (a0 : Array Value) (hw : ∀ d ∈ tables_1, d.before a0 Z = true) (y0 : Addr) (h0 : Heap) (n0 : Nat) (n : Nat) (N : Int32) (f : Nat → Int32) (hN : N.toInt = (n : Int)) (P0 : Lat Z h0 y0 n f) (cs : Int32) (Sc : Sta Z h0 "java/lang/String" "COMPACT_STRINGS" "Z" (.int cs)) (hcs : ¬ cs = 0) :
    Ctr l Z (⟨"java/lang/String", "length", "()I"⟩ : MethodName) jdk_42_method_54_code 1 (some .int) [] (own_room 1 0 0 13) #[(.ref y0)] h0 n0 0 0 (fun v h => v = some (.int N) ∧ h = h0) := by
  refine Ctr.of (plainFor_of_name own_pn0) ?_
  intro p e s m below meth c T0 hx hby hml hret hlk hnm hown hZ X0
  rw [own_ef10 m (y0)]
  obtain ⟨v0, LE0, LV0, LC0, LA0⟩ := P0
  refine g_aloadN X0 hx hby own_d2_0 rfl rfl (pc' := 1) rfl ?_
  refine g_getF X0 hx hby hZ hown (hw _ (List.mem_of_getElem? (i := 25) rfl)) Via.refl LV0 own_d2_1 (pc' := 4) rfl (fun T11 X11 => ?_)
  refine g_arraylength (n := N) X11 hx hby hZ LA0 hN own_d2_4 (pc' := 5) rfl ?_
  refine g_aloadN X11 hx hby own_d2_5 rfl rfl (pc' := 6) rfl ?_
  refine g_callV (argsL := []) (S := [(.int N)]) (a := y0) X11 hx hby hZ (y := (⟨"java/lang/String", "coder", "()B"⟩ : MethodName)) (y' := (⟨"java/lang/String", "coder", "()B"⟩ : MethodName)) hown (hw _ (List.mem_of_getElem? (i := 41) rfl)) (hw _ (List.mem_of_getElem? (i := 42) rfl)) (notFace_of_selects (args := #[]) (mvT hZ (hw _ (List.mem_of_getElem? (i := 44) rfl)))) (hw _ (List.mem_of_getElem? (i := 44) rfl)) (hw _ (List.mem_of_getElem? (i := 43) rfl)) (hw _ (List.mem_of_getElem? (i := 8) rfl)) (hw _ (List.mem_of_getElem? (i := 45) rfl)) (by decide) LE0 (own_co l Z a0 hw y0 h0 n0 n N f hN ⟨v0, LE0, LV0, LC0, LA0⟩ cs Sc hcs ) (by rw [hml]; rfl) (lenOf own_pd0 rfl) rfl own_d2_6 (by decide) (W := 1) (by exact Nat.le_of_eq rfl) (by decide) (by decide) (by decide) (pc' := 9) rfl (fun T12 v12 X12 hQ12 => ?_)
  obtain ⟨rfl, e12⟩ := hQ12
  rw [e12] at X12
  show Gl p e below n0 _ _ (T12.setTop (mkF m 9 #[.val (.ref y0)] [(.int (0 : Int32)), (.int N)]))
  refine g_ishr X12 hx hby own_d2_9 (pc' := 10) rfl ?_
  exact g_retI X12 hx hby hret hlk own_d2_10 ⟨congrArg (fun z => some (Value.int z)) (own_shr0 N), rfl⟩ (by decide) (by decide)
set_option maxRecDepth 65536 in
set_option maxHeartbeats 40000000 in
theorem own_ef13 (m : MethodId) (y0 : Int32) (y1 : Int32) (y2 : Value) (hy2 : y2.category = 1) : entryFrame m #[(.int y0), (.int y1), y2] 3 = mkF m 0 #[.val (.int y0), .val (.int y1), .val y2] [] := by
  cases y2 <;> first | (simp [Value.category] at hy2; done) | (simp [entryFrame, mkF, argsToLocals, Value.category, maxLocals]; done) | rfl
theorem own_pn1 : plainName "jdk/internal/util/Preconditions" = true := by first | (simp [plainName, overriddenIn]; done) | decide +kernel
theorem own_d3_0 : decode jdk_41_method_11_code 0 = .ok (.iload_n 0, 1) := by decide +kernel
theorem own_d3_1 : decode jdk_41_method_11_code 1 = .ok (.ifCond .lt 8, 3) := by decide +kernel
theorem own_d3_4 : decode jdk_41_method_11_code 4 = .ok (.iload_n 0, 1) := by decide +kernel
theorem own_d3_5 : decode jdk_41_method_11_code 5 = .ok (.iload_n 1, 1) := by decide +kernel
theorem own_d3_6 : decode jdk_41_method_11_code 6 = .ok (.if_icmp .lt 10, 3) := by decide +kernel
theorem own_d3_16 : decode jdk_41_method_11_code 16 = .ok (.iload_n 0, 1) := by decide +kernel
theorem own_d3_17 : decode jdk_41_method_11_code 17 = .ok (.ireturn, 1) := by decide +kernel
set_option maxRecDepth 65536 in
set_option maxHeartbeats 40000000 in
theorem own_pc (l : Launch) (Z : State) (a0 : Array Value) (hw : ∀ d ∈ tables_1, d.before a0 Z = true) (y0 y1 : Int32) (y2 : Value) (h0 : Heap) (n0 : Nat) (hy2 : y2.category = 1) (h1 : ¬ y0 < 0) (h2 : y0 < y1) :
    Ctr l Z (⟨"jdk/internal/util/Preconditions", "checkIndex", "(IILjava/util/function/BiFunction;)I"⟩ : MethodName) jdk_41_method_11_code 3 (some .int) [] (own_room 0 0 0 0) #[(.int y0), (.int y1), y2] h0 n0 0 0 (fun v h => v = some (.int y0) ∧ h = h0) := by
  refine Ctr.of (plainFor_of_name own_pn1) ?_
  intro p e s m below meth c T0 hx hby hml hret hlk hnm hown hZ X0
  rw [own_ef13 m (y0) (y1) (y2) (by assumption)]
  refine g_iloadN X0 hx hby own_d3_0 rfl (pc' := 1) rfl ?_
  refine g_if_lt X0 hx hby own_d3_1 (by decide) (pc' := 9) (by decide) (pc2 := 4) rfl (fun q => absurd q h1) (fun c1_14 => ?_)
  refine g_iloadN X0 hx hby own_d3_4 rfl (pc' := 5) rfl ?_
  refine g_iloadN X0 hx hby own_d3_5 rfl (pc' := 6) rfl ?_
  refine g_icmp_lt X0 hx hby own_d3_6 (by decide) (pc' := 16) (by decide) (pc2 := 9) rfl (fun c6_15 => ?_) (fun q => absurd h2 q)
  refine g_iloadN X0 hx hby own_d3_16 rfl (pc' := 17) rfl ?_
  exact g_retI X0 hx hby hret hlk own_d3_17 ⟨rfl, rfl⟩ (by decide) (by decide)
set_option maxRecDepth 65536 in
set_option maxHeartbeats 40000000 in
theorem own_ef16 (m : MethodId) (y0 : Int32) (y1 : Int32)  : entryFrame m #[(.int y0), (.int y1)] 2 = mkF m 0 #[.val (.int y0), .val (.int y1)] [] := by first | (simp [entryFrame, mkF, argsToLocals, Value.category, maxLocals]; done) | rfl
theorem own_d4_0 : decode jdk_42_method_155_code 0 = .ok (.iload_n 0, 1) := by decide +kernel
theorem own_d4_1 : decode jdk_42_method_155_code 1 = .ok (.iload_n 1, 1) := by decide +kernel
theorem own_d4_2 : decode jdk_42_method_155_code 2 = .ok (.getstatic 1053, 3) := by decide +kernel
theorem own_d4_5 : decode jdk_42_method_155_code 5 = .ok (.invokestatic 1059, 3) := by decide +kernel
theorem own_pd1 : parseMethodDescriptor "(IILjava/util/function/BiFunction;)I" = some ⟨[.int, .int, (.object "java/util/function/BiFunction")], (some .int)⟩ := by decide +kernel
theorem own_d4_8 : decode jdk_42_method_155_code 8 = .ok (.pop, 1) := by decide +kernel
theorem own_d4_9 : decode jdk_42_method_155_code 9 = .ok (.return_, 1) := by decide +kernel
set_option maxRecDepth 65536 in
set_option maxHeartbeats 40000000 in
theorem own_ci (l : Launch) (Z : State) (a0 : Array Value) (hw : ∀ d ∈ tables_1, d.before a0 Z = true) (y0 y1 : Int32) (h0 : Heap) (n0 : Nat) (fm : Value) (Sf : Sta Z h0 "jdk/internal/util/Preconditions" "SIOOBE_FORMATTER" "Ljava/util/function/BiFunction;" fm) (hfm : fm.isRef = true) (h1 : ¬ y0 < 0) (h2 : y0 < y1) :
    Ctr l Z (⟨"java/lang/String", "checkIndex", "(II)V"⟩ : MethodName) jdk_42_method_155_code 2 none [] (own_room 1 0 0 14) #[(.int y0), (.int y1)] h0 n0 0 0 (fun v h => v = none ∧ h = h0) := by
  refine Ctr.of (plainFor_of_name own_pn0) ?_
  intro p e s m below meth c T0 hx hby hml hret hlk hnm hown hZ X0
  rw [own_ef16 m (y0) (y1)]
  refine g_iloadN X0 hx hby own_d4_0 rfl (pc' := 1) rfl ?_
  refine g_iloadN X0 hx hby own_d4_1 rfl (pc' := 2) rfl ?_
  refine g_getS X0 hx hby hZ hown (hw _ (List.mem_of_getElem? (i := 81) rfl)) Via.refl Sf own_d4_2 (pc' := 5) rfl (fun T17 X17 => ?_)
  refine g_callS (argsL := [(.int y0), (.int y1), fm]) (S := []) X17 hx hby hZ (y := (⟨"jdk/internal/util/Preconditions", "checkIndex", "(IILjava/util/function/BiFunction;)I"⟩ : MethodName)) hown (hw _ (List.mem_of_getElem? (i := 130) rfl)) (hw _ (List.mem_of_getElem? (i := 131) rfl)) (hw _ (List.mem_of_getElem? (i := 82) rfl)) (hw _ (List.mem_of_getElem? (i := 132) rfl)) (by decide) (own_pc l Z a0 hw y0 y1 fm h0 n0 (own_cat hfm) h1 h2) (by rw [hml]; rfl) (lenOf own_pd1 rfl) rfl own_d4_5 (by decide) (W := 0) (by exact Nat.le_of_eq rfl) (by decide) (by decide) (by decide) (pc' := 8) rfl (fun T18 v18 X18 hQ18 => ?_)
  obtain ⟨rfl, e18⟩ := hQ18
  rw [e18] at X18
  show Gl p e below n0 _ _ (T18.setTop (mkF m 8 #[.val (.int y0), .val (.int y1)] [(.int y0)]))
  refine g_pop X18 hx hby own_d4_8 rfl (pc' := 9) rfl ?_
  exact g_ret X18 hx hby hret hlk own_d4_9 ⟨rfl, rfl⟩ (by decide) (by decide)
set_option maxRecDepth 65536 in
set_option maxHeartbeats 40000000 in
theorem own_ef19 (m : MethodId) (y0 : Addr) (y1 : Int32)  : entryFrame m #[(.ref y0), (.int y1)] 2 = mkF m 0 #[.val (.ref y0), .val (.int y1)] [] := by first | (simp [entryFrame, mkF, argsToLocals, Value.category, maxLocals]; done) | rfl
theorem own_pn2 : plainName "java/lang/StringLatin1" = true := by first | (simp [plainName, overriddenIn]; done) | decide +kernel
theorem own_d5_0 : decode jdk_43_method_2_code 0 = .ok (.iload_n 1, 1) := by decide +kernel
theorem own_d5_1 : decode jdk_43_method_2_code 1 = .ok (.aload_n 0, 1) := by decide +kernel
theorem own_d5_2 : decode jdk_43_method_2_code 2 = .ok (.arraylength, 1) := by decide +kernel
theorem own_d5_3 : decode jdk_43_method_2_code 3 = .ok (.invokestatic 9, 3) := by decide +kernel
theorem own_pd2 : parseMethodDescriptor "(II)V" = some ⟨[.int, .int], none⟩ := by decide +kernel
theorem own_d5_6 : decode jdk_43_method_2_code 6 = .ok (.aload_n 0, 1) := by decide +kernel
theorem own_d5_7 : decode jdk_43_method_2_code 7 = .ok (.iload_n 1, 1) := by decide +kernel
theorem own_d5_8 : decode jdk_43_method_2_code 8 = .ok (.baload, 1) := by decide +kernel
theorem own_d5_9 : decode jdk_43_method_2_code 9 = .ok (.sipush 255, 3) := by decide +kernel
theorem own_d5_12 : decode jdk_43_method_2_code 12 = .ok (.iand, 1) := by decide +kernel
theorem own_d5_13 : decode jdk_43_method_2_code 13 = .ok (.i2c, 1) := by decide +kernel
theorem own_d5_14 : decode jdk_43_method_2_code 14 = .ok (.ireturn, 1) := by decide +kernel
set_option maxRecDepth 65536 in
set_option maxHeartbeats 40000000 in
theorem own_la (l : Launch) (Z : State) (a0 : Array Value) (hw : ∀ d ∈ tables_1, d.before a0 Z = true) (y0 : Addr) (y1 : Int32) (h0 : Heap) (n0 : Nat) (n : Nat) (N : Int32) (f : Nat → Int32) (hN : N.toInt = (n : Int)) (LA0 : Ary Z h0 y0 .byte n (fun i => .int (f i))) (i : Nat) (hi : y1.toInt = (i : Int)) (hlt : i < n) (fm : Value) (Sf : Sta Z h0 "jdk/internal/util/Preconditions" "SIOOBE_FORMATTER" "Ljava/util/function/BiFunction;" fm) (hfm : fm.isRef = true) :
    Ctr l Z (⟨"java/lang/StringLatin1", "charAt", "([BI)C"⟩ : MethodName) jdk_43_method_2_code 2 (some .char) [] (own_room 2 0 0 28) #[(.ref y0), (.int y1)] h0 n0 0 0 (fun v h => v = some (.int (f i &&& 255)) ∧ h = h0) := by
  refine Ctr.of (plainFor_of_name own_pn2) ?_
  intro p e s m below meth c T0 hx hby hml hret hlk hnm hown hZ X0
  rw [own_ef19 m (y0) (y1)]
  refine g_iloadN X0 hx hby own_d5_0 rfl (pc' := 1) rfl ?_
  refine g_aloadN X0 hx hby own_d5_1 rfl rfl (pc' := 2) rfl ?_
  refine g_arraylength (n := N) X0 hx hby hZ LA0 hN own_d5_2 (pc' := 3) rfl ?_
  refine g_callS (argsL := [(.int y1), (.int N)]) (S := []) X0 hx hby hZ (y := (⟨"java/lang/String", "checkIndex", "(II)V"⟩ : MethodName)) hown (hw _ (List.mem_of_getElem? (i := 127) rfl)) (hw _ (List.mem_of_getElem? (i := 128) rfl)) (hw _ (List.mem_of_getElem? (i := 8) rfl)) (hw _ (List.mem_of_getElem? (i := 129) rfl)) (by decide) (own_ci l Z a0 hw y1 N h0 n0 fm Sf hfm (own_i0 hi) (own_ilt hi hN hlt)) (by rw [hml]; rfl) (lenOf own_pd2 rfl) rfl own_d5_3 (by decide) (W := 0) (by exact Nat.le_of_eq rfl) (by decide) (by decide) (by decide) (pc' := 6) rfl (fun T20 v20 X20 hQ20 => ?_)
  obtain ⟨rfl, e20⟩ := hQ20
  rw [e20] at X20
  show Gl p e below n0 _ _ (T20.setTop (mkF m 6 #[.val (.ref y0), .val (.int y1)] []))
  refine g_aloadN X20 hx hby own_d5_6 rfl rfl (pc' := 7) rfl ?_
  refine g_iloadN X20 hx hby own_d5_7 rfl (pc' := 8) rfl ?_
  refine g_baload (i := i) (v := (.int (f i))) X20 hx hby hZ LA0 hi hlt rfl own_d5_8 (pc' := 9) rfl ?_
  refine g_sipush (v := 255) X20 hx hby own_d5_9 rfl (pc' := 12) rfl ?_
  refine g_iand X20 hx hby own_d5_12 (pc' := 13) rfl ?_
  refine g_i2c X20 hx hby own_d5_13 (pc' := 14) rfl ?_
  exact g_retN X20 hx hby hret hlk (by simp) own_d5_14 ⟨congrArg (fun z => some (Value.int z)) (own_narc (f i)), rfl⟩ (by decide) (by decide)
theorem own_narc8 (x : Int32) : nar .char (x &&& 255) = x &&& 255 := i2c_mask x
set_option maxRecDepth 65536 in
set_option maxHeartbeats 40000000 in
theorem own_ef21 (m : MethodId) (y0 : Addr) (y1 : Int32)  : entryFrame m #[(.ref y0), (.int y1)] 2 = mkF m 0 #[.val (.ref y0), .val (.int y1)] [] := by first | (simp [entryFrame, mkF, argsToLocals, Value.category, maxLocals]; done) | rfl
theorem own_d6_0 : decode jdk_42_method_56_code 0 = .ok (.aload_n 0, 1) := by decide +kernel
theorem own_d6_1 : decode jdk_42_method_56_code 1 = .ok (.invokevirtual 492, 3) := by decide +kernel
theorem own_pd3 : parseMethodDescriptor "()Z" = some ⟨[], (some .boolean)⟩ := by decide +kernel
theorem own_d6_4 : decode jdk_42_method_56_code 4 = .ok (.ifCond .eq 12, 3) := by decide +kernel
theorem own_d6_7 : decode jdk_42_method_56_code 7 = .ok (.aload_n 0, 1) := by decide +kernel
theorem own_d6_8 : decode jdk_42_method_56_code 8 = .ok (.getfield 9, 3) := by decide +kernel
theorem own_d6_11 : decode jdk_42_method_56_code 11 = .ok (.iload_n 1, 1) := by decide +kernel
theorem own_d6_12 : decode jdk_42_method_56_code 12 = .ok (.invokestatic 495, 3) := by decide +kernel
theorem own_pd4 : parseMethodDescriptor "([BI)C" = some ⟨[(.array .byte), .int], (some .char)⟩ := by decide +kernel
theorem own_d6_15 : decode jdk_42_method_56_code 15 = .ok (.ireturn, 1) := by decide +kernel
set_option maxRecDepth 65536 in
set_option maxHeartbeats 40000000 in
theorem own_ca (l : Launch) (Z : State) (a0 : Array Value) (hw : ∀ d ∈ tables_1, d.before a0 Z = true) (y0 : Addr) (y1 : Int32) (h0 : Heap) (n0 : Nat) (n : Nat) (N : Int32) (f : Nat → Int32) (hN : N.toInt = (n : Int)) (P0 : Lat Z h0 y0 n f) (cs : Int32) (Sc : Sta Z h0 "java/lang/String" "COMPACT_STRINGS" "Z" (.int cs)) (hcs : ¬ cs = 0) (i : Nat) (hi : y1.toInt = (i : Int)) (hlt : i < n) (fm : Value) (Sf : Sta Z h0 "jdk/internal/util/Preconditions" "SIOOBE_FORMATTER" "Ljava/util/function/BiFunction;" fm) (hfm : fm.isRef = true) :
    Ctr l Z (⟨"java/lang/String", "charAt", "(I)C"⟩ : MethodName) jdk_42_method_56_code 2 (some .char) [] (own_room 3 0 0 42) #[(.ref y0), (.int y1)] h0 n0 0 0 (fun v h => v = some (.int (f i &&& 255)) ∧ h = h0) := by
  refine Ctr.of (plainFor_of_name own_pn0) ?_
  intro p e s m below meth c T0 hx hby hml hret hlk hnm hown hZ X0
  rw [own_ef21 m (y0) (y1)]
  obtain ⟨v0, LE0, LV0, LC0, LA0⟩ := P0
  refine g_aloadN X0 hx hby own_d6_0 rfl rfl (pc' := 1) rfl ?_
  refine g_callV (argsL := []) (S := []) (a := y0) X0 hx hby hZ (y := (⟨"java/lang/String", "isLatin1", "()Z"⟩ : MethodName)) (y' := (⟨"java/lang/String", "isLatin1", "()Z"⟩ : MethodName)) hown (hw _ (List.mem_of_getElem? (i := 52) rfl)) (hw _ (List.mem_of_getElem? (i := 53) rfl)) (notFace_of_selects (args := #[]) (mvT hZ (hw _ (List.mem_of_getElem? (i := 55) rfl)))) (hw _ (List.mem_of_getElem? (i := 55) rfl)) (hw _ (List.mem_of_getElem? (i := 54) rfl)) (hw _ (List.mem_of_getElem? (i := 8) rfl)) (hw _ (List.mem_of_getElem? (i := 56) rfl)) (by decide) LE0 (own_il l Z a0 hw y0 h0 n0 n N f hN ⟨v0, LE0, LV0, LC0, LA0⟩ cs Sc hcs ) (by rw [hml]; rfl) (lenOf own_pd3 rfl) rfl own_d6_1 (by decide) (W := 0) (by exact Nat.le_of_eq rfl) (by decide) (by decide) (by decide) (pc' := 4) rfl (fun T22 v22 X22 hQ22 => ?_)
  obtain ⟨rfl, e22⟩ := hQ22
  rw [e22] at X22
  show Gl p e below n0 _ _ (T22.setTop (mkF m 4 #[.val (.ref y0), .val (.int y1)] [(.int (1 : Int32))]))
  refine g_if_eq X22 hx hby own_d6_4 (by decide) (pc' := 16) (by decide) (pc2 := 7) rfl (fun q => absurd q (by decide)) (fun c4_23 => ?_)
  refine g_aloadN X22 hx hby own_d6_7 rfl rfl (pc' := 8) rfl ?_
  refine g_getF X22 hx hby hZ hown (hw _ (List.mem_of_getElem? (i := 25) rfl)) Via.refl LV0 own_d6_8 (pc' := 11) rfl (fun T24 X24 => ?_)
  refine g_iloadN X24 hx hby own_d6_11 rfl (pc' := 12) rfl ?_
  refine g_callS (argsL := [(.ref v0), (.int y1)]) (S := []) X24 hx hby hZ (y := (⟨"java/lang/StringLatin1", "charAt", "([BI)C"⟩ : MethodName)) hown (hw _ (List.mem_of_getElem? (i := 124) rfl)) (hw _ (List.mem_of_getElem? (i := 125) rfl)) (hw _ (List.mem_of_getElem? (i := 59) rfl)) (hw _ (List.mem_of_getElem? (i := 126) rfl)) (by decide) (own_la l Z a0 hw v0 y1 h0 n0 n N f hN LA0 i hi hlt fm Sf hfm) (by rw [hml]; rfl) (lenOf own_pd4 rfl) rfl own_d6_12 (by decide) (W := 0) (by exact Nat.le_of_eq rfl) (by decide) (by decide) (by decide) (pc' := 15) rfl (fun T25 v25 X25 hQ25 => ?_)
  obtain ⟨rfl, e25⟩ := hQ25
  rw [e25] at X25
  show Gl p e below n0 _ _ (T25.setTop (mkF m 15 #[.val (.ref y0), .val (.int y1)] [(.int (f i &&& 255))]))
  exact g_retN X25 hx hby hret hlk (by simp) own_d6_15 ⟨congrArg (fun z => some (Value.int z)) (own_narc8 (f i)), rfl⟩ (by decide) (by decide)
set_option maxRecDepth 65536 in
set_option maxHeartbeats 40000000 in
theorem own_ef26 (m : MethodId) (y0 : Addr) (y1 : Addr) (y2 : Int32)  : entryFrame m #[(.ref y0), (.ref y1), (.int y2)] 3 = mkF m 0 #[.val (.ref y0), .val (.ref y1), .val (.int y2)] [] := by first | (simp [entryFrame, mkF, argsToLocals, Value.category, maxLocals]; done) | rfl
theorem own_d7_0 : decode jdk_42_method_151_code 0 = .ok (.aload_n 0, 1) := by decide +kernel
theorem own_d7_1 : decode jdk_42_method_151_code 1 = .ok (.invokespecial 1, 3) := by decide +kernel
theorem own_d7_4 : decode jdk_42_method_151_code 4 = .ok (.aload_n 0, 1) := by decide +kernel
theorem own_d7_5 : decode jdk_42_method_151_code 5 = .ok (.aload_n 1, 1) := by decide +kernel
theorem own_d7_6 : decode jdk_42_method_151_code 6 = .ok (.putfield 9, 3) := by decide +kernel
theorem own_d7_9 : decode jdk_42_method_151_code 9 = .ok (.aload_n 0, 1) := by decide +kernel
theorem own_d7_10 : decode jdk_42_method_151_code 10 = .ok (.iload_n 2, 1) := by decide +kernel
theorem own_d7_11 : decode jdk_42_method_151_code 11 = .ok (.putfield 15, 3) := by decide +kernel
theorem own_d7_14 : decode jdk_42_method_151_code 14 = .ok (.return_, 1) := by decide +kernel
set_option maxRecDepth 65536 in
set_option maxHeartbeats 40000000 in
theorem own_si (l : Launch) (Z : State) (a0 : Array Value) (hw : ∀ d ∈ tables_1, d.before a0 Z = true) (y0 y1 : Addr) (h0 : Heap) (n0 : Nat) (Z0 : n0 ≤ h0.size) (Ex : Exa Z h0 y0 "java/lang/String") (F1 : Fld Z h0 y0 "java/lang/String" "value" "[B" .null) (F2 : Fld Z h0 y0 "java/lang/String" "coder" "B" (.int 0)) (gn : n0 ≤ y0) :
    Ctr l Z (⟨"java/lang/String", "<init>", "([BB)V"⟩ : MethodName) jdk_42_method_151_code 3 none [] (own_room 1 0 0 13) #[(.ref y0), (.ref y1), (.int (0 : Int32))] h0 n0 0 0 (fun v h => v = none ∧ Keep h0 h [y0] ∧ Fld Z h y0 "java/lang/String" "value" "[B" (.ref y1) ∧ Fld Z h y0 "java/lang/String" "coder" "B" (.int 0)) := by
  refine Ctr.of (plainFor_of_name own_pn0) ?_
  intro p e s m below meth c T0 hx hby hml hret hlk hnm hown hZ X0
  rw [own_ef26 m (y0) (y1) ((0 : Int32))]
  refine g_aloadN X0 hx hby own_d7_0 rfl rfl (pc' := 1) rfl ?_
  refine g_initO X0 hx hby hZ (W := 0) hown (hw _ (List.mem_of_getElem? (i := 16) rfl)) (hw _ (List.mem_of_getElem? (i := 17) rfl)) (hw _ (List.mem_of_getElem? (i := 18) rfl)) (by rw [hml]; rfl) own_d7_1 (by decide) (by exact Nat.le_of_eq rfl) (by decide) (pc' := 4) rfl (fun T27 X27 => ?_)
  refine g_aloadN X27 hx hby own_d7_4 rfl rfl (pc' := 5) rfl ?_
  refine g_aloadN X27 hx hby own_d7_5 rfl rfl (pc' := 6) rfl ?_
  refine g_putF X27 hx hby hZ hown (hw _ (List.mem_of_getElem? (i := 25) rfl)) Via.refl F1 Ex (Or.inr ⟨(hw _ (List.mem_of_getElem? (i := 21) rfl)), rfl, hnm⟩) (hw _ (List.mem_of_getElem? (i := 7) rfl)) (ty := (.array .byte)) (by decide) rfl rfl gn own_d7_6 (pc' := 9) rfl (fun T28 h28 X28 W28 => ?_)
  have q29 := Ex.wr W28
  have q30 := F1.same W28
  have q31 := F2.other W28 (Or.inr (slot_ne (Or.inr (hw _ (List.mem_of_getElem? (i := 22) rfl))) (Or.inr (hw _ (List.mem_of_getElem? (i := 21) rfl))) (by decide) (t := .byte) (t' := (.array .byte)) (by decide) (by decide)))
  have zz32 := Nat.le_trans Z0 (Nat.le_of_eq W28.size.symm)
  have kk33 : Keep h0 h28 [y0] := (Keep.refl h0 [y0]).wr W28 (Or.inl (by simp))
  refine g_aloadN X28 hx hby own_d7_9 rfl rfl (pc' := 10) rfl ?_
  refine g_iloadN X28 hx hby own_d7_10 rfl (pc' := 11) rfl ?_
  refine g_putF X28 hx hby hZ hown (hw _ (List.mem_of_getElem? (i := 26) rfl)) Via.refl q31 q29 (Or.inr ⟨(hw _ (List.mem_of_getElem? (i := 22) rfl)), rfl, hnm⟩) (hw _ (List.mem_of_getElem? (i := 7) rfl)) (ty := .byte) (by decide) rfl rfl gn own_d7_11 (pc' := 14) rfl (fun T34 h34 X34 W34 => ?_)
  have q35 := q29.wr W34
  have q36 := q30.other W34 (Or.inr (slot_ne (Or.inr (hw _ (List.mem_of_getElem? (i := 21) rfl))) (Or.inr (hw _ (List.mem_of_getElem? (i := 22) rfl))) (by decide) (t := (.array .byte)) (t' := .byte) (by decide) (by decide)))
  have q37 := q31.same W34
  have zz38 := Nat.le_trans zz32 (Nat.le_of_eq W34.size.symm)
  have kk39 : Keep h0 h34 [y0] := kk33.wr W34 (Or.inl (by simp))
  exact g_ret X34 hx hby hret hlk own_d7_14 ⟨rfl, kk39, q36, q37⟩ (by decide) (by decide)
set_option maxRecDepth 65536 in
set_option maxHeartbeats 40000000 in
theorem own_ef40 (m : MethodId) (y0 : Addr) (y1 : Int32) (y2 : Addr) (y3 : Int32) (y4 : Int32)  : entryFrame m #[(.ref y0), (.int y1), (.ref y2), (.int y3), (.int y4)] 7 = mkF m 0 #[.val (.ref y0), .val (.int y1), .val (.ref y2), .val (.int y3), .val (.int y4), .unset, .unset] [] := by first | (simp [entryFrame, mkF, argsToLocals, Value.category, maxLocals]; done) | rfl
theorem own_pn3 : plainName "java/lang/StringUTF16" = true := by first | (simp [plainName, overriddenIn]; done) | decide +kernel
theorem own_d8_0 : decode jdk_52_method_21_code 0 = .ok (.iconst 0, 1) := by decide +kernel
theorem own_d8_1 : decode jdk_52_method_21_code 1 = .ok (.istore 5, 2) := by decide +kernel
theorem own_d8_3 : decode jdk_52_method_21_code 3 = .ok (.iload 5, 2) := by decide +kernel
theorem own_d8_5 : decode jdk_52_method_21_code 5 = .ok (.iload 4, 2) := by decide +kernel
theorem own_d8_7 : decode jdk_52_method_21_code 7 = .ok (.if_icmp .ge 37, 3) := by decide +kernel
theorem own_d8_10 : decode jdk_52_method_21_code 10 = .ok (.aload_n 0, 1) := by decide +kernel
theorem own_d8_11 : decode jdk_52_method_21_code 11 = .ok (.iload_n 1, 1) := by decide +kernel
theorem own_d8_12 : decode jdk_52_method_21_code 12 = .ok (.caload, 1) := by decide +kernel
theorem own_d8_13 : decode jdk_52_method_21_code 13 = .ok (.istore 6, 2) := by decide +kernel
theorem own_d8_15 : decode jdk_52_method_21_code 15 = .ok (.iload 6, 2) := by decide +kernel
theorem own_d8_17 : decode jdk_52_method_21_code 17 = .ok (.sipush 255, 3) := by decide +kernel
theorem own_d8_20 : decode jdk_52_method_21_code 20 = .ok (.if_icmp .le 6, 3) := by decide +kernel
theorem own_d8_26 : decode jdk_52_method_21_code 26 = .ok (.aload_n 2, 1) := by decide +kernel
theorem own_d8_27 : decode jdk_52_method_21_code 27 = .ok (.iload_n 3, 1) := by decide +kernel
theorem own_d8_28 : decode jdk_52_method_21_code 28 = .ok (.iload 6, 2) := by decide +kernel
theorem own_d8_30 : decode jdk_52_method_21_code 30 = .ok (.i2b, 1) := by decide +kernel
theorem own_d8_31 : decode jdk_52_method_21_code 31 = .ok (.bastore, 1) := by decide +kernel
theorem own_d8_32 : decode jdk_52_method_21_code 32 = .ok (.iinc 1 1, 3) := by decide +kernel
theorem own_d8_35 : decode jdk_52_method_21_code 35 = .ok (.iinc 3 1, 3) := by decide +kernel
theorem own_d8_38 : decode jdk_52_method_21_code 38 = .ok (.iinc 5 1, 3) := by decide +kernel
theorem own_d8_41 : decode jdk_52_method_21_code 41 = .ok (.goto (-38), 3) := by decide +kernel
theorem own_d8_44 : decode jdk_52_method_21_code 44 = .ok (.iload 4, 2) := by decide +kernel
theorem own_d8_46 : decode jdk_52_method_21_code 46 = .ok (.ireturn, 1) := by decide +kernel
set_option maxRecDepth 65536 in
set_option maxHeartbeats 40000000 in
theorem own_p5_1 (l : Launch) (Z : State) (a0 : Array Value) (hw : ∀ d ∈ tables_1, d.before a0 Z = true) (y0 y2 : Addr) (h0 : Heap) (n0 : Nat) (Z0 : n0 ≤ h0.size) (f : Nat → Int32) (g : Nat → Value) (hr : ∀ i, i < 1 → 0 ≤ (f i).toInt ∧ (f i).toInt ≤ 255) (LA0 : Ary Z h0 y0 .char 1 (fun i => .int (f i))) (LA2 : Ary Z h0 y2 .byte 1 g) (gn : n0 ≤ y2) :
    Ctr l Z (⟨"java/lang/StringUTF16", "compress", "([CI[BII)I"⟩ : MethodName) jdk_52_method_21_code 7 (some .int) [] (own_room 0 0 0 0) #[(.ref y0), (.int (0 : Int32)), (.ref y2), (.int (0 : Int32)), (.int (1 : Int32))] h0 n0 0 0 (fun v h => v = some (.int 1) ∧ Keep h0 h [y2] ∧ Ary Z h y2 .byte 1 (fun i => .int (own_y (f i)))) := by
  refine Ctr.of (plainFor_of_name own_pn3) ?_
  intro p e s m below meth c T0 hx hby hml hret hlk hnm hown hZ X0
  rw [own_ef40 m (y0) ((0 : Int32)) (y2) ((0 : Int32)) ((1 : Int32))]
  refine g_iconst (v := 0) X0 hx hby own_d8_0 rfl (pc' := 1) rfl ?_
  refine g_istore (L' := #[.val (.ref y0), .val (.int (0 : Int32)), .val (.ref y2), .val (.int (0 : Int32)), .val (.int (1 : Int32)), .val (.int (0 : Int32)), .unset]) X0 hx hby own_d8_1 rfl (pc' := 3) rfl ?_
  refine g_iload X0 hx hby own_d8_3 rfl (pc' := 5) rfl ?_
  refine g_iload X0 hx hby own_d8_5 rfl (pc' := 7) rfl ?_
  refine g_icmp_ge X0 hx hby own_d8_7 (by decide) (pc' := 44) (by decide) (pc2 := 10) rfl (fun q => absurd (by decide) q) (fun c7_41 => ?_)
  refine g_aloadN X0 hx hby own_d8_10 rfl rfl (pc' := 11) rfl ?_
  refine g_iloadN X0 hx hby own_d8_11 rfl (pc' := 12) rfl ?_
  refine g_caload (i := 0) (v := (.int (f 0))) X0 hx hby hZ LA0 rfl (by decide) rfl own_d8_12 (pc' := 13) rfl ?_
  refine g_istore (L' := #[.val (.ref y0), .val (.int (0 : Int32)), .val (.ref y2), .val (.int (0 : Int32)), .val (.int (1 : Int32)), .val (.int (0 : Int32)), .val (.int (f 0))]) X0 hx hby own_d8_13 rfl (pc' := 15) rfl ?_
  refine g_iload X0 hx hby own_d8_15 rfl (pc' := 17) rfl ?_
  refine g_sipush (v := 255) X0 hx hby own_d8_17 rfl (pc' := 20) rfl ?_
  refine g_icmp_le X0 hx hby own_d8_20 (by decide) (pc' := 26) (by decide) (pc2 := 23) rfl (fun c20_42 => ?_) (fun q => absurd q (own_le255 (hr 0 (by decide))))
  refine g_aloadN X0 hx hby own_d8_26 rfl rfl (pc' := 27) rfl ?_
  refine g_iloadN X0 hx hby own_d8_27 rfl (pc' := 28) rfl ?_
  refine g_iload X0 hx hby own_d8_28 rfl (pc' := 30) rfl ?_
  refine g_i2b X0 hx hby own_d8_30 (pc' := 31) rfl ?_
  refine g_bastore (i := 0) X0 hx hby hZ LA2 rfl (by decide) gn own_d8_31 (pc' := 32) rfl (fun T43 h43 sl43 X43 W43 A43 => ?_)
  have q44 := LA0.other W43 (own_ne_ty LA0 LA2 (by decide))
  have zz45 := Nat.le_trans Z0 (Nat.le_of_eq W43.size.symm)
  have kk46 : Keep h0 h43 [y2] := (Keep.refl h0 [y2]).wr W43 (Or.inl (by simp))
  refine g_iinc (y := 1) (L' := #[.val (.ref y0), .val (.int (1 : Int32)), .val (.ref y2), .val (.int (0 : Int32)), .val (.int (1 : Int32)), .val (.int (0 : Int32)), .val (.int (f 0))]) X43 hx hby own_d8_32 rfl rfl rfl (pc' := 35) rfl ?_
  refine g_iinc (y := 1) (L' := #[.val (.ref y0), .val (.int (1 : Int32)), .val (.ref y2), .val (.int (1 : Int32)), .val (.int (1 : Int32)), .val (.int (0 : Int32)), .val (.int (f 0))]) X43 hx hby own_d8_35 rfl rfl rfl (pc' := 38) rfl ?_
  refine g_iinc (y := 1) (L' := #[.val (.ref y0), .val (.int (1 : Int32)), .val (.ref y2), .val (.int (1 : Int32)), .val (.int (1 : Int32)), .val (.int (1 : Int32)), .val (.int (f 0))]) X43 hx hby own_d8_38 rfl rfl rfl (pc' := 41) rfl ?_
  refine g_goto X43 hx hby own_d8_41 (by decide) (pc' := 3) (by decide) ?_
  refine g_iload X43 hx hby own_d8_3 rfl (pc' := 5) rfl ?_
  refine g_iload X43 hx hby own_d8_5 rfl (pc' := 7) rfl ?_
  refine g_icmp_ge X43 hx hby own_d8_7 (by decide) (pc' := 44) (by decide) (pc2 := 10) rfl (fun c7_47 => ?_) (fun q => absurd q (by decide))
  refine g_iload X43 hx hby own_d8_44 rfl (pc' := 46) rfl ?_
  exact g_retI X43 hx hby hret hlk own_d8_46 ⟨rfl, kk46, A43.congr fun i hi => by
      have h8 : i = 0 := by omega
      rcases h8 with rfl <;> rfl⟩ (by decide) (by decide)
set_option maxRecDepth 65536 in
set_option maxHeartbeats 40000000 in
theorem own_ef48 (m : MethodId) (y0 : Addr) (y1 : Int32) (y2 : Int32)  : entryFrame m #[(.ref y0), (.int y1), (.int y2)] 6 = mkF m 0 #[.val (.ref y0), .val (.int y1), .val (.int y2), .unset, .unset, .unset] [] := by first | (simp [entryFrame, mkF, argsToLocals, Value.category, maxLocals]; done) | rfl
theorem own_d9_0 : decode jdk_52_method_16_code 0 = .ok (.iload_n 2, 1) := by decide +kernel
theorem own_d9_1 : decode jdk_52_method_16_code 1 = .ok (.newarray .byte, 2) := by decide +kernel
theorem own_d9_3 : decode jdk_52_method_16_code 3 = .ok (.astore_n 3, 1) := by decide +kernel
theorem own_d9_4 : decode jdk_52_method_16_code 4 = .ok (.aload_n 0, 1) := by decide +kernel
theorem own_d9_5 : decode jdk_52_method_16_code 5 = .ok (.iload_n 1, 1) := by decide +kernel
theorem own_d9_6 : decode jdk_52_method_16_code 6 = .ok (.aload_n 3, 1) := by decide +kernel
theorem own_d9_7 : decode jdk_52_method_16_code 7 = .ok (.iconst 0, 1) := by decide +kernel
theorem own_d9_8 : decode jdk_52_method_16_code 8 = .ok (.iload_n 2, 1) := by decide +kernel
theorem own_d9_9 : decode jdk_52_method_16_code 9 = .ok (.invokestatic 115, 3) := by decide +kernel
theorem own_pd5 : parseMethodDescriptor "([CI[BII)I" = some ⟨[(.array .char), .int, (.array .byte), .int, .int], (some .int)⟩ := by decide +kernel
theorem own_d9_12 : decode jdk_52_method_16_code 12 = .ok (.istore 4, 2) := by decide +kernel
theorem own_d9_14 : decode jdk_52_method_16_code 14 = .ok (.iload 4, 2) := by decide +kernel
theorem own_d9_16 : decode jdk_52_method_16_code 16 = .ok (.iload_n 2, 1) := by decide +kernel
theorem own_d9_17 : decode jdk_52_method_16_code 17 = .ok (.if_icmp .eq 40, 3) := by decide +kernel
theorem own_d9_57 : decode jdk_52_method_16_code 57 = .ok (.aload_n 3, 1) := by decide +kernel
theorem own_d9_58 : decode jdk_52_method_16_code 58 = .ok (.areturn, 1) := by decide +kernel
set_option maxRecDepth 65536 in
set_option maxHeartbeats 40000000 in
theorem own_p3_1 (l : Launch) (Z : State) (a0 : Array Value) (hw : ∀ d ∈ tables_1, d.before a0 Z = true) (y0 : Addr) (h0 : Heap) (n0 : Nat) (Z0 : n0 ≤ h0.size) (f : Nat → Int32) (hr : ∀ i, i < 1 → 0 ≤ (f i).toInt ∧ (f i).toInt ≤ 255) (LA0 : Ary Z h0 y0 .char 1 (fun i => .int (f i))) :
    Ctr l Z (⟨"java/lang/StringUTF16", "compress", "([CII)[B"⟩ : MethodName) jdk_52_method_16_code 6 (some (.array .byte)) [] (own_room 1 1 1 18) #[(.ref y0), (.int (0 : Int32)), (.int (1 : Int32))] h0 n0 1 1 (fun v h => ∃ b, v = some (.ref b) ∧ Keep h0 h [] ∧ h0.size ≤ b ∧ n0 ≤ b ∧ Ary Z h b .byte 1 (fun i => .int (own_y (f i)))) := by
  refine Ctr.of (plainFor_of_name own_pn3) ?_
  intro p e s m below meth c T0 hx hby hml hret hlk hnm hown hZ X0
  rw [own_ef48 m (y0) ((0 : Int32)) ((1 : Int32))]
  refine g_iloadN X0 hx hby own_d9_0 rfl (pc' := 1) rfl ?_
  refine g_newarray (k := 1) (cap := 1) X0 hx hby hZ (hw _ (List.mem_of_getElem? (i := 20) rfl)) own_d9_1 rfl (by decide) (by decide) (by decide) (by decide) (pc' := 3) rfl (fun T49 h49 b49 g49 X49 E49 A49 => ?_)
  have ne50 : y0 ≠ b49 := by rw [g49]; exact Nat.ne_of_lt LA0.lt
  have nn51 : n0 ≤ b49 := by rw [g49]; exact Z0
  have hh52 : h0.size ≤ b49 := by rw [g49]; exact (Keep.refl h0 []).1
  have q53 := LA0.ext E49
  have zz54 := Nat.le_trans Z0 E49.1
  have kk55 : Keep h0 h49 [] := (Keep.refl h0 []).ext E49
  refine g_astoreN (L' := #[.val (.ref y0), .val (.int (0 : Int32)), .val (.int (1 : Int32)), .val (.ref b49), .unset, .unset]) X49 hx hby own_d9_3 rfl rfl (pc' := 4) rfl ?_
  refine g_aloadN X49 hx hby own_d9_4 rfl rfl (pc' := 5) rfl ?_
  refine g_iloadN X49 hx hby own_d9_5 rfl (pc' := 6) rfl ?_
  refine g_aloadN X49 hx hby own_d9_6 rfl rfl (pc' := 7) rfl ?_
  refine g_iconst (v := 0) X49 hx hby own_d9_7 rfl (pc' := 8) rfl ?_
  refine g_iloadN X49 hx hby own_d9_8 rfl (pc' := 9) rfl ?_
  refine g_callS (argsL := [(.ref y0), (.int (0 : Int32)), (.ref b49), (.int (0 : Int32)), (.int (1 : Int32))]) (S := []) X49 hx hby hZ (y := (⟨"java/lang/StringUTF16", "compress", "([CI[BII)I"⟩ : MethodName)) hown (hw _ (List.mem_of_getElem? (i := 91) rfl)) (hw _ (List.mem_of_getElem? (i := 92) rfl)) (hw _ (List.mem_of_getElem? (i := 89) rfl)) (hw _ (List.mem_of_getElem? (i := 93) rfl)) (by decide) (own_p5_1 l Z a0 hw y0 b49 h49 n0 zz54 f _ hr q53 A49 nn51) (by rw [hml]; rfl) (lenOf own_pd5 rfl) rfl own_d9_9 (by decide) (W := 0) (by exact Nat.le_of_eq rfl) (by decide) (by decide) (by decide) (pc' := 12) rfl (fun T56 v56 X56 hQ56 => ?_)
  obtain ⟨rfl, ka56, aa56⟩ := hQ56
  have q57 := q53.keep ka56 (ninS ne50 nin0)
  have zz58 := Nat.le_trans zz54 ka56.1
  have kk59 : Keep h0 T56.heap [] := kk55.trans ka56 (allS (Or.inr hh52) all0)
  show Gl p e below n0 _ _ (T56.setTop (mkF m 12 #[.val (.ref y0), .val (.int (0 : Int32)), .val (.int (1 : Int32)), .val (.ref b49), .unset, .unset] [(.int (1 : Int32))]))
  refine g_istore (L' := #[.val (.ref y0), .val (.int (0 : Int32)), .val (.int (1 : Int32)), .val (.ref b49), .val (.int (1 : Int32)), .unset]) X56 hx hby own_d9_12 rfl (pc' := 14) rfl ?_
  refine g_iload X56 hx hby own_d9_14 rfl (pc' := 16) rfl ?_
  refine g_iloadN X56 hx hby own_d9_16 rfl (pc' := 17) rfl ?_
  refine g_icmp_eq X56 hx hby own_d9_17 (by decide) (pc' := 57) (by decide) (pc2 := 20) rfl (fun c17_60 => ?_) (fun q => absurd (by decide) q)
  refine g_aloadN X56 hx hby own_d9_57 rfl rfl (pc' := 58) rfl ?_
  exact g_retA X56 hx hby hret hlk rfl rfl own_d9_58 ⟨b49, rfl, kk59, hh52, nn51, aa56⟩ (by decide) (by decide)
set_option maxRecDepth 65536 in
set_option maxHeartbeats 40000000 in
theorem own_ef61 (m : MethodId) (y0 : Addr) (y1 : Int32)  : entryFrame m #[(.ref y0), (.int y1)] 2 = mkF m 0 #[.val (.ref y0), .val (.int y1)] [] := by first | (simp [entryFrame, mkF, argsToLocals, Value.category, maxLocals]; done) | rfl
theorem own_d10_0 : decode jdk_52_method_15_code 0 = .ok (.iload_n 1, 1) := by decide +kernel
theorem own_d10_1 : decode jdk_52_method_15_code 1 = .ok (.aload_n 0, 1) := by decide +kernel
theorem own_d10_2 : decode jdk_52_method_15_code 2 = .ok (.arraylength, 1) := by decide +kernel
theorem own_d10_3 : decode jdk_52_method_15_code 3 = .ok (.isub, 1) := by decide +kernel
theorem own_d10_4 : decode jdk_52_method_15_code 4 = .ok (.bipush 31, 2) := by decide +kernel
theorem own_d10_6 : decode jdk_52_method_15_code 6 = .ok (.iushr, 1) := by decide +kernel
theorem own_d10_7 : decode jdk_52_method_15_code 7 = .ok (.i2b, 1) := by decide +kernel
theorem own_d10_8 : decode jdk_52_method_15_code 8 = .ok (.ireturn, 1) := by decide +kernel
set_option maxRecDepth 65536 in
set_option maxHeartbeats 40000000 in
theorem own_cl_1 (l : Launch) (Z : State) (a0 : Array Value) (hw : ∀ d ∈ tables_1, d.before a0 Z = true) (y0 : Addr) (h0 : Heap) (n0 : Nat) (f : Nat → Value) (LA0 : Ary Z h0 y0 .byte 1 f) :
    Ctr l Z (⟨"java/lang/StringUTF16", "coderFromArrayLen", "([BI)B"⟩ : MethodName) jdk_52_method_15_code 2 (some .byte) [] (own_room 0 0 0 0) #[(.ref y0), (.int (1 : Int32))] h0 n0 0 0 (fun v h => v = some (.int 0) ∧ h = h0) := by
  refine Ctr.of (plainFor_of_name own_pn3) ?_
  intro p e s m below meth c T0 hx hby hml hret hlk hnm hown hZ X0
  rw [own_ef61 m (y0) ((1 : Int32))]
  refine g_iloadN X0 hx hby own_d10_0 rfl (pc' := 1) rfl ?_
  refine g_aloadN X0 hx hby own_d10_1 rfl rfl (pc' := 2) rfl ?_
  refine g_arraylength (n := (1 : Int32)) X0 hx hby hZ LA0 rfl own_d10_2 (pc' := 3) rfl ?_
  refine g_isub X0 hx hby own_d10_3 (pc' := 4) rfl ?_
  refine g_bipush (v := 31) X0 hx hby own_d10_4 rfl (pc' := 6) rfl ?_
  refine g_iushr X0 hx hby own_d10_6 (pc' := 7) rfl ?_
  refine g_i2b X0 hx hby own_d10_7 (pc' := 8) rfl ?_
  exact g_retN X0 hx hby hret hlk (by simp) own_d10_8 ⟨congrArg (fun z => some (Value.int z)) (by decide), rfl⟩ (by decide) (by decide)
set_option maxRecDepth 65536 in
set_option maxHeartbeats 40000000 in
theorem own_ef62 (m : MethodId) (y0 : Addr) (y1 : Addr) (y2 : Int32) (y3 : Int32)  : entryFrame m #[(.ref y0), (.ref y1), (.int y2), (.int y3), .null] 6 = mkF m 0 #[.val (.ref y0), .val (.ref y1), .val (.int y2), .val (.int y3), .val .null, .unset] [] := by first | (simp [entryFrame, mkF, argsToLocals, Value.category, maxLocals]; done) | rfl
theorem own_d11_0 : decode jdk_42_method_149_code 0 = .ok (.aload_n 0, 1) := by decide +kernel
theorem own_d11_1 : decode jdk_42_method_149_code 1 = .ok (.invokespecial 1, 3) := by decide +kernel
theorem own_d11_4 : decode jdk_42_method_149_code 4 = .ok (.iload_n 3, 1) := by decide +kernel
theorem own_d11_5 : decode jdk_42_method_149_code 5 = .ok (.ifCond .ne 22, 3) := by decide +kernel
theorem own_d11_27 : decode jdk_42_method_149_code 27 = .ok (.getstatic 38, 3) := by decide +kernel
theorem own_d11_30 : decode jdk_42_method_149_code 30 = .ok (.ifCond .eq 28, 3) := by decide +kernel
theorem own_d11_33 : decode jdk_42_method_149_code 33 = .ok (.aload_n 1, 1) := by decide +kernel
theorem own_d11_34 : decode jdk_42_method_149_code 34 = .ok (.iload_n 2, 1) := by decide +kernel
theorem own_d11_35 : decode jdk_42_method_149_code 35 = .ok (.iload_n 3, 1) := by decide +kernel
theorem own_d11_36 : decode jdk_42_method_149_code 36 = .ok (.invokestatic 177, 3) := by decide +kernel
theorem own_pd6 : parseMethodDescriptor "([CII)[B" = some ⟨[(.array .char), .int, .int], (some (.array .byte))⟩ := by decide +kernel
theorem own_d11_39 : decode jdk_42_method_149_code 39 = .ok (.astore 5, 2) := by decide +kernel
theorem own_d11_41 : decode jdk_42_method_149_code 41 = .ok (.aload_n 0, 1) := by decide +kernel
theorem own_d11_42 : decode jdk_42_method_149_code 42 = .ok (.aload 5, 2) := by decide +kernel
theorem own_d11_44 : decode jdk_42_method_149_code 44 = .ok (.iload_n 3, 1) := by decide +kernel
theorem own_d11_45 : decode jdk_42_method_149_code 45 = .ok (.invokestatic 47, 3) := by decide +kernel
theorem own_pd7 : parseMethodDescriptor "([BI)B" = some ⟨[(.array .byte), .int], (some .byte)⟩ := by decide +kernel
theorem own_d11_48 : decode jdk_42_method_149_code 48 = .ok (.putfield 15, 3) := by decide +kernel
theorem own_d11_51 : decode jdk_42_method_149_code 51 = .ok (.aload_n 0, 1) := by decide +kernel
theorem own_d11_52 : decode jdk_42_method_149_code 52 = .ok (.aload 5, 2) := by decide +kernel
theorem own_d11_54 : decode jdk_42_method_149_code 54 = .ok (.putfield 9, 3) := by decide +kernel
theorem own_d11_57 : decode jdk_42_method_149_code 57 = .ok (.return_, 1) := by decide +kernel
set_option maxRecDepth 65536 in
set_option maxHeartbeats 40000000 in
theorem own_n2_1 (l : Launch) (Z : State) (a0 : Array Value) (hw : ∀ d ∈ tables_1, d.before a0 Z = true) (y0 y1 : Addr) (h0 : Heap) (n0 : Nat) (Z0 : n0 ≤ h0.size) (f : Nat → Int32) (hr : ∀ i, i < 1 → 0 ≤ (f i).toInt ∧ (f i).toInt ≤ 255) (LA1 : Ary Z h0 y1 .char 1 (fun i => .int (f i))) (Ex : Exa Z h0 y0 "java/lang/String") (F1 : Fld Z h0 y0 "java/lang/String" "value" "[B" .null) (F2 : Fld Z h0 y0 "java/lang/String" "coder" "B" (.int 0)) (gn : n0 ≤ y0) (cs : Int32) (Sc : Sta Z h0 "java/lang/String" "COMPACT_STRINGS" "Z" (.int cs)) (hcs : ¬ cs = 0) :
    Ctr l Z (⟨"java/lang/String", "<init>", "([CIILjava/lang/Void;)V"⟩ : MethodName) jdk_42_method_149_code 6 none [] (own_room 2 1 1 37) #[(.ref y0), (.ref y1), (.int (0 : Int32)), (.int (1 : Int32)), .null] h0 n0 1 1 (fun v h => v = none ∧ Keep h0 h [y0] ∧ Lat Z h y0 1 (fun i => own_y (f i))) := by
  refine Ctr.of (plainFor_of_name own_pn0) ?_
  intro p e s m below meth c T0 hx hby hml hret hlk hnm hown hZ X0
  rw [own_ef62 m (y0) (y1) ((0 : Int32)) ((1 : Int32))]
  refine g_aloadN X0 hx hby own_d11_0 rfl rfl (pc' := 1) rfl ?_
  refine g_initO X0 hx hby hZ (W := 0) hown (hw _ (List.mem_of_getElem? (i := 16) rfl)) (hw _ (List.mem_of_getElem? (i := 17) rfl)) (hw _ (List.mem_of_getElem? (i := 18) rfl)) (by rw [hml]; rfl) own_d11_1 (by decide) (by exact Nat.le_of_eq rfl) (by decide) (pc' := 4) rfl (fun T63 X63 => ?_)
  refine g_iloadN X63 hx hby own_d11_4 rfl (pc' := 5) rfl ?_
  refine g_if_ne X63 hx hby own_d11_5 (by decide) (pc' := 27) (by decide) (pc2 := 8) rfl (fun c5_64 => ?_) (fun q => absurd q (by decide))
  refine g_getS X63 hx hby hZ hown (hw _ (List.mem_of_getElem? (i := 46) rfl)) Via.refl Sc own_d11_27 (pc' := 30) rfl (fun T65 X65 => ?_)
  refine g_if_eq X65 hx hby own_d11_30 (by decide) (pc' := 58) (by decide) (pc2 := 33) rfl (fun q => absurd q hcs) (fun c30_66 => ?_)
  refine g_aloadN X65 hx hby own_d11_33 rfl rfl (pc' := 34) rfl ?_
  refine g_iloadN X65 hx hby own_d11_34 rfl (pc' := 35) rfl ?_
  refine g_iloadN X65 hx hby own_d11_35 rfl (pc' := 36) rfl ?_
  refine g_callS (argsL := [(.ref y1), (.int (0 : Int32)), (.int (1 : Int32))]) (S := []) X65 hx hby hZ (y := (⟨"java/lang/StringUTF16", "compress", "([CII)[B"⟩ : MethodName)) hown (hw _ (List.mem_of_getElem? (i := 87) rfl)) (hw _ (List.mem_of_getElem? (i := 88) rfl)) (hw _ (List.mem_of_getElem? (i := 89) rfl)) (hw _ (List.mem_of_getElem? (i := 90) rfl)) (by decide) (own_p3_1 l Z a0 hw y1 h0 n0 Z0 f hr LA1) (by rw [hml]; rfl) (lenOf own_pd6 rfl) rfl own_d11_36 (by decide) (W := 0) (by exact Nat.le_of_eq rfl) (by decide) (by decide) (by decide) (pc' := 39) rfl (fun T67 v67 X67 hQ67 => ?_)
  obtain ⟨b67, rfl, ka67, hb67, nb67, aa67⟩ := hQ67
  have ne67_y0 : y0 ≠ b67 := Nat.ne_of_lt (Nat.lt_of_lt_of_le Ex.lt hb67)
  have ne67_y1 : y1 ≠ b67 := Nat.ne_of_lt (Nat.lt_of_lt_of_le LA1.lt hb67)
  have q68 := own_sta_keep Sc ka67 all0
  have q69 := Ex.keep ka67
  have q70 := F1.keep ka67 nin0
  have q71 := F2.keep ka67 nin0
  have q72 := LA1.keep ka67 nin0
  have zz73 := Nat.le_trans Z0 ka67.1
  have kk74 : Keep h0 T67.heap [y0] := (Keep.refl h0 [y0]).trans ka67 all0
  show Gl p e below n0 _ _ (T67.setTop (mkF m 39 #[.val (.ref y0), .val (.ref y1), .val (.int (0 : Int32)), .val (.int (1 : Int32)), .val .null, .unset] [(.ref b67)]))
  refine g_astore (L' := #[.val (.ref y0), .val (.ref y1), .val (.int (0 : Int32)), .val (.int (1 : Int32)), .val .null, .val (.ref b67)]) X67 hx hby own_d11_39 rfl rfl (pc' := 41) rfl ?_
  refine g_aloadN X67 hx hby own_d11_41 rfl rfl (pc' := 42) rfl ?_
  refine g_aload X67 hx hby own_d11_42 rfl rfl (pc' := 44) rfl ?_
  refine g_iloadN X67 hx hby own_d11_44 rfl (pc' := 45) rfl ?_
  refine g_callS (argsL := [(.ref b67), (.int (1 : Int32))]) (S := [(.ref y0)]) X67 hx hby hZ (y := (⟨"java/lang/StringUTF16", "coderFromArrayLen", "([BI)B"⟩ : MethodName)) hown (hw _ (List.mem_of_getElem? (i := 94) rfl)) (hw _ (List.mem_of_getElem? (i := 95) rfl)) (hw _ (List.mem_of_getElem? (i := 89) rfl)) (hw _ (List.mem_of_getElem? (i := 96) rfl)) (by decide) (own_cl_1 l Z a0 hw b67 T67.heap n0 _ aa67) (by rw [hml]; rfl) (lenOf own_pd7 rfl) rfl own_d11_45 (by decide) (W := 1) (by exact Nat.le_of_eq rfl) (by decide) (by decide) (by decide) (pc' := 48) rfl (fun T75 v75 X75 hQ75 => ?_)
  obtain ⟨rfl, e75⟩ := hQ75
  rw [e75] at X75
  show Gl p e below n0 _ _ (T75.setTop (mkF m 48 #[.val (.ref y0), .val (.ref y1), .val (.int (0 : Int32)), .val (.int (1 : Int32)), .val .null, .val (.ref b67)] [(.int (0 : Int32)), (.ref y0)]))
  refine g_putF X75 hx hby hZ hown (hw _ (List.mem_of_getElem? (i := 26) rfl)) Via.refl q71 q69 (Or.inr ⟨(hw _ (List.mem_of_getElem? (i := 22) rfl)), rfl, hnm⟩) (hw _ (List.mem_of_getElem? (i := 7) rfl)) (ty := .byte) (by decide) rfl rfl gn own_d11_48 (pc' := 51) rfl (fun T76 h76 X76 W76 => ?_)
  have q77 := q68.wr W76
  have q78 := q69.wr W76
  have q79 := q70.other W76 (Or.inr (slot_ne (Or.inr (hw _ (List.mem_of_getElem? (i := 21) rfl))) (Or.inr (hw _ (List.mem_of_getElem? (i := 22) rfl))) (by decide) (t := (.array .byte)) (t' := .byte) (by decide) (by decide)))
  have q80 := q71.same W76
  have q81 := q72.other W76 (Ne.symm (own_ne_exa Ex (hw _ (List.mem_of_getElem? (i := 7) rfl)) LA1))
  have q82 := aa67.other W76 (Ne.symm ne67_y0)
  have zz83 := Nat.le_trans zz73 (Nat.le_of_eq W76.size.symm)
  have kk84 : Keep h0 h76 [y0] := kk74.wr W76 (Or.inl (by simp))
  refine g_aloadN X76 hx hby own_d11_51 rfl rfl (pc' := 52) rfl ?_
  refine g_aload X76 hx hby own_d11_52 rfl rfl (pc' := 54) rfl ?_
  refine g_putF X76 hx hby hZ hown (hw _ (List.mem_of_getElem? (i := 25) rfl)) Via.refl q79 q78 (Or.inr ⟨(hw _ (List.mem_of_getElem? (i := 21) rfl)), rfl, hnm⟩) (hw _ (List.mem_of_getElem? (i := 7) rfl)) (ty := (.array .byte)) (by decide) rfl rfl gn own_d11_54 (pc' := 57) rfl (fun T85 h85 X85 W85 => ?_)
  have q86 := q77.wr W85
  have q87 := q78.wr W85
  have q88 := q79.same W85
  have q89 := q80.other W85 (Or.inr (slot_ne (Or.inr (hw _ (List.mem_of_getElem? (i := 22) rfl))) (Or.inr (hw _ (List.mem_of_getElem? (i := 21) rfl))) (by decide) (t := .byte) (t' := (.array .byte)) (by decide) (by decide)))
  have q90 := q81.other W85 (Ne.symm (own_ne_exa Ex (hw _ (List.mem_of_getElem? (i := 7) rfl)) LA1))
  have q91 := q82.other W85 (Ne.symm ne67_y0)
  have zz92 := Nat.le_trans zz83 (Nat.le_of_eq W85.size.symm)
  have kk93 : Keep h0 h85 [y0] := kk84.wr W85 (Or.inl (by simp))
  exact g_ret X85 hx hby hret hlk own_d11_57 ⟨rfl, kk93, ⟨b67, q87, q88, q89, q91⟩⟩ (by decide) (by decide)
set_option maxRecDepth 65536 in
set_option maxHeartbeats 40000000 in
theorem own_ef94 (m : MethodId) (y0 : Addr) (y1 : Addr)  : entryFrame m #[(.ref y0), (.ref y1)] 2 = mkF m 0 #[.val (.ref y0), .val (.ref y1)] [] := by first | (simp [entryFrame, mkF, argsToLocals, Value.category, maxLocals]; done) | rfl
theorem own_d12_0 : decode jdk_42_method_3_code 0 = .ok (.aload_n 0, 1) := by decide +kernel
theorem own_d12_1 : decode jdk_42_method_3_code 1 = .ok (.aload_n 1, 1) := by decide +kernel
theorem own_d12_2 : decode jdk_42_method_3_code 2 = .ok (.iconst 0, 1) := by decide +kernel
theorem own_d12_3 : decode jdk_42_method_3_code 3 = .ok (.aload_n 1, 1) := by decide +kernel
theorem own_d12_4 : decode jdk_42_method_3_code 4 = .ok (.arraylength, 1) := by decide +kernel
theorem own_d12_5 : decode jdk_42_method_3_code 5 = .ok (.aconst_null, 1) := by decide +kernel
theorem own_d12_6 : decode jdk_42_method_3_code 6 = .ok (.invokespecial 27, 3) := by decide +kernel
theorem own_pd8 : parseMethodDescriptor "([CIILjava/lang/Void;)V" = some ⟨[(.array .char), .int, .int, (.object "java/lang/Void")], none⟩ := by decide +kernel
theorem own_d12_9 : decode jdk_42_method_3_code 9 = .ok (.return_, 1) := by decide +kernel
set_option maxRecDepth 65536 in
set_option maxHeartbeats 40000000 in
theorem own_n1_1 (l : Launch) (Z : State) (a0 : Array Value) (hw : ∀ d ∈ tables_1, d.before a0 Z = true) (y0 y1 : Addr) (h0 : Heap) (n0 : Nat) (Z0 : n0 ≤ h0.size) (f : Nat → Int32) (hr : ∀ i, i < 1 → 0 ≤ (f i).toInt ∧ (f i).toInt ≤ 255) (LA1 : Ary Z h0 y1 .char 1 (fun i => .int (f i))) (Ex : Exa Z h0 y0 "java/lang/String") (F1 : Fld Z h0 y0 "java/lang/String" "value" "[B" .null) (F2 : Fld Z h0 y0 "java/lang/String" "coder" "B" (.int 0)) (gn : n0 ≤ y0) (cs : Int32) (Sc : Sta Z h0 "java/lang/String" "COMPACT_STRINGS" "Z" (.int cs)) (hcs : ¬ cs = 0) :
    Ctr l Z (⟨"java/lang/String", "<init>", "([C)V"⟩ : MethodName) jdk_42_method_3_code 2 none [] (own_room 3 1 1 54) #[(.ref y0), (.ref y1)] h0 n0 1 1 (fun v h => v = none ∧ Keep h0 h [y0] ∧ Lat Z h y0 1 (fun i => own_y (f i))) := by
  refine Ctr.of (plainFor_of_name own_pn0) ?_
  intro p e s m below meth c T0 hx hby hml hret hlk hnm hown hZ X0
  rw [own_ef94 m (y0) (y1)]
  refine g_aloadN X0 hx hby own_d12_0 rfl rfl (pc' := 1) rfl ?_
  refine g_aloadN X0 hx hby own_d12_1 rfl rfl (pc' := 2) rfl ?_
  refine g_iconst (v := 0) X0 hx hby own_d12_2 rfl (pc' := 3) rfl ?_
  refine g_aloadN X0 hx hby own_d12_3 rfl rfl (pc' := 4) rfl ?_
  refine g_arraylength (n := (1 : Int32)) X0 hx hby hZ LA1 rfl own_d12_4 (pc' := 5) rfl ?_
  refine g_aconst_null X0 hx hby own_d12_5 (pc' := 6) rfl ?_
  refine g_callC (argsL := [(.ref y1), (.int (0 : Int32)), (.int (1 : Int32)), .null]) (S := []) (a := y0) X0 hx hby hZ (y := (⟨"java/lang/String", "<init>", "([CIILjava/lang/Void;)V"⟩ : MethodName)) rfl hown (hw _ (List.mem_of_getElem? (i := 12) rfl)) (hw _ (List.mem_of_getElem? (i := 13) rfl)) (hw _ (List.mem_of_getElem? (i := 8) rfl)) (hw _ (List.mem_of_getElem? (i := 15) rfl)) (by decide) (own_n2_1 l Z a0 hw y0 y1 h0 n0 Z0 f hr LA1 Ex F1 F2 gn cs Sc hcs) (by rw [hml]; rfl) (lenOf own_pd8 rfl) rfl own_d12_6 (by decide) (W := 0) (by exact Nat.le_of_eq rfl) (by decide) (by decide) (by decide) (pc' := 9) rfl (fun T95 v95 X95 hQ95 => ?_)
  obtain ⟨rfl, ka95, la95⟩ := hQ95
  have q96 := own_sta_keep Sc ka95 (allS (own_plain Ex) all0)
  have q97 := Ex.keep ka95
  have q98 := LA1.keep ka95 (ninS (Ne.symm (own_ne_exa Ex (hw _ (List.mem_of_getElem? (i := 7) rfl)) LA1)) nin0)
  have zz99 := Nat.le_trans Z0 ka95.1
  have kk100 : Keep h0 T95.heap [y0] := (Keep.refl h0 [y0]).trans ka95 (allS (Or.inl (by simp)) all0)
  show Gl p e below n0 _ _ (T95.setTop (mkF m 9 #[.val (.ref y0), .val (.ref y1)] []))
  exact g_ret X95 hx hby hret hlk own_d12_9 ⟨rfl, kk100, la95⟩ (by decide) (by decide)
set_option maxRecDepth 65536 in
set_option maxHeartbeats 40000000 in
theorem own_ef101 (m : MethodId) (y0 : Addr) (y1 : Int32) (y2 : Addr) (y3 : Int32) (y4 : Int32)  : entryFrame m #[(.ref y0), (.int y1), (.ref y2), (.int y3), (.int y4)] 7 = mkF m 0 #[.val (.ref y0), .val (.int y1), .val (.ref y2), .val (.int y3), .val (.int y4), .unset, .unset] [] := by first | (simp [entryFrame, mkF, argsToLocals, Value.category, maxLocals]; done) | rfl
set_option maxRecDepth 65536 in
set_option maxHeartbeats 40000000 in
theorem own_p5_2 (l : Launch) (Z : State) (a0 : Array Value) (hw : ∀ d ∈ tables_1, d.before a0 Z = true) (y0 y2 : Addr) (h0 : Heap) (n0 : Nat) (Z0 : n0 ≤ h0.size) (f : Nat → Int32) (g : Nat → Value) (hr : ∀ i, i < 2 → 0 ≤ (f i).toInt ∧ (f i).toInt ≤ 255) (LA0 : Ary Z h0 y0 .char 2 (fun i => .int (f i))) (LA2 : Ary Z h0 y2 .byte 2 g) (gn : n0 ≤ y2) :
    Ctr l Z (⟨"java/lang/StringUTF16", "compress", "([CI[BII)I"⟩ : MethodName) jdk_52_method_21_code 7 (some .int) [] (own_room 0 0 0 0) #[(.ref y0), (.int (0 : Int32)), (.ref y2), (.int (0 : Int32)), (.int (2 : Int32))] h0 n0 0 0 (fun v h => v = some (.int 2) ∧ Keep h0 h [y2] ∧ Ary Z h y2 .byte 2 (fun i => .int (own_y (f i)))) := by
  refine Ctr.of (plainFor_of_name own_pn3) ?_
  intro p e s m below meth c T0 hx hby hml hret hlk hnm hown hZ X0
  rw [own_ef101 m (y0) ((0 : Int32)) (y2) ((0 : Int32)) ((2 : Int32))]
  refine g_iconst (v := 0) X0 hx hby own_d8_0 rfl (pc' := 1) rfl ?_
  refine g_istore (L' := #[.val (.ref y0), .val (.int (0 : Int32)), .val (.ref y2), .val (.int (0 : Int32)), .val (.int (2 : Int32)), .val (.int (0 : Int32)), .unset]) X0 hx hby own_d8_1 rfl (pc' := 3) rfl ?_
  refine g_iload X0 hx hby own_d8_3 rfl (pc' := 5) rfl ?_
  refine g_iload X0 hx hby own_d8_5 rfl (pc' := 7) rfl ?_
  refine g_icmp_ge X0 hx hby own_d8_7 (by decide) (pc' := 44) (by decide) (pc2 := 10) rfl (fun q => absurd (by decide) q) (fun c7_102 => ?_)
  refine g_aloadN X0 hx hby own_d8_10 rfl rfl (pc' := 11) rfl ?_
  refine g_iloadN X0 hx hby own_d8_11 rfl (pc' := 12) rfl ?_
  refine g_caload (i := 0) (v := (.int (f 0))) X0 hx hby hZ LA0 rfl (by decide) rfl own_d8_12 (pc' := 13) rfl ?_
  refine g_istore (L' := #[.val (.ref y0), .val (.int (0 : Int32)), .val (.ref y2), .val (.int (0 : Int32)), .val (.int (2 : Int32)), .val (.int (0 : Int32)), .val (.int (f 0))]) X0 hx hby own_d8_13 rfl (pc' := 15) rfl ?_
  refine g_iload X0 hx hby own_d8_15 rfl (pc' := 17) rfl ?_
  refine g_sipush (v := 255) X0 hx hby own_d8_17 rfl (pc' := 20) rfl ?_
  refine g_icmp_le X0 hx hby own_d8_20 (by decide) (pc' := 26) (by decide) (pc2 := 23) rfl (fun c20_103 => ?_) (fun q => absurd q (own_le255 (hr 0 (by decide))))
  refine g_aloadN X0 hx hby own_d8_26 rfl rfl (pc' := 27) rfl ?_
  refine g_iloadN X0 hx hby own_d8_27 rfl (pc' := 28) rfl ?_
  refine g_iload X0 hx hby own_d8_28 rfl (pc' := 30) rfl ?_
  refine g_i2b X0 hx hby own_d8_30 (pc' := 31) rfl ?_
  refine g_bastore (i := 0) X0 hx hby hZ LA2 rfl (by decide) gn own_d8_31 (pc' := 32) rfl (fun T104 h104 sl104 X104 W104 A104 => ?_)
  have q105 := LA0.other W104 (own_ne_ty LA0 LA2 (by decide))
  have zz106 := Nat.le_trans Z0 (Nat.le_of_eq W104.size.symm)
  have kk107 : Keep h0 h104 [y2] := (Keep.refl h0 [y2]).wr W104 (Or.inl (by simp))
  refine g_iinc (y := 1) (L' := #[.val (.ref y0), .val (.int (1 : Int32)), .val (.ref y2), .val (.int (0 : Int32)), .val (.int (2 : Int32)), .val (.int (0 : Int32)), .val (.int (f 0))]) X104 hx hby own_d8_32 rfl rfl rfl (pc' := 35) rfl ?_
  refine g_iinc (y := 1) (L' := #[.val (.ref y0), .val (.int (1 : Int32)), .val (.ref y2), .val (.int (1 : Int32)), .val (.int (2 : Int32)), .val (.int (0 : Int32)), .val (.int (f 0))]) X104 hx hby own_d8_35 rfl rfl rfl (pc' := 38) rfl ?_
  refine g_iinc (y := 1) (L' := #[.val (.ref y0), .val (.int (1 : Int32)), .val (.ref y2), .val (.int (1 : Int32)), .val (.int (2 : Int32)), .val (.int (1 : Int32)), .val (.int (f 0))]) X104 hx hby own_d8_38 rfl rfl rfl (pc' := 41) rfl ?_
  refine g_goto X104 hx hby own_d8_41 (by decide) (pc' := 3) (by decide) ?_
  refine g_iload X104 hx hby own_d8_3 rfl (pc' := 5) rfl ?_
  refine g_iload X104 hx hby own_d8_5 rfl (pc' := 7) rfl ?_
  refine g_icmp_ge X104 hx hby own_d8_7 (by decide) (pc' := 44) (by decide) (pc2 := 10) rfl (fun q => absurd (by decide) q) (fun c7_108 => ?_)
  refine g_aloadN X104 hx hby own_d8_10 rfl rfl (pc' := 11) rfl ?_
  refine g_iloadN X104 hx hby own_d8_11 rfl (pc' := 12) rfl ?_
  refine g_caload (i := 1) (v := (.int (f 1))) X104 hx hby hZ q105 rfl (by decide) rfl own_d8_12 (pc' := 13) rfl ?_
  refine g_istore (L' := #[.val (.ref y0), .val (.int (1 : Int32)), .val (.ref y2), .val (.int (1 : Int32)), .val (.int (2 : Int32)), .val (.int (1 : Int32)), .val (.int (f 1))]) X104 hx hby own_d8_13 rfl (pc' := 15) rfl ?_
  refine g_iload X104 hx hby own_d8_15 rfl (pc' := 17) rfl ?_
  refine g_sipush (v := 255) X104 hx hby own_d8_17 rfl (pc' := 20) rfl ?_
  refine g_icmp_le X104 hx hby own_d8_20 (by decide) (pc' := 26) (by decide) (pc2 := 23) rfl (fun c20_109 => ?_) (fun q => absurd q (own_le255 (hr 1 (by decide))))
  refine g_aloadN X104 hx hby own_d8_26 rfl rfl (pc' := 27) rfl ?_
  refine g_iloadN X104 hx hby own_d8_27 rfl (pc' := 28) rfl ?_
  refine g_iload X104 hx hby own_d8_28 rfl (pc' := 30) rfl ?_
  refine g_i2b X104 hx hby own_d8_30 (pc' := 31) rfl ?_
  refine g_bastore (i := 1) X104 hx hby hZ A104 rfl (by decide) gn own_d8_31 (pc' := 32) rfl (fun T110 h110 sl110 X110 W110 A110 => ?_)
  have q111 := q105.other W110 (own_ne_ty LA0 LA2 (by decide))
  have zz112 := Nat.le_trans zz106 (Nat.le_of_eq W110.size.symm)
  have kk113 : Keep h0 h110 [y2] := kk107.wr W110 (Or.inl (by simp))
  refine g_iinc (y := 1) (L' := #[.val (.ref y0), .val (.int (2 : Int32)), .val (.ref y2), .val (.int (1 : Int32)), .val (.int (2 : Int32)), .val (.int (1 : Int32)), .val (.int (f 1))]) X110 hx hby own_d8_32 rfl rfl rfl (pc' := 35) rfl ?_
  refine g_iinc (y := 1) (L' := #[.val (.ref y0), .val (.int (2 : Int32)), .val (.ref y2), .val (.int (2 : Int32)), .val (.int (2 : Int32)), .val (.int (1 : Int32)), .val (.int (f 1))]) X110 hx hby own_d8_35 rfl rfl rfl (pc' := 38) rfl ?_
  refine g_iinc (y := 1) (L' := #[.val (.ref y0), .val (.int (2 : Int32)), .val (.ref y2), .val (.int (2 : Int32)), .val (.int (2 : Int32)), .val (.int (2 : Int32)), .val (.int (f 1))]) X110 hx hby own_d8_38 rfl rfl rfl (pc' := 41) rfl ?_
  refine g_goto X110 hx hby own_d8_41 (by decide) (pc' := 3) (by decide) ?_
  refine g_iload X110 hx hby own_d8_3 rfl (pc' := 5) rfl ?_
  refine g_iload X110 hx hby own_d8_5 rfl (pc' := 7) rfl ?_
  refine g_icmp_ge X110 hx hby own_d8_7 (by decide) (pc' := 44) (by decide) (pc2 := 10) rfl (fun c7_114 => ?_) (fun q => absurd q (by decide))
  refine g_iload X110 hx hby own_d8_44 rfl (pc' := 46) rfl ?_
  exact g_retI X110 hx hby hret hlk own_d8_46 ⟨rfl, kk113, A110.congr fun i hi => by
      have h8 : i = 0 ∨ i = 1 := by omega
      rcases h8 with rfl | rfl <;> rfl⟩ (by decide) (by decide)
set_option maxRecDepth 65536 in
set_option maxHeartbeats 40000000 in
theorem own_ef115 (m : MethodId) (y0 : Addr) (y1 : Int32) (y2 : Int32)  : entryFrame m #[(.ref y0), (.int y1), (.int y2)] 6 = mkF m 0 #[.val (.ref y0), .val (.int y1), .val (.int y2), .unset, .unset, .unset] [] := by first | (simp [entryFrame, mkF, argsToLocals, Value.category, maxLocals]; done) | rfl
set_option maxRecDepth 65536 in
set_option maxHeartbeats 40000000 in
theorem own_p3_2 (l : Launch) (Z : State) (a0 : Array Value) (hw : ∀ d ∈ tables_1, d.before a0 Z = true) (y0 : Addr) (h0 : Heap) (n0 : Nat) (Z0 : n0 ≤ h0.size) (f : Nat → Int32) (hr : ∀ i, i < 2 → 0 ≤ (f i).toInt ∧ (f i).toInt ≤ 255) (LA0 : Ary Z h0 y0 .char 2 (fun i => .int (f i))) :
    Ctr l Z (⟨"java/lang/StringUTF16", "compress", "([CII)[B"⟩ : MethodName) jdk_52_method_16_code 6 (some (.array .byte)) [] (own_room 1 1 2 18) #[(.ref y0), (.int (0 : Int32)), (.int (2 : Int32))] h0 n0 1 2 (fun v h => ∃ b, v = some (.ref b) ∧ Keep h0 h [] ∧ h0.size ≤ b ∧ n0 ≤ b ∧ Ary Z h b .byte 2 (fun i => .int (own_y (f i)))) := by
  refine Ctr.of (plainFor_of_name own_pn3) ?_
  intro p e s m below meth c T0 hx hby hml hret hlk hnm hown hZ X0
  rw [own_ef115 m (y0) ((0 : Int32)) ((2 : Int32))]
  refine g_iloadN X0 hx hby own_d9_0 rfl (pc' := 1) rfl ?_
  refine g_newarray (k := 2) (cap := 2) X0 hx hby hZ (hw _ (List.mem_of_getElem? (i := 20) rfl)) own_d9_1 rfl (by decide) (by decide) (by decide) (by decide) (pc' := 3) rfl (fun T116 h116 b116 g116 X116 E116 A116 => ?_)
  have ne117 : y0 ≠ b116 := by rw [g116]; exact Nat.ne_of_lt LA0.lt
  have nn118 : n0 ≤ b116 := by rw [g116]; exact Z0
  have hh119 : h0.size ≤ b116 := by rw [g116]; exact (Keep.refl h0 []).1
  have q120 := LA0.ext E116
  have zz121 := Nat.le_trans Z0 E116.1
  have kk122 : Keep h0 h116 [] := (Keep.refl h0 []).ext E116
  refine g_astoreN (L' := #[.val (.ref y0), .val (.int (0 : Int32)), .val (.int (2 : Int32)), .val (.ref b116), .unset, .unset]) X116 hx hby own_d9_3 rfl rfl (pc' := 4) rfl ?_
  refine g_aloadN X116 hx hby own_d9_4 rfl rfl (pc' := 5) rfl ?_
  refine g_iloadN X116 hx hby own_d9_5 rfl (pc' := 6) rfl ?_
  refine g_aloadN X116 hx hby own_d9_6 rfl rfl (pc' := 7) rfl ?_
  refine g_iconst (v := 0) X116 hx hby own_d9_7 rfl (pc' := 8) rfl ?_
  refine g_iloadN X116 hx hby own_d9_8 rfl (pc' := 9) rfl ?_
  refine g_callS (argsL := [(.ref y0), (.int (0 : Int32)), (.ref b116), (.int (0 : Int32)), (.int (2 : Int32))]) (S := []) X116 hx hby hZ (y := (⟨"java/lang/StringUTF16", "compress", "([CI[BII)I"⟩ : MethodName)) hown (hw _ (List.mem_of_getElem? (i := 91) rfl)) (hw _ (List.mem_of_getElem? (i := 92) rfl)) (hw _ (List.mem_of_getElem? (i := 89) rfl)) (hw _ (List.mem_of_getElem? (i := 93) rfl)) (by decide) (own_p5_2 l Z a0 hw y0 b116 h116 n0 zz121 f _ hr q120 A116 nn118) (by rw [hml]; rfl) (lenOf own_pd5 rfl) rfl own_d9_9 (by decide) (W := 0) (by exact Nat.le_of_eq rfl) (by decide) (by decide) (by decide) (pc' := 12) rfl (fun T123 v123 X123 hQ123 => ?_)
  obtain ⟨rfl, ka123, aa123⟩ := hQ123
  have q124 := q120.keep ka123 (ninS ne117 nin0)
  have zz125 := Nat.le_trans zz121 ka123.1
  have kk126 : Keep h0 T123.heap [] := kk122.trans ka123 (allS (Or.inr hh119) all0)
  show Gl p e below n0 _ _ (T123.setTop (mkF m 12 #[.val (.ref y0), .val (.int (0 : Int32)), .val (.int (2 : Int32)), .val (.ref b116), .unset, .unset] [(.int (2 : Int32))]))
  refine g_istore (L' := #[.val (.ref y0), .val (.int (0 : Int32)), .val (.int (2 : Int32)), .val (.ref b116), .val (.int (2 : Int32)), .unset]) X123 hx hby own_d9_12 rfl (pc' := 14) rfl ?_
  refine g_iload X123 hx hby own_d9_14 rfl (pc' := 16) rfl ?_
  refine g_iloadN X123 hx hby own_d9_16 rfl (pc' := 17) rfl ?_
  refine g_icmp_eq X123 hx hby own_d9_17 (by decide) (pc' := 57) (by decide) (pc2 := 20) rfl (fun c17_127 => ?_) (fun q => absurd (by decide) q)
  refine g_aloadN X123 hx hby own_d9_57 rfl rfl (pc' := 58) rfl ?_
  exact g_retA X123 hx hby hret hlk rfl rfl own_d9_58 ⟨b116, rfl, kk126, hh119, nn118, aa123⟩ (by decide) (by decide)
set_option maxRecDepth 65536 in
set_option maxHeartbeats 40000000 in
theorem own_ef128 (m : MethodId) (y0 : Addr) (y1 : Int32)  : entryFrame m #[(.ref y0), (.int y1)] 2 = mkF m 0 #[.val (.ref y0), .val (.int y1)] [] := by first | (simp [entryFrame, mkF, argsToLocals, Value.category, maxLocals]; done) | rfl
set_option maxRecDepth 65536 in
set_option maxHeartbeats 40000000 in
theorem own_cl_2 (l : Launch) (Z : State) (a0 : Array Value) (hw : ∀ d ∈ tables_1, d.before a0 Z = true) (y0 : Addr) (h0 : Heap) (n0 : Nat) (f : Nat → Value) (LA0 : Ary Z h0 y0 .byte 2 f) :
    Ctr l Z (⟨"java/lang/StringUTF16", "coderFromArrayLen", "([BI)B"⟩ : MethodName) jdk_52_method_15_code 2 (some .byte) [] (own_room 0 0 0 0) #[(.ref y0), (.int (2 : Int32))] h0 n0 0 0 (fun v h => v = some (.int 0) ∧ h = h0) := by
  refine Ctr.of (plainFor_of_name own_pn3) ?_
  intro p e s m below meth c T0 hx hby hml hret hlk hnm hown hZ X0
  rw [own_ef128 m (y0) ((2 : Int32))]
  refine g_iloadN X0 hx hby own_d10_0 rfl (pc' := 1) rfl ?_
  refine g_aloadN X0 hx hby own_d10_1 rfl rfl (pc' := 2) rfl ?_
  refine g_arraylength (n := (2 : Int32)) X0 hx hby hZ LA0 rfl own_d10_2 (pc' := 3) rfl ?_
  refine g_isub X0 hx hby own_d10_3 (pc' := 4) rfl ?_
  refine g_bipush (v := 31) X0 hx hby own_d10_4 rfl (pc' := 6) rfl ?_
  refine g_iushr X0 hx hby own_d10_6 (pc' := 7) rfl ?_
  refine g_i2b X0 hx hby own_d10_7 (pc' := 8) rfl ?_
  exact g_retN X0 hx hby hret hlk (by simp) own_d10_8 ⟨congrArg (fun z => some (Value.int z)) (by decide), rfl⟩ (by decide) (by decide)
set_option maxRecDepth 65536 in
set_option maxHeartbeats 40000000 in
theorem own_ef129 (m : MethodId) (y0 : Addr) (y1 : Addr) (y2 : Int32) (y3 : Int32)  : entryFrame m #[(.ref y0), (.ref y1), (.int y2), (.int y3), .null] 6 = mkF m 0 #[.val (.ref y0), .val (.ref y1), .val (.int y2), .val (.int y3), .val .null, .unset] [] := by first | (simp [entryFrame, mkF, argsToLocals, Value.category, maxLocals]; done) | rfl
set_option maxRecDepth 65536 in
set_option maxHeartbeats 40000000 in
theorem own_n2_2 (l : Launch) (Z : State) (a0 : Array Value) (hw : ∀ d ∈ tables_1, d.before a0 Z = true) (y0 y1 : Addr) (h0 : Heap) (n0 : Nat) (Z0 : n0 ≤ h0.size) (f : Nat → Int32) (hr : ∀ i, i < 2 → 0 ≤ (f i).toInt ∧ (f i).toInt ≤ 255) (LA1 : Ary Z h0 y1 .char 2 (fun i => .int (f i))) (Ex : Exa Z h0 y0 "java/lang/String") (F1 : Fld Z h0 y0 "java/lang/String" "value" "[B" .null) (F2 : Fld Z h0 y0 "java/lang/String" "coder" "B" (.int 0)) (gn : n0 ≤ y0) (cs : Int32) (Sc : Sta Z h0 "java/lang/String" "COMPACT_STRINGS" "Z" (.int cs)) (hcs : ¬ cs = 0) :
    Ctr l Z (⟨"java/lang/String", "<init>", "([CIILjava/lang/Void;)V"⟩ : MethodName) jdk_42_method_149_code 6 none [] (own_room 2 1 2 37) #[(.ref y0), (.ref y1), (.int (0 : Int32)), (.int (2 : Int32)), .null] h0 n0 1 2 (fun v h => v = none ∧ Keep h0 h [y0] ∧ Lat Z h y0 2 (fun i => own_y (f i))) := by
  refine Ctr.of (plainFor_of_name own_pn0) ?_
  intro p e s m below meth c T0 hx hby hml hret hlk hnm hown hZ X0
  rw [own_ef129 m (y0) (y1) ((0 : Int32)) ((2 : Int32))]
  refine g_aloadN X0 hx hby own_d11_0 rfl rfl (pc' := 1) rfl ?_
  refine g_initO X0 hx hby hZ (W := 0) hown (hw _ (List.mem_of_getElem? (i := 16) rfl)) (hw _ (List.mem_of_getElem? (i := 17) rfl)) (hw _ (List.mem_of_getElem? (i := 18) rfl)) (by rw [hml]; rfl) own_d11_1 (by decide) (by exact Nat.le_of_eq rfl) (by decide) (pc' := 4) rfl (fun T130 X130 => ?_)
  refine g_iloadN X130 hx hby own_d11_4 rfl (pc' := 5) rfl ?_
  refine g_if_ne X130 hx hby own_d11_5 (by decide) (pc' := 27) (by decide) (pc2 := 8) rfl (fun c5_131 => ?_) (fun q => absurd q (by decide))
  refine g_getS X130 hx hby hZ hown (hw _ (List.mem_of_getElem? (i := 46) rfl)) Via.refl Sc own_d11_27 (pc' := 30) rfl (fun T132 X132 => ?_)
  refine g_if_eq X132 hx hby own_d11_30 (by decide) (pc' := 58) (by decide) (pc2 := 33) rfl (fun q => absurd q hcs) (fun c30_133 => ?_)
  refine g_aloadN X132 hx hby own_d11_33 rfl rfl (pc' := 34) rfl ?_
  refine g_iloadN X132 hx hby own_d11_34 rfl (pc' := 35) rfl ?_
  refine g_iloadN X132 hx hby own_d11_35 rfl (pc' := 36) rfl ?_
  refine g_callS (argsL := [(.ref y1), (.int (0 : Int32)), (.int (2 : Int32))]) (S := []) X132 hx hby hZ (y := (⟨"java/lang/StringUTF16", "compress", "([CII)[B"⟩ : MethodName)) hown (hw _ (List.mem_of_getElem? (i := 87) rfl)) (hw _ (List.mem_of_getElem? (i := 88) rfl)) (hw _ (List.mem_of_getElem? (i := 89) rfl)) (hw _ (List.mem_of_getElem? (i := 90) rfl)) (by decide) (own_p3_2 l Z a0 hw y1 h0 n0 Z0 f hr LA1) (by rw [hml]; rfl) (lenOf own_pd6 rfl) rfl own_d11_36 (by decide) (W := 0) (by exact Nat.le_of_eq rfl) (by decide) (by decide) (by decide) (pc' := 39) rfl (fun T134 v134 X134 hQ134 => ?_)
  obtain ⟨b134, rfl, ka134, hb134, nb134, aa134⟩ := hQ134
  have ne134_y0 : y0 ≠ b134 := Nat.ne_of_lt (Nat.lt_of_lt_of_le Ex.lt hb134)
  have ne134_y1 : y1 ≠ b134 := Nat.ne_of_lt (Nat.lt_of_lt_of_le LA1.lt hb134)
  have q135 := own_sta_keep Sc ka134 all0
  have q136 := Ex.keep ka134
  have q137 := F1.keep ka134 nin0
  have q138 := F2.keep ka134 nin0
  have q139 := LA1.keep ka134 nin0
  have zz140 := Nat.le_trans Z0 ka134.1
  have kk141 : Keep h0 T134.heap [y0] := (Keep.refl h0 [y0]).trans ka134 all0
  show Gl p e below n0 _ _ (T134.setTop (mkF m 39 #[.val (.ref y0), .val (.ref y1), .val (.int (0 : Int32)), .val (.int (2 : Int32)), .val .null, .unset] [(.ref b134)]))
  refine g_astore (L' := #[.val (.ref y0), .val (.ref y1), .val (.int (0 : Int32)), .val (.int (2 : Int32)), .val .null, .val (.ref b134)]) X134 hx hby own_d11_39 rfl rfl (pc' := 41) rfl ?_
  refine g_aloadN X134 hx hby own_d11_41 rfl rfl (pc' := 42) rfl ?_
  refine g_aload X134 hx hby own_d11_42 rfl rfl (pc' := 44) rfl ?_
  refine g_iloadN X134 hx hby own_d11_44 rfl (pc' := 45) rfl ?_
  refine g_callS (argsL := [(.ref b134), (.int (2 : Int32))]) (S := [(.ref y0)]) X134 hx hby hZ (y := (⟨"java/lang/StringUTF16", "coderFromArrayLen", "([BI)B"⟩ : MethodName)) hown (hw _ (List.mem_of_getElem? (i := 94) rfl)) (hw _ (List.mem_of_getElem? (i := 95) rfl)) (hw _ (List.mem_of_getElem? (i := 89) rfl)) (hw _ (List.mem_of_getElem? (i := 96) rfl)) (by decide) (own_cl_2 l Z a0 hw b134 T134.heap n0 _ aa134) (by rw [hml]; rfl) (lenOf own_pd7 rfl) rfl own_d11_45 (by decide) (W := 1) (by exact Nat.le_of_eq rfl) (by decide) (by decide) (by decide) (pc' := 48) rfl (fun T142 v142 X142 hQ142 => ?_)
  obtain ⟨rfl, e142⟩ := hQ142
  rw [e142] at X142
  show Gl p e below n0 _ _ (T142.setTop (mkF m 48 #[.val (.ref y0), .val (.ref y1), .val (.int (0 : Int32)), .val (.int (2 : Int32)), .val .null, .val (.ref b134)] [(.int (0 : Int32)), (.ref y0)]))
  refine g_putF X142 hx hby hZ hown (hw _ (List.mem_of_getElem? (i := 26) rfl)) Via.refl q138 q136 (Or.inr ⟨(hw _ (List.mem_of_getElem? (i := 22) rfl)), rfl, hnm⟩) (hw _ (List.mem_of_getElem? (i := 7) rfl)) (ty := .byte) (by decide) rfl rfl gn own_d11_48 (pc' := 51) rfl (fun T143 h143 X143 W143 => ?_)
  have q144 := q135.wr W143
  have q145 := q136.wr W143
  have q146 := q137.other W143 (Or.inr (slot_ne (Or.inr (hw _ (List.mem_of_getElem? (i := 21) rfl))) (Or.inr (hw _ (List.mem_of_getElem? (i := 22) rfl))) (by decide) (t := (.array .byte)) (t' := .byte) (by decide) (by decide)))
  have q147 := q138.same W143
  have q148 := q139.other W143 (Ne.symm (own_ne_exa Ex (hw _ (List.mem_of_getElem? (i := 7) rfl)) LA1))
  have q149 := aa134.other W143 (Ne.symm ne134_y0)
  have zz150 := Nat.le_trans zz140 (Nat.le_of_eq W143.size.symm)
  have kk151 : Keep h0 h143 [y0] := kk141.wr W143 (Or.inl (by simp))
  refine g_aloadN X143 hx hby own_d11_51 rfl rfl (pc' := 52) rfl ?_
  refine g_aload X143 hx hby own_d11_52 rfl rfl (pc' := 54) rfl ?_
  refine g_putF X143 hx hby hZ hown (hw _ (List.mem_of_getElem? (i := 25) rfl)) Via.refl q146 q145 (Or.inr ⟨(hw _ (List.mem_of_getElem? (i := 21) rfl)), rfl, hnm⟩) (hw _ (List.mem_of_getElem? (i := 7) rfl)) (ty := (.array .byte)) (by decide) rfl rfl gn own_d11_54 (pc' := 57) rfl (fun T152 h152 X152 W152 => ?_)
  have q153 := q144.wr W152
  have q154 := q145.wr W152
  have q155 := q146.same W152
  have q156 := q147.other W152 (Or.inr (slot_ne (Or.inr (hw _ (List.mem_of_getElem? (i := 22) rfl))) (Or.inr (hw _ (List.mem_of_getElem? (i := 21) rfl))) (by decide) (t := .byte) (t' := (.array .byte)) (by decide) (by decide)))
  have q157 := q148.other W152 (Ne.symm (own_ne_exa Ex (hw _ (List.mem_of_getElem? (i := 7) rfl)) LA1))
  have q158 := q149.other W152 (Ne.symm ne134_y0)
  have zz159 := Nat.le_trans zz150 (Nat.le_of_eq W152.size.symm)
  have kk160 : Keep h0 h152 [y0] := kk151.wr W152 (Or.inl (by simp))
  exact g_ret X152 hx hby hret hlk own_d11_57 ⟨rfl, kk160, ⟨b134, q154, q155, q156, q158⟩⟩ (by decide) (by decide)
set_option maxRecDepth 65536 in
set_option maxHeartbeats 40000000 in
theorem own_ef161 (m : MethodId) (y0 : Addr) (y1 : Addr)  : entryFrame m #[(.ref y0), (.ref y1)] 2 = mkF m 0 #[.val (.ref y0), .val (.ref y1)] [] := by first | (simp [entryFrame, mkF, argsToLocals, Value.category, maxLocals]; done) | rfl
set_option maxRecDepth 65536 in
set_option maxHeartbeats 40000000 in
theorem own_n1_2 (l : Launch) (Z : State) (a0 : Array Value) (hw : ∀ d ∈ tables_1, d.before a0 Z = true) (y0 y1 : Addr) (h0 : Heap) (n0 : Nat) (Z0 : n0 ≤ h0.size) (f : Nat → Int32) (hr : ∀ i, i < 2 → 0 ≤ (f i).toInt ∧ (f i).toInt ≤ 255) (LA1 : Ary Z h0 y1 .char 2 (fun i => .int (f i))) (Ex : Exa Z h0 y0 "java/lang/String") (F1 : Fld Z h0 y0 "java/lang/String" "value" "[B" .null) (F2 : Fld Z h0 y0 "java/lang/String" "coder" "B" (.int 0)) (gn : n0 ≤ y0) (cs : Int32) (Sc : Sta Z h0 "java/lang/String" "COMPACT_STRINGS" "Z" (.int cs)) (hcs : ¬ cs = 0) :
    Ctr l Z (⟨"java/lang/String", "<init>", "([C)V"⟩ : MethodName) jdk_42_method_3_code 2 none [] (own_room 3 1 2 54) #[(.ref y0), (.ref y1)] h0 n0 1 2 (fun v h => v = none ∧ Keep h0 h [y0] ∧ Lat Z h y0 2 (fun i => own_y (f i))) := by
  refine Ctr.of (plainFor_of_name own_pn0) ?_
  intro p e s m below meth c T0 hx hby hml hret hlk hnm hown hZ X0
  rw [own_ef161 m (y0) (y1)]
  refine g_aloadN X0 hx hby own_d12_0 rfl rfl (pc' := 1) rfl ?_
  refine g_aloadN X0 hx hby own_d12_1 rfl rfl (pc' := 2) rfl ?_
  refine g_iconst (v := 0) X0 hx hby own_d12_2 rfl (pc' := 3) rfl ?_
  refine g_aloadN X0 hx hby own_d12_3 rfl rfl (pc' := 4) rfl ?_
  refine g_arraylength (n := (2 : Int32)) X0 hx hby hZ LA1 rfl own_d12_4 (pc' := 5) rfl ?_
  refine g_aconst_null X0 hx hby own_d12_5 (pc' := 6) rfl ?_
  refine g_callC (argsL := [(.ref y1), (.int (0 : Int32)), (.int (2 : Int32)), .null]) (S := []) (a := y0) X0 hx hby hZ (y := (⟨"java/lang/String", "<init>", "([CIILjava/lang/Void;)V"⟩ : MethodName)) rfl hown (hw _ (List.mem_of_getElem? (i := 12) rfl)) (hw _ (List.mem_of_getElem? (i := 13) rfl)) (hw _ (List.mem_of_getElem? (i := 8) rfl)) (hw _ (List.mem_of_getElem? (i := 15) rfl)) (by decide) (own_n2_2 l Z a0 hw y0 y1 h0 n0 Z0 f hr LA1 Ex F1 F2 gn cs Sc hcs) (by rw [hml]; rfl) (lenOf own_pd8 rfl) rfl own_d12_6 (by decide) (W := 0) (by exact Nat.le_of_eq rfl) (by decide) (by decide) (by decide) (pc' := 9) rfl (fun T162 v162 X162 hQ162 => ?_)
  obtain ⟨rfl, ka162, la162⟩ := hQ162
  have q163 := own_sta_keep Sc ka162 (allS (own_plain Ex) all0)
  have q164 := Ex.keep ka162
  have q165 := LA1.keep ka162 (ninS (Ne.symm (own_ne_exa Ex (hw _ (List.mem_of_getElem? (i := 7) rfl)) LA1)) nin0)
  have zz166 := Nat.le_trans Z0 ka162.1
  have kk167 : Keep h0 T162.heap [y0] := (Keep.refl h0 [y0]).trans ka162 (allS (Or.inl (by simp)) all0)
  show Gl p e below n0 _ _ (T162.setTop (mkF m 9 #[.val (.ref y0), .val (.ref y1)] []))
  exact g_ret X162 hx hby hret hlk own_d12_9 ⟨rfl, kk167, la162⟩ (by decide) (by decide)
set_option maxRecDepth 65536 in
set_option maxHeartbeats 40000000 in
theorem own_ef168 (m : MethodId) (y0 : Addr) (y1 : Int32) (y2 : Addr) (y3 : Int32) (y4 : Int32)  : entryFrame m #[(.ref y0), (.int y1), (.ref y2), (.int y3), (.int y4)] 7 = mkF m 0 #[.val (.ref y0), .val (.int y1), .val (.ref y2), .val (.int y3), .val (.int y4), .unset, .unset] [] := by first | (simp [entryFrame, mkF, argsToLocals, Value.category, maxLocals]; done) | rfl
set_option maxRecDepth 65536 in
set_option maxHeartbeats 40000000 in
theorem own_p5_3 (l : Launch) (Z : State) (a0 : Array Value) (hw : ∀ d ∈ tables_1, d.before a0 Z = true) (y0 y2 : Addr) (h0 : Heap) (n0 : Nat) (Z0 : n0 ≤ h0.size) (f : Nat → Int32) (g : Nat → Value) (hr : ∀ i, i < 3 → 0 ≤ (f i).toInt ∧ (f i).toInt ≤ 255) (LA0 : Ary Z h0 y0 .char 3 (fun i => .int (f i))) (LA2 : Ary Z h0 y2 .byte 3 g) (gn : n0 ≤ y2) :
    Ctr l Z (⟨"java/lang/StringUTF16", "compress", "([CI[BII)I"⟩ : MethodName) jdk_52_method_21_code 7 (some .int) [] (own_room 0 0 0 0) #[(.ref y0), (.int (0 : Int32)), (.ref y2), (.int (0 : Int32)), (.int (3 : Int32))] h0 n0 0 0 (fun v h => v = some (.int 3) ∧ Keep h0 h [y2] ∧ Ary Z h y2 .byte 3 (fun i => .int (own_y (f i)))) := by
  refine Ctr.of (plainFor_of_name own_pn3) ?_
  intro p e s m below meth c T0 hx hby hml hret hlk hnm hown hZ X0
  rw [own_ef168 m (y0) ((0 : Int32)) (y2) ((0 : Int32)) ((3 : Int32))]
  refine g_iconst (v := 0) X0 hx hby own_d8_0 rfl (pc' := 1) rfl ?_
  refine g_istore (L' := #[.val (.ref y0), .val (.int (0 : Int32)), .val (.ref y2), .val (.int (0 : Int32)), .val (.int (3 : Int32)), .val (.int (0 : Int32)), .unset]) X0 hx hby own_d8_1 rfl (pc' := 3) rfl ?_
  refine g_iload X0 hx hby own_d8_3 rfl (pc' := 5) rfl ?_
  refine g_iload X0 hx hby own_d8_5 rfl (pc' := 7) rfl ?_
  refine g_icmp_ge X0 hx hby own_d8_7 (by decide) (pc' := 44) (by decide) (pc2 := 10) rfl (fun q => absurd (by decide) q) (fun c7_169 => ?_)
  refine g_aloadN X0 hx hby own_d8_10 rfl rfl (pc' := 11) rfl ?_
  refine g_iloadN X0 hx hby own_d8_11 rfl (pc' := 12) rfl ?_
  refine g_caload (i := 0) (v := (.int (f 0))) X0 hx hby hZ LA0 rfl (by decide) rfl own_d8_12 (pc' := 13) rfl ?_
  refine g_istore (L' := #[.val (.ref y0), .val (.int (0 : Int32)), .val (.ref y2), .val (.int (0 : Int32)), .val (.int (3 : Int32)), .val (.int (0 : Int32)), .val (.int (f 0))]) X0 hx hby own_d8_13 rfl (pc' := 15) rfl ?_
  refine g_iload X0 hx hby own_d8_15 rfl (pc' := 17) rfl ?_
  refine g_sipush (v := 255) X0 hx hby own_d8_17 rfl (pc' := 20) rfl ?_
  refine g_icmp_le X0 hx hby own_d8_20 (by decide) (pc' := 26) (by decide) (pc2 := 23) rfl (fun c20_170 => ?_) (fun q => absurd q (own_le255 (hr 0 (by decide))))
  refine g_aloadN X0 hx hby own_d8_26 rfl rfl (pc' := 27) rfl ?_
  refine g_iloadN X0 hx hby own_d8_27 rfl (pc' := 28) rfl ?_
  refine g_iload X0 hx hby own_d8_28 rfl (pc' := 30) rfl ?_
  refine g_i2b X0 hx hby own_d8_30 (pc' := 31) rfl ?_
  refine g_bastore (i := 0) X0 hx hby hZ LA2 rfl (by decide) gn own_d8_31 (pc' := 32) rfl (fun T171 h171 sl171 X171 W171 A171 => ?_)
  have q172 := LA0.other W171 (own_ne_ty LA0 LA2 (by decide))
  have zz173 := Nat.le_trans Z0 (Nat.le_of_eq W171.size.symm)
  have kk174 : Keep h0 h171 [y2] := (Keep.refl h0 [y2]).wr W171 (Or.inl (by simp))
  refine g_iinc (y := 1) (L' := #[.val (.ref y0), .val (.int (1 : Int32)), .val (.ref y2), .val (.int (0 : Int32)), .val (.int (3 : Int32)), .val (.int (0 : Int32)), .val (.int (f 0))]) X171 hx hby own_d8_32 rfl rfl rfl (pc' := 35) rfl ?_
  refine g_iinc (y := 1) (L' := #[.val (.ref y0), .val (.int (1 : Int32)), .val (.ref y2), .val (.int (1 : Int32)), .val (.int (3 : Int32)), .val (.int (0 : Int32)), .val (.int (f 0))]) X171 hx hby own_d8_35 rfl rfl rfl (pc' := 38) rfl ?_
  refine g_iinc (y := 1) (L' := #[.val (.ref y0), .val (.int (1 : Int32)), .val (.ref y2), .val (.int (1 : Int32)), .val (.int (3 : Int32)), .val (.int (1 : Int32)), .val (.int (f 0))]) X171 hx hby own_d8_38 rfl rfl rfl (pc' := 41) rfl ?_
  refine g_goto X171 hx hby own_d8_41 (by decide) (pc' := 3) (by decide) ?_
  refine g_iload X171 hx hby own_d8_3 rfl (pc' := 5) rfl ?_
  refine g_iload X171 hx hby own_d8_5 rfl (pc' := 7) rfl ?_
  refine g_icmp_ge X171 hx hby own_d8_7 (by decide) (pc' := 44) (by decide) (pc2 := 10) rfl (fun q => absurd (by decide) q) (fun c7_175 => ?_)
  refine g_aloadN X171 hx hby own_d8_10 rfl rfl (pc' := 11) rfl ?_
  refine g_iloadN X171 hx hby own_d8_11 rfl (pc' := 12) rfl ?_
  refine g_caload (i := 1) (v := (.int (f 1))) X171 hx hby hZ q172 rfl (by decide) rfl own_d8_12 (pc' := 13) rfl ?_
  refine g_istore (L' := #[.val (.ref y0), .val (.int (1 : Int32)), .val (.ref y2), .val (.int (1 : Int32)), .val (.int (3 : Int32)), .val (.int (1 : Int32)), .val (.int (f 1))]) X171 hx hby own_d8_13 rfl (pc' := 15) rfl ?_
  refine g_iload X171 hx hby own_d8_15 rfl (pc' := 17) rfl ?_
  refine g_sipush (v := 255) X171 hx hby own_d8_17 rfl (pc' := 20) rfl ?_
  refine g_icmp_le X171 hx hby own_d8_20 (by decide) (pc' := 26) (by decide) (pc2 := 23) rfl (fun c20_176 => ?_) (fun q => absurd q (own_le255 (hr 1 (by decide))))
  refine g_aloadN X171 hx hby own_d8_26 rfl rfl (pc' := 27) rfl ?_
  refine g_iloadN X171 hx hby own_d8_27 rfl (pc' := 28) rfl ?_
  refine g_iload X171 hx hby own_d8_28 rfl (pc' := 30) rfl ?_
  refine g_i2b X171 hx hby own_d8_30 (pc' := 31) rfl ?_
  refine g_bastore (i := 1) X171 hx hby hZ A171 rfl (by decide) gn own_d8_31 (pc' := 32) rfl (fun T177 h177 sl177 X177 W177 A177 => ?_)
  have q178 := q172.other W177 (own_ne_ty LA0 LA2 (by decide))
  have zz179 := Nat.le_trans zz173 (Nat.le_of_eq W177.size.symm)
  have kk180 : Keep h0 h177 [y2] := kk174.wr W177 (Or.inl (by simp))
  refine g_iinc (y := 1) (L' := #[.val (.ref y0), .val (.int (2 : Int32)), .val (.ref y2), .val (.int (1 : Int32)), .val (.int (3 : Int32)), .val (.int (1 : Int32)), .val (.int (f 1))]) X177 hx hby own_d8_32 rfl rfl rfl (pc' := 35) rfl ?_
  refine g_iinc (y := 1) (L' := #[.val (.ref y0), .val (.int (2 : Int32)), .val (.ref y2), .val (.int (2 : Int32)), .val (.int (3 : Int32)), .val (.int (1 : Int32)), .val (.int (f 1))]) X177 hx hby own_d8_35 rfl rfl rfl (pc' := 38) rfl ?_
  refine g_iinc (y := 1) (L' := #[.val (.ref y0), .val (.int (2 : Int32)), .val (.ref y2), .val (.int (2 : Int32)), .val (.int (3 : Int32)), .val (.int (2 : Int32)), .val (.int (f 1))]) X177 hx hby own_d8_38 rfl rfl rfl (pc' := 41) rfl ?_
  refine g_goto X177 hx hby own_d8_41 (by decide) (pc' := 3) (by decide) ?_
  refine g_iload X177 hx hby own_d8_3 rfl (pc' := 5) rfl ?_
  refine g_iload X177 hx hby own_d8_5 rfl (pc' := 7) rfl ?_
  refine g_icmp_ge X177 hx hby own_d8_7 (by decide) (pc' := 44) (by decide) (pc2 := 10) rfl (fun q => absurd (by decide) q) (fun c7_181 => ?_)
  refine g_aloadN X177 hx hby own_d8_10 rfl rfl (pc' := 11) rfl ?_
  refine g_iloadN X177 hx hby own_d8_11 rfl (pc' := 12) rfl ?_
  refine g_caload (i := 2) (v := (.int (f 2))) X177 hx hby hZ q178 rfl (by decide) rfl own_d8_12 (pc' := 13) rfl ?_
  refine g_istore (L' := #[.val (.ref y0), .val (.int (2 : Int32)), .val (.ref y2), .val (.int (2 : Int32)), .val (.int (3 : Int32)), .val (.int (2 : Int32)), .val (.int (f 2))]) X177 hx hby own_d8_13 rfl (pc' := 15) rfl ?_
  refine g_iload X177 hx hby own_d8_15 rfl (pc' := 17) rfl ?_
  refine g_sipush (v := 255) X177 hx hby own_d8_17 rfl (pc' := 20) rfl ?_
  refine g_icmp_le X177 hx hby own_d8_20 (by decide) (pc' := 26) (by decide) (pc2 := 23) rfl (fun c20_182 => ?_) (fun q => absurd q (own_le255 (hr 2 (by decide))))
  refine g_aloadN X177 hx hby own_d8_26 rfl rfl (pc' := 27) rfl ?_
  refine g_iloadN X177 hx hby own_d8_27 rfl (pc' := 28) rfl ?_
  refine g_iload X177 hx hby own_d8_28 rfl (pc' := 30) rfl ?_
  refine g_i2b X177 hx hby own_d8_30 (pc' := 31) rfl ?_
  refine g_bastore (i := 2) X177 hx hby hZ A177 rfl (by decide) gn own_d8_31 (pc' := 32) rfl (fun T183 h183 sl183 X183 W183 A183 => ?_)
  have q184 := q178.other W183 (own_ne_ty LA0 LA2 (by decide))
  have zz185 := Nat.le_trans zz179 (Nat.le_of_eq W183.size.symm)
  have kk186 : Keep h0 h183 [y2] := kk180.wr W183 (Or.inl (by simp))
  refine g_iinc (y := 1) (L' := #[.val (.ref y0), .val (.int (3 : Int32)), .val (.ref y2), .val (.int (2 : Int32)), .val (.int (3 : Int32)), .val (.int (2 : Int32)), .val (.int (f 2))]) X183 hx hby own_d8_32 rfl rfl rfl (pc' := 35) rfl ?_
  refine g_iinc (y := 1) (L' := #[.val (.ref y0), .val (.int (3 : Int32)), .val (.ref y2), .val (.int (3 : Int32)), .val (.int (3 : Int32)), .val (.int (2 : Int32)), .val (.int (f 2))]) X183 hx hby own_d8_35 rfl rfl rfl (pc' := 38) rfl ?_
  refine g_iinc (y := 1) (L' := #[.val (.ref y0), .val (.int (3 : Int32)), .val (.ref y2), .val (.int (3 : Int32)), .val (.int (3 : Int32)), .val (.int (3 : Int32)), .val (.int (f 2))]) X183 hx hby own_d8_38 rfl rfl rfl (pc' := 41) rfl ?_
  refine g_goto X183 hx hby own_d8_41 (by decide) (pc' := 3) (by decide) ?_
  refine g_iload X183 hx hby own_d8_3 rfl (pc' := 5) rfl ?_
  refine g_iload X183 hx hby own_d8_5 rfl (pc' := 7) rfl ?_
  refine g_icmp_ge X183 hx hby own_d8_7 (by decide) (pc' := 44) (by decide) (pc2 := 10) rfl (fun c7_187 => ?_) (fun q => absurd q (by decide))
  refine g_iload X183 hx hby own_d8_44 rfl (pc' := 46) rfl ?_
  exact g_retI X183 hx hby hret hlk own_d8_46 ⟨rfl, kk186, A183.congr fun i hi => by
      have h8 : i = 0 ∨ i = 1 ∨ i = 2 := by omega
      rcases h8 with rfl | rfl | rfl <;> rfl⟩ (by decide) (by decide)
set_option maxRecDepth 65536 in
set_option maxHeartbeats 40000000 in
theorem own_ef188 (m : MethodId) (y0 : Addr) (y1 : Int32) (y2 : Int32)  : entryFrame m #[(.ref y0), (.int y1), (.int y2)] 6 = mkF m 0 #[.val (.ref y0), .val (.int y1), .val (.int y2), .unset, .unset, .unset] [] := by first | (simp [entryFrame, mkF, argsToLocals, Value.category, maxLocals]; done) | rfl
set_option maxRecDepth 65536 in
set_option maxHeartbeats 40000000 in
theorem own_p3_3 (l : Launch) (Z : State) (a0 : Array Value) (hw : ∀ d ∈ tables_1, d.before a0 Z = true) (y0 : Addr) (h0 : Heap) (n0 : Nat) (Z0 : n0 ≤ h0.size) (f : Nat → Int32) (hr : ∀ i, i < 3 → 0 ≤ (f i).toInt ∧ (f i).toInt ≤ 255) (LA0 : Ary Z h0 y0 .char 3 (fun i => .int (f i))) :
    Ctr l Z (⟨"java/lang/StringUTF16", "compress", "([CII)[B"⟩ : MethodName) jdk_52_method_16_code 6 (some (.array .byte)) [] (own_room 1 1 3 18) #[(.ref y0), (.int (0 : Int32)), (.int (3 : Int32))] h0 n0 1 3 (fun v h => ∃ b, v = some (.ref b) ∧ Keep h0 h [] ∧ h0.size ≤ b ∧ n0 ≤ b ∧ Ary Z h b .byte 3 (fun i => .int (own_y (f i)))) := by
  refine Ctr.of (plainFor_of_name own_pn3) ?_
  intro p e s m below meth c T0 hx hby hml hret hlk hnm hown hZ X0
  rw [own_ef188 m (y0) ((0 : Int32)) ((3 : Int32))]
  refine g_iloadN X0 hx hby own_d9_0 rfl (pc' := 1) rfl ?_
  refine g_newarray (k := 3) (cap := 3) X0 hx hby hZ (hw _ (List.mem_of_getElem? (i := 20) rfl)) own_d9_1 rfl (by decide) (by decide) (by decide) (by decide) (pc' := 3) rfl (fun T189 h189 b189 g189 X189 E189 A189 => ?_)
  have ne190 : y0 ≠ b189 := by rw [g189]; exact Nat.ne_of_lt LA0.lt
  have nn191 : n0 ≤ b189 := by rw [g189]; exact Z0
  have hh192 : h0.size ≤ b189 := by rw [g189]; exact (Keep.refl h0 []).1
  have q193 := LA0.ext E189
  have zz194 := Nat.le_trans Z0 E189.1
  have kk195 : Keep h0 h189 [] := (Keep.refl h0 []).ext E189
  refine g_astoreN (L' := #[.val (.ref y0), .val (.int (0 : Int32)), .val (.int (3 : Int32)), .val (.ref b189), .unset, .unset]) X189 hx hby own_d9_3 rfl rfl (pc' := 4) rfl ?_
  refine g_aloadN X189 hx hby own_d9_4 rfl rfl (pc' := 5) rfl ?_
  refine g_iloadN X189 hx hby own_d9_5 rfl (pc' := 6) rfl ?_
  refine g_aloadN X189 hx hby own_d9_6 rfl rfl (pc' := 7) rfl ?_
  refine g_iconst (v := 0) X189 hx hby own_d9_7 rfl (pc' := 8) rfl ?_
  refine g_iloadN X189 hx hby own_d9_8 rfl (pc' := 9) rfl ?_
  refine g_callS (argsL := [(.ref y0), (.int (0 : Int32)), (.ref b189), (.int (0 : Int32)), (.int (3 : Int32))]) (S := []) X189 hx hby hZ (y := (⟨"java/lang/StringUTF16", "compress", "([CI[BII)I"⟩ : MethodName)) hown (hw _ (List.mem_of_getElem? (i := 91) rfl)) (hw _ (List.mem_of_getElem? (i := 92) rfl)) (hw _ (List.mem_of_getElem? (i := 89) rfl)) (hw _ (List.mem_of_getElem? (i := 93) rfl)) (by decide) (own_p5_3 l Z a0 hw y0 b189 h189 n0 zz194 f _ hr q193 A189 nn191) (by rw [hml]; rfl) (lenOf own_pd5 rfl) rfl own_d9_9 (by decide) (W := 0) (by exact Nat.le_of_eq rfl) (by decide) (by decide) (by decide) (pc' := 12) rfl (fun T196 v196 X196 hQ196 => ?_)
  obtain ⟨rfl, ka196, aa196⟩ := hQ196
  have q197 := q193.keep ka196 (ninS ne190 nin0)
  have zz198 := Nat.le_trans zz194 ka196.1
  have kk199 : Keep h0 T196.heap [] := kk195.trans ka196 (allS (Or.inr hh192) all0)
  show Gl p e below n0 _ _ (T196.setTop (mkF m 12 #[.val (.ref y0), .val (.int (0 : Int32)), .val (.int (3 : Int32)), .val (.ref b189), .unset, .unset] [(.int (3 : Int32))]))
  refine g_istore (L' := #[.val (.ref y0), .val (.int (0 : Int32)), .val (.int (3 : Int32)), .val (.ref b189), .val (.int (3 : Int32)), .unset]) X196 hx hby own_d9_12 rfl (pc' := 14) rfl ?_
  refine g_iload X196 hx hby own_d9_14 rfl (pc' := 16) rfl ?_
  refine g_iloadN X196 hx hby own_d9_16 rfl (pc' := 17) rfl ?_
  refine g_icmp_eq X196 hx hby own_d9_17 (by decide) (pc' := 57) (by decide) (pc2 := 20) rfl (fun c17_200 => ?_) (fun q => absurd (by decide) q)
  refine g_aloadN X196 hx hby own_d9_57 rfl rfl (pc' := 58) rfl ?_
  exact g_retA X196 hx hby hret hlk rfl rfl own_d9_58 ⟨b189, rfl, kk199, hh192, nn191, aa196⟩ (by decide) (by decide)
set_option maxRecDepth 65536 in
set_option maxHeartbeats 40000000 in
theorem own_ef201 (m : MethodId) (y0 : Addr) (y1 : Int32)  : entryFrame m #[(.ref y0), (.int y1)] 2 = mkF m 0 #[.val (.ref y0), .val (.int y1)] [] := by first | (simp [entryFrame, mkF, argsToLocals, Value.category, maxLocals]; done) | rfl
set_option maxRecDepth 65536 in
set_option maxHeartbeats 40000000 in
theorem own_cl_3 (l : Launch) (Z : State) (a0 : Array Value) (hw : ∀ d ∈ tables_1, d.before a0 Z = true) (y0 : Addr) (h0 : Heap) (n0 : Nat) (f : Nat → Value) (LA0 : Ary Z h0 y0 .byte 3 f) :
    Ctr l Z (⟨"java/lang/StringUTF16", "coderFromArrayLen", "([BI)B"⟩ : MethodName) jdk_52_method_15_code 2 (some .byte) [] (own_room 0 0 0 0) #[(.ref y0), (.int (3 : Int32))] h0 n0 0 0 (fun v h => v = some (.int 0) ∧ h = h0) := by
  refine Ctr.of (plainFor_of_name own_pn3) ?_
  intro p e s m below meth c T0 hx hby hml hret hlk hnm hown hZ X0
  rw [own_ef201 m (y0) ((3 : Int32))]
  refine g_iloadN X0 hx hby own_d10_0 rfl (pc' := 1) rfl ?_
  refine g_aloadN X0 hx hby own_d10_1 rfl rfl (pc' := 2) rfl ?_
  refine g_arraylength (n := (3 : Int32)) X0 hx hby hZ LA0 rfl own_d10_2 (pc' := 3) rfl ?_
  refine g_isub X0 hx hby own_d10_3 (pc' := 4) rfl ?_
  refine g_bipush (v := 31) X0 hx hby own_d10_4 rfl (pc' := 6) rfl ?_
  refine g_iushr X0 hx hby own_d10_6 (pc' := 7) rfl ?_
  refine g_i2b X0 hx hby own_d10_7 (pc' := 8) rfl ?_
  exact g_retN X0 hx hby hret hlk (by simp) own_d10_8 ⟨congrArg (fun z => some (Value.int z)) (by decide), rfl⟩ (by decide) (by decide)
set_option maxRecDepth 65536 in
set_option maxHeartbeats 40000000 in
theorem own_ef202 (m : MethodId) (y0 : Addr) (y1 : Addr) (y2 : Int32) (y3 : Int32)  : entryFrame m #[(.ref y0), (.ref y1), (.int y2), (.int y3), .null] 6 = mkF m 0 #[.val (.ref y0), .val (.ref y1), .val (.int y2), .val (.int y3), .val .null, .unset] [] := by first | (simp [entryFrame, mkF, argsToLocals, Value.category, maxLocals]; done) | rfl
set_option maxRecDepth 65536 in
set_option maxHeartbeats 40000000 in
theorem own_n2_3 (l : Launch) (Z : State) (a0 : Array Value) (hw : ∀ d ∈ tables_1, d.before a0 Z = true) (y0 y1 : Addr) (h0 : Heap) (n0 : Nat) (Z0 : n0 ≤ h0.size) (f : Nat → Int32) (hr : ∀ i, i < 3 → 0 ≤ (f i).toInt ∧ (f i).toInt ≤ 255) (LA1 : Ary Z h0 y1 .char 3 (fun i => .int (f i))) (Ex : Exa Z h0 y0 "java/lang/String") (F1 : Fld Z h0 y0 "java/lang/String" "value" "[B" .null) (F2 : Fld Z h0 y0 "java/lang/String" "coder" "B" (.int 0)) (gn : n0 ≤ y0) (cs : Int32) (Sc : Sta Z h0 "java/lang/String" "COMPACT_STRINGS" "Z" (.int cs)) (hcs : ¬ cs = 0) :
    Ctr l Z (⟨"java/lang/String", "<init>", "([CIILjava/lang/Void;)V"⟩ : MethodName) jdk_42_method_149_code 6 none [] (own_room 2 1 3 37) #[(.ref y0), (.ref y1), (.int (0 : Int32)), (.int (3 : Int32)), .null] h0 n0 1 3 (fun v h => v = none ∧ Keep h0 h [y0] ∧ Lat Z h y0 3 (fun i => own_y (f i))) := by
  refine Ctr.of (plainFor_of_name own_pn0) ?_
  intro p e s m below meth c T0 hx hby hml hret hlk hnm hown hZ X0
  rw [own_ef202 m (y0) (y1) ((0 : Int32)) ((3 : Int32))]
  refine g_aloadN X0 hx hby own_d11_0 rfl rfl (pc' := 1) rfl ?_
  refine g_initO X0 hx hby hZ (W := 0) hown (hw _ (List.mem_of_getElem? (i := 16) rfl)) (hw _ (List.mem_of_getElem? (i := 17) rfl)) (hw _ (List.mem_of_getElem? (i := 18) rfl)) (by rw [hml]; rfl) own_d11_1 (by decide) (by exact Nat.le_of_eq rfl) (by decide) (pc' := 4) rfl (fun T203 X203 => ?_)
  refine g_iloadN X203 hx hby own_d11_4 rfl (pc' := 5) rfl ?_
  refine g_if_ne X203 hx hby own_d11_5 (by decide) (pc' := 27) (by decide) (pc2 := 8) rfl (fun c5_204 => ?_) (fun q => absurd q (by decide))
  refine g_getS X203 hx hby hZ hown (hw _ (List.mem_of_getElem? (i := 46) rfl)) Via.refl Sc own_d11_27 (pc' := 30) rfl (fun T205 X205 => ?_)
  refine g_if_eq X205 hx hby own_d11_30 (by decide) (pc' := 58) (by decide) (pc2 := 33) rfl (fun q => absurd q hcs) (fun c30_206 => ?_)
  refine g_aloadN X205 hx hby own_d11_33 rfl rfl (pc' := 34) rfl ?_
  refine g_iloadN X205 hx hby own_d11_34 rfl (pc' := 35) rfl ?_
  refine g_iloadN X205 hx hby own_d11_35 rfl (pc' := 36) rfl ?_
  refine g_callS (argsL := [(.ref y1), (.int (0 : Int32)), (.int (3 : Int32))]) (S := []) X205 hx hby hZ (y := (⟨"java/lang/StringUTF16", "compress", "([CII)[B"⟩ : MethodName)) hown (hw _ (List.mem_of_getElem? (i := 87) rfl)) (hw _ (List.mem_of_getElem? (i := 88) rfl)) (hw _ (List.mem_of_getElem? (i := 89) rfl)) (hw _ (List.mem_of_getElem? (i := 90) rfl)) (by decide) (own_p3_3 l Z a0 hw y1 h0 n0 Z0 f hr LA1) (by rw [hml]; rfl) (lenOf own_pd6 rfl) rfl own_d11_36 (by decide) (W := 0) (by exact Nat.le_of_eq rfl) (by decide) (by decide) (by decide) (pc' := 39) rfl (fun T207 v207 X207 hQ207 => ?_)
  obtain ⟨b207, rfl, ka207, hb207, nb207, aa207⟩ := hQ207
  have ne207_y0 : y0 ≠ b207 := Nat.ne_of_lt (Nat.lt_of_lt_of_le Ex.lt hb207)
  have ne207_y1 : y1 ≠ b207 := Nat.ne_of_lt (Nat.lt_of_lt_of_le LA1.lt hb207)
  have q208 := own_sta_keep Sc ka207 all0
  have q209 := Ex.keep ka207
  have q210 := F1.keep ka207 nin0
  have q211 := F2.keep ka207 nin0
  have q212 := LA1.keep ka207 nin0
  have zz213 := Nat.le_trans Z0 ka207.1
  have kk214 : Keep h0 T207.heap [y0] := (Keep.refl h0 [y0]).trans ka207 all0
  show Gl p e below n0 _ _ (T207.setTop (mkF m 39 #[.val (.ref y0), .val (.ref y1), .val (.int (0 : Int32)), .val (.int (3 : Int32)), .val .null, .unset] [(.ref b207)]))
  refine g_astore (L' := #[.val (.ref y0), .val (.ref y1), .val (.int (0 : Int32)), .val (.int (3 : Int32)), .val .null, .val (.ref b207)]) X207 hx hby own_d11_39 rfl rfl (pc' := 41) rfl ?_
  refine g_aloadN X207 hx hby own_d11_41 rfl rfl (pc' := 42) rfl ?_
  refine g_aload X207 hx hby own_d11_42 rfl rfl (pc' := 44) rfl ?_
  refine g_iloadN X207 hx hby own_d11_44 rfl (pc' := 45) rfl ?_
  refine g_callS (argsL := [(.ref b207), (.int (3 : Int32))]) (S := [(.ref y0)]) X207 hx hby hZ (y := (⟨"java/lang/StringUTF16", "coderFromArrayLen", "([BI)B"⟩ : MethodName)) hown (hw _ (List.mem_of_getElem? (i := 94) rfl)) (hw _ (List.mem_of_getElem? (i := 95) rfl)) (hw _ (List.mem_of_getElem? (i := 89) rfl)) (hw _ (List.mem_of_getElem? (i := 96) rfl)) (by decide) (own_cl_3 l Z a0 hw b207 T207.heap n0 _ aa207) (by rw [hml]; rfl) (lenOf own_pd7 rfl) rfl own_d11_45 (by decide) (W := 1) (by exact Nat.le_of_eq rfl) (by decide) (by decide) (by decide) (pc' := 48) rfl (fun T215 v215 X215 hQ215 => ?_)
  obtain ⟨rfl, e215⟩ := hQ215
  rw [e215] at X215
  show Gl p e below n0 _ _ (T215.setTop (mkF m 48 #[.val (.ref y0), .val (.ref y1), .val (.int (0 : Int32)), .val (.int (3 : Int32)), .val .null, .val (.ref b207)] [(.int (0 : Int32)), (.ref y0)]))
  refine g_putF X215 hx hby hZ hown (hw _ (List.mem_of_getElem? (i := 26) rfl)) Via.refl q211 q209 (Or.inr ⟨(hw _ (List.mem_of_getElem? (i := 22) rfl)), rfl, hnm⟩) (hw _ (List.mem_of_getElem? (i := 7) rfl)) (ty := .byte) (by decide) rfl rfl gn own_d11_48 (pc' := 51) rfl (fun T216 h216 X216 W216 => ?_)
  have q217 := q208.wr W216
  have q218 := q209.wr W216
  have q219 := q210.other W216 (Or.inr (slot_ne (Or.inr (hw _ (List.mem_of_getElem? (i := 21) rfl))) (Or.inr (hw _ (List.mem_of_getElem? (i := 22) rfl))) (by decide) (t := (.array .byte)) (t' := .byte) (by decide) (by decide)))
  have q220 := q211.same W216
  have q221 := q212.other W216 (Ne.symm (own_ne_exa Ex (hw _ (List.mem_of_getElem? (i := 7) rfl)) LA1))
  have q222 := aa207.other W216 (Ne.symm ne207_y0)
  have zz223 := Nat.le_trans zz213 (Nat.le_of_eq W216.size.symm)
  have kk224 : Keep h0 h216 [y0] := kk214.wr W216 (Or.inl (by simp))
  refine g_aloadN X216 hx hby own_d11_51 rfl rfl (pc' := 52) rfl ?_
  refine g_aload X216 hx hby own_d11_52 rfl rfl (pc' := 54) rfl ?_
  refine g_putF X216 hx hby hZ hown (hw _ (List.mem_of_getElem? (i := 25) rfl)) Via.refl q219 q218 (Or.inr ⟨(hw _ (List.mem_of_getElem? (i := 21) rfl)), rfl, hnm⟩) (hw _ (List.mem_of_getElem? (i := 7) rfl)) (ty := (.array .byte)) (by decide) rfl rfl gn own_d11_54 (pc' := 57) rfl (fun T225 h225 X225 W225 => ?_)
  have q226 := q217.wr W225
  have q227 := q218.wr W225
  have q228 := q219.same W225
  have q229 := q220.other W225 (Or.inr (slot_ne (Or.inr (hw _ (List.mem_of_getElem? (i := 22) rfl))) (Or.inr (hw _ (List.mem_of_getElem? (i := 21) rfl))) (by decide) (t := .byte) (t' := (.array .byte)) (by decide) (by decide)))
  have q230 := q221.other W225 (Ne.symm (own_ne_exa Ex (hw _ (List.mem_of_getElem? (i := 7) rfl)) LA1))
  have q231 := q222.other W225 (Ne.symm ne207_y0)
  have zz232 := Nat.le_trans zz223 (Nat.le_of_eq W225.size.symm)
  have kk233 : Keep h0 h225 [y0] := kk224.wr W225 (Or.inl (by simp))
  exact g_ret X225 hx hby hret hlk own_d11_57 ⟨rfl, kk233, ⟨b207, q227, q228, q229, q231⟩⟩ (by decide) (by decide)
set_option maxRecDepth 65536 in
set_option maxHeartbeats 40000000 in
theorem own_ef234 (m : MethodId) (y0 : Addr) (y1 : Addr)  : entryFrame m #[(.ref y0), (.ref y1)] 2 = mkF m 0 #[.val (.ref y0), .val (.ref y1)] [] := by first | (simp [entryFrame, mkF, argsToLocals, Value.category, maxLocals]; done) | rfl
set_option maxRecDepth 65536 in
set_option maxHeartbeats 40000000 in
theorem own_n1_3 (l : Launch) (Z : State) (a0 : Array Value) (hw : ∀ d ∈ tables_1, d.before a0 Z = true) (y0 y1 : Addr) (h0 : Heap) (n0 : Nat) (Z0 : n0 ≤ h0.size) (f : Nat → Int32) (hr : ∀ i, i < 3 → 0 ≤ (f i).toInt ∧ (f i).toInt ≤ 255) (LA1 : Ary Z h0 y1 .char 3 (fun i => .int (f i))) (Ex : Exa Z h0 y0 "java/lang/String") (F1 : Fld Z h0 y0 "java/lang/String" "value" "[B" .null) (F2 : Fld Z h0 y0 "java/lang/String" "coder" "B" (.int 0)) (gn : n0 ≤ y0) (cs : Int32) (Sc : Sta Z h0 "java/lang/String" "COMPACT_STRINGS" "Z" (.int cs)) (hcs : ¬ cs = 0) :
    Ctr l Z (⟨"java/lang/String", "<init>", "([C)V"⟩ : MethodName) jdk_42_method_3_code 2 none [] (own_room 3 1 3 54) #[(.ref y0), (.ref y1)] h0 n0 1 3 (fun v h => v = none ∧ Keep h0 h [y0] ∧ Lat Z h y0 3 (fun i => own_y (f i))) := by
  refine Ctr.of (plainFor_of_name own_pn0) ?_
  intro p e s m below meth c T0 hx hby hml hret hlk hnm hown hZ X0
  rw [own_ef234 m (y0) (y1)]
  refine g_aloadN X0 hx hby own_d12_0 rfl rfl (pc' := 1) rfl ?_
  refine g_aloadN X0 hx hby own_d12_1 rfl rfl (pc' := 2) rfl ?_
  refine g_iconst (v := 0) X0 hx hby own_d12_2 rfl (pc' := 3) rfl ?_
  refine g_aloadN X0 hx hby own_d12_3 rfl rfl (pc' := 4) rfl ?_
  refine g_arraylength (n := (3 : Int32)) X0 hx hby hZ LA1 rfl own_d12_4 (pc' := 5) rfl ?_
  refine g_aconst_null X0 hx hby own_d12_5 (pc' := 6) rfl ?_
  refine g_callC (argsL := [(.ref y1), (.int (0 : Int32)), (.int (3 : Int32)), .null]) (S := []) (a := y0) X0 hx hby hZ (y := (⟨"java/lang/String", "<init>", "([CIILjava/lang/Void;)V"⟩ : MethodName)) rfl hown (hw _ (List.mem_of_getElem? (i := 12) rfl)) (hw _ (List.mem_of_getElem? (i := 13) rfl)) (hw _ (List.mem_of_getElem? (i := 8) rfl)) (hw _ (List.mem_of_getElem? (i := 15) rfl)) (by decide) (own_n2_3 l Z a0 hw y0 y1 h0 n0 Z0 f hr LA1 Ex F1 F2 gn cs Sc hcs) (by rw [hml]; rfl) (lenOf own_pd8 rfl) rfl own_d12_6 (by decide) (W := 0) (by exact Nat.le_of_eq rfl) (by decide) (by decide) (by decide) (pc' := 9) rfl (fun T235 v235 X235 hQ235 => ?_)
  obtain ⟨rfl, ka235, la235⟩ := hQ235
  have q236 := own_sta_keep Sc ka235 (allS (own_plain Ex) all0)
  have q237 := Ex.keep ka235
  have q238 := LA1.keep ka235 (ninS (Ne.symm (own_ne_exa Ex (hw _ (List.mem_of_getElem? (i := 7) rfl)) LA1)) nin0)
  have zz239 := Nat.le_trans Z0 ka235.1
  have kk240 : Keep h0 T235.heap [y0] := (Keep.refl h0 [y0]).trans ka235 (allS (Or.inl (by simp)) all0)
  show Gl p e below n0 _ _ (T235.setTop (mkF m 9 #[.val (.ref y0), .val (.ref y1)] []))
  exact g_ret X235 hx hby hret hlk own_d12_9 ⟨rfl, kk240, la235⟩ (by decide) (by decide)
set_option maxRecDepth 65536 in
set_option maxHeartbeats 40000000 in
theorem own_ef241 (m : MethodId) (y0 : Addr) (y1 : Int32) (y2 : Addr) (y3 : Int32) (y4 : Int32)  : entryFrame m #[(.ref y0), (.int y1), (.ref y2), (.int y3), (.int y4)] 7 = mkF m 0 #[.val (.ref y0), .val (.int y1), .val (.ref y2), .val (.int y3), .val (.int y4), .unset, .unset] [] := by first | (simp [entryFrame, mkF, argsToLocals, Value.category, maxLocals]; done) | rfl
set_option maxRecDepth 65536 in
set_option maxHeartbeats 40000000 in
theorem own_p5_4 (l : Launch) (Z : State) (a0 : Array Value) (hw : ∀ d ∈ tables_1, d.before a0 Z = true) (y0 y2 : Addr) (h0 : Heap) (n0 : Nat) (Z0 : n0 ≤ h0.size) (f : Nat → Int32) (g : Nat → Value) (hr : ∀ i, i < 4 → 0 ≤ (f i).toInt ∧ (f i).toInt ≤ 255) (LA0 : Ary Z h0 y0 .char 4 (fun i => .int (f i))) (LA2 : Ary Z h0 y2 .byte 4 g) (gn : n0 ≤ y2) :
    Ctr l Z (⟨"java/lang/StringUTF16", "compress", "([CI[BII)I"⟩ : MethodName) jdk_52_method_21_code 7 (some .int) [] (own_room 0 0 0 0) #[(.ref y0), (.int (0 : Int32)), (.ref y2), (.int (0 : Int32)), (.int (4 : Int32))] h0 n0 0 0 (fun v h => v = some (.int 4) ∧ Keep h0 h [y2] ∧ Ary Z h y2 .byte 4 (fun i => .int (own_y (f i)))) := by
  refine Ctr.of (plainFor_of_name own_pn3) ?_
  intro p e s m below meth c T0 hx hby hml hret hlk hnm hown hZ X0
  rw [own_ef241 m (y0) ((0 : Int32)) (y2) ((0 : Int32)) ((4 : Int32))]
  refine g_iconst (v := 0) X0 hx hby own_d8_0 rfl (pc' := 1) rfl ?_
  refine g_istore (L' := #[.val (.ref y0), .val (.int (0 : Int32)), .val (.ref y2), .val (.int (0 : Int32)), .val (.int (4 : Int32)), .val (.int (0 : Int32)), .unset]) X0 hx hby own_d8_1 rfl (pc' := 3) rfl ?_
  refine g_iload X0 hx hby own_d8_3 rfl (pc' := 5) rfl ?_
  refine g_iload X0 hx hby own_d8_5 rfl (pc' := 7) rfl ?_
  refine g_icmp_ge X0 hx hby own_d8_7 (by decide) (pc' := 44) (by decide) (pc2 := 10) rfl (fun q => absurd (by decide) q) (fun c7_242 => ?_)
  refine g_aloadN X0 hx hby own_d8_10 rfl rfl (pc' := 11) rfl ?_
  refine g_iloadN X0 hx hby own_d8_11 rfl (pc' := 12) rfl ?_
  refine g_caload (i := 0) (v := (.int (f 0))) X0 hx hby hZ LA0 rfl (by decide) rfl own_d8_12 (pc' := 13) rfl ?_
  refine g_istore (L' := #[.val (.ref y0), .val (.int (0 : Int32)), .val (.ref y2), .val (.int (0 : Int32)), .val (.int (4 : Int32)), .val (.int (0 : Int32)), .val (.int (f 0))]) X0 hx hby own_d8_13 rfl (pc' := 15) rfl ?_
  refine g_iload X0 hx hby own_d8_15 rfl (pc' := 17) rfl ?_
  refine g_sipush (v := 255) X0 hx hby own_d8_17 rfl (pc' := 20) rfl ?_
  refine g_icmp_le X0 hx hby own_d8_20 (by decide) (pc' := 26) (by decide) (pc2 := 23) rfl (fun c20_243 => ?_) (fun q => absurd q (own_le255 (hr 0 (by decide))))
  refine g_aloadN X0 hx hby own_d8_26 rfl rfl (pc' := 27) rfl ?_
  refine g_iloadN X0 hx hby own_d8_27 rfl (pc' := 28) rfl ?_
  refine g_iload X0 hx hby own_d8_28 rfl (pc' := 30) rfl ?_
  refine g_i2b X0 hx hby own_d8_30 (pc' := 31) rfl ?_
  refine g_bastore (i := 0) X0 hx hby hZ LA2 rfl (by decide) gn own_d8_31 (pc' := 32) rfl (fun T244 h244 sl244 X244 W244 A244 => ?_)
  have q245 := LA0.other W244 (own_ne_ty LA0 LA2 (by decide))
  have zz246 := Nat.le_trans Z0 (Nat.le_of_eq W244.size.symm)
  have kk247 : Keep h0 h244 [y2] := (Keep.refl h0 [y2]).wr W244 (Or.inl (by simp))
  refine g_iinc (y := 1) (L' := #[.val (.ref y0), .val (.int (1 : Int32)), .val (.ref y2), .val (.int (0 : Int32)), .val (.int (4 : Int32)), .val (.int (0 : Int32)), .val (.int (f 0))]) X244 hx hby own_d8_32 rfl rfl rfl (pc' := 35) rfl ?_
  refine g_iinc (y := 1) (L' := #[.val (.ref y0), .val (.int (1 : Int32)), .val (.ref y2), .val (.int (1 : Int32)), .val (.int (4 : Int32)), .val (.int (0 : Int32)), .val (.int (f 0))]) X244 hx hby own_d8_35 rfl rfl rfl (pc' := 38) rfl ?_
  refine g_iinc (y := 1) (L' := #[.val (.ref y0), .val (.int (1 : Int32)), .val (.ref y2), .val (.int (1 : Int32)), .val (.int (4 : Int32)), .val (.int (1 : Int32)), .val (.int (f 0))]) X244 hx hby own_d8_38 rfl rfl rfl (pc' := 41) rfl ?_
  refine g_goto X244 hx hby own_d8_41 (by decide) (pc' := 3) (by decide) ?_
  refine g_iload X244 hx hby own_d8_3 rfl (pc' := 5) rfl ?_
  refine g_iload X244 hx hby own_d8_5 rfl (pc' := 7) rfl ?_
  refine g_icmp_ge X244 hx hby own_d8_7 (by decide) (pc' := 44) (by decide) (pc2 := 10) rfl (fun q => absurd (by decide) q) (fun c7_248 => ?_)
  refine g_aloadN X244 hx hby own_d8_10 rfl rfl (pc' := 11) rfl ?_
  refine g_iloadN X244 hx hby own_d8_11 rfl (pc' := 12) rfl ?_
  refine g_caload (i := 1) (v := (.int (f 1))) X244 hx hby hZ q245 rfl (by decide) rfl own_d8_12 (pc' := 13) rfl ?_
  refine g_istore (L' := #[.val (.ref y0), .val (.int (1 : Int32)), .val (.ref y2), .val (.int (1 : Int32)), .val (.int (4 : Int32)), .val (.int (1 : Int32)), .val (.int (f 1))]) X244 hx hby own_d8_13 rfl (pc' := 15) rfl ?_
  refine g_iload X244 hx hby own_d8_15 rfl (pc' := 17) rfl ?_
  refine g_sipush (v := 255) X244 hx hby own_d8_17 rfl (pc' := 20) rfl ?_
  refine g_icmp_le X244 hx hby own_d8_20 (by decide) (pc' := 26) (by decide) (pc2 := 23) rfl (fun c20_249 => ?_) (fun q => absurd q (own_le255 (hr 1 (by decide))))
  refine g_aloadN X244 hx hby own_d8_26 rfl rfl (pc' := 27) rfl ?_
  refine g_iloadN X244 hx hby own_d8_27 rfl (pc' := 28) rfl ?_
  refine g_iload X244 hx hby own_d8_28 rfl (pc' := 30) rfl ?_
  refine g_i2b X244 hx hby own_d8_30 (pc' := 31) rfl ?_
  refine g_bastore (i := 1) X244 hx hby hZ A244 rfl (by decide) gn own_d8_31 (pc' := 32) rfl (fun T250 h250 sl250 X250 W250 A250 => ?_)
  have q251 := q245.other W250 (own_ne_ty LA0 LA2 (by decide))
  have zz252 := Nat.le_trans zz246 (Nat.le_of_eq W250.size.symm)
  have kk253 : Keep h0 h250 [y2] := kk247.wr W250 (Or.inl (by simp))
  refine g_iinc (y := 1) (L' := #[.val (.ref y0), .val (.int (2 : Int32)), .val (.ref y2), .val (.int (1 : Int32)), .val (.int (4 : Int32)), .val (.int (1 : Int32)), .val (.int (f 1))]) X250 hx hby own_d8_32 rfl rfl rfl (pc' := 35) rfl ?_
  refine g_iinc (y := 1) (L' := #[.val (.ref y0), .val (.int (2 : Int32)), .val (.ref y2), .val (.int (2 : Int32)), .val (.int (4 : Int32)), .val (.int (1 : Int32)), .val (.int (f 1))]) X250 hx hby own_d8_35 rfl rfl rfl (pc' := 38) rfl ?_
  refine g_iinc (y := 1) (L' := #[.val (.ref y0), .val (.int (2 : Int32)), .val (.ref y2), .val (.int (2 : Int32)), .val (.int (4 : Int32)), .val (.int (2 : Int32)), .val (.int (f 1))]) X250 hx hby own_d8_38 rfl rfl rfl (pc' := 41) rfl ?_
  refine g_goto X250 hx hby own_d8_41 (by decide) (pc' := 3) (by decide) ?_
  refine g_iload X250 hx hby own_d8_3 rfl (pc' := 5) rfl ?_
  refine g_iload X250 hx hby own_d8_5 rfl (pc' := 7) rfl ?_
  refine g_icmp_ge X250 hx hby own_d8_7 (by decide) (pc' := 44) (by decide) (pc2 := 10) rfl (fun q => absurd (by decide) q) (fun c7_254 => ?_)
  refine g_aloadN X250 hx hby own_d8_10 rfl rfl (pc' := 11) rfl ?_
  refine g_iloadN X250 hx hby own_d8_11 rfl (pc' := 12) rfl ?_
  refine g_caload (i := 2) (v := (.int (f 2))) X250 hx hby hZ q251 rfl (by decide) rfl own_d8_12 (pc' := 13) rfl ?_
  refine g_istore (L' := #[.val (.ref y0), .val (.int (2 : Int32)), .val (.ref y2), .val (.int (2 : Int32)), .val (.int (4 : Int32)), .val (.int (2 : Int32)), .val (.int (f 2))]) X250 hx hby own_d8_13 rfl (pc' := 15) rfl ?_
  refine g_iload X250 hx hby own_d8_15 rfl (pc' := 17) rfl ?_
  refine g_sipush (v := 255) X250 hx hby own_d8_17 rfl (pc' := 20) rfl ?_
  refine g_icmp_le X250 hx hby own_d8_20 (by decide) (pc' := 26) (by decide) (pc2 := 23) rfl (fun c20_255 => ?_) (fun q => absurd q (own_le255 (hr 2 (by decide))))
  refine g_aloadN X250 hx hby own_d8_26 rfl rfl (pc' := 27) rfl ?_
  refine g_iloadN X250 hx hby own_d8_27 rfl (pc' := 28) rfl ?_
  refine g_iload X250 hx hby own_d8_28 rfl (pc' := 30) rfl ?_
  refine g_i2b X250 hx hby own_d8_30 (pc' := 31) rfl ?_
  refine g_bastore (i := 2) X250 hx hby hZ A250 rfl (by decide) gn own_d8_31 (pc' := 32) rfl (fun T256 h256 sl256 X256 W256 A256 => ?_)
  have q257 := q251.other W256 (own_ne_ty LA0 LA2 (by decide))
  have zz258 := Nat.le_trans zz252 (Nat.le_of_eq W256.size.symm)
  have kk259 : Keep h0 h256 [y2] := kk253.wr W256 (Or.inl (by simp))
  refine g_iinc (y := 1) (L' := #[.val (.ref y0), .val (.int (3 : Int32)), .val (.ref y2), .val (.int (2 : Int32)), .val (.int (4 : Int32)), .val (.int (2 : Int32)), .val (.int (f 2))]) X256 hx hby own_d8_32 rfl rfl rfl (pc' := 35) rfl ?_
  refine g_iinc (y := 1) (L' := #[.val (.ref y0), .val (.int (3 : Int32)), .val (.ref y2), .val (.int (3 : Int32)), .val (.int (4 : Int32)), .val (.int (2 : Int32)), .val (.int (f 2))]) X256 hx hby own_d8_35 rfl rfl rfl (pc' := 38) rfl ?_
  refine g_iinc (y := 1) (L' := #[.val (.ref y0), .val (.int (3 : Int32)), .val (.ref y2), .val (.int (3 : Int32)), .val (.int (4 : Int32)), .val (.int (3 : Int32)), .val (.int (f 2))]) X256 hx hby own_d8_38 rfl rfl rfl (pc' := 41) rfl ?_
  refine g_goto X256 hx hby own_d8_41 (by decide) (pc' := 3) (by decide) ?_
  refine g_iload X256 hx hby own_d8_3 rfl (pc' := 5) rfl ?_
  refine g_iload X256 hx hby own_d8_5 rfl (pc' := 7) rfl ?_
  refine g_icmp_ge X256 hx hby own_d8_7 (by decide) (pc' := 44) (by decide) (pc2 := 10) rfl (fun q => absurd (by decide) q) (fun c7_260 => ?_)
  refine g_aloadN X256 hx hby own_d8_10 rfl rfl (pc' := 11) rfl ?_
  refine g_iloadN X256 hx hby own_d8_11 rfl (pc' := 12) rfl ?_
  refine g_caload (i := 3) (v := (.int (f 3))) X256 hx hby hZ q257 rfl (by decide) rfl own_d8_12 (pc' := 13) rfl ?_
  refine g_istore (L' := #[.val (.ref y0), .val (.int (3 : Int32)), .val (.ref y2), .val (.int (3 : Int32)), .val (.int (4 : Int32)), .val (.int (3 : Int32)), .val (.int (f 3))]) X256 hx hby own_d8_13 rfl (pc' := 15) rfl ?_
  refine g_iload X256 hx hby own_d8_15 rfl (pc' := 17) rfl ?_
  refine g_sipush (v := 255) X256 hx hby own_d8_17 rfl (pc' := 20) rfl ?_
  refine g_icmp_le X256 hx hby own_d8_20 (by decide) (pc' := 26) (by decide) (pc2 := 23) rfl (fun c20_261 => ?_) (fun q => absurd q (own_le255 (hr 3 (by decide))))
  refine g_aloadN X256 hx hby own_d8_26 rfl rfl (pc' := 27) rfl ?_
  refine g_iloadN X256 hx hby own_d8_27 rfl (pc' := 28) rfl ?_
  refine g_iload X256 hx hby own_d8_28 rfl (pc' := 30) rfl ?_
  refine g_i2b X256 hx hby own_d8_30 (pc' := 31) rfl ?_
  refine g_bastore (i := 3) X256 hx hby hZ A256 rfl (by decide) gn own_d8_31 (pc' := 32) rfl (fun T262 h262 sl262 X262 W262 A262 => ?_)
  have q263 := q257.other W262 (own_ne_ty LA0 LA2 (by decide))
  have zz264 := Nat.le_trans zz258 (Nat.le_of_eq W262.size.symm)
  have kk265 : Keep h0 h262 [y2] := kk259.wr W262 (Or.inl (by simp))
  refine g_iinc (y := 1) (L' := #[.val (.ref y0), .val (.int (4 : Int32)), .val (.ref y2), .val (.int (3 : Int32)), .val (.int (4 : Int32)), .val (.int (3 : Int32)), .val (.int (f 3))]) X262 hx hby own_d8_32 rfl rfl rfl (pc' := 35) rfl ?_
  refine g_iinc (y := 1) (L' := #[.val (.ref y0), .val (.int (4 : Int32)), .val (.ref y2), .val (.int (4 : Int32)), .val (.int (4 : Int32)), .val (.int (3 : Int32)), .val (.int (f 3))]) X262 hx hby own_d8_35 rfl rfl rfl (pc' := 38) rfl ?_
  refine g_iinc (y := 1) (L' := #[.val (.ref y0), .val (.int (4 : Int32)), .val (.ref y2), .val (.int (4 : Int32)), .val (.int (4 : Int32)), .val (.int (4 : Int32)), .val (.int (f 3))]) X262 hx hby own_d8_38 rfl rfl rfl (pc' := 41) rfl ?_
  refine g_goto X262 hx hby own_d8_41 (by decide) (pc' := 3) (by decide) ?_
  refine g_iload X262 hx hby own_d8_3 rfl (pc' := 5) rfl ?_
  refine g_iload X262 hx hby own_d8_5 rfl (pc' := 7) rfl ?_
  refine g_icmp_ge X262 hx hby own_d8_7 (by decide) (pc' := 44) (by decide) (pc2 := 10) rfl (fun c7_266 => ?_) (fun q => absurd q (by decide))
  refine g_iload X262 hx hby own_d8_44 rfl (pc' := 46) rfl ?_
  exact g_retI X262 hx hby hret hlk own_d8_46 ⟨rfl, kk265, A262.congr fun i hi => by
      have h8 : i = 0 ∨ i = 1 ∨ i = 2 ∨ i = 3 := by omega
      rcases h8 with rfl | rfl | rfl | rfl <;> rfl⟩ (by decide) (by decide)
set_option maxRecDepth 65536 in
set_option maxHeartbeats 40000000 in
theorem own_ef267 (m : MethodId) (y0 : Addr) (y1 : Int32) (y2 : Int32)  : entryFrame m #[(.ref y0), (.int y1), (.int y2)] 6 = mkF m 0 #[.val (.ref y0), .val (.int y1), .val (.int y2), .unset, .unset, .unset] [] := by first | (simp [entryFrame, mkF, argsToLocals, Value.category, maxLocals]; done) | rfl
set_option maxRecDepth 65536 in
set_option maxHeartbeats 40000000 in
theorem own_p3_4 (l : Launch) (Z : State) (a0 : Array Value) (hw : ∀ d ∈ tables_1, d.before a0 Z = true) (y0 : Addr) (h0 : Heap) (n0 : Nat) (Z0 : n0 ≤ h0.size) (f : Nat → Int32) (hr : ∀ i, i < 4 → 0 ≤ (f i).toInt ∧ (f i).toInt ≤ 255) (LA0 : Ary Z h0 y0 .char 4 (fun i => .int (f i))) :
    Ctr l Z (⟨"java/lang/StringUTF16", "compress", "([CII)[B"⟩ : MethodName) jdk_52_method_16_code 6 (some (.array .byte)) [] (own_room 1 1 4 18) #[(.ref y0), (.int (0 : Int32)), (.int (4 : Int32))] h0 n0 1 4 (fun v h => ∃ b, v = some (.ref b) ∧ Keep h0 h [] ∧ h0.size ≤ b ∧ n0 ≤ b ∧ Ary Z h b .byte 4 (fun i => .int (own_y (f i)))) := by
  refine Ctr.of (plainFor_of_name own_pn3) ?_
  intro p e s m below meth c T0 hx hby hml hret hlk hnm hown hZ X0
  rw [own_ef267 m (y0) ((0 : Int32)) ((4 : Int32))]
  refine g_iloadN X0 hx hby own_d9_0 rfl (pc' := 1) rfl ?_
  refine g_newarray (k := 4) (cap := 4) X0 hx hby hZ (hw _ (List.mem_of_getElem? (i := 20) rfl)) own_d9_1 rfl (by decide) (by decide) (by decide) (by decide) (pc' := 3) rfl (fun T268 h268 b268 g268 X268 E268 A268 => ?_)
  have ne269 : y0 ≠ b268 := by rw [g268]; exact Nat.ne_of_lt LA0.lt
  have nn270 : n0 ≤ b268 := by rw [g268]; exact Z0
  have hh271 : h0.size ≤ b268 := by rw [g268]; exact (Keep.refl h0 []).1
  have q272 := LA0.ext E268
  have zz273 := Nat.le_trans Z0 E268.1
  have kk274 : Keep h0 h268 [] := (Keep.refl h0 []).ext E268
  refine g_astoreN (L' := #[.val (.ref y0), .val (.int (0 : Int32)), .val (.int (4 : Int32)), .val (.ref b268), .unset, .unset]) X268 hx hby own_d9_3 rfl rfl (pc' := 4) rfl ?_
  refine g_aloadN X268 hx hby own_d9_4 rfl rfl (pc' := 5) rfl ?_
  refine g_iloadN X268 hx hby own_d9_5 rfl (pc' := 6) rfl ?_
  refine g_aloadN X268 hx hby own_d9_6 rfl rfl (pc' := 7) rfl ?_
  refine g_iconst (v := 0) X268 hx hby own_d9_7 rfl (pc' := 8) rfl ?_
  refine g_iloadN X268 hx hby own_d9_8 rfl (pc' := 9) rfl ?_
  refine g_callS (argsL := [(.ref y0), (.int (0 : Int32)), (.ref b268), (.int (0 : Int32)), (.int (4 : Int32))]) (S := []) X268 hx hby hZ (y := (⟨"java/lang/StringUTF16", "compress", "([CI[BII)I"⟩ : MethodName)) hown (hw _ (List.mem_of_getElem? (i := 91) rfl)) (hw _ (List.mem_of_getElem? (i := 92) rfl)) (hw _ (List.mem_of_getElem? (i := 89) rfl)) (hw _ (List.mem_of_getElem? (i := 93) rfl)) (by decide) (own_p5_4 l Z a0 hw y0 b268 h268 n0 zz273 f _ hr q272 A268 nn270) (by rw [hml]; rfl) (lenOf own_pd5 rfl) rfl own_d9_9 (by decide) (W := 0) (by exact Nat.le_of_eq rfl) (by decide) (by decide) (by decide) (pc' := 12) rfl (fun T275 v275 X275 hQ275 => ?_)
  obtain ⟨rfl, ka275, aa275⟩ := hQ275
  have q276 := q272.keep ka275 (ninS ne269 nin0)
  have zz277 := Nat.le_trans zz273 ka275.1
  have kk278 : Keep h0 T275.heap [] := kk274.trans ka275 (allS (Or.inr hh271) all0)
  show Gl p e below n0 _ _ (T275.setTop (mkF m 12 #[.val (.ref y0), .val (.int (0 : Int32)), .val (.int (4 : Int32)), .val (.ref b268), .unset, .unset] [(.int (4 : Int32))]))
  refine g_istore (L' := #[.val (.ref y0), .val (.int (0 : Int32)), .val (.int (4 : Int32)), .val (.ref b268), .val (.int (4 : Int32)), .unset]) X275 hx hby own_d9_12 rfl (pc' := 14) rfl ?_
  refine g_iload X275 hx hby own_d9_14 rfl (pc' := 16) rfl ?_
  refine g_iloadN X275 hx hby own_d9_16 rfl (pc' := 17) rfl ?_
  refine g_icmp_eq X275 hx hby own_d9_17 (by decide) (pc' := 57) (by decide) (pc2 := 20) rfl (fun c17_279 => ?_) (fun q => absurd (by decide) q)
  refine g_aloadN X275 hx hby own_d9_57 rfl rfl (pc' := 58) rfl ?_
  exact g_retA X275 hx hby hret hlk rfl rfl own_d9_58 ⟨b268, rfl, kk278, hh271, nn270, aa275⟩ (by decide) (by decide)
set_option maxRecDepth 65536 in
set_option maxHeartbeats 40000000 in
theorem own_ef280 (m : MethodId) (y0 : Addr) (y1 : Int32)  : entryFrame m #[(.ref y0), (.int y1)] 2 = mkF m 0 #[.val (.ref y0), .val (.int y1)] [] := by first | (simp [entryFrame, mkF, argsToLocals, Value.category, maxLocals]; done) | rfl
set_option maxRecDepth 65536 in
set_option maxHeartbeats 40000000 in
theorem own_cl_4 (l : Launch) (Z : State) (a0 : Array Value) (hw : ∀ d ∈ tables_1, d.before a0 Z = true) (y0 : Addr) (h0 : Heap) (n0 : Nat) (f : Nat → Value) (LA0 : Ary Z h0 y0 .byte 4 f) :
    Ctr l Z (⟨"java/lang/StringUTF16", "coderFromArrayLen", "([BI)B"⟩ : MethodName) jdk_52_method_15_code 2 (some .byte) [] (own_room 0 0 0 0) #[(.ref y0), (.int (4 : Int32))] h0 n0 0 0 (fun v h => v = some (.int 0) ∧ h = h0) := by
  refine Ctr.of (plainFor_of_name own_pn3) ?_
  intro p e s m below meth c T0 hx hby hml hret hlk hnm hown hZ X0
  rw [own_ef280 m (y0) ((4 : Int32))]
  refine g_iloadN X0 hx hby own_d10_0 rfl (pc' := 1) rfl ?_
  refine g_aloadN X0 hx hby own_d10_1 rfl rfl (pc' := 2) rfl ?_
  refine g_arraylength (n := (4 : Int32)) X0 hx hby hZ LA0 rfl own_d10_2 (pc' := 3) rfl ?_
  refine g_isub X0 hx hby own_d10_3 (pc' := 4) rfl ?_
  refine g_bipush (v := 31) X0 hx hby own_d10_4 rfl (pc' := 6) rfl ?_
  refine g_iushr X0 hx hby own_d10_6 (pc' := 7) rfl ?_
  refine g_i2b X0 hx hby own_d10_7 (pc' := 8) rfl ?_
  exact g_retN X0 hx hby hret hlk (by simp) own_d10_8 ⟨congrArg (fun z => some (Value.int z)) (by decide), rfl⟩ (by decide) (by decide)
set_option maxRecDepth 65536 in
set_option maxHeartbeats 40000000 in
theorem own_ef281 (m : MethodId) (y0 : Addr) (y1 : Addr) (y2 : Int32) (y3 : Int32)  : entryFrame m #[(.ref y0), (.ref y1), (.int y2), (.int y3), .null] 6 = mkF m 0 #[.val (.ref y0), .val (.ref y1), .val (.int y2), .val (.int y3), .val .null, .unset] [] := by first | (simp [entryFrame, mkF, argsToLocals, Value.category, maxLocals]; done) | rfl
set_option maxRecDepth 65536 in
set_option maxHeartbeats 40000000 in
theorem own_n2_4 (l : Launch) (Z : State) (a0 : Array Value) (hw : ∀ d ∈ tables_1, d.before a0 Z = true) (y0 y1 : Addr) (h0 : Heap) (n0 : Nat) (Z0 : n0 ≤ h0.size) (f : Nat → Int32) (hr : ∀ i, i < 4 → 0 ≤ (f i).toInt ∧ (f i).toInt ≤ 255) (LA1 : Ary Z h0 y1 .char 4 (fun i => .int (f i))) (Ex : Exa Z h0 y0 "java/lang/String") (F1 : Fld Z h0 y0 "java/lang/String" "value" "[B" .null) (F2 : Fld Z h0 y0 "java/lang/String" "coder" "B" (.int 0)) (gn : n0 ≤ y0) (cs : Int32) (Sc : Sta Z h0 "java/lang/String" "COMPACT_STRINGS" "Z" (.int cs)) (hcs : ¬ cs = 0) :
    Ctr l Z (⟨"java/lang/String", "<init>", "([CIILjava/lang/Void;)V"⟩ : MethodName) jdk_42_method_149_code 6 none [] (own_room 2 1 4 37) #[(.ref y0), (.ref y1), (.int (0 : Int32)), (.int (4 : Int32)), .null] h0 n0 1 4 (fun v h => v = none ∧ Keep h0 h [y0] ∧ Lat Z h y0 4 (fun i => own_y (f i))) := by
  refine Ctr.of (plainFor_of_name own_pn0) ?_
  intro p e s m below meth c T0 hx hby hml hret hlk hnm hown hZ X0
  rw [own_ef281 m (y0) (y1) ((0 : Int32)) ((4 : Int32))]
  refine g_aloadN X0 hx hby own_d11_0 rfl rfl (pc' := 1) rfl ?_
  refine g_initO X0 hx hby hZ (W := 0) hown (hw _ (List.mem_of_getElem? (i := 16) rfl)) (hw _ (List.mem_of_getElem? (i := 17) rfl)) (hw _ (List.mem_of_getElem? (i := 18) rfl)) (by rw [hml]; rfl) own_d11_1 (by decide) (by exact Nat.le_of_eq rfl) (by decide) (pc' := 4) rfl (fun T282 X282 => ?_)
  refine g_iloadN X282 hx hby own_d11_4 rfl (pc' := 5) rfl ?_
  refine g_if_ne X282 hx hby own_d11_5 (by decide) (pc' := 27) (by decide) (pc2 := 8) rfl (fun c5_283 => ?_) (fun q => absurd q (by decide))
  refine g_getS X282 hx hby hZ hown (hw _ (List.mem_of_getElem? (i := 46) rfl)) Via.refl Sc own_d11_27 (pc' := 30) rfl (fun T284 X284 => ?_)
  refine g_if_eq X284 hx hby own_d11_30 (by decide) (pc' := 58) (by decide) (pc2 := 33) rfl (fun q => absurd q hcs) (fun c30_285 => ?_)
  refine g_aloadN X284 hx hby own_d11_33 rfl rfl (pc' := 34) rfl ?_
  refine g_iloadN X284 hx hby own_d11_34 rfl (pc' := 35) rfl ?_
  refine g_iloadN X284 hx hby own_d11_35 rfl (pc' := 36) rfl ?_
  refine g_callS (argsL := [(.ref y1), (.int (0 : Int32)), (.int (4 : Int32))]) (S := []) X284 hx hby hZ (y := (⟨"java/lang/StringUTF16", "compress", "([CII)[B"⟩ : MethodName)) hown (hw _ (List.mem_of_getElem? (i := 87) rfl)) (hw _ (List.mem_of_getElem? (i := 88) rfl)) (hw _ (List.mem_of_getElem? (i := 89) rfl)) (hw _ (List.mem_of_getElem? (i := 90) rfl)) (by decide) (own_p3_4 l Z a0 hw y1 h0 n0 Z0 f hr LA1) (by rw [hml]; rfl) (lenOf own_pd6 rfl) rfl own_d11_36 (by decide) (W := 0) (by exact Nat.le_of_eq rfl) (by decide) (by decide) (by decide) (pc' := 39) rfl (fun T286 v286 X286 hQ286 => ?_)
  obtain ⟨b286, rfl, ka286, hb286, nb286, aa286⟩ := hQ286
  have ne286_y0 : y0 ≠ b286 := Nat.ne_of_lt (Nat.lt_of_lt_of_le Ex.lt hb286)
  have ne286_y1 : y1 ≠ b286 := Nat.ne_of_lt (Nat.lt_of_lt_of_le LA1.lt hb286)
  have q287 := own_sta_keep Sc ka286 all0
  have q288 := Ex.keep ka286
  have q289 := F1.keep ka286 nin0
  have q290 := F2.keep ka286 nin0
  have q291 := LA1.keep ka286 nin0
  have zz292 := Nat.le_trans Z0 ka286.1
  have kk293 : Keep h0 T286.heap [y0] := (Keep.refl h0 [y0]).trans ka286 all0
  show Gl p e below n0 _ _ (T286.setTop (mkF m 39 #[.val (.ref y0), .val (.ref y1), .val (.int (0 : Int32)), .val (.int (4 : Int32)), .val .null, .unset] [(.ref b286)]))
  refine g_astore (L' := #[.val (.ref y0), .val (.ref y1), .val (.int (0 : Int32)), .val (.int (4 : Int32)), .val .null, .val (.ref b286)]) X286 hx hby own_d11_39 rfl rfl (pc' := 41) rfl ?_
  refine g_aloadN X286 hx hby own_d11_41 rfl rfl (pc' := 42) rfl ?_
  refine g_aload X286 hx hby own_d11_42 rfl rfl (pc' := 44) rfl ?_
  refine g_iloadN X286 hx hby own_d11_44 rfl (pc' := 45) rfl ?_
  refine g_callS (argsL := [(.ref b286), (.int (4 : Int32))]) (S := [(.ref y0)]) X286 hx hby hZ (y := (⟨"java/lang/StringUTF16", "coderFromArrayLen", "([BI)B"⟩ : MethodName)) hown (hw _ (List.mem_of_getElem? (i := 94) rfl)) (hw _ (List.mem_of_getElem? (i := 95) rfl)) (hw _ (List.mem_of_getElem? (i := 89) rfl)) (hw _ (List.mem_of_getElem? (i := 96) rfl)) (by decide) (own_cl_4 l Z a0 hw b286 T286.heap n0 _ aa286) (by rw [hml]; rfl) (lenOf own_pd7 rfl) rfl own_d11_45 (by decide) (W := 1) (by exact Nat.le_of_eq rfl) (by decide) (by decide) (by decide) (pc' := 48) rfl (fun T294 v294 X294 hQ294 => ?_)
  obtain ⟨rfl, e294⟩ := hQ294
  rw [e294] at X294
  show Gl p e below n0 _ _ (T294.setTop (mkF m 48 #[.val (.ref y0), .val (.ref y1), .val (.int (0 : Int32)), .val (.int (4 : Int32)), .val .null, .val (.ref b286)] [(.int (0 : Int32)), (.ref y0)]))
  refine g_putF X294 hx hby hZ hown (hw _ (List.mem_of_getElem? (i := 26) rfl)) Via.refl q290 q288 (Or.inr ⟨(hw _ (List.mem_of_getElem? (i := 22) rfl)), rfl, hnm⟩) (hw _ (List.mem_of_getElem? (i := 7) rfl)) (ty := .byte) (by decide) rfl rfl gn own_d11_48 (pc' := 51) rfl (fun T295 h295 X295 W295 => ?_)
  have q296 := q287.wr W295
  have q297 := q288.wr W295
  have q298 := q289.other W295 (Or.inr (slot_ne (Or.inr (hw _ (List.mem_of_getElem? (i := 21) rfl))) (Or.inr (hw _ (List.mem_of_getElem? (i := 22) rfl))) (by decide) (t := (.array .byte)) (t' := .byte) (by decide) (by decide)))
  have q299 := q290.same W295
  have q300 := q291.other W295 (Ne.symm (own_ne_exa Ex (hw _ (List.mem_of_getElem? (i := 7) rfl)) LA1))
  have q301 := aa286.other W295 (Ne.symm ne286_y0)
  have zz302 := Nat.le_trans zz292 (Nat.le_of_eq W295.size.symm)
  have kk303 : Keep h0 h295 [y0] := kk293.wr W295 (Or.inl (by simp))
  refine g_aloadN X295 hx hby own_d11_51 rfl rfl (pc' := 52) rfl ?_
  refine g_aload X295 hx hby own_d11_52 rfl rfl (pc' := 54) rfl ?_
  refine g_putF X295 hx hby hZ hown (hw _ (List.mem_of_getElem? (i := 25) rfl)) Via.refl q298 q297 (Or.inr ⟨(hw _ (List.mem_of_getElem? (i := 21) rfl)), rfl, hnm⟩) (hw _ (List.mem_of_getElem? (i := 7) rfl)) (ty := (.array .byte)) (by decide) rfl rfl gn own_d11_54 (pc' := 57) rfl (fun T304 h304 X304 W304 => ?_)
  have q305 := q296.wr W304
  have q306 := q297.wr W304
  have q307 := q298.same W304
  have q308 := q299.other W304 (Or.inr (slot_ne (Or.inr (hw _ (List.mem_of_getElem? (i := 22) rfl))) (Or.inr (hw _ (List.mem_of_getElem? (i := 21) rfl))) (by decide) (t := .byte) (t' := (.array .byte)) (by decide) (by decide)))
  have q309 := q300.other W304 (Ne.symm (own_ne_exa Ex (hw _ (List.mem_of_getElem? (i := 7) rfl)) LA1))
  have q310 := q301.other W304 (Ne.symm ne286_y0)
  have zz311 := Nat.le_trans zz302 (Nat.le_of_eq W304.size.symm)
  have kk312 : Keep h0 h304 [y0] := kk303.wr W304 (Or.inl (by simp))
  exact g_ret X304 hx hby hret hlk own_d11_57 ⟨rfl, kk312, ⟨b286, q306, q307, q308, q310⟩⟩ (by decide) (by decide)
set_option maxRecDepth 65536 in
set_option maxHeartbeats 40000000 in
theorem own_ef313 (m : MethodId) (y0 : Addr) (y1 : Addr)  : entryFrame m #[(.ref y0), (.ref y1)] 2 = mkF m 0 #[.val (.ref y0), .val (.ref y1)] [] := by first | (simp [entryFrame, mkF, argsToLocals, Value.category, maxLocals]; done) | rfl
set_option maxRecDepth 65536 in
set_option maxHeartbeats 40000000 in
theorem own_n1_4 (l : Launch) (Z : State) (a0 : Array Value) (hw : ∀ d ∈ tables_1, d.before a0 Z = true) (y0 y1 : Addr) (h0 : Heap) (n0 : Nat) (Z0 : n0 ≤ h0.size) (f : Nat → Int32) (hr : ∀ i, i < 4 → 0 ≤ (f i).toInt ∧ (f i).toInt ≤ 255) (LA1 : Ary Z h0 y1 .char 4 (fun i => .int (f i))) (Ex : Exa Z h0 y0 "java/lang/String") (F1 : Fld Z h0 y0 "java/lang/String" "value" "[B" .null) (F2 : Fld Z h0 y0 "java/lang/String" "coder" "B" (.int 0)) (gn : n0 ≤ y0) (cs : Int32) (Sc : Sta Z h0 "java/lang/String" "COMPACT_STRINGS" "Z" (.int cs)) (hcs : ¬ cs = 0) :
    Ctr l Z (⟨"java/lang/String", "<init>", "([C)V"⟩ : MethodName) jdk_42_method_3_code 2 none [] (own_room 3 1 4 54) #[(.ref y0), (.ref y1)] h0 n0 1 4 (fun v h => v = none ∧ Keep h0 h [y0] ∧ Lat Z h y0 4 (fun i => own_y (f i))) := by
  refine Ctr.of (plainFor_of_name own_pn0) ?_
  intro p e s m below meth c T0 hx hby hml hret hlk hnm hown hZ X0
  rw [own_ef313 m (y0) (y1)]
  refine g_aloadN X0 hx hby own_d12_0 rfl rfl (pc' := 1) rfl ?_
  refine g_aloadN X0 hx hby own_d12_1 rfl rfl (pc' := 2) rfl ?_
  refine g_iconst (v := 0) X0 hx hby own_d12_2 rfl (pc' := 3) rfl ?_
  refine g_aloadN X0 hx hby own_d12_3 rfl rfl (pc' := 4) rfl ?_
  refine g_arraylength (n := (4 : Int32)) X0 hx hby hZ LA1 rfl own_d12_4 (pc' := 5) rfl ?_
  refine g_aconst_null X0 hx hby own_d12_5 (pc' := 6) rfl ?_
  refine g_callC (argsL := [(.ref y1), (.int (0 : Int32)), (.int (4 : Int32)), .null]) (S := []) (a := y0) X0 hx hby hZ (y := (⟨"java/lang/String", "<init>", "([CIILjava/lang/Void;)V"⟩ : MethodName)) rfl hown (hw _ (List.mem_of_getElem? (i := 12) rfl)) (hw _ (List.mem_of_getElem? (i := 13) rfl)) (hw _ (List.mem_of_getElem? (i := 8) rfl)) (hw _ (List.mem_of_getElem? (i := 15) rfl)) (by decide) (own_n2_4 l Z a0 hw y0 y1 h0 n0 Z0 f hr LA1 Ex F1 F2 gn cs Sc hcs) (by rw [hml]; rfl) (lenOf own_pd8 rfl) rfl own_d12_6 (by decide) (W := 0) (by exact Nat.le_of_eq rfl) (by decide) (by decide) (by decide) (pc' := 9) rfl (fun T314 v314 X314 hQ314 => ?_)
  obtain ⟨rfl, ka314, la314⟩ := hQ314
  have q315 := own_sta_keep Sc ka314 (allS (own_plain Ex) all0)
  have q316 := Ex.keep ka314
  have q317 := LA1.keep ka314 (ninS (Ne.symm (own_ne_exa Ex (hw _ (List.mem_of_getElem? (i := 7) rfl)) LA1)) nin0)
  have zz318 := Nat.le_trans Z0 ka314.1
  have kk319 : Keep h0 T314.heap [y0] := (Keep.refl h0 [y0]).trans ka314 (allS (Or.inl (by simp)) all0)
  show Gl p e below n0 _ _ (T314.setTop (mkF m 9 #[.val (.ref y0), .val (.ref y1)] []))
  exact g_ret X314 hx hby hret hlk own_d12_9 ⟨rfl, kk319, la314⟩ (by decide) (by decide)
set_option maxRecDepth 65536 in
set_option maxHeartbeats 40000000 in
theorem own_ef320 (m : MethodId) (y0 : Addr) (y1 : Addr) (y2 : Int32) (y3 : Int32)  : entryFrame m #[(.ref y0), (.ref y1), (.int y2), (.int y3), .null] 6 = mkF m 0 #[.val (.ref y0), .val (.ref y1), .val (.int y2), .val (.int y3), .val .null, .unset] [] := by first | (simp [entryFrame, mkF, argsToLocals, Value.category, maxLocals]; done) | rfl
theorem own_d11_8 : decode jdk_42_method_149_code 8 = .ok (.aload_n 0, 1) := by decide +kernel
theorem own_d11_9 : decode jdk_42_method_149_code 9 = .ok (.ldc 7, 2) := by decide +kernel
theorem own_d11_11 : decode jdk_42_method_149_code 11 = .ok (.getfield 9, 3) := by decide +kernel
theorem own_d11_14 : decode jdk_42_method_149_code 14 = .ok (.putfield 9, 3) := by decide +kernel
theorem own_d11_17 : decode jdk_42_method_149_code 17 = .ok (.aload_n 0, 1) := by decide +kernel
theorem own_d11_18 : decode jdk_42_method_149_code 18 = .ok (.ldc 7, 2) := by decide +kernel
theorem own_d11_20 : decode jdk_42_method_149_code 20 = .ok (.getfield 15, 3) := by decide +kernel
theorem own_d11_23 : decode jdk_42_method_149_code 23 = .ok (.putfield 15, 3) := by decide +kernel
theorem own_d11_26 : decode jdk_42_method_149_code 26 = .ok (.return_, 1) := by decide +kernel
set_option maxRecDepth 65536 in
set_option maxHeartbeats 40000000 in
theorem own_n2_0 (l : Launch) (Z : State) (a0 : Array Value) (hw : ∀ d ∈ tables_1, d.before a0 Z = true) (y0 y1 : Addr) (h0 : Heap) (n0 : Nat) (Z0 : n0 ≤ h0.size) (g : Nat → Value) (LA1 : Ary Z h0 y1 .char 0 g) (Ex : Exa Z h0 y0 "java/lang/String") (F1 : Fld Z h0 y0 "java/lang/String" "value" "[B" .null) (F2 : Fld Z h0 y0 "java/lang/String" "coder" "B" (.int 0)) (gn : n0 ≤ y0) (cs : Int32) (Sc : Sta Z h0 "java/lang/String" "COMPACT_STRINGS" "Z" (.int cs)) (hcs : ¬ cs = 0) :
    CtrH l Z own_EL [y0] (⟨"java/lang/String", "<init>", "([CIILjava/lang/Void;)V"⟩ : MethodName) jdk_42_method_149_code 6 none [] (own_room 1 2 4 13) #[(.ref y0), (.ref y1), (.int (0 : Int32)), (.int (0 : Int32)), .null] h0 n0 2 4 (fun v h => v = none ∧ Keep h0 h [y0] ∧ Lat Z h y0 0 (fun i => ([] : List Int32).getD i 0)) := by
  refine CtrH.of (plainFor_of_name own_pn0) ?_
  intro p e s m below meth c T0 hx hby hml hret hlk hnm hown hZ X0 hS hC0 hss
  rw [own_ef320 m (y0) (y1) ((0 : Int32)) ((0 : Int32))]
  have sy := hss y0 (by simp)
  refine g_aloadN X0 hx hby own_d11_0 rfl rfl (pc' := 1) rfl ?_
  refine g_initO X0 hx hby hZ (W := 0) hown (hw _ (List.mem_of_getElem? (i := 16) rfl)) (hw _ (List.mem_of_getElem? (i := 17) rfl)) (hw _ (List.mem_of_getElem? (i := 18) rfl)) (by rw [hml]; rfl) own_d11_1 (by decide) (by exact Nat.le_of_eq rfl) (by decide) (pc' := 4) rfl (fun T321 X321 => ?_)
  refine g_iloadN X321 hx hby own_d11_4 rfl (pc' := 5) rfl ?_
  refine g_if_ne X321 hx hby own_d11_5 (by decide) (pc' := 27) (by decide) (pc2 := 8) rfl (fun q => absurd (by decide) q) (fun c5_322 => ?_)
  refine g_aloadN X321 hx hby own_d11_8 rfl rfl (pc' := 9) rfl ?_
  refine gh_ldc (n := 0) (vs := []) (kn := 0) (f := (fun i => ([] : List Int32).getD i 0)) X321 hx hby hZ hS (Nat.le_refl _) (own_hEL hw) hC0 hown (hw _ (List.mem_of_getElem? (i := 19) rfl)) (own_wS hw) (by simp [own_EL]) ⟨by decide, by decide⟩ rfl (by decide) (by decide) own_d11_9 (by decide) (by decide) (by decide) (by decide) (pc' := 11) rfl (fun a323 b323 T323 h323 k323 X323 hS323 hk323 hZ323 hown323 hC323 hD323 E323 le323 lc323 lv323 la323 hL323 hne323 => ?_)
  have sf324 := hD323.safe Ex.lt sy.2
  have nl325 := hne323 _ sf324
  have q326 := Sc.ext E323
  have q327 := Ex.ext E323
  have q328 := F1.ext E323
  have q329 := F2.ext E323
  have q330 := LA1.ext E323
  have zz331 := Nat.le_trans Z0 E323.1
  have kk332 : Keep h0 h323 [y0] := (Keep.refl h0 [y0]).ext E323
  refine g_getF X323 hx hby hZ323 hown323 (hw _ (List.mem_of_getElem? (i := 25) rfl)) Via.refl lv323 own_d11_11 (pc' := 14) rfl (fun T333 X333 => ?_)
  refine g_putF X333 hx hby hZ323 hown323 (hw _ (List.mem_of_getElem? (i := 25) rfl)) Via.refl q328 q327 (Or.inr ⟨(hw _ (List.mem_of_getElem? (i := 21) rfl)), rfl, hnm⟩) (hw _ (List.mem_of_getElem? (i := 7) rfl)) (ty := (.array .byte)) (by decide) rfl rfl gn own_d11_14 (pc' := 17) rfl (fun T334 h334 X334 W334 => ?_)
  have sf335 := Safe.wr W334 sf324 hC323.1 sf324
  have ch336 := hC323.trans (CHr.wr W334 sf324 hC323.1)
  have q337 := q326.wr W334
  have q338 := q327.wr W334
  have q339 := q328.same W334
  have q340 := q329.other W334 (Or.inr (slot_ne (Or.inr (hw _ (List.mem_of_getElem? (i := 22) rfl))) (Or.inr (hw _ (List.mem_of_getElem? (i := 21) rfl))) (by decide) (t := .byte) (t' := (.array .byte)) (by decide) (by decide)))
  have q341 := q330.other W334 (Ne.symm (own_ne_exa Ex (hw _ (List.mem_of_getElem? (i := 7) rfl)) LA1))
  have q342 := le323.wr W334
  have q343 := lv323.other W334 (Or.inl (Ne.symm nl325.1))
  have q344 := lc323.other W334 (Or.inl (Ne.symm nl325.1))
  have q345 := la323.other W334 (Ne.symm nl325.2)
  have zz346 := Nat.le_trans zz331 (Nat.le_of_eq W334.size.symm)
  have hk347 := Nat.le_trans hk323 (Nat.le_of_eq W334.size.symm)
  have kk348 : Keep h0 h334 [y0] := kk332.wr W334 (Or.inl (by simp))
  refine g_aloadN X334 hx hby own_d11_17 rfl rfl (pc' := 18) rfl ?_
  refine gh_again X334 hx hby hZ323 hown323 (hw _ (List.mem_of_getElem? (i := 19) rfl)) hL323 own_d11_18 (pc' := 20) rfl ?_
  refine g_getF X334 hx hby hZ323 hown323 (hw _ (List.mem_of_getElem? (i := 26) rfl)) Via.refl q344 own_d11_20 (pc' := 23) rfl (fun T350 X350 => ?_)
  refine g_putF X350 hx hby hZ323 hown323 (hw _ (List.mem_of_getElem? (i := 26) rfl)) Via.refl q340 q338 (Or.inr ⟨(hw _ (List.mem_of_getElem? (i := 22) rfl)), rfl, hnm⟩) (hw _ (List.mem_of_getElem? (i := 7) rfl)) (ty := .byte) (by decide) rfl rfl gn own_d11_23 (pc' := 26) rfl (fun T351 h351 X351 W351 => ?_)
  have sf352 := Safe.wr W351 sf335 ch336.1 sf335
  have ch353 := ch336.trans (CHr.wr W351 sf335 ch336.1)
  have q354 := q337.wr W351
  have q355 := q338.wr W351
  have q356 := q339.other W351 (Or.inr (slot_ne (Or.inr (hw _ (List.mem_of_getElem? (i := 21) rfl))) (Or.inr (hw _ (List.mem_of_getElem? (i := 22) rfl))) (by decide) (t := (.array .byte)) (t' := .byte) (by decide) (by decide)))
  have q357 := q340.same W351
  have q358 := q341.other W351 (Ne.symm (own_ne_exa Ex (hw _ (List.mem_of_getElem? (i := 7) rfl)) LA1))
  have q359 := q342.wr W351
  have q360 := q343.other W351 (Or.inl (Ne.symm nl325.1))
  have q361 := q344.other W351 (Or.inl (Ne.symm nl325.1))
  have q362 := q345.other W351 (Ne.symm nl325.2)
  have zz363 := Nat.le_trans zz346 (Nat.le_of_eq W351.size.symm)
  have hk364 := Nat.le_trans hk347 (Nat.le_of_eq W351.size.symm)
  have kk365 : Keep h0 h351 [y0] := kk348.wr W351 (Or.inl (by simp))
  exact gh_ret X351 hx hby hZ323 hS323 hk364 (own_hEL hw) ch353 hret hlk own_d11_26 ⟨rfl, kk365, ⟨b323, q355, q356, q357, q362⟩⟩ (by decide) (by decide)
set_option maxRecDepth 65536 in
set_option maxHeartbeats 40000000 in
theorem own_ef366 (m : MethodId) (y0 : Addr) (y1 : Addr)  : entryFrame m #[(.ref y0), (.ref y1)] 2 = mkF m 0 #[.val (.ref y0), .val (.ref y1)] [] := by first | (simp [entryFrame, mkF, argsToLocals, Value.category, maxLocals]; done) | rfl
set_option maxRecDepth 65536 in
set_option maxHeartbeats 40000000 in
theorem own_n1_0 (l : Launch) (Z : State) (a0 : Array Value) (hw : ∀ d ∈ tables_1, d.before a0 Z = true) (y0 y1 : Addr) (h0 : Heap) (n0 : Nat) (Z0 : n0 ≤ h0.size) (g : Nat → Value) (LA1 : Ary Z h0 y1 .char 0 g) (Ex : Exa Z h0 y0 "java/lang/String") (F1 : Fld Z h0 y0 "java/lang/String" "value" "[B" .null) (F2 : Fld Z h0 y0 "java/lang/String" "coder" "B" (.int 0)) (gn : n0 ≤ y0) (cs : Int32) (Sc : Sta Z h0 "java/lang/String" "COMPACT_STRINGS" "Z" (.int cs)) (hcs : ¬ cs = 0) :
    CtrH l Z own_EL [y0] (⟨"java/lang/String", "<init>", "([C)V"⟩ : MethodName) jdk_42_method_3_code 2 none [] (own_room 2 2 4 30) #[(.ref y0), (.ref y1)] h0 n0 2 4 (fun v h => v = none ∧ Keep h0 h [y0] ∧ Lat Z h y0 0 (fun i => ([] : List Int32).getD i 0)) := by
  refine CtrH.of (plainFor_of_name own_pn0) ?_
  intro p e s m below meth c T0 hx hby hml hret hlk hnm hown hZ X0 hS hC0 hss
  rw [own_ef366 m (y0) (y1)]
  have sy := hss y0 (by simp)
  refine g_aloadN X0 hx hby own_d12_0 rfl rfl (pc' := 1) rfl ?_
  refine g_aloadN X0 hx hby own_d12_1 rfl rfl (pc' := 2) rfl ?_
  refine g_iconst (v := 0) X0 hx hby own_d12_2 rfl (pc' := 3) rfl ?_
  refine g_aloadN X0 hx hby own_d12_3 rfl rfl (pc' := 4) rfl ?_
  refine g_arraylength (n := (0 : Int32)) X0 hx hby hZ LA1 rfl own_d12_4 (pc' := 5) rfl ?_
  refine g_aconst_null X0 hx hby own_d12_5 (pc' := 6) rfl ?_
  refine gh_callC (argsL := [(.ref y1), (.int (0 : Int32)), (.int (0 : Int32)), .null]) (S := []) (a := y0) X0 hx hby hZ hS (Nat.le_refl _) (own_hEL hw) hC0 hss (y := (⟨"java/lang/String", "<init>", "([CIILjava/lang/Void;)V"⟩ : MethodName)) rfl hown (hw _ (List.mem_of_getElem? (i := 12) rfl)) (hw _ (List.mem_of_getElem? (i := 13) rfl)) (hw _ (List.mem_of_getElem? (i := 8) rfl)) (hw _ (List.mem_of_getElem? (i := 15) rfl)) (by decide) (own_n2_0 l Z a0 hw y0 y1 h0 n0 Z0 _ LA1 Ex F1 F2 gn cs Sc hcs) (by rw [hml]; rfl) (lenOf own_pd8 rfl) rfl own_d12_6 (by decide) (W := 0) (by exact Nat.le_of_eq rfl) (by decide) (by decide) (by decide) (pc' := 9) rfl (fun T367 v367 k367 X367 hS367 hk367 hZ367 hown367 hC367 hD367 hQ367 => ?_)
  obtain ⟨rfl, ka367, la367⟩ := hQ367
  show Gl p e below n0 _ _ (T367.setTop (mkF m 9 #[.val (.ref y0), .val (.ref y1)] []))
  exact gh_ret X367 hx hby hZ367 hS367 hk367 (own_hEL hw) hC367 hret hlk own_d12_9 ⟨rfl, ka367, la367⟩ (by decide) (by decide)
set_option maxRecDepth 65536 in
set_option maxHeartbeats 40000000 in
theorem own_ef368 (m : MethodId) (y0 : Int32)  : entryFrame m #[(.int y0)] 1 = mkF m 0 #[.val (.int y0)] [] := by first | (simp [entryFrame, mkF, argsToLocals, Value.category, maxLocals]; done) | rfl
theorem own_d13_0 : decode jdk_43_method_4_code 0 = .ok (.iload_n 0, 1) := by decide +kernel
theorem own_d13_1 : decode jdk_43_method_4_code 1 = .ok (.ifCond .lt 14, 3) := by decide +kernel
theorem own_d13_4 : decode jdk_43_method_4_code 4 = .ok (.iload_n 0, 1) := by decide +kernel
theorem own_d13_5 : decode jdk_43_method_4_code 5 = .ok (.sipush 255, 3) := by decide +kernel
theorem own_d13_8 : decode jdk_43_method_4_code 8 = .ok (.if_icmp .gt 7, 3) := by decide +kernel
theorem own_d13_11 : decode jdk_43_method_4_code 11 = .ok (.iconst 1, 1) := by decide +kernel
theorem own_d13_12 : decode jdk_43_method_4_code 12 = .ok (.goto 4, 3) := by decide +kernel
theorem own_d13_16 : decode jdk_43_method_4_code 16 = .ok (.ireturn, 1) := by decide +kernel
set_option maxRecDepth 65536 in
set_option maxHeartbeats 40000000 in
theorem own_ceI (l : Launch) (Z : State) (a0 : Array Value) (hw : ∀ d ∈ tables_1, d.before a0 Z = true)  (h0 : Heap) (n0 : Nat)  :
    Ctr l Z (⟨"java/lang/StringLatin1", "canEncode", "(I)Z"⟩ : MethodName) jdk_43_method_4_code 1 (some .boolean) [] (own_room 0 0 0 0) #[(.int (46 : Int32))] h0 n0 0 0 (fun v h => v = some (.int 1) ∧ h = h0) := by
  refine Ctr.of (plainFor_of_name own_pn2) ?_
  intro p e s m below meth c T0 hx hby hml hret hlk hnm hown hZ X0
  rw [own_ef368 m ((46 : Int32))]
  refine g_iloadN X0 hx hby own_d13_0 rfl (pc' := 1) rfl ?_
  refine g_if_lt X0 hx hby own_d13_1 (by decide) (pc' := 15) (by decide) (pc2 := 4) rfl (fun q => absurd q (by decide)) (fun c1_369 => ?_)
  refine g_iloadN X0 hx hby own_d13_4 rfl (pc' := 5) rfl ?_
  refine g_sipush (v := 255) X0 hx hby own_d13_5 rfl (pc' := 8) rfl ?_
  refine g_icmp_gt X0 hx hby own_d13_8 (by decide) (pc' := 15) (by decide) (pc2 := 11) rfl (fun q => absurd q (by decide)) (fun c8_370 => ?_)
  refine g_iconst (v := 1) X0 hx hby own_d13_11 rfl (pc' := 12) rfl ?_
  refine g_goto X0 hx hby own_d13_12 (by decide) (pc' := 16) (by decide) ?_
  exact g_retN X0 hx hby hret hlk (by simp) own_d13_16 ⟨rfl, rfl⟩ (by decide) (by decide)
set_option maxRecDepth 65536 in
set_option maxHeartbeats 40000000 in
theorem own_ef371 (m : MethodId) (y0 : Int32) (y1 : Int32)  : entryFrame m #[(.int y0), (.int y1)] 2 = mkF m 0 #[.val (.int y0), .val (.int y1)] [] := by first | (simp [entryFrame, mkF, argsToLocals, Value.category, maxLocals]; done) | rfl
theorem own_d14_0 : decode jdk_29_method_69_code 0 = .ok (.iload_n 0, 1) := by decide +kernel
theorem own_d14_1 : decode jdk_29_method_69_code 1 = .ok (.iload_n 1, 1) := by decide +kernel
theorem own_d14_2 : decode jdk_29_method_69_code 2 = .ok (.if_icmp .gt 7, 3) := by decide +kernel
theorem own_d14_5 : decode jdk_29_method_69_code 5 = .ok (.iload_n 0, 1) := by decide +kernel
theorem own_d14_6 : decode jdk_29_method_69_code 6 = .ok (.goto 4, 3) := by decide +kernel
theorem own_d14_10 : decode jdk_29_method_69_code 10 = .ok (.ireturn, 1) := by decide +kernel
set_option maxRecDepth 65536 in
set_option maxHeartbeats 40000000 in
theorem own_min (l : Launch) (Z : State) (a0 : Array Value) (hw : ∀ d ∈ tables_1, d.before a0 Z = true) (y0 y1 : Int32) (h0 : Heap) (n0 : Nat) (hm : ¬ y1 < y0) :
    Ctr l Z (⟨"java/lang/Math", "min", "(II)I"⟩ : MethodName) jdk_29_method_69_code 2 (some .int) [] (own_room 0 0 0 0) #[(.int y0), (.int y1)] h0 n0 0 0 (fun v h => v = some (.int y0) ∧ h = h0) := by
  refine Ctr.of (Jvm.Free.JP.mathPlain rfl (by decide +kernel)) ?_
  intro p e s m below meth c T0 hx hby hml hret hlk hnm hown hZ X0
  rw [own_ef371 m (y0) (y1)]
  refine g_iloadN X0 hx hby own_d14_0 rfl (pc' := 1) rfl ?_
  refine g_iloadN X0 hx hby own_d14_1 rfl (pc' := 2) rfl ?_
  refine g_icmp_gt X0 hx hby own_d14_2 (by decide) (pc' := 9) (by decide) (pc2 := 5) rfl (fun q => absurd q hm) (fun c2_372 => ?_)
  refine g_iloadN X0 hx hby own_d14_5 rfl (pc' := 6) rfl ?_
  refine g_goto X0 hx hby own_d14_6 (by decide) (pc' := 10) (by decide) ?_
  exact g_retI X0 hx hby hret hlk own_d14_10 ⟨rfl, rfl⟩ (by decide) (by decide)
set_option maxRecDepth 65536 in
set_option maxHeartbeats 40000000 in
theorem own_ef373 (m : MethodId) (y0 : Addr) (y1 : Int32) (y2 : Int32)  : entryFrame m #[(.ref y0), (.int y1), (.int y2)] 4 = mkF m 0 #[.val (.ref y0), .val (.int y1), .val (.int y2), .unset] [] := by first | (simp [entryFrame, mkF, argsToLocals, Value.category, maxLocals]; done) | rfl
theorem own_d15_0 : decode jdk_43_method_27_code 0 = .ok (.iload_n 1, 1) := by decide +kernel
theorem own_d15_1 : decode jdk_43_method_27_code 1 = .ok (.invokestatic 88, 3) := by decide +kernel
theorem own_pd9 : parseMethodDescriptor "(I)Z" = some ⟨[.int], (some .boolean)⟩ := by decide +kernel
theorem own_d15_4 : decode jdk_43_method_27_code 4 = .ok (.ifCond .ne 5, 3) := by decide +kernel
theorem own_d15_9 : decode jdk_43_method_27_code 9 = .ok (.iload_n 2, 1) := by decide +kernel
theorem own_d15_10 : decode jdk_43_method_27_code 10 = .ok (.aload_n 0, 1) := by decide +kernel
theorem own_d15_11 : decode jdk_43_method_27_code 11 = .ok (.arraylength, 1) := by decide +kernel
theorem own_d15_12 : decode jdk_43_method_27_code 12 = .ok (.iconst 1, 1) := by decide +kernel
theorem own_d15_13 : decode jdk_43_method_27_code 13 = .ok (.isub, 1) := by decide +kernel
theorem own_d15_14 : decode jdk_43_method_27_code 14 = .ok (.invokestatic 38, 3) := by decide +kernel
theorem own_pd10 : parseMethodDescriptor "(II)I" = some ⟨[.int, .int], (some .int)⟩ := by decide +kernel
theorem own_d15_17 : decode jdk_43_method_27_code 17 = .ok (.istore_n 3, 1) := by decide +kernel
theorem own_d15_18 : decode jdk_43_method_27_code 18 = .ok (.iload_n 3, 1) := by decide +kernel
theorem own_d15_19 : decode jdk_43_method_27_code 19 = .ok (.ifCond .lt 19, 3) := by decide +kernel
theorem own_d15_38 : decode jdk_43_method_27_code 38 = .ok (.iconst (-1), 1) := by decide +kernel
theorem own_d15_39 : decode jdk_43_method_27_code 39 = .ok (.ireturn, 1) := by decide +kernel
theorem own_d15_22 : decode jdk_43_method_27_code 22 = .ok (.aload_n 0, 1) := by decide +kernel
theorem own_d15_23 : decode jdk_43_method_27_code 23 = .ok (.iload_n 3, 1) := by decide +kernel
theorem own_d15_24 : decode jdk_43_method_27_code 24 = .ok (.baload, 1) := by decide +kernel
theorem own_d15_25 : decode jdk_43_method_27_code 25 = .ok (.iload_n 1, 1) := by decide +kernel
theorem own_d15_26 : decode jdk_43_method_27_code 26 = .ok (.i2b, 1) := by decide +kernel
theorem own_d15_27 : decode jdk_43_method_27_code 27 = .ok (.if_icmp .ne 5, 3) := by decide +kernel
theorem own_d15_30 : decode jdk_43_method_27_code 30 = .ok (.iload_n 3, 1) := by decide +kernel
theorem own_d15_31 : decode jdk_43_method_27_code 31 = .ok (.ireturn, 1) := by decide +kernel
theorem own_d15_32 : decode jdk_43_method_27_code 32 = .ok (.iinc 3 (-1), 3) := by decide +kernel
theorem own_d15_35 : decode jdk_43_method_27_code 35 = .ok (.goto (-17), 3) := by decide +kernel
set_option maxRecDepth 65536 in
set_option maxHeartbeats 40000000 in
theorem own_l3 (l : Launch) (Z : State) (a0 : Array Value) (hw : ∀ d ∈ tables_1, d.before a0 Z = true) (y0 : Addr) (h0 : Heap) (n0 : Nat) (n : Nat) (N : Int32) (f : Nat → Int32) (hN : N.toInt = (n : Int)) (LA0 : Ary Z h0 y0 .byte n (fun i => .int (f i))) (K : Int32) (hK : -1 ≤ K.toInt ∧ K.toInt < (n : Int)) (hat : 0 ≤ K.toInt → f K.toInt.toNat = 46) (hno : ∀ j : Nat, K.toInt < (j : Int) → j < n → ¬ f j = 46) :
    Ctr l Z (⟨"java/lang/StringLatin1", "lastIndexOf", "([BII)I"⟩ : MethodName) jdk_43_method_27_code 4 (some .int) [] (own_room 1 0 0 13) #[(.ref y0), (.int (46 : Int32)), (.int (N - (1 : Int32)))] h0 n0 0 0 (fun v h => v = some (.int K) ∧ h = h0) := by
  refine Ctr.of (plainFor_of_name own_pn2) ?_
  intro p e s m below meth c T0 hx hby hml hret hlk hnm hown hZ X0
  rw [own_ef373 m (y0) ((46 : Int32)) ((N - (1 : Int32)))]
  refine g_iloadN X0 hx hby own_d15_0 rfl (pc' := 1) rfl ?_
  refine g_callS (argsL := [(.int (46 : Int32))]) (S := []) X0 hx hby hZ (y := (⟨"java/lang/StringLatin1", "canEncode", "(I)Z"⟩ : MethodName)) hown (hw _ (List.mem_of_getElem? (i := 61) rfl)) (hw _ (List.mem_of_getElem? (i := 62) rfl)) (hw _ (List.mem_of_getElem? (i := 59) rfl)) (hw _ (List.mem_of_getElem? (i := 63) rfl)) (by decide) (own_ceI l Z a0 hw h0 n0) (by rw [hml]; rfl) (lenOf own_pd9 rfl) rfl own_d15_1 (by decide) (W := 0) (by exact Nat.le_of_eq rfl) (by decide) (by decide) (by decide) (pc' := 4) rfl (fun T374 v374 X374 hQ374 => ?_)
  obtain ⟨rfl, e374⟩ := hQ374
  rw [e374] at X374
  show Gl p e below n0 _ _ (T374.setTop (mkF m 4 #[.val (.ref y0), .val (.int (46 : Int32)), .val (.int (N - (1 : Int32))), .unset] [(.int (1 : Int32))]))
  refine g_if_ne X374 hx hby own_d15_4 (by decide) (pc' := 9) (by decide) (pc2 := 7) rfl (fun c4_375 => ?_) (fun q => absurd q (by decide))
  refine g_iloadN X374 hx hby own_d15_9 rfl (pc' := 10) rfl ?_
  refine g_aloadN X374 hx hby own_d15_10 rfl rfl (pc' := 11) rfl ?_
  refine g_arraylength (n := N) X374 hx hby hZ LA0 hN own_d15_11 (pc' := 12) rfl ?_
  refine g_iconst (v := 1) X374 hx hby own_d15_12 rfl (pc' := 13) rfl ?_
  refine g_isub X374 hx hby own_d15_13 (pc' := 14) rfl ?_
  refine g_callS (argsL := [(.int (N - (1 : Int32))), (.int (N - (1 : Int32)))]) (S := []) X374 hx hby hZ (y := (⟨"java/lang/Math", "min", "(II)I"⟩ : MethodName)) hown (hw _ (List.mem_of_getElem? (i := 64) rfl)) (hw _ (List.mem_of_getElem? (i := 65) rfl)) (hw _ (List.mem_of_getElem? (i := 66) rfl)) (hw _ (List.mem_of_getElem? (i := 67) rfl)) (by decide) (own_min l Z a0 hw (N - (1 : Int32)) (N - (1 : Int32)) h0 n0 (own_nlt (Int.le_refl _))) (by rw [hml]; rfl) (lenOf own_pd10 rfl) rfl own_d15_14 (by decide) (W := 0) (by exact Nat.le_of_eq rfl) (by decide) (by decide) (by decide) (pc' := 17) rfl (fun T376 v376 X376 hQ376 => ?_)
  obtain ⟨rfl, e376⟩ := hQ376
  rw [e376] at X376
  show Gl p e below n0 _ _ (T376.setTop (mkF m 17 #[.val (.ref y0), .val (.int (46 : Int32)), .val (.int (N - (1 : Int32))), .unset] [(.int (N - (1 : Int32)))]))
  refine g_istoreN (L' := #[.val (.ref y0), .val (.int (46 : Int32)), .val (.int (N - (1 : Int32))), .val (.int (N - (1 : Int32)))]) X376 hx hby own_d15_17 rfl (pc' := 18) rfl ?_
  have rk := rng32 N
  have e0 : ((N - (1 : Int32))).toInt = (n : Int) - 1 := by rw [own_dec1 (by omega), hN]
  have loop : ∀ (j : Nat) (i : Int32), i.toInt = K.toInt + (j : Int) → i.toInt < (n : Int) → Gl p e below n0 (Fn s 0 0) (fun v h => v = some (.int K) ∧ h = h0) (T376.setTop (mkF m 18 #[.val (.ref y0), .val (.int (46 : Int32)), .val (.int (N - (1 : Int32))), .val (.int i)] [])) := by
    intro j
    induction j with
    | zero =>
      intro i hi hk
      obtain rfl : i = K := Int32.toInt_inj.mp (by omega)
      refine g_iloadN X376 hx hby own_d15_18 rfl (pc' := 19) rfl ?_
      refine g_if_lt X376 hx hby own_d15_19 (by decide) (pc' := 38) (by decide) (pc2 := 22) rfl (fun c19_377 => ?_) (fun c19_377 => ?_)
      · refine g_iconst (v := (-1)) X376 hx hby own_d15_38 rfl (pc' := 39) rfl ?_
        exact g_retI X376 hx hby hret hlk own_d15_39 ⟨congrArg (fun z => some (Value.int z)) (Int32.toInt_inj.mp (by have q := Int32.lt_iff_toInt_lt.mp c19_377; have e1 : (-1 : Int32).toInt = -1 := rfl; have e2 : (0 : Int32).toInt = 0 := rfl; omega)), rfl⟩ (by decide) (by decide)
      · have hge0 : 0 ≤ i.toInt := Int.not_lt.mp fun q => c19_377 (Int32.lt_iff_toInt_lt.mpr q)
        refine g_aloadN X376 hx hby own_d15_22 rfl rfl (pc' := 23) rfl ?_
        refine g_iloadN X376 hx hby own_d15_23 rfl (pc' := 24) rfl ?_
        refine g_baload (i := i.toInt.toNat) (v := (.int (f i.toInt.toNat))) X376 hx hby hZ LA0 (by omega) (by omega) rfl own_d15_24 (pc' := 25) rfl ?_
        refine g_iloadN X376 hx hby own_d15_25 rfl (pc' := 26) rfl ?_
        refine g_i2b X376 hx hby own_d15_26 (pc' := 27) rfl ?_
        show Gl p e below n0 _ _ (T376.setTop (mkF m 27 #[.val (.ref y0), .val (.int (46 : Int32)), .val (.int (N - (1 : Int32))), .val (.int i)] [(.int (46 : Int32)), (.int (f i.toInt.toNat))]))
        have hge : 0 ≤ i.toInt := Int.not_lt.mp fun q => c19_377 (Int32.lt_iff_toInt_lt.mpr q)
        refine g_icmp_ne X376 hx hby own_d15_27 (by decide) (pc' := 32) (by decide) (pc2 := 30) rfl (fun q => absurd (hat hge) q) (fun c27_378 => ?_)
        refine g_iloadN X376 hx hby own_d15_30 rfl (pc' := 31) rfl ?_
        exact g_retI X376 hx hby hret hlk own_d15_31 ⟨rfl, rfl⟩ (by decide) (by decide)
    | succ j ih =>
      intro i hi hk
      refine g_iloadN X376 hx hby own_d15_18 rfl (pc' := 19) rfl ?_
      refine g_if_lt X376 hx hby own_d15_19 (by decide) (pc' := 38) (by decide) (pc2 := 22) rfl (fun q => absurd q (own_nlt (show (0 : Int) ≤ _ by omega))) (fun c19_379 => ?_)
      refine g_aloadN X376 hx hby own_d15_22 rfl rfl (pc' := 23) rfl ?_
      refine g_iloadN X376 hx hby own_d15_23 rfl (pc' := 24) rfl ?_
      refine g_baload (i := i.toInt.toNat) (v := (.int (f i.toInt.toNat))) X376 hx hby hZ LA0 (by omega) (by omega) rfl own_d15_24 (pc' := 25) rfl ?_
      refine g_iloadN X376 hx hby own_d15_25 rfl (pc' := 26) rfl ?_
      refine g_i2b X376 hx hby own_d15_26 (pc' := 27) rfl ?_
      show Gl p e below n0 _ _ (T376.setTop (mkF m 27 #[.val (.ref y0), .val (.int (46 : Int32)), .val (.int (N - (1 : Int32))), .val (.int i)] [(.int (46 : Int32)), (.int (f i.toInt.toNat))]))
      refine g_icmp_ne X376 hx hby own_d15_27 (by decide) (pc' := 32) (by decide) (pc2 := 30) rfl (fun c27_380 => ?_) (fun q => absurd q (hno i.toInt.toNat (by omega) (by omega)))
      refine g_iinc (y := (-1)) (L' := #[.val (.ref y0), .val (.int (46 : Int32)), .val (.int (N - (1 : Int32))), .val (.int (i + (-1 : Int32)))]) X376 hx hby own_d15_32 rfl rfl rfl (pc' := 35) rfl ?_
      refine g_goto X376 hx hby own_d15_35 (by decide) (pc' := 18) (by decide) ?_
      exact ih _ (by rw [own_decm (by omega)]; omega) (by rw [own_decm (by omega)]; omega)
  exact loop ((n : Int) - 1 - K.toInt).toNat _ (by rw [e0]; omega) (by rw [e0]; omega)
set_option maxRecDepth 65536 in
set_option maxHeartbeats 40000000 in
theorem own_ef381 (m : MethodId) (y0 : Addr) (y1 : Int32) (y2 : Int32)  : entryFrame m #[(.ref y0), (.int y1), (.int y2)] 3 = mkF m 0 #[.val (.ref y0), .val (.int y1), .val (.int y2)] [] := by first | (simp [entryFrame, mkF, argsToLocals, Value.category, maxLocals]; done) | rfl
theorem own_d16_0 : decode jdk_42_method_83_code 0 = .ok (.aload_n 0, 1) := by decide +kernel
theorem own_d16_1 : decode jdk_42_method_83_code 1 = .ok (.invokevirtual 492, 3) := by decide +kernel
theorem own_d16_4 : decode jdk_42_method_83_code 4 = .ok (.ifCond .eq 15, 3) := by decide +kernel
theorem own_d16_7 : decode jdk_42_method_83_code 7 = .ok (.aload_n 0, 1) := by decide +kernel
theorem own_d16_8 : decode jdk_42_method_83_code 8 = .ok (.getfield 9, 3) := by decide +kernel
theorem own_d16_11 : decode jdk_42_method_83_code 11 = .ok (.iload_n 1, 1) := by decide +kernel
theorem own_d16_12 : decode jdk_42_method_83_code 12 = .ok (.iload_n 2, 1) := by decide +kernel
theorem own_d16_13 : decode jdk_42_method_83_code 13 = .ok (.invokestatic 644, 3) := by decide +kernel
theorem own_pd11 : parseMethodDescriptor "([BII)I" = some ⟨[(.array .byte), .int, .int], (some .int)⟩ := by decide +kernel
theorem own_d16_16 : decode jdk_42_method_83_code 16 = .ok (.goto 12, 3) := by decide +kernel
theorem own_d16_28 : decode jdk_42_method_83_code 28 = .ok (.ireturn, 1) := by decide +kernel
set_option maxRecDepth 65536 in
set_option maxHeartbeats 40000000 in
theorem own_l2 (l : Launch) (Z : State) (a0 : Array Value) (hw : ∀ d ∈ tables_1, d.before a0 Z = true) (y0 : Addr) (h0 : Heap) (n0 : Nat) (n : Nat) (N : Int32) (f : Nat → Int32) (hN : N.toInt = (n : Int)) (P0 : Lat Z h0 y0 n f) (cs : Int32) (Sc : Sta Z h0 "java/lang/String" "COMPACT_STRINGS" "Z" (.int cs)) (hcs : ¬ cs = 0) (K : Int32) (hK : -1 ≤ K.toInt ∧ K.toInt < (n : Int)) (hat : 0 ≤ K.toInt → f K.toInt.toNat = 46) (hno : ∀ j : Nat, K.toInt < (j : Int) → j < n → ¬ f j = 46) :
    Ctr l Z (⟨"java/lang/String", "lastIndexOf", "(II)I"⟩ : MethodName) jdk_42_method_83_code 3 (some .int) [] (own_room 2 0 0 28) #[(.ref y0), (.int (46 : Int32)), (.int (N - (1 : Int32)))] h0 n0 0 0 (fun v h => v = some (.int K) ∧ h = h0) := by
  refine Ctr.of (plainFor_of_name own_pn0) ?_
  intro p e s m below meth c T0 hx hby hml hret hlk hnm hown hZ X0
  rw [own_ef381 m (y0) ((46 : Int32)) ((N - (1 : Int32)))]
  obtain ⟨v0, LE0, LV0, LC0, LA0⟩ := P0
  refine g_aloadN X0 hx hby own_d16_0 rfl rfl (pc' := 1) rfl ?_
  refine g_callV (argsL := []) (S := []) (a := y0) X0 hx hby hZ (y := (⟨"java/lang/String", "isLatin1", "()Z"⟩ : MethodName)) (y' := (⟨"java/lang/String", "isLatin1", "()Z"⟩ : MethodName)) hown (hw _ (List.mem_of_getElem? (i := 52) rfl)) (hw _ (List.mem_of_getElem? (i := 53) rfl)) (notFace_of_selects (args := #[]) (mvT hZ (hw _ (List.mem_of_getElem? (i := 55) rfl)))) (hw _ (List.mem_of_getElem? (i := 55) rfl)) (hw _ (List.mem_of_getElem? (i := 54) rfl)) (hw _ (List.mem_of_getElem? (i := 8) rfl)) (hw _ (List.mem_of_getElem? (i := 56) rfl)) (by decide) LE0 (own_il l Z a0 hw y0 h0 n0 n N f hN ⟨v0, LE0, LV0, LC0, LA0⟩ cs Sc hcs ) (by rw [hml]; rfl) (lenOf own_pd3 rfl) rfl own_d16_1 (by decide) (W := 0) (by exact Nat.le_of_eq rfl) (by decide) (by decide) (by decide) (pc' := 4) rfl (fun T382 v382 X382 hQ382 => ?_)
  obtain ⟨rfl, e382⟩ := hQ382
  rw [e382] at X382
  show Gl p e below n0 _ _ (T382.setTop (mkF m 4 #[.val (.ref y0), .val (.int (46 : Int32)), .val (.int (N - (1 : Int32)))] [(.int (1 : Int32))]))
  refine g_if_eq X382 hx hby own_d16_4 (by decide) (pc' := 19) (by decide) (pc2 := 7) rfl (fun q => absurd q (by decide)) (fun c4_383 => ?_)
  refine g_aloadN X382 hx hby own_d16_7 rfl rfl (pc' := 8) rfl ?_
  refine g_getF X382 hx hby hZ hown (hw _ (List.mem_of_getElem? (i := 25) rfl)) Via.refl LV0 own_d16_8 (pc' := 11) rfl (fun T384 X384 => ?_)
  refine g_iloadN X384 hx hby own_d16_11 rfl (pc' := 12) rfl ?_
  refine g_iloadN X384 hx hby own_d16_12 rfl (pc' := 13) rfl ?_
  refine g_callS (argsL := [(.ref v0), (.int (46 : Int32)), (.int (N - (1 : Int32)))]) (S := []) X384 hx hby hZ (y := (⟨"java/lang/StringLatin1", "lastIndexOf", "([BII)I"⟩ : MethodName)) hown (hw _ (List.mem_of_getElem? (i := 57) rfl)) (hw _ (List.mem_of_getElem? (i := 58) rfl)) (hw _ (List.mem_of_getElem? (i := 59) rfl)) (hw _ (List.mem_of_getElem? (i := 60) rfl)) (by decide) (own_l3 l Z a0 hw v0 h0 n0 n N f hN LA0 K hK hat hno) (by rw [hml]; rfl) (lenOf own_pd11 rfl) rfl own_d16_13 (by decide) (W := 0) (by exact Nat.le_of_eq rfl) (by decide) (by decide) (by decide) (pc' := 16) rfl (fun T385 v385 X385 hQ385 => ?_)
  obtain ⟨rfl, e385⟩ := hQ385
  rw [e385] at X385
  show Gl p e below n0 _ _ (T385.setTop (mkF m 16 #[.val (.ref y0), .val (.int (46 : Int32)), .val (.int (N - (1 : Int32)))] [(.int K)]))
  refine g_goto X385 hx hby own_d16_16 (by decide) (pc' := 28) (by decide) ?_
  exact g_retI X385 hx hby hret hlk own_d16_28 ⟨rfl, rfl⟩ (by decide) (by decide)
set_option maxRecDepth 65536 in
set_option maxHeartbeats 40000000 in
theorem own_ef386 (m : MethodId) (y0 : Addr) (y1 : Int32)  : entryFrame m #[(.ref y0), (.int y1)] 2 = mkF m 0 #[.val (.ref y0), .val (.int y1)] [] := by first | (simp [entryFrame, mkF, argsToLocals, Value.category, maxLocals]; done) | rfl
theorem own_d17_0 : decode jdk_42_method_82_code 0 = .ok (.aload_n 0, 1) := by decide +kernel
theorem own_d17_1 : decode jdk_42_method_82_code 1 = .ok (.iload_n 1, 1) := by decide +kernel
theorem own_d17_2 : decode jdk_42_method_82_code 2 = .ok (.aload_n 0, 1) := by decide +kernel
theorem own_d17_3 : decode jdk_42_method_82_code 3 = .ok (.invokevirtual 505, 3) := by decide +kernel
theorem own_pd12 : parseMethodDescriptor "()I" = some ⟨[], (some .int)⟩ := by decide +kernel
theorem own_d17_6 : decode jdk_42_method_82_code 6 = .ok (.iconst 1, 1) := by decide +kernel
theorem own_d17_7 : decode jdk_42_method_82_code 7 = .ok (.isub, 1) := by decide +kernel
theorem own_d17_8 : decode jdk_42_method_82_code 8 = .ok (.invokevirtual 641, 3) := by decide +kernel
theorem own_d17_11 : decode jdk_42_method_82_code 11 = .ok (.ireturn, 1) := by decide +kernel
set_option maxRecDepth 65536 in
set_option maxHeartbeats 40000000 in
theorem own_l1 (l : Launch) (Z : State) (a0 : Array Value) (hw : ∀ d ∈ tables_1, d.before a0 Z = true) (y0 : Addr) (h0 : Heap) (n0 : Nat) (n : Nat) (N : Int32) (f : Nat → Int32) (hN : N.toInt = (n : Int)) (P0 : Lat Z h0 y0 n f) (cs : Int32) (Sc : Sta Z h0 "java/lang/String" "COMPACT_STRINGS" "Z" (.int cs)) (hcs : ¬ cs = 0) (K : Int32) (hK : -1 ≤ K.toInt ∧ K.toInt < (n : Int)) (hat : 0 ≤ K.toInt → f K.toInt.toNat = 46) (hno : ∀ j : Nat, K.toInt < (j : Int) → j < n → ¬ f j = 46) :
    Ctr l Z (⟨"java/lang/String", "lastIndexOf", "(I)I"⟩ : MethodName) jdk_42_method_82_code 2 (some .int) [] (own_room 3 0 0 42) #[(.ref y0), (.int (46 : Int32))] h0 n0 0 0 (fun v h => v = some (.int K) ∧ h = h0) := by
  refine Ctr.of (plainFor_of_name own_pn0) ?_
  intro p e s m below meth c T0 hx hby hml hret hlk hnm hown hZ X0
  rw [own_ef386 m (y0) ((46 : Int32))]
  obtain ⟨v0, LE0, LV0, LC0, LA0⟩ := P0
  refine g_aloadN X0 hx hby own_d17_0 rfl rfl (pc' := 1) rfl ?_
  refine g_iloadN X0 hx hby own_d17_1 rfl (pc' := 2) rfl ?_
  refine g_aloadN X0 hx hby own_d17_2 rfl rfl (pc' := 3) rfl ?_
  refine g_callV (argsL := []) (S := [(.int (46 : Int32)), (.ref y0)]) (a := y0) X0 hx hby hZ (y := (⟨"java/lang/String", "length", "()I"⟩ : MethodName)) (y' := (⟨"java/lang/String", "length", "()I"⟩ : MethodName)) hown (hw _ (List.mem_of_getElem? (i := 36) rfl)) (hw _ (List.mem_of_getElem? (i := 37) rfl)) (notFace_of_selects (args := #[]) (mvT hZ (hw _ (List.mem_of_getElem? (i := 39) rfl)))) (hw _ (List.mem_of_getElem? (i := 39) rfl)) (hw _ (List.mem_of_getElem? (i := 38) rfl)) (hw _ (List.mem_of_getElem? (i := 8) rfl)) (hw _ (List.mem_of_getElem? (i := 40) rfl)) (by decide) LE0 (own_ln l Z a0 hw y0 h0 n0 n N f hN ⟨v0, LE0, LV0, LC0, LA0⟩ cs Sc hcs ) (by rw [hml]; rfl) (lenOf own_pd12 rfl) rfl own_d17_3 (by decide) (W := 2) (by exact Nat.le_of_eq rfl) (by decide) (by decide) (by decide) (pc' := 6) rfl (fun T387 v387 X387 hQ387 => ?_)
  obtain ⟨rfl, e387⟩ := hQ387
  rw [e387] at X387
  show Gl p e below n0 _ _ (T387.setTop (mkF m 6 #[.val (.ref y0), .val (.int (46 : Int32))] [(.int N), (.int (46 : Int32)), (.ref y0)]))
  refine g_iconst (v := 1) X387 hx hby own_d17_6 rfl (pc' := 7) rfl ?_
  refine g_isub X387 hx hby own_d17_7 (pc' := 8) rfl ?_
  refine g_callV (argsL := [(.int (46 : Int32)), (.int (N - (1 : Int32)))]) (S := []) (a := y0) X387 hx hby hZ (y := (⟨"java/lang/String", "lastIndexOf", "(II)I"⟩ : MethodName)) (y' := (⟨"java/lang/String", "lastIndexOf", "(II)I"⟩ : MethodName)) hown (hw _ (List.mem_of_getElem? (i := 47) rfl)) (hw _ (List.mem_of_getElem? (i := 48) rfl)) (notFace_of_selects (args := #[]) (mvT hZ (hw _ (List.mem_of_getElem? (i := 50) rfl)))) (hw _ (List.mem_of_getElem? (i := 50) rfl)) (hw _ (List.mem_of_getElem? (i := 49) rfl)) (hw _ (List.mem_of_getElem? (i := 8) rfl)) (hw _ (List.mem_of_getElem? (i := 51) rfl)) (by decide) LE0 (own_l2 l Z a0 hw y0 h0 n0 n N f hN ⟨v0, LE0, LV0, LC0, LA0⟩ cs Sc hcs K hK hat hno) (by rw [hml]; rfl) (lenOf own_pd10 rfl) rfl own_d17_8 (by decide) (W := 0) (by exact Nat.le_of_eq rfl) (by decide) (by decide) (by decide) (pc' := 11) rfl (fun T388 v388 X388 hQ388 => ?_)
  obtain ⟨rfl, e388⟩ := hQ388
  rw [e388] at X388
  show Gl p e below n0 _ _ (T388.setTop (mkF m 11 #[.val (.ref y0), .val (.int (46 : Int32))] [(.int K)]))
  exact g_retI X388 hx hby hret hlk own_d17_11 ⟨rfl, rfl⟩ (by decide) (by decide)
set_option maxRecDepth 65536 in
set_option maxHeartbeats 40000000 in
theorem own_ef389 (m : MethodId) (y0 : Int32) (y1 : Int32) (y2 : Int32) (y3 : Value) (hy3 : y3.category = 1) : entryFrame m #[(.int y0), (.int y1), (.int y2), y3] 4 = mkF m 0 #[.val (.int y0), .val (.int y1), .val (.int y2), .val y3] [] := by
  cases y3 <;> first | (simp [Value.category] at hy3; done) | (simp [entryFrame, mkF, argsToLocals, Value.category, maxLocals]; done) | rfl
theorem own_d18_0 : decode jdk_41_method_12_code 0 = .ok (.iload_n 0, 1) := by decide +kernel
theorem own_d18_1 : decode jdk_41_method_12_code 1 = .ok (.ifCond .lt 13, 3) := by decide +kernel
theorem own_d18_4 : decode jdk_41_method_12_code 4 = .ok (.iload_n 0, 1) := by decide +kernel
theorem own_d18_5 : decode jdk_41_method_12_code 5 = .ok (.iload_n 1, 1) := by decide +kernel
theorem own_d18_6 : decode jdk_41_method_12_code 6 = .ok (.if_icmp .gt 8, 3) := by decide +kernel
theorem own_d18_9 : decode jdk_41_method_12_code 9 = .ok (.iload_n 1, 1) := by decide +kernel
theorem own_d18_10 : decode jdk_41_method_12_code 10 = .ok (.iload_n 2, 1) := by decide +kernel
theorem own_d18_11 : decode jdk_41_method_12_code 11 = .ok (.if_icmp .le 11, 3) := by decide +kernel
theorem own_d18_22 : decode jdk_41_method_12_code 22 = .ok (.iload_n 0, 1) := by decide +kernel
theorem own_d18_23 : decode jdk_41_method_12_code 23 = .ok (.ireturn, 1) := by decide +kernel
set_option maxRecDepth 65536 in
set_option maxHeartbeats 40000000 in
theorem own_cft (l : Launch) (Z : State) (a0 : Array Value) (hw : ∀ d ∈ tables_1, d.before a0 Z = true) (y0 y1 y2 : Int32) (y3 : Value) (h0 : Heap) (n0 : Nat) (hy3 : y3.category = 1) (h1 : ¬ y0 < 0) (h2 : ¬ y1 < y0) (h3 : ¬ y2 < y1) :
    Ctr l Z (⟨"jdk/internal/util/Preconditions", "checkFromToIndex", "(IIILjava/util/function/BiFunction;)I"⟩ : MethodName) jdk_41_method_12_code 4 (some .int) [] (own_room 0 0 0 0) #[(.int y0), (.int y1), (.int y2), y3] h0 n0 0 0 (fun v h => v = some (.int y0) ∧ h = h0) := by
  refine Ctr.of (plainFor_of_name own_pn1) ?_
  intro p e s m below meth c T0 hx hby hml hret hlk hnm hown hZ X0
  rw [own_ef389 m (y0) (y1) (y2) (y3) (by assumption)]
  refine g_iloadN X0 hx hby own_d18_0 rfl (pc' := 1) rfl ?_
  refine g_if_lt X0 hx hby own_d18_1 (by decide) (pc' := 14) (by decide) (pc2 := 4) rfl (fun q => absurd q h1) (fun c1_390 => ?_)
  refine g_iloadN X0 hx hby own_d18_4 rfl (pc' := 5) rfl ?_
  refine g_iloadN X0 hx hby own_d18_5 rfl (pc' := 6) rfl ?_
  refine g_icmp_gt X0 hx hby own_d18_6 (by decide) (pc' := 14) (by decide) (pc2 := 9) rfl (fun q => absurd q h2) (fun c6_391 => ?_)
  refine g_iloadN X0 hx hby own_d18_9 rfl (pc' := 10) rfl ?_
  refine g_iloadN X0 hx hby own_d18_10 rfl (pc' := 11) rfl ?_
  refine g_icmp_le X0 hx hby own_d18_11 (by decide) (pc' := 22) (by decide) (pc2 := 14) rfl (fun c11_392 => ?_) (fun q => absurd q h3)
  refine g_iloadN X0 hx hby own_d18_22 rfl (pc' := 23) rfl ?_
  exact g_retI X0 hx hby hret hlk own_d18_23 ⟨rfl, rfl⟩ (by decide) (by decide)
set_option maxRecDepth 65536 in
set_option maxHeartbeats 40000000 in
theorem own_ef393 (m : MethodId) (y0 : Int32) (y1 : Int32) (y2 : Int32)  : entryFrame m #[(.int y0), (.int y1), (.int y2)] 3 = mkF m 0 #[.val (.int y0), .val (.int y1), .val (.int y2)] [] := by first | (simp [entryFrame, mkF, argsToLocals, Value.category, maxLocals]; done) | rfl
theorem own_d19_0 : decode jdk_42_method_158_code 0 = .ok (.iload_n 0, 1) := by decide +kernel
theorem own_d19_1 : decode jdk_42_method_158_code 1 = .ok (.iload_n 1, 1) := by decide +kernel
theorem own_d19_2 : decode jdk_42_method_158_code 2 = .ok (.iload_n 2, 1) := by decide +kernel
theorem own_d19_3 : decode jdk_42_method_158_code 3 = .ok (.getstatic 1053, 3) := by decide +kernel
theorem own_d19_6 : decode jdk_42_method_158_code 6 = .ok (.invokestatic 1062, 3) := by decide +kernel
theorem own_pd13 : parseMethodDescriptor "(IIILjava/util/function/BiFunction;)I" = some ⟨[.int, .int, .int, (.object "java/util/function/BiFunction")], (some .int)⟩ := by decide +kernel
theorem own_d19_9 : decode jdk_42_method_158_code 9 = .ok (.pop, 1) := by decide +kernel
theorem own_d19_10 : decode jdk_42_method_158_code 10 = .ok (.return_, 1) := by decide +kernel
set_option maxRecDepth 65536 in
set_option maxHeartbeats 40000000 in
theorem own_cb (l : Launch) (Z : State) (a0 : Array Value) (hw : ∀ d ∈ tables_1, d.before a0 Z = true) (y0 y1 y2 : Int32) (h0 : Heap) (n0 : Nat) (fm : Value) (Sf : Sta Z h0 "jdk/internal/util/Preconditions" "SIOOBE_FORMATTER" "Ljava/util/function/BiFunction;" fm) (hfm : fm.isRef = true) (h1 : ¬ y0 < 0) (h2 : ¬ y1 < y0) (h3 : ¬ y2 < y1) :
    Ctr l Z (⟨"java/lang/String", "checkBoundsBeginEnd", "(III)V"⟩ : MethodName) jdk_42_method_158_code 3 none [] (own_room 1 0 0 15) #[(.int y0), (.int y1), (.int y2)] h0 n0 0 0 (fun v h => v = none ∧ h = h0) := by
  refine Ctr.of (plainFor_of_name own_pn0) ?_
  intro p e s m below meth c T0 hx hby hml hret hlk hnm hown hZ X0
  rw [own_ef393 m (y0) (y1) (y2)]
  refine g_iloadN X0 hx hby own_d19_0 rfl (pc' := 1) rfl ?_
  refine g_iloadN X0 hx hby own_d19_1 rfl (pc' := 2) rfl ?_
  refine g_iloadN X0 hx hby own_d19_2 rfl (pc' := 3) rfl ?_
  refine g_getS X0 hx hby hZ hown (hw _ (List.mem_of_getElem? (i := 81) rfl)) Via.refl Sf own_d19_3 (pc' := 6) rfl (fun T394 X394 => ?_)
  refine g_callS (argsL := [(.int y0), (.int y1), (.int y2), fm]) (S := []) X394 hx hby hZ (y := (⟨"jdk/internal/util/Preconditions", "checkFromToIndex", "(IIILjava/util/function/BiFunction;)I"⟩ : MethodName)) hown (hw _ (List.mem_of_getElem? (i := 83) rfl)) (hw _ (List.mem_of_getElem? (i := 84) rfl)) (hw _ (List.mem_of_getElem? (i := 82) rfl)) (hw _ (List.mem_of_getElem? (i := 85) rfl)) (by decide) (own_cft l Z a0 hw y0 y1 y2 fm h0 n0 (own_cat hfm) h1 h2 h3) (by rw [hml]; rfl) (lenOf own_pd13 rfl) rfl own_d19_6 (by decide) (W := 0) (by exact Nat.le_of_eq rfl) (by decide) (by decide) (by decide) (pc' := 9) rfl (fun T395 v395 X395 hQ395 => ?_)
  obtain ⟨rfl, e395⟩ := hQ395
  rw [e395] at X395
  show Gl p e below n0 _ _ (T395.setTop (mkF m 9 #[.val (.int y0), .val (.int y1), .val (.int y2)] [(.int y0)]))
  refine g_pop X395 hx hby own_d19_9 rfl (pc' := 10) rfl ?_
  exact g_ret X395 hx hby hret hlk own_d19_10 ⟨rfl, rfl⟩ (by decide) (by decide)
set_option maxRecDepth 65536 in
set_option maxHeartbeats 40000000 in
theorem own_ef396 (m : MethodId) (y0 : Int32) (y1 : Int32)  : entryFrame m #[(.int y0), (.int y1)] 2 = mkF m 0 #[.val (.int y0), .val (.int y1)] [] := by first | (simp [entryFrame, mkF, argsToLocals, Value.category, maxLocals]; done) | rfl
theorem own_pn4 : plainName "java/util/Arrays" = true := by first | (simp [plainName, overriddenIn]; done) | decide +kernel
theorem own_d20_0 : decode jdk_65_method_131_code 0 = .ok (.iload_n 1, 1) := by decide +kernel
theorem own_d20_1 : decode jdk_65_method_131_code 1 = .ok (.iload_n 0, 1) := by decide +kernel
theorem own_d20_2 : decode jdk_65_method_131_code 2 = .ok (.if_icmp .ge 35, 3) := by decide +kernel
theorem own_d20_37 : decode jdk_65_method_131_code 37 = .ok (.return_, 1) := by decide +kernel
set_option maxRecDepth 65536 in
set_option maxHeartbeats 40000000 in
theorem own_ckl (l : Launch) (Z : State) (a0 : Array Value) (hw : ∀ d ∈ tables_1, d.before a0 Z = true) (y0 y1 : Int32) (h0 : Heap) (n0 : Nat) (hm : ¬ y1 < y0) :
    Ctr l Z (⟨"java/util/Arrays", "checkLength", "(II)V"⟩ : MethodName) jdk_65_method_131_code 2 none [] (own_room 0 0 0 0) #[(.int y0), (.int y1)] h0 n0 0 0 (fun v h => v = none ∧ h = h0) := by
  refine Ctr.of (plainFor_of_name own_pn4) ?_
  intro p e s m below meth c T0 hx hby hml hret hlk hnm hown hZ X0
  rw [own_ef396 m (y0) (y1)]
  refine g_iloadN X0 hx hby own_d20_0 rfl (pc' := 1) rfl ?_
  refine g_iloadN X0 hx hby own_d20_1 rfl (pc' := 2) rfl ?_
  refine g_icmp_ge X0 hx hby own_d20_2 (by decide) (pc' := 37) (by decide) (pc2 := 5) rfl (fun c2_397 => ?_) (fun q => absurd q hm)
  exact g_ret X0 hx hby hret hlk own_d20_37 ⟨rfl, rfl⟩ (by decide) (by decide)
set_option maxRecDepth 65536 in
set_option maxHeartbeats 40000000 in
theorem own_ef398 (m : MethodId) (y0 : Addr) (y1 : Int32) (y2 : Int32)  : entryFrame m #[(.ref y0), (.int y1), (.int y2)] 5 = mkF m 0 #[.val (.ref y0), .val (.int y1), .val (.int y2), .unset, .unset] [] := by first | (simp [entryFrame, mkF, argsToLocals, Value.category, maxLocals]; done) | rfl
theorem own_d21_0 : decode jdk_65_method_133_code 0 = .ok (.iload_n 1, 1) := by decide +kernel
theorem own_d21_1 : decode jdk_65_method_133_code 1 = .ok (.iload_n 2, 1) := by decide +kernel
theorem own_d21_2 : decode jdk_65_method_133_code 2 = .ok (.invokestatic 343, 3) := by decide +kernel
theorem own_d21_5 : decode jdk_65_method_133_code 5 = .ok (.iload_n 2, 1) := by decide +kernel
theorem own_d21_6 : decode jdk_65_method_133_code 6 = .ok (.iload_n 1, 1) := by decide +kernel
theorem own_d21_7 : decode jdk_65_method_133_code 7 = .ok (.isub, 1) := by decide +kernel
theorem own_d21_8 : decode jdk_65_method_133_code 8 = .ok (.istore_n 3, 1) := by decide +kernel
theorem own_d21_9 : decode jdk_65_method_133_code 9 = .ok (.iload_n 3, 1) := by decide +kernel
theorem own_d21_10 : decode jdk_65_method_133_code 10 = .ok (.newarray .byte, 2) := by decide +kernel
theorem own_d21_12 : decode jdk_65_method_133_code 12 = .ok (.astore 4, 2) := by decide +kernel
theorem own_d21_14 : decode jdk_65_method_133_code 14 = .ok (.aload_n 0, 1) := by decide +kernel
theorem own_d21_15 : decode jdk_65_method_133_code 15 = .ok (.iload_n 1, 1) := by decide +kernel
theorem own_d21_16 : decode jdk_65_method_133_code 16 = .ok (.aload 4, 2) := by decide +kernel
theorem own_d21_18 : decode jdk_65_method_133_code 18 = .ok (.iconst 0, 1) := by decide +kernel
theorem own_d21_19 : decode jdk_65_method_133_code 19 = .ok (.aload_n 0, 1) := by decide +kernel
theorem own_d21_20 : decode jdk_65_method_133_code 20 = .ok (.arraylength, 1) := by decide +kernel
theorem own_d21_21 : decode jdk_65_method_133_code 21 = .ok (.iload_n 1, 1) := by decide +kernel
theorem own_d21_22 : decode jdk_65_method_133_code 22 = .ok (.isub, 1) := by decide +kernel
theorem own_d21_23 : decode jdk_65_method_133_code 23 = .ok (.iload_n 3, 1) := by decide +kernel
theorem own_d21_24 : decode jdk_65_method_133_code 24 = .ok (.invokestatic 304, 3) := by decide +kernel
theorem own_d21_27 : decode jdk_65_method_133_code 27 = .ok (.invokestatic 150, 3) := by decide +kernel
theorem own_d21_30 : decode jdk_65_method_133_code 30 = .ok (.aload 4, 2) := by decide +kernel
theorem own_d21_32 : decode jdk_65_method_133_code 32 = .ok (.areturn, 1) := by decide +kernel
set_option maxRecDepth 65536 in
set_option maxHeartbeats 40000000 in
theorem own_cy (l : Launch) (Z : State) (a0 : Array Value) (hw : ∀ d ∈ tables_1, d.before a0 Z = true) (y0 : Addr) (y1 : Int32) (h0 : Heap) (n0 : Nat) (n : Nat) (N : Int32) (f : Nat → Int32) (hN : N.toInt = (n : Int)) (LA0 : Ary Z h0 y0 .byte n (fun i => .int (f i))) (hN4 : n ≤ 4) (hfit : ∀ i, i < n → fits .byte (.int (f i)) = true) (iF : Nat) (hF : y1.toInt = (iF : Int)) (hF1 : 1 ≤ iF) (hFn : iF < n) (Z0 : n0 ≤ h0.size) :
    Ctr l Z (⟨"java/util/Arrays", "copyOfRangeByte", "([BII)[B"⟩ : MethodName) jdk_65_method_133_code 5 (some (.array .byte)) [] (own_room 1 1 4 40) #[(.ref y0), (.int y1), (.int N)] h0 n0 1 4 (fun v h => ∃ b, v = some (.ref b) ∧ Keep h0 h [] ∧ h0.size ≤ b ∧ n0 ≤ b ∧ Ary Z h b .byte (n - iF) (fun i => .int (f (iF + i)))) := by
  refine Ctr.of (plainFor_of_name own_pn4) ?_
  intro p e s m below meth c T0 hx hby hml hret hlk hnm hown hZ X0
  rw [own_ef398 m (y0) (y1) (N)]
  have e1 := own_subi (a := N) (b := y1) (by omega) (by omega)
  refine g_iloadN X0 hx hby own_d21_0 rfl (pc' := 1) rfl ?_
  refine g_iloadN X0 hx hby own_d21_1 rfl (pc' := 2) rfl ?_
  refine g_callS (argsL := [(.int y1), (.int N)]) (S := []) X0 hx hby hZ (y := (⟨"java/util/Arrays", "checkLength", "(II)V"⟩ : MethodName)) hown (hw _ (List.mem_of_getElem? (i := 108) rfl)) (hw _ (List.mem_of_getElem? (i := 109) rfl)) (hw _ (List.mem_of_getElem? (i := 103) rfl)) (hw _ (List.mem_of_getElem? (i := 110) rfl)) (by decide) (own_ckl l Z a0 hw y1 N h0 n0 (own_nlt (by omega))) (by rw [hml]; rfl) (lenOf own_pd2 rfl) rfl own_d21_2 (by decide) (W := 0) (by exact Nat.le_of_eq rfl) (by decide) (by decide) (by decide) (pc' := 5) rfl (fun T399 v399 X399 hQ399 => ?_)
  obtain ⟨rfl, e399⟩ := hQ399
  rw [e399] at X399
  show Gl p e below n0 _ _ (T399.setTop (mkF m 5 #[.val (.ref y0), .val (.int y1), .val (.int N), .unset, .unset] []))
  refine g_iloadN X399 hx hby own_d21_5 rfl (pc' := 6) rfl ?_
  refine g_iloadN X399 hx hby own_d21_6 rfl (pc' := 7) rfl ?_
  refine g_isub X399 hx hby own_d21_7 (pc' := 8) rfl ?_
  refine g_istoreN (L' := #[.val (.ref y0), .val (.int y1), .val (.int N), .val (.int (N - y1)), .unset]) X399 hx hby own_d21_8 rfl (pc' := 9) rfl ?_
  refine g_iloadN X399 hx hby own_d21_9 rfl (pc' := 10) rfl ?_
  refine g_newarray (k := (n - iF)) (cap := 4) X399 hx hby hZ (hw _ (List.mem_of_getElem? (i := 20) rfl)) own_d21_10 (by omega) (by omega) (by decide) (by decide) (by decide) (pc' := 12) rfl (fun T400 h400 b400 g400 X400 E400 A400 => ?_)
  have ne401 : y0 ≠ b400 := by rw [g400]; exact Nat.ne_of_lt LA0.lt
  have nn402 : n0 ≤ b400 := by rw [g400]; exact Z0
  have hh403 : h0.size ≤ b400 := by rw [g400]; exact (Keep.refl h0 []).1
  have q404 := LA0.ext E400
  have zz405 := Nat.le_trans Z0 E400.1
  have kk406 : Keep h0 h400 [] := (Keep.refl h0 []).ext E400
  refine g_astore (L' := #[.val (.ref y0), .val (.int y1), .val (.int N), .val (.int (N - y1)), .val (.ref b400)]) X400 hx hby own_d21_12 rfl rfl (pc' := 14) rfl ?_
  refine g_aloadN X400 hx hby own_d21_14 rfl rfl (pc' := 15) rfl ?_
  refine g_iloadN X400 hx hby own_d21_15 rfl (pc' := 16) rfl ?_
  refine g_aload X400 hx hby own_d21_16 rfl rfl (pc' := 18) rfl ?_
  refine g_iconst (v := 0) X400 hx hby own_d21_18 rfl (pc' := 19) rfl ?_
  refine g_aloadN X400 hx hby own_d21_19 rfl rfl (pc' := 20) rfl ?_
  refine g_arraylength (n := N) X400 hx hby hZ q404 hN own_d21_20 (pc' := 21) rfl ?_
  refine g_iloadN X400 hx hby own_d21_21 rfl (pc' := 22) rfl ?_
  refine g_isub X400 hx hby own_d21_22 (pc' := 23) rfl ?_
  refine g_iloadN X400 hx hby own_d21_23 rfl (pc' := 24) rfl ?_
  refine g_callS (argsL := [(.int (N - y1)), (.int (N - y1))]) (S := [(.int (0 : Int32)), (.ref b400), (.int y1), (.ref y0)]) X400 hx hby hZ (y := (⟨"java/lang/Math", "min", "(II)I"⟩ : MethodName)) hown (hw _ (List.mem_of_getElem? (i := 111) rfl)) (hw _ (List.mem_of_getElem? (i := 65) rfl)) (hw _ (List.mem_of_getElem? (i := 66) rfl)) (hw _ (List.mem_of_getElem? (i := 67) rfl)) (by decide) (own_min l Z a0 hw (N - y1) (N - y1) h400 n0 (own_nlt (Int.le_refl _))) (by rw [hml]; rfl) (lenOf own_pd10 rfl) rfl own_d21_24 (by decide) (W := 4) (by exact Nat.le_of_eq rfl) (by decide) (by decide) (by decide) (pc' := 27) rfl (fun T407 v407 X407 hQ407 => ?_)
  obtain ⟨rfl, e407⟩ := hQ407
  rw [e407] at X407
  show Gl p e below n0 _ _ (T407.setTop (mkF m 27 #[.val (.ref y0), .val (.int y1), .val (.int N), .val (.int (N - y1)), .val (.ref b400)] [(.int (N - y1)), (.int (0 : Int32)), (.ref b400), (.int y1), (.ref y0)]))
  refine own_acopy X407 hx hby hZ hown (hw _ (List.mem_of_getElem? (i := 112) rfl)) (hw _ (List.mem_of_getElem? (i := 115) rfl)) (hw _ (List.mem_of_getElem? (i := 113) rfl)) (hw _ (List.mem_of_getElem? (i := 114) rfl)) (za := N) (zb := N - y1) (isp := iF) (idp := 0) (inn := n - iF) hN (by omega) q404 A400 hfit (fun i _ => rfl) hF rfl (by omega) (by omega) (by omega) nn402 (by rw [hml]; rfl) own_d21_27 (by decide) (W := 0) (by exact Nat.le_of_eq rfl) (by decide) (pc' := 30) rfl (fun T408 h408 X408 K408 A408 => ?_)
  have q409 := q404.keep K408 (ninS ne401 nin0)
  have zz410 := Nat.le_trans zz405 K408.1
  have kk411 : Keep h0 h408 [] := kk406.trans K408 (allS (Or.inr hh403) all0)
  refine g_aload X408 hx hby own_d21_30 rfl rfl (pc' := 32) rfl ?_
  exact g_retA X408 hx hby hret hlk rfl rfl own_d21_32 ⟨b400, rfl, kk411, hh403, nn402, A408.congr fun i hi => by simp only [own_cp, Nat.zero_le, true_and, Nat.zero_add, Nat.sub_zero, if_pos hi]⟩ (by decide) (by decide)
set_option maxRecDepth 65536 in
set_option maxHeartbeats 40000000 in
theorem own_ef412 (m : MethodId) (y0 : Addr) (y1 : Int32) (y2 : Int32)  : entryFrame m #[(.ref y0), (.int y1), (.int y2)] 3 = mkF m 0 #[.val (.ref y0), .val (.int y1), .val (.int y2)] [] := by first | (simp [entryFrame, mkF, argsToLocals, Value.category, maxLocals]; done) | rfl
theorem own_d22_0 : decode jdk_65_method_132_code 0 = .ok (.iload_n 1, 1) := by decide +kernel
theorem own_d22_1 : decode jdk_65_method_132_code 1 = .ok (.ifCond .ne 9, 3) := by decide +kernel
theorem own_d22_10 : decode jdk_65_method_132_code 10 = .ok (.aload_n 0, 1) := by decide +kernel
theorem own_d22_11 : decode jdk_65_method_132_code 11 = .ok (.iload_n 1, 1) := by decide +kernel
theorem own_d22_12 : decode jdk_65_method_132_code 12 = .ok (.iload_n 2, 1) := by decide +kernel
theorem own_d22_13 : decode jdk_65_method_132_code 13 = .ok (.invokestatic 339, 3) := by decide +kernel
theorem own_pd14 : parseMethodDescriptor "([BII)[B" = some ⟨[(.array .byte), .int, .int], (some (.array .byte))⟩ := by decide +kernel
theorem own_d22_16 : decode jdk_65_method_132_code 16 = .ok (.areturn, 1) := by decide +kernel
set_option maxRecDepth 65536 in
set_option maxHeartbeats 40000000 in
theorem own_cr (l : Launch) (Z : State) (a0 : Array Value) (hw : ∀ d ∈ tables_1, d.before a0 Z = true) (y0 : Addr) (y1 : Int32) (h0 : Heap) (n0 : Nat) (n : Nat) (N : Int32) (f : Nat → Int32) (hN : N.toInt = (n : Int)) (LA0 : Ary Z h0 y0 .byte n (fun i => .int (f i))) (hN4 : n ≤ 4) (hfit : ∀ i, i < n → fits .byte (.int (f i)) = true) (iF : Nat) (hF : y1.toInt = (iF : Int)) (hF1 : 1 ≤ iF) (hFn : iF < n) (Z0 : n0 ≤ h0.size) :
    Ctr l Z (⟨"java/util/Arrays", "copyOfRange", "([BII)[B"⟩ : MethodName) jdk_65_method_132_code 3 (some (.array .byte)) [] (own_room 2 1 4 56) #[(.ref y0), (.int y1), (.int N)] h0 n0 1 4 (fun v h => ∃ b, v = some (.ref b) ∧ Keep h0 h [] ∧ h0.size ≤ b ∧ n0 ≤ b ∧ Ary Z h b .byte (n - iF) (fun i => .int (f (iF + i)))) := by
  refine Ctr.of (plainFor_of_name own_pn4) ?_
  intro p e s m below meth c T0 hx hby hml hret hlk hnm hown hZ X0
  rw [own_ef412 m (y0) (y1) (N)]
  refine g_iloadN X0 hx hby own_d22_0 rfl (pc' := 1) rfl ?_
  refine g_if_ne X0 hx hby own_d22_1 (by decide) (pc' := 10) (by decide) (pc2 := 4) rfl (fun c1_413 => ?_) (fun q => absurd q (own_ne0 (by omega)))
  refine g_aloadN X0 hx hby own_d22_10 rfl rfl (pc' := 11) rfl ?_
  refine g_iloadN X0 hx hby own_d22_11 rfl (pc' := 12) rfl ?_
  refine g_iloadN X0 hx hby own_d22_12 rfl (pc' := 13) rfl ?_
  refine g_callS (argsL := [(.ref y0), (.int y1), (.int N)]) (S := []) X0 hx hby hZ (y := (⟨"java/util/Arrays", "copyOfRangeByte", "([BII)[B"⟩ : MethodName)) hown (hw _ (List.mem_of_getElem? (i := 105) rfl)) (hw _ (List.mem_of_getElem? (i := 106) rfl)) (hw _ (List.mem_of_getElem? (i := 103) rfl)) (hw _ (List.mem_of_getElem? (i := 107) rfl)) (by decide) (own_cy l Z a0 hw y0 y1 h0 n0 n N f hN LA0 hN4 hfit iF hF hF1 hFn Z0) (by rw [hml]; rfl) (lenOf own_pd14 rfl) rfl own_d22_13 (by decide) (W := 0) (by exact Nat.le_of_eq rfl) (by decide) (by decide) (by decide) (pc' := 16) rfl (fun T414 v414 X414 hQ414 => ?_)
  obtain ⟨b414, rfl, ka414, hb414, nb414, aa414⟩ := hQ414
  have ne414_y0 : y0 ≠ b414 := Nat.ne_of_lt (Nat.lt_of_lt_of_le LA0.lt hb414)
  have q415 := LA0.keep ka414 nin0
  have zz416 := Nat.le_trans Z0 ka414.1
  have kk417 : Keep h0 T414.heap [] := (Keep.refl h0 []).trans ka414 all0
  show Gl p e below n0 _ _ (T414.setTop (mkF m 16 #[.val (.ref y0), .val (.int y1), .val (.int N)] [(.ref b414)]))
  exact g_retA X414 hx hby hret hlk rfl rfl own_d22_16 ⟨b414, rfl, kk417, (Nat.le_trans (Keep.refl h0 []).1 hb414), nb414, aa414⟩ (by decide) (by decide)
set_option maxRecDepth 65536 in
set_option maxHeartbeats 40000000 in
theorem own_ef418 (m : MethodId) (y0 : Addr) (y1 : Int32) (y2 : Int32)  : entryFrame m #[(.ref y0), (.int y1), (.int y2)] 3 = mkF m 0 #[.val (.ref y0), .val (.int y1), .val (.int y2)] [] := by first | (simp [entryFrame, mkF, argsToLocals, Value.category, maxLocals]; done) | rfl
theorem own_d23_0 : decode jdk_43_method_47_code 0 = .ok (.iload_n 2, 1) := by decide +kernel
theorem own_d23_1 : decode jdk_43_method_47_code 1 = .ok (.ifCond .ne 6, 3) := by decide +kernel
theorem own_d23_7 : decode jdk_43_method_47_code 7 = .ok (.new 1, 3) := by decide +kernel
theorem own_d23_10 : decode jdk_43_method_47_code 10 = .ok (.dup, 1) := by decide +kernel
theorem own_d23_11 : decode jdk_43_method_47_code 11 = .ok (.aload_n 0, 1) := by decide +kernel
theorem own_d23_12 : decode jdk_43_method_47_code 12 = .ok (.iload_n 1, 1) := by decide +kernel
theorem own_d23_13 : decode jdk_43_method_47_code 13 = .ok (.iload_n 1, 1) := by decide +kernel
theorem own_d23_14 : decode jdk_43_method_47_code 14 = .ok (.iload_n 2, 1) := by decide +kernel
theorem own_d23_15 : decode jdk_43_method_47_code 15 = .ok (.iadd, 1) := by decide +kernel
theorem own_d23_16 : decode jdk_43_method_47_code 16 = .ok (.invokestatic 232, 3) := by decide +kernel
theorem own_d23_19 : decode jdk_43_method_47_code 19 = .ok (.iconst 0, 1) := by decide +kernel
theorem own_d23_20 : decode jdk_43_method_47_code 20 = .ok (.invokespecial 112, 3) := by decide +kernel
theorem own_pd15 : parseMethodDescriptor "([BB)V" = some ⟨[(.array .byte), .byte], none⟩ := by decide +kernel
theorem own_d23_23 : decode jdk_43_method_47_code 23 = .ok (.areturn, 1) := by decide +kernel
set_option maxRecDepth 65536 in
set_option maxHeartbeats 40000000 in
theorem own_ns (l : Launch) (Z : State) (a0 : Array Value) (hw : ∀ d ∈ tables_1, d.before a0 Z = true) (y0 : Addr) (y1 : Int32) (h0 : Heap) (n0 : Nat) (n : Nat) (N : Int32) (f : Nat → Int32) (hN : N.toInt = (n : Int)) (LA0 : Ary Z h0 y0 .byte n (fun i => .int (f i))) (hN4 : n ≤ 4) (hfit : ∀ i, i < n → fits .byte (.int (f i)) = true) (iF : Nat) (hF : y1.toInt = (iF : Int)) (hF1 : 1 ≤ iF) (hFn : iF < n) (Z0 : n0 ≤ h0.size) :
    Ctr l Z (⟨"java/lang/StringLatin1", "newString", "([BII)Ljava/lang/String;"⟩ : MethodName) jdk_43_method_47_code 3 (some (.object "java/lang/String")) [] (own_room 3 2 8 72) #[(.ref y0), (.int y1), (.int (N - y1))] h0 n0 2 8 (fun v h => ∃ b, v = some (.ref b) ∧ Keep h0 h [] ∧ Lat Z h b (n - iF) (fun i => f (iF + i))) := by
  refine Ctr.of (plainFor_of_name own_pn2) ?_
  intro p e s m below meth c T0 hx hby hml hret hlk hnm hown hZ X0
  rw [own_ef418 m (y0) (y1) ((N - y1))]
  refine g_iloadN X0 hx hby own_d23_0 rfl (pc' := 1) rfl ?_
  refine g_if_ne X0 hx hby own_d23_1 (by decide) (pc' := 7) (by decide) (pc2 := 4) rfl (fun c1_419 => ?_) (fun q => absurd q (own_ne0 (by rw [own_subi (by omega) (by omega)]; omega)))
  refine g_new X0 hx hby hZ hown (hw _ (List.mem_of_getElem? (i := 100) rfl)) (hw _ (List.mem_of_getElem? (i := 7) rfl)) (hw _ (List.mem_of_getElem? (i := 8) rfl)) own_d23_7 (by decide) (by decide) (pc' := 10) rfl (fun T420 h420 b420 g420 X420 E420 A420 D420 => ?_)
  have ne421 : y0 ≠ b420 := by rw [g420]; exact Nat.ne_of_lt LA0.lt
  have nn422 : n0 ≤ b420 := by rw [g420]; exact Z0
  have hh423 : h0.size ≤ b420 := by rw [g420]; exact (Keep.refl h0 []).1
  have q424 := LA0.ext E420
  have zz425 := Nat.le_trans Z0 E420.1
  have kk426 : Keep h0 h420 [] := (Keep.refl h0 []).ext E420
  have q427 : Fld Z h420 b420 "java/lang/String" "value" "[B" .null := D420 (Or.inr (hw _ (List.mem_of_getElem? (i := 21) rfl))) (ty := (.array .byte)) (by decide)
  have q428 : Fld Z h420 b420 "java/lang/String" "coder" "B" (.int (0 : Int32)) := D420 (Or.inr (hw _ (List.mem_of_getElem? (i := 22) rfl))) (ty := .byte) (by decide)
  refine g_dup X420 hx hby own_d23_10 rfl (pc' := 11) rfl ?_
  refine g_aloadN X420 hx hby own_d23_11 rfl rfl (pc' := 12) rfl ?_
  refine g_iloadN X420 hx hby own_d23_12 rfl (pc' := 13) rfl ?_
  refine g_iloadN X420 hx hby own_d23_13 rfl (pc' := 14) rfl ?_
  refine g_iloadN X420 hx hby own_d23_14 rfl (pc' := 15) rfl ?_
  refine g_iadd X420 hx hby own_d23_15 (pc' := 16) rfl ?_
  rw [own_addsub (a := N) (b := y1) (by omega) (by omega)]
  refine g_callS (argsL := [(.ref y0), (.int y1), (.int N)]) (S := [(.ref b420), (.ref b420)]) X420 hx hby hZ (y := (⟨"java/util/Arrays", "copyOfRange", "([BII)[B"⟩ : MethodName)) hown (hw _ (List.mem_of_getElem? (i := 101) rfl)) (hw _ (List.mem_of_getElem? (i := 102) rfl)) (hw _ (List.mem_of_getElem? (i := 103) rfl)) (hw _ (List.mem_of_getElem? (i := 104) rfl)) (by decide) (own_cr l Z a0 hw y0 y1 h420 n0 n N f hN q424 hN4 hfit iF hF hF1 hFn zz425) (by rw [hml]; rfl) (lenOf own_pd14 rfl) rfl own_d23_16 (by decide) (W := 2) (by exact Nat.le_of_eq rfl) (by decide) (by decide) (by decide) (pc' := 19) rfl (fun T429 v429 X429 hQ429 => ?_)
  obtain ⟨b429, rfl, ka429, hb429, nb429, aa429⟩ := hQ429
  have ne429_y0 : y0 ≠ b429 := Nat.ne_of_lt (Nat.lt_of_lt_of_le q424.lt hb429)
  have ne429_b420 : b420 ≠ b429 := Nat.ne_of_lt (Nat.lt_of_lt_of_le A420.lt hb429)
  have q430 := q424.keep ka429 nin0
  have q431 := A420.keep ka429
  have q432 := q427.keep ka429 nin0
  have q433 := q428.keep ka429 nin0
  have zz434 := Nat.le_trans zz425 ka429.1
  have kk435 : Keep h0 T429.heap [] := kk426.trans ka429 all0
  show Gl p e below n0 _ _ (T429.setTop (mkF m 19 #[.val (.ref y0), .val (.int y1), .val (.int (N - y1))] [(.ref b429), (.ref b420), (.ref b420)]))
  refine g_iconst (v := 0) X429 hx hby own_d23_19 rfl (pc' := 20) rfl ?_
  refine g_callC (argsL := [(.ref b429), (.int (0 : Int32))]) (S := [(.ref b420)]) (a := b420) X429 hx hby hZ (y := (⟨"java/lang/String", "<init>", "([BB)V"⟩ : MethodName)) rfl hown (hw _ (List.mem_of_getElem? (i := 116) rfl)) (hw _ (List.mem_of_getElem? (i := 117) rfl)) (hw _ (List.mem_of_getElem? (i := 8) rfl)) (hw _ (List.mem_of_getElem? (i := 118) rfl)) (by decide) (own_si l Z a0 hw b420 b429 T429.heap n0 zz434 q431 q432 q433 nn422) (by rw [hml]; rfl) (lenOf own_pd15 rfl) rfl own_d23_20 (by decide) (W := 1) (by exact Nat.le_of_eq rfl) (by decide) (by decide) (by decide) (pc' := 23) rfl (fun T436 v436 X436 hQ436 => ?_)
  obtain ⟨rfl, ka436, fa436, fb436⟩ := hQ436
  have q437 := q430.keep ka436 (ninS ne421 nin0)
  have q438 := q431.keep ka436
  have q439 := aa429.keep ka436 (ninS (Ne.symm ne429_b420) nin0)
  have zz440 := Nat.le_trans zz434 ka436.1
  have kk441 : Keep h0 T436.heap [] := kk435.trans ka436 (allS (Or.inr hh423) all0)
  show Gl p e below n0 _ _ (T436.setTop (mkF m 23 #[.val (.ref y0), .val (.int y1), .val (.int (N - y1))] [(.ref b420)]))
  exact g_retA X436 hx hby hret hlk rfl rfl own_d23_23 ⟨b420, rfl, kk441, ⟨b429, q438, fa436, fb436, q439⟩⟩ (by decide) (by decide)
set_option maxRecDepth 65536 in
set_option maxHeartbeats 40000000 in
theorem own_ef442 (m : MethodId) (y0 : Addr) (y1 : Int32) (y2 : Int32)  : entryFrame m #[(.ref y0), (.int y1), (.int y2)] 3 = mkF m 0 #[.val (.ref y0), .val (.int y1), .val (.int y2)] [] := by first | (simp [entryFrame, mkF, argsToLocals, Value.category, maxLocals]; done) | rfl
theorem own_d23_4 : decode jdk_43_method_47_code 4 = .ok (.ldc 151, 2) := by decide +kernel
theorem own_d23_6 : decode jdk_43_method_47_code 6 = .ok (.areturn, 1) := by decide +kernel
set_option maxRecDepth 65536 in
set_option maxHeartbeats 40000000 in
theorem own_ns0 (l : Launch) (Z : State) (a0 : Array Value) (hw : ∀ d ∈ tables_1, d.before a0 Z = true) (y0 : Addr) (y1 y2 : Int32) (h0 : Heap) (n0 : Nat) (Z0 : n0 ≤ h0.size) (hz : y2 = 0) :
    CtrH l Z own_EL [] (⟨"java/lang/StringLatin1", "newString", "([BII)Ljava/lang/String;"⟩ : MethodName) jdk_43_method_47_code 3 (some (.object "java/lang/String")) [] (own_room 0 2 4 0) #[(.ref y0), (.int y1), (.int y2)] h0 n0 2 4 (fun v h => ∃ b, v = some (.ref b) ∧ Keep h0 h [] ∧ Lat Z h b 0 (fun i => ([] : List Int32).getD i 0)) := by
  refine CtrH.of (plainFor_of_name own_pn2) ?_
  intro p e s m below meth c T0 hx hby hml hret hlk hnm hown hZ X0 hS hC0 hss
  rw [own_ef442 m (y0) (y1) (y2)]
  refine g_iloadN X0 hx hby own_d23_0 rfl (pc' := 1) rfl ?_
  refine g_if_ne X0 hx hby own_d23_1 (by decide) (pc' := 7) (by decide) (pc2 := 4) rfl (fun q => absurd hz q) (fun c1_443 => ?_)
  refine gh_ldc (n := 0) (vs := []) (kn := 0) (f := (fun i => ([] : List Int32).getD i 0)) X0 hx hby hZ hS (Nat.le_refl _) (own_hEL hw) hC0 hown (hw _ (List.mem_of_getElem? (i := 133) rfl)) (own_wS hw) (by simp [own_EL]) ⟨by decide, by decide⟩ rfl (by decide) (by decide) own_d23_4 (by decide) (by decide) (by decide) (by decide) (pc' := 6) rfl (fun a444 b444 T444 h444 k444 X444 hS444 hk444 hZ444 hown444 hC444 hD444 E444 le444 lc444 lv444 la444 hL444 hne444 => ?_)
  have zz445 := Nat.le_trans Z0 E444.1
  have kk446 : Keep h0 h444 [] := (Keep.refl h0 []).ext E444
  exact gh_retA X444 hx hby hZ444 hS444 hk444 (own_hEL hw) hC444 hret hlk rfl rfl own_d23_6 ⟨a444, rfl, kk446, ⟨b444, le444, lv444, lc444, la444⟩⟩ (by decide) (by decide)
set_option maxRecDepth 65536 in
set_option maxHeartbeats 40000000 in
theorem own_ef447 (m : MethodId) (y0 : Addr) (y1 : Int32) (y2 : Int32)  : entryFrame m #[(.ref y0), (.int y1), (.int y2)] 5 = mkF m 0 #[.val (.ref y0), .val (.int y1), .val (.int y2), .unset, .unset] [] := by first | (simp [entryFrame, mkF, argsToLocals, Value.category, maxLocals]; done) | rfl
theorem own_d24_0 : decode jdk_42_method_92_code 0 = .ok (.aload_n 0, 1) := by decide +kernel
theorem own_d24_1 : decode jdk_42_method_92_code 1 = .ok (.invokevirtual 505, 3) := by decide +kernel
theorem own_d24_4 : decode jdk_42_method_92_code 4 = .ok (.istore_n 3, 1) := by decide +kernel
theorem own_d24_5 : decode jdk_42_method_92_code 5 = .ok (.iload_n 1, 1) := by decide +kernel
theorem own_d24_6 : decode jdk_42_method_92_code 6 = .ok (.iload_n 2, 1) := by decide +kernel
theorem own_d24_7 : decode jdk_42_method_92_code 7 = .ok (.iload_n 3, 1) := by decide +kernel
theorem own_d24_8 : decode jdk_42_method_92_code 8 = .ok (.invokestatic 521, 3) := by decide +kernel
theorem own_pd16 : parseMethodDescriptor "(III)V" = some ⟨[.int, .int, .int], none⟩ := by decide +kernel
theorem own_d24_11 : decode jdk_42_method_92_code 11 = .ok (.iload_n 1, 1) := by decide +kernel
theorem own_d24_12 : decode jdk_42_method_92_code 12 = .ok (.ifCond .ne 10, 3) := by decide +kernel
theorem own_d24_15 : decode jdk_42_method_92_code 15 = .ok (.iload_n 2, 1) := by decide +kernel
theorem own_d24_16 : decode jdk_42_method_92_code 16 = .ok (.iload_n 3, 1) := by decide +kernel
theorem own_d24_17 : decode jdk_42_method_92_code 17 = .ok (.if_icmp .ne 5, 3) := by decide +kernel
theorem own_d24_20 : decode jdk_42_method_92_code 20 = .ok (.aload_n 0, 1) := by decide +kernel
theorem own_d24_21 : decode jdk_42_method_92_code 21 = .ok (.areturn, 1) := by decide +kernel
set_option maxRecDepth 65536 in
set_option maxHeartbeats 40000000 in
theorem own_s2A (l : Launch) (Z : State) (a0 : Array Value) (hw : ∀ d ∈ tables_1, d.before a0 Z = true) (y0 : Addr) (y1 : Int32) (h0 : Heap) (n0 : Nat) (n : Nat) (N : Int32) (f : Nat → Int32) (hN : N.toInt = (n : Int)) (P0 : Lat Z h0 y0 n f) (cs : Int32) (Sc : Sta Z h0 "java/lang/String" "COMPACT_STRINGS" "Z" (.int cs)) (hcs : ¬ cs = 0) (fm : Value) (Sf : Sta Z h0 "jdk/internal/util/Preconditions" "SIOOBE_FORMATTER" "Ljava/util/function/BiFunction;" fm) (hfm : fm.isRef = true) (hB : y1 = 0) :
    Ctr l Z (⟨"java/lang/String", "substring", "(II)Ljava/lang/String;"⟩ : MethodName) jdk_42_method_92_code 5 (some (.object "java/lang/String")) [] (own_room 4 0 0 86) #[(.ref y0), (.int y1), (.int N)] h0 n0 0 0 (fun v h => v = some (.ref y0) ∧ h = h0) := by
  refine Ctr.of (plainFor_of_name own_pn0) ?_
  intro p e s m below meth c T0 hx hby hml hret hlk hnm hown hZ X0
  rw [own_ef447 m (y0) (y1) (N)]
  obtain ⟨v0, LE0, LV0, LC0, LA0⟩ := P0
  refine g_aloadN X0 hx hby own_d24_0 rfl rfl (pc' := 1) rfl ?_
  refine g_callV (argsL := []) (S := []) (a := y0) X0 hx hby hZ (y := (⟨"java/lang/String", "length", "()I"⟩ : MethodName)) (y' := (⟨"java/lang/String", "length", "()I"⟩ : MethodName)) hown (hw _ (List.mem_of_getElem? (i := 36) rfl)) (hw _ (List.mem_of_getElem? (i := 37) rfl)) (notFace_of_selects (args := #[]) (mvT hZ (hw _ (List.mem_of_getElem? (i := 39) rfl)))) (hw _ (List.mem_of_getElem? (i := 39) rfl)) (hw _ (List.mem_of_getElem? (i := 38) rfl)) (hw _ (List.mem_of_getElem? (i := 8) rfl)) (hw _ (List.mem_of_getElem? (i := 40) rfl)) (by decide) LE0 (own_ln l Z a0 hw y0 h0 n0 n N f hN ⟨v0, LE0, LV0, LC0, LA0⟩ cs Sc hcs ) (by rw [hml]; rfl) (lenOf own_pd12 rfl) rfl own_d24_1 (by decide) (W := 0) (by exact Nat.le_of_eq rfl) (by decide) (by decide) (by decide) (pc' := 4) rfl (fun T448 v448 X448 hQ448 => ?_)
  obtain ⟨rfl, e448⟩ := hQ448
  rw [e448] at X448
  show Gl p e below n0 _ _ (T448.setTop (mkF m 4 #[.val (.ref y0), .val (.int y1), .val (.int N), .unset, .unset] [(.int N)]))
  refine g_istoreN (L' := #[.val (.ref y0), .val (.int y1), .val (.int N), .val (.int N), .unset]) X448 hx hby own_d24_4 rfl (pc' := 5) rfl ?_
  refine g_iloadN X448 hx hby own_d24_5 rfl (pc' := 6) rfl ?_
  refine g_iloadN X448 hx hby own_d24_6 rfl (pc' := 7) rfl ?_
  refine g_iloadN X448 hx hby own_d24_7 rfl (pc' := 8) rfl ?_
  refine g_callS (argsL := [(.int y1), (.int N), (.int N)]) (S := []) X448 hx hby hZ (y := (⟨"java/lang/String", "checkBoundsBeginEnd", "(III)V"⟩ : MethodName)) hown (hw _ (List.mem_of_getElem? (i := 78) rfl)) (hw _ (List.mem_of_getElem? (i := 79) rfl)) (hw _ (List.mem_of_getElem? (i := 8) rfl)) (hw _ (List.mem_of_getElem? (i := 80) rfl)) (by decide) (own_cb l Z a0 hw y1 N N h0 n0 fm Sf hfm (own_nlt (by rw [hB]; exact Int.le_refl _)) (own_nlt (by rw [hB]; show (0 : Int) ≤ _; omega)) (own_nlt (Int.le_refl _))) (by rw [hml]; rfl) (lenOf own_pd16 rfl) rfl own_d24_8 (by decide) (W := 0) (by exact Nat.le_of_eq rfl) (by decide) (by decide) (by decide) (pc' := 11) rfl (fun T449 v449 X449 hQ449 => ?_)
  obtain ⟨rfl, e449⟩ := hQ449
  rw [e449] at X449
  show Gl p e below n0 _ _ (T449.setTop (mkF m 11 #[.val (.ref y0), .val (.int y1), .val (.int N), .val (.int N), .unset] []))
  refine g_iloadN X449 hx hby own_d24_11 rfl (pc' := 12) rfl ?_
  refine g_if_ne X449 hx hby own_d24_12 (by decide) (pc' := 22) (by decide) (pc2 := 15) rfl (fun q => absurd hB q) (fun c12_450 => ?_)
  refine g_iloadN X449 hx hby own_d24_15 rfl (pc' := 16) rfl ?_
  refine g_iloadN X449 hx hby own_d24_16 rfl (pc' := 17) rfl ?_
  refine g_icmp_ne X449 hx hby own_d24_17 (by decide) (pc' := 22) (by decide) (pc2 := 20) rfl (fun q => absurd rfl q) (fun c17_451 => ?_)
  refine g_aloadN X449 hx hby own_d24_20 rfl rfl (pc' := 21) rfl ?_
  exact g_retA X449 hx hby hret hlk rfl rfl own_d24_21 ⟨rfl, rfl⟩ (by decide) (by decide)
set_option maxRecDepth 65536 in
set_option maxHeartbeats 40000000 in
theorem own_ef452 (m : MethodId) (y0 : Addr) (y1 : Int32)  : entryFrame m #[(.ref y0), (.int y1)] 2 = mkF m 0 #[.val (.ref y0), .val (.int y1)] [] := by first | (simp [entryFrame, mkF, argsToLocals, Value.category, maxLocals]; done) | rfl
theorem own_d25_0 : decode jdk_42_method_91_code 0 = .ok (.aload_n 0, 1) := by decide +kernel
theorem own_d25_1 : decode jdk_42_method_91_code 1 = .ok (.iload_n 1, 1) := by decide +kernel
theorem own_d25_2 : decode jdk_42_method_91_code 2 = .ok (.aload_n 0, 1) := by decide +kernel
theorem own_d25_3 : decode jdk_42_method_91_code 3 = .ok (.invokevirtual 505, 3) := by decide +kernel
theorem own_d25_6 : decode jdk_42_method_91_code 6 = .ok (.invokevirtual 681, 3) := by decide +kernel
theorem own_pd17 : parseMethodDescriptor "(II)Ljava/lang/String;" = some ⟨[.int, .int], (some (.object "java/lang/String"))⟩ := by decide +kernel
theorem own_d25_9 : decode jdk_42_method_91_code 9 = .ok (.areturn, 1) := by decide +kernel
set_option maxRecDepth 65536 in
set_option maxHeartbeats 40000000 in
theorem own_s1A (l : Launch) (Z : State) (a0 : Array Value) (hw : ∀ d ∈ tables_1, d.before a0 Z = true) (y0 : Addr) (y1 : Int32) (h0 : Heap) (n0 : Nat) (n : Nat) (N : Int32) (f : Nat → Int32) (hN : N.toInt = (n : Int)) (P0 : Lat Z h0 y0 n f) (cs : Int32) (Sc : Sta Z h0 "java/lang/String" "COMPACT_STRINGS" "Z" (.int cs)) (hcs : ¬ cs = 0) (fm : Value) (Sf : Sta Z h0 "jdk/internal/util/Preconditions" "SIOOBE_FORMATTER" "Ljava/util/function/BiFunction;" fm) (hfm : fm.isRef = true) (hB : y1 = 0) :
    Ctr l Z (⟨"java/lang/String", "substring", "(I)Ljava/lang/String;"⟩ : MethodName) jdk_42_method_91_code 2 (some (.object "java/lang/String")) [] (own_room 5 0 0 102) #[(.ref y0), (.int y1)] h0 n0 0 0 (fun v h => v = some (.ref y0) ∧ h = h0) := by
  refine Ctr.of (plainFor_of_name own_pn0) ?_
  intro p e s m below meth c T0 hx hby hml hret hlk hnm hown hZ X0
  rw [own_ef452 m (y0) (y1)]
  obtain ⟨v0, LE0, LV0, LC0, LA0⟩ := P0
  refine g_aloadN X0 hx hby own_d25_0 rfl rfl (pc' := 1) rfl ?_
  refine g_iloadN X0 hx hby own_d25_1 rfl (pc' := 2) rfl ?_
  refine g_aloadN X0 hx hby own_d25_2 rfl rfl (pc' := 3) rfl ?_
  refine g_callV (argsL := []) (S := [(.int y1), (.ref y0)]) (a := y0) X0 hx hby hZ (y := (⟨"java/lang/String", "length", "()I"⟩ : MethodName)) (y' := (⟨"java/lang/String", "length", "()I"⟩ : MethodName)) hown (hw _ (List.mem_of_getElem? (i := 36) rfl)) (hw _ (List.mem_of_getElem? (i := 37) rfl)) (notFace_of_selects (args := #[]) (mvT hZ (hw _ (List.mem_of_getElem? (i := 39) rfl)))) (hw _ (List.mem_of_getElem? (i := 39) rfl)) (hw _ (List.mem_of_getElem? (i := 38) rfl)) (hw _ (List.mem_of_getElem? (i := 8) rfl)) (hw _ (List.mem_of_getElem? (i := 40) rfl)) (by decide) LE0 (own_ln l Z a0 hw y0 h0 n0 n N f hN ⟨v0, LE0, LV0, LC0, LA0⟩ cs Sc hcs ) (by rw [hml]; rfl) (lenOf own_pd12 rfl) rfl own_d25_3 (by decide) (W := 2) (by exact Nat.le_of_eq rfl) (by decide) (by decide) (by decide) (pc' := 6) rfl (fun T453 v453 X453 hQ453 => ?_)
  obtain ⟨rfl, e453⟩ := hQ453
  rw [e453] at X453
  show Gl p e below n0 _ _ (T453.setTop (mkF m 6 #[.val (.ref y0), .val (.int y1)] [(.int N), (.int y1), (.ref y0)]))
  refine g_callV (argsL := [(.int y1), (.int N)]) (S := []) (a := y0) X453 hx hby hZ (y := (⟨"java/lang/String", "substring", "(II)Ljava/lang/String;"⟩ : MethodName)) (y' := (⟨"java/lang/String", "substring", "(II)Ljava/lang/String;"⟩ : MethodName)) hown (hw _ (List.mem_of_getElem? (i := 73) rfl)) (hw _ (List.mem_of_getElem? (i := 74) rfl)) (notFace_of_selects (args := #[]) (mvT hZ (hw _ (List.mem_of_getElem? (i := 76) rfl)))) (hw _ (List.mem_of_getElem? (i := 76) rfl)) (hw _ (List.mem_of_getElem? (i := 75) rfl)) (hw _ (List.mem_of_getElem? (i := 8) rfl)) (hw _ (List.mem_of_getElem? (i := 77) rfl)) (by decide) LE0 (own_s2A l Z a0 hw y0 y1 h0 n0 n N f hN ⟨v0, LE0, LV0, LC0, LA0⟩ cs Sc hcs fm Sf hfm hB) (by rw [hml]; rfl) (lenOf own_pd17 rfl) rfl own_d25_6 (by decide) (W := 0) (by exact Nat.le_of_eq rfl) (by decide) (by decide) (by decide) (pc' := 9) rfl (fun T454 v454 X454 hQ454 => ?_)
  obtain ⟨rfl, e454⟩ := hQ454
  rw [e454] at X454
  show Gl p e below n0 _ _ (T454.setTop (mkF m 9 #[.val (.ref y0), .val (.int y1)] [(.ref y0)]))
  exact g_retA X454 hx hby hret hlk rfl rfl own_d25_9 ⟨rfl, rfl⟩ (by decide) (by decide)
set_option maxRecDepth 65536 in
set_option maxHeartbeats 40000000 in
theorem own_ef455 (m : MethodId) (y0 : Addr)  : entryFrame m #[(.ref y0)] 1 = mkF m 0 #[.val (.ref y0)] [] := by first | (simp [entryFrame, mkF, argsToLocals, Value.category, maxLocals]; done) | rfl
theorem own_pn5 : plainName "com/example/hifadhi/hifadhi/mapping/QualifiedName" = true := by first | (simp [plainName, overriddenIn]; done) | decide +kernel
theorem own_d26_0 : decode prog_2_method_3_code 0 = .ok (.aload_n 0, 1) := by decide +kernel
theorem own_d26_1 : decode prog_2_method_3_code 1 = .ok (.aload_n 0, 1) := by decide +kernel
theorem own_d26_2 : decode prog_2_method_3_code 2 = .ok (.bipush 46, 2) := by decide +kernel
theorem own_d26_4 : decode prog_2_method_3_code 4 = .ok (.invokevirtual 47, 3) := by decide +kernel
theorem own_pd18 : parseMethodDescriptor "(I)I" = some ⟨[.int], (some .int)⟩ := by decide +kernel
theorem own_d26_7 : decode prog_2_method_3_code 7 = .ok (.iconst 1, 1) := by decide +kernel
theorem own_d26_8 : decode prog_2_method_3_code 8 = .ok (.iadd, 1) := by decide +kernel
theorem own_d26_9 : decode prog_2_method_3_code 9 = .ok (.invokevirtual 51, 3) := by decide +kernel
theorem own_pd19 : parseMethodDescriptor "(I)Ljava/lang/String;" = some ⟨[.int], (some (.object "java/lang/String"))⟩ := by decide +kernel
theorem own_d26_12 : decode prog_2_method_3_code 12 = .ok (.areturn, 1) := by decide +kernel
set_option maxRecDepth 65536 in
set_option maxHeartbeats 40000000 in
theorem own_uqA (l : Launch) (Z : State) (a0 : Array Value) (hw : ∀ d ∈ tables_1, d.before a0 Z = true) (y0 : Addr) (h0 : Heap) (n0 : Nat) (n : Nat) (N : Int32) (f : Nat → Int32) (hN : N.toInt = (n : Int)) (P0 : Lat Z h0 y0 n f) (cs : Int32) (Sc : Sta Z h0 "java/lang/String" "COMPACT_STRINGS" "Z" (.int cs)) (hcs : ¬ cs = 0) (fm : Value) (Sf : Sta Z h0 "jdk/internal/util/Preconditions" "SIOOBE_FORMATTER" "Ljava/util/function/BiFunction;" fm) (hfm : fm.isRef = true) (K : Int32) (hK : -1 ≤ K.toInt ∧ K.toInt < (n : Int)) (hat : 0 ≤ K.toInt → f K.toInt.toNat = 46) (hno : ∀ j : Nat, K.toInt < (j : Int) → j < n → ¬ f j = 46) (hk1 : K = -1) :
    Ctr l Z (⟨"com/example/hifadhi/hifadhi/mapping/QualifiedName", "unqualified", "(Ljava/lang/String;)Ljava/lang/String;"⟩ : MethodName) prog_2_method_3_code 1 (some (.object "java/lang/String")) [] (own_room 6 0 0 115) #[(.ref y0)] h0 n0 0 0 (fun v h => v = some (.ref y0) ∧ h = h0) := by
  refine Ctr.of (plainFor_of_name own_pn5) ?_
  intro p e s m below meth c T0 hx hby hml hret hlk hnm hown hZ X0
  rw [own_ef455 m (y0)]
  have rk := rng32 N
  obtain ⟨v0, LE0, LV0, LC0, LA0⟩ := P0
  refine g_aloadN X0 hx hby own_d26_0 rfl rfl (pc' := 1) rfl ?_
  refine g_aloadN X0 hx hby own_d26_1 rfl rfl (pc' := 2) rfl ?_
  refine g_bipush (v := 46) X0 hx hby own_d26_2 rfl (pc' := 4) rfl ?_
  refine g_callV (argsL := [(.int (46 : Int32))]) (S := [(.ref y0)]) (a := y0) X0 hx hby hZ (y := (⟨"java/lang/String", "lastIndexOf", "(I)I"⟩ : MethodName)) (y' := (⟨"java/lang/String", "lastIndexOf", "(I)I"⟩ : MethodName)) hown (hw _ (List.mem_of_getElem? (i := 31) rfl)) (hw _ (List.mem_of_getElem? (i := 32) rfl)) (notFace_of_selects (args := #[]) (mvT hZ (hw _ (List.mem_of_getElem? (i := 34) rfl)))) (hw _ (List.mem_of_getElem? (i := 34) rfl)) (hw _ (List.mem_of_getElem? (i := 33) rfl)) (hw _ (List.mem_of_getElem? (i := 8) rfl)) (hw _ (List.mem_of_getElem? (i := 35) rfl)) (by decide) LE0 (own_l1 l Z a0 hw y0 h0 n0 n N f hN ⟨v0, LE0, LV0, LC0, LA0⟩ cs Sc hcs K hK hat hno) (by rw [hml]; rfl) (lenOf own_pd18 rfl) rfl own_d26_4 (by decide) (W := 1) (by exact Nat.le_of_eq rfl) (by decide) (by decide) (by decide) (pc' := 7) rfl (fun T456 v456 X456 hQ456 => ?_)
  obtain ⟨rfl, e456⟩ := hQ456
  rw [e456] at X456
  show Gl p e below n0 _ _ (T456.setTop (mkF m 7 #[.val (.ref y0)] [(.int K), (.ref y0)]))
  refine g_iconst (v := 1) X456 hx hby own_d26_7 rfl (pc' := 8) rfl ?_
  refine g_iadd X456 hx hby own_d26_8 (pc' := 9) rfl ?_
  refine g_callV (argsL := [(.int (K + (1 : Int32)))]) (S := []) (a := y0) X456 hx hby hZ (y := (⟨"java/lang/String", "substring", "(I)Ljava/lang/String;"⟩ : MethodName)) (y' := (⟨"java/lang/String", "substring", "(I)Ljava/lang/String;"⟩ : MethodName)) hown (hw _ (List.mem_of_getElem? (i := 68) rfl)) (hw _ (List.mem_of_getElem? (i := 69) rfl)) (notFace_of_selects (args := #[]) (mvT hZ (hw _ (List.mem_of_getElem? (i := 71) rfl)))) (hw _ (List.mem_of_getElem? (i := 71) rfl)) (hw _ (List.mem_of_getElem? (i := 70) rfl)) (hw _ (List.mem_of_getElem? (i := 8) rfl)) (hw _ (List.mem_of_getElem? (i := 72) rfl)) (by decide) LE0 (own_s1A l Z a0 hw y0 (K + (1 : Int32)) h0 n0 n N f hN ⟨v0, LE0, LV0, LC0, LA0⟩ cs Sc hcs fm Sf hfm (by rw [hk1]; rfl)) (by rw [hml]; rfl) (lenOf own_pd19 rfl) rfl own_d26_9 (by decide) (W := 0) (by exact Nat.le_of_eq rfl) (by decide) (by decide) (by decide) (pc' := 12) rfl (fun T457 v457 X457 hQ457 => ?_)
  obtain ⟨rfl, e457⟩ := hQ457
  rw [e457] at X457
  show Gl p e below n0 _ _ (T457.setTop (mkF m 12 #[.val (.ref y0)] [(.ref y0)]))
  exact g_retA X457 hx hby hret hlk rfl rfl own_d26_12 ⟨rfl, rfl⟩ (by decide) (by decide)
set_option maxRecDepth 65536 in
set_option maxHeartbeats 40000000 in
theorem own_ef458 (m : MethodId) (y0 : Addr) (y1 : Int32) (y2 : Int32)  : entryFrame m #[(.ref y0), (.int y1), (.int y2)] 5 = mkF m 0 #[.val (.ref y0), .val (.int y1), .val (.int y2), .unset, .unset] [] := by first | (simp [entryFrame, mkF, argsToLocals, Value.category, maxLocals]; done) | rfl
theorem own_d24_22 : decode jdk_42_method_92_code 22 = .ok (.iload_n 2, 1) := by decide +kernel
theorem own_d24_23 : decode jdk_42_method_92_code 23 = .ok (.iload_n 1, 1) := by decide +kernel
theorem own_d24_24 : decode jdk_42_method_92_code 24 = .ok (.isub, 1) := by decide +kernel
theorem own_d24_25 : decode jdk_42_method_92_code 25 = .ok (.istore 4, 2) := by decide +kernel
theorem own_d24_27 : decode jdk_42_method_92_code 27 = .ok (.aload_n 0, 1) := by decide +kernel
theorem own_d24_28 : decode jdk_42_method_92_code 28 = .ok (.invokevirtual 492, 3) := by decide +kernel
theorem own_d24_31 : decode jdk_42_method_92_code 31 = .ok (.ifCond .eq 16, 3) := by decide +kernel
theorem own_d24_34 : decode jdk_42_method_92_code 34 = .ok (.aload_n 0, 1) := by decide +kernel
theorem own_d24_35 : decode jdk_42_method_92_code 35 = .ok (.getfield 9, 3) := by decide +kernel
theorem own_d24_38 : decode jdk_42_method_92_code 38 = .ok (.iload_n 1, 1) := by decide +kernel
theorem own_d24_39 : decode jdk_42_method_92_code 39 = .ok (.iload 4, 2) := by decide +kernel
theorem own_d24_41 : decode jdk_42_method_92_code 41 = .ok (.invokestatic 685, 3) := by decide +kernel
theorem own_pd20 : parseMethodDescriptor "([BII)Ljava/lang/String;" = some ⟨[(.array .byte), .int, .int], (some (.object "java/lang/String"))⟩ := by decide +kernel
theorem own_d24_44 : decode jdk_42_method_92_code 44 = .ok (.goto 13, 3) := by decide +kernel
theorem own_d24_57 : decode jdk_42_method_92_code 57 = .ok (.areturn, 1) := by decide +kernel
set_option maxRecDepth 65536 in
set_option maxHeartbeats 40000000 in
theorem own_s2B (l : Launch) (Z : State) (a0 : Array Value) (hw : ∀ d ∈ tables_1, d.before a0 Z = true) (y0 : Addr) (y1 : Int32) (h0 : Heap) (n0 : Nat) (n : Nat) (N : Int32) (f : Nat → Int32) (hN : N.toInt = (n : Int)) (P0 : Lat Z h0 y0 n f) (cs : Int32) (Sc : Sta Z h0 "java/lang/String" "COMPACT_STRINGS" "Z" (.int cs)) (hcs : ¬ cs = 0) (fm : Value) (Sf : Sta Z h0 "jdk/internal/util/Preconditions" "SIOOBE_FORMATTER" "Ljava/util/function/BiFunction;" fm) (hfm : fm.isRef = true) (hN4 : n ≤ 4) (hfit : ∀ i, i < n → fits .byte (.int (f i)) = true) (iF : Nat) (hF : y1.toInt = (iF : Int)) (hF1 : 1 ≤ iF) (hFn : iF < n) (Z0 : n0 ≤ h0.size) :
    Ctr l Z (⟨"java/lang/String", "substring", "(II)Ljava/lang/String;"⟩ : MethodName) jdk_42_method_92_code 5 (some (.object "java/lang/String")) [] (own_room 4 2 8 86) #[(.ref y0), (.int y1), (.int N)] h0 n0 2 8 (fun v h => ∃ b, v = some (.ref b) ∧ Keep h0 h [] ∧ Lat Z h b (n - iF) (fun i => f (iF + i))) := by
  refine Ctr.of (plainFor_of_name own_pn0) ?_
  intro p e s m below meth c T0 hx hby hml hret hlk hnm hown hZ X0
  rw [own_ef458 m (y0) (y1) (N)]
  obtain ⟨v0, LE0, LV0, LC0, LA0⟩ := P0
  refine g_aloadN X0 hx hby own_d24_0 rfl rfl (pc' := 1) rfl ?_
  refine g_callV (argsL := []) (S := []) (a := y0) X0 hx hby hZ (y := (⟨"java/lang/String", "length", "()I"⟩ : MethodName)) (y' := (⟨"java/lang/String", "length", "()I"⟩ : MethodName)) hown (hw _ (List.mem_of_getElem? (i := 36) rfl)) (hw _ (List.mem_of_getElem? (i := 37) rfl)) (notFace_of_selects (args := #[]) (mvT hZ (hw _ (List.mem_of_getElem? (i := 39) rfl)))) (hw _ (List.mem_of_getElem? (i := 39) rfl)) (hw _ (List.mem_of_getElem? (i := 38) rfl)) (hw _ (List.mem_of_getElem? (i := 8) rfl)) (hw _ (List.mem_of_getElem? (i := 40) rfl)) (by decide) LE0 (own_ln l Z a0 hw y0 h0 n0 n N f hN ⟨v0, LE0, LV0, LC0, LA0⟩ cs Sc hcs ) (by rw [hml]; rfl) (lenOf own_pd12 rfl) rfl own_d24_1 (by decide) (W := 0) (by exact Nat.le_of_eq rfl) (by decide) (by decide) (by decide) (pc' := 4) rfl (fun T459 v459 X459 hQ459 => ?_)
  obtain ⟨rfl, e459⟩ := hQ459
  rw [e459] at X459
  show Gl p e below n0 _ _ (T459.setTop (mkF m 4 #[.val (.ref y0), .val (.int y1), .val (.int N), .unset, .unset] [(.int N)]))
  refine g_istoreN (L' := #[.val (.ref y0), .val (.int y1), .val (.int N), .val (.int N), .unset]) X459 hx hby own_d24_4 rfl (pc' := 5) rfl ?_
  refine g_iloadN X459 hx hby own_d24_5 rfl (pc' := 6) rfl ?_
  refine g_iloadN X459 hx hby own_d24_6 rfl (pc' := 7) rfl ?_
  refine g_iloadN X459 hx hby own_d24_7 rfl (pc' := 8) rfl ?_
  refine g_callS (argsL := [(.int y1), (.int N), (.int N)]) (S := []) X459 hx hby hZ (y := (⟨"java/lang/String", "checkBoundsBeginEnd", "(III)V"⟩ : MethodName)) hown (hw _ (List.mem_of_getElem? (i := 78) rfl)) (hw _ (List.mem_of_getElem? (i := 79) rfl)) (hw _ (List.mem_of_getElem? (i := 8) rfl)) (hw _ (List.mem_of_getElem? (i := 80) rfl)) (by decide) (own_cb l Z a0 hw y1 N N h0 n0 fm Sf hfm (own_nlt (show (0 : Int) ≤ _ by omega)) (own_nlt (by omega)) (own_nlt (Int.le_refl _))) (by rw [hml]; rfl) (lenOf own_pd16 rfl) rfl own_d24_8 (by decide) (W := 0) (by exact Nat.le_of_eq rfl) (by decide) (by decide) (by decide) (pc' := 11) rfl (fun T460 v460 X460 hQ460 => ?_)
  obtain ⟨rfl, e460⟩ := hQ460
  rw [e460] at X460
  show Gl p e below n0 _ _ (T460.setTop (mkF m 11 #[.val (.ref y0), .val (.int y1), .val (.int N), .val (.int N), .unset] []))
  refine g_iloadN X460 hx hby own_d24_11 rfl (pc' := 12) rfl ?_
  refine g_if_ne X460 hx hby own_d24_12 (by decide) (pc' := 22) (by decide) (pc2 := 15) rfl (fun c12_461 => ?_) (fun q => absurd q (own_ne0 (by omega)))
  refine g_iloadN X460 hx hby own_d24_22 rfl (pc' := 23) rfl ?_
  refine g_iloadN X460 hx hby own_d24_23 rfl (pc' := 24) rfl ?_
  refine g_isub X460 hx hby own_d24_24 (pc' := 25) rfl ?_
  refine g_istore (L' := #[.val (.ref y0), .val (.int y1), .val (.int N), .val (.int N), .val (.int (N - y1))]) X460 hx hby own_d24_25 rfl (pc' := 27) rfl ?_
  refine g_aloadN X460 hx hby own_d24_27 rfl rfl (pc' := 28) rfl ?_
  refine g_callV (argsL := []) (S := []) (a := y0) X460 hx hby hZ (y := (⟨"java/lang/String", "isLatin1", "()Z"⟩ : MethodName)) (y' := (⟨"java/lang/String", "isLatin1", "()Z"⟩ : MethodName)) hown (hw _ (List.mem_of_getElem? (i := 52) rfl)) (hw _ (List.mem_of_getElem? (i := 53) rfl)) (notFace_of_selects (args := #[]) (mvT hZ (hw _ (List.mem_of_getElem? (i := 55) rfl)))) (hw _ (List.mem_of_getElem? (i := 55) rfl)) (hw _ (List.mem_of_getElem? (i := 54) rfl)) (hw _ (List.mem_of_getElem? (i := 8) rfl)) (hw _ (List.mem_of_getElem? (i := 56) rfl)) (by decide) LE0 (own_il l Z a0 hw y0 h0 n0 n N f hN ⟨v0, LE0, LV0, LC0, LA0⟩ cs Sc hcs ) (by rw [hml]; rfl) (lenOf own_pd3 rfl) rfl own_d24_28 (by decide) (W := 0) (by exact Nat.le_of_eq rfl) (by decide) (by decide) (by decide) (pc' := 31) rfl (fun T462 v462 X462 hQ462 => ?_)
  obtain ⟨rfl, e462⟩ := hQ462
  rw [e462] at X462
  show Gl p e below n0 _ _ (T462.setTop (mkF m 31 #[.val (.ref y0), .val (.int y1), .val (.int N), .val (.int N), .val (.int (N - y1))] [(.int (1 : Int32))]))
  refine g_if_eq X462 hx hby own_d24_31 (by decide) (pc' := 47) (by decide) (pc2 := 34) rfl (fun q => absurd q (by decide)) (fun c31_463 => ?_)
  refine g_aloadN X462 hx hby own_d24_34 rfl rfl (pc' := 35) rfl ?_
  refine g_getF X462 hx hby hZ hown (hw _ (List.mem_of_getElem? (i := 25) rfl)) Via.refl LV0 own_d24_35 (pc' := 38) rfl (fun T464 X464 => ?_)
  refine g_iloadN X464 hx hby own_d24_38 rfl (pc' := 39) rfl ?_
  refine g_iload X464 hx hby own_d24_39 rfl (pc' := 41) rfl ?_
  refine g_callS (argsL := [(.ref v0), (.int y1), (.int (N - y1))]) (S := []) X464 hx hby hZ (y := (⟨"java/lang/StringLatin1", "newString", "([BII)Ljava/lang/String;"⟩ : MethodName)) hown (hw _ (List.mem_of_getElem? (i := 97) rfl)) (hw _ (List.mem_of_getElem? (i := 98) rfl)) (hw _ (List.mem_of_getElem? (i := 59) rfl)) (hw _ (List.mem_of_getElem? (i := 99) rfl)) (by decide) (own_ns l Z a0 hw v0 y1 h0 n0 n N f hN LA0 hN4 hfit iF hF hF1 hFn Z0) (by rw [hml]; rfl) (lenOf own_pd20 rfl) rfl own_d24_41 (by decide) (W := 0) (by exact Nat.le_of_eq rfl) (by decide) (by decide) (by decide) (pc' := 44) rfl (fun T465 v465 X465 hQ465 => ?_)
  obtain ⟨b465, rfl, ka465, la465⟩ := hQ465
  show Gl p e below n0 _ _ (T465.setTop (mkF m 44 #[.val (.ref y0), .val (.int y1), .val (.int N), .val (.int N), .val (.int (N - y1))] [(.ref b465)]))
  refine g_goto X465 hx hby own_d24_44 (by decide) (pc' := 57) (by decide) ?_
  exact g_retA X465 hx hby hret hlk rfl rfl own_d24_57 ⟨b465, rfl, ka465, la465⟩ (by decide) (by decide)
set_option maxRecDepth 65536 in
set_option maxHeartbeats 40000000 in
theorem own_ef466 (m : MethodId) (y0 : Addr) (y1 : Int32)  : entryFrame m #[(.ref y0), (.int y1)] 2 = mkF m 0 #[.val (.ref y0), .val (.int y1)] [] := by first | (simp [entryFrame, mkF, argsToLocals, Value.category, maxLocals]; done) | rfl
set_option maxRecDepth 65536 in
set_option maxHeartbeats 40000000 in
theorem own_s1B (l : Launch) (Z : State) (a0 : Array Value) (hw : ∀ d ∈ tables_1, d.before a0 Z = true) (y0 : Addr) (y1 : Int32) (h0 : Heap) (n0 : Nat) (n : Nat) (N : Int32) (f : Nat → Int32) (hN : N.toInt = (n : Int)) (P0 : Lat Z h0 y0 n f) (cs : Int32) (Sc : Sta Z h0 "java/lang/String" "COMPACT_STRINGS" "Z" (.int cs)) (hcs : ¬ cs = 0) (fm : Value) (Sf : Sta Z h0 "jdk/internal/util/Preconditions" "SIOOBE_FORMATTER" "Ljava/util/function/BiFunction;" fm) (hfm : fm.isRef = true) (hN4 : n ≤ 4) (hfit : ∀ i, i < n → fits .byte (.int (f i)) = true) (iF : Nat) (hF : y1.toInt = (iF : Int)) (hF1 : 1 ≤ iF) (hFn : iF < n) (Z0 : n0 ≤ h0.size) :
    Ctr l Z (⟨"java/lang/String", "substring", "(I)Ljava/lang/String;"⟩ : MethodName) jdk_42_method_91_code 2 (some (.object "java/lang/String")) [] (own_room 5 2 8 102) #[(.ref y0), (.int y1)] h0 n0 2 8 (fun v h => ∃ b, v = some (.ref b) ∧ Keep h0 h [] ∧ Lat Z h b (n - iF) (fun i => f (iF + i))) := by
  refine Ctr.of (plainFor_of_name own_pn0) ?_
  intro p e s m below meth c T0 hx hby hml hret hlk hnm hown hZ X0
  rw [own_ef466 m (y0) (y1)]
  obtain ⟨v0, LE0, LV0, LC0, LA0⟩ := P0
  refine g_aloadN X0 hx hby own_d25_0 rfl rfl (pc' := 1) rfl ?_
  refine g_iloadN X0 hx hby own_d25_1 rfl (pc' := 2) rfl ?_
  refine g_aloadN X0 hx hby own_d25_2 rfl rfl (pc' := 3) rfl ?_
  refine g_callV (argsL := []) (S := [(.int y1), (.ref y0)]) (a := y0) X0 hx hby hZ (y := (⟨"java/lang/String", "length", "()I"⟩ : MethodName)) (y' := (⟨"java/lang/String", "length", "()I"⟩ : MethodName)) hown (hw _ (List.mem_of_getElem? (i := 36) rfl)) (hw _ (List.mem_of_getElem? (i := 37) rfl)) (notFace_of_selects (args := #[]) (mvT hZ (hw _ (List.mem_of_getElem? (i := 39) rfl)))) (hw _ (List.mem_of_getElem? (i := 39) rfl)) (hw _ (List.mem_of_getElem? (i := 38) rfl)) (hw _ (List.mem_of_getElem? (i := 8) rfl)) (hw _ (List.mem_of_getElem? (i := 40) rfl)) (by decide) LE0 (own_ln l Z a0 hw y0 h0 n0 n N f hN ⟨v0, LE0, LV0, LC0, LA0⟩ cs Sc hcs ) (by rw [hml]; rfl) (lenOf own_pd12 rfl) rfl own_d25_3 (by decide) (W := 2) (by exact Nat.le_of_eq rfl) (by decide) (by decide) (by decide) (pc' := 6) rfl (fun T467 v467 X467 hQ467 => ?_)
  obtain ⟨rfl, e467⟩ := hQ467
  rw [e467] at X467
  show Gl p e below n0 _ _ (T467.setTop (mkF m 6 #[.val (.ref y0), .val (.int y1)] [(.int N), (.int y1), (.ref y0)]))
  refine g_callV (argsL := [(.int y1), (.int N)]) (S := []) (a := y0) X467 hx hby hZ (y := (⟨"java/lang/String", "substring", "(II)Ljava/lang/String;"⟩ : MethodName)) (y' := (⟨"java/lang/String", "substring", "(II)Ljava/lang/String;"⟩ : MethodName)) hown (hw _ (List.mem_of_getElem? (i := 73) rfl)) (hw _ (List.mem_of_getElem? (i := 74) rfl)) (notFace_of_selects (args := #[]) (mvT hZ (hw _ (List.mem_of_getElem? (i := 76) rfl)))) (hw _ (List.mem_of_getElem? (i := 76) rfl)) (hw _ (List.mem_of_getElem? (i := 75) rfl)) (hw _ (List.mem_of_getElem? (i := 8) rfl)) (hw _ (List.mem_of_getElem? (i := 77) rfl)) (by decide) LE0 (own_s2B l Z a0 hw y0 y1 h0 n0 n N f hN ⟨v0, LE0, LV0, LC0, LA0⟩ cs Sc hcs fm Sf hfm hN4 hfit iF hF hF1 hFn Z0) (by rw [hml]; rfl) (lenOf own_pd17 rfl) rfl own_d25_6 (by decide) (W := 0) (by exact Nat.le_of_eq rfl) (by decide) (by decide) (by decide) (pc' := 9) rfl (fun T468 v468 X468 hQ468 => ?_)
  obtain ⟨b468, rfl, ka468, la468⟩ := hQ468
  show Gl p e below n0 _ _ (T468.setTop (mkF m 9 #[.val (.ref y0), .val (.int y1)] [(.ref b468)]))
  exact g_retA X468 hx hby hret hlk rfl rfl own_d25_9 ⟨b468, rfl, ka468, la468⟩ (by decide) (by decide)
set_option maxRecDepth 65536 in
set_option maxHeartbeats 40000000 in
theorem own_ef469 (m : MethodId) (y0 : Addr)  : entryFrame m #[(.ref y0)] 1 = mkF m 0 #[.val (.ref y0)] [] := by first | (simp [entryFrame, mkF, argsToLocals, Value.category, maxLocals]; done) | rfl
set_option maxRecDepth 65536 in
set_option maxHeartbeats 40000000 in
theorem own_uqB (l : Launch) (Z : State) (a0 : Array Value) (hw : ∀ d ∈ tables_1, d.before a0 Z = true) (y0 : Addr) (h0 : Heap) (n0 : Nat) (n : Nat) (N : Int32) (f : Nat → Int32) (hN : N.toInt = (n : Int)) (P0 : Lat Z h0 y0 n f) (cs : Int32) (Sc : Sta Z h0 "java/lang/String" "COMPACT_STRINGS" "Z" (.int cs)) (hcs : ¬ cs = 0) (fm : Value) (Sf : Sta Z h0 "jdk/internal/util/Preconditions" "SIOOBE_FORMATTER" "Ljava/util/function/BiFunction;" fm) (hfm : fm.isRef = true) (K : Int32) (hK : -1 ≤ K.toInt ∧ K.toInt < (n : Int)) (hat : 0 ≤ K.toInt → f K.toInt.toNat = 46) (hno : ∀ j : Nat, K.toInt < (j : Int) → j < n → ¬ f j = 46) (hN4 : n ≤ 4) (hfit : ∀ i, i < n → fits .byte (.int (f i)) = true) (iF : Nat) (hkF : K.toInt + 1 = (iF : Int)) (hF1 : 1 ≤ iF) (hFn : iF < n) (Z0 : n0 ≤ h0.size) :
    Ctr l Z (⟨"com/example/hifadhi/hifadhi/mapping/QualifiedName", "unqualified", "(Ljava/lang/String;)Ljava/lang/String;"⟩ : MethodName) prog_2_method_3_code 1 (some (.object "java/lang/String")) [] (own_room 6 2 8 115) #[(.ref y0)] h0 n0 2 8 (fun v h => ∃ b, v = some (.ref b) ∧ Keep h0 h [] ∧ Lat Z h b (n - iF) (fun i => f (iF + i))) := by
  refine Ctr.of (plainFor_of_name own_pn5) ?_
  intro p e s m below meth c T0 hx hby hml hret hlk hnm hown hZ X0
  rw [own_ef469 m (y0)]
  have rk := rng32 N
  obtain ⟨v0, LE0, LV0, LC0, LA0⟩ := P0
  refine g_aloadN X0 hx hby own_d26_0 rfl rfl (pc' := 1) rfl ?_
  refine g_aloadN X0 hx hby own_d26_1 rfl rfl (pc' := 2) rfl ?_
  refine g_bipush (v := 46) X0 hx hby own_d26_2 rfl (pc' := 4) rfl ?_
  refine g_callV (argsL := [(.int (46 : Int32))]) (S := [(.ref y0)]) (a := y0) X0 hx hby hZ (y := (⟨"java/lang/String", "lastIndexOf", "(I)I"⟩ : MethodName)) (y' := (⟨"java/lang/String", "lastIndexOf", "(I)I"⟩ : MethodName)) hown (hw _ (List.mem_of_getElem? (i := 31) rfl)) (hw _ (List.mem_of_getElem? (i := 32) rfl)) (notFace_of_selects (args := #[]) (mvT hZ (hw _ (List.mem_of_getElem? (i := 34) rfl)))) (hw _ (List.mem_of_getElem? (i := 34) rfl)) (hw _ (List.mem_of_getElem? (i := 33) rfl)) (hw _ (List.mem_of_getElem? (i := 8) rfl)) (hw _ (List.mem_of_getElem? (i := 35) rfl)) (by decide) LE0 (own_l1 l Z a0 hw y0 h0 n0 n N f hN ⟨v0, LE0, LV0, LC0, LA0⟩ cs Sc hcs K hK hat hno) (by rw [hml]; rfl) (lenOf own_pd18 rfl) rfl own_d26_4 (by decide) (W := 1) (by exact Nat.le_of_eq rfl) (by decide) (by decide) (by decide) (pc' := 7) rfl (fun T470 v470 X470 hQ470 => ?_)
  obtain ⟨rfl, e470⟩ := hQ470
  rw [e470] at X470
  show Gl p e below n0 _ _ (T470.setTop (mkF m 7 #[.val (.ref y0)] [(.int K), (.ref y0)]))
  refine g_iconst (v := 1) X470 hx hby own_d26_7 rfl (pc' := 8) rfl ?_
  refine g_iadd X470 hx hby own_d26_8 (pc' := 9) rfl ?_
  refine g_callV (argsL := [(.int (K + (1 : Int32)))]) (S := []) (a := y0) X470 hx hby hZ (y := (⟨"java/lang/String", "substring", "(I)Ljava/lang/String;"⟩ : MethodName)) (y' := (⟨"java/lang/String", "substring", "(I)Ljava/lang/String;"⟩ : MethodName)) hown (hw _ (List.mem_of_getElem? (i := 68) rfl)) (hw _ (List.mem_of_getElem? (i := 69) rfl)) (notFace_of_selects (args := #[]) (mvT hZ (hw _ (List.mem_of_getElem? (i := 71) rfl)))) (hw _ (List.mem_of_getElem? (i := 71) rfl)) (hw _ (List.mem_of_getElem? (i := 70) rfl)) (hw _ (List.mem_of_getElem? (i := 8) rfl)) (hw _ (List.mem_of_getElem? (i := 72) rfl)) (by decide) LE0 (own_s1B l Z a0 hw y0 (K + (1 : Int32)) h0 n0 n N f hN ⟨v0, LE0, LV0, LC0, LA0⟩ cs Sc hcs fm Sf hfm hN4 hfit iF (by rw [own_inc (by omega)]; omega) (by omega) (by omega) Z0) (by rw [hml]; rfl) (lenOf own_pd19 rfl) rfl own_d26_9 (by decide) (W := 0) (by exact Nat.le_of_eq rfl) (by decide) (by decide) (by decide) (pc' := 12) rfl (fun T471 v471 X471 hQ471 => ?_)
  obtain ⟨b471, rfl, ka471, la471⟩ := hQ471
  show Gl p e below n0 _ _ (T471.setTop (mkF m 12 #[.val (.ref y0)] [(.ref b471)]))
  exact g_retA X471 hx hby hret hlk rfl rfl own_d26_12 ⟨b471, rfl, ka471, la471⟩ (by decide) (by decide)
set_option maxRecDepth 65536 in
set_option maxHeartbeats 40000000 in
theorem own_ef472 (m : MethodId) (y0 : Addr) (y1 : Int32) (y2 : Int32)  : entryFrame m #[(.ref y0), (.int y1), (.int y2)] 5 = mkF m 0 #[.val (.ref y0), .val (.int y1), .val (.int y2), .unset, .unset] [] := by first | (simp [entryFrame, mkF, argsToLocals, Value.category, maxLocals]; done) | rfl
set_option maxRecDepth 65536 in
set_option maxHeartbeats 40000000 in
theorem own_s2C (l : Launch) (Z : State) (a0 : Array Value) (hw : ∀ d ∈ tables_1, d.before a0 Z = true) (y0 : Addr) (y1 : Int32) (h0 : Heap) (n0 : Nat) (n : Nat) (N : Int32) (f : Nat → Int32) (hN : N.toInt = (n : Int)) (P0 : Lat Z h0 y0 n f) (cs : Int32) (Sc : Sta Z h0 "java/lang/String" "COMPACT_STRINGS" "Z" (.int cs)) (hcs : ¬ cs = 0) (fm : Value) (Sf : Sta Z h0 "jdk/internal/util/Preconditions" "SIOOBE_FORMATTER" "Ljava/util/function/BiFunction;" fm) (hfm : fm.isRef = true) (hE : y1.toInt = N.toInt) (hn1 : 1 ≤ n) (Z0 : n0 ≤ h0.size) :
    CtrH l Z own_EL [] (⟨"java/lang/String", "substring", "(II)Ljava/lang/String;"⟩ : MethodName) jdk_42_method_92_code 5 (some (.object "java/lang/String")) [] (own_room 4 2 4 86) #[(.ref y0), (.int y1), (.int N)] h0 n0 2 4 (fun v h => ∃ b, v = some (.ref b) ∧ Keep h0 h [] ∧ Lat Z h b 0 (fun i => ([] : List Int32).getD i 0)) := by
  refine CtrH.of (plainFor_of_name own_pn0) ?_
  intro p e s m below meth c T0 hx hby hml hret hlk hnm hown hZ X0 hS hC0 hss
  rw [own_ef472 m (y0) (y1) (N)]
  obtain ⟨v0, LE0, LV0, LC0, LA0⟩ := P0
  refine g_aloadN X0 hx hby own_d24_0 rfl rfl (pc' := 1) rfl ?_
  refine g_callV (argsL := []) (S := []) (a := y0) X0 hx hby hZ (y := (⟨"java/lang/String", "length", "()I"⟩ : MethodName)) (y' := (⟨"java/lang/String", "length", "()I"⟩ : MethodName)) hown (hw _ (List.mem_of_getElem? (i := 36) rfl)) (hw _ (List.mem_of_getElem? (i := 37) rfl)) (notFace_of_selects (args := #[]) (mvT hZ (hw _ (List.mem_of_getElem? (i := 39) rfl)))) (hw _ (List.mem_of_getElem? (i := 39) rfl)) (hw _ (List.mem_of_getElem? (i := 38) rfl)) (hw _ (List.mem_of_getElem? (i := 8) rfl)) (hw _ (List.mem_of_getElem? (i := 40) rfl)) (by decide) LE0 (own_ln l Z a0 hw y0 h0 n0 n N f hN ⟨v0, LE0, LV0, LC0, LA0⟩ cs Sc hcs ) (by rw [hml]; rfl) (lenOf own_pd12 rfl) rfl own_d24_1 (by decide) (W := 0) (by exact Nat.le_of_eq rfl) (by decide) (by decide) (by decide) (pc' := 4) rfl (fun T473 v473 X473 hQ473 => ?_)
  obtain ⟨rfl, e473⟩ := hQ473
  rw [e473] at X473
  show Gl p e below n0 _ _ (T473.setTop (mkF m 4 #[.val (.ref y0), .val (.int y1), .val (.int N), .unset, .unset] [(.int N)]))
  refine g_istoreN (L' := #[.val (.ref y0), .val (.int y1), .val (.int N), .val (.int N), .unset]) X473 hx hby own_d24_4 rfl (pc' := 5) rfl ?_
  refine g_iloadN X473 hx hby own_d24_5 rfl (pc' := 6) rfl ?_
  refine g_iloadN X473 hx hby own_d24_6 rfl (pc' := 7) rfl ?_
  refine g_iloadN X473 hx hby own_d24_7 rfl (pc' := 8) rfl ?_
  refine g_callS (argsL := [(.int y1), (.int N), (.int N)]) (S := []) X473 hx hby hZ (y := (⟨"java/lang/String", "checkBoundsBeginEnd", "(III)V"⟩ : MethodName)) hown (hw _ (List.mem_of_getElem? (i := 78) rfl)) (hw _ (List.mem_of_getElem? (i := 79) rfl)) (hw _ (List.mem_of_getElem? (i := 8) rfl)) (hw _ (List.mem_of_getElem? (i := 80) rfl)) (by decide) (own_cb l Z a0 hw y1 N N h0 n0 fm Sf hfm (own_nlt (show (0 : Int) ≤ _ by omega)) (own_nlt (by omega)) (own_nlt (Int.le_refl _))) (by rw [hml]; rfl) (lenOf own_pd16 rfl) rfl own_d24_8 (by decide) (W := 0) (by exact Nat.le_of_eq rfl) (by decide) (by decide) (by decide) (pc' := 11) rfl (fun T474 v474 X474 hQ474 => ?_)
  obtain ⟨rfl, e474⟩ := hQ474
  rw [e474] at X474
  show Gl p e below n0 _ _ (T474.setTop (mkF m 11 #[.val (.ref y0), .val (.int y1), .val (.int N), .val (.int N), .unset] []))
  refine g_iloadN X474 hx hby own_d24_11 rfl (pc' := 12) rfl ?_
  refine g_if_ne X474 hx hby own_d24_12 (by decide) (pc' := 22) (by decide) (pc2 := 15) rfl (fun c12_475 => ?_) (fun q => absurd q (own_ne0 (by omega)))
  refine g_iloadN X474 hx hby own_d24_22 rfl (pc' := 23) rfl ?_
  refine g_iloadN X474 hx hby own_d24_23 rfl (pc' := 24) rfl ?_
  refine g_isub X474 hx hby own_d24_24 (pc' := 25) rfl ?_
  refine g_istore (L' := #[.val (.ref y0), .val (.int y1), .val (.int N), .val (.int N), .val (.int (N - y1))]) X474 hx hby own_d24_25 rfl (pc' := 27) rfl ?_
  refine g_aloadN X474 hx hby own_d24_27 rfl rfl (pc' := 28) rfl ?_
  refine g_callV (argsL := []) (S := []) (a := y0) X474 hx hby hZ (y := (⟨"java/lang/String", "isLatin1", "()Z"⟩ : MethodName)) (y' := (⟨"java/lang/String", "isLatin1", "()Z"⟩ : MethodName)) hown (hw _ (List.mem_of_getElem? (i := 52) rfl)) (hw _ (List.mem_of_getElem? (i := 53) rfl)) (notFace_of_selects (args := #[]) (mvT hZ (hw _ (List.mem_of_getElem? (i := 55) rfl)))) (hw _ (List.mem_of_getElem? (i := 55) rfl)) (hw _ (List.mem_of_getElem? (i := 54) rfl)) (hw _ (List.mem_of_getElem? (i := 8) rfl)) (hw _ (List.mem_of_getElem? (i := 56) rfl)) (by decide) LE0 (own_il l Z a0 hw y0 h0 n0 n N f hN ⟨v0, LE0, LV0, LC0, LA0⟩ cs Sc hcs ) (by rw [hml]; rfl) (lenOf own_pd3 rfl) rfl own_d24_28 (by decide) (W := 0) (by exact Nat.le_of_eq rfl) (by decide) (by decide) (by decide) (pc' := 31) rfl (fun T476 v476 X476 hQ476 => ?_)
  obtain ⟨rfl, e476⟩ := hQ476
  rw [e476] at X476
  show Gl p e below n0 _ _ (T476.setTop (mkF m 31 #[.val (.ref y0), .val (.int y1), .val (.int N), .val (.int N), .val (.int (N - y1))] [(.int (1 : Int32))]))
  refine g_if_eq X476 hx hby own_d24_31 (by decide) (pc' := 47) (by decide) (pc2 := 34) rfl (fun q => absurd q (by decide)) (fun c31_477 => ?_)
  refine g_aloadN X476 hx hby own_d24_34 rfl rfl (pc' := 35) rfl ?_
  refine g_getF X476 hx hby hZ hown (hw _ (List.mem_of_getElem? (i := 25) rfl)) Via.refl LV0 own_d24_35 (pc' := 38) rfl (fun T478 X478 => ?_)
  refine g_iloadN X478 hx hby own_d24_38 rfl (pc' := 39) rfl ?_
  refine g_iload X478 hx hby own_d24_39 rfl (pc' := 41) rfl ?_
  refine gh_callS (argsL := [(.ref v0), (.int y1), (.int (N - y1))]) (S := []) X478 hx hby hZ hS (Nat.le_refl _) (own_hEL hw) hC0 own_nss (y := (⟨"java/lang/StringLatin1", "newString", "([BII)Ljava/lang/String;"⟩ : MethodName)) hown (hw _ (List.mem_of_getElem? (i := 97) rfl)) (hw _ (List.mem_of_getElem? (i := 98) rfl)) (hw _ (List.mem_of_getElem? (i := 59) rfl)) (hw _ (List.mem_of_getElem? (i := 99) rfl)) (by decide) (own_ns0 l Z a0 hw v0 y1 (N - y1) h0 n0 Z0 (Int32.toInt_inj.mp (by rw [own_subi (by omega) (by omega)]; show _ = (0 : Int); omega))) (by rw [hml]; rfl) (lenOf own_pd20 rfl) rfl own_d24_41 (by decide) (W := 0) (by exact Nat.le_of_eq rfl) (by decide) (by decide) (by decide) (pc' := 44) rfl (fun T479 v479 k479 X479 hS479 hk479 hZ479 hown479 hC479 hD479 hQ479 => ?_)
  obtain ⟨b479, rfl, ka479, la479⟩ := hQ479
  show Gl p e below n0 _ _ (T479.setTop (mkF m 44 #[.val (.ref y0), .val (.int y1), .val (.int N), .val (.int N), .val (.int (N - y1))] [(.ref b479)]))
  refine g_goto X479 hx hby own_d24_44 (by decide) (pc' := 57) (by decide) ?_
  exact gh_retA X479 hx hby hZ479 hS479 hk479 (own_hEL hw) hC479 hret hlk rfl rfl own_d24_57 ⟨b479, rfl, ka479, la479⟩ (by decide) (by decide)
set_option maxRecDepth 65536 in
set_option maxHeartbeats 40000000 in
theorem own_ef480 (m : MethodId) (y0 : Addr) (y1 : Int32)  : entryFrame m #[(.ref y0), (.int y1)] 2 = mkF m 0 #[.val (.ref y0), .val (.int y1)] [] := by first | (simp [entryFrame, mkF, argsToLocals, Value.category, maxLocals]; done) | rfl
set_option maxRecDepth 65536 in
set_option maxHeartbeats 40000000 in
theorem own_s1C (l : Launch) (Z : State) (a0 : Array Value) (hw : ∀ d ∈ tables_1, d.before a0 Z = true) (y0 : Addr) (y1 : Int32) (h0 : Heap) (n0 : Nat) (n : Nat) (N : Int32) (f : Nat → Int32) (hN : N.toInt = (n : Int)) (P0 : Lat Z h0 y0 n f) (cs : Int32) (Sc : Sta Z h0 "java/lang/String" "COMPACT_STRINGS" "Z" (.int cs)) (hcs : ¬ cs = 0) (fm : Value) (Sf : Sta Z h0 "jdk/internal/util/Preconditions" "SIOOBE_FORMATTER" "Ljava/util/function/BiFunction;" fm) (hfm : fm.isRef = true) (hE : y1.toInt = N.toInt) (hn1 : 1 ≤ n) (Z0 : n0 ≤ h0.size) :
    CtrH l Z own_EL [] (⟨"java/lang/String", "substring", "(I)Ljava/lang/String;"⟩ : MethodName) jdk_42_method_91_code 2 (some (.object "java/lang/String")) [] (own_room 5 2 4 102) #[(.ref y0), (.int y1)] h0 n0 2 4 (fun v h => ∃ b, v = some (.ref b) ∧ Keep h0 h [] ∧ Lat Z h b 0 (fun i => ([] : List Int32).getD i 0)) := by
  refine CtrH.of (plainFor_of_name own_pn0) ?_
  intro p e s m below meth c T0 hx hby hml hret hlk hnm hown hZ X0 hS hC0 hss
  rw [own_ef480 m (y0) (y1)]
  obtain ⟨v0, LE0, LV0, LC0, LA0⟩ := P0
  refine g_aloadN X0 hx hby own_d25_0 rfl rfl (pc' := 1) rfl ?_
  refine g_iloadN X0 hx hby own_d25_1 rfl (pc' := 2) rfl ?_
  refine g_aloadN X0 hx hby own_d25_2 rfl rfl (pc' := 3) rfl ?_
  refine g_callV (argsL := []) (S := [(.int y1), (.ref y0)]) (a := y0) X0 hx hby hZ (y := (⟨"java/lang/String", "length", "()I"⟩ : MethodName)) (y' := (⟨"java/lang/String", "length", "()I"⟩ : MethodName)) hown (hw _ (List.mem_of_getElem? (i := 36) rfl)) (hw _ (List.mem_of_getElem? (i := 37) rfl)) (notFace_of_selects (args := #[]) (mvT hZ (hw _ (List.mem_of_getElem? (i := 39) rfl)))) (hw _ (List.mem_of_getElem? (i := 39) rfl)) (hw _ (List.mem_of_getElem? (i := 38) rfl)) (hw _ (List.mem_of_getElem? (i := 8) rfl)) (hw _ (List.mem_of_getElem? (i := 40) rfl)) (by decide) LE0 (own_ln l Z a0 hw y0 h0 n0 n N f hN ⟨v0, LE0, LV0, LC0, LA0⟩ cs Sc hcs ) (by rw [hml]; rfl) (lenOf own_pd12 rfl) rfl own_d25_3 (by decide) (W := 2) (by exact Nat.le_of_eq rfl) (by decide) (by decide) (by decide) (pc' := 6) rfl (fun T481 v481 X481 hQ481 => ?_)
  obtain ⟨rfl, e481⟩ := hQ481
  rw [e481] at X481
  show Gl p e below n0 _ _ (T481.setTop (mkF m 6 #[.val (.ref y0), .val (.int y1)] [(.int N), (.int y1), (.ref y0)]))
  refine gh_callV (argsL := [(.int y1), (.int N)]) (S := []) (a := y0) X481 hx hby hZ hS (Nat.le_refl _) (own_hEL hw) hC0 own_nss (y := (⟨"java/lang/String", "substring", "(II)Ljava/lang/String;"⟩ : MethodName)) (y' := (⟨"java/lang/String", "substring", "(II)Ljava/lang/String;"⟩ : MethodName)) hown (hw _ (List.mem_of_getElem? (i := 73) rfl)) (hw _ (List.mem_of_getElem? (i := 74) rfl)) (notFace_of_selects (args := #[]) (mvT hZ (hw _ (List.mem_of_getElem? (i := 76) rfl)))) (hw _ (List.mem_of_getElem? (i := 76) rfl)) (hw _ (List.mem_of_getElem? (i := 75) rfl)) (hw _ (List.mem_of_getElem? (i := 8) rfl)) (hw _ (List.mem_of_getElem? (i := 77) rfl)) (by decide) LE0 (own_s2C l Z a0 hw y0 y1 h0 n0 n N f hN ⟨v0, LE0, LV0, LC0, LA0⟩ cs Sc hcs fm Sf hfm hE hn1 Z0) (by rw [hml]; rfl) (lenOf own_pd17 rfl) rfl own_d25_6 (by decide) (W := 0) (by exact Nat.le_of_eq rfl) (by decide) (by decide) (by decide) (pc' := 9) rfl (fun T482 v482 k482 X482 hS482 hk482 hZ482 hown482 hC482 hD482 hQ482 => ?_)
  obtain ⟨b482, rfl, ka482, la482⟩ := hQ482
  show Gl p e below n0 _ _ (T482.setTop (mkF m 9 #[.val (.ref y0), .val (.int y1)] [(.ref b482)]))
  exact gh_retA X482 hx hby hZ482 hS482 hk482 (own_hEL hw) hC482 hret hlk rfl rfl own_d25_9 ⟨b482, rfl, ka482, la482⟩ (by decide) (by decide)
set_option maxRecDepth 65536 in
set_option maxHeartbeats 40000000 in
theorem own_ef483 (m : MethodId) (y0 : Addr)  : entryFrame m #[(.ref y0)] 1 = mkF m 0 #[.val (.ref y0)] [] := by first | (simp [entryFrame, mkF, argsToLocals, Value.category, maxLocals]; done) | rfl
set_option maxRecDepth 65536 in
set_option maxHeartbeats 40000000 in
theorem own_uqC (l : Launch) (Z : State) (a0 : Array Value) (hw : ∀ d ∈ tables_1, d.before a0 Z = true) (y0 : Addr) (h0 : Heap) (n0 : Nat) (n : Nat) (N : Int32) (f : Nat → Int32) (hN : N.toInt = (n : Int)) (P0 : Lat Z h0 y0 n f) (cs : Int32) (Sc : Sta Z h0 "java/lang/String" "COMPACT_STRINGS" "Z" (.int cs)) (hcs : ¬ cs = 0) (fm : Value) (Sf : Sta Z h0 "jdk/internal/util/Preconditions" "SIOOBE_FORMATTER" "Ljava/util/function/BiFunction;" fm) (hfm : fm.isRef = true) (K : Int32) (hK : -1 ≤ K.toInt ∧ K.toInt < (n : Int)) (hat : 0 ≤ K.toInt → f K.toInt.toNat = 46) (hno : ∀ j : Nat, K.toInt < (j : Int) → j < n → ¬ f j = 46) (hkn : K.toInt + 1 = (n : Int)) (hn1 : 1 ≤ n) (Z0 : n0 ≤ h0.size) :
    CtrH l Z own_EL [] (⟨"com/example/hifadhi/hifadhi/mapping/QualifiedName", "unqualified", "(Ljava/lang/String;)Ljava/lang/String;"⟩ : MethodName) prog_2_method_3_code 1 (some (.object "java/lang/String")) [] (own_room 6 2 4 115) #[(.ref y0)] h0 n0 2 4 (fun v h => ∃ b, v = some (.ref b) ∧ Keep h0 h [] ∧ Lat Z h b 0 (fun i => ([] : List Int32).getD i 0)) := by
  refine CtrH.of (plainFor_of_name own_pn5) ?_
  intro p e s m below meth c T0 hx hby hml hret hlk hnm hown hZ X0 hS hC0 hss
  rw [own_ef483 m (y0)]
  have rk := rng32 N
  obtain ⟨v0, LE0, LV0, LC0, LA0⟩ := P0
  refine g_aloadN X0 hx hby own_d26_0 rfl rfl (pc' := 1) rfl ?_
  refine g_aloadN X0 hx hby own_d26_1 rfl rfl (pc' := 2) rfl ?_
  refine g_bipush (v := 46) X0 hx hby own_d26_2 rfl (pc' := 4) rfl ?_
  refine g_callV (argsL := [(.int (46 : Int32))]) (S := [(.ref y0)]) (a := y0) X0 hx hby hZ (y := (⟨"java/lang/String", "lastIndexOf", "(I)I"⟩ : MethodName)) (y' := (⟨"java/lang/String", "lastIndexOf", "(I)I"⟩ : MethodName)) hown (hw _ (List.mem_of_getElem? (i := 31) rfl)) (hw _ (List.mem_of_getElem? (i := 32) rfl)) (notFace_of_selects (args := #[]) (mvT hZ (hw _ (List.mem_of_getElem? (i := 34) rfl)))) (hw _ (List.mem_of_getElem? (i := 34) rfl)) (hw _ (List.mem_of_getElem? (i := 33) rfl)) (hw _ (List.mem_of_getElem? (i := 8) rfl)) (hw _ (List.mem_of_getElem? (i := 35) rfl)) (by decide) LE0 (own_l1 l Z a0 hw y0 h0 n0 n N f hN ⟨v0, LE0, LV0, LC0, LA0⟩ cs Sc hcs K hK hat hno) (by rw [hml]; rfl) (lenOf own_pd18 rfl) rfl own_d26_4 (by decide) (W := 1) (by exact Nat.le_of_eq rfl) (by decide) (by decide) (by decide) (pc' := 7) rfl (fun T484 v484 X484 hQ484 => ?_)
  obtain ⟨rfl, e484⟩ := hQ484
  rw [e484] at X484
  show Gl p e below n0 _ _ (T484.setTop (mkF m 7 #[.val (.ref y0)] [(.int K), (.ref y0)]))
  refine g_iconst (v := 1) X484 hx hby own_d26_7 rfl (pc' := 8) rfl ?_
  refine g_iadd X484 hx hby own_d26_8 (pc' := 9) rfl ?_
  refine gh_callV (argsL := [(.int (K + (1 : Int32)))]) (S := []) (a := y0) X484 hx hby hZ hS (Nat.le_refl _) (own_hEL hw) hC0 own_nss (y := (⟨"java/lang/String", "substring", "(I)Ljava/lang/String;"⟩ : MethodName)) (y' := (⟨"java/lang/String", "substring", "(I)Ljava/lang/String;"⟩ : MethodName)) hown (hw _ (List.mem_of_getElem? (i := 68) rfl)) (hw _ (List.mem_of_getElem? (i := 69) rfl)) (notFace_of_selects (args := #[]) (mvT hZ (hw _ (List.mem_of_getElem? (i := 71) rfl)))) (hw _ (List.mem_of_getElem? (i := 71) rfl)) (hw _ (List.mem_of_getElem? (i := 70) rfl)) (hw _ (List.mem_of_getElem? (i := 8) rfl)) (hw _ (List.mem_of_getElem? (i := 72) rfl)) (by decide) LE0 (own_s1C l Z a0 hw y0 (K + (1 : Int32)) h0 n0 n N f hN ⟨v0, LE0, LV0, LC0, LA0⟩ cs Sc hcs fm Sf hfm (by rw [own_inc (by omega)]; omega) (by omega) Z0) (by rw [hml]; rfl) (lenOf own_pd19 rfl) rfl own_d26_9 (by decide) (W := 0) (by exact Nat.le_of_eq rfl) (by decide) (by decide) (by decide) (pc' := 12) rfl (fun T485 v485 k485 X485 hS485 hk485 hZ485 hown485 hC485 hD485 hQ485 => ?_)
  obtain ⟨b485, rfl, ka485, la485⟩ := hQ485
  show Gl p e below n0 _ _ (T485.setTop (mkF m 12 #[.val (.ref y0)] [(.ref b485)]))
  exact gh_retA X485 hx hby hZ485 hS485 hk485 (own_hEL hw) hC485 hret hlk rfl rfl own_d26_12 ⟨b485, rfl, ka485, la485⟩ (by decide) (by decide)
set_option maxRecDepth 65536 in
set_option maxHeartbeats 40000000 in
theorem own_ef486 (m : MethodId) (y0 : Int32)  : entryFrame m #[(.int y0)] 1 = mkF m 0 #[.val (.int y0)] [] := by first | (simp [entryFrame, mkF, argsToLocals, Value.category, maxLocals]; done) | rfl
theorem own_pn6 : plainName "com/example/hifadhi/hifadhi/mapping/QualifiedNameUnqualifiedPinLaw" = true := by first | (simp [plainName, overriddenIn]; done) | decide +kernel
theorem own_d27_0 : decode method_2_code 0 = .ok (.iload_n 0, 1) := by decide +kernel
theorem own_d27_1 : decode method_2_code 1 = .ok (.iconst 1, 1) := by decide +kernel
theorem own_d27_2 : decode method_2_code 2 = .ok (.iand, 1) := by decide +kernel
theorem own_d27_3 : decode method_2_code 3 = .ok (.ifCond .ne 6, 3) := by decide +kernel
theorem own_d27_9 : decode method_2_code 9 = .ok (.iload_n 0, 1) := by decide +kernel
theorem own_d27_10 : decode method_2_code 10 = .ok (.iconst 1, 1) := by decide +kernel
theorem own_d27_11 : decode method_2_code 11 = .ok (.iushr, 1) := by decide +kernel
theorem own_d27_12 : decode method_2_code 12 = .ok (.sipush 255, 3) := by decide +kernel
theorem own_d27_15 : decode method_2_code 15 = .ok (.iand, 1) := by decide +kernel
theorem own_d27_16 : decode method_2_code 16 = .ok (.i2c, 1) := by decide +kernel
theorem own_d27_17 : decode method_2_code 17 = .ok (.ireturn, 1) := by decide +kernel
theorem own_d27_6 : decode method_2_code 6 = .ok (.bipush 46, 2) := by decide +kernel
theorem own_d27_8 : decode method_2_code 8 = .ok (.ireturn, 1) := by decide +kernel
set_option maxRecDepth 65536 in
set_option maxHeartbeats 40000000 in
theorem own_chc (l : Launch) (Z : State) (a0 : Array Value) (hw : ∀ d ∈ tables_1, d.before a0 Z = true) (y0 : Int32) (h0 : Heap) (n0 : Nat)  :
    Ctr l Z (⟨"com/example/hifadhi/hifadhi/mapping/QualifiedNameUnqualifiedPinLaw", "ch", "(I)C"⟩ : MethodName) method_2_code 1 (some .char) [] (own_room 0 0 0 0) #[(.int y0)] h0 n0 0 0 (fun v h => ∃ c : Int32, v = some (.int c) ∧ (0 ≤ c.toInt ∧ c.toInt ≤ 255) ∧ h = h0) := by
  refine Ctr.of (plainFor_of_name own_pn6) ?_
  intro p e s m below meth c T0 hx hby hml hret hlk hnm hown hZ X0
  rw [own_ef486 m (y0)]
  refine g_iloadN X0 hx hby own_d27_0 rfl (pc' := 1) rfl ?_
  refine g_iconst (v := 1) X0 hx hby own_d27_1 rfl (pc' := 2) rfl ?_
  refine g_iand X0 hx hby own_d27_2 (pc' := 3) rfl ?_
  refine g_if_ne X0 hx hby own_d27_3 (by decide) (pc' := 9) (by decide) (pc2 := 6) rfl (fun c3_487 => ?_) (fun c3_487 => ?_)
  · refine g_iloadN X0 hx hby own_d27_9 rfl (pc' := 10) rfl ?_
    refine g_iconst (v := 1) X0 hx hby own_d27_10 rfl (pc' := 11) rfl ?_
    refine g_iushr X0 hx hby own_d27_11 (pc' := 12) rfl ?_
    refine g_sipush (v := 255) X0 hx hby own_d27_12 rfl (pc' := 15) rfl ?_
    refine g_iand X0 hx hby own_d27_15 (pc' := 16) rfl ?_
    refine g_i2c X0 hx hby own_d27_16 (pc' := 17) rfl ?_
    exact g_retN X0 hx hby hret hlk (by simp) own_d27_17 ⟨_, congrArg (fun z => some (Value.int z)) (own_narc _), own_ch _, rfl⟩ (by decide) (by decide)
  · refine g_bipush (v := 46) X0 hx hby own_d27_6 rfl (pc' := 8) rfl ?_
    exact g_retN X0 hx hby hret hlk (by simp) own_d27_8 ⟨46, rfl, ⟨by decide, by decide⟩, rfl⟩ (by decide) (by decide)
set_option maxRecDepth 65536 in
set_option maxHeartbeats 40000000 in
theorem own_ef488 (m : MethodId) (y0 : Int32) (y1 : Int32) (y2 : Int32) (y3 : Int32) (y4 : Int32)  : entryFrame m #[(.int y0), (.int y1), (.int y2), (.int y3), (.int y4)] maxLocals = mkF m 0 #[.val (.int y0), .val (.int y1), .val (.int y2), .val (.int y3), .val (.int y4), .unset, .unset, .unset, .unset, .unset, .unset, .unset] [] := by first | (simp [entryFrame, mkF, argsToLocals, Value.category, maxLocals]; done) | rfl
theorem own_pd21 : parseMethodDescriptor "(I)C" = some ⟨[.int], (some .char)⟩ := by decide +kernel
theorem own_pd22 : parseMethodDescriptor "([C)V" = some ⟨[(.array .char)], none⟩ := by decide +kernel
theorem own_pd23 : parseMethodDescriptor "(Ljava/lang/String;)Ljava/lang/String;" = some ⟨[(.object "java/lang/String")], (some (.object "java/lang/String"))⟩ := by decide +kernel
set_option maxRecDepth 65536 in
set_option maxHeartbeats 40000000 in
theorem own_rm0 (l : Launch) (Z : State) (a0 : Array Value) (hw : ∀ d ∈ tables_1, d.before a0 Z = true) (y0 y1 y2 y3 y4 : Int32) (h0 : Heap) (n0 : Nat) (Z0 : n0 ≤ h0.size) (hCH : CHv Z own_EL Z.vm Z.heap) (cs : Int32) (Sc : Sta Z h0 "java/lang/String" "COMPACT_STRINGS" "Z" (.int cs)) (hcs : ¬ cs = 0) (fm : Value) (Sf : Sta Z h0 "jdk/internal/util/Preconditions" "SIOOBE_FORMATTER" "Ljava/util/function/BiFunction;" fm) (hfm : fm.isRef = true) :
    CtrL l Z x code maxLocals ret tables_1 room_1 #[(.int y0), (.int y1), (.int y2), (.int y3), (.int y4)] h0 n0 12 60 (fun v h => v = some (.int 1)) := by
  refine CtrL.of (plainFor_of_name own_pn6) ?_
  intro p e s m below meth c T0 hx hby hml hret hlk hnm hown hZ X0 hS hsZ hsh
  rw [own_ef488 m (y0) (y1) (y2) (y3) (y4)]
  have hC0 : CHr Z own_EL s.vm h0 s.vm h0 := CHr.refl (by rw [← hsh, hsZ]; exact hCH)
  refine g_iloadN X0 hx hby at_0 rfl (pc' := 1) rfl ?_
  refine g_ldc X0 hx hby hZ hown (hw _ (List.mem_of_getElem? (i := 0) rfl)) at_1 (pc' := 3) rfl ?_
  refine g_iand X0 hx hby at_3 (pc' := 4) rfl ?_
  refine g_iconst (v := 5) X0 hx hby at_4 rfl (pc' := 5) rfl ?_
  refine g_irem X0 hx hby at_5 (by decide) (pc' := 6) rfl ?_
  refine g_istore (L' := #[.val (.int y0), .val (.int y1), .val (.int y2), .val (.int y3), .val (.int y4), .val (.int ((y0 &&& (2147483647 : Int32)) % (5 : Int32))), .unset, .unset, .unset, .unset, .unset, .unset]) X0 hx hby at_6 rfl (pc' := 8) rfl ?_
  rcases own_five y0 with q5 | q5 | q5 | q5 | q5
  · rw [q5]
    refine g_iconst (v := 4) X0 hx hby at_8 rfl (pc' := 9) rfl ?_
    refine g_newarray (k := 4) (cap := 4) X0 hx hby hZ (hw _ (List.mem_of_getElem? (i := 1) rfl)) at_9 rfl (by decide) (by decide) (by decide) (by decide) (pc' := 11) rfl (fun T489 h489 b489 g489 X489 E489 A489 => ?_)
    have nn490 : n0 ≤ b489 := by rw [g489]; exact Z0
    have hh491 : h0.size ≤ b489 := by rw [g489]; exact (Keep.refl h0 []).1
    have sn492 := Safe.ext E489 hC0.1 (Safe.new (x := b489) (Nat.le_of_eq g489.symm))
    have ch493 := hC0.trans (CHr.ext E489 hC0.1)
    have hk494 := Nat.le_trans (Nat.le_refl _) E489.1
    have q495 := Sc.ext E489
    have q496 := Sf.ext E489
    have zz497 := Nat.le_trans Z0 E489.1
    have kk498 : Keep h0 h489 [] := (Keep.refl h0 []).ext E489
    refine g_dup X489 hx hby at_11 rfl (pc' := 12) rfl ?_
    refine g_iconst (v := 0) X489 hx hby at_12 rfl (pc' := 13) rfl ?_
    refine g_iloadN X489 hx hby at_13 rfl (pc' := 14) rfl ?_
    refine g_callS (argsL := [(.int y1)]) (S := [(.int (0 : Int32)), (.ref b489), (.ref b489)]) X489 hx hby hZ (y := (⟨"com/example/hifadhi/hifadhi/mapping/QualifiedNameUnqualifiedPinLaw", "ch", "(I)C"⟩ : MethodName)) hown (hw _ (List.mem_of_getElem? (i := 2) rfl)) (hw _ (List.mem_of_getElem? (i := 3) rfl)) (hw _ (List.mem_of_getElem? (i := 4) rfl)) (hw _ (List.mem_of_getElem? (i := 5) rfl)) (by decide) (own_chc l Z a0 hw y1 h489 n0) (by rw [hml]; rfl) (lenOf own_pd21 rfl) rfl at_14 (by decide) (W := 3) (by exact Nat.le_of_eq rfl) (by decide) (by decide) (by decide) (pc' := 17) rfl (fun T499 v499 X499 hQ499 => ?_)
    obtain ⟨k499, rfl, rg499, e499⟩ := hQ499
    rw [e499] at X499
    show Gl p e below n0 _ _ (T499.setTop (mkF m 17 #[.val (.int y0), .val (.int y1), .val (.int y2), .val (.int y3), .val (.int y4), .val (.int (0 : Int32)), .unset, .unset, .unset, .unset, .unset, .unset] [(.int k499), (.int (0 : Int32)), (.ref b489), (.ref b489)]))
    refine g_castore (i := 0) X499 hx hby hZ A489 rfl (by decide) nn490 at_17 (pc' := 18) rfl (fun T500 h500 sl500 X500 W500 A500 => ?_)
    have sf501 := Safe.wr W500 sn492 ch493.1 sn492
    have ch502 := ch493.trans (CHr.wr W500 sn492 ch493.1)
    have q503 := q495.wr W500
    have q504 := q496.wr W500
    have zz505 := Nat.le_trans zz497 (Nat.le_of_eq W500.size.symm)
    have hk506 := Nat.le_trans hk494 (Nat.le_of_eq W500.size.symm)
    have kk507 : Keep h0 h500 [] := kk498.wr W500 (Or.inr hh491)
    refine g_dup X500 hx hby at_18 rfl (pc' := 19) rfl ?_
    refine g_iconst (v := 1) X500 hx hby at_19 rfl (pc' := 20) rfl ?_
    refine g_iloadN X500 hx hby at_20 rfl (pc' := 21) rfl ?_
    refine g_callS (argsL := [(.int y2)]) (S := [(.int (1 : Int32)), (.ref b489), (.ref b489)]) X500 hx hby hZ (y := (⟨"com/example/hifadhi/hifadhi/mapping/QualifiedNameUnqualifiedPinLaw", "ch", "(I)C"⟩ : MethodName)) hown (hw _ (List.mem_of_getElem? (i := 2) rfl)) (hw _ (List.mem_of_getElem? (i := 3) rfl)) (hw _ (List.mem_of_getElem? (i := 4) rfl)) (hw _ (List.mem_of_getElem? (i := 5) rfl)) (by decide) (own_chc l Z a0 hw y2 h500 n0) (by rw [hml]; rfl) (lenOf own_pd21 rfl) rfl at_21 (by decide) (W := 3) (by exact Nat.le_of_eq rfl) (by decide) (by decide) (by decide) (pc' := 24) rfl (fun T508 v508 X508 hQ508 => ?_)
    obtain ⟨k508, rfl, rg508, e508⟩ := hQ508
    rw [e508] at X508
    show Gl p e below n0 _ _ (T508.setTop (mkF m 24 #[.val (.int y0), .val (.int y1), .val (.int y2), .val (.int y3), .val (.int y4), .val (.int (0 : Int32)), .unset, .unset, .unset, .unset, .unset, .unset] [(.int k508), (.int (1 : Int32)), (.ref b489), (.ref b489)]))
    refine g_castore (i := 1) X508 hx hby hZ A500 rfl (by decide) nn490 at_24 (pc' := 25) rfl (fun T509 h509 sl509 X509 W509 A509 => ?_)
    have sf510 := Safe.wr W509 sf501 ch502.1 sf501
    have ch511 := ch502.trans (CHr.wr W509 sf501 ch502.1)
    have q512 := q503.wr W509
    have q513 := q504.wr W509
    have zz514 := Nat.le_trans zz505 (Nat.le_of_eq W509.size.symm)
    have hk515 := Nat.le_trans hk506 (Nat.le_of_eq W509.size.symm)
    have kk516 : Keep h0 h509 [] := kk507.wr W509 (Or.inr hh491)
    refine g_dup X509 hx hby at_25 rfl (pc' := 26) rfl ?_
    refine g_iconst (v := 2) X509 hx hby at_26 rfl (pc' := 27) rfl ?_
    refine g_iloadN X509 hx hby at_27 rfl (pc' := 28) rfl ?_
    refine g_callS (argsL := [(.int y3)]) (S := [(.int (2 : Int32)), (.ref b489), (.ref b489)]) X509 hx hby hZ (y := (⟨"com/example/hifadhi/hifadhi/mapping/QualifiedNameUnqualifiedPinLaw", "ch", "(I)C"⟩ : MethodName)) hown (hw _ (List.mem_of_getElem? (i := 2) rfl)) (hw _ (List.mem_of_getElem? (i := 3) rfl)) (hw _ (List.mem_of_getElem? (i := 4) rfl)) (hw _ (List.mem_of_getElem? (i := 5) rfl)) (by decide) (own_chc l Z a0 hw y3 h509 n0) (by rw [hml]; rfl) (lenOf own_pd21 rfl) rfl at_28 (by decide) (W := 3) (by exact Nat.le_of_eq rfl) (by decide) (by decide) (by decide) (pc' := 31) rfl (fun T517 v517 X517 hQ517 => ?_)
    obtain ⟨k517, rfl, rg517, e517⟩ := hQ517
    rw [e517] at X517
    show Gl p e below n0 _ _ (T517.setTop (mkF m 31 #[.val (.int y0), .val (.int y1), .val (.int y2), .val (.int y3), .val (.int y4), .val (.int (0 : Int32)), .unset, .unset, .unset, .unset, .unset, .unset] [(.int k517), (.int (2 : Int32)), (.ref b489), (.ref b489)]))
    refine g_castore (i := 2) X517 hx hby hZ A509 rfl (by decide) nn490 at_31 (pc' := 32) rfl (fun T518 h518 sl518 X518 W518 A518 => ?_)
    have sf519 := Safe.wr W518 sf510 ch511.1 sf510
    have ch520 := ch511.trans (CHr.wr W518 sf510 ch511.1)
    have q521 := q512.wr W518
    have q522 := q513.wr W518
    have zz523 := Nat.le_trans zz514 (Nat.le_of_eq W518.size.symm)
    have hk524 := Nat.le_trans hk515 (Nat.le_of_eq W518.size.symm)
    have kk525 : Keep h0 h518 [] := kk516.wr W518 (Or.inr hh491)
    refine g_dup X518 hx hby at_32 rfl (pc' := 33) rfl ?_
    refine g_iconst (v := 3) X518 hx hby at_33 rfl (pc' := 34) rfl ?_
    refine g_iload X518 hx hby at_34 rfl (pc' := 36) rfl ?_
    refine g_callS (argsL := [(.int y4)]) (S := [(.int (3 : Int32)), (.ref b489), (.ref b489)]) X518 hx hby hZ (y := (⟨"com/example/hifadhi/hifadhi/mapping/QualifiedNameUnqualifiedPinLaw", "ch", "(I)C"⟩ : MethodName)) hown (hw _ (List.mem_of_getElem? (i := 2) rfl)) (hw _ (List.mem_of_getElem? (i := 3) rfl)) (hw _ (List.mem_of_getElem? (i := 4) rfl)) (hw _ (List.mem_of_getElem? (i := 5) rfl)) (by decide) (own_chc l Z a0 hw y4 h518 n0) (by rw [hml]; rfl) (lenOf own_pd21 rfl) rfl at_36 (by decide) (W := 3) (by exact Nat.le_of_eq rfl) (by decide) (by decide) (by decide) (pc' := 39) rfl (fun T526 v526 X526 hQ526 => ?_)
    obtain ⟨k526, rfl, rg526, e526⟩ := hQ526
    rw [e526] at X526
    show Gl p e below n0 _ _ (T526.setTop (mkF m 39 #[.val (.int y0), .val (.int y1), .val (.int y2), .val (.int y3), .val (.int y4), .val (.int (0 : Int32)), .unset, .unset, .unset, .unset, .unset, .unset] [(.int k526), (.int (3 : Int32)), (.ref b489), (.ref b489)]))
    refine g_castore (i := 3) X526 hx hby hZ A518 rfl (by decide) nn490 at_39 (pc' := 40) rfl (fun T527 h527 sl527 X527 W527 A527 => ?_)
    have sf528 := Safe.wr W527 sf519 ch520.1 sf519
    have ch529 := ch520.trans (CHr.wr W527 sf519 ch520.1)
    have q530 := q521.wr W527
    have q531 := q522.wr W527
    have zz532 := Nat.le_trans zz523 (Nat.le_of_eq W527.size.symm)
    have hk533 := Nat.le_trans hk524 (Nat.le_of_eq W527.size.symm)
    have kk534 : Keep h0 h527 [] := kk525.wr W527 (Or.inr hh491)
    refine g_astore (L' := #[.val (.int y0), .val (.int y1), .val (.int y2), .val (.int y3), .val (.int y4), .val (.int (0 : Int32)), .val (.ref b489), .unset, .unset, .unset, .unset, .unset]) X527 hx hby at_40 rfl rfl (pc' := 42) rfl ?_
    have AG535 : Ary Z h527 b489 .char 4 (fun i => .int ((own_cf k499 k508 k517 k526) i)) := by
      refine A527.congr fun i hi => ?_
      have h8 : i = 0 ∨ i = 1 ∨ i = 2 ∨ i = 3 := by omega
      rcases h8 with rfl | rfl | rfl | rfl
      · exact congrArg Value.int (own_narC ⟨rg499.1, Int.le_trans rg499.2 (by decide)⟩)
      · exact congrArg Value.int (own_narC ⟨rg508.1, Int.le_trans rg508.2 (by decide)⟩)
      · exact congrArg Value.int (own_narC ⟨rg517.1, Int.le_trans rg517.2 (by decide)⟩)
      · exact congrArg Value.int (own_narC ⟨rg526.1, Int.le_trans rg526.2 (by decide)⟩)
    refine g_iload X527 hx hby at_42 rfl (pc' := 44) rfl ?_
    refine g_newarray (k := 0) (cap := 0) X527 hx hby hZ (hw _ (List.mem_of_getElem? (i := 1) rfl)) at_44 rfl (by decide) (by decide) (by decide) (by decide) (pc' := 46) rfl (fun T536 h536 b536 g536 X536 E536 A536 => ?_)
    have ne537 : b489 ≠ b536 := by rw [g536]; exact Nat.ne_of_lt AG535.lt
    have nn538 : n0 ≤ b536 := by rw [g536]; exact zz532
    have hh539 : h0.size ≤ b536 := by rw [g536]; exact kk534.1
    have sn540 := Safe.ext E536 ch529.1 (Safe.new (x := b536) (Nat.le_of_eq g536.symm))
    have sf541 := Safe.ext E536 ch529.1 sf528
    have ch542 := ch529.trans (CHr.ext E536 ch529.1)
    have hk543 := Nat.le_trans hk533 E536.1
    have q544 := q530.ext E536
    have q545 := q531.ext E536
    have q546 := AG535.ext E536
    have zz547 := Nat.le_trans zz532 E536.1
    have kk548 : Keep h0 h536 [] := kk534.ext E536
    refine g_astore (L' := #[.val (.int y0), .val (.int y1), .val (.int y2), .val (.int y3), .val (.int y4), .val (.int (0 : Int32)), .val (.ref b489), .val (.ref b536), .unset, .unset, .unset, .unset]) X536 hx hby at_46 rfl rfl (pc' := 48) rfl ?_
    refine g_iload X536 hx hby at_48 rfl (pc' := 50) rfl ?_
    refine g_if_le X536 hx hby at_50 (by decide) (pc' := 61) (by decide) (pc2 := 53) rfl (fun c50_549 => ?_) (fun q => absurd q (by decide))
    refine g_iload X536 hx hby at_61 rfl (pc' := 63) rfl ?_
    refine g_iconst (v := 1) X536 hx hby at_63 rfl (pc' := 64) rfl ?_
    refine g_icmp_le X536 hx hby at_64 (by decide) (pc' := 75) (by decide) (pc2 := 67) rfl (fun c64_550 => ?_) (fun q => absurd q (by decide))
    refine g_iload X536 hx hby at_75 rfl (pc' := 77) rfl ?_
    refine g_iconst (v := 2) X536 hx hby at_77 rfl (pc' := 78) rfl ?_
    refine g_icmp_le X536 hx hby at_78 (by decide) (pc' := 89) (by decide) (pc2 := 81) rfl (fun c78_551 => ?_) (fun q => absurd q (by decide))
    refine g_iload X536 hx hby at_89 rfl (pc' := 91) rfl ?_
    refine g_iconst (v := 3) X536 hx hby at_91 rfl (pc' := 92) rfl ?_
    refine g_icmp_le X536 hx hby at_92 (by decide) (pc' := 103) (by decide) (pc2 := 95) rfl (fun c92_552 => ?_) (fun q => absurd q (by decide))
    refine g_new X536 hx hby hZ hown (hw _ (List.mem_of_getElem? (i := 6) rfl)) (hw _ (List.mem_of_getElem? (i := 7) rfl)) (hw _ (List.mem_of_getElem? (i := 8) rfl)) at_103 (by decide) (by decide) (pc' := 106) rfl (fun T554 h554 b554 g554 X554 E554 A554 D554 => ?_)
    have ne555 : b489 ≠ b554 := by rw [g554]; exact Nat.ne_of_lt q546.lt
    have ne556 : b536 ≠ b554 := by rw [g554]; exact Nat.ne_of_lt A536.lt
    have nn557 : n0 ≤ b554 := by rw [g554]; exact zz547
    have hh558 : h0.size ≤ b554 := by rw [g554]; exact kk548.1
    have sn559 := Safe.ext E554 ch542.1 (Safe.new (x := b554) (Nat.le_of_eq g554.symm))
    have sf560 := Safe.ext E554 ch542.1 sf541
    have sf561 := Safe.ext E554 ch542.1 sn540
    have ch562 := ch542.trans (CHr.ext E554 ch542.1)
    have hk563 := Nat.le_trans hk543 E554.1
    have q564 := q544.ext E554
    have q565 := q545.ext E554
    have q566 := q546.ext E554
    have q567 := A536.ext E554
    have zz568 := Nat.le_trans zz547 E554.1
    have kk569 : Keep h0 h554 [] := kk548.ext E554
    have q570 : Fld Z h554 b554 "java/lang/String" "value" "[B" .null := D554 (Or.inr (hw _ (List.mem_of_getElem? (i := 21) rfl))) (ty := (.array .byte)) (by decide)
    have q571 : Fld Z h554 b554 "java/lang/String" "coder" "B" (.int (0 : Int32)) := D554 (Or.inr (hw _ (List.mem_of_getElem? (i := 22) rfl))) (ty := .byte) (by decide)
    refine g_dup X554 hx hby at_106 rfl (pc' := 107) rfl ?_
    refine g_aload X554 hx hby at_107 rfl rfl (pc' := 109) rfl ?_
    refine gh_callC (argsL := [(.ref b536)]) (S := [(.ref b554)]) (a := b554) X554 hx hby hZ hS hk563 (own_hEL hw) ch562 (own_ss1 ⟨A554.lt, sn559⟩) (y := (⟨"java/lang/String", "<init>", "([C)V"⟩ : MethodName)) rfl hown (hw _ (List.mem_of_getElem? (i := 9) rfl)) (hw _ (List.mem_of_getElem? (i := 10) rfl)) (hw _ (List.mem_of_getElem? (i := 8) rfl)) (hw _ (List.mem_of_getElem? (i := 11) rfl)) (by decide) (own_n1_0 l Z a0 hw b554 b536 h554 n0 zz568 _ q567 A554 q570 q571 nn557 cs q564 hcs) (by rw [hml]; rfl) (lenOf own_pd22 rfl) rfl at_109 (by decide) (W := 1) (by exact Nat.le_of_eq rfl) (by decide) (by decide) (by decide) (pc' := 112) rfl (fun T572 v572 k572 X572 hS572 hk572 hZ572 hown572 hC572 hD572 hQ572 => ?_)
    obtain ⟨rfl, ka572, la572⟩ := hQ572
    have q573 := own_sta_keep q564 ka572 (allS (own_plain A554) all0)
    have q574 := own_sta_keep q565 ka572 (allS (own_plain A554) all0)
    have q575 := q566.keep ka572 (ninS ne555 nin0)
    have q576 := q567.keep ka572 (ninS ne556 nin0)
    have q577 := A554.keep ka572
    have zz578 := Nat.le_trans zz568 ka572.1
    have kk579 : Keep h0 T572.heap [] := kk569.trans ka572 (allS (Or.inr hh558) all0)
    obtain ⟨w572, LEn572, LVn572, LCn572, LAn572⟩ := la572
    show Gl p e below n0 _ _ (T572.setTop (mkF m 112 #[.val (.int y0), .val (.int y1), .val (.int y2), .val (.int y3), .val (.int y4), .val (.int (0 : Int32)), .val (.ref b489), .val (.ref b536), .unset, .unset, .unset, .unset] [(.ref b554)]))
    refine g_astore (L' := #[.val (.int y0), .val (.int y1), .val (.int y2), .val (.int y3), .val (.int y4), .val (.int (0 : Int32)), .val (.ref b489), .val (.ref b536), .val (.ref b554), .unset, .unset, .unset]) X572 hx hby at_112 rfl rfl (pc' := 114) rfl ?_
    refine g_iconst (v := (-1)) X572 hx hby at_114 rfl (pc' := 115) rfl ?_
    refine g_istore (L' := #[.val (.int y0), .val (.int y1), .val (.int y2), .val (.int y3), .val (.int y4), .val (.int (0 : Int32)), .val (.ref b489), .val (.ref b536), .val (.ref b554), .val (.int (-1 : Int32)), .unset, .unset]) X572 hx hby at_115 rfl (pc' := 117) rfl ?_
    refine g_iload X572 hx hby at_117 rfl (pc' := 119) rfl ?_
    refine g_if_le X572 hx hby at_119 (by decide) (pc' := 134) (by decide) (pc2 := 122) rfl (fun c119_580 => ?_) (fun q => absurd q (by decide))
    refine g_iload X572 hx hby at_134 rfl (pc' := 136) rfl ?_
    refine g_iconst (v := 1) X572 hx hby at_136 rfl (pc' := 137) rfl ?_
    refine g_icmp_le X572 hx hby at_137 (by decide) (pc' := 152) (by decide) (pc2 := 140) rfl (fun c137_581 => ?_) (fun q => absurd q (by decide))
    refine g_iload X572 hx hby at_152 rfl (pc' := 154) rfl ?_
    refine g_iconst (v := 2) X572 hx hby at_154 rfl (pc' := 155) rfl ?_
    refine g_icmp_le X572 hx hby at_155 (by decide) (pc' := 170) (by decide) (pc2 := 158) rfl (fun c155_582 => ?_) (fun q => absurd q (by decide))
    refine g_iload X572 hx hby at_170 rfl (pc' := 172) rfl ?_
    refine g_iconst (v := 3) X572 hx hby at_172 rfl (pc' := 173) rfl ?_
    refine g_icmp_le X572 hx hby at_173 (by decide) (pc' := 188) (by decide) (pc2 := 176) rfl (fun c173_583 => ?_) (fun q => absurd q (by decide))
    refine g_iload X572 hx hby at_188 rfl (pc' := 190) rfl ?_
    refine g_iload X572 hx hby at_190 rfl (pc' := 192) rfl ?_
    refine g_isub X572 hx hby at_192 (pc' := 193) rfl ?_
    refine g_iconst (v := 1) X572 hx hby at_193 rfl (pc' := 194) rfl ?_
    refine g_isub X572 hx hby at_194 (pc' := 195) rfl ?_
    refine g_istore (L' := #[.val (.int y0), .val (.int y1), .val (.int y2), .val (.int y3), .val (.int y4), .val (.int (0 : Int32)), .val (.ref b489), .val (.ref b536), .val (.ref b554), .val (.int (-1 : Int32)), .val (.int (((0 : Int32) - (-1 : Int32)) - (1 : Int32))), .unset]) X572 hx hby at_195 rfl (pc' := 197) rfl ?_
    have em : (((0 : Int32) - (-1 : Int32)) - (1 : Int32)) = (0 : Int32) := by decide
    rw [em]
    refine g_aload X572 hx hby at_197 rfl rfl (pc' := 199) rfl ?_
    have hno585 : ∀ j : Nat, ((-1 : Int32)).toInt < (j : Int) → j < 0 → ¬ (fun i => ([] : List Int32).getD i 0) j = 46 := by
      intro j h1 h2
      have e1 : ((-1 : Int32)).toInt = -1 := rfl
      exfalso; omega
    refine g_callS (argsL := [(.ref b554)]) (S := []) X572 hx hby hZ572 (y := (⟨"com/example/hifadhi/hifadhi/mapping/QualifiedName", "unqualified", "(Ljava/lang/String;)Ljava/lang/String;"⟩ : MethodName)) hown572 (hw _ (List.mem_of_getElem? (i := 27) rfl)) (hw _ (List.mem_of_getElem? (i := 28) rfl)) (hw _ (List.mem_of_getElem? (i := 29) rfl)) (hw _ (List.mem_of_getElem? (i := 30) rfl)) (by decide) (own_uqA l Z a0 hw b554 T572.heap n0 0 (0 : Int32) (fun i => ([] : List Int32).getD i 0) rfl ⟨w572, LEn572, LVn572, LCn572, LAn572⟩ cs q573 hcs fm q574 hfm (-1 : Int32) ⟨by decide, by decide⟩ (fun q => absurd q (by decide)) hno585 rfl) (by rw [hml]; rfl) (lenOf own_pd23 rfl) rfl at_199 (by decide) (W := 0) (by exact Nat.le_of_eq rfl) (by decide) (by decide) (by decide) (pc' := 202) rfl (fun T584 v584 X584 hQ584 => ?_)
    obtain ⟨rfl, e584⟩ := hQ584
    rw [e584] at X584
    show Gl p e below n0 _ _ (T584.setTop (mkF m 202 #[.val (.int y0), .val (.int y1), .val (.int y2), .val (.int y3), .val (.int y4), .val (.int (0 : Int32)), .val (.ref b489), .val (.ref b536), .val (.ref b554), .val (.int (-1 : Int32)), .val (.int (0 : Int32)), .unset] [(.ref b554)]))
    refine g_astore (L' := #[.val (.int y0), .val (.int y1), .val (.int y2), .val (.int y3), .val (.int y4), .val (.int (0 : Int32)), .val (.ref b489), .val (.ref b536), .val (.ref b554), .val (.int (-1 : Int32)), .val (.int (0 : Int32)), .val (.ref b554)]) X584 hx hby at_202 rfl rfl (pc' := 204) rfl ?_
    refine g_aload X584 hx hby at_204 rfl rfl (pc' := 206) rfl ?_
    refine g_callV (argsL := []) (S := []) (a := b554) X584 hx hby hZ572 (y := (⟨"java/lang/String", "length", "()I"⟩ : MethodName)) (y' := (⟨"java/lang/String", "length", "()I"⟩ : MethodName)) hown572 (hw _ (List.mem_of_getElem? (i := 86) rfl)) (hw _ (List.mem_of_getElem? (i := 37) rfl)) (notFace_of_selects (args := #[]) (mvT hZ572 (hw _ (List.mem_of_getElem? (i := 39) rfl)))) (hw _ (List.mem_of_getElem? (i := 39) rfl)) (hw _ (List.mem_of_getElem? (i := 38) rfl)) (hw _ (List.mem_of_getElem? (i := 8) rfl)) (hw _ (List.mem_of_getElem? (i := 40) rfl)) (by decide) LEn572 (own_ln l Z a0 hw b554 T572.heap n0 0 (0 : Int32) (fun i => ([] : List Int32).getD i 0) rfl ⟨w572, LEn572, LVn572, LCn572, LAn572⟩ cs q573 hcs ) (by rw [hml]; rfl) (lenOf own_pd12 rfl) rfl at_206 (by decide) (W := 0) (by exact Nat.le_of_eq rfl) (by decide) (by decide) (by decide) (pc' := 209) rfl (fun T586 v586 X586 hQ586 => ?_)
    obtain ⟨rfl, e586⟩ := hQ586
    rw [e586] at X586
    show Gl p e below n0 _ _ (T586.setTop (mkF m 209 #[.val (.int y0), .val (.int y1), .val (.int y2), .val (.int y3), .val (.int y4), .val (.int (0 : Int32)), .val (.ref b489), .val (.ref b536), .val (.ref b554), .val (.int (-1 : Int32)), .val (.int (0 : Int32)), .val (.ref b554)] [(.int (0 : Int32))]))
    refine g_iload X586 hx hby at_209 rfl (pc' := 211) rfl ?_
    refine g_icmp_eq X586 hx hby at_211 (by decide) (pc' := 216) (by decide) (pc2 := 214) rfl (fun c211_587 => ?_) (fun q => absurd (by decide) q)
    refine g_iconst (v := 0) X586 hx hby at_216 rfl (pc' := 217) rfl ?_
    refine g_iload X586 hx hby at_217 rfl (pc' := 219) rfl ?_
    refine g_icmp_ge X586 hx hby at_219 (by decide) (pc' := 240) (by decide) (pc2 := 222) rfl (fun c219_588 => ?_) (fun q => absurd q (by decide))
    refine g_iconst (v := 1) X586 hx hby at_240 rfl (pc' := 241) rfl ?_
    refine g_iload X586 hx hby at_241 rfl (pc' := 243) rfl ?_
    refine g_icmp_ge X586 hx hby at_243 (by decide) (pc' := 264) (by decide) (pc2 := 246) rfl (fun c243_589 => ?_) (fun q => absurd q (by decide))
    refine g_iconst (v := 2) X586 hx hby at_264 rfl (pc' := 265) rfl ?_
    refine g_iload X586 hx hby at_265 rfl (pc' := 267) rfl ?_
    refine g_icmp_ge X586 hx hby at_267 (by decide) (pc' := 288) (by decide) (pc2 := 270) rfl (fun c267_590 => ?_) (fun q => absurd q (by decide))
    refine g_iconst (v := 3) X586 hx hby at_288 rfl (pc' := 289) rfl ?_
    refine g_iload X586 hx hby at_289 rfl (pc' := 291) rfl ?_
    refine g_icmp_ge X586 hx hby at_291 (by decide) (pc' := 312) (by decide) (pc2 := 294) rfl (fun c291_591 => ?_) (fun q => absurd q (by decide))
    refine g_iconst (v := 1) X586 hx hby at_312 rfl (pc' := 313) rfl ?_
    exact gw_retN X586 hx hby hS572 hk572 hret hlk (by simp) at_313 rfl (by decide) (by decide)
  · rw [q5]
    refine g_iconst (v := 4) X0 hx hby at_8 rfl (pc' := 9) rfl ?_
    refine g_newarray (k := 4) (cap := 4) X0 hx hby hZ (hw _ (List.mem_of_getElem? (i := 1) rfl)) at_9 rfl (by decide) (by decide) (by decide) (by decide) (pc' := 11) rfl (fun T592 h592 b592 g592 X592 E592 A592 => ?_)
    have nn593 : n0 ≤ b592 := by rw [g592]; exact Z0
    have hh594 : h0.size ≤ b592 := by rw [g592]; exact (Keep.refl h0 []).1
    have sn595 := Safe.ext E592 hC0.1 (Safe.new (x := b592) (Nat.le_of_eq g592.symm))
    have ch596 := hC0.trans (CHr.ext E592 hC0.1)
    have hk597 := Nat.le_trans (Nat.le_refl _) E592.1
    have q598 := Sc.ext E592
    have q599 := Sf.ext E592
    have zz600 := Nat.le_trans Z0 E592.1
    have kk601 : Keep h0 h592 [] := (Keep.refl h0 []).ext E592
    refine g_dup X592 hx hby at_11 rfl (pc' := 12) rfl ?_
    refine g_iconst (v := 0) X592 hx hby at_12 rfl (pc' := 13) rfl ?_
    refine g_iloadN X592 hx hby at_13 rfl (pc' := 14) rfl ?_
    refine g_callS (argsL := [(.int y1)]) (S := [(.int (0 : Int32)), (.ref b592), (.ref b592)]) X592 hx hby hZ (y := (⟨"com/example/hifadhi/hifadhi/mapping/QualifiedNameUnqualifiedPinLaw", "ch", "(I)C"⟩ : MethodName)) hown (hw _ (List.mem_of_getElem? (i := 2) rfl)) (hw _ (List.mem_of_getElem? (i := 3) rfl)) (hw _ (List.mem_of_getElem? (i := 4) rfl)) (hw _ (List.mem_of_getElem? (i := 5) rfl)) (by decide) (own_chc l Z a0 hw y1 h592 n0) (by rw [hml]; rfl) (lenOf own_pd21 rfl) rfl at_14 (by decide) (W := 3) (by exact Nat.le_of_eq rfl) (by decide) (by decide) (by decide) (pc' := 17) rfl (fun T602 v602 X602 hQ602 => ?_)
    obtain ⟨k602, rfl, rg602, e602⟩ := hQ602
    rw [e602] at X602
    show Gl p e below n0 _ _ (T602.setTop (mkF m 17 #[.val (.int y0), .val (.int y1), .val (.int y2), .val (.int y3), .val (.int y4), .val (.int (1 : Int32)), .unset, .unset, .unset, .unset, .unset, .unset] [(.int k602), (.int (0 : Int32)), (.ref b592), (.ref b592)]))
    refine g_castore (i := 0) X602 hx hby hZ A592 rfl (by decide) nn593 at_17 (pc' := 18) rfl (fun T603 h603 sl603 X603 W603 A603 => ?_)
    have sf604 := Safe.wr W603 sn595 ch596.1 sn595
    have ch605 := ch596.trans (CHr.wr W603 sn595 ch596.1)
    have q606 := q598.wr W603
    have q607 := q599.wr W603
    have zz608 := Nat.le_trans zz600 (Nat.le_of_eq W603.size.symm)
    have hk609 := Nat.le_trans hk597 (Nat.le_of_eq W603.size.symm)
    have kk610 : Keep h0 h603 [] := kk601.wr W603 (Or.inr hh594)
    refine g_dup X603 hx hby at_18 rfl (pc' := 19) rfl ?_
    refine g_iconst (v := 1) X603 hx hby at_19 rfl (pc' := 20) rfl ?_
    refine g_iloadN X603 hx hby at_20 rfl (pc' := 21) rfl ?_
    refine g_callS (argsL := [(.int y2)]) (S := [(.int (1 : Int32)), (.ref b592), (.ref b592)]) X603 hx hby hZ (y := (⟨"com/example/hifadhi/hifadhi/mapping/QualifiedNameUnqualifiedPinLaw", "ch", "(I)C"⟩ : MethodName)) hown (hw _ (List.mem_of_getElem? (i := 2) rfl)) (hw _ (List.mem_of_getElem? (i := 3) rfl)) (hw _ (List.mem_of_getElem? (i := 4) rfl)) (hw _ (List.mem_of_getElem? (i := 5) rfl)) (by decide) (own_chc l Z a0 hw y2 h603 n0) (by rw [hml]; rfl) (lenOf own_pd21 rfl) rfl at_21 (by decide) (W := 3) (by exact Nat.le_of_eq rfl) (by decide) (by decide) (by decide) (pc' := 24) rfl (fun T611 v611 X611 hQ611 => ?_)
    obtain ⟨k611, rfl, rg611, e611⟩ := hQ611
    rw [e611] at X611
    show Gl p e below n0 _ _ (T611.setTop (mkF m 24 #[.val (.int y0), .val (.int y1), .val (.int y2), .val (.int y3), .val (.int y4), .val (.int (1 : Int32)), .unset, .unset, .unset, .unset, .unset, .unset] [(.int k611), (.int (1 : Int32)), (.ref b592), (.ref b592)]))
    refine g_castore (i := 1) X611 hx hby hZ A603 rfl (by decide) nn593 at_24 (pc' := 25) rfl (fun T612 h612 sl612 X612 W612 A612 => ?_)
    have sf613 := Safe.wr W612 sf604 ch605.1 sf604
    have ch614 := ch605.trans (CHr.wr W612 sf604 ch605.1)
    have q615 := q606.wr W612
    have q616 := q607.wr W612
    have zz617 := Nat.le_trans zz608 (Nat.le_of_eq W612.size.symm)
    have hk618 := Nat.le_trans hk609 (Nat.le_of_eq W612.size.symm)
    have kk619 : Keep h0 h612 [] := kk610.wr W612 (Or.inr hh594)
    refine g_dup X612 hx hby at_25 rfl (pc' := 26) rfl ?_
    refine g_iconst (v := 2) X612 hx hby at_26 rfl (pc' := 27) rfl ?_
    refine g_iloadN X612 hx hby at_27 rfl (pc' := 28) rfl ?_
    refine g_callS (argsL := [(.int y3)]) (S := [(.int (2 : Int32)), (.ref b592), (.ref b592)]) X612 hx hby hZ (y := (⟨"com/example/hifadhi/hifadhi/mapping/QualifiedNameUnqualifiedPinLaw", "ch", "(I)C"⟩ : MethodName)) hown (hw _ (List.mem_of_getElem? (i := 2) rfl)) (hw _ (List.mem_of_getElem? (i := 3) rfl)) (hw _ (List.mem_of_getElem? (i := 4) rfl)) (hw _ (List.mem_of_getElem? (i := 5) rfl)) (by decide) (own_chc l Z a0 hw y3 h612 n0) (by rw [hml]; rfl) (lenOf own_pd21 rfl) rfl at_28 (by decide) (W := 3) (by exact Nat.le_of_eq rfl) (by decide) (by decide) (by decide) (pc' := 31) rfl (fun T620 v620 X620 hQ620 => ?_)
    obtain ⟨k620, rfl, rg620, e620⟩ := hQ620
    rw [e620] at X620
    show Gl p e below n0 _ _ (T620.setTop (mkF m 31 #[.val (.int y0), .val (.int y1), .val (.int y2), .val (.int y3), .val (.int y4), .val (.int (1 : Int32)), .unset, .unset, .unset, .unset, .unset, .unset] [(.int k620), (.int (2 : Int32)), (.ref b592), (.ref b592)]))
    refine g_castore (i := 2) X620 hx hby hZ A612 rfl (by decide) nn593 at_31 (pc' := 32) rfl (fun T621 h621 sl621 X621 W621 A621 => ?_)
    have sf622 := Safe.wr W621 sf613 ch614.1 sf613
    have ch623 := ch614.trans (CHr.wr W621 sf613 ch614.1)
    have q624 := q615.wr W621
    have q625 := q616.wr W621
    have zz626 := Nat.le_trans zz617 (Nat.le_of_eq W621.size.symm)
    have hk627 := Nat.le_trans hk618 (Nat.le_of_eq W621.size.symm)
    have kk628 : Keep h0 h621 [] := kk619.wr W621 (Or.inr hh594)
    refine g_dup X621 hx hby at_32 rfl (pc' := 33) rfl ?_
    refine g_iconst (v := 3) X621 hx hby at_33 rfl (pc' := 34) rfl ?_
    refine g_iload X621 hx hby at_34 rfl (pc' := 36) rfl ?_
    refine g_callS (argsL := [(.int y4)]) (S := [(.int (3 : Int32)), (.ref b592), (.ref b592)]) X621 hx hby hZ (y := (⟨"com/example/hifadhi/hifadhi/mapping/QualifiedNameUnqualifiedPinLaw", "ch", "(I)C"⟩ : MethodName)) hown (hw _ (List.mem_of_getElem? (i := 2) rfl)) (hw _ (List.mem_of_getElem? (i := 3) rfl)) (hw _ (List.mem_of_getElem? (i := 4) rfl)) (hw _ (List.mem_of_getElem? (i := 5) rfl)) (by decide) (own_chc l Z a0 hw y4 h621 n0) (by rw [hml]; rfl) (lenOf own_pd21 rfl) rfl at_36 (by decide) (W := 3) (by exact Nat.le_of_eq rfl) (by decide) (by decide) (by decide) (pc' := 39) rfl (fun T629 v629 X629 hQ629 => ?_)
    obtain ⟨k629, rfl, rg629, e629⟩ := hQ629
    rw [e629] at X629
    show Gl p e below n0 _ _ (T629.setTop (mkF m 39 #[.val (.int y0), .val (.int y1), .val (.int y2), .val (.int y3), .val (.int y4), .val (.int (1 : Int32)), .unset, .unset, .unset, .unset, .unset, .unset] [(.int k629), (.int (3 : Int32)), (.ref b592), (.ref b592)]))
    refine g_castore (i := 3) X629 hx hby hZ A621 rfl (by decide) nn593 at_39 (pc' := 40) rfl (fun T630 h630 sl630 X630 W630 A630 => ?_)
    have sf631 := Safe.wr W630 sf622 ch623.1 sf622
    have ch632 := ch623.trans (CHr.wr W630 sf622 ch623.1)
    have q633 := q624.wr W630
    have q634 := q625.wr W630
    have zz635 := Nat.le_trans zz626 (Nat.le_of_eq W630.size.symm)
    have hk636 := Nat.le_trans hk627 (Nat.le_of_eq W630.size.symm)
    have kk637 : Keep h0 h630 [] := kk628.wr W630 (Or.inr hh594)
    refine g_astore (L' := #[.val (.int y0), .val (.int y1), .val (.int y2), .val (.int y3), .val (.int y4), .val (.int (1 : Int32)), .val (.ref b592), .unset, .unset, .unset, .unset, .unset]) X630 hx hby at_40 rfl rfl (pc' := 42) rfl ?_
    have AG638 : Ary Z h630 b592 .char 4 (fun i => .int ((own_cf k602 k611 k620 k629) i)) := by
      refine A630.congr fun i hi => ?_
      have h8 : i = 0 ∨ i = 1 ∨ i = 2 ∨ i = 3 := by omega
      rcases h8 with rfl | rfl | rfl | rfl
      · exact congrArg Value.int (own_narC ⟨rg602.1, Int.le_trans rg602.2 (by decide)⟩)
      · exact congrArg Value.int (own_narC ⟨rg611.1, Int.le_trans rg611.2 (by decide)⟩)
      · exact congrArg Value.int (own_narC ⟨rg620.1, Int.le_trans rg620.2 (by decide)⟩)
      · exact congrArg Value.int (own_narC ⟨rg629.1, Int.le_trans rg629.2 (by decide)⟩)
    refine g_iload X630 hx hby at_42 rfl (pc' := 44) rfl ?_
    refine g_newarray (k := 1) (cap := 1) X630 hx hby hZ (hw _ (List.mem_of_getElem? (i := 1) rfl)) at_44 rfl (by decide) (by decide) (by decide) (by decide) (pc' := 46) rfl (fun T639 h639 b639 g639 X639 E639 A639 => ?_)
    have ne640 : b592 ≠ b639 := by rw [g639]; exact Nat.ne_of_lt AG638.lt
    have nn641 : n0 ≤ b639 := by rw [g639]; exact zz635
    have hh642 : h0.size ≤ b639 := by rw [g639]; exact kk637.1
    have sn643 := Safe.ext E639 ch632.1 (Safe.new (x := b639) (Nat.le_of_eq g639.symm))
    have sf644 := Safe.ext E639 ch632.1 sf631
    have ch645 := ch632.trans (CHr.ext E639 ch632.1)
    have hk646 := Nat.le_trans hk636 E639.1
    have q647 := q633.ext E639
    have q648 := q634.ext E639
    have q649 := AG638.ext E639
    have zz650 := Nat.le_trans zz635 E639.1
    have kk651 : Keep h0 h639 [] := kk637.ext E639
    refine g_astore (L' := #[.val (.int y0), .val (.int y1), .val (.int y2), .val (.int y3), .val (.int y4), .val (.int (1 : Int32)), .val (.ref b592), .val (.ref b639), .unset, .unset, .unset, .unset]) X639 hx hby at_46 rfl rfl (pc' := 48) rfl ?_
    refine g_iload X639 hx hby at_48 rfl (pc' := 50) rfl ?_
    refine g_if_le X639 hx hby at_50 (by decide) (pc' := 61) (by decide) (pc2 := 53) rfl (fun q => absurd (by decide) q) (fun c50_652 => ?_)
    refine g_aload X639 hx hby at_53 rfl rfl (pc' := 55) rfl ?_
    refine g_iconst (v := 0) X639 hx hby at_55 rfl (pc' := 56) rfl ?_
    refine g_aload X639 hx hby at_56 rfl rfl (pc' := 58) rfl ?_
    refine g_iconst (v := 0) X639 hx hby at_58 rfl (pc' := 59) rfl ?_
    refine g_caload (i := 0) (v := (.int k602)) X639 hx hby hZ q649 (by decide) (by decide) rfl at_59 (pc' := 60) rfl ?_
    refine g_castore (i := 0) X639 hx hby hZ A639 rfl (by decide) nn641 at_60 (pc' := 61) rfl (fun T653 h653 sl653 X653 W653 A653 => ?_)
    have sf654 := Safe.wr W653 sn643 ch645.1 sf644
    have sf655 := Safe.wr W653 sn643 ch645.1 sn643
    have ch656 := ch645.trans (CHr.wr W653 sn643 ch645.1)
    have q657 := q647.wr W653
    have q658 := q648.wr W653
    have q659 := q649.other W653 ne640
    have zz660 := Nat.le_trans zz650 (Nat.le_of_eq W653.size.symm)
    have hk661 := Nat.le_trans hk646 (Nat.le_of_eq W653.size.symm)
    have kk662 : Keep h0 h653 [] := kk651.wr W653 (Or.inr hh642)
    refine g_iload X653 hx hby at_61 rfl (pc' := 63) rfl ?_
    refine g_iconst (v := 1) X653 hx hby at_63 rfl (pc' := 64) rfl ?_
    refine g_icmp_le X653 hx hby at_64 (by decide) (pc' := 75) (by decide) (pc2 := 67) rfl (fun c64_663 => ?_) (fun q => absurd q (by decide))
    refine g_iload X653 hx hby at_75 rfl (pc' := 77) rfl ?_
    refine g_iconst (v := 2) X653 hx hby at_77 rfl (pc' := 78) rfl ?_
    refine g_icmp_le X653 hx hby at_78 (by decide) (pc' := 89) (by decide) (pc2 := 81) rfl (fun c78_664 => ?_) (fun q => absurd q (by decide))
    refine g_iload X653 hx hby at_89 rfl (pc' := 91) rfl ?_
    refine g_iconst (v := 3) X653 hx hby at_91 rfl (pc' := 92) rfl ?_
    refine g_icmp_le X653 hx hby at_92 (by decide) (pc' := 103) (by decide) (pc2 := 95) rfl (fun c92_665 => ?_) (fun q => absurd q (by decide))
    have AG666 : Ary Z h653 b639 .char 1 (fun i => .int ((own_cf k602 k611 k620 k629) i)) := by
      refine A653.congr fun i hi => ?_
      have h8 : i = 0 := by omega
      rcases h8 with rfl
      · exact congrArg Value.int (own_narC ⟨rg602.1, Int.le_trans rg602.2 (by decide)⟩)
    refine g_new X653 hx hby hZ hown (hw _ (List.mem_of_getElem? (i := 6) rfl)) (hw _ (List.mem_of_getElem? (i := 7) rfl)) (hw _ (List.mem_of_getElem? (i := 8) rfl)) at_103 (by decide) (by decide) (pc' := 106) rfl (fun T667 h667 b667 g667 X667 E667 A667 D667 => ?_)
    have ne668 : b592 ≠ b667 := by rw [g667]; exact Nat.ne_of_lt q659.lt
    have ne669 : b639 ≠ b667 := by rw [g667]; exact Nat.ne_of_lt AG666.lt
    have nn670 : n0 ≤ b667 := by rw [g667]; exact zz660
    have hh671 : h0.size ≤ b667 := by rw [g667]; exact kk662.1
    have sn672 := Safe.ext E667 ch656.1 (Safe.new (x := b667) (Nat.le_of_eq g667.symm))
    have sf673 := Safe.ext E667 ch656.1 sf654
    have sf674 := Safe.ext E667 ch656.1 sf655
    have ch675 := ch656.trans (CHr.ext E667 ch656.1)
    have hk676 := Nat.le_trans hk661 E667.1
    have q677 := q657.ext E667
    have q678 := q658.ext E667
    have q679 := q659.ext E667
    have q680 := AG666.ext E667
    have zz681 := Nat.le_trans zz660 E667.1
    have kk682 : Keep h0 h667 [] := kk662.ext E667
    have q683 : Fld Z h667 b667 "java/lang/String" "value" "[B" .null := D667 (Or.inr (hw _ (List.mem_of_getElem? (i := 21) rfl))) (ty := (.array .byte)) (by decide)
    have q684 : Fld Z h667 b667 "java/lang/String" "coder" "B" (.int (0 : Int32)) := D667 (Or.inr (hw _ (List.mem_of_getElem? (i := 22) rfl))) (ty := .byte) (by decide)
    refine g_dup X667 hx hby at_106 rfl (pc' := 107) rfl ?_
    refine g_aload X667 hx hby at_107 rfl rfl (pc' := 109) rfl ?_
    refine g_callC (argsL := [(.ref b639)]) (S := [(.ref b667)]) (a := b667) X667 hx hby hZ (y := (⟨"java/lang/String", "<init>", "([C)V"⟩ : MethodName)) rfl hown (hw _ (List.mem_of_getElem? (i := 9) rfl)) (hw _ (List.mem_of_getElem? (i := 10) rfl)) (hw _ (List.mem_of_getElem? (i := 8) rfl)) (hw _ (List.mem_of_getElem? (i := 11) rfl)) (by decide) (own_n1_1 l Z a0 hw b667 b639 h667 n0 zz681 (own_cf k602 k611 k620 k629) (fun i _ => own_cfr rg602 rg611 rg620 rg629 i) q680 A667 q683 q684 nn670 cs q677 hcs) (by rw [hml]; rfl) (lenOf own_pd22 rfl) rfl at_109 (by decide) (W := 1) (by exact Nat.le_of_eq rfl) (by decide) (by decide) (by decide) (pc' := 112) rfl (fun T685 v685 X685 hQ685 => ?_)
    obtain ⟨rfl, ka685, la685⟩ := hQ685
    have sa686 : ∀ x ∈ [b667], Safe Z own_EL _ _ x := (allS sn672 all0)
    have sf687 := Safe.keep ka685 sa686 ch675.1 sf673
    have sf688 := Safe.keep ka685 sa686 ch675.1 sf674
    have sf689 := Safe.keep ka685 sa686 ch675.1 sn672
    have ch690 := ch675.trans (CHr.keep ka685 sa686 ch675.1)
    have q691 := own_sta_keep q677 ka685 (allS (own_plain A667) all0)
    have q692 := own_sta_keep q678 ka685 (allS (own_plain A667) all0)
    have q693 := q679.keep ka685 (ninS ne668 nin0)
    have q694 := q680.keep ka685 (ninS ne669 nin0)
    have q695 := A667.keep ka685
    have zz696 := Nat.le_trans zz681 ka685.1
    have hk697 := Nat.le_trans hk676 ka685.1
    have kk698 : Keep h0 T685.heap [] := kk682.trans ka685 (allS (Or.inr hh671) all0)
    obtain ⟨w685, LEn685, LVn685, LCn685, LAn685⟩ := la685
    show Gl p e below n0 _ _ (T685.setTop (mkF m 112 #[.val (.int y0), .val (.int y1), .val (.int y2), .val (.int y3), .val (.int y4), .val (.int (1 : Int32)), .val (.ref b592), .val (.ref b639), .unset, .unset, .unset, .unset] [(.ref b667)]))
    refine g_astore (L' := #[.val (.int y0), .val (.int y1), .val (.int y2), .val (.int y3), .val (.int y4), .val (.int (1 : Int32)), .val (.ref b592), .val (.ref b639), .val (.ref b667), .unset, .unset, .unset]) X685 hx hby at_112 rfl rfl (pc' := 114) rfl ?_
    refine g_iconst (v := (-1)) X685 hx hby at_114 rfl (pc' := 115) rfl ?_
    refine g_istore (L' := #[.val (.int y0), .val (.int y1), .val (.int y2), .val (.int y3), .val (.int y4), .val (.int (1 : Int32)), .val (.ref b592), .val (.ref b639), .val (.ref b667), .val (.int (-1 : Int32)), .unset, .unset]) X685 hx hby at_115 rfl (pc' := 117) rfl ?_
    refine g_iload X685 hx hby at_117 rfl (pc' := 119) rfl ?_
    refine g_if_le X685 hx hby at_119 (by decide) (pc' := 134) (by decide) (pc2 := 122) rfl (fun q => absurd (by decide) q) (fun c119_699 => ?_)
    refine g_aload X685 hx hby at_122 rfl rfl (pc' := 124) rfl ?_
    refine g_iconst (v := 0) X685 hx hby at_124 rfl (pc' := 125) rfl ?_
    refine g_caload (i := 0) (v := (.int k602)) X685 hx hby hZ q693 (by decide) (by decide) rfl at_125 (pc' := 126) rfl ?_
    refine g_bipush (v := 46) X685 hx hby at_126 rfl (pc' := 128) rfl ?_
    refine g_icmp_ne X685 hx hby at_128 (by decide) (pc' := 134) (by decide) (pc2 := 131) rfl (fun c128_700 => ?_) (fun c128_700 => ?_)
    · refine g_iload X685 hx hby at_134 rfl (pc' := 136) rfl ?_
      refine g_iconst (v := 1) X685 hx hby at_136 rfl (pc' := 137) rfl ?_
      refine g_icmp_le X685 hx hby at_137 (by decide) (pc' := 152) (by decide) (pc2 := 140) rfl (fun c137_701 => ?_) (fun q => absurd q (by decide))
      refine g_iload X685 hx hby at_152 rfl (pc' := 154) rfl ?_
      refine g_iconst (v := 2) X685 hx hby at_154 rfl (pc' := 155) rfl ?_
      refine g_icmp_le X685 hx hby at_155 (by decide) (pc' := 170) (by decide) (pc2 := 158) rfl (fun c155_702 => ?_) (fun q => absurd q (by decide))
      refine g_iload X685 hx hby at_170 rfl (pc' := 172) rfl ?_
      refine g_iconst (v := 3) X685 hx hby at_172 rfl (pc' := 173) rfl ?_
      refine g_icmp_le X685 hx hby at_173 (by decide) (pc' := 188) (by decide) (pc2 := 176) rfl (fun c173_703 => ?_) (fun q => absurd q (by decide))
      refine g_iload X685 hx hby at_188 rfl (pc' := 190) rfl ?_
      refine g_iload X685 hx hby at_190 rfl (pc' := 192) rfl ?_
      refine g_isub X685 hx hby at_192 (pc' := 193) rfl ?_
      refine g_iconst (v := 1) X685 hx hby at_193 rfl (pc' := 194) rfl ?_
      refine g_isub X685 hx hby at_194 (pc' := 195) rfl ?_
      refine g_istore (L' := #[.val (.int y0), .val (.int y1), .val (.int y2), .val (.int y3), .val (.int y4), .val (.int (1 : Int32)), .val (.ref b592), .val (.ref b639), .val (.ref b667), .val (.int (-1 : Int32)), .val (.int (((1 : Int32) - (-1 : Int32)) - (1 : Int32))), .unset]) X685 hx hby at_195 rfl (pc' := 197) rfl ?_
      have em : (((1 : Int32) - (-1 : Int32)) - (1 : Int32)) = (1 : Int32) := by decide
      rw [em]
      refine g_aload X685 hx hby at_197 rfl rfl (pc' := 199) rfl ?_
      have hno705 : ∀ j : Nat, ((-1 : Int32)).toInt < (j : Int) → j < 1 → ¬ (fun i => own_y ((own_cf k602 k611 k620 k629) i)) j = 46 := by
        intro j h1 h2
        have e1 : ((-1 : Int32)).toInt = -1 := rfl
        have h8 : j = 0 := by omega
        rcases h8 with rfl
        · exact fun q => c128_700 ((own_dot rg602).mp q)
      refine g_callS (argsL := [(.ref b667)]) (S := []) X685 hx hby hZ (y := (⟨"com/example/hifadhi/hifadhi/mapping/QualifiedName", "unqualified", "(Ljava/lang/String;)Ljava/lang/String;"⟩ : MethodName)) hown (hw _ (List.mem_of_getElem? (i := 27) rfl)) (hw _ (List.mem_of_getElem? (i := 28) rfl)) (hw _ (List.mem_of_getElem? (i := 29) rfl)) (hw _ (List.mem_of_getElem? (i := 30) rfl)) (by decide) (own_uqA l Z a0 hw b667 T685.heap n0 1 (1 : Int32) (fun i => own_y ((own_cf k602 k611 k620 k629) i)) rfl ⟨w685, LEn685, LVn685, LCn685, LAn685⟩ cs q691 hcs fm q692 hfm (-1 : Int32) ⟨by decide, by decide⟩ (fun q => absurd q (by decide)) hno705 rfl) (by rw [hml]; rfl) (lenOf own_pd23 rfl) rfl at_199 (by decide) (W := 0) (by exact Nat.le_of_eq rfl) (by decide) (by decide) (by decide) (pc' := 202) rfl (fun T704 v704 X704 hQ704 => ?_)
      obtain ⟨rfl, e704⟩ := hQ704
      rw [e704] at X704
      show Gl p e below n0 _ _ (T704.setTop (mkF m 202 #[.val (.int y0), .val (.int y1), .val (.int y2), .val (.int y3), .val (.int y4), .val (.int (1 : Int32)), .val (.ref b592), .val (.ref b639), .val (.ref b667), .val (.int (-1 : Int32)), .val (.int (1 : Int32)), .unset] [(.ref b667)]))
      refine g_astore (L' := #[.val (.int y0), .val (.int y1), .val (.int y2), .val (.int y3), .val (.int y4), .val (.int (1 : Int32)), .val (.ref b592), .val (.ref b639), .val (.ref b667), .val (.int (-1 : Int32)), .val (.int (1 : Int32)), .val (.ref b667)]) X704 hx hby at_202 rfl rfl (pc' := 204) rfl ?_
      refine g_aload X704 hx hby at_204 rfl rfl (pc' := 206) rfl ?_
      refine g_callV (argsL := []) (S := []) (a := b667) X704 hx hby hZ (y := (⟨"java/lang/String", "length", "()I"⟩ : MethodName)) (y' := (⟨"java/lang/String", "length", "()I"⟩ : MethodName)) hown (hw _ (List.mem_of_getElem? (i := 86) rfl)) (hw _ (List.mem_of_getElem? (i := 37) rfl)) (notFace_of_selects (args := #[]) (mvT hZ (hw _ (List.mem_of_getElem? (i := 39) rfl)))) (hw _ (List.mem_of_getElem? (i := 39) rfl)) (hw _ (List.mem_of_getElem? (i := 38) rfl)) (hw _ (List.mem_of_getElem? (i := 8) rfl)) (hw _ (List.mem_of_getElem? (i := 40) rfl)) (by decide) LEn685 (own_ln l Z a0 hw b667 T685.heap n0 1 (1 : Int32) (fun i => own_y ((own_cf k602 k611 k620 k629) i)) rfl ⟨w685, LEn685, LVn685, LCn685, LAn685⟩ cs q691 hcs ) (by rw [hml]; rfl) (lenOf own_pd12 rfl) rfl at_206 (by decide) (W := 0) (by exact Nat.le_of_eq rfl) (by decide) (by decide) (by decide) (pc' := 209) rfl (fun T706 v706 X706 hQ706 => ?_)
      obtain ⟨rfl, e706⟩ := hQ706
      rw [e706] at X706
      show Gl p e below n0 _ _ (T706.setTop (mkF m 209 #[.val (.int y0), .val (.int y1), .val (.int y2), .val (.int y3), .val (.int y4), .val (.int (1 : Int32)), .val (.ref b592), .val (.ref b639), .val (.ref b667), .val (.int (-1 : Int32)), .val (.int (1 : Int32)), .val (.ref b667)] [(.int (1 : Int32))]))
      refine g_iload X706 hx hby at_209 rfl (pc' := 211) rfl ?_
      refine g_icmp_eq X706 hx hby at_211 (by decide) (pc' := 216) (by decide) (pc2 := 214) rfl (fun c211_707 => ?_) (fun q => absurd (by decide) q)
      refine g_iconst (v := 0) X706 hx hby at_216 rfl (pc' := 217) rfl ?_
      refine g_iload X706 hx hby at_217 rfl (pc' := 219) rfl ?_
      refine g_icmp_ge X706 hx hby at_219 (by decide) (pc' := 240) (by decide) (pc2 := 222) rfl (fun q => absurd (by decide) q) (fun c219_708 => ?_)
      refine g_aload X706 hx hby at_222 rfl rfl (pc' := 224) rfl ?_
      refine g_iconst (v := 0) X706 hx hby at_224 rfl (pc' := 225) rfl ?_
      refine g_callV (argsL := [(.int (0 : Int32))]) (S := []) (a := b667) X706 hx hby hZ (y := (⟨"java/lang/String", "charAt", "(I)C"⟩ : MethodName)) (y' := (⟨"java/lang/String", "charAt", "(I)C"⟩ : MethodName)) hown (hw _ (List.mem_of_getElem? (i := 119) rfl)) (hw _ (List.mem_of_getElem? (i := 120) rfl)) (notFace_of_selects (args := #[]) (mvT hZ (hw _ (List.mem_of_getElem? (i := 122) rfl)))) (hw _ (List.mem_of_getElem? (i := 122) rfl)) (hw _ (List.mem_of_getElem? (i := 121) rfl)) (hw _ (List.mem_of_getElem? (i := 8) rfl)) (hw _ (List.mem_of_getElem? (i := 123) rfl)) (by decide) LEn685 (own_ca l Z a0 hw b667 (0 : Int32) T685.heap n0 1 (1 : Int32) (fun i => own_y ((own_cf k602 k611 k620 k629) i)) rfl ⟨w685, LEn685, LVn685, LCn685, LAn685⟩ cs q691 hcs 0 rfl (by decide) fm q692 hfm) (by rw [hml]; rfl) (lenOf own_pd21 rfl) rfl at_225 (by decide) (W := 0) (by exact Nat.le_of_eq rfl) (by decide) (by decide) (by decide) (pc' := 228) rfl (fun T709 v709 X709 hQ709 => ?_)
      obtain ⟨rfl, e709⟩ := hQ709
      rw [e709] at X709
      show Gl p e below n0 _ _ (T709.setTop (mkF m 228 #[.val (.int y0), .val (.int y1), .val (.int y2), .val (.int y3), .val (.int y4), .val (.int (1 : Int32)), .val (.ref b592), .val (.ref b639), .val (.ref b667), .val (.int (-1 : Int32)), .val (.int (1 : Int32)), .val (.ref b667)] [(.int (((fun i => own_y ((own_cf k602 k611 k620 k629) i))) 0 &&& (255 : Int32)))]))
      refine g_aload X709 hx hby at_228 rfl rfl (pc' := 230) rfl ?_
      refine g_iload X709 hx hby at_230 rfl (pc' := 232) rfl ?_
      refine g_iconst (v := 1) X709 hx hby at_232 rfl (pc' := 233) rfl ?_
      refine g_iadd X709 hx hby at_233 (pc' := 234) rfl ?_
      refine g_caload (i := 0) (v := (.int k602)) X709 hx hby hZ q693 (by decide) (by decide) rfl at_234 (pc' := 235) rfl ?_
      refine g_icmp_eq X709 hx hby at_235 (by decide) (pc' := 240) (by decide) (pc2 := 238) rfl (fun c235_710 => ?_) (fun q => absurd (show own_y k602 &&& 255 = k602 from own_chr_y rg602) q)
      refine g_iconst (v := 1) X709 hx hby at_240 rfl (pc' := 241) rfl ?_
      refine g_iload X709 hx hby at_241 rfl (pc' := 243) rfl ?_
      refine g_icmp_ge X709 hx hby at_243 (by decide) (pc' := 264) (by decide) (pc2 := 246) rfl (fun c243_711 => ?_) (fun q => absurd q (by decide))
      refine g_iconst (v := 2) X709 hx hby at_264 rfl (pc' := 265) rfl ?_
      refine g_iload X709 hx hby at_265 rfl (pc' := 267) rfl ?_
      refine g_icmp_ge X709 hx hby at_267 (by decide) (pc' := 288) (by decide) (pc2 := 270) rfl (fun c267_712 => ?_) (fun q => absurd q (by decide))
      refine g_iconst (v := 3) X709 hx hby at_288 rfl (pc' := 289) rfl ?_
      refine g_iload X709 hx hby at_289 rfl (pc' := 291) rfl ?_
      refine g_icmp_ge X709 hx hby at_291 (by decide) (pc' := 312) (by decide) (pc2 := 294) rfl (fun c291_713 => ?_) (fun q => absurd q (by decide))
      refine g_iconst (v := 1) X709 hx hby at_312 rfl (pc' := 313) rfl ?_
      exact gw_retN X709 hx hby hS hk697 hret hlk (by simp) at_313 rfl (by decide) (by decide)
    · refine g_iconst (v := 0) X685 hx hby at_131 rfl (pc' := 132) rfl ?_
      refine g_istore (L' := #[.val (.int y0), .val (.int y1), .val (.int y2), .val (.int y3), .val (.int y4), .val (.int (1 : Int32)), .val (.ref b592), .val (.ref b639), .val (.ref b667), .val (.int (0 : Int32)), .unset, .unset]) X685 hx hby at_132 rfl (pc' := 134) rfl ?_
      refine g_iload X685 hx hby at_134 rfl (pc' := 136) rfl ?_
      refine g_iconst (v := 1) X685 hx hby at_136 rfl (pc' := 137) rfl ?_
      refine g_icmp_le X685 hx hby at_137 (by decide) (pc' := 152) (by decide) (pc2 := 140) rfl (fun c137_714 => ?_) (fun q => absurd q (by decide))
      refine g_iload X685 hx hby at_152 rfl (pc' := 154) rfl ?_
      refine g_iconst (v := 2) X685 hx hby at_154 rfl (pc' := 155) rfl ?_
      refine g_icmp_le X685 hx hby at_155 (by decide) (pc' := 170) (by decide) (pc2 := 158) rfl (fun c155_715 => ?_) (fun q => absurd q (by decide))
      refine g_iload X685 hx hby at_170 rfl (pc' := 172) rfl ?_
      refine g_iconst (v := 3) X685 hx hby at_172 rfl (pc' := 173) rfl ?_
      refine g_icmp_le X685 hx hby at_173 (by decide) (pc' := 188) (by decide) (pc2 := 176) rfl (fun c173_716 => ?_) (fun q => absurd q (by decide))
      refine g_iload X685 hx hby at_188 rfl (pc' := 190) rfl ?_
      refine g_iload X685 hx hby at_190 rfl (pc' := 192) rfl ?_
      refine g_isub X685 hx hby at_192 (pc' := 193) rfl ?_
      refine g_iconst (v := 1) X685 hx hby at_193 rfl (pc' := 194) rfl ?_
      refine g_isub X685 hx hby at_194 (pc' := 195) rfl ?_
      refine g_istore (L' := #[.val (.int y0), .val (.int y1), .val (.int y2), .val (.int y3), .val (.int y4), .val (.int (1 : Int32)), .val (.ref b592), .val (.ref b639), .val (.ref b667), .val (.int (0 : Int32)), .val (.int (((1 : Int32) - (0 : Int32)) - (1 : Int32))), .unset]) X685 hx hby at_195 rfl (pc' := 197) rfl ?_
      have em : (((1 : Int32) - (0 : Int32)) - (1 : Int32)) = (0 : Int32) := by decide
      rw [em]
      refine g_aload X685 hx hby at_197 rfl rfl (pc' := 199) rfl ?_
      have hno718 : ∀ j : Nat, ((0 : Int32)).toInt < (j : Int) → j < 1 → ¬ (fun i => own_y ((own_cf k602 k611 k620 k629) i)) j = 46 := by
        intro j h1 h2
        have e1 : ((0 : Int32)).toInt = 0 := rfl
        exfalso; omega
      refine gh_callS (argsL := [(.ref b667)]) (S := []) X685 hx hby hZ hS hk697 (own_hEL hw) ch690 own_nss (y := (⟨"com/example/hifadhi/hifadhi/mapping/QualifiedName", "unqualified", "(Ljava/lang/String;)Ljava/lang/String;"⟩ : MethodName)) hown (hw _ (List.mem_of_getElem? (i := 27) rfl)) (hw _ (List.mem_of_getElem? (i := 28) rfl)) (hw _ (List.mem_of_getElem? (i := 29) rfl)) (hw _ (List.mem_of_getElem? (i := 30) rfl)) (by decide) (own_uqC l Z a0 hw b667 T685.heap n0 1 (1 : Int32) (fun i => own_y ((own_cf k602 k611 k620 k629) i)) rfl ⟨w685, LEn685, LVn685, LCn685, LAn685⟩ cs q691 hcs fm q692 hfm (0 : Int32) ⟨by decide, by decide⟩ (fun _ => show own_y k602 = 46 from (own_dot rg602).mpr c128_700) hno718 (by decide) (by decide) zz696) (by rw [hml]; rfl) (lenOf own_pd23 rfl) rfl at_199 (by decide) (W := 0) (by exact Nat.le_of_eq rfl) (by decide) (by decide) (by decide) (pc' := 202) rfl (fun T717 v717 k717 X717 hS717 hk717 hZ717 hown717 hC717 hD717 hQ717 => ?_)
      obtain ⟨b717, rfl, ka717, la717⟩ := hQ717
      have q719 := own_sta_keep q691 ka717 all0
      have q720 := own_sta_keep q692 ka717 all0
      have q721 := q693.keep ka717 nin0
      have q722 := q694.keep ka717 nin0
      have q723 := LEn685.keep ka717
      have q724 := LVn685.keep ka717 nin0
      have q725 := LCn685.keep ka717 nin0
      have q726 := LAn685.keep ka717 nin0
      have zz727 := Nat.le_trans zz696 ka717.1
      have kk728 : Keep h0 T717.heap [] := kk698.trans ka717 all0
      have lb717 : Lat Z T717.heap b717 0 (fun i => ([] : List Int32).getD i 0) := la717
      obtain ⟨w717, LEr717, LVr717, LCr717, LAr717⟩ := lb717
      show Gl p e below n0 _ _ (T717.setTop (mkF m 202 #[.val (.int y0), .val (.int y1), .val (.int y2), .val (.int y3), .val (.int y4), .val (.int (1 : Int32)), .val (.ref b592), .val (.ref b639), .val (.ref b667), .val (.int (0 : Int32)), .val (.int (0 : Int32)), .unset] [(.ref b717)]))
      refine g_astore (L' := #[.val (.int y0), .val (.int y1), .val (.int y2), .val (.int y3), .val (.int y4), .val (.int (1 : Int32)), .val (.ref b592), .val (.ref b639), .val (.ref b667), .val (.int (0 : Int32)), .val (.int (0 : Int32)), .val (.ref b717)]) X717 hx hby at_202 rfl rfl (pc' := 204) rfl ?_
      refine g_aload X717 hx hby at_204 rfl rfl (pc' := 206) rfl ?_
      refine g_callV (argsL := []) (S := []) (a := b717) X717 hx hby hZ717 (y := (⟨"java/lang/String", "length", "()I"⟩ : MethodName)) (y' := (⟨"java/lang/String", "length", "()I"⟩ : MethodName)) hown717 (hw _ (List.mem_of_getElem? (i := 86) rfl)) (hw _ (List.mem_of_getElem? (i := 37) rfl)) (notFace_of_selects (args := #[]) (mvT hZ717 (hw _ (List.mem_of_getElem? (i := 39) rfl)))) (hw _ (List.mem_of_getElem? (i := 39) rfl)) (hw _ (List.mem_of_getElem? (i := 38) rfl)) (hw _ (List.mem_of_getElem? (i := 8) rfl)) (hw _ (List.mem_of_getElem? (i := 40) rfl)) (by decide) LEr717 (own_ln l Z a0 hw b717 T717.heap n0 0 (0 : Int32) (fun i => ([] : List Int32).getD i 0) rfl ⟨w717, LEr717, LVr717, LCr717, LAr717⟩ cs q719 hcs ) (by rw [hml]; rfl) (lenOf own_pd12 rfl) rfl at_206 (by decide) (W := 0) (by exact Nat.le_of_eq rfl) (by decide) (by decide) (by decide) (pc' := 209) rfl (fun T729 v729 X729 hQ729 => ?_)
      obtain ⟨rfl, e729⟩ := hQ729
      rw [e729] at X729
      show Gl p e below n0 _ _ (T729.setTop (mkF m 209 #[.val (.int y0), .val (.int y1), .val (.int y2), .val (.int y3), .val (.int y4), .val (.int (1 : Int32)), .val (.ref b592), .val (.ref b639), .val (.ref b667), .val (.int (0 : Int32)), .val (.int (0 : Int32)), .val (.ref b717)] [(.int (0 : Int32))]))
      refine g_iload X729 hx hby at_209 rfl (pc' := 211) rfl ?_
      refine g_icmp_eq X729 hx hby at_211 (by decide) (pc' := 216) (by decide) (pc2 := 214) rfl (fun c211_730 => ?_) (fun q => absurd (by decide) q)
      refine g_iconst (v := 0) X729 hx hby at_216 rfl (pc' := 217) rfl ?_
      refine g_iload X729 hx hby at_217 rfl (pc' := 219) rfl ?_
      refine g_icmp_ge X729 hx hby at_219 (by decide) (pc' := 240) (by decide) (pc2 := 222) rfl (fun c219_731 => ?_) (fun q => absurd q (by decide))
      refine g_iconst (v := 1) X729 hx hby at_240 rfl (pc' := 241) rfl ?_
      refine g_iload X729 hx hby at_241 rfl (pc' := 243) rfl ?_
      refine g_icmp_ge X729 hx hby at_243 (by decide) (pc' := 264) (by decide) (pc2 := 246) rfl (fun c243_732 => ?_) (fun q => absurd q (by decide))
      refine g_iconst (v := 2) X729 hx hby at_264 rfl (pc' := 265) rfl ?_
      refine g_iload X729 hx hby at_265 rfl (pc' := 267) rfl ?_
      refine g_icmp_ge X729 hx hby at_267 (by decide) (pc' := 288) (by decide) (pc2 := 270) rfl (fun c267_733 => ?_) (fun q => absurd q (by decide))
      refine g_iconst (v := 3) X729 hx hby at_288 rfl (pc' := 289) rfl ?_
      refine g_iload X729 hx hby at_289 rfl (pc' := 291) rfl ?_
      refine g_icmp_ge X729 hx hby at_291 (by decide) (pc' := 312) (by decide) (pc2 := 294) rfl (fun c291_734 => ?_) (fun q => absurd q (by decide))
      refine g_iconst (v := 1) X729 hx hby at_312 rfl (pc' := 313) rfl ?_
      exact gw_retN X729 hx hby hS717 hk717 hret hlk (by simp) at_313 rfl (by decide) (by decide)
  · rw [q5]
    refine g_iconst (v := 4) X0 hx hby at_8 rfl (pc' := 9) rfl ?_
    refine g_newarray (k := 4) (cap := 4) X0 hx hby hZ (hw _ (List.mem_of_getElem? (i := 1) rfl)) at_9 rfl (by decide) (by decide) (by decide) (by decide) (pc' := 11) rfl (fun T735 h735 b735 g735 X735 E735 A735 => ?_)
    have nn736 : n0 ≤ b735 := by rw [g735]; exact Z0
    have hh737 : h0.size ≤ b735 := by rw [g735]; exact (Keep.refl h0 []).1
    have sn738 := Safe.ext E735 hC0.1 (Safe.new (x := b735) (Nat.le_of_eq g735.symm))
    have ch739 := hC0.trans (CHr.ext E735 hC0.1)
    have hk740 := Nat.le_trans (Nat.le_refl _) E735.1
    have q741 := Sc.ext E735
    have q742 := Sf.ext E735
    have zz743 := Nat.le_trans Z0 E735.1
    have kk744 : Keep h0 h735 [] := (Keep.refl h0 []).ext E735
    refine g_dup X735 hx hby at_11 rfl (pc' := 12) rfl ?_
    refine g_iconst (v := 0) X735 hx hby at_12 rfl (pc' := 13) rfl ?_
    refine g_iloadN X735 hx hby at_13 rfl (pc' := 14) rfl ?_
    refine g_callS (argsL := [(.int y1)]) (S := [(.int (0 : Int32)), (.ref b735), (.ref b735)]) X735 hx hby hZ (y := (⟨"com/example/hifadhi/hifadhi/mapping/QualifiedNameUnqualifiedPinLaw", "ch", "(I)C"⟩ : MethodName)) hown (hw _ (List.mem_of_getElem? (i := 2) rfl)) (hw _ (List.mem_of_getElem? (i := 3) rfl)) (hw _ (List.mem_of_getElem? (i := 4) rfl)) (hw _ (List.mem_of_getElem? (i := 5) rfl)) (by decide) (own_chc l Z a0 hw y1 h735 n0) (by rw [hml]; rfl) (lenOf own_pd21 rfl) rfl at_14 (by decide) (W := 3) (by exact Nat.le_of_eq rfl) (by decide) (by decide) (by decide) (pc' := 17) rfl (fun T745 v745 X745 hQ745 => ?_)
    obtain ⟨k745, rfl, rg745, e745⟩ := hQ745
    rw [e745] at X745
    show Gl p e below n0 _ _ (T745.setTop (mkF m 17 #[.val (.int y0), .val (.int y1), .val (.int y2), .val (.int y3), .val (.int y4), .val (.int (2 : Int32)), .unset, .unset, .unset, .unset, .unset, .unset] [(.int k745), (.int (0 : Int32)), (.ref b735), (.ref b735)]))
    refine g_castore (i := 0) X745 hx hby hZ A735 rfl (by decide) nn736 at_17 (pc' := 18) rfl (fun T746 h746 sl746 X746 W746 A746 => ?_)
    have sf747 := Safe.wr W746 sn738 ch739.1 sn738
    have ch748 := ch739.trans (CHr.wr W746 sn738 ch739.1)
    have q749 := q741.wr W746
    have q750 := q742.wr W746
    have zz751 := Nat.le_trans zz743 (Nat.le_of_eq W746.size.symm)
    have hk752 := Nat.le_trans hk740 (Nat.le_of_eq W746.size.symm)
    have kk753 : Keep h0 h746 [] := kk744.wr W746 (Or.inr hh737)
    refine g_dup X746 hx hby at_18 rfl (pc' := 19) rfl ?_
    refine g_iconst (v := 1) X746 hx hby at_19 rfl (pc' := 20) rfl ?_
    refine g_iloadN X746 hx hby at_20 rfl (pc' := 21) rfl ?_
    refine g_callS (argsL := [(.int y2)]) (S := [(.int (1 : Int32)), (.ref b735), (.ref b735)]) X746 hx hby hZ (y := (⟨"com/example/hifadhi/hifadhi/mapping/QualifiedNameUnqualifiedPinLaw", "ch", "(I)C"⟩ : MethodName)) hown (hw _ (List.mem_of_getElem? (i := 2) rfl)) (hw _ (List.mem_of_getElem? (i := 3) rfl)) (hw _ (List.mem_of_getElem? (i := 4) rfl)) (hw _ (List.mem_of_getElem? (i := 5) rfl)) (by decide) (own_chc l Z a0 hw y2 h746 n0) (by rw [hml]; rfl) (lenOf own_pd21 rfl) rfl at_21 (by decide) (W := 3) (by exact Nat.le_of_eq rfl) (by decide) (by decide) (by decide) (pc' := 24) rfl (fun T754 v754 X754 hQ754 => ?_)
    obtain ⟨k754, rfl, rg754, e754⟩ := hQ754
    rw [e754] at X754
    show Gl p e below n0 _ _ (T754.setTop (mkF m 24 #[.val (.int y0), .val (.int y1), .val (.int y2), .val (.int y3), .val (.int y4), .val (.int (2 : Int32)), .unset, .unset, .unset, .unset, .unset, .unset] [(.int k754), (.int (1 : Int32)), (.ref b735), (.ref b735)]))
    refine g_castore (i := 1) X754 hx hby hZ A746 rfl (by decide) nn736 at_24 (pc' := 25) rfl (fun T755 h755 sl755 X755 W755 A755 => ?_)
    have sf756 := Safe.wr W755 sf747 ch748.1 sf747
    have ch757 := ch748.trans (CHr.wr W755 sf747 ch748.1)
    have q758 := q749.wr W755
    have q759 := q750.wr W755
    have zz760 := Nat.le_trans zz751 (Nat.le_of_eq W755.size.symm)
    have hk761 := Nat.le_trans hk752 (Nat.le_of_eq W755.size.symm)
    have kk762 : Keep h0 h755 [] := kk753.wr W755 (Or.inr hh737)
    refine g_dup X755 hx hby at_25 rfl (pc' := 26) rfl ?_
    refine g_iconst (v := 2) X755 hx hby at_26 rfl (pc' := 27) rfl ?_
    refine g_iloadN X755 hx hby at_27 rfl (pc' := 28) rfl ?_
    refine g_callS (argsL := [(.int y3)]) (S := [(.int (2 : Int32)), (.ref b735), (.ref b735)]) X755 hx hby hZ (y := (⟨"com/example/hifadhi/hifadhi/mapping/QualifiedNameUnqualifiedPinLaw", "ch", "(I)C"⟩ : MethodName)) hown (hw _ (List.mem_of_getElem? (i := 2) rfl)) (hw _ (List.mem_of_getElem? (i := 3) rfl)) (hw _ (List.mem_of_getElem? (i := 4) rfl)) (hw _ (List.mem_of_getElem? (i := 5) rfl)) (by decide) (own_chc l Z a0 hw y3 h755 n0) (by rw [hml]; rfl) (lenOf own_pd21 rfl) rfl at_28 (by decide) (W := 3) (by exact Nat.le_of_eq rfl) (by decide) (by decide) (by decide) (pc' := 31) rfl (fun T763 v763 X763 hQ763 => ?_)
    obtain ⟨k763, rfl, rg763, e763⟩ := hQ763
    rw [e763] at X763
    show Gl p e below n0 _ _ (T763.setTop (mkF m 31 #[.val (.int y0), .val (.int y1), .val (.int y2), .val (.int y3), .val (.int y4), .val (.int (2 : Int32)), .unset, .unset, .unset, .unset, .unset, .unset] [(.int k763), (.int (2 : Int32)), (.ref b735), (.ref b735)]))
    refine g_castore (i := 2) X763 hx hby hZ A755 rfl (by decide) nn736 at_31 (pc' := 32) rfl (fun T764 h764 sl764 X764 W764 A764 => ?_)
    have sf765 := Safe.wr W764 sf756 ch757.1 sf756
    have ch766 := ch757.trans (CHr.wr W764 sf756 ch757.1)
    have q767 := q758.wr W764
    have q768 := q759.wr W764
    have zz769 := Nat.le_trans zz760 (Nat.le_of_eq W764.size.symm)
    have hk770 := Nat.le_trans hk761 (Nat.le_of_eq W764.size.symm)
    have kk771 : Keep h0 h764 [] := kk762.wr W764 (Or.inr hh737)
    refine g_dup X764 hx hby at_32 rfl (pc' := 33) rfl ?_
    refine g_iconst (v := 3) X764 hx hby at_33 rfl (pc' := 34) rfl ?_
    refine g_iload X764 hx hby at_34 rfl (pc' := 36) rfl ?_
    refine g_callS (argsL := [(.int y4)]) (S := [(.int (3 : Int32)), (.ref b735), (.ref b735)]) X764 hx hby hZ (y := (⟨"com/example/hifadhi/hifadhi/mapping/QualifiedNameUnqualifiedPinLaw", "ch", "(I)C"⟩ : MethodName)) hown (hw _ (List.mem_of_getElem? (i := 2) rfl)) (hw _ (List.mem_of_getElem? (i := 3) rfl)) (hw _ (List.mem_of_getElem? (i := 4) rfl)) (hw _ (List.mem_of_getElem? (i := 5) rfl)) (by decide) (own_chc l Z a0 hw y4 h764 n0) (by rw [hml]; rfl) (lenOf own_pd21 rfl) rfl at_36 (by decide) (W := 3) (by exact Nat.le_of_eq rfl) (by decide) (by decide) (by decide) (pc' := 39) rfl (fun T772 v772 X772 hQ772 => ?_)
    obtain ⟨k772, rfl, rg772, e772⟩ := hQ772
    rw [e772] at X772
    show Gl p e below n0 _ _ (T772.setTop (mkF m 39 #[.val (.int y0), .val (.int y1), .val (.int y2), .val (.int y3), .val (.int y4), .val (.int (2 : Int32)), .unset, .unset, .unset, .unset, .unset, .unset] [(.int k772), (.int (3 : Int32)), (.ref b735), (.ref b735)]))
    refine g_castore (i := 3) X772 hx hby hZ A764 rfl (by decide) nn736 at_39 (pc' := 40) rfl (fun T773 h773 sl773 X773 W773 A773 => ?_)
    have sf774 := Safe.wr W773 sf765 ch766.1 sf765
    have ch775 := ch766.trans (CHr.wr W773 sf765 ch766.1)
    have q776 := q767.wr W773
    have q777 := q768.wr W773
    have zz778 := Nat.le_trans zz769 (Nat.le_of_eq W773.size.symm)
    have hk779 := Nat.le_trans hk770 (Nat.le_of_eq W773.size.symm)
    have kk780 : Keep h0 h773 [] := kk771.wr W773 (Or.inr hh737)
    refine g_astore (L' := #[.val (.int y0), .val (.int y1), .val (.int y2), .val (.int y3), .val (.int y4), .val (.int (2 : Int32)), .val (.ref b735), .unset, .unset, .unset, .unset, .unset]) X773 hx hby at_40 rfl rfl (pc' := 42) rfl ?_
    have AG781 : Ary Z h773 b735 .char 4 (fun i => .int ((own_cf k745 k754 k763 k772) i)) := by
      refine A773.congr fun i hi => ?_
      have h8 : i = 0 ∨ i = 1 ∨ i = 2 ∨ i = 3 := by omega
      rcases h8 with rfl | rfl | rfl | rfl
      · exact congrArg Value.int (own_narC ⟨rg745.1, Int.le_trans rg745.2 (by decide)⟩)
      · exact congrArg Value.int (own_narC ⟨rg754.1, Int.le_trans rg754.2 (by decide)⟩)
      · exact congrArg Value.int (own_narC ⟨rg763.1, Int.le_trans rg763.2 (by decide)⟩)
      · exact congrArg Value.int (own_narC ⟨rg772.1, Int.le_trans rg772.2 (by decide)⟩)
    refine g_iload X773 hx hby at_42 rfl (pc' := 44) rfl ?_
    refine g_newarray (k := 2) (cap := 2) X773 hx hby hZ (hw _ (List.mem_of_getElem? (i := 1) rfl)) at_44 rfl (by decide) (by decide) (by decide) (by decide) (pc' := 46) rfl (fun T782 h782 b782 g782 X782 E782 A782 => ?_)
    have ne783 : b735 ≠ b782 := by rw [g782]; exact Nat.ne_of_lt AG781.lt
    have nn784 : n0 ≤ b782 := by rw [g782]; exact zz778
    have hh785 : h0.size ≤ b782 := by rw [g782]; exact kk780.1
    have sn786 := Safe.ext E782 ch775.1 (Safe.new (x := b782) (Nat.le_of_eq g782.symm))
    have sf787 := Safe.ext E782 ch775.1 sf774
    have ch788 := ch775.trans (CHr.ext E782 ch775.1)
    have hk789 := Nat.le_trans hk779 E782.1
    have q790 := q776.ext E782
    have q791 := q777.ext E782
    have q792 := AG781.ext E782
    have zz793 := Nat.le_trans zz778 E782.1
    have kk794 : Keep h0 h782 [] := kk780.ext E782
    refine g_astore (L' := #[.val (.int y0), .val (.int y1), .val (.int y2), .val (.int y3), .val (.int y4), .val (.int (2 : Int32)), .val (.ref b735), .val (.ref b782), .unset, .unset, .unset, .unset]) X782 hx hby at_46 rfl rfl (pc' := 48) rfl ?_
    refine g_iload X782 hx hby at_48 rfl (pc' := 50) rfl ?_
    refine g_if_le X782 hx hby at_50 (by decide) (pc' := 61) (by decide) (pc2 := 53) rfl (fun q => absurd (by decide) q) (fun c50_795 => ?_)
    refine g_aload X782 hx hby at_53 rfl rfl (pc' := 55) rfl ?_
    refine g_iconst (v := 0) X782 hx hby at_55 rfl (pc' := 56) rfl ?_
    refine g_aload X782 hx hby at_56 rfl rfl (pc' := 58) rfl ?_
    refine g_iconst (v := 0) X782 hx hby at_58 rfl (pc' := 59) rfl ?_
    refine g_caload (i := 0) (v := (.int k745)) X782 hx hby hZ q792 (by decide) (by decide) rfl at_59 (pc' := 60) rfl ?_
    refine g_castore (i := 0) X782 hx hby hZ A782 rfl (by decide) nn784 at_60 (pc' := 61) rfl (fun T796 h796 sl796 X796 W796 A796 => ?_)
    have sf797 := Safe.wr W796 sn786 ch788.1 sf787
    have sf798 := Safe.wr W796 sn786 ch788.1 sn786
    have ch799 := ch788.trans (CHr.wr W796 sn786 ch788.1)
    have q800 := q790.wr W796
    have q801 := q791.wr W796
    have q802 := q792.other W796 ne783
    have zz803 := Nat.le_trans zz793 (Nat.le_of_eq W796.size.symm)
    have hk804 := Nat.le_trans hk789 (Nat.le_of_eq W796.size.symm)
    have kk805 : Keep h0 h796 [] := kk794.wr W796 (Or.inr hh785)
    refine g_iload X796 hx hby at_61 rfl (pc' := 63) rfl ?_
    refine g_iconst (v := 1) X796 hx hby at_63 rfl (pc' := 64) rfl ?_
    refine g_icmp_le X796 hx hby at_64 (by decide) (pc' := 75) (by decide) (pc2 := 67) rfl (fun q => absurd (by decide) q) (fun c64_806 => ?_)
    refine g_aload X796 hx hby at_67 rfl rfl (pc' := 69) rfl ?_
    refine g_iconst (v := 1) X796 hx hby at_69 rfl (pc' := 70) rfl ?_
    refine g_aload X796 hx hby at_70 rfl rfl (pc' := 72) rfl ?_
    refine g_iconst (v := 1) X796 hx hby at_72 rfl (pc' := 73) rfl ?_
    refine g_caload (i := 1) (v := (.int k754)) X796 hx hby hZ q802 (by decide) (by decide) rfl at_73 (pc' := 74) rfl ?_
    refine g_castore (i := 1) X796 hx hby hZ A796 rfl (by decide) nn784 at_74 (pc' := 75) rfl (fun T807 h807 sl807 X807 W807 A807 => ?_)
    have sf808 := Safe.wr W807 sf798 ch799.1 sf797
    have sf809 := Safe.wr W807 sf798 ch799.1 sf798
    have ch810 := ch799.trans (CHr.wr W807 sf798 ch799.1)
    have q811 := q800.wr W807
    have q812 := q801.wr W807
    have q813 := q802.other W807 ne783
    have zz814 := Nat.le_trans zz803 (Nat.le_of_eq W807.size.symm)
    have hk815 := Nat.le_trans hk804 (Nat.le_of_eq W807.size.symm)
    have kk816 : Keep h0 h807 [] := kk805.wr W807 (Or.inr hh785)
    refine g_iload X807 hx hby at_75 rfl (pc' := 77) rfl ?_
    refine g_iconst (v := 2) X807 hx hby at_77 rfl (pc' := 78) rfl ?_
    refine g_icmp_le X807 hx hby at_78 (by decide) (pc' := 89) (by decide) (pc2 := 81) rfl (fun c78_817 => ?_) (fun q => absurd q (by decide))
    refine g_iload X807 hx hby at_89 rfl (pc' := 91) rfl ?_
    refine g_iconst (v := 3) X807 hx hby at_91 rfl (pc' := 92) rfl ?_
    refine g_icmp_le X807 hx hby at_92 (by decide) (pc' := 103) (by decide) (pc2 := 95) rfl (fun c92_818 => ?_) (fun q => absurd q (by decide))
    have AG819 : Ary Z h807 b782 .char 2 (fun i => .int ((own_cf k745 k754 k763 k772) i)) := by
      refine A807.congr fun i hi => ?_
      have h8 : i = 0 ∨ i = 1 := by omega
      rcases h8 with rfl | rfl
      · exact congrArg Value.int (own_narC ⟨rg745.1, Int.le_trans rg745.2 (by decide)⟩)
      · exact congrArg Value.int (own_narC ⟨rg754.1, Int.le_trans rg754.2 (by decide)⟩)
    refine g_new X807 hx hby hZ hown (hw _ (List.mem_of_getElem? (i := 6) rfl)) (hw _ (List.mem_of_getElem? (i := 7) rfl)) (hw _ (List.mem_of_getElem? (i := 8) rfl)) at_103 (by decide) (by decide) (pc' := 106) rfl (fun T820 h820 b820 g820 X820 E820 A820 D820 => ?_)
    have ne821 : b735 ≠ b820 := by rw [g820]; exact Nat.ne_of_lt q813.lt
    have ne822 : b782 ≠ b820 := by rw [g820]; exact Nat.ne_of_lt AG819.lt
    have nn823 : n0 ≤ b820 := by rw [g820]; exact zz814
    have hh824 : h0.size ≤ b820 := by rw [g820]; exact kk816.1
    have sn825 := Safe.ext E820 ch810.1 (Safe.new (x := b820) (Nat.le_of_eq g820.symm))
    have sf826 := Safe.ext E820 ch810.1 sf808
    have sf827 := Safe.ext E820 ch810.1 sf809
    have ch828 := ch810.trans (CHr.ext E820 ch810.1)
    have hk829 := Nat.le_trans hk815 E820.1
    have q830 := q811.ext E820
    have q831 := q812.ext E820
    have q832 := q813.ext E820
    have q833 := AG819.ext E820
    have zz834 := Nat.le_trans zz814 E820.1
    have kk835 : Keep h0 h820 [] := kk816.ext E820
    have q836 : Fld Z h820 b820 "java/lang/String" "value" "[B" .null := D820 (Or.inr (hw _ (List.mem_of_getElem? (i := 21) rfl))) (ty := (.array .byte)) (by decide)
    have q837 : Fld Z h820 b820 "java/lang/String" "coder" "B" (.int (0 : Int32)) := D820 (Or.inr (hw _ (List.mem_of_getElem? (i := 22) rfl))) (ty := .byte) (by decide)
    refine g_dup X820 hx hby at_106 rfl (pc' := 107) rfl ?_
    refine g_aload X820 hx hby at_107 rfl rfl (pc' := 109) rfl ?_
    refine g_callC (argsL := [(.ref b782)]) (S := [(.ref b820)]) (a := b820) X820 hx hby hZ (y := (⟨"java/lang/String", "<init>", "([C)V"⟩ : MethodName)) rfl hown (hw _ (List.mem_of_getElem? (i := 9) rfl)) (hw _ (List.mem_of_getElem? (i := 10) rfl)) (hw _ (List.mem_of_getElem? (i := 8) rfl)) (hw _ (List.mem_of_getElem? (i := 11) rfl)) (by decide) (own_n1_2 l Z a0 hw b820 b782 h820 n0 zz834 (own_cf k745 k754 k763 k772) (fun i _ => own_cfr rg745 rg754 rg763 rg772 i) q833 A820 q836 q837 nn823 cs q830 hcs) (by rw [hml]; rfl) (lenOf own_pd22 rfl) rfl at_109 (by decide) (W := 1) (by exact Nat.le_of_eq rfl) (by decide) (by decide) (by decide) (pc' := 112) rfl (fun T838 v838 X838 hQ838 => ?_)
    obtain ⟨rfl, ka838, la838⟩ := hQ838
    have sa839 : ∀ x ∈ [b820], Safe Z own_EL _ _ x := (allS sn825 all0)
    have sf840 := Safe.keep ka838 sa839 ch828.1 sf826
    have sf841 := Safe.keep ka838 sa839 ch828.1 sf827
    have sf842 := Safe.keep ka838 sa839 ch828.1 sn825
    have ch843 := ch828.trans (CHr.keep ka838 sa839 ch828.1)
    have q844 := own_sta_keep q830 ka838 (allS (own_plain A820) all0)
    have q845 := own_sta_keep q831 ka838 (allS (own_plain A820) all0)
    have q846 := q832.keep ka838 (ninS ne821 nin0)
    have q847 := q833.keep ka838 (ninS ne822 nin0)
    have q848 := A820.keep ka838
    have zz849 := Nat.le_trans zz834 ka838.1
    have hk850 := Nat.le_trans hk829 ka838.1
    have kk851 : Keep h0 T838.heap [] := kk835.trans ka838 (allS (Or.inr hh824) all0)
    obtain ⟨w838, LEn838, LVn838, LCn838, LAn838⟩ := la838
    show Gl p e below n0 _ _ (T838.setTop (mkF m 112 #[.val (.int y0), .val (.int y1), .val (.int y2), .val (.int y3), .val (.int y4), .val (.int (2 : Int32)), .val (.ref b735), .val (.ref b782), .unset, .unset, .unset, .unset] [(.ref b820)]))
    refine g_astore (L' := #[.val (.int y0), .val (.int y1), .val (.int y2), .val (.int y3), .val (.int y4), .val (.int (2 : Int32)), .val (.ref b735), .val (.ref b782), .val (.ref b820), .unset, .unset, .unset]) X838 hx hby at_112 rfl rfl (pc' := 114) rfl ?_
    refine g_iconst (v := (-1)) X838 hx hby at_114 rfl (pc' := 115) rfl ?_
    refine g_istore (L' := #[.val (.int y0), .val (.int y1), .val (.int y2), .val (.int y3), .val (.int y4), .val (.int (2 : Int32)), .val (.ref b735), .val (.ref b782), .val (.ref b820), .val (.int (-1 : Int32)), .unset, .unset]) X838 hx hby at_115 rfl (pc' := 117) rfl ?_
    refine g_iload X838 hx hby at_117 rfl (pc' := 119) rfl ?_
    refine g_if_le X838 hx hby at_119 (by decide) (pc' := 134) (by decide) (pc2 := 122) rfl (fun q => absurd (by decide) q) (fun c119_852 => ?_)
    refine g_aload X838 hx hby at_122 rfl rfl (pc' := 124) rfl ?_
    refine g_iconst (v := 0) X838 hx hby at_124 rfl (pc' := 125) rfl ?_
    refine g_caload (i := 0) (v := (.int k745)) X838 hx hby hZ q846 (by decide) (by decide) rfl at_125 (pc' := 126) rfl ?_
    refine g_bipush (v := 46) X838 hx hby at_126 rfl (pc' := 128) rfl ?_
    refine g_icmp_ne X838 hx hby at_128 (by decide) (pc' := 134) (by decide) (pc2 := 131) rfl (fun c128_853 => ?_) (fun c128_853 => ?_)
    · refine g_iload X838 hx hby at_134 rfl (pc' := 136) rfl ?_
      refine g_iconst (v := 1) X838 hx hby at_136 rfl (pc' := 137) rfl ?_
      refine g_icmp_le X838 hx hby at_137 (by decide) (pc' := 152) (by decide) (pc2 := 140) rfl (fun q => absurd (by decide) q) (fun c137_854 => ?_)
      refine g_aload X838 hx hby at_140 rfl rfl (pc' := 142) rfl ?_
      refine g_iconst (v := 1) X838 hx hby at_142 rfl (pc' := 143) rfl ?_
      refine g_caload (i := 1) (v := (.int k754)) X838 hx hby hZ q846 (by decide) (by decide) rfl at_143 (pc' := 144) rfl ?_
      refine g_bipush (v := 46) X838 hx hby at_144 rfl (pc' := 146) rfl ?_
      refine g_icmp_ne X838 hx hby at_146 (by decide) (pc' := 152) (by decide) (pc2 := 149) rfl (fun c146_855 => ?_) (fun c146_855 => ?_)
      · refine g_iload X838 hx hby at_152 rfl (pc' := 154) rfl ?_
        refine g_iconst (v := 2) X838 hx hby at_154 rfl (pc' := 155) rfl ?_
        refine g_icmp_le X838 hx hby at_155 (by decide) (pc' := 170) (by decide) (pc2 := 158) rfl (fun c155_856 => ?_) (fun q => absurd q (by decide))
        refine g_iload X838 hx hby at_170 rfl (pc' := 172) rfl ?_
        refine g_iconst (v := 3) X838 hx hby at_172 rfl (pc' := 173) rfl ?_
        refine g_icmp_le X838 hx hby at_173 (by decide) (pc' := 188) (by decide) (pc2 := 176) rfl (fun c173_857 => ?_) (fun q => absurd q (by decide))
        refine g_iload X838 hx hby at_188 rfl (pc' := 190) rfl ?_
        refine g_iload X838 hx hby at_190 rfl (pc' := 192) rfl ?_
        refine g_isub X838 hx hby at_192 (pc' := 193) rfl ?_
        refine g_iconst (v := 1) X838 hx hby at_193 rfl (pc' := 194) rfl ?_
        refine g_isub X838 hx hby at_194 (pc' := 195) rfl ?_
        refine g_istore (L' := #[.val (.int y0), .val (.int y1), .val (.int y2), .val (.int y3), .val (.int y4), .val (.int (2 : Int32)), .val (.ref b735), .val (.ref b782), .val (.ref b820), .val (.int (-1 : Int32)), .val (.int (((2 : Int32) - (-1 : Int32)) - (1 : Int32))), .unset]) X838 hx hby at_195 rfl (pc' := 197) rfl ?_
        have em : (((2 : Int32) - (-1 : Int32)) - (1 : Int32)) = (2 : Int32) := by decide
        rw [em]
        refine g_aload X838 hx hby at_197 rfl rfl (pc' := 199) rfl ?_
        have hno859 : ∀ j : Nat, ((-1 : Int32)).toInt < (j : Int) → j < 2 → ¬ (fun i => own_y ((own_cf k745 k754 k763 k772) i)) j = 46 := by
          intro j h1 h2
          have e1 : ((-1 : Int32)).toInt = -1 := rfl
          have h8 : j = 0 ∨ j = 1 := by omega
          rcases h8 with rfl | rfl
          · exact fun q => c128_853 ((own_dot rg745).mp q)
          · exact fun q => c146_855 ((own_dot rg754).mp q)
        refine g_callS (argsL := [(.ref b820)]) (S := []) X838 hx hby hZ (y := (⟨"com/example/hifadhi/hifadhi/mapping/QualifiedName", "unqualified", "(Ljava/lang/String;)Ljava/lang/String;"⟩ : MethodName)) hown (hw _ (List.mem_of_getElem? (i := 27) rfl)) (hw _ (List.mem_of_getElem? (i := 28) rfl)) (hw _ (List.mem_of_getElem? (i := 29) rfl)) (hw _ (List.mem_of_getElem? (i := 30) rfl)) (by decide) (own_uqA l Z a0 hw b820 T838.heap n0 2 (2 : Int32) (fun i => own_y ((own_cf k745 k754 k763 k772) i)) rfl ⟨w838, LEn838, LVn838, LCn838, LAn838⟩ cs q844 hcs fm q845 hfm (-1 : Int32) ⟨by decide, by decide⟩ (fun q => absurd q (by decide)) hno859 rfl) (by rw [hml]; rfl) (lenOf own_pd23 rfl) rfl at_199 (by decide) (W := 0) (by exact Nat.le_of_eq rfl) (by decide) (by decide) (by decide) (pc' := 202) rfl (fun T858 v858 X858 hQ858 => ?_)
        obtain ⟨rfl, e858⟩ := hQ858
        rw [e858] at X858
        show Gl p e below n0 _ _ (T858.setTop (mkF m 202 #[.val (.int y0), .val (.int y1), .val (.int y2), .val (.int y3), .val (.int y4), .val (.int (2 : Int32)), .val (.ref b735), .val (.ref b782), .val (.ref b820), .val (.int (-1 : Int32)), .val (.int (2 : Int32)), .unset] [(.ref b820)]))
        refine g_astore (L' := #[.val (.int y0), .val (.int y1), .val (.int y2), .val (.int y3), .val (.int y4), .val (.int (2 : Int32)), .val (.ref b735), .val (.ref b782), .val (.ref b820), .val (.int (-1 : Int32)), .val (.int (2 : Int32)), .val (.ref b820)]) X858 hx hby at_202 rfl rfl (pc' := 204) rfl ?_
        refine g_aload X858 hx hby at_204 rfl rfl (pc' := 206) rfl ?_
        refine g_callV (argsL := []) (S := []) (a := b820) X858 hx hby hZ (y := (⟨"java/lang/String", "length", "()I"⟩ : MethodName)) (y' := (⟨"java/lang/String", "length", "()I"⟩ : MethodName)) hown (hw _ (List.mem_of_getElem? (i := 86) rfl)) (hw _ (List.mem_of_getElem? (i := 37) rfl)) (notFace_of_selects (args := #[]) (mvT hZ (hw _ (List.mem_of_getElem? (i := 39) rfl)))) (hw _ (List.mem_of_getElem? (i := 39) rfl)) (hw _ (List.mem_of_getElem? (i := 38) rfl)) (hw _ (List.mem_of_getElem? (i := 8) rfl)) (hw _ (List.mem_of_getElem? (i := 40) rfl)) (by decide) LEn838 (own_ln l Z a0 hw b820 T838.heap n0 2 (2 : Int32) (fun i => own_y ((own_cf k745 k754 k763 k772) i)) rfl ⟨w838, LEn838, LVn838, LCn838, LAn838⟩ cs q844 hcs ) (by rw [hml]; rfl) (lenOf own_pd12 rfl) rfl at_206 (by decide) (W := 0) (by exact Nat.le_of_eq rfl) (by decide) (by decide) (by decide) (pc' := 209) rfl (fun T860 v860 X860 hQ860 => ?_)
        obtain ⟨rfl, e860⟩ := hQ860
        rw [e860] at X860
        show Gl p e below n0 _ _ (T860.setTop (mkF m 209 #[.val (.int y0), .val (.int y1), .val (.int y2), .val (.int y3), .val (.int y4), .val (.int (2 : Int32)), .val (.ref b735), .val (.ref b782), .val (.ref b820), .val (.int (-1 : Int32)), .val (.int (2 : Int32)), .val (.ref b820)] [(.int (2 : Int32))]))
        refine g_iload X860 hx hby at_209 rfl (pc' := 211) rfl ?_
        refine g_icmp_eq X860 hx hby at_211 (by decide) (pc' := 216) (by decide) (pc2 := 214) rfl (fun c211_861 => ?_) (fun q => absurd (by decide) q)
        refine g_iconst (v := 0) X860 hx hby at_216 rfl (pc' := 217) rfl ?_
        refine g_iload X860 hx hby at_217 rfl (pc' := 219) rfl ?_
        refine g_icmp_ge X860 hx hby at_219 (by decide) (pc' := 240) (by decide) (pc2 := 222) rfl (fun q => absurd (by decide) q) (fun c219_862 => ?_)
        refine g_aload X860 hx hby at_222 rfl rfl (pc' := 224) rfl ?_
        refine g_iconst (v := 0) X860 hx hby at_224 rfl (pc' := 225) rfl ?_
        refine g_callV (argsL := [(.int (0 : Int32))]) (S := []) (a := b820) X860 hx hby hZ (y := (⟨"java/lang/String", "charAt", "(I)C"⟩ : MethodName)) (y' := (⟨"java/lang/String", "charAt", "(I)C"⟩ : MethodName)) hown (hw _ (List.mem_of_getElem? (i := 119) rfl)) (hw _ (List.mem_of_getElem? (i := 120) rfl)) (notFace_of_selects (args := #[]) (mvT hZ (hw _ (List.mem_of_getElem? (i := 122) rfl)))) (hw _ (List.mem_of_getElem? (i := 122) rfl)) (hw _ (List.mem_of_getElem? (i := 121) rfl)) (hw _ (List.mem_of_getElem? (i := 8) rfl)) (hw _ (List.mem_of_getElem? (i := 123) rfl)) (by decide) LEn838 (own_ca l Z a0 hw b820 (0 : Int32) T838.heap n0 2 (2 : Int32) (fun i => own_y ((own_cf k745 k754 k763 k772) i)) rfl ⟨w838, LEn838, LVn838, LCn838, LAn838⟩ cs q844 hcs 0 rfl (by decide) fm q845 hfm) (by rw [hml]; rfl) (lenOf own_pd21 rfl) rfl at_225 (by decide) (W := 0) (by exact Nat.le_of_eq rfl) (by decide) (by decide) (by decide) (pc' := 228) rfl (fun T863 v863 X863 hQ863 => ?_)
        obtain ⟨rfl, e863⟩ := hQ863
        rw [e863] at X863
        show Gl p e below n0 _ _ (T863.setTop (mkF m 228 #[.val (.int y0), .val (.int y1), .val (.int y2), .val (.int y3), .val (.int y4), .val (.int (2 : Int32)), .val (.ref b735), .val (.ref b782), .val (.ref b820), .val (.int (-1 : Int32)), .val (.int (2 : Int32)), .val (.ref b820)] [(.int (((fun i => own_y ((own_cf k745 k754 k763 k772) i))) 0 &&& (255 : Int32)))]))
        refine g_aload X863 hx hby at_228 rfl rfl (pc' := 230) rfl ?_
        refine g_iload X863 hx hby at_230 rfl (pc' := 232) rfl ?_
        refine g_iconst (v := 1) X863 hx hby at_232 rfl (pc' := 233) rfl ?_
        refine g_iadd X863 hx hby at_233 (pc' := 234) rfl ?_
        refine g_caload (i := 0) (v := (.int k745)) X863 hx hby hZ q846 (by decide) (by decide) rfl at_234 (pc' := 235) rfl ?_
        refine g_icmp_eq X863 hx hby at_235 (by decide) (pc' := 240) (by decide) (pc2 := 238) rfl (fun c235_864 => ?_) (fun q => absurd (show own_y k745 &&& 255 = k745 from own_chr_y rg745) q)
        refine g_iconst (v := 1) X863 hx hby at_240 rfl (pc' := 241) rfl ?_
        refine g_iload X863 hx hby at_241 rfl (pc' := 243) rfl ?_
        refine g_icmp_ge X863 hx hby at_243 (by decide) (pc' := 264) (by decide) (pc2 := 246) rfl (fun q => absurd (by decide) q) (fun c243_865 => ?_)
        refine g_aload X863 hx hby at_246 rfl rfl (pc' := 248) rfl ?_
        refine g_iconst (v := 1) X863 hx hby at_248 rfl (pc' := 249) rfl ?_
        refine g_callV (argsL := [(.int (1 : Int32))]) (S := []) (a := b820) X863 hx hby hZ (y := (⟨"java/lang/String", "charAt", "(I)C"⟩ : MethodName)) (y' := (⟨"java/lang/String", "charAt", "(I)C"⟩ : MethodName)) hown (hw _ (List.mem_of_getElem? (i := 119) rfl)) (hw _ (List.mem_of_getElem? (i := 120) rfl)) (notFace_of_selects (args := #[]) (mvT hZ (hw _ (List.mem_of_getElem? (i := 122) rfl)))) (hw _ (List.mem_of_getElem? (i := 122) rfl)) (hw _ (List.mem_of_getElem? (i := 121) rfl)) (hw _ (List.mem_of_getElem? (i := 8) rfl)) (hw _ (List.mem_of_getElem? (i := 123) rfl)) (by decide) LEn838 (own_ca l Z a0 hw b820 (1 : Int32) T838.heap n0 2 (2 : Int32) (fun i => own_y ((own_cf k745 k754 k763 k772) i)) rfl ⟨w838, LEn838, LVn838, LCn838, LAn838⟩ cs q844 hcs 1 rfl (by decide) fm q845 hfm) (by rw [hml]; rfl) (lenOf own_pd21 rfl) rfl at_249 (by decide) (W := 0) (by exact Nat.le_of_eq rfl) (by decide) (by decide) (by decide) (pc' := 252) rfl (fun T866 v866 X866 hQ866 => ?_)
        obtain ⟨rfl, e866⟩ := hQ866
        rw [e866] at X866
        show Gl p e below n0 _ _ (T866.setTop (mkF m 252 #[.val (.int y0), .val (.int y1), .val (.int y2), .val (.int y3), .val (.int y4), .val (.int (2 : Int32)), .val (.ref b735), .val (.ref b782), .val (.ref b820), .val (.int (-1 : Int32)), .val (.int (2 : Int32)), .val (.ref b820)] [(.int (((fun i => own_y ((own_cf k745 k754 k763 k772) i))) 1 &&& (255 : Int32)))]))
        refine g_aload X866 hx hby at_252 rfl rfl (pc' := 254) rfl ?_
        refine g_iload X866 hx hby at_254 rfl (pc' := 256) rfl ?_
        refine g_iconst (v := 2) X866 hx hby at_256 rfl (pc' := 257) rfl ?_
        refine g_iadd X866 hx hby at_257 (pc' := 258) rfl ?_
        refine g_caload (i := 1) (v := (.int k754)) X866 hx hby hZ q846 (by decide) (by decide) rfl at_258 (pc' := 259) rfl ?_
        refine g_icmp_eq X866 hx hby at_259 (by decide) (pc' := 264) (by decide) (pc2 := 262) rfl (fun c259_867 => ?_) (fun q => absurd (show own_y k754 &&& 255 = k754 from own_chr_y rg754) q)
        refine g_iconst (v := 2) X866 hx hby at_264 rfl (pc' := 265) rfl ?_
        refine g_iload X866 hx hby at_265 rfl (pc' := 267) rfl ?_
        refine g_icmp_ge X866 hx hby at_267 (by decide) (pc' := 288) (by decide) (pc2 := 270) rfl (fun c267_868 => ?_) (fun q => absurd q (by decide))
        refine g_iconst (v := 3) X866 hx hby at_288 rfl (pc' := 289) rfl ?_
        refine g_iload X866 hx hby at_289 rfl (pc' := 291) rfl ?_
        refine g_icmp_ge X866 hx hby at_291 (by decide) (pc' := 312) (by decide) (pc2 := 294) rfl (fun c291_869 => ?_) (fun q => absurd q (by decide))
        refine g_iconst (v := 1) X866 hx hby at_312 rfl (pc' := 313) rfl ?_
        exact gw_retN X866 hx hby hS hk850 hret hlk (by simp) at_313 rfl (by decide) (by decide)
      · refine g_iconst (v := 1) X838 hx hby at_149 rfl (pc' := 150) rfl ?_
        refine g_istore (L' := #[.val (.int y0), .val (.int y1), .val (.int y2), .val (.int y3), .val (.int y4), .val (.int (2 : Int32)), .val (.ref b735), .val (.ref b782), .val (.ref b820), .val (.int (1 : Int32)), .unset, .unset]) X838 hx hby at_150 rfl (pc' := 152) rfl ?_
        refine g_iload X838 hx hby at_152 rfl (pc' := 154) rfl ?_
        refine g_iconst (v := 2) X838 hx hby at_154 rfl (pc' := 155) rfl ?_
        refine g_icmp_le X838 hx hby at_155 (by decide) (pc' := 170) (by decide) (pc2 := 158) rfl (fun c155_870 => ?_) (fun q => absurd q (by decide))
        refine g_iload X838 hx hby at_170 rfl (pc' := 172) rfl ?_
        refine g_iconst (v := 3) X838 hx hby at_172 rfl (pc' := 173) rfl ?_
        refine g_icmp_le X838 hx hby at_173 (by decide) (pc' := 188) (by decide) (pc2 := 176) rfl (fun c173_871 => ?_) (fun q => absurd q (by decide))
        refine g_iload X838 hx hby at_188 rfl (pc' := 190) rfl ?_
        refine g_iload X838 hx hby at_190 rfl (pc' := 192) rfl ?_
        refine g_isub X838 hx hby at_192 (pc' := 193) rfl ?_
        refine g_iconst (v := 1) X838 hx hby at_193 rfl (pc' := 194) rfl ?_
        refine g_isub X838 hx hby at_194 (pc' := 195) rfl ?_
        refine g_istore (L' := #[.val (.int y0), .val (.int y1), .val (.int y2), .val (.int y3), .val (.int y4), .val (.int (2 : Int32)), .val (.ref b735), .val (.ref b782), .val (.ref b820), .val (.int (1 : Int32)), .val (.int (((2 : Int32) - (1 : Int32)) - (1 : Int32))), .unset]) X838 hx hby at_195 rfl (pc' := 197) rfl ?_
        have em : (((2 : Int32) - (1 : Int32)) - (1 : Int32)) = (0 : Int32) := by decide
        rw [em]
        refine g_aload X838 hx hby at_197 rfl rfl (pc' := 199) rfl ?_
        have hno873 : ∀ j : Nat, ((1 : Int32)).toInt < (j : Int) → j < 2 → ¬ (fun i => own_y ((own_cf k745 k754 k763 k772) i)) j = 46 := by
          intro j h1 h2
          have e1 : ((1 : Int32)).toInt = 1 := rfl
          exfalso; omega
        refine gh_callS (argsL := [(.ref b820)]) (S := []) X838 hx hby hZ hS hk850 (own_hEL hw) ch843 own_nss (y := (⟨"com/example/hifadhi/hifadhi/mapping/QualifiedName", "unqualified", "(Ljava/lang/String;)Ljava/lang/String;"⟩ : MethodName)) hown (hw _ (List.mem_of_getElem? (i := 27) rfl)) (hw _ (List.mem_of_getElem? (i := 28) rfl)) (hw _ (List.mem_of_getElem? (i := 29) rfl)) (hw _ (List.mem_of_getElem? (i := 30) rfl)) (by decide) (own_uqC l Z a0 hw b820 T838.heap n0 2 (2 : Int32) (fun i => own_y ((own_cf k745 k754 k763 k772) i)) rfl ⟨w838, LEn838, LVn838, LCn838, LAn838⟩ cs q844 hcs fm q845 hfm (1 : Int32) ⟨by decide, by decide⟩ (fun _ => show own_y k754 = 46 from (own_dot rg754).mpr c146_855) hno873 (by decide) (by decide) zz849) (by rw [hml]; rfl) (lenOf own_pd23 rfl) rfl at_199 (by decide) (W := 0) (by exact Nat.le_of_eq rfl) (by decide) (by decide) (by decide) (pc' := 202) rfl (fun T872 v872 k872 X872 hS872 hk872 hZ872 hown872 hC872 hD872 hQ872 => ?_)
        obtain ⟨b872, rfl, ka872, la872⟩ := hQ872
        have q874 := own_sta_keep q844 ka872 all0
        have q875 := own_sta_keep q845 ka872 all0
        have q876 := q846.keep ka872 nin0
        have q877 := q847.keep ka872 nin0
        have q878 := LEn838.keep ka872
        have q879 := LVn838.keep ka872 nin0
        have q880 := LCn838.keep ka872 nin0
        have q881 := LAn838.keep ka872 nin0
        have zz882 := Nat.le_trans zz849 ka872.1
        have kk883 : Keep h0 T872.heap [] := kk851.trans ka872 all0
        have lb872 : Lat Z T872.heap b872 0 (fun i => ([] : List Int32).getD i 0) := la872
        obtain ⟨w872, LEr872, LVr872, LCr872, LAr872⟩ := lb872
        show Gl p e below n0 _ _ (T872.setTop (mkF m 202 #[.val (.int y0), .val (.int y1), .val (.int y2), .val (.int y3), .val (.int y4), .val (.int (2 : Int32)), .val (.ref b735), .val (.ref b782), .val (.ref b820), .val (.int (1 : Int32)), .val (.int (0 : Int32)), .unset] [(.ref b872)]))
        refine g_astore (L' := #[.val (.int y0), .val (.int y1), .val (.int y2), .val (.int y3), .val (.int y4), .val (.int (2 : Int32)), .val (.ref b735), .val (.ref b782), .val (.ref b820), .val (.int (1 : Int32)), .val (.int (0 : Int32)), .val (.ref b872)]) X872 hx hby at_202 rfl rfl (pc' := 204) rfl ?_
        refine g_aload X872 hx hby at_204 rfl rfl (pc' := 206) rfl ?_
        refine g_callV (argsL := []) (S := []) (a := b872) X872 hx hby hZ872 (y := (⟨"java/lang/String", "length", "()I"⟩ : MethodName)) (y' := (⟨"java/lang/String", "length", "()I"⟩ : MethodName)) hown872 (hw _ (List.mem_of_getElem? (i := 86) rfl)) (hw _ (List.mem_of_getElem? (i := 37) rfl)) (notFace_of_selects (args := #[]) (mvT hZ872 (hw _ (List.mem_of_getElem? (i := 39) rfl)))) (hw _ (List.mem_of_getElem? (i := 39) rfl)) (hw _ (List.mem_of_getElem? (i := 38) rfl)) (hw _ (List.mem_of_getElem? (i := 8) rfl)) (hw _ (List.mem_of_getElem? (i := 40) rfl)) (by decide) LEr872 (own_ln l Z a0 hw b872 T872.heap n0 0 (0 : Int32) (fun i => ([] : List Int32).getD i 0) rfl ⟨w872, LEr872, LVr872, LCr872, LAr872⟩ cs q874 hcs ) (by rw [hml]; rfl) (lenOf own_pd12 rfl) rfl at_206 (by decide) (W := 0) (by exact Nat.le_of_eq rfl) (by decide) (by decide) (by decide) (pc' := 209) rfl (fun T884 v884 X884 hQ884 => ?_)
        obtain ⟨rfl, e884⟩ := hQ884
        rw [e884] at X884
        show Gl p e below n0 _ _ (T884.setTop (mkF m 209 #[.val (.int y0), .val (.int y1), .val (.int y2), .val (.int y3), .val (.int y4), .val (.int (2 : Int32)), .val (.ref b735), .val (.ref b782), .val (.ref b820), .val (.int (1 : Int32)), .val (.int (0 : Int32)), .val (.ref b872)] [(.int (0 : Int32))]))
        refine g_iload X884 hx hby at_209 rfl (pc' := 211) rfl ?_
        refine g_icmp_eq X884 hx hby at_211 (by decide) (pc' := 216) (by decide) (pc2 := 214) rfl (fun c211_885 => ?_) (fun q => absurd (by decide) q)
        refine g_iconst (v := 0) X884 hx hby at_216 rfl (pc' := 217) rfl ?_
        refine g_iload X884 hx hby at_217 rfl (pc' := 219) rfl ?_
        refine g_icmp_ge X884 hx hby at_219 (by decide) (pc' := 240) (by decide) (pc2 := 222) rfl (fun c219_886 => ?_) (fun q => absurd q (by decide))
        refine g_iconst (v := 1) X884 hx hby at_240 rfl (pc' := 241) rfl ?_
        refine g_iload X884 hx hby at_241 rfl (pc' := 243) rfl ?_
        refine g_icmp_ge X884 hx hby at_243 (by decide) (pc' := 264) (by decide) (pc2 := 246) rfl (fun c243_887 => ?_) (fun q => absurd q (by decide))
        refine g_iconst (v := 2) X884 hx hby at_264 rfl (pc' := 265) rfl ?_
        refine g_iload X884 hx hby at_265 rfl (pc' := 267) rfl ?_
        refine g_icmp_ge X884 hx hby at_267 (by decide) (pc' := 288) (by decide) (pc2 := 270) rfl (fun c267_888 => ?_) (fun q => absurd q (by decide))
        refine g_iconst (v := 3) X884 hx hby at_288 rfl (pc' := 289) rfl ?_
        refine g_iload X884 hx hby at_289 rfl (pc' := 291) rfl ?_
        refine g_icmp_ge X884 hx hby at_291 (by decide) (pc' := 312) (by decide) (pc2 := 294) rfl (fun c291_889 => ?_) (fun q => absurd q (by decide))
        refine g_iconst (v := 1) X884 hx hby at_312 rfl (pc' := 313) rfl ?_
        exact gw_retN X884 hx hby hS872 hk872 hret hlk (by simp) at_313 rfl (by decide) (by decide)
    · refine g_iconst (v := 0) X838 hx hby at_131 rfl (pc' := 132) rfl ?_
      refine g_istore (L' := #[.val (.int y0), .val (.int y1), .val (.int y2), .val (.int y3), .val (.int y4), .val (.int (2 : Int32)), .val (.ref b735), .val (.ref b782), .val (.ref b820), .val (.int (0 : Int32)), .unset, .unset]) X838 hx hby at_132 rfl (pc' := 134) rfl ?_
      refine g_iload X838 hx hby at_134 rfl (pc' := 136) rfl ?_
      refine g_iconst (v := 1) X838 hx hby at_136 rfl (pc' := 137) rfl ?_
      refine g_icmp_le X838 hx hby at_137 (by decide) (pc' := 152) (by decide) (pc2 := 140) rfl (fun q => absurd (by decide) q) (fun c137_890 => ?_)
      refine g_aload X838 hx hby at_140 rfl rfl (pc' := 142) rfl ?_
      refine g_iconst (v := 1) X838 hx hby at_142 rfl (pc' := 143) rfl ?_
      refine g_caload (i := 1) (v := (.int k754)) X838 hx hby hZ q846 (by decide) (by decide) rfl at_143 (pc' := 144) rfl ?_
      refine g_bipush (v := 46) X838 hx hby at_144 rfl (pc' := 146) rfl ?_
      refine g_icmp_ne X838 hx hby at_146 (by decide) (pc' := 152) (by decide) (pc2 := 149) rfl (fun c146_891 => ?_) (fun c146_891 => ?_)
      · refine g_iload X838 hx hby at_152 rfl (pc' := 154) rfl ?_
        refine g_iconst (v := 2) X838 hx hby at_154 rfl (pc' := 155) rfl ?_
        refine g_icmp_le X838 hx hby at_155 (by decide) (pc' := 170) (by decide) (pc2 := 158) rfl (fun c155_892 => ?_) (fun q => absurd q (by decide))
        refine g_iload X838 hx hby at_170 rfl (pc' := 172) rfl ?_
        refine g_iconst (v := 3) X838 hx hby at_172 rfl (pc' := 173) rfl ?_
        refine g_icmp_le X838 hx hby at_173 (by decide) (pc' := 188) (by decide) (pc2 := 176) rfl (fun c173_893 => ?_) (fun q => absurd q (by decide))
        refine g_iload X838 hx hby at_188 rfl (pc' := 190) rfl ?_
        refine g_iload X838 hx hby at_190 rfl (pc' := 192) rfl ?_
        refine g_isub X838 hx hby at_192 (pc' := 193) rfl ?_
        refine g_iconst (v := 1) X838 hx hby at_193 rfl (pc' := 194) rfl ?_
        refine g_isub X838 hx hby at_194 (pc' := 195) rfl ?_
        refine g_istore (L' := #[.val (.int y0), .val (.int y1), .val (.int y2), .val (.int y3), .val (.int y4), .val (.int (2 : Int32)), .val (.ref b735), .val (.ref b782), .val (.ref b820), .val (.int (0 : Int32)), .val (.int (((2 : Int32) - (0 : Int32)) - (1 : Int32))), .unset]) X838 hx hby at_195 rfl (pc' := 197) rfl ?_
        have em : (((2 : Int32) - (0 : Int32)) - (1 : Int32)) = (1 : Int32) := by decide
        rw [em]
        refine g_aload X838 hx hby at_197 rfl rfl (pc' := 199) rfl ?_
        have hno895 : ∀ j : Nat, ((0 : Int32)).toInt < (j : Int) → j < 2 → ¬ (fun i => own_y ((own_cf k745 k754 k763 k772) i)) j = 46 := by
          intro j h1 h2
          have e1 : ((0 : Int32)).toInt = 0 := rfl
          have h8 : j = 1 := by omega
          rcases h8 with rfl
          · exact fun q => c146_891 ((own_dot rg754).mp q)
        refine g_callS (argsL := [(.ref b820)]) (S := []) X838 hx hby hZ (y := (⟨"com/example/hifadhi/hifadhi/mapping/QualifiedName", "unqualified", "(Ljava/lang/String;)Ljava/lang/String;"⟩ : MethodName)) hown (hw _ (List.mem_of_getElem? (i := 27) rfl)) (hw _ (List.mem_of_getElem? (i := 28) rfl)) (hw _ (List.mem_of_getElem? (i := 29) rfl)) (hw _ (List.mem_of_getElem? (i := 30) rfl)) (by decide) (own_uqB l Z a0 hw b820 T838.heap n0 2 (2 : Int32) (fun i => own_y ((own_cf k745 k754 k763 k772) i)) rfl ⟨w838, LEn838, LVn838, LCn838, LAn838⟩ cs q844 hcs fm q845 hfm (0 : Int32) ⟨by decide, by decide⟩ (fun _ => show own_y k745 = 46 from (own_dot rg745).mpr c128_853) hno895 (by decide) (fun i _ => fits_nar_byte _) 1 (by decide) (by decide) (by decide) zz849) (by rw [hml]; rfl) (lenOf own_pd23 rfl) rfl at_199 (by decide) (W := 0) (by exact Nat.le_of_eq rfl) (by decide) (by decide) (by decide) (pc' := 202) rfl (fun T894 v894 X894 hQ894 => ?_)
        obtain ⟨b894, rfl, ka894, la894⟩ := hQ894
        have q896 := own_sta_keep q844 ka894 all0
        have q897 := own_sta_keep q845 ka894 all0
        have q898 := q846.keep ka894 nin0
        have q899 := q847.keep ka894 nin0
        have q900 := LEn838.keep ka894
        have q901 := LVn838.keep ka894 nin0
        have q902 := LCn838.keep ka894 nin0
        have q903 := LAn838.keep ka894 nin0
        have zz904 := Nat.le_trans zz849 ka894.1
        have hk905 := Nat.le_trans hk850 ka894.1
        have kk906 : Keep h0 T894.heap [] := kk851.trans ka894 all0
        have lb894 : Lat Z T894.heap b894 1 (fun i => own_y ((own_cf k745 k754 k763 k772) (1 + i))) := la894
        obtain ⟨w894, LEr894, LVr894, LCr894, LAr894⟩ := lb894
        show Gl p e below n0 _ _ (T894.setTop (mkF m 202 #[.val (.int y0), .val (.int y1), .val (.int y2), .val (.int y3), .val (.int y4), .val (.int (2 : Int32)), .val (.ref b735), .val (.ref b782), .val (.ref b820), .val (.int (0 : Int32)), .val (.int (1 : Int32)), .unset] [(.ref b894)]))
        refine g_astore (L' := #[.val (.int y0), .val (.int y1), .val (.int y2), .val (.int y3), .val (.int y4), .val (.int (2 : Int32)), .val (.ref b735), .val (.ref b782), .val (.ref b820), .val (.int (0 : Int32)), .val (.int (1 : Int32)), .val (.ref b894)]) X894 hx hby at_202 rfl rfl (pc' := 204) rfl ?_
        refine g_aload X894 hx hby at_204 rfl rfl (pc' := 206) rfl ?_
        refine g_callV (argsL := []) (S := []) (a := b894) X894 hx hby hZ (y := (⟨"java/lang/String", "length", "()I"⟩ : MethodName)) (y' := (⟨"java/lang/String", "length", "()I"⟩ : MethodName)) hown (hw _ (List.mem_of_getElem? (i := 86) rfl)) (hw _ (List.mem_of_getElem? (i := 37) rfl)) (notFace_of_selects (args := #[]) (mvT hZ (hw _ (List.mem_of_getElem? (i := 39) rfl)))) (hw _ (List.mem_of_getElem? (i := 39) rfl)) (hw _ (List.mem_of_getElem? (i := 38) rfl)) (hw _ (List.mem_of_getElem? (i := 8) rfl)) (hw _ (List.mem_of_getElem? (i := 40) rfl)) (by decide) LEr894 (own_ln l Z a0 hw b894 T894.heap n0 1 (1 : Int32) (fun i => own_y ((own_cf k745 k754 k763 k772) (1 + i))) rfl ⟨w894, LEr894, LVr894, LCr894, LAr894⟩ cs q896 hcs ) (by rw [hml]; rfl) (lenOf own_pd12 rfl) rfl at_206 (by decide) (W := 0) (by exact Nat.le_of_eq rfl) (by decide) (by decide) (by decide) (pc' := 209) rfl (fun T907 v907 X907 hQ907 => ?_)
        obtain ⟨rfl, e907⟩ := hQ907
        rw [e907] at X907
        show Gl p e below n0 _ _ (T907.setTop (mkF m 209 #[.val (.int y0), .val (.int y1), .val (.int y2), .val (.int y3), .val (.int y4), .val (.int (2 : Int32)), .val (.ref b735), .val (.ref b782), .val (.ref b820), .val (.int (0 : Int32)), .val (.int (1 : Int32)), .val (.ref b894)] [(.int (1 : Int32))]))
        refine g_iload X907 hx hby at_209 rfl (pc' := 211) rfl ?_
        refine g_icmp_eq X907 hx hby at_211 (by decide) (pc' := 216) (by decide) (pc2 := 214) rfl (fun c211_908 => ?_) (fun q => absurd (by decide) q)
        refine g_iconst (v := 0) X907 hx hby at_216 rfl (pc' := 217) rfl ?_
        refine g_iload X907 hx hby at_217 rfl (pc' := 219) rfl ?_
        refine g_icmp_ge X907 hx hby at_219 (by decide) (pc' := 240) (by decide) (pc2 := 222) rfl (fun q => absurd (by decide) q) (fun c219_909 => ?_)
        refine g_aload X907 hx hby at_222 rfl rfl (pc' := 224) rfl ?_
        refine g_iconst (v := 0) X907 hx hby at_224 rfl (pc' := 225) rfl ?_
        refine g_callV (argsL := [(.int (0 : Int32))]) (S := []) (a := b894) X907 hx hby hZ (y := (⟨"java/lang/String", "charAt", "(I)C"⟩ : MethodName)) (y' := (⟨"java/lang/String", "charAt", "(I)C"⟩ : MethodName)) hown (hw _ (List.mem_of_getElem? (i := 119) rfl)) (hw _ (List.mem_of_getElem? (i := 120) rfl)) (notFace_of_selects (args := #[]) (mvT hZ (hw _ (List.mem_of_getElem? (i := 122) rfl)))) (hw _ (List.mem_of_getElem? (i := 122) rfl)) (hw _ (List.mem_of_getElem? (i := 121) rfl)) (hw _ (List.mem_of_getElem? (i := 8) rfl)) (hw _ (List.mem_of_getElem? (i := 123) rfl)) (by decide) LEr894 (own_ca l Z a0 hw b894 (0 : Int32) T894.heap n0 1 (1 : Int32) (fun i => own_y ((own_cf k745 k754 k763 k772) (1 + i))) rfl ⟨w894, LEr894, LVr894, LCr894, LAr894⟩ cs q896 hcs 0 rfl (by decide) fm q897 hfm) (by rw [hml]; rfl) (lenOf own_pd21 rfl) rfl at_225 (by decide) (W := 0) (by exact Nat.le_of_eq rfl) (by decide) (by decide) (by decide) (pc' := 228) rfl (fun T910 v910 X910 hQ910 => ?_)
        obtain ⟨rfl, e910⟩ := hQ910
        rw [e910] at X910
        show Gl p e below n0 _ _ (T910.setTop (mkF m 228 #[.val (.int y0), .val (.int y1), .val (.int y2), .val (.int y3), .val (.int y4), .val (.int (2 : Int32)), .val (.ref b735), .val (.ref b782), .val (.ref b820), .val (.int (0 : Int32)), .val (.int (1 : Int32)), .val (.ref b894)] [(.int (((fun i => own_y ((own_cf k745 k754 k763 k772) (1 + i)))) 0 &&& (255 : Int32)))]))
        refine g_aload X910 hx hby at_228 rfl rfl (pc' := 230) rfl ?_
        refine g_iload X910 hx hby at_230 rfl (pc' := 232) rfl ?_
        refine g_iconst (v := 1) X910 hx hby at_232 rfl (pc' := 233) rfl ?_
        refine g_iadd X910 hx hby at_233 (pc' := 234) rfl ?_
        refine g_caload (i := 1) (v := (.int k754)) X910 hx hby hZ q898 (by decide) (by decide) rfl at_234 (pc' := 235) rfl ?_
        refine g_icmp_eq X910 hx hby at_235 (by decide) (pc' := 240) (by decide) (pc2 := 238) rfl (fun c235_911 => ?_) (fun q => absurd (show own_y k754 &&& 255 = k754 from own_chr_y rg754) q)
        refine g_iconst (v := 1) X910 hx hby at_240 rfl (pc' := 241) rfl ?_
        refine g_iload X910 hx hby at_241 rfl (pc' := 243) rfl ?_
        refine g_icmp_ge X910 hx hby at_243 (by decide) (pc' := 264) (by decide) (pc2 := 246) rfl (fun c243_912 => ?_) (fun q => absurd q (by decide))
        refine g_iconst (v := 2) X910 hx hby at_264 rfl (pc' := 265) rfl ?_
        refine g_iload X910 hx hby at_265 rfl (pc' := 267) rfl ?_
        refine g_icmp_ge X910 hx hby at_267 (by decide) (pc' := 288) (by decide) (pc2 := 270) rfl (fun c267_913 => ?_) (fun q => absurd q (by decide))
        refine g_iconst (v := 3) X910 hx hby at_288 rfl (pc' := 289) rfl ?_
        refine g_iload X910 hx hby at_289 rfl (pc' := 291) rfl ?_
        refine g_icmp_ge X910 hx hby at_291 (by decide) (pc' := 312) (by decide) (pc2 := 294) rfl (fun c291_914 => ?_) (fun q => absurd q (by decide))
        refine g_iconst (v := 1) X910 hx hby at_312 rfl (pc' := 313) rfl ?_
        exact gw_retN X910 hx hby hS hk905 hret hlk (by simp) at_313 rfl (by decide) (by decide)
      · refine g_iconst (v := 1) X838 hx hby at_149 rfl (pc' := 150) rfl ?_
        refine g_istore (L' := #[.val (.int y0), .val (.int y1), .val (.int y2), .val (.int y3), .val (.int y4), .val (.int (2 : Int32)), .val (.ref b735), .val (.ref b782), .val (.ref b820), .val (.int (1 : Int32)), .unset, .unset]) X838 hx hby at_150 rfl (pc' := 152) rfl ?_
        refine g_iload X838 hx hby at_152 rfl (pc' := 154) rfl ?_
        refine g_iconst (v := 2) X838 hx hby at_154 rfl (pc' := 155) rfl ?_
        refine g_icmp_le X838 hx hby at_155 (by decide) (pc' := 170) (by decide) (pc2 := 158) rfl (fun c155_915 => ?_) (fun q => absurd q (by decide))
        refine g_iload X838 hx hby at_170 rfl (pc' := 172) rfl ?_
        refine g_iconst (v := 3) X838 hx hby at_172 rfl (pc' := 173) rfl ?_
        refine g_icmp_le X838 hx hby at_173 (by decide) (pc' := 188) (by decide) (pc2 := 176) rfl (fun c173_916 => ?_) (fun q => absurd q (by decide))
        refine g_iload X838 hx hby at_188 rfl (pc' := 190) rfl ?_
        refine g_iload X838 hx hby at_190 rfl (pc' := 192) rfl ?_
        refine g_isub X838 hx hby at_192 (pc' := 193) rfl ?_
        refine g_iconst (v := 1) X838 hx hby at_193 rfl (pc' := 194) rfl ?_
        refine g_isub X838 hx hby at_194 (pc' := 195) rfl ?_
        refine g_istore (L' := #[.val (.int y0), .val (.int y1), .val (.int y2), .val (.int y3), .val (.int y4), .val (.int (2 : Int32)), .val (.ref b735), .val (.ref b782), .val (.ref b820), .val (.int (1 : Int32)), .val (.int (((2 : Int32) - (1 : Int32)) - (1 : Int32))), .unset]) X838 hx hby at_195 rfl (pc' := 197) rfl ?_
        have em : (((2 : Int32) - (1 : Int32)) - (1 : Int32)) = (0 : Int32) := by decide
        rw [em]
        refine g_aload X838 hx hby at_197 rfl rfl (pc' := 199) rfl ?_
        have hno918 : ∀ j : Nat, ((1 : Int32)).toInt < (j : Int) → j < 2 → ¬ (fun i => own_y ((own_cf k745 k754 k763 k772) i)) j = 46 := by
          intro j h1 h2
          have e1 : ((1 : Int32)).toInt = 1 := rfl
          exfalso; omega
        refine gh_callS (argsL := [(.ref b820)]) (S := []) X838 hx hby hZ hS hk850 (own_hEL hw) ch843 own_nss (y := (⟨"com/example/hifadhi/hifadhi/mapping/QualifiedName", "unqualified", "(Ljava/lang/String;)Ljava/lang/String;"⟩ : MethodName)) hown (hw _ (List.mem_of_getElem? (i := 27) rfl)) (hw _ (List.mem_of_getElem? (i := 28) rfl)) (hw _ (List.mem_of_getElem? (i := 29) rfl)) (hw _ (List.mem_of_getElem? (i := 30) rfl)) (by decide) (own_uqC l Z a0 hw b820 T838.heap n0 2 (2 : Int32) (fun i => own_y ((own_cf k745 k754 k763 k772) i)) rfl ⟨w838, LEn838, LVn838, LCn838, LAn838⟩ cs q844 hcs fm q845 hfm (1 : Int32) ⟨by decide, by decide⟩ (fun _ => show own_y k754 = 46 from (own_dot rg754).mpr c146_891) hno918 (by decide) (by decide) zz849) (by rw [hml]; rfl) (lenOf own_pd23 rfl) rfl at_199 (by decide) (W := 0) (by exact Nat.le_of_eq rfl) (by decide) (by decide) (by decide) (pc' := 202) rfl (fun T917 v917 k917 X917 hS917 hk917 hZ917 hown917 hC917 hD917 hQ917 => ?_)
        obtain ⟨b917, rfl, ka917, la917⟩ := hQ917
        have q919 := own_sta_keep q844 ka917 all0
        have q920 := own_sta_keep q845 ka917 all0
        have q921 := q846.keep ka917 nin0
        have q922 := q847.keep ka917 nin0
        have q923 := LEn838.keep ka917
        have q924 := LVn838.keep ka917 nin0
        have q925 := LCn838.keep ka917 nin0
        have q926 := LAn838.keep ka917 nin0
        have zz927 := Nat.le_trans zz849 ka917.1
        have kk928 : Keep h0 T917.heap [] := kk851.trans ka917 all0
        have lb917 : Lat Z T917.heap b917 0 (fun i => ([] : List Int32).getD i 0) := la917
        obtain ⟨w917, LEr917, LVr917, LCr917, LAr917⟩ := lb917
        show Gl p e below n0 _ _ (T917.setTop (mkF m 202 #[.val (.int y0), .val (.int y1), .val (.int y2), .val (.int y3), .val (.int y4), .val (.int (2 : Int32)), .val (.ref b735), .val (.ref b782), .val (.ref b820), .val (.int (1 : Int32)), .val (.int (0 : Int32)), .unset] [(.ref b917)]))
        refine g_astore (L' := #[.val (.int y0), .val (.int y1), .val (.int y2), .val (.int y3), .val (.int y4), .val (.int (2 : Int32)), .val (.ref b735), .val (.ref b782), .val (.ref b820), .val (.int (1 : Int32)), .val (.int (0 : Int32)), .val (.ref b917)]) X917 hx hby at_202 rfl rfl (pc' := 204) rfl ?_
        refine g_aload X917 hx hby at_204 rfl rfl (pc' := 206) rfl ?_
        refine g_callV (argsL := []) (S := []) (a := b917) X917 hx hby hZ917 (y := (⟨"java/lang/String", "length", "()I"⟩ : MethodName)) (y' := (⟨"java/lang/String", "length", "()I"⟩ : MethodName)) hown917 (hw _ (List.mem_of_getElem? (i := 86) rfl)) (hw _ (List.mem_of_getElem? (i := 37) rfl)) (notFace_of_selects (args := #[]) (mvT hZ917 (hw _ (List.mem_of_getElem? (i := 39) rfl)))) (hw _ (List.mem_of_getElem? (i := 39) rfl)) (hw _ (List.mem_of_getElem? (i := 38) rfl)) (hw _ (List.mem_of_getElem? (i := 8) rfl)) (hw _ (List.mem_of_getElem? (i := 40) rfl)) (by decide) LEr917 (own_ln l Z a0 hw b917 T917.heap n0 0 (0 : Int32) (fun i => ([] : List Int32).getD i 0) rfl ⟨w917, LEr917, LVr917, LCr917, LAr917⟩ cs q919 hcs ) (by rw [hml]; rfl) (lenOf own_pd12 rfl) rfl at_206 (by decide) (W := 0) (by exact Nat.le_of_eq rfl) (by decide) (by decide) (by decide) (pc' := 209) rfl (fun T929 v929 X929 hQ929 => ?_)
        obtain ⟨rfl, e929⟩ := hQ929
        rw [e929] at X929
        show Gl p e below n0 _ _ (T929.setTop (mkF m 209 #[.val (.int y0), .val (.int y1), .val (.int y2), .val (.int y3), .val (.int y4), .val (.int (2 : Int32)), .val (.ref b735), .val (.ref b782), .val (.ref b820), .val (.int (1 : Int32)), .val (.int (0 : Int32)), .val (.ref b917)] [(.int (0 : Int32))]))
        refine g_iload X929 hx hby at_209 rfl (pc' := 211) rfl ?_
        refine g_icmp_eq X929 hx hby at_211 (by decide) (pc' := 216) (by decide) (pc2 := 214) rfl (fun c211_930 => ?_) (fun q => absurd (by decide) q)
        refine g_iconst (v := 0) X929 hx hby at_216 rfl (pc' := 217) rfl ?_
        refine g_iload X929 hx hby at_217 rfl (pc' := 219) rfl ?_
        refine g_icmp_ge X929 hx hby at_219 (by decide) (pc' := 240) (by decide) (pc2 := 222) rfl (fun c219_931 => ?_) (fun q => absurd q (by decide))
        refine g_iconst (v := 1) X929 hx hby at_240 rfl (pc' := 241) rfl ?_
        refine g_iload X929 hx hby at_241 rfl (pc' := 243) rfl ?_
        refine g_icmp_ge X929 hx hby at_243 (by decide) (pc' := 264) (by decide) (pc2 := 246) rfl (fun c243_932 => ?_) (fun q => absurd q (by decide))
        refine g_iconst (v := 2) X929 hx hby at_264 rfl (pc' := 265) rfl ?_
        refine g_iload X929 hx hby at_265 rfl (pc' := 267) rfl ?_
        refine g_icmp_ge X929 hx hby at_267 (by decide) (pc' := 288) (by decide) (pc2 := 270) rfl (fun c267_933 => ?_) (fun q => absurd q (by decide))
        refine g_iconst (v := 3) X929 hx hby at_288 rfl (pc' := 289) rfl ?_
        refine g_iload X929 hx hby at_289 rfl (pc' := 291) rfl ?_
        refine g_icmp_ge X929 hx hby at_291 (by decide) (pc' := 312) (by decide) (pc2 := 294) rfl (fun c291_934 => ?_) (fun q => absurd q (by decide))
        refine g_iconst (v := 1) X929 hx hby at_312 rfl (pc' := 313) rfl ?_
        exact gw_retN X929 hx hby hS917 hk917 hret hlk (by simp) at_313 rfl (by decide) (by decide)
  · rw [q5]
    refine g_iconst (v := 4) X0 hx hby at_8 rfl (pc' := 9) rfl ?_
    refine g_newarray (k := 4) (cap := 4) X0 hx hby hZ (hw _ (List.mem_of_getElem? (i := 1) rfl)) at_9 rfl (by decide) (by decide) (by decide) (by decide) (pc' := 11) rfl (fun T935 h935 b935 g935 X935 E935 A935 => ?_)
    have nn936 : n0 ≤ b935 := by rw [g935]; exact Z0
    have hh937 : h0.size ≤ b935 := by rw [g935]; exact (Keep.refl h0 []).1
    have sn938 := Safe.ext E935 hC0.1 (Safe.new (x := b935) (Nat.le_of_eq g935.symm))
    have ch939 := hC0.trans (CHr.ext E935 hC0.1)
    have hk940 := Nat.le_trans (Nat.le_refl _) E935.1
    have q941 := Sc.ext E935
    have q942 := Sf.ext E935
    have zz943 := Nat.le_trans Z0 E935.1
    have kk944 : Keep h0 h935 [] := (Keep.refl h0 []).ext E935
    refine g_dup X935 hx hby at_11 rfl (pc' := 12) rfl ?_
    refine g_iconst (v := 0) X935 hx hby at_12 rfl (pc' := 13) rfl ?_
    refine g_iloadN X935 hx hby at_13 rfl (pc' := 14) rfl ?_
    refine g_callS (argsL := [(.int y1)]) (S := [(.int (0 : Int32)), (.ref b935), (.ref b935)]) X935 hx hby hZ (y := (⟨"com/example/hifadhi/hifadhi/mapping/QualifiedNameUnqualifiedPinLaw", "ch", "(I)C"⟩ : MethodName)) hown (hw _ (List.mem_of_getElem? (i := 2) rfl)) (hw _ (List.mem_of_getElem? (i := 3) rfl)) (hw _ (List.mem_of_getElem? (i := 4) rfl)) (hw _ (List.mem_of_getElem? (i := 5) rfl)) (by decide) (own_chc l Z a0 hw y1 h935 n0) (by rw [hml]; rfl) (lenOf own_pd21 rfl) rfl at_14 (by decide) (W := 3) (by exact Nat.le_of_eq rfl) (by decide) (by decide) (by decide) (pc' := 17) rfl (fun T945 v945 X945 hQ945 => ?_)
    obtain ⟨k945, rfl, rg945, e945⟩ := hQ945
    rw [e945] at X945
    show Gl p e below n0 _ _ (T945.setTop (mkF m 17 #[.val (.int y0), .val (.int y1), .val (.int y2), .val (.int y3), .val (.int y4), .val (.int (3 : Int32)), .unset, .unset, .unset, .unset, .unset, .unset] [(.int k945), (.int (0 : Int32)), (.ref b935), (.ref b935)]))
    refine g_castore (i := 0) X945 hx hby hZ A935 rfl (by decide) nn936 at_17 (pc' := 18) rfl (fun T946 h946 sl946 X946 W946 A946 => ?_)
    have sf947 := Safe.wr W946 sn938 ch939.1 sn938
    have ch948 := ch939.trans (CHr.wr W946 sn938 ch939.1)
    have q949 := q941.wr W946
    have q950 := q942.wr W946
    have zz951 := Nat.le_trans zz943 (Nat.le_of_eq W946.size.symm)
    have hk952 := Nat.le_trans hk940 (Nat.le_of_eq W946.size.symm)
    have kk953 : Keep h0 h946 [] := kk944.wr W946 (Or.inr hh937)
    refine g_dup X946 hx hby at_18 rfl (pc' := 19) rfl ?_
    refine g_iconst (v := 1) X946 hx hby at_19 rfl (pc' := 20) rfl ?_
    refine g_iloadN X946 hx hby at_20 rfl (pc' := 21) rfl ?_
    refine g_callS (argsL := [(.int y2)]) (S := [(.int (1 : Int32)), (.ref b935), (.ref b935)]) X946 hx hby hZ (y := (⟨"com/example/hifadhi/hifadhi/mapping/QualifiedNameUnqualifiedPinLaw", "ch", "(I)C"⟩ : MethodName)) hown (hw _ (List.mem_of_getElem? (i := 2) rfl)) (hw _ (List.mem_of_getElem? (i := 3) rfl)) (hw _ (List.mem_of_getElem? (i := 4) rfl)) (hw _ (List.mem_of_getElem? (i := 5) rfl)) (by decide) (own_chc l Z a0 hw y2 h946 n0) (by rw [hml]; rfl) (lenOf own_pd21 rfl) rfl at_21 (by decide) (W := 3) (by exact Nat.le_of_eq rfl) (by decide) (by decide) (by decide) (pc' := 24) rfl (fun T954 v954 X954 hQ954 => ?_)
    obtain ⟨k954, rfl, rg954, e954⟩ := hQ954
    rw [e954] at X954
    show Gl p e below n0 _ _ (T954.setTop (mkF m 24 #[.val (.int y0), .val (.int y1), .val (.int y2), .val (.int y3), .val (.int y4), .val (.int (3 : Int32)), .unset, .unset, .unset, .unset, .unset, .unset] [(.int k954), (.int (1 : Int32)), (.ref b935), (.ref b935)]))
    refine g_castore (i := 1) X954 hx hby hZ A946 rfl (by decide) nn936 at_24 (pc' := 25) rfl (fun T955 h955 sl955 X955 W955 A955 => ?_)
    have sf956 := Safe.wr W955 sf947 ch948.1 sf947
    have ch957 := ch948.trans (CHr.wr W955 sf947 ch948.1)
    have q958 := q949.wr W955
    have q959 := q950.wr W955
    have zz960 := Nat.le_trans zz951 (Nat.le_of_eq W955.size.symm)
    have hk961 := Nat.le_trans hk952 (Nat.le_of_eq W955.size.symm)
    have kk962 : Keep h0 h955 [] := kk953.wr W955 (Or.inr hh937)
    refine g_dup X955 hx hby at_25 rfl (pc' := 26) rfl ?_
    refine g_iconst (v := 2) X955 hx hby at_26 rfl (pc' := 27) rfl ?_
    refine g_iloadN X955 hx hby at_27 rfl (pc' := 28) rfl ?_
    refine g_callS (argsL := [(.int y3)]) (S := [(.int (2 : Int32)), (.ref b935), (.ref b935)]) X955 hx hby hZ (y := (⟨"com/example/hifadhi/hifadhi/mapping/QualifiedNameUnqualifiedPinLaw", "ch", "(I)C"⟩ : MethodName)) hown (hw _ (List.mem_of_getElem? (i := 2) rfl)) (hw _ (List.mem_of_getElem? (i := 3) rfl)) (hw _ (List.mem_of_getElem? (i := 4) rfl)) (hw _ (List.mem_of_getElem? (i := 5) rfl)) (by decide) (own_chc l Z a0 hw y3 h955 n0) (by rw [hml]; rfl) (lenOf own_pd21 rfl) rfl at_28 (by decide) (W := 3) (by exact Nat.le_of_eq rfl) (by decide) (by decide) (by decide) (pc' := 31) rfl (fun T963 v963 X963 hQ963 => ?_)
    obtain ⟨k963, rfl, rg963, e963⟩ := hQ963
    rw [e963] at X963
    show Gl p e below n0 _ _ (T963.setTop (mkF m 31 #[.val (.int y0), .val (.int y1), .val (.int y2), .val (.int y3), .val (.int y4), .val (.int (3 : Int32)), .unset, .unset, .unset, .unset, .unset, .unset] [(.int k963), (.int (2 : Int32)), (.ref b935), (.ref b935)]))
    refine g_castore (i := 2) X963 hx hby hZ A955 rfl (by decide) nn936 at_31 (pc' := 32) rfl (fun T964 h964 sl964 X964 W964 A964 => ?_)
    have sf965 := Safe.wr W964 sf956 ch957.1 sf956
    have ch966 := ch957.trans (CHr.wr W964 sf956 ch957.1)
    have q967 := q958.wr W964
    have q968 := q959.wr W964
    have zz969 := Nat.le_trans zz960 (Nat.le_of_eq W964.size.symm)
    have hk970 := Nat.le_trans hk961 (Nat.le_of_eq W964.size.symm)
    have kk971 : Keep h0 h964 [] := kk962.wr W964 (Or.inr hh937)
    refine g_dup X964 hx hby at_32 rfl (pc' := 33) rfl ?_
    refine g_iconst (v := 3) X964 hx hby at_33 rfl (pc' := 34) rfl ?_
    refine g_iload X964 hx hby at_34 rfl (pc' := 36) rfl ?_
    refine g_callS (argsL := [(.int y4)]) (S := [(.int (3 : Int32)), (.ref b935), (.ref b935)]) X964 hx hby hZ (y := (⟨"com/example/hifadhi/hifadhi/mapping/QualifiedNameUnqualifiedPinLaw", "ch", "(I)C"⟩ : MethodName)) hown (hw _ (List.mem_of_getElem? (i := 2) rfl)) (hw _ (List.mem_of_getElem? (i := 3) rfl)) (hw _ (List.mem_of_getElem? (i := 4) rfl)) (hw _ (List.mem_of_getElem? (i := 5) rfl)) (by decide) (own_chc l Z a0 hw y4 h964 n0) (by rw [hml]; rfl) (lenOf own_pd21 rfl) rfl at_36 (by decide) (W := 3) (by exact Nat.le_of_eq rfl) (by decide) (by decide) (by decide) (pc' := 39) rfl (fun T972 v972 X972 hQ972 => ?_)
    obtain ⟨k972, rfl, rg972, e972⟩ := hQ972
    rw [e972] at X972
    show Gl p e below n0 _ _ (T972.setTop (mkF m 39 #[.val (.int y0), .val (.int y1), .val (.int y2), .val (.int y3), .val (.int y4), .val (.int (3 : Int32)), .unset, .unset, .unset, .unset, .unset, .unset] [(.int k972), (.int (3 : Int32)), (.ref b935), (.ref b935)]))
    refine g_castore (i := 3) X972 hx hby hZ A964 rfl (by decide) nn936 at_39 (pc' := 40) rfl (fun T973 h973 sl973 X973 W973 A973 => ?_)
    have sf974 := Safe.wr W973 sf965 ch966.1 sf965
    have ch975 := ch966.trans (CHr.wr W973 sf965 ch966.1)
    have q976 := q967.wr W973
    have q977 := q968.wr W973
    have zz978 := Nat.le_trans zz969 (Nat.le_of_eq W973.size.symm)
    have hk979 := Nat.le_trans hk970 (Nat.le_of_eq W973.size.symm)
    have kk980 : Keep h0 h973 [] := kk971.wr W973 (Or.inr hh937)
    refine g_astore (L' := #[.val (.int y0), .val (.int y1), .val (.int y2), .val (.int y3), .val (.int y4), .val (.int (3 : Int32)), .val (.ref b935), .unset, .unset, .unset, .unset, .unset]) X973 hx hby at_40 rfl rfl (pc' := 42) rfl ?_
    have AG981 : Ary Z h973 b935 .char 4 (fun i => .int ((own_cf k945 k954 k963 k972) i)) := by
      refine A973.congr fun i hi => ?_
      have h8 : i = 0 ∨ i = 1 ∨ i = 2 ∨ i = 3 := by omega
      rcases h8 with rfl | rfl | rfl | rfl
      · exact congrArg Value.int (own_narC ⟨rg945.1, Int.le_trans rg945.2 (by decide)⟩)
      · exact congrArg Value.int (own_narC ⟨rg954.1, Int.le_trans rg954.2 (by decide)⟩)
      · exact congrArg Value.int (own_narC ⟨rg963.1, Int.le_trans rg963.2 (by decide)⟩)
      · exact congrArg Value.int (own_narC ⟨rg972.1, Int.le_trans rg972.2 (by decide)⟩)
    refine g_iload X973 hx hby at_42 rfl (pc' := 44) rfl ?_
    refine g_newarray (k := 3) (cap := 3) X973 hx hby hZ (hw _ (List.mem_of_getElem? (i := 1) rfl)) at_44 rfl (by decide) (by decide) (by decide) (by decide) (pc' := 46) rfl (fun T982 h982 b982 g982 X982 E982 A982 => ?_)
    have ne983 : b935 ≠ b982 := by rw [g982]; exact Nat.ne_of_lt AG981.lt
    have nn984 : n0 ≤ b982 := by rw [g982]; exact zz978
    have hh985 : h0.size ≤ b982 := by rw [g982]; exact kk980.1
    have sn986 := Safe.ext E982 ch975.1 (Safe.new (x := b982) (Nat.le_of_eq g982.symm))
    have sf987 := Safe.ext E982 ch975.1 sf974
    have ch988 := ch975.trans (CHr.ext E982 ch975.1)
    have hk989 := Nat.le_trans hk979 E982.1
    have q990 := q976.ext E982
    have q991 := q977.ext E982
    have q992 := AG981.ext E982
    have zz993 := Nat.le_trans zz978 E982.1
    have kk994 : Keep h0 h982 [] := kk980.ext E982
    refine g_astore (L' := #[.val (.int y0), .val (.int y1), .val (.int y2), .val (.int y3), .val (.int y4), .val (.int (3 : Int32)), .val (.ref b935), .val (.ref b982), .unset, .unset, .unset, .unset]) X982 hx hby at_46 rfl rfl (pc' := 48) rfl ?_
    refine g_iload X982 hx hby at_48 rfl (pc' := 50) rfl ?_
    refine g_if_le X982 hx hby at_50 (by decide) (pc' := 61) (by decide) (pc2 := 53) rfl (fun q => absurd (by decide) q) (fun c50_995 => ?_)
    refine g_aload X982 hx hby at_53 rfl rfl (pc' := 55) rfl ?_
    refine g_iconst (v := 0) X982 hx hby at_55 rfl (pc' := 56) rfl ?_
    refine g_aload X982 hx hby at_56 rfl rfl (pc' := 58) rfl ?_
    refine g_iconst (v := 0) X982 hx hby at_58 rfl (pc' := 59) rfl ?_
    refine g_caload (i := 0) (v := (.int k945)) X982 hx hby hZ q992 (by decide) (by decide) rfl at_59 (pc' := 60) rfl ?_
    refine g_castore (i := 0) X982 hx hby hZ A982 rfl (by decide) nn984 at_60 (pc' := 61) rfl (fun T996 h996 sl996 X996 W996 A996 => ?_)
    have sf997 := Safe.wr W996 sn986 ch988.1 sf987
    have sf998 := Safe.wr W996 sn986 ch988.1 sn986
    have ch999 := ch988.trans (CHr.wr W996 sn986 ch988.1)
    have q1000 := q990.wr W996
    have q1001 := q991.wr W996
    have q1002 := q992.other W996 ne983
    have zz1003 := Nat.le_trans zz993 (Nat.le_of_eq W996.size.symm)
    have hk1004 := Nat.le_trans hk989 (Nat.le_of_eq W996.size.symm)
    have kk1005 : Keep h0 h996 [] := kk994.wr W996 (Or.inr hh985)
    refine g_iload X996 hx hby at_61 rfl (pc' := 63) rfl ?_
    refine g_iconst (v := 1) X996 hx hby at_63 rfl (pc' := 64) rfl ?_
    refine g_icmp_le X996 hx hby at_64 (by decide) (pc' := 75) (by decide) (pc2 := 67) rfl (fun q => absurd (by decide) q) (fun c64_1006 => ?_)
    refine g_aload X996 hx hby at_67 rfl rfl (pc' := 69) rfl ?_
    refine g_iconst (v := 1) X996 hx hby at_69 rfl (pc' := 70) rfl ?_
    refine g_aload X996 hx hby at_70 rfl rfl (pc' := 72) rfl ?_
    refine g_iconst (v := 1) X996 hx hby at_72 rfl (pc' := 73) rfl ?_
    refine g_caload (i := 1) (v := (.int k954)) X996 hx hby hZ q1002 (by decide) (by decide) rfl at_73 (pc' := 74) rfl ?_
    refine g_castore (i := 1) X996 hx hby hZ A996 rfl (by decide) nn984 at_74 (pc' := 75) rfl (fun T1007 h1007 sl1007 X1007 W1007 A1007 => ?_)
    have sf1008 := Safe.wr W1007 sf998 ch999.1 sf997
    have sf1009 := Safe.wr W1007 sf998 ch999.1 sf998
    have ch1010 := ch999.trans (CHr.wr W1007 sf998 ch999.1)
    have q1011 := q1000.wr W1007
    have q1012 := q1001.wr W1007
    have q1013 := q1002.other W1007 ne983
    have zz1014 := Nat.le_trans zz1003 (Nat.le_of_eq W1007.size.symm)
    have hk1015 := Nat.le_trans hk1004 (Nat.le_of_eq W1007.size.symm)
    have kk1016 : Keep h0 h1007 [] := kk1005.wr W1007 (Or.inr hh985)
    refine g_iload X1007 hx hby at_75 rfl (pc' := 77) rfl ?_
    refine g_iconst (v := 2) X1007 hx hby at_77 rfl (pc' := 78) rfl ?_
    refine g_icmp_le X1007 hx hby at_78 (by decide) (pc' := 89) (by decide) (pc2 := 81) rfl (fun q => absurd (by decide) q) (fun c78_1017 => ?_)
    refine g_aload X1007 hx hby at_81 rfl rfl (pc' := 83) rfl ?_
    refine g_iconst (v := 2) X1007 hx hby at_83 rfl (pc' := 84) rfl ?_
    refine g_aload X1007 hx hby at_84 rfl rfl (pc' := 86) rfl ?_
    refine g_iconst (v := 2) X1007 hx hby at_86 rfl (pc' := 87) rfl ?_
    refine g_caload (i := 2) (v := (.int k963)) X1007 hx hby hZ q1013 (by decide) (by decide) rfl at_87 (pc' := 88) rfl ?_
    refine g_castore (i := 2) X1007 hx hby hZ A1007 rfl (by decide) nn984 at_88 (pc' := 89) rfl (fun T1018 h1018 sl1018 X1018 W1018 A1018 => ?_)
    have sf1019 := Safe.wr W1018 sf1009 ch1010.1 sf1008
    have sf1020 := Safe.wr W1018 sf1009 ch1010.1 sf1009
    have ch1021 := ch1010.trans (CHr.wr W1018 sf1009 ch1010.1)
    have q1022 := q1011.wr W1018
    have q1023 := q1012.wr W1018
    have q1024 := q1013.other W1018 ne983
    have zz1025 := Nat.le_trans zz1014 (Nat.le_of_eq W1018.size.symm)
    have hk1026 := Nat.le_trans hk1015 (Nat.le_of_eq W1018.size.symm)
    have kk1027 : Keep h0 h1018 [] := kk1016.wr W1018 (Or.inr hh985)
    refine g_iload X1018 hx hby at_89 rfl (pc' := 91) rfl ?_
    refine g_iconst (v := 3) X1018 hx hby at_91 rfl (pc' := 92) rfl ?_
    refine g_icmp_le X1018 hx hby at_92 (by decide) (pc' := 103) (by decide) (pc2 := 95) rfl (fun c92_1028 => ?_) (fun q => absurd q (by decide))
    have AG1029 : Ary Z h1018 b982 .char 3 (fun i => .int ((own_cf k945 k954 k963 k972) i)) := by
      refine A1018.congr fun i hi => ?_
      have h8 : i = 0 ∨ i = 1 ∨ i = 2 := by omega
      rcases h8 with rfl | rfl | rfl
      · exact congrArg Value.int (own_narC ⟨rg945.1, Int.le_trans rg945.2 (by decide)⟩)
      · exact congrArg Value.int (own_narC ⟨rg954.1, Int.le_trans rg954.2 (by decide)⟩)
      · exact congrArg Value.int (own_narC ⟨rg963.1, Int.le_trans rg963.2 (by decide)⟩)
    refine g_new X1018 hx hby hZ hown (hw _ (List.mem_of_getElem? (i := 6) rfl)) (hw _ (List.mem_of_getElem? (i := 7) rfl)) (hw _ (List.mem_of_getElem? (i := 8) rfl)) at_103 (by decide) (by decide) (pc' := 106) rfl (fun T1030 h1030 b1030 g1030 X1030 E1030 A1030 D1030 => ?_)
    have ne1031 : b935 ≠ b1030 := by rw [g1030]; exact Nat.ne_of_lt q1024.lt
    have ne1032 : b982 ≠ b1030 := by rw [g1030]; exact Nat.ne_of_lt AG1029.lt
    have nn1033 : n0 ≤ b1030 := by rw [g1030]; exact zz1025
    have hh1034 : h0.size ≤ b1030 := by rw [g1030]; exact kk1027.1
    have sn1035 := Safe.ext E1030 ch1021.1 (Safe.new (x := b1030) (Nat.le_of_eq g1030.symm))
    have sf1036 := Safe.ext E1030 ch1021.1 sf1019
    have sf1037 := Safe.ext E1030 ch1021.1 sf1020
    have ch1038 := ch1021.trans (CHr.ext E1030 ch1021.1)
    have hk1039 := Nat.le_trans hk1026 E1030.1
    have q1040 := q1022.ext E1030
    have q1041 := q1023.ext E1030
    have q1042 := q1024.ext E1030
    have q1043 := AG1029.ext E1030
    have zz1044 := Nat.le_trans zz1025 E1030.1
    have kk1045 : Keep h0 h1030 [] := kk1027.ext E1030
    have q1046 : Fld Z h1030 b1030 "java/lang/String" "value" "[B" .null := D1030 (Or.inr (hw _ (List.mem_of_getElem? (i := 21) rfl))) (ty := (.array .byte)) (by decide)
    have q1047 : Fld Z h1030 b1030 "java/lang/String" "coder" "B" (.int (0 : Int32)) := D1030 (Or.inr (hw _ (List.mem_of_getElem? (i := 22) rfl))) (ty := .byte) (by decide)
    refine g_dup X1030 hx hby at_106 rfl (pc' := 107) rfl ?_
    refine g_aload X1030 hx hby at_107 rfl rfl (pc' := 109) rfl ?_
    refine g_callC (argsL := [(.ref b982)]) (S := [(.ref b1030)]) (a := b1030) X1030 hx hby hZ (y := (⟨"java/lang/String", "<init>", "([C)V"⟩ : MethodName)) rfl hown (hw _ (List.mem_of_getElem? (i := 9) rfl)) (hw _ (List.mem_of_getElem? (i := 10) rfl)) (hw _ (List.mem_of_getElem? (i := 8) rfl)) (hw _ (List.mem_of_getElem? (i := 11) rfl)) (by decide) (own_n1_3 l Z a0 hw b1030 b982 h1030 n0 zz1044 (own_cf k945 k954 k963 k972) (fun i _ => own_cfr rg945 rg954 rg963 rg972 i) q1043 A1030 q1046 q1047 nn1033 cs q1040 hcs) (by rw [hml]; rfl) (lenOf own_pd22 rfl) rfl at_109 (by decide) (W := 1) (by exact Nat.le_of_eq rfl) (by decide) (by decide) (by decide) (pc' := 112) rfl (fun T1048 v1048 X1048 hQ1048 => ?_)
    obtain ⟨rfl, ka1048, la1048⟩ := hQ1048
    have sa1049 : ∀ x ∈ [b1030], Safe Z own_EL _ _ x := (allS sn1035 all0)
    have sf1050 := Safe.keep ka1048 sa1049 ch1038.1 sf1036
    have sf1051 := Safe.keep ka1048 sa1049 ch1038.1 sf1037
    have sf1052 := Safe.keep ka1048 sa1049 ch1038.1 sn1035
    have ch1053 := ch1038.trans (CHr.keep ka1048 sa1049 ch1038.1)
    have q1054 := own_sta_keep q1040 ka1048 (allS (own_plain A1030) all0)
    have q1055 := own_sta_keep q1041 ka1048 (allS (own_plain A1030) all0)
    have q1056 := q1042.keep ka1048 (ninS ne1031 nin0)
    have q1057 := q1043.keep ka1048 (ninS ne1032 nin0)
    have q1058 := A1030.keep ka1048
    have zz1059 := Nat.le_trans zz1044 ka1048.1
    have hk1060 := Nat.le_trans hk1039 ka1048.1
    have kk1061 : Keep h0 T1048.heap [] := kk1045.trans ka1048 (allS (Or.inr hh1034) all0)
    obtain ⟨w1048, LEn1048, LVn1048, LCn1048, LAn1048⟩ := la1048
    show Gl p e below n0 _ _ (T1048.setTop (mkF m 112 #[.val (.int y0), .val (.int y1), .val (.int y2), .val (.int y3), .val (.int y4), .val (.int (3 : Int32)), .val (.ref b935), .val (.ref b982), .unset, .unset, .unset, .unset] [(.ref b1030)]))
    refine g_astore (L' := #[.val (.int y0), .val (.int y1), .val (.int y2), .val (.int y3), .val (.int y4), .val (.int (3 : Int32)), .val (.ref b935), .val (.ref b982), .val (.ref b1030), .unset, .unset, .unset]) X1048 hx hby at_112 rfl rfl (pc' := 114) rfl ?_
    refine g_iconst (v := (-1)) X1048 hx hby at_114 rfl (pc' := 115) rfl ?_
    refine g_istore (L' := #[.val (.int y0), .val (.int y1), .val (.int y2), .val (.int y3), .val (.int y4), .val (.int (3 : Int32)), .val (.ref b935), .val (.ref b982), .val (.ref b1030), .val (.int (-1 : Int32)), .unset, .unset]) X1048 hx hby at_115 rfl (pc' := 117) rfl ?_
    refine g_iload X1048 hx hby at_117 rfl (pc' := 119) rfl ?_
    refine g_if_le X1048 hx hby at_119 (by decide) (pc' := 134) (by decide) (pc2 := 122) rfl (fun q => absurd (by decide) q) (fun c119_1062 => ?_)
    refine g_aload X1048 hx hby at_122 rfl rfl (pc' := 124) rfl ?_
    refine g_iconst (v := 0) X1048 hx hby at_124 rfl (pc' := 125) rfl ?_
    refine g_caload (i := 0) (v := (.int k945)) X1048 hx hby hZ q1056 (by decide) (by decide) rfl at_125 (pc' := 126) rfl ?_
    refine g_bipush (v := 46) X1048 hx hby at_126 rfl (pc' := 128) rfl ?_
    refine g_icmp_ne X1048 hx hby at_128 (by decide) (pc' := 134) (by decide) (pc2 := 131) rfl (fun c128_1063 => ?_) (fun c128_1063 => ?_)
    · refine g_iload X1048 hx hby at_134 rfl (pc' := 136) rfl ?_
      refine g_iconst (v := 1) X1048 hx hby at_136 rfl (pc' := 137) rfl ?_
      refine g_icmp_le X1048 hx hby at_137 (by decide) (pc' := 152) (by decide) (pc2 := 140) rfl (fun q => absurd (by decide) q) (fun c137_1064 => ?_)
      refine g_aload X1048 hx hby at_140 rfl rfl (pc' := 142) rfl ?_
      refine g_iconst (v := 1) X1048 hx hby at_142 rfl (pc' := 143) rfl ?_
      refine g_caload (i := 1) (v := (.int k954)) X1048 hx hby hZ q1056 (by decide) (by decide) rfl at_143 (pc' := 144) rfl ?_
      refine g_bipush (v := 46) X1048 hx hby at_144 rfl (pc' := 146) rfl ?_
      refine g_icmp_ne X1048 hx hby at_146 (by decide) (pc' := 152) (by decide) (pc2 := 149) rfl (fun c146_1065 => ?_) (fun c146_1065 => ?_)
      · refine g_iload X1048 hx hby at_152 rfl (pc' := 154) rfl ?_
        refine g_iconst (v := 2) X1048 hx hby at_154 rfl (pc' := 155) rfl ?_
        refine g_icmp_le X1048 hx hby at_155 (by decide) (pc' := 170) (by decide) (pc2 := 158) rfl (fun q => absurd (by decide) q) (fun c155_1066 => ?_)
        refine g_aload X1048 hx hby at_158 rfl rfl (pc' := 160) rfl ?_
        refine g_iconst (v := 2) X1048 hx hby at_160 rfl (pc' := 161) rfl ?_
        refine g_caload (i := 2) (v := (.int k963)) X1048 hx hby hZ q1056 (by decide) (by decide) rfl at_161 (pc' := 162) rfl ?_
        refine g_bipush (v := 46) X1048 hx hby at_162 rfl (pc' := 164) rfl ?_
        refine g_icmp_ne X1048 hx hby at_164 (by decide) (pc' := 170) (by decide) (pc2 := 167) rfl (fun c164_1067 => ?_) (fun c164_1067 => ?_)
        · refine g_iload X1048 hx hby at_170 rfl (pc' := 172) rfl ?_
          refine g_iconst (v := 3) X1048 hx hby at_172 rfl (pc' := 173) rfl ?_
          refine g_icmp_le X1048 hx hby at_173 (by decide) (pc' := 188) (by decide) (pc2 := 176) rfl (fun c173_1068 => ?_) (fun q => absurd q (by decide))
          refine g_iload X1048 hx hby at_188 rfl (pc' := 190) rfl ?_
          refine g_iload X1048 hx hby at_190 rfl (pc' := 192) rfl ?_
          refine g_isub X1048 hx hby at_192 (pc' := 193) rfl ?_
          refine g_iconst (v := 1) X1048 hx hby at_193 rfl (pc' := 194) rfl ?_
          refine g_isub X1048 hx hby at_194 (pc' := 195) rfl ?_
          refine g_istore (L' := #[.val (.int y0), .val (.int y1), .val (.int y2), .val (.int y3), .val (.int y4), .val (.int (3 : Int32)), .val (.ref b935), .val (.ref b982), .val (.ref b1030), .val (.int (-1 : Int32)), .val (.int (((3 : Int32) - (-1 : Int32)) - (1 : Int32))), .unset]) X1048 hx hby at_195 rfl (pc' := 197) rfl ?_
          have em : (((3 : Int32) - (-1 : Int32)) - (1 : Int32)) = (3 : Int32) := by decide
          rw [em]
          refine g_aload X1048 hx hby at_197 rfl rfl (pc' := 199) rfl ?_
          have hno1070 : ∀ j : Nat, ((-1 : Int32)).toInt < (j : Int) → j < 3 → ¬ (fun i => own_y ((own_cf k945 k954 k963 k972) i)) j = 46 := by
            intro j h1 h2
            have e1 : ((-1 : Int32)).toInt = -1 := rfl
            have h8 : j = 0 ∨ j = 1 ∨ j = 2 := by omega
            rcases h8 with rfl | rfl | rfl
            · exact fun q => c128_1063 ((own_dot rg945).mp q)
            · exact fun q => c146_1065 ((own_dot rg954).mp q)
            · exact fun q => c164_1067 ((own_dot rg963).mp q)
          refine g_callS (argsL := [(.ref b1030)]) (S := []) X1048 hx hby hZ (y := (⟨"com/example/hifadhi/hifadhi/mapping/QualifiedName", "unqualified", "(Ljava/lang/String;)Ljava/lang/String;"⟩ : MethodName)) hown (hw _ (List.mem_of_getElem? (i := 27) rfl)) (hw _ (List.mem_of_getElem? (i := 28) rfl)) (hw _ (List.mem_of_getElem? (i := 29) rfl)) (hw _ (List.mem_of_getElem? (i := 30) rfl)) (by decide) (own_uqA l Z a0 hw b1030 T1048.heap n0 3 (3 : Int32) (fun i => own_y ((own_cf k945 k954 k963 k972) i)) rfl ⟨w1048, LEn1048, LVn1048, LCn1048, LAn1048⟩ cs q1054 hcs fm q1055 hfm (-1 : Int32) ⟨by decide, by decide⟩ (fun q => absurd q (by decide)) hno1070 rfl) (by rw [hml]; rfl) (lenOf own_pd23 rfl) rfl at_199 (by decide) (W := 0) (by exact Nat.le_of_eq rfl) (by decide) (by decide) (by decide) (pc' := 202) rfl (fun T1069 v1069 X1069 hQ1069 => ?_)
          obtain ⟨rfl, e1069⟩ := hQ1069
          rw [e1069] at X1069
          show Gl p e below n0 _ _ (T1069.setTop (mkF m 202 #[.val (.int y0), .val (.int y1), .val (.int y2), .val (.int y3), .val (.int y4), .val (.int (3 : Int32)), .val (.ref b935), .val (.ref b982), .val (.ref b1030), .val (.int (-1 : Int32)), .val (.int (3 : Int32)), .unset] [(.ref b1030)]))
          refine g_astore (L' := #[.val (.int y0), .val (.int y1), .val (.int y2), .val (.int y3), .val (.int y4), .val (.int (3 : Int32)), .val (.ref b935), .val (.ref b982), .val (.ref b1030), .val (.int (-1 : Int32)), .val (.int (3 : Int32)), .val (.ref b1030)]) X1069 hx hby at_202 rfl rfl (pc' := 204) rfl ?_
          refine g_aload X1069 hx hby at_204 rfl rfl (pc' := 206) rfl ?_
          refine g_callV (argsL := []) (S := []) (a := b1030) X1069 hx hby hZ (y := (⟨"java/lang/String", "length", "()I"⟩ : MethodName)) (y' := (⟨"java/lang/String", "length", "()I"⟩ : MethodName)) hown (hw _ (List.mem_of_getElem? (i := 86) rfl)) (hw _ (List.mem_of_getElem? (i := 37) rfl)) (notFace_of_selects (args := #[]) (mvT hZ (hw _ (List.mem_of_getElem? (i := 39) rfl)))) (hw _ (List.mem_of_getElem? (i := 39) rfl)) (hw _ (List.mem_of_getElem? (i := 38) rfl)) (hw _ (List.mem_of_getElem? (i := 8) rfl)) (hw _ (List.mem_of_getElem? (i := 40) rfl)) (by decide) LEn1048 (own_ln l Z a0 hw b1030 T1048.heap n0 3 (3 : Int32) (fun i => own_y ((own_cf k945 k954 k963 k972) i)) rfl ⟨w1048, LEn1048, LVn1048, LCn1048, LAn1048⟩ cs q1054 hcs ) (by rw [hml]; rfl) (lenOf own_pd12 rfl) rfl at_206 (by decide) (W := 0) (by exact Nat.le_of_eq rfl) (by decide) (by decide) (by decide) (pc' := 209) rfl (fun T1071 v1071 X1071 hQ1071 => ?_)
          obtain ⟨rfl, e1071⟩ := hQ1071
          rw [e1071] at X1071
          show Gl p e below n0 _ _ (T1071.setTop (mkF m 209 #[.val (.int y0), .val (.int y1), .val (.int y2), .val (.int y3), .val (.int y4), .val (.int (3 : Int32)), .val (.ref b935), .val (.ref b982), .val (.ref b1030), .val (.int (-1 : Int32)), .val (.int (3 : Int32)), .val (.ref b1030)] [(.int (3 : Int32))]))
          refine g_iload X1071 hx hby at_209 rfl (pc' := 211) rfl ?_
          refine g_icmp_eq X1071 hx hby at_211 (by decide) (pc' := 216) (by decide) (pc2 := 214) rfl (fun c211_1072 => ?_) (fun q => absurd (by decide) q)
          refine g_iconst (v := 0) X1071 hx hby at_216 rfl (pc' := 217) rfl ?_
          refine g_iload X1071 hx hby at_217 rfl (pc' := 219) rfl ?_
          refine g_icmp_ge X1071 hx hby at_219 (by decide) (pc' := 240) (by decide) (pc2 := 222) rfl (fun q => absurd (by decide) q) (fun c219_1073 => ?_)
          refine g_aload X1071 hx hby at_222 rfl rfl (pc' := 224) rfl ?_
          refine g_iconst (v := 0) X1071 hx hby at_224 rfl (pc' := 225) rfl ?_
          refine g_callV (argsL := [(.int (0 : Int32))]) (S := []) (a := b1030) X1071 hx hby hZ (y := (⟨"java/lang/String", "charAt", "(I)C"⟩ : MethodName)) (y' := (⟨"java/lang/String", "charAt", "(I)C"⟩ : MethodName)) hown (hw _ (List.mem_of_getElem? (i := 119) rfl)) (hw _ (List.mem_of_getElem? (i := 120) rfl)) (notFace_of_selects (args := #[]) (mvT hZ (hw _ (List.mem_of_getElem? (i := 122) rfl)))) (hw _ (List.mem_of_getElem? (i := 122) rfl)) (hw _ (List.mem_of_getElem? (i := 121) rfl)) (hw _ (List.mem_of_getElem? (i := 8) rfl)) (hw _ (List.mem_of_getElem? (i := 123) rfl)) (by decide) LEn1048 (own_ca l Z a0 hw b1030 (0 : Int32) T1048.heap n0 3 (3 : Int32) (fun i => own_y ((own_cf k945 k954 k963 k972) i)) rfl ⟨w1048, LEn1048, LVn1048, LCn1048, LAn1048⟩ cs q1054 hcs 0 rfl (by decide) fm q1055 hfm) (by rw [hml]; rfl) (lenOf own_pd21 rfl) rfl at_225 (by decide) (W := 0) (by exact Nat.le_of_eq rfl) (by decide) (by decide) (by decide) (pc' := 228) rfl (fun T1074 v1074 X1074 hQ1074 => ?_)
          obtain ⟨rfl, e1074⟩ := hQ1074
          rw [e1074] at X1074
          show Gl p e below n0 _ _ (T1074.setTop (mkF m 228 #[.val (.int y0), .val (.int y1), .val (.int y2), .val (.int y3), .val (.int y4), .val (.int (3 : Int32)), .val (.ref b935), .val (.ref b982), .val (.ref b1030), .val (.int (-1 : Int32)), .val (.int (3 : Int32)), .val (.ref b1030)] [(.int (((fun i => own_y ((own_cf k945 k954 k963 k972) i))) 0 &&& (255 : Int32)))]))
          refine g_aload X1074 hx hby at_228 rfl rfl (pc' := 230) rfl ?_
          refine g_iload X1074 hx hby at_230 rfl (pc' := 232) rfl ?_
          refine g_iconst (v := 1) X1074 hx hby at_232 rfl (pc' := 233) rfl ?_
          refine g_iadd X1074 hx hby at_233 (pc' := 234) rfl ?_
          refine g_caload (i := 0) (v := (.int k945)) X1074 hx hby hZ q1056 (by decide) (by decide) rfl at_234 (pc' := 235) rfl ?_
          refine g_icmp_eq X1074 hx hby at_235 (by decide) (pc' := 240) (by decide) (pc2 := 238) rfl (fun c235_1075 => ?_) (fun q => absurd (show own_y k945 &&& 255 = k945 from own_chr_y rg945) q)
          refine g_iconst (v := 1) X1074 hx hby at_240 rfl (pc' := 241) rfl ?_
          refine g_iload X1074 hx hby at_241 rfl (pc' := 243) rfl ?_
          refine g_icmp_ge X1074 hx hby at_243 (by decide) (pc' := 264) (by decide) (pc2 := 246) rfl (fun q => absurd (by decide) q) (fun c243_1076 => ?_)
          refine g_aload X1074 hx hby at_246 rfl rfl (pc' := 248) rfl ?_
          refine g_iconst (v := 1) X1074 hx hby at_248 rfl (pc' := 249) rfl ?_
          refine g_callV (argsL := [(.int (1 : Int32))]) (S := []) (a := b1030) X1074 hx hby hZ (y := (⟨"java/lang/String", "charAt", "(I)C"⟩ : MethodName)) (y' := (⟨"java/lang/String", "charAt", "(I)C"⟩ : MethodName)) hown (hw _ (List.mem_of_getElem? (i := 119) rfl)) (hw _ (List.mem_of_getElem? (i := 120) rfl)) (notFace_of_selects (args := #[]) (mvT hZ (hw _ (List.mem_of_getElem? (i := 122) rfl)))) (hw _ (List.mem_of_getElem? (i := 122) rfl)) (hw _ (List.mem_of_getElem? (i := 121) rfl)) (hw _ (List.mem_of_getElem? (i := 8) rfl)) (hw _ (List.mem_of_getElem? (i := 123) rfl)) (by decide) LEn1048 (own_ca l Z a0 hw b1030 (1 : Int32) T1048.heap n0 3 (3 : Int32) (fun i => own_y ((own_cf k945 k954 k963 k972) i)) rfl ⟨w1048, LEn1048, LVn1048, LCn1048, LAn1048⟩ cs q1054 hcs 1 rfl (by decide) fm q1055 hfm) (by rw [hml]; rfl) (lenOf own_pd21 rfl) rfl at_249 (by decide) (W := 0) (by exact Nat.le_of_eq rfl) (by decide) (by decide) (by decide) (pc' := 252) rfl (fun T1077 v1077 X1077 hQ1077 => ?_)
          obtain ⟨rfl, e1077⟩ := hQ1077
          rw [e1077] at X1077
          show Gl p e below n0 _ _ (T1077.setTop (mkF m 252 #[.val (.int y0), .val (.int y1), .val (.int y2), .val (.int y3), .val (.int y4), .val (.int (3 : Int32)), .val (.ref b935), .val (.ref b982), .val (.ref b1030), .val (.int (-1 : Int32)), .val (.int (3 : Int32)), .val (.ref b1030)] [(.int (((fun i => own_y ((own_cf k945 k954 k963 k972) i))) 1 &&& (255 : Int32)))]))
          refine g_aload X1077 hx hby at_252 rfl rfl (pc' := 254) rfl ?_
          refine g_iload X1077 hx hby at_254 rfl (pc' := 256) rfl ?_
          refine g_iconst (v := 2) X1077 hx hby at_256 rfl (pc' := 257) rfl ?_
          refine g_iadd X1077 hx hby at_257 (pc' := 258) rfl ?_
          refine g_caload (i := 1) (v := (.int k954)) X1077 hx hby hZ q1056 (by decide) (by decide) rfl at_258 (pc' := 259) rfl ?_
          refine g_icmp_eq X1077 hx hby at_259 (by decide) (pc' := 264) (by decide) (pc2 := 262) rfl (fun c259_1078 => ?_) (fun q => absurd (show own_y k954 &&& 255 = k954 from own_chr_y rg954) q)
          refine g_iconst (v := 2) X1077 hx hby at_264 rfl (pc' := 265) rfl ?_
          refine g_iload X1077 hx hby at_265 rfl (pc' := 267) rfl ?_
          refine g_icmp_ge X1077 hx hby at_267 (by decide) (pc' := 288) (by decide) (pc2 := 270) rfl (fun q => absurd (by decide) q) (fun c267_1079 => ?_)
          refine g_aload X1077 hx hby at_270 rfl rfl (pc' := 272) rfl ?_
          refine g_iconst (v := 2) X1077 hx hby at_272 rfl (pc' := 273) rfl ?_
          refine g_callV (argsL := [(.int (2 : Int32))]) (S := []) (a := b1030) X1077 hx hby hZ (y := (⟨"java/lang/String", "charAt", "(I)C"⟩ : MethodName)) (y' := (⟨"java/lang/String", "charAt", "(I)C"⟩ : MethodName)) hown (hw _ (List.mem_of_getElem? (i := 119) rfl)) (hw _ (List.mem_of_getElem? (i := 120) rfl)) (notFace_of_selects (args := #[]) (mvT hZ (hw _ (List.mem_of_getElem? (i := 122) rfl)))) (hw _ (List.mem_of_getElem? (i := 122) rfl)) (hw _ (List.mem_of_getElem? (i := 121) rfl)) (hw _ (List.mem_of_getElem? (i := 8) rfl)) (hw _ (List.mem_of_getElem? (i := 123) rfl)) (by decide) LEn1048 (own_ca l Z a0 hw b1030 (2 : Int32) T1048.heap n0 3 (3 : Int32) (fun i => own_y ((own_cf k945 k954 k963 k972) i)) rfl ⟨w1048, LEn1048, LVn1048, LCn1048, LAn1048⟩ cs q1054 hcs 2 rfl (by decide) fm q1055 hfm) (by rw [hml]; rfl) (lenOf own_pd21 rfl) rfl at_273 (by decide) (W := 0) (by exact Nat.le_of_eq rfl) (by decide) (by decide) (by decide) (pc' := 276) rfl (fun T1080 v1080 X1080 hQ1080 => ?_)
          obtain ⟨rfl, e1080⟩ := hQ1080
          rw [e1080] at X1080
          show Gl p e below n0 _ _ (T1080.setTop (mkF m 276 #[.val (.int y0), .val (.int y1), .val (.int y2), .val (.int y3), .val (.int y4), .val (.int (3 : Int32)), .val (.ref b935), .val (.ref b982), .val (.ref b1030), .val (.int (-1 : Int32)), .val (.int (3 : Int32)), .val (.ref b1030)] [(.int (((fun i => own_y ((own_cf k945 k954 k963 k972) i))) 2 &&& (255 : Int32)))]))
          refine g_aload X1080 hx hby at_276 rfl rfl (pc' := 278) rfl ?_
          refine g_iload X1080 hx hby at_278 rfl (pc' := 280) rfl ?_
          refine g_iconst (v := 3) X1080 hx hby at_280 rfl (pc' := 281) rfl ?_
          refine g_iadd X1080 hx hby at_281 (pc' := 282) rfl ?_
          refine g_caload (i := 2) (v := (.int k963)) X1080 hx hby hZ q1056 (by decide) (by decide) rfl at_282 (pc' := 283) rfl ?_
          refine g_icmp_eq X1080 hx hby at_283 (by decide) (pc' := 288) (by decide) (pc2 := 286) rfl (fun c283_1081 => ?_) (fun q => absurd (show own_y k963 &&& 255 = k963 from own_chr_y rg963) q)
          refine g_iconst (v := 3) X1080 hx hby at_288 rfl (pc' := 289) rfl ?_
          refine g_iload X1080 hx hby at_289 rfl (pc' := 291) rfl ?_
          refine g_icmp_ge X1080 hx hby at_291 (by decide) (pc' := 312) (by decide) (pc2 := 294) rfl (fun c291_1082 => ?_) (fun q => absurd q (by decide))
          refine g_iconst (v := 1) X1080 hx hby at_312 rfl (pc' := 313) rfl ?_
          exact gw_retN X1080 hx hby hS hk1060 hret hlk (by simp) at_313 rfl (by decide) (by decide)
        · refine g_iconst (v := 2) X1048 hx hby at_167 rfl (pc' := 168) rfl ?_
          refine g_istore (L' := #[.val (.int y0), .val (.int y1), .val (.int y2), .val (.int y3), .val (.int y4), .val (.int (3 : Int32)), .val (.ref b935), .val (.ref b982), .val (.ref b1030), .val (.int (2 : Int32)), .unset, .unset]) X1048 hx hby at_168 rfl (pc' := 170) rfl ?_
          refine g_iload X1048 hx hby at_170 rfl (pc' := 172) rfl ?_
          refine g_iconst (v := 3) X1048 hx hby at_172 rfl (pc' := 173) rfl ?_
          refine g_icmp_le X1048 hx hby at_173 (by decide) (pc' := 188) (by decide) (pc2 := 176) rfl (fun c173_1083 => ?_) (fun q => absurd q (by decide))
          refine g_iload X1048 hx hby at_188 rfl (pc' := 190) rfl ?_
          refine g_iload X1048 hx hby at_190 rfl (pc' := 192) rfl ?_
          refine g_isub X1048 hx hby at_192 (pc' := 193) rfl ?_
          refine g_iconst (v := 1) X1048 hx hby at_193 rfl (pc' := 194) rfl ?_
          refine g_isub X1048 hx hby at_194 (pc' := 195) rfl ?_
          refine g_istore (L' := #[.val (.int y0), .val (.int y1), .val (.int y2), .val (.int y3), .val (.int y4), .val (.int (3 : Int32)), .val (.ref b935), .val (.ref b982), .val (.ref b1030), .val (.int (2 : Int32)), .val (.int (((3 : Int32) - (2 : Int32)) - (1 : Int32))), .unset]) X1048 hx hby at_195 rfl (pc' := 197) rfl ?_
          have em : (((3 : Int32) - (2 : Int32)) - (1 : Int32)) = (0 : Int32) := by decide
          rw [em]
          refine g_aload X1048 hx hby at_197 rfl rfl (pc' := 199) rfl ?_
          have hno1085 : ∀ j : Nat, ((2 : Int32)).toInt < (j : Int) → j < 3 → ¬ (fun i => own_y ((own_cf k945 k954 k963 k972) i)) j = 46 := by
            intro j h1 h2
            have e1 : ((2 : Int32)).toInt = 2 := rfl
            exfalso; omega
          refine gh_callS (argsL := [(.ref b1030)]) (S := []) X1048 hx hby hZ hS hk1060 (own_hEL hw) ch1053 own_nss (y := (⟨"com/example/hifadhi/hifadhi/mapping/QualifiedName", "unqualified", "(Ljava/lang/String;)Ljava/lang/String;"⟩ : MethodName)) hown (hw _ (List.mem_of_getElem? (i := 27) rfl)) (hw _ (List.mem_of_getElem? (i := 28) rfl)) (hw _ (List.mem_of_getElem? (i := 29) rfl)) (hw _ (List.mem_of_getElem? (i := 30) rfl)) (by decide) (own_uqC l Z a0 hw b1030 T1048.heap n0 3 (3 : Int32) (fun i => own_y ((own_cf k945 k954 k963 k972) i)) rfl ⟨w1048, LEn1048, LVn1048, LCn1048, LAn1048⟩ cs q1054 hcs fm q1055 hfm (2 : Int32) ⟨by decide, by decide⟩ (fun _ => show own_y k963 = 46 from (own_dot rg963).mpr c164_1067) hno1085 (by decide) (by decide) zz1059) (by rw [hml]; rfl) (lenOf own_pd23 rfl) rfl at_199 (by decide) (W := 0) (by exact Nat.le_of_eq rfl) (by decide) (by decide) (by decide) (pc' := 202) rfl (fun T1084 v1084 k1084 X1084 hS1084 hk1084 hZ1084 hown1084 hC1084 hD1084 hQ1084 => ?_)
          obtain ⟨b1084, rfl, ka1084, la1084⟩ := hQ1084
          have q1086 := own_sta_keep q1054 ka1084 all0
          have q1087 := own_sta_keep q1055 ka1084 all0
          have q1088 := q1056.keep ka1084 nin0
          have q1089 := q1057.keep ka1084 nin0
          have q1090 := LEn1048.keep ka1084
          have q1091 := LVn1048.keep ka1084 nin0
          have q1092 := LCn1048.keep ka1084 nin0
          have q1093 := LAn1048.keep ka1084 nin0
          have zz1094 := Nat.le_trans zz1059 ka1084.1
          have kk1095 : Keep h0 T1084.heap [] := kk1061.trans ka1084 all0
          have lb1084 : Lat Z T1084.heap b1084 0 (fun i => ([] : List Int32).getD i 0) := la1084
          obtain ⟨w1084, LEr1084, LVr1084, LCr1084, LAr1084⟩ := lb1084
          show Gl p e below n0 _ _ (T1084.setTop (mkF m 202 #[.val (.int y0), .val (.int y1), .val (.int y2), .val (.int y3), .val (.int y4), .val (.int (3 : Int32)), .val (.ref b935), .val (.ref b982), .val (.ref b1030), .val (.int (2 : Int32)), .val (.int (0 : Int32)), .unset] [(.ref b1084)]))
          refine g_astore (L' := #[.val (.int y0), .val (.int y1), .val (.int y2), .val (.int y3), .val (.int y4), .val (.int (3 : Int32)), .val (.ref b935), .val (.ref b982), .val (.ref b1030), .val (.int (2 : Int32)), .val (.int (0 : Int32)), .val (.ref b1084)]) X1084 hx hby at_202 rfl rfl (pc' := 204) rfl ?_
          refine g_aload X1084 hx hby at_204 rfl rfl (pc' := 206) rfl ?_
          refine g_callV (argsL := []) (S := []) (a := b1084) X1084 hx hby hZ1084 (y := (⟨"java/lang/String", "length", "()I"⟩ : MethodName)) (y' := (⟨"java/lang/String", "length", "()I"⟩ : MethodName)) hown1084 (hw _ (List.mem_of_getElem? (i := 86) rfl)) (hw _ (List.mem_of_getElem? (i := 37) rfl)) (notFace_of_selects (args := #[]) (mvT hZ1084 (hw _ (List.mem_of_getElem? (i := 39) rfl)))) (hw _ (List.mem_of_getElem? (i := 39) rfl)) (hw _ (List.mem_of_getElem? (i := 38) rfl)) (hw _ (List.mem_of_getElem? (i := 8) rfl)) (hw _ (List.mem_of_getElem? (i := 40) rfl)) (by decide) LEr1084 (own_ln l Z a0 hw b1084 T1084.heap n0 0 (0 : Int32) (fun i => ([] : List Int32).getD i 0) rfl ⟨w1084, LEr1084, LVr1084, LCr1084, LAr1084⟩ cs q1086 hcs ) (by rw [hml]; rfl) (lenOf own_pd12 rfl) rfl at_206 (by decide) (W := 0) (by exact Nat.le_of_eq rfl) (by decide) (by decide) (by decide) (pc' := 209) rfl (fun T1096 v1096 X1096 hQ1096 => ?_)
          obtain ⟨rfl, e1096⟩ := hQ1096
          rw [e1096] at X1096
          show Gl p e below n0 _ _ (T1096.setTop (mkF m 209 #[.val (.int y0), .val (.int y1), .val (.int y2), .val (.int y3), .val (.int y4), .val (.int (3 : Int32)), .val (.ref b935), .val (.ref b982), .val (.ref b1030), .val (.int (2 : Int32)), .val (.int (0 : Int32)), .val (.ref b1084)] [(.int (0 : Int32))]))
          refine g_iload X1096 hx hby at_209 rfl (pc' := 211) rfl ?_
          refine g_icmp_eq X1096 hx hby at_211 (by decide) (pc' := 216) (by decide) (pc2 := 214) rfl (fun c211_1097 => ?_) (fun q => absurd (by decide) q)
          refine g_iconst (v := 0) X1096 hx hby at_216 rfl (pc' := 217) rfl ?_
          refine g_iload X1096 hx hby at_217 rfl (pc' := 219) rfl ?_
          refine g_icmp_ge X1096 hx hby at_219 (by decide) (pc' := 240) (by decide) (pc2 := 222) rfl (fun c219_1098 => ?_) (fun q => absurd q (by decide))
          refine g_iconst (v := 1) X1096 hx hby at_240 rfl (pc' := 241) rfl ?_
          refine g_iload X1096 hx hby at_241 rfl (pc' := 243) rfl ?_
          refine g_icmp_ge X1096 hx hby at_243 (by decide) (pc' := 264) (by decide) (pc2 := 246) rfl (fun c243_1099 => ?_) (fun q => absurd q (by decide))
          refine g_iconst (v := 2) X1096 hx hby at_264 rfl (pc' := 265) rfl ?_
          refine g_iload X1096 hx hby at_265 rfl (pc' := 267) rfl ?_
          refine g_icmp_ge X1096 hx hby at_267 (by decide) (pc' := 288) (by decide) (pc2 := 270) rfl (fun c267_1100 => ?_) (fun q => absurd q (by decide))
          refine g_iconst (v := 3) X1096 hx hby at_288 rfl (pc' := 289) rfl ?_
          refine g_iload X1096 hx hby at_289 rfl (pc' := 291) rfl ?_
          refine g_icmp_ge X1096 hx hby at_291 (by decide) (pc' := 312) (by decide) (pc2 := 294) rfl (fun c291_1101 => ?_) (fun q => absurd q (by decide))
          refine g_iconst (v := 1) X1096 hx hby at_312 rfl (pc' := 313) rfl ?_
          exact gw_retN X1096 hx hby hS1084 hk1084 hret hlk (by simp) at_313 rfl (by decide) (by decide)
      · refine g_iconst (v := 1) X1048 hx hby at_149 rfl (pc' := 150) rfl ?_
        refine g_istore (L' := #[.val (.int y0), .val (.int y1), .val (.int y2), .val (.int y3), .val (.int y4), .val (.int (3 : Int32)), .val (.ref b935), .val (.ref b982), .val (.ref b1030), .val (.int (1 : Int32)), .unset, .unset]) X1048 hx hby at_150 rfl (pc' := 152) rfl ?_
        refine g_iload X1048 hx hby at_152 rfl (pc' := 154) rfl ?_
        refine g_iconst (v := 2) X1048 hx hby at_154 rfl (pc' := 155) rfl ?_
        refine g_icmp_le X1048 hx hby at_155 (by decide) (pc' := 170) (by decide) (pc2 := 158) rfl (fun q => absurd (by decide) q) (fun c155_1102 => ?_)
        refine g_aload X1048 hx hby at_158 rfl rfl (pc' := 160) rfl ?_
        refine g_iconst (v := 2) X1048 hx hby at_160 rfl (pc' := 161) rfl ?_
        refine g_caload (i := 2) (v := (.int k963)) X1048 hx hby hZ q1056 (by decide) (by decide) rfl at_161 (pc' := 162) rfl ?_
        refine g_bipush (v := 46) X1048 hx hby at_162 rfl (pc' := 164) rfl ?_
        refine g_icmp_ne X1048 hx hby at_164 (by decide) (pc' := 170) (by decide) (pc2 := 167) rfl (fun c164_1103 => ?_) (fun c164_1103 => ?_)
        · refine g_iload X1048 hx hby at_170 rfl (pc' := 172) rfl ?_
          refine g_iconst (v := 3) X1048 hx hby at_172 rfl (pc' := 173) rfl ?_
          refine g_icmp_le X1048 hx hby at_173 (by decide) (pc' := 188) (by decide) (pc2 := 176) rfl (fun c173_1104 => ?_) (fun q => absurd q (by decide))
          refine g_iload X1048 hx hby at_188 rfl (pc' := 190) rfl ?_
          refine g_iload X1048 hx hby at_190 rfl (pc' := 192) rfl ?_
          refine g_isub X1048 hx hby at_192 (pc' := 193) rfl ?_
          refine g_iconst (v := 1) X1048 hx hby at_193 rfl (pc' := 194) rfl ?_
          refine g_isub X1048 hx hby at_194 (pc' := 195) rfl ?_
          refine g_istore (L' := #[.val (.int y0), .val (.int y1), .val (.int y2), .val (.int y3), .val (.int y4), .val (.int (3 : Int32)), .val (.ref b935), .val (.ref b982), .val (.ref b1030), .val (.int (1 : Int32)), .val (.int (((3 : Int32) - (1 : Int32)) - (1 : Int32))), .unset]) X1048 hx hby at_195 rfl (pc' := 197) rfl ?_
          have em : (((3 : Int32) - (1 : Int32)) - (1 : Int32)) = (1 : Int32) := by decide
          rw [em]
          refine g_aload X1048 hx hby at_197 rfl rfl (pc' := 199) rfl ?_
          have hno1106 : ∀ j : Nat, ((1 : Int32)).toInt < (j : Int) → j < 3 → ¬ (fun i => own_y ((own_cf k945 k954 k963 k972) i)) j = 46 := by
            intro j h1 h2
            have e1 : ((1 : Int32)).toInt = 1 := rfl
            have h8 : j = 2 := by omega
            rcases h8 with rfl
            · exact fun q => c164_1103 ((own_dot rg963).mp q)
          refine g_callS (argsL := [(.ref b1030)]) (S := []) X1048 hx hby hZ (y := (⟨"com/example/hifadhi/hifadhi/mapping/QualifiedName", "unqualified", "(Ljava/lang/String;)Ljava/lang/String;"⟩ : MethodName)) hown (hw _ (List.mem_of_getElem? (i := 27) rfl)) (hw _ (List.mem_of_getElem? (i := 28) rfl)) (hw _ (List.mem_of_getElem? (i := 29) rfl)) (hw _ (List.mem_of_getElem? (i := 30) rfl)) (by decide) (own_uqB l Z a0 hw b1030 T1048.heap n0 3 (3 : Int32) (fun i => own_y ((own_cf k945 k954 k963 k972) i)) rfl ⟨w1048, LEn1048, LVn1048, LCn1048, LAn1048⟩ cs q1054 hcs fm q1055 hfm (1 : Int32) ⟨by decide, by decide⟩ (fun _ => show own_y k954 = 46 from (own_dot rg954).mpr c146_1065) hno1106 (by decide) (fun i _ => fits_nar_byte _) 2 (by decide) (by decide) (by decide) zz1059) (by rw [hml]; rfl) (lenOf own_pd23 rfl) rfl at_199 (by decide) (W := 0) (by exact Nat.le_of_eq rfl) (by decide) (by decide) (by decide) (pc' := 202) rfl (fun T1105 v1105 X1105 hQ1105 => ?_)
          obtain ⟨b1105, rfl, ka1105, la1105⟩ := hQ1105
          have q1107 := own_sta_keep q1054 ka1105 all0
          have q1108 := own_sta_keep q1055 ka1105 all0
          have q1109 := q1056.keep ka1105 nin0
          have q1110 := q1057.keep ka1105 nin0
          have q1111 := LEn1048.keep ka1105
          have q1112 := LVn1048.keep ka1105 nin0
          have q1113 := LCn1048.keep ka1105 nin0
          have q1114 := LAn1048.keep ka1105 nin0
          have zz1115 := Nat.le_trans zz1059 ka1105.1
          have hk1116 := Nat.le_trans hk1060 ka1105.1
          have kk1117 : Keep h0 T1105.heap [] := kk1061.trans ka1105 all0
          have lb1105 : Lat Z T1105.heap b1105 1 (fun i => own_y ((own_cf k945 k954 k963 k972) (2 + i))) := la1105
          obtain ⟨w1105, LEr1105, LVr1105, LCr1105, LAr1105⟩ := lb1105
          show Gl p e below n0 _ _ (T1105.setTop (mkF m 202 #[.val (.int y0), .val (.int y1), .val (.int y2), .val (.int y3), .val (.int y4), .val (.int (3 : Int32)), .val (.ref b935), .val (.ref b982), .val (.ref b1030), .val (.int (1 : Int32)), .val (.int (1 : Int32)), .unset] [(.ref b1105)]))
          refine g_astore (L' := #[.val (.int y0), .val (.int y1), .val (.int y2), .val (.int y3), .val (.int y4), .val (.int (3 : Int32)), .val (.ref b935), .val (.ref b982), .val (.ref b1030), .val (.int (1 : Int32)), .val (.int (1 : Int32)), .val (.ref b1105)]) X1105 hx hby at_202 rfl rfl (pc' := 204) rfl ?_
          refine g_aload X1105 hx hby at_204 rfl rfl (pc' := 206) rfl ?_
          refine g_callV (argsL := []) (S := []) (a := b1105) X1105 hx hby hZ (y := (⟨"java/lang/String", "length", "()I"⟩ : MethodName)) (y' := (⟨"java/lang/String", "length", "()I"⟩ : MethodName)) hown (hw _ (List.mem_of_getElem? (i := 86) rfl)) (hw _ (List.mem_of_getElem? (i := 37) rfl)) (notFace_of_selects (args := #[]) (mvT hZ (hw _ (List.mem_of_getElem? (i := 39) rfl)))) (hw _ (List.mem_of_getElem? (i := 39) rfl)) (hw _ (List.mem_of_getElem? (i := 38) rfl)) (hw _ (List.mem_of_getElem? (i := 8) rfl)) (hw _ (List.mem_of_getElem? (i := 40) rfl)) (by decide) LEr1105 (own_ln l Z a0 hw b1105 T1105.heap n0 1 (1 : Int32) (fun i => own_y ((own_cf k945 k954 k963 k972) (2 + i))) rfl ⟨w1105, LEr1105, LVr1105, LCr1105, LAr1105⟩ cs q1107 hcs ) (by rw [hml]; rfl) (lenOf own_pd12 rfl) rfl at_206 (by decide) (W := 0) (by exact Nat.le_of_eq rfl) (by decide) (by decide) (by decide) (pc' := 209) rfl (fun T1118 v1118 X1118 hQ1118 => ?_)
          obtain ⟨rfl, e1118⟩ := hQ1118
          rw [e1118] at X1118
          show Gl p e below n0 _ _ (T1118.setTop (mkF m 209 #[.val (.int y0), .val (.int y1), .val (.int y2), .val (.int y3), .val (.int y4), .val (.int (3 : Int32)), .val (.ref b935), .val (.ref b982), .val (.ref b1030), .val (.int (1 : Int32)), .val (.int (1 : Int32)), .val (.ref b1105)] [(.int (1 : Int32))]))
          refine g_iload X1118 hx hby at_209 rfl (pc' := 211) rfl ?_
          refine g_icmp_eq X1118 hx hby at_211 (by decide) (pc' := 216) (by decide) (pc2 := 214) rfl (fun c211_1119 => ?_) (fun q => absurd (by decide) q)
          refine g_iconst (v := 0) X1118 hx hby at_216 rfl (pc' := 217) rfl ?_
          refine g_iload X1118 hx hby at_217 rfl (pc' := 219) rfl ?_
          refine g_icmp_ge X1118 hx hby at_219 (by decide) (pc' := 240) (by decide) (pc2 := 222) rfl (fun q => absurd (by decide) q) (fun c219_1120 => ?_)
          refine g_aload X1118 hx hby at_222 rfl rfl (pc' := 224) rfl ?_
          refine g_iconst (v := 0) X1118 hx hby at_224 rfl (pc' := 225) rfl ?_
          refine g_callV (argsL := [(.int (0 : Int32))]) (S := []) (a := b1105) X1118 hx hby hZ (y := (⟨"java/lang/String", "charAt", "(I)C"⟩ : MethodName)) (y' := (⟨"java/lang/String", "charAt", "(I)C"⟩ : MethodName)) hown (hw _ (List.mem_of_getElem? (i := 119) rfl)) (hw _ (List.mem_of_getElem? (i := 120) rfl)) (notFace_of_selects (args := #[]) (mvT hZ (hw _ (List.mem_of_getElem? (i := 122) rfl)))) (hw _ (List.mem_of_getElem? (i := 122) rfl)) (hw _ (List.mem_of_getElem? (i := 121) rfl)) (hw _ (List.mem_of_getElem? (i := 8) rfl)) (hw _ (List.mem_of_getElem? (i := 123) rfl)) (by decide) LEr1105 (own_ca l Z a0 hw b1105 (0 : Int32) T1105.heap n0 1 (1 : Int32) (fun i => own_y ((own_cf k945 k954 k963 k972) (2 + i))) rfl ⟨w1105, LEr1105, LVr1105, LCr1105, LAr1105⟩ cs q1107 hcs 0 rfl (by decide) fm q1108 hfm) (by rw [hml]; rfl) (lenOf own_pd21 rfl) rfl at_225 (by decide) (W := 0) (by exact Nat.le_of_eq rfl) (by decide) (by decide) (by decide) (pc' := 228) rfl (fun T1121 v1121 X1121 hQ1121 => ?_)
          obtain ⟨rfl, e1121⟩ := hQ1121
          rw [e1121] at X1121
          show Gl p e below n0 _ _ (T1121.setTop (mkF m 228 #[.val (.int y0), .val (.int y1), .val (.int y2), .val (.int y3), .val (.int y4), .val (.int (3 : Int32)), .val (.ref b935), .val (.ref b982), .val (.ref b1030), .val (.int (1 : Int32)), .val (.int (1 : Int32)), .val (.ref b1105)] [(.int (((fun i => own_y ((own_cf k945 k954 k963 k972) (2 + i)))) 0 &&& (255 : Int32)))]))
          refine g_aload X1121 hx hby at_228 rfl rfl (pc' := 230) rfl ?_
          refine g_iload X1121 hx hby at_230 rfl (pc' := 232) rfl ?_
          refine g_iconst (v := 1) X1121 hx hby at_232 rfl (pc' := 233) rfl ?_
          refine g_iadd X1121 hx hby at_233 (pc' := 234) rfl ?_
          refine g_caload (i := 2) (v := (.int k963)) X1121 hx hby hZ q1109 (by decide) (by decide) rfl at_234 (pc' := 235) rfl ?_
          refine g_icmp_eq X1121 hx hby at_235 (by decide) (pc' := 240) (by decide) (pc2 := 238) rfl (fun c235_1122 => ?_) (fun q => absurd (show own_y k963 &&& 255 = k963 from own_chr_y rg963) q)
          refine g_iconst (v := 1) X1121 hx hby at_240 rfl (pc' := 241) rfl ?_
          refine g_iload X1121 hx hby at_241 rfl (pc' := 243) rfl ?_
          refine g_icmp_ge X1121 hx hby at_243 (by decide) (pc' := 264) (by decide) (pc2 := 246) rfl (fun c243_1123 => ?_) (fun q => absurd q (by decide))
          refine g_iconst (v := 2) X1121 hx hby at_264 rfl (pc' := 265) rfl ?_
          refine g_iload X1121 hx hby at_265 rfl (pc' := 267) rfl ?_
          refine g_icmp_ge X1121 hx hby at_267 (by decide) (pc' := 288) (by decide) (pc2 := 270) rfl (fun c267_1124 => ?_) (fun q => absurd q (by decide))
          refine g_iconst (v := 3) X1121 hx hby at_288 rfl (pc' := 289) rfl ?_
          refine g_iload X1121 hx hby at_289 rfl (pc' := 291) rfl ?_
          refine g_icmp_ge X1121 hx hby at_291 (by decide) (pc' := 312) (by decide) (pc2 := 294) rfl (fun c291_1125 => ?_) (fun q => absurd q (by decide))
          refine g_iconst (v := 1) X1121 hx hby at_312 rfl (pc' := 313) rfl ?_
          exact gw_retN X1121 hx hby hS hk1116 hret hlk (by simp) at_313 rfl (by decide) (by decide)
        · refine g_iconst (v := 2) X1048 hx hby at_167 rfl (pc' := 168) rfl ?_
          refine g_istore (L' := #[.val (.int y0), .val (.int y1), .val (.int y2), .val (.int y3), .val (.int y4), .val (.int (3 : Int32)), .val (.ref b935), .val (.ref b982), .val (.ref b1030), .val (.int (2 : Int32)), .unset, .unset]) X1048 hx hby at_168 rfl (pc' := 170) rfl ?_
          refine g_iload X1048 hx hby at_170 rfl (pc' := 172) rfl ?_
          refine g_iconst (v := 3) X1048 hx hby at_172 rfl (pc' := 173) rfl ?_
          refine g_icmp_le X1048 hx hby at_173 (by decide) (pc' := 188) (by decide) (pc2 := 176) rfl (fun c173_1126 => ?_) (fun q => absurd q (by decide))
          refine g_iload X1048 hx hby at_188 rfl (pc' := 190) rfl ?_
          refine g_iload X1048 hx hby at_190 rfl (pc' := 192) rfl ?_
          refine g_isub X1048 hx hby at_192 (pc' := 193) rfl ?_
          refine g_iconst (v := 1) X1048 hx hby at_193 rfl (pc' := 194) rfl ?_
          refine g_isub X1048 hx hby at_194 (pc' := 195) rfl ?_
          refine g_istore (L' := #[.val (.int y0), .val (.int y1), .val (.int y2), .val (.int y3), .val (.int y4), .val (.int (3 : Int32)), .val (.ref b935), .val (.ref b982), .val (.ref b1030), .val (.int (2 : Int32)), .val (.int (((3 : Int32) - (2 : Int32)) - (1 : Int32))), .unset]) X1048 hx hby at_195 rfl (pc' := 197) rfl ?_
          have em : (((3 : Int32) - (2 : Int32)) - (1 : Int32)) = (0 : Int32) := by decide
          rw [em]
          refine g_aload X1048 hx hby at_197 rfl rfl (pc' := 199) rfl ?_
          have hno1128 : ∀ j : Nat, ((2 : Int32)).toInt < (j : Int) → j < 3 → ¬ (fun i => own_y ((own_cf k945 k954 k963 k972) i)) j = 46 := by
            intro j h1 h2
            have e1 : ((2 : Int32)).toInt = 2 := rfl
            exfalso; omega
          refine gh_callS (argsL := [(.ref b1030)]) (S := []) X1048 hx hby hZ hS hk1060 (own_hEL hw) ch1053 own_nss (y := (⟨"com/example/hifadhi/hifadhi/mapping/QualifiedName", "unqualified", "(Ljava/lang/String;)Ljava/lang/String;"⟩ : MethodName)) hown (hw _ (List.mem_of_getElem? (i := 27) rfl)) (hw _ (List.mem_of_getElem? (i := 28) rfl)) (hw _ (List.mem_of_getElem? (i := 29) rfl)) (hw _ (List.mem_of_getElem? (i := 30) rfl)) (by decide) (own_uqC l Z a0 hw b1030 T1048.heap n0 3 (3 : Int32) (fun i => own_y ((own_cf k945 k954 k963 k972) i)) rfl ⟨w1048, LEn1048, LVn1048, LCn1048, LAn1048⟩ cs q1054 hcs fm q1055 hfm (2 : Int32) ⟨by decide, by decide⟩ (fun _ => show own_y k963 = 46 from (own_dot rg963).mpr c164_1103) hno1128 (by decide) (by decide) zz1059) (by rw [hml]; rfl) (lenOf own_pd23 rfl) rfl at_199 (by decide) (W := 0) (by exact Nat.le_of_eq rfl) (by decide) (by decide) (by decide) (pc' := 202) rfl (fun T1127 v1127 k1127 X1127 hS1127 hk1127 hZ1127 hown1127 hC1127 hD1127 hQ1127 => ?_)
          obtain ⟨b1127, rfl, ka1127, la1127⟩ := hQ1127
          have q1129 := own_sta_keep q1054 ka1127 all0
          have q1130 := own_sta_keep q1055 ka1127 all0
          have q1131 := q1056.keep ka1127 nin0
          have q1132 := q1057.keep ka1127 nin0
          have q1133 := LEn1048.keep ka1127
          have q1134 := LVn1048.keep ka1127 nin0
          have q1135 := LCn1048.keep ka1127 nin0
          have q1136 := LAn1048.keep ka1127 nin0
          have zz1137 := Nat.le_trans zz1059 ka1127.1
          have kk1138 : Keep h0 T1127.heap [] := kk1061.trans ka1127 all0
          have lb1127 : Lat Z T1127.heap b1127 0 (fun i => ([] : List Int32).getD i 0) := la1127
          obtain ⟨w1127, LEr1127, LVr1127, LCr1127, LAr1127⟩ := lb1127
          show Gl p e below n0 _ _ (T1127.setTop (mkF m 202 #[.val (.int y0), .val (.int y1), .val (.int y2), .val (.int y3), .val (.int y4), .val (.int (3 : Int32)), .val (.ref b935), .val (.ref b982), .val (.ref b1030), .val (.int (2 : Int32)), .val (.int (0 : Int32)), .unset] [(.ref b1127)]))
          refine g_astore (L' := #[.val (.int y0), .val (.int y1), .val (.int y2), .val (.int y3), .val (.int y4), .val (.int (3 : Int32)), .val (.ref b935), .val (.ref b982), .val (.ref b1030), .val (.int (2 : Int32)), .val (.int (0 : Int32)), .val (.ref b1127)]) X1127 hx hby at_202 rfl rfl (pc' := 204) rfl ?_
          refine g_aload X1127 hx hby at_204 rfl rfl (pc' := 206) rfl ?_
          refine g_callV (argsL := []) (S := []) (a := b1127) X1127 hx hby hZ1127 (y := (⟨"java/lang/String", "length", "()I"⟩ : MethodName)) (y' := (⟨"java/lang/String", "length", "()I"⟩ : MethodName)) hown1127 (hw _ (List.mem_of_getElem? (i := 86) rfl)) (hw _ (List.mem_of_getElem? (i := 37) rfl)) (notFace_of_selects (args := #[]) (mvT hZ1127 (hw _ (List.mem_of_getElem? (i := 39) rfl)))) (hw _ (List.mem_of_getElem? (i := 39) rfl)) (hw _ (List.mem_of_getElem? (i := 38) rfl)) (hw _ (List.mem_of_getElem? (i := 8) rfl)) (hw _ (List.mem_of_getElem? (i := 40) rfl)) (by decide) LEr1127 (own_ln l Z a0 hw b1127 T1127.heap n0 0 (0 : Int32) (fun i => ([] : List Int32).getD i 0) rfl ⟨w1127, LEr1127, LVr1127, LCr1127, LAr1127⟩ cs q1129 hcs ) (by rw [hml]; rfl) (lenOf own_pd12 rfl) rfl at_206 (by decide) (W := 0) (by exact Nat.le_of_eq rfl) (by decide) (by decide) (by decide) (pc' := 209) rfl (fun T1139 v1139 X1139 hQ1139 => ?_)
          obtain ⟨rfl, e1139⟩ := hQ1139
          rw [e1139] at X1139
          show Gl p e below n0 _ _ (T1139.setTop (mkF m 209 #[.val (.int y0), .val (.int y1), .val (.int y2), .val (.int y3), .val (.int y4), .val (.int (3 : Int32)), .val (.ref b935), .val (.ref b982), .val (.ref b1030), .val (.int (2 : Int32)), .val (.int (0 : Int32)), .val (.ref b1127)] [(.int (0 : Int32))]))
          refine g_iload X1139 hx hby at_209 rfl (pc' := 211) rfl ?_
          refine g_icmp_eq X1139 hx hby at_211 (by decide) (pc' := 216) (by decide) (pc2 := 214) rfl (fun c211_1140 => ?_) (fun q => absurd (by decide) q)
          refine g_iconst (v := 0) X1139 hx hby at_216 rfl (pc' := 217) rfl ?_
          refine g_iload X1139 hx hby at_217 rfl (pc' := 219) rfl ?_
          refine g_icmp_ge X1139 hx hby at_219 (by decide) (pc' := 240) (by decide) (pc2 := 222) rfl (fun c219_1141 => ?_) (fun q => absurd q (by decide))
          refine g_iconst (v := 1) X1139 hx hby at_240 rfl (pc' := 241) rfl ?_
          refine g_iload X1139 hx hby at_241 rfl (pc' := 243) rfl ?_
          refine g_icmp_ge X1139 hx hby at_243 (by decide) (pc' := 264) (by decide) (pc2 := 246) rfl (fun c243_1142 => ?_) (fun q => absurd q (by decide))
          refine g_iconst (v := 2) X1139 hx hby at_264 rfl (pc' := 265) rfl ?_
          refine g_iload X1139 hx hby at_265 rfl (pc' := 267) rfl ?_
          refine g_icmp_ge X1139 hx hby at_267 (by decide) (pc' := 288) (by decide) (pc2 := 270) rfl (fun c267_1143 => ?_) (fun q => absurd q (by decide))
          refine g_iconst (v := 3) X1139 hx hby at_288 rfl (pc' := 289) rfl ?_
          refine g_iload X1139 hx hby at_289 rfl (pc' := 291) rfl ?_
          refine g_icmp_ge X1139 hx hby at_291 (by decide) (pc' := 312) (by decide) (pc2 := 294) rfl (fun c291_1144 => ?_) (fun q => absurd q (by decide))
          refine g_iconst (v := 1) X1139 hx hby at_312 rfl (pc' := 313) rfl ?_
          exact gw_retN X1139 hx hby hS1127 hk1127 hret hlk (by simp) at_313 rfl (by decide) (by decide)
    · refine g_iconst (v := 0) X1048 hx hby at_131 rfl (pc' := 132) rfl ?_
      refine g_istore (L' := #[.val (.int y0), .val (.int y1), .val (.int y2), .val (.int y3), .val (.int y4), .val (.int (3 : Int32)), .val (.ref b935), .val (.ref b982), .val (.ref b1030), .val (.int (0 : Int32)), .unset, .unset]) X1048 hx hby at_132 rfl (pc' := 134) rfl ?_
      refine g_iload X1048 hx hby at_134 rfl (pc' := 136) rfl ?_
      refine g_iconst (v := 1) X1048 hx hby at_136 rfl (pc' := 137) rfl ?_
      refine g_icmp_le X1048 hx hby at_137 (by decide) (pc' := 152) (by decide) (pc2 := 140) rfl (fun q => absurd (by decide) q) (fun c137_1145 => ?_)
      refine g_aload X1048 hx hby at_140 rfl rfl (pc' := 142) rfl ?_
      refine g_iconst (v := 1) X1048 hx hby at_142 rfl (pc' := 143) rfl ?_
      refine g_caload (i := 1) (v := (.int k954)) X1048 hx hby hZ q1056 (by decide) (by decide) rfl at_143 (pc' := 144) rfl ?_
      refine g_bipush (v := 46) X1048 hx hby at_144 rfl (pc' := 146) rfl ?_
      refine g_icmp_ne X1048 hx hby at_146 (by decide) (pc' := 152) (by decide) (pc2 := 149) rfl (fun c146_1146 => ?_) (fun c146_1146 => ?_)
      · refine g_iload X1048 hx hby at_152 rfl (pc' := 154) rfl ?_
        refine g_iconst (v := 2) X1048 hx hby at_154 rfl (pc' := 155) rfl ?_
        refine g_icmp_le X1048 hx hby at_155 (by decide) (pc' := 170) (by decide) (pc2 := 158) rfl (fun q => absurd (by decide) q) (fun c155_1147 => ?_)
        refine g_aload X1048 hx hby at_158 rfl rfl (pc' := 160) rfl ?_
        refine g_iconst (v := 2) X1048 hx hby at_160 rfl (pc' := 161) rfl ?_
        refine g_caload (i := 2) (v := (.int k963)) X1048 hx hby hZ q1056 (by decide) (by decide) rfl at_161 (pc' := 162) rfl ?_
        refine g_bipush (v := 46) X1048 hx hby at_162 rfl (pc' := 164) rfl ?_
        refine g_icmp_ne X1048 hx hby at_164 (by decide) (pc' := 170) (by decide) (pc2 := 167) rfl (fun c164_1148 => ?_) (fun c164_1148 => ?_)
        · refine g_iload X1048 hx hby at_170 rfl (pc' := 172) rfl ?_
          refine g_iconst (v := 3) X1048 hx hby at_172 rfl (pc' := 173) rfl ?_
          refine g_icmp_le X1048 hx hby at_173 (by decide) (pc' := 188) (by decide) (pc2 := 176) rfl (fun c173_1149 => ?_) (fun q => absurd q (by decide))
          refine g_iload X1048 hx hby at_188 rfl (pc' := 190) rfl ?_
          refine g_iload X1048 hx hby at_190 rfl (pc' := 192) rfl ?_
          refine g_isub X1048 hx hby at_192 (pc' := 193) rfl ?_
          refine g_iconst (v := 1) X1048 hx hby at_193 rfl (pc' := 194) rfl ?_
          refine g_isub X1048 hx hby at_194 (pc' := 195) rfl ?_
          refine g_istore (L' := #[.val (.int y0), .val (.int y1), .val (.int y2), .val (.int y3), .val (.int y4), .val (.int (3 : Int32)), .val (.ref b935), .val (.ref b982), .val (.ref b1030), .val (.int (0 : Int32)), .val (.int (((3 : Int32) - (0 : Int32)) - (1 : Int32))), .unset]) X1048 hx hby at_195 rfl (pc' := 197) rfl ?_
          have em : (((3 : Int32) - (0 : Int32)) - (1 : Int32)) = (2 : Int32) := by decide
          rw [em]
          refine g_aload X1048 hx hby at_197 rfl rfl (pc' := 199) rfl ?_
          have hno1151 : ∀ j : Nat, ((0 : Int32)).toInt < (j : Int) → j < 3 → ¬ (fun i => own_y ((own_cf k945 k954 k963 k972) i)) j = 46 := by
            intro j h1 h2
            have e1 : ((0 : Int32)).toInt = 0 := rfl
            have h8 : j = 1 ∨ j = 2 := by omega
            rcases h8 with rfl | rfl
            · exact fun q => c146_1146 ((own_dot rg954).mp q)
            · exact fun q => c164_1148 ((own_dot rg963).mp q)
          refine g_callS (argsL := [(.ref b1030)]) (S := []) X1048 hx hby hZ (y := (⟨"com/example/hifadhi/hifadhi/mapping/QualifiedName", "unqualified", "(Ljava/lang/String;)Ljava/lang/String;"⟩ : MethodName)) hown (hw _ (List.mem_of_getElem? (i := 27) rfl)) (hw _ (List.mem_of_getElem? (i := 28) rfl)) (hw _ (List.mem_of_getElem? (i := 29) rfl)) (hw _ (List.mem_of_getElem? (i := 30) rfl)) (by decide) (own_uqB l Z a0 hw b1030 T1048.heap n0 3 (3 : Int32) (fun i => own_y ((own_cf k945 k954 k963 k972) i)) rfl ⟨w1048, LEn1048, LVn1048, LCn1048, LAn1048⟩ cs q1054 hcs fm q1055 hfm (0 : Int32) ⟨by decide, by decide⟩ (fun _ => show own_y k945 = 46 from (own_dot rg945).mpr c128_1063) hno1151 (by decide) (fun i _ => fits_nar_byte _) 1 (by decide) (by decide) (by decide) zz1059) (by rw [hml]; rfl) (lenOf own_pd23 rfl) rfl at_199 (by decide) (W := 0) (by exact Nat.le_of_eq rfl) (by decide) (by decide) (by decide) (pc' := 202) rfl (fun T1150 v1150 X1150 hQ1150 => ?_)
          obtain ⟨b1150, rfl, ka1150, la1150⟩ := hQ1150
          have q1152 := own_sta_keep q1054 ka1150 all0
          have q1153 := own_sta_keep q1055 ka1150 all0
          have q1154 := q1056.keep ka1150 nin0
          have q1155 := q1057.keep ka1150 nin0
          have q1156 := LEn1048.keep ka1150
          have q1157 := LVn1048.keep ka1150 nin0
          have q1158 := LCn1048.keep ka1150 nin0
          have q1159 := LAn1048.keep ka1150 nin0
          have zz1160 := Nat.le_trans zz1059 ka1150.1
          have hk1161 := Nat.le_trans hk1060 ka1150.1
          have kk1162 : Keep h0 T1150.heap [] := kk1061.trans ka1150 all0
          have lb1150 : Lat Z T1150.heap b1150 2 (fun i => own_y ((own_cf k945 k954 k963 k972) (1 + i))) := la1150
          obtain ⟨w1150, LEr1150, LVr1150, LCr1150, LAr1150⟩ := lb1150
          show Gl p e below n0 _ _ (T1150.setTop (mkF m 202 #[.val (.int y0), .val (.int y1), .val (.int y2), .val (.int y3), .val (.int y4), .val (.int (3 : Int32)), .val (.ref b935), .val (.ref b982), .val (.ref b1030), .val (.int (0 : Int32)), .val (.int (2 : Int32)), .unset] [(.ref b1150)]))
          refine g_astore (L' := #[.val (.int y0), .val (.int y1), .val (.int y2), .val (.int y3), .val (.int y4), .val (.int (3 : Int32)), .val (.ref b935), .val (.ref b982), .val (.ref b1030), .val (.int (0 : Int32)), .val (.int (2 : Int32)), .val (.ref b1150)]) X1150 hx hby at_202 rfl rfl (pc' := 204) rfl ?_
          refine g_aload X1150 hx hby at_204 rfl rfl (pc' := 206) rfl ?_
          refine g_callV (argsL := []) (S := []) (a := b1150) X1150 hx hby hZ (y := (⟨"java/lang/String", "length", "()I"⟩ : MethodName)) (y' := (⟨"java/lang/String", "length", "()I"⟩ : MethodName)) hown (hw _ (List.mem_of_getElem? (i := 86) rfl)) (hw _ (List.mem_of_getElem? (i := 37) rfl)) (notFace_of_selects (args := #[]) (mvT hZ (hw _ (List.mem_of_getElem? (i := 39) rfl)))) (hw _ (List.mem_of_getElem? (i := 39) rfl)) (hw _ (List.mem_of_getElem? (i := 38) rfl)) (hw _ (List.mem_of_getElem? (i := 8) rfl)) (hw _ (List.mem_of_getElem? (i := 40) rfl)) (by decide) LEr1150 (own_ln l Z a0 hw b1150 T1150.heap n0 2 (2 : Int32) (fun i => own_y ((own_cf k945 k954 k963 k972) (1 + i))) rfl ⟨w1150, LEr1150, LVr1150, LCr1150, LAr1150⟩ cs q1152 hcs ) (by rw [hml]; rfl) (lenOf own_pd12 rfl) rfl at_206 (by decide) (W := 0) (by exact Nat.le_of_eq rfl) (by decide) (by decide) (by decide) (pc' := 209) rfl (fun T1163 v1163 X1163 hQ1163 => ?_)
          obtain ⟨rfl, e1163⟩ := hQ1163
          rw [e1163] at X1163
          show Gl p e below n0 _ _ (T1163.setTop (mkF m 209 #[.val (.int y0), .val (.int y1), .val (.int y2), .val (.int y3), .val (.int y4), .val (.int (3 : Int32)), .val (.ref b935), .val (.ref b982), .val (.ref b1030), .val (.int (0 : Int32)), .val (.int (2 : Int32)), .val (.ref b1150)] [(.int (2 : Int32))]))
          refine g_iload X1163 hx hby at_209 rfl (pc' := 211) rfl ?_
          refine g_icmp_eq X1163 hx hby at_211 (by decide) (pc' := 216) (by decide) (pc2 := 214) rfl (fun c211_1164 => ?_) (fun q => absurd (by decide) q)
          refine g_iconst (v := 0) X1163 hx hby at_216 rfl (pc' := 217) rfl ?_
          refine g_iload X1163 hx hby at_217 rfl (pc' := 219) rfl ?_
          refine g_icmp_ge X1163 hx hby at_219 (by decide) (pc' := 240) (by decide) (pc2 := 222) rfl (fun q => absurd (by decide) q) (fun c219_1165 => ?_)
          refine g_aload X1163 hx hby at_222 rfl rfl (pc' := 224) rfl ?_
          refine g_iconst (v := 0) X1163 hx hby at_224 rfl (pc' := 225) rfl ?_
          refine g_callV (argsL := [(.int (0 : Int32))]) (S := []) (a := b1150) X1163 hx hby hZ (y := (⟨"java/lang/String", "charAt", "(I)C"⟩ : MethodName)) (y' := (⟨"java/lang/String", "charAt", "(I)C"⟩ : MethodName)) hown (hw _ (List.mem_of_getElem? (i := 119) rfl)) (hw _ (List.mem_of_getElem? (i := 120) rfl)) (notFace_of_selects (args := #[]) (mvT hZ (hw _ (List.mem_of_getElem? (i := 122) rfl)))) (hw _ (List.mem_of_getElem? (i := 122) rfl)) (hw _ (List.mem_of_getElem? (i := 121) rfl)) (hw _ (List.mem_of_getElem? (i := 8) rfl)) (hw _ (List.mem_of_getElem? (i := 123) rfl)) (by decide) LEr1150 (own_ca l Z a0 hw b1150 (0 : Int32) T1150.heap n0 2 (2 : Int32) (fun i => own_y ((own_cf k945 k954 k963 k972) (1 + i))) rfl ⟨w1150, LEr1150, LVr1150, LCr1150, LAr1150⟩ cs q1152 hcs 0 rfl (by decide) fm q1153 hfm) (by rw [hml]; rfl) (lenOf own_pd21 rfl) rfl at_225 (by decide) (W := 0) (by exact Nat.le_of_eq rfl) (by decide) (by decide) (by decide) (pc' := 228) rfl (fun T1166 v1166 X1166 hQ1166 => ?_)
          obtain ⟨rfl, e1166⟩ := hQ1166
          rw [e1166] at X1166
          show Gl p e below n0 _ _ (T1166.setTop (mkF m 228 #[.val (.int y0), .val (.int y1), .val (.int y2), .val (.int y3), .val (.int y4), .val (.int (3 : Int32)), .val (.ref b935), .val (.ref b982), .val (.ref b1030), .val (.int (0 : Int32)), .val (.int (2 : Int32)), .val (.ref b1150)] [(.int (((fun i => own_y ((own_cf k945 k954 k963 k972) (1 + i)))) 0 &&& (255 : Int32)))]))
          refine g_aload X1166 hx hby at_228 rfl rfl (pc' := 230) rfl ?_
          refine g_iload X1166 hx hby at_230 rfl (pc' := 232) rfl ?_
          refine g_iconst (v := 1) X1166 hx hby at_232 rfl (pc' := 233) rfl ?_
          refine g_iadd X1166 hx hby at_233 (pc' := 234) rfl ?_
          refine g_caload (i := 1) (v := (.int k954)) X1166 hx hby hZ q1154 (by decide) (by decide) rfl at_234 (pc' := 235) rfl ?_
          refine g_icmp_eq X1166 hx hby at_235 (by decide) (pc' := 240) (by decide) (pc2 := 238) rfl (fun c235_1167 => ?_) (fun q => absurd (show own_y k954 &&& 255 = k954 from own_chr_y rg954) q)
          refine g_iconst (v := 1) X1166 hx hby at_240 rfl (pc' := 241) rfl ?_
          refine g_iload X1166 hx hby at_241 rfl (pc' := 243) rfl ?_
          refine g_icmp_ge X1166 hx hby at_243 (by decide) (pc' := 264) (by decide) (pc2 := 246) rfl (fun q => absurd (by decide) q) (fun c243_1168 => ?_)
          refine g_aload X1166 hx hby at_246 rfl rfl (pc' := 248) rfl ?_
          refine g_iconst (v := 1) X1166 hx hby at_248 rfl (pc' := 249) rfl ?_
          refine g_callV (argsL := [(.int (1 : Int32))]) (S := []) (a := b1150) X1166 hx hby hZ (y := (⟨"java/lang/String", "charAt", "(I)C"⟩ : MethodName)) (y' := (⟨"java/lang/String", "charAt", "(I)C"⟩ : MethodName)) hown (hw _ (List.mem_of_getElem? (i := 119) rfl)) (hw _ (List.mem_of_getElem? (i := 120) rfl)) (notFace_of_selects (args := #[]) (mvT hZ (hw _ (List.mem_of_getElem? (i := 122) rfl)))) (hw _ (List.mem_of_getElem? (i := 122) rfl)) (hw _ (List.mem_of_getElem? (i := 121) rfl)) (hw _ (List.mem_of_getElem? (i := 8) rfl)) (hw _ (List.mem_of_getElem? (i := 123) rfl)) (by decide) LEr1150 (own_ca l Z a0 hw b1150 (1 : Int32) T1150.heap n0 2 (2 : Int32) (fun i => own_y ((own_cf k945 k954 k963 k972) (1 + i))) rfl ⟨w1150, LEr1150, LVr1150, LCr1150, LAr1150⟩ cs q1152 hcs 1 rfl (by decide) fm q1153 hfm) (by rw [hml]; rfl) (lenOf own_pd21 rfl) rfl at_249 (by decide) (W := 0) (by exact Nat.le_of_eq rfl) (by decide) (by decide) (by decide) (pc' := 252) rfl (fun T1169 v1169 X1169 hQ1169 => ?_)
          obtain ⟨rfl, e1169⟩ := hQ1169
          rw [e1169] at X1169
          show Gl p e below n0 _ _ (T1169.setTop (mkF m 252 #[.val (.int y0), .val (.int y1), .val (.int y2), .val (.int y3), .val (.int y4), .val (.int (3 : Int32)), .val (.ref b935), .val (.ref b982), .val (.ref b1030), .val (.int (0 : Int32)), .val (.int (2 : Int32)), .val (.ref b1150)] [(.int (((fun i => own_y ((own_cf k945 k954 k963 k972) (1 + i)))) 1 &&& (255 : Int32)))]))
          refine g_aload X1169 hx hby at_252 rfl rfl (pc' := 254) rfl ?_
          refine g_iload X1169 hx hby at_254 rfl (pc' := 256) rfl ?_
          refine g_iconst (v := 2) X1169 hx hby at_256 rfl (pc' := 257) rfl ?_
          refine g_iadd X1169 hx hby at_257 (pc' := 258) rfl ?_
          refine g_caload (i := 2) (v := (.int k963)) X1169 hx hby hZ q1154 (by decide) (by decide) rfl at_258 (pc' := 259) rfl ?_
          refine g_icmp_eq X1169 hx hby at_259 (by decide) (pc' := 264) (by decide) (pc2 := 262) rfl (fun c259_1170 => ?_) (fun q => absurd (show own_y k963 &&& 255 = k963 from own_chr_y rg963) q)
          refine g_iconst (v := 2) X1169 hx hby at_264 rfl (pc' := 265) rfl ?_
          refine g_iload X1169 hx hby at_265 rfl (pc' := 267) rfl ?_
          refine g_icmp_ge X1169 hx hby at_267 (by decide) (pc' := 288) (by decide) (pc2 := 270) rfl (fun c267_1171 => ?_) (fun q => absurd q (by decide))
          refine g_iconst (v := 3) X1169 hx hby at_288 rfl (pc' := 289) rfl ?_
          refine g_iload X1169 hx hby at_289 rfl (pc' := 291) rfl ?_
          refine g_icmp_ge X1169 hx hby at_291 (by decide) (pc' := 312) (by decide) (pc2 := 294) rfl (fun c291_1172 => ?_) (fun q => absurd q (by decide))
          refine g_iconst (v := 1) X1169 hx hby at_312 rfl (pc' := 313) rfl ?_
          exact gw_retN X1169 hx hby hS hk1161 hret hlk (by simp) at_313 rfl (by decide) (by decide)
        · refine g_iconst (v := 2) X1048 hx hby at_167 rfl (pc' := 168) rfl ?_
          refine g_istore (L' := #[.val (.int y0), .val (.int y1), .val (.int y2), .val (.int y3), .val (.int y4), .val (.int (3 : Int32)), .val (.ref b935), .val (.ref b982), .val (.ref b1030), .val (.int (2 : Int32)), .unset, .unset]) X1048 hx hby at_168 rfl (pc' := 170) rfl ?_
          refine g_iload X1048 hx hby at_170 rfl (pc' := 172) rfl ?_
          refine g_iconst (v := 3) X1048 hx hby at_172 rfl (pc' := 173) rfl ?_
          refine g_icmp_le X1048 hx hby at_173 (by decide) (pc' := 188) (by decide) (pc2 := 176) rfl (fun c173_1173 => ?_) (fun q => absurd q (by decide))
          refine g_iload X1048 hx hby at_188 rfl (pc' := 190) rfl ?_
          refine g_iload X1048 hx hby at_190 rfl (pc' := 192) rfl ?_
          refine g_isub X1048 hx hby at_192 (pc' := 193) rfl ?_
          refine g_iconst (v := 1) X1048 hx hby at_193 rfl (pc' := 194) rfl ?_
          refine g_isub X1048 hx hby at_194 (pc' := 195) rfl ?_
          refine g_istore (L' := #[.val (.int y0), .val (.int y1), .val (.int y2), .val (.int y3), .val (.int y4), .val (.int (3 : Int32)), .val (.ref b935), .val (.ref b982), .val (.ref b1030), .val (.int (2 : Int32)), .val (.int (((3 : Int32) - (2 : Int32)) - (1 : Int32))), .unset]) X1048 hx hby at_195 rfl (pc' := 197) rfl ?_
          have em : (((3 : Int32) - (2 : Int32)) - (1 : Int32)) = (0 : Int32) := by decide
          rw [em]
          refine g_aload X1048 hx hby at_197 rfl rfl (pc' := 199) rfl ?_
          have hno1175 : ∀ j : Nat, ((2 : Int32)).toInt < (j : Int) → j < 3 → ¬ (fun i => own_y ((own_cf k945 k954 k963 k972) i)) j = 46 := by
            intro j h1 h2
            have e1 : ((2 : Int32)).toInt = 2 := rfl
            exfalso; omega
          refine gh_callS (argsL := [(.ref b1030)]) (S := []) X1048 hx hby hZ hS hk1060 (own_hEL hw) ch1053 own_nss (y := (⟨"com/example/hifadhi/hifadhi/mapping/QualifiedName", "unqualified", "(Ljava/lang/String;)Ljava/lang/String;"⟩ : MethodName)) hown (hw _ (List.mem_of_getElem? (i := 27) rfl)) (hw _ (List.mem_of_getElem? (i := 28) rfl)) (hw _ (List.mem_of_getElem? (i := 29) rfl)) (hw _ (List.mem_of_getElem? (i := 30) rfl)) (by decide) (own_uqC l Z a0 hw b1030 T1048.heap n0 3 (3 : Int32) (fun i => own_y ((own_cf k945 k954 k963 k972) i)) rfl ⟨w1048, LEn1048, LVn1048, LCn1048, LAn1048⟩ cs q1054 hcs fm q1055 hfm (2 : Int32) ⟨by decide, by decide⟩ (fun _ => show own_y k963 = 46 from (own_dot rg963).mpr c164_1148) hno1175 (by decide) (by decide) zz1059) (by rw [hml]; rfl) (lenOf own_pd23 rfl) rfl at_199 (by decide) (W := 0) (by exact Nat.le_of_eq rfl) (by decide) (by decide) (by decide) (pc' := 202) rfl (fun T1174 v1174 k1174 X1174 hS1174 hk1174 hZ1174 hown1174 hC1174 hD1174 hQ1174 => ?_)
          obtain ⟨b1174, rfl, ka1174, la1174⟩ := hQ1174
          have q1176 := own_sta_keep q1054 ka1174 all0
          have q1177 := own_sta_keep q1055 ka1174 all0
          have q1178 := q1056.keep ka1174 nin0
          have q1179 := q1057.keep ka1174 nin0
          have q1180 := LEn1048.keep ka1174
          have q1181 := LVn1048.keep ka1174 nin0
          have q1182 := LCn1048.keep ka1174 nin0
          have q1183 := LAn1048.keep ka1174 nin0
          have zz1184 := Nat.le_trans zz1059 ka1174.1
          have kk1185 : Keep h0 T1174.heap [] := kk1061.trans ka1174 all0
          have lb1174 : Lat Z T1174.heap b1174 0 (fun i => ([] : List Int32).getD i 0) := la1174
          obtain ⟨w1174, LEr1174, LVr1174, LCr1174, LAr1174⟩ := lb1174
          show Gl p e below n0 _ _ (T1174.setTop (mkF m 202 #[.val (.int y0), .val (.int y1), .val (.int y2), .val (.int y3), .val (.int y4), .val (.int (3 : Int32)), .val (.ref b935), .val (.ref b982), .val (.ref b1030), .val (.int (2 : Int32)), .val (.int (0 : Int32)), .unset] [(.ref b1174)]))
          refine g_astore (L' := #[.val (.int y0), .val (.int y1), .val (.int y2), .val (.int y3), .val (.int y4), .val (.int (3 : Int32)), .val (.ref b935), .val (.ref b982), .val (.ref b1030), .val (.int (2 : Int32)), .val (.int (0 : Int32)), .val (.ref b1174)]) X1174 hx hby at_202 rfl rfl (pc' := 204) rfl ?_
          refine g_aload X1174 hx hby at_204 rfl rfl (pc' := 206) rfl ?_
          refine g_callV (argsL := []) (S := []) (a := b1174) X1174 hx hby hZ1174 (y := (⟨"java/lang/String", "length", "()I"⟩ : MethodName)) (y' := (⟨"java/lang/String", "length", "()I"⟩ : MethodName)) hown1174 (hw _ (List.mem_of_getElem? (i := 86) rfl)) (hw _ (List.mem_of_getElem? (i := 37) rfl)) (notFace_of_selects (args := #[]) (mvT hZ1174 (hw _ (List.mem_of_getElem? (i := 39) rfl)))) (hw _ (List.mem_of_getElem? (i := 39) rfl)) (hw _ (List.mem_of_getElem? (i := 38) rfl)) (hw _ (List.mem_of_getElem? (i := 8) rfl)) (hw _ (List.mem_of_getElem? (i := 40) rfl)) (by decide) LEr1174 (own_ln l Z a0 hw b1174 T1174.heap n0 0 (0 : Int32) (fun i => ([] : List Int32).getD i 0) rfl ⟨w1174, LEr1174, LVr1174, LCr1174, LAr1174⟩ cs q1176 hcs ) (by rw [hml]; rfl) (lenOf own_pd12 rfl) rfl at_206 (by decide) (W := 0) (by exact Nat.le_of_eq rfl) (by decide) (by decide) (by decide) (pc' := 209) rfl (fun T1186 v1186 X1186 hQ1186 => ?_)
          obtain ⟨rfl, e1186⟩ := hQ1186
          rw [e1186] at X1186
          show Gl p e below n0 _ _ (T1186.setTop (mkF m 209 #[.val (.int y0), .val (.int y1), .val (.int y2), .val (.int y3), .val (.int y4), .val (.int (3 : Int32)), .val (.ref b935), .val (.ref b982), .val (.ref b1030), .val (.int (2 : Int32)), .val (.int (0 : Int32)), .val (.ref b1174)] [(.int (0 : Int32))]))
          refine g_iload X1186 hx hby at_209 rfl (pc' := 211) rfl ?_
          refine g_icmp_eq X1186 hx hby at_211 (by decide) (pc' := 216) (by decide) (pc2 := 214) rfl (fun c211_1187 => ?_) (fun q => absurd (by decide) q)
          refine g_iconst (v := 0) X1186 hx hby at_216 rfl (pc' := 217) rfl ?_
          refine g_iload X1186 hx hby at_217 rfl (pc' := 219) rfl ?_
          refine g_icmp_ge X1186 hx hby at_219 (by decide) (pc' := 240) (by decide) (pc2 := 222) rfl (fun c219_1188 => ?_) (fun q => absurd q (by decide))
          refine g_iconst (v := 1) X1186 hx hby at_240 rfl (pc' := 241) rfl ?_
          refine g_iload X1186 hx hby at_241 rfl (pc' := 243) rfl ?_
          refine g_icmp_ge X1186 hx hby at_243 (by decide) (pc' := 264) (by decide) (pc2 := 246) rfl (fun c243_1189 => ?_) (fun q => absurd q (by decide))
          refine g_iconst (v := 2) X1186 hx hby at_264 rfl (pc' := 265) rfl ?_
          refine g_iload X1186 hx hby at_265 rfl (pc' := 267) rfl ?_
          refine g_icmp_ge X1186 hx hby at_267 (by decide) (pc' := 288) (by decide) (pc2 := 270) rfl (fun c267_1190 => ?_) (fun q => absurd q (by decide))
          refine g_iconst (v := 3) X1186 hx hby at_288 rfl (pc' := 289) rfl ?_
          refine g_iload X1186 hx hby at_289 rfl (pc' := 291) rfl ?_
          refine g_icmp_ge X1186 hx hby at_291 (by decide) (pc' := 312) (by decide) (pc2 := 294) rfl (fun c291_1191 => ?_) (fun q => absurd q (by decide))
          refine g_iconst (v := 1) X1186 hx hby at_312 rfl (pc' := 313) rfl ?_
          exact gw_retN X1186 hx hby hS1174 hk1174 hret hlk (by simp) at_313 rfl (by decide) (by decide)
      · refine g_iconst (v := 1) X1048 hx hby at_149 rfl (pc' := 150) rfl ?_
        refine g_istore (L' := #[.val (.int y0), .val (.int y1), .val (.int y2), .val (.int y3), .val (.int y4), .val (.int (3 : Int32)), .val (.ref b935), .val (.ref b982), .val (.ref b1030), .val (.int (1 : Int32)), .unset, .unset]) X1048 hx hby at_150 rfl (pc' := 152) rfl ?_
        refine g_iload X1048 hx hby at_152 rfl (pc' := 154) rfl ?_
        refine g_iconst (v := 2) X1048 hx hby at_154 rfl (pc' := 155) rfl ?_
        refine g_icmp_le X1048 hx hby at_155 (by decide) (pc' := 170) (by decide) (pc2 := 158) rfl (fun q => absurd (by decide) q) (fun c155_1192 => ?_)
        refine g_aload X1048 hx hby at_158 rfl rfl (pc' := 160) rfl ?_
        refine g_iconst (v := 2) X1048 hx hby at_160 rfl (pc' := 161) rfl ?_
        refine g_caload (i := 2) (v := (.int k963)) X1048 hx hby hZ q1056 (by decide) (by decide) rfl at_161 (pc' := 162) rfl ?_
        refine g_bipush (v := 46) X1048 hx hby at_162 rfl (pc' := 164) rfl ?_
        refine g_icmp_ne X1048 hx hby at_164 (by decide) (pc' := 170) (by decide) (pc2 := 167) rfl (fun c164_1193 => ?_) (fun c164_1193 => ?_)
        · refine g_iload X1048 hx hby at_170 rfl (pc' := 172) rfl ?_
          refine g_iconst (v := 3) X1048 hx hby at_172 rfl (pc' := 173) rfl ?_
          refine g_icmp_le X1048 hx hby at_173 (by decide) (pc' := 188) (by decide) (pc2 := 176) rfl (fun c173_1194 => ?_) (fun q => absurd q (by decide))
          refine g_iload X1048 hx hby at_188 rfl (pc' := 190) rfl ?_
          refine g_iload X1048 hx hby at_190 rfl (pc' := 192) rfl ?_
          refine g_isub X1048 hx hby at_192 (pc' := 193) rfl ?_
          refine g_iconst (v := 1) X1048 hx hby at_193 rfl (pc' := 194) rfl ?_
          refine g_isub X1048 hx hby at_194 (pc' := 195) rfl ?_
          refine g_istore (L' := #[.val (.int y0), .val (.int y1), .val (.int y2), .val (.int y3), .val (.int y4), .val (.int (3 : Int32)), .val (.ref b935), .val (.ref b982), .val (.ref b1030), .val (.int (1 : Int32)), .val (.int (((3 : Int32) - (1 : Int32)) - (1 : Int32))), .unset]) X1048 hx hby at_195 rfl (pc' := 197) rfl ?_
          have em : (((3 : Int32) - (1 : Int32)) - (1 : Int32)) = (1 : Int32) := by decide
          rw [em]
          refine g_aload X1048 hx hby at_197 rfl rfl (pc' := 199) rfl ?_
          have hno1196 : ∀ j : Nat, ((1 : Int32)).toInt < (j : Int) → j < 3 → ¬ (fun i => own_y ((own_cf k945 k954 k963 k972) i)) j = 46 := by
            intro j h1 h2
            have e1 : ((1 : Int32)).toInt = 1 := rfl
            have h8 : j = 2 := by omega
            rcases h8 with rfl
            · exact fun q => c164_1193 ((own_dot rg963).mp q)
          refine g_callS (argsL := [(.ref b1030)]) (S := []) X1048 hx hby hZ (y := (⟨"com/example/hifadhi/hifadhi/mapping/QualifiedName", "unqualified", "(Ljava/lang/String;)Ljava/lang/String;"⟩ : MethodName)) hown (hw _ (List.mem_of_getElem? (i := 27) rfl)) (hw _ (List.mem_of_getElem? (i := 28) rfl)) (hw _ (List.mem_of_getElem? (i := 29) rfl)) (hw _ (List.mem_of_getElem? (i := 30) rfl)) (by decide) (own_uqB l Z a0 hw b1030 T1048.heap n0 3 (3 : Int32) (fun i => own_y ((own_cf k945 k954 k963 k972) i)) rfl ⟨w1048, LEn1048, LVn1048, LCn1048, LAn1048⟩ cs q1054 hcs fm q1055 hfm (1 : Int32) ⟨by decide, by decide⟩ (fun _ => show own_y k954 = 46 from (own_dot rg954).mpr c146_1146) hno1196 (by decide) (fun i _ => fits_nar_byte _) 2 (by decide) (by decide) (by decide) zz1059) (by rw [hml]; rfl) (lenOf own_pd23 rfl) rfl at_199 (by decide) (W := 0) (by exact Nat.le_of_eq rfl) (by decide) (by decide) (by decide) (pc' := 202) rfl (fun T1195 v1195 X1195 hQ1195 => ?_)
          obtain ⟨b1195, rfl, ka1195, la1195⟩ := hQ1195
          have q1197 := own_sta_keep q1054 ka1195 all0
          have q1198 := own_sta_keep q1055 ka1195 all0
          have q1199 := q1056.keep ka1195 nin0
          have q1200 := q1057.keep ka1195 nin0
          have q1201 := LEn1048.keep ka1195
          have q1202 := LVn1048.keep ka1195 nin0
          have q1203 := LCn1048.keep ka1195 nin0
          have q1204 := LAn1048.keep ka1195 nin0
          have zz1205 := Nat.le_trans zz1059 ka1195.1
          have hk1206 := Nat.le_trans hk1060 ka1195.1
          have kk1207 : Keep h0 T1195.heap [] := kk1061.trans ka1195 all0
          have lb1195 : Lat Z T1195.heap b1195 1 (fun i => own_y ((own_cf k945 k954 k963 k972) (2 + i))) := la1195
          obtain ⟨w1195, LEr1195, LVr1195, LCr1195, LAr1195⟩ := lb1195
          show Gl p e below n0 _ _ (T1195.setTop (mkF m 202 #[.val (.int y0), .val (.int y1), .val (.int y2), .val (.int y3), .val (.int y4), .val (.int (3 : Int32)), .val (.ref b935), .val (.ref b982), .val (.ref b1030), .val (.int (1 : Int32)), .val (.int (1 : Int32)), .unset] [(.ref b1195)]))
          refine g_astore (L' := #[.val (.int y0), .val (.int y1), .val (.int y2), .val (.int y3), .val (.int y4), .val (.int (3 : Int32)), .val (.ref b935), .val (.ref b982), .val (.ref b1030), .val (.int (1 : Int32)), .val (.int (1 : Int32)), .val (.ref b1195)]) X1195 hx hby at_202 rfl rfl (pc' := 204) rfl ?_
          refine g_aload X1195 hx hby at_204 rfl rfl (pc' := 206) rfl ?_
          refine g_callV (argsL := []) (S := []) (a := b1195) X1195 hx hby hZ (y := (⟨"java/lang/String", "length", "()I"⟩ : MethodName)) (y' := (⟨"java/lang/String", "length", "()I"⟩ : MethodName)) hown (hw _ (List.mem_of_getElem? (i := 86) rfl)) (hw _ (List.mem_of_getElem? (i := 37) rfl)) (notFace_of_selects (args := #[]) (mvT hZ (hw _ (List.mem_of_getElem? (i := 39) rfl)))) (hw _ (List.mem_of_getElem? (i := 39) rfl)) (hw _ (List.mem_of_getElem? (i := 38) rfl)) (hw _ (List.mem_of_getElem? (i := 8) rfl)) (hw _ (List.mem_of_getElem? (i := 40) rfl)) (by decide) LEr1195 (own_ln l Z a0 hw b1195 T1195.heap n0 1 (1 : Int32) (fun i => own_y ((own_cf k945 k954 k963 k972) (2 + i))) rfl ⟨w1195, LEr1195, LVr1195, LCr1195, LAr1195⟩ cs q1197 hcs ) (by rw [hml]; rfl) (lenOf own_pd12 rfl) rfl at_206 (by decide) (W := 0) (by exact Nat.le_of_eq rfl) (by decide) (by decide) (by decide) (pc' := 209) rfl (fun T1208 v1208 X1208 hQ1208 => ?_)
          obtain ⟨rfl, e1208⟩ := hQ1208
          rw [e1208] at X1208
          show Gl p e below n0 _ _ (T1208.setTop (mkF m 209 #[.val (.int y0), .val (.int y1), .val (.int y2), .val (.int y3), .val (.int y4), .val (.int (3 : Int32)), .val (.ref b935), .val (.ref b982), .val (.ref b1030), .val (.int (1 : Int32)), .val (.int (1 : Int32)), .val (.ref b1195)] [(.int (1 : Int32))]))
          refine g_iload X1208 hx hby at_209 rfl (pc' := 211) rfl ?_
          refine g_icmp_eq X1208 hx hby at_211 (by decide) (pc' := 216) (by decide) (pc2 := 214) rfl (fun c211_1209 => ?_) (fun q => absurd (by decide) q)
          refine g_iconst (v := 0) X1208 hx hby at_216 rfl (pc' := 217) rfl ?_
          refine g_iload X1208 hx hby at_217 rfl (pc' := 219) rfl ?_
          refine g_icmp_ge X1208 hx hby at_219 (by decide) (pc' := 240) (by decide) (pc2 := 222) rfl (fun q => absurd (by decide) q) (fun c219_1210 => ?_)
          refine g_aload X1208 hx hby at_222 rfl rfl (pc' := 224) rfl ?_
          refine g_iconst (v := 0) X1208 hx hby at_224 rfl (pc' := 225) rfl ?_
          refine g_callV (argsL := [(.int (0 : Int32))]) (S := []) (a := b1195) X1208 hx hby hZ (y := (⟨"java/lang/String", "charAt", "(I)C"⟩ : MethodName)) (y' := (⟨"java/lang/String", "charAt", "(I)C"⟩ : MethodName)) hown (hw _ (List.mem_of_getElem? (i := 119) rfl)) (hw _ (List.mem_of_getElem? (i := 120) rfl)) (notFace_of_selects (args := #[]) (mvT hZ (hw _ (List.mem_of_getElem? (i := 122) rfl)))) (hw _ (List.mem_of_getElem? (i := 122) rfl)) (hw _ (List.mem_of_getElem? (i := 121) rfl)) (hw _ (List.mem_of_getElem? (i := 8) rfl)) (hw _ (List.mem_of_getElem? (i := 123) rfl)) (by decide) LEr1195 (own_ca l Z a0 hw b1195 (0 : Int32) T1195.heap n0 1 (1 : Int32) (fun i => own_y ((own_cf k945 k954 k963 k972) (2 + i))) rfl ⟨w1195, LEr1195, LVr1195, LCr1195, LAr1195⟩ cs q1197 hcs 0 rfl (by decide) fm q1198 hfm) (by rw [hml]; rfl) (lenOf own_pd21 rfl) rfl at_225 (by decide) (W := 0) (by exact Nat.le_of_eq rfl) (by decide) (by decide) (by decide) (pc' := 228) rfl (fun T1211 v1211 X1211 hQ1211 => ?_)
          obtain ⟨rfl, e1211⟩ := hQ1211
          rw [e1211] at X1211
          show Gl p e below n0 _ _ (T1211.setTop (mkF m 228 #[.val (.int y0), .val (.int y1), .val (.int y2), .val (.int y3), .val (.int y4), .val (.int (3 : Int32)), .val (.ref b935), .val (.ref b982), .val (.ref b1030), .val (.int (1 : Int32)), .val (.int (1 : Int32)), .val (.ref b1195)] [(.int (((fun i => own_y ((own_cf k945 k954 k963 k972) (2 + i)))) 0 &&& (255 : Int32)))]))
          refine g_aload X1211 hx hby at_228 rfl rfl (pc' := 230) rfl ?_
          refine g_iload X1211 hx hby at_230 rfl (pc' := 232) rfl ?_
          refine g_iconst (v := 1) X1211 hx hby at_232 rfl (pc' := 233) rfl ?_
          refine g_iadd X1211 hx hby at_233 (pc' := 234) rfl ?_
          refine g_caload (i := 2) (v := (.int k963)) X1211 hx hby hZ q1199 (by decide) (by decide) rfl at_234 (pc' := 235) rfl ?_
          refine g_icmp_eq X1211 hx hby at_235 (by decide) (pc' := 240) (by decide) (pc2 := 238) rfl (fun c235_1212 => ?_) (fun q => absurd (show own_y k963 &&& 255 = k963 from own_chr_y rg963) q)
          refine g_iconst (v := 1) X1211 hx hby at_240 rfl (pc' := 241) rfl ?_
          refine g_iload X1211 hx hby at_241 rfl (pc' := 243) rfl ?_
          refine g_icmp_ge X1211 hx hby at_243 (by decide) (pc' := 264) (by decide) (pc2 := 246) rfl (fun c243_1213 => ?_) (fun q => absurd q (by decide))
          refine g_iconst (v := 2) X1211 hx hby at_264 rfl (pc' := 265) rfl ?_
          refine g_iload X1211 hx hby at_265 rfl (pc' := 267) rfl ?_
          refine g_icmp_ge X1211 hx hby at_267 (by decide) (pc' := 288) (by decide) (pc2 := 270) rfl (fun c267_1214 => ?_) (fun q => absurd q (by decide))
          refine g_iconst (v := 3) X1211 hx hby at_288 rfl (pc' := 289) rfl ?_
          refine g_iload X1211 hx hby at_289 rfl (pc' := 291) rfl ?_
          refine g_icmp_ge X1211 hx hby at_291 (by decide) (pc' := 312) (by decide) (pc2 := 294) rfl (fun c291_1215 => ?_) (fun q => absurd q (by decide))
          refine g_iconst (v := 1) X1211 hx hby at_312 rfl (pc' := 313) rfl ?_
          exact gw_retN X1211 hx hby hS hk1206 hret hlk (by simp) at_313 rfl (by decide) (by decide)
        · refine g_iconst (v := 2) X1048 hx hby at_167 rfl (pc' := 168) rfl ?_
          refine g_istore (L' := #[.val (.int y0), .val (.int y1), .val (.int y2), .val (.int y3), .val (.int y4), .val (.int (3 : Int32)), .val (.ref b935), .val (.ref b982), .val (.ref b1030), .val (.int (2 : Int32)), .unset, .unset]) X1048 hx hby at_168 rfl (pc' := 170) rfl ?_
          refine g_iload X1048 hx hby at_170 rfl (pc' := 172) rfl ?_
          refine g_iconst (v := 3) X1048 hx hby at_172 rfl (pc' := 173) rfl ?_
          refine g_icmp_le X1048 hx hby at_173 (by decide) (pc' := 188) (by decide) (pc2 := 176) rfl (fun c173_1216 => ?_) (fun q => absurd q (by decide))
          refine g_iload X1048 hx hby at_188 rfl (pc' := 190) rfl ?_
          refine g_iload X1048 hx hby at_190 rfl (pc' := 192) rfl ?_
          refine g_isub X1048 hx hby at_192 (pc' := 193) rfl ?_
          refine g_iconst (v := 1) X1048 hx hby at_193 rfl (pc' := 194) rfl ?_
          refine g_isub X1048 hx hby at_194 (pc' := 195) rfl ?_
          refine g_istore (L' := #[.val (.int y0), .val (.int y1), .val (.int y2), .val (.int y3), .val (.int y4), .val (.int (3 : Int32)), .val (.ref b935), .val (.ref b982), .val (.ref b1030), .val (.int (2 : Int32)), .val (.int (((3 : Int32) - (2 : Int32)) - (1 : Int32))), .unset]) X1048 hx hby at_195 rfl (pc' := 197) rfl ?_
          have em : (((3 : Int32) - (2 : Int32)) - (1 : Int32)) = (0 : Int32) := by decide
          rw [em]
          refine g_aload X1048 hx hby at_197 rfl rfl (pc' := 199) rfl ?_
          have hno1218 : ∀ j : Nat, ((2 : Int32)).toInt < (j : Int) → j < 3 → ¬ (fun i => own_y ((own_cf k945 k954 k963 k972) i)) j = 46 := by
            intro j h1 h2
            have e1 : ((2 : Int32)).toInt = 2 := rfl
            exfalso; omega
          refine gh_callS (argsL := [(.ref b1030)]) (S := []) X1048 hx hby hZ hS hk1060 (own_hEL hw) ch1053 own_nss (y := (⟨"com/example/hifadhi/hifadhi/mapping/QualifiedName", "unqualified", "(Ljava/lang/String;)Ljava/lang/String;"⟩ : MethodName)) hown (hw _ (List.mem_of_getElem? (i := 27) rfl)) (hw _ (List.mem_of_getElem? (i := 28) rfl)) (hw _ (List.mem_of_getElem? (i := 29) rfl)) (hw _ (List.mem_of_getElem? (i := 30) rfl)) (by decide) (own_uqC l Z a0 hw b1030 T1048.heap n0 3 (3 : Int32) (fun i => own_y ((own_cf k945 k954 k963 k972) i)) rfl ⟨w1048, LEn1048, LVn1048, LCn1048, LAn1048⟩ cs q1054 hcs fm q1055 hfm (2 : Int32) ⟨by decide, by decide⟩ (fun _ => show own_y k963 = 46 from (own_dot rg963).mpr c164_1193) hno1218 (by decide) (by decide) zz1059) (by rw [hml]; rfl) (lenOf own_pd23 rfl) rfl at_199 (by decide) (W := 0) (by exact Nat.le_of_eq rfl) (by decide) (by decide) (by decide) (pc' := 202) rfl (fun T1217 v1217 k1217 X1217 hS1217 hk1217 hZ1217 hown1217 hC1217 hD1217 hQ1217 => ?_)
          obtain ⟨b1217, rfl, ka1217, la1217⟩ := hQ1217
          have q1219 := own_sta_keep q1054 ka1217 all0
          have q1220 := own_sta_keep q1055 ka1217 all0
          have q1221 := q1056.keep ka1217 nin0
          have q1222 := q1057.keep ka1217 nin0
          have q1223 := LEn1048.keep ka1217
          have q1224 := LVn1048.keep ka1217 nin0
          have q1225 := LCn1048.keep ka1217 nin0
          have q1226 := LAn1048.keep ka1217 nin0
          have zz1227 := Nat.le_trans zz1059 ka1217.1
          have kk1228 : Keep h0 T1217.heap [] := kk1061.trans ka1217 all0
          have lb1217 : Lat Z T1217.heap b1217 0 (fun i => ([] : List Int32).getD i 0) := la1217
          obtain ⟨w1217, LEr1217, LVr1217, LCr1217, LAr1217⟩ := lb1217
          show Gl p e below n0 _ _ (T1217.setTop (mkF m 202 #[.val (.int y0), .val (.int y1), .val (.int y2), .val (.int y3), .val (.int y4), .val (.int (3 : Int32)), .val (.ref b935), .val (.ref b982), .val (.ref b1030), .val (.int (2 : Int32)), .val (.int (0 : Int32)), .unset] [(.ref b1217)]))
          refine g_astore (L' := #[.val (.int y0), .val (.int y1), .val (.int y2), .val (.int y3), .val (.int y4), .val (.int (3 : Int32)), .val (.ref b935), .val (.ref b982), .val (.ref b1030), .val (.int (2 : Int32)), .val (.int (0 : Int32)), .val (.ref b1217)]) X1217 hx hby at_202 rfl rfl (pc' := 204) rfl ?_
          refine g_aload X1217 hx hby at_204 rfl rfl (pc' := 206) rfl ?_
          refine g_callV (argsL := []) (S := []) (a := b1217) X1217 hx hby hZ1217 (y := (⟨"java/lang/String", "length", "()I"⟩ : MethodName)) (y' := (⟨"java/lang/String", "length", "()I"⟩ : MethodName)) hown1217 (hw _ (List.mem_of_getElem? (i := 86) rfl)) (hw _ (List.mem_of_getElem? (i := 37) rfl)) (notFace_of_selects (args := #[]) (mvT hZ1217 (hw _ (List.mem_of_getElem? (i := 39) rfl)))) (hw _ (List.mem_of_getElem? (i := 39) rfl)) (hw _ (List.mem_of_getElem? (i := 38) rfl)) (hw _ (List.mem_of_getElem? (i := 8) rfl)) (hw _ (List.mem_of_getElem? (i := 40) rfl)) (by decide) LEr1217 (own_ln l Z a0 hw b1217 T1217.heap n0 0 (0 : Int32) (fun i => ([] : List Int32).getD i 0) rfl ⟨w1217, LEr1217, LVr1217, LCr1217, LAr1217⟩ cs q1219 hcs ) (by rw [hml]; rfl) (lenOf own_pd12 rfl) rfl at_206 (by decide) (W := 0) (by exact Nat.le_of_eq rfl) (by decide) (by decide) (by decide) (pc' := 209) rfl (fun T1229 v1229 X1229 hQ1229 => ?_)
          obtain ⟨rfl, e1229⟩ := hQ1229
          rw [e1229] at X1229
          show Gl p e below n0 _ _ (T1229.setTop (mkF m 209 #[.val (.int y0), .val (.int y1), .val (.int y2), .val (.int y3), .val (.int y4), .val (.int (3 : Int32)), .val (.ref b935), .val (.ref b982), .val (.ref b1030), .val (.int (2 : Int32)), .val (.int (0 : Int32)), .val (.ref b1217)] [(.int (0 : Int32))]))
          refine g_iload X1229 hx hby at_209 rfl (pc' := 211) rfl ?_
          refine g_icmp_eq X1229 hx hby at_211 (by decide) (pc' := 216) (by decide) (pc2 := 214) rfl (fun c211_1230 => ?_) (fun q => absurd (by decide) q)
          refine g_iconst (v := 0) X1229 hx hby at_216 rfl (pc' := 217) rfl ?_
          refine g_iload X1229 hx hby at_217 rfl (pc' := 219) rfl ?_
          refine g_icmp_ge X1229 hx hby at_219 (by decide) (pc' := 240) (by decide) (pc2 := 222) rfl (fun c219_1231 => ?_) (fun q => absurd q (by decide))
          refine g_iconst (v := 1) X1229 hx hby at_240 rfl (pc' := 241) rfl ?_
          refine g_iload X1229 hx hby at_241 rfl (pc' := 243) rfl ?_
          refine g_icmp_ge X1229 hx hby at_243 (by decide) (pc' := 264) (by decide) (pc2 := 246) rfl (fun c243_1232 => ?_) (fun q => absurd q (by decide))
          refine g_iconst (v := 2) X1229 hx hby at_264 rfl (pc' := 265) rfl ?_
          refine g_iload X1229 hx hby at_265 rfl (pc' := 267) rfl ?_
          refine g_icmp_ge X1229 hx hby at_267 (by decide) (pc' := 288) (by decide) (pc2 := 270) rfl (fun c267_1233 => ?_) (fun q => absurd q (by decide))
          refine g_iconst (v := 3) X1229 hx hby at_288 rfl (pc' := 289) rfl ?_
          refine g_iload X1229 hx hby at_289 rfl (pc' := 291) rfl ?_
          refine g_icmp_ge X1229 hx hby at_291 (by decide) (pc' := 312) (by decide) (pc2 := 294) rfl (fun c291_1234 => ?_) (fun q => absurd q (by decide))
          refine g_iconst (v := 1) X1229 hx hby at_312 rfl (pc' := 313) rfl ?_
          exact gw_retN X1229 hx hby hS1217 hk1217 hret hlk (by simp) at_313 rfl (by decide) (by decide)
  · rw [q5]
    refine g_iconst (v := 4) X0 hx hby at_8 rfl (pc' := 9) rfl ?_
    refine g_newarray (k := 4) (cap := 4) X0 hx hby hZ (hw _ (List.mem_of_getElem? (i := 1) rfl)) at_9 rfl (by decide) (by decide) (by decide) (by decide) (pc' := 11) rfl (fun T1235 h1235 b1235 g1235 X1235 E1235 A1235 => ?_)
    have nn1236 : n0 ≤ b1235 := by rw [g1235]; exact Z0
    have hh1237 : h0.size ≤ b1235 := by rw [g1235]; exact (Keep.refl h0 []).1
    have sn1238 := Safe.ext E1235 hC0.1 (Safe.new (x := b1235) (Nat.le_of_eq g1235.symm))
    have ch1239 := hC0.trans (CHr.ext E1235 hC0.1)
    have hk1240 := Nat.le_trans (Nat.le_refl _) E1235.1
    have q1241 := Sc.ext E1235
    have q1242 := Sf.ext E1235
    have zz1243 := Nat.le_trans Z0 E1235.1
    have kk1244 : Keep h0 h1235 [] := (Keep.refl h0 []).ext E1235
    refine g_dup X1235 hx hby at_11 rfl (pc' := 12) rfl ?_
    refine g_iconst (v := 0) X1235 hx hby at_12 rfl (pc' := 13) rfl ?_
    refine g_iloadN X1235 hx hby at_13 rfl (pc' := 14) rfl ?_
    refine g_callS (argsL := [(.int y1)]) (S := [(.int (0 : Int32)), (.ref b1235), (.ref b1235)]) X1235 hx hby hZ (y := (⟨"com/example/hifadhi/hifadhi/mapping/QualifiedNameUnqualifiedPinLaw", "ch", "(I)C"⟩ : MethodName)) hown (hw _ (List.mem_of_getElem? (i := 2) rfl)) (hw _ (List.mem_of_getElem? (i := 3) rfl)) (hw _ (List.mem_of_getElem? (i := 4) rfl)) (hw _ (List.mem_of_getElem? (i := 5) rfl)) (by decide) (own_chc l Z a0 hw y1 h1235 n0) (by rw [hml]; rfl) (lenOf own_pd21 rfl) rfl at_14 (by decide) (W := 3) (by exact Nat.le_of_eq rfl) (by decide) (by decide) (by decide) (pc' := 17) rfl (fun T1245 v1245 X1245 hQ1245 => ?_)
    obtain ⟨k1245, rfl, rg1245, e1245⟩ := hQ1245
    rw [e1245] at X1245
    show Gl p e below n0 _ _ (T1245.setTop (mkF m 17 #[.val (.int y0), .val (.int y1), .val (.int y2), .val (.int y3), .val (.int y4), .val (.int (4 : Int32)), .unset, .unset, .unset, .unset, .unset, .unset] [(.int k1245), (.int (0 : Int32)), (.ref b1235), (.ref b1235)]))
    refine g_castore (i := 0) X1245 hx hby hZ A1235 rfl (by decide) nn1236 at_17 (pc' := 18) rfl (fun T1246 h1246 sl1246 X1246 W1246 A1246 => ?_)
    have sf1247 := Safe.wr W1246 sn1238 ch1239.1 sn1238
    have ch1248 := ch1239.trans (CHr.wr W1246 sn1238 ch1239.1)
    have q1249 := q1241.wr W1246
    have q1250 := q1242.wr W1246
    have zz1251 := Nat.le_trans zz1243 (Nat.le_of_eq W1246.size.symm)
    have hk1252 := Nat.le_trans hk1240 (Nat.le_of_eq W1246.size.symm)
    have kk1253 : Keep h0 h1246 [] := kk1244.wr W1246 (Or.inr hh1237)
    refine g_dup X1246 hx hby at_18 rfl (pc' := 19) rfl ?_
    refine g_iconst (v := 1) X1246 hx hby at_19 rfl (pc' := 20) rfl ?_
    refine g_iloadN X1246 hx hby at_20 rfl (pc' := 21) rfl ?_
    refine g_callS (argsL := [(.int y2)]) (S := [(.int (1 : Int32)), (.ref b1235), (.ref b1235)]) X1246 hx hby hZ (y := (⟨"com/example/hifadhi/hifadhi/mapping/QualifiedNameUnqualifiedPinLaw", "ch", "(I)C"⟩ : MethodName)) hown (hw _ (List.mem_of_getElem? (i := 2) rfl)) (hw _ (List.mem_of_getElem? (i := 3) rfl)) (hw _ (List.mem_of_getElem? (i := 4) rfl)) (hw _ (List.mem_of_getElem? (i := 5) rfl)) (by decide) (own_chc l Z a0 hw y2 h1246 n0) (by rw [hml]; rfl) (lenOf own_pd21 rfl) rfl at_21 (by decide) (W := 3) (by exact Nat.le_of_eq rfl) (by decide) (by decide) (by decide) (pc' := 24) rfl (fun T1254 v1254 X1254 hQ1254 => ?_)
    obtain ⟨k1254, rfl, rg1254, e1254⟩ := hQ1254
    rw [e1254] at X1254
    show Gl p e below n0 _ _ (T1254.setTop (mkF m 24 #[.val (.int y0), .val (.int y1), .val (.int y2), .val (.int y3), .val (.int y4), .val (.int (4 : Int32)), .unset, .unset, .unset, .unset, .unset, .unset] [(.int k1254), (.int (1 : Int32)), (.ref b1235), (.ref b1235)]))
    refine g_castore (i := 1) X1254 hx hby hZ A1246 rfl (by decide) nn1236 at_24 (pc' := 25) rfl (fun T1255 h1255 sl1255 X1255 W1255 A1255 => ?_)
    have sf1256 := Safe.wr W1255 sf1247 ch1248.1 sf1247
    have ch1257 := ch1248.trans (CHr.wr W1255 sf1247 ch1248.1)
    have q1258 := q1249.wr W1255
    have q1259 := q1250.wr W1255
    have zz1260 := Nat.le_trans zz1251 (Nat.le_of_eq W1255.size.symm)
    have hk1261 := Nat.le_trans hk1252 (Nat.le_of_eq W1255.size.symm)
    have kk1262 : Keep h0 h1255 [] := kk1253.wr W1255 (Or.inr hh1237)
    refine g_dup X1255 hx hby at_25 rfl (pc' := 26) rfl ?_
    refine g_iconst (v := 2) X1255 hx hby at_26 rfl (pc' := 27) rfl ?_
    refine g_iloadN X1255 hx hby at_27 rfl (pc' := 28) rfl ?_
    refine g_callS (argsL := [(.int y3)]) (S := [(.int (2 : Int32)), (.ref b1235), (.ref b1235)]) X1255 hx hby hZ (y := (⟨"com/example/hifadhi/hifadhi/mapping/QualifiedNameUnqualifiedPinLaw", "ch", "(I)C"⟩ : MethodName)) hown (hw _ (List.mem_of_getElem? (i := 2) rfl)) (hw _ (List.mem_of_getElem? (i := 3) rfl)) (hw _ (List.mem_of_getElem? (i := 4) rfl)) (hw _ (List.mem_of_getElem? (i := 5) rfl)) (by decide) (own_chc l Z a0 hw y3 h1255 n0) (by rw [hml]; rfl) (lenOf own_pd21 rfl) rfl at_28 (by decide) (W := 3) (by exact Nat.le_of_eq rfl) (by decide) (by decide) (by decide) (pc' := 31) rfl (fun T1263 v1263 X1263 hQ1263 => ?_)
    obtain ⟨k1263, rfl, rg1263, e1263⟩ := hQ1263
    rw [e1263] at X1263
    show Gl p e below n0 _ _ (T1263.setTop (mkF m 31 #[.val (.int y0), .val (.int y1), .val (.int y2), .val (.int y3), .val (.int y4), .val (.int (4 : Int32)), .unset, .unset, .unset, .unset, .unset, .unset] [(.int k1263), (.int (2 : Int32)), (.ref b1235), (.ref b1235)]))
    refine g_castore (i := 2) X1263 hx hby hZ A1255 rfl (by decide) nn1236 at_31 (pc' := 32) rfl (fun T1264 h1264 sl1264 X1264 W1264 A1264 => ?_)
    have sf1265 := Safe.wr W1264 sf1256 ch1257.1 sf1256
    have ch1266 := ch1257.trans (CHr.wr W1264 sf1256 ch1257.1)
    have q1267 := q1258.wr W1264
    have q1268 := q1259.wr W1264
    have zz1269 := Nat.le_trans zz1260 (Nat.le_of_eq W1264.size.symm)
    have hk1270 := Nat.le_trans hk1261 (Nat.le_of_eq W1264.size.symm)
    have kk1271 : Keep h0 h1264 [] := kk1262.wr W1264 (Or.inr hh1237)
    refine g_dup X1264 hx hby at_32 rfl (pc' := 33) rfl ?_
    refine g_iconst (v := 3) X1264 hx hby at_33 rfl (pc' := 34) rfl ?_
    refine g_iload X1264 hx hby at_34 rfl (pc' := 36) rfl ?_
    refine g_callS (argsL := [(.int y4)]) (S := [(.int (3 : Int32)), (.ref b1235), (.ref b1235)]) X1264 hx hby hZ (y := (⟨"com/example/hifadhi/hifadhi/mapping/QualifiedNameUnqualifiedPinLaw", "ch", "(I)C"⟩ : MethodName)) hown (hw _ (List.mem_of_getElem? (i := 2) rfl)) (hw _ (List.mem_of_getElem? (i := 3) rfl)) (hw _ (List.mem_of_getElem? (i := 4) rfl)) (hw _ (List.mem_of_getElem? (i := 5) rfl)) (by decide) (own_chc l Z a0 hw y4 h1264 n0) (by rw [hml]; rfl) (lenOf own_pd21 rfl) rfl at_36 (by decide) (W := 3) (by exact Nat.le_of_eq rfl) (by decide) (by decide) (by decide) (pc' := 39) rfl (fun T1272 v1272 X1272 hQ1272 => ?_)
    obtain ⟨k1272, rfl, rg1272, e1272⟩ := hQ1272
    rw [e1272] at X1272
    show Gl p e below n0 _ _ (T1272.setTop (mkF m 39 #[.val (.int y0), .val (.int y1), .val (.int y2), .val (.int y3), .val (.int y4), .val (.int (4 : Int32)), .unset, .unset, .unset, .unset, .unset, .unset] [(.int k1272), (.int (3 : Int32)), (.ref b1235), (.ref b1235)]))
    refine g_castore (i := 3) X1272 hx hby hZ A1264 rfl (by decide) nn1236 at_39 (pc' := 40) rfl (fun T1273 h1273 sl1273 X1273 W1273 A1273 => ?_)
    have sf1274 := Safe.wr W1273 sf1265 ch1266.1 sf1265
    have ch1275 := ch1266.trans (CHr.wr W1273 sf1265 ch1266.1)
    have q1276 := q1267.wr W1273
    have q1277 := q1268.wr W1273
    have zz1278 := Nat.le_trans zz1269 (Nat.le_of_eq W1273.size.symm)
    have hk1279 := Nat.le_trans hk1270 (Nat.le_of_eq W1273.size.symm)
    have kk1280 : Keep h0 h1273 [] := kk1271.wr W1273 (Or.inr hh1237)
    refine g_astore (L' := #[.val (.int y0), .val (.int y1), .val (.int y2), .val (.int y3), .val (.int y4), .val (.int (4 : Int32)), .val (.ref b1235), .unset, .unset, .unset, .unset, .unset]) X1273 hx hby at_40 rfl rfl (pc' := 42) rfl ?_
    have AG1281 : Ary Z h1273 b1235 .char 4 (fun i => .int ((own_cf k1245 k1254 k1263 k1272) i)) := by
      refine A1273.congr fun i hi => ?_
      have h8 : i = 0 ∨ i = 1 ∨ i = 2 ∨ i = 3 := by omega
      rcases h8 with rfl | rfl | rfl | rfl
      · exact congrArg Value.int (own_narC ⟨rg1245.1, Int.le_trans rg1245.2 (by decide)⟩)
      · exact congrArg Value.int (own_narC ⟨rg1254.1, Int.le_trans rg1254.2 (by decide)⟩)
      · exact congrArg Value.int (own_narC ⟨rg1263.1, Int.le_trans rg1263.2 (by decide)⟩)
      · exact congrArg Value.int (own_narC ⟨rg1272.1, Int.le_trans rg1272.2 (by decide)⟩)
    refine g_iload X1273 hx hby at_42 rfl (pc' := 44) rfl ?_
    refine g_newarray (k := 4) (cap := 4) X1273 hx hby hZ (hw _ (List.mem_of_getElem? (i := 1) rfl)) at_44 rfl (by decide) (by decide) (by decide) (by decide) (pc' := 46) rfl (fun T1282 h1282 b1282 g1282 X1282 E1282 A1282 => ?_)
    have ne1283 : b1235 ≠ b1282 := by rw [g1282]; exact Nat.ne_of_lt AG1281.lt
    have nn1284 : n0 ≤ b1282 := by rw [g1282]; exact zz1278
    have hh1285 : h0.size ≤ b1282 := by rw [g1282]; exact kk1280.1
    have sn1286 := Safe.ext E1282 ch1275.1 (Safe.new (x := b1282) (Nat.le_of_eq g1282.symm))
    have sf1287 := Safe.ext E1282 ch1275.1 sf1274
    have ch1288 := ch1275.trans (CHr.ext E1282 ch1275.1)
    have hk1289 := Nat.le_trans hk1279 E1282.1
    have q1290 := q1276.ext E1282
    have q1291 := q1277.ext E1282
    have q1292 := AG1281.ext E1282
    have zz1293 := Nat.le_trans zz1278 E1282.1
    have kk1294 : Keep h0 h1282 [] := kk1280.ext E1282
    refine g_astore (L' := #[.val (.int y0), .val (.int y1), .val (.int y2), .val (.int y3), .val (.int y4), .val (.int (4 : Int32)), .val (.ref b1235), .val (.ref b1282), .unset, .unset, .unset, .unset]) X1282 hx hby at_46 rfl rfl (pc' := 48) rfl ?_
    refine g_iload X1282 hx hby at_48 rfl (pc' := 50) rfl ?_
    refine g_if_le X1282 hx hby at_50 (by decide) (pc' := 61) (by decide) (pc2 := 53) rfl (fun q => absurd (by decide) q) (fun c50_1295 => ?_)
    refine g_aload X1282 hx hby at_53 rfl rfl (pc' := 55) rfl ?_
    refine g_iconst (v := 0) X1282 hx hby at_55 rfl (pc' := 56) rfl ?_
    refine g_aload X1282 hx hby at_56 rfl rfl (pc' := 58) rfl ?_
    refine g_iconst (v := 0) X1282 hx hby at_58 rfl (pc' := 59) rfl ?_
    refine g_caload (i := 0) (v := (.int k1245)) X1282 hx hby hZ q1292 (by decide) (by decide) rfl at_59 (pc' := 60) rfl ?_
    refine g_castore (i := 0) X1282 hx hby hZ A1282 rfl (by decide) nn1284 at_60 (pc' := 61) rfl (fun T1296 h1296 sl1296 X1296 W1296 A1296 => ?_)
    have sf1297 := Safe.wr W1296 sn1286 ch1288.1 sf1287
    have sf1298 := Safe.wr W1296 sn1286 ch1288.1 sn1286
    have ch1299 := ch1288.trans (CHr.wr W1296 sn1286 ch1288.1)
    have q1300 := q1290.wr W1296
    have q1301 := q1291.wr W1296
    have q1302 := q1292.other W1296 ne1283
    have zz1303 := Nat.le_trans zz1293 (Nat.le_of_eq W1296.size.symm)
    have hk1304 := Nat.le_trans hk1289 (Nat.le_of_eq W1296.size.symm)
    have kk1305 : Keep h0 h1296 [] := kk1294.wr W1296 (Or.inr hh1285)
    refine g_iload X1296 hx hby at_61 rfl (pc' := 63) rfl ?_
    refine g_iconst (v := 1) X1296 hx hby at_63 rfl (pc' := 64) rfl ?_
    refine g_icmp_le X1296 hx hby at_64 (by decide) (pc' := 75) (by decide) (pc2 := 67) rfl (fun q => absurd (by decide) q) (fun c64_1306 => ?_)
    refine g_aload X1296 hx hby at_67 rfl rfl (pc' := 69) rfl ?_
    refine g_iconst (v := 1) X1296 hx hby at_69 rfl (pc' := 70) rfl ?_
    refine g_aload X1296 hx hby at_70 rfl rfl (pc' := 72) rfl ?_
    refine g_iconst (v := 1) X1296 hx hby at_72 rfl (pc' := 73) rfl ?_
    refine g_caload (i := 1) (v := (.int k1254)) X1296 hx hby hZ q1302 (by decide) (by decide) rfl at_73 (pc' := 74) rfl ?_
    refine g_castore (i := 1) X1296 hx hby hZ A1296 rfl (by decide) nn1284 at_74 (pc' := 75) rfl (fun T1307 h1307 sl1307 X1307 W1307 A1307 => ?_)
    have sf1308 := Safe.wr W1307 sf1298 ch1299.1 sf1297
    have sf1309 := Safe.wr W1307 sf1298 ch1299.1 sf1298
    have ch1310 := ch1299.trans (CHr.wr W1307 sf1298 ch1299.1)
    have q1311 := q1300.wr W1307
    have q1312 := q1301.wr W1307
    have q1313 := q1302.other W1307 ne1283
    have zz1314 := Nat.le_trans zz1303 (Nat.le_of_eq W1307.size.symm)
    have hk1315 := Nat.le_trans hk1304 (Nat.le_of_eq W1307.size.symm)
    have kk1316 : Keep h0 h1307 [] := kk1305.wr W1307 (Or.inr hh1285)
    refine g_iload X1307 hx hby at_75 rfl (pc' := 77) rfl ?_
    refine g_iconst (v := 2) X1307 hx hby at_77 rfl (pc' := 78) rfl ?_
    refine g_icmp_le X1307 hx hby at_78 (by decide) (pc' := 89) (by decide) (pc2 := 81) rfl (fun q => absurd (by decide) q) (fun c78_1317 => ?_)
    refine g_aload X1307 hx hby at_81 rfl rfl (pc' := 83) rfl ?_
    refine g_iconst (v := 2) X1307 hx hby at_83 rfl (pc' := 84) rfl ?_
    refine g_aload X1307 hx hby at_84 rfl rfl (pc' := 86) rfl ?_
    refine g_iconst (v := 2) X1307 hx hby at_86 rfl (pc' := 87) rfl ?_
    refine g_caload (i := 2) (v := (.int k1263)) X1307 hx hby hZ q1313 (by decide) (by decide) rfl at_87 (pc' := 88) rfl ?_
    refine g_castore (i := 2) X1307 hx hby hZ A1307 rfl (by decide) nn1284 at_88 (pc' := 89) rfl (fun T1318 h1318 sl1318 X1318 W1318 A1318 => ?_)
    have sf1319 := Safe.wr W1318 sf1309 ch1310.1 sf1308
    have sf1320 := Safe.wr W1318 sf1309 ch1310.1 sf1309
    have ch1321 := ch1310.trans (CHr.wr W1318 sf1309 ch1310.1)
    have q1322 := q1311.wr W1318
    have q1323 := q1312.wr W1318
    have q1324 := q1313.other W1318 ne1283
    have zz1325 := Nat.le_trans zz1314 (Nat.le_of_eq W1318.size.symm)
    have hk1326 := Nat.le_trans hk1315 (Nat.le_of_eq W1318.size.symm)
    have kk1327 : Keep h0 h1318 [] := kk1316.wr W1318 (Or.inr hh1285)
    refine g_iload X1318 hx hby at_89 rfl (pc' := 91) rfl ?_
    refine g_iconst (v := 3) X1318 hx hby at_91 rfl (pc' := 92) rfl ?_
    refine g_icmp_le X1318 hx hby at_92 (by decide) (pc' := 103) (by decide) (pc2 := 95) rfl (fun q => absurd (by decide) q) (fun c92_1328 => ?_)
    refine g_aload X1318 hx hby at_95 rfl rfl (pc' := 97) rfl ?_
    refine g_iconst (v := 3) X1318 hx hby at_97 rfl (pc' := 98) rfl ?_
    refine g_aload X1318 hx hby at_98 rfl rfl (pc' := 100) rfl ?_
    refine g_iconst (v := 3) X1318 hx hby at_100 rfl (pc' := 101) rfl ?_
    refine g_caload (i := 3) (v := (.int k1272)) X1318 hx hby hZ q1324 (by decide) (by decide) rfl at_101 (pc' := 102) rfl ?_
    refine g_castore (i := 3) X1318 hx hby hZ A1318 rfl (by decide) nn1284 at_102 (pc' := 103) rfl (fun T1329 h1329 sl1329 X1329 W1329 A1329 => ?_)
    have sf1330 := Safe.wr W1329 sf1320 ch1321.1 sf1319
    have sf1331 := Safe.wr W1329 sf1320 ch1321.1 sf1320
    have ch1332 := ch1321.trans (CHr.wr W1329 sf1320 ch1321.1)
    have q1333 := q1322.wr W1329
    have q1334 := q1323.wr W1329
    have q1335 := q1324.other W1329 ne1283
    have zz1336 := Nat.le_trans zz1325 (Nat.le_of_eq W1329.size.symm)
    have hk1337 := Nat.le_trans hk1326 (Nat.le_of_eq W1329.size.symm)
    have kk1338 : Keep h0 h1329 [] := kk1327.wr W1329 (Or.inr hh1285)
    have AG1339 : Ary Z h1329 b1282 .char 4 (fun i => .int ((own_cf k1245 k1254 k1263 k1272) i)) := by
      refine A1329.congr fun i hi => ?_
      have h8 : i = 0 ∨ i = 1 ∨ i = 2 ∨ i = 3 := by omega
      rcases h8 with rfl | rfl | rfl | rfl
      · exact congrArg Value.int (own_narC ⟨rg1245.1, Int.le_trans rg1245.2 (by decide)⟩)
      · exact congrArg Value.int (own_narC ⟨rg1254.1, Int.le_trans rg1254.2 (by decide)⟩)
      · exact congrArg Value.int (own_narC ⟨rg1263.1, Int.le_trans rg1263.2 (by decide)⟩)
      · exact congrArg Value.int (own_narC ⟨rg1272.1, Int.le_trans rg1272.2 (by decide)⟩)
    refine g_new X1329 hx hby hZ hown (hw _ (List.mem_of_getElem? (i := 6) rfl)) (hw _ (List.mem_of_getElem? (i := 7) rfl)) (hw _ (List.mem_of_getElem? (i := 8) rfl)) at_103 (by decide) (by decide) (pc' := 106) rfl (fun T1340 h1340 b1340 g1340 X1340 E1340 A1340 D1340 => ?_)
    have ne1341 : b1235 ≠ b1340 := by rw [g1340]; exact Nat.ne_of_lt q1335.lt
    have ne1342 : b1282 ≠ b1340 := by rw [g1340]; exact Nat.ne_of_lt AG1339.lt
    have nn1343 : n0 ≤ b1340 := by rw [g1340]; exact zz1336
    have hh1344 : h0.size ≤ b1340 := by rw [g1340]; exact kk1338.1
    have sn1345 := Safe.ext E1340 ch1332.1 (Safe.new (x := b1340) (Nat.le_of_eq g1340.symm))
    have sf1346 := Safe.ext E1340 ch1332.1 sf1330
    have sf1347 := Safe.ext E1340 ch1332.1 sf1331
    have ch1348 := ch1332.trans (CHr.ext E1340 ch1332.1)
    have hk1349 := Nat.le_trans hk1337 E1340.1
    have q1350 := q1333.ext E1340
    have q1351 := q1334.ext E1340
    have q1352 := q1335.ext E1340
    have q1353 := AG1339.ext E1340
    have zz1354 := Nat.le_trans zz1336 E1340.1
    have kk1355 : Keep h0 h1340 [] := kk1338.ext E1340
    have q1356 : Fld Z h1340 b1340 "java/lang/String" "value" "[B" .null := D1340 (Or.inr (hw _ (List.mem_of_getElem? (i := 21) rfl))) (ty := (.array .byte)) (by decide)
    have q1357 : Fld Z h1340 b1340 "java/lang/String" "coder" "B" (.int (0 : Int32)) := D1340 (Or.inr (hw _ (List.mem_of_getElem? (i := 22) rfl))) (ty := .byte) (by decide)
    refine g_dup X1340 hx hby at_106 rfl (pc' := 107) rfl ?_
    refine g_aload X1340 hx hby at_107 rfl rfl (pc' := 109) rfl ?_
    refine g_callC (argsL := [(.ref b1282)]) (S := [(.ref b1340)]) (a := b1340) X1340 hx hby hZ (y := (⟨"java/lang/String", "<init>", "([C)V"⟩ : MethodName)) rfl hown (hw _ (List.mem_of_getElem? (i := 9) rfl)) (hw _ (List.mem_of_getElem? (i := 10) rfl)) (hw _ (List.mem_of_getElem? (i := 8) rfl)) (hw _ (List.mem_of_getElem? (i := 11) rfl)) (by decide) (own_n1_4 l Z a0 hw b1340 b1282 h1340 n0 zz1354 (own_cf k1245 k1254 k1263 k1272) (fun i _ => own_cfr rg1245 rg1254 rg1263 rg1272 i) q1353 A1340 q1356 q1357 nn1343 cs q1350 hcs) (by rw [hml]; rfl) (lenOf own_pd22 rfl) rfl at_109 (by decide) (W := 1) (by exact Nat.le_of_eq rfl) (by decide) (by decide) (by decide) (pc' := 112) rfl (fun T1358 v1358 X1358 hQ1358 => ?_)
    obtain ⟨rfl, ka1358, la1358⟩ := hQ1358
    have sa1359 : ∀ x ∈ [b1340], Safe Z own_EL _ _ x := (allS sn1345 all0)
    have sf1360 := Safe.keep ka1358 sa1359 ch1348.1 sf1346
    have sf1361 := Safe.keep ka1358 sa1359 ch1348.1 sf1347
    have sf1362 := Safe.keep ka1358 sa1359 ch1348.1 sn1345
    have ch1363 := ch1348.trans (CHr.keep ka1358 sa1359 ch1348.1)
    have q1364 := own_sta_keep q1350 ka1358 (allS (own_plain A1340) all0)
    have q1365 := own_sta_keep q1351 ka1358 (allS (own_plain A1340) all0)
    have q1366 := q1352.keep ka1358 (ninS ne1341 nin0)
    have q1367 := q1353.keep ka1358 (ninS ne1342 nin0)
    have q1368 := A1340.keep ka1358
    have zz1369 := Nat.le_trans zz1354 ka1358.1
    have hk1370 := Nat.le_trans hk1349 ka1358.1
    have kk1371 : Keep h0 T1358.heap [] := kk1355.trans ka1358 (allS (Or.inr hh1344) all0)
    obtain ⟨w1358, LEn1358, LVn1358, LCn1358, LAn1358⟩ := la1358
    show Gl p e below n0 _ _ (T1358.setTop (mkF m 112 #[.val (.int y0), .val (.int y1), .val (.int y2), .val (.int y3), .val (.int y4), .val (.int (4 : Int32)), .val (.ref b1235), .val (.ref b1282), .unset, .unset, .unset, .unset] [(.ref b1340)]))
    refine g_astore (L' := #[.val (.int y0), .val (.int y1), .val (.int y2), .val (.int y3), .val (.int y4), .val (.int (4 : Int32)), .val (.ref b1235), .val (.ref b1282), .val (.ref b1340), .unset, .unset, .unset]) X1358 hx hby at_112 rfl rfl (pc' := 114) rfl ?_
    refine g_iconst (v := (-1)) X1358 hx hby at_114 rfl (pc' := 115) rfl ?_
    refine g_istore (L' := #[.val (.int y0), .val (.int y1), .val (.int y2), .val (.int y3), .val (.int y4), .val (.int (4 : Int32)), .val (.ref b1235), .val (.ref b1282), .val (.ref b1340), .val (.int (-1 : Int32)), .unset, .unset]) X1358 hx hby at_115 rfl (pc' := 117) rfl ?_
    refine g_iload X1358 hx hby at_117 rfl (pc' := 119) rfl ?_
    refine g_if_le X1358 hx hby at_119 (by decide) (pc' := 134) (by decide) (pc2 := 122) rfl (fun q => absurd (by decide) q) (fun c119_1372 => ?_)
    refine g_aload X1358 hx hby at_122 rfl rfl (pc' := 124) rfl ?_
    refine g_iconst (v := 0) X1358 hx hby at_124 rfl (pc' := 125) rfl ?_
    refine g_caload (i := 0) (v := (.int k1245)) X1358 hx hby hZ q1366 (by decide) (by decide) rfl at_125 (pc' := 126) rfl ?_
    refine g_bipush (v := 46) X1358 hx hby at_126 rfl (pc' := 128) rfl ?_
    refine g_icmp_ne X1358 hx hby at_128 (by decide) (pc' := 134) (by decide) (pc2 := 131) rfl (fun c128_1373 => ?_) (fun c128_1373 => ?_)
    · refine g_iload X1358 hx hby at_134 rfl (pc' := 136) rfl ?_
      refine g_iconst (v := 1) X1358 hx hby at_136 rfl (pc' := 137) rfl ?_
      refine g_icmp_le X1358 hx hby at_137 (by decide) (pc' := 152) (by decide) (pc2 := 140) rfl (fun q => absurd (by decide) q) (fun c137_1374 => ?_)
      refine g_aload X1358 hx hby at_140 rfl rfl (pc' := 142) rfl ?_
      refine g_iconst (v := 1) X1358 hx hby at_142 rfl (pc' := 143) rfl ?_
      refine g_caload (i := 1) (v := (.int k1254)) X1358 hx hby hZ q1366 (by decide) (by decide) rfl at_143 (pc' := 144) rfl ?_
      refine g_bipush (v := 46) X1358 hx hby at_144 rfl (pc' := 146) rfl ?_
      refine g_icmp_ne X1358 hx hby at_146 (by decide) (pc' := 152) (by decide) (pc2 := 149) rfl (fun c146_1375 => ?_) (fun c146_1375 => ?_)
      · refine g_iload X1358 hx hby at_152 rfl (pc' := 154) rfl ?_
        refine g_iconst (v := 2) X1358 hx hby at_154 rfl (pc' := 155) rfl ?_
        refine g_icmp_le X1358 hx hby at_155 (by decide) (pc' := 170) (by decide) (pc2 := 158) rfl (fun q => absurd (by decide) q) (fun c155_1376 => ?_)
        refine g_aload X1358 hx hby at_158 rfl rfl (pc' := 160) rfl ?_
        refine g_iconst (v := 2) X1358 hx hby at_160 rfl (pc' := 161) rfl ?_
        refine g_caload (i := 2) (v := (.int k1263)) X1358 hx hby hZ q1366 (by decide) (by decide) rfl at_161 (pc' := 162) rfl ?_
        refine g_bipush (v := 46) X1358 hx hby at_162 rfl (pc' := 164) rfl ?_
        refine g_icmp_ne X1358 hx hby at_164 (by decide) (pc' := 170) (by decide) (pc2 := 167) rfl (fun c164_1377 => ?_) (fun c164_1377 => ?_)
        · refine g_iload X1358 hx hby at_170 rfl (pc' := 172) rfl ?_
          refine g_iconst (v := 3) X1358 hx hby at_172 rfl (pc' := 173) rfl ?_
          refine g_icmp_le X1358 hx hby at_173 (by decide) (pc' := 188) (by decide) (pc2 := 176) rfl (fun q => absurd (by decide) q) (fun c173_1378 => ?_)
          refine g_aload X1358 hx hby at_176 rfl rfl (pc' := 178) rfl ?_
          refine g_iconst (v := 3) X1358 hx hby at_178 rfl (pc' := 179) rfl ?_
          refine g_caload (i := 3) (v := (.int k1272)) X1358 hx hby hZ q1366 (by decide) (by decide) rfl at_179 (pc' := 180) rfl ?_
          refine g_bipush (v := 46) X1358 hx hby at_180 rfl (pc' := 182) rfl ?_
          refine g_icmp_ne X1358 hx hby at_182 (by decide) (pc' := 188) (by decide) (pc2 := 185) rfl (fun c182_1379 => ?_) (fun c182_1379 => ?_)
          · refine g_iload X1358 hx hby at_188 rfl (pc' := 190) rfl ?_
            refine g_iload X1358 hx hby at_190 rfl (pc' := 192) rfl ?_
            refine g_isub X1358 hx hby at_192 (pc' := 193) rfl ?_
            refine g_iconst (v := 1) X1358 hx hby at_193 rfl (pc' := 194) rfl ?_
            refine g_isub X1358 hx hby at_194 (pc' := 195) rfl ?_
            refine g_istore (L' := #[.val (.int y0), .val (.int y1), .val (.int y2), .val (.int y3), .val (.int y4), .val (.int (4 : Int32)), .val (.ref b1235), .val (.ref b1282), .val (.ref b1340), .val (.int (-1 : Int32)), .val (.int (((4 : Int32) - (-1 : Int32)) - (1 : Int32))), .unset]) X1358 hx hby at_195 rfl (pc' := 197) rfl ?_
            have em : (((4 : Int32) - (-1 : Int32)) - (1 : Int32)) = (4 : Int32) := by decide
            rw [em]
            refine g_aload X1358 hx hby at_197 rfl rfl (pc' := 199) rfl ?_
            have hno1381 : ∀ j : Nat, ((-1 : Int32)).toInt < (j : Int) → j < 4 → ¬ (fun i => own_y ((own_cf k1245 k1254 k1263 k1272) i)) j = 46 := by
              intro j h1 h2
              have e1 : ((-1 : Int32)).toInt = -1 := rfl
              have h8 : j = 0 ∨ j = 1 ∨ j = 2 ∨ j = 3 := by omega
              rcases h8 with rfl | rfl | rfl | rfl
              · exact fun q => c128_1373 ((own_dot rg1245).mp q)
              · exact fun q => c146_1375 ((own_dot rg1254).mp q)
              · exact fun q => c164_1377 ((own_dot rg1263).mp q)
              · exact fun q => c182_1379 ((own_dot rg1272).mp q)
            refine g_callS (argsL := [(.ref b1340)]) (S := []) X1358 hx hby hZ (y := (⟨"com/example/hifadhi/hifadhi/mapping/QualifiedName", "unqualified", "(Ljava/lang/String;)Ljava/lang/String;"⟩ : MethodName)) hown (hw _ (List.mem_of_getElem? (i := 27) rfl)) (hw _ (List.mem_of_getElem? (i := 28) rfl)) (hw _ (List.mem_of_getElem? (i := 29) rfl)) (hw _ (List.mem_of_getElem? (i := 30) rfl)) (by decide) (own_uqA l Z a0 hw b1340 T1358.heap n0 4 (4 : Int32) (fun i => own_y ((own_cf k1245 k1254 k1263 k1272) i)) rfl ⟨w1358, LEn1358, LVn1358, LCn1358, LAn1358⟩ cs q1364 hcs fm q1365 hfm (-1 : Int32) ⟨by decide, by decide⟩ (fun q => absurd q (by decide)) hno1381 rfl) (by rw [hml]; rfl) (lenOf own_pd23 rfl) rfl at_199 (by decide) (W := 0) (by exact Nat.le_of_eq rfl) (by decide) (by decide) (by decide) (pc' := 202) rfl (fun T1380 v1380 X1380 hQ1380 => ?_)
            obtain ⟨rfl, e1380⟩ := hQ1380
            rw [e1380] at X1380
            show Gl p e below n0 _ _ (T1380.setTop (mkF m 202 #[.val (.int y0), .val (.int y1), .val (.int y2), .val (.int y3), .val (.int y4), .val (.int (4 : Int32)), .val (.ref b1235), .val (.ref b1282), .val (.ref b1340), .val (.int (-1 : Int32)), .val (.int (4 : Int32)), .unset] [(.ref b1340)]))
            refine g_astore (L' := #[.val (.int y0), .val (.int y1), .val (.int y2), .val (.int y3), .val (.int y4), .val (.int (4 : Int32)), .val (.ref b1235), .val (.ref b1282), .val (.ref b1340), .val (.int (-1 : Int32)), .val (.int (4 : Int32)), .val (.ref b1340)]) X1380 hx hby at_202 rfl rfl (pc' := 204) rfl ?_
            refine g_aload X1380 hx hby at_204 rfl rfl (pc' := 206) rfl ?_
            refine g_callV (argsL := []) (S := []) (a := b1340) X1380 hx hby hZ (y := (⟨"java/lang/String", "length", "()I"⟩ : MethodName)) (y' := (⟨"java/lang/String", "length", "()I"⟩ : MethodName)) hown (hw _ (List.mem_of_getElem? (i := 86) rfl)) (hw _ (List.mem_of_getElem? (i := 37) rfl)) (notFace_of_selects (args := #[]) (mvT hZ (hw _ (List.mem_of_getElem? (i := 39) rfl)))) (hw _ (List.mem_of_getElem? (i := 39) rfl)) (hw _ (List.mem_of_getElem? (i := 38) rfl)) (hw _ (List.mem_of_getElem? (i := 8) rfl)) (hw _ (List.mem_of_getElem? (i := 40) rfl)) (by decide) LEn1358 (own_ln l Z a0 hw b1340 T1358.heap n0 4 (4 : Int32) (fun i => own_y ((own_cf k1245 k1254 k1263 k1272) i)) rfl ⟨w1358, LEn1358, LVn1358, LCn1358, LAn1358⟩ cs q1364 hcs ) (by rw [hml]; rfl) (lenOf own_pd12 rfl) rfl at_206 (by decide) (W := 0) (by exact Nat.le_of_eq rfl) (by decide) (by decide) (by decide) (pc' := 209) rfl (fun T1382 v1382 X1382 hQ1382 => ?_)
            obtain ⟨rfl, e1382⟩ := hQ1382
            rw [e1382] at X1382
            show Gl p e below n0 _ _ (T1382.setTop (mkF m 209 #[.val (.int y0), .val (.int y1), .val (.int y2), .val (.int y3), .val (.int y4), .val (.int (4 : Int32)), .val (.ref b1235), .val (.ref b1282), .val (.ref b1340), .val (.int (-1 : Int32)), .val (.int (4 : Int32)), .val (.ref b1340)] [(.int (4 : Int32))]))
            refine g_iload X1382 hx hby at_209 rfl (pc' := 211) rfl ?_
            refine g_icmp_eq X1382 hx hby at_211 (by decide) (pc' := 216) (by decide) (pc2 := 214) rfl (fun c211_1383 => ?_) (fun q => absurd (by decide) q)
            refine g_iconst (v := 0) X1382 hx hby at_216 rfl (pc' := 217) rfl ?_
            refine g_iload X1382 hx hby at_217 rfl (pc' := 219) rfl ?_
            refine g_icmp_ge X1382 hx hby at_219 (by decide) (pc' := 240) (by decide) (pc2 := 222) rfl (fun q => absurd (by decide) q) (fun c219_1384 => ?_)
            refine g_aload X1382 hx hby at_222 rfl rfl (pc' := 224) rfl ?_
            refine g_iconst (v := 0) X1382 hx hby at_224 rfl (pc' := 225) rfl ?_
            refine g_callV (argsL := [(.int (0 : Int32))]) (S := []) (a := b1340) X1382 hx hby hZ (y := (⟨"java/lang/String", "charAt", "(I)C"⟩ : MethodName)) (y' := (⟨"java/lang/String", "charAt", "(I)C"⟩ : MethodName)) hown (hw _ (List.mem_of_getElem? (i := 119) rfl)) (hw _ (List.mem_of_getElem? (i := 120) rfl)) (notFace_of_selects (args := #[]) (mvT hZ (hw _ (List.mem_of_getElem? (i := 122) rfl)))) (hw _ (List.mem_of_getElem? (i := 122) rfl)) (hw _ (List.mem_of_getElem? (i := 121) rfl)) (hw _ (List.mem_of_getElem? (i := 8) rfl)) (hw _ (List.mem_of_getElem? (i := 123) rfl)) (by decide) LEn1358 (own_ca l Z a0 hw b1340 (0 : Int32) T1358.heap n0 4 (4 : Int32) (fun i => own_y ((own_cf k1245 k1254 k1263 k1272) i)) rfl ⟨w1358, LEn1358, LVn1358, LCn1358, LAn1358⟩ cs q1364 hcs 0 rfl (by decide) fm q1365 hfm) (by rw [hml]; rfl) (lenOf own_pd21 rfl) rfl at_225 (by decide) (W := 0) (by exact Nat.le_of_eq rfl) (by decide) (by decide) (by decide) (pc' := 228) rfl (fun T1385 v1385 X1385 hQ1385 => ?_)
            obtain ⟨rfl, e1385⟩ := hQ1385
            rw [e1385] at X1385
            show Gl p e below n0 _ _ (T1385.setTop (mkF m 228 #[.val (.int y0), .val (.int y1), .val (.int y2), .val (.int y3), .val (.int y4), .val (.int (4 : Int32)), .val (.ref b1235), .val (.ref b1282), .val (.ref b1340), .val (.int (-1 : Int32)), .val (.int (4 : Int32)), .val (.ref b1340)] [(.int (((fun i => own_y ((own_cf k1245 k1254 k1263 k1272) i))) 0 &&& (255 : Int32)))]))
            refine g_aload X1385 hx hby at_228 rfl rfl (pc' := 230) rfl ?_
            refine g_iload X1385 hx hby at_230 rfl (pc' := 232) rfl ?_
            refine g_iconst (v := 1) X1385 hx hby at_232 rfl (pc' := 233) rfl ?_
            refine g_iadd X1385 hx hby at_233 (pc' := 234) rfl ?_
            refine g_caload (i := 0) (v := (.int k1245)) X1385 hx hby hZ q1366 (by decide) (by decide) rfl at_234 (pc' := 235) rfl ?_
            refine g_icmp_eq X1385 hx hby at_235 (by decide) (pc' := 240) (by decide) (pc2 := 238) rfl (fun c235_1386 => ?_) (fun q => absurd (show own_y k1245 &&& 255 = k1245 from own_chr_y rg1245) q)
            refine g_iconst (v := 1) X1385 hx hby at_240 rfl (pc' := 241) rfl ?_
            refine g_iload X1385 hx hby at_241 rfl (pc' := 243) rfl ?_
            refine g_icmp_ge X1385 hx hby at_243 (by decide) (pc' := 264) (by decide) (pc2 := 246) rfl (fun q => absurd (by decide) q) (fun c243_1387 => ?_)
            refine g_aload X1385 hx hby at_246 rfl rfl (pc' := 248) rfl ?_
            refine g_iconst (v := 1) X1385 hx hby at_248 rfl (pc' := 249) rfl ?_
            refine g_callV (argsL := [(.int (1 : Int32))]) (S := []) (a := b1340) X1385 hx hby hZ (y := (⟨"java/lang/String", "charAt", "(I)C"⟩ : MethodName)) (y' := (⟨"java/lang/String", "charAt", "(I)C"⟩ : MethodName)) hown (hw _ (List.mem_of_getElem? (i := 119) rfl)) (hw _ (List.mem_of_getElem? (i := 120) rfl)) (notFace_of_selects (args := #[]) (mvT hZ (hw _ (List.mem_of_getElem? (i := 122) rfl)))) (hw _ (List.mem_of_getElem? (i := 122) rfl)) (hw _ (List.mem_of_getElem? (i := 121) rfl)) (hw _ (List.mem_of_getElem? (i := 8) rfl)) (hw _ (List.mem_of_getElem? (i := 123) rfl)) (by decide) LEn1358 (own_ca l Z a0 hw b1340 (1 : Int32) T1358.heap n0 4 (4 : Int32) (fun i => own_y ((own_cf k1245 k1254 k1263 k1272) i)) rfl ⟨w1358, LEn1358, LVn1358, LCn1358, LAn1358⟩ cs q1364 hcs 1 rfl (by decide) fm q1365 hfm) (by rw [hml]; rfl) (lenOf own_pd21 rfl) rfl at_249 (by decide) (W := 0) (by exact Nat.le_of_eq rfl) (by decide) (by decide) (by decide) (pc' := 252) rfl (fun T1388 v1388 X1388 hQ1388 => ?_)
            obtain ⟨rfl, e1388⟩ := hQ1388
            rw [e1388] at X1388
            show Gl p e below n0 _ _ (T1388.setTop (mkF m 252 #[.val (.int y0), .val (.int y1), .val (.int y2), .val (.int y3), .val (.int y4), .val (.int (4 : Int32)), .val (.ref b1235), .val (.ref b1282), .val (.ref b1340), .val (.int (-1 : Int32)), .val (.int (4 : Int32)), .val (.ref b1340)] [(.int (((fun i => own_y ((own_cf k1245 k1254 k1263 k1272) i))) 1 &&& (255 : Int32)))]))
            refine g_aload X1388 hx hby at_252 rfl rfl (pc' := 254) rfl ?_
            refine g_iload X1388 hx hby at_254 rfl (pc' := 256) rfl ?_
            refine g_iconst (v := 2) X1388 hx hby at_256 rfl (pc' := 257) rfl ?_
            refine g_iadd X1388 hx hby at_257 (pc' := 258) rfl ?_
            refine g_caload (i := 1) (v := (.int k1254)) X1388 hx hby hZ q1366 (by decide) (by decide) rfl at_258 (pc' := 259) rfl ?_
            refine g_icmp_eq X1388 hx hby at_259 (by decide) (pc' := 264) (by decide) (pc2 := 262) rfl (fun c259_1389 => ?_) (fun q => absurd (show own_y k1254 &&& 255 = k1254 from own_chr_y rg1254) q)
            refine g_iconst (v := 2) X1388 hx hby at_264 rfl (pc' := 265) rfl ?_
            refine g_iload X1388 hx hby at_265 rfl (pc' := 267) rfl ?_
            refine g_icmp_ge X1388 hx hby at_267 (by decide) (pc' := 288) (by decide) (pc2 := 270) rfl (fun q => absurd (by decide) q) (fun c267_1390 => ?_)
            refine g_aload X1388 hx hby at_270 rfl rfl (pc' := 272) rfl ?_
            refine g_iconst (v := 2) X1388 hx hby at_272 rfl (pc' := 273) rfl ?_
            refine g_callV (argsL := [(.int (2 : Int32))]) (S := []) (a := b1340) X1388 hx hby hZ (y := (⟨"java/lang/String", "charAt", "(I)C"⟩ : MethodName)) (y' := (⟨"java/lang/String", "charAt", "(I)C"⟩ : MethodName)) hown (hw _ (List.mem_of_getElem? (i := 119) rfl)) (hw _ (List.mem_of_getElem? (i := 120) rfl)) (notFace_of_selects (args := #[]) (mvT hZ (hw _ (List.mem_of_getElem? (i := 122) rfl)))) (hw _ (List.mem_of_getElem? (i := 122) rfl)) (hw _ (List.mem_of_getElem? (i := 121) rfl)) (hw _ (List.mem_of_getElem? (i := 8) rfl)) (hw _ (List.mem_of_getElem? (i := 123) rfl)) (by decide) LEn1358 (own_ca l Z a0 hw b1340 (2 : Int32) T1358.heap n0 4 (4 : Int32) (fun i => own_y ((own_cf k1245 k1254 k1263 k1272) i)) rfl ⟨w1358, LEn1358, LVn1358, LCn1358, LAn1358⟩ cs q1364 hcs 2 rfl (by decide) fm q1365 hfm) (by rw [hml]; rfl) (lenOf own_pd21 rfl) rfl at_273 (by decide) (W := 0) (by exact Nat.le_of_eq rfl) (by decide) (by decide) (by decide) (pc' := 276) rfl (fun T1391 v1391 X1391 hQ1391 => ?_)
            obtain ⟨rfl, e1391⟩ := hQ1391
            rw [e1391] at X1391
            show Gl p e below n0 _ _ (T1391.setTop (mkF m 276 #[.val (.int y0), .val (.int y1), .val (.int y2), .val (.int y3), .val (.int y4), .val (.int (4 : Int32)), .val (.ref b1235), .val (.ref b1282), .val (.ref b1340), .val (.int (-1 : Int32)), .val (.int (4 : Int32)), .val (.ref b1340)] [(.int (((fun i => own_y ((own_cf k1245 k1254 k1263 k1272) i))) 2 &&& (255 : Int32)))]))
            refine g_aload X1391 hx hby at_276 rfl rfl (pc' := 278) rfl ?_
            refine g_iload X1391 hx hby at_278 rfl (pc' := 280) rfl ?_
            refine g_iconst (v := 3) X1391 hx hby at_280 rfl (pc' := 281) rfl ?_
            refine g_iadd X1391 hx hby at_281 (pc' := 282) rfl ?_
            refine g_caload (i := 2) (v := (.int k1263)) X1391 hx hby hZ q1366 (by decide) (by decide) rfl at_282 (pc' := 283) rfl ?_
            refine g_icmp_eq X1391 hx hby at_283 (by decide) (pc' := 288) (by decide) (pc2 := 286) rfl (fun c283_1392 => ?_) (fun q => absurd (show own_y k1263 &&& 255 = k1263 from own_chr_y rg1263) q)
            refine g_iconst (v := 3) X1391 hx hby at_288 rfl (pc' := 289) rfl ?_
            refine g_iload X1391 hx hby at_289 rfl (pc' := 291) rfl ?_
            refine g_icmp_ge X1391 hx hby at_291 (by decide) (pc' := 312) (by decide) (pc2 := 294) rfl (fun q => absurd (by decide) q) (fun c291_1393 => ?_)
            refine g_aload X1391 hx hby at_294 rfl rfl (pc' := 296) rfl ?_
            refine g_iconst (v := 3) X1391 hx hby at_296 rfl (pc' := 297) rfl ?_
            refine g_callV (argsL := [(.int (3 : Int32))]) (S := []) (a := b1340) X1391 hx hby hZ (y := (⟨"java/lang/String", "charAt", "(I)C"⟩ : MethodName)) (y' := (⟨"java/lang/String", "charAt", "(I)C"⟩ : MethodName)) hown (hw _ (List.mem_of_getElem? (i := 119) rfl)) (hw _ (List.mem_of_getElem? (i := 120) rfl)) (notFace_of_selects (args := #[]) (mvT hZ (hw _ (List.mem_of_getElem? (i := 122) rfl)))) (hw _ (List.mem_of_getElem? (i := 122) rfl)) (hw _ (List.mem_of_getElem? (i := 121) rfl)) (hw _ (List.mem_of_getElem? (i := 8) rfl)) (hw _ (List.mem_of_getElem? (i := 123) rfl)) (by decide) LEn1358 (own_ca l Z a0 hw b1340 (3 : Int32) T1358.heap n0 4 (4 : Int32) (fun i => own_y ((own_cf k1245 k1254 k1263 k1272) i)) rfl ⟨w1358, LEn1358, LVn1358, LCn1358, LAn1358⟩ cs q1364 hcs 3 rfl (by decide) fm q1365 hfm) (by rw [hml]; rfl) (lenOf own_pd21 rfl) rfl at_297 (by decide) (W := 0) (by exact Nat.le_of_eq rfl) (by decide) (by decide) (by decide) (pc' := 300) rfl (fun T1394 v1394 X1394 hQ1394 => ?_)
            obtain ⟨rfl, e1394⟩ := hQ1394
            rw [e1394] at X1394
            show Gl p e below n0 _ _ (T1394.setTop (mkF m 300 #[.val (.int y0), .val (.int y1), .val (.int y2), .val (.int y3), .val (.int y4), .val (.int (4 : Int32)), .val (.ref b1235), .val (.ref b1282), .val (.ref b1340), .val (.int (-1 : Int32)), .val (.int (4 : Int32)), .val (.ref b1340)] [(.int (((fun i => own_y ((own_cf k1245 k1254 k1263 k1272) i))) 3 &&& (255 : Int32)))]))
            refine g_aload X1394 hx hby at_300 rfl rfl (pc' := 302) rfl ?_
            refine g_iload X1394 hx hby at_302 rfl (pc' := 304) rfl ?_
            refine g_iconst (v := 4) X1394 hx hby at_304 rfl (pc' := 305) rfl ?_
            refine g_iadd X1394 hx hby at_305 (pc' := 306) rfl ?_
            refine g_caload (i := 3) (v := (.int k1272)) X1394 hx hby hZ q1366 (by decide) (by decide) rfl at_306 (pc' := 307) rfl ?_
            refine g_icmp_eq X1394 hx hby at_307 (by decide) (pc' := 312) (by decide) (pc2 := 310) rfl (fun c307_1395 => ?_) (fun q => absurd (show own_y k1272 &&& 255 = k1272 from own_chr_y rg1272) q)
            refine g_iconst (v := 1) X1394 hx hby at_312 rfl (pc' := 313) rfl ?_
            exact gw_retN X1394 hx hby hS hk1370 hret hlk (by simp) at_313 rfl (by decide) (by decide)
          · refine g_iconst (v := 3) X1358 hx hby at_185 rfl (pc' := 186) rfl ?_
            refine g_istore (L' := #[.val (.int y0), .val (.int y1), .val (.int y2), .val (.int y3), .val (.int y4), .val (.int (4 : Int32)), .val (.ref b1235), .val (.ref b1282), .val (.ref b1340), .val (.int (3 : Int32)), .unset, .unset]) X1358 hx hby at_186 rfl (pc' := 188) rfl ?_
            refine g_iload X1358 hx hby at_188 rfl (pc' := 190) rfl ?_
            refine g_iload X1358 hx hby at_190 rfl (pc' := 192) rfl ?_
            refine g_isub X1358 hx hby at_192 (pc' := 193) rfl ?_
            refine g_iconst (v := 1) X1358 hx hby at_193 rfl (pc' := 194) rfl ?_
            refine g_isub X1358 hx hby at_194 (pc' := 195) rfl ?_
            refine g_istore (L' := #[.val (.int y0), .val (.int y1), .val (.int y2), .val (.int y3), .val (.int y4), .val (.int (4 : Int32)), .val (.ref b1235), .val (.ref b1282), .val (.ref b1340), .val (.int (3 : Int32)), .val (.int (((4 : Int32) - (3 : Int32)) - (1 : Int32))), .unset]) X1358 hx hby at_195 rfl (pc' := 197) rfl ?_
            have em : (((4 : Int32) - (3 : Int32)) - (1 : Int32)) = (0 : Int32) := by decide
            rw [em]
            refine g_aload X1358 hx hby at_197 rfl rfl (pc' := 199) rfl ?_
            have hno1397 : ∀ j : Nat, ((3 : Int32)).toInt < (j : Int) → j < 4 → ¬ (fun i => own_y ((own_cf k1245 k1254 k1263 k1272) i)) j = 46 := by
              intro j h1 h2
              have e1 : ((3 : Int32)).toInt = 3 := rfl
              exfalso; omega
            refine gh_callS (argsL := [(.ref b1340)]) (S := []) X1358 hx hby hZ hS hk1370 (own_hEL hw) ch1363 own_nss (y := (⟨"com/example/hifadhi/hifadhi/mapping/QualifiedName", "unqualified", "(Ljava/lang/String;)Ljava/lang/String;"⟩ : MethodName)) hown (hw _ (List.mem_of_getElem? (i := 27) rfl)) (hw _ (List.mem_of_getElem? (i := 28) rfl)) (hw _ (List.mem_of_getElem? (i := 29) rfl)) (hw _ (List.mem_of_getElem? (i := 30) rfl)) (by decide) (own_uqC l Z a0 hw b1340 T1358.heap n0 4 (4 : Int32) (fun i => own_y ((own_cf k1245 k1254 k1263 k1272) i)) rfl ⟨w1358, LEn1358, LVn1358, LCn1358, LAn1358⟩ cs q1364 hcs fm q1365 hfm (3 : Int32) ⟨by decide, by decide⟩ (fun _ => show own_y k1272 = 46 from (own_dot rg1272).mpr c182_1379) hno1397 (by decide) (by decide) zz1369) (by rw [hml]; rfl) (lenOf own_pd23 rfl) rfl at_199 (by decide) (W := 0) (by exact Nat.le_of_eq rfl) (by decide) (by decide) (by decide) (pc' := 202) rfl (fun T1396 v1396 k1396 X1396 hS1396 hk1396 hZ1396 hown1396 hC1396 hD1396 hQ1396 => ?_)
            obtain ⟨b1396, rfl, ka1396, la1396⟩ := hQ1396
            have q1398 := own_sta_keep q1364 ka1396 all0
            have q1399 := own_sta_keep q1365 ka1396 all0
            have q1400 := q1366.keep ka1396 nin0
            have q1401 := q1367.keep ka1396 nin0
            have q1402 := LEn1358.keep ka1396
            have q1403 := LVn1358.keep ka1396 nin0
            have q1404 := LCn1358.keep ka1396 nin0
            have q1405 := LAn1358.keep ka1396 nin0
            have zz1406 := Nat.le_trans zz1369 ka1396.1
            have kk1407 : Keep h0 T1396.heap [] := kk1371.trans ka1396 all0
            have lb1396 : Lat Z T1396.heap b1396 0 (fun i => ([] : List Int32).getD i 0) := la1396
            obtain ⟨w1396, LEr1396, LVr1396, LCr1396, LAr1396⟩ := lb1396
            show Gl p e below n0 _ _ (T1396.setTop (mkF m 202 #[.val (.int y0), .val (.int y1), .val (.int y2), .val (.int y3), .val (.int y4), .val (.int (4 : Int32)), .val (.ref b1235), .val (.ref b1282), .val (.ref b1340), .val (.int (3 : Int32)), .val (.int (0 : Int32)), .unset] [(.ref b1396)]))
            refine g_astore (L' := #[.val (.int y0), .val (.int y1), .val (.int y2), .val (.int y3), .val (.int y4), .val (.int (4 : Int32)), .val (.ref b1235), .val (.ref b1282), .val (.ref b1340), .val (.int (3 : Int32)), .val (.int (0 : Int32)), .val (.ref b1396)]) X1396 hx hby at_202 rfl rfl (pc' := 204) rfl ?_
            refine g_aload X1396 hx hby at_204 rfl rfl (pc' := 206) rfl ?_
            refine g_callV (argsL := []) (S := []) (a := b1396) X1396 hx hby hZ1396 (y := (⟨"java/lang/String", "length", "()I"⟩ : MethodName)) (y' := (⟨"java/lang/String", "length", "()I"⟩ : MethodName)) hown1396 (hw _ (List.mem_of_getElem? (i := 86) rfl)) (hw _ (List.mem_of_getElem? (i := 37) rfl)) (notFace_of_selects (args := #[]) (mvT hZ1396 (hw _ (List.mem_of_getElem? (i := 39) rfl)))) (hw _ (List.mem_of_getElem? (i := 39) rfl)) (hw _ (List.mem_of_getElem? (i := 38) rfl)) (hw _ (List.mem_of_getElem? (i := 8) rfl)) (hw _ (List.mem_of_getElem? (i := 40) rfl)) (by decide) LEr1396 (own_ln l Z a0 hw b1396 T1396.heap n0 0 (0 : Int32) (fun i => ([] : List Int32).getD i 0) rfl ⟨w1396, LEr1396, LVr1396, LCr1396, LAr1396⟩ cs q1398 hcs ) (by rw [hml]; rfl) (lenOf own_pd12 rfl) rfl at_206 (by decide) (W := 0) (by exact Nat.le_of_eq rfl) (by decide) (by decide) (by decide) (pc' := 209) rfl (fun T1408 v1408 X1408 hQ1408 => ?_)
            obtain ⟨rfl, e1408⟩ := hQ1408
            rw [e1408] at X1408
            show Gl p e below n0 _ _ (T1408.setTop (mkF m 209 #[.val (.int y0), .val (.int y1), .val (.int y2), .val (.int y3), .val (.int y4), .val (.int (4 : Int32)), .val (.ref b1235), .val (.ref b1282), .val (.ref b1340), .val (.int (3 : Int32)), .val (.int (0 : Int32)), .val (.ref b1396)] [(.int (0 : Int32))]))
            refine g_iload X1408 hx hby at_209 rfl (pc' := 211) rfl ?_
            refine g_icmp_eq X1408 hx hby at_211 (by decide) (pc' := 216) (by decide) (pc2 := 214) rfl (fun c211_1409 => ?_) (fun q => absurd (by decide) q)
            refine g_iconst (v := 0) X1408 hx hby at_216 rfl (pc' := 217) rfl ?_
            refine g_iload X1408 hx hby at_217 rfl (pc' := 219) rfl ?_
            refine g_icmp_ge X1408 hx hby at_219 (by decide) (pc' := 240) (by decide) (pc2 := 222) rfl (fun c219_1410 => ?_) (fun q => absurd q (by decide))
            refine g_iconst (v := 1) X1408 hx hby at_240 rfl (pc' := 241) rfl ?_
            refine g_iload X1408 hx hby at_241 rfl (pc' := 243) rfl ?_
            refine g_icmp_ge X1408 hx hby at_243 (by decide) (pc' := 264) (by decide) (pc2 := 246) rfl (fun c243_1411 => ?_) (fun q => absurd q (by decide))
            refine g_iconst (v := 2) X1408 hx hby at_264 rfl (pc' := 265) rfl ?_
            refine g_iload X1408 hx hby at_265 rfl (pc' := 267) rfl ?_
            refine g_icmp_ge X1408 hx hby at_267 (by decide) (pc' := 288) (by decide) (pc2 := 270) rfl (fun c267_1412 => ?_) (fun q => absurd q (by decide))
            refine g_iconst (v := 3) X1408 hx hby at_288 rfl (pc' := 289) rfl ?_
            refine g_iload X1408 hx hby at_289 rfl (pc' := 291) rfl ?_
            refine g_icmp_ge X1408 hx hby at_291 (by decide) (pc' := 312) (by decide) (pc2 := 294) rfl (fun c291_1413 => ?_) (fun q => absurd q (by decide))
            refine g_iconst (v := 1) X1408 hx hby at_312 rfl (pc' := 313) rfl ?_
            exact gw_retN X1408 hx hby hS1396 hk1396 hret hlk (by simp) at_313 rfl (by decide) (by decide)
        · refine g_iconst (v := 2) X1358 hx hby at_167 rfl (pc' := 168) rfl ?_
          refine g_istore (L' := #[.val (.int y0), .val (.int y1), .val (.int y2), .val (.int y3), .val (.int y4), .val (.int (4 : Int32)), .val (.ref b1235), .val (.ref b1282), .val (.ref b1340), .val (.int (2 : Int32)), .unset, .unset]) X1358 hx hby at_168 rfl (pc' := 170) rfl ?_
          refine g_iload X1358 hx hby at_170 rfl (pc' := 172) rfl ?_
          refine g_iconst (v := 3) X1358 hx hby at_172 rfl (pc' := 173) rfl ?_
          refine g_icmp_le X1358 hx hby at_173 (by decide) (pc' := 188) (by decide) (pc2 := 176) rfl (fun q => absurd (by decide) q) (fun c173_1414 => ?_)
          refine g_aload X1358 hx hby at_176 rfl rfl (pc' := 178) rfl ?_
          refine g_iconst (v := 3) X1358 hx hby at_178 rfl (pc' := 179) rfl ?_
          refine g_caload (i := 3) (v := (.int k1272)) X1358 hx hby hZ q1366 (by decide) (by decide) rfl at_179 (pc' := 180) rfl ?_
          refine g_bipush (v := 46) X1358 hx hby at_180 rfl (pc' := 182) rfl ?_
          refine g_icmp_ne X1358 hx hby at_182 (by decide) (pc' := 188) (by decide) (pc2 := 185) rfl (fun c182_1415 => ?_) (fun c182_1415 => ?_)
          · refine g_iload X1358 hx hby at_188 rfl (pc' := 190) rfl ?_
            refine g_iload X1358 hx hby at_190 rfl (pc' := 192) rfl ?_
            refine g_isub X1358 hx hby at_192 (pc' := 193) rfl ?_
            refine g_iconst (v := 1) X1358 hx hby at_193 rfl (pc' := 194) rfl ?_
            refine g_isub X1358 hx hby at_194 (pc' := 195) rfl ?_
            refine g_istore (L' := #[.val (.int y0), .val (.int y1), .val (.int y2), .val (.int y3), .val (.int y4), .val (.int (4 : Int32)), .val (.ref b1235), .val (.ref b1282), .val (.ref b1340), .val (.int (2 : Int32)), .val (.int (((4 : Int32) - (2 : Int32)) - (1 : Int32))), .unset]) X1358 hx hby at_195 rfl (pc' := 197) rfl ?_
            have em : (((4 : Int32) - (2 : Int32)) - (1 : Int32)) = (1 : Int32) := by decide
            rw [em]
            refine g_aload X1358 hx hby at_197 rfl rfl (pc' := 199) rfl ?_
            have hno1417 : ∀ j : Nat, ((2 : Int32)).toInt < (j : Int) → j < 4 → ¬ (fun i => own_y ((own_cf k1245 k1254 k1263 k1272) i)) j = 46 := by
              intro j h1 h2
              have e1 : ((2 : Int32)).toInt = 2 := rfl
              have h8 : j = 3 := by omega
              rcases h8 with rfl
              · exact fun q => c182_1415 ((own_dot rg1272).mp q)
            refine g_callS (argsL := [(.ref b1340)]) (S := []) X1358 hx hby hZ (y := (⟨"com/example/hifadhi/hifadhi/mapping/QualifiedName", "unqualified", "(Ljava/lang/String;)Ljava/lang/String;"⟩ : MethodName)) hown (hw _ (List.mem_of_getElem? (i := 27) rfl)) (hw _ (List.mem_of_getElem? (i := 28) rfl)) (hw _ (List.mem_of_getElem? (i := 29) rfl)) (hw _ (List.mem_of_getElem? (i := 30) rfl)) (by decide) (own_uqB l Z a0 hw b1340 T1358.heap n0 4 (4 : Int32) (fun i => own_y ((own_cf k1245 k1254 k1263 k1272) i)) rfl ⟨w1358, LEn1358, LVn1358, LCn1358, LAn1358⟩ cs q1364 hcs fm q1365 hfm (2 : Int32) ⟨by decide, by decide⟩ (fun _ => show own_y k1263 = 46 from (own_dot rg1263).mpr c164_1377) hno1417 (by decide) (fun i _ => fits_nar_byte _) 3 (by decide) (by decide) (by decide) zz1369) (by rw [hml]; rfl) (lenOf own_pd23 rfl) rfl at_199 (by decide) (W := 0) (by exact Nat.le_of_eq rfl) (by decide) (by decide) (by decide) (pc' := 202) rfl (fun T1416 v1416 X1416 hQ1416 => ?_)
            obtain ⟨b1416, rfl, ka1416, la1416⟩ := hQ1416
            have q1418 := own_sta_keep q1364 ka1416 all0
            have q1419 := own_sta_keep q1365 ka1416 all0
            have q1420 := q1366.keep ka1416 nin0
            have q1421 := q1367.keep ka1416 nin0
            have q1422 := LEn1358.keep ka1416
            have q1423 := LVn1358.keep ka1416 nin0
            have q1424 := LCn1358.keep ka1416 nin0
            have q1425 := LAn1358.keep ka1416 nin0
            have zz1426 := Nat.le_trans zz1369 ka1416.1
            have hk1427 := Nat.le_trans hk1370 ka1416.1
            have kk1428 : Keep h0 T1416.heap [] := kk1371.trans ka1416 all0
            have lb1416 : Lat Z T1416.heap b1416 1 (fun i => own_y ((own_cf k1245 k1254 k1263 k1272) (3 + i))) := la1416
            obtain ⟨w1416, LEr1416, LVr1416, LCr1416, LAr1416⟩ := lb1416
            show Gl p e below n0 _ _ (T1416.setTop (mkF m 202 #[.val (.int y0), .val (.int y1), .val (.int y2), .val (.int y3), .val (.int y4), .val (.int (4 : Int32)), .val (.ref b1235), .val (.ref b1282), .val (.ref b1340), .val (.int (2 : Int32)), .val (.int (1 : Int32)), .unset] [(.ref b1416)]))
            refine g_astore (L' := #[.val (.int y0), .val (.int y1), .val (.int y2), .val (.int y3), .val (.int y4), .val (.int (4 : Int32)), .val (.ref b1235), .val (.ref b1282), .val (.ref b1340), .val (.int (2 : Int32)), .val (.int (1 : Int32)), .val (.ref b1416)]) X1416 hx hby at_202 rfl rfl (pc' := 204) rfl ?_
            refine g_aload X1416 hx hby at_204 rfl rfl (pc' := 206) rfl ?_
            refine g_callV (argsL := []) (S := []) (a := b1416) X1416 hx hby hZ (y := (⟨"java/lang/String", "length", "()I"⟩ : MethodName)) (y' := (⟨"java/lang/String", "length", "()I"⟩ : MethodName)) hown (hw _ (List.mem_of_getElem? (i := 86) rfl)) (hw _ (List.mem_of_getElem? (i := 37) rfl)) (notFace_of_selects (args := #[]) (mvT hZ (hw _ (List.mem_of_getElem? (i := 39) rfl)))) (hw _ (List.mem_of_getElem? (i := 39) rfl)) (hw _ (List.mem_of_getElem? (i := 38) rfl)) (hw _ (List.mem_of_getElem? (i := 8) rfl)) (hw _ (List.mem_of_getElem? (i := 40) rfl)) (by decide) LEr1416 (own_ln l Z a0 hw b1416 T1416.heap n0 1 (1 : Int32) (fun i => own_y ((own_cf k1245 k1254 k1263 k1272) (3 + i))) rfl ⟨w1416, LEr1416, LVr1416, LCr1416, LAr1416⟩ cs q1418 hcs ) (by rw [hml]; rfl) (lenOf own_pd12 rfl) rfl at_206 (by decide) (W := 0) (by exact Nat.le_of_eq rfl) (by decide) (by decide) (by decide) (pc' := 209) rfl (fun T1429 v1429 X1429 hQ1429 => ?_)
            obtain ⟨rfl, e1429⟩ := hQ1429
            rw [e1429] at X1429
            show Gl p e below n0 _ _ (T1429.setTop (mkF m 209 #[.val (.int y0), .val (.int y1), .val (.int y2), .val (.int y3), .val (.int y4), .val (.int (4 : Int32)), .val (.ref b1235), .val (.ref b1282), .val (.ref b1340), .val (.int (2 : Int32)), .val (.int (1 : Int32)), .val (.ref b1416)] [(.int (1 : Int32))]))
            refine g_iload X1429 hx hby at_209 rfl (pc' := 211) rfl ?_
            refine g_icmp_eq X1429 hx hby at_211 (by decide) (pc' := 216) (by decide) (pc2 := 214) rfl (fun c211_1430 => ?_) (fun q => absurd (by decide) q)
            refine g_iconst (v := 0) X1429 hx hby at_216 rfl (pc' := 217) rfl ?_
            refine g_iload X1429 hx hby at_217 rfl (pc' := 219) rfl ?_
            refine g_icmp_ge X1429 hx hby at_219 (by decide) (pc' := 240) (by decide) (pc2 := 222) rfl (fun q => absurd (by decide) q) (fun c219_1431 => ?_)
            refine g_aload X1429 hx hby at_222 rfl rfl (pc' := 224) rfl ?_
            refine g_iconst (v := 0) X1429 hx hby at_224 rfl (pc' := 225) rfl ?_
            refine g_callV (argsL := [(.int (0 : Int32))]) (S := []) (a := b1416) X1429 hx hby hZ (y := (⟨"java/lang/String", "charAt", "(I)C"⟩ : MethodName)) (y' := (⟨"java/lang/String", "charAt", "(I)C"⟩ : MethodName)) hown (hw _ (List.mem_of_getElem? (i := 119) rfl)) (hw _ (List.mem_of_getElem? (i := 120) rfl)) (notFace_of_selects (args := #[]) (mvT hZ (hw _ (List.mem_of_getElem? (i := 122) rfl)))) (hw _ (List.mem_of_getElem? (i := 122) rfl)) (hw _ (List.mem_of_getElem? (i := 121) rfl)) (hw _ (List.mem_of_getElem? (i := 8) rfl)) (hw _ (List.mem_of_getElem? (i := 123) rfl)) (by decide) LEr1416 (own_ca l Z a0 hw b1416 (0 : Int32) T1416.heap n0 1 (1 : Int32) (fun i => own_y ((own_cf k1245 k1254 k1263 k1272) (3 + i))) rfl ⟨w1416, LEr1416, LVr1416, LCr1416, LAr1416⟩ cs q1418 hcs 0 rfl (by decide) fm q1419 hfm) (by rw [hml]; rfl) (lenOf own_pd21 rfl) rfl at_225 (by decide) (W := 0) (by exact Nat.le_of_eq rfl) (by decide) (by decide) (by decide) (pc' := 228) rfl (fun T1432 v1432 X1432 hQ1432 => ?_)
            obtain ⟨rfl, e1432⟩ := hQ1432
            rw [e1432] at X1432
            show Gl p e below n0 _ _ (T1432.setTop (mkF m 228 #[.val (.int y0), .val (.int y1), .val (.int y2), .val (.int y3), .val (.int y4), .val (.int (4 : Int32)), .val (.ref b1235), .val (.ref b1282), .val (.ref b1340), .val (.int (2 : Int32)), .val (.int (1 : Int32)), .val (.ref b1416)] [(.int (((fun i => own_y ((own_cf k1245 k1254 k1263 k1272) (3 + i)))) 0 &&& (255 : Int32)))]))
            refine g_aload X1432 hx hby at_228 rfl rfl (pc' := 230) rfl ?_
            refine g_iload X1432 hx hby at_230 rfl (pc' := 232) rfl ?_
            refine g_iconst (v := 1) X1432 hx hby at_232 rfl (pc' := 233) rfl ?_
            refine g_iadd X1432 hx hby at_233 (pc' := 234) rfl ?_
            refine g_caload (i := 3) (v := (.int k1272)) X1432 hx hby hZ q1420 (by decide) (by decide) rfl at_234 (pc' := 235) rfl ?_
            refine g_icmp_eq X1432 hx hby at_235 (by decide) (pc' := 240) (by decide) (pc2 := 238) rfl (fun c235_1433 => ?_) (fun q => absurd (show own_y k1272 &&& 255 = k1272 from own_chr_y rg1272) q)
            refine g_iconst (v := 1) X1432 hx hby at_240 rfl (pc' := 241) rfl ?_
            refine g_iload X1432 hx hby at_241 rfl (pc' := 243) rfl ?_
            refine g_icmp_ge X1432 hx hby at_243 (by decide) (pc' := 264) (by decide) (pc2 := 246) rfl (fun c243_1434 => ?_) (fun q => absurd q (by decide))
            refine g_iconst (v := 2) X1432 hx hby at_264 rfl (pc' := 265) rfl ?_
            refine g_iload X1432 hx hby at_265 rfl (pc' := 267) rfl ?_
            refine g_icmp_ge X1432 hx hby at_267 (by decide) (pc' := 288) (by decide) (pc2 := 270) rfl (fun c267_1435 => ?_) (fun q => absurd q (by decide))
            refine g_iconst (v := 3) X1432 hx hby at_288 rfl (pc' := 289) rfl ?_
            refine g_iload X1432 hx hby at_289 rfl (pc' := 291) rfl ?_
            refine g_icmp_ge X1432 hx hby at_291 (by decide) (pc' := 312) (by decide) (pc2 := 294) rfl (fun c291_1436 => ?_) (fun q => absurd q (by decide))
            refine g_iconst (v := 1) X1432 hx hby at_312 rfl (pc' := 313) rfl ?_
            exact gw_retN X1432 hx hby hS hk1427 hret hlk (by simp) at_313 rfl (by decide) (by decide)
          · refine g_iconst (v := 3) X1358 hx hby at_185 rfl (pc' := 186) rfl ?_
            refine g_istore (L' := #[.val (.int y0), .val (.int y1), .val (.int y2), .val (.int y3), .val (.int y4), .val (.int (4 : Int32)), .val (.ref b1235), .val (.ref b1282), .val (.ref b1340), .val (.int (3 : Int32)), .unset, .unset]) X1358 hx hby at_186 rfl (pc' := 188) rfl ?_
            refine g_iload X1358 hx hby at_188 rfl (pc' := 190) rfl ?_
            refine g_iload X1358 hx hby at_190 rfl (pc' := 192) rfl ?_
            refine g_isub X1358 hx hby at_192 (pc' := 193) rfl ?_
            refine g_iconst (v := 1) X1358 hx hby at_193 rfl (pc' := 194) rfl ?_
            refine g_isub X1358 hx hby at_194 (pc' := 195) rfl ?_
            refine g_istore (L' := #[.val (.int y0), .val (.int y1), .val (.int y2), .val (.int y3), .val (.int y4), .val (.int (4 : Int32)), .val (.ref b1235), .val (.ref b1282), .val (.ref b1340), .val (.int (3 : Int32)), .val (.int (((4 : Int32) - (3 : Int32)) - (1 : Int32))), .unset]) X1358 hx hby at_195 rfl (pc' := 197) rfl ?_
            have em : (((4 : Int32) - (3 : Int32)) - (1 : Int32)) = (0 : Int32) := by decide
            rw [em]
            refine g_aload X1358 hx hby at_197 rfl rfl (pc' := 199) rfl ?_
            have hno1438 : ∀ j : Nat, ((3 : Int32)).toInt < (j : Int) → j < 4 → ¬ (fun i => own_y ((own_cf k1245 k1254 k1263 k1272) i)) j = 46 := by
              intro j h1 h2
              have e1 : ((3 : Int32)).toInt = 3 := rfl
              exfalso; omega
            refine gh_callS (argsL := [(.ref b1340)]) (S := []) X1358 hx hby hZ hS hk1370 (own_hEL hw) ch1363 own_nss (y := (⟨"com/example/hifadhi/hifadhi/mapping/QualifiedName", "unqualified", "(Ljava/lang/String;)Ljava/lang/String;"⟩ : MethodName)) hown (hw _ (List.mem_of_getElem? (i := 27) rfl)) (hw _ (List.mem_of_getElem? (i := 28) rfl)) (hw _ (List.mem_of_getElem? (i := 29) rfl)) (hw _ (List.mem_of_getElem? (i := 30) rfl)) (by decide) (own_uqC l Z a0 hw b1340 T1358.heap n0 4 (4 : Int32) (fun i => own_y ((own_cf k1245 k1254 k1263 k1272) i)) rfl ⟨w1358, LEn1358, LVn1358, LCn1358, LAn1358⟩ cs q1364 hcs fm q1365 hfm (3 : Int32) ⟨by decide, by decide⟩ (fun _ => show own_y k1272 = 46 from (own_dot rg1272).mpr c182_1415) hno1438 (by decide) (by decide) zz1369) (by rw [hml]; rfl) (lenOf own_pd23 rfl) rfl at_199 (by decide) (W := 0) (by exact Nat.le_of_eq rfl) (by decide) (by decide) (by decide) (pc' := 202) rfl (fun T1437 v1437 k1437 X1437 hS1437 hk1437 hZ1437 hown1437 hC1437 hD1437 hQ1437 => ?_)
            obtain ⟨b1437, rfl, ka1437, la1437⟩ := hQ1437
            have q1439 := own_sta_keep q1364 ka1437 all0
            have q1440 := own_sta_keep q1365 ka1437 all0
            have q1441 := q1366.keep ka1437 nin0
            have q1442 := q1367.keep ka1437 nin0
            have q1443 := LEn1358.keep ka1437
            have q1444 := LVn1358.keep ka1437 nin0
            have q1445 := LCn1358.keep ka1437 nin0
            have q1446 := LAn1358.keep ka1437 nin0
            have zz1447 := Nat.le_trans zz1369 ka1437.1
            have kk1448 : Keep h0 T1437.heap [] := kk1371.trans ka1437 all0
            have lb1437 : Lat Z T1437.heap b1437 0 (fun i => ([] : List Int32).getD i 0) := la1437
            obtain ⟨w1437, LEr1437, LVr1437, LCr1437, LAr1437⟩ := lb1437
            show Gl p e below n0 _ _ (T1437.setTop (mkF m 202 #[.val (.int y0), .val (.int y1), .val (.int y2), .val (.int y3), .val (.int y4), .val (.int (4 : Int32)), .val (.ref b1235), .val (.ref b1282), .val (.ref b1340), .val (.int (3 : Int32)), .val (.int (0 : Int32)), .unset] [(.ref b1437)]))
            refine g_astore (L' := #[.val (.int y0), .val (.int y1), .val (.int y2), .val (.int y3), .val (.int y4), .val (.int (4 : Int32)), .val (.ref b1235), .val (.ref b1282), .val (.ref b1340), .val (.int (3 : Int32)), .val (.int (0 : Int32)), .val (.ref b1437)]) X1437 hx hby at_202 rfl rfl (pc' := 204) rfl ?_
            refine g_aload X1437 hx hby at_204 rfl rfl (pc' := 206) rfl ?_
            refine g_callV (argsL := []) (S := []) (a := b1437) X1437 hx hby hZ1437 (y := (⟨"java/lang/String", "length", "()I"⟩ : MethodName)) (y' := (⟨"java/lang/String", "length", "()I"⟩ : MethodName)) hown1437 (hw _ (List.mem_of_getElem? (i := 86) rfl)) (hw _ (List.mem_of_getElem? (i := 37) rfl)) (notFace_of_selects (args := #[]) (mvT hZ1437 (hw _ (List.mem_of_getElem? (i := 39) rfl)))) (hw _ (List.mem_of_getElem? (i := 39) rfl)) (hw _ (List.mem_of_getElem? (i := 38) rfl)) (hw _ (List.mem_of_getElem? (i := 8) rfl)) (hw _ (List.mem_of_getElem? (i := 40) rfl)) (by decide) LEr1437 (own_ln l Z a0 hw b1437 T1437.heap n0 0 (0 : Int32) (fun i => ([] : List Int32).getD i 0) rfl ⟨w1437, LEr1437, LVr1437, LCr1437, LAr1437⟩ cs q1439 hcs ) (by rw [hml]; rfl) (lenOf own_pd12 rfl) rfl at_206 (by decide) (W := 0) (by exact Nat.le_of_eq rfl) (by decide) (by decide) (by decide) (pc' := 209) rfl (fun T1449 v1449 X1449 hQ1449 => ?_)
            obtain ⟨rfl, e1449⟩ := hQ1449
            rw [e1449] at X1449
            show Gl p e below n0 _ _ (T1449.setTop (mkF m 209 #[.val (.int y0), .val (.int y1), .val (.int y2), .val (.int y3), .val (.int y4), .val (.int (4 : Int32)), .val (.ref b1235), .val (.ref b1282), .val (.ref b1340), .val (.int (3 : Int32)), .val (.int (0 : Int32)), .val (.ref b1437)] [(.int (0 : Int32))]))
            refine g_iload X1449 hx hby at_209 rfl (pc' := 211) rfl ?_
            refine g_icmp_eq X1449 hx hby at_211 (by decide) (pc' := 216) (by decide) (pc2 := 214) rfl (fun c211_1450 => ?_) (fun q => absurd (by decide) q)
            refine g_iconst (v := 0) X1449 hx hby at_216 rfl (pc' := 217) rfl ?_
            refine g_iload X1449 hx hby at_217 rfl (pc' := 219) rfl ?_
            refine g_icmp_ge X1449 hx hby at_219 (by decide) (pc' := 240) (by decide) (pc2 := 222) rfl (fun c219_1451 => ?_) (fun q => absurd q (by decide))
            refine g_iconst (v := 1) X1449 hx hby at_240 rfl (pc' := 241) rfl ?_
            refine g_iload X1449 hx hby at_241 rfl (pc' := 243) rfl ?_
            refine g_icmp_ge X1449 hx hby at_243 (by decide) (pc' := 264) (by decide) (pc2 := 246) rfl (fun c243_1452 => ?_) (fun q => absurd q (by decide))
            refine g_iconst (v := 2) X1449 hx hby at_264 rfl (pc' := 265) rfl ?_
            refine g_iload X1449 hx hby at_265 rfl (pc' := 267) rfl ?_
            refine g_icmp_ge X1449 hx hby at_267 (by decide) (pc' := 288) (by decide) (pc2 := 270) rfl (fun c267_1453 => ?_) (fun q => absurd q (by decide))
            refine g_iconst (v := 3) X1449 hx hby at_288 rfl (pc' := 289) rfl ?_
            refine g_iload X1449 hx hby at_289 rfl (pc' := 291) rfl ?_
            refine g_icmp_ge X1449 hx hby at_291 (by decide) (pc' := 312) (by decide) (pc2 := 294) rfl (fun c291_1454 => ?_) (fun q => absurd q (by decide))
            refine g_iconst (v := 1) X1449 hx hby at_312 rfl (pc' := 313) rfl ?_
            exact gw_retN X1449 hx hby hS1437 hk1437 hret hlk (by simp) at_313 rfl (by decide) (by decide)
      · refine g_iconst (v := 1) X1358 hx hby at_149 rfl (pc' := 150) rfl ?_
        refine g_istore (L' := #[.val (.int y0), .val (.int y1), .val (.int y2), .val (.int y3), .val (.int y4), .val (.int (4 : Int32)), .val (.ref b1235), .val (.ref b1282), .val (.ref b1340), .val (.int (1 : Int32)), .unset, .unset]) X1358 hx hby at_150 rfl (pc' := 152) rfl ?_
        refine g_iload X1358 hx hby at_152 rfl (pc' := 154) rfl ?_
        refine g_iconst (v := 2) X1358 hx hby at_154 rfl (pc' := 155) rfl ?_
        refine g_icmp_le X1358 hx hby at_155 (by decide) (pc' := 170) (by decide) (pc2 := 158) rfl (fun q => absurd (by decide) q) (fun c155_1455 => ?_)
        refine g_aload X1358 hx hby at_158 rfl rfl (pc' := 160) rfl ?_
        refine g_iconst (v := 2) X1358 hx hby at_160 rfl (pc' := 161) rfl ?_
        refine g_caload (i := 2) (v := (.int k1263)) X1358 hx hby hZ q1366 (by decide) (by decide) rfl at_161 (pc' := 162) rfl ?_
        refine g_bipush (v := 46) X1358 hx hby at_162 rfl (pc' := 164) rfl ?_
        refine g_icmp_ne X1358 hx hby at_164 (by decide) (pc' := 170) (by decide) (pc2 := 167) rfl (fun c164_1456 => ?_) (fun c164_1456 => ?_)
        · refine g_iload X1358 hx hby at_170 rfl (pc' := 172) rfl ?_
          refine g_iconst (v := 3) X1358 hx hby at_172 rfl (pc' := 173) rfl ?_
          refine g_icmp_le X1358 hx hby at_173 (by decide) (pc' := 188) (by decide) (pc2 := 176) rfl (fun q => absurd (by decide) q) (fun c173_1457 => ?_)
          refine g_aload X1358 hx hby at_176 rfl rfl (pc' := 178) rfl ?_
          refine g_iconst (v := 3) X1358 hx hby at_178 rfl (pc' := 179) rfl ?_
          refine g_caload (i := 3) (v := (.int k1272)) X1358 hx hby hZ q1366 (by decide) (by decide) rfl at_179 (pc' := 180) rfl ?_
          refine g_bipush (v := 46) X1358 hx hby at_180 rfl (pc' := 182) rfl ?_
          refine g_icmp_ne X1358 hx hby at_182 (by decide) (pc' := 188) (by decide) (pc2 := 185) rfl (fun c182_1458 => ?_) (fun c182_1458 => ?_)
          · refine g_iload X1358 hx hby at_188 rfl (pc' := 190) rfl ?_
            refine g_iload X1358 hx hby at_190 rfl (pc' := 192) rfl ?_
            refine g_isub X1358 hx hby at_192 (pc' := 193) rfl ?_
            refine g_iconst (v := 1) X1358 hx hby at_193 rfl (pc' := 194) rfl ?_
            refine g_isub X1358 hx hby at_194 (pc' := 195) rfl ?_
            refine g_istore (L' := #[.val (.int y0), .val (.int y1), .val (.int y2), .val (.int y3), .val (.int y4), .val (.int (4 : Int32)), .val (.ref b1235), .val (.ref b1282), .val (.ref b1340), .val (.int (1 : Int32)), .val (.int (((4 : Int32) - (1 : Int32)) - (1 : Int32))), .unset]) X1358 hx hby at_195 rfl (pc' := 197) rfl ?_
            have em : (((4 : Int32) - (1 : Int32)) - (1 : Int32)) = (2 : Int32) := by decide
            rw [em]
            refine g_aload X1358 hx hby at_197 rfl rfl (pc' := 199) rfl ?_
            have hno1460 : ∀ j : Nat, ((1 : Int32)).toInt < (j : Int) → j < 4 → ¬ (fun i => own_y ((own_cf k1245 k1254 k1263 k1272) i)) j = 46 := by
              intro j h1 h2
              have e1 : ((1 : Int32)).toInt = 1 := rfl
              have h8 : j = 2 ∨ j = 3 := by omega
              rcases h8 with rfl | rfl
              · exact fun q => c164_1456 ((own_dot rg1263).mp q)
              · exact fun q => c182_1458 ((own_dot rg1272).mp q)
            refine g_callS (argsL := [(.ref b1340)]) (S := []) X1358 hx hby hZ (y := (⟨"com/example/hifadhi/hifadhi/mapping/QualifiedName", "unqualified", "(Ljava/lang/String;)Ljava/lang/String;"⟩ : MethodName)) hown (hw _ (List.mem_of_getElem? (i := 27) rfl)) (hw _ (List.mem_of_getElem? (i := 28) rfl)) (hw _ (List.mem_of_getElem? (i := 29) rfl)) (hw _ (List.mem_of_getElem? (i := 30) rfl)) (by decide) (own_uqB l Z a0 hw b1340 T1358.heap n0 4 (4 : Int32) (fun i => own_y ((own_cf k1245 k1254 k1263 k1272) i)) rfl ⟨w1358, LEn1358, LVn1358, LCn1358, LAn1358⟩ cs q1364 hcs fm q1365 hfm (1 : Int32) ⟨by decide, by decide⟩ (fun _ => show own_y k1254 = 46 from (own_dot rg1254).mpr c146_1375) hno1460 (by decide) (fun i _ => fits_nar_byte _) 2 (by decide) (by decide) (by decide) zz1369) (by rw [hml]; rfl) (lenOf own_pd23 rfl) rfl at_199 (by decide) (W := 0) (by exact Nat.le_of_eq rfl) (by decide) (by decide) (by decide) (pc' := 202) rfl (fun T1459 v1459 X1459 hQ1459 => ?_)
            obtain ⟨b1459, rfl, ka1459, la1459⟩ := hQ1459
            have q1461 := own_sta_keep q1364 ka1459 all0
            have q1462 := own_sta_keep q1365 ka1459 all0
            have q1463 := q1366.keep ka1459 nin0
            have q1464 := q1367.keep ka1459 nin0
            have q1465 := LEn1358.keep ka1459
            have q1466 := LVn1358.keep ka1459 nin0
            have q1467 := LCn1358.keep ka1459 nin0
            have q1468 := LAn1358.keep ka1459 nin0
            have zz1469 := Nat.le_trans zz1369 ka1459.1
            have hk1470 := Nat.le_trans hk1370 ka1459.1
            have kk1471 : Keep h0 T1459.heap [] := kk1371.trans ka1459 all0
            have lb1459 : Lat Z T1459.heap b1459 2 (fun i => own_y ((own_cf k1245 k1254 k1263 k1272) (2 + i))) := la1459
            obtain ⟨w1459, LEr1459, LVr1459, LCr1459, LAr1459⟩ := lb1459
            show Gl p e below n0 _ _ (T1459.setTop (mkF m 202 #[.val (.int y0), .val (.int y1), .val (.int y2), .val (.int y3), .val (.int y4), .val (.int (4 : Int32)), .val (.ref b1235), .val (.ref b1282), .val (.ref b1340), .val (.int (1 : Int32)), .val (.int (2 : Int32)), .unset] [(.ref b1459)]))
            refine g_astore (L' := #[.val (.int y0), .val (.int y1), .val (.int y2), .val (.int y3), .val (.int y4), .val (.int (4 : Int32)), .val (.ref b1235), .val (.ref b1282), .val (.ref b1340), .val (.int (1 : Int32)), .val (.int (2 : Int32)), .val (.ref b1459)]) X1459 hx hby at_202 rfl rfl (pc' := 204) rfl ?_
            refine g_aload X1459 hx hby at_204 rfl rfl (pc' := 206) rfl ?_
            refine g_callV (argsL := []) (S := []) (a := b1459) X1459 hx hby hZ (y := (⟨"java/lang/String", "length", "()I"⟩ : MethodName)) (y' := (⟨"java/lang/String", "length", "()I"⟩ : MethodName)) hown (hw _ (List.mem_of_getElem? (i := 86) rfl)) (hw _ (List.mem_of_getElem? (i := 37) rfl)) (notFace_of_selects (args := #[]) (mvT hZ (hw _ (List.mem_of_getElem? (i := 39) rfl)))) (hw _ (List.mem_of_getElem? (i := 39) rfl)) (hw _ (List.mem_of_getElem? (i := 38) rfl)) (hw _ (List.mem_of_getElem? (i := 8) rfl)) (hw _ (List.mem_of_getElem? (i := 40) rfl)) (by decide) LEr1459 (own_ln l Z a0 hw b1459 T1459.heap n0 2 (2 : Int32) (fun i => own_y ((own_cf k1245 k1254 k1263 k1272) (2 + i))) rfl ⟨w1459, LEr1459, LVr1459, LCr1459, LAr1459⟩ cs q1461 hcs ) (by rw [hml]; rfl) (lenOf own_pd12 rfl) rfl at_206 (by decide) (W := 0) (by exact Nat.le_of_eq rfl) (by decide) (by decide) (by decide) (pc' := 209) rfl (fun T1472 v1472 X1472 hQ1472 => ?_)
            obtain ⟨rfl, e1472⟩ := hQ1472
            rw [e1472] at X1472
            show Gl p e below n0 _ _ (T1472.setTop (mkF m 209 #[.val (.int y0), .val (.int y1), .val (.int y2), .val (.int y3), .val (.int y4), .val (.int (4 : Int32)), .val (.ref b1235), .val (.ref b1282), .val (.ref b1340), .val (.int (1 : Int32)), .val (.int (2 : Int32)), .val (.ref b1459)] [(.int (2 : Int32))]))
            refine g_iload X1472 hx hby at_209 rfl (pc' := 211) rfl ?_
            refine g_icmp_eq X1472 hx hby at_211 (by decide) (pc' := 216) (by decide) (pc2 := 214) rfl (fun c211_1473 => ?_) (fun q => absurd (by decide) q)
            refine g_iconst (v := 0) X1472 hx hby at_216 rfl (pc' := 217) rfl ?_
            refine g_iload X1472 hx hby at_217 rfl (pc' := 219) rfl ?_
            refine g_icmp_ge X1472 hx hby at_219 (by decide) (pc' := 240) (by decide) (pc2 := 222) rfl (fun q => absurd (by decide) q) (fun c219_1474 => ?_)
            refine g_aload X1472 hx hby at_222 rfl rfl (pc' := 224) rfl ?_
            refine g_iconst (v := 0) X1472 hx hby at_224 rfl (pc' := 225) rfl ?_
            refine g_callV (argsL := [(.int (0 : Int32))]) (S := []) (a := b1459) X1472 hx hby hZ (y := (⟨"java/lang/String", "charAt", "(I)C"⟩ : MethodName)) (y' := (⟨"java/lang/String", "charAt", "(I)C"⟩ : MethodName)) hown (hw _ (List.mem_of_getElem? (i := 119) rfl)) (hw _ (List.mem_of_getElem? (i := 120) rfl)) (notFace_of_selects (args := #[]) (mvT hZ (hw _ (List.mem_of_getElem? (i := 122) rfl)))) (hw _ (List.mem_of_getElem? (i := 122) rfl)) (hw _ (List.mem_of_getElem? (i := 121) rfl)) (hw _ (List.mem_of_getElem? (i := 8) rfl)) (hw _ (List.mem_of_getElem? (i := 123) rfl)) (by decide) LEr1459 (own_ca l Z a0 hw b1459 (0 : Int32) T1459.heap n0 2 (2 : Int32) (fun i => own_y ((own_cf k1245 k1254 k1263 k1272) (2 + i))) rfl ⟨w1459, LEr1459, LVr1459, LCr1459, LAr1459⟩ cs q1461 hcs 0 rfl (by decide) fm q1462 hfm) (by rw [hml]; rfl) (lenOf own_pd21 rfl) rfl at_225 (by decide) (W := 0) (by exact Nat.le_of_eq rfl) (by decide) (by decide) (by decide) (pc' := 228) rfl (fun T1475 v1475 X1475 hQ1475 => ?_)
            obtain ⟨rfl, e1475⟩ := hQ1475
            rw [e1475] at X1475
            show Gl p e below n0 _ _ (T1475.setTop (mkF m 228 #[.val (.int y0), .val (.int y1), .val (.int y2), .val (.int y3), .val (.int y4), .val (.int (4 : Int32)), .val (.ref b1235), .val (.ref b1282), .val (.ref b1340), .val (.int (1 : Int32)), .val (.int (2 : Int32)), .val (.ref b1459)] [(.int (((fun i => own_y ((own_cf k1245 k1254 k1263 k1272) (2 + i)))) 0 &&& (255 : Int32)))]))
            refine g_aload X1475 hx hby at_228 rfl rfl (pc' := 230) rfl ?_
            refine g_iload X1475 hx hby at_230 rfl (pc' := 232) rfl ?_
            refine g_iconst (v := 1) X1475 hx hby at_232 rfl (pc' := 233) rfl ?_
            refine g_iadd X1475 hx hby at_233 (pc' := 234) rfl ?_
            refine g_caload (i := 2) (v := (.int k1263)) X1475 hx hby hZ q1463 (by decide) (by decide) rfl at_234 (pc' := 235) rfl ?_
            refine g_icmp_eq X1475 hx hby at_235 (by decide) (pc' := 240) (by decide) (pc2 := 238) rfl (fun c235_1476 => ?_) (fun q => absurd (show own_y k1263 &&& 255 = k1263 from own_chr_y rg1263) q)
            refine g_iconst (v := 1) X1475 hx hby at_240 rfl (pc' := 241) rfl ?_
            refine g_iload X1475 hx hby at_241 rfl (pc' := 243) rfl ?_
            refine g_icmp_ge X1475 hx hby at_243 (by decide) (pc' := 264) (by decide) (pc2 := 246) rfl (fun q => absurd (by decide) q) (fun c243_1477 => ?_)
            refine g_aload X1475 hx hby at_246 rfl rfl (pc' := 248) rfl ?_
            refine g_iconst (v := 1) X1475 hx hby at_248 rfl (pc' := 249) rfl ?_
            refine g_callV (argsL := [(.int (1 : Int32))]) (S := []) (a := b1459) X1475 hx hby hZ (y := (⟨"java/lang/String", "charAt", "(I)C"⟩ : MethodName)) (y' := (⟨"java/lang/String", "charAt", "(I)C"⟩ : MethodName)) hown (hw _ (List.mem_of_getElem? (i := 119) rfl)) (hw _ (List.mem_of_getElem? (i := 120) rfl)) (notFace_of_selects (args := #[]) (mvT hZ (hw _ (List.mem_of_getElem? (i := 122) rfl)))) (hw _ (List.mem_of_getElem? (i := 122) rfl)) (hw _ (List.mem_of_getElem? (i := 121) rfl)) (hw _ (List.mem_of_getElem? (i := 8) rfl)) (hw _ (List.mem_of_getElem? (i := 123) rfl)) (by decide) LEr1459 (own_ca l Z a0 hw b1459 (1 : Int32) T1459.heap n0 2 (2 : Int32) (fun i => own_y ((own_cf k1245 k1254 k1263 k1272) (2 + i))) rfl ⟨w1459, LEr1459, LVr1459, LCr1459, LAr1459⟩ cs q1461 hcs 1 rfl (by decide) fm q1462 hfm) (by rw [hml]; rfl) (lenOf own_pd21 rfl) rfl at_249 (by decide) (W := 0) (by exact Nat.le_of_eq rfl) (by decide) (by decide) (by decide) (pc' := 252) rfl (fun T1478 v1478 X1478 hQ1478 => ?_)
            obtain ⟨rfl, e1478⟩ := hQ1478
            rw [e1478] at X1478
            show Gl p e below n0 _ _ (T1478.setTop (mkF m 252 #[.val (.int y0), .val (.int y1), .val (.int y2), .val (.int y3), .val (.int y4), .val (.int (4 : Int32)), .val (.ref b1235), .val (.ref b1282), .val (.ref b1340), .val (.int (1 : Int32)), .val (.int (2 : Int32)), .val (.ref b1459)] [(.int (((fun i => own_y ((own_cf k1245 k1254 k1263 k1272) (2 + i)))) 1 &&& (255 : Int32)))]))
            refine g_aload X1478 hx hby at_252 rfl rfl (pc' := 254) rfl ?_
            refine g_iload X1478 hx hby at_254 rfl (pc' := 256) rfl ?_
            refine g_iconst (v := 2) X1478 hx hby at_256 rfl (pc' := 257) rfl ?_
            refine g_iadd X1478 hx hby at_257 (pc' := 258) rfl ?_
            refine g_caload (i := 3) (v := (.int k1272)) X1478 hx hby hZ q1463 (by decide) (by decide) rfl at_258 (pc' := 259) rfl ?_
            refine g_icmp_eq X1478 hx hby at_259 (by decide) (pc' := 264) (by decide) (pc2 := 262) rfl (fun c259_1479 => ?_) (fun q => absurd (show own_y k1272 &&& 255 = k1272 from own_chr_y rg1272) q)
            refine g_iconst (v := 2) X1478 hx hby at_264 rfl (pc' := 265) rfl ?_
            refine g_iload X1478 hx hby at_265 rfl (pc' := 267) rfl ?_
            refine g_icmp_ge X1478 hx hby at_267 (by decide) (pc' := 288) (by decide) (pc2 := 270) rfl (fun c267_1480 => ?_) (fun q => absurd q (by decide))
            refine g_iconst (v := 3) X1478 hx hby at_288 rfl (pc' := 289) rfl ?_
            refine g_iload X1478 hx hby at_289 rfl (pc' := 291) rfl ?_
            refine g_icmp_ge X1478 hx hby at_291 (by decide) (pc' := 312) (by decide) (pc2 := 294) rfl (fun c291_1481 => ?_) (fun q => absurd q (by decide))
            refine g_iconst (v := 1) X1478 hx hby at_312 rfl (pc' := 313) rfl ?_
            exact gw_retN X1478 hx hby hS hk1470 hret hlk (by simp) at_313 rfl (by decide) (by decide)
          · refine g_iconst (v := 3) X1358 hx hby at_185 rfl (pc' := 186) rfl ?_
            refine g_istore (L' := #[.val (.int y0), .val (.int y1), .val (.int y2), .val (.int y3), .val (.int y4), .val (.int (4 : Int32)), .val (.ref b1235), .val (.ref b1282), .val (.ref b1340), .val (.int (3 : Int32)), .unset, .unset]) X1358 hx hby at_186 rfl (pc' := 188) rfl ?_
            refine g_iload X1358 hx hby at_188 rfl (pc' := 190) rfl ?_
            refine g_iload X1358 hx hby at_190 rfl (pc' := 192) rfl ?_
            refine g_isub X1358 hx hby at_192 (pc' := 193) rfl ?_
            refine g_iconst (v := 1) X1358 hx hby at_193 rfl (pc' := 194) rfl ?_
            refine g_isub X1358 hx hby at_194 (pc' := 195) rfl ?_
            refine g_istore (L' := #[.val (.int y0), .val (.int y1), .val (.int y2), .val (.int y3), .val (.int y4), .val (.int (4 : Int32)), .val (.ref b1235), .val (.ref b1282), .val (.ref b1340), .val (.int (3 : Int32)), .val (.int (((4 : Int32) - (3 : Int32)) - (1 : Int32))), .unset]) X1358 hx hby at_195 rfl (pc' := 197) rfl ?_
            have em : (((4 : Int32) - (3 : Int32)) - (1 : Int32)) = (0 : Int32) := by decide
            rw [em]
            refine g_aload X1358 hx hby at_197 rfl rfl (pc' := 199) rfl ?_
            have hno1483 : ∀ j : Nat, ((3 : Int32)).toInt < (j : Int) → j < 4 → ¬ (fun i => own_y ((own_cf k1245 k1254 k1263 k1272) i)) j = 46 := by
              intro j h1 h2
              have e1 : ((3 : Int32)).toInt = 3 := rfl
              exfalso; omega
            refine gh_callS (argsL := [(.ref b1340)]) (S := []) X1358 hx hby hZ hS hk1370 (own_hEL hw) ch1363 own_nss (y := (⟨"com/example/hifadhi/hifadhi/mapping/QualifiedName", "unqualified", "(Ljava/lang/String;)Ljava/lang/String;"⟩ : MethodName)) hown (hw _ (List.mem_of_getElem? (i := 27) rfl)) (hw _ (List.mem_of_getElem? (i := 28) rfl)) (hw _ (List.mem_of_getElem? (i := 29) rfl)) (hw _ (List.mem_of_getElem? (i := 30) rfl)) (by decide) (own_uqC l Z a0 hw b1340 T1358.heap n0 4 (4 : Int32) (fun i => own_y ((own_cf k1245 k1254 k1263 k1272) i)) rfl ⟨w1358, LEn1358, LVn1358, LCn1358, LAn1358⟩ cs q1364 hcs fm q1365 hfm (3 : Int32) ⟨by decide, by decide⟩ (fun _ => show own_y k1272 = 46 from (own_dot rg1272).mpr c182_1458) hno1483 (by decide) (by decide) zz1369) (by rw [hml]; rfl) (lenOf own_pd23 rfl) rfl at_199 (by decide) (W := 0) (by exact Nat.le_of_eq rfl) (by decide) (by decide) (by decide) (pc' := 202) rfl (fun T1482 v1482 k1482 X1482 hS1482 hk1482 hZ1482 hown1482 hC1482 hD1482 hQ1482 => ?_)
            obtain ⟨b1482, rfl, ka1482, la1482⟩ := hQ1482
            have q1484 := own_sta_keep q1364 ka1482 all0
            have q1485 := own_sta_keep q1365 ka1482 all0
            have q1486 := q1366.keep ka1482 nin0
            have q1487 := q1367.keep ka1482 nin0
            have q1488 := LEn1358.keep ka1482
            have q1489 := LVn1358.keep ka1482 nin0
            have q1490 := LCn1358.keep ka1482 nin0
            have q1491 := LAn1358.keep ka1482 nin0
            have zz1492 := Nat.le_trans zz1369 ka1482.1
            have kk1493 : Keep h0 T1482.heap [] := kk1371.trans ka1482 all0
            have lb1482 : Lat Z T1482.heap b1482 0 (fun i => ([] : List Int32).getD i 0) := la1482
            obtain ⟨w1482, LEr1482, LVr1482, LCr1482, LAr1482⟩ := lb1482
            show Gl p e below n0 _ _ (T1482.setTop (mkF m 202 #[.val (.int y0), .val (.int y1), .val (.int y2), .val (.int y3), .val (.int y4), .val (.int (4 : Int32)), .val (.ref b1235), .val (.ref b1282), .val (.ref b1340), .val (.int (3 : Int32)), .val (.int (0 : Int32)), .unset] [(.ref b1482)]))
            refine g_astore (L' := #[.val (.int y0), .val (.int y1), .val (.int y2), .val (.int y3), .val (.int y4), .val (.int (4 : Int32)), .val (.ref b1235), .val (.ref b1282), .val (.ref b1340), .val (.int (3 : Int32)), .val (.int (0 : Int32)), .val (.ref b1482)]) X1482 hx hby at_202 rfl rfl (pc' := 204) rfl ?_
            refine g_aload X1482 hx hby at_204 rfl rfl (pc' := 206) rfl ?_
            refine g_callV (argsL := []) (S := []) (a := b1482) X1482 hx hby hZ1482 (y := (⟨"java/lang/String", "length", "()I"⟩ : MethodName)) (y' := (⟨"java/lang/String", "length", "()I"⟩ : MethodName)) hown1482 (hw _ (List.mem_of_getElem? (i := 86) rfl)) (hw _ (List.mem_of_getElem? (i := 37) rfl)) (notFace_of_selects (args := #[]) (mvT hZ1482 (hw _ (List.mem_of_getElem? (i := 39) rfl)))) (hw _ (List.mem_of_getElem? (i := 39) rfl)) (hw _ (List.mem_of_getElem? (i := 38) rfl)) (hw _ (List.mem_of_getElem? (i := 8) rfl)) (hw _ (List.mem_of_getElem? (i := 40) rfl)) (by decide) LEr1482 (own_ln l Z a0 hw b1482 T1482.heap n0 0 (0 : Int32) (fun i => ([] : List Int32).getD i 0) rfl ⟨w1482, LEr1482, LVr1482, LCr1482, LAr1482⟩ cs q1484 hcs ) (by rw [hml]; rfl) (lenOf own_pd12 rfl) rfl at_206 (by decide) (W := 0) (by exact Nat.le_of_eq rfl) (by decide) (by decide) (by decide) (pc' := 209) rfl (fun T1494 v1494 X1494 hQ1494 => ?_)
            obtain ⟨rfl, e1494⟩ := hQ1494
            rw [e1494] at X1494
            show Gl p e below n0 _ _ (T1494.setTop (mkF m 209 #[.val (.int y0), .val (.int y1), .val (.int y2), .val (.int y3), .val (.int y4), .val (.int (4 : Int32)), .val (.ref b1235), .val (.ref b1282), .val (.ref b1340), .val (.int (3 : Int32)), .val (.int (0 : Int32)), .val (.ref b1482)] [(.int (0 : Int32))]))
            refine g_iload X1494 hx hby at_209 rfl (pc' := 211) rfl ?_
            refine g_icmp_eq X1494 hx hby at_211 (by decide) (pc' := 216) (by decide) (pc2 := 214) rfl (fun c211_1495 => ?_) (fun q => absurd (by decide) q)
            refine g_iconst (v := 0) X1494 hx hby at_216 rfl (pc' := 217) rfl ?_
            refine g_iload X1494 hx hby at_217 rfl (pc' := 219) rfl ?_
            refine g_icmp_ge X1494 hx hby at_219 (by decide) (pc' := 240) (by decide) (pc2 := 222) rfl (fun c219_1496 => ?_) (fun q => absurd q (by decide))
            refine g_iconst (v := 1) X1494 hx hby at_240 rfl (pc' := 241) rfl ?_
            refine g_iload X1494 hx hby at_241 rfl (pc' := 243) rfl ?_
            refine g_icmp_ge X1494 hx hby at_243 (by decide) (pc' := 264) (by decide) (pc2 := 246) rfl (fun c243_1497 => ?_) (fun q => absurd q (by decide))
            refine g_iconst (v := 2) X1494 hx hby at_264 rfl (pc' := 265) rfl ?_
            refine g_iload X1494 hx hby at_265 rfl (pc' := 267) rfl ?_
            refine g_icmp_ge X1494 hx hby at_267 (by decide) (pc' := 288) (by decide) (pc2 := 270) rfl (fun c267_1498 => ?_) (fun q => absurd q (by decide))
            refine g_iconst (v := 3) X1494 hx hby at_288 rfl (pc' := 289) rfl ?_
            refine g_iload X1494 hx hby at_289 rfl (pc' := 291) rfl ?_
            refine g_icmp_ge X1494 hx hby at_291 (by decide) (pc' := 312) (by decide) (pc2 := 294) rfl (fun c291_1499 => ?_) (fun q => absurd q (by decide))
            refine g_iconst (v := 1) X1494 hx hby at_312 rfl (pc' := 313) rfl ?_
            exact gw_retN X1494 hx hby hS1482 hk1482 hret hlk (by simp) at_313 rfl (by decide) (by decide)
        · refine g_iconst (v := 2) X1358 hx hby at_167 rfl (pc' := 168) rfl ?_
          refine g_istore (L' := #[.val (.int y0), .val (.int y1), .val (.int y2), .val (.int y3), .val (.int y4), .val (.int (4 : Int32)), .val (.ref b1235), .val (.ref b1282), .val (.ref b1340), .val (.int (2 : Int32)), .unset, .unset]) X1358 hx hby at_168 rfl (pc' := 170) rfl ?_
          refine g_iload X1358 hx hby at_170 rfl (pc' := 172) rfl ?_
          refine g_iconst (v := 3) X1358 hx hby at_172 rfl (pc' := 173) rfl ?_
          refine g_icmp_le X1358 hx hby at_173 (by decide) (pc' := 188) (by decide) (pc2 := 176) rfl (fun q => absurd (by decide) q) (fun c173_1500 => ?_)
          refine g_aload X1358 hx hby at_176 rfl rfl (pc' := 178) rfl ?_
          refine g_iconst (v := 3) X1358 hx hby at_178 rfl (pc' := 179) rfl ?_
          refine g_caload (i := 3) (v := (.int k1272)) X1358 hx hby hZ q1366 (by decide) (by decide) rfl at_179 (pc' := 180) rfl ?_
          refine g_bipush (v := 46) X1358 hx hby at_180 rfl (pc' := 182) rfl ?_
          refine g_icmp_ne X1358 hx hby at_182 (by decide) (pc' := 188) (by decide) (pc2 := 185) rfl (fun c182_1501 => ?_) (fun c182_1501 => ?_)
          · refine g_iload X1358 hx hby at_188 rfl (pc' := 190) rfl ?_
            refine g_iload X1358 hx hby at_190 rfl (pc' := 192) rfl ?_
            refine g_isub X1358 hx hby at_192 (pc' := 193) rfl ?_
            refine g_iconst (v := 1) X1358 hx hby at_193 rfl (pc' := 194) rfl ?_
            refine g_isub X1358 hx hby at_194 (pc' := 195) rfl ?_
            refine g_istore (L' := #[.val (.int y0), .val (.int y1), .val (.int y2), .val (.int y3), .val (.int y4), .val (.int (4 : Int32)), .val (.ref b1235), .val (.ref b1282), .val (.ref b1340), .val (.int (2 : Int32)), .val (.int (((4 : Int32) - (2 : Int32)) - (1 : Int32))), .unset]) X1358 hx hby at_195 rfl (pc' := 197) rfl ?_
            have em : (((4 : Int32) - (2 : Int32)) - (1 : Int32)) = (1 : Int32) := by decide
            rw [em]
            refine g_aload X1358 hx hby at_197 rfl rfl (pc' := 199) rfl ?_
            have hno1503 : ∀ j : Nat, ((2 : Int32)).toInt < (j : Int) → j < 4 → ¬ (fun i => own_y ((own_cf k1245 k1254 k1263 k1272) i)) j = 46 := by
              intro j h1 h2
              have e1 : ((2 : Int32)).toInt = 2 := rfl
              have h8 : j = 3 := by omega
              rcases h8 with rfl
              · exact fun q => c182_1501 ((own_dot rg1272).mp q)
            refine g_callS (argsL := [(.ref b1340)]) (S := []) X1358 hx hby hZ (y := (⟨"com/example/hifadhi/hifadhi/mapping/QualifiedName", "unqualified", "(Ljava/lang/String;)Ljava/lang/String;"⟩ : MethodName)) hown (hw _ (List.mem_of_getElem? (i := 27) rfl)) (hw _ (List.mem_of_getElem? (i := 28) rfl)) (hw _ (List.mem_of_getElem? (i := 29) rfl)) (hw _ (List.mem_of_getElem? (i := 30) rfl)) (by decide) (own_uqB l Z a0 hw b1340 T1358.heap n0 4 (4 : Int32) (fun i => own_y ((own_cf k1245 k1254 k1263 k1272) i)) rfl ⟨w1358, LEn1358, LVn1358, LCn1358, LAn1358⟩ cs q1364 hcs fm q1365 hfm (2 : Int32) ⟨by decide, by decide⟩ (fun _ => show own_y k1263 = 46 from (own_dot rg1263).mpr c164_1456) hno1503 (by decide) (fun i _ => fits_nar_byte _) 3 (by decide) (by decide) (by decide) zz1369) (by rw [hml]; rfl) (lenOf own_pd23 rfl) rfl at_199 (by decide) (W := 0) (by exact Nat.le_of_eq rfl) (by decide) (by decide) (by decide) (pc' := 202) rfl (fun T1502 v1502 X1502 hQ1502 => ?_)
            obtain ⟨b1502, rfl, ka1502, la1502⟩ := hQ1502
            have q1504 := own_sta_keep q1364 ka1502 all0
            have q1505 := own_sta_keep q1365 ka1502 all0
            have q1506 := q1366.keep ka1502 nin0
            have q1507 := q1367.keep ka1502 nin0
            have q1508 := LEn1358.keep ka1502
            have q1509 := LVn1358.keep ka1502 nin0
            have q1510 := LCn1358.keep ka1502 nin0
            have q1511 := LAn1358.keep ka1502 nin0
            have zz1512 := Nat.le_trans zz1369 ka1502.1
            have hk1513 := Nat.le_trans hk1370 ka1502.1
            have kk1514 : Keep h0 T1502.heap [] := kk1371.trans ka1502 all0
            have lb1502 : Lat Z T1502.heap b1502 1 (fun i => own_y ((own_cf k1245 k1254 k1263 k1272) (3 + i))) := la1502
            obtain ⟨w1502, LEr1502, LVr1502, LCr1502, LAr1502⟩ := lb1502
            show Gl p e below n0 _ _ (T1502.setTop (mkF m 202 #[.val (.int y0), .val (.int y1), .val (.int y2), .val (.int y3), .val (.int y4), .val (.int (4 : Int32)), .val (.ref b1235), .val (.ref b1282), .val (.ref b1340), .val (.int (2 : Int32)), .val (.int (1 : Int32)), .unset] [(.ref b1502)]))
            refine g_astore (L' := #[.val (.int y0), .val (.int y1), .val (.int y2), .val (.int y3), .val (.int y4), .val (.int (4 : Int32)), .val (.ref b1235), .val (.ref b1282), .val (.ref b1340), .val (.int (2 : Int32)), .val (.int (1 : Int32)), .val (.ref b1502)]) X1502 hx hby at_202 rfl rfl (pc' := 204) rfl ?_
            refine g_aload X1502 hx hby at_204 rfl rfl (pc' := 206) rfl ?_
            refine g_callV (argsL := []) (S := []) (a := b1502) X1502 hx hby hZ (y := (⟨"java/lang/String", "length", "()I"⟩ : MethodName)) (y' := (⟨"java/lang/String", "length", "()I"⟩ : MethodName)) hown (hw _ (List.mem_of_getElem? (i := 86) rfl)) (hw _ (List.mem_of_getElem? (i := 37) rfl)) (notFace_of_selects (args := #[]) (mvT hZ (hw _ (List.mem_of_getElem? (i := 39) rfl)))) (hw _ (List.mem_of_getElem? (i := 39) rfl)) (hw _ (List.mem_of_getElem? (i := 38) rfl)) (hw _ (List.mem_of_getElem? (i := 8) rfl)) (hw _ (List.mem_of_getElem? (i := 40) rfl)) (by decide) LEr1502 (own_ln l Z a0 hw b1502 T1502.heap n0 1 (1 : Int32) (fun i => own_y ((own_cf k1245 k1254 k1263 k1272) (3 + i))) rfl ⟨w1502, LEr1502, LVr1502, LCr1502, LAr1502⟩ cs q1504 hcs ) (by rw [hml]; rfl) (lenOf own_pd12 rfl) rfl at_206 (by decide) (W := 0) (by exact Nat.le_of_eq rfl) (by decide) (by decide) (by decide) (pc' := 209) rfl (fun T1515 v1515 X1515 hQ1515 => ?_)
            obtain ⟨rfl, e1515⟩ := hQ1515
            rw [e1515] at X1515
            show Gl p e below n0 _ _ (T1515.setTop (mkF m 209 #[.val (.int y0), .val (.int y1), .val (.int y2), .val (.int y3), .val (.int y4), .val (.int (4 : Int32)), .val (.ref b1235), .val (.ref b1282), .val (.ref b1340), .val (.int (2 : Int32)), .val (.int (1 : Int32)), .val (.ref b1502)] [(.int (1 : Int32))]))
            refine g_iload X1515 hx hby at_209 rfl (pc' := 211) rfl ?_
            refine g_icmp_eq X1515 hx hby at_211 (by decide) (pc' := 216) (by decide) (pc2 := 214) rfl (fun c211_1516 => ?_) (fun q => absurd (by decide) q)
            refine g_iconst (v := 0) X1515 hx hby at_216 rfl (pc' := 217) rfl ?_
            refine g_iload X1515 hx hby at_217 rfl (pc' := 219) rfl ?_
            refine g_icmp_ge X1515 hx hby at_219 (by decide) (pc' := 240) (by decide) (pc2 := 222) rfl (fun q => absurd (by decide) q) (fun c219_1517 => ?_)
            refine g_aload X1515 hx hby at_222 rfl rfl (pc' := 224) rfl ?_
            refine g_iconst (v := 0) X1515 hx hby at_224 rfl (pc' := 225) rfl ?_
            refine g_callV (argsL := [(.int (0 : Int32))]) (S := []) (a := b1502) X1515 hx hby hZ (y := (⟨"java/lang/String", "charAt", "(I)C"⟩ : MethodName)) (y' := (⟨"java/lang/String", "charAt", "(I)C"⟩ : MethodName)) hown (hw _ (List.mem_of_getElem? (i := 119) rfl)) (hw _ (List.mem_of_getElem? (i := 120) rfl)) (notFace_of_selects (args := #[]) (mvT hZ (hw _ (List.mem_of_getElem? (i := 122) rfl)))) (hw _ (List.mem_of_getElem? (i := 122) rfl)) (hw _ (List.mem_of_getElem? (i := 121) rfl)) (hw _ (List.mem_of_getElem? (i := 8) rfl)) (hw _ (List.mem_of_getElem? (i := 123) rfl)) (by decide) LEr1502 (own_ca l Z a0 hw b1502 (0 : Int32) T1502.heap n0 1 (1 : Int32) (fun i => own_y ((own_cf k1245 k1254 k1263 k1272) (3 + i))) rfl ⟨w1502, LEr1502, LVr1502, LCr1502, LAr1502⟩ cs q1504 hcs 0 rfl (by decide) fm q1505 hfm) (by rw [hml]; rfl) (lenOf own_pd21 rfl) rfl at_225 (by decide) (W := 0) (by exact Nat.le_of_eq rfl) (by decide) (by decide) (by decide) (pc' := 228) rfl (fun T1518 v1518 X1518 hQ1518 => ?_)
            obtain ⟨rfl, e1518⟩ := hQ1518
            rw [e1518] at X1518
            show Gl p e below n0 _ _ (T1518.setTop (mkF m 228 #[.val (.int y0), .val (.int y1), .val (.int y2), .val (.int y3), .val (.int y4), .val (.int (4 : Int32)), .val (.ref b1235), .val (.ref b1282), .val (.ref b1340), .val (.int (2 : Int32)), .val (.int (1 : Int32)), .val (.ref b1502)] [(.int (((fun i => own_y ((own_cf k1245 k1254 k1263 k1272) (3 + i)))) 0 &&& (255 : Int32)))]))
            refine g_aload X1518 hx hby at_228 rfl rfl (pc' := 230) rfl ?_
            refine g_iload X1518 hx hby at_230 rfl (pc' := 232) rfl ?_
            refine g_iconst (v := 1) X1518 hx hby at_232 rfl (pc' := 233) rfl ?_
            refine g_iadd X1518 hx hby at_233 (pc' := 234) rfl ?_
            refine g_caload (i := 3) (v := (.int k1272)) X1518 hx hby hZ q1506 (by decide) (by decide) rfl at_234 (pc' := 235) rfl ?_
            refine g_icmp_eq X1518 hx hby at_235 (by decide) (pc' := 240) (by decide) (pc2 := 238) rfl (fun c235_1519 => ?_) (fun q => absurd (show own_y k1272 &&& 255 = k1272 from own_chr_y rg1272) q)
            refine g_iconst (v := 1) X1518 hx hby at_240 rfl (pc' := 241) rfl ?_
            refine g_iload X1518 hx hby at_241 rfl (pc' := 243) rfl ?_
            refine g_icmp_ge X1518 hx hby at_243 (by decide) (pc' := 264) (by decide) (pc2 := 246) rfl (fun c243_1520 => ?_) (fun q => absurd q (by decide))
            refine g_iconst (v := 2) X1518 hx hby at_264 rfl (pc' := 265) rfl ?_
            refine g_iload X1518 hx hby at_265 rfl (pc' := 267) rfl ?_
            refine g_icmp_ge X1518 hx hby at_267 (by decide) (pc' := 288) (by decide) (pc2 := 270) rfl (fun c267_1521 => ?_) (fun q => absurd q (by decide))
            refine g_iconst (v := 3) X1518 hx hby at_288 rfl (pc' := 289) rfl ?_
            refine g_iload X1518 hx hby at_289 rfl (pc' := 291) rfl ?_
            refine g_icmp_ge X1518 hx hby at_291 (by decide) (pc' := 312) (by decide) (pc2 := 294) rfl (fun c291_1522 => ?_) (fun q => absurd q (by decide))
            refine g_iconst (v := 1) X1518 hx hby at_312 rfl (pc' := 313) rfl ?_
            exact gw_retN X1518 hx hby hS hk1513 hret hlk (by simp) at_313 rfl (by decide) (by decide)
          · refine g_iconst (v := 3) X1358 hx hby at_185 rfl (pc' := 186) rfl ?_
            refine g_istore (L' := #[.val (.int y0), .val (.int y1), .val (.int y2), .val (.int y3), .val (.int y4), .val (.int (4 : Int32)), .val (.ref b1235), .val (.ref b1282), .val (.ref b1340), .val (.int (3 : Int32)), .unset, .unset]) X1358 hx hby at_186 rfl (pc' := 188) rfl ?_
            refine g_iload X1358 hx hby at_188 rfl (pc' := 190) rfl ?_
            refine g_iload X1358 hx hby at_190 rfl (pc' := 192) rfl ?_
            refine g_isub X1358 hx hby at_192 (pc' := 193) rfl ?_
            refine g_iconst (v := 1) X1358 hx hby at_193 rfl (pc' := 194) rfl ?_
            refine g_isub X1358 hx hby at_194 (pc' := 195) rfl ?_
            refine g_istore (L' := #[.val (.int y0), .val (.int y1), .val (.int y2), .val (.int y3), .val (.int y4), .val (.int (4 : Int32)), .val (.ref b1235), .val (.ref b1282), .val (.ref b1340), .val (.int (3 : Int32)), .val (.int (((4 : Int32) - (3 : Int32)) - (1 : Int32))), .unset]) X1358 hx hby at_195 rfl (pc' := 197) rfl ?_
            have em : (((4 : Int32) - (3 : Int32)) - (1 : Int32)) = (0 : Int32) := by decide
            rw [em]
            refine g_aload X1358 hx hby at_197 rfl rfl (pc' := 199) rfl ?_
            have hno1524 : ∀ j : Nat, ((3 : Int32)).toInt < (j : Int) → j < 4 → ¬ (fun i => own_y ((own_cf k1245 k1254 k1263 k1272) i)) j = 46 := by
              intro j h1 h2
              have e1 : ((3 : Int32)).toInt = 3 := rfl
              exfalso; omega
            refine gh_callS (argsL := [(.ref b1340)]) (S := []) X1358 hx hby hZ hS hk1370 (own_hEL hw) ch1363 own_nss (y := (⟨"com/example/hifadhi/hifadhi/mapping/QualifiedName", "unqualified", "(Ljava/lang/String;)Ljava/lang/String;"⟩ : MethodName)) hown (hw _ (List.mem_of_getElem? (i := 27) rfl)) (hw _ (List.mem_of_getElem? (i := 28) rfl)) (hw _ (List.mem_of_getElem? (i := 29) rfl)) (hw _ (List.mem_of_getElem? (i := 30) rfl)) (by decide) (own_uqC l Z a0 hw b1340 T1358.heap n0 4 (4 : Int32) (fun i => own_y ((own_cf k1245 k1254 k1263 k1272) i)) rfl ⟨w1358, LEn1358, LVn1358, LCn1358, LAn1358⟩ cs q1364 hcs fm q1365 hfm (3 : Int32) ⟨by decide, by decide⟩ (fun _ => show own_y k1272 = 46 from (own_dot rg1272).mpr c182_1501) hno1524 (by decide) (by decide) zz1369) (by rw [hml]; rfl) (lenOf own_pd23 rfl) rfl at_199 (by decide) (W := 0) (by exact Nat.le_of_eq rfl) (by decide) (by decide) (by decide) (pc' := 202) rfl (fun T1523 v1523 k1523 X1523 hS1523 hk1523 hZ1523 hown1523 hC1523 hD1523 hQ1523 => ?_)
            obtain ⟨b1523, rfl, ka1523, la1523⟩ := hQ1523
            have q1525 := own_sta_keep q1364 ka1523 all0
            have q1526 := own_sta_keep q1365 ka1523 all0
            have q1527 := q1366.keep ka1523 nin0
            have q1528 := q1367.keep ka1523 nin0
            have q1529 := LEn1358.keep ka1523
            have q1530 := LVn1358.keep ka1523 nin0
            have q1531 := LCn1358.keep ka1523 nin0
            have q1532 := LAn1358.keep ka1523 nin0
            have zz1533 := Nat.le_trans zz1369 ka1523.1
            have kk1534 : Keep h0 T1523.heap [] := kk1371.trans ka1523 all0
            have lb1523 : Lat Z T1523.heap b1523 0 (fun i => ([] : List Int32).getD i 0) := la1523
            obtain ⟨w1523, LEr1523, LVr1523, LCr1523, LAr1523⟩ := lb1523
            show Gl p e below n0 _ _ (T1523.setTop (mkF m 202 #[.val (.int y0), .val (.int y1), .val (.int y2), .val (.int y3), .val (.int y4), .val (.int (4 : Int32)), .val (.ref b1235), .val (.ref b1282), .val (.ref b1340), .val (.int (3 : Int32)), .val (.int (0 : Int32)), .unset] [(.ref b1523)]))
            refine g_astore (L' := #[.val (.int y0), .val (.int y1), .val (.int y2), .val (.int y3), .val (.int y4), .val (.int (4 : Int32)), .val (.ref b1235), .val (.ref b1282), .val (.ref b1340), .val (.int (3 : Int32)), .val (.int (0 : Int32)), .val (.ref b1523)]) X1523 hx hby at_202 rfl rfl (pc' := 204) rfl ?_
            refine g_aload X1523 hx hby at_204 rfl rfl (pc' := 206) rfl ?_
            refine g_callV (argsL := []) (S := []) (a := b1523) X1523 hx hby hZ1523 (y := (⟨"java/lang/String", "length", "()I"⟩ : MethodName)) (y' := (⟨"java/lang/String", "length", "()I"⟩ : MethodName)) hown1523 (hw _ (List.mem_of_getElem? (i := 86) rfl)) (hw _ (List.mem_of_getElem? (i := 37) rfl)) (notFace_of_selects (args := #[]) (mvT hZ1523 (hw _ (List.mem_of_getElem? (i := 39) rfl)))) (hw _ (List.mem_of_getElem? (i := 39) rfl)) (hw _ (List.mem_of_getElem? (i := 38) rfl)) (hw _ (List.mem_of_getElem? (i := 8) rfl)) (hw _ (List.mem_of_getElem? (i := 40) rfl)) (by decide) LEr1523 (own_ln l Z a0 hw b1523 T1523.heap n0 0 (0 : Int32) (fun i => ([] : List Int32).getD i 0) rfl ⟨w1523, LEr1523, LVr1523, LCr1523, LAr1523⟩ cs q1525 hcs ) (by rw [hml]; rfl) (lenOf own_pd12 rfl) rfl at_206 (by decide) (W := 0) (by exact Nat.le_of_eq rfl) (by decide) (by decide) (by decide) (pc' := 209) rfl (fun T1535 v1535 X1535 hQ1535 => ?_)
            obtain ⟨rfl, e1535⟩ := hQ1535
            rw [e1535] at X1535
            show Gl p e below n0 _ _ (T1535.setTop (mkF m 209 #[.val (.int y0), .val (.int y1), .val (.int y2), .val (.int y3), .val (.int y4), .val (.int (4 : Int32)), .val (.ref b1235), .val (.ref b1282), .val (.ref b1340), .val (.int (3 : Int32)), .val (.int (0 : Int32)), .val (.ref b1523)] [(.int (0 : Int32))]))
            refine g_iload X1535 hx hby at_209 rfl (pc' := 211) rfl ?_
            refine g_icmp_eq X1535 hx hby at_211 (by decide) (pc' := 216) (by decide) (pc2 := 214) rfl (fun c211_1536 => ?_) (fun q => absurd (by decide) q)
            refine g_iconst (v := 0) X1535 hx hby at_216 rfl (pc' := 217) rfl ?_
            refine g_iload X1535 hx hby at_217 rfl (pc' := 219) rfl ?_
            refine g_icmp_ge X1535 hx hby at_219 (by decide) (pc' := 240) (by decide) (pc2 := 222) rfl (fun c219_1537 => ?_) (fun q => absurd q (by decide))
            refine g_iconst (v := 1) X1535 hx hby at_240 rfl (pc' := 241) rfl ?_
            refine g_iload X1535 hx hby at_241 rfl (pc' := 243) rfl ?_
            refine g_icmp_ge X1535 hx hby at_243 (by decide) (pc' := 264) (by decide) (pc2 := 246) rfl (fun c243_1538 => ?_) (fun q => absurd q (by decide))
            refine g_iconst (v := 2) X1535 hx hby at_264 rfl (pc' := 265) rfl ?_
            refine g_iload X1535 hx hby at_265 rfl (pc' := 267) rfl ?_
            refine g_icmp_ge X1535 hx hby at_267 (by decide) (pc' := 288) (by decide) (pc2 := 270) rfl (fun c267_1539 => ?_) (fun q => absurd q (by decide))
            refine g_iconst (v := 3) X1535 hx hby at_288 rfl (pc' := 289) rfl ?_
            refine g_iload X1535 hx hby at_289 rfl (pc' := 291) rfl ?_
            refine g_icmp_ge X1535 hx hby at_291 (by decide) (pc' := 312) (by decide) (pc2 := 294) rfl (fun c291_1540 => ?_) (fun q => absurd q (by decide))
            refine g_iconst (v := 1) X1535 hx hby at_312 rfl (pc' := 313) rfl ?_
            exact gw_retN X1535 hx hby hS1523 hk1523 hret hlk (by simp) at_313 rfl (by decide) (by decide)
    · refine g_iconst (v := 0) X1358 hx hby at_131 rfl (pc' := 132) rfl ?_
      refine g_istore (L' := #[.val (.int y0), .val (.int y1), .val (.int y2), .val (.int y3), .val (.int y4), .val (.int (4 : Int32)), .val (.ref b1235), .val (.ref b1282), .val (.ref b1340), .val (.int (0 : Int32)), .unset, .unset]) X1358 hx hby at_132 rfl (pc' := 134) rfl ?_
      refine g_iload X1358 hx hby at_134 rfl (pc' := 136) rfl ?_
      refine g_iconst (v := 1) X1358 hx hby at_136 rfl (pc' := 137) rfl ?_
      refine g_icmp_le X1358 hx hby at_137 (by decide) (pc' := 152) (by decide) (pc2 := 140) rfl (fun q => absurd (by decide) q) (fun c137_1541 => ?_)
      refine g_aload X1358 hx hby at_140 rfl rfl (pc' := 142) rfl ?_
      refine g_iconst (v := 1) X1358 hx hby at_142 rfl (pc' := 143) rfl ?_
      refine g_caload (i := 1) (v := (.int k1254)) X1358 hx hby hZ q1366 (by decide) (by decide) rfl at_143 (pc' := 144) rfl ?_
      refine g_bipush (v := 46) X1358 hx hby at_144 rfl (pc' := 146) rfl ?_
      refine g_icmp_ne X1358 hx hby at_146 (by decide) (pc' := 152) (by decide) (pc2 := 149) rfl (fun c146_1542 => ?_) (fun c146_1542 => ?_)
      · refine g_iload X1358 hx hby at_152 rfl (pc' := 154) rfl ?_
        refine g_iconst (v := 2) X1358 hx hby at_154 rfl (pc' := 155) rfl ?_
        refine g_icmp_le X1358 hx hby at_155 (by decide) (pc' := 170) (by decide) (pc2 := 158) rfl (fun q => absurd (by decide) q) (fun c155_1543 => ?_)
        refine g_aload X1358 hx hby at_158 rfl rfl (pc' := 160) rfl ?_
        refine g_iconst (v := 2) X1358 hx hby at_160 rfl (pc' := 161) rfl ?_
        refine g_caload (i := 2) (v := (.int k1263)) X1358 hx hby hZ q1366 (by decide) (by decide) rfl at_161 (pc' := 162) rfl ?_
        refine g_bipush (v := 46) X1358 hx hby at_162 rfl (pc' := 164) rfl ?_
        refine g_icmp_ne X1358 hx hby at_164 (by decide) (pc' := 170) (by decide) (pc2 := 167) rfl (fun c164_1544 => ?_) (fun c164_1544 => ?_)
        · refine g_iload X1358 hx hby at_170 rfl (pc' := 172) rfl ?_
          refine g_iconst (v := 3) X1358 hx hby at_172 rfl (pc' := 173) rfl ?_
          refine g_icmp_le X1358 hx hby at_173 (by decide) (pc' := 188) (by decide) (pc2 := 176) rfl (fun q => absurd (by decide) q) (fun c173_1545 => ?_)
          refine g_aload X1358 hx hby at_176 rfl rfl (pc' := 178) rfl ?_
          refine g_iconst (v := 3) X1358 hx hby at_178 rfl (pc' := 179) rfl ?_
          refine g_caload (i := 3) (v := (.int k1272)) X1358 hx hby hZ q1366 (by decide) (by decide) rfl at_179 (pc' := 180) rfl ?_
          refine g_bipush (v := 46) X1358 hx hby at_180 rfl (pc' := 182) rfl ?_
          refine g_icmp_ne X1358 hx hby at_182 (by decide) (pc' := 188) (by decide) (pc2 := 185) rfl (fun c182_1546 => ?_) (fun c182_1546 => ?_)
          · refine g_iload X1358 hx hby at_188 rfl (pc' := 190) rfl ?_
            refine g_iload X1358 hx hby at_190 rfl (pc' := 192) rfl ?_
            refine g_isub X1358 hx hby at_192 (pc' := 193) rfl ?_
            refine g_iconst (v := 1) X1358 hx hby at_193 rfl (pc' := 194) rfl ?_
            refine g_isub X1358 hx hby at_194 (pc' := 195) rfl ?_
            refine g_istore (L' := #[.val (.int y0), .val (.int y1), .val (.int y2), .val (.int y3), .val (.int y4), .val (.int (4 : Int32)), .val (.ref b1235), .val (.ref b1282), .val (.ref b1340), .val (.int (0 : Int32)), .val (.int (((4 : Int32) - (0 : Int32)) - (1 : Int32))), .unset]) X1358 hx hby at_195 rfl (pc' := 197) rfl ?_
            have em : (((4 : Int32) - (0 : Int32)) - (1 : Int32)) = (3 : Int32) := by decide
            rw [em]
            refine g_aload X1358 hx hby at_197 rfl rfl (pc' := 199) rfl ?_
            have hno1548 : ∀ j : Nat, ((0 : Int32)).toInt < (j : Int) → j < 4 → ¬ (fun i => own_y ((own_cf k1245 k1254 k1263 k1272) i)) j = 46 := by
              intro j h1 h2
              have e1 : ((0 : Int32)).toInt = 0 := rfl
              have h8 : j = 1 ∨ j = 2 ∨ j = 3 := by omega
              rcases h8 with rfl | rfl | rfl
              · exact fun q => c146_1542 ((own_dot rg1254).mp q)
              · exact fun q => c164_1544 ((own_dot rg1263).mp q)
              · exact fun q => c182_1546 ((own_dot rg1272).mp q)
            refine g_callS (argsL := [(.ref b1340)]) (S := []) X1358 hx hby hZ (y := (⟨"com/example/hifadhi/hifadhi/mapping/QualifiedName", "unqualified", "(Ljava/lang/String;)Ljava/lang/String;"⟩ : MethodName)) hown (hw _ (List.mem_of_getElem? (i := 27) rfl)) (hw _ (List.mem_of_getElem? (i := 28) rfl)) (hw _ (List.mem_of_getElem? (i := 29) rfl)) (hw _ (List.mem_of_getElem? (i := 30) rfl)) (by decide) (own_uqB l Z a0 hw b1340 T1358.heap n0 4 (4 : Int32) (fun i => own_y ((own_cf k1245 k1254 k1263 k1272) i)) rfl ⟨w1358, LEn1358, LVn1358, LCn1358, LAn1358⟩ cs q1364 hcs fm q1365 hfm (0 : Int32) ⟨by decide, by decide⟩ (fun _ => show own_y k1245 = 46 from (own_dot rg1245).mpr c128_1373) hno1548 (by decide) (fun i _ => fits_nar_byte _) 1 (by decide) (by decide) (by decide) zz1369) (by rw [hml]; rfl) (lenOf own_pd23 rfl) rfl at_199 (by decide) (W := 0) (by exact Nat.le_of_eq rfl) (by decide) (by decide) (by decide) (pc' := 202) rfl (fun T1547 v1547 X1547 hQ1547 => ?_)
            obtain ⟨b1547, rfl, ka1547, la1547⟩ := hQ1547
            have q1549 := own_sta_keep q1364 ka1547 all0
            have q1550 := own_sta_keep q1365 ka1547 all0
            have q1551 := q1366.keep ka1547 nin0
            have q1552 := q1367.keep ka1547 nin0
            have q1553 := LEn1358.keep ka1547
            have q1554 := LVn1358.keep ka1547 nin0
            have q1555 := LCn1358.keep ka1547 nin0
            have q1556 := LAn1358.keep ka1547 nin0
            have zz1557 := Nat.le_trans zz1369 ka1547.1
            have hk1558 := Nat.le_trans hk1370 ka1547.1
            have kk1559 : Keep h0 T1547.heap [] := kk1371.trans ka1547 all0
            have lb1547 : Lat Z T1547.heap b1547 3 (fun i => own_y ((own_cf k1245 k1254 k1263 k1272) (1 + i))) := la1547
            obtain ⟨w1547, LEr1547, LVr1547, LCr1547, LAr1547⟩ := lb1547
            show Gl p e below n0 _ _ (T1547.setTop (mkF m 202 #[.val (.int y0), .val (.int y1), .val (.int y2), .val (.int y3), .val (.int y4), .val (.int (4 : Int32)), .val (.ref b1235), .val (.ref b1282), .val (.ref b1340), .val (.int (0 : Int32)), .val (.int (3 : Int32)), .unset] [(.ref b1547)]))
            refine g_astore (L' := #[.val (.int y0), .val (.int y1), .val (.int y2), .val (.int y3), .val (.int y4), .val (.int (4 : Int32)), .val (.ref b1235), .val (.ref b1282), .val (.ref b1340), .val (.int (0 : Int32)), .val (.int (3 : Int32)), .val (.ref b1547)]) X1547 hx hby at_202 rfl rfl (pc' := 204) rfl ?_
            refine g_aload X1547 hx hby at_204 rfl rfl (pc' := 206) rfl ?_
            refine g_callV (argsL := []) (S := []) (a := b1547) X1547 hx hby hZ (y := (⟨"java/lang/String", "length", "()I"⟩ : MethodName)) (y' := (⟨"java/lang/String", "length", "()I"⟩ : MethodName)) hown (hw _ (List.mem_of_getElem? (i := 86) rfl)) (hw _ (List.mem_of_getElem? (i := 37) rfl)) (notFace_of_selects (args := #[]) (mvT hZ (hw _ (List.mem_of_getElem? (i := 39) rfl)))) (hw _ (List.mem_of_getElem? (i := 39) rfl)) (hw _ (List.mem_of_getElem? (i := 38) rfl)) (hw _ (List.mem_of_getElem? (i := 8) rfl)) (hw _ (List.mem_of_getElem? (i := 40) rfl)) (by decide) LEr1547 (own_ln l Z a0 hw b1547 T1547.heap n0 3 (3 : Int32) (fun i => own_y ((own_cf k1245 k1254 k1263 k1272) (1 + i))) rfl ⟨w1547, LEr1547, LVr1547, LCr1547, LAr1547⟩ cs q1549 hcs ) (by rw [hml]; rfl) (lenOf own_pd12 rfl) rfl at_206 (by decide) (W := 0) (by exact Nat.le_of_eq rfl) (by decide) (by decide) (by decide) (pc' := 209) rfl (fun T1560 v1560 X1560 hQ1560 => ?_)
            obtain ⟨rfl, e1560⟩ := hQ1560
            rw [e1560] at X1560
            show Gl p e below n0 _ _ (T1560.setTop (mkF m 209 #[.val (.int y0), .val (.int y1), .val (.int y2), .val (.int y3), .val (.int y4), .val (.int (4 : Int32)), .val (.ref b1235), .val (.ref b1282), .val (.ref b1340), .val (.int (0 : Int32)), .val (.int (3 : Int32)), .val (.ref b1547)] [(.int (3 : Int32))]))
            refine g_iload X1560 hx hby at_209 rfl (pc' := 211) rfl ?_
            refine g_icmp_eq X1560 hx hby at_211 (by decide) (pc' := 216) (by decide) (pc2 := 214) rfl (fun c211_1561 => ?_) (fun q => absurd (by decide) q)
            refine g_iconst (v := 0) X1560 hx hby at_216 rfl (pc' := 217) rfl ?_
            refine g_iload X1560 hx hby at_217 rfl (pc' := 219) rfl ?_
            refine g_icmp_ge X1560 hx hby at_219 (by decide) (pc' := 240) (by decide) (pc2 := 222) rfl (fun q => absurd (by decide) q) (fun c219_1562 => ?_)
            refine g_aload X1560 hx hby at_222 rfl rfl (pc' := 224) rfl ?_
            refine g_iconst (v := 0) X1560 hx hby at_224 rfl (pc' := 225) rfl ?_
            refine g_callV (argsL := [(.int (0 : Int32))]) (S := []) (a := b1547) X1560 hx hby hZ (y := (⟨"java/lang/String", "charAt", "(I)C"⟩ : MethodName)) (y' := (⟨"java/lang/String", "charAt", "(I)C"⟩ : MethodName)) hown (hw _ (List.mem_of_getElem? (i := 119) rfl)) (hw _ (List.mem_of_getElem? (i := 120) rfl)) (notFace_of_selects (args := #[]) (mvT hZ (hw _ (List.mem_of_getElem? (i := 122) rfl)))) (hw _ (List.mem_of_getElem? (i := 122) rfl)) (hw _ (List.mem_of_getElem? (i := 121) rfl)) (hw _ (List.mem_of_getElem? (i := 8) rfl)) (hw _ (List.mem_of_getElem? (i := 123) rfl)) (by decide) LEr1547 (own_ca l Z a0 hw b1547 (0 : Int32) T1547.heap n0 3 (3 : Int32) (fun i => own_y ((own_cf k1245 k1254 k1263 k1272) (1 + i))) rfl ⟨w1547, LEr1547, LVr1547, LCr1547, LAr1547⟩ cs q1549 hcs 0 rfl (by decide) fm q1550 hfm) (by rw [hml]; rfl) (lenOf own_pd21 rfl) rfl at_225 (by decide) (W := 0) (by exact Nat.le_of_eq rfl) (by decide) (by decide) (by decide) (pc' := 228) rfl (fun T1563 v1563 X1563 hQ1563 => ?_)
            obtain ⟨rfl, e1563⟩ := hQ1563
            rw [e1563] at X1563
            show Gl p e below n0 _ _ (T1563.setTop (mkF m 228 #[.val (.int y0), .val (.int y1), .val (.int y2), .val (.int y3), .val (.int y4), .val (.int (4 : Int32)), .val (.ref b1235), .val (.ref b1282), .val (.ref b1340), .val (.int (0 : Int32)), .val (.int (3 : Int32)), .val (.ref b1547)] [(.int (((fun i => own_y ((own_cf k1245 k1254 k1263 k1272) (1 + i)))) 0 &&& (255 : Int32)))]))
            refine g_aload X1563 hx hby at_228 rfl rfl (pc' := 230) rfl ?_
            refine g_iload X1563 hx hby at_230 rfl (pc' := 232) rfl ?_
            refine g_iconst (v := 1) X1563 hx hby at_232 rfl (pc' := 233) rfl ?_
            refine g_iadd X1563 hx hby at_233 (pc' := 234) rfl ?_
            refine g_caload (i := 1) (v := (.int k1254)) X1563 hx hby hZ q1551 (by decide) (by decide) rfl at_234 (pc' := 235) rfl ?_
            refine g_icmp_eq X1563 hx hby at_235 (by decide) (pc' := 240) (by decide) (pc2 := 238) rfl (fun c235_1564 => ?_) (fun q => absurd (show own_y k1254 &&& 255 = k1254 from own_chr_y rg1254) q)
            refine g_iconst (v := 1) X1563 hx hby at_240 rfl (pc' := 241) rfl ?_
            refine g_iload X1563 hx hby at_241 rfl (pc' := 243) rfl ?_
            refine g_icmp_ge X1563 hx hby at_243 (by decide) (pc' := 264) (by decide) (pc2 := 246) rfl (fun q => absurd (by decide) q) (fun c243_1565 => ?_)
            refine g_aload X1563 hx hby at_246 rfl rfl (pc' := 248) rfl ?_
            refine g_iconst (v := 1) X1563 hx hby at_248 rfl (pc' := 249) rfl ?_
            refine g_callV (argsL := [(.int (1 : Int32))]) (S := []) (a := b1547) X1563 hx hby hZ (y := (⟨"java/lang/String", "charAt", "(I)C"⟩ : MethodName)) (y' := (⟨"java/lang/String", "charAt", "(I)C"⟩ : MethodName)) hown (hw _ (List.mem_of_getElem? (i := 119) rfl)) (hw _ (List.mem_of_getElem? (i := 120) rfl)) (notFace_of_selects (args := #[]) (mvT hZ (hw _ (List.mem_of_getElem? (i := 122) rfl)))) (hw _ (List.mem_of_getElem? (i := 122) rfl)) (hw _ (List.mem_of_getElem? (i := 121) rfl)) (hw _ (List.mem_of_getElem? (i := 8) rfl)) (hw _ (List.mem_of_getElem? (i := 123) rfl)) (by decide) LEr1547 (own_ca l Z a0 hw b1547 (1 : Int32) T1547.heap n0 3 (3 : Int32) (fun i => own_y ((own_cf k1245 k1254 k1263 k1272) (1 + i))) rfl ⟨w1547, LEr1547, LVr1547, LCr1547, LAr1547⟩ cs q1549 hcs 1 rfl (by decide) fm q1550 hfm) (by rw [hml]; rfl) (lenOf own_pd21 rfl) rfl at_249 (by decide) (W := 0) (by exact Nat.le_of_eq rfl) (by decide) (by decide) (by decide) (pc' := 252) rfl (fun T1566 v1566 X1566 hQ1566 => ?_)
            obtain ⟨rfl, e1566⟩ := hQ1566
            rw [e1566] at X1566
            show Gl p e below n0 _ _ (T1566.setTop (mkF m 252 #[.val (.int y0), .val (.int y1), .val (.int y2), .val (.int y3), .val (.int y4), .val (.int (4 : Int32)), .val (.ref b1235), .val (.ref b1282), .val (.ref b1340), .val (.int (0 : Int32)), .val (.int (3 : Int32)), .val (.ref b1547)] [(.int (((fun i => own_y ((own_cf k1245 k1254 k1263 k1272) (1 + i)))) 1 &&& (255 : Int32)))]))
            refine g_aload X1566 hx hby at_252 rfl rfl (pc' := 254) rfl ?_
            refine g_iload X1566 hx hby at_254 rfl (pc' := 256) rfl ?_
            refine g_iconst (v := 2) X1566 hx hby at_256 rfl (pc' := 257) rfl ?_
            refine g_iadd X1566 hx hby at_257 (pc' := 258) rfl ?_
            refine g_caload (i := 2) (v := (.int k1263)) X1566 hx hby hZ q1551 (by decide) (by decide) rfl at_258 (pc' := 259) rfl ?_
            refine g_icmp_eq X1566 hx hby at_259 (by decide) (pc' := 264) (by decide) (pc2 := 262) rfl (fun c259_1567 => ?_) (fun q => absurd (show own_y k1263 &&& 255 = k1263 from own_chr_y rg1263) q)
            refine g_iconst (v := 2) X1566 hx hby at_264 rfl (pc' := 265) rfl ?_
            refine g_iload X1566 hx hby at_265 rfl (pc' := 267) rfl ?_
            refine g_icmp_ge X1566 hx hby at_267 (by decide) (pc' := 288) (by decide) (pc2 := 270) rfl (fun q => absurd (by decide) q) (fun c267_1568 => ?_)
            refine g_aload X1566 hx hby at_270 rfl rfl (pc' := 272) rfl ?_
            refine g_iconst (v := 2) X1566 hx hby at_272 rfl (pc' := 273) rfl ?_
            refine g_callV (argsL := [(.int (2 : Int32))]) (S := []) (a := b1547) X1566 hx hby hZ (y := (⟨"java/lang/String", "charAt", "(I)C"⟩ : MethodName)) (y' := (⟨"java/lang/String", "charAt", "(I)C"⟩ : MethodName)) hown (hw _ (List.mem_of_getElem? (i := 119) rfl)) (hw _ (List.mem_of_getElem? (i := 120) rfl)) (notFace_of_selects (args := #[]) (mvT hZ (hw _ (List.mem_of_getElem? (i := 122) rfl)))) (hw _ (List.mem_of_getElem? (i := 122) rfl)) (hw _ (List.mem_of_getElem? (i := 121) rfl)) (hw _ (List.mem_of_getElem? (i := 8) rfl)) (hw _ (List.mem_of_getElem? (i := 123) rfl)) (by decide) LEr1547 (own_ca l Z a0 hw b1547 (2 : Int32) T1547.heap n0 3 (3 : Int32) (fun i => own_y ((own_cf k1245 k1254 k1263 k1272) (1 + i))) rfl ⟨w1547, LEr1547, LVr1547, LCr1547, LAr1547⟩ cs q1549 hcs 2 rfl (by decide) fm q1550 hfm) (by rw [hml]; rfl) (lenOf own_pd21 rfl) rfl at_273 (by decide) (W := 0) (by exact Nat.le_of_eq rfl) (by decide) (by decide) (by decide) (pc' := 276) rfl (fun T1569 v1569 X1569 hQ1569 => ?_)
            obtain ⟨rfl, e1569⟩ := hQ1569
            rw [e1569] at X1569
            show Gl p e below n0 _ _ (T1569.setTop (mkF m 276 #[.val (.int y0), .val (.int y1), .val (.int y2), .val (.int y3), .val (.int y4), .val (.int (4 : Int32)), .val (.ref b1235), .val (.ref b1282), .val (.ref b1340), .val (.int (0 : Int32)), .val (.int (3 : Int32)), .val (.ref b1547)] [(.int (((fun i => own_y ((own_cf k1245 k1254 k1263 k1272) (1 + i)))) 2 &&& (255 : Int32)))]))
            refine g_aload X1569 hx hby at_276 rfl rfl (pc' := 278) rfl ?_
            refine g_iload X1569 hx hby at_278 rfl (pc' := 280) rfl ?_
            refine g_iconst (v := 3) X1569 hx hby at_280 rfl (pc' := 281) rfl ?_
            refine g_iadd X1569 hx hby at_281 (pc' := 282) rfl ?_
            refine g_caload (i := 3) (v := (.int k1272)) X1569 hx hby hZ q1551 (by decide) (by decide) rfl at_282 (pc' := 283) rfl ?_
            refine g_icmp_eq X1569 hx hby at_283 (by decide) (pc' := 288) (by decide) (pc2 := 286) rfl (fun c283_1570 => ?_) (fun q => absurd (show own_y k1272 &&& 255 = k1272 from own_chr_y rg1272) q)
            refine g_iconst (v := 3) X1569 hx hby at_288 rfl (pc' := 289) rfl ?_
            refine g_iload X1569 hx hby at_289 rfl (pc' := 291) rfl ?_
            refine g_icmp_ge X1569 hx hby at_291 (by decide) (pc' := 312) (by decide) (pc2 := 294) rfl (fun c291_1571 => ?_) (fun q => absurd q (by decide))
            refine g_iconst (v := 1) X1569 hx hby at_312 rfl (pc' := 313) rfl ?_
            exact gw_retN X1569 hx hby hS hk1558 hret hlk (by simp) at_313 rfl (by decide) (by decide)
          · refine g_iconst (v := 3) X1358 hx hby at_185 rfl (pc' := 186) rfl ?_
            refine g_istore (L' := #[.val (.int y0), .val (.int y1), .val (.int y2), .val (.int y3), .val (.int y4), .val (.int (4 : Int32)), .val (.ref b1235), .val (.ref b1282), .val (.ref b1340), .val (.int (3 : Int32)), .unset, .unset]) X1358 hx hby at_186 rfl (pc' := 188) rfl ?_
            refine g_iload X1358 hx hby at_188 rfl (pc' := 190) rfl ?_
            refine g_iload X1358 hx hby at_190 rfl (pc' := 192) rfl ?_
            refine g_isub X1358 hx hby at_192 (pc' := 193) rfl ?_
            refine g_iconst (v := 1) X1358 hx hby at_193 rfl (pc' := 194) rfl ?_
            refine g_isub X1358 hx hby at_194 (pc' := 195) rfl ?_
            refine g_istore (L' := #[.val (.int y0), .val (.int y1), .val (.int y2), .val (.int y3), .val (.int y4), .val (.int (4 : Int32)), .val (.ref b1235), .val (.ref b1282), .val (.ref b1340), .val (.int (3 : Int32)), .val (.int (((4 : Int32) - (3 : Int32)) - (1 : Int32))), .unset]) X1358 hx hby at_195 rfl (pc' := 197) rfl ?_
            have em : (((4 : Int32) - (3 : Int32)) - (1 : Int32)) = (0 : Int32) := by decide
            rw [em]
            refine g_aload X1358 hx hby at_197 rfl rfl (pc' := 199) rfl ?_
            have hno1573 : ∀ j : Nat, ((3 : Int32)).toInt < (j : Int) → j < 4 → ¬ (fun i => own_y ((own_cf k1245 k1254 k1263 k1272) i)) j = 46 := by
              intro j h1 h2
              have e1 : ((3 : Int32)).toInt = 3 := rfl
              exfalso; omega
            refine gh_callS (argsL := [(.ref b1340)]) (S := []) X1358 hx hby hZ hS hk1370 (own_hEL hw) ch1363 own_nss (y := (⟨"com/example/hifadhi/hifadhi/mapping/QualifiedName", "unqualified", "(Ljava/lang/String;)Ljava/lang/String;"⟩ : MethodName)) hown (hw _ (List.mem_of_getElem? (i := 27) rfl)) (hw _ (List.mem_of_getElem? (i := 28) rfl)) (hw _ (List.mem_of_getElem? (i := 29) rfl)) (hw _ (List.mem_of_getElem? (i := 30) rfl)) (by decide) (own_uqC l Z a0 hw b1340 T1358.heap n0 4 (4 : Int32) (fun i => own_y ((own_cf k1245 k1254 k1263 k1272) i)) rfl ⟨w1358, LEn1358, LVn1358, LCn1358, LAn1358⟩ cs q1364 hcs fm q1365 hfm (3 : Int32) ⟨by decide, by decide⟩ (fun _ => show own_y k1272 = 46 from (own_dot rg1272).mpr c182_1546) hno1573 (by decide) (by decide) zz1369) (by rw [hml]; rfl) (lenOf own_pd23 rfl) rfl at_199 (by decide) (W := 0) (by exact Nat.le_of_eq rfl) (by decide) (by decide) (by decide) (pc' := 202) rfl (fun T1572 v1572 k1572 X1572 hS1572 hk1572 hZ1572 hown1572 hC1572 hD1572 hQ1572 => ?_)
            obtain ⟨b1572, rfl, ka1572, la1572⟩ := hQ1572
            have q1574 := own_sta_keep q1364 ka1572 all0
            have q1575 := own_sta_keep q1365 ka1572 all0
            have q1576 := q1366.keep ka1572 nin0
            have q1577 := q1367.keep ka1572 nin0
            have q1578 := LEn1358.keep ka1572
            have q1579 := LVn1358.keep ka1572 nin0
            have q1580 := LCn1358.keep ka1572 nin0
            have q1581 := LAn1358.keep ka1572 nin0
            have zz1582 := Nat.le_trans zz1369 ka1572.1
            have kk1583 : Keep h0 T1572.heap [] := kk1371.trans ka1572 all0
            have lb1572 : Lat Z T1572.heap b1572 0 (fun i => ([] : List Int32).getD i 0) := la1572
            obtain ⟨w1572, LEr1572, LVr1572, LCr1572, LAr1572⟩ := lb1572
            show Gl p e below n0 _ _ (T1572.setTop (mkF m 202 #[.val (.int y0), .val (.int y1), .val (.int y2), .val (.int y3), .val (.int y4), .val (.int (4 : Int32)), .val (.ref b1235), .val (.ref b1282), .val (.ref b1340), .val (.int (3 : Int32)), .val (.int (0 : Int32)), .unset] [(.ref b1572)]))
            refine g_astore (L' := #[.val (.int y0), .val (.int y1), .val (.int y2), .val (.int y3), .val (.int y4), .val (.int (4 : Int32)), .val (.ref b1235), .val (.ref b1282), .val (.ref b1340), .val (.int (3 : Int32)), .val (.int (0 : Int32)), .val (.ref b1572)]) X1572 hx hby at_202 rfl rfl (pc' := 204) rfl ?_
            refine g_aload X1572 hx hby at_204 rfl rfl (pc' := 206) rfl ?_
            refine g_callV (argsL := []) (S := []) (a := b1572) X1572 hx hby hZ1572 (y := (⟨"java/lang/String", "length", "()I"⟩ : MethodName)) (y' := (⟨"java/lang/String", "length", "()I"⟩ : MethodName)) hown1572 (hw _ (List.mem_of_getElem? (i := 86) rfl)) (hw _ (List.mem_of_getElem? (i := 37) rfl)) (notFace_of_selects (args := #[]) (mvT hZ1572 (hw _ (List.mem_of_getElem? (i := 39) rfl)))) (hw _ (List.mem_of_getElem? (i := 39) rfl)) (hw _ (List.mem_of_getElem? (i := 38) rfl)) (hw _ (List.mem_of_getElem? (i := 8) rfl)) (hw _ (List.mem_of_getElem? (i := 40) rfl)) (by decide) LEr1572 (own_ln l Z a0 hw b1572 T1572.heap n0 0 (0 : Int32) (fun i => ([] : List Int32).getD i 0) rfl ⟨w1572, LEr1572, LVr1572, LCr1572, LAr1572⟩ cs q1574 hcs ) (by rw [hml]; rfl) (lenOf own_pd12 rfl) rfl at_206 (by decide) (W := 0) (by exact Nat.le_of_eq rfl) (by decide) (by decide) (by decide) (pc' := 209) rfl (fun T1584 v1584 X1584 hQ1584 => ?_)
            obtain ⟨rfl, e1584⟩ := hQ1584
            rw [e1584] at X1584
            show Gl p e below n0 _ _ (T1584.setTop (mkF m 209 #[.val (.int y0), .val (.int y1), .val (.int y2), .val (.int y3), .val (.int y4), .val (.int (4 : Int32)), .val (.ref b1235), .val (.ref b1282), .val (.ref b1340), .val (.int (3 : Int32)), .val (.int (0 : Int32)), .val (.ref b1572)] [(.int (0 : Int32))]))
            refine g_iload X1584 hx hby at_209 rfl (pc' := 211) rfl ?_
            refine g_icmp_eq X1584 hx hby at_211 (by decide) (pc' := 216) (by decide) (pc2 := 214) rfl (fun c211_1585 => ?_) (fun q => absurd (by decide) q)
            refine g_iconst (v := 0) X1584 hx hby at_216 rfl (pc' := 217) rfl ?_
            refine g_iload X1584 hx hby at_217 rfl (pc' := 219) rfl ?_
            refine g_icmp_ge X1584 hx hby at_219 (by decide) (pc' := 240) (by decide) (pc2 := 222) rfl (fun c219_1586 => ?_) (fun q => absurd q (by decide))
            refine g_iconst (v := 1) X1584 hx hby at_240 rfl (pc' := 241) rfl ?_
            refine g_iload X1584 hx hby at_241 rfl (pc' := 243) rfl ?_
            refine g_icmp_ge X1584 hx hby at_243 (by decide) (pc' := 264) (by decide) (pc2 := 246) rfl (fun c243_1587 => ?_) (fun q => absurd q (by decide))
            refine g_iconst (v := 2) X1584 hx hby at_264 rfl (pc' := 265) rfl ?_
            refine g_iload X1584 hx hby at_265 rfl (pc' := 267) rfl ?_
            refine g_icmp_ge X1584 hx hby at_267 (by decide) (pc' := 288) (by decide) (pc2 := 270) rfl (fun c267_1588 => ?_) (fun q => absurd q (by decide))
            refine g_iconst (v := 3) X1584 hx hby at_288 rfl (pc' := 289) rfl ?_
            refine g_iload X1584 hx hby at_289 rfl (pc' := 291) rfl ?_
            refine g_icmp_ge X1584 hx hby at_291 (by decide) (pc' := 312) (by decide) (pc2 := 294) rfl (fun c291_1589 => ?_) (fun q => absurd q (by decide))
            refine g_iconst (v := 1) X1584 hx hby at_312 rfl (pc' := 313) rfl ?_
            exact gw_retN X1584 hx hby hS1572 hk1572 hret hlk (by simp) at_313 rfl (by decide) (by decide)
        · refine g_iconst (v := 2) X1358 hx hby at_167 rfl (pc' := 168) rfl ?_
          refine g_istore (L' := #[.val (.int y0), .val (.int y1), .val (.int y2), .val (.int y3), .val (.int y4), .val (.int (4 : Int32)), .val (.ref b1235), .val (.ref b1282), .val (.ref b1340), .val (.int (2 : Int32)), .unset, .unset]) X1358 hx hby at_168 rfl (pc' := 170) rfl ?_
          refine g_iload X1358 hx hby at_170 rfl (pc' := 172) rfl ?_
          refine g_iconst (v := 3) X1358 hx hby at_172 rfl (pc' := 173) rfl ?_
          refine g_icmp_le X1358 hx hby at_173 (by decide) (pc' := 188) (by decide) (pc2 := 176) rfl (fun q => absurd (by decide) q) (fun c173_1590 => ?_)
          refine g_aload X1358 hx hby at_176 rfl rfl (pc' := 178) rfl ?_
          refine g_iconst (v := 3) X1358 hx hby at_178 rfl (pc' := 179) rfl ?_
          refine g_caload (i := 3) (v := (.int k1272)) X1358 hx hby hZ q1366 (by decide) (by decide) rfl at_179 (pc' := 180) rfl ?_
          refine g_bipush (v := 46) X1358 hx hby at_180 rfl (pc' := 182) rfl ?_
          refine g_icmp_ne X1358 hx hby at_182 (by decide) (pc' := 188) (by decide) (pc2 := 185) rfl (fun c182_1591 => ?_) (fun c182_1591 => ?_)
          · refine g_iload X1358 hx hby at_188 rfl (pc' := 190) rfl ?_
            refine g_iload X1358 hx hby at_190 rfl (pc' := 192) rfl ?_
            refine g_isub X1358 hx hby at_192 (pc' := 193) rfl ?_
            refine g_iconst (v := 1) X1358 hx hby at_193 rfl (pc' := 194) rfl ?_
            refine g_isub X1358 hx hby at_194 (pc' := 195) rfl ?_
            refine g_istore (L' := #[.val (.int y0), .val (.int y1), .val (.int y2), .val (.int y3), .val (.int y4), .val (.int (4 : Int32)), .val (.ref b1235), .val (.ref b1282), .val (.ref b1340), .val (.int (2 : Int32)), .val (.int (((4 : Int32) - (2 : Int32)) - (1 : Int32))), .unset]) X1358 hx hby at_195 rfl (pc' := 197) rfl ?_
            have em : (((4 : Int32) - (2 : Int32)) - (1 : Int32)) = (1 : Int32) := by decide
            rw [em]
            refine g_aload X1358 hx hby at_197 rfl rfl (pc' := 199) rfl ?_
            have hno1593 : ∀ j : Nat, ((2 : Int32)).toInt < (j : Int) → j < 4 → ¬ (fun i => own_y ((own_cf k1245 k1254 k1263 k1272) i)) j = 46 := by
              intro j h1 h2
              have e1 : ((2 : Int32)).toInt = 2 := rfl
              have h8 : j = 3 := by omega
              rcases h8 with rfl
              · exact fun q => c182_1591 ((own_dot rg1272).mp q)
            refine g_callS (argsL := [(.ref b1340)]) (S := []) X1358 hx hby hZ (y := (⟨"com/example/hifadhi/hifadhi/mapping/QualifiedName", "unqualified", "(Ljava/lang/String;)Ljava/lang/String;"⟩ : MethodName)) hown (hw _ (List.mem_of_getElem? (i := 27) rfl)) (hw _ (List.mem_of_getElem? (i := 28) rfl)) (hw _ (List.mem_of_getElem? (i := 29) rfl)) (hw _ (List.mem_of_getElem? (i := 30) rfl)) (by decide) (own_uqB l Z a0 hw b1340 T1358.heap n0 4 (4 : Int32) (fun i => own_y ((own_cf k1245 k1254 k1263 k1272) i)) rfl ⟨w1358, LEn1358, LVn1358, LCn1358, LAn1358⟩ cs q1364 hcs fm q1365 hfm (2 : Int32) ⟨by decide, by decide⟩ (fun _ => show own_y k1263 = 46 from (own_dot rg1263).mpr c164_1544) hno1593 (by decide) (fun i _ => fits_nar_byte _) 3 (by decide) (by decide) (by decide) zz1369) (by rw [hml]; rfl) (lenOf own_pd23 rfl) rfl at_199 (by decide) (W := 0) (by exact Nat.le_of_eq rfl) (by decide) (by decide) (by decide) (pc' := 202) rfl (fun T1592 v1592 X1592 hQ1592 => ?_)
            obtain ⟨b1592, rfl, ka1592, la1592⟩ := hQ1592
            have q1594 := own_sta_keep q1364 ka1592 all0
            have q1595 := own_sta_keep q1365 ka1592 all0
            have q1596 := q1366.keep ka1592 nin0
            have q1597 := q1367.keep ka1592 nin0
            have q1598 := LEn1358.keep ka1592
            have q1599 := LVn1358.keep ka1592 nin0
            have q1600 := LCn1358.keep ka1592 nin0
            have q1601 := LAn1358.keep ka1592 nin0
            have zz1602 := Nat.le_trans zz1369 ka1592.1
            have hk1603 := Nat.le_trans hk1370 ka1592.1
            have kk1604 : Keep h0 T1592.heap [] := kk1371.trans ka1592 all0
            have lb1592 : Lat Z T1592.heap b1592 1 (fun i => own_y ((own_cf k1245 k1254 k1263 k1272) (3 + i))) := la1592
            obtain ⟨w1592, LEr1592, LVr1592, LCr1592, LAr1592⟩ := lb1592
            show Gl p e below n0 _ _ (T1592.setTop (mkF m 202 #[.val (.int y0), .val (.int y1), .val (.int y2), .val (.int y3), .val (.int y4), .val (.int (4 : Int32)), .val (.ref b1235), .val (.ref b1282), .val (.ref b1340), .val (.int (2 : Int32)), .val (.int (1 : Int32)), .unset] [(.ref b1592)]))
            refine g_astore (L' := #[.val (.int y0), .val (.int y1), .val (.int y2), .val (.int y3), .val (.int y4), .val (.int (4 : Int32)), .val (.ref b1235), .val (.ref b1282), .val (.ref b1340), .val (.int (2 : Int32)), .val (.int (1 : Int32)), .val (.ref b1592)]) X1592 hx hby at_202 rfl rfl (pc' := 204) rfl ?_
            refine g_aload X1592 hx hby at_204 rfl rfl (pc' := 206) rfl ?_
            refine g_callV (argsL := []) (S := []) (a := b1592) X1592 hx hby hZ (y := (⟨"java/lang/String", "length", "()I"⟩ : MethodName)) (y' := (⟨"java/lang/String", "length", "()I"⟩ : MethodName)) hown (hw _ (List.mem_of_getElem? (i := 86) rfl)) (hw _ (List.mem_of_getElem? (i := 37) rfl)) (notFace_of_selects (args := #[]) (mvT hZ (hw _ (List.mem_of_getElem? (i := 39) rfl)))) (hw _ (List.mem_of_getElem? (i := 39) rfl)) (hw _ (List.mem_of_getElem? (i := 38) rfl)) (hw _ (List.mem_of_getElem? (i := 8) rfl)) (hw _ (List.mem_of_getElem? (i := 40) rfl)) (by decide) LEr1592 (own_ln l Z a0 hw b1592 T1592.heap n0 1 (1 : Int32) (fun i => own_y ((own_cf k1245 k1254 k1263 k1272) (3 + i))) rfl ⟨w1592, LEr1592, LVr1592, LCr1592, LAr1592⟩ cs q1594 hcs ) (by rw [hml]; rfl) (lenOf own_pd12 rfl) rfl at_206 (by decide) (W := 0) (by exact Nat.le_of_eq rfl) (by decide) (by decide) (by decide) (pc' := 209) rfl (fun T1605 v1605 X1605 hQ1605 => ?_)
            obtain ⟨rfl, e1605⟩ := hQ1605
            rw [e1605] at X1605
            show Gl p e below n0 _ _ (T1605.setTop (mkF m 209 #[.val (.int y0), .val (.int y1), .val (.int y2), .val (.int y3), .val (.int y4), .val (.int (4 : Int32)), .val (.ref b1235), .val (.ref b1282), .val (.ref b1340), .val (.int (2 : Int32)), .val (.int (1 : Int32)), .val (.ref b1592)] [(.int (1 : Int32))]))
            refine g_iload X1605 hx hby at_209 rfl (pc' := 211) rfl ?_
            refine g_icmp_eq X1605 hx hby at_211 (by decide) (pc' := 216) (by decide) (pc2 := 214) rfl (fun c211_1606 => ?_) (fun q => absurd (by decide) q)
            refine g_iconst (v := 0) X1605 hx hby at_216 rfl (pc' := 217) rfl ?_
            refine g_iload X1605 hx hby at_217 rfl (pc' := 219) rfl ?_
            refine g_icmp_ge X1605 hx hby at_219 (by decide) (pc' := 240) (by decide) (pc2 := 222) rfl (fun q => absurd (by decide) q) (fun c219_1607 => ?_)
            refine g_aload X1605 hx hby at_222 rfl rfl (pc' := 224) rfl ?_
            refine g_iconst (v := 0) X1605 hx hby at_224 rfl (pc' := 225) rfl ?_
            refine g_callV (argsL := [(.int (0 : Int32))]) (S := []) (a := b1592) X1605 hx hby hZ (y := (⟨"java/lang/String", "charAt", "(I)C"⟩ : MethodName)) (y' := (⟨"java/lang/String", "charAt", "(I)C"⟩ : MethodName)) hown (hw _ (List.mem_of_getElem? (i := 119) rfl)) (hw _ (List.mem_of_getElem? (i := 120) rfl)) (notFace_of_selects (args := #[]) (mvT hZ (hw _ (List.mem_of_getElem? (i := 122) rfl)))) (hw _ (List.mem_of_getElem? (i := 122) rfl)) (hw _ (List.mem_of_getElem? (i := 121) rfl)) (hw _ (List.mem_of_getElem? (i := 8) rfl)) (hw _ (List.mem_of_getElem? (i := 123) rfl)) (by decide) LEr1592 (own_ca l Z a0 hw b1592 (0 : Int32) T1592.heap n0 1 (1 : Int32) (fun i => own_y ((own_cf k1245 k1254 k1263 k1272) (3 + i))) rfl ⟨w1592, LEr1592, LVr1592, LCr1592, LAr1592⟩ cs q1594 hcs 0 rfl (by decide) fm q1595 hfm) (by rw [hml]; rfl) (lenOf own_pd21 rfl) rfl at_225 (by decide) (W := 0) (by exact Nat.le_of_eq rfl) (by decide) (by decide) (by decide) (pc' := 228) rfl (fun T1608 v1608 X1608 hQ1608 => ?_)
            obtain ⟨rfl, e1608⟩ := hQ1608
            rw [e1608] at X1608
            show Gl p e below n0 _ _ (T1608.setTop (mkF m 228 #[.val (.int y0), .val (.int y1), .val (.int y2), .val (.int y3), .val (.int y4), .val (.int (4 : Int32)), .val (.ref b1235), .val (.ref b1282), .val (.ref b1340), .val (.int (2 : Int32)), .val (.int (1 : Int32)), .val (.ref b1592)] [(.int (((fun i => own_y ((own_cf k1245 k1254 k1263 k1272) (3 + i)))) 0 &&& (255 : Int32)))]))
            refine g_aload X1608 hx hby at_228 rfl rfl (pc' := 230) rfl ?_
            refine g_iload X1608 hx hby at_230 rfl (pc' := 232) rfl ?_
            refine g_iconst (v := 1) X1608 hx hby at_232 rfl (pc' := 233) rfl ?_
            refine g_iadd X1608 hx hby at_233 (pc' := 234) rfl ?_
            refine g_caload (i := 3) (v := (.int k1272)) X1608 hx hby hZ q1596 (by decide) (by decide) rfl at_234 (pc' := 235) rfl ?_
            refine g_icmp_eq X1608 hx hby at_235 (by decide) (pc' := 240) (by decide) (pc2 := 238) rfl (fun c235_1609 => ?_) (fun q => absurd (show own_y k1272 &&& 255 = k1272 from own_chr_y rg1272) q)
            refine g_iconst (v := 1) X1608 hx hby at_240 rfl (pc' := 241) rfl ?_
            refine g_iload X1608 hx hby at_241 rfl (pc' := 243) rfl ?_
            refine g_icmp_ge X1608 hx hby at_243 (by decide) (pc' := 264) (by decide) (pc2 := 246) rfl (fun c243_1610 => ?_) (fun q => absurd q (by decide))
            refine g_iconst (v := 2) X1608 hx hby at_264 rfl (pc' := 265) rfl ?_
            refine g_iload X1608 hx hby at_265 rfl (pc' := 267) rfl ?_
            refine g_icmp_ge X1608 hx hby at_267 (by decide) (pc' := 288) (by decide) (pc2 := 270) rfl (fun c267_1611 => ?_) (fun q => absurd q (by decide))
            refine g_iconst (v := 3) X1608 hx hby at_288 rfl (pc' := 289) rfl ?_
            refine g_iload X1608 hx hby at_289 rfl (pc' := 291) rfl ?_
            refine g_icmp_ge X1608 hx hby at_291 (by decide) (pc' := 312) (by decide) (pc2 := 294) rfl (fun c291_1612 => ?_) (fun q => absurd q (by decide))
            refine g_iconst (v := 1) X1608 hx hby at_312 rfl (pc' := 313) rfl ?_
            exact gw_retN X1608 hx hby hS hk1603 hret hlk (by simp) at_313 rfl (by decide) (by decide)
          · refine g_iconst (v := 3) X1358 hx hby at_185 rfl (pc' := 186) rfl ?_
            refine g_istore (L' := #[.val (.int y0), .val (.int y1), .val (.int y2), .val (.int y3), .val (.int y4), .val (.int (4 : Int32)), .val (.ref b1235), .val (.ref b1282), .val (.ref b1340), .val (.int (3 : Int32)), .unset, .unset]) X1358 hx hby at_186 rfl (pc' := 188) rfl ?_
            refine g_iload X1358 hx hby at_188 rfl (pc' := 190) rfl ?_
            refine g_iload X1358 hx hby at_190 rfl (pc' := 192) rfl ?_
            refine g_isub X1358 hx hby at_192 (pc' := 193) rfl ?_
            refine g_iconst (v := 1) X1358 hx hby at_193 rfl (pc' := 194) rfl ?_
            refine g_isub X1358 hx hby at_194 (pc' := 195) rfl ?_
            refine g_istore (L' := #[.val (.int y0), .val (.int y1), .val (.int y2), .val (.int y3), .val (.int y4), .val (.int (4 : Int32)), .val (.ref b1235), .val (.ref b1282), .val (.ref b1340), .val (.int (3 : Int32)), .val (.int (((4 : Int32) - (3 : Int32)) - (1 : Int32))), .unset]) X1358 hx hby at_195 rfl (pc' := 197) rfl ?_
            have em : (((4 : Int32) - (3 : Int32)) - (1 : Int32)) = (0 : Int32) := by decide
            rw [em]
            refine g_aload X1358 hx hby at_197 rfl rfl (pc' := 199) rfl ?_
            have hno1614 : ∀ j : Nat, ((3 : Int32)).toInt < (j : Int) → j < 4 → ¬ (fun i => own_y ((own_cf k1245 k1254 k1263 k1272) i)) j = 46 := by
              intro j h1 h2
              have e1 : ((3 : Int32)).toInt = 3 := rfl
              exfalso; omega
            refine gh_callS (argsL := [(.ref b1340)]) (S := []) X1358 hx hby hZ hS hk1370 (own_hEL hw) ch1363 own_nss (y := (⟨"com/example/hifadhi/hifadhi/mapping/QualifiedName", "unqualified", "(Ljava/lang/String;)Ljava/lang/String;"⟩ : MethodName)) hown (hw _ (List.mem_of_getElem? (i := 27) rfl)) (hw _ (List.mem_of_getElem? (i := 28) rfl)) (hw _ (List.mem_of_getElem? (i := 29) rfl)) (hw _ (List.mem_of_getElem? (i := 30) rfl)) (by decide) (own_uqC l Z a0 hw b1340 T1358.heap n0 4 (4 : Int32) (fun i => own_y ((own_cf k1245 k1254 k1263 k1272) i)) rfl ⟨w1358, LEn1358, LVn1358, LCn1358, LAn1358⟩ cs q1364 hcs fm q1365 hfm (3 : Int32) ⟨by decide, by decide⟩ (fun _ => show own_y k1272 = 46 from (own_dot rg1272).mpr c182_1591) hno1614 (by decide) (by decide) zz1369) (by rw [hml]; rfl) (lenOf own_pd23 rfl) rfl at_199 (by decide) (W := 0) (by exact Nat.le_of_eq rfl) (by decide) (by decide) (by decide) (pc' := 202) rfl (fun T1613 v1613 k1613 X1613 hS1613 hk1613 hZ1613 hown1613 hC1613 hD1613 hQ1613 => ?_)
            obtain ⟨b1613, rfl, ka1613, la1613⟩ := hQ1613
            have q1615 := own_sta_keep q1364 ka1613 all0
            have q1616 := own_sta_keep q1365 ka1613 all0
            have q1617 := q1366.keep ka1613 nin0
            have q1618 := q1367.keep ka1613 nin0
            have q1619 := LEn1358.keep ka1613
            have q1620 := LVn1358.keep ka1613 nin0
            have q1621 := LCn1358.keep ka1613 nin0
            have q1622 := LAn1358.keep ka1613 nin0
            have zz1623 := Nat.le_trans zz1369 ka1613.1
            have kk1624 : Keep h0 T1613.heap [] := kk1371.trans ka1613 all0
            have lb1613 : Lat Z T1613.heap b1613 0 (fun i => ([] : List Int32).getD i 0) := la1613
            obtain ⟨w1613, LEr1613, LVr1613, LCr1613, LAr1613⟩ := lb1613
            show Gl p e below n0 _ _ (T1613.setTop (mkF m 202 #[.val (.int y0), .val (.int y1), .val (.int y2), .val (.int y3), .val (.int y4), .val (.int (4 : Int32)), .val (.ref b1235), .val (.ref b1282), .val (.ref b1340), .val (.int (3 : Int32)), .val (.int (0 : Int32)), .unset] [(.ref b1613)]))
            refine g_astore (L' := #[.val (.int y0), .val (.int y1), .val (.int y2), .val (.int y3), .val (.int y4), .val (.int (4 : Int32)), .val (.ref b1235), .val (.ref b1282), .val (.ref b1340), .val (.int (3 : Int32)), .val (.int (0 : Int32)), .val (.ref b1613)]) X1613 hx hby at_202 rfl rfl (pc' := 204) rfl ?_
            refine g_aload X1613 hx hby at_204 rfl rfl (pc' := 206) rfl ?_
            refine g_callV (argsL := []) (S := []) (a := b1613) X1613 hx hby hZ1613 (y := (⟨"java/lang/String", "length", "()I"⟩ : MethodName)) (y' := (⟨"java/lang/String", "length", "()I"⟩ : MethodName)) hown1613 (hw _ (List.mem_of_getElem? (i := 86) rfl)) (hw _ (List.mem_of_getElem? (i := 37) rfl)) (notFace_of_selects (args := #[]) (mvT hZ1613 (hw _ (List.mem_of_getElem? (i := 39) rfl)))) (hw _ (List.mem_of_getElem? (i := 39) rfl)) (hw _ (List.mem_of_getElem? (i := 38) rfl)) (hw _ (List.mem_of_getElem? (i := 8) rfl)) (hw _ (List.mem_of_getElem? (i := 40) rfl)) (by decide) LEr1613 (own_ln l Z a0 hw b1613 T1613.heap n0 0 (0 : Int32) (fun i => ([] : List Int32).getD i 0) rfl ⟨w1613, LEr1613, LVr1613, LCr1613, LAr1613⟩ cs q1615 hcs ) (by rw [hml]; rfl) (lenOf own_pd12 rfl) rfl at_206 (by decide) (W := 0) (by exact Nat.le_of_eq rfl) (by decide) (by decide) (by decide) (pc' := 209) rfl (fun T1625 v1625 X1625 hQ1625 => ?_)
            obtain ⟨rfl, e1625⟩ := hQ1625
            rw [e1625] at X1625
            show Gl p e below n0 _ _ (T1625.setTop (mkF m 209 #[.val (.int y0), .val (.int y1), .val (.int y2), .val (.int y3), .val (.int y4), .val (.int (4 : Int32)), .val (.ref b1235), .val (.ref b1282), .val (.ref b1340), .val (.int (3 : Int32)), .val (.int (0 : Int32)), .val (.ref b1613)] [(.int (0 : Int32))]))
            refine g_iload X1625 hx hby at_209 rfl (pc' := 211) rfl ?_
            refine g_icmp_eq X1625 hx hby at_211 (by decide) (pc' := 216) (by decide) (pc2 := 214) rfl (fun c211_1626 => ?_) (fun q => absurd (by decide) q)
            refine g_iconst (v := 0) X1625 hx hby at_216 rfl (pc' := 217) rfl ?_
            refine g_iload X1625 hx hby at_217 rfl (pc' := 219) rfl ?_
            refine g_icmp_ge X1625 hx hby at_219 (by decide) (pc' := 240) (by decide) (pc2 := 222) rfl (fun c219_1627 => ?_) (fun q => absurd q (by decide))
            refine g_iconst (v := 1) X1625 hx hby at_240 rfl (pc' := 241) rfl ?_
            refine g_iload X1625 hx hby at_241 rfl (pc' := 243) rfl ?_
            refine g_icmp_ge X1625 hx hby at_243 (by decide) (pc' := 264) (by decide) (pc2 := 246) rfl (fun c243_1628 => ?_) (fun q => absurd q (by decide))
            refine g_iconst (v := 2) X1625 hx hby at_264 rfl (pc' := 265) rfl ?_
            refine g_iload X1625 hx hby at_265 rfl (pc' := 267) rfl ?_
            refine g_icmp_ge X1625 hx hby at_267 (by decide) (pc' := 288) (by decide) (pc2 := 270) rfl (fun c267_1629 => ?_) (fun q => absurd q (by decide))
            refine g_iconst (v := 3) X1625 hx hby at_288 rfl (pc' := 289) rfl ?_
            refine g_iload X1625 hx hby at_289 rfl (pc' := 291) rfl ?_
            refine g_icmp_ge X1625 hx hby at_291 (by decide) (pc' := 312) (by decide) (pc2 := 294) rfl (fun c291_1630 => ?_) (fun q => absurd q (by decide))
            refine g_iconst (v := 1) X1625 hx hby at_312 rfl (pc' := 313) rfl ?_
            exact gw_retN X1625 hx hby hS1613 hk1613 hret hlk (by simp) at_313 rfl (by decide) (by decide)
      · refine g_iconst (v := 1) X1358 hx hby at_149 rfl (pc' := 150) rfl ?_
        refine g_istore (L' := #[.val (.int y0), .val (.int y1), .val (.int y2), .val (.int y3), .val (.int y4), .val (.int (4 : Int32)), .val (.ref b1235), .val (.ref b1282), .val (.ref b1340), .val (.int (1 : Int32)), .unset, .unset]) X1358 hx hby at_150 rfl (pc' := 152) rfl ?_
        refine g_iload X1358 hx hby at_152 rfl (pc' := 154) rfl ?_
        refine g_iconst (v := 2) X1358 hx hby at_154 rfl (pc' := 155) rfl ?_
        refine g_icmp_le X1358 hx hby at_155 (by decide) (pc' := 170) (by decide) (pc2 := 158) rfl (fun q => absurd (by decide) q) (fun c155_1631 => ?_)
        refine g_aload X1358 hx hby at_158 rfl rfl (pc' := 160) rfl ?_
        refine g_iconst (v := 2) X1358 hx hby at_160 rfl (pc' := 161) rfl ?_
        refine g_caload (i := 2) (v := (.int k1263)) X1358 hx hby hZ q1366 (by decide) (by decide) rfl at_161 (pc' := 162) rfl ?_
        refine g_bipush (v := 46) X1358 hx hby at_162 rfl (pc' := 164) rfl ?_
        refine g_icmp_ne X1358 hx hby at_164 (by decide) (pc' := 170) (by decide) (pc2 := 167) rfl (fun c164_1632 => ?_) (fun c164_1632 => ?_)
        · refine g_iload X1358 hx hby at_170 rfl (pc' := 172) rfl ?_
          refine g_iconst (v := 3) X1358 hx hby at_172 rfl (pc' := 173) rfl ?_
          refine g_icmp_le X1358 hx hby at_173 (by decide) (pc' := 188) (by decide) (pc2 := 176) rfl (fun q => absurd (by decide) q) (fun c173_1633 => ?_)
          refine g_aload X1358 hx hby at_176 rfl rfl (pc' := 178) rfl ?_
          refine g_iconst (v := 3) X1358 hx hby at_178 rfl (pc' := 179) rfl ?_
          refine g_caload (i := 3) (v := (.int k1272)) X1358 hx hby hZ q1366 (by decide) (by decide) rfl at_179 (pc' := 180) rfl ?_
          refine g_bipush (v := 46) X1358 hx hby at_180 rfl (pc' := 182) rfl ?_
          refine g_icmp_ne X1358 hx hby at_182 (by decide) (pc' := 188) (by decide) (pc2 := 185) rfl (fun c182_1634 => ?_) (fun c182_1634 => ?_)
          · refine g_iload X1358 hx hby at_188 rfl (pc' := 190) rfl ?_
            refine g_iload X1358 hx hby at_190 rfl (pc' := 192) rfl ?_
            refine g_isub X1358 hx hby at_192 (pc' := 193) rfl ?_
            refine g_iconst (v := 1) X1358 hx hby at_193 rfl (pc' := 194) rfl ?_
            refine g_isub X1358 hx hby at_194 (pc' := 195) rfl ?_
            refine g_istore (L' := #[.val (.int y0), .val (.int y1), .val (.int y2), .val (.int y3), .val (.int y4), .val (.int (4 : Int32)), .val (.ref b1235), .val (.ref b1282), .val (.ref b1340), .val (.int (1 : Int32)), .val (.int (((4 : Int32) - (1 : Int32)) - (1 : Int32))), .unset]) X1358 hx hby at_195 rfl (pc' := 197) rfl ?_
            have em : (((4 : Int32) - (1 : Int32)) - (1 : Int32)) = (2 : Int32) := by decide
            rw [em]
            refine g_aload X1358 hx hby at_197 rfl rfl (pc' := 199) rfl ?_
            have hno1636 : ∀ j : Nat, ((1 : Int32)).toInt < (j : Int) → j < 4 → ¬ (fun i => own_y ((own_cf k1245 k1254 k1263 k1272) i)) j = 46 := by
              intro j h1 h2
              have e1 : ((1 : Int32)).toInt = 1 := rfl
              have h8 : j = 2 ∨ j = 3 := by omega
              rcases h8 with rfl | rfl
              · exact fun q => c164_1632 ((own_dot rg1263).mp q)
              · exact fun q => c182_1634 ((own_dot rg1272).mp q)
            refine g_callS (argsL := [(.ref b1340)]) (S := []) X1358 hx hby hZ (y := (⟨"com/example/hifadhi/hifadhi/mapping/QualifiedName", "unqualified", "(Ljava/lang/String;)Ljava/lang/String;"⟩ : MethodName)) hown (hw _ (List.mem_of_getElem? (i := 27) rfl)) (hw _ (List.mem_of_getElem? (i := 28) rfl)) (hw _ (List.mem_of_getElem? (i := 29) rfl)) (hw _ (List.mem_of_getElem? (i := 30) rfl)) (by decide) (own_uqB l Z a0 hw b1340 T1358.heap n0 4 (4 : Int32) (fun i => own_y ((own_cf k1245 k1254 k1263 k1272) i)) rfl ⟨w1358, LEn1358, LVn1358, LCn1358, LAn1358⟩ cs q1364 hcs fm q1365 hfm (1 : Int32) ⟨by decide, by decide⟩ (fun _ => show own_y k1254 = 46 from (own_dot rg1254).mpr c146_1542) hno1636 (by decide) (fun i _ => fits_nar_byte _) 2 (by decide) (by decide) (by decide) zz1369) (by rw [hml]; rfl) (lenOf own_pd23 rfl) rfl at_199 (by decide) (W := 0) (by exact Nat.le_of_eq rfl) (by decide) (by decide) (by decide) (pc' := 202) rfl (fun T1635 v1635 X1635 hQ1635 => ?_)
            obtain ⟨b1635, rfl, ka1635, la1635⟩ := hQ1635
            have q1637 := own_sta_keep q1364 ka1635 all0
            have q1638 := own_sta_keep q1365 ka1635 all0
            have q1639 := q1366.keep ka1635 nin0
            have q1640 := q1367.keep ka1635 nin0
            have q1641 := LEn1358.keep ka1635
            have q1642 := LVn1358.keep ka1635 nin0
            have q1643 := LCn1358.keep ka1635 nin0
            have q1644 := LAn1358.keep ka1635 nin0
            have zz1645 := Nat.le_trans zz1369 ka1635.1
            have hk1646 := Nat.le_trans hk1370 ka1635.1
            have kk1647 : Keep h0 T1635.heap [] := kk1371.trans ka1635 all0
            have lb1635 : Lat Z T1635.heap b1635 2 (fun i => own_y ((own_cf k1245 k1254 k1263 k1272) (2 + i))) := la1635
            obtain ⟨w1635, LEr1635, LVr1635, LCr1635, LAr1635⟩ := lb1635
            show Gl p e below n0 _ _ (T1635.setTop (mkF m 202 #[.val (.int y0), .val (.int y1), .val (.int y2), .val (.int y3), .val (.int y4), .val (.int (4 : Int32)), .val (.ref b1235), .val (.ref b1282), .val (.ref b1340), .val (.int (1 : Int32)), .val (.int (2 : Int32)), .unset] [(.ref b1635)]))
            refine g_astore (L' := #[.val (.int y0), .val (.int y1), .val (.int y2), .val (.int y3), .val (.int y4), .val (.int (4 : Int32)), .val (.ref b1235), .val (.ref b1282), .val (.ref b1340), .val (.int (1 : Int32)), .val (.int (2 : Int32)), .val (.ref b1635)]) X1635 hx hby at_202 rfl rfl (pc' := 204) rfl ?_
            refine g_aload X1635 hx hby at_204 rfl rfl (pc' := 206) rfl ?_
            refine g_callV (argsL := []) (S := []) (a := b1635) X1635 hx hby hZ (y := (⟨"java/lang/String", "length", "()I"⟩ : MethodName)) (y' := (⟨"java/lang/String", "length", "()I"⟩ : MethodName)) hown (hw _ (List.mem_of_getElem? (i := 86) rfl)) (hw _ (List.mem_of_getElem? (i := 37) rfl)) (notFace_of_selects (args := #[]) (mvT hZ (hw _ (List.mem_of_getElem? (i := 39) rfl)))) (hw _ (List.mem_of_getElem? (i := 39) rfl)) (hw _ (List.mem_of_getElem? (i := 38) rfl)) (hw _ (List.mem_of_getElem? (i := 8) rfl)) (hw _ (List.mem_of_getElem? (i := 40) rfl)) (by decide) LEr1635 (own_ln l Z a0 hw b1635 T1635.heap n0 2 (2 : Int32) (fun i => own_y ((own_cf k1245 k1254 k1263 k1272) (2 + i))) rfl ⟨w1635, LEr1635, LVr1635, LCr1635, LAr1635⟩ cs q1637 hcs ) (by rw [hml]; rfl) (lenOf own_pd12 rfl) rfl at_206 (by decide) (W := 0) (by exact Nat.le_of_eq rfl) (by decide) (by decide) (by decide) (pc' := 209) rfl (fun T1648 v1648 X1648 hQ1648 => ?_)
            obtain ⟨rfl, e1648⟩ := hQ1648
            rw [e1648] at X1648
            show Gl p e below n0 _ _ (T1648.setTop (mkF m 209 #[.val (.int y0), .val (.int y1), .val (.int y2), .val (.int y3), .val (.int y4), .val (.int (4 : Int32)), .val (.ref b1235), .val (.ref b1282), .val (.ref b1340), .val (.int (1 : Int32)), .val (.int (2 : Int32)), .val (.ref b1635)] [(.int (2 : Int32))]))
            refine g_iload X1648 hx hby at_209 rfl (pc' := 211) rfl ?_
            refine g_icmp_eq X1648 hx hby at_211 (by decide) (pc' := 216) (by decide) (pc2 := 214) rfl (fun c211_1649 => ?_) (fun q => absurd (by decide) q)
            refine g_iconst (v := 0) X1648 hx hby at_216 rfl (pc' := 217) rfl ?_
            refine g_iload X1648 hx hby at_217 rfl (pc' := 219) rfl ?_
            refine g_icmp_ge X1648 hx hby at_219 (by decide) (pc' := 240) (by decide) (pc2 := 222) rfl (fun q => absurd (by decide) q) (fun c219_1650 => ?_)
            refine g_aload X1648 hx hby at_222 rfl rfl (pc' := 224) rfl ?_
            refine g_iconst (v := 0) X1648 hx hby at_224 rfl (pc' := 225) rfl ?_
            refine g_callV (argsL := [(.int (0 : Int32))]) (S := []) (a := b1635) X1648 hx hby hZ (y := (⟨"java/lang/String", "charAt", "(I)C"⟩ : MethodName)) (y' := (⟨"java/lang/String", "charAt", "(I)C"⟩ : MethodName)) hown (hw _ (List.mem_of_getElem? (i := 119) rfl)) (hw _ (List.mem_of_getElem? (i := 120) rfl)) (notFace_of_selects (args := #[]) (mvT hZ (hw _ (List.mem_of_getElem? (i := 122) rfl)))) (hw _ (List.mem_of_getElem? (i := 122) rfl)) (hw _ (List.mem_of_getElem? (i := 121) rfl)) (hw _ (List.mem_of_getElem? (i := 8) rfl)) (hw _ (List.mem_of_getElem? (i := 123) rfl)) (by decide) LEr1635 (own_ca l Z a0 hw b1635 (0 : Int32) T1635.heap n0 2 (2 : Int32) (fun i => own_y ((own_cf k1245 k1254 k1263 k1272) (2 + i))) rfl ⟨w1635, LEr1635, LVr1635, LCr1635, LAr1635⟩ cs q1637 hcs 0 rfl (by decide) fm q1638 hfm) (by rw [hml]; rfl) (lenOf own_pd21 rfl) rfl at_225 (by decide) (W := 0) (by exact Nat.le_of_eq rfl) (by decide) (by decide) (by decide) (pc' := 228) rfl (fun T1651 v1651 X1651 hQ1651 => ?_)
            obtain ⟨rfl, e1651⟩ := hQ1651
            rw [e1651] at X1651
            show Gl p e below n0 _ _ (T1651.setTop (mkF m 228 #[.val (.int y0), .val (.int y1), .val (.int y2), .val (.int y3), .val (.int y4), .val (.int (4 : Int32)), .val (.ref b1235), .val (.ref b1282), .val (.ref b1340), .val (.int (1 : Int32)), .val (.int (2 : Int32)), .val (.ref b1635)] [(.int (((fun i => own_y ((own_cf k1245 k1254 k1263 k1272) (2 + i)))) 0 &&& (255 : Int32)))]))
            refine g_aload X1651 hx hby at_228 rfl rfl (pc' := 230) rfl ?_
            refine g_iload X1651 hx hby at_230 rfl (pc' := 232) rfl ?_
            refine g_iconst (v := 1) X1651 hx hby at_232 rfl (pc' := 233) rfl ?_
            refine g_iadd X1651 hx hby at_233 (pc' := 234) rfl ?_
            refine g_caload (i := 2) (v := (.int k1263)) X1651 hx hby hZ q1639 (by decide) (by decide) rfl at_234 (pc' := 235) rfl ?_
            refine g_icmp_eq X1651 hx hby at_235 (by decide) (pc' := 240) (by decide) (pc2 := 238) rfl (fun c235_1652 => ?_) (fun q => absurd (show own_y k1263 &&& 255 = k1263 from own_chr_y rg1263) q)
            refine g_iconst (v := 1) X1651 hx hby at_240 rfl (pc' := 241) rfl ?_
            refine g_iload X1651 hx hby at_241 rfl (pc' := 243) rfl ?_
            refine g_icmp_ge X1651 hx hby at_243 (by decide) (pc' := 264) (by decide) (pc2 := 246) rfl (fun q => absurd (by decide) q) (fun c243_1653 => ?_)
            refine g_aload X1651 hx hby at_246 rfl rfl (pc' := 248) rfl ?_
            refine g_iconst (v := 1) X1651 hx hby at_248 rfl (pc' := 249) rfl ?_
            refine g_callV (argsL := [(.int (1 : Int32))]) (S := []) (a := b1635) X1651 hx hby hZ (y := (⟨"java/lang/String", "charAt", "(I)C"⟩ : MethodName)) (y' := (⟨"java/lang/String", "charAt", "(I)C"⟩ : MethodName)) hown (hw _ (List.mem_of_getElem? (i := 119) rfl)) (hw _ (List.mem_of_getElem? (i := 120) rfl)) (notFace_of_selects (args := #[]) (mvT hZ (hw _ (List.mem_of_getElem? (i := 122) rfl)))) (hw _ (List.mem_of_getElem? (i := 122) rfl)) (hw _ (List.mem_of_getElem? (i := 121) rfl)) (hw _ (List.mem_of_getElem? (i := 8) rfl)) (hw _ (List.mem_of_getElem? (i := 123) rfl)) (by decide) LEr1635 (own_ca l Z a0 hw b1635 (1 : Int32) T1635.heap n0 2 (2 : Int32) (fun i => own_y ((own_cf k1245 k1254 k1263 k1272) (2 + i))) rfl ⟨w1635, LEr1635, LVr1635, LCr1635, LAr1635⟩ cs q1637 hcs 1 rfl (by decide) fm q1638 hfm) (by rw [hml]; rfl) (lenOf own_pd21 rfl) rfl at_249 (by decide) (W := 0) (by exact Nat.le_of_eq rfl) (by decide) (by decide) (by decide) (pc' := 252) rfl (fun T1654 v1654 X1654 hQ1654 => ?_)
            obtain ⟨rfl, e1654⟩ := hQ1654
            rw [e1654] at X1654
            show Gl p e below n0 _ _ (T1654.setTop (mkF m 252 #[.val (.int y0), .val (.int y1), .val (.int y2), .val (.int y3), .val (.int y4), .val (.int (4 : Int32)), .val (.ref b1235), .val (.ref b1282), .val (.ref b1340), .val (.int (1 : Int32)), .val (.int (2 : Int32)), .val (.ref b1635)] [(.int (((fun i => own_y ((own_cf k1245 k1254 k1263 k1272) (2 + i)))) 1 &&& (255 : Int32)))]))
            refine g_aload X1654 hx hby at_252 rfl rfl (pc' := 254) rfl ?_
            refine g_iload X1654 hx hby at_254 rfl (pc' := 256) rfl ?_
            refine g_iconst (v := 2) X1654 hx hby at_256 rfl (pc' := 257) rfl ?_
            refine g_iadd X1654 hx hby at_257 (pc' := 258) rfl ?_
            refine g_caload (i := 3) (v := (.int k1272)) X1654 hx hby hZ q1639 (by decide) (by decide) rfl at_258 (pc' := 259) rfl ?_
            refine g_icmp_eq X1654 hx hby at_259 (by decide) (pc' := 264) (by decide) (pc2 := 262) rfl (fun c259_1655 => ?_) (fun q => absurd (show own_y k1272 &&& 255 = k1272 from own_chr_y rg1272) q)
            refine g_iconst (v := 2) X1654 hx hby at_264 rfl (pc' := 265) rfl ?_
            refine g_iload X1654 hx hby at_265 rfl (pc' := 267) rfl ?_
            refine g_icmp_ge X1654 hx hby at_267 (by decide) (pc' := 288) (by decide) (pc2 := 270) rfl (fun c267_1656 => ?_) (fun q => absurd q (by decide))
            refine g_iconst (v := 3) X1654 hx hby at_288 rfl (pc' := 289) rfl ?_
            refine g_iload X1654 hx hby at_289 rfl (pc' := 291) rfl ?_
            refine g_icmp_ge X1654 hx hby at_291 (by decide) (pc' := 312) (by decide) (pc2 := 294) rfl (fun c291_1657 => ?_) (fun q => absurd q (by decide))
            refine g_iconst (v := 1) X1654 hx hby at_312 rfl (pc' := 313) rfl ?_
            exact gw_retN X1654 hx hby hS hk1646 hret hlk (by simp) at_313 rfl (by decide) (by decide)
          · refine g_iconst (v := 3) X1358 hx hby at_185 rfl (pc' := 186) rfl ?_
            refine g_istore (L' := #[.val (.int y0), .val (.int y1), .val (.int y2), .val (.int y3), .val (.int y4), .val (.int (4 : Int32)), .val (.ref b1235), .val (.ref b1282), .val (.ref b1340), .val (.int (3 : Int32)), .unset, .unset]) X1358 hx hby at_186 rfl (pc' := 188) rfl ?_
            refine g_iload X1358 hx hby at_188 rfl (pc' := 190) rfl ?_
            refine g_iload X1358 hx hby at_190 rfl (pc' := 192) rfl ?_
            refine g_isub X1358 hx hby at_192 (pc' := 193) rfl ?_
            refine g_iconst (v := 1) X1358 hx hby at_193 rfl (pc' := 194) rfl ?_
            refine g_isub X1358 hx hby at_194 (pc' := 195) rfl ?_
            refine g_istore (L' := #[.val (.int y0), .val (.int y1), .val (.int y2), .val (.int y3), .val (.int y4), .val (.int (4 : Int32)), .val (.ref b1235), .val (.ref b1282), .val (.ref b1340), .val (.int (3 : Int32)), .val (.int (((4 : Int32) - (3 : Int32)) - (1 : Int32))), .unset]) X1358 hx hby at_195 rfl (pc' := 197) rfl ?_
            have em : (((4 : Int32) - (3 : Int32)) - (1 : Int32)) = (0 : Int32) := by decide
            rw [em]
            refine g_aload X1358 hx hby at_197 rfl rfl (pc' := 199) rfl ?_
            have hno1659 : ∀ j : Nat, ((3 : Int32)).toInt < (j : Int) → j < 4 → ¬ (fun i => own_y ((own_cf k1245 k1254 k1263 k1272) i)) j = 46 := by
              intro j h1 h2
              have e1 : ((3 : Int32)).toInt = 3 := rfl
              exfalso; omega
            refine gh_callS (argsL := [(.ref b1340)]) (S := []) X1358 hx hby hZ hS hk1370 (own_hEL hw) ch1363 own_nss (y := (⟨"com/example/hifadhi/hifadhi/mapping/QualifiedName", "unqualified", "(Ljava/lang/String;)Ljava/lang/String;"⟩ : MethodName)) hown (hw _ (List.mem_of_getElem? (i := 27) rfl)) (hw _ (List.mem_of_getElem? (i := 28) rfl)) (hw _ (List.mem_of_getElem? (i := 29) rfl)) (hw _ (List.mem_of_getElem? (i := 30) rfl)) (by decide) (own_uqC l Z a0 hw b1340 T1358.heap n0 4 (4 : Int32) (fun i => own_y ((own_cf k1245 k1254 k1263 k1272) i)) rfl ⟨w1358, LEn1358, LVn1358, LCn1358, LAn1358⟩ cs q1364 hcs fm q1365 hfm (3 : Int32) ⟨by decide, by decide⟩ (fun _ => show own_y k1272 = 46 from (own_dot rg1272).mpr c182_1634) hno1659 (by decide) (by decide) zz1369) (by rw [hml]; rfl) (lenOf own_pd23 rfl) rfl at_199 (by decide) (W := 0) (by exact Nat.le_of_eq rfl) (by decide) (by decide) (by decide) (pc' := 202) rfl (fun T1658 v1658 k1658 X1658 hS1658 hk1658 hZ1658 hown1658 hC1658 hD1658 hQ1658 => ?_)
            obtain ⟨b1658, rfl, ka1658, la1658⟩ := hQ1658
            have q1660 := own_sta_keep q1364 ka1658 all0
            have q1661 := own_sta_keep q1365 ka1658 all0
            have q1662 := q1366.keep ka1658 nin0
            have q1663 := q1367.keep ka1658 nin0
            have q1664 := LEn1358.keep ka1658
            have q1665 := LVn1358.keep ka1658 nin0
            have q1666 := LCn1358.keep ka1658 nin0
            have q1667 := LAn1358.keep ka1658 nin0
            have zz1668 := Nat.le_trans zz1369 ka1658.1
            have kk1669 : Keep h0 T1658.heap [] := kk1371.trans ka1658 all0
            have lb1658 : Lat Z T1658.heap b1658 0 (fun i => ([] : List Int32).getD i 0) := la1658
            obtain ⟨w1658, LEr1658, LVr1658, LCr1658, LAr1658⟩ := lb1658
            show Gl p e below n0 _ _ (T1658.setTop (mkF m 202 #[.val (.int y0), .val (.int y1), .val (.int y2), .val (.int y3), .val (.int y4), .val (.int (4 : Int32)), .val (.ref b1235), .val (.ref b1282), .val (.ref b1340), .val (.int (3 : Int32)), .val (.int (0 : Int32)), .unset] [(.ref b1658)]))
            refine g_astore (L' := #[.val (.int y0), .val (.int y1), .val (.int y2), .val (.int y3), .val (.int y4), .val (.int (4 : Int32)), .val (.ref b1235), .val (.ref b1282), .val (.ref b1340), .val (.int (3 : Int32)), .val (.int (0 : Int32)), .val (.ref b1658)]) X1658 hx hby at_202 rfl rfl (pc' := 204) rfl ?_
            refine g_aload X1658 hx hby at_204 rfl rfl (pc' := 206) rfl ?_
            refine g_callV (argsL := []) (S := []) (a := b1658) X1658 hx hby hZ1658 (y := (⟨"java/lang/String", "length", "()I"⟩ : MethodName)) (y' := (⟨"java/lang/String", "length", "()I"⟩ : MethodName)) hown1658 (hw _ (List.mem_of_getElem? (i := 86) rfl)) (hw _ (List.mem_of_getElem? (i := 37) rfl)) (notFace_of_selects (args := #[]) (mvT hZ1658 (hw _ (List.mem_of_getElem? (i := 39) rfl)))) (hw _ (List.mem_of_getElem? (i := 39) rfl)) (hw _ (List.mem_of_getElem? (i := 38) rfl)) (hw _ (List.mem_of_getElem? (i := 8) rfl)) (hw _ (List.mem_of_getElem? (i := 40) rfl)) (by decide) LEr1658 (own_ln l Z a0 hw b1658 T1658.heap n0 0 (0 : Int32) (fun i => ([] : List Int32).getD i 0) rfl ⟨w1658, LEr1658, LVr1658, LCr1658, LAr1658⟩ cs q1660 hcs ) (by rw [hml]; rfl) (lenOf own_pd12 rfl) rfl at_206 (by decide) (W := 0) (by exact Nat.le_of_eq rfl) (by decide) (by decide) (by decide) (pc' := 209) rfl (fun T1670 v1670 X1670 hQ1670 => ?_)
            obtain ⟨rfl, e1670⟩ := hQ1670
            rw [e1670] at X1670
            show Gl p e below n0 _ _ (T1670.setTop (mkF m 209 #[.val (.int y0), .val (.int y1), .val (.int y2), .val (.int y3), .val (.int y4), .val (.int (4 : Int32)), .val (.ref b1235), .val (.ref b1282), .val (.ref b1340), .val (.int (3 : Int32)), .val (.int (0 : Int32)), .val (.ref b1658)] [(.int (0 : Int32))]))
            refine g_iload X1670 hx hby at_209 rfl (pc' := 211) rfl ?_
            refine g_icmp_eq X1670 hx hby at_211 (by decide) (pc' := 216) (by decide) (pc2 := 214) rfl (fun c211_1671 => ?_) (fun q => absurd (by decide) q)
            refine g_iconst (v := 0) X1670 hx hby at_216 rfl (pc' := 217) rfl ?_
            refine g_iload X1670 hx hby at_217 rfl (pc' := 219) rfl ?_
            refine g_icmp_ge X1670 hx hby at_219 (by decide) (pc' := 240) (by decide) (pc2 := 222) rfl (fun c219_1672 => ?_) (fun q => absurd q (by decide))
            refine g_iconst (v := 1) X1670 hx hby at_240 rfl (pc' := 241) rfl ?_
            refine g_iload X1670 hx hby at_241 rfl (pc' := 243) rfl ?_
            refine g_icmp_ge X1670 hx hby at_243 (by decide) (pc' := 264) (by decide) (pc2 := 246) rfl (fun c243_1673 => ?_) (fun q => absurd q (by decide))
            refine g_iconst (v := 2) X1670 hx hby at_264 rfl (pc' := 265) rfl ?_
            refine g_iload X1670 hx hby at_265 rfl (pc' := 267) rfl ?_
            refine g_icmp_ge X1670 hx hby at_267 (by decide) (pc' := 288) (by decide) (pc2 := 270) rfl (fun c267_1674 => ?_) (fun q => absurd q (by decide))
            refine g_iconst (v := 3) X1670 hx hby at_288 rfl (pc' := 289) rfl ?_
            refine g_iload X1670 hx hby at_289 rfl (pc' := 291) rfl ?_
            refine g_icmp_ge X1670 hx hby at_291 (by decide) (pc' := 312) (by decide) (pc2 := 294) rfl (fun c291_1675 => ?_) (fun q => absurd q (by decide))
            refine g_iconst (v := 1) X1670 hx hby at_312 rfl (pc' := 313) rfl ?_
            exact gw_retN X1670 hx hby hS1658 hk1658 hret hlk (by simp) at_313 rfl (by decide) (by decide)
        · refine g_iconst (v := 2) X1358 hx hby at_167 rfl (pc' := 168) rfl ?_
          refine g_istore (L' := #[.val (.int y0), .val (.int y1), .val (.int y2), .val (.int y3), .val (.int y4), .val (.int (4 : Int32)), .val (.ref b1235), .val (.ref b1282), .val (.ref b1340), .val (.int (2 : Int32)), .unset, .unset]) X1358 hx hby at_168 rfl (pc' := 170) rfl ?_
          refine g_iload X1358 hx hby at_170 rfl (pc' := 172) rfl ?_
          refine g_iconst (v := 3) X1358 hx hby at_172 rfl (pc' := 173) rfl ?_
          refine g_icmp_le X1358 hx hby at_173 (by decide) (pc' := 188) (by decide) (pc2 := 176) rfl (fun q => absurd (by decide) q) (fun c173_1676 => ?_)
          refine g_aload X1358 hx hby at_176 rfl rfl (pc' := 178) rfl ?_
          refine g_iconst (v := 3) X1358 hx hby at_178 rfl (pc' := 179) rfl ?_
          refine g_caload (i := 3) (v := (.int k1272)) X1358 hx hby hZ q1366 (by decide) (by decide) rfl at_179 (pc' := 180) rfl ?_
          refine g_bipush (v := 46) X1358 hx hby at_180 rfl (pc' := 182) rfl ?_
          refine g_icmp_ne X1358 hx hby at_182 (by decide) (pc' := 188) (by decide) (pc2 := 185) rfl (fun c182_1677 => ?_) (fun c182_1677 => ?_)
          · refine g_iload X1358 hx hby at_188 rfl (pc' := 190) rfl ?_
            refine g_iload X1358 hx hby at_190 rfl (pc' := 192) rfl ?_
            refine g_isub X1358 hx hby at_192 (pc' := 193) rfl ?_
            refine g_iconst (v := 1) X1358 hx hby at_193 rfl (pc' := 194) rfl ?_
            refine g_isub X1358 hx hby at_194 (pc' := 195) rfl ?_
            refine g_istore (L' := #[.val (.int y0), .val (.int y1), .val (.int y2), .val (.int y3), .val (.int y4), .val (.int (4 : Int32)), .val (.ref b1235), .val (.ref b1282), .val (.ref b1340), .val (.int (2 : Int32)), .val (.int (((4 : Int32) - (2 : Int32)) - (1 : Int32))), .unset]) X1358 hx hby at_195 rfl (pc' := 197) rfl ?_
            have em : (((4 : Int32) - (2 : Int32)) - (1 : Int32)) = (1 : Int32) := by decide
            rw [em]
            refine g_aload X1358 hx hby at_197 rfl rfl (pc' := 199) rfl ?_
            have hno1679 : ∀ j : Nat, ((2 : Int32)).toInt < (j : Int) → j < 4 → ¬ (fun i => own_y ((own_cf k1245 k1254 k1263 k1272) i)) j = 46 := by
              intro j h1 h2
              have e1 : ((2 : Int32)).toInt = 2 := rfl
              have h8 : j = 3 := by omega
              rcases h8 with rfl
              · exact fun q => c182_1677 ((own_dot rg1272).mp q)
            refine g_callS (argsL := [(.ref b1340)]) (S := []) X1358 hx hby hZ (y := (⟨"com/example/hifadhi/hifadhi/mapping/QualifiedName", "unqualified", "(Ljava/lang/String;)Ljava/lang/String;"⟩ : MethodName)) hown (hw _ (List.mem_of_getElem? (i := 27) rfl)) (hw _ (List.mem_of_getElem? (i := 28) rfl)) (hw _ (List.mem_of_getElem? (i := 29) rfl)) (hw _ (List.mem_of_getElem? (i := 30) rfl)) (by decide) (own_uqB l Z a0 hw b1340 T1358.heap n0 4 (4 : Int32) (fun i => own_y ((own_cf k1245 k1254 k1263 k1272) i)) rfl ⟨w1358, LEn1358, LVn1358, LCn1358, LAn1358⟩ cs q1364 hcs fm q1365 hfm (2 : Int32) ⟨by decide, by decide⟩ (fun _ => show own_y k1263 = 46 from (own_dot rg1263).mpr c164_1632) hno1679 (by decide) (fun i _ => fits_nar_byte _) 3 (by decide) (by decide) (by decide) zz1369) (by rw [hml]; rfl) (lenOf own_pd23 rfl) rfl at_199 (by decide) (W := 0) (by exact Nat.le_of_eq rfl) (by decide) (by decide) (by decide) (pc' := 202) rfl (fun T1678 v1678 X1678 hQ1678 => ?_)
            obtain ⟨b1678, rfl, ka1678, la1678⟩ := hQ1678
            have q1680 := own_sta_keep q1364 ka1678 all0
            have q1681 := own_sta_keep q1365 ka1678 all0
            have q1682 := q1366.keep ka1678 nin0
            have q1683 := q1367.keep ka1678 nin0
            have q1684 := LEn1358.keep ka1678
            have q1685 := LVn1358.keep ka1678 nin0
            have q1686 := LCn1358.keep ka1678 nin0
            have q1687 := LAn1358.keep ka1678 nin0
            have zz1688 := Nat.le_trans zz1369 ka1678.1
            have hk1689 := Nat.le_trans hk1370 ka1678.1
            have kk1690 : Keep h0 T1678.heap [] := kk1371.trans ka1678 all0
            have lb1678 : Lat Z T1678.heap b1678 1 (fun i => own_y ((own_cf k1245 k1254 k1263 k1272) (3 + i))) := la1678
            obtain ⟨w1678, LEr1678, LVr1678, LCr1678, LAr1678⟩ := lb1678
            show Gl p e below n0 _ _ (T1678.setTop (mkF m 202 #[.val (.int y0), .val (.int y1), .val (.int y2), .val (.int y3), .val (.int y4), .val (.int (4 : Int32)), .val (.ref b1235), .val (.ref b1282), .val (.ref b1340), .val (.int (2 : Int32)), .val (.int (1 : Int32)), .unset] [(.ref b1678)]))
            refine g_astore (L' := #[.val (.int y0), .val (.int y1), .val (.int y2), .val (.int y3), .val (.int y4), .val (.int (4 : Int32)), .val (.ref b1235), .val (.ref b1282), .val (.ref b1340), .val (.int (2 : Int32)), .val (.int (1 : Int32)), .val (.ref b1678)]) X1678 hx hby at_202 rfl rfl (pc' := 204) rfl ?_
            refine g_aload X1678 hx hby at_204 rfl rfl (pc' := 206) rfl ?_
            refine g_callV (argsL := []) (S := []) (a := b1678) X1678 hx hby hZ (y := (⟨"java/lang/String", "length", "()I"⟩ : MethodName)) (y' := (⟨"java/lang/String", "length", "()I"⟩ : MethodName)) hown (hw _ (List.mem_of_getElem? (i := 86) rfl)) (hw _ (List.mem_of_getElem? (i := 37) rfl)) (notFace_of_selects (args := #[]) (mvT hZ (hw _ (List.mem_of_getElem? (i := 39) rfl)))) (hw _ (List.mem_of_getElem? (i := 39) rfl)) (hw _ (List.mem_of_getElem? (i := 38) rfl)) (hw _ (List.mem_of_getElem? (i := 8) rfl)) (hw _ (List.mem_of_getElem? (i := 40) rfl)) (by decide) LEr1678 (own_ln l Z a0 hw b1678 T1678.heap n0 1 (1 : Int32) (fun i => own_y ((own_cf k1245 k1254 k1263 k1272) (3 + i))) rfl ⟨w1678, LEr1678, LVr1678, LCr1678, LAr1678⟩ cs q1680 hcs ) (by rw [hml]; rfl) (lenOf own_pd12 rfl) rfl at_206 (by decide) (W := 0) (by exact Nat.le_of_eq rfl) (by decide) (by decide) (by decide) (pc' := 209) rfl (fun T1691 v1691 X1691 hQ1691 => ?_)
            obtain ⟨rfl, e1691⟩ := hQ1691
            rw [e1691] at X1691
            show Gl p e below n0 _ _ (T1691.setTop (mkF m 209 #[.val (.int y0), .val (.int y1), .val (.int y2), .val (.int y3), .val (.int y4), .val (.int (4 : Int32)), .val (.ref b1235), .val (.ref b1282), .val (.ref b1340), .val (.int (2 : Int32)), .val (.int (1 : Int32)), .val (.ref b1678)] [(.int (1 : Int32))]))
            refine g_iload X1691 hx hby at_209 rfl (pc' := 211) rfl ?_
            refine g_icmp_eq X1691 hx hby at_211 (by decide) (pc' := 216) (by decide) (pc2 := 214) rfl (fun c211_1692 => ?_) (fun q => absurd (by decide) q)
            refine g_iconst (v := 0) X1691 hx hby at_216 rfl (pc' := 217) rfl ?_
            refine g_iload X1691 hx hby at_217 rfl (pc' := 219) rfl ?_
            refine g_icmp_ge X1691 hx hby at_219 (by decide) (pc' := 240) (by decide) (pc2 := 222) rfl (fun q => absurd (by decide) q) (fun c219_1693 => ?_)
            refine g_aload X1691 hx hby at_222 rfl rfl (pc' := 224) rfl ?_
            refine g_iconst (v := 0) X1691 hx hby at_224 rfl (pc' := 225) rfl ?_
            refine g_callV (argsL := [(.int (0 : Int32))]) (S := []) (a := b1678) X1691 hx hby hZ (y := (⟨"java/lang/String", "charAt", "(I)C"⟩ : MethodName)) (y' := (⟨"java/lang/String", "charAt", "(I)C"⟩ : MethodName)) hown (hw _ (List.mem_of_getElem? (i := 119) rfl)) (hw _ (List.mem_of_getElem? (i := 120) rfl)) (notFace_of_selects (args := #[]) (mvT hZ (hw _ (List.mem_of_getElem? (i := 122) rfl)))) (hw _ (List.mem_of_getElem? (i := 122) rfl)) (hw _ (List.mem_of_getElem? (i := 121) rfl)) (hw _ (List.mem_of_getElem? (i := 8) rfl)) (hw _ (List.mem_of_getElem? (i := 123) rfl)) (by decide) LEr1678 (own_ca l Z a0 hw b1678 (0 : Int32) T1678.heap n0 1 (1 : Int32) (fun i => own_y ((own_cf k1245 k1254 k1263 k1272) (3 + i))) rfl ⟨w1678, LEr1678, LVr1678, LCr1678, LAr1678⟩ cs q1680 hcs 0 rfl (by decide) fm q1681 hfm) (by rw [hml]; rfl) (lenOf own_pd21 rfl) rfl at_225 (by decide) (W := 0) (by exact Nat.le_of_eq rfl) (by decide) (by decide) (by decide) (pc' := 228) rfl (fun T1694 v1694 X1694 hQ1694 => ?_)
            obtain ⟨rfl, e1694⟩ := hQ1694
            rw [e1694] at X1694
            show Gl p e below n0 _ _ (T1694.setTop (mkF m 228 #[.val (.int y0), .val (.int y1), .val (.int y2), .val (.int y3), .val (.int y4), .val (.int (4 : Int32)), .val (.ref b1235), .val (.ref b1282), .val (.ref b1340), .val (.int (2 : Int32)), .val (.int (1 : Int32)), .val (.ref b1678)] [(.int (((fun i => own_y ((own_cf k1245 k1254 k1263 k1272) (3 + i)))) 0 &&& (255 : Int32)))]))
            refine g_aload X1694 hx hby at_228 rfl rfl (pc' := 230) rfl ?_
            refine g_iload X1694 hx hby at_230 rfl (pc' := 232) rfl ?_
            refine g_iconst (v := 1) X1694 hx hby at_232 rfl (pc' := 233) rfl ?_
            refine g_iadd X1694 hx hby at_233 (pc' := 234) rfl ?_
            refine g_caload (i := 3) (v := (.int k1272)) X1694 hx hby hZ q1682 (by decide) (by decide) rfl at_234 (pc' := 235) rfl ?_
            refine g_icmp_eq X1694 hx hby at_235 (by decide) (pc' := 240) (by decide) (pc2 := 238) rfl (fun c235_1695 => ?_) (fun q => absurd (show own_y k1272 &&& 255 = k1272 from own_chr_y rg1272) q)
            refine g_iconst (v := 1) X1694 hx hby at_240 rfl (pc' := 241) rfl ?_
            refine g_iload X1694 hx hby at_241 rfl (pc' := 243) rfl ?_
            refine g_icmp_ge X1694 hx hby at_243 (by decide) (pc' := 264) (by decide) (pc2 := 246) rfl (fun c243_1696 => ?_) (fun q => absurd q (by decide))
            refine g_iconst (v := 2) X1694 hx hby at_264 rfl (pc' := 265) rfl ?_
            refine g_iload X1694 hx hby at_265 rfl (pc' := 267) rfl ?_
            refine g_icmp_ge X1694 hx hby at_267 (by decide) (pc' := 288) (by decide) (pc2 := 270) rfl (fun c267_1697 => ?_) (fun q => absurd q (by decide))
            refine g_iconst (v := 3) X1694 hx hby at_288 rfl (pc' := 289) rfl ?_
            refine g_iload X1694 hx hby at_289 rfl (pc' := 291) rfl ?_
            refine g_icmp_ge X1694 hx hby at_291 (by decide) (pc' := 312) (by decide) (pc2 := 294) rfl (fun c291_1698 => ?_) (fun q => absurd q (by decide))
            refine g_iconst (v := 1) X1694 hx hby at_312 rfl (pc' := 313) rfl ?_
            exact gw_retN X1694 hx hby hS hk1689 hret hlk (by simp) at_313 rfl (by decide) (by decide)
          · refine g_iconst (v := 3) X1358 hx hby at_185 rfl (pc' := 186) rfl ?_
            refine g_istore (L' := #[.val (.int y0), .val (.int y1), .val (.int y2), .val (.int y3), .val (.int y4), .val (.int (4 : Int32)), .val (.ref b1235), .val (.ref b1282), .val (.ref b1340), .val (.int (3 : Int32)), .unset, .unset]) X1358 hx hby at_186 rfl (pc' := 188) rfl ?_
            refine g_iload X1358 hx hby at_188 rfl (pc' := 190) rfl ?_
            refine g_iload X1358 hx hby at_190 rfl (pc' := 192) rfl ?_
            refine g_isub X1358 hx hby at_192 (pc' := 193) rfl ?_
            refine g_iconst (v := 1) X1358 hx hby at_193 rfl (pc' := 194) rfl ?_
            refine g_isub X1358 hx hby at_194 (pc' := 195) rfl ?_
            refine g_istore (L' := #[.val (.int y0), .val (.int y1), .val (.int y2), .val (.int y3), .val (.int y4), .val (.int (4 : Int32)), .val (.ref b1235), .val (.ref b1282), .val (.ref b1340), .val (.int (3 : Int32)), .val (.int (((4 : Int32) - (3 : Int32)) - (1 : Int32))), .unset]) X1358 hx hby at_195 rfl (pc' := 197) rfl ?_
            have em : (((4 : Int32) - (3 : Int32)) - (1 : Int32)) = (0 : Int32) := by decide
            rw [em]
            refine g_aload X1358 hx hby at_197 rfl rfl (pc' := 199) rfl ?_
            have hno1700 : ∀ j : Nat, ((3 : Int32)).toInt < (j : Int) → j < 4 → ¬ (fun i => own_y ((own_cf k1245 k1254 k1263 k1272) i)) j = 46 := by
              intro j h1 h2
              have e1 : ((3 : Int32)).toInt = 3 := rfl
              exfalso; omega
            refine gh_callS (argsL := [(.ref b1340)]) (S := []) X1358 hx hby hZ hS hk1370 (own_hEL hw) ch1363 own_nss (y := (⟨"com/example/hifadhi/hifadhi/mapping/QualifiedName", "unqualified", "(Ljava/lang/String;)Ljava/lang/String;"⟩ : MethodName)) hown (hw _ (List.mem_of_getElem? (i := 27) rfl)) (hw _ (List.mem_of_getElem? (i := 28) rfl)) (hw _ (List.mem_of_getElem? (i := 29) rfl)) (hw _ (List.mem_of_getElem? (i := 30) rfl)) (by decide) (own_uqC l Z a0 hw b1340 T1358.heap n0 4 (4 : Int32) (fun i => own_y ((own_cf k1245 k1254 k1263 k1272) i)) rfl ⟨w1358, LEn1358, LVn1358, LCn1358, LAn1358⟩ cs q1364 hcs fm q1365 hfm (3 : Int32) ⟨by decide, by decide⟩ (fun _ => show own_y k1272 = 46 from (own_dot rg1272).mpr c182_1677) hno1700 (by decide) (by decide) zz1369) (by rw [hml]; rfl) (lenOf own_pd23 rfl) rfl at_199 (by decide) (W := 0) (by exact Nat.le_of_eq rfl) (by decide) (by decide) (by decide) (pc' := 202) rfl (fun T1699 v1699 k1699 X1699 hS1699 hk1699 hZ1699 hown1699 hC1699 hD1699 hQ1699 => ?_)
            obtain ⟨b1699, rfl, ka1699, la1699⟩ := hQ1699
            have q1701 := own_sta_keep q1364 ka1699 all0
            have q1702 := own_sta_keep q1365 ka1699 all0
            have q1703 := q1366.keep ka1699 nin0
            have q1704 := q1367.keep ka1699 nin0
            have q1705 := LEn1358.keep ka1699
            have q1706 := LVn1358.keep ka1699 nin0
            have q1707 := LCn1358.keep ka1699 nin0
            have q1708 := LAn1358.keep ka1699 nin0
            have zz1709 := Nat.le_trans zz1369 ka1699.1
            have kk1710 : Keep h0 T1699.heap [] := kk1371.trans ka1699 all0
            have lb1699 : Lat Z T1699.heap b1699 0 (fun i => ([] : List Int32).getD i 0) := la1699
            obtain ⟨w1699, LEr1699, LVr1699, LCr1699, LAr1699⟩ := lb1699
            show Gl p e below n0 _ _ (T1699.setTop (mkF m 202 #[.val (.int y0), .val (.int y1), .val (.int y2), .val (.int y3), .val (.int y4), .val (.int (4 : Int32)), .val (.ref b1235), .val (.ref b1282), .val (.ref b1340), .val (.int (3 : Int32)), .val (.int (0 : Int32)), .unset] [(.ref b1699)]))
            refine g_astore (L' := #[.val (.int y0), .val (.int y1), .val (.int y2), .val (.int y3), .val (.int y4), .val (.int (4 : Int32)), .val (.ref b1235), .val (.ref b1282), .val (.ref b1340), .val (.int (3 : Int32)), .val (.int (0 : Int32)), .val (.ref b1699)]) X1699 hx hby at_202 rfl rfl (pc' := 204) rfl ?_
            refine g_aload X1699 hx hby at_204 rfl rfl (pc' := 206) rfl ?_
            refine g_callV (argsL := []) (S := []) (a := b1699) X1699 hx hby hZ1699 (y := (⟨"java/lang/String", "length", "()I"⟩ : MethodName)) (y' := (⟨"java/lang/String", "length", "()I"⟩ : MethodName)) hown1699 (hw _ (List.mem_of_getElem? (i := 86) rfl)) (hw _ (List.mem_of_getElem? (i := 37) rfl)) (notFace_of_selects (args := #[]) (mvT hZ1699 (hw _ (List.mem_of_getElem? (i := 39) rfl)))) (hw _ (List.mem_of_getElem? (i := 39) rfl)) (hw _ (List.mem_of_getElem? (i := 38) rfl)) (hw _ (List.mem_of_getElem? (i := 8) rfl)) (hw _ (List.mem_of_getElem? (i := 40) rfl)) (by decide) LEr1699 (own_ln l Z a0 hw b1699 T1699.heap n0 0 (0 : Int32) (fun i => ([] : List Int32).getD i 0) rfl ⟨w1699, LEr1699, LVr1699, LCr1699, LAr1699⟩ cs q1701 hcs ) (by rw [hml]; rfl) (lenOf own_pd12 rfl) rfl at_206 (by decide) (W := 0) (by exact Nat.le_of_eq rfl) (by decide) (by decide) (by decide) (pc' := 209) rfl (fun T1711 v1711 X1711 hQ1711 => ?_)
            obtain ⟨rfl, e1711⟩ := hQ1711
            rw [e1711] at X1711
            show Gl p e below n0 _ _ (T1711.setTop (mkF m 209 #[.val (.int y0), .val (.int y1), .val (.int y2), .val (.int y3), .val (.int y4), .val (.int (4 : Int32)), .val (.ref b1235), .val (.ref b1282), .val (.ref b1340), .val (.int (3 : Int32)), .val (.int (0 : Int32)), .val (.ref b1699)] [(.int (0 : Int32))]))
            refine g_iload X1711 hx hby at_209 rfl (pc' := 211) rfl ?_
            refine g_icmp_eq X1711 hx hby at_211 (by decide) (pc' := 216) (by decide) (pc2 := 214) rfl (fun c211_1712 => ?_) (fun q => absurd (by decide) q)
            refine g_iconst (v := 0) X1711 hx hby at_216 rfl (pc' := 217) rfl ?_
            refine g_iload X1711 hx hby at_217 rfl (pc' := 219) rfl ?_
            refine g_icmp_ge X1711 hx hby at_219 (by decide) (pc' := 240) (by decide) (pc2 := 222) rfl (fun c219_1713 => ?_) (fun q => absurd q (by decide))
            refine g_iconst (v := 1) X1711 hx hby at_240 rfl (pc' := 241) rfl ?_
            refine g_iload X1711 hx hby at_241 rfl (pc' := 243) rfl ?_
            refine g_icmp_ge X1711 hx hby at_243 (by decide) (pc' := 264) (by decide) (pc2 := 246) rfl (fun c243_1714 => ?_) (fun q => absurd q (by decide))
            refine g_iconst (v := 2) X1711 hx hby at_264 rfl (pc' := 265) rfl ?_
            refine g_iload X1711 hx hby at_265 rfl (pc' := 267) rfl ?_
            refine g_icmp_ge X1711 hx hby at_267 (by decide) (pc' := 288) (by decide) (pc2 := 270) rfl (fun c267_1715 => ?_) (fun q => absurd q (by decide))
            refine g_iconst (v := 3) X1711 hx hby at_288 rfl (pc' := 289) rfl ?_
            refine g_iload X1711 hx hby at_289 rfl (pc' := 291) rfl ?_
            refine g_icmp_ge X1711 hx hby at_291 (by decide) (pc' := 312) (by decide) (pc2 := 294) rfl (fun c291_1716 => ?_) (fun q => absurd q (by decide))
            refine g_iconst (v := 1) X1711 hx hby at_312 rfl (pc' := 313) rfl ?_
            exact gw_retN X1711 hx hby hS1699 hk1699 hret hlk (by simp) at_313 rfl (by decide) (by decide)
set_option maxRecDepth 65536 in
set_option maxHeartbeats 40000000 in
theorem comes_1 {Post : Tables → Env → Array Value → State → Outcome → State → Prop} (hpost : ∀ tb e args s v u, (limb_1_1.after args s (.returned v) u = true ∧ limb_1_2.after args s (.returned v) u = true ∧ True) → ReturnedEndW s (.returned v) u (Jvm.fieldLocs frame_1_writes args s ++ Jvm.arrayLocs frame_1_arrays args s ++ Jvm.staticLocs frame_1_statics s) 24 2176 → Post tb e args s (.returned v) u) :
    ArmFor flags0 classFile x code maxLocals ret World_1 tables_1 room_1 Calls_1 rest_1 Pre_1 Post := by
  intro l hfl _ _ p e ha hc hk s m args below hf hA hF happ hP
  obtain ⟨hcalls, hrest, hpre⟩ := hP
  obtain ⟨-, -, -, hnamed, -, -, -, hat⟩ := (Spec.applies_iff hf).mp happ
  obtain ⟨hg, hn⟩ := and_e (Cond.before_iff.mp (show (Jvm.Cond.and given_1 narrow_1).before args s = true from hpre))
  obtain ⟨hcount, hg0⟩ := and_e hg
  obtain ⟨w0, w1, w2, w3, w4, rfl⟩ : ∃ w0 w1 w2 w3 w4 : Value, args = #[w0, w1, w2, w3, w4] := by
    have hs : args.size = 5 := by simpa [Cond.value, given_1] using hcount
    obtain ⟨L⟩ := args
    match L, hs with
    | [w0, w1, w2, w3, w4], _ => exact ⟨w0, w1, w2, w3, w4, rfl⟩
  have hw := fun d (hd : d ∈ tables_1) => atoms_spec (ws := Jvm.Cond.code x code maxLocals ret :: tables_1) hat d (List.mem_cons_of_mem _ hd)
  have hfit : Fit s := fun {y c} hc i hi => by
    obtain ⟨ha, rfl⟩ := Array.getElem?_eq_some_iff.mp hc
    have q := List.all_eq_true.mp ((Array.all_eq_true_iff_forall_mem.mp hF) _ (Array.getElem_mem ha)) i (List.mem_range.mpr hi)
    simpa [Array.getElem?_eq_getElem hi] using q
  obtain ⟨hk0, hg1⟩ := and_e hg0
  obtain ⟨i0, e0⟩ := is_v hk0
  obtain rfl : w0 = (.int i0) := Option.some.inj e0
  obtain ⟨hk1, hg2⟩ := and_e hg1
  obtain ⟨i1, e1⟩ := is_v hk1
  obtain rfl : w1 = (.int i1) := Option.some.inj e1
  obtain ⟨hk2, hg3⟩ := and_e hg2
  obtain ⟨i2, e2⟩ := is_v hk2
  obtain rfl : w2 = (.int i2) := Option.some.inj e2
  obtain ⟨hk3, hg4⟩ := and_e hg3
  obtain ⟨i3, e3⟩ := is_v hk3
  obtain rfl : w3 = (.int i3) := Option.some.inj e3
  obtain ⟨i4, e4⟩ := is_v hg4
  obtain rfl : w4 = (.int i4) := Option.some.inj e4
  have hr := (atoms_of _ (show (jdkStatics_1.foldr Jvm.Cond.and restOwn_1).before _ s = true from (rest_1_c_eq ▸ (show rest_1_c.before _ s = true from hrest)))).1
  obtain ⟨cs, ecs⟩ := is_v (Cond.before_iff.mp (hr _ (List.mem_of_getElem? (i := 1) rfl)))
  have Sc := Sta.start ecs (Or.inl (hr _ (List.mem_of_getElem? (i := 0) rfl)))
  have hcs : ¬ cs = 0 := gotF (Cond.eq_ints ecs (by rfl)) (not_v (Cond.before_iff.mp (hr _ (List.mem_of_getElem? (i := 2) rfl))))
  obtain ⟨fm, efm, hfm⟩ := isR_v (Cond.before_iff.mp (hr _ (List.mem_of_getElem? (i := 8) rfl)))
  have Sf := Sta.start efm (Or.inl (hr _ (List.mem_of_getElem? (i := 7) rfl)))
  have hcw : Jvm.Lit.compactW.before #[Value.int i0, Value.int i1, Value.int i2, Value.int i3, Value.int i4] s = true := hr _ (List.mem_of_getElem? (i := 2) rfl)
  have hCH : CHv s own_EL s.vm s.heap := CHv.start (own_hEL hw) (fun p hp => hcalls.1 p hp) hcw (hw _ (List.mem_of_getElem? (i := 20) rfl)) (hw _ (List.mem_of_getElem? (i := 7) rfl))
  obtain ⟨n, o, h1, h2, h3, _, L, rfl, ⟨rfl, N⟩, hq⟩ := own_rm0 l s _ hw i0 i1 i2 i3 i4 s.heap s.heap.size (Nat.le_refl _) hCH cs Sc hcs fm Sf hfm p e ha hc hk s m _ below hf ((Spec.applies_iff_loose hf).mp happ).1 ⟨rfl, rfl, rfl⟩ trivial
  exact ⟨n, _, h1, h2, h3, hpost _ _ _ _ _ _ ⟨Cond.after_iff.mpr rfl, Cond.after_iff.mpr (eq_i res_at (Term.int_eval (1)) rfl), trivial⟩ ⟨hq.1, hq.2.1, hq.2.2.1, (hq.2.2.2.sift fun y hy => Or.inr (N y hy)).mono (by decide) (by decide)⟩⟩
theorem main_1_1 : Claimed_1_1 := comes_1 fun _ _ _ _ _ _ h hF => ⟨h.1, hF⟩
theorem main_1_2 : Claimed_1_2 := comes_1 fun _ _ _ _ _ _ h hF => ⟨h.2.1, hF⟩
end Jvm.Pilot.@@N@@
namespace Jvm.Pilot.@@N@@
open Jvm Jvm.ClassFile Sem Op Lib Jvm.Free Jvm.Stand Jvm.Pilot.@@N@@.Jvm.D
/-! MADE BY PROGRAM (witnessworld.py) out of the Statement's table words and the real class files: 23 classes; the members and pool entries that the words name. The judged class is class 1, her method 2. -/
namespace start1
open Jvm.ClassFile
def u (s : String) : CpInfo := .utf8 (stringToUtf16 s)
/-- a pool by its gaps: so many unusable entries, then the entry; so many at the end -/
def gap : Nat → List CpInfo → List CpInfo
  | 0, r => r
  | n + 1, r => .unusable :: gap n r
def poolList (es : List (Nat × CpInfo)) (last : Nat) : List CpInfo := es.foldr (fun e r => gap e.1 (e.2 :: r)) (gap last [])
def pool (es : List (Nat × CpInfo)) (last : Nat) : Array CpInfo := ⟨poolList es last⟩
def fileOf (pool : Array CpInfo) (this : Nat) (attrs : Array Attribute := #[]) (ms : Array MethodInfo := #[]) (fl : Nat := 33) (sup : Nat := 0) (ifs : Array Nat := #[]) (fds : Array FieldInfo := #[]) : ClassFile where
  minorVersion := 0
  majorVersion := 65
  constantPool := pool
  accessFlags := fl
  thisClass := this
  superClass := sup
  interfaces := ifs
  fields := fds
  methods := ms
  attributes := attrs
def plain (name : String) (sup : Option ClassId) : Class where
  name := name
  kind := .ordinary
  loader := none
  accessFlags := 33
  super := sup
  interfaces := #[]
  cf := none
  fields := #[]
  methods := #[]
  instanceTypes := #[]
  staticTypes := #[]
  resolved := #[]
  callSites := []
  init := .initialized
  statics := none
  mirror := none

def pool0 : Array CpInfo := pool [(5, u "<init>"), (0, u "()V"), (1, .class_ 10), (1, u "java/lang/Object")] 113

def k0c0 : Code := { maxStack := 0, maxLocals := 1, code := object_method_1_code, exceptionTable := #[], attributes := #[] }
def k0m0 : Method := { name := "<init>", desc := "()V", sig := { parameters := [], returnType := none }, accessFlags := 1, code := some k0c0 }
/-- java/lang/Object -/
def k0 : Class := { plain "java/lang/Object" none with
  accessFlags := 33
  interfaces := #[]
  cf := some (fileOf pool0 8 #[] #[{ accessFlags := 1, nameIndex := 5, descriptorIndex := 6, attributes := #[] }] 33 0 #[] #[])
  fields := #[]
  methods := #[k0m0]
  instanceTypes := #[]
  staticTypes := #[]
  resolved := Array.replicate 124 none
  statics := none }

def pool1 : Array CpInfo := pool [(2, .class_ 4), (1, u "java/lang/Object"), (0, u "<init>"), (0, u "()V"), (0, .integer 2147483647), (0, .methodref 9 10), (0, .class_ 11), (0, .nameAndType 12 13), (0, u "com/example/hifadhi/hifadhi/mapping/QualifiedNameUnqualifiedPinLaw"), (0, u "ch"), (0, u "(I)C"), (0, .class_ 15), (0, u "java/lang/String"), (0, .methodref 14 17), (0, .nameAndType 5 18), (0, u "([C)V"), (0, .methodref 20 21), (0, .class_ 22), (0, .nameAndType 23 24), (0, u "com/example/hifadhi/hifadhi/mapping/QualifiedName"), (0, u "unqualified"), (0, u "(Ljava/lang/String;)Ljava/lang/String;"), (0, .methodref 14 26), (0, .nameAndType 27 28), (0, u "length"), (0, u "()I"), (0, .methodref 14 30), (0, .nameAndType 31 13), (0, u "charAt"), (3, u "law"), (0, u "(IIIII)Z")] 4

def k1m0 : Method := { name := "<init>", desc := "()V", sig := { parameters := [], returnType := none }, accessFlags := 2, code := none }
def k1c1 : Code := { maxStack := 2, maxLocals := 1, code := method_2_code, exceptionTable := #[], attributes := #[] }
def k1m1 : Method := { name := "ch", desc := "(I)C", sig := { parameters := [.int], returnType := some .char }, accessFlags := 10, code := some k1c1 }
def k1c2 : Code := { maxStack := 4, maxLocals := 12, code := code, exceptionTable := #[], attributes := #[] }
def k1m2 : Method := { name := "law", desc := "(IIIII)Z", sig := { parameters := [.int, .int, .int, .int, .int], returnType := some .boolean }, accessFlags := 9, code := some k1c2 }
/-- com/example/hifadhi/hifadhi/mapping/QualifiedNameUnqualifiedPinLaw -/
def k1 : Class := { plain "com/example/hifadhi/hifadhi/mapping/QualifiedNameUnqualifiedPinLaw" (some 0) with
  accessFlags := 49
  interfaces := #[]
  cf := some (fileOf pool1 9 #[] #[{ accessFlags := 2, nameIndex := 5, descriptorIndex := 6, attributes := #[] }, { accessFlags := 10, nameIndex := 12, descriptorIndex := 13, attributes := #[] }, { accessFlags := 9, nameIndex := 35, descriptorIndex := 36, attributes := #[] }] 49 2 #[] #[])
  fields := #[]
  methods := #[k1m0, k1m1, k1m2]
  instanceTypes := #[]
  staticTypes := #[]
  resolved := Array.replicate 41 none
  statics := none }

def pool2 : Array CpInfo := pool [(1, .class_ 2), (0, u "java/io/Serializable"), (0, .class_ 4), (0, u "java/lang/Object")] 2

/-- java/io/Serializable -/
def k2 : Class := { plain "java/io/Serializable" (some 0) with
  accessFlags := 1537
  interfaces := #[]
  cf := some (fileOf pool2 1 #[] #[] 1537 3 #[] #[])
  fields := #[]
  methods := #[]
  instanceTypes := #[]
  staticTypes := #[]
  resolved := Array.replicate 7 none
  statics := none }

def pool3 : Array CpInfo := pool [(1, .class_ 2), (0, u "java/lang/Comparable"), (0, .class_ 4), (0, u "java/lang/Object")] 7

/-- java/lang/Comparable -/
def k3 : Class := { plain "java/lang/Comparable" (some 0) with
  accessFlags := 1537
  interfaces := #[]
  cf := some (fileOf pool3 1 #[] #[] 1537 3 #[] #[])
  fields := #[]
  methods := #[]
  instanceTypes := #[]
  staticTypes := #[]
  resolved := Array.replicate 12 none
  statics := none }

def pool4 : Array CpInfo := pool [(2, .class_ 4), (1, u "java/lang/CharSequence"), (42, .class_ 48), (0, u "java/lang/CharSequence$1CodePointIterator"), (10, .class_ 60), (0, u "java/lang/CharSequence$1CharIterator"), (5, .class_ 67), (0, u "java/lang/Object")] 63

/-- java/lang/CharSequence -/
def k4 : Class := { plain "java/lang/CharSequence" (some 0) with
  accessFlags := 1537
  interfaces := #[]
  cf := some (fileOf pool4 2 #[.nestMembers #[47, 59]] #[] 1537 66 #[] #[])
  fields := #[]
  methods := #[]
  instanceTypes := #[]
  staticTypes := #[]
  resolved := Array.replicate 131 none
  statics := none }

def pool5 : Array CpInfo := pool [(1, .class_ 2), (0, u "java/lang/constant/Constable"), (0, .class_ 4), (0, u "java/lang/Object")] 6

/-- java/lang/constant/Constable -/
def k5 : Class := { plain "java/lang/constant/Constable" (some 0) with
  accessFlags := 1537
  interfaces := #[]
  cf := some (fileOf pool5 1 #[] #[] 1537 3 #[] #[])
  fields := #[]
  methods := #[]
  instanceTypes := #[]
  staticTypes := #[]
  resolved := Array.replicate 11 none
  statics := none }

def pool6 : Array CpInfo := pool [(1, .class_ 2), (0, u "java/lang/constant/ConstantDesc"), (0, .class_ 4), (0, u "java/lang/Object")] 32

/-- java/lang/constant/ConstantDesc -/
def k6 : Class := { plain "java/lang/constant/ConstantDesc" (some 0) with
  accessFlags := 1537
  interfaces := #[]
  cf := some (fileOf pool6 1 #[] #[] 1537 3 #[] #[])
  fields := #[]
  methods := #[]
  instanceTypes := #[]
  staticTypes := #[]
  resolved := Array.replicate 37 none
  statics := none }

def pool7 : Array CpInfo := pool [(1, .methodref 2 3), (0, .class_ 4), (0, .nameAndType 5 6), (0, u "java/lang/Object"), (0, u "<init>"), (0, u "()V"), (0, .string 8), (0, u ""), (0, .fieldref 10 11), (0, .class_ 12), (0, .nameAndType 13 14), (0, u "java/lang/String"), (0, u "value"), (0, u "[B"), (0, .fieldref 10 16), (0, .nameAndType 17 18), (0, u "coder"), (0, u "B"), (2, u "hash"), (0, u "I"), (2, u "hashIsZero"), (0, u "Z"), (0, .methodref 10 28), (0, .nameAndType 5 29), (0, u "([CIILjava/lang/Void;)V"), (8, .fieldref 10 39), (0, .nameAndType 40 26), (0, u "COMPACT_STRINGS"), (1, .class_ 44), (1, u "java/lang/StringUTF16"), (0, u "compress"), (1, .methodref 42 48), (0, .nameAndType 49 50), (0, u "coderFromArrayLen"), (0, u "([BI)B"), (46, u "([BII)I"), (9, .class_ 109), (1, u "java/lang/StringLatin1"), (32, u "()Z"), (34, .methodref 42 178), (0, .nameAndType 45 179), (0, u "([CII)[B"), (31, u "([BB)V"), (122, u "()I"), (0, .methodref 10 336), (0, .nameAndType 17 337), (0, u "()B"), (25, u "([BI)C"), (27, u "(II)V"), (35, u "(I)C"), (64, .methodref 10 493), (0, .nameAndType 494 142), (0, u "isLatin1"), (0, .methodref 107 496), (0, .nameAndType 497 363), (0, u "charAt"), (3, u "checkIndex"), (3, .methodref 10 506), (0, .nameAndType 507 334), (0, u "length"), (5, u "checkFromToIndex"), (7, .methodref 10 522), (0, .nameAndType 523 524), (0, u "checkBoundsBeginEnd"), (0, u "(III)V"), (50, .class_ 576), (0, u "java/lang/CharSequence"), (22, u "CASE_INSENSITIVE_ORDER"), (0, u "Ljava/util/Comparator;"), (35, u "(II)I"), (4, .methodref 10 642), (0, .nameAndType 643 636), (0, u "lastIndexOf"), (0, .methodref 107 645), (0, .nameAndType 643 97), (35, .methodref 10 682), (0, .nameAndType 683 684), (0, u "substring"), (0, u "(II)Ljava/lang/String;"), (0, .methodref 107 686), (0, .nameAndType 687 688), (0, u "newString"), (0, u "([BII)Ljava/lang/String;"), (76, u "(I)I"), (126, u "(I)Ljava/lang/String;"), (117, u "([C)V"), (42, .fieldref 1054 1055), (0, .class_ 1056), (0, .nameAndType 1057 1058), (0, u "jdk/internal/util/Preconditions"), (0, u "SIOOBE_FORMATTER"), (0, u "Ljava/util/function/BiFunction;"), (0, .methodref 1054 1060), (0, .nameAndType 501 1061), (0, u "(IILjava/util/function/BiFunction;)I"), (0, .methodref 1054 1063), (0, .nameAndType 513 1064), (0, u "(IIILjava/util/function/BiFunction;)I"), (36, u "serialPersistentFields"), (0, u "[Ljava/io/ObjectStreamField;"), (0, .class_ 1104), (0, u "java/lang/String$CaseInsensitiveComparator"), (1, .class_ 1107), (0, u "java/io/Serializable"), (0, .class_ 1109), (0, u "java/lang/Comparable"), (0, .class_ 1111), (0, u "java/lang/constant/Constable"), (0, .class_ 1113), (0, u "java/lang/constant/ConstantDesc"), (2, u "serialVersionUID"), (0, u "J"), (3, u "REPL"), (0, u "C"), (2, u "LATIN1"), (1, u "UTF16")] 323

def k7m0 : Method := { name := "<init>", desc := "()V", sig := { parameters := [], returnType := none }, accessFlags := 1, code := none }
def k7c1 : Code := { maxStack := 5, maxLocals := 2, code := jdk_42_method_3_code, exceptionTable := #[], attributes := #[] }
def k7m1 : Method := { name := "<init>", desc := "([C)V", sig := { parameters := [(.array .char)], returnType := none }, accessFlags := 1, code := some k7c1 }
def k7c2 : Code := { maxStack := 2, maxLocals := 1, code := jdk_42_method_54_code, exceptionTable := #[], attributes := #[] }
def k7m2 : Method := { name := "length", desc := "()I", sig := { parameters := [], returnType := some .int }, accessFlags := 1, code := some k7c2 }
def k7c3 : Code := { maxStack := 2, maxLocals := 2, code := jdk_42_method_56_code, exceptionTable := #[], attributes := #[] }
def k7m3 : Method := { name := "charAt", desc := "(I)C", sig := { parameters := [.int], returnType := some .char }, accessFlags := 1, code := some k7c3 }
def k7c4 : Code := { maxStack := 4, maxLocals := 2, code := jdk_42_method_82_code, exceptionTable := #[], attributes := #[] }
def k7m4 : Method := { name := "lastIndexOf", desc := "(I)I", sig := { parameters := [.int], returnType := some .int }, accessFlags := 1, code := some k7c4 }
def k7c5 : Code := { maxStack := 3, maxLocals := 3, code := jdk_42_method_83_code, exceptionTable := #[], attributes := #[] }
def k7m5 : Method := { name := "lastIndexOf", desc := "(II)I", sig := { parameters := [.int, .int], returnType := some .int }, accessFlags := 1, code := some k7c5 }
def k7c6 : Code := { maxStack := 3, maxLocals := 2, code := jdk_42_method_91_code, exceptionTable := #[], attributes := #[] }
def k7m6 : Method := { name := "substring", desc := "(I)Ljava/lang/String;", sig := { parameters := [.int], returnType := some (.object "java/lang/String") }, accessFlags := 1, code := some k7c6 }
def k7c7 : Code := { maxStack := 3, maxLocals := 5, code := jdk_42_method_92_code, exceptionTable := #[], attributes := #[] }
def k7m7 : Method := { name := "substring", desc := "(II)Ljava/lang/String;", sig := { parameters := [.int, .int], returnType := some (.object "java/lang/String") }, accessFlags := 1, code := some k7c7 }
def k7c8 : Code := { maxStack := 4, maxLocals := 6, code := jdk_42_method_149_code, exceptionTable := #[], attributes := #[] }
def k7m8 : Method := { name := "<init>", desc := "([CIILjava/lang/Void;)V", sig := { parameters := [(.array .char), .int, .int, (.object "java/lang/Void")], returnType := none }, accessFlags := 2, code := some k7c8 }
def k7c9 : Code := { maxStack := 2, maxLocals := 3, code := jdk_42_method_151_code, exceptionTable := #[], attributes := #[] }
def k7m9 : Method := { name := "<init>", desc := "([BB)V", sig := { parameters := [(.array .byte), .byte], returnType := none }, accessFlags := 0, code := some k7c9 }
def k7c10 : Code := { maxStack := 1, maxLocals := 1, code := jdk_42_method_152_code, exceptionTable := #[], attributes := #[] }
def k7m10 : Method := { name := "coder", desc := "()B", sig := { parameters := [], returnType := some .byte }, accessFlags := 0, code := some k7c10 }
def k7c11 : Code := { maxStack := 1, maxLocals := 1, code := jdk_42_method_154_code, exceptionTable := #[], attributes := #[] }
def k7m11 : Method := { name := "isLatin1", desc := "()Z", sig := { parameters := [], returnType := some .boolean }, accessFlags := 0, code := some k7c11 }
def k7c12 : Code := { maxStack := 3, maxLocals := 2, code := jdk_42_method_155_code, exceptionTable := #[], attributes := #[] }
def k7m12 : Method := { name := "checkIndex", desc := "(II)V", sig := { parameters := [.int, .int], returnType := none }, accessFlags := 8, code := some k7c12 }
def k7c13 : Code := { maxStack := 4, maxLocals := 3, code := jdk_42_method_158_code, exceptionTable := #[], attributes := #[] }
def k7m13 : Method := { name := "checkBoundsBeginEnd", desc := "(III)V", sig := { parameters := [.int, .int, .int], returnType := none }, accessFlags := 8, code := some k7c13 }
/-- java/lang/String -/
def k7 : Class := { plain "java/lang/String" (some 0) with
  accessFlags := 49
  interfaces := #[2, 3, 4, 5, 6]
  cf := some (fileOf pool7 10 #[.nestMembers #[1103]] #[{ accessFlags := 1, nameIndex := 5, descriptorIndex := 6, attributes := #[] }, { accessFlags := 1, nameIndex := 5, descriptorIndex := 1010, attributes := #[] }, { accessFlags := 1, nameIndex := 507, descriptorIndex := 334, attributes := #[] }, { accessFlags := 1, nameIndex := 497, descriptorIndex := 427, attributes := #[] }, { accessFlags := 1, nameIndex := 643, descriptorIndex := 765, attributes := #[] }, { accessFlags := 1, nameIndex := 643, descriptorIndex := 636, attributes := #[] }, { accessFlags := 1, nameIndex := 683, descriptorIndex := 892, attributes := #[] }, { accessFlags := 1, nameIndex := 683, descriptorIndex := 684, attributes := #[] }, { accessFlags := 2, nameIndex := 5, descriptorIndex := 29, attributes := #[] }, { accessFlags := 0, nameIndex := 5, descriptorIndex := 211, attributes := #[] }, { accessFlags := 0, nameIndex := 17, descriptorIndex := 337, attributes := #[] }, { accessFlags := 0, nameIndex := 494, descriptorIndex := 142, attributes := #[] }, { accessFlags := 8, nameIndex := 501, descriptorIndex := 391, attributes := #[] }, { accessFlags := 8, nameIndex := 523, descriptorIndex := 524, attributes := #[] }] 49 2 #[1106, 1108, 575, 1110, 1112] #[{ accessFlags := 18, nameIndex := 13, descriptorIndex := 14, attributes := #[] }, { accessFlags := 18, nameIndex := 17, descriptorIndex := 18, attributes := #[] }, { accessFlags := 2, nameIndex := 21, descriptorIndex := 22, attributes := #[] }, { accessFlags := 2, nameIndex := 25, descriptorIndex := 26, attributes := #[] }, { accessFlags := 26, nameIndex := 1116, descriptorIndex := 1117, attributes := #[] }, { accessFlags := 24, nameIndex := 40, descriptorIndex := 26, attributes := #[] }, { accessFlags := 26, nameIndex := 1101, descriptorIndex := 1102, attributes := #[] }, { accessFlags := 26, nameIndex := 1121, descriptorIndex := 1122, attributes := #[] }, { accessFlags := 25, nameIndex := 599, descriptorIndex := 600, attributes := #[] }, { accessFlags := 24, nameIndex := 1125, descriptorIndex := 18, attributes := #[] }, { accessFlags := 24, nameIndex := 1127, descriptorIndex := 18, attributes := #[] }])
  fields := #[{ name := "value", type := (.array .byte), accessFlags := 18, slot := 0, constantValue := 0 }, { name := "coder", type := .byte, accessFlags := 18, slot := 1, constantValue := 0 }, { name := "hash", type := .int, accessFlags := 2, slot := 2, constantValue := 0 }, { name := "hashIsZero", type := .boolean, accessFlags := 2, slot := 3, constantValue := 0 }, { name := "serialVersionUID", type := .long, accessFlags := 26, slot := 0, constantValue := 0 }, { name := "COMPACT_STRINGS", type := .boolean, accessFlags := 24, slot := 1, constantValue := 0 }, { name := "serialPersistentFields", type := (.array (.object "java/io/ObjectStreamField")), accessFlags := 26, slot := 2, constantValue := 0 }, { name := "REPL", type := .char, accessFlags := 26, slot := 3, constantValue := 0 }, { name := "CASE_INSENSITIVE_ORDER", type := (.object "java/util/Comparator"), accessFlags := 25, slot := 4, constantValue := 0 }, { name := "LATIN1", type := .byte, accessFlags := 24, slot := 5, constantValue := 0 }, { name := "UTF16", type := .byte, accessFlags := 24, slot := 6, constantValue := 0 }]
  methods := #[k7m0, k7m1, k7m2, k7m3, k7m4, k7m5, k7m6, k7m7, k7m8, k7m9, k7m10, k7m11, k7m12, k7m13]
  instanceTypes := #[(.array .byte), .byte, .int, .boolean]
  staticTypes := #[.long, .boolean, (.array (.object "java/io/ObjectStreamField")), .char, (.object "java/util/Comparator"), .byte, .byte]
  resolved := Array.replicate 1451 none
  statics := some 0 }

def pool8 : Array CpInfo := pool [(2, .class_ 4), (1, u "java/lang/Object"), (0, u "<init>"), (0, u "()V"), (27, .class_ 35), (0, u "java/lang/String"), (11, .methodref 34 48), (0, .nameAndType 49 50), (0, u "lastIndexOf"), (0, u "(I)I"), (0, .methodref 34 52), (0, .nameAndType 53 54), (0, u "substring"), (0, u "(I)Ljava/lang/String;"), (0, .class_ 56), (0, u "com/example/hifadhi/hifadhi/mapping/QualifiedName"), (4, u "unqualified"), (0, u "(Ljava/lang/String;)Ljava/lang/String;")] 2

def k8m0 : Method := { name := "<init>", desc := "()V", sig := { parameters := [], returnType := none }, accessFlags := 2, code := none }
def k8c1 : Code := { maxStack := 3, maxLocals := 1, code := prog_2_method_3_code, exceptionTable := #[], attributes := #[] }
def k8m1 : Method := { name := "unqualified", desc := "(Ljava/lang/String;)Ljava/lang/String;", sig := { parameters := [(.object "java/lang/String")], returnType := some (.object "java/lang/String") }, accessFlags := 8, code := some k8c1 }
/-- com/example/hifadhi/hifadhi/mapping/QualifiedName -/
def k8 : Class := { plain "com/example/hifadhi/hifadhi/mapping/QualifiedName" (some 0) with
  accessFlags := 48
  interfaces := #[]
  cf := some (fileOf pool8 55 #[] #[{ accessFlags := 2, nameIndex := 5, descriptorIndex := 6, attributes := #[] }, { accessFlags := 8, nameIndex := 61, descriptorIndex := 62, attributes := #[] }] 48 2 #[] #[])
  fields := #[]
  methods := #[k8m0, k8m1]
  instanceTypes := #[]
  staticTypes := #[]
  resolved := Array.replicate 65 none
  statics := none }

def pool9 : Array CpInfo := pool [(1, .class_ 2), (0, u "java/lang/String"), (1, .class_ 6), (1, u "java/lang/Object"), (0, u "<init>"), (0, u "()V"), (0, .methodref 1 10), (0, .nameAndType 11 12), (0, u "checkIndex"), (0, u "(II)V"), (1, .class_ 16), (1, u "java/lang/StringLatin1"), (21, .methodref 39 40), (0, .class_ 41), (0, .nameAndType 42 43), (0, u "java/lang/Math"), (0, u "min"), (0, u "(II)I"), (9, u "([BI)C"), (34, .methodref 14 89), (0, .nameAndType 90 91), (0, u "canEncode"), (0, u "(I)Z"), (20, .methodref 1 113), (0, .nameAndType 7 114), (0, u "([BB)V"), (6, u "$assertionsDisabled"), (0, u "Z"), (8, .class_ 133), (1, u "java/util/Arrays"), (17, .string 152), (0, u ""), (43, u "newString"), (0, u "([BII)Ljava/lang/String;"), (23, .class_ 223), (1, u "java/lang/StringLatin1$LinesSpliterator"), (8, .methodref 131 233), (0, .nameAndType 234 235), (0, u "copyOfRange"), (0, u "([BII)[B"), (16, u "charAt"), (8, u "([BII)I"), (47, u "lastIndexOf"), (80, .class_ 391), (0, u "java/lang/StringLatin1$CharsSpliterator")] 3

def k9m0 : Method := { name := "<init>", desc := "()V", sig := { parameters := [], returnType := none }, accessFlags := 0, code := none }
def k9c1 : Code := { maxStack := 2, maxLocals := 2, code := jdk_43_method_2_code, exceptionTable := #[], attributes := #[] }
def k9m1 : Method := { name := "charAt", desc := "([BI)C", sig := { parameters := [(.array .byte), .int], returnType := some .char }, accessFlags := 9, code := some k9c1 }
def k9c2 : Code := { maxStack := 2, maxLocals := 1, code := jdk_43_method_4_code, exceptionTable := #[], attributes := #[] }
def k9m2 : Method := { name := "canEncode", desc := "(I)Z", sig := { parameters := [.int], returnType := some .boolean }, accessFlags := 9, code := some k9c2 }
def k9c3 : Code := { maxStack := 3, maxLocals := 4, code := jdk_43_method_27_code, exceptionTable := #[], attributes := #[] }
def k9m3 : Method := { name := "lastIndexOf", desc := "([BII)I", sig := { parameters := [(.array .byte), .int, .int], returnType := some .int }, accessFlags := 9, code := some k9c3 }
def k9c4 : Code := { maxStack := 6, maxLocals := 3, code := jdk_43_method_47_code, exceptionTable := #[], attributes := #[] }
def k9m4 : Method := { name := "newString", desc := "([BII)Ljava/lang/String;", sig := { parameters := [(.array .byte), .int, .int], returnType := some (.object "java/lang/String") }, accessFlags := 9, code := some k9c4 }
/-- java/lang/StringLatin1 -/
def k9 : Class := { plain "java/lang/StringLatin1" (some 0) with
  accessFlags := 48
  interfaces := #[]
  cf := some (fileOf pool9 14 #[.nestMembers #[390, 221]] #[{ accessFlags := 0, nameIndex := 7, descriptorIndex := 8, attributes := #[] }, { accessFlags := 9, nameIndex := 252, descriptorIndex := 53, attributes := #[] }, { accessFlags := 9, nameIndex := 90, descriptorIndex := 91, attributes := #[] }, { accessFlags := 9, nameIndex := 309, descriptorIndex := 261, attributes := #[] }, { accessFlags := 9, nameIndex := 196, descriptorIndex := 197, attributes := #[] }] 48 4 #[] #[{ accessFlags := 4120, nameIndex := 121, descriptorIndex := 122, attributes := #[] }])
  fields := #[{ name := "$assertionsDisabled", type := .boolean, accessFlags := 4120, slot := 0, constantValue := 0 }]
  methods := #[k9m0, k9m1, k9m2, k9m3, k9m4]
  instanceTypes := #[]
  staticTypes := #[.boolean]
  resolved := Array.replicate 395 none
  statics := none }

def pool10 : Array CpInfo := pool [(1, .class_ 2), (0, u "java/lang/Math"), (1, .class_ 6), (1, u "java/lang/Object"), (0, u "<init>"), (0, u "()V"), (89, .class_ 100), (1, u "java/lang/Math$RandomNumberGeneratorHolder"), (71, u "negativeZeroFloatBits"), (0, u "J"), (2, u "negativeZeroDoubleBits"), (24, u "min"), (43, u "$assertionsDisabled"), (0, u "Z"), (88, u "(II)I"), (2, u "twoToTheDoubleScaleDown"), (0, u "D"), (4, u "twoToTheDoubleScaleUp"), (9, u "E"), (3, u "PI"), (2, u "TAU"), (2, u "DEGREES_TO_RADIANS"), (0, u "RADIANS_TO_DEGREES")] 94

def k10m0 : Method := { name := "<init>", desc := "()V", sig := { parameters := [], returnType := none }, accessFlags := 2, code := none }
def k10c1 : Code := { maxStack := 2, maxLocals := 2, code := jdk_29_method_69_code, exceptionTable := #[], attributes := #[] }
def k10m1 : Method := { name := "min", desc := "(II)I", sig := { parameters := [.int, .int], returnType := some .int }, accessFlags := 9, code := some k10c1 }
/-- java/lang/Math -/
def k10 : Class := { plain "java/lang/Math" (some 0) with
  accessFlags := 49
  interfaces := #[]
  cf := some (fileOf pool10 1 #[.nestMembers #[98]] #[{ accessFlags := 2, nameIndex := 7, descriptorIndex := 8, attributes := #[] }, { accessFlags := 9, nameIndex := 201, descriptorIndex := 335, attributes := #[] }] 49 4 #[] #[{ accessFlags := 25, nameIndex := 354, descriptorIndex := 339, attributes := #[] }, { accessFlags := 25, nameIndex := 358, descriptorIndex := 339, attributes := #[] }, { accessFlags := 25, nameIndex := 361, descriptorIndex := 339, attributes := #[] }, { accessFlags := 26, nameIndex := 364, descriptorIndex := 339, attributes := #[] }, { accessFlags := 26, nameIndex := 365, descriptorIndex := 339, attributes := #[] }, { accessFlags := 26, nameIndex := 172, descriptorIndex := 173, attributes := #[] }, { accessFlags := 26, nameIndex := 176, descriptorIndex := 173, attributes := #[] }, { accessFlags := 8, nameIndex := 344, descriptorIndex := 339, attributes := #[] }, { accessFlags := 8, nameIndex := 338, descriptorIndex := 339, attributes := #[] }, { accessFlags := 4120, nameIndex := 245, descriptorIndex := 246, attributes := #[] }])
  fields := #[{ name := "E", type := .double, accessFlags := 25, slot := 0, constantValue := 0 }, { name := "PI", type := .double, accessFlags := 25, slot := 1, constantValue := 0 }, { name := "TAU", type := .double, accessFlags := 25, slot := 2, constantValue := 0 }, { name := "DEGREES_TO_RADIANS", type := .double, accessFlags := 26, slot := 3, constantValue := 0 }, { name := "RADIANS_TO_DEGREES", type := .double, accessFlags := 26, slot := 4, constantValue := 0 }, { name := "negativeZeroFloatBits", type := .long, accessFlags := 26, slot := 5, constantValue := 0 }, { name := "negativeZeroDoubleBits", type := .long, accessFlags := 26, slot := 6, constantValue := 0 }, { name := "twoToTheDoubleScaleUp", type := .double, accessFlags := 8, slot := 7, constantValue := 0 }, { name := "twoToTheDoubleScaleDown", type := .double, accessFlags := 8, slot := 8, constantValue := 0 }, { name := "$assertionsDisabled", type := .boolean, accessFlags := 4120, slot := 9, constantValue := 0 }]
  methods := #[k10m0, k10m1]
  instanceTypes := #[]
  staticTypes := #[.double, .double, .double, .double, .double, .long, .long, .double, .double, .boolean]
  resolved := Array.replicate 460 none
  statics := none }

def pool11 : Array CpInfo := pool [(2, .class_ 4), (1, u "java/lang/Object"), (0, u "<init>"), (0, u "()V"), (17, .class_ 26), (1, u "jdk/internal/util/Preconditions"), (6, u "checkIndex"), (13, u "checkFromToIndex"), (7, .class_ 56), (0, u "jdk/internal/util/Preconditions$4"), (57, .class_ 115), (0, u "jdk/internal/util/Preconditions$1"), (7, u "SIOOBE_FORMATTER"), (0, u "Ljava/util/function/BiFunction;"), (0, .class_ 126), (0, u "jdk/internal/util/Preconditions$2"), (3, u "AIOOBE_FORMATTER"), (0, .class_ 132), (0, u "jdk/internal/util/Preconditions$3"), (3, u "IOOBE_FORMATTER"), (41, u "(IILjava/util/function/BiFunction;)I"), (4, u "(IIILjava/util/function/BiFunction;)I")] 10

def k11m0 : Method := { name := "<init>", desc := "()V", sig := { parameters := [], returnType := none }, accessFlags := 1, code := none }
def k11c1 : Code := { maxStack := 3, maxLocals := 3, code := jdk_41_method_11_code, exceptionTable := #[], attributes := #[] }
def k11m1 : Method := { name := "checkIndex", desc := "(IILjava/util/function/BiFunction;)I", sig := { parameters := [.int, .int, (.object "java/util/function/BiFunction")], returnType := some .int }, accessFlags := 9, code := some k11c1 }
def k11c2 : Code := { maxStack := 4, maxLocals := 4, code := jdk_41_method_12_code, exceptionTable := #[], attributes := #[] }
def k11m2 : Method := { name := "checkFromToIndex", desc := "(IIILjava/util/function/BiFunction;)I", sig := { parameters := [.int, .int, .int, (.object "java/util/function/BiFunction")], returnType := some .int }, accessFlags := 9, code := some k11c2 }
/-- jdk/internal/util/Preconditions -/
def k11 : Class := { plain "jdk/internal/util/Preconditions" (some 0) with
  accessFlags := 33
  interfaces := #[]
  cf := some (fileOf pool11 24 #[.nestMembers #[55, 131, 125, 114]] #[{ accessFlags := 1, nameIndex := 5, descriptorIndex := 6, attributes := #[] }, { accessFlags := 9, nameIndex := 33, descriptorIndex := 178, attributes := #[] }, { accessFlags := 9, nameIndex := 47, descriptorIndex := 183, attributes := #[] }] 33 2 #[] #[{ accessFlags := 25, nameIndex := 123, descriptorIndex := 124, attributes := #[] }, { accessFlags := 25, nameIndex := 130, descriptorIndex := 124, attributes := #[] }, { accessFlags := 25, nameIndex := 136, descriptorIndex := 124, attributes := #[] }])
  fields := #[{ name := "SIOOBE_FORMATTER", type := (.object "java/util/function/BiFunction"), accessFlags := 25, slot := 0, constantValue := 0 }, { name := "AIOOBE_FORMATTER", type := (.object "java/util/function/BiFunction"), accessFlags := 25, slot := 1, constantValue := 0 }, { name := "IOOBE_FORMATTER", type := (.object "java/util/function/BiFunction"), accessFlags := 25, slot := 2, constantValue := 0 }]
  methods := #[k11m0, k11m1, k11m2]
  instanceTypes := #[]
  staticTypes := #[(.object "java/util/function/BiFunction"), (.object "java/util/function/BiFunction"), (.object "java/util/function/BiFunction")]
  resolved := Array.replicate 194 none
  statics := some 1 }

def pool12 : Array CpInfo := pool [(6, .class_ 8), (1, u "java/lang/Object"), (0, u "<init>"), (0, u "()V"), (1, .class_ 14), (1, u "java/lang/StringUTF16"), (31, u "$assertionsDisabled"), (0, u "Z"), (13, u "HI_BYTE_SHIFT"), (0, u "I"), (2, u "LO_BYTE_SHIFT"), (49, .methodref 12 116), (0, .nameAndType 117 118), (0, u "compress"), (0, u "([CI[BII)I"), (3, u "([CII)[B"), (138, u "coderFromArrayLen"), (0, u "([BI)B"), (106, .class_ 371), (1, u "java/lang/StringUTF16$LinesSpliterator"), (58, u "MAX_LENGTH"), (196, .class_ 628), (0, u "java/lang/StringUTF16$CodePointsSpliterator"), (0, .class_ 630), (0, u "java/lang/StringUTF16$CharsSpliterator")] 4

def k12m0 : Method := { name := "<init>", desc := "()V", sig := { parameters := [], returnType := none }, accessFlags := 0, code := none }
def k12c1 : Code := { maxStack := 2, maxLocals := 2, code := jdk_52_method_15_code, exceptionTable := #[], attributes := #[] }
def k12m1 : Method := { name := "coderFromArrayLen", desc := "([BI)B", sig := { parameters := [(.array .byte), .int], returnType := some .byte }, accessFlags := 8, code := some k12c1 }
def k12c2 : Code := { maxStack := 5, maxLocals := 6, code := jdk_52_method_16_code, exceptionTable := #[], attributes := #[] }
def k12m2 : Method := { name := "compress", desc := "([CII)[B", sig := { parameters := [(.array .char), .int, .int], returnType := some (.array .byte) }, accessFlags := 9, code := some k12c2 }
def k12c3 : Code := { maxStack := 3, maxLocals := 7, code := jdk_52_method_21_code, exceptionTable := #[], attributes := #[] }
def k12m3 : Method := { name := "compress", desc := "([CI[BII)I", sig := { parameters := [(.array .char), .int, (.array .byte), .int, .int], returnType := some .int }, accessFlags := 9, code := some k12c3 }
/-- java/lang/StringUTF16 -/
def k12 : Class := { plain "java/lang/StringUTF16" (some 0) with
  accessFlags := 48
  interfaces := #[]
  cf := some (fileOf pool12 12 #[.nestMembers #[627, 629, 369]] #[{ accessFlags := 0, nameIndex := 9, descriptorIndex := 10, attributes := #[] }, { accessFlags := 8, nameIndex := 261, descriptorIndex := 262, attributes := #[] }, { accessFlags := 9, nameIndex := 117, descriptorIndex := 122, attributes := #[] }, { accessFlags := 9, nameIndex := 117, descriptorIndex := 118, attributes := #[] }] 48 6 #[] #[{ accessFlags := 26, nameIndex := 61, descriptorIndex := 62, attributes := #[] }, { accessFlags := 26, nameIndex := 65, descriptorIndex := 62, attributes := #[] }, { accessFlags := 24, nameIndex := 430, descriptorIndex := 62, attributes := #[] }, { accessFlags := 4120, nameIndex := 46, descriptorIndex := 47, attributes := #[] }])
  fields := #[{ name := "HI_BYTE_SHIFT", type := .int, accessFlags := 26, slot := 0, constantValue := 0 }, { name := "LO_BYTE_SHIFT", type := .int, accessFlags := 26, slot := 1, constantValue := 0 }, { name := "MAX_LENGTH", type := .int, accessFlags := 24, slot := 2, constantValue := 0 }, { name := "$assertionsDisabled", type := .boolean, accessFlags := 4120, slot := 3, constantValue := 0 }]
  methods := #[k12m0, k12m1, k12m2, k12m3]
  instanceTypes := #[]
  staticTypes := #[.int, .int, .int, .boolean]
  resolved := Array.replicate 635 none
  statics := none }

def pool13 : Array CpInfo := pool [(2, .class_ 4), (1, u "java/lang/Object"), (0, u "<init>"), (0, u "()V"), (7, .class_ 16), (1, u "java/util/Arrays"), (57, .class_ 76), (1, u "java/util/Arrays$NaturalOrder"), (36, .class_ 115), (1, u "java/util/Arrays$LegacyMergeSort"), (1, u "Z"), (21, u "copyOfRange"), (10, .methodref 151 152), (0, .class_ 153), (0, .nameAndType 154 155), (0, u "java/lang/System"), (0, u "arraycopy"), (0, u "(Ljava/lang/Object;ILjava/lang/Object;II)V"), (148, .methodref 305 306), (0, .class_ 307), (0, .nameAndType 308 309), (0, u "java/lang/Math"), (0, u "min"), (0, u "(II)I"), (29, .methodref 14 340), (0, .nameAndType 341 342), (0, u "copyOfRangeByte"), (0, u "([BII)[B"), (0, .methodref 14 344), (0, .nameAndType 345 346), (0, u "checkLength"), (0, u "(II)V"), (28, .class_ 376), (0, u "java/util/Arrays$ArrayList"), (68, u "$assertionsDisabled"), (269, u "MIN_ARRAY_SORT_GRAN"), (0, u "I"), (2, u "INSERTIONSORT_THRESHOLD"), (255, .class_ 976), (0, u "java/util/Arrays$ArrayItr")] 52

def k13m0 : Method := { name := "<init>", desc := "()V", sig := { parameters := [], returnType := none }, accessFlags := 2, code := none }
def k13c1 : Code := { maxStack := 4, maxLocals := 2, code := jdk_65_method_131_code, exceptionTable := #[], attributes := #[] }
def k13m1 : Method := { name := "checkLength", desc := "(II)V", sig := { parameters := [.int, .int], returnType := none }, accessFlags := 10, code := some k13c1 }
def k13c2 : Code := { maxStack := 3, maxLocals := 3, code := jdk_65_method_132_code, exceptionTable := #[], attributes := #[] }
def k13m2 : Method := { name := "copyOfRange", desc := "([BII)[B", sig := { parameters := [(.array .byte), .int, .int], returnType := some (.array .byte) }, accessFlags := 9, code := some k13c2 }
def k13c3 : Code := { maxStack := 6, maxLocals := 5, code := jdk_65_method_133_code, exceptionTable := #[], attributes := #[] }
def k13m3 : Method := { name := "copyOfRangeByte", desc := "([BII)[B", sig := { parameters := [(.array .byte), .int, .int], returnType := some (.array .byte) }, accessFlags := 10, code := some k13c3 }
/-- java/util/Arrays -/
def k13 : Class := { plain "java/util/Arrays" (some 0) with
  accessFlags := 49
  interfaces := #[]
  cf := some (fileOf pool13 14 #[.nestMembers #[975, 375, 113, 74]] #[{ accessFlags := 2, nameIndex := 5, descriptorIndex := 6, attributes := #[] }, { accessFlags := 10, nameIndex := 345, descriptorIndex := 346, attributes := #[] }, { accessFlags := 9, nameIndex := 139, descriptorIndex := 342, attributes := #[] }, { accessFlags := 10, nameIndex := 341, descriptorIndex := 342, attributes := #[] }] 49 2 #[] #[{ accessFlags := 26, nameIndex := 715, descriptorIndex := 716, attributes := #[] }, { accessFlags := 26, nameIndex := 719, descriptorIndex := 716, attributes := #[] }, { accessFlags := 4120, nameIndex := 445, descriptorIndex := 117, attributes := #[] }])
  fields := #[{ name := "MIN_ARRAY_SORT_GRAN", type := .int, accessFlags := 26, slot := 0, constantValue := 0 }, { name := "INSERTIONSORT_THRESHOLD", type := .int, accessFlags := 26, slot := 1, constantValue := 0 }, { name := "$assertionsDisabled", type := .boolean, accessFlags := 4120, slot := 2, constantValue := 0 }]
  methods := #[k13m0, k13m1, k13m2, k13m3]
  instanceTypes := #[]
  staticTypes := #[.int, .int, .boolean]
  resolved := Array.replicate 1029 none
  statics := none }

def pool14 : Array CpInfo := pool [(2, .class_ 4), (1, u "java/lang/Object"), (0, u "<init>"), (0, u "()V"), (1, .class_ 10), (1, u "java/lang/System"), (0, u "allowSecurityManager"), (0, u "I"), (16, u "cons"), (0, u "Ljava/io/Console;"), (77, .class_ 110), (1, u "java/lang/System$CallersHolder"), (43, u "initialErrStream"), (0, u "Ljava/io/PrintStream;"), (19, u "security"), (0, u "Ljava/lang/SecurityManager;"), (31, .class_ 209), (0, u "java/lang/System$1"), (7, u "props"), (0, u "Ljava/util/Properties;"), (2, u "lineSeparator"), (0, u "Ljava/lang/String;"), (96, .class_ 321), (1, u "java/lang/System$LoggerFinder"), (5, .class_ 328), (0, u "java/lang/System$Logger"), (67, u "err"), (2, u "out"), (91, u "notSupportedJnuEncoding"), (15, u "in"), (17, u "initialIn"), (0, u "Ljava/io/InputStream;"), (35, u "bootLayer"), (0, u "Ljava/lang/ModuleLayer;"), (99, .class_ 664), (0, u "java/lang/System$2"), (9, u "NEVER"), (2, u "MAYBE"), (49, u "arraycopy"), (0, u "(Ljava/lang/Object;ILjava/lang/Object;II)V"), (72, .class_ 802), (0, u "java/lang/System$Logger$Level")] 31

def k14m0 : Method := { name := "<init>", desc := "()V", sig := { parameters := [], returnType := none }, accessFlags := 2, code := none }
def k14m1 : Method := { name := "arraycopy", desc := "(Ljava/lang/Object;ILjava/lang/Object;II)V", sig := { parameters := [(.object "java/lang/Object"), .int, (.object "java/lang/Object"), .int, .int], returnType := none }, accessFlags := 265, code := none }
/-- java/lang/System -/
def k14 : Class := { plain "java/lang/System" (some 0) with
  accessFlags := 49
  interfaces := #[]
  cf := some (fileOf pool14 8 #[.nestMembers #[319, 327, 801, 108, 663, 208]] #[{ accessFlags := 2, nameIndex := 5, descriptorIndex := 6, attributes := #[] }, { accessFlags := 265, nameIndex := 727, descriptorIndex := 728, attributes := #[] }] 49 2 #[] #[{ accessFlags := 25, nameIndex := 507, descriptorIndex := 526, attributes := #[] }, { accessFlags := 25, nameIndex := 399, descriptorIndex := 155, attributes := #[] }, { accessFlags := 25, nameIndex := 396, descriptorIndex := 155, attributes := #[] }, { accessFlags := 10, nameIndex := 525, descriptorIndex := 526, attributes := #[] }, { accessFlags := 26, nameIndex := 674, descriptorIndex := 12, attributes := #[] }, { accessFlags := 26, nameIndex := 677, descriptorIndex := 12, attributes := #[] }, { accessFlags := 10, nameIndex := 11, descriptorIndex := 12, attributes := #[] }, { accessFlags := 74, nameIndex := 175, descriptorIndex := 176, attributes := #[] }, { accessFlags := 10, nameIndex := 491, descriptorIndex := 222, attributes := #[] }, { accessFlags := 74, nameIndex := 29, descriptorIndex := 30, attributes := #[] }, { accessFlags := 74, nameIndex := 154, descriptorIndex := 155, attributes := #[] }, { accessFlags := 10, nameIndex := 217, descriptorIndex := 218, attributes := #[] }, { accessFlags := 10, nameIndex := 221, descriptorIndex := 222, attributes := #[] }, { accessFlags := 8, nameIndex := 562, descriptorIndex := 563, attributes := #[] }])
  fields := #[{ name := "in", type := (.object "java/io/InputStream"), accessFlags := 25, slot := 0, constantValue := 0 }, { name := "out", type := (.object "java/io/PrintStream"), accessFlags := 25, slot := 1, constantValue := 0 }, { name := "err", type := (.object "java/io/PrintStream"), accessFlags := 25, slot := 2, constantValue := 0 }, { name := "initialIn", type := (.object "java/io/InputStream"), accessFlags := 10, slot := 3, constantValue := 0 }, { name := "NEVER", type := .int, accessFlags := 26, slot := 4, constantValue := 0 }, { name := "MAYBE", type := .int, accessFlags := 26, slot := 5, constantValue := 0 }, { name := "allowSecurityManager", type := .int, accessFlags := 10, slot := 6, constantValue := 0 }, { name := "security", type := (.object "java/lang/SecurityManager"), accessFlags := 74, slot := 7, constantValue := 0 }, { name := "notSupportedJnuEncoding", type := (.object "java/lang/String"), accessFlags := 10, slot := 8, constantValue := 0 }, { name := "cons", type := (.object "java/io/Console"), accessFlags := 74, slot := 9, constantValue := 0 }, { name := "initialErrStream", type := (.object "java/io/PrintStream"), accessFlags := 74, slot := 10, constantValue := 0 }, { name := "props", type := (.object "java/util/Properties"), accessFlags := 10, slot := 11, constantValue := 0 }, { name := "lineSeparator", type := (.object "java/lang/String"), accessFlags := 10, slot := 12, constantValue := 0 }, { name := "bootLayer", type := (.object "java/lang/ModuleLayer"), accessFlags := 8, slot := 13, constantValue := 0 }]
  methods := #[k14m0, k14m1]
  instanceTypes := #[]
  staticTypes := #[(.object "java/io/InputStream"), (.object "java/io/PrintStream"), (.object "java/io/PrintStream"), (.object "java/io/InputStream"), .int, .int, .int, (.object "java/lang/SecurityManager"), (.object "java/lang/String"), (.object "java/io/Console"), (.object "java/io/PrintStream"), (.object "java/util/Properties"), (.object "java/lang/String"), (.object "java/lang/ModuleLayer")]
  resolved := Array.replicate 834 none
  statics := none }

def pool15 : Array CpInfo := pool [(9, u "<init>"), (6, .class_ 18), (1, u "java/lang/Object"), (0, u "()V"), (1, .class_ 23), (1, u "jdk/internal/util/ArraysSupport"), (0, u "LOG2_ARRAY_LONG_INDEX_SCALE"), (0, u "I"), (2, u "U"), (0, u "Ljdk/internal/misc/Unsafe;"), (8, u "BIG_ENDIAN"), (0, u "Z"), (8, u "LOG2_BYTE_BIT_SIZE"), (4, u "LOG2_ARRAY_INT_INDEX_SCALE"), (54, u "JLA"), (0, u "Ljdk/internal/access/JavaLangAccess;"), (11, u "LOG2_ARRAY_BOOLEAN_INDEX_SCALE"), (9, u "LOG2_ARRAY_BYTE_INDEX_SCALE"), (5, u "LOG2_ARRAY_CHAR_INDEX_SCALE"), (5, u "LOG2_ARRAY_SHORT_INDEX_SCALE"), (18, u "LOG2_ARRAY_FLOAT_INDEX_SCALE"), (24, u "LOG2_ARRAY_DOUBLE_INDEX_SCALE"), (89, u "T_BOOLEAN"), (2, u "T_CHAR"), (1, u "T_FLOAT"), (1, u "T_DOUBLE"), (1, u "T_BYTE"), (1, u "T_SHORT"), (1, u "T_INT"), (1, u "T_LONG"), (1, u "SOFT_MAX_ARRAY_LENGTH")] 83

def k15m0 : Method := { name := "<init>", desc := "()V", sig := { parameters := [], returnType := none }, accessFlags := 2, code := none }
/-- jdk/internal/util/ArraysSupport -/
def k15 : Class := { plain "jdk/internal/util/ArraysSupport" (some 0) with
  accessFlags := 33
  interfaces := #[]
  cf := some (fileOf pool15 21 #[] #[{ accessFlags := 2, nameIndex := 9, descriptorIndex := 19, attributes := #[] }] 33 16 #[] #[{ accessFlags := 24, nameIndex := 28, descriptorIndex := 29, attributes := #[] }, { accessFlags := 26, nameIndex := 38, descriptorIndex := 39, attributes := #[] }, { accessFlags := 25, nameIndex := 121, descriptorIndex := 25, attributes := #[] }, { accessFlags := 25, nameIndex := 131, descriptorIndex := 25, attributes := #[] }, { accessFlags := 25, nameIndex := 137, descriptorIndex := 25, attributes := #[] }, { accessFlags := 25, nameIndex := 143, descriptorIndex := 25, attributes := #[] }, { accessFlags := 25, nameIndex := 53, descriptorIndex := 25, attributes := #[] }, { accessFlags := 25, nameIndex := 24, descriptorIndex := 25, attributes := #[] }, { accessFlags := 25, nameIndex := 162, descriptorIndex := 25, attributes := #[] }, { accessFlags := 25, nameIndex := 187, descriptorIndex := 25, attributes := #[] }, { accessFlags := 26, nameIndex := 48, descriptorIndex := 25, attributes := #[] }, { accessFlags := 25, nameIndex := 277, descriptorIndex := 25, attributes := #[] }, { accessFlags := 25, nameIndex := 280, descriptorIndex := 25, attributes := #[] }, { accessFlags := 25, nameIndex := 282, descriptorIndex := 25, attributes := #[] }, { accessFlags := 25, nameIndex := 284, descriptorIndex := 25, attributes := #[] }, { accessFlags := 25, nameIndex := 286, descriptorIndex := 25, attributes := #[] }, { accessFlags := 25, nameIndex := 288, descriptorIndex := 25, attributes := #[] }, { accessFlags := 25, nameIndex := 290, descriptorIndex := 25, attributes := #[] }, { accessFlags := 25, nameIndex := 292, descriptorIndex := 25, attributes := #[] }, { accessFlags := 26, nameIndex := 108, descriptorIndex := 109, attributes := #[] }, { accessFlags := 25, nameIndex := 294, descriptorIndex := 25, attributes := #[] }])
  fields := #[{ name := "U", type := (.object "jdk/internal/misc/Unsafe"), accessFlags := 24, slot := 0, constantValue := 0 }, { name := "BIG_ENDIAN", type := .boolean, accessFlags := 26, slot := 1, constantValue := 0 }, { name := "LOG2_ARRAY_BOOLEAN_INDEX_SCALE", type := .int, accessFlags := 25, slot := 2, constantValue := 0 }, { name := "LOG2_ARRAY_BYTE_INDEX_SCALE", type := .int, accessFlags := 25, slot := 3, constantValue := 0 }, { name := "LOG2_ARRAY_CHAR_INDEX_SCALE", type := .int, accessFlags := 25, slot := 4, constantValue := 0 }, { name := "LOG2_ARRAY_SHORT_INDEX_SCALE", type := .int, accessFlags := 25, slot := 5, constantValue := 0 }, { name := "LOG2_ARRAY_INT_INDEX_SCALE", type := .int, accessFlags := 25, slot := 6, constantValue := 0 }, { name := "LOG2_ARRAY_LONG_INDEX_SCALE", type := .int, accessFlags := 25, slot := 7, constantValue := 0 }, { name := "LOG2_ARRAY_FLOAT_INDEX_SCALE", type := .int, accessFlags := 25, slot := 8, constantValue := 0 }, { name := "LOG2_ARRAY_DOUBLE_INDEX_SCALE", type := .int, accessFlags := 25, slot := 9, constantValue := 0 }, { name := "LOG2_BYTE_BIT_SIZE", type := .int, accessFlags := 26, slot := 10, constantValue := 0 }, { name := "T_BOOLEAN", type := .int, accessFlags := 25, slot := 11, constantValue := 0 }, { name := "T_CHAR", type := .int, accessFlags := 25, slot := 12, constantValue := 0 }, { name := "T_FLOAT", type := .int, accessFlags := 25, slot := 13, constantValue := 0 }, { name := "T_DOUBLE", type := .int, accessFlags := 25, slot := 14, constantValue := 0 }, { name := "T_BYTE", type := .int, accessFlags := 25, slot := 15, constantValue := 0 }, { name := "T_SHORT", type := .int, accessFlags := 25, slot := 16, constantValue := 0 }, { name := "T_INT", type := .int, accessFlags := 25, slot := 17, constantValue := 0 }, { name := "T_LONG", type := .int, accessFlags := 25, slot := 18, constantValue := 0 }, { name := "JLA", type := (.object "jdk/internal/access/JavaLangAccess"), accessFlags := 26, slot := 19, constantValue := 0 }, { name := "SOFT_MAX_ARRAY_LENGTH", type := .int, accessFlags := 25, slot := 20, constantValue := 0 }]
  methods := #[k15m0]
  instanceTypes := #[]
  staticTypes := #[(.object "jdk/internal/misc/Unsafe"), .boolean, .int, .int, .int, .int, .int, .int, .int, .int, .int, .int, .int, .int, .int, .int, .int, .int, .int, (.object "jdk/internal/access/JavaLangAccess"), .int]
  resolved := Array.replicate 378 none
  statics := none }

def pool16 : Array CpInfo := pool [(1, u "java/lang/Cloneable"), (0, .class_ 1), (0, u "java/lang/Object"), (0, .class_ 3)] 3

/-- java/lang/Cloneable -/
def k16 : Class := { plain "java/lang/Cloneable" (some 0) with
  accessFlags := 1537
  interfaces := #[]
  cf := some (fileOf pool16 2 #[] #[] 1537 4 #[] #[])
  fields := #[]
  methods := #[]
  instanceTypes := #[]
  staticTypes := #[]
  resolved := Array.replicate 8 none
  statics := none }

/-- the primitive byte -/
def k17 : Class := { plain "byte" none with kind := .primitive 'B', accessFlags := 0x411 }
/-- [B -/
def k18 : Class := { plain "[B" (some 0) with kind := .array 17 .byte, interfaces := #[16, 2], accessFlags := 1041 }

/-- the primitive char -/
def k19 : Class := { plain "char" none with kind := .primitive 'C', accessFlags := 0x411 }
/-- [C -/
def k20 : Class := { plain "[C" (some 0) with kind := .array 19 .char, interfaces := #[16, 2], accessFlags := 1041 }

/-- the primitive int -/
def k21 : Class := { plain "int" none with kind := .primitive 'I', accessFlags := 0x411 }
/-- [I -/
def k22 : Class := { plain "[I" (some 0) with kind := .array 21 .int, interfaces := #[16, 2], accessFlags := 1041 }

def heap : Heap := #[{ cls := 7, slots := #[.long 0, .int 1, .null, .int 0, .null, .int 0, .int 0], vm := .statics 7 },
  { cls := 11, slots := #[.null, .null, .null], vm := .statics 11 }]
def k23 : Class := plain "jdk/internal/util/ArraysSupport" (some 0)
def classes : Array Class := #[k0, k1, k2, k3, k4, k5, k6, k7, k8, k9, k10, k11, k12, k13, k14, k15, k16, k17, k18, k19, k20, k21, k22, k23]
def interned : List (Array UInt16 × Addr) := []
def slotsUsed : Nat := 10
def theMethod : MethodId := ⟨1, 2⟩
def args0 : Array Value := #[.int 5, .int 7, .int 3, .int 1, .int 1]
def aboutOver (below : List Frame) : State where
  vm := { classes := classes, interned := interned.toArray }
  heap := heap
  slotsUsed := slotsUsed
  threads := #[{ frames := .invoking theMethod args0 :: below }]
def below0 : List Frame := [.native { method := ⟨0, 0⟩, args := #[] }]
def about1 : State := aboutOver below0
def p0 : Program := .bare "" "" ""
def e0 : Env := launch0.env 0 0 0
theorem w_frames : about1.frames = Frame.invoking theMethod args0 :: below0 := rfl
set_option maxRecDepth 65536 in
theorem w_args : argsFit about1.vm theMethod args0 = true := by decide +kernel
set_option maxRecDepth 65536 in
theorem w_heap : heapFits about1 = true := by decide +kernel
set_option maxRecDepth 65536 in
theorem w_runnable : about1.curStatus? = some .runnable := by decide +kernel
set_option maxRecDepth 65536 in
theorem w_alone : about1.alone = true := by decide +kernel
set_option maxRecDepth 65536 in
theorem w_named : about1.methodNamed? x = some theMethod := by decide +kernel
set_option maxRecDepth 65536 in
theorem w_hears : about1.hears theMethod below0 = true := by decide +kernel
set_option maxRecDepth 65536 in
theorem w_ripe : about1.ripe theMethod args0 below0 = true := by decide +kernel
theorem w_running : about1.status = .running := rfl
set_option maxRecDepth 65536 in
theorem w_room : about1.hasRoom e0.platform room_1 = true :=
  launch0.hasRoom_least _ room_1 (by decide +kernel) (by decide +kernel) (by decide +kernel) (by decide +kernel) (by decide +kernel) (by decide +kernel)
theorem allAtoms_all (ts : List Jvm.Cond) (a : Array Jvm.Value) (st : Jvm.State) : (allAtoms ts).before a st = ts.all (fun c => c.before a st) := by
  induction ts with
  | nil => rfl
  | cons c t ih =>
    show (Jvm.Cond.and c (allAtoms t)).before a st = _
    rw [Jvm.Cond.before_and, ih, List.all_cons]
def words1 : List Jvm.Cond := Jvm.Cond.code x code maxLocals ret :: tables_1
/-- a 'code' word, met by the world's own term for the bytes: nothing is compared byte by byte -/
theorem code_word {y : MethodName} {bytes : ByteArray} {mx : Nat} {rt : Option FieldType} {a : Array Value} {s : State} {m : MethodId} {meth : Method} {c : Code} (h1 : s.methodNamed? y = some m) (h2 : s.vm.method? m = some meth) (h3 : meth.code = some c) (h4 : c.code = bytes)
    (h5 : (c.maxLocals == mx && c.exceptionTable.isEmpty && decide (c.maxStack ≤ mostOperands) && decide (meth.sig.returnType = rt) && !meth.locks && decide (parseMethodDescriptor y.desc = some meth.sig)) = true) : (Jvm.Cond.code y bytes mx rt).before a s = true := by
  simp only [Bool.and_eq_true, beq_iff_eq, Bool.not_eq_true', decide_eq_true_eq] at h5
  obtain ⟨⟨⟨⟨⟨g1, g2⟩, g3⟩, g4⟩, g5⟩, g6⟩ := h5
  simp [Cond.before, Cond.holds, Cond.value, h1, h2, h3, h4, g1, g2, g3, g4, g5, g6]
def isCode : Jvm.Cond → Bool
  | .code _ _ _ _ => true
  | _ => false
theorem all_split {L : List Jvm.Cond} {P : Jvm.Cond → Bool} (h1 : L.all (fun c => isCode c || P c) = true) (h2 : ∀ c ∈ L.filter isCode, P c = true) : L.all P = true := by
  refine List.all_eq_true.mpr fun c hc => ?_
  have h := List.all_eq_true.mp h1 c hc
  rcases Bool.eq_false_or_eq_true (isCode c) with hi | hi
  · exact h2 c (List.mem_filter.mpr ⟨hc, hi⟩)
  · simpa [hi] using h
set_option maxRecDepth 65536 in
theorem w_c0 : (Jvm.Cond.code x code maxLocals ret).before args0 about1 = true := code_word (m := ⟨1, 2⟩) (meth := k1m2) (c := k1c2) (by decide +kernel) rfl rfl rfl (by decide +kernel)
set_option maxRecDepth 65536 in
theorem w_c1 : (Jvm.Cond.code ({ cls := "com/example/hifadhi/hifadhi/mapping/QualifiedNameUnqualifiedPinLaw", name := "ch", desc := "(I)C" } : Jvm.MethodName) method_2_code (1 : Nat) (Option.some Jvm.ClassFile.FieldType.char)).before args0 about1 = true := code_word (m := ⟨1, 1⟩) (meth := k1m1) (c := k1c1) (by decide +kernel) rfl rfl rfl (by decide +kernel)
set_option maxRecDepth 65536 in
theorem w_c2 : (Jvm.Cond.code ({ cls := "java/lang/String", name := "<init>", desc := "([C)V" } : Jvm.MethodName) jdk_42_method_3_code (2 : Nat) (Option.none : Option Jvm.ClassFile.FieldType)).before args0 about1 = true := code_word (m := ⟨7, 1⟩) (meth := k7m1) (c := k7c1) (by decide +kernel) rfl rfl rfl (by decide +kernel)
set_option maxRecDepth 65536 in
theorem w_c3 : (Jvm.Cond.code ({ cls := "java/lang/String", name := "<init>", desc := "([CIILjava/lang/Void;)V" } : Jvm.MethodName) jdk_42_method_149_code (6 : Nat) (Option.none : Option Jvm.ClassFile.FieldType)).before args0 about1 = true := code_word (m := ⟨7, 8⟩) (meth := k7m8) (c := k7c8) (by decide +kernel) rfl rfl rfl (by decide +kernel)
set_option maxRecDepth 65536 in
theorem w_c4 : (Jvm.Cond.code ({ cls := "java/lang/Object", name := "<init>", desc := "()V" } : Jvm.MethodName) object_method_1_code (1 : Nat) (Option.none : Option Jvm.ClassFile.FieldType)).before args0 about1 = true := code_word (m := ⟨0, 0⟩) (meth := k0m0) (c := k0c0) (by decide +kernel) rfl rfl rfl (by decide +kernel)
set_option maxRecDepth 65536 in
theorem w_c5 : (Jvm.Cond.code ({ cls := "com/example/hifadhi/hifadhi/mapping/QualifiedName", name := "unqualified", desc := "(Ljava/lang/String;)Ljava/lang/String;" } : Jvm.MethodName) prog_2_method_3_code (1 : Nat) (Option.some (Jvm.ClassFile.FieldType.object "java/lang/String"))).before args0 about1 = true := code_word (m := ⟨8, 1⟩) (meth := k8m1) (c := k8c1) (by decide +kernel) rfl rfl rfl (by decide +kernel)
set_option maxRecDepth 65536 in
theorem w_c6 : (Jvm.Cond.code ({ cls := "java/lang/String", name := "lastIndexOf", desc := "(I)I" } : Jvm.MethodName) jdk_42_method_82_code (2 : Nat) (Option.some Jvm.ClassFile.FieldType.int)).before args0 about1 = true := code_word (m := ⟨7, 4⟩) (meth := k7m4) (c := k7c4) (by decide +kernel) rfl rfl rfl (by decide +kernel)
set_option maxRecDepth 65536 in
theorem w_c7 : (Jvm.Cond.code ({ cls := "java/lang/String", name := "length", desc := "()I" } : Jvm.MethodName) jdk_42_method_54_code (1 : Nat) (Option.some Jvm.ClassFile.FieldType.int)).before args0 about1 = true := code_word (m := ⟨7, 2⟩) (meth := k7m2) (c := k7c2) (by decide +kernel) rfl rfl rfl (by decide +kernel)
set_option maxRecDepth 65536 in
theorem w_c8 : (Jvm.Cond.code ({ cls := "java/lang/String", name := "coder", desc := "()B" } : Jvm.MethodName) jdk_42_method_152_code (1 : Nat) (Option.some Jvm.ClassFile.FieldType.byte)).before args0 about1 = true := code_word (m := ⟨7, 10⟩) (meth := k7m10) (c := k7c10) (by decide +kernel) rfl rfl rfl (by decide +kernel)
set_option maxRecDepth 65536 in
theorem w_c9 : (Jvm.Cond.code ({ cls := "java/lang/String", name := "lastIndexOf", desc := "(II)I" } : Jvm.MethodName) jdk_42_method_83_code (3 : Nat) (Option.some Jvm.ClassFile.FieldType.int)).before args0 about1 = true := code_word (m := ⟨7, 5⟩) (meth := k7m5) (c := k7c5) (by decide +kernel) rfl rfl rfl (by decide +kernel)
set_option maxRecDepth 65536 in
theorem w_c10 : (Jvm.Cond.code ({ cls := "java/lang/String", name := "isLatin1", desc := "()Z" } : Jvm.MethodName) jdk_42_method_154_code (1 : Nat) (Option.some Jvm.ClassFile.FieldType.boolean)).before args0 about1 = true := code_word (m := ⟨7, 11⟩) (meth := k7m11) (c := k7c11) (by decide +kernel) rfl rfl rfl (by decide +kernel)
set_option maxRecDepth 65536 in
theorem w_c11 : (Jvm.Cond.code ({ cls := "java/lang/StringLatin1", name := "lastIndexOf", desc := "([BII)I" } : Jvm.MethodName) jdk_43_method_27_code (4 : Nat) (Option.some Jvm.ClassFile.FieldType.int)).before args0 about1 = true := code_word (m := ⟨9, 3⟩) (meth := k9m3) (c := k9c3) (by decide +kernel) rfl rfl rfl (by decide +kernel)
set_option maxRecDepth 65536 in
theorem w_c12 : (Jvm.Cond.code ({ cls := "java/lang/StringLatin1", name := "canEncode", desc := "(I)Z" } : Jvm.MethodName) jdk_43_method_4_code (1 : Nat) (Option.some Jvm.ClassFile.FieldType.boolean)).before args0 about1 = true := code_word (m := ⟨9, 2⟩) (meth := k9m2) (c := k9c2) (by decide +kernel) rfl rfl rfl (by decide +kernel)
set_option maxRecDepth 65536 in
theorem w_c13 : (Jvm.Cond.code ({ cls := "java/lang/Math", name := "min", desc := "(II)I" } : Jvm.MethodName) jdk_29_method_69_code (2 : Nat) (Option.some Jvm.ClassFile.FieldType.int)).before args0 about1 = true := code_word (m := ⟨10, 1⟩) (meth := k10m1) (c := k10c1) (by decide +kernel) rfl rfl rfl (by decide +kernel)
set_option maxRecDepth 65536 in
theorem w_c14 : (Jvm.Cond.code ({ cls := "java/lang/String", name := "substring", desc := "(I)Ljava/lang/String;" } : Jvm.MethodName) jdk_42_method_91_code (2 : Nat) (Option.some (Jvm.ClassFile.FieldType.object "java/lang/String"))).before args0 about1 = true := code_word (m := ⟨7, 6⟩) (meth := k7m6) (c := k7c6) (by decide +kernel) rfl rfl rfl (by decide +kernel)
set_option maxRecDepth 65536 in
theorem w_c15 : (Jvm.Cond.code ({ cls := "java/lang/String", name := "substring", desc := "(II)Ljava/lang/String;" } : Jvm.MethodName) jdk_42_method_92_code (5 : Nat) (Option.some (Jvm.ClassFile.FieldType.object "java/lang/String"))).before args0 about1 = true := code_word (m := ⟨7, 7⟩) (meth := k7m7) (c := k7c7) (by decide +kernel) rfl rfl rfl (by decide +kernel)
set_option maxRecDepth 65536 in
theorem w_c16 : (Jvm.Cond.code ({ cls := "java/lang/String", name := "checkBoundsBeginEnd", desc := "(III)V" } : Jvm.MethodName) jdk_42_method_158_code (3 : Nat) (Option.none : Option Jvm.ClassFile.FieldType)).before args0 about1 = true := code_word (m := ⟨7, 13⟩) (meth := k7m13) (c := k7c13) (by decide +kernel) rfl rfl rfl (by decide +kernel)
set_option maxRecDepth 65536 in
theorem w_c17 : (Jvm.Cond.code ({ cls := "jdk/internal/util/Preconditions", name := "checkFromToIndex", desc := "(IIILjava/util/function/BiFunction;)I" } : Jvm.MethodName) jdk_41_method_12_code (4 : Nat) (Option.some Jvm.ClassFile.FieldType.int)).before args0 about1 = true := code_word (m := ⟨11, 2⟩) (meth := k11m2) (c := k11c2) (by decide +kernel) rfl rfl rfl (by decide +kernel)
set_option maxRecDepth 65536 in
theorem w_c18 : (Jvm.Cond.code ({ cls := "java/lang/StringUTF16", name := "compress", desc := "([CII)[B" } : Jvm.MethodName) jdk_52_method_16_code (6 : Nat) (Option.some (Jvm.ClassFile.FieldType.array Jvm.ClassFile.FieldType.byte))).before args0 about1 = true := code_word (m := ⟨12, 2⟩) (meth := k12m2) (c := k12c2) (by decide +kernel) rfl rfl rfl (by decide +kernel)
set_option maxRecDepth 65536 in
theorem w_c19 : (Jvm.Cond.code ({ cls := "java/lang/StringUTF16", name := "compress", desc := "([CI[BII)I" } : Jvm.MethodName) jdk_52_method_21_code (7 : Nat) (Option.some Jvm.ClassFile.FieldType.int)).before args0 about1 = true := code_word (m := ⟨12, 3⟩) (meth := k12m3) (c := k12c3) (by decide +kernel) rfl rfl rfl (by decide +kernel)
set_option maxRecDepth 65536 in
theorem w_c20 : (Jvm.Cond.code ({ cls := "java/lang/StringUTF16", name := "coderFromArrayLen", desc := "([BI)B" } : Jvm.MethodName) jdk_52_method_15_code (2 : Nat) (Option.some Jvm.ClassFile.FieldType.byte)).before args0 about1 = true := code_word (m := ⟨12, 1⟩) (meth := k12m1) (c := k12c1) (by decide +kernel) rfl rfl rfl (by decide +kernel)
set_option maxRecDepth 65536 in
theorem w_c21 : (Jvm.Cond.code ({ cls := "java/lang/StringLatin1", name := "newString", desc := "([BII)Ljava/lang/String;" } : Jvm.MethodName) jdk_43_method_47_code (3 : Nat) (Option.some (Jvm.ClassFile.FieldType.object "java/lang/String"))).before args0 about1 = true := code_word (m := ⟨9, 4⟩) (meth := k9m4) (c := k9c4) (by decide +kernel) rfl rfl rfl (by decide +kernel)
set_option maxRecDepth 65536 in
theorem w_c22 : (Jvm.Cond.code ({ cls := "java/util/Arrays", name := "copyOfRange", desc := "([BII)[B" } : Jvm.MethodName) jdk_65_method_132_code (3 : Nat) (Option.some (Jvm.ClassFile.FieldType.array Jvm.ClassFile.FieldType.byte))).before args0 about1 = true := code_word (m := ⟨13, 2⟩) (meth := k13m2) (c := k13c2) (by decide +kernel) rfl rfl rfl (by decide +kernel)
set_option maxRecDepth 65536 in
theorem w_c23 : (Jvm.Cond.code ({ cls := "java/util/Arrays", name := "copyOfRangeByte", desc := "([BII)[B" } : Jvm.MethodName) jdk_65_method_133_code (5 : Nat) (Option.some (Jvm.ClassFile.FieldType.array Jvm.ClassFile.FieldType.byte))).before args0 about1 = true := code_word (m := ⟨13, 3⟩) (meth := k13m3) (c := k13c3) (by decide +kernel) rfl rfl rfl (by decide +kernel)
set_option maxRecDepth 65536 in
theorem w_c24 : (Jvm.Cond.code ({ cls := "java/util/Arrays", name := "checkLength", desc := "(II)V" } : Jvm.MethodName) jdk_65_method_131_code (2 : Nat) (Option.none : Option Jvm.ClassFile.FieldType)).before args0 about1 = true := code_word (m := ⟨13, 1⟩) (meth := k13m1) (c := k13c1) (by decide +kernel) rfl rfl rfl (by decide +kernel)
set_option maxRecDepth 65536 in
theorem w_c25 : (Jvm.Cond.code ({ cls := "java/lang/String", name := "<init>", desc := "([BB)V" } : Jvm.MethodName) jdk_42_method_151_code (3 : Nat) (Option.none : Option Jvm.ClassFile.FieldType)).before args0 about1 = true := code_word (m := ⟨7, 9⟩) (meth := k7m9) (c := k7c9) (by decide +kernel) rfl rfl rfl (by decide +kernel)
set_option maxRecDepth 65536 in
theorem w_c26 : (Jvm.Cond.code ({ cls := "java/lang/String", name := "charAt", desc := "(I)C" } : Jvm.MethodName) jdk_42_method_56_code (2 : Nat) (Option.some Jvm.ClassFile.FieldType.char)).before args0 about1 = true := code_word (m := ⟨7, 3⟩) (meth := k7m3) (c := k7c3) (by decide +kernel) rfl rfl rfl (by decide +kernel)
set_option maxRecDepth 65536 in
theorem w_c27 : (Jvm.Cond.code ({ cls := "java/lang/StringLatin1", name := "charAt", desc := "([BI)C" } : Jvm.MethodName) jdk_43_method_2_code (2 : Nat) (Option.some Jvm.ClassFile.FieldType.char)).before args0 about1 = true := code_word (m := ⟨9, 1⟩) (meth := k9m1) (c := k9c1) (by decide +kernel) rfl rfl rfl (by decide +kernel)
set_option maxRecDepth 65536 in
theorem w_c28 : (Jvm.Cond.code ({ cls := "java/lang/String", name := "checkIndex", desc := "(II)V" } : Jvm.MethodName) jdk_42_method_155_code (2 : Nat) (Option.none : Option Jvm.ClassFile.FieldType)).before args0 about1 = true := code_word (m := ⟨7, 12⟩) (meth := k7m12) (c := k7c12) (by decide +kernel) rfl rfl rfl (by decide +kernel)
set_option maxRecDepth 65536 in
theorem w_c29 : (Jvm.Cond.code ({ cls := "jdk/internal/util/Preconditions", name := "checkIndex", desc := "(IILjava/util/function/BiFunction;)I" } : Jvm.MethodName) jdk_41_method_11_code (3 : Nat) (Option.some Jvm.ClassFile.FieldType.int)).before args0 about1 = true := code_word (m := ⟨11, 1⟩) (meth := k11m1) (c := k11c1) (by decide +kernel) rfl rfl rfl (by decide +kernel)
def codes1 : List Jvm.Cond := [Jvm.Cond.code x code maxLocals ret, Jvm.Cond.code ({ cls := "com/example/hifadhi/hifadhi/mapping/QualifiedNameUnqualifiedPinLaw", name := "ch", desc := "(I)C" } : Jvm.MethodName) method_2_code (1 : Nat) (Option.some Jvm.ClassFile.FieldType.char), Jvm.Cond.code ({ cls := "java/lang/String", name := "<init>", desc := "([C)V" } : Jvm.MethodName) jdk_42_method_3_code (2 : Nat) (Option.none : Option Jvm.ClassFile.FieldType), Jvm.Cond.code ({ cls := "java/lang/String", name := "<init>", desc := "([CIILjava/lang/Void;)V" } : Jvm.MethodName) jdk_42_method_149_code (6 : Nat) (Option.none : Option Jvm.ClassFile.FieldType), Jvm.Cond.code ({ cls := "java/lang/Object", name := "<init>", desc := "()V" } : Jvm.MethodName) object_method_1_code (1 : Nat) (Option.none : Option Jvm.ClassFile.FieldType), Jvm.Cond.code ({ cls := "com/example/hifadhi/hifadhi/mapping/QualifiedName", name := "unqualified", desc := "(Ljava/lang/String;)Ljava/lang/String;" } : Jvm.MethodName) prog_2_method_3_code (1 : Nat) (Option.some (Jvm.ClassFile.FieldType.object "java/lang/String")), Jvm.Cond.code ({ cls := "java/lang/String", name := "lastIndexOf", desc := "(I)I" } : Jvm.MethodName) jdk_42_method_82_code (2 : Nat) (Option.some Jvm.ClassFile.FieldType.int), Jvm.Cond.code ({ cls := "java/lang/String", name := "length", desc := "()I" } : Jvm.MethodName) jdk_42_method_54_code (1 : Nat) (Option.some Jvm.ClassFile.FieldType.int), Jvm.Cond.code ({ cls := "java/lang/String", name := "coder", desc := "()B" } : Jvm.MethodName) jdk_42_method_152_code (1 : Nat) (Option.some Jvm.ClassFile.FieldType.byte), Jvm.Cond.code ({ cls := "java/lang/String", name := "lastIndexOf", desc := "(II)I" } : Jvm.MethodName) jdk_42_method_83_code (3 : Nat) (Option.some Jvm.ClassFile.FieldType.int), Jvm.Cond.code ({ cls := "java/lang/String", name := "isLatin1", desc := "()Z" } : Jvm.MethodName) jdk_42_method_154_code (1 : Nat) (Option.some Jvm.ClassFile.FieldType.boolean), Jvm.Cond.code ({ cls := "java/lang/StringLatin1", name := "lastIndexOf", desc := "([BII)I" } : Jvm.MethodName) jdk_43_method_27_code (4 : Nat) (Option.some Jvm.ClassFile.FieldType.int), Jvm.Cond.code ({ cls := "java/lang/StringLatin1", name := "canEncode", desc := "(I)Z" } : Jvm.MethodName) jdk_43_method_4_code (1 : Nat) (Option.some Jvm.ClassFile.FieldType.boolean), Jvm.Cond.code ({ cls := "java/lang/Math", name := "min", desc := "(II)I" } : Jvm.MethodName) jdk_29_method_69_code (2 : Nat) (Option.some Jvm.ClassFile.FieldType.int), Jvm.Cond.code ({ cls := "java/lang/String", name := "substring", desc := "(I)Ljava/lang/String;" } : Jvm.MethodName) jdk_42_method_91_code (2 : Nat) (Option.some (Jvm.ClassFile.FieldType.object "java/lang/String")), Jvm.Cond.code ({ cls := "java/lang/String", name := "substring", desc := "(II)Ljava/lang/String;" } : Jvm.MethodName) jdk_42_method_92_code (5 : Nat) (Option.some (Jvm.ClassFile.FieldType.object "java/lang/String")), Jvm.Cond.code ({ cls := "java/lang/String", name := "checkBoundsBeginEnd", desc := "(III)V" } : Jvm.MethodName) jdk_42_method_158_code (3 : Nat) (Option.none : Option Jvm.ClassFile.FieldType), Jvm.Cond.code ({ cls := "jdk/internal/util/Preconditions", name := "checkFromToIndex", desc := "(IIILjava/util/function/BiFunction;)I" } : Jvm.MethodName) jdk_41_method_12_code (4 : Nat) (Option.some Jvm.ClassFile.FieldType.int), Jvm.Cond.code ({ cls := "java/lang/StringUTF16", name := "compress", desc := "([CII)[B" } : Jvm.MethodName) jdk_52_method_16_code (6 : Nat) (Option.some (Jvm.ClassFile.FieldType.array Jvm.ClassFile.FieldType.byte)), Jvm.Cond.code ({ cls := "java/lang/StringUTF16", name := "compress", desc := "([CI[BII)I" } : Jvm.MethodName) jdk_52_method_21_code (7 : Nat) (Option.some Jvm.ClassFile.FieldType.int), Jvm.Cond.code ({ cls := "java/lang/StringUTF16", name := "coderFromArrayLen", desc := "([BI)B" } : Jvm.MethodName) jdk_52_method_15_code (2 : Nat) (Option.some Jvm.ClassFile.FieldType.byte), Jvm.Cond.code ({ cls := "java/lang/StringLatin1", name := "newString", desc := "([BII)Ljava/lang/String;" } : Jvm.MethodName) jdk_43_method_47_code (3 : Nat) (Option.some (Jvm.ClassFile.FieldType.object "java/lang/String")), Jvm.Cond.code ({ cls := "java/util/Arrays", name := "copyOfRange", desc := "([BII)[B" } : Jvm.MethodName) jdk_65_method_132_code (3 : Nat) (Option.some (Jvm.ClassFile.FieldType.array Jvm.ClassFile.FieldType.byte)), Jvm.Cond.code ({ cls := "java/util/Arrays", name := "copyOfRangeByte", desc := "([BII)[B" } : Jvm.MethodName) jdk_65_method_133_code (5 : Nat) (Option.some (Jvm.ClassFile.FieldType.array Jvm.ClassFile.FieldType.byte)), Jvm.Cond.code ({ cls := "java/util/Arrays", name := "checkLength", desc := "(II)V" } : Jvm.MethodName) jdk_65_method_131_code (2 : Nat) (Option.none : Option Jvm.ClassFile.FieldType), Jvm.Cond.code ({ cls := "java/lang/String", name := "<init>", desc := "([BB)V" } : Jvm.MethodName) jdk_42_method_151_code (3 : Nat) (Option.none : Option Jvm.ClassFile.FieldType), Jvm.Cond.code ({ cls := "java/lang/String", name := "charAt", desc := "(I)C" } : Jvm.MethodName) jdk_42_method_56_code (2 : Nat) (Option.some Jvm.ClassFile.FieldType.char), Jvm.Cond.code ({ cls := "java/lang/StringLatin1", name := "charAt", desc := "([BI)C" } : Jvm.MethodName) jdk_43_method_2_code (2 : Nat) (Option.some Jvm.ClassFile.FieldType.char), Jvm.Cond.code ({ cls := "java/lang/String", name := "checkIndex", desc := "(II)V" } : Jvm.MethodName) jdk_42_method_155_code (2 : Nat) (Option.none : Option Jvm.ClassFile.FieldType), Jvm.Cond.code ({ cls := "jdk/internal/util/Preconditions", name := "checkIndex", desc := "(IILjava/util/function/BiFunction;)I" } : Jvm.MethodName) jdk_41_method_11_code (3 : Nat) (Option.some Jvm.ClassFile.FieldType.int)]
set_option maxRecDepth 65536 in
theorem codes_eq : words1.filter isCode = codes1 := rfl
theorem w_codes : ∀ c ∈ words1.filter isCode, c.before args0 about1 = true := by
  rw [codes_eq]
  intro c hc
  simp only [codes1, List.mem_cons, List.not_mem_nil, or_false] at hc
  rcases hc with rfl | rfl | rfl | rfl | rfl | rfl | rfl | rfl | rfl | rfl | rfl | rfl | rfl | rfl | rfl | rfl | rfl | rfl | rfl | rfl | rfl | rfl | rfl | rfl | rfl | rfl | rfl | rfl | rfl | rfl
  · exact w_c0
  · exact w_c1
  · exact w_c2
  · exact w_c3
  · exact w_c4
  · exact w_c5
  · exact w_c6
  · exact w_c7
  · exact w_c8
  · exact w_c9
  · exact w_c10
  · exact w_c11
  · exact w_c12
  · exact w_c13
  · exact w_c14
  · exact w_c15
  · exact w_c16
  · exact w_c17
  · exact w_c18
  · exact w_c19
  · exact w_c20
  · exact w_c21
  · exact w_c22
  · exact w_c23
  · exact w_c24
  · exact w_c25
  · exact w_c26
  · exact w_c27
  · exact w_c28
  · exact w_c29
set_option maxRecDepth 65536 in
theorem w_t1 : (words1.take 24).all (fun c => isCode c || c.before args0 about1) = true := by decide +kernel
set_option maxRecDepth 65536 in
theorem w_t2 : ((words1.drop 24).take 24).all (fun c => isCode c || c.before args0 about1) = true := by decide +kernel
set_option maxRecDepth 65536 in
theorem w_t3 : (((words1.drop 24).drop 24).take 24).all (fun c => isCode c || c.before args0 about1) = true := by decide +kernel
set_option maxRecDepth 65536 in
theorem w_t4 : ((((words1.drop 24).drop 24).drop 24).take 24).all (fun c => isCode c || c.before args0 about1) = true := by decide +kernel
set_option maxRecDepth 65536 in
theorem w_t5 : (((((words1.drop 24).drop 24).drop 24).drop 24).take 24).all (fun c => isCode c || c.before args0 about1) = true := by decide +kernel
set_option maxRecDepth 65536 in
theorem w_t6 : (((((words1.drop 24).drop 24).drop 24).drop 24).drop 24).all (fun c => isCode c || c.before args0 about1) = true := by decide +kernel
theorem w_tables : (allAtoms (Jvm.Cond.code x code maxLocals ret :: tables_1)).before args0 about1 = true := by
  rw [allAtoms_all]
  show words1.all (fun c => c.before args0 about1) = true
  refine all_split ?_ w_codes
  rw [← List.take_append_drop 24 words1, List.all_append, w_t1, ← List.take_append_drop 24 (words1.drop 24), List.all_append, w_t2, ← List.take_append_drop 24 ((words1.drop 24).drop 24), List.all_append, w_t3, ← List.take_append_drop 24 (((words1.drop 24).drop 24).drop 24), List.all_append, w_t4, ← List.take_append_drop 24 ((((words1.drop 24).drop 24).drop 24).drop 24), List.all_append, w_t5, w_t6]
  rfl
set_option maxRecDepth 65536 in
theorem w_rest : rest_1_c.before args0 about1 = true := by decide +kernel
set_option maxRecDepth 65536 in
theorem w_case : (Jvm.Cond.and given_1 narrow_1).before args0 about1 = true := by decide +kernel
set_option maxRecDepth 65536 in
theorem w_consts : constsHeld consts_1 about1 := Jvm.Lit.constsHeldB_iff.mp (by decide +kernel)
theorem w_applies : (headSpec (Jvm.Cond.code x code maxLocals ret :: tables_1) room_1).applies x e0.platform about1 = true :=
  (Spec.applies_iff w_frames).mpr ⟨w_running, w_runnable, w_alone, w_named, w_hears, w_ripe, w_room, w_tables⟩
theorem atStart : AtStart classFile x code maxLocals ret World_1 tables_1 room_1 Calls_1 rest_1 Pre_1 launch0 p0 e0 about1 theMethod args0 below0 :=
  ⟨lists_1, trivial, launch0.admits_env _ _ _, launch0.least_env, fairChoices_fair.cas, fairChoices_fair.clock, w_frames, w_args, w_heap, w_applies, ⟨w_consts, trivial⟩, w_rest, w_case⟩
end start1
theorem witness_1 : WitnessClaimed_1 := ⟨start1.p0, start1.e0, start1.about1, start1.theMethod, start1.args0, start1.below0, start1.atStart⟩
end Jvm.Pilot.@@N@@
