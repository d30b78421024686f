import JvmDerived
import JvmDerived.Pilot.@@N@@Statement
import JvmDerived.Pilot.@@N@@Code
set_option linter.unusedVariables false
set_option linter.unusedSimpArgs false
namespace Jvm.Pilot.@@N@@
open Jvm Jvm.ClassFile Sem Op Lib Jvm.Free Jvm.Stand Jvm.LawKit Jvm.RoadKit Bundle Jvm.Pilot.@@N@@.Jvm.D
/-! ## The frame of my walks: Gl: what is left to run ends well; St: where the run stands; Ctr: a body's contract; Ary: an array by its length and its values -/
def Gl (p : Program) (e : Env) (below : List Frame) (n0 : Nat) (Φ : Outcome → State → List Loc → Prop) (Q : Option Value → Heap → Prop) (U : State) : Prop :=
  ∃ s₂ o, Steps p.tables e below U s₂ ∧ s₂.status = .running ∧ Ended s₂ below o ∧ ∃ v L, o = .returned v ∧ (Q v s₂.heap ∧ Fr n0 L) ∧ Φ o s₂ L
abbrev Fn (s : State) (cs sl : Nat) : Outcome → State → List Loc → Prop := fun o t L => FrameEnd s o t L cs sl
abbrev Fw (s : State) (cs sl : Nat) : Outcome → State → List Loc → Prop := fun o t L => ReturnedEndW s o t L cs sl
def St (p : Program) (l : Launch) (e : Env) (R : Room) (s : State) (m : MethodId) (args : Array Value) (below : List Frame) (meth : Method) (c : Code) (n0 : Nat) (T : State) (h : Heap) (cells slots : Nat) : Prop :=
  ∃ locs, Stand p l e R s m args below meth c T locs cells slots ∧ T.heap = h ∧ Fr n0 locs
abbrev Ctr (l : Launch) (Z : State) (y : MethodName) (bytes : ByteArray) (maxL : Nat) (ret : Option FieldType) (ws : List Jvm.Cond) (rm : Room) (as' : Array Value) (h0 : Heap) (n0 cs sl : Nat) (Q : Option Value → Heap → Prop) : Prop :=
  MetFree l y (head1 (Jvm.Cond.code y bytes maxL ret :: ws) rm) (fun a U => a = as' ∧ Z.Warmed39 U.vm ∧ U.heap = h0) (fun _ _ _ _ _ => True) (fun _ U o U' => ∃ v L, o = .returned v ∧ (Q v U'.heap ∧ Fr n0 L) ∧ FrameEnd U o U' L cs sl)
theorem Ctr.of {l : Launch} {Z : State} {y : MethodName} {bytes : ByteArray} {maxL : Nat} {ret : Option FieldType} {ws : List Jvm.Cond} {rm : Room} {as' : Array Value} {h0 : Heap} {n0 cs sl : Nat} {Q : Option Value → Heap → Prop} (hn : plainFor y = true)
    (body : ∀ (p : Program) (e : Env) (s : State) (m : MethodId) (below : List Frame) (meth : Method) (c : Code) (T : State), p.tables.exec = Jvm.exec → c.code = bytes → c.maxLocals = maxL → meth.sig.returnType = ret → meth.locks = false → meth.name = y.name → s.vm.findClass y.cls = some m.cls → Z.Warmed39 s.vm →
      St p l e rm s m as' below meth c n0 T h0 0 0 → Gl p e below n0 (Fn s cs sl) Q (T.setTop (entryFrame m as' maxL))) : Ctr l Z y bytes maxL ret ws rm as' h0 n0 cs sl Q := by
  refine MetFree.of_bodySF hn hisR ?_
  intro p e s m args below meth c s₁ Bd hml0 hP hK
  obtain ⟨rfl, hZ, hh⟩ := hP
  exact body p e s m below meth c s₁ Bd.exec Bd.bytes hml0 Bd.returns Bd.notSynchronized (name_of_methodNamed Bd.named Bd.method).1 (findClass_of_methodNamed Bd.named) hZ ⟨[], Stand.of_body Bd, by rw [← hh, Bd.state]; rfl, Fr.nil n0⟩
theorem own_since (s : State) (n : Nat) : s.Since s.vm n := (State.WarmedH.refl s).since n
abbrev CtrW (l : Launch) (Z : State) (y : MethodName) (bytes : ByteArray) (maxL : Nat) (ret : Option FieldType) (ws : List Jvm.Cond) (rm : Room) (as' : Array Value) (h0 : Heap) (n0 cs sl : Nat) (Q : Option Value → Heap → Prop) : Prop :=
  MetFree l y (head1 (Jvm.Cond.code y bytes maxL ret :: ws) rm) (fun a U => a = as' ∧ Z.Warmed39 U.vm ∧ U.heap = h0) (fun _ _ _ _ _ => True) (fun _ U o U' => ∃ v L, o = .returned v ∧ (Q v U'.heap ∧ Fr n0 L) ∧ ReturnedEndW U o U' L cs sl)
theorem CtrW.of {l : Launch} {Z : State} {y : MethodName} {bytes : ByteArray} {maxL : Nat} {ret : Option FieldType} {ws : List Jvm.Cond} {rm : Room} {as' : Array Value} {h0 : Heap} {n0 cs sl : Nat} {Q : Option Value → Heap → Prop} (hn : plainFor y = true)
    (body : ∀ (p : Program) (e : Env) (s : State) (m : MethodId) (below : List Frame) (meth : Method) (c : Code) (T : State), p.tables.exec = Jvm.exec → c.code = bytes → c.maxLocals = maxL → meth.sig.returnType = ret → meth.locks = false → meth.name = y.name → (s.setVm s.vm).vm.findClass y.cls = some m.cls → Z.Warmed39 (s.setVm s.vm).vm →
      St p l e rm (s.setVm s.vm) m as' below meth c n0 T h0 0 0 → s.Since s.vm h0.size → Gl p e below n0 (Fw s cs sl) Q (T.setTop (entryFrame m as' maxL))) : CtrW l Z y bytes maxL ret ws rm as' h0 n0 cs sl Q := by
  refine MetFree.of_bodySF hn hisR ?_
  intro p e s m args below meth c s₁ Bd hml0 hP hK
  obtain ⟨rfl, hZ, hh⟩ := hP
  exact body p e s m below meth c s₁ Bd.exec Bd.bytes hml0 Bd.returns Bd.notSynchronized (name_of_methodNamed Bd.named Bd.method).1 (findClass_of_methodNamed Bd.named) hZ ⟨[], Stand.of_body Bd, by rw [← hh, Bd.state]; rfl, Fr.nil n0⟩ (own_since s h0.size)
abbrev CtrL (l : Launch) (Z : State) (y : MethodName) (bytes : ByteArray) (maxL : Nat) (ret : Option FieldType) (ws : List Jvm.Cond) (rm : Room) (as' : Array Value) (h0 : Heap) (n0 cs sl : Nat) (Q : Option Value → Heap → Prop) : Prop :=
  MetFree l y (head1 (Jvm.Cond.code y bytes maxL ret :: ws) rm) (fun a U => a = as' ∧ U = Z ∧ U.heap = h0) (fun _ _ _ _ _ => True) (fun _ U o U' => ∃ v L, o = .returned v ∧ (Q v U'.heap ∧ Fr n0 L) ∧ ReturnedEndW U o U' L cs sl)
theorem CtrL.of {l : Launch} {Z : State} {y : MethodName} {bytes : ByteArray} {maxL : Nat} {ret : Option FieldType} {ws : List Jvm.Cond} {rm : Room} {as' : Array Value} {h0 : Heap} {n0 cs sl : Nat} {Q : Option Value → Heap → Prop} (hn : plainFor y = true)
    (body : ∀ (p : Program) (e : Env) (s : State) (m : MethodId) (below : List Frame) (meth : Method) (c : Code) (T : State), p.tables.exec = Jvm.exec → c.code = bytes → c.maxLocals = maxL → meth.sig.returnType = ret → meth.locks = false → meth.name = y.name → (s.setVm s.vm).vm.findClass y.cls = some m.cls → Z.Warmed39 (s.setVm s.vm).vm →
      St p l e rm (s.setVm s.vm) m as' below meth c n0 T h0 0 0 → s.Since s.vm h0.size → s = Z → s.heap = h0 → Gl p e below n0 (Fw s cs sl) Q (T.setTop (entryFrame m as' maxL))) : CtrL l Z y bytes maxL ret ws rm as' h0 n0 cs sl Q := by
  refine MetFree.of_bodySF hn hisR ?_
  intro p e s m args below meth c s₁ Bd hml0 hP hK
  obtain ⟨rfl, hZ, hh⟩ := hP
  exact body p e s m below meth c s₁ Bd.exec Bd.bytes hml0 Bd.returns Bd.notSynchronized (name_of_methodNamed Bd.named Bd.method).1 (findClass_of_methodNamed Bd.named) (hZ ▸ State.Warmed39.refl s) ⟨[], Stand.of_body Bd, by rw [← hh, Bd.state]; rfl, Fr.nil n0⟩ (own_since s h0.size) hZ hh
def Ary (Z : State) (h : Heap) (a : Addr) (ty : FieldType) (n : Nat) (f : Nat → Value) : Prop := ∃ c : Cell, Arr Z h a c ty ∧ c.slots.size = n ∧ ∀ i, i < n → c.slots[i]? = some (f i)
def own_upd (f : Nat → Value) (i : Nat) (v : Value) : Nat → Value := fun j => if j = i then v else f j
theorem own_upd_same (f : Nat → Value) (i : Nat) (v : Value) : own_upd f i v i = v := by simp [own_upd]
theorem own_upd_ne (f : Nat → Value) {i j : Nat} (v : Value) (q : ¬ j = i) : own_upd f i v j = f j := by simp [own_upd, q]
theorem own_in {j : Int32} {i k : Nat} (hj : j.toInt = (i : Int)) (hi : i < k) : ¬ (j < 0 ∨ k ≤ j.toNatClampNeg) ∧ j.toNatClampNeg = i := by
  have e : j.toNatClampNeg = i := by simp only [Int32.toNatClampNeg]; omega
  refine ⟨?_, e⟩
  rw [e, Int32.lt_iff_toInt_lt]; have : (0 : Int32).toInt = 0 := rfl
  omega
section OwnFacts
variable {Z : State} {h h' : Heap} {a b : Addr} {ty : FieldType} {n sl : Nat} {f : Nat → Value} {v : Value} {ws : List Addr}
theorem Ary.lt (F : Ary Z h a ty n f) : a < h.size := by obtain ⟨c, A, -⟩ := F; exact A.lt
theorem Ary.ext (F : Ary Z h a ty n f) (E : Ext h h') : Ary Z h' a ty n f := by obtain ⟨c, A, r⟩ := F; exact ⟨c, A.ext E, r⟩
theorem Ary.other (F : Ary Z h b ty n f) (W : Wr h h' a sl v) (q : b ≠ a) : Ary Z h' b ty n f := by obtain ⟨c, A, r⟩ := F; exact ⟨c, A.other W q, r⟩
theorem Ary.keep (F : Ary Z h a ty n f) (K : Keep h h' ws) (q : a ∉ ws) : Ary Z h' a ty n f := by obtain ⟨c, A, r⟩ := F; exact ⟨c, ⟨K.2.1 a c A.1 q, A.2⟩, r⟩
theorem Ary.same {cl : Cell} (A : Arr Z h a cl ty) (sz : cl.slots.size = n) (H : ∀ i, i < n → cl.slots[i]? = some (f i)) {i : Nat} (W : Wr h h' a i v) : Ary Z h' a ty n (own_upd f i v) := by
  refine ⟨_, A.same W, by rw [sz_set]; exact sz, fun j hj => ?_⟩
  by_cases q : j = i
  · subst q; simp [Cell.setSlot, own_upd, sz, hj]
  · rw [own_upd_ne f v q]; exact (Array.getElem?_setIfInBounds_ne (Ne.symm q)).trans (H j hj)
theorem Ary.congr (F : Ary Z h a ty n f) {g : Nat → Value} (q : ∀ i, i < n → f i = g i) : Ary Z h a ty n g := by obtain ⟨c, A, sz, H⟩ := F; exact ⟨c, A, sz, fun i hi => by rw [← q i hi]; exact H i hi⟩
/-- what may lie in an array of C -/
def Ov (Z : State) (h : Heap) (a : Addr) (C : String) : Prop := ∃ c : Cell, h[a]? = some c ∧ Ovr Z c.cls C
theorem Ov.ext {C : String} (F : Ov Z h a C) (E : Ext h h') : Ov Z h' a C := by obtain ⟨c, h1, O⟩ := F; exact ⟨c, E.2 _ _ h1, O⟩
theorem Ov.wr {C : String} (F : Ov Z h a C) (W : Wr h h' b sl v) : Ov Z h' a C := by
  obtain ⟨c, h1, O⟩ := F
  obtain ⟨c', e1, e2, -⟩ := wr_at W h1
  exact ⟨c', e1, by rw [e2]; exact O⟩
theorem Ov.keep {C : String} (F : Ov Z h a C) (K : Keep h h' ws) : Ov Z h' a C := by
  obtain ⟨c, h1, O⟩ := F
  obtain ⟨c', e1, e2, -⟩ := K.2.2 a c h1
  exact ⟨c', e1, by rw [e2]; exact O⟩
theorem Ov.sto {C : String} {y : Addr} (F : Ov Z h a C) (A : Ary Z h a ty n f) (I : Ins Z h y C true) : Sto Z h a (.ref y) := by
  obtain ⟨c, h1, O⟩ := F
  obtain ⟨cl, A, -⟩ := A
  cases h1.symm.trans A.1
  exact Sto.of A O I
theorem own_plain {C : String} (F : Exa Z h a C) : ∃ c : Cell, h[a]? = some c ∧ c.vm.isStatics = false := by obtain ⟨c, k, h1, -, -, h4, -⟩ := F; exact ⟨c, h1, h4⟩
theorem own_plainA (F : Ary Z h a ty n f) : ∃ c : Cell, h[a]? = some c ∧ c.vm.isStatics = false := by obtain ⟨c, A, -⟩ := F; exact ⟨c, A.1, A.plain⟩
theorem own_sta_keep {C nm d : String} (F : Sta Z h C nm d v) (K : Keep h h' ws) (q : ∀ x ∈ ws, ∃ c : Cell, h[x]? = some c ∧ c.vm.isStatics = false) : Sta Z h' C nm d v := by
  obtain ⟨cf, i, k, fd, st, cell, h1, h2, h3, h4, h5, h6, h7⟩ := F
  refine ⟨cf, i, k, fd, st, cell, h1, h2, h3, h4, K.2.1 _ _ h5 fun z => ?_, h6, h7⟩
  obtain ⟨c, e1, e2⟩ := q _ z
  cases h5.symm.trans e1
  rw [e2] at h6; cases h6
theorem own_fld_of {a0 : Array Value} {C O nm d O' nm' d' : String} {k : Nat} (E : Exa Z h a C) (F : Fld Z h a O' nm' d' v) (wi : (Cond.instantiable C k).before a0 Z = true) (L : Laid Z a0 C O nm d) : ∃ v', Fld Z h a O nm d v' := by
  obtain ⟨c, _, _, _, _, h1, -, -, h4, -⟩ := F
  exact fld_laid E ⟨c, h1, h4⟩ wi L
theorem own_ne_ty {ty' : FieldType} {n' : Nat} {f' : Nat → Value} (F : Ary Z h a ty n f) (G : Ary Z h b ty' n' f') (q : ty ≠ ty') : a ≠ b := fun e => by
  subst e
  obtain ⟨c1, A1, -⟩ := F
  obtain ⟨c2, A2, -⟩ := G
  cases A1.1.symm.trans A2.1
  obtain ⟨-, k1, i1, p1, j1⟩ := A1.2.1
  obtain ⟨-, k2, i2, p2, j2⟩ := A2.2.1
  cases i1.symm.trans i2
  rw [j1] at j2; cases j2; exact q rfl
theorem own_ne_exa {a0 : Array Value} {C : String} {k : Nat} (E : Exa Z h a C) (wi : (Cond.instantiable C k).before a0 Z = true) (G : Ary Z h b ty n f) : a ≠ b := by
  obtain ⟨c, A, -⟩ := G; exact ne_arr E wi A
theorem own_fld_inj {C nm d : String} {w : Value} (F : Fld Z h a C nm d v) (G : Fld Z h a C nm d w) : v = w := by
  obtain ⟨c1, cf1, k1, i1, f1, a1, a2, -, -, -, -, a7⟩ := F
  obtain ⟨c2, cf2, k2, i2, f2, b1, b2, -, -, -, -, b7⟩ := G
  cases a1.symm.trans b1
  cases a2.symm.trans b2
  exact Option.some.inj (a7.symm.trans b7)
end OwnFacts
section OwnSteps
variable {p : Program} {l : Launch} {e : Env} {R : Room} {s : State} {m : MethodId} {args : Array Value} {below : List Frame} {meth : Method} {c : Code} {T : State} {n0 : Nat} {h : Heap} {cells slots : Nat} {cs sl : Nat} {Φ : Outcome → State → List Loc → Prop} {Q : Option Value → Heap → Prop} {pc pc' : Nat} {L L' : Array Slot} {S : List Value} {bs : ByteArray} {Z : State} {a0 : Array Value}
theorem Gl.st {U V : State} (q : ∀ t, Steps p.tables e below V t → Steps p.tables e below U t) (k : Gl p e below n0 Φ Q V) : Gl p e below n0 Φ Q U := by
  obtain ⟨t, o, h1, h2⟩ := k; exact ⟨t, o, q _ h1, h2⟩
theorem Gl.mono {U : State} {Q' : Option Value → Heap → Prop} (q : ∀ v h, Q v h → Q' v h) (k : Gl p e below n0 Φ Q U) : Gl p e below n0 Φ Q' U := by
  obtain ⟨t, o, h1, h2, h3, v, L, h4, ⟨h5, h6⟩, h7⟩ := k; exact ⟨t, o, h1, h2, h3, v, L, h4, ⟨q _ _ h5, h6⟩, h7⟩
theorem g_iload (X : St p l e R s m args below meth c n0 T h cells slots) (hx : p.tables.exec = Jvm.exec) (hby : c.code = bs) {k : Nat} {v : Int32} (hd : decode bs pc = .ok (.iload k, 2)) (hl : L[k]? = some (.val (.int v))) (hp : pc + 2 = pc') (K : Gl p e below n0 Φ Q (T.setTop (mkF m pc' L (.int v :: S)))) : Gl p e below n0 Φ Q (T.setTop (mkF m pc L S)) := by
  obtain ⟨locs, Y, -, -⟩ := X; subst hp; exact Gl.st (fun t k => XS.iload Y.here hx rfl (hb hby hd) hl k) K
theorem g_iloadN (X : St p l e R s m args below meth c n0 T h cells slots) (hx : p.tables.exec = Jvm.exec) (hby : c.code = bs) {k : Fin 4} {v : Int32} (hd : decode bs pc = .ok (.iload_n k, 1)) (hl : L[k.val]? = some (.val (.int v))) (hp : pc + 1 = pc') (K : Gl p e below n0 Φ Q (T.setTop (mkF m pc' L (.int v :: S)))) : Gl p e below n0 Φ Q (T.setTop (mkF m pc L S)) := by
  obtain ⟨locs, Y, -, -⟩ := X; subst hp; exact Gl.st (fun t k => XS.iloadN Y.here hx rfl (hb hby hd) hl k) K
theorem g_lload (X : St p l e R s m args below meth c n0 T h cells slots) (hx : p.tables.exec = Jvm.exec) (hby : c.code = bs) {k : Nat} {v : Int64} (hd : decode bs pc = .ok (.lload k, 2)) (hl : L[k]? = some (.val (.long v))) (hp : pc + 2 = pc') (K : Gl p e below n0 Φ Q (T.setTop (mkF m pc' L (.long v :: S)))) : Gl p e below n0 Φ Q (T.setTop (mkF m pc L S)) := by
  obtain ⟨locs, Y, -, -⟩ := X; subst hp; exact Gl.st (fun t k => XS.lload Y.here hx rfl (hb hby hd) hl k) K
theorem g_lloadN (X : St p l e R s m args below meth c n0 T h cells slots) (hx : p.tables.exec = Jvm.exec) (hby : c.code = bs) {k : Fin 4} {v : Int64} (hd : decode bs pc = .ok (.lload_n k, 1)) (hl : L[k.val]? = some (.val (.long v))) (hp : pc + 1 = pc') (K : Gl p e below n0 Φ Q (T.setTop (mkF m pc' L (.long v :: S)))) : Gl p e below n0 Φ Q (T.setTop (mkF m pc L S)) := by
  obtain ⟨locs, Y, -, -⟩ := X; subst hp; exact Gl.st (fun t k => XS.lloadN Y.here hx rfl (hb hby hd) hl k) K
theorem g_aload (X : St p l e R s m args below meth c n0 T h cells slots) (hx : p.tables.exec = Jvm.exec) (hby : c.code = bs) {k : Nat} {v : Value} (hd : decode bs pc = .ok (.aload k, 2)) (hl : L[k]? = some (.val v)) (hv : v.isRef = true) (hp : pc + 2 = pc') (K : Gl p e below n0 Φ Q (T.setTop (mkF m pc' L (v :: S)))) : Gl p e below n0 Φ Q (T.setTop (mkF m pc L S)) := by
  obtain ⟨locs, Y, -, -⟩ := X; subst hp; exact Gl.st (fun t k => XS.aload Y.here hx rfl (hb hby hd) hl hv k) K
theorem g_aloadN (X : St p l e R s m args below meth c n0 T h cells slots) (hx : p.tables.exec = Jvm.exec) (hby : c.code = bs) {k : Fin 4} {v : Value} (hd : decode bs pc = .ok (.aload_n k, 1)) (hl : L[k.val]? = some (.val v)) (hv : v.isRef = true) (hp : pc + 1 = pc') (K : Gl p e below n0 Φ Q (T.setTop (mkF m pc' L (v :: S)))) : Gl p e below n0 Φ Q (T.setTop (mkF m pc L S)) := by
  obtain ⟨locs, Y, -, -⟩ := X; subst hp; exact Gl.st (fun t k => XS.aloadN Y.here hx rfl (hb hby hd) hl hv k) K
theorem g_istore (X : St p l e R s m args below meth c n0 T h cells slots) (hx : p.tables.exec = Jvm.exec) (hby : c.code = bs) {k : Nat} {v : Int32} (hd : decode bs pc = .ok (.istore k, 2)) (hl : storeLocals L k (.int v) = some L') (hp : pc + 2 = pc') (K : Gl p e below n0 Φ Q (T.setTop (mkF m pc' L' S))) : Gl p e below n0 Φ Q (T.setTop (mkF m pc L (.int v :: S))) := by
  obtain ⟨locs, Y, -, -⟩ := X; subst hp; exact Gl.st (fun t k => XS.istore Y.here hx rfl (hb hby hd) rfl hl k) K
theorem g_istoreN (X : St p l e R s m args below meth c n0 T h cells slots) (hx : p.tables.exec = Jvm.exec) (hby : c.code = bs) {k : Fin 4} {v : Int32} (hd : decode bs pc = .ok (.istore_n k, 1)) (hl : storeLocals L k.val (.int v) = some L') (hp : pc + 1 = pc') (K : Gl p e below n0 Φ Q (T.setTop (mkF m pc' L' S))) : Gl p e below n0 Φ Q (T.setTop (mkF m pc L (.int v :: S))) := by
  obtain ⟨locs, Y, -, -⟩ := X; subst hp; exact Gl.st (fun t k => XS.istoreN Y.here hx rfl (hb hby hd) rfl hl k) K
theorem g_lstore (X : St p l e R s m args below meth c n0 T h cells slots) (hx : p.tables.exec = Jvm.exec) (hby : c.code = bs) {k : Nat} {v : Int64} (hd : decode bs pc = .ok (.lstore k, 2)) (hl : storeLocals L k (.long v) = some L') (hp : pc + 2 = pc') (K : Gl p e below n0 Φ Q (T.setTop (mkF m pc' L' S))) : Gl p e below n0 Φ Q (T.setTop (mkF m pc L (.long v :: S))) := by
  obtain ⟨locs, Y, -, -⟩ := X; subst hp; exact Gl.st (fun t k => XS.lstore Y.here hx rfl (hb hby hd) rfl hl k) K
theorem g_lstoreN (X : St p l e R s m args below meth c n0 T h cells slots) (hx : p.tables.exec = Jvm.exec) (hby : c.code = bs) {k : Fin 4} {v : Int64} (hd : decode bs pc = .ok (.lstore_n k, 1)) (hl : storeLocals L k.val (.long v) = some L') (hp : pc + 1 = pc') (K : Gl p e below n0 Φ Q (T.setTop (mkF m pc' L' S))) : Gl p e below n0 Φ Q (T.setTop (mkF m pc L (.long v :: S))) := by
  obtain ⟨locs, Y, -, -⟩ := X; subst hp; exact Gl.st (fun t k => XS.lstoreN Y.here hx rfl (hb hby hd) rfl hl k) K
theorem g_astore (X : St p l e R s m args below meth c n0 T h cells slots) (hx : p.tables.exec = Jvm.exec) (hby : c.code = bs) {k : Nat} {v : Value} (hd : decode bs pc = .ok (.astore k, 2)) (hv : v.isRef = true) (hl : storeLocals L k v = some L') (hp : pc + 2 = pc') (K : Gl p e below n0 Φ Q (T.setTop (mkF m pc' L' S))) : Gl p e below n0 Φ Q (T.setTop (mkF m pc L (v :: S))) := by
  obtain ⟨locs, Y, -, -⟩ := X; subst hp; exact Gl.st (fun t k => XS.astore Y.here hx rfl (hb hby hd) rfl hv hl k) K
theorem g_astoreN (X : St p l e R s m args below meth c n0 T h cells slots) (hx : p.tables.exec = Jvm.exec) (hby : c.code = bs) {k : Fin 4} {v : Value} (hd : decode bs pc = .ok (.astore_n k, 1)) (hv : v.isRef = true) (hl : storeLocals L k.val v = some L') (hp : pc + 1 = pc') (K : Gl p e below n0 Φ Q (T.setTop (mkF m pc' L' S))) : Gl p e below n0 Φ Q (T.setTop (mkF m pc L (v :: S))) := by
  obtain ⟨locs, Y, -, -⟩ := X; subst hp; exact Gl.st (fun t k => XS.astoreN Y.here hx rfl (hb hby hd) rfl hv hl k) K
theorem g_iconst (X : St p l e R s m args below meth c n0 T h cells slots) (hx : p.tables.exec = Jvm.exec) (hby : c.code = bs) {i : Int} {v : Int32} (hd : decode bs pc = .ok (.iconst i, 1)) (hv : Int32.ofInt i = v) (hp : pc + 1 = pc') (K : Gl p e below n0 Φ Q (T.setTop (mkF m pc' L (.int v :: S)))) : Gl p e below n0 Φ Q (T.setTop (mkF m pc L S)) := by
  obtain ⟨locs, Y, -, -⟩ := X; subst hp hv; exact Gl.st (fun t k => XS.iconst Y.here hx rfl (hb hby hd) k) K
theorem g_bipush (X : St p l e R s m args below meth c n0 T h cells slots) (hx : p.tables.exec = Jvm.exec) (hby : c.code = bs) {i : Int} {v : Int32} (hd : decode bs pc = .ok (.bipush i, 2)) (hv : (Int8.ofInt i).toInt32 = v) (hp : pc + 2 = pc') (K : Gl p e below n0 Φ Q (T.setTop (mkF m pc' L (.int v :: S)))) : Gl p e below n0 Φ Q (T.setTop (mkF m pc L S)) := by
  obtain ⟨locs, Y, -, -⟩ := X; subst hp hv; exact Gl.st (fun t k => XS.bipush Y.here hx rfl (hb hby hd) k) K
theorem g_sipush (X : St p l e R s m args below meth c n0 T h cells slots) (hx : p.tables.exec = Jvm.exec) (hby : c.code = bs) {i : Int} {v : Int32} (hd : decode bs pc = .ok (.sipush i, 3)) (hv : (Int16.ofInt i).toInt32 = v) (hp : pc + 3 = pc') (K : Gl p e below n0 Φ Q (T.setTop (mkF m pc' L (.int v :: S)))) : Gl p e below n0 Φ Q (T.setTop (mkF m pc L S)) := by
  obtain ⟨locs, Y, -, -⟩ := X; subst hp hv; exact Gl.st (fun t k => XS.sipush Y.here hx rfl (hb hby hd) k) K
theorem g_lconst (X : St p l e R s m args below meth c n0 T h cells slots) (hx : p.tables.exec = Jvm.exec) (hby : c.code = bs) {i : Fin 2} {v : Int64} (hd : decode bs pc = .ok (.lconst i, 1)) (hv : Int64.ofNat i = v) (hp : pc + 1 = pc') (K : Gl p e below n0 Φ Q (T.setTop (mkF m pc' L (.long v :: S)))) : Gl p e below n0 Φ Q (T.setTop (mkF m pc L S)) := by
  obtain ⟨locs, Y, -, -⟩ := X; subst hp hv; exact Gl.st (fun t k => XS.lconst Y.here hx rfl (hb hby hd) k) K
theorem g_aconst_null (X : St p l e R s m args below meth c n0 T h cells slots) (hx : p.tables.exec = Jvm.exec) (hby : c.code = bs) (hd : decode bs pc = .ok (.aconst_null, 1)) (hp : pc + 1 = pc') (K : Gl p e below n0 Φ Q (T.setTop (mkF m pc' L (.null :: S)))) : Gl p e below n0 Φ Q (T.setTop (mkF m pc L S)) := by
  obtain ⟨locs, Y, -, -⟩ := X; subst hp; exact Gl.st (fun t k => XS.aconstNull Y.here hx rfl (hb hby hd) k) K
theorem g_ldc (X : St p l e R s m args below meth c n0 T h cells slots) (hx : p.tables.exec = Jvm.exec) (hby : c.code = bs) (hZ : Z.Warmed39 s.vm) {own : String} {index : Nat} {v : Int32} (hown : s.vm.findClass own = some m.cls) (w : (Cond.constant own index v).before a0 Z = true) (hd : decode bs pc = .ok (.ldc index, 2)) (hp : pc + 2 = pc') (K : Gl p e below n0 Φ Q (T.setTop (mkF m pc' L (.int v :: S)))) : Gl p e below n0 Φ Q (T.setTop (mkF m pc L S)) := by
  obtain ⟨locs, Y, -, -⟩ := X; subst hp; exact Gl.st (Y.ldcInt hx hown (mvT hZ w) (g := mkF m pc L S) rfl (hb hby hd)) K
theorem g_ldc2_w (X : St p l e R s m args below meth c n0 T h cells slots) (hx : p.tables.exec = Jvm.exec) (hby : c.code = bs) (hZ : Z.Warmed39 s.vm) {own : String} {index : Nat} {v : Int64} (hown : s.vm.findClass own = some m.cls) (w : (Cond.constantLong own index v).before a0 Z = true) (hd : decode bs pc = .ok (.ldc2_w index, 3)) (hp : pc + 3 = pc') (K : Gl p e below n0 Φ Q (T.setTop (mkF m pc' L (.long v :: S)))) : Gl p e below n0 Φ Q (T.setTop (mkF m pc L S)) := by
  obtain ⟨locs, Y, -, -⟩ := X; subst hp; exact Gl.st (Y.ldc2Long hx hown (mvT hZ w) (g := mkF m pc L S) rfl (hb hby hd)) K
theorem g_iadd (X : St p l e R s m args below meth c n0 T h cells slots) (hx : p.tables.exec = Jvm.exec) (hby : c.code = bs) {x y : Int32} (hd : decode bs pc = .ok (.iadd, 1))  (hp : pc + 1 = pc') (K : Gl p e below n0 Φ Q (T.setTop (mkF m pc' L (.int (x + y) :: S)))) : Gl p e below n0 Φ Q (T.setTop (mkF m pc L (.int y :: .int x :: S))) := by
  obtain ⟨locs, Y, -, -⟩ := X; subst hp; exact Gl.st (fun t k => XS.iadd Y.here hx rfl (hb hby hd) rfl k) K
theorem g_isub (X : St p l e R s m args below meth c n0 T h cells slots) (hx : p.tables.exec = Jvm.exec) (hby : c.code = bs) {x y : Int32} (hd : decode bs pc = .ok (.isub, 1))  (hp : pc + 1 = pc') (K : Gl p e below n0 Φ Q (T.setTop (mkF m pc' L (.int (x - y) :: S)))) : Gl p e below n0 Φ Q (T.setTop (mkF m pc L (.int y :: .int x :: S))) := by
  obtain ⟨locs, Y, -, -⟩ := X; subst hp; exact Gl.st (fun t k => XS.isub Y.here hx rfl (hb hby hd) rfl k) K
theorem g_imul (X : St p l e R s m args below meth c n0 T h cells slots) (hx : p.tables.exec = Jvm.exec) (hby : c.code = bs) {x y : Int32} (hd : decode bs pc = .ok (.imul, 1))  (hp : pc + 1 = pc') (K : Gl p e below n0 Φ Q (T.setTop (mkF m pc' L (.int (x * y) :: S)))) : Gl p e below n0 Φ Q (T.setTop (mkF m pc L (.int y :: .int x :: S))) := by
  obtain ⟨locs, Y, -, -⟩ := X; subst hp; exact Gl.st (fun t k => XS.imul Y.here hx rfl (hb hby hd) rfl k) K
theorem g_iand (X : St p l e R s m args below meth c n0 T h cells slots) (hx : p.tables.exec = Jvm.exec) (hby : c.code = bs) {x y : Int32} (hd : decode bs pc = .ok (.iand, 1))  (hp : pc + 1 = pc') (K : Gl p e below n0 Φ Q (T.setTop (mkF m pc' L (.int (x &&& y) :: S)))) : Gl p e below n0 Φ Q (T.setTop (mkF m pc L (.int y :: .int x :: S))) := by
  obtain ⟨locs, Y, -, -⟩ := X; subst hp; exact Gl.st (fun t k => XS.iand Y.here hx rfl (hb hby hd) rfl k) K
theorem g_ior (X : St p l e R s m args below meth c n0 T h cells slots) (hx : p.tables.exec = Jvm.exec) (hby : c.code = bs) {x y : Int32} (hd : decode bs pc = .ok (.ior, 1))  (hp : pc + 1 = pc') (K : Gl p e below n0 Φ Q (T.setTop (mkF m pc' L (.int (x ||| y) :: S)))) : Gl p e below n0 Φ Q (T.setTop (mkF m pc L (.int y :: .int x :: S))) := by
  obtain ⟨locs, Y, -, -⟩ := X; subst hp; exact Gl.st (fun t k => XS.ior Y.here hx rfl (hb hby hd) rfl k) K
theorem g_ixor (X : St p l e R s m args below meth c n0 T h cells slots) (hx : p.tables.exec = Jvm.exec) (hby : c.code = bs) {x y : Int32} (hd : decode bs pc = .ok (.ixor, 1))  (hp : pc + 1 = pc') (K : Gl p e below n0 Φ Q (T.setTop (mkF m pc' L (.int (x ^^^ y) :: S)))) : Gl p e below n0 Φ Q (T.setTop (mkF m pc L (.int y :: .int x :: S))) := by
  obtain ⟨locs, Y, -, -⟩ := X; subst hp; exact Gl.st (fun t k => XS.ixor Y.here hx rfl (hb hby hd) rfl k) K
theorem g_ishl (X : St p l e R s m args below meth c n0 T h cells slots) (hx : p.tables.exec = Jvm.exec) (hby : c.code = bs) {x y : Int32} (hd : decode bs pc = .ok (.ishl, 1))  (hp : pc + 1 = pc') (K : Gl p e below n0 Φ Q (T.setTop (mkF m pc' L (.int (x <<< (y &&& 31)) :: S)))) : Gl p e below n0 Φ Q (T.setTop (mkF m pc L (.int y :: .int x :: S))) := by
  obtain ⟨locs, Y, -, -⟩ := X; subst hp; exact Gl.st (fun t k => XS.ishl Y.here hx rfl (hb hby hd) rfl k) K
theorem g_ishr (X : St p l e R s m args below meth c n0 T h cells slots) (hx : p.tables.exec = Jvm.exec) (hby : c.code = bs) {x y : Int32} (hd : decode bs pc = .ok (.ishr, 1))  (hp : pc + 1 = pc') (K : Gl p e below n0 Φ Q (T.setTop (mkF m pc' L (.int (x >>> (y &&& 31)) :: S)))) : Gl p e below n0 Φ Q (T.setTop (mkF m pc L (.int y :: .int x :: S))) := by
  obtain ⟨locs, Y, -, -⟩ := X; subst hp; exact Gl.st (fun t k => XS.ishr Y.here hx rfl (hb hby hd) rfl k) K
theorem g_iushr (X : St p l e R s m args below meth c n0 T h cells slots) (hx : p.tables.exec = Jvm.exec) (hby : c.code = bs) {x y : Int32} (hd : decode bs pc = .ok (.iushr, 1))  (hp : pc + 1 = pc') (K : Gl p e below n0 Φ Q (T.setTop (mkF m pc' L (.int ((x.toUInt32 >>> (y &&& 31).toUInt32).toInt32) :: S)))) : Gl p e below n0 Φ Q (T.setTop (mkF m pc L (.int y :: .int x :: S))) := by
  obtain ⟨locs, Y, -, -⟩ := X; subst hp; exact Gl.st (fun t k => XS.iushr Y.here hx rfl (hb hby hd) rfl k) K
theorem g_ladd (X : St p l e R s m args below meth c n0 T h cells slots) (hx : p.tables.exec = Jvm.exec) (hby : c.code = bs) {x y : Int64} (hd : decode bs pc = .ok (.ladd, 1))  (hp : pc + 1 = pc') (K : Gl p e below n0 Φ Q (T.setTop (mkF m pc' L (.long (x + y) :: S)))) : Gl p e below n0 Φ Q (T.setTop (mkF m pc L (.long y :: .long x :: S))) := by
  obtain ⟨locs, Y, -, -⟩ := X; subst hp; exact Gl.st (fun t k => XS.ladd Y.here hx rfl (hb hby hd) rfl k) K
theorem g_lsub (X : St p l e R s m args below meth c n0 T h cells slots) (hx : p.tables.exec = Jvm.exec) (hby : c.code = bs) {x y : Int64} (hd : decode bs pc = .ok (.lsub, 1))  (hp : pc + 1 = pc') (K : Gl p e below n0 Φ Q (T.setTop (mkF m pc' L (.long (x - y) :: S)))) : Gl p e below n0 Φ Q (T.setTop (mkF m pc L (.long y :: .long x :: S))) := by
  obtain ⟨locs, Y, -, -⟩ := X; subst hp; exact Gl.st (fun t k => XS.lsub Y.here hx rfl (hb hby hd) rfl k) K
theorem g_lmul (X : St p l e R s m args below meth c n0 T h cells slots) (hx : p.tables.exec = Jvm.exec) (hby : c.code = bs) {x y : Int64} (hd : decode bs pc = .ok (.lmul, 1))  (hp : pc + 1 = pc') (K : Gl p e below n0 Φ Q (T.setTop (mkF m pc' L (.long (x * y) :: S)))) : Gl p e below n0 Φ Q (T.setTop (mkF m pc L (.long y :: .long x :: S))) := by
  obtain ⟨locs, Y, -, -⟩ := X; subst hp; exact Gl.st (fun t k => XS.lmul Y.here hx rfl (hb hby hd) rfl k) K
theorem g_land (X : St p l e R s m args below meth c n0 T h cells slots) (hx : p.tables.exec = Jvm.exec) (hby : c.code = bs) {x y : Int64} (hd : decode bs pc = .ok (.land, 1))  (hp : pc + 1 = pc') (K : Gl p e below n0 Φ Q (T.setTop (mkF m pc' L (.long (x &&& y) :: S)))) : Gl p e below n0 Φ Q (T.setTop (mkF m pc L (.long y :: .long x :: S))) := by
  obtain ⟨locs, Y, -, -⟩ := X; subst hp; exact Gl.st (fun t k => XS.land Y.here hx rfl (hb hby hd) rfl k) K
theorem g_lor (X : St p l e R s m args below meth c n0 T h cells slots) (hx : p.tables.exec = Jvm.exec) (hby : c.code = bs) {x y : Int64} (hd : decode bs pc = .ok (.lor, 1))  (hp : pc + 1 = pc') (K : Gl p e below n0 Φ Q (T.setTop (mkF m pc' L (.long (x ||| y) :: S)))) : Gl p e below n0 Φ Q (T.setTop (mkF m pc L (.long y :: .long x :: S))) := by
  obtain ⟨locs, Y, -, -⟩ := X; subst hp; exact Gl.st (fun t k => XS.lor Y.here hx rfl (hb hby hd) rfl k) K
theorem g_lxor (X : St p l e R s m args below meth c n0 T h cells slots) (hx : p.tables.exec = Jvm.exec) (hby : c.code = bs) {x y : Int64} (hd : decode bs pc = .ok (.lxor, 1))  (hp : pc + 1 = pc') (K : Gl p e below n0 Φ Q (T.setTop (mkF m pc' L (.long (x ^^^ y) :: S)))) : Gl p e below n0 Φ Q (T.setTop (mkF m pc L (.long y :: .long x :: S))) := by
  obtain ⟨locs, Y, -, -⟩ := X; subst hp; exact Gl.st (fun t k => XS.lxor Y.here hx rfl (hb hby hd) rfl k) K
theorem g_lushr (X : St p l e R s m args below meth c n0 T h cells slots) (hx : p.tables.exec = Jvm.exec) (hby : c.code = bs) {x : Int64} {y : Int32} (hd : decode bs pc = .ok (.lushr, 1))  (hp : pc + 1 = pc') (K : Gl p e below n0 Φ Q (T.setTop (mkF m pc' L (.long ((x.toUInt64 >>> (y &&& 0x3f).toInt64.toUInt64).toInt64) :: S)))) : Gl p e below n0 Φ Q (T.setTop (mkF m pc L (.int y :: .long x :: S))) := by
  obtain ⟨locs, Y, -, -⟩ := X; subst hp; exact Gl.st (fun t k => XS.lushr Y.here hx rfl (hb hby hd) rfl k) K
theorem g_irem (X : St p l e R s m args below meth c n0 T h cells slots) (hx : p.tables.exec = Jvm.exec) (hby : c.code = bs) {x y : Int32} (hd : decode bs pc = .ok (.irem, 1)) (hy : y ≠ 0) (hp : pc + 1 = pc') (K : Gl p e below n0 Φ Q (T.setTop (mkF m pc' L (.int (x % y) :: S)))) : Gl p e below n0 Φ Q (T.setTop (mkF m pc L (.int y :: .int x :: S))) := by
  obtain ⟨locs, Y, -, -⟩ := X; subst hp; exact Gl.st (fun t k => iremM Y hx rfl (hb hby hd) rfl hy k) K
theorem g_lrem (X : St p l e R s m args below meth c n0 T h cells slots) (hx : p.tables.exec = Jvm.exec) (hby : c.code = bs) {x y : Int64} (hd : decode bs pc = .ok (.lrem, 1)) (hy : y ≠ 0) (hp : pc + 1 = pc') (K : Gl p e below n0 Φ Q (T.setTop (mkF m pc' L (.long (x - (x / y) * y) :: S)))) : Gl p e below n0 Φ Q (T.setTop (mkF m pc L (.long y :: .long x :: S))) := by
  obtain ⟨locs, Y, -, -⟩ := X; subst hp; exact Gl.st (fun t k => XS.lrem Y.here hx rfl (hb hby hd) rfl hy k) K
theorem g_i2l (X : St p l e R s m args below meth c n0 T h cells slots) (hx : p.tables.exec = Jvm.exec) (hby : c.code = bs) {x : Int32} (hd : decode bs pc = .ok (.i2l, 1))  (hp : pc + 1 = pc') (K : Gl p e below n0 Φ Q (T.setTop (mkF m pc' L (.long (x.toInt64) :: S)))) : Gl p e below n0 Φ Q (T.setTop (mkF m pc L (.int x :: S))) := by
  obtain ⟨locs, Y, -, -⟩ := X; subst hp; exact Gl.st (fun t k => XS.i2l Y.here hx rfl (hb hby hd) rfl k) K
theorem g_l2i (X : St p l e R s m args below meth c n0 T h cells slots) (hx : p.tables.exec = Jvm.exec) (hby : c.code = bs) {x : Int64} (hd : decode bs pc = .ok (.l2i, 1))  (hp : pc + 1 = pc') (K : Gl p e below n0 Φ Q (T.setTop (mkF m pc' L (.int (x.toInt32) :: S)))) : Gl p e below n0 Φ Q (T.setTop (mkF m pc L (.long x :: S))) := by
  obtain ⟨locs, Y, -, -⟩ := X; subst hp; exact Gl.st (fun t k => XS.l2i Y.here hx rfl (hb hby hd) rfl k) K
theorem g_i2b (X : St p l e R s m args below meth c n0 T h cells slots) (hx : p.tables.exec = Jvm.exec) (hby : c.code = bs) {x : Int32} (hd : decode bs pc = .ok (.i2b, 1))  (hp : pc + 1 = pc') (K : Gl p e below n0 Φ Q (T.setTop (mkF m pc' L (.int (x.toInt8.toInt32) :: S)))) : Gl p e below n0 Φ Q (T.setTop (mkF m pc L (.int x :: S))) := by
  obtain ⟨locs, Y, -, -⟩ := X; subst hp; exact Gl.st (fun t k => XS.i2b Y.here hx rfl (hb hby hd) rfl k) K
theorem g_i2c (X : St p l e R s m args below meth c n0 T h cells slots) (hx : p.tables.exec = Jvm.exec) (hby : c.code = bs) {x : Int32} (hd : decode bs pc = .ok (.i2c, 1))  (hp : pc + 1 = pc') (K : Gl p e below n0 Φ Q (T.setTop (mkF m pc' L (.int (x.toUInt32.toUInt16.toUInt32.toInt32) :: S)))) : Gl p e below n0 Φ Q (T.setTop (mkF m pc L (.int x :: S))) := by
  obtain ⟨locs, Y, -, -⟩ := X; subst hp; exact Gl.st (fun t k => XS.i2c Y.here hx rfl (hb hby hd) rfl k) K
theorem g_ineg (X : St p l e R s m args below meth c n0 T h cells slots) (hx : p.tables.exec = Jvm.exec) (hby : c.code = bs) {x : Int32} (hd : decode bs pc = .ok (.ineg, 1))  (hp : pc + 1 = pc') (K : Gl p e below n0 Φ Q (T.setTop (mkF m pc' L (.int (-x) :: S)))) : Gl p e below n0 Φ Q (T.setTop (mkF m pc L (.int x :: S))) := by
  obtain ⟨locs, Y, -, -⟩ := X; subst hp; exact Gl.st (fun t k => XS.ineg Y.here hx rfl (hb hby hd) rfl k) K
theorem g_dload (X : St p l e R s m args below meth c n0 T h cells slots) (hx : p.tables.exec = Jvm.exec) (hby : c.code = bs) {k : Nat} {v : UInt64} (hd : decode bs pc = .ok (.dload k, 2)) (hl : L[k]? = some (.val (.double v))) (hp : pc + 2 = pc') (K : Gl p e below n0 Φ Q (T.setTop (mkF m pc' L (.double v :: S)))) : Gl p e below n0 Φ Q (T.setTop (mkF m pc L S)) := by
  obtain ⟨locs, Y, -, -⟩ := X; subst hp; exact Gl.st (fun t k => XS.dload Y.here hx rfl (hb hby hd) hl k) K
theorem g_dloadN (X : St p l e R s m args below meth c n0 T h cells slots) (hx : p.tables.exec = Jvm.exec) (hby : c.code = bs) {k : Fin 4} {v : UInt64} (hd : decode bs pc = .ok (.dload_n k, 1)) (hl : L[k.val]? = some (.val (.double v))) (hp : pc + 1 = pc') (K : Gl p e below n0 Φ Q (T.setTop (mkF m pc' L (.double v :: S)))) : Gl p e below n0 Φ Q (T.setTop (mkF m pc L S)) := by
  obtain ⟨locs, Y, -, -⟩ := X; subst hp; exact Gl.st (fun t k => XS.dloadN Y.here hx rfl (hb hby hd) hl k) K
theorem g_dstore (X : St p l e R s m args below meth c n0 T h cells slots) (hx : p.tables.exec = Jvm.exec) (hby : c.code = bs) {k : Nat} {v : UInt64} (hd : decode bs pc = .ok (.dstore k, 2)) (hl : storeLocals L k (.double v) = some L') (hp : pc + 2 = pc') (K : Gl p e below n0 Φ Q (T.setTop (mkF m pc' L' S))) : Gl p e below n0 Φ Q (T.setTop (mkF m pc L (.double v :: S))) := by
  obtain ⟨locs, Y, -, -⟩ := X; subst hp; exact Gl.st (fun t k => XS.dstore Y.here hx rfl (hb hby hd) rfl hl k) K
theorem g_dstoreN (X : St p l e R s m args below meth c n0 T h cells slots) (hx : p.tables.exec = Jvm.exec) (hby : c.code = bs) {k : Fin 4} {v : UInt64} (hd : decode bs pc = .ok (.dstore_n k, 1)) (hl : storeLocals L k.val (.double v) = some L') (hp : pc + 1 = pc') (K : Gl p e below n0 Φ Q (T.setTop (mkF m pc' L' S))) : Gl p e below n0 Φ Q (T.setTop (mkF m pc L (.double v :: S))) := by
  obtain ⟨locs, Y, -, -⟩ := X; subst hp; exact Gl.st (fun t k => XS.dstoreN Y.here hx rfl (hb hby hd) rfl hl k) K
theorem g_i2d (X : St p l e R s m args below meth c n0 T h cells slots) (hx : p.tables.exec = Jvm.exec) (hby : c.code = bs) {x : Int32} (hd : decode bs pc = .ok (.i2d, 1))  (hp : pc + 1 = pc') (K : Gl p e below n0 Φ Q (T.setTop (mkF m pc' L (.double (FP.i2d x) :: S)))) : Gl p e below n0 Φ Q (T.setTop (mkF m pc L (.int x :: S))) := by
  obtain ⟨locs, Y, -, -⟩ := X; subst hp; exact Gl.st (fun t k => XS.i2dS Y.here hx rfl (hb hby hd) rfl rfl k) K
theorem g_dconst0 (X : St p l e R s m args below meth c n0 T h cells slots) (hx : p.tables.exec = Jvm.exec) (hby : c.code = bs) (hd : decode bs pc = .ok (.dconst 0, 1)) (hp : pc + 1 = pc') (K : Gl p e below n0 Φ Q (T.setTop (mkF m pc' L (.double FP.dconst0 :: S)))) : Gl p e below n0 Φ Q (T.setTop (mkF m pc L S)) := by
  obtain ⟨locs, Y, -, -⟩ := X; subst hp; exact Gl.st (fun t k => XS.dconst0 Y.here hx rfl (hb hby hd) rfl k) K
theorem g_dconst1 (X : St p l e R s m args below meth c n0 T h cells slots) (hx : p.tables.exec = Jvm.exec) (hby : c.code = bs) (hd : decode bs pc = .ok (.dconst 1, 1)) (hp : pc + 1 = pc') (K : Gl p e below n0 Φ Q (T.setTop (mkF m pc' L (.double FP.dconst1 :: S)))) : Gl p e below n0 Φ Q (T.setTop (mkF m pc L S)) := by
  obtain ⟨locs, Y, -, -⟩ := X; subst hp; exact Gl.st (fun t k => XS.dconst1 Y.here hx rfl (hb hby hd) rfl k) K
theorem g_ddiv (X : St p l e R s m args below meth c n0 T h cells slots) (hx : p.tables.exec = Jvm.exec) (hby : c.code = bs) {x y : UInt64} (hd : decode bs pc = .ok (.ddiv, 1)) (hn : Jvm.Free.Fl.NoNaN64 (FP.ddiv x y)) (hp : pc + 1 = pc') (K : Gl p e below n0 Φ Q (T.setTop (mkF m pc' L (.double (FP.ddiv x y) :: S)))) : Gl p e below n0 Φ Q (T.setTop (mkF m pc L (.double y :: .double x :: S))) := by
  obtain ⟨locs, Y, -, -⟩ := X; subst hp; exact Gl.st (fun t k => XS.ddivS Y.here hx rfl (hb hby hd) rfl hn rfl k) K
theorem g_dcmp (X : St p l e R s m args below meth c n0 T h cells slots) (hx : p.tables.exec = Jvm.exec) (hby : c.code = bs) {x y : UInt64} {o : CmpOp} {v : Int32} (hd : decode bs pc = .ok (.dcmp o, 1)) (hv : cmpValue (FP.dcmp x y) o = v) (hp : pc + 1 = pc') (K : Gl p e below n0 Φ Q (T.setTop (mkF m pc' L (.int v :: S)))) : Gl p e below n0 Φ Q (T.setTop (mkF m pc L (.double y :: .double x :: S))) := by
  obtain ⟨locs, Y, -, -⟩ := X; subst hp; exact Gl.st (fun t k => XS.dcmpS Y.here hx rfl (hb hby hd) rfl hv k) K
theorem g_dup (X : St p l e R s m args below meth c n0 T h cells slots) (hx : p.tables.exec = Jvm.exec) (hby : c.code = bs) {v : Value} (hd : decode bs pc = .ok (.dup, 1)) (hc : v.category = 1) (hp : pc + 1 = pc') (K : Gl p e below n0 Φ Q (T.setTop (mkF m pc' L (v :: v :: S)))) : Gl p e below n0 Φ Q (T.setTop (mkF m pc L (v :: S))) := by
  obtain ⟨locs, Y, -, -⟩ := X; subst hp; exact Gl.st (fun t k => XS.dup Y.here hx rfl (hb hby hd) rfl hc k) K
theorem g_pop (X : St p l e R s m args below meth c n0 T h cells slots) (hx : p.tables.exec = Jvm.exec) (hby : c.code = bs) {v : Value} (hd : decode bs pc = .ok (.pop, 1)) (hc : v.category = 1) (hp : pc + 1 = pc') (K : Gl p e below n0 Φ Q (T.setTop (mkF m pc' L S))) : Gl p e below n0 Φ Q (T.setTop (mkF m pc L (v :: S))) := by
  obtain ⟨locs, Y, -, -⟩ := X; subst hp; exact Gl.st (fun t k => XS.pop Y.here hx rfl (hb hby hd) rfl hc k) K
theorem g_dup2 (X : St p l e R s m args below meth c n0 T h cells slots) (hx : p.tables.exec = Jvm.exec) (hby : c.code = bs) {v w : Value} (hd : decode bs pc = .ok (.dup2, 1)) (hc : v.category = 1) (hc' : w.category = 1) (hp : pc + 1 = pc') (K : Gl p e below n0 Φ Q (T.setTop (mkF m pc' L (v :: w :: v :: w :: S)))) : Gl p e below n0 Φ Q (T.setTop (mkF m pc L (v :: w :: S))) := by
  obtain ⟨locs, Y, -, -⟩ := X; subst hp; exact Gl.st (fun t k => XT.dup2 Y.here hx rfl (hb hby hd) rfl hc hc' k) K
theorem g_iinc (X : St p l e R s m args below meth c n0 T h cells slots) (hx : p.tables.exec = Jvm.exec) (hby : c.code = bs) {k : Nat} {i : Int} {x y : Int32} (hd : decode bs pc = .ok (.iinc k i, 3)) (hl : L[k]? = some (.val (.int x))) (hy : Int32.ofInt i = y) (hl' : storeLocals L k (.int (x + y)) = some L') (hp : pc + 3 = pc') (K : Gl p e below n0 Φ Q (T.setTop (mkF m pc' L' S))) : Gl p e below n0 Φ Q (T.setTop (mkF m pc L S)) := by
  obtain ⟨locs, Y, -, -⟩ := X; subst hp hy; exact Gl.st (fun t k => XS.iinc Y.here hx rfl (hb hby hd) hl hl' k) K
theorem g_goto (X : St p l e R s m args below meth c n0 T h cells slots) (hx : p.tables.exec = Jvm.exec) (hby : c.code = bs) {o : Int} (hd : decode bs pc = .ok (.goto o, 3)) (ho : 0 ≤ (pc : Int) + o) (hp : ((pc : Int) + o).toNat = pc') (K : Gl p e below n0 Φ Q (T.setTop (mkF m pc' L S))) : Gl p e below n0 Φ Q (T.setTop (mkF m pc L S)) := by
  obtain ⟨locs, Y, -, -⟩ := X; exact Gl.st (fun t k => XS.goto Y.here hx rfl (pc0 := pc) rfl (hb hby hd) ho hp k) K
theorem g_icmp (X : St p l e R s m args below meth c n0 T h cells slots) (hx : p.tables.exec = Jvm.exec) (hby : c.code = bs) {cd : ClassFile.Cond} {o : Int} {x y : Int32} {pc2 : Nat} (hd : decode bs pc = .ok (.if_icmp cd o, 3)) (ho : 0 ≤ (pc : Int) + o) (hp : ((pc : Int) + o).toNat = pc') (hq : pc + 3 = pc2) (K1 : if_icmp.holds cd x y = true → Gl p e below n0 Φ Q (T.setTop (mkF m pc' L S))) (K2 : if_icmp.holds cd x y = false → Gl p e below n0 Φ Q (T.setTop (mkF m pc2 L S))) : Gl p e below n0 Φ Q (T.setTop (mkF m pc L (.int y :: .int x :: S))) := by
  obtain ⟨locs, Y, -, -⟩ := X; subst hq
  cases hc : if_icmp.holds cd x y with
  | true => exact Gl.st (fun t k => XS.icmpYes Y.here hx rfl (pc0 := pc) rfl (hb hby hd) rfl hc ho hp k) (K1 hc)
  | false => exact Gl.st (fun t k => XS.icmpNo Y.here hx rfl (hb hby hd) rfl hc k) (K2 hc)
theorem g_if (X : St p l e R s m args below meth c n0 T h cells slots) (hx : p.tables.exec = Jvm.exec) (hby : c.code = bs) {cd : ClassFile.Cond} {o : Int} {x : Int32} {pc2 : Nat} (hd : decode bs pc = .ok (.ifCond cd o, 3)) (ho : 0 ≤ (pc : Int) + o) (hp : ((pc : Int) + o).toNat = pc') (hq : pc + 3 = pc2) (K1 : if_icmp.holds cd x 0 = true → Gl p e below n0 Φ Q (T.setTop (mkF m pc' L S))) (K2 : if_icmp.holds cd x 0 = false → Gl p e below n0 Φ Q (T.setTop (mkF m pc2 L S))) : Gl p e below n0 Φ Q (T.setTop (mkF m pc L (.int x :: S))) := by
  obtain ⟨locs, Y, -, -⟩ := X; subst hq
  cases hc : if_icmp.holds cd x 0 with
  | true => exact Gl.st (fun t k => XS.ifYes Y.here hx rfl (pc0 := pc) rfl (hb hby hd) rfl ((if0 _ _).trans hc) ho hp k) (K1 hc)
  | false => exact Gl.st (fun t k => XS.ifNo Y.here hx rfl (hb hby hd) rfl ((if0 _ _).trans hc) k) (K2 hc)
theorem g_icmp_eq (X : St p l e R s m args below meth c n0 T h cells slots) (hx : p.tables.exec = Jvm.exec) (hby : c.code = bs) {o : Int} {x y : Int32} {pc2 : Nat} (hd : decode bs pc = .ok (.if_icmp .eq o, 3)) (ho : 0 ≤ (pc : Int) + o) (hp : ((pc : Int) + o).toNat = pc') (hq : pc + 3 = pc2) (K1 : x = y → Gl p e below n0 Φ Q (T.setTop (mkF m pc' L S))) (K2 : ¬ (x = y) → Gl p e below n0 Φ Q (T.setTop (mkF m pc2 L S))) : Gl p e below n0 Φ Q (T.setTop (mkF m pc L (.int y :: .int x :: S))) :=
  g_icmp X hx hby hd ho hp hq (fun q => K1 (by simpa [if_icmp.holds] using q)) (fun q => K2 (by simpa [if_icmp.holds] using q))
theorem g_if_eq (X : St p l e R s m args below meth c n0 T h cells slots) (hx : p.tables.exec = Jvm.exec) (hby : c.code = bs) {o : Int} {x : Int32} {pc2 : Nat} (hd : decode bs pc = .ok (.ifCond .eq o, 3)) (ho : 0 ≤ (pc : Int) + o) (hp : ((pc : Int) + o).toNat = pc') (hq : pc + 3 = pc2) (K1 : x = 0 → Gl p e below n0 Φ Q (T.setTop (mkF m pc' L S))) (K2 : ¬ (x = 0) → Gl p e below n0 Φ Q (T.setTop (mkF m pc2 L S))) : Gl p e below n0 Φ Q (T.setTop (mkF m pc L (.int x :: S))) :=
  g_if X hx hby hd ho hp hq (fun q => K1 (by simpa [if_icmp.holds] using q)) (fun q => K2 (by simpa [if_icmp.holds] using q))
theorem g_lcmp_eq (X : St p l e R s m args below meth c n0 T h cells slots) (hx : p.tables.exec = Jvm.exec) (hby : c.code = bs) {o : Int} {x y : Int64} {pc1 pc2 : Nat} (hd1 : decode bs pc = .ok (.lcmp, 1)) (hp1 : pc + 1 = pc1) (hd : decode bs pc1 = .ok (.ifCond .eq o, 3)) (ho : 0 ≤ (pc1 : Int) + o) (hp : ((pc1 : Int) + o).toNat = pc') (hq : pc1 + 3 = pc2) (K1 : x = y → Gl p e below n0 Φ Q (T.setTop (mkF m pc' L S))) (K2 : ¬ (x = y) → Gl p e below n0 Φ Q (T.setTop (mkF m pc2 L S))) : Gl p e below n0 Φ Q (T.setTop (mkF m pc L (.long y :: .long x :: S))) := by
  obtain ⟨locs, Y, b1, b2⟩ := X; subst hp1
  refine Gl.st (V := T.setTop (mkF m (pc + 1) L (.int (lcmpW x y) :: S))) (fun t k => XS.lcmp Y.here hx rfl (hb hby hd1) rfl k) ?_
  exact g_if_eq ⟨locs, Y, b1, b2⟩ hx hby hd ho hp hq (fun q => K1 (by simpa [lw_lt, lw_gt, lw_eq] using q)) (fun q => K2 (by simpa [lw_lt, lw_gt, lw_eq] using q))
theorem g_icmp_ne (X : St p l e R s m args below meth c n0 T h cells slots) (hx : p.tables.exec = Jvm.exec) (hby : c.code = bs) {o : Int} {x y : Int32} {pc2 : Nat} (hd : decode bs pc = .ok (.if_icmp .ne o, 3)) (ho : 0 ≤ (pc : Int) + o) (hp : ((pc : Int) + o).toNat = pc') (hq : pc + 3 = pc2) (K1 : ¬ (x = y) → Gl p e below n0 Φ Q (T.setTop (mkF m pc' L S))) (K2 : x = y → Gl p e below n0 Φ Q (T.setTop (mkF m pc2 L S))) : Gl p e below n0 Φ Q (T.setTop (mkF m pc L (.int y :: .int x :: S))) :=
  g_icmp X hx hby hd ho hp hq (fun q => K1 (by simpa [if_icmp.holds] using q)) (fun q => K2 (by simpa [if_icmp.holds] using q))
theorem g_if_ne (X : St p l e R s m args below meth c n0 T h cells slots) (hx : p.tables.exec = Jvm.exec) (hby : c.code = bs) {o : Int} {x : Int32} {pc2 : Nat} (hd : decode bs pc = .ok (.ifCond .ne o, 3)) (ho : 0 ≤ (pc : Int) + o) (hp : ((pc : Int) + o).toNat = pc') (hq : pc + 3 = pc2) (K1 : ¬ (x = 0) → Gl p e below n0 Φ Q (T.setTop (mkF m pc' L S))) (K2 : x = 0 → Gl p e below n0 Φ Q (T.setTop (mkF m pc2 L S))) : Gl p e below n0 Φ Q (T.setTop (mkF m pc L (.int x :: S))) :=
  g_if X hx hby hd ho hp hq (fun q => K1 (by simpa [if_icmp.holds] using q)) (fun q => K2 (by simpa [if_icmp.holds] using q))
theorem g_lcmp_ne (X : St p l e R s m args below meth c n0 T h cells slots) (hx : p.tables.exec = Jvm.exec) (hby : c.code = bs) {o : Int} {x y : Int64} {pc1 pc2 : Nat} (hd1 : decode bs pc = .ok (.lcmp, 1)) (hp1 : pc + 1 = pc1) (hd : decode bs pc1 = .ok (.ifCond .ne o, 3)) (ho : 0 ≤ (pc1 : Int) + o) (hp : ((pc1 : Int) + o).toNat = pc') (hq : pc1 + 3 = pc2) (K1 : ¬ (x = y) → Gl p e below n0 Φ Q (T.setTop (mkF m pc' L S))) (K2 : x = y → Gl p e below n0 Φ Q (T.setTop (mkF m pc2 L S))) : Gl p e below n0 Φ Q (T.setTop (mkF m pc L (.long y :: .long x :: S))) := by
  obtain ⟨locs, Y, b1, b2⟩ := X; subst hp1
  refine Gl.st (V := T.setTop (mkF m (pc + 1) L (.int (lcmpW x y) :: S))) (fun t k => XS.lcmp Y.here hx rfl (hb hby hd1) rfl k) ?_
  exact g_if_ne ⟨locs, Y, b1, b2⟩ hx hby hd ho hp hq (fun q => K1 (by simpa [lw_lt, lw_gt, lw_eq] using q)) (fun q => K2 (by simpa [lw_lt, lw_gt, lw_eq] using q))
theorem g_icmp_lt (X : St p l e R s m args below meth c n0 T h cells slots) (hx : p.tables.exec = Jvm.exec) (hby : c.code = bs) {o : Int} {x y : Int32} {pc2 : Nat} (hd : decode bs pc = .ok (.if_icmp .lt o, 3)) (ho : 0 ≤ (pc : Int) + o) (hp : ((pc : Int) + o).toNat = pc') (hq : pc + 3 = pc2) (K1 : x < y → Gl p e below n0 Φ Q (T.setTop (mkF m pc' L S))) (K2 : ¬ (x < y) → Gl p e below n0 Φ Q (T.setTop (mkF m pc2 L S))) : Gl p e below n0 Φ Q (T.setTop (mkF m pc L (.int y :: .int x :: S))) :=
  g_icmp X hx hby hd ho hp hq (fun q => K1 (by simpa [if_icmp.holds] using q)) (fun q => K2 (by simpa [if_icmp.holds] using q))
theorem g_if_lt (X : St p l e R s m args below meth c n0 T h cells slots) (hx : p.tables.exec = Jvm.exec) (hby : c.code = bs) {o : Int} {x : Int32} {pc2 : Nat} (hd : decode bs pc = .ok (.ifCond .lt o, 3)) (ho : 0 ≤ (pc : Int) + o) (hp : ((pc : Int) + o).toNat = pc') (hq : pc + 3 = pc2) (K1 : x < 0 → Gl p e below n0 Φ Q (T.setTop (mkF m pc' L S))) (K2 : ¬ (x < 0) → Gl p e below n0 Φ Q (T.setTop (mkF m pc2 L S))) : Gl p e below n0 Φ Q (T.setTop (mkF m pc L (.int x :: S))) :=
  g_if X hx hby hd ho hp hq (fun q => K1 (by simpa [if_icmp.holds] using q)) (fun q => K2 (by simpa [if_icmp.holds] using q))
theorem g_lcmp_lt (X : St p l e R s m args below meth c n0 T h cells slots) (hx : p.tables.exec = Jvm.exec) (hby : c.code = bs) {o : Int} {x y : Int64} {pc1 pc2 : Nat} (hd1 : decode bs pc = .ok (.lcmp, 1)) (hp1 : pc + 1 = pc1) (hd : decode bs pc1 = .ok (.ifCond .lt o, 3)) (ho : 0 ≤ (pc1 : Int) + o) (hp : ((pc1 : Int) + o).toNat = pc') (hq : pc1 + 3 = pc2) (K1 : x < y → Gl p e below n0 Φ Q (T.setTop (mkF m pc' L S))) (K2 : ¬ (x < y) → Gl p e below n0 Φ Q (T.setTop (mkF m pc2 L S))) : Gl p e below n0 Φ Q (T.setTop (mkF m pc L (.long y :: .long x :: S))) := by
  obtain ⟨locs, Y, b1, b2⟩ := X; subst hp1
  refine Gl.st (V := T.setTop (mkF m (pc + 1) L (.int (lcmpW x y) :: S))) (fun t k => XS.lcmp Y.here hx rfl (hb hby hd1) rfl k) ?_
  exact g_if_lt ⟨locs, Y, b1, b2⟩ hx hby hd ho hp hq (fun q => K1 (by simpa [lw_lt, lw_gt, lw_eq] using q)) (fun q => K2 (by simpa [lw_lt, lw_gt, lw_eq] using q))
theorem g_icmp_ge (X : St p l e R s m args below meth c n0 T h cells slots) (hx : p.tables.exec = Jvm.exec) (hby : c.code = bs) {o : Int} {x y : Int32} {pc2 : Nat} (hd : decode bs pc = .ok (.if_icmp .ge o, 3)) (ho : 0 ≤ (pc : Int) + o) (hp : ((pc : Int) + o).toNat = pc') (hq : pc + 3 = pc2) (K1 : ¬ (x < y) → Gl p e below n0 Φ Q (T.setTop (mkF m pc' L S))) (K2 : x < y → Gl p e below n0 Φ Q (T.setTop (mkF m pc2 L S))) : Gl p e below n0 Φ Q (T.setTop (mkF m pc L (.int y :: .int x :: S))) :=
  g_icmp X hx hby hd ho hp hq (fun q => K1 (by simpa [if_icmp.holds] using q)) (fun q => K2 (by simpa [if_icmp.holds] using q))
theorem g_if_ge (X : St p l e R s m args below meth c n0 T h cells slots) (hx : p.tables.exec = Jvm.exec) (hby : c.code = bs) {o : Int} {x : Int32} {pc2 : Nat} (hd : decode bs pc = .ok (.ifCond .ge o, 3)) (ho : 0 ≤ (pc : Int) + o) (hp : ((pc : Int) + o).toNat = pc') (hq : pc + 3 = pc2) (K1 : ¬ (x < 0) → Gl p e below n0 Φ Q (T.setTop (mkF m pc' L S))) (K2 : x < 0 → Gl p e below n0 Φ Q (T.setTop (mkF m pc2 L S))) : Gl p e below n0 Φ Q (T.setTop (mkF m pc L (.int x :: S))) :=
  g_if X hx hby hd ho hp hq (fun q => K1 (by simpa [if_icmp.holds] using q)) (fun q => K2 (by simpa [if_icmp.holds] using q))
theorem g_lcmp_ge (X : St p l e R s m args below meth c n0 T h cells slots) (hx : p.tables.exec = Jvm.exec) (hby : c.code = bs) {o : Int} {x y : Int64} {pc1 pc2 : Nat} (hd1 : decode bs pc = .ok (.lcmp, 1)) (hp1 : pc + 1 = pc1) (hd : decode bs pc1 = .ok (.ifCond .ge o, 3)) (ho : 0 ≤ (pc1 : Int) + o) (hp : ((pc1 : Int) + o).toNat = pc') (hq : pc1 + 3 = pc2) (K1 : ¬ (x < y) → Gl p e below n0 Φ Q (T.setTop (mkF m pc' L S))) (K2 : x < y → Gl p e below n0 Φ Q (T.setTop (mkF m pc2 L S))) : Gl p e below n0 Φ Q (T.setTop (mkF m pc L (.long y :: .long x :: S))) := by
  obtain ⟨locs, Y, b1, b2⟩ := X; subst hp1
  refine Gl.st (V := T.setTop (mkF m (pc + 1) L (.int (lcmpW x y) :: S))) (fun t k => XS.lcmp Y.here hx rfl (hb hby hd1) rfl k) ?_
  exact g_if_ge ⟨locs, Y, b1, b2⟩ hx hby hd ho hp hq (fun q => K1 (by simpa [lw_lt, lw_gt, lw_eq] using q)) (fun q => K2 (by simpa [lw_lt, lw_gt, lw_eq] using q))
theorem g_icmp_gt (X : St p l e R s m args below meth c n0 T h cells slots) (hx : p.tables.exec = Jvm.exec) (hby : c.code = bs) {o : Int} {x y : Int32} {pc2 : Nat} (hd : decode bs pc = .ok (.if_icmp .gt o, 3)) (ho : 0 ≤ (pc : Int) + o) (hp : ((pc : Int) + o).toNat = pc') (hq : pc + 3 = pc2) (K1 : y < x → Gl p e below n0 Φ Q (T.setTop (mkF m pc' L S))) (K2 : ¬ (y < x) → Gl p e below n0 Φ Q (T.setTop (mkF m pc2 L S))) : Gl p e below n0 Φ Q (T.setTop (mkF m pc L (.int y :: .int x :: S))) :=
  g_icmp X hx hby hd ho hp hq (fun q => K1 (by simpa [if_icmp.holds] using q)) (fun q => K2 (by simpa [if_icmp.holds] using q))
theorem g_if_gt (X : St p l e R s m args below meth c n0 T h cells slots) (hx : p.tables.exec = Jvm.exec) (hby : c.code = bs) {o : Int} {x : Int32} {pc2 : Nat} (hd : decode bs pc = .ok (.ifCond .gt o, 3)) (ho : 0 ≤ (pc : Int) + o) (hp : ((pc : Int) + o).toNat = pc') (hq : pc + 3 = pc2) (K1 : 0 < x → Gl p e below n0 Φ Q (T.setTop (mkF m pc' L S))) (K2 : ¬ (0 < x) → Gl p e below n0 Φ Q (T.setTop (mkF m pc2 L S))) : Gl p e below n0 Φ Q (T.setTop (mkF m pc L (.int x :: S))) :=
  g_if X hx hby hd ho hp hq (fun q => K1 (by simpa [if_icmp.holds] using q)) (fun q => K2 (by simpa [if_icmp.holds] using q))
theorem g_lcmp_gt (X : St p l e R s m args below meth c n0 T h cells slots) (hx : p.tables.exec = Jvm.exec) (hby : c.code = bs) {o : Int} {x y : Int64} {pc1 pc2 : Nat} (hd1 : decode bs pc = .ok (.lcmp, 1)) (hp1 : pc + 1 = pc1) (hd : decode bs pc1 = .ok (.ifCond .gt o, 3)) (ho : 0 ≤ (pc1 : Int) + o) (hp : ((pc1 : Int) + o).toNat = pc') (hq : pc1 + 3 = pc2) (K1 : y < x → Gl p e below n0 Φ Q (T.setTop (mkF m pc' L S))) (K2 : ¬ (y < x) → Gl p e below n0 Φ Q (T.setTop (mkF m pc2 L S))) : Gl p e below n0 Φ Q (T.setTop (mkF m pc L (.long y :: .long x :: S))) := by
  obtain ⟨locs, Y, b1, b2⟩ := X; subst hp1
  refine Gl.st (V := T.setTop (mkF m (pc + 1) L (.int (lcmpW x y) :: S))) (fun t k => XS.lcmp Y.here hx rfl (hb hby hd1) rfl k) ?_
  exact g_if_gt ⟨locs, Y, b1, b2⟩ hx hby hd ho hp hq (fun q => K1 (by simpa [lw_lt, lw_gt, lw_eq] using q)) (fun q => K2 (by simpa [lw_lt, lw_gt, lw_eq] using q))
theorem g_icmp_le (X : St p l e R s m args below meth c n0 T h cells slots) (hx : p.tables.exec = Jvm.exec) (hby : c.code = bs) {o : Int} {x y : Int32} {pc2 : Nat} (hd : decode bs pc = .ok (.if_icmp .le o, 3)) (ho : 0 ≤ (pc : Int) + o) (hp : ((pc : Int) + o).toNat = pc') (hq : pc + 3 = pc2) (K1 : ¬ (y < x) → Gl p e below n0 Φ Q (T.setTop (mkF m pc' L S))) (K2 : y < x → Gl p e below n0 Φ Q (T.setTop (mkF m pc2 L S))) : Gl p e below n0 Φ Q (T.setTop (mkF m pc L (.int y :: .int x :: S))) :=
  g_icmp X hx hby hd ho hp hq (fun q => K1 (by simpa [if_icmp.holds] using q)) (fun q => K2 (by simpa [if_icmp.holds] using q))
theorem g_if_le (X : St p l e R s m args below meth c n0 T h cells slots) (hx : p.tables.exec = Jvm.exec) (hby : c.code = bs) {o : Int} {x : Int32} {pc2 : Nat} (hd : decode bs pc = .ok (.ifCond .le o, 3)) (ho : 0 ≤ (pc : Int) + o) (hp : ((pc : Int) + o).toNat = pc') (hq : pc + 3 = pc2) (K1 : ¬ (0 < x) → Gl p e below n0 Φ Q (T.setTop (mkF m pc' L S))) (K2 : 0 < x → Gl p e below n0 Φ Q (T.setTop (mkF m pc2 L S))) : Gl p e below n0 Φ Q (T.setTop (mkF m pc L (.int x :: S))) :=
  g_if X hx hby hd ho hp hq (fun q => K1 (by simpa [if_icmp.holds] using q)) (fun q => K2 (by simpa [if_icmp.holds] using q))
theorem g_lcmp_le (X : St p l e R s m args below meth c n0 T h cells slots) (hx : p.tables.exec = Jvm.exec) (hby : c.code = bs) {o : Int} {x y : Int64} {pc1 pc2 : Nat} (hd1 : decode bs pc = .ok (.lcmp, 1)) (hp1 : pc + 1 = pc1) (hd : decode bs pc1 = .ok (.ifCond .le o, 3)) (ho : 0 ≤ (pc1 : Int) + o) (hp : ((pc1 : Int) + o).toNat = pc') (hq : pc1 + 3 = pc2) (K1 : ¬ (y < x) → Gl p e below n0 Φ Q (T.setTop (mkF m pc' L S))) (K2 : y < x → Gl p e below n0 Φ Q (T.setTop (mkF m pc2 L S))) : Gl p e below n0 Φ Q (T.setTop (mkF m pc L (.long y :: .long x :: S))) := by
  obtain ⟨locs, Y, b1, b2⟩ := X; subst hp1
  refine Gl.st (V := T.setTop (mkF m (pc + 1) L (.int (lcmpW x y) :: S))) (fun t k => XS.lcmp Y.here hx rfl (hb hby hd1) rfl k) ?_
  exact g_if_le ⟨locs, Y, b1, b2⟩ hx hby hd ho hp hq (fun q => K1 (by simpa [lw_lt, lw_gt, lw_eq] using q)) (fun q => K2 (by simpa [lw_lt, lw_gt, lw_eq] using q))
theorem g_ifnull_y (X : St p l e R s m args below meth c n0 T h cells slots) (hx : p.tables.exec = Jvm.exec) (hby : c.code = bs) {o : Int} (hd : decode bs pc = .ok (.ifnull o, 3)) (ho : 0 ≤ (pc : Int) + o) (hp : ((pc : Int) + o).toNat = pc') (K : Gl p e below n0 Φ Q (T.setTop (mkF m pc' L S))) : Gl p e below n0 Φ Q (T.setTop (mkF m pc L (.null :: S))) := by
  obtain ⟨locs, Y, -, -⟩ := X; exact Gl.st (fun t k => XS.ifnullYes Y.here hx rfl (pc0 := pc) rfl (hb hby hd) rfl ho hp k) K
theorem g_ifnull_n (X : St p l e R s m args below meth c n0 T h cells slots) (hx : p.tables.exec = Jvm.exec) (hby : c.code = bs) {o : Int} {a : Addr} (hd : decode bs pc = .ok (.ifnull o, 3)) (hp : pc + 3 = pc') (K : Gl p e below n0 Φ Q (T.setTop (mkF m pc' L S))) : Gl p e below n0 Φ Q (T.setTop (mkF m pc L ((.ref a) :: S))) := by
  obtain ⟨locs, Y, -, -⟩ := X; subst hp; exact Gl.st (fun t k => XS.ifnullNo Y.here hx rfl (hb hby hd) rfl k) K
theorem g_ifnonnull_y (X : St p l e R s m args below meth c n0 T h cells slots) (hx : p.tables.exec = Jvm.exec) (hby : c.code = bs) {o : Int} {a : Addr} (hd : decode bs pc = .ok (.ifnonnull o, 3)) (ho : 0 ≤ (pc : Int) + o) (hp : ((pc : Int) + o).toNat = pc') (K : Gl p e below n0 Φ Q (T.setTop (mkF m pc' L S))) : Gl p e below n0 Φ Q (T.setTop (mkF m pc L ((.ref a) :: S))) := by
  obtain ⟨locs, Y, -, -⟩ := X; exact Gl.st (fun t k => XS.ifnonnullYes Y.here hx rfl (pc0 := pc) rfl (hb hby hd) rfl ho hp k) K
theorem g_ifnonnull_n (X : St p l e R s m args below meth c n0 T h cells slots) (hx : p.tables.exec = Jvm.exec) (hby : c.code = bs) {o : Int} (hd : decode bs pc = .ok (.ifnonnull o, 3)) (hp : pc + 3 = pc') (K : Gl p e below n0 Φ Q (T.setTop (mkF m pc' L S))) : Gl p e below n0 Φ Q (T.setTop (mkF m pc L (.null :: S))) := by
  obtain ⟨locs, Y, -, -⟩ := X; subst hp; exact Gl.st (fun t k => XS.ifnonnullNo Y.here hx rfl (hb hby hd) rfl k) K
theorem g_acmp_y (X : St p l e R s m args below meth c n0 T h cells slots) (hx : p.tables.exec = Jvm.exec) (hby : c.code = bs) {cd : ACond} {o : Int} {x y : Value} {same : Bool} (hd : decode bs pc = .ok (.if_acmp cd o, 3)) (h1 : x.isRef = true) (h2 : y.isRef = true) (hq : decide (x = y) = same) (ho : 0 ≤ (pc : Int) + o) (hp : pc' = if acV cd same = true then ((pc : Int) + o).toNat else pc + 3) (K : Gl p e below n0 Φ Q (T.setTop (mkF m pc' L S))) : Gl p e below n0 Φ Q (T.setTop (mkF m pc L (y :: x :: S))) := by
  obtain ⟨locs, Y, -, -⟩ := X; exact Gl.st (fun t k => Jvm.RoadKit.acmp Y hx rfl h1 h2 (pc0 := pc) rfl (hb hby hd) rfl hq ho hp k) K
theorem g_retN (X : St p l e R s m args below meth c n0 T h cells slots) (hx : p.tables.exec = Jvm.exec) (hby : c.code = bs) {t : FieldType} {z : Int32} (hret : meth.sig.returnType = some t) (hlk : meth.locks = false) (ht : t = .boolean ∨ t = .byte ∨ t = .char ∨ t = .short) (hd : decode bs pc = .ok (.ireturn, 1)) (hq : Q (some (.int (nar t z))) h) (hc : cells ≤ cs) (hs : slots ≤ sl) : Gl p e below n0 (Fn s cs sl) Q (T.setTop (mkF m pc L (.int z :: S))) := by
  obtain ⟨locs, Y, eT, N⟩ := X
  obtain ⟨fs, hr, hrun, hended, hW, hsame⟩ := Y.leave (v := some (.int (nar t z))) (fun q => by rw [hret] at q; cases q) hlk
  exact ⟨_, _, retN Y hx hret ht (hb hby hd) hr, hrun, hended, _, locs, rfl, ⟨(show Q _ T.heap by rw [eT]; exact hq), N⟩, ⟨_, rfl⟩, hW, hsame.mono hc hs⟩
theorem g_retV (X : St p l e R s m args below meth c n0 T h cells slots) (hx : p.tables.exec = Jvm.exec) (hby : c.code = bs) {t : FieldType} {w : Value} {i : Instr} (hret : meth.sig.returnType = some t) (hlk : meth.locks = false) (hn : narrow t w = w) (hi : (i = .ireturn ∧ (t = .int ∨ t = .boolean ∨ t = .byte ∨ t = .char ∨ t = .short) ∧ ∃ z, w = .int z) ∨ (i = .lreturn ∧ t = .long ∧ ∃ z, w = .long z) ∨ (i = .dreturn ∧ t = .double ∧ ∃ z, w = .double z) ∨ (i = .freturn ∧ t = .float ∧ ∃ z, w = .float z) ∨ (i = .areturn ∧ t.isReference = true ∧ w.isRef = true)) (hd : decode bs pc = .ok (i, 1)) (hq : Q (some w) h) (hc : cells ≤ cs) (hs : slots ≤ sl) : Gl p e below n0 (Fn s cs sl) Q (T.setTop (mkF m pc L (w :: S))) := by
  obtain ⟨locs, Y, eT, N⟩ := X
  obtain ⟨fs, hr, hrun, hended, hW, hsame⟩ := Y.leave (v := some w) (fun q => by rw [hret] at q; cases q) hlk
  exact ⟨_, _, retOut Y hx hret hn hi (hb hby hd) hr, hrun, hended, _, locs, rfl, ⟨(show Q _ T.heap by rw [eT]; exact hq), N⟩, ⟨_, rfl⟩, hW, hsame.mono hc hs⟩
theorem g_retI (X : St p l e R s m args below meth c n0 T h cells slots) (hx : p.tables.exec = Jvm.exec) (hby : c.code = bs) {z : Int32} (hret : meth.sig.returnType = some .int) (hlk : meth.locks = false) (hd : decode bs pc = .ok (.ireturn, 1)) (hq : Q (some (.int z)) h) (hc : cells ≤ cs) (hs : slots ≤ sl) : Gl p e below n0 (Fn s cs sl) Q (T.setTop (mkF m pc L (.int z :: S))) := g_retV X hx hby hret hlk rfl (Or.inl ⟨rfl, Or.inl rfl, z, rfl⟩) hd hq hc hs
theorem g_retL (X : St p l e R s m args below meth c n0 T h cells slots) (hx : p.tables.exec = Jvm.exec) (hby : c.code = bs) {z : Int64} (hret : meth.sig.returnType = some .long) (hlk : meth.locks = false) (hd : decode bs pc = .ok (.lreturn, 1)) (hq : Q (some (.long z)) h) (hc : cells ≤ cs) (hs : slots ≤ sl) : Gl p e below n0 (Fn s cs sl) Q (T.setTop (mkF m pc L (.long z :: S))) := g_retV X hx hby hret hlk rfl (Or.inr (Or.inl ⟨rfl, rfl, z, rfl⟩)) hd hq hc hs
theorem g_retD (X : St p l e R s m args below meth c n0 T h cells slots) (hx : p.tables.exec = Jvm.exec) (hby : c.code = bs) {z : UInt64} (hret : meth.sig.returnType = some .double) (hlk : meth.locks = false) (hd : decode bs pc = .ok (.dreturn, 1)) (hq : Q (some (.double z)) h) (hc : cells ≤ cs) (hs : slots ≤ sl) : Gl p e below n0 (Fn s cs sl) Q (T.setTop (mkF m pc L (.double z :: S))) := g_retV X hx hby hret hlk rfl (Or.inr (Or.inr (Or.inl ⟨rfl, rfl, z, rfl⟩))) hd hq hc hs
theorem g_retA (X : St p l e R s m args below meth c n0 T h cells slots) (hx : p.tables.exec = Jvm.exec) (hby : c.code = bs) {t : FieldType} {w : Value} (hret : meth.sig.returnType = some t) (hlk : meth.locks = false) (ht : t.isReference = true) (hw : w.isRef = true) (hd : decode bs pc = .ok (.areturn, 1)) (hq : Q (some w) h) (hc : cells ≤ cs) (hs : slots ≤ sl) : Gl p e below n0 (Fn s cs sl) Q (T.setTop (mkF m pc L (w :: S))) := g_retV X hx hby hret hlk (by rcases ref_cases hw with rfl | ⟨a, rfl⟩ <;> cases t <;> first | rfl | (cases ht; done)) (Or.inr (Or.inr (Or.inr (Or.inr ⟨rfl, ht, hw⟩)))) hd hq hc hs
theorem g_ret (X : St p l e R s m args below meth c n0 T h cells slots) (hx : p.tables.exec = Jvm.exec) (hby : c.code = bs) (hret : meth.sig.returnType = none) (hlk : meth.locks = false) (hd : decode bs pc = .ok (.return_, 1)) (hq : Q none h) (hc : cells ≤ cs) (hs : slots ≤ sl) : Gl p e below n0 (Fn s cs sl) Q (T.setTop (mkF m pc L [])) := by
  obtain ⟨locs, Y, eT, N⟩ := X
  obtain ⟨fs, hr, hrun, hended, hW, hsame⟩ := Y.leave (v := none) (fun _ => rfl) hlk
  exact ⟨_, _, Y.returnOut hx hret (hb hby hd) hr, hrun, hended, _, locs, rfl, ⟨(show Q _ T.heap by rw [eT]; exact hq), N⟩, ⟨_, rfl⟩, hW, hsame.mono hc hs⟩
theorem gw_retN {vm0 : Vm} {k0 : Nat} (X : St p l e R (s.setVm vm0) m args below meth c n0 T h cells slots) (hx : p.tables.exec = Jvm.exec) (hby : c.code = bs) (hS : s.Since vm0 k0) (hk : k0 ≤ h.size) {t : FieldType} {z : Int32} (hret : meth.sig.returnType = some t) (hlk : meth.locks = false) (ht : t = .boolean ∨ t = .byte ∨ t = .char ∨ t = .short) (hd : decode bs pc = .ok (.ireturn, 1)) (hq : Q (some (.int (nar t z))) h) (hc : cells ≤ cs) (hs : slots ≤ sl) : Gl p e below n0 (Fw s cs sl) Q (T.setTop (mkF m pc L (.int z :: S))) := by
  obtain ⟨locs, Y, eT, N⟩ := X
  obtain ⟨fs, hr, hrun, hended, r1, r2, r3, r4⟩ := Y.leaveW hS (by rw [eT]; exact hk) (v := some (.int (nar t z))) (fun q => by rw [hret] at q; cases q) hlk
  exact ⟨_, _, retN Y hx hret ht (hb hby hd) hr, hrun, hended, _, locs, rfl, ⟨(show Q _ T.heap by rw [eT]; exact hq), N⟩, r1, r2, r3, r4.mono hc hs⟩
theorem g_ldcS {vm0 : Vm} {k0 : Nat} (X : St p l e R (s.setVm vm0) m args below meth c n0 T h cells slots) (hx : p.tables.exec = Jvm.exec) (hby : c.code = bs) (hZ : Z.Warmed39 (s.setVm vm0).vm) {own text : String} {index n : Nat} (hown : (s.setVm vm0).vm.findClass own = some m.cls) (w : (Cond.stringLink own index text).before a0 Z = true) (wS : ∀ a ∈ Bundle.stringAtoms, a.before a0 Z = true) (hS : s.Since vm0 k0) (hk : k0 ≤ h.size) (hd : decode bs pc = .ok (.ldc index, 2)) (hn : 4 * text.toList.length ≤ n) (hbig : n ≤ 536870912) (hc : cells + 2 ≤ R.cells) (hl : slots + (n + 4) ≤ R.slots) (hp : pc + 2 = pc') (K : ∀ (a : Addr) T' h' k1, St p l e R (s.setVm T'.vm) m args below meth c n0 T' h' (cells + 2) (slots + (n + 4)) → Ext h h' → s.Since T'.vm k1 → k1 ≤ h'.size → Z.Warmed39 (s.setVm T'.vm).vm → (s.setVm T'.vm).vm.findClass own = some m.cls → Gl p e below n0 Φ Q (T'.setTop (mkF m pc' L (.ref a :: S)))) : Gl p e below n0 Φ Q (T.setTop (mkF m pc L S)) := by
  obtain ⟨locs, Y, eT, N⟩ := X; subst hp
  obtain ⟨a, T', h', k1, Y', e', E, S1, hk1, hZ1, hown1, st⟩ := ldcS Y hx hZ hown w wS eT hS hk (g := mkF m pc L S) rfl (hb hby hd) hn hbig hc hl
  exact Gl.st st (K a T' h' k1 ⟨locs, Y', e', N⟩ E S1 hk1 hZ1 hown1)
theorem g_ldcSV {vm0 : Vm} {k0 : Nat} (X : St p l e R (s.setVm vm0) m args below meth c n0 T h cells slots) (hx : p.tables.exec = Jvm.exec) (hby : c.code = bs) (hZ : Z.Warmed39 (s.setVm vm0).vm) {own text : String} {index n : Nat} (hown : (s.setVm vm0).vm.findClass own = some m.cls) (w : (Cond.stringLink own index text).before a0 Z = true) (wS : ∀ a ∈ Bundle.stringAtoms, a.before a0 Z = true) (hS : s.Since vm0 k0) (hk : k0 ≤ h.size) (hn0 : s.heap.size ≤ n0) (hkeep : ∀ (b : Addr) (cl : Cell), Z.heap[b]? = some cl → s.heap[b]? = some cl) {Ts : List String} (I : IB Z vm0 Ts) (hnot : text ∉ Ts) (hh : Jvm.Lit.constHeld Z own index) (hcw : Jvm.Lit.compactW.before a0 Z = true) {vs : List Value} {kn : Nat} {f : Nat → Int32} (ht : (∀ c ∈ text.toList, c.toNat < 256) ∧ text.toList.map (fun c => Value.int (Jvm.Lit.byteI c.toNat.toUInt16)) = vs) (hl1 : vs.length = kn) (hl2 : kn < 2147483648) (hf : ∀ i, i < kn → vs.getD i (.int 0) = .int (f i)) (hd : decode bs pc = .ok (.ldc index, 2)) (hn : 4 * text.toList.length ≤ n) (hbig : n ≤ 536870912) (hc : cells + 2 ≤ R.cells) (hl : slots + (n + 4) ≤ R.slots) (hp : pc + 2 = pc') (K : ∀ (a b : Addr) T' h' k1, St p l e R (s.setVm T'.vm) m args below meth c n0 T' h' (cells + 2) (slots + (n + 4)) → Ext h h' → s.Since T'.vm k1 → k1 ≤ h'.size → Z.Warmed39 (s.setVm T'.vm).vm → (s.setVm T'.vm).vm.findClass own = some m.cls → Exa Z h' a "java/lang/String" → Fld Z h' a "java/lang/String" "coder" "B" (.int 0) → Fld Z h' a "java/lang/String" "value" "[B" (.ref b) → Ary Z h' b .byte kn (fun i => .int (f i)) → IB Z T'.vm (text :: Ts) → Gl p e below n0 Φ Q (T'.setTop (mkF m pc' L (.ref a :: S)))) : Gl p e below n0 Φ Q (T.setTop (mkF m pc L S)) := by
  obtain ⟨locs, Y, eT, N⟩ := X; subst hp
  have ek : (Int32.ofNat kn).toInt = (kn : Int) := Int32.toInt_ofNat_of_lt (by omega)
  have ez : (0 : Int32).toInt = 0 := rfl
  have ec : (Int32.ofNat kn).toNatClampNeg = kn := by simp only [Int32.toNatClampNeg]; omega
  obtain ⟨a, T', h', k1, b, kc, Y', e', E, S1, hk1, hZ1, hown1, x1, x2, x3, ⟨cl, Ar, -, sz, -, H, -⟩, -, -, I', st⟩ := ldcSV Y hx hZ hown w wS eT hS hk (fun y hy => Nat.le_trans hn0 (N y hy)) hkeep I hnot hh hcw ht (z := Int32.ofNat kn) (by rw [Int32.lt_iff_toInt_lt]; omega) (by rw [ec]; exact hl1.symm) (g := mkF m pc L S) rfl (hb hby hd) hn hbig hc hl
  exact Gl.st st (K a b T' h' k1 ⟨locs, Y', e', N⟩ E S1 hk1 hZ1 hown1 x1 x2 x3 ⟨cl, Ar, by rw [sz, ec], fun i hi => by rw [H i (by rw [sz, ec]; exact hi), hf i hi]⟩ I')
theorem g_getF (X : St p l e R s m args below meth c n0 T h cells slots) (hx : p.tables.exec = Jvm.exec) (hby : c.code = bs) (hZ : Z.Warmed39 s.vm) {own R0 O n d : String} {index : Nat} (hown : s.vm.findClass own = some m.cls) (w : (Cond.fieldLink own index R0 n d).before a0 Z = true) (via : Via Z R0 O n d) {a : Addr} {v : Value} (F : Fld Z h a O n d v) (hd : decode bs pc = .ok (.getfield index, 3)) (hp : pc + 3 = pc') (K : ∀ T', St p l e R s m args below meth c n0 T' h cells slots → Gl p e below n0 Φ Q (T'.setTop (mkF m pc' L (v :: S)))) : Gl p e below n0 Φ Q (T.setTop (mkF m pc L (.ref a :: S))) := by
  obtain ⟨locs, Y, eT, N⟩ := X; subst hp
  obtain ⟨T', Y', e', st⟩ := getF Y hx hZ hown (host := "") (Or.inl w) via eT F (g := mkF m pc L (.ref a :: S)) rfl rfl (hb hby hd)
  exact Gl.st st (K T' ⟨locs, Y', e', N⟩)
theorem g_putF (X : St p l e R s m args below meth c n0 T h cells slots) (hx : p.tables.exec = Jvm.exec) (hby : c.code = bs) (hZ : Z.Warmed39 s.vm) {own R0 O n d C : String} {index kk : Nat} {ty : FieldType} (hown : s.vm.findClass own = some m.cls) (w : (Cond.fieldLink own index R0 n d).before a0 Z = true) (via : Via Z R0 O n d) {a : Addr} {v old : Value} (F : Fld Z h a O n d old) (E : Exa Z h a C) (lay : (Cond.lays C O n d).before a0 Z = true ∨ ((Cond.laysFinal C O n d).before a0 Z = true ∧ own = O ∧ meth.name = "<init>")) (wi : (Cond.instantiable C kk).before a0 Z = true) (hty : parseFieldDescriptor d = some ty) (hn : narrow ty v = v) (hf : fits ty v = true) (hn0 : n0 ≤ a) (hd : decode bs pc = .ok (.putfield index, 3)) (hp : pc + 3 = pc') (K : ∀ T' h', St p l e R s m args below meth c n0 T' h' cells slots → Wr h h' a (Jvm.RoadKit.slotOf Z O n d) v → Gl p e below n0 Φ Q (T'.setTop (mkF m pc' L S))) : Gl p e below n0 Φ Q (T.setTop (mkF m pc L (v :: .ref a :: S))) := by
  obtain ⟨locs, Y, eT, N⟩ := X; subst hp
  obtain ⟨T', h', Y', e', W, st⟩ := putF Y hx hZ hown (host := "") (Or.inl w) via eT F E lay wi hty hn hf (g := mkF m pc L (v :: .ref a :: S)) rfl rfl (hb hby hd)
  exact Gl.st st (K T' h' ⟨_, Y', e', Fr.snoc Y' N hn0⟩ W)
theorem g_putFN (X : St p l e R s m args below meth c n0 T h cells slots) (hx : p.tables.exec = Jvm.exec) (hby : c.code = bs) (hZ : Z.Warmed39 s.vm) {own R0 O n d C : String} {index kk : Nat} {ty : FieldType} (hown : s.vm.findClass own = some m.cls) (w : (Cond.fieldLink own index R0 n d).before a0 Z = true) (via : Via Z R0 O n d) {a : Addr} {v v' old : Value} (F : Fld Z h a O n d old) (E : Exa Z h a C) (lay : (Cond.lays C O n d).before a0 Z = true ∨ ((Cond.laysFinal C O n d).before a0 Z = true ∧ own = O ∧ meth.name = "<init>")) (wi : (Cond.instantiable C kk).before a0 Z = true) (hty : parseFieldDescriptor d = some ty) (hn : narrow ty v = v') (hf : fits ty v' = true) (hn0 : n0 ≤ a) (hd : decode bs pc = .ok (.putfield index, 3)) (hp : pc + 3 = pc') (K : ∀ T' h', St p l e R s m args below meth c n0 T' h' cells slots → Wr h h' a (Jvm.RoadKit.slotOf Z O n d) v' → Gl p e below n0 Φ Q (T'.setTop (mkF m pc' L S))) : Gl p e below n0 Φ Q (T.setTop (mkF m pc L (v :: .ref a :: S))) := by
  obtain ⟨locs, Y, eT, N⟩ := X; subst hp
  obtain ⟨T', h', Y', e', W, st⟩ := putFN Y hx hZ hown w via eT F E lay wi hty hn hf (g := mkF m pc L (v :: .ref a :: S)) rfl rfl (hb hby hd)
  exact Gl.st st (K T' h' ⟨_, Y', e', Fr.snoc Y' N hn0⟩ W)
theorem g_getS (X : St p l e R s m args below meth c n0 T h cells slots) (hx : p.tables.exec = Jvm.exec) (hby : c.code = bs) (hZ : Z.Warmed39 s.vm) {own R0 O n d : String} {index : Nat} (hown : s.vm.findClass own = some m.cls) (w : (Cond.fieldLink own index R0 n d).before a0 Z = true) (via : Via Z R0 O n d) {v : Value} (F : Sta Z h O n d v) (hd : decode bs pc = .ok (.getstatic index, 3)) (hp : pc + 3 = pc') (K : ∀ T', St p l e R s m args below meth c n0 T' h cells slots → Gl p e below n0 Φ Q (T'.setTop (mkF m pc' L (v :: S)))) : Gl p e below n0 Φ Q (T.setTop (mkF m pc L S)) := by
  obtain ⟨locs, Y, eT, N⟩ := X; subst hp
  obtain ⟨T', Y', e', st⟩ := getS Y hx hZ hown (host := "") w via eT F (g := mkF m pc L S) rfl (hb hby hd)
  exact Gl.st st (K T' ⟨locs, Y', e', N⟩)
theorem g_new (X : St p l e R s m args below meth c n0 T h cells slots) (hx : p.tables.exec = Jvm.exec) (hby : c.code = bs) (hZ : Z.Warmed39 s.vm) {own C : String} {index n : Nat} (hown : s.vm.findClass own = some m.cls) (w : (Cond.classLink own index C).before a0 Z = true) (wi : (Cond.instantiable C n).before a0 Z = true) (wz : (Cond.initialized C).before a0 Z = true) (hd : decode bs pc = .ok (.new index, 3)) (hc : cells + 1 ≤ R.cells) (hs : slots + n ≤ R.slots) (hp : pc + 3 = pc') (K : ∀ T' h' (b : Addr), b = h.size → St p l e R s m args below meth c n0 T' h' (cells + 1) (slots + n) → Ext h h' → Exa Z h' b C → (∀ {O nm d : String} {ty : FieldType}, Laid Z a0 C O nm d → parseFieldDescriptor d = some ty → Fld Z h' b O nm d (defaultValue ty)) → Gl p e below n0 Φ Q (T'.setTop (mkF m pc' L (.ref b :: S)))) : Gl p e below n0 Φ Q (T.setTop (mkF m pc L S)) := by
  obtain ⟨locs, Y, eT, N⟩ := X; subst hp
  obtain ⟨T', h', Y', e', E, A, D, -, st⟩ := newO Y hx hZ hown w wi wz eT (g := mkF m pc L S) rfl (hb hby hd) hc hs
  exact Gl.st st (K T' h' _ rfl ⟨locs, Y', e', N⟩ E A D)
theorem g_newarray (X : St p l e R s m args below meth c n0 T h cells slots) (hx : p.tables.exec = Jvm.exec) (hby : c.code = bs) (hZ : Z.Warmed39 s.vm) {aty : ArrayType} (w : (Cond.arrayClass (newarray.typeOf aty)).before a0 Z = true) {n : Int32} {k cap : Nat} (hd : decode bs pc = .ok (.newarray aty, 2)) (hn : n.toInt = (k : Int)) (hcap : k ≤ cap) (hb8 : cap * 8 ≤ 536870912) (hc : cells + 1 ≤ R.cells) (hs : slots + cap ≤ R.slots) (hp : pc + 2 = pc') (K : ∀ T' h' (b : Addr), b = h.size → St p l e R s m args below meth c n0 T' h' (cells + 1) (slots + cap) → Ext h h' → Ary Z h' b (newarray.typeOf aty) k (fun _ => defaultValue (newarray.typeOf aty)) → Gl p e below n0 Φ Q (T'.setTop (mkF m pc' L (.ref b :: S)))) : Gl p e below n0 Φ Q (T.setTop (mkF m pc L (.int n :: S))) := by
  obtain ⟨locs, Y, eT, N⟩ := X; subst hp
  have e1 : n.toNatClampNeg = k := by simp only [Int32.toNatClampNeg]; omega
  obtain ⟨T', h', cA, Y', e', E, A, st⟩ := newP Y hx hZ w eT (g := mkF m pc L (.int n :: S)) rfl (hb hby hd) rfl (by rw [Int32.lt_iff_toInt_lt]; have : (0 : Int32).toInt = 0 := rfl; omega) (cap := cap) (by omega) hb8 hc hs
  exact Gl.st st (K T' h' _ rfl ⟨locs, Y', e', N⟩ E ⟨_, A, by rw [sz_new]; exact e1, fun i hi => by simp [newA, e1, hi]⟩)
theorem g_anewarray (X : St p l e R s m args below meth c n0 T h cells slots) (hx : p.tables.exec = Jvm.exec) (hby : c.code = bs) (hZ : Z.Warmed39 s.vm) {own C : String} {index : Nat} (hown : s.vm.findClass own = some m.cls) (w1 : (Cond.classLink own index C).before a0 Z = true) (w2 : (Cond.arrayOver (.object C)).before a0 Z = true) {n : Int32} {k cap : Nat} (hd : decode bs pc = .ok (.anewarray index, 3)) (hn : n.toInt = (k : Int)) (hcap : k ≤ cap) (hb8 : cap * 8 ≤ 536870912) (hc : cells + 1 ≤ R.cells) (hs : slots + cap ≤ R.slots) (hp : pc + 3 = pc') (K : ∀ T' h' (b : Addr), b = h.size → St p l e R s m args below meth c n0 T' h' (cells + 1) (slots + cap) → Ext h h' → Ary Z h' b (.object C) k (fun _ => .null) → Ov Z h' b C → Gl p e below n0 Φ Q (T'.setTop (mkF m pc' L (.ref b :: S)))) : Gl p e below n0 Φ Q (T.setTop (mkF m pc L (.int n :: S))) := by
  obtain ⟨locs, Y, eT, N⟩ := X; subst hp
  have e1 : n.toNatClampNeg = k := by simp only [Int32.toNatClampNeg]; omega
  obtain ⟨T', h', cA, Y', e', E, A, O, st⟩ := newR Y hx hZ hown w1 w2 eT (g := mkF m pc L (.int n :: S)) rfl (hb hby hd) rfl (by rw [Int32.lt_iff_toInt_lt]; have : (0 : Int32).toInt = 0 := rfl; omega) (cap := cap) (by omega) hb8 hc hs
  exact Gl.st st (K T' h' _ rfl ⟨locs, Y', e', N⟩ E ⟨_, A, by rw [sz_new]; exact e1, fun i hi => by simp [newA, e1, hi, defaultValue]⟩ ⟨_, A.1, O⟩)
theorem g_arraylength (X : St p l e R s m args below meth c n0 T h cells slots) (hx : p.tables.exec = Jvm.exec) (hby : c.code = bs) (hZ : Z.Warmed39 s.vm) {a : Addr} {ty : FieldType} {k : Nat} {f : Nat → Value} {n : Int32} (A : Ary Z h a ty k f) (hn : n.toInt = (k : Int)) (hd : decode bs pc = .ok (.arraylength, 1)) (hp : pc + 1 = pc') (K : Gl p e below n0 Φ Q (T.setTop (mkF m pc' L (.int n :: S)))) : Gl p e below n0 Φ Q (T.setTop (mkF m pc L (.ref a :: S))) := by
  obtain ⟨locs, Y, eT, -⟩ := X; subst hp
  obtain ⟨cl, Ar, sz, -⟩ := A
  have e1 : cl.slots.size.toInt32 = n := by
    have q := rng32 n
    rw [← Int32.toInt_inj, len_toInt (by omega), sz, hn]
  refine Gl.st (fun t k => Y.arraylength hx (by rw [eT]; exact Ar.1) (State.isArrayOf_alike hZ.alike Ar.2.1) (g := mkF m pc L (.ref a :: S)) rfl rfl (hb hby hd) t k) ?_
  rw [e1]; exact K
theorem g_iaload (X : St p l e R s m args below meth c n0 T h cells slots) (hx : p.tables.exec = Jvm.exec) (hby : c.code = bs) (hZ : Z.Warmed39 s.vm) {a : Addr} {k i : Nat} {f : Nat → Value} {j : Int32} {v : Value} (A : Ary Z h a .int k f) (hj : j.toInt = (i : Int)) (hi : i < k) (hv : f i = v) (hd : decode bs pc = .ok (.iaload, 1)) (hp : pc + 1 = pc') (K : Gl p e below n0 Φ Q (T.setTop (mkF m pc' L (v :: S)))) : Gl p e below n0 Φ Q (T.setTop (mkF m pc L (.int j :: .ref a :: S))) := by
  obtain ⟨locs, Y, eT, -⟩ := X; subst hp hv
  obtain ⟨cl, Ar, sz, H⟩ := A
  obtain ⟨q1, q2⟩ := own_in (k := k) hj hi
  exact Gl.st (fun t k => Y.iaload hx (by rw [eT]; exact Ar.1) (State.isArrayOf_alike hZ.alike Ar.2.1) Ar.2.2 (by rw [sz]; exact q1) (by rw [q2]; exact H i hi) (g := mkF m pc L (.int j :: .ref a :: S)) rfl rfl (hb hby hd) t k) K
theorem g_laload (X : St p l e R s m args below meth c n0 T h cells slots) (hx : p.tables.exec = Jvm.exec) (hby : c.code = bs) (hZ : Z.Warmed39 s.vm) {a : Addr} {k i : Nat} {f : Nat → Value} {j : Int32} {v : Value} (A : Ary Z h a .long k f) (hj : j.toInt = (i : Int)) (hi : i < k) (hv : f i = v) (hd : decode bs pc = .ok (.laload, 1)) (hp : pc + 1 = pc') (K : Gl p e below n0 Φ Q (T.setTop (mkF m pc' L (v :: S)))) : Gl p e below n0 Φ Q (T.setTop (mkF m pc L (.int j :: .ref a :: S))) := by
  obtain ⟨locs, Y, eT, -⟩ := X; subst hp hv
  obtain ⟨cl, Ar, sz, H⟩ := A
  obtain ⟨q1, q2⟩ := own_in (k := k) hj hi
  exact Gl.st (fun t k => Y.laload hx (by rw [eT]; exact Ar.1) (State.isArrayOf_alike hZ.alike Ar.2.1) Ar.2.2 (by rw [sz]; exact q1) (by rw [q2]; exact H i hi) (g := mkF m pc L (.int j :: .ref a :: S)) rfl rfl (hb hby hd) t k) K
theorem g_caload (X : St p l e R s m args below meth c n0 T h cells slots) (hx : p.tables.exec = Jvm.exec) (hby : c.code = bs) (hZ : Z.Warmed39 s.vm) {a : Addr} {k i : Nat} {f : Nat → Value} {j : Int32} {v : Value} (A : Ary Z h a .char k f) (hj : j.toInt = (i : Int)) (hi : i < k) (hv : f i = v) (hd : decode bs pc = .ok (.caload, 1)) (hp : pc + 1 = pc') (K : Gl p e below n0 Φ Q (T.setTop (mkF m pc' L (v :: S)))) : Gl p e below n0 Φ Q (T.setTop (mkF m pc L (.int j :: .ref a :: S))) := by
  obtain ⟨locs, Y, eT, -⟩ := X; subst hp hv
  obtain ⟨cl, Ar, sz, H⟩ := A
  obtain ⟨q1, q2⟩ := own_in (k := k) hj hi
  exact Gl.st (fun t k => Y.caload hx (by rw [eT]; exact Ar.1) (State.isArrayOf_alike hZ.alike Ar.2.1) Ar.2.2 (by rw [sz]; exact q1) (by rw [q2]; exact H i hi) (g := mkF m pc L (.int j :: .ref a :: S)) rfl rfl (hb hby hd) t k) K
theorem g_baload (X : St p l e R s m args below meth c n0 T h cells slots) (hx : p.tables.exec = Jvm.exec) (hby : c.code = bs) (hZ : Z.Warmed39 s.vm) {a : Addr} {k i : Nat} {f : Nat → Value} {j : Int32} {v : Value} (A : Ary Z h a .byte k f) (hj : j.toInt = (i : Int)) (hi : i < k) (hv : f i = v) (hd : decode bs pc = .ok (.baload, 1)) (hp : pc + 1 = pc') (K : Gl p e below n0 Φ Q (T.setTop (mkF m pc' L (v :: S)))) : Gl p e below n0 Φ Q (T.setTop (mkF m pc L (.int j :: .ref a :: S))) := by
  obtain ⟨locs, Y, eT, -⟩ := X; subst hp hv
  obtain ⟨cl, Ar, sz, H⟩ := A
  obtain ⟨q1, q2⟩ := own_in (k := k) hj hi
  exact Gl.st (fun t k => Y.baloadBytes hx (by rw [eT]; exact Ar.1) (State.isArrayOf_alike hZ.alike Ar.2.1) Ar.2.2 (by rw [sz]; exact q1) (by rw [q2]; exact H i hi) (g := mkF m pc L (.int j :: .ref a :: S)) rfl rfl (hb hby hd) t k) K
theorem g_zaload (X : St p l e R s m args below meth c n0 T h cells slots) (hx : p.tables.exec = Jvm.exec) (hby : c.code = bs) (hZ : Z.Warmed39 s.vm) {a : Addr} {k i : Nat} {f : Nat → Value} {j : Int32} {v : Value} (A : Ary Z h a .boolean k f) (hj : j.toInt = (i : Int)) (hi : i < k) (hv : f i = v) (hd : decode bs pc = .ok (.baload, 1)) (hp : pc + 1 = pc') (K : Gl p e below n0 Φ Q (T.setTop (mkF m pc' L (v :: S)))) : Gl p e below n0 Φ Q (T.setTop (mkF m pc L (.int j :: .ref a :: S))) := by
  obtain ⟨locs, Y, eT, -⟩ := X; subst hp hv
  obtain ⟨cl, Ar, sz, H⟩ := A
  obtain ⟨q1, q2⟩ := own_in (k := k) hj hi
  exact Gl.st (fun t k => Y.baloadBooleans hx (by rw [eT]; exact Ar.1) (State.isArrayOf_alike hZ.alike Ar.2.1) Ar.2.2 (by rw [sz]; exact q1) (by rw [q2]; exact H i hi) (g := mkF m pc L (.int j :: .ref a :: S)) rfl rfl (hb hby hd) t k) K
theorem g_aaload (X : St p l e R s m args below meth c n0 T h cells slots) (hx : p.tables.exec = Jvm.exec) (hby : c.code = bs) (hZ : Z.Warmed39 s.vm) {a : Addr} {k i : Nat} {f : Nat → Value} {j : Int32} {v : Value} {ty : FieldType} (A : Ary Z h a ty k f) (hty : ty.isReference = true) (hj : j.toInt = (i : Int)) (hi : i < k) (hv : f i = v) (hd : decode bs pc = .ok (.aaload, 1)) (hp : pc + 1 = pc') (K : Gl p e below n0 Φ Q (T.setTop (mkF m pc' L (v :: S)))) : Gl p e below n0 Φ Q (T.setTop (mkF m pc L (.int j :: .ref a :: S))) := by
  obtain ⟨locs, Y, eT, -⟩ := X; subst hp hv
  obtain ⟨cl, Ar, sz, H⟩ := A
  obtain ⟨q1, q2⟩ := own_in (k := k) hj hi
  exact Gl.st (fun t k => Y.aaload hx (by rw [eT]; exact Ar.1) (State.isArrayOf_alike hZ.alike Ar.2.1) hty Ar.2.2 (by rw [sz]; exact q1) (by rw [q2]; exact H i hi) (g := mkF m pc L (.int j :: .ref a :: S)) rfl rfl (hb hby hd) t k) K
theorem g_iastore (X : St p l e R s m args below meth c n0 T h cells slots) (hx : p.tables.exec = Jvm.exec) (hby : c.code = bs) (hZ : Z.Warmed39 s.vm) {a : Addr} {k i : Nat} {f : Nat → Value} {j : Int32} {x : Int32} (A : Ary Z h a .int k f) (hj : j.toInt = (i : Int)) (hi : i < k) (hn0 : n0 ≤ a) (hd : decode bs pc = .ok (.iastore, 1)) (hp : pc + 1 = pc') (K : ∀ T' h' sl0, St p l e R s m args below meth c n0 T' h' cells slots → Wr h h' a sl0 (.int x) → Ary Z h' a .int k (own_upd f i (.int x)) → Gl p e below n0 Φ Q (T'.setTop (mkF m pc' L S))) : Gl p e below n0 Φ Q (T.setTop (mkF m pc L (.int x :: .int j :: .ref a :: S))) := by
  obtain ⟨locs, Y, eT, N⟩ := X; subst hp
  obtain ⟨cl, Ar, sz, H⟩ := A
  obtain ⟨q1, q2⟩ := own_in (k := k) hj hi
  obtain ⟨T', h', Y', e', W, st⟩ := stI Y hx hZ eT Ar (j := j) (by rw [sz]; exact q1) (g := mkF m pc L (.int x :: .int j :: .ref a :: S)) rfl rfl (hb hby hd)
  exact Gl.st st (K T' h' _ ⟨_, Y', e', Fr.snoc Y' N hn0⟩ W (Ary.same Ar sz H (q2 ▸ W)))
theorem g_lastore (X : St p l e R s m args below meth c n0 T h cells slots) (hx : p.tables.exec = Jvm.exec) (hby : c.code = bs) (hZ : Z.Warmed39 s.vm) {a : Addr} {k i : Nat} {f : Nat → Value} {j : Int32} {x : Int64} (A : Ary Z h a .long k f) (hj : j.toInt = (i : Int)) (hi : i < k) (hn0 : n0 ≤ a) (hd : decode bs pc = .ok (.lastore, 1)) (hp : pc + 1 = pc') (K : ∀ T' h' sl0, St p l e R s m args below meth c n0 T' h' cells slots → Wr h h' a sl0 (.long x) → Ary Z h' a .long k (own_upd f i (.long x)) → Gl p e below n0 Φ Q (T'.setTop (mkF m pc' L S))) : Gl p e below n0 Φ Q (T.setTop (mkF m pc L (.long x :: .int j :: .ref a :: S))) := by
  obtain ⟨locs, Y, eT, N⟩ := X; subst hp
  obtain ⟨cl, Ar, sz, H⟩ := A
  obtain ⟨q1, q2⟩ := own_in (k := k) hj hi
  obtain ⟨T', h', Y', e', W, st⟩ := stJ Y hx hZ eT Ar (j := j) (by rw [sz]; exact q1) (g := mkF m pc L (.long x :: .int j :: .ref a :: S)) rfl rfl (hb hby hd)
  exact Gl.st st (K T' h' _ ⟨_, Y', e', Fr.snoc Y' N hn0⟩ W (Ary.same Ar sz H (q2 ▸ W)))
theorem g_bastore (X : St p l e R s m args below meth c n0 T h cells slots) (hx : p.tables.exec = Jvm.exec) (hby : c.code = bs) (hZ : Z.Warmed39 s.vm) {a : Addr} {k i : Nat} {f : Nat → Value} {j : Int32} {x : Int32} (A : Ary Z h a .byte k f) (hj : j.toInt = (i : Int)) (hi : i < k) (hn0 : n0 ≤ a) (hd : decode bs pc = .ok (.bastore, 1)) (hp : pc + 1 = pc') (K : ∀ T' h' sl0, St p l e R s m args below meth c n0 T' h' cells slots → Wr h h' a sl0 (.int (nar .byte x)) → Ary Z h' a .byte k (own_upd f i (.int (nar .byte x))) → Gl p e below n0 Φ Q (T'.setTop (mkF m pc' L S))) : Gl p e below n0 Φ Q (T.setTop (mkF m pc L (.int x :: .int j :: .ref a :: S))) := by
  obtain ⟨locs, Y, eT, N⟩ := X; subst hp
  obtain ⟨cl, Ar, sz, H⟩ := A
  obtain ⟨q1, q2⟩ := own_in (k := k) hj hi
  obtain ⟨T', h', Y', e', W, st⟩ := stB Y hx hZ eT Ar (j := j) (by rw [sz]; exact q1) (g := mkF m pc L (.int x :: .int j :: .ref a :: S)) rfl rfl (hb hby hd)
  exact Gl.st st (K T' h' _ ⟨_, Y', e', Fr.snoc Y' N hn0⟩ W (Ary.same Ar sz H (q2 ▸ W)))
theorem g_zastore (X : St p l e R s m args below meth c n0 T h cells slots) (hx : p.tables.exec = Jvm.exec) (hby : c.code = bs) (hZ : Z.Warmed39 s.vm) {a : Addr} {k i : Nat} {f : Nat → Value} {j : Int32} {x : Int32} (A : Ary Z h a .boolean k f) (hj : j.toInt = (i : Int)) (hi : i < k) (hn0 : n0 ≤ a) (hd : decode bs pc = .ok (.bastore, 1)) (hp : pc + 1 = pc') (K : ∀ T' h' sl0, St p l e R s m args below meth c n0 T' h' cells slots → Wr h h' a sl0 (.int (nar .boolean x)) → Ary Z h' a .boolean k (own_upd f i (.int (nar .boolean x))) → Gl p e below n0 Φ Q (T'.setTop (mkF m pc' L S))) : Gl p e below n0 Φ Q (T.setTop (mkF m pc L (.int x :: .int j :: .ref a :: S))) := by
  obtain ⟨locs, Y, eT, N⟩ := X; subst hp
  obtain ⟨cl, Ar, sz, H⟩ := A
  obtain ⟨q1, q2⟩ := own_in (k := k) hj hi
  obtain ⟨T', h', Y', e', W, st⟩ := stZ Y hx hZ eT Ar (j := j) (by rw [sz]; exact q1) (g := mkF m pc L (.int x :: .int j :: .ref a :: S)) rfl rfl (hb hby hd)
  exact Gl.st st (K T' h' _ ⟨_, Y', e', Fr.snoc Y' N hn0⟩ W (Ary.same Ar sz H (q2 ▸ W)))
theorem g_castore (X : St p l e R s m args below meth c n0 T h cells slots) (hx : p.tables.exec = Jvm.exec) (hby : c.code = bs) (hZ : Z.Warmed39 s.vm) {a : Addr} {k i : Nat} {f : Nat → Value} {j : Int32} {x : Int32} (A : Ary Z h a .char k f) (hj : j.toInt = (i : Int)) (hi : i < k) (hn0 : n0 ≤ a) (hd : decode bs pc = .ok (.castore, 1)) (hp : pc + 1 = pc') (K : ∀ T' h' sl0, St p l e R s m args below meth c n0 T' h' cells slots → Wr h h' a sl0 (.int (nar .char x)) → Ary Z h' a .char k (own_upd f i (.int (nar .char x))) → Gl p e below n0 Φ Q (T'.setTop (mkF m pc' L S))) : Gl p e below n0 Φ Q (T.setTop (mkF m pc L (.int x :: .int j :: .ref a :: S))) := by
  obtain ⟨locs, Y, eT, N⟩ := X; subst hp
  obtain ⟨cl, Ar, sz, H⟩ := A
  obtain ⟨q1, q2⟩ := own_in (k := k) hj hi
  obtain ⟨T', h', Y', e', W, st⟩ := stC Y hx hZ eT Ar (j := j) (by rw [sz]; exact q1) (g := mkF m pc L (.int x :: .int j :: .ref a :: S)) rfl rfl (hb hby hd)
  exact Gl.st st (K T' h' _ ⟨_, Y', e', Fr.snoc Y' N hn0⟩ W (Ary.same Ar sz H (q2 ▸ W)))
theorem g_aastore (X : St p l e R s m args below meth c n0 T h cells slots) (hx : p.tables.exec = Jvm.exec) (hby : c.code = bs) (hZ : Z.Warmed39 s.vm) {a : Addr} {k i : Nat} {f : Nat → Value} {j : Int32} {v : Value} {ty : FieldType} (A : Ary Z h a ty k f) (hty : ty.isReference = true) (St0 : Sto Z h a v) (hj : j.toInt = (i : Int)) (hi : i < k) (hn0 : n0 ≤ a) (hd : decode bs pc = .ok (.aastore, 1)) (hp : pc + 1 = pc') (K : ∀ T' h' sl0, St p l e R s m args below meth c n0 T' h' cells slots → Wr h h' a sl0 v → Ary Z h' a ty k (own_upd f i v) → Gl p e below n0 Φ Q (T'.setTop (mkF m pc' L S))) : Gl p e below n0 Φ Q (T.setTop (mkF m pc L (v :: .int j :: .ref a :: S))) := by
  obtain ⟨locs, Y, eT, N⟩ := X; subst hp
  obtain ⟨cl, Ar, sz, H⟩ := A
  obtain ⟨q1, q2⟩ := own_in (k := k) hj hi
  obtain ⟨T', h', Y', e', W, st⟩ := stR Y hx hZ eT Ar (j := j) (by rw [sz]; exact q1) hty St0 (g := mkF m pc L (v :: .int j :: .ref a :: S)) rfl rfl (hb hby hd)
  exact Gl.st st (K T' h' _ ⟨_, Y', e', Fr.snoc Y' N hn0⟩ W (Ary.same Ar sz H (q2 ▸ W)))
theorem g_instY (X : St p l e R s m args below meth c n0 T h cells slots) (hx : p.tables.exec = Jvm.exec) (hby : c.code = bs) (hZ : Z.Warmed39 s.vm) {own K : String} {index : Nat} {a : Addr} (hown : s.vm.findClass own = some m.cls) (w : (Cond.classLink own index K).before a0 Z = true) (I : Ins Z h a K true) (hd : decode bs pc = .ok (.instanceof index, 3)) (hp : pc + 3 = pc') (K1 : ∀ T', St p l e R s m args below meth c n0 T' h cells slots → Gl p e below n0 Φ Q (T'.setTop (mkF m pc' L (.int 1 :: S)))) : Gl p e below n0 Φ Q (T.setTop (mkF m pc L (.ref a :: S))) := by
  obtain ⟨locs, Y, eT, N⟩ := X; subst hp
  obtain ⟨T', Y', e', st⟩ := instY Y hx hZ hown w eT I (g := mkF m pc L (.ref a :: S)) rfl rfl (hb hby hd)
  exact Gl.st st (K1 T' ⟨locs, Y', e', N⟩)
theorem g_castY (X : St p l e R s m args below meth c n0 T h cells slots) (hx : p.tables.exec = Jvm.exec) (hby : c.code = bs) (hZ : Z.Warmed39 s.vm) {own K : String} {index : Nat} {a : Addr} (hown : s.vm.findClass own = some m.cls) (w : (Cond.classLink own index K).before a0 Z = true) (I : Ins Z h a K true) (hd : decode bs pc = .ok (.checkcast index, 3)) (hp : pc + 3 = pc') (K1 : ∀ T', St p l e R s m args below meth c n0 T' h cells slots → Gl p e below n0 Φ Q (T'.setTop (mkF m pc' L (.ref a :: S)))) : Gl p e below n0 Φ Q (T.setTop (mkF m pc L (.ref a :: S))) := by
  obtain ⟨locs, Y, eT, N⟩ := X; subst hp
  obtain ⟨T', Y', e', st⟩ := castY Y hx hZ hown w eT I (g := mkF m pc L (.ref a :: S)) rfl rfl (hb hby hd)
  exact Gl.st st (K1 T' ⟨locs, Y', e', N⟩)
theorem g_instNo (X : St p l e R s m args below meth c n0 T h cells slots) (hx : p.tables.exec = Jvm.exec) (hby : c.code = bs) (hZ : Z.Warmed39 s.vm) {own K C : String} {index : Nat} {a : Addr} (hown : s.vm.findClass own = some m.cls) (w : (Cond.classLink own index K).before a0 Z = true) (E : Exa Z h a C) (I : ∃ c t, Z.vm.findClass C = some c ∧ Z.vm.findClass K = some t ∧ Z.vm.assignable c t = false) (hd : decode bs pc = .ok (.instanceof index, 3)) (hp : pc + 3 = pc') (K1 : ∀ T', St p l e R s m args below meth c n0 T' h cells slots → Gl p e below n0 Φ Q (T'.setTop (mkF m pc' L (.int 0 :: S)))) : Gl p e below n0 Φ Q (T.setTop (mkF m pc L (.ref a :: S))) := by
  obtain ⟨locs, Y, eT, N⟩ := X; subst hp
  obtain ⟨T', Y', e', st⟩ := instNo Y hx hZ hown w eT E I (g := mkF m pc L (.ref a :: S)) rfl rfl (hb hby hd)
  exact Gl.st st (K1 T' ⟨locs, Y', e', N⟩)
theorem g_instNull (X : St p l e R s m args below meth c n0 T h cells slots) (hx : p.tables.exec = Jvm.exec) (hby : c.code = bs) {index : Nat} (hd : decode bs pc = .ok (.instanceof index, 3)) (hp : pc + 3 = pc') (K1 : Gl p e below n0 Φ Q (T.setTop (mkF m pc' L (.int 0 :: S)))) : Gl p e below n0 Φ Q (T.setTop (mkF m pc L (.null :: S))) := by
  obtain ⟨locs, Y, eT, N⟩ := X; subst hp
  exact Gl.st (fun t k => Y.instanceofNull hx (g := mkF m pc L (.null :: S)) rfl rfl (hb hby hd) t k) K1
theorem g_initO (X : St p l e R s m args below meth c n0 T h cells slots) (hx : p.tables.exec = Jvm.exec) (hby : c.code = bs) (hZ : Z.Warmed39 s.vm) {own : String} {idx W : Nat} {a : Addr} (hown : s.vm.findClass own = some m.cls) (w1 : (Cond.methodLink own idx Lib.objectInit).before a0 Z = true) (w2 : (Cond.instanceMethod Lib.objectInit).before a0 Z = true) (w3 : (Cond.code Lib.objectInit ⟨#[0xb1]⟩ 1 none).before a0 Z = true) (hsz : L.size = c.maxLocals) (hd : decode bs pc = .ok (.invokespecial idx, 3)) (hf : 1 ≤ R.frames) (hW : 2 * 0 + (S.map fun v => v.category).sum ≤ W) (hlo : W + 12 ≤ R.locals) (hp : pc + 3 = pc') (K : ∀ T', St p l e R s m args below meth c n0 T' h cells slots → Gl p e below n0 Φ Q (T'.setTop (mkF m pc' L S))) : Gl p e below n0 Φ Q (T.setTop (mkF m pc L (.ref a :: S))) := by
  obtain ⟨locs, Y, eT, N⟩ := X; subst hp
  obtain ⟨T', Y', e', st⟩ := initO Y hx hZ hown w1 w2 w3 eT (g := mkF m pc L (.ref a :: S)) rfl hsz rfl (hb hby hd) hf (W := W) hW hlo
  exact Gl.st st (K T' ⟨locs, Y', e', N⟩)
theorem g_callS (X : St p l e R s m args below meth c n0 T h cells slots) (hx : p.tables.exec = Jvm.exec) (hby : c.code = bs) (hZ : Z.Warmed39 s.vm) {rm : Room} {y : MethodName} {bytes : ByteArray} {maxL : Nat} {ret : Option FieldType} {Qc : Option Value → Heap → Prop} {own : String} {idx : Nat} {argsL S0 : List Value} (hown : s.vm.findClass own = some m.cls) (w1 : (Cond.methodLink own idx y).before a0 Z = true) (w2 : (Cond.static y).before a0 Z = true) (w3 : (Cond.initialized y.cls).before a0 Z = true) (w4 : (Cond.code y bytes maxL ret).before a0 Z = true) (hy : y.cls ≠ "java/lang/invoke/MethodHandle" ∧ y.cls ≠ "java/lang/invoke/VarHandle") (hM : Ctr l Z y bytes maxL ret [] rm argsL.toArray h n0 rm.cells rm.slots Qc) (hsz : L.size = c.maxLocals) (hlen : ∀ sig, parseMethodDescriptor y.desc = some sig → argsL.length = sig.parameters.length) (hst : S0 = argsL.reverse ++ S) (hd : decode bs pc = .ok (.invokestatic idx, 3)) (hf : rm.frames + 1 ≤ R.frames) {W : Nat} (hW : 2 * 0 + (S.map fun v => v.category).sum ≤ W) (hlo : W + (maxL + 11) + rm.locals ≤ R.locals) (hc : cells + rm.cells ≤ R.cells) (hs : slots + rm.slots ≤ R.slots) (hp : pc + 3 = pc') (K : ∀ T' v, St p l e R s m args below meth c n0 T' T'.heap (cells + rm.cells) (slots + rm.slots) → Qc v T'.heap → Gl p e below n0 Φ Q (T'.setTop (mkF m pc' L (v.toList ++ S)))) : Gl p e below n0 Φ Q (T.setTop (mkF m pc L S0)) := by
  obtain ⟨locs, Y, eT, N⟩ := X; subst hp
  obtain ⟨v, _, ⟨T', L1, k1, n1⟩, -, Y', ⟨Lc, hQ, l1, y1, z1⟩, st⟩ := Jvm.LawKit.callS Y hx (y := y) hown (mvT hZ w1) (mvT hZ w2) (mvT hZ w3) (mvT hZ w4) hy (backOf (W := W) (Q := fun v h L => Qc v h ∧ Fr n0 L) hM hZ w4 w3 hf hlo) (g := mkF m pc L S0) rfl hsz (argsL := argsL) (rest := S) hlen hst hW (hb hby hd) (fun _ _ => ⟨rfl, eT, hc, hs⟩)
  dsimp only [Pt.U, Pt.locs, Pt.cells, Pt.slots] at Y' l1 y1 z1 st hQ
  subst l1 y1 z1
  exact Gl.st (st) (K T' v ⟨_, Y', rfl, Fr.app N hQ.2⟩ hQ.1)
theorem g_callC (X : St p l e R s m args below meth c n0 T h cells slots) (hx : p.tables.exec = Jvm.exec) (hby : c.code = bs) (hZ : Z.Warmed39 s.vm) {rm : Room} {y : MethodName} {bytes : ByteArray} {maxL : Nat} {Qc : Option Value → Heap → Prop} {own : String} {idx : Nat} {a : Addr} {argsL S0 : List Value} (hy1 : y.name = "<init>") (hown : s.vm.findClass own = some m.cls) (w1 : (Cond.methodLink own idx y).before a0 Z = true) (w2 : (Cond.instanceMethod y).before a0 Z = true) (w3 : (Cond.initialized y.cls).before a0 Z = true) (w4 : (Cond.code y bytes maxL none).before a0 Z = true) (hy : y.cls ≠ "java/lang/invoke/MethodHandle" ∧ y.cls ≠ "java/lang/invoke/VarHandle") (hM : Ctr l Z y bytes maxL none [] rm (.ref a :: argsL).toArray h n0 rm.cells rm.slots Qc) (hsz : L.size = c.maxLocals) (hlen : ∀ sig, parseMethodDescriptor y.desc = some sig → argsL.length = sig.parameters.length) (hst : S0 = argsL.reverse ++ .ref a :: S) (hd : decode bs pc = .ok (.invokespecial idx, 3)) (hf : rm.frames + 1 ≤ R.frames) {W : Nat} (hW : 2 * 0 + (S.map fun v => v.category).sum ≤ W) (hlo : W + (maxL + 11) + rm.locals ≤ R.locals) (hc : cells + rm.cells ≤ R.cells) (hs : slots + rm.slots ≤ R.slots) (hp : pc + 3 = pc') (K : ∀ T' v, St p l e R s m args below meth c n0 T' T'.heap (cells + rm.cells) (slots + rm.slots) → Qc v T'.heap → Gl p e below n0 Φ Q (T'.setTop (mkF m pc' L (v.toList ++ S)))) : Gl p e below n0 Φ Q (T.setTop (mkF m pc L S0)) := by
  obtain ⟨locs, Y, eT, N⟩ := X; subst hp
  obtain ⟨v, _, ⟨T', L1, k1, n1⟩, -, Y', ⟨Lc, hQ, l1, y1, z1⟩, st⟩ := Y.specialBack hx (y := y) hy1 hown (mvT hZ w1) (mvT hZ w2) (mvT hZ w4) hy (backOf (W := W) (Q := fun v h L => Qc v h ∧ Fr n0 L) hM hZ w4 w3 hf hlo) (g := mkF m pc L S0) rfl hsz (Steps.refl _) (a := a) (argsL := argsL) (rest := S) hlen hst hW (hb hby hd) (fun _ _ => ⟨rfl, eT, hc, hs⟩)
  dsimp only [Pt.U, Pt.locs, Pt.cells, Pt.slots] at Y' l1 y1 z1 st hQ
  subst l1 y1 z1
  exact Gl.st (fun t k => st.trans k) (K T' v ⟨_, Y', rfl, Fr.app N hQ.2⟩ hQ.1)
theorem g_callV (X : St p l e R s m args below meth c n0 T h cells slots) (hx : p.tables.exec = Jvm.exec) (hby : c.code = bs) (hZ : Z.Warmed39 s.vm) {rm : Room} {y : MethodName} {bytes : ByteArray} {maxL : Nat} {ret : Option FieldType} {Qc : Option Value → Heap → Prop} {own C : String} {idx : Nat} {a : Addr} {y' : MethodName} {argsL S0 : List Value} (hown : s.vm.findClass own = some m.cls) (w1 : (Cond.methodLink own idx y').before a0 Z = true) (w2 : (Cond.declares y').before a0 Z = true) (w5 : NotFace s y') (w6 : (Cond.selects C y' y).before a0 Z = true) (w7 : (Cond.instanceMethod y).before a0 Z = true) (w3 : (Cond.initialized y.cls).before a0 Z = true) (w4 : (Cond.code y bytes maxL ret).before a0 Z = true) (hy : y'.cls ≠ "java/lang/invoke/MethodHandle" ∧ y'.cls ≠ "java/lang/invoke/VarHandle") (E : Exa Z h a C) (hM : Ctr l Z y bytes maxL ret [] rm (.ref a :: argsL).toArray h n0 rm.cells rm.slots Qc) (hsz : L.size = c.maxLocals) (hlen : ∀ sig, parseMethodDescriptor y'.desc = some sig → argsL.length = sig.parameters.length) (hst : S0 = argsL.reverse ++ .ref a :: S) (hd : decode bs pc = .ok (.invokevirtual idx, 3)) (hf : rm.frames + 1 ≤ R.frames) {W : Nat} (hW : 2 * 0 + (S.map fun v => v.category).sum ≤ W) (hlo : W + (maxL + 11) + rm.locals ≤ R.locals) (hc : cells + rm.cells ≤ R.cells) (hs : slots + rm.slots ≤ R.slots) (hp : pc + 3 = pc') (K : ∀ T' v, St p l e R s m args below meth c n0 T' T'.heap (cells + rm.cells) (slots + rm.slots) → Qc v T'.heap → Gl p e below n0 Φ Q (T'.setTop (mkF m pc' L (v.toList ++ S)))) : Gl p e below n0 Φ Q (T.setTop (mkF m pc L S0)) := by
  obtain ⟨locs, Y, eT, N⟩ := X; subst hp
  obtain ⟨cB, kB, qa, qb, qc⟩ := isOf hZ eT E
  obtain ⟨v, _, ⟨T', L1, k1, n1⟩, -, Y', ⟨Lc, hQ, l1, y1, z1⟩, st⟩ := Y.virtualBack hx (y := y') (z := y) hown (mvT hZ w1) (mvT hZ w2) w5 (mvT hZ w6) (mvT hZ w7) hy (backOf (W := W) (Q := fun v h L => Qc v h ∧ Fr n0 L) hM hZ w4 w3 hf hlo) qa qc (g := mkF m pc L S0) rfl hsz (Steps.refl _) (argsL := argsL) (rest := S) hlen hst hW (hb hby hd) (fun _ _ => ⟨rfl, eT, hc, hs⟩)
  dsimp only [Pt.U, Pt.locs, Pt.cells, Pt.slots] at Y' l1 y1 z1 st hQ
  subst l1 y1 z1
  exact Gl.st (fun t k => st.trans k) (K T' v ⟨_, Y', rfl, Fr.app N hQ.2⟩ hQ.1)
end OwnSteps
abbrev own_room (f c s l : Nat) : Room := { frames := f, cells := c, slots := s, locals := l }
def Str (Z : State) (h : Heap) (b : Addr) (x : Int32) : Prop := ∃ a' : Addr, Exa Z h b "java/lang/String" ∧ Fld Z h b "java/lang/String" "value" "[B" (.ref a') ∧ Fld Z h b "java/lang/String" "coder" "B" (.int 0) ∧ Ary Z h a' .byte 1 (fun _ => .int x)
section OwnStr
variable {Z : State} {h h' : Heap} {a b : Addr} {x x' : Int32} {ws : List Addr} {a0 : Array Value}
theorem Str.exa (F : Str Z h b x) : Exa Z h b "java/lang/String" := by obtain ⟨_, E, -⟩ := F; exact E
theorem Str.ext (F : Str Z h b x) (E : Ext h h') : Str Z h' b x := by obtain ⟨a, f1, f2, f3, f4⟩ := F; exact ⟨a, f1.ext E, f2.ext E, f3.ext E, f4.ext E⟩
theorem Str.keep0 (F : Str Z h b x) (K : Keep h h' []) : Str Z h' b x := by obtain ⟨a, f1, f2, f3, f4⟩ := F; exact ⟨a, f1.keep K, f2.keep K nin0, f3.keep K nin0, f4.keep K nin0⟩
theorem Str.keep1 {C : String} {k : Nat} (F : Str Z h b x) (K : Keep h h' [a]) (E : Exa Z h a C) (wi : (Cond.instantiable C k).before a0 Z = true) (hC : "java/lang/String" ≠ C) : Str Z h' b x := by
  obtain ⟨a', f1, f2, f3, f4⟩ := F
  have q := ninS (ne_exa f1 E hC) (nin0 (x := b))
  obtain ⟨cl, A, r⟩ := f4
  have q' := ninS (Ne.symm (ne_arr E wi A)) (nin0 (x := a'))
  exact ⟨a', f1.keep K, f2.keep K q, f3.keep K q, Ary.keep ⟨cl, A, r⟩ K q'⟩
theorem Ary.inj {ty : FieldType} {n : Nat} {f g : Nat → Value} (F : Ary Z h a ty n f) (G : Ary Z h a ty n g) : ∀ i, i < n → f i = g i := fun i hi => by
  obtain ⟨c1, A1, s1, H1⟩ := F
  obtain ⟨c2, A2, s2, H2⟩ := G
  cases A1.1.symm.trans A2.1
  exact Option.some.inj ((H1 i hi).symm.trans (H2 i hi))
theorem Str.inj (F : Str Z h b x) (G : Str Z h b x') : x = x' := by
  obtain ⟨a1, -, f2, -, f4⟩ := F
  obtain ⟨a2, -, g2, -, g4⟩ := G
  cases own_fld_inj f2 g2
  cases Ary.inj f4 g4 0 (by decide)
  rfl
end OwnStr
theorem own_ary1 {Z : State} {h : Heap} {a : Addr} {ty : FieldType} {f : Nat → Value} {v : Value} (F : Ary Z h a ty 1 f) (e : f 0 = v) : Ary Z h a ty 1 (fun _ => v) := F.congr fun i hi => by
  have : i = 0 := by omega
  subst this; exact e
def own_y (c : Int32) : Int32 := nar .byte c.toInt8.toInt32
def own_e (x y : Int32) : Int32 := if x = y then 1 else 0
theorem own_e1 {x y : Int32} (q : ¬ own_e x y = 0) : own_e x y = 1 := by unfold own_e at *; split at q <;> simp_all
theorem own_b8 (x : Int32) : nar .byte (nar .byte x) = nar .byte x := by show x.toInt8.toInt32.toInt8.toInt32 = x.toInt8.toInt32; rw [Int8.toInt8_toInt32]
theorem own_y_inj {c d : Int32} (hc : 0 ≤ c.toInt ∧ c.toInt ≤ 255) (hd : 0 ≤ d.toInt ∧ d.toInt ≤ 255) (q : own_y c = own_y d) : c = d := by
  have e1 : own_y c = c.toInt8.toInt32 := own_b8 c
  have e2 : own_y d = d.toInt8.toInt32 := own_b8 d
  rw [e1, e2] at q
  have f1 := c_i2b c; have f2 := c_i2b d
  rw [q] at f1
  exact Int32.toInt_inj.mp (by omega)
def Lat (Z : State) (h : Heap) (b : Addr) (n : Nat) (f : Nat → Int32) : Prop := ∃ a' : Addr, Exa Z h b "java/lang/String" ∧ Fld Z h b "java/lang/String" "value" "[B" (.ref a') ∧ Fld Z h b "java/lang/String" "coder" "B" (.int 0) ∧ Ary Z h a' .byte n (fun i => .int (f i))
theorem Str.lat {Z : State} {h : Heap} {b : Addr} {x y : Int32} (F : Str Z h b x) (q : x = y) : Lat Z h b 1 (fun _ => y) := by subst q; exact F
theorem own_shr0 (N : Int32) : N >>> ((0 : Int32) &&& 31) = N := by
  show N >>> (0 : Int32) = N
  simp
theorem own_narc (x : Int32) : nar .char ((x &&& (255 : Int32)).toUInt32.toUInt16.toUInt32.toInt32) = x &&& 255 := by
  show ((x &&& (255 : Int32)).toUInt32.toUInt16.toUInt32.toInt32).toUInt32.toUInt16.toUInt32.toInt32 = x &&& 255
  rw [i2c_mask, i2c_mask]
theorem own_i2c {x : Int32} (h : 0 ≤ x.toInt ∧ x.toInt ≤ 65535) : x.toUInt32.toUInt16.toUInt32.toInt32 = x := by
  have q := c_i2c x
  exact Int32.toInt_inj.mp (by omega)
theorem own_narC {x : Int32} (h : 0 ≤ x.toInt ∧ x.toInt ≤ 65535) : nar .char x = x := own_i2c h
theorem own_cat {v : Value} (h : v.isRef = true) : v.category = 1 := by rcases ref_cases h with rfl | ⟨a, rfl⟩ <;> rfl
theorem own_y_id {c : Int32} (h : 0 ≤ c.toInt ∧ c.toInt ≤ 127) : own_y c = c := by
  have e1 : own_y c = c.toInt8.toInt32 := own_b8 c
  have f1 := c_i2b c
  rw [e1]; exact Int32.toInt_inj.mp (by omega)
theorem own_chr_y {c : Int32} (h : 0 ≤ c.toInt ∧ c.toInt ≤ 255) : own_y c &&& (255 : Int32) = c := by
  have e1 : own_y c = c.toInt8.toInt32 := own_b8 c
  have f1 := c_i2b c
  have h1 := c_mask c.toInt8.toInt32 255 8 (by decide) (by decide); have h5 : ((2 ^ 8 : Nat) : Int) = 256 := rfl
  rw [e1]; exact Int32.toInt_inj.mp (by omega)
theorem own_ilt {i n : Nat} {I N : Int32} (h1 : I.toInt = (i : Int)) (h2 : N.toInt = (n : Int)) (h : i < n) : I < N := Int32.lt_iff_toInt_lt.mpr (by omega)
theorem own_i0 {i : Nat} {I : Int32} (h1 : I.toInt = (i : Int)) : ¬ I < 0 := fun q => by have := Int32.lt_iff_toInt_lt.mp q; have z : (0 : Int32).toInt = 0 := rfl; omega
theorem own_le255 {c : Int32} (h : 0 ≤ c.toInt ∧ c.toInt ≤ 255) : ¬ (255 : Int32) < c := fun q => by
  have := Int32.lt_iff_toInt_lt.mp q; have z : (255 : Int32).toInt = 255 := rfl; omega
section OwnHeld
variable {p : Program} {l : Launch} {e : Env} {R : Room} {s : State} {m : MethodId} {args : Array Value} {below : List Frame} {meth : Method} {c : Code} {T : State} {n0 : Nat} {h : Heap} {cells slots : Nat} {cs sl : Nat} {Φ : Outcome → State → List Loc → Prop} {Q : Option Value → Heap → Prop} {pc pc' : Nat} {L L' : Array Slot} {S : List Value} {bs : ByteArray} {Z : State} {a0 : Array Value} {vm0 vmS : Vm} {k0 : Nat} {EL : List (String × Nat)} {ss : List Addr} {hh0 : Heap}
abbrev Fh (Z : State) (EL : List (String × Nat)) (h0 : Heap) (s : State) (cs sl : Nat) : Outcome → State → List Loc → Prop := fun o t L => CHr Z EL s.vm h0 t.vm t.heap ∧ ReturnedEndW s o t L cs sl
abbrev CtrH (l : Launch) (Z : State) (EL : List (String × Nat)) (ss : List Addr) (y : MethodName) (bytes : ByteArray) (maxL : Nat) (ret : Option FieldType) (ws : List Jvm.Cond) (rm : Room) (as' : Array Value) (h0 : Heap) (n0 cs sl : Nat) (Q : Option Value → Heap → Prop) : Prop :=
  MetFree l y (head1 (Jvm.Cond.code y bytes maxL ret :: ws) rm) (fun a U => a = as' ∧ Z.Warmed39 U.vm ∧ U.heap = h0 ∧ CHv Z EL U.vm h0 ∧ ∀ x ∈ ss, x < h0.size ∧ Safe Z EL U.vm h0 x) (fun _ _ _ _ _ => True) (fun _ U o U' => ∃ v L, o = .returned v ∧ (Q v U'.heap ∧ Fr n0 L) ∧ CHr Z EL U.vm U.heap U'.vm U'.heap ∧ ReturnedEndW U o U' L cs sl)
theorem CtrH.of {y : MethodName} {bytes : ByteArray} {maxL : Nat} {ret : Option FieldType} {ws : List Jvm.Cond} {rm : Room} {as' : Array Value} {h0 : Heap} (hn : plainFor y = true)
    (body : ∀ (p : Program) (e : Env) (s : State) (m : MethodId) (below : List Frame) (meth : Method) (c : Code) (T : State), p.tables.exec = Jvm.exec → c.code = bytes → c.maxLocals = maxL → meth.sig.returnType = ret → meth.locks = false → meth.name = y.name → (s.setVm s.vm).vm.findClass y.cls = some m.cls → Z.Warmed39 (s.setVm s.vm).vm →
      St p l e rm (s.setVm s.vm) m as' below meth c n0 T h0 0 0 → s.Since s.vm h0.size → CHr Z EL s.vm h0 s.vm h0 → (∀ x ∈ ss, x < h0.size ∧ Safe Z EL s.vm h0 x) → Gl p e below n0 (Fh Z EL h0 s cs sl) Q (T.setTop (entryFrame m as' maxL))) : CtrH l Z EL ss y bytes maxL ret ws rm as' h0 n0 cs sl Q := by
  refine MetFree.of_bodySF hn hisR ?_
  intro p e s m args below meth c s₁ Bd hml0 hP hK
  obtain ⟨rfl, hZ, hh, hH, hss⟩ := hP
  subst hh
  exact body p e s m below meth c s₁ Bd.exec Bd.bytes hml0 Bd.returns Bd.notSynchronized (name_of_methodNamed Bd.named Bd.method).1 (findClass_of_methodNamed Bd.named) hZ ⟨[], Stand.of_body Bd, by rw [Bd.state]; rfl, Fr.nil n0⟩ (own_since s s.heap.size) (CHr.refl hH) hss
theorem own_backH {y : MethodName} {bytes : ByteArray} {maxL : Nat} {ret : Option FieldType} {rm : Room} {len W : Nat} {as' : Array Value} {Q : Option Value → Heap → List Loc → Prop}
    (hM : MetFree l y (head1 [Cond.code y bytes maxL ret] rm) (fun a U => a = as' ∧ Z.Warmed39 U.vm ∧ U.heap = h ∧ CHv Z EL U.vm h ∧ ∀ x ∈ ss, x < h.size ∧ Safe Z EL U.vm h x) (fun _ _ _ _ _ => True) (fun _ U o U' => ∃ v L, o = .returned v ∧ Q v U'.heap L ∧ CHr Z EL U.vm U.heap U'.vm U'.heap ∧ ReturnedEndW U o U' L rm.cells rm.slots))
    (hZ : Z.Warmed39 vm0) (wc : (Cond.code y bytes maxL ret).before a0 Z = true) (wz : (Cond.initialized y.cls).before a0 Z = true) (hf : rm.frames + 1 ≤ R.frames) (hl : W + (maxL + 11) + rm.locals ≤ R.locals) (hEL : EW Z a0 EL) (H : CHv Z EL vm0 h) (hss : ∀ x ∈ ss, x < h.size ∧ Safe Z EL vm0 h x) :
    BackS l R p e below (s.setVm vm0) args y len W (fun A a => a = as' ∧ A.U.heap = h ∧ A.cells + rm.cells ≤ R.cells ∧ A.slots + rm.slots ≤ R.slots)
      (fun A _ v B => ∃ L, Q v B.U.heap L ∧ B.locs = A.locs ++ L ∧ B.cells = A.cells + rm.cells ∧ B.slots = A.slots + rm.slots ∧ CHr Z EL vm0 h B.U.vm B.U.heap) :=
  BackS.of_freeW (bytes := bytes) (maxL := maxL) (ret := ret) (E := fun _ first o t L k n => k = rm.cells ∧ n = rm.slots ∧ (∃ v, o = .returned v ∧ Q v t.heap L) ∧ CHr Z EL first.vm first.heap t.vm t.heap) hM hf hl
    (fun m meth c A a Y hp => have hU : Z.Warmed39 A.U.vm := wtrans (s := s.setVm vm0) hZ Y.warmed
      ⟨by show (Cond.and _ .tt).before a A.U = true; rw [Cond.before_and, mv hU wc]; rfl, mv hU wc, mv hU wz, hp.2.2.1, hp.2.2.2⟩)
    (fun m meth c A a g mk Y hp => ⟨hp.1, wtrans (s := s.setVm vm0) hZ Y.warmed, hp.2.1, (CHv.at Y hZ hEL H).1, fun x hx => ⟨(hss x hx).1, (CHv.at Y hZ hEL H).safe (hss x hx).1 (hss x hx).2⟩⟩) (fun _ _ _ _ _ _ _ _ _ => trivial)
    (fun _ _ _ _ ⟨v, L, h1, h2, h3, h4⟩ => ⟨L, _, _, h4, rfl, rfl, ⟨v, h1, h2⟩, h3⟩)
    (fun m meth c A a g mk v t L k n Y hp _ _ ⟨e1, e2, ⟨v', e3, e4⟩, e5⟩ => by
      cases e3; subst e1 e2
      refine ⟨L, e4, rfl, rfl, rfl, (CHv.at Y hZ hEL H).trans ?_⟩
      rw [← hp.2.1]; exact e5)
theorem gh_callS (X : St p l e R (s.setVm vm0) m args below meth c n0 T h cells slots) (hx : p.tables.exec = Jvm.exec) (hby : c.code = bs) (hZ : Z.Warmed39 (s.setVm vm0).vm) (hS : s.Since vm0 k0) (hk : k0 ≤ h.size) (hEL : EW Z a0 EL) (hC : CHr Z EL vmS hh0 vm0 h) (hss : ∀ x ∈ ss, x < h.size ∧ Safe Z EL vm0 h x) {rm : Room} {y : MethodName} {bytes : ByteArray} {maxL : Nat} {ret : Option FieldType} {Qc : Option Value → Heap → Prop} {own : String} {idx : Nat} {argsL S0 : List Value} (hown : (s.setVm vm0).vm.findClass own = some m.cls) (w1 : (Cond.methodLink own idx y).before a0 Z = true) (w2 : (Cond.static y).before a0 Z = true) (w3 : (Cond.initialized y.cls).before a0 Z = true) (w4 : (Cond.code y bytes maxL ret).before a0 Z = true) (hy : y.cls ≠ "java/lang/invoke/MethodHandle" ∧ y.cls ≠ "java/lang/invoke/VarHandle") (hM : CtrH l Z EL ss y bytes maxL ret [] rm argsL.toArray h n0 rm.cells rm.slots Qc) (hsz : L.size = c.maxLocals) (hlen : ∀ sig, parseMethodDescriptor y.desc = some sig → argsL.length = sig.parameters.length) (hst : S0 = argsL.reverse ++ S) (hd : decode bs pc = .ok (.invokestatic idx, 3)) (hf : rm.frames + 1 ≤ R.frames) {W : Nat} (hW : 2 * 0 + (S.map fun v => v.category).sum ≤ W) (hlo : W + (maxL + 11) + rm.locals ≤ R.locals) (hc : cells + rm.cells ≤ R.cells) (hs : slots + rm.slots ≤ R.slots) (hp : pc + 3 = pc') (K : ∀ T' v k1, St p l e R (s.setVm T'.vm) m args below meth c n0 T' T'.heap (cells + rm.cells) (slots + rm.slots) → s.Since T'.vm k1 → k1 ≤ T'.heap.size → Z.Warmed39 (s.setVm T'.vm).vm → (s.setVm T'.vm).vm.findClass own = some m.cls → CHr Z EL vmS hh0 T'.vm T'.heap → CHr Z EL vm0 h T'.vm T'.heap → Qc v T'.heap → Gl p e below n0 Φ Q (T'.setTop (mkF m pc' L (v.toList ++ S)))) : Gl p e below n0 Φ Q (T.setTop (mkF m pc L S0)) := by
  obtain ⟨locs, Y, eT, N⟩ := X; subst hp
  obtain ⟨v, _, ⟨T', L1, k1, n1⟩, -, Y', hS2, hgr, ⟨Lc, hQ, l1, y1, z1, hC2⟩, st⟩ := callSS Y hx (y := y) hown (mvT hZ w1) (mvT hZ w2) (mvT hZ w3) (mvT hZ w4) hy (own_backH (W := W) (Q := fun v h L => Qc v h ∧ Fr n0 L) hM hZ w4 w3 hf hlo hEL hC.1 hss) (g := mkF m pc L S0) rfl hsz (argsL := argsL) (rest := S) hlen hst hW (hb hby hd) (fun _ _ => ⟨rfl, eT, hc, hs⟩)
  dsimp only [Pt.U, Pt.locs, Pt.cells, Pt.slots] at Y' hS2 hgr l1 y1 z1 st hQ hC2
  subst l1 y1 z1
  obtain ⟨Y2, hS3, hZ3, hown3⟩ := rebS hS (by rw [← eT] at hk; exact hk) Y' hS2 hgr hZ hown
  exact Gl.st (fun t k => st.trans k) (K T' v _ ⟨_, Y2, rfl, Fr.app N hQ.2⟩ hS3 (Nat.le_refl _) hZ3 hown3 (hC.trans hC2) hC2 hQ.1)
theorem gh_callC (X : St p l e R (s.setVm vm0) m args below meth c n0 T h cells slots) (hx : p.tables.exec = Jvm.exec) (hby : c.code = bs) (hZ : Z.Warmed39 (s.setVm vm0).vm) (hS : s.Since vm0 k0) (hk : k0 ≤ h.size) (hEL : EW Z a0 EL) (hC : CHr Z EL vmS hh0 vm0 h) (hss : ∀ x ∈ ss, x < h.size ∧ Safe Z EL vm0 h x) {rm : Room} {y : MethodName} {bytes : ByteArray} {maxL : Nat} {Qc : Option Value → Heap → Prop} {own : String} {idx : Nat} {a : Addr} {argsL S0 : List Value} (hy1 : y.name = "<init>") (hown : (s.setVm vm0).vm.findClass own = some m.cls) (w1 : (Cond.methodLink own idx y).before a0 Z = true) (w2 : (Cond.instanceMethod y).before a0 Z = true) (w3 : (Cond.initialized y.cls).before a0 Z = true) (w4 : (Cond.code y bytes maxL none).before a0 Z = true) (hy : y.cls ≠ "java/lang/invoke/MethodHandle" ∧ y.cls ≠ "java/lang/invoke/VarHandle") (hM : CtrH l Z EL ss y bytes maxL none [] rm (.ref a :: argsL).toArray h n0 rm.cells rm.slots Qc) (hsz : L.size = c.maxLocals) (hlen : ∀ sig, parseMethodDescriptor y.desc = some sig → argsL.length = sig.parameters.length) (hst : S0 = argsL.reverse ++ .ref a :: S) (hd : decode bs pc = .ok (.invokespecial idx, 3)) (hf : rm.frames + 1 ≤ R.frames) {W : Nat} (hW : 2 * 0 + (S.map fun v => v.category).sum ≤ W) (hlo : W + (maxL + 11) + rm.locals ≤ R.locals) (hc : cells + rm.cells ≤ R.cells) (hs : slots + rm.slots ≤ R.slots) (hp : pc + 3 = pc') (K : ∀ T' v k1, St p l e R (s.setVm T'.vm) m args below meth c n0 T' T'.heap (cells + rm.cells) (slots + rm.slots) → s.Since T'.vm k1 → k1 ≤ T'.heap.size → Z.Warmed39 (s.setVm T'.vm).vm → (s.setVm T'.vm).vm.findClass own = some m.cls → CHr Z EL vmS hh0 T'.vm T'.heap → CHr Z EL vm0 h T'.vm T'.heap → Qc v T'.heap → Gl p e below n0 Φ Q (T'.setTop (mkF m pc' L (v.toList ++ S)))) : Gl p e below n0 Φ Q (T.setTop (mkF m pc L S0)) := by
  obtain ⟨locs, Y, eT, N⟩ := X; subst hp
  obtain ⟨v, _, ⟨T', L1, k1, n1⟩, -, Y', hS2, hgr, ⟨Lc, hQ, l1, y1, z1, hC2⟩, st⟩ := Y.specialBackS hx (y := y) hy1 hown (mvT hZ w1) (mvT hZ w2) (mvT hZ w4) hy (own_backH (W := W) (Q := fun v h L => Qc v h ∧ Fr n0 L) hM hZ w4 w3 hf hlo hEL hC.1 hss) (g := mkF m pc L S0) rfl hsz (Steps.refl _) (a := a) (argsL := argsL) (rest := S) hlen hst hW (hb hby hd) (fun _ _ => ⟨rfl, eT, hc, hs⟩)
  dsimp only [Pt.U, Pt.locs, Pt.cells, Pt.slots] at Y' hS2 hgr l1 y1 z1 st hQ hC2
  subst l1 y1 z1
  obtain ⟨Y2, hS3, hZ3, hown3⟩ := rebS hS (by rw [← eT] at hk; exact hk) Y' hS2 hgr hZ hown
  exact Gl.st (fun t k => st.trans k) (K T' v _ ⟨_, Y2, rfl, Fr.app N hQ.2⟩ hS3 (Nat.le_refl _) hZ3 hown3 (hC.trans hC2) hC2 hQ.1)
theorem gh_callV (X : St p l e R (s.setVm vm0) m args below meth c n0 T h cells slots) (hx : p.tables.exec = Jvm.exec) (hby : c.code = bs) (hZ : Z.Warmed39 (s.setVm vm0).vm) (hS : s.Since vm0 k0) (hk : k0 ≤ h.size) (hEL : EW Z a0 EL) (hC : CHr Z EL vmS hh0 vm0 h) (hss : ∀ x ∈ ss, x < h.size ∧ Safe Z EL vm0 h x) {rm : Room} {y : MethodName} {bytes : ByteArray} {maxL : Nat} {ret : Option FieldType} {Qc : Option Value → Heap → Prop} {own C : String} {idx : Nat} {a : Addr} {y' : MethodName} {argsL S0 : List Value} (hown : (s.setVm vm0).vm.findClass own = some m.cls) (w1 : (Cond.methodLink own idx y').before a0 Z = true) (w2 : (Cond.declares y').before a0 Z = true) (w5 : NotFace (s.setVm vm0) y') (w6 : (Cond.selects C y' y).before a0 Z = true) (w7 : (Cond.instanceMethod y).before a0 Z = true) (w3 : (Cond.initialized y.cls).before a0 Z = true) (w4 : (Cond.code y bytes maxL ret).before a0 Z = true) (hy : y'.cls ≠ "java/lang/invoke/MethodHandle" ∧ y'.cls ≠ "java/lang/invoke/VarHandle") (E : Exa Z h a C) (hM : CtrH l Z EL ss y bytes maxL ret [] rm (.ref a :: argsL).toArray h n0 rm.cells rm.slots Qc) (hsz : L.size = c.maxLocals) (hlen : ∀ sig, parseMethodDescriptor y'.desc = some sig → argsL.length = sig.parameters.length) (hst : S0 = argsL.reverse ++ .ref a :: S) (hd : decode bs pc = .ok (.invokevirtual idx, 3)) (hf : rm.frames + 1 ≤ R.frames) {W : Nat} (hW : 2 * 0 + (S.map fun v => v.category).sum ≤ W) (hlo : W + (maxL + 11) + rm.locals ≤ R.locals) (hc : cells + rm.cells ≤ R.cells) (hs : slots + rm.slots ≤ R.slots) (hp : pc + 3 = pc') (K : ∀ T' v k1, St p l e R (s.setVm T'.vm) m args below meth c n0 T' T'.heap (cells + rm.cells) (slots + rm.slots) → s.Since T'.vm k1 → k1 ≤ T'.heap.size → Z.Warmed39 (s.setVm T'.vm).vm → (s.setVm T'.vm).vm.findClass own = some m.cls → CHr Z EL vmS hh0 T'.vm T'.heap → CHr Z EL vm0 h T'.vm T'.heap → Qc v T'.heap → Gl p e below n0 Φ Q (T'.setTop (mkF m pc' L (v.toList ++ S)))) : Gl p e below n0 Φ Q (T.setTop (mkF m pc L S0)) := by
  obtain ⟨locs, Y, eT, N⟩ := X; subst hp
  obtain ⟨cB, kB, qa, qb, qc⟩ := isOf hZ eT E
  obtain ⟨v, _, ⟨T', L1, k1, n1⟩, -, Y', hS2, hgr, ⟨Lc, hQ, l1, y1, z1, hC2⟩, st⟩ := Y.virtualBackS hx (y := y') (z := y) hown (mvT hZ w1) (mvT hZ w2) w5 (mvT hZ w6) (mvT hZ w7) hy (own_backH (W := W) (Q := fun v h L => Qc v h ∧ Fr n0 L) hM hZ w4 w3 hf hlo hEL hC.1 hss) qa qc (g := mkF m pc L S0) rfl hsz (Steps.refl _) (argsL := argsL) (rest := S) hlen hst hW (hb hby hd) (fun _ _ => ⟨rfl, eT, hc, hs⟩)
  dsimp only [Pt.U, Pt.locs, Pt.cells, Pt.slots] at Y' hS2 hgr l1 y1 z1 st hQ hC2
  subst l1 y1 z1
  obtain ⟨Y2, hS3, hZ3, hown3⟩ := rebS hS (by rw [← eT] at hk; exact hk) Y' hS2 hgr hZ hown
  exact Gl.st (fun t k => st.trans k) (K T' v _ ⟨_, Y2, rfl, Fr.app N hQ.2⟩ hS3 (Nat.le_refl _) hZ3 hown3 (hC.trans hC2) hC2 hQ.1)
theorem gh_ldc (X : St p l e R (s.setVm vm0) m args below meth c n0 T h cells slots) (hx : p.tables.exec = Jvm.exec) (hby : c.code = bs) (hZ : Z.Warmed39 (s.setVm vm0).vm) (hS : s.Since vm0 k0) (hk : k0 ≤ h.size) (hEL : EW Z a0 EL) (hC : CHr Z EL vmS hh0 vm0 h) {own text : String} {index n : Nat} (hown : (s.setVm vm0).vm.findClass own = some m.cls) (w : (Cond.stringLink own index text).before a0 Z = true) (wS : ∀ a ∈ Bundle.stringAtoms, a.before a0 Z = true) (hmem : (own, index) ∈ EL) {vs : List Value} {kn : Nat} {f : Nat → Int32} (ht : (∀ c ∈ text.toList, c.toNat < 256) ∧ text.toList.map (fun c => Value.int (Jvm.Lit.byteI c.toNat.toUInt16)) = vs) (hl1 : vs.length = kn) (hl2 : kn < 2147483648) (hf : ∀ i, i < kn → vs.getD i (.int 0) = .int (f i)) (hd : decode bs pc = .ok (.ldc index, 2)) (hn : 4 * text.toList.length ≤ n) (hbig : n ≤ 536870912) (hc : cells + 2 ≤ R.cells) (hl : slots + (n + 4) ≤ R.slots) (hp : pc + 2 = pc') (K : ∀ (a b : Addr) T' h' k1, St p l e R (s.setVm T'.vm) m args below meth c n0 T' h' (cells + 2) (slots + (n + 4)) → s.Since T'.vm k1 → k1 ≤ h'.size → Z.Warmed39 (s.setVm T'.vm).vm → (s.setVm T'.vm).vm.findClass own = some m.cls → CHr Z EL vmS hh0 T'.vm h' → CHr Z EL vm0 h T'.vm h' → Ext h h' → Exa Z h' a "java/lang/String" → Fld Z h' a "java/lang/String" "coder" "B" (.int 0) → Fld Z h' a "java/lang/String" "value" "[B" (.ref b) → Ary Z h' b .byte kn (fun i => .int (f i)) → Lit (s.setVm T'.vm) own index a → (∀ x, Safe Z EL T'.vm h' x → x ≠ a ∧ x ≠ b) → Gl p e below n0 Φ Q (T'.setTop (mkF m pc' L (.ref a :: S)))) : Gl p e below n0 Φ Q (T.setTop (mkF m pc L S)) := by
  obtain ⟨locs, Y, eT, N⟩ := X; subst hp
  have ek : (Int32.ofNat kn).toInt = (kn : Int) := Int32.toInt_ofNat_of_lt (by omega)
  have ez : (0 : Int32).toInt = 0 := rfl
  have ec : (Int32.ofNat kn).toNatClampNeg = kn := by simp only [Int32.toNatClampNeg]; omega
  obtain ⟨a, T', h', k1, b, kc, Y', e', E, S1, hk1, hZ1, hown1, x1, x2, x3, ⟨cl, Ar, -, sz, -, H, -⟩, -, -, hC2, hL, hne, st⟩ := ldcCH Y hx hZ hown w wS eT hS hk hEL hmem hC.1 ht (z := Int32.ofNat kn) (by rw [Int32.lt_iff_toInt_lt]; omega) (by rw [ec]; exact hl1.symm) (g := mkF m pc L S) rfl (hb hby hd) hn hbig hc hl
  exact Gl.st st (K a b T' h' k1 ⟨locs, Y', e', N⟩ S1 hk1 hZ1 hown1 (hC.trans hC2) hC2 E x1 x2 x3 ⟨cl, Ar, by rw [sz, ec], fun i hi => by rw [H i (by rw [sz, ec]; exact hi), hf i hi]⟩ hL hne)
theorem gh_again (X : St p l e R (s.setVm vm0) m args below meth c n0 T h cells slots) (hx : p.tables.exec = Jvm.exec) (hby : c.code = bs) (hZ : Z.Warmed39 (s.setVm vm0).vm) {own text : String} {index : Nat} (hown : (s.setVm vm0).vm.findClass own = some m.cls) (w : (Cond.stringLink own index text).before a0 Z = true) {a : Addr} (hL : Lit (s.setVm vm0) own index a) (hd : decode bs pc = .ok (.ldc index, 2)) (hp : pc + 2 = pc') (K : Gl p e below n0 Φ Q (T.setTop (mkF m pc' L (.ref a :: S)))) : Gl p e below n0 Φ Q (T.setTop (mkF m pc L S)) := by
  obtain ⟨locs, Y, eT, N⟩ := X; subst hp
  exact Gl.st (ldcAgain Y hx hZ hown w hL (g := mkF m pc L S) rfl (hb hby hd)) K
theorem gh_ret (X : St p l e R (s.setVm vm0) m args below meth c n0 T h cells slots) (hx : p.tables.exec = Jvm.exec) (hby : c.code = bs) (hZ : Z.Warmed39 (s.setVm vm0).vm) (hS : s.Since vm0 k0) (hk : k0 ≤ h.size) (hEL : EW Z a0 EL) (hC : CHr Z EL s.vm hh0 vm0 h) (hret : meth.sig.returnType = none) (hlk : meth.locks = false) (hd : decode bs pc = .ok (.return_, 1)) (hq : Q none h) (hc : cells ≤ cs) (hs : slots ≤ sl) : Gl p e below n0 (Fh Z EL hh0 s cs sl) Q (T.setTop (mkF m pc L [])) := by
  obtain ⟨locs, Y, eT, N⟩ := X
  have hA := hC.trans (CHv.at Y hZ hEL hC.1)
  obtain ⟨fs, hr, hrun, hended, r1, r2, r3, r4⟩ := Y.leaveW hS (by rw [eT]; exact hk) (v := none) (fun _ => rfl) hlk
  exact ⟨_, _, Y.returnOut hx hret (hb hby hd) hr, hrun, hended, _, locs, rfl, ⟨(show Q _ T.heap by rw [eT]; exact hq), N⟩, (show CHr Z EL s.vm hh0 T.vm T.heap by rw [eT]; exact hA), r1, r2, r3, r4.mono hc hs⟩
theorem gh_retA (X : St p l e R (s.setVm vm0) m args below meth c n0 T h cells slots) (hx : p.tables.exec = Jvm.exec) (hby : c.code = bs) (hZ : Z.Warmed39 (s.setVm vm0).vm) (hS : s.Since vm0 k0) (hk : k0 ≤ h.size) (hEL : EW Z a0 EL) (hC : CHr Z EL s.vm hh0 vm0 h) {t : FieldType} {w : Value} (hret : meth.sig.returnType = some t) (hlk : meth.locks = false) (ht : t.isReference = true) (hw : w.isRef = true) (hd : decode bs pc = .ok (.areturn, 1)) (hq : Q (some w) h) (hc : cells ≤ cs) (hs : slots ≤ sl) : Gl p e below n0 (Fh Z EL hh0 s cs sl) Q (T.setTop (mkF m pc L (w :: S))) := by
  obtain ⟨locs, Y, eT, N⟩ := X
  have hA := hC.trans (CHv.at Y hZ hEL hC.1)
  have hn : narrow t w = w := by rcases ref_cases hw with rfl | ⟨a, rfl⟩ <;> cases t <;> first | rfl | (cases ht; done)
  obtain ⟨fs, hr, hrun, hended, r1, r2, r3, r4⟩ := Y.leaveW hS (by rw [eT]; exact hk) (v := some w) (fun q => by rw [hret] at q; cases q) hlk
  exact ⟨_, _, retOut Y hx hret hn (Or.inr (Or.inr (Or.inr (Or.inr ⟨rfl, ht, hw⟩)))) (hb hby hd) hr, hrun, hended, _, locs, rfl, ⟨(show Q _ T.heap by rw [eT]; exact hq), N⟩, (show CHr Z EL s.vm hh0 T.vm T.heap by rw [eT]; exact hA), r1, r2, r3, r4.mono hc hs⟩
theorem own_nss : ∀ x ∈ ([] : List Addr), x < h.size ∧ Safe Z EL vm0 h x := fun x q => nomatch q
theorem own_nsf : ∀ x ∈ ([] : List Addr), Safe Z EL vm0 h x := fun x q => nomatch q
theorem own_ss1 {P : Addr → Prop} {y : Addr} (q : P y) : ∀ x ∈ [y], P x := fun x hx => by cases List.mem_singleton.mp hx; exact q
end OwnHeld
def own_lo (c : Int32) : Int32 := nar .byte ((c >>> ((0 : Int32) &&& 31)).toInt8.toInt32)
def own_hi (c : Int32) : Int32 := nar .byte ((c >>> ((8 : Int32) &&& 31)).toInt8.toInt32)
def own_ub (f : Nat → Int32) : Nat → Int32
  | 0 => own_lo (f 0)
  | 1 => own_hi (f 0)
  | 2 => own_lo (f 1)
  | _ => own_hi (f 1)
def own_cf2 (c0 c1 : Int32) : Nat → Int32
  | 0 => c0
  | _ => c1
theorem own_cf2r {c0 c1 : Int32} (h0 : 0 ≤ c0.toInt ∧ c0.toInt ≤ 65535) (h1 : 0 ≤ c1.toInt ∧ c1.toInt ≤ 65535) (i : Nat) : 0 ≤ (own_cf2 c0 c1 i).toInt ∧ (own_cf2 c0 c1 i).toInt ≤ 65535 := by
  match i with
  | 0 => exact h0
  | (k + 1) => exact h1
theorem own_get {c : Int32} (h : 0 ≤ c.toInt ∧ c.toInt ≤ 65535) : nar .char ((((own_lo c &&& (255 : Int32)) <<< ((0 : Int32) &&& 31)) ||| ((own_hi c &&& (255 : Int32)) <<< ((8 : Int32) &&& 31))).toUInt32.toUInt16.toUInt32.toInt32) = c := by
  have a1 : own_lo c = (c >>> ((0 : Int32) &&& 31)).toInt8.toInt32 := own_b8 _
  have a2 : own_hi c = (c >>> ((8 : Int32) &&& 31)).toInt8.toInt32 := own_b8 _
  have b1 := c_ishr c 0 0 rfl; have b2 := c_ishr c 8 8 rfl
  have p0 : ((2 ^ 0 : Nat) : Int) = 1 := rfl
  have p8 : ((2 ^ 8 : Nat) : Int) = 256 := rfl
  have d1 := c_i2b (c >>> ((0 : Int32) &&& 31)); have d2 := c_i2b (c >>> ((8 : Int32) &&& 31))
  rw [← a1] at d1; rw [← a2] at d2
  have m1 := c_mask (own_lo c) 255 8 (by decide) (by decide); have m2 := c_mask (own_hi c) 255 8 (by decide) (by decide)
  rw [p8] at m1 m2; rw [p0] at b1; rw [p8] at b2
  have s1 := c_ishl (own_lo c &&& 255) 0 0 rfl; have s2 := c_ishl (own_hi c &&& 255) 8 8 rfl
  rw [p0] at s1; rw [p8] at s2
  have r1 := rng32 ((own_lo c &&& (255 : Int32)) <<< ((0 : Int32) &&& 31)); have r2 := rng32 ((own_hi c &&& (255 : Int32)) <<< ((8 : Int32) &&& 31))
  have e1 : ((own_lo c &&& (255 : Int32)) <<< ((0 : Int32) &&& 31)).toInt = c.toInt % 256 := by omega
  have e2 : ((own_hi c &&& (255 : Int32)) <<< ((8 : Int32) &&& 31)).toInt = c.toInt / 256 * 256 := by omega
  have o := c_or' ((own_lo c &&& (255 : Int32)) <<< ((0 : Int32) &&& 31)) ((own_hi c &&& (255 : Int32)) <<< ((8 : Int32) &&& 31)) 8 (by decide) 256 p8.symm (by omega) (by omega) (by omega)
  have r3 := rng32 (((own_lo c &&& (255 : Int32)) <<< ((0 : Int32) &&& 31)) ||| ((own_hi c &&& (255 : Int32)) <<< ((8 : Int32) &&& 31)))
  have e3 : (((own_lo c &&& (255 : Int32)) <<< ((0 : Int32) &&& 31)) ||| ((own_hi c &&& (255 : Int32)) <<< ((8 : Int32) &&& 31))).toInt = c.toInt := by omega
  have e4 : ((own_lo c &&& (255 : Int32)) <<< ((0 : Int32) &&& 31)) ||| ((own_hi c &&& (255 : Int32)) <<< ((8 : Int32) &&& 31)) = c := Int32.toInt_inj.mp e3
  rw [e4, own_i2c h]; exact own_narC h
def own_sg (x : Int32) : Int32 := if x < 0 then -1 else if 0 < x then 1 else 0
def own_rk (c : Int32) : Int32 := if c < 55296 then 0 else if c < 57344 then 2 else 1
def own_pl (c : Int32) : Int32 := if c < 57344 then (if c < 55296 then c else c + 8192) else c - 2048
def own_uo (a b : Int32) : Int32 := if own_rk a = own_rk b then own_sg (a - b) else own_sg (own_rk a - own_rk b)
theorem own_sgv (x : Int32) : (own_sg x = -1 ∧ x.toInt < 0) ∨ (own_sg x = 1 ∧ 0 < x.toInt) ∨ (own_sg x = 0 ∧ x.toInt = 0) := by
  have z : (0 : Int32).toInt = 0 := rfl
  unfold own_sg
  by_cases h : x < 0
  · exact Or.inl ⟨if_pos h, by have := Int32.lt_iff_toInt_lt.mp h; omega⟩
  · have h' : ¬ x.toInt < 0 := fun q => h (Int32.lt_iff_toInt_lt.mpr (by omega))
    by_cases k : 0 < x
    · exact Or.inr (Or.inl ⟨by rw [if_neg h, if_pos k], by have := Int32.lt_iff_toInt_lt.mp k; omega⟩)
    · have k' : ¬ 0 < x.toInt := fun q => k (Int32.lt_iff_toInt_lt.mpr (by omega))
      exact Or.inr (Or.inr ⟨by rw [if_neg h, if_neg k], by omega⟩)
theorem own_sg_eq {x y : Int32} (h1 : x.toInt < 0 ↔ y.toInt < 0) (h2 : 0 < x.toInt ↔ 0 < y.toInt) : own_sg x = own_sg y := by
  rcases own_sgv x with ⟨e, q⟩ | ⟨e, q⟩ | ⟨e, q⟩ <;> rcases own_sgv y with ⟨e', q'⟩ | ⟨e', q'⟩ | ⟨e', q'⟩ <;> rw [e, e'] <;> exfalso <;> omega
theorem own_sg_neg {x y : Int32} (h1 : x.toInt < 0 ↔ 0 < y.toInt) (h2 : 0 < x.toInt ↔ y.toInt < 0) : own_sg x = -own_sg y := by
  rcases own_sgv x with ⟨e, q⟩ | ⟨e, q⟩ | ⟨e, q⟩ <;> rcases own_sgv y with ⟨e', q'⟩ | ⟨e', q'⟩ | ⟨e', q'⟩ <;> rw [e, e'] <;> first | rfl | (exfalso; omega)
theorem own_plv {c : Int32} (h : 0 ≤ c.toInt ∧ c.toInt ≤ 65535) : (c.toInt < 55296 ∧ own_rk c = 0 ∧ (own_pl c).toInt = c.toInt) ∨ (55296 ≤ c.toInt ∧ c.toInt < 57344 ∧ own_rk c = 2 ∧ (own_pl c).toInt = c.toInt + 8192) ∨ (57344 ≤ c.toInt ∧ own_rk c = 1 ∧ (own_pl c).toInt = c.toInt - 2048) := by
  have e1 : (55296 : Int32).toInt = 55296 := rfl
  have e2 : (57344 : Int32).toInt = 57344 := rfl
  have e3 : (8192 : Int32).toInt = 8192 := rfl
  have e4 : (2048 : Int32).toInt = 2048 := rfl
  have f1 := c_iadd c 8192; have f2 := rng32 (c + 8192); have f3 := c_isub c 2048; have f4 := rng32 (c - 2048)
  unfold own_rk own_pl
  by_cases h1 : c < 55296
  · have q := Int32.lt_iff_toInt_lt.mp h1
    have h2 : c < 57344 := Int32.lt_iff_toInt_lt.mpr (by omega)
    refine Or.inl ⟨by omega, if_pos h1, by rw [if_pos h2, if_pos h1]⟩
  · have q : ¬ c.toInt < 55296 := fun z => h1 (Int32.lt_iff_toInt_lt.mpr (by omega))
    by_cases h2 : c < 57344
    · have q2 := Int32.lt_iff_toInt_lt.mp h2
      exact Or.inr (Or.inl ⟨by omega, by omega, by rw [if_neg h1, if_pos h2], by rw [if_pos h2, if_neg h1]; omega⟩)
    · have q2 : ¬ c.toInt < 57344 := fun z => h2 (Int32.lt_iff_toInt_lt.mpr (by omega))
      exact Or.inr (Or.inr ⟨by omega, by rw [if_neg h1, if_neg h2], by rw [if_neg h2]; omega⟩)
theorem own_main1 {a b : Int32} (ha : 0 ≤ a.toInt ∧ a.toInt ≤ 65535) (hb : 0 ≤ b.toInt ∧ b.toInt ≤ 65535) : own_sg (own_pl a - own_pl b) = own_uo a b := by
  have f1 := c_isub (own_pl a) (own_pl b); have f2 := rng32 (own_pl a - own_pl b); have f3 := c_isub a b; have f4 := rng32 (a - b)
  unfold own_uo
  rcases own_plv ha with ⟨p1, p2, p3⟩ | ⟨p1, p4, p2, p3⟩ | ⟨p1, p2, p3⟩ <;> rcases own_plv hb with ⟨q1, q2, q3⟩ | ⟨q1, q4, q2, q3⟩ | ⟨q1, q2, q3⟩ <;> rw [p2, q2] <;> first
    | (rw [if_pos rfl]; exact own_sg_eq (by omega) (by omega))
    | (rw [if_neg (by decide)]; exact own_sg_eq (by have z : ((0 : Int32) - 2).toInt = -2 := rfl; have z1 : ((0 : Int32) - 1).toInt = -1 := rfl; have z2 : ((2 : Int32) - 0).toInt = 2 := rfl; have z3 : ((2 : Int32) - 1).toInt = 1 := rfl; have z4 : ((1 : Int32) - 0).toInt = 1 := rfl; have z5 : ((1 : Int32) - 2).toInt = -1 := rfl; omega) (by have z : ((0 : Int32) - 2).toInt = -2 := rfl; have z1 : ((0 : Int32) - 1).toInt = -1 := rfl; have z2 : ((2 : Int32) - 0).toInt = 2 := rfl; have z3 : ((2 : Int32) - 1).toInt = 1 := rfl; have z4 : ((1 : Int32) - 0).toInt = 1 := rfl; have z5 : ((1 : Int32) - 2).toInt = -1 := rfl; omega))
theorem own_main2 {a b : Int32} (ha : 0 ≤ a.toInt ∧ a.toInt ≤ 65535) (hb : 0 ≤ b.toInt ∧ b.toInt ≤ 65535) : own_sg (own_pl b - own_pl a) = -own_uo a b := by
  rw [← own_main1 ha hb]
  have f1 := c_isub (own_pl a) (own_pl b); have f2 := rng32 (own_pl a - own_pl b); have f3 := c_isub (own_pl b) (own_pl a); have f4 := rng32 (own_pl b - own_pl a)
  have g1 : 0 ≤ (own_pl a).toInt ∧ (own_pl a).toInt ≤ 100000 := by rcases own_plv ha with ⟨p1, p2, p3⟩ | ⟨p1, p4, p2, p3⟩ | ⟨p1, p2, p3⟩ <;> omega
  have g2 : 0 ≤ (own_pl b).toInt ∧ (own_pl b).toInt ≤ 100000 := by rcases own_plv hb with ⟨p1, p2, p3⟩ | ⟨p1, p4, p2, p3⟩ | ⟨p1, p2, p3⟩ <;> omega
  exact own_sg_neg (by omega) (by omega)
def own_cv0 (f g : Nat → Int32) (d : Int32) : Int32 := d
def own_cv1 (f g : Nat → Int32) (d : Int32) : Int32 := if f 0 = g 0 then d else own_pl (f 0) - own_pl (g 0)
def own_cv2 (f g : Nat → Int32) (d : Int32) : Int32 := if f 0 = g 0 then (if f 1 = g 1 then d else own_pl (f 1) - own_pl (g 1)) else own_pl (f 0) - own_pl (g 0)
theorem own_three (x : Int32) : (x &&& (15 : Int32)) % (3 : Int32) = 0 ∨ (x &&& (15 : Int32)) % (3 : Int32) = 1 ∨ (x &&& (15 : Int32)) % (3 : Int32) = 2 := by
  have h2 := c_mask x 15 4 (by decide) (by decide +kernel)
  have h3 : ((2 ^ 4 : Nat) : Int) = 16 := rfl
  have h4 := (c_irem (x &&& 15) 3 3 rfl).1 (by omega)
  have e0 : (0 : Int32).toInt = 0 := rfl; have e1 : (1 : Int32).toInt = 1 := rfl; have e2 : (2 : Int32).toInt = 2 := rfl
  simp only [← Int32.toInt_inj, e0, e1, e2]
  omega
theorem own_i2cr (x : Int32) : 0 ≤ (nar .char x.toUInt32.toUInt16.toUInt32.toInt32).toInt ∧ (nar .char x.toUInt32.toUInt16.toUInt32.toInt32).toInt ≤ 65535 := by
  have q := c_i2c x
  rw [own_narC ⟨q.2.1, by omega⟩]; exact ⟨q.2.1, by omega⟩
theorem own_not255 {c : Int32} (h : 0 ≤ c.toInt ∧ c.toInt ≤ 65535) (q : ¬ (255 : Int32) < c) : 0 ≤ c.toInt ∧ c.toInt ≤ 255 := ⟨h.1, Int.not_lt.mp fun z => q (Int32.lt_iff_toInt_lt.mpr z)⟩
def Utf (Z : State) (h : Heap) (b : Addr) (n : Nat) (f : Nat → Int32) : Prop := ∃ a' : Addr, Exa Z h b "java/lang/String" ∧ Fld Z h b "java/lang/String" "value" "[B" (.ref a') ∧ Fld Z h b "java/lang/String" "coder" "B" (.int 1) ∧ Ary Z h a' .byte n (fun i => .int (own_ub f i))
/-- a String of n signs f, in either form; n2 = 2 * n -/
def Sg (Z : State) (h : Heap) (b : Addr) (n n2 : Nat) (f : Nat → Int32) : Prop := (Lat Z h b n (fun i => own_y (f i)) ∧ ∀ i, i < n → ¬ (255 : Int32) < f i) ∨ Utf Z h b n2 f
theorem Sg.exa {Z : State} {h : Heap} {b : Addr} {n n2 : Nat} {f : Nat → Int32} (F : Sg Z h b n n2 f) : Exa Z h b "java/lang/String" := by
  rcases F with ⟨⟨_, E, -⟩, -⟩ | ⟨_, E, -⟩ <;> exact E
theorem Sg.keep0 {Z : State} {h h' : Heap} {b : Addr} {n n2 : Nat} {f : Nat → Int32} (F : Sg Z h b n n2 f) (K : Keep h h' []) : Sg Z h' b n n2 f := by
  rcases F with ⟨⟨a, f1, f2, f3, f4⟩, r⟩ | ⟨a, f1, f2, f3, f4⟩
  · exact Or.inl ⟨⟨a, f1.keep K, f2.keep K nin0, f3.keep K nin0, f4.keep K nin0⟩, r⟩
  · exact Or.inr ⟨a, f1.keep K, f2.keep K nin0, f3.keep K nin0, f4.keep K nin0⟩
theorem Lat.sg0 {Z : State} {h : Heap} {b : Addr} {g f : Nat → Int32} (F : Lat Z h b 0 g) : Sg Z h b 0 0 f := by
  obtain ⟨a, f1, f2, f3, f4⟩ := F
  exact Or.inl ⟨⟨a, f1, f2, f3, f4.congr fun i hi => absurd hi (Nat.not_lt_zero _)⟩, fun i hi => absurd hi (Nat.not_lt_zero _)⟩
abbrev own_EL : List (String × Nat) := [("java/lang/String", 7)]
theorem own_hEL {Z : State} {a0 : Array Value} (hw : ∀ d ∈ tables_1, d.before a0 Z = true) : EW Z a0 own_EL := EW.cons (hw _ (List.mem_of_getElem? (i := 22) rfl)) (by decide) (EW.nil)
theorem own_wS {Z : State} {a0 : Array Value} (hw : ∀ d ∈ tables_1, d.before a0 Z = true) : ∀ a ∈ Bundle.stringAtoms, a.before a0 Z = true := by
  intro a ha; simp only [Bundle.stringAtoms, List.mem_cons, List.not_mem_nil, or_false] at ha
  rcases ha with rfl | rfl | rfl | rfl | rfl | rfl | rfl
  · exact (hw _ (List.mem_of_getElem? (i := 10) rfl))
  · exact (hw _ (List.mem_of_getElem? (i := 9) rfl))
  · exact (hw _ (List.mem_of_getElem? (i := 23) rfl))
  · exact (hw _ (List.mem_of_getElem? (i := 24) rfl))
  · exact (hw _ (List.mem_of_getElem? (i := 25) rfl))
  · exact (hw _ (List.mem_of_getElem? (i := 26) rfl))
  · exact (hw _ (List.mem_of_getElem? (i := 27) rfl))
set_option maxRecDepth 65536 in
set_option maxHeartbeats 40000000 in
theorem own_ef1 (m : MethodId) (y0 : Addr)  : entryFrame m #[(.ref y0)] 1 = mkF m 0 #[.val (.ref y0)] [] := by first | (simp [entryFrame, mkF, argsToLocals, Value.category, maxLocals]; done) | rfl
theorem own_pn0 : plainName "java/lang/String" = true := by first | (simp [plainName, overriddenIn]; done) | decide +kernel
theorem own_d0_0 : decode jdk_42_method_152_code 0 = .ok (.getstatic 38, 3) := by decide +kernel
theorem own_d0_3 : decode jdk_42_method_152_code 3 = .ok (.ifCond .eq 10, 3) := by decide +kernel
theorem own_d0_6 : decode jdk_42_method_152_code 6 = .ok (.aload_n 0, 1) := by decide +kernel
theorem own_d0_7 : decode jdk_42_method_152_code 7 = .ok (.getfield 15, 3) := by decide +kernel
theorem own_d0_10 : decode jdk_42_method_152_code 10 = .ok (.goto 4, 3) := by decide +kernel
theorem own_d0_14 : decode jdk_42_method_152_code 14 = .ok (.ireturn, 1) := by decide +kernel
set_option maxRecDepth 65536 in
set_option maxHeartbeats 40000000 in
theorem own_co (l : Launch) (Z : State) (a0 : Array Value) (hw : ∀ d ∈ tables_1, d.before a0 Z = true) (y0 : Addr) (h0 : Heap) (n0 : Nat) (n : Nat) (N : Int32) (f : Nat → Int32) (hN : N.toInt = (n : Int)) (P0 : Lat Z h0 y0 n f) (cs : Int32) (Sc : Sta Z h0 "java/lang/String" "COMPACT_STRINGS" "Z" (.int cs)) (hcs : ¬ cs = 0) :
    Ctr l Z (⟨"java/lang/String", "coder", "()B"⟩ : MethodName) jdk_42_method_152_code 1 (some .byte) [] (own_room 0 0 0 0) #[(.ref y0)] h0 n0 0 0 (fun v h => v = some (.int 0) ∧ h = h0) := by
  refine Ctr.of (plainFor_of_name own_pn0) ?_
  intro p e s m below meth c T0 hx hby hml hret hlk hnm hown hZ X0
  rw [own_ef1 m (y0)]
  obtain ⟨v0, LE0, LV0, LC0, LA0⟩ := P0
  refine g_getS X0 hx hby hZ hown (hw _ (List.mem_of_getElem? (i := 51) rfl)) Via.refl Sc own_d0_0 (pc' := 3) rfl (fun T2 X2 => ?_)
  refine g_if_eq X2 hx hby own_d0_3 (by decide) (pc' := 13) (by decide) (pc2 := 6) rfl (fun q => absurd q hcs) (fun c3_3 => ?_)
  refine g_aloadN X2 hx hby own_d0_6 rfl rfl (pc' := 7) rfl ?_
  refine g_getF X2 hx hby hZ hown (hw _ (List.mem_of_getElem? (i := 29) rfl)) Via.refl LC0 own_d0_7 (pc' := 10) rfl (fun T4 X4 => ?_)
  refine g_goto X4 hx hby own_d0_10 (by decide) (pc' := 14) (by decide) ?_
  exact g_retN X4 hx hby hret hlk (by simp) own_d0_14 ⟨rfl, rfl⟩ (by decide) (by decide)
set_option maxRecDepth 65536 in
set_option maxHeartbeats 40000000 in
theorem own_ef5 (m : MethodId) (y0 : Addr)  : entryFrame m #[(.ref y0)] 1 = mkF m 0 #[.val (.ref y0)] [] := by first | (simp [entryFrame, mkF, argsToLocals, Value.category, maxLocals]; done) | rfl
theorem own_d1_0 : decode jdk_42_method_154_code 0 = .ok (.getstatic 38, 3) := by decide +kernel
theorem own_d1_3 : decode jdk_42_method_154_code 3 = .ok (.ifCond .eq 14, 3) := by decide +kernel
theorem own_d1_6 : decode jdk_42_method_154_code 6 = .ok (.aload_n 0, 1) := by decide +kernel
theorem own_d1_7 : decode jdk_42_method_154_code 7 = .ok (.getfield 15, 3) := by decide +kernel
theorem own_d1_10 : decode jdk_42_method_154_code 10 = .ok (.ifCond .ne 7, 3) := by decide +kernel
theorem own_d1_13 : decode jdk_42_method_154_code 13 = .ok (.iconst 1, 1) := by decide +kernel
theorem own_d1_14 : decode jdk_42_method_154_code 14 = .ok (.goto 4, 3) := by decide +kernel
theorem own_d1_18 : decode jdk_42_method_154_code 18 = .ok (.ireturn, 1) := by decide +kernel
set_option maxRecDepth 65536 in
set_option maxHeartbeats 40000000 in
theorem own_il (l : Launch) (Z : State) (a0 : Array Value) (hw : ∀ d ∈ tables_1, d.before a0 Z = true) (y0 : Addr) (h0 : Heap) (n0 : Nat) (n : Nat) (N : Int32) (f : Nat → Int32) (hN : N.toInt = (n : Int)) (P0 : Lat Z h0 y0 n f) (cs : Int32) (Sc : Sta Z h0 "java/lang/String" "COMPACT_STRINGS" "Z" (.int cs)) (hcs : ¬ cs = 0) :
    Ctr l Z (⟨"java/lang/String", "isLatin1", "()Z"⟩ : MethodName) jdk_42_method_154_code 1 (some .boolean) [] (own_room 0 0 0 0) #[(.ref y0)] h0 n0 0 0 (fun v h => v = some (.int 1) ∧ h = h0) := by
  refine Ctr.of (plainFor_of_name own_pn0) ?_
  intro p e s m below meth c T0 hx hby hml hret hlk hnm hown hZ X0
  rw [own_ef5 m (y0)]
  obtain ⟨v0, LE0, LV0, LC0, LA0⟩ := P0
  refine g_getS X0 hx hby hZ hown (hw _ (List.mem_of_getElem? (i := 51) rfl)) Via.refl Sc own_d1_0 (pc' := 3) rfl (fun T6 X6 => ?_)
  refine g_if_eq X6 hx hby own_d1_3 (by decide) (pc' := 17) (by decide) (pc2 := 6) rfl (fun q => absurd q hcs) (fun c3_7 => ?_)
  refine g_aloadN X6 hx hby own_d1_6 rfl rfl (pc' := 7) rfl ?_
  refine g_getF X6 hx hby hZ hown (hw _ (List.mem_of_getElem? (i := 29) rfl)) Via.refl LC0 own_d1_7 (pc' := 10) rfl (fun T8 X8 => ?_)
  refine g_if_ne X8 hx hby own_d1_10 (by decide) (pc' := 17) (by decide) (pc2 := 13) rfl (fun q => absurd (by decide) q) (fun c10_9 => ?_)
  refine g_iconst (v := 1) X8 hx hby own_d1_13 rfl (pc' := 14) rfl ?_
  refine g_goto X8 hx hby own_d1_14 (by decide) (pc' := 18) (by decide) ?_
  exact g_retN X8 hx hby hret hlk (by simp) own_d1_18 ⟨rfl, rfl⟩ (by decide) (by decide)
set_option maxRecDepth 65536 in
set_option maxHeartbeats 40000000 in
theorem own_ef10 (m : MethodId) (y0 : Addr)  : entryFrame m #[(.ref y0)] 1 = mkF m 0 #[.val (.ref y0)] [] := by first | (simp [entryFrame, mkF, argsToLocals, Value.category, maxLocals]; done) | rfl
theorem own_d2_0 : decode jdk_42_method_54_code 0 = .ok (.aload_n 0, 1) := by decide +kernel
theorem own_d2_1 : decode jdk_42_method_54_code 1 = .ok (.getfield 9, 3) := by decide +kernel
theorem own_d2_4 : decode jdk_42_method_54_code 4 = .ok (.arraylength, 1) := by decide +kernel
theorem own_d2_5 : decode jdk_42_method_54_code 5 = .ok (.aload_n 0, 1) := by decide +kernel
theorem own_d2_6 : decode jdk_42_method_54_code 6 = .ok (.invokevirtual 335, 3) := by decide +kernel
theorem own_pd0 : parseMethodDescriptor "()B" = some ⟨[], (some .byte)⟩ := by decide +kernel
theorem own_d2_9 : decode jdk_42_method_54_code 9 = .ok (.ishr, 1) := by decide +kernel
theorem own_d2_10 : decode jdk_42_method_54_code 10 = .ok (.ireturn, 1) := by decide +kernel
set_option maxRecDepth 65536 in
set_option maxHeartbeats 40000000 in
theorem own_ln (l : Launch) (Z : State) (a0 : Array Value) (hw : ∀ d ∈ tables_1, d.before a0 Z = true) (y0 : Addr) (h0 : Heap) (n0 : Nat) (n : Nat) (N : Int32) (f : Nat → Int32) (hN : N.toInt = (n : Int)) (P0 : Lat Z h0 y0 n f) (cs : Int32) (Sc : Sta Z h0 "java/lang/String" "COMPACT_STRINGS" "Z" (.int cs)) (hcs : ¬ cs = 0) :
    Ctr l Z (⟨"java/lang/String", "length", "()I"⟩ : MethodName) jdk_42_method_54_code 1 (some .int) [] (own_room 1 0 0 13) #[(.ref y0)] h0 n0 0 0 (fun v h => v = some (.int N) ∧ h = h0) := by
  refine Ctr.of (plainFor_of_name own_pn0) ?_
  intro p e s m below meth c T0 hx hby hml hret hlk hnm hown hZ X0
  rw [own_ef10 m (y0)]
  obtain ⟨v0, LE0, LV0, LC0, LA0⟩ := P0
  refine g_aloadN X0 hx hby own_d2_0 rfl rfl (pc' := 1) rfl ?_
  refine g_getF X0 hx hby hZ hown (hw _ (List.mem_of_getElem? (i := 28) rfl)) Via.refl LV0 own_d2_1 (pc' := 4) rfl (fun T11 X11 => ?_)
  refine g_arraylength (n := N) X11 hx hby hZ LA0 hN own_d2_4 (pc' := 5) rfl ?_
  refine g_aloadN X11 hx hby own_d2_5 rfl rfl (pc' := 6) rfl ?_
  refine g_callV (argsL := []) (S := [(.int N)]) (a := y0) X11 hx hby hZ (y := (⟨"java/lang/String", "coder", "()B"⟩ : MethodName)) (y' := (⟨"java/lang/String", "coder", "()B"⟩ : MethodName)) hown (hw _ (List.mem_of_getElem? (i := 46) rfl)) (hw _ (List.mem_of_getElem? (i := 47) rfl)) (notFace_of_selects (args := #[]) (mvT hZ (hw _ (List.mem_of_getElem? (i := 49) rfl)))) (hw _ (List.mem_of_getElem? (i := 49) rfl)) (hw _ (List.mem_of_getElem? (i := 48) rfl)) (hw _ (List.mem_of_getElem? (i := 10) rfl)) (hw _ (List.mem_of_getElem? (i := 50) rfl)) (by decide) LE0 (own_co l Z a0 hw y0 h0 n0 n N f hN ⟨v0, LE0, LV0, LC0, LA0⟩ cs Sc hcs ) (by rw [hml]; rfl) (lenOf own_pd0 rfl) rfl own_d2_6 (by decide) (W := 1) (by exact Nat.le_of_eq rfl) (by decide) (by decide) (by decide) (pc' := 9) rfl (fun T12 v12 X12 hQ12 => ?_)
  obtain ⟨rfl, e12⟩ := hQ12
  rw [e12] at X12
  show Gl p e below n0 _ _ (T12.setTop (mkF m 9 #[.val (.ref y0)] [(.int (0 : Int32)), (.int N)]))
  refine g_ishr X12 hx hby own_d2_9 (pc' := 10) rfl ?_
  exact g_retI X12 hx hby hret hlk own_d2_10 ⟨congrArg (fun z => some (Value.int z)) (own_shr0 N), rfl⟩ (by decide) (by decide)
set_option maxRecDepth 65536 in
set_option maxHeartbeats 40000000 in
theorem own_ef13 (m : MethodId) (y0 : Int32) (y1 : Int32) (y2 : Value) (hy2 : y2.category = 1) : entryFrame m #[(.int y0), (.int y1), y2] 3 = mkF m 0 #[.val (.int y0), .val (.int y1), .val y2] [] := by
  cases y2 <;> first | (simp [Value.category] at hy2; done) | (simp [entryFrame, mkF, argsToLocals, Value.category, maxLocals]; done) | rfl
theorem own_pn1 : plainName "jdk/internal/util/Preconditions" = true := by first | (simp [plainName, overriddenIn]; done) | decide +kernel
theorem own_d3_0 : decode jdk_41_method_11_code 0 = .ok (.iload_n 0, 1) := by decide +kernel
theorem own_d3_1 : decode jdk_41_method_11_code 1 = .ok (.ifCond .lt 8, 3) := by decide +kernel
theorem own_d3_4 : decode jdk_41_method_11_code 4 = .ok (.iload_n 0, 1) := by decide +kernel
theorem own_d3_5 : decode jdk_41_method_11_code 5 = .ok (.iload_n 1, 1) := by decide +kernel
theorem own_d3_6 : decode jdk_41_method_11_code 6 = .ok (.if_icmp .lt 10, 3) := by decide +kernel
theorem own_d3_16 : decode jdk_41_method_11_code 16 = .ok (.iload_n 0, 1) := by decide +kernel
theorem own_d3_17 : decode jdk_41_method_11_code 17 = .ok (.ireturn, 1) := by decide +kernel
set_option maxRecDepth 65536 in
set_option maxHeartbeats 40000000 in
theorem own_pc (l : Launch) (Z : State) (a0 : Array Value) (hw : ∀ d ∈ tables_1, d.before a0 Z = true) (y0 y1 : Int32) (y2 : Value) (h0 : Heap) (n0 : Nat) (hy2 : y2.category = 1) (h1 : ¬ y0 < 0) (h2 : y0 < y1) :
    Ctr l Z (⟨"jdk/internal/util/Preconditions", "checkIndex", "(IILjava/util/function/BiFunction;)I"⟩ : MethodName) jdk_41_method_11_code 3 (some .int) [] (own_room 0 0 0 0) #[(.int y0), (.int y1), y2] h0 n0 0 0 (fun v h => v = some (.int y0) ∧ h = h0) := by
  refine Ctr.of (plainFor_of_name own_pn1) ?_
  intro p e s m below meth c T0 hx hby hml hret hlk hnm hown hZ X0
  rw [own_ef13 m (y0) (y1) (y2) (by assumption)]
  refine g_iloadN X0 hx hby own_d3_0 rfl (pc' := 1) rfl ?_
  refine g_if_lt X0 hx hby own_d3_1 (by decide) (pc' := 9) (by decide) (pc2 := 4) rfl (fun q => absurd q h1) (fun c1_14 => ?_)
  refine g_iloadN X0 hx hby own_d3_4 rfl (pc' := 5) rfl ?_
  refine g_iloadN X0 hx hby own_d3_5 rfl (pc' := 6) rfl ?_
  refine g_icmp_lt X0 hx hby own_d3_6 (by decide) (pc' := 16) (by decide) (pc2 := 9) rfl (fun c6_15 => ?_) (fun q => absurd h2 q)
  refine g_iloadN X0 hx hby own_d3_16 rfl (pc' := 17) rfl ?_
  exact g_retI X0 hx hby hret hlk own_d3_17 ⟨rfl, rfl⟩ (by decide) (by decide)
set_option maxRecDepth 65536 in
set_option maxHeartbeats 40000000 in
theorem own_ef16 (m : MethodId) (y0 : Int32) (y1 : Int32)  : entryFrame m #[(.int y0), (.int y1)] 2 = mkF m 0 #[.val (.int y0), .val (.int y1)] [] := by first | (simp [entryFrame, mkF, argsToLocals, Value.category, maxLocals]; done) | rfl
theorem own_d4_0 : decode jdk_42_method_155_code 0 = .ok (.iload_n 0, 1) := by decide +kernel
theorem own_d4_1 : decode jdk_42_method_155_code 1 = .ok (.iload_n 1, 1) := by decide +kernel
theorem own_d4_2 : decode jdk_42_method_155_code 2 = .ok (.getstatic 1053, 3) := by decide +kernel
theorem own_d4_5 : decode jdk_42_method_155_code 5 = .ok (.invokestatic 1059, 3) := by decide +kernel
theorem own_pd1 : parseMethodDescriptor "(IILjava/util/function/BiFunction;)I" = some ⟨[.int, .int, (.object "java/util/function/BiFunction")], (some .int)⟩ := by decide +kernel
theorem own_d4_8 : decode jdk_42_method_155_code 8 = .ok (.pop, 1) := by decide +kernel
theorem own_d4_9 : decode jdk_42_method_155_code 9 = .ok (.return_, 1) := by decide +kernel
set_option maxRecDepth 65536 in
set_option maxHeartbeats 40000000 in
theorem own_ci (l : Launch) (Z : State) (a0 : Array Value) (hw : ∀ d ∈ tables_1, d.before a0 Z = true) (y0 y1 : Int32) (h0 : Heap) (n0 : Nat) (fm : Value) (Sf : Sta Z h0 "jdk/internal/util/Preconditions" "SIOOBE_FORMATTER" "Ljava/util/function/BiFunction;" fm) (hfm : fm.isRef = true) (h1 : ¬ y0 < 0) (h2 : y0 < y1) :
    Ctr l Z (⟨"java/lang/String", "checkIndex", "(II)V"⟩ : MethodName) jdk_42_method_155_code 2 none [] (own_room 1 0 0 14) #[(.int y0), (.int y1)] h0 n0 0 0 (fun v h => v = none ∧ h = h0) := by
  refine Ctr.of (plainFor_of_name own_pn0) ?_
  intro p e s m below meth c T0 hx hby hml hret hlk hnm hown hZ X0
  rw [own_ef16 m (y0) (y1)]
  refine g_iloadN X0 hx hby own_d4_0 rfl (pc' := 1) rfl ?_
  refine g_iloadN X0 hx hby own_d4_1 rfl (pc' := 2) rfl ?_
  refine g_getS X0 hx hby hZ hown (hw _ (List.mem_of_getElem? (i := 113) rfl)) Via.refl Sf own_d4_2 (pc' := 5) rfl (fun T17 X17 => ?_)
  refine g_callS (argsL := [(.int y0), (.int y1), fm]) (S := []) X17 hx hby hZ (y := (⟨"jdk/internal/util/Preconditions", "checkIndex", "(IILjava/util/function/BiFunction;)I"⟩ : MethodName)) hown (hw _ (List.mem_of_getElem? (i := 115) rfl)) (hw _ (List.mem_of_getElem? (i := 116) rfl)) (hw _ (List.mem_of_getElem? (i := 114) rfl)) (hw _ (List.mem_of_getElem? (i := 117) rfl)) (by decide) (own_pc l Z a0 hw y0 y1 fm h0 n0 (own_cat hfm) h1 h2) (by rw [hml]; rfl) (lenOf own_pd1 rfl) rfl own_d4_5 (by decide) (W := 0) (by exact Nat.le_of_eq rfl) (by decide) (by decide) (by decide) (pc' := 8) rfl (fun T18 v18 X18 hQ18 => ?_)
  obtain ⟨rfl, e18⟩ := hQ18
  rw [e18] at X18
  show Gl p e below n0 _ _ (T18.setTop (mkF m 8 #[.val (.int y0), .val (.int y1)] [(.int y0)]))
  refine g_pop X18 hx hby own_d4_8 rfl (pc' := 9) rfl ?_
  exact g_ret X18 hx hby hret hlk own_d4_9 ⟨rfl, rfl⟩ (by decide) (by decide)
set_option maxRecDepth 65536 in
set_option maxHeartbeats 40000000 in
theorem own_ef19 (m : MethodId) (y0 : Addr) (y1 : Int32)  : entryFrame m #[(.ref y0), (.int y1)] 2 = mkF m 0 #[.val (.ref y0), .val (.int y1)] [] := by first | (simp [entryFrame, mkF, argsToLocals, Value.category, maxLocals]; done) | rfl
theorem own_pn2 : plainName "java/lang/StringLatin1" = true := by first | (simp [plainName, overriddenIn]; done) | decide +kernel
theorem own_d5_0 : decode jdk_43_method_2_code 0 = .ok (.iload_n 1, 1) := by decide +kernel
theorem own_d5_1 : decode jdk_43_method_2_code 1 = .ok (.aload_n 0, 1) := by decide +kernel
theorem own_d5_2 : decode jdk_43_method_2_code 2 = .ok (.arraylength, 1) := by decide +kernel
theorem own_d5_3 : decode jdk_43_method_2_code 3 = .ok (.invokestatic 9, 3) := by decide +kernel
theorem own_pd2 : parseMethodDescriptor "(II)V" = some ⟨[.int, .int], none⟩ := by decide +kernel
theorem own_d5_6 : decode jdk_43_method_2_code 6 = .ok (.aload_n 0, 1) := by decide +kernel
theorem own_d5_7 : decode jdk_43_method_2_code 7 = .ok (.iload_n 1, 1) := by decide +kernel
theorem own_d5_8 : decode jdk_43_method_2_code 8 = .ok (.baload, 1) := by decide +kernel
theorem own_d5_9 : decode jdk_43_method_2_code 9 = .ok (.sipush 255, 3) := by decide +kernel
theorem own_d5_12 : decode jdk_43_method_2_code 12 = .ok (.iand, 1) := by decide +kernel
theorem own_d5_13 : decode jdk_43_method_2_code 13 = .ok (.i2c, 1) := by decide +kernel
theorem own_d5_14 : decode jdk_43_method_2_code 14 = .ok (.ireturn, 1) := by decide +kernel
set_option maxRecDepth 65536 in
set_option maxHeartbeats 40000000 in
theorem own_la (l : Launch) (Z : State) (a0 : Array Value) (hw : ∀ d ∈ tables_1, d.before a0 Z = true) (y0 : Addr) (y1 : Int32) (h0 : Heap) (n0 : Nat) (n : Nat) (N : Int32) (f : Nat → Int32) (hN : N.toInt = (n : Int)) (LA0 : Ary Z h0 y0 .byte n (fun i => .int (f i))) (i : Nat) (hi : y1.toInt = (i : Int)) (hlt : i < n) (fm : Value) (Sf : Sta Z h0 "jdk/internal/util/Preconditions" "SIOOBE_FORMATTER" "Ljava/util/function/BiFunction;" fm) (hfm : fm.isRef = true) :
    Ctr l Z (⟨"java/lang/StringLatin1", "charAt", "([BI)C"⟩ : MethodName) jdk_43_method_2_code 2 (some .char) [] (own_room 2 0 0 28) #[(.ref y0), (.int y1)] h0 n0 0 0 (fun v h => v = some (.int (f i &&& 255)) ∧ h = h0) := by
  refine Ctr.of (plainFor_of_name own_pn2) ?_
  intro p e s m below meth c T0 hx hby hml hret hlk hnm hown hZ X0
  rw [own_ef19 m (y0) (y1)]
  refine g_iloadN X0 hx hby own_d5_0 rfl (pc' := 1) rfl ?_
  refine g_aloadN X0 hx hby own_d5_1 rfl rfl (pc' := 2) rfl ?_
  refine g_arraylength (n := N) X0 hx hby hZ LA0 hN own_d5_2 (pc' := 3) rfl ?_
  refine g_callS (argsL := [(.int y1), (.int N)]) (S := []) X0 hx hby hZ (y := (⟨"java/lang/String", "checkIndex", "(II)V"⟩ : MethodName)) hown (hw _ (List.mem_of_getElem? (i := 127) rfl)) (hw _ (List.mem_of_getElem? (i := 111) rfl)) (hw _ (List.mem_of_getElem? (i := 10) rfl)) (hw _ (List.mem_of_getElem? (i := 112) rfl)) (by decide) (own_ci l Z a0 hw y1 N h0 n0 fm Sf hfm (own_i0 hi) (own_ilt hi hN hlt)) (by rw [hml]; rfl) (lenOf own_pd2 rfl) rfl own_d5_3 (by decide) (W := 0) (by exact Nat.le_of_eq rfl) (by decide) (by decide) (by decide) (pc' := 6) rfl (fun T20 v20 X20 hQ20 => ?_)
  obtain ⟨rfl, e20⟩ := hQ20
  rw [e20] at X20
  show Gl p e below n0 _ _ (T20.setTop (mkF m 6 #[.val (.ref y0), .val (.int y1)] []))
  refine g_aloadN X20 hx hby own_d5_6 rfl rfl (pc' := 7) rfl ?_
  refine g_iloadN X20 hx hby own_d5_7 rfl (pc' := 8) rfl ?_
  refine g_baload (i := i) (v := (.int (f i))) X20 hx hby hZ LA0 hi hlt rfl own_d5_8 (pc' := 9) rfl ?_
  refine g_sipush (v := 255) X20 hx hby own_d5_9 rfl (pc' := 12) rfl ?_
  refine g_iand X20 hx hby own_d5_12 (pc' := 13) rfl ?_
  refine g_i2c X20 hx hby own_d5_13 (pc' := 14) rfl ?_
  exact g_retN X20 hx hby hret hlk (by simp) own_d5_14 ⟨congrArg (fun z => some (Value.int z)) (own_narc (f i)), rfl⟩ (by decide) (by decide)
theorem own_narc8 (x : Int32) : nar .char (x &&& 255) = x &&& 255 := i2c_mask x
set_option maxRecDepth 65536 in
set_option maxHeartbeats 40000000 in
theorem own_ef21 (m : MethodId) (y0 : Addr) (y1 : Int32)  : entryFrame m #[(.ref y0), (.int y1)] 2 = mkF m 0 #[.val (.ref y0), .val (.int y1)] [] := by first | (simp [entryFrame, mkF, argsToLocals, Value.category, maxLocals]; done) | rfl
theorem own_d6_0 : decode jdk_42_method_56_code 0 = .ok (.aload_n 0, 1) := by decide +kernel
theorem own_d6_1 : decode jdk_42_method_56_code 1 = .ok (.invokevirtual 492, 3) := by decide +kernel
theorem own_pd3 : parseMethodDescriptor "()Z" = some ⟨[], (some .boolean)⟩ := by decide +kernel
theorem own_d6_4 : decode jdk_42_method_56_code 4 = .ok (.ifCond .eq 12, 3) := by decide +kernel
theorem own_d6_7 : decode jdk_42_method_56_code 7 = .ok (.aload_n 0, 1) := by decide +kernel
theorem own_d6_8 : decode jdk_42_method_56_code 8 = .ok (.getfield 9, 3) := by decide +kernel
theorem own_d6_11 : decode jdk_42_method_56_code 11 = .ok (.iload_n 1, 1) := by decide +kernel
theorem own_d6_12 : decode jdk_42_method_56_code 12 = .ok (.invokestatic 495, 3) := by decide +kernel
theorem own_pd4 : parseMethodDescriptor "([BI)C" = some ⟨[(.array .byte), .int], (some .char)⟩ := by decide +kernel
theorem own_d6_15 : decode jdk_42_method_56_code 15 = .ok (.ireturn, 1) := by decide +kernel
set_option maxRecDepth 65536 in
set_option maxHeartbeats 40000000 in
theorem own_ca (l : Launch) (Z : State) (a0 : Array Value) (hw : ∀ d ∈ tables_1, d.before a0 Z = true) (y0 : Addr) (y1 : Int32) (h0 : Heap) (n0 : Nat) (n : Nat) (N : Int32) (f : Nat → Int32) (hN : N.toInt = (n : Int)) (P0 : Lat Z h0 y0 n f) (cs : Int32) (Sc : Sta Z h0 "java/lang/String" "COMPACT_STRINGS" "Z" (.int cs)) (hcs : ¬ cs = 0) (i : Nat) (hi : y1.toInt = (i : Int)) (hlt : i < n) (fm : Value) (Sf : Sta Z h0 "jdk/internal/util/Preconditions" "SIOOBE_FORMATTER" "Ljava/util/function/BiFunction;" fm) (hfm : fm.isRef = true) :
    Ctr l Z (⟨"java/lang/String", "charAt", "(I)C"⟩ : MethodName) jdk_42_method_56_code 2 (some .char) [] (own_room 3 0 0 42) #[(.ref y0), (.int y1)] h0 n0 0 0 (fun v h => v = some (.int (f i &&& 255)) ∧ h = h0) := by
  refine Ctr.of (plainFor_of_name own_pn0) ?_
  intro p e s m below meth c T0 hx hby hml hret hlk hnm hown hZ X0
  rw [own_ef21 m (y0) (y1)]
  obtain ⟨v0, LE0, LV0, LC0, LA0⟩ := P0
  refine g_aloadN X0 hx hby own_d6_0 rfl rfl (pc' := 1) rfl ?_
  refine g_callV (argsL := []) (S := []) (a := y0) X0 hx hby hZ (y := (⟨"java/lang/String", "isLatin1", "()Z"⟩ : MethodName)) (y' := (⟨"java/lang/String", "isLatin1", "()Z"⟩ : MethodName)) hown (hw _ (List.mem_of_getElem? (i := 96) rfl)) (hw _ (List.mem_of_getElem? (i := 97) rfl)) (notFace_of_selects (args := #[]) (mvT hZ (hw _ (List.mem_of_getElem? (i := 99) rfl)))) (hw _ (List.mem_of_getElem? (i := 99) rfl)) (hw _ (List.mem_of_getElem? (i := 98) rfl)) (hw _ (List.mem_of_getElem? (i := 10) rfl)) (hw _ (List.mem_of_getElem? (i := 100) rfl)) (by decide) LE0 (own_il l Z a0 hw y0 h0 n0 n N f hN ⟨v0, LE0, LV0, LC0, LA0⟩ cs Sc hcs ) (by rw [hml]; rfl) (lenOf own_pd3 rfl) rfl own_d6_1 (by decide) (W := 0) (by exact Nat.le_of_eq rfl) (by decide) (by decide) (by decide) (pc' := 4) rfl (fun T22 v22 X22 hQ22 => ?_)
  obtain ⟨rfl, e22⟩ := hQ22
  rw [e22] at X22
  show Gl p e below n0 _ _ (T22.setTop (mkF m 4 #[.val (.ref y0), .val (.int y1)] [(.int (1 : Int32))]))
  refine g_if_eq X22 hx hby own_d6_4 (by decide) (pc' := 16) (by decide) (pc2 := 7) rfl (fun q => absurd q (by decide)) (fun c4_23 => ?_)
  refine g_aloadN X22 hx hby own_d6_7 rfl rfl (pc' := 8) rfl ?_
  refine g_getF X22 hx hby hZ hown (hw _ (List.mem_of_getElem? (i := 28) rfl)) Via.refl LV0 own_d6_8 (pc' := 11) rfl (fun T24 X24 => ?_)
  refine g_iloadN X24 hx hby own_d6_11 rfl (pc' := 12) rfl ?_
  refine g_callS (argsL := [(.ref v0), (.int y1)]) (S := []) X24 hx hby hZ (y := (⟨"java/lang/StringLatin1", "charAt", "([BI)C"⟩ : MethodName)) hown (hw _ (List.mem_of_getElem? (i := 123) rfl)) (hw _ (List.mem_of_getElem? (i := 124) rfl)) (hw _ (List.mem_of_getElem? (i := 125) rfl)) (hw _ (List.mem_of_getElem? (i := 126) rfl)) (by decide) (own_la l Z a0 hw v0 y1 h0 n0 n N f hN LA0 i hi hlt fm Sf hfm) (by rw [hml]; rfl) (lenOf own_pd4 rfl) rfl own_d6_12 (by decide) (W := 0) (by exact Nat.le_of_eq rfl) (by decide) (by decide) (by decide) (pc' := 15) rfl (fun T25 v25 X25 hQ25 => ?_)
  obtain ⟨rfl, e25⟩ := hQ25
  rw [e25] at X25
  show Gl p e below n0 _ _ (T25.setTop (mkF m 15 #[.val (.ref y0), .val (.int y1)] [(.int (f i &&& 255))]))
  exact g_retN X25 hx hby hret hlk (by simp) own_d6_15 ⟨congrArg (fun z => some (Value.int z)) (own_narc8 (f i)), rfl⟩ (by decide) (by decide)
set_option maxRecDepth 65536 in
set_option maxHeartbeats 40000000 in
theorem own_ef26 (m : MethodId) (y0 : Int32) (y1 : Int32)  : entryFrame m #[(.int y0), (.int y1)] 2 = mkF m 0 #[.val (.int y0), .val (.int y1)] [] := by first | (simp [entryFrame, mkF, argsToLocals, Value.category, maxLocals]; done) | rfl
theorem own_d7_0 : decode jdk_29_method_69_code 0 = .ok (.iload_n 0, 1) := by decide +kernel
theorem own_d7_1 : decode jdk_29_method_69_code 1 = .ok (.iload_n 1, 1) := by decide +kernel
theorem own_d7_2 : decode jdk_29_method_69_code 2 = .ok (.if_icmp .gt 7, 3) := by decide +kernel
theorem own_d7_5 : decode jdk_29_method_69_code 5 = .ok (.iload_n 0, 1) := by decide +kernel
theorem own_d7_6 : decode jdk_29_method_69_code 6 = .ok (.goto 4, 3) := by decide +kernel
theorem own_d7_10 : decode jdk_29_method_69_code 10 = .ok (.ireturn, 1) := by decide +kernel
set_option maxRecDepth 65536 in
set_option maxHeartbeats 40000000 in
theorem own_minA (l : Launch) (Z : State) (a0 : Array Value) (hw : ∀ d ∈ tables_1, d.before a0 Z = true) (y0 y1 : Int32) (h0 : Heap) (n0 : Nat) (hm : ¬ y1 < y0) :
    Ctr l Z (⟨"java/lang/Math", "min", "(II)I"⟩ : MethodName) jdk_29_method_69_code 2 (some .int) [] (own_room 0 0 0 0) #[(.int y0), (.int y1)] h0 n0 0 0 (fun v h => v = some (.int y0) ∧ h = h0) := by
  refine Ctr.of (Jvm.Free.JP.mathPlain rfl (by decide +kernel)) ?_
  intro p e s m below meth c T0 hx hby hml hret hlk hnm hown hZ X0
  rw [own_ef26 m (y0) (y1)]
  refine g_iloadN X0 hx hby own_d7_0 rfl (pc' := 1) rfl ?_
  refine g_iloadN X0 hx hby own_d7_1 rfl (pc' := 2) rfl ?_
  refine g_icmp_gt X0 hx hby own_d7_2 (by decide) (pc' := 9) (by decide) (pc2 := 5) rfl (fun q => absurd q hm) (fun c2_27 => ?_)
  refine g_iloadN X0 hx hby own_d7_5 rfl (pc' := 6) rfl ?_
  refine g_goto X0 hx hby own_d7_6 (by decide) (pc' := 10) (by decide) ?_
  exact g_retI X0 hx hby hret hlk own_d7_10 ⟨rfl, rfl⟩ (by decide) (by decide)
set_option maxRecDepth 65536 in
set_option maxHeartbeats 40000000 in
theorem own_ef28 (m : MethodId) (y0 : Int32) (y1 : Int32)  : entryFrame m #[(.int y0), (.int y1)] 2 = mkF m 0 #[.val (.int y0), .val (.int y1)] [] := by first | (simp [entryFrame, mkF, argsToLocals, Value.category, maxLocals]; done) | rfl
theorem own_d7_9 : decode jdk_29_method_69_code 9 = .ok (.iload_n 1, 1) := by decide +kernel
set_option maxRecDepth 65536 in
set_option maxHeartbeats 40000000 in
theorem own_minB (l : Launch) (Z : State) (a0 : Array Value) (hw : ∀ d ∈ tables_1, d.before a0 Z = true) (y0 y1 : Int32) (h0 : Heap) (n0 : Nat) (hm : y1 < y0) :
    Ctr l Z (⟨"java/lang/Math", "min", "(II)I"⟩ : MethodName) jdk_29_method_69_code 2 (some .int) [] (own_room 0 0 0 0) #[(.int y0), (.int y1)] h0 n0 0 0 (fun v h => v = some (.int y1) ∧ h = h0) := by
  refine Ctr.of (Jvm.Free.JP.mathPlain rfl (by decide +kernel)) ?_
  intro p e s m below meth c T0 hx hby hml hret hlk hnm hown hZ X0
  rw [own_ef28 m (y0) (y1)]
  refine g_iloadN X0 hx hby own_d7_0 rfl (pc' := 1) rfl ?_
  refine g_iloadN X0 hx hby own_d7_1 rfl (pc' := 2) rfl ?_
  refine g_icmp_gt X0 hx hby own_d7_2 (by decide) (pc' := 9) (by decide) (pc2 := 5) rfl (fun c2_29 => ?_) (fun q => absurd hm q)
  refine g_iloadN X0 hx hby own_d7_9 rfl (pc' := 10) rfl ?_
  exact g_retI X0 hx hby hret hlk own_d7_10 ⟨rfl, rfl⟩ (by decide) (by decide)
set_option maxRecDepth 65536 in
set_option maxHeartbeats 40000000 in
theorem own_ef30 (m : MethodId) (y0 : Int32)  : entryFrame m #[(.int y0)] 1 = mkF m 0 #[.val (.int y0)] [] := by first | (simp [entryFrame, mkF, argsToLocals, Value.category, maxLocals]; done) | rfl
theorem own_pn3 : plainName "java/lang/StringUTF16" = true := by first | (simp [plainName, overriddenIn]; done) | decide +kernel
theorem own_d8_0 : decode jdk_52_method_3_code 0 = .ok (.iload_n 0, 1) := by decide +kernel
theorem own_d8_1 : decode jdk_52_method_3_code 1 = .ok (.ifCond .ge 11, 3) := by decide +kernel
theorem own_d8_12 : decode jdk_52_method_3_code 12 = .ok (.iload_n 0, 1) := by decide +kernel
theorem own_d8_13 : decode jdk_52_method_3_code 13 = .ok (.ldc 20, 2) := by decide +kernel
theorem own_d8_15 : decode jdk_52_method_3_code 15 = .ok (.if_icmp .lt 40, 3) := by decide +kernel
theorem own_d8_55 : decode jdk_52_method_3_code 55 = .ok (.iload_n 0, 1) := by decide +kernel
theorem own_d8_56 : decode jdk_52_method_3_code 56 = .ok (.iconst 1, 1) := by decide +kernel
theorem own_d8_57 : decode jdk_52_method_3_code 57 = .ok (.ishl, 1) := by decide +kernel
theorem own_d8_58 : decode jdk_52_method_3_code 58 = .ok (.ireturn, 1) := by decide +kernel
set_option maxRecDepth 65536 in
set_option maxHeartbeats 40000000 in
theorem own_nl_1 (l : Launch) (Z : State) (a0 : Array Value) (hw : ∀ d ∈ tables_1, d.before a0 Z = true)  (h0 : Heap) (n0 : Nat)  :
    Ctr l Z (⟨"java/lang/StringUTF16", "newBytesLength", "(I)I"⟩ : MethodName) jdk_52_method_3_code 1 (some .int) [] (own_room 0 0 0 0) #[(.int (1 : Int32))] h0 n0 0 0 (fun v h => v = some (.int 2) ∧ h = h0) := by
  refine Ctr.of (plainFor_of_name own_pn3) ?_
  intro p e s m below meth c T0 hx hby hml hret hlk hnm hown hZ X0
  rw [own_ef30 m ((1 : Int32))]
  refine g_iloadN X0 hx hby own_d8_0 rfl (pc' := 1) rfl ?_
  refine g_if_ge X0 hx hby own_d8_1 (by decide) (pc' := 12) (by decide) (pc2 := 4) rfl (fun c1_31 => ?_) (fun q => absurd q (by decide))
  refine g_iloadN X0 hx hby own_d8_12 rfl (pc' := 13) rfl ?_
  refine g_ldc X0 hx hby hZ hown (hw _ (List.mem_of_getElem? (i := 75) rfl)) own_d8_13 (pc' := 15) rfl ?_
  refine g_icmp_lt X0 hx hby own_d8_15 (by decide) (pc' := 55) (by decide) (pc2 := 18) rfl (fun c15_32 => ?_) (fun q => absurd (by decide) q)
  refine g_iloadN X0 hx hby own_d8_55 rfl (pc' := 56) rfl ?_
  refine g_iconst (v := 1) X0 hx hby own_d8_56 rfl (pc' := 57) rfl ?_
  refine g_ishl X0 hx hby own_d8_57 (pc' := 58) rfl ?_
  exact g_retI X0 hx hby hret hlk own_d8_58 ⟨congrArg (fun z => some (Value.int z)) (by decide), rfl⟩ (by decide) (by decide)
set_option maxRecDepth 65536 in
set_option maxHeartbeats 40000000 in
theorem own_ef33 (m : MethodId) (y0 : Int32)  : entryFrame m #[(.int y0)] 1 = mkF m 0 #[.val (.int y0)] [] := by first | (simp [entryFrame, mkF, argsToLocals, Value.category, maxLocals]; done) | rfl
theorem own_d9_0 : decode jdk_52_method_2_code 0 = .ok (.iload_n 0, 1) := by decide +kernel
theorem own_d9_1 : decode jdk_52_method_2_code 1 = .ok (.invokestatic 11, 3) := by decide +kernel
theorem own_pd5 : parseMethodDescriptor "(I)I" = some ⟨[.int], (some .int)⟩ := by decide +kernel
theorem own_d9_4 : decode jdk_52_method_2_code 4 = .ok (.newarray .byte, 2) := by decide +kernel
theorem own_d9_6 : decode jdk_52_method_2_code 6 = .ok (.areturn, 1) := by decide +kernel
set_option maxRecDepth 65536 in
set_option maxHeartbeats 40000000 in
theorem own_nf_1 (l : Launch) (Z : State) (a0 : Array Value) (hw : ∀ d ∈ tables_1, d.before a0 Z = true)  (h0 : Heap) (n0 : Nat) (Z0 : n0 ≤ h0.size) :
    Ctr l Z (⟨"java/lang/StringUTF16", "newBytesFor", "(I)[B"⟩ : MethodName) jdk_52_method_2_code 1 (some (.array .byte)) [] (own_room 1 1 2 12) #[(.int (1 : Int32))] h0 n0 1 2 (fun v h => ∃ b, v = some (.ref b) ∧ Keep h0 h [] ∧ h0.size ≤ b ∧ n0 ≤ b ∧ Ary Z h b .byte 2 (fun _ => .int 0)) := by
  refine Ctr.of (plainFor_of_name own_pn3) ?_
  intro p e s m below meth c T0 hx hby hml hret hlk hnm hown hZ X0
  rw [own_ef33 m ((1 : Int32))]
  refine g_iloadN X0 hx hby own_d9_0 rfl (pc' := 1) rfl ?_
  refine g_callS (argsL := [(.int (1 : Int32))]) (S := []) X0 hx hby hZ (y := (⟨"java/lang/StringUTF16", "newBytesLength", "(I)I"⟩ : MethodName)) hown (hw _ (List.mem_of_getElem? (i := 72) rfl)) (hw _ (List.mem_of_getElem? (i := 73) rfl)) (hw _ (List.mem_of_getElem? (i := 55) rfl)) (hw _ (List.mem_of_getElem? (i := 74) rfl)) (by decide) (own_nl_1 l Z a0 hw h0 n0) (by rw [hml]; rfl) (lenOf own_pd5 rfl) rfl own_d9_1 (by decide) (W := 0) (by exact Nat.le_of_eq rfl) (by decide) (by decide) (by decide) (pc' := 4) rfl (fun T34 v34 X34 hQ34 => ?_)
  obtain ⟨rfl, e34⟩ := hQ34
  rw [e34] at X34
  show Gl p e below n0 _ _ (T34.setTop (mkF m 4 #[.val (.int (1 : Int32))] [(.int (2 : Int32))]))
  refine g_newarray (k := 2) (cap := 2) X34 hx hby hZ (hw _ (List.mem_of_getElem? (i := 23) rfl)) own_d9_4 rfl (by decide) (by decide) (by decide) (by decide) (pc' := 6) rfl (fun T35 h35 b35 g35 X35 E35 A35 => ?_)
  have nn36 : n0 ≤ b35 := by rw [g35]; exact Z0
  have hh37 : h0.size ≤ b35 := by rw [g35]; exact (Keep.refl h0 []).1
  have zz38 := Nat.le_trans Z0 E35.1
  have kk39 : Keep h0 h35 [] := (Keep.refl h0 []).ext E35
  exact g_retA X35 hx hby hret hlk rfl rfl own_d9_6 ⟨b35, rfl, kk39, hh37, nn36, A35⟩ (by decide) (by decide)
set_option maxRecDepth 65536 in
set_option maxHeartbeats 40000000 in
theorem own_ef40 (m : MethodId) (y0 : Addr) (y1 : Int32) (y2 : Int32)  : entryFrame m #[(.ref y0), (.int y1), (.int y2)] 3 = mkF m 0 #[.val (.ref y0), .val (.int y1), .val (.int y2)] [] := by first | (simp [entryFrame, mkF, argsToLocals, Value.category, maxLocals]; done) | rfl
theorem own_d10_0 : decode jdk_52_method_4_code 0 = .ok (.getstatic 44, 3) := by decide +kernel
theorem own_d10_3 : decode jdk_52_method_4_code 3 = .ok (.ifCond .ne 25, 3) := by decide +kernel
theorem own_d10_28 : decode jdk_52_method_4_code 28 = .ok (.iload_n 1, 1) := by decide +kernel
theorem own_d10_29 : decode jdk_52_method_4_code 29 = .ok (.iconst 1, 1) := by decide +kernel
theorem own_d10_30 : decode jdk_52_method_4_code 30 = .ok (.ishl, 1) := by decide +kernel
theorem own_d10_31 : decode jdk_52_method_4_code 31 = .ok (.istore_n 1, 1) := by decide +kernel
theorem own_d10_32 : decode jdk_52_method_4_code 32 = .ok (.aload_n 0, 1) := by decide +kernel
theorem own_d10_33 : decode jdk_52_method_4_code 33 = .ok (.iload_n 1, 1) := by decide +kernel
theorem own_d10_34 : decode jdk_52_method_4_code 34 = .ok (.iinc 1 1, 3) := by decide +kernel
theorem own_d10_37 : decode jdk_52_method_4_code 37 = .ok (.iload_n 2, 1) := by decide +kernel
theorem own_d10_38 : decode jdk_52_method_4_code 38 = .ok (.getstatic 59, 3) := by decide +kernel
theorem own_d10_41 : decode jdk_52_method_4_code 41 = .ok (.ishr, 1) := by decide +kernel
theorem own_d10_42 : decode jdk_52_method_4_code 42 = .ok (.i2b, 1) := by decide +kernel
theorem own_d10_43 : decode jdk_52_method_4_code 43 = .ok (.bastore, 1) := by decide +kernel
theorem own_d10_44 : decode jdk_52_method_4_code 44 = .ok (.aload_n 0, 1) := by decide +kernel
theorem own_d10_45 : decode jdk_52_method_4_code 45 = .ok (.iload_n 1, 1) := by decide +kernel
theorem own_d10_46 : decode jdk_52_method_4_code 46 = .ok (.iload_n 2, 1) := by decide +kernel
theorem own_d10_47 : decode jdk_52_method_4_code 47 = .ok (.getstatic 63, 3) := by decide +kernel
theorem own_d10_50 : decode jdk_52_method_4_code 50 = .ok (.ishr, 1) := by decide +kernel
theorem own_d10_51 : decode jdk_52_method_4_code 51 = .ok (.i2b, 1) := by decide +kernel
theorem own_d10_52 : decode jdk_52_method_4_code 52 = .ok (.bastore, 1) := by decide +kernel
theorem own_d10_53 : decode jdk_52_method_4_code 53 = .ok (.return_, 1) := by decide +kernel
set_option maxRecDepth 65536 in
set_option maxHeartbeats 40000000 in
theorem own_pu_1_0 (l : Launch) (Z : State) (a0 : Array Value) (hw : ∀ d ∈ tables_1, d.before a0 Z = true) (y0 : Addr) (y2 : Int32) (h0 : Heap) (n0 : Nat) (Z0 : n0 ≤ h0.size) (g : Nat → Value) (LA0 : Ary Z h0 y0 .byte 2 g) (gn : n0 ≤ y0) (Sd : Sta Z h0 "java/lang/StringUTF16" "$assertionsDisabled" "Z" (.int 1)) (Sh : Sta Z h0 "java/lang/StringUTF16" "HI_BYTE_SHIFT" "I" (.int 0)) (Sl : Sta Z h0 "java/lang/StringUTF16" "LO_BYTE_SHIFT" "I" (.int 8)) :
    Ctr l Z (⟨"java/lang/StringUTF16", "putChar", "([BII)V"⟩ : MethodName) jdk_52_method_4_code 3 none [] (own_room 0 0 0 0) #[(.ref y0), (.int (0 : Int32)), (.int y2)] h0 n0 0 0 (fun v h => v = none ∧ Keep h0 h [y0] ∧ Ary Z h y0 .byte 2 (own_upd (own_upd g 0 (.int (own_lo y2))) 1 (.int (own_hi y2)))) := by
  refine Ctr.of (plainFor_of_name own_pn3) ?_
  intro p e s m below meth c T0 hx hby hml hret hlk hnm hown hZ X0
  rw [own_ef40 m (y0) ((0 : Int32)) (y2)]
  refine g_getS X0 hx hby hZ hown (hw _ (List.mem_of_getElem? (i := 79) rfl)) Via.refl Sd own_d10_0 (pc' := 3) rfl (fun T41 X41 => ?_)
  refine g_if_ne X41 hx hby own_d10_3 (by decide) (pc' := 28) (by decide) (pc2 := 6) rfl (fun c3_42 => ?_) (fun q => absurd q (by decide))
  refine g_iloadN X41 hx hby own_d10_28 rfl (pc' := 29) rfl ?_
  refine g_iconst (v := 1) X41 hx hby own_d10_29 rfl (pc' := 30) rfl ?_
  refine g_ishl X41 hx hby own_d10_30 (pc' := 31) rfl ?_
  refine g_istoreN (L' := #[.val (.ref y0), .val (.int ((0 : Int32) <<< ((1 : Int32) &&& 31))), .val (.int y2)]) X41 hx hby own_d10_31 rfl (pc' := 32) rfl ?_
  refine g_aloadN X41 hx hby own_d10_32 rfl rfl (pc' := 33) rfl ?_
  refine g_iloadN X41 hx hby own_d10_33 rfl (pc' := 34) rfl ?_
  refine g_iinc (y := 1) (L' := #[.val (.ref y0), .val (.int (((0 : Int32) <<< ((1 : Int32) &&& 31)) + (1 : Int32))), .val (.int y2)]) X41 hx hby own_d10_34 rfl rfl rfl (pc' := 37) rfl ?_
  refine g_iloadN X41 hx hby own_d10_37 rfl (pc' := 38) rfl ?_
  refine g_getS X41 hx hby hZ hown (hw _ (List.mem_of_getElem? (i := 80) rfl)) Via.refl Sh own_d10_38 (pc' := 41) rfl (fun T43 X43 => ?_)
  refine g_ishr X43 hx hby own_d10_41 (pc' := 42) rfl ?_
  refine g_i2b X43 hx hby own_d10_42 (pc' := 43) rfl ?_
  refine g_bastore (i := 0) X43 hx hby hZ LA0 (by decide) (by decide) gn own_d10_43 (pc' := 44) rfl (fun T44 h44 sl44 X44 W44 A44 => ?_)
  have q45 := Sd.wr W44
  have q46 := Sh.wr W44
  have q47 := Sl.wr W44
  have zz48 := Nat.le_trans Z0 (Nat.le_of_eq W44.size.symm)
  have kk49 : Keep h0 h44 [y0] := (Keep.refl h0 [y0]).wr W44 (Or.inl (by simp))
  refine g_aloadN X44 hx hby own_d10_44 rfl rfl (pc' := 45) rfl ?_
  refine g_iloadN X44 hx hby own_d10_45 rfl (pc' := 46) rfl ?_
  refine g_iloadN X44 hx hby own_d10_46 rfl (pc' := 47) rfl ?_
  refine g_getS X44 hx hby hZ hown (hw _ (List.mem_of_getElem? (i := 81) rfl)) Via.refl q47 own_d10_47 (pc' := 50) rfl (fun T50 X50 => ?_)
  refine g_ishr X50 hx hby own_d10_50 (pc' := 51) rfl ?_
  refine g_i2b X50 hx hby own_d10_51 (pc' := 52) rfl ?_
  refine g_bastore (i := 1) X50 hx hby hZ A44 (by decide) (by decide) gn own_d10_52 (pc' := 53) rfl (fun T51 h51 sl51 X51 W51 A51 => ?_)
  have q52 := q45.wr W51
  have q53 := q46.wr W51
  have q54 := q47.wr W51
  have zz55 := Nat.le_trans zz48 (Nat.le_of_eq W51.size.symm)
  have kk56 : Keep h0 h51 [y0] := kk49.wr W51 (Or.inl (by simp))
  exact g_ret X51 hx hby hret hlk own_d10_53 ⟨rfl, kk56, A51⟩ (by decide) (by decide)
set_option maxRecDepth 65536 in
set_option maxHeartbeats 40000000 in
theorem own_ef57 (m : MethodId) (y0 : Addr) (y1 : Int32)  : entryFrame m #[(.ref y0), (.int y1)] 2 = mkF m 0 #[.val (.ref y0), .val (.int y1)] [] := by first | (simp [entryFrame, mkF, argsToLocals, Value.category, maxLocals]; done) | rfl
theorem own_d11_0 : decode jdk_52_method_5_code 0 = .ok (.getstatic 44, 3) := by decide +kernel
theorem own_d11_3 : decode jdk_52_method_5_code 3 = .ok (.ifCond .ne 25, 3) := by decide +kernel
theorem own_d11_28 : decode jdk_52_method_5_code 28 = .ok (.iload_n 1, 1) := by decide +kernel
theorem own_d11_29 : decode jdk_52_method_5_code 29 = .ok (.iconst 1, 1) := by decide +kernel
theorem own_d11_30 : decode jdk_52_method_5_code 30 = .ok (.ishl, 1) := by decide +kernel
theorem own_d11_31 : decode jdk_52_method_5_code 31 = .ok (.istore_n 1, 1) := by decide +kernel
theorem own_d11_32 : decode jdk_52_method_5_code 32 = .ok (.aload_n 0, 1) := by decide +kernel
theorem own_d11_33 : decode jdk_52_method_5_code 33 = .ok (.iload_n 1, 1) := by decide +kernel
theorem own_d11_34 : decode jdk_52_method_5_code 34 = .ok (.iinc 1 1, 3) := by decide +kernel
theorem own_d11_37 : decode jdk_52_method_5_code 37 = .ok (.baload, 1) := by decide +kernel
theorem own_d11_38 : decode jdk_52_method_5_code 38 = .ok (.sipush 255, 3) := by decide +kernel
theorem own_d11_41 : decode jdk_52_method_5_code 41 = .ok (.iand, 1) := by decide +kernel
theorem own_d11_42 : decode jdk_52_method_5_code 42 = .ok (.getstatic 59, 3) := by decide +kernel
theorem own_d11_45 : decode jdk_52_method_5_code 45 = .ok (.ishl, 1) := by decide +kernel
theorem own_d11_46 : decode jdk_52_method_5_code 46 = .ok (.aload_n 0, 1) := by decide +kernel
theorem own_d11_47 : decode jdk_52_method_5_code 47 = .ok (.iload_n 1, 1) := by decide +kernel
theorem own_d11_48 : decode jdk_52_method_5_code 48 = .ok (.baload, 1) := by decide +kernel
theorem own_d11_49 : decode jdk_52_method_5_code 49 = .ok (.sipush 255, 3) := by decide +kernel
theorem own_d11_52 : decode jdk_52_method_5_code 52 = .ok (.iand, 1) := by decide +kernel
theorem own_d11_53 : decode jdk_52_method_5_code 53 = .ok (.getstatic 63, 3) := by decide +kernel
theorem own_d11_56 : decode jdk_52_method_5_code 56 = .ok (.ishl, 1) := by decide +kernel
theorem own_d11_57 : decode jdk_52_method_5_code 57 = .ok (.ior, 1) := by decide +kernel
theorem own_d11_58 : decode jdk_52_method_5_code 58 = .ok (.i2c, 1) := by decide +kernel
theorem own_d11_59 : decode jdk_52_method_5_code 59 = .ok (.ireturn, 1) := by decide +kernel
set_option maxRecDepth 65536 in
set_option maxHeartbeats 40000000 in
theorem own_gc_1_0 (l : Launch) (Z : State) (a0 : Array Value) (hw : ∀ d ∈ tables_1, d.before a0 Z = true) (y0 : Addr) (h0 : Heap) (n0 : Nat) (f : Nat → Int32) (hr : ∀ i, 0 ≤ (f i).toInt ∧ (f i).toInt ≤ 65535) (LA0 : Ary Z h0 y0 .byte 2 (fun i => .int (own_ub f i))) (Sd : Sta Z h0 "java/lang/StringUTF16" "$assertionsDisabled" "Z" (.int 1)) (Sh : Sta Z h0 "java/lang/StringUTF16" "HI_BYTE_SHIFT" "I" (.int 0)) (Sl : Sta Z h0 "java/lang/StringUTF16" "LO_BYTE_SHIFT" "I" (.int 8)) :
    Ctr l Z (⟨"java/lang/StringUTF16", "getChar", "([BI)C"⟩ : MethodName) jdk_52_method_5_code 2 (some .char) [] (own_room 0 0 0 0) #[(.ref y0), (.int (0 : Int32))] h0 n0 0 0 (fun v h => v = some (.int (f 0)) ∧ h = h0) := by
  refine Ctr.of (plainFor_of_name own_pn3) ?_
  intro p e s m below meth c T0 hx hby hml hret hlk hnm hown hZ X0
  rw [own_ef57 m (y0) ((0 : Int32))]
  refine g_getS X0 hx hby hZ hown (hw _ (List.mem_of_getElem? (i := 79) rfl)) Via.refl Sd own_d11_0 (pc' := 3) rfl (fun T58 X58 => ?_)
  refine g_if_ne X58 hx hby own_d11_3 (by decide) (pc' := 28) (by decide) (pc2 := 6) rfl (fun c3_59 => ?_) (fun q => absurd q (by decide))
  refine g_iloadN X58 hx hby own_d11_28 rfl (pc' := 29) rfl ?_
  refine g_iconst (v := 1) X58 hx hby own_d11_29 rfl (pc' := 30) rfl ?_
  refine g_ishl X58 hx hby own_d11_30 (pc' := 31) rfl ?_
  refine g_istoreN (L' := #[.val (.ref y0), .val (.int ((0 : Int32) <<< ((1 : Int32) &&& 31)))]) X58 hx hby own_d11_31 rfl (pc' := 32) rfl ?_
  refine g_aloadN X58 hx hby own_d11_32 rfl rfl (pc' := 33) rfl ?_
  refine g_iloadN X58 hx hby own_d11_33 rfl (pc' := 34) rfl ?_
  refine g_iinc (y := 1) (L' := #[.val (.ref y0), .val (.int (((0 : Int32) <<< ((1 : Int32) &&& 31)) + (1 : Int32)))]) X58 hx hby own_d11_34 rfl rfl rfl (pc' := 37) rfl ?_
  refine g_baload (i := 0) (v := (.int (own_lo (f 0)))) X58 hx hby hZ LA0 (by decide) (by decide) rfl own_d11_37 (pc' := 38) rfl ?_
  refine g_sipush (v := 255) X58 hx hby own_d11_38 rfl (pc' := 41) rfl ?_
  refine g_iand X58 hx hby own_d11_41 (pc' := 42) rfl ?_
  refine g_getS X58 hx hby hZ hown (hw _ (List.mem_of_getElem? (i := 80) rfl)) Via.refl Sh own_d11_42 (pc' := 45) rfl (fun T60 X60 => ?_)
  refine g_ishl X60 hx hby own_d11_45 (pc' := 46) rfl ?_
  refine g_aloadN X60 hx hby own_d11_46 rfl rfl (pc' := 47) rfl ?_
  refine g_iloadN X60 hx hby own_d11_47 rfl (pc' := 48) rfl ?_
  refine g_baload (i := 1) (v := (.int (own_hi (f 0)))) X60 hx hby hZ LA0 (by decide) (by decide) rfl own_d11_48 (pc' := 49) rfl ?_
  refine g_sipush (v := 255) X60 hx hby own_d11_49 rfl (pc' := 52) rfl ?_
  refine g_iand X60 hx hby own_d11_52 (pc' := 53) rfl ?_
  refine g_getS X60 hx hby hZ hown (hw _ (List.mem_of_getElem? (i := 81) rfl)) Via.refl Sl own_d11_53 (pc' := 56) rfl (fun T61 X61 => ?_)
  refine g_ishl X61 hx hby own_d11_56 (pc' := 57) rfl ?_
  refine g_ior X61 hx hby own_d11_57 (pc' := 58) rfl ?_
  refine g_i2c X61 hx hby own_d11_58 (pc' := 59) rfl ?_
  exact g_retN X61 hx hby hret hlk (by simp) own_d11_59 ⟨congrArg (fun z => some (Value.int z)) (own_get (hr 0)), rfl⟩ (by decide) (by decide)
set_option maxRecDepth 65536 in
set_option maxHeartbeats 40000000 in
theorem own_ef62 (m : MethodId) (y0 : Addr) (y1 : Int32) (y2 : Int32)  : entryFrame m #[(.ref y0), (.int y1), (.int y2)] 5 = mkF m 0 #[.val (.ref y0), .val (.int y1), .val (.int y2), .unset, .unset] [] := by first | (simp [entryFrame, mkF, argsToLocals, Value.category, maxLocals]; done) | rfl
theorem own_d12_0 : decode jdk_52_method_14_code 0 = .ok (.iload_n 2, 1) := by decide +kernel
theorem own_d12_1 : decode jdk_52_method_14_code 1 = .ok (.invokestatic 107, 3) := by decide +kernel
theorem own_pd6 : parseMethodDescriptor "(I)[B" = some ⟨[.int], (some (.array .byte))⟩ := by decide +kernel
theorem own_d12_4 : decode jdk_52_method_14_code 4 = .ok (.astore_n 3, 1) := by decide +kernel
theorem own_d12_5 : decode jdk_52_method_14_code 5 = .ok (.iconst 0, 1) := by decide +kernel
theorem own_d12_6 : decode jdk_52_method_14_code 6 = .ok (.istore 4, 2) := by decide +kernel
theorem own_d12_8 : decode jdk_52_method_14_code 8 = .ok (.iload 4, 2) := by decide +kernel
theorem own_d12_10 : decode jdk_52_method_14_code 10 = .ok (.iload_n 2, 1) := by decide +kernel
theorem own_d12_11 : decode jdk_52_method_14_code 11 = .ok (.if_icmp .ge 21, 3) := by decide +kernel
theorem own_d12_14 : decode jdk_52_method_14_code 14 = .ok (.aload_n 3, 1) := by decide +kernel
theorem own_d12_15 : decode jdk_52_method_14_code 15 = .ok (.iload 4, 2) := by decide +kernel
theorem own_d12_17 : decode jdk_52_method_14_code 17 = .ok (.aload_n 0, 1) := by decide +kernel
theorem own_d12_18 : decode jdk_52_method_14_code 18 = .ok (.iload_n 1, 1) := by decide +kernel
theorem own_d12_19 : decode jdk_52_method_14_code 19 = .ok (.caload, 1) := by decide +kernel
theorem own_d12_20 : decode jdk_52_method_14_code 20 = .ok (.invokestatic 111, 3) := by decide +kernel
theorem own_pd7 : parseMethodDescriptor "([BII)V" = some ⟨[(.array .byte), .int, .int], none⟩ := by decide +kernel
theorem own_d12_23 : decode jdk_52_method_14_code 23 = .ok (.iinc 1 1, 3) := by decide +kernel
theorem own_d12_26 : decode jdk_52_method_14_code 26 = .ok (.iinc 4 1, 3) := by decide +kernel
theorem own_d12_29 : decode jdk_52_method_14_code 29 = .ok (.goto (-21), 3) := by decide +kernel
theorem own_d12_32 : decode jdk_52_method_14_code 32 = .ok (.aload_n 3, 1) := by decide +kernel
theorem own_d12_33 : decode jdk_52_method_14_code 33 = .ok (.areturn, 1) := by decide +kernel
set_option maxRecDepth 65536 in
set_option maxHeartbeats 40000000 in
theorem own_tb_1 (l : Launch) (Z : State) (a0 : Array Value) (hw : ∀ d ∈ tables_1, d.before a0 Z = true) (y0 : Addr) (h0 : Heap) (n0 : Nat) (Z0 : n0 ≤ h0.size) (f : Nat → Int32) (LA0 : Ary Z h0 y0 .char 1 (fun i => .int (f i))) (Sd : Sta Z h0 "java/lang/StringUTF16" "$assertionsDisabled" "Z" (.int 1)) (Sh : Sta Z h0 "java/lang/StringUTF16" "HI_BYTE_SHIFT" "I" (.int 0)) (Sl : Sta Z h0 "java/lang/StringUTF16" "LO_BYTE_SHIFT" "I" (.int 8)) :
    Ctr l Z (⟨"java/lang/StringUTF16", "toBytes", "([CII)[B"⟩ : MethodName) jdk_52_method_14_code 5 (some (.array .byte)) [] (own_room 2 1 2 24) #[(.ref y0), (.int (0 : Int32)), (.int (1 : Int32))] h0 n0 1 2 (fun v h => ∃ b, v = some (.ref b) ∧ Keep h0 h [] ∧ h0.size ≤ b ∧ n0 ≤ b ∧ Ary Z h b .byte 2 (fun i => .int (own_ub f i))) := by
  refine Ctr.of (plainFor_of_name own_pn3) ?_
  intro p e s m below meth c T0 hx hby hml hret hlk hnm hown hZ X0
  rw [own_ef62 m (y0) ((0 : Int32)) ((1 : Int32))]
  refine g_iloadN X0 hx hby own_d12_0 rfl (pc' := 1) rfl ?_
  refine g_callS (argsL := [(.int (1 : Int32))]) (S := []) X0 hx hby hZ (y := (⟨"java/lang/StringUTF16", "newBytesFor", "(I)[B"⟩ : MethodName)) hown (hw _ (List.mem_of_getElem? (i := 69) rfl)) (hw _ (List.mem_of_getElem? (i := 70) rfl)) (hw _ (List.mem_of_getElem? (i := 55) rfl)) (hw _ (List.mem_of_getElem? (i := 71) rfl)) (by decide) (own_nf_1 l Z a0 hw h0 n0 Z0) (by rw [hml]; rfl) (lenOf own_pd6 rfl) rfl own_d12_1 (by decide) (W := 0) (by exact Nat.le_of_eq rfl) (by decide) (by decide) (by decide) (pc' := 4) rfl (fun T63 v63 X63 hQ63 => ?_)
  obtain ⟨b63, rfl, ka63, hb63, nb63, aa63⟩ := hQ63
  have ne63_y0 : y0 ≠ b63 := Nat.ne_of_lt (Nat.lt_of_lt_of_le LA0.lt hb63)
  have q64 := own_sta_keep Sd ka63 all0
  have q65 := own_sta_keep Sh ka63 all0
  have q66 := own_sta_keep Sl ka63 all0
  have q67 := LA0.keep ka63 nin0
  have zz68 := Nat.le_trans Z0 ka63.1
  have kk69 : Keep h0 T63.heap [] := (Keep.refl h0 []).trans ka63 all0
  show Gl p e below n0 _ _ (T63.setTop (mkF m 4 #[.val (.ref y0), .val (.int (0 : Int32)), .val (.int (1 : Int32)), .unset, .unset] [(.ref b63)]))
  refine g_astoreN (L' := #[.val (.ref y0), .val (.int (0 : Int32)), .val (.int (1 : Int32)), .val (.ref b63), .unset]) X63 hx hby own_d12_4 rfl rfl (pc' := 5) rfl ?_
  refine g_iconst (v := 0) X63 hx hby own_d12_5 rfl (pc' := 6) rfl ?_
  refine g_istore (L' := #[.val (.ref y0), .val (.int (0 : Int32)), .val (.int (1 : Int32)), .val (.ref b63), .val (.int (0 : Int32))]) X63 hx hby own_d12_6 rfl (pc' := 8) rfl ?_
  refine g_iload X63 hx hby own_d12_8 rfl (pc' := 10) rfl ?_
  refine g_iloadN X63 hx hby own_d12_10 rfl (pc' := 11) rfl ?_
  refine g_icmp_ge X63 hx hby own_d12_11 (by decide) (pc' := 32) (by decide) (pc2 := 14) rfl (fun q => absurd (by decide) q) (fun c11_70 => ?_)
  refine g_aloadN X63 hx hby own_d12_14 rfl rfl (pc' := 15) rfl ?_
  refine g_iload X63 hx hby own_d12_15 rfl (pc' := 17) rfl ?_
  refine g_aloadN X63 hx hby own_d12_17 rfl rfl (pc' := 18) rfl ?_
  refine g_iloadN X63 hx hby own_d12_18 rfl (pc' := 19) rfl ?_
  refine g_caload (i := 0) (v := (.int (f 0))) X63 hx hby hZ q67 (by decide) (by decide) rfl own_d12_19 (pc' := 20) rfl ?_
  refine g_callS (argsL := [(.ref b63), (.int (0 : Int32)), (.int (f 0))]) (S := []) X63 hx hby hZ (y := (⟨"java/lang/StringUTF16", "putChar", "([BII)V"⟩ : MethodName)) hown (hw _ (List.mem_of_getElem? (i := 76) rfl)) (hw _ (List.mem_of_getElem? (i := 77) rfl)) (hw _ (List.mem_of_getElem? (i := 55) rfl)) (hw _ (List.mem_of_getElem? (i := 78) rfl)) (by decide) (own_pu_1_0 l Z a0 hw b63 (f 0) T63.heap n0 zz68 _ aa63 nb63 q64 q65 q66) (by rw [hml]; rfl) (lenOf own_pd7 rfl) rfl own_d12_20 (by decide) (W := 0) (by exact Nat.le_of_eq rfl) (by decide) (by decide) (by decide) (pc' := 23) rfl (fun T71 v71 X71 hQ71 => ?_)
  obtain ⟨rfl, ka71, aa71⟩ := hQ71
  have q72 := own_sta_keep q64 ka71 (allS (own_plainA aa63) all0)
  have q73 := own_sta_keep q65 ka71 (allS (own_plainA aa63) all0)
  have q74 := own_sta_keep q66 ka71 (allS (own_plainA aa63) all0)
  have q75 := q67.keep ka71 (ninS ne63_y0 nin0)
  have zz76 := Nat.le_trans zz68 ka71.1
  have kk77 : Keep h0 T71.heap [] := kk69.trans ka71 (allS (Or.inr (Nat.le_trans (Keep.refl h0 []).1 hb63)) all0)
  show Gl p e below n0 _ _ (T71.setTop (mkF m 23 #[.val (.ref y0), .val (.int (0 : Int32)), .val (.int (1 : Int32)), .val (.ref b63), .val (.int (0 : Int32))] []))
  refine g_iinc (y := 1) (L' := #[.val (.ref y0), .val (.int (1 : Int32)), .val (.int (1 : Int32)), .val (.ref b63), .val (.int (0 : Int32))]) X71 hx hby own_d12_23 rfl rfl rfl (pc' := 26) rfl ?_
  refine g_iinc (y := 1) (L' := #[.val (.ref y0), .val (.int (1 : Int32)), .val (.int (1 : Int32)), .val (.ref b63), .val (.int (1 : Int32))]) X71 hx hby own_d12_26 rfl rfl rfl (pc' := 29) rfl ?_
  refine g_goto X71 hx hby own_d12_29 (by decide) (pc' := 8) (by decide) ?_
  refine g_iload X71 hx hby own_d12_8 rfl (pc' := 10) rfl ?_
  refine g_iloadN X71 hx hby own_d12_10 rfl (pc' := 11) rfl ?_
  refine g_icmp_ge X71 hx hby own_d12_11 (by decide) (pc' := 32) (by decide) (pc2 := 14) rfl (fun c11_78 => ?_) (fun q => absurd q (by decide))
  refine g_aloadN X71 hx hby own_d12_32 rfl rfl (pc' := 33) rfl ?_
  exact g_retA X71 hx hby hret hlk rfl rfl own_d12_33 ⟨b63, rfl, kk77, (Nat.le_trans (Keep.refl h0 []).1 hb63), nb63, aa71.congr fun i hi => by
    have h8 : i = 0 ∨ i = 1 := by omega
    rcases h8 with rfl | rfl <;> rfl⟩ (by decide) (by decide)
set_option maxRecDepth 65536 in
set_option maxHeartbeats 40000000 in
theorem own_ef79 (m : MethodId) (y0 : Addr) (y1 : Int32) (y2 : Addr) (y3 : Int32) (y4 : Int32)  : entryFrame m #[(.ref y0), (.int y1), (.ref y2), (.int y3), (.int y4)] 7 = mkF m 0 #[.val (.ref y0), .val (.int y1), .val (.ref y2), .val (.int y3), .val (.int y4), .unset, .unset] [] := by first | (simp [entryFrame, mkF, argsToLocals, Value.category, maxLocals]; done) | rfl
theorem own_d13_0 : decode jdk_52_method_21_code 0 = .ok (.iconst 0, 1) := by decide +kernel
theorem own_d13_1 : decode jdk_52_method_21_code 1 = .ok (.istore 5, 2) := by decide +kernel
theorem own_d13_3 : decode jdk_52_method_21_code 3 = .ok (.iload 5, 2) := by decide +kernel
theorem own_d13_5 : decode jdk_52_method_21_code 5 = .ok (.iload 4, 2) := by decide +kernel
theorem own_d13_7 : decode jdk_52_method_21_code 7 = .ok (.if_icmp .ge 37, 3) := by decide +kernel
theorem own_d13_10 : decode jdk_52_method_21_code 10 = .ok (.aload_n 0, 1) := by decide +kernel
theorem own_d13_11 : decode jdk_52_method_21_code 11 = .ok (.iload_n 1, 1) := by decide +kernel
theorem own_d13_12 : decode jdk_52_method_21_code 12 = .ok (.caload, 1) := by decide +kernel
theorem own_d13_13 : decode jdk_52_method_21_code 13 = .ok (.istore 6, 2) := by decide +kernel
theorem own_d13_15 : decode jdk_52_method_21_code 15 = .ok (.iload 6, 2) := by decide +kernel
theorem own_d13_17 : decode jdk_52_method_21_code 17 = .ok (.sipush 255, 3) := by decide +kernel
theorem own_d13_20 : decode jdk_52_method_21_code 20 = .ok (.if_icmp .le 6, 3) := by decide +kernel
theorem own_d13_26 : decode jdk_52_method_21_code 26 = .ok (.aload_n 2, 1) := by decide +kernel
theorem own_d13_27 : decode jdk_52_method_21_code 27 = .ok (.iload_n 3, 1) := by decide +kernel
theorem own_d13_28 : decode jdk_52_method_21_code 28 = .ok (.iload 6, 2) := by decide +kernel
theorem own_d13_30 : decode jdk_52_method_21_code 30 = .ok (.i2b, 1) := by decide +kernel
theorem own_d13_31 : decode jdk_52_method_21_code 31 = .ok (.bastore, 1) := by decide +kernel
theorem own_d13_32 : decode jdk_52_method_21_code 32 = .ok (.iinc 1 1, 3) := by decide +kernel
theorem own_d13_35 : decode jdk_52_method_21_code 35 = .ok (.iinc 3 1, 3) := by decide +kernel
theorem own_d13_38 : decode jdk_52_method_21_code 38 = .ok (.iinc 5 1, 3) := by decide +kernel
theorem own_d13_41 : decode jdk_52_method_21_code 41 = .ok (.goto (-38), 3) := by decide +kernel
theorem own_d13_44 : decode jdk_52_method_21_code 44 = .ok (.iload 4, 2) := by decide +kernel
theorem own_d13_46 : decode jdk_52_method_21_code 46 = .ok (.ireturn, 1) := by decide +kernel
theorem own_d13_23 : decode jdk_52_method_21_code 23 = .ok (.iload 5, 2) := by decide +kernel
theorem own_d13_25 : decode jdk_52_method_21_code 25 = .ok (.ireturn, 1) := by decide +kernel
set_option maxRecDepth 65536 in
set_option maxHeartbeats 40000000 in
theorem own_p5_1 (l : Launch) (Z : State) (a0 : Array Value) (hw : ∀ d ∈ tables_1, d.before a0 Z = true) (y0 y2 : Addr) (h0 : Heap) (n0 : Nat) (Z0 : n0 ≤ h0.size) (f : Nat → Int32) (g : Nat → Value) (LA0 : Ary Z h0 y0 .char 1 (fun i => .int (f i))) (LA2 : Ary Z h0 y2 .byte 1 g) (gn : n0 ≤ y2) :
    Ctr l Z (⟨"java/lang/StringUTF16", "compress", "([CI[BII)I"⟩ : MethodName) jdk_52_method_21_code 7 (some .int) [] (own_room 0 0 0 0) #[(.ref y0), (.int (0 : Int32)), (.ref y2), (.int (0 : Int32)), (.int (1 : Int32))] h0 n0 0 0 (fun v h => (v = some (.int 1) ∧ Keep h0 h [y2] ∧ Ary Z h y2 .byte 1 (fun i => .int (own_y (f i))) ∧ ∀ i, i < 1 → ¬ (255 : Int32) < f i) ∨ (v = some (.int 0) ∧ Keep h0 h [y2] ∧ (255 : Int32) < f 0)) := by
  refine Ctr.of (plainFor_of_name own_pn3) ?_
  intro p e s m below meth c T0 hx hby hml hret hlk hnm hown hZ X0
  rw [own_ef79 m (y0) ((0 : Int32)) (y2) ((0 : Int32)) ((1 : Int32))]
  refine g_iconst (v := 0) X0 hx hby own_d13_0 rfl (pc' := 1) rfl ?_
  refine g_istore (L' := #[.val (.ref y0), .val (.int (0 : Int32)), .val (.ref y2), .val (.int (0 : Int32)), .val (.int (1 : Int32)), .val (.int (0 : Int32)), .unset]) X0 hx hby own_d13_1 rfl (pc' := 3) rfl ?_
  refine g_iload X0 hx hby own_d13_3 rfl (pc' := 5) rfl ?_
  refine g_iload X0 hx hby own_d13_5 rfl (pc' := 7) rfl ?_
  refine g_icmp_ge X0 hx hby own_d13_7 (by decide) (pc' := 44) (by decide) (pc2 := 10) rfl (fun q => absurd (by decide) q) (fun c7_80 => ?_)
  refine g_aloadN X0 hx hby own_d13_10 rfl rfl (pc' := 11) rfl ?_
  refine g_iloadN X0 hx hby own_d13_11 rfl (pc' := 12) rfl ?_
  refine g_caload (i := 0) (v := (.int (f 0))) X0 hx hby hZ LA0 (by decide) (by decide) rfl own_d13_12 (pc' := 13) rfl ?_
  refine g_istore (L' := #[.val (.ref y0), .val (.int (0 : Int32)), .val (.ref y2), .val (.int (0 : Int32)), .val (.int (1 : Int32)), .val (.int (0 : Int32)), .val (.int (f 0))]) X0 hx hby own_d13_13 rfl (pc' := 15) rfl ?_
  refine g_iload X0 hx hby own_d13_15 rfl (pc' := 17) rfl ?_
  refine g_sipush (v := 255) X0 hx hby own_d13_17 rfl (pc' := 20) rfl ?_
  refine g_icmp_le X0 hx hby own_d13_20 (by decide) (pc' := 26) (by decide) (pc2 := 23) rfl (fun c20_81 => ?_) (fun c20_81 => ?_)
  · refine g_aloadN X0 hx hby own_d13_26 rfl rfl (pc' := 27) rfl ?_
    refine g_iloadN X0 hx hby own_d13_27 rfl (pc' := 28) rfl ?_
    refine g_iload X0 hx hby own_d13_28 rfl (pc' := 30) rfl ?_
    refine g_i2b X0 hx hby own_d13_30 (pc' := 31) rfl ?_
    refine g_bastore (i := 0) X0 hx hby hZ LA2 rfl (by decide) gn own_d13_31 (pc' := 32) rfl (fun T82 h82 sl82 X82 W82 A82 => ?_)
    have q83 := LA0.other W82 (own_ne_ty LA0 LA2 (by decide))
    have zz84 := Nat.le_trans Z0 (Nat.le_of_eq W82.size.symm)
    have kk85 : Keep h0 h82 [y2] := (Keep.refl h0 [y2]).wr W82 (Or.inl (by simp))
    refine g_iinc (y := 1) (L' := #[.val (.ref y0), .val (.int (1 : Int32)), .val (.ref y2), .val (.int (0 : Int32)), .val (.int (1 : Int32)), .val (.int (0 : Int32)), .val (.int (f 0))]) X82 hx hby own_d13_32 rfl rfl rfl (pc' := 35) rfl ?_
    refine g_iinc (y := 1) (L' := #[.val (.ref y0), .val (.int (1 : Int32)), .val (.ref y2), .val (.int (1 : Int32)), .val (.int (1 : Int32)), .val (.int (0 : Int32)), .val (.int (f 0))]) X82 hx hby own_d13_35 rfl rfl rfl (pc' := 38) rfl ?_
    refine g_iinc (y := 1) (L' := #[.val (.ref y0), .val (.int (1 : Int32)), .val (.ref y2), .val (.int (1 : Int32)), .val (.int (1 : Int32)), .val (.int (1 : Int32)), .val (.int (f 0))]) X82 hx hby own_d13_38 rfl rfl rfl (pc' := 41) rfl ?_
    refine g_goto X82 hx hby own_d13_41 (by decide) (pc' := 3) (by decide) ?_
    refine g_iload X82 hx hby own_d13_3 rfl (pc' := 5) rfl ?_
    refine g_iload X82 hx hby own_d13_5 rfl (pc' := 7) rfl ?_
    refine g_icmp_ge X82 hx hby own_d13_7 (by decide) (pc' := 44) (by decide) (pc2 := 10) rfl (fun c7_86 => ?_) (fun q => absurd q (by decide))
    refine g_iload X82 hx hby own_d13_44 rfl (pc' := 46) rfl ?_
    exact g_retI X82 hx hby hret hlk own_d13_46 (Or.inl ⟨rfl, kk85, A82.congr fun i hi => by
      have h8 : i = 0 := by omega
      rcases h8 with rfl <;> rfl, fun i hi => by
      have h8 : i = 0 := by omega
      rcases h8 with rfl
      · exact c20_81⟩) (by decide) (by decide)
  · refine g_iload X0 hx hby own_d13_23 rfl (pc' := 25) rfl ?_
    exact g_retI X0 hx hby hret hlk own_d13_25 (Or.inr ⟨rfl, (Keep.refl h0 [y2]), c20_81⟩) (by decide) (by decide)
set_option maxRecDepth 65536 in
set_option maxHeartbeats 40000000 in
theorem own_ef87 (m : MethodId) (y0 : Addr) (y1 : Int32) (y2 : Int32)  : entryFrame m #[(.ref y0), (.int y1), (.int y2)] 6 = mkF m 0 #[.val (.ref y0), .val (.int y1), .val (.int y2), .unset, .unset, .unset] [] := by first | (simp [entryFrame, mkF, argsToLocals, Value.category, maxLocals]; done) | rfl
theorem own_d14_0 : decode jdk_52_method_16_code 0 = .ok (.iload_n 2, 1) := by decide +kernel
theorem own_d14_1 : decode jdk_52_method_16_code 1 = .ok (.newarray .byte, 2) := by decide +kernel
theorem own_d14_3 : decode jdk_52_method_16_code 3 = .ok (.astore_n 3, 1) := by decide +kernel
theorem own_d14_4 : decode jdk_52_method_16_code 4 = .ok (.aload_n 0, 1) := by decide +kernel
theorem own_d14_5 : decode jdk_52_method_16_code 5 = .ok (.iload_n 1, 1) := by decide +kernel
theorem own_d14_6 : decode jdk_52_method_16_code 6 = .ok (.aload_n 3, 1) := by decide +kernel
theorem own_d14_7 : decode jdk_52_method_16_code 7 = .ok (.iconst 0, 1) := by decide +kernel
theorem own_d14_8 : decode jdk_52_method_16_code 8 = .ok (.iload_n 2, 1) := by decide +kernel
theorem own_d14_9 : decode jdk_52_method_16_code 9 = .ok (.invokestatic 115, 3) := by decide +kernel
theorem own_pd8 : parseMethodDescriptor "([CI[BII)I" = some ⟨[(.array .char), .int, (.array .byte), .int, .int], (some .int)⟩ := by decide +kernel
theorem own_d14_12 : decode jdk_52_method_16_code 12 = .ok (.istore 4, 2) := by decide +kernel
theorem own_d14_14 : decode jdk_52_method_16_code 14 = .ok (.iload 4, 2) := by decide +kernel
theorem own_d14_16 : decode jdk_52_method_16_code 16 = .ok (.iload_n 2, 1) := by decide +kernel
theorem own_d14_17 : decode jdk_52_method_16_code 17 = .ok (.if_icmp .eq 40, 3) := by decide +kernel
theorem own_d14_57 : decode jdk_52_method_16_code 57 = .ok (.aload_n 3, 1) := by decide +kernel
theorem own_d14_58 : decode jdk_52_method_16_code 58 = .ok (.areturn, 1) := by decide +kernel
theorem own_d14_20 : decode jdk_52_method_16_code 20 = .ok (.aload_n 0, 1) := by decide +kernel
theorem own_d14_21 : decode jdk_52_method_16_code 21 = .ok (.iload_n 1, 1) := by decide +kernel
theorem own_d14_22 : decode jdk_52_method_16_code 22 = .ok (.iload_n 2, 1) := by decide +kernel
theorem own_d14_23 : decode jdk_52_method_16_code 23 = .ok (.invokestatic 119, 3) := by decide +kernel
theorem own_pd9 : parseMethodDescriptor "([CII)[B" = some ⟨[(.array .char), .int, .int], (some (.array .byte))⟩ := by decide +kernel
theorem own_d14_26 : decode jdk_52_method_16_code 26 = .ok (.astore 5, 2) := by decide +kernel
theorem own_d14_28 : decode jdk_52_method_16_code 28 = .ok (.aload 5, 2) := by decide +kernel
theorem own_d14_30 : decode jdk_52_method_16_code 30 = .ok (.iload 4, 2) := by decide +kernel
theorem own_d14_32 : decode jdk_52_method_16_code 32 = .ok (.invokestatic 71, 3) := by decide +kernel
theorem own_d14_35 : decode jdk_52_method_16_code 35 = .ok (.sipush 255, 3) := by decide +kernel
theorem own_d14_38 : decode jdk_52_method_16_code 38 = .ok (.if_icmp .gt 16, 3) := by decide +kernel
theorem own_d14_54 : decode jdk_52_method_16_code 54 = .ok (.aload 5, 2) := by decide +kernel
theorem own_d14_56 : decode jdk_52_method_16_code 56 = .ok (.areturn, 1) := by decide +kernel
set_option maxRecDepth 65536 in
set_option maxHeartbeats 40000000 in
theorem own_p3_1 (l : Launch) (Z : State) (a0 : Array Value) (hw : ∀ d ∈ tables_1, d.before a0 Z = true) (y0 : Addr) (h0 : Heap) (n0 : Nat) (Z0 : n0 ≤ h0.size) (f : Nat → Int32) (hr : ∀ i, 0 ≤ (f i).toInt ∧ (f i).toInt ≤ 65535) (LA0 : Ary Z h0 y0 .char 1 (fun i => .int (f i))) (Sd : Sta Z h0 "java/lang/StringUTF16" "$assertionsDisabled" "Z" (.int 1)) (Sh : Sta Z h0 "java/lang/StringUTF16" "HI_BYTE_SHIFT" "I" (.int 0)) (Sl : Sta Z h0 "java/lang/StringUTF16" "LO_BYTE_SHIFT" "I" (.int 8)) :
    Ctr l Z (⟨"java/lang/StringUTF16", "compress", "([CII)[B"⟩ : MethodName) jdk_52_method_16_code 6 (some (.array .byte)) [] (own_room 3 2 6 40) #[(.ref y0), (.int (0 : Int32)), (.int (1 : Int32))] h0 n0 2 6 (fun v h => ∃ b, v = some (.ref b) ∧ Keep h0 h [] ∧ h0.size ≤ b ∧ n0 ≤ b ∧ ((Ary Z h b .byte 1 (fun i => .int (own_y (f i))) ∧ ∀ i, i < 1 → ¬ (255 : Int32) < f i) ∨ Ary Z h b .byte 2 (fun i => .int (own_ub f i)))) := by
  refine Ctr.of (plainFor_of_name own_pn3) ?_
  intro p e s m below meth c T0 hx hby hml hret hlk hnm hown hZ X0
  rw [own_ef87 m (y0) ((0 : Int32)) ((1 : Int32))]
  refine g_iloadN X0 hx hby own_d14_0 rfl (pc' := 1) rfl ?_
  refine g_newarray (k := 1) (cap := 1) X0 hx hby hZ (hw _ (List.mem_of_getElem? (i := 23) rfl)) own_d14_1 rfl (by decide) (by decide) (by decide) (by decide) (pc' := 3) rfl (fun T88 h88 b88 g88 X88 E88 A88 => ?_)
  have ne89 : y0 ≠ b88 := by rw [g88]; exact Nat.ne_of_lt LA0.lt
  have nn90 : n0 ≤ b88 := by rw [g88]; exact Z0
  have hh91 : h0.size ≤ b88 := by rw [g88]; exact (Keep.refl h0 []).1
  have q92 := Sd.ext E88
  have q93 := Sh.ext E88
  have q94 := Sl.ext E88
  have q95 := LA0.ext E88
  have zz96 := Nat.le_trans Z0 E88.1
  have kk97 : Keep h0 h88 [] := (Keep.refl h0 []).ext E88
  refine g_astoreN (L' := #[.val (.ref y0), .val (.int (0 : Int32)), .val (.int (1 : Int32)), .val (.ref b88), .unset, .unset]) X88 hx hby own_d14_3 rfl rfl (pc' := 4) rfl ?_
  refine g_aloadN X88 hx hby own_d14_4 rfl rfl (pc' := 5) rfl ?_
  refine g_iloadN X88 hx hby own_d14_5 rfl (pc' := 6) rfl ?_
  refine g_aloadN X88 hx hby own_d14_6 rfl rfl (pc' := 7) rfl ?_
  refine g_iconst (v := 0) X88 hx hby own_d14_7 rfl (pc' := 8) rfl ?_
  refine g_iloadN X88 hx hby own_d14_8 rfl (pc' := 9) rfl ?_
  refine g_callS (argsL := [(.ref y0), (.int (0 : Int32)), (.ref b88), (.int (0 : Int32)), (.int (1 : Int32))]) (S := []) X88 hx hby hZ (y := (⟨"java/lang/StringUTF16", "compress", "([CI[BII)I"⟩ : MethodName)) hown (hw _ (List.mem_of_getElem? (i := 57) rfl)) (hw _ (List.mem_of_getElem? (i := 58) rfl)) (hw _ (List.mem_of_getElem? (i := 55) rfl)) (hw _ (List.mem_of_getElem? (i := 59) rfl)) (by decide) (own_p5_1 l Z a0 hw y0 b88 h88 n0 zz96 f _ q95 A88 nn90) (by rw [hml]; rfl) (lenOf own_pd8 rfl) rfl own_d14_9 (by decide) (W := 0) (by exact Nat.le_of_eq rfl) (by decide) (by decide) (by decide) (pc' := 12) rfl (fun T98 v98 X98 hQ98 => ?_)
  rcases hQ98 with ⟨rfl, ka98, aa98, hle98⟩ | ⟨rfl, ka98, hgt98⟩
  · have q99 := own_sta_keep q92 ka98 (allS (own_plainA A88) all0)
    have q100 := own_sta_keep q93 ka98 (allS (own_plainA A88) all0)
    have q101 := own_sta_keep q94 ka98 (allS (own_plainA A88) all0)
    have q102 := q95.keep ka98 (ninS ne89 nin0)
    have zz103 := Nat.le_trans zz96 ka98.1
    have kk104 : Keep h0 T98.heap [] := kk97.trans ka98 (allS (Or.inr hh91) all0)
    show Gl p e below n0 _ _ (T98.setTop (mkF m 12 #[.val (.ref y0), .val (.int (0 : Int32)), .val (.int (1 : Int32)), .val (.ref b88), .unset, .unset] [(.int (1 : Int32))]))
    refine g_istore (L' := #[.val (.ref y0), .val (.int (0 : Int32)), .val (.int (1 : Int32)), .val (.ref b88), .val (.int (1 : Int32)), .unset]) X98 hx hby own_d14_12 rfl (pc' := 14) rfl ?_
    refine g_iload X98 hx hby own_d14_14 rfl (pc' := 16) rfl ?_
    refine g_iloadN X98 hx hby own_d14_16 rfl (pc' := 17) rfl ?_
    refine g_icmp_eq X98 hx hby own_d14_17 (by decide) (pc' := 57) (by decide) (pc2 := 20) rfl (fun c17_105 => ?_) (fun q => absurd (by decide) q)
    refine g_aloadN X98 hx hby own_d14_57 rfl rfl (pc' := 58) rfl ?_
    exact g_retA X98 hx hby hret hlk rfl rfl own_d14_58 ⟨b88, rfl, kk104, hh91, nn90, Or.inl ⟨aa98, hle98⟩⟩ (by decide) (by decide)
  · have q106 := own_sta_keep q92 ka98 (allS (own_plainA A88) all0)
    have q107 := own_sta_keep q93 ka98 (allS (own_plainA A88) all0)
    have q108 := own_sta_keep q94 ka98 (allS (own_plainA A88) all0)
    have q109 := q95.keep ka98 (ninS ne89 nin0)
    have zz110 := Nat.le_trans zz96 ka98.1
    have kk111 : Keep h0 T98.heap [] := kk97.trans ka98 (allS (Or.inr hh91) all0)
    show Gl p e below n0 _ _ (T98.setTop (mkF m 12 #[.val (.ref y0), .val (.int (0 : Int32)), .val (.int (1 : Int32)), .val (.ref b88), .unset, .unset] [(.int (0 : Int32))]))
    refine g_istore (L' := #[.val (.ref y0), .val (.int (0 : Int32)), .val (.int (1 : Int32)), .val (.ref b88), .val (.int (0 : Int32)), .unset]) X98 hx hby own_d14_12 rfl (pc' := 14) rfl ?_
    refine g_iload X98 hx hby own_d14_14 rfl (pc' := 16) rfl ?_
    refine g_iloadN X98 hx hby own_d14_16 rfl (pc' := 17) rfl ?_
    refine g_icmp_eq X98 hx hby own_d14_17 (by decide) (pc' := 57) (by decide) (pc2 := 20) rfl (fun q => absurd q (by decide)) (fun c17_112 => ?_)
    refine g_aloadN X98 hx hby own_d14_20 rfl rfl (pc' := 21) rfl ?_
    refine g_iloadN X98 hx hby own_d14_21 rfl (pc' := 22) rfl ?_
    refine g_iloadN X98 hx hby own_d14_22 rfl (pc' := 23) rfl ?_
    refine g_callS (argsL := [(.ref y0), (.int (0 : Int32)), (.int (1 : Int32))]) (S := []) X98 hx hby hZ (y := (⟨"java/lang/StringUTF16", "toBytes", "([CII)[B"⟩ : MethodName)) hown (hw _ (List.mem_of_getElem? (i := 66) rfl)) (hw _ (List.mem_of_getElem? (i := 67) rfl)) (hw _ (List.mem_of_getElem? (i := 55) rfl)) (hw _ (List.mem_of_getElem? (i := 68) rfl)) (by decide) (own_tb_1 l Z a0 hw y0 T98.heap n0 zz110 f q109 q106 q107 q108) (by rw [hml]; rfl) (lenOf own_pd9 rfl) rfl own_d14_23 (by decide) (W := 0) (by exact Nat.le_of_eq rfl) (by decide) (by decide) (by decide) (pc' := 26) rfl (fun T113 v113 X113 hQ113 => ?_)
    obtain ⟨b113, rfl, ka113, hb113, nb113, aa113⟩ := hQ113
    have ne113_y0 : y0 ≠ b113 := Nat.ne_of_lt (Nat.lt_of_lt_of_le q109.lt hb113)
    have q114 := own_sta_keep q106 ka113 all0
    have q115 := own_sta_keep q107 ka113 all0
    have q116 := own_sta_keep q108 ka113 all0
    have q117 := q109.keep ka113 nin0
    have zz118 := Nat.le_trans zz110 ka113.1
    have kk119 : Keep h0 T113.heap [] := kk111.trans ka113 all0
    show Gl p e below n0 _ _ (T113.setTop (mkF m 26 #[.val (.ref y0), .val (.int (0 : Int32)), .val (.int (1 : Int32)), .val (.ref b88), .val (.int (0 : Int32)), .unset] [(.ref b113)]))
    refine g_astore (L' := #[.val (.ref y0), .val (.int (0 : Int32)), .val (.int (1 : Int32)), .val (.ref b88), .val (.int (0 : Int32)), .val (.ref b113)]) X113 hx hby own_d14_26 rfl rfl (pc' := 28) rfl ?_
    refine g_aload X113 hx hby own_d14_28 rfl rfl (pc' := 30) rfl ?_
    refine g_iload X113 hx hby own_d14_30 rfl (pc' := 32) rfl ?_
    refine g_callS (argsL := [(.ref b113), (.int (0 : Int32))]) (S := []) X113 hx hby hZ (y := (⟨"java/lang/StringUTF16", "getChar", "([BI)C"⟩ : MethodName)) hown (hw _ (List.mem_of_getElem? (i := 82) rfl)) (hw _ (List.mem_of_getElem? (i := 83) rfl)) (hw _ (List.mem_of_getElem? (i := 55) rfl)) (hw _ (List.mem_of_getElem? (i := 84) rfl)) (by decide) (own_gc_1_0 l Z a0 hw b113 T113.heap n0 f hr aa113 q114 q115 q116) (by rw [hml]; rfl) (lenOf own_pd4 rfl) rfl own_d14_32 (by decide) (W := 0) (by exact Nat.le_of_eq rfl) (by decide) (by decide) (by decide) (pc' := 35) rfl (fun T120 v120 X120 hQ120 => ?_)
    obtain ⟨rfl, e120⟩ := hQ120
    rw [e120] at X120
    show Gl p e below n0 _ _ (T120.setTop (mkF m 35 #[.val (.ref y0), .val (.int (0 : Int32)), .val (.int (1 : Int32)), .val (.ref b88), .val (.int (0 : Int32)), .val (.ref b113)] [(.int (f 0))]))
    refine g_sipush (v := 255) X120 hx hby own_d14_35 rfl (pc' := 38) rfl ?_
    refine g_icmp_gt X120 hx hby own_d14_38 (by decide) (pc' := 54) (by decide) (pc2 := 41) rfl (fun c38_121 => ?_) (fun q => absurd hgt98 q)
    refine g_aload X120 hx hby own_d14_54 rfl rfl (pc' := 56) rfl ?_
    exact g_retA X120 hx hby hret hlk rfl rfl own_d14_56 ⟨b113, rfl, kk119, (Nat.le_trans kk111.1 hb113), nb113, Or.inr aa113⟩ (by decide) (by decide)
set_option maxRecDepth 65536 in
set_option maxHeartbeats 40000000 in
theorem own_ef122 (m : MethodId) (y0 : Addr) (y1 : Int32)  : entryFrame m #[(.ref y0), (.int y1)] 2 = mkF m 0 #[.val (.ref y0), .val (.int y1)] [] := by first | (simp [entryFrame, mkF, argsToLocals, Value.category, maxLocals]; done) | rfl
theorem own_d15_0 : decode jdk_52_method_15_code 0 = .ok (.iload_n 1, 1) := by decide +kernel
theorem own_d15_1 : decode jdk_52_method_15_code 1 = .ok (.aload_n 0, 1) := by decide +kernel
theorem own_d15_2 : decode jdk_52_method_15_code 2 = .ok (.arraylength, 1) := by decide +kernel
theorem own_d15_3 : decode jdk_52_method_15_code 3 = .ok (.isub, 1) := by decide +kernel
theorem own_d15_4 : decode jdk_52_method_15_code 4 = .ok (.bipush 31, 2) := by decide +kernel
theorem own_d15_6 : decode jdk_52_method_15_code 6 = .ok (.iushr, 1) := by decide +kernel
theorem own_d15_7 : decode jdk_52_method_15_code 7 = .ok (.i2b, 1) := by decide +kernel
theorem own_d15_8 : decode jdk_52_method_15_code 8 = .ok (.ireturn, 1) := by decide +kernel
set_option maxRecDepth 65536 in
set_option maxHeartbeats 40000000 in
theorem own_clL_1 (l : Launch) (Z : State) (a0 : Array Value) (hw : ∀ d ∈ tables_1, d.before a0 Z = true) (y0 : Addr) (h0 : Heap) (n0 : Nat) (f : Nat → Value) (LA0 : Ary Z h0 y0 .byte 1 f) :
    Ctr l Z (⟨"java/lang/StringUTF16", "coderFromArrayLen", "([BI)B"⟩ : MethodName) jdk_52_method_15_code 2 (some .byte) [] (own_room 0 0 0 0) #[(.ref y0), (.int (1 : Int32))] h0 n0 0 0 (fun v h => v = some (.int 0) ∧ h = h0) := by
  refine Ctr.of (plainFor_of_name own_pn3) ?_
  intro p e s m below meth c T0 hx hby hml hret hlk hnm hown hZ X0
  rw [own_ef122 m (y0) ((1 : Int32))]
  refine g_iloadN X0 hx hby own_d15_0 rfl (pc' := 1) rfl ?_
  refine g_aloadN X0 hx hby own_d15_1 rfl rfl (pc' := 2) rfl ?_
  refine g_arraylength (n := (1 : Int32)) X0 hx hby hZ LA0 rfl own_d15_2 (pc' := 3) rfl ?_
  refine g_isub X0 hx hby own_d15_3 (pc' := 4) rfl ?_
  refine g_bipush (v := 31) X0 hx hby own_d15_4 rfl (pc' := 6) rfl ?_
  refine g_iushr X0 hx hby own_d15_6 (pc' := 7) rfl ?_
  refine g_i2b X0 hx hby own_d15_7 (pc' := 8) rfl ?_
  exact g_retN X0 hx hby hret hlk (by simp) own_d15_8 ⟨congrArg (fun z => some (Value.int z)) (by decide), rfl⟩ (by decide) (by decide)
set_option maxRecDepth 65536 in
set_option maxHeartbeats 40000000 in
theorem own_ef123 (m : MethodId) (y0 : Addr) (y1 : Int32)  : entryFrame m #[(.ref y0), (.int y1)] 2 = mkF m 0 #[.val (.ref y0), .val (.int y1)] [] := by first | (simp [entryFrame, mkF, argsToLocals, Value.category, maxLocals]; done) | rfl
set_option maxRecDepth 65536 in
set_option maxHeartbeats 40000000 in
theorem own_clU_1 (l : Launch) (Z : State) (a0 : Array Value) (hw : ∀ d ∈ tables_1, d.before a0 Z = true) (y0 : Addr) (h0 : Heap) (n0 : Nat) (f : Nat → Value) (LA0 : Ary Z h0 y0 .byte 2 f) :
    Ctr l Z (⟨"java/lang/StringUTF16", "coderFromArrayLen", "([BI)B"⟩ : MethodName) jdk_52_method_15_code 2 (some .byte) [] (own_room 0 0 0 0) #[(.ref y0), (.int (1 : Int32))] h0 n0 0 0 (fun v h => v = some (.int 1) ∧ h = h0) := by
  refine Ctr.of (plainFor_of_name own_pn3) ?_
  intro p e s m below meth c T0 hx hby hml hret hlk hnm hown hZ X0
  rw [own_ef123 m (y0) ((1 : Int32))]
  refine g_iloadN X0 hx hby own_d15_0 rfl (pc' := 1) rfl ?_
  refine g_aloadN X0 hx hby own_d15_1 rfl rfl (pc' := 2) rfl ?_
  refine g_arraylength (n := (2 : Int32)) X0 hx hby hZ LA0 rfl own_d15_2 (pc' := 3) rfl ?_
  refine g_isub X0 hx hby own_d15_3 (pc' := 4) rfl ?_
  refine g_bipush (v := 31) X0 hx hby own_d15_4 rfl (pc' := 6) rfl ?_
  refine g_iushr X0 hx hby own_d15_6 (pc' := 7) rfl ?_
  refine g_i2b X0 hx hby own_d15_7 (pc' := 8) rfl ?_
  exact g_retN X0 hx hby hret hlk (by simp) own_d15_8 ⟨congrArg (fun z => some (Value.int z)) (by decide), rfl⟩ (by decide) (by decide)
set_option maxRecDepth 65536 in
set_option maxHeartbeats 40000000 in
theorem own_ef124 (m : MethodId) (y0 : Addr) (y1 : Addr) (y2 : Int32) (y3 : Int32)  : entryFrame m #[(.ref y0), (.ref y1), (.int y2), (.int y3), .null] 6 = mkF m 0 #[.val (.ref y0), .val (.ref y1), .val (.int y2), .val (.int y3), .val .null, .unset] [] := by first | (simp [entryFrame, mkF, argsToLocals, Value.category, maxLocals]; done) | rfl
theorem own_d16_0 : decode jdk_42_method_149_code 0 = .ok (.aload_n 0, 1) := by decide +kernel
theorem own_d16_1 : decode jdk_42_method_149_code 1 = .ok (.invokespecial 1, 3) := by decide +kernel
theorem own_d16_4 : decode jdk_42_method_149_code 4 = .ok (.iload_n 3, 1) := by decide +kernel
theorem own_d16_5 : decode jdk_42_method_149_code 5 = .ok (.ifCond .ne 22, 3) := by decide +kernel
theorem own_d16_27 : decode jdk_42_method_149_code 27 = .ok (.getstatic 38, 3) := by decide +kernel
theorem own_d16_30 : decode jdk_42_method_149_code 30 = .ok (.ifCond .eq 28, 3) := by decide +kernel
theorem own_d16_33 : decode jdk_42_method_149_code 33 = .ok (.aload_n 1, 1) := by decide +kernel
theorem own_d16_34 : decode jdk_42_method_149_code 34 = .ok (.iload_n 2, 1) := by decide +kernel
theorem own_d16_35 : decode jdk_42_method_149_code 35 = .ok (.iload_n 3, 1) := by decide +kernel
theorem own_d16_36 : decode jdk_42_method_149_code 36 = .ok (.invokestatic 177, 3) := by decide +kernel
theorem own_d16_39 : decode jdk_42_method_149_code 39 = .ok (.astore 5, 2) := by decide +kernel
theorem own_d16_41 : decode jdk_42_method_149_code 41 = .ok (.aload_n 0, 1) := by decide +kernel
theorem own_d16_42 : decode jdk_42_method_149_code 42 = .ok (.aload 5, 2) := by decide +kernel
theorem own_d16_44 : decode jdk_42_method_149_code 44 = .ok (.iload_n 3, 1) := by decide +kernel
theorem own_d16_45 : decode jdk_42_method_149_code 45 = .ok (.invokestatic 47, 3) := by decide +kernel
theorem own_pd10 : parseMethodDescriptor "([BI)B" = some ⟨[(.array .byte), .int], (some .byte)⟩ := by decide +kernel
theorem own_d16_48 : decode jdk_42_method_149_code 48 = .ok (.putfield 15, 3) := by decide +kernel
theorem own_d16_51 : decode jdk_42_method_149_code 51 = .ok (.aload_n 0, 1) := by decide +kernel
theorem own_d16_52 : decode jdk_42_method_149_code 52 = .ok (.aload 5, 2) := by decide +kernel
theorem own_d16_54 : decode jdk_42_method_149_code 54 = .ok (.putfield 9, 3) := by decide +kernel
theorem own_d16_57 : decode jdk_42_method_149_code 57 = .ok (.return_, 1) := by decide +kernel
set_option maxRecDepth 65536 in
set_option maxHeartbeats 40000000 in
theorem own_n2_1 (l : Launch) (Z : State) (a0 : Array Value) (hw : ∀ d ∈ tables_1, d.before a0 Z = true) (y0 y1 : Addr) (h0 : Heap) (n0 : Nat) (Z0 : n0 ≤ h0.size) (f : Nat → Int32) (hr : ∀ i, 0 ≤ (f i).toInt ∧ (f i).toInt ≤ 65535) (LA1 : Ary Z h0 y1 .char 1 (fun i => .int (f i))) (Ex : Exa Z h0 y0 "java/lang/String") (F1 : Fld Z h0 y0 "java/lang/String" "value" "[B" .null) (F2 : Fld Z h0 y0 "java/lang/String" "coder" "B" (.int 0)) (gn : n0 ≤ y0) (cs : Int32) (Sc : Sta Z h0 "java/lang/String" "COMPACT_STRINGS" "Z" (.int cs)) (hcs : ¬ cs = 0) (Sd : Sta Z h0 "java/lang/StringUTF16" "$assertionsDisabled" "Z" (.int 1)) (Sh : Sta Z h0 "java/lang/StringUTF16" "HI_BYTE_SHIFT" "I" (.int 0)) (Sl : Sta Z h0 "java/lang/StringUTF16" "LO_BYTE_SHIFT" "I" (.int 8)) :
    Ctr l Z (⟨"java/lang/String", "<init>", "([CIILjava/lang/Void;)V"⟩ : MethodName) jdk_42_method_149_code 6 none [] (own_room 4 2 6 57) #[(.ref y0), (.ref y1), (.int (0 : Int32)), (.int (1 : Int32)), .null] h0 n0 2 6 (fun v h => v = none ∧ Keep h0 h [y0] ∧ Sg Z h y0 1 2 f) := by
  refine Ctr.of (plainFor_of_name own_pn0) ?_
  intro p e s m below meth c T0 hx hby hml hret hlk hnm hown hZ X0
  rw [own_ef124 m (y0) (y1) ((0 : Int32)) ((1 : Int32))]
  refine g_aloadN X0 hx hby own_d16_0 rfl rfl (pc' := 1) rfl ?_
  refine g_initO X0 hx hby hZ (W := 0) hown (hw _ (List.mem_of_getElem? (i := 19) rfl)) (hw _ (List.mem_of_getElem? (i := 20) rfl)) (hw _ (List.mem_of_getElem? (i := 21) rfl)) (by rw [hml]; rfl) own_d16_1 (by decide) (by exact Nat.le_of_eq rfl) (by decide) (pc' := 4) rfl (fun T125 X125 => ?_)
  refine g_iloadN X125 hx hby own_d16_4 rfl (pc' := 5) rfl ?_
  refine g_if_ne X125 hx hby own_d16_5 (by decide) (pc' := 27) (by decide) (pc2 := 8) rfl (fun c5_126 => ?_) (fun q => absurd q (by decide))
  refine g_getS X125 hx hby hZ hown (hw _ (List.mem_of_getElem? (i := 51) rfl)) Via.refl Sc own_d16_27 (pc' := 30) rfl (fun T127 X127 => ?_)
  refine g_if_eq X127 hx hby own_d16_30 (by decide) (pc' := 58) (by decide) (pc2 := 33) rfl (fun q => absurd q hcs) (fun c30_128 => ?_)
  refine g_aloadN X127 hx hby own_d16_33 rfl rfl (pc' := 34) rfl ?_
  refine g_iloadN X127 hx hby own_d16_34 rfl (pc' := 35) rfl ?_
  refine g_iloadN X127 hx hby own_d16_35 rfl (pc' := 36) rfl ?_
  refine g_callS (argsL := [(.ref y1), (.int (0 : Int32)), (.int (1 : Int32))]) (S := []) X127 hx hby hZ (y := (⟨"java/lang/StringUTF16", "compress", "([CII)[B"⟩ : MethodName)) hown (hw _ (List.mem_of_getElem? (i := 53) rfl)) (hw _ (List.mem_of_getElem? (i := 54) rfl)) (hw _ (List.mem_of_getElem? (i := 55) rfl)) (hw _ (List.mem_of_getElem? (i := 56) rfl)) (by decide) (own_p3_1 l Z a0 hw y1 h0 n0 Z0 f hr LA1 Sd Sh Sl) (by rw [hml]; rfl) (lenOf own_pd9 rfl) rfl own_d16_36 (by decide) (W := 0) (by exact Nat.le_of_eq rfl) (by decide) (by decide) (by decide) (pc' := 39) rfl (fun T129 v129 X129 hQ129 => ?_)
  obtain ⟨b129, rfl, ka129, hb129, nb129, aa129⟩ := hQ129
  have ne129_y0 : y0 ≠ b129 := Nat.ne_of_lt (Nat.lt_of_lt_of_le Ex.lt hb129)
  have ne129_y1 : y1 ≠ b129 := Nat.ne_of_lt (Nat.lt_of_lt_of_le LA1.lt hb129)
  have q130 := own_sta_keep Sc ka129 all0
  have q131 := own_sta_keep Sd ka129 all0
  have q132 := own_sta_keep Sh ka129 all0
  have q133 := own_sta_keep Sl ka129 all0
  have q134 := Ex.keep ka129
  have q135 := F1.keep ka129 nin0
  have q136 := F2.keep ka129 nin0
  have q137 := LA1.keep ka129 nin0
  have zz138 := Nat.le_trans Z0 ka129.1
  have kk139 : Keep h0 T129.heap [y0] := (Keep.refl h0 [y0]).trans ka129 all0
  show Gl p e below n0 _ _ (T129.setTop (mkF m 39 #[.val (.ref y0), .val (.ref y1), .val (.int (0 : Int32)), .val (.int (1 : Int32)), .val .null, .unset] [(.ref b129)]))
  rcases aa129 with ⟨aL, hle⟩ | aU
  · refine g_astore (L' := #[.val (.ref y0), .val (.ref y1), .val (.int (0 : Int32)), .val (.int (1 : Int32)), .val .null, .val (.ref b129)]) X129 hx hby own_d16_39 rfl rfl (pc' := 41) rfl ?_
    refine g_aloadN X129 hx hby own_d16_41 rfl rfl (pc' := 42) rfl ?_
    refine g_aload X129 hx hby own_d16_42 rfl rfl (pc' := 44) rfl ?_
    refine g_iloadN X129 hx hby own_d16_44 rfl (pc' := 45) rfl ?_
    refine g_callS (argsL := [(.ref b129), (.int (1 : Int32))]) (S := [(.ref y0)]) X129 hx hby hZ (y := (⟨"java/lang/StringUTF16", "coderFromArrayLen", "([BI)B"⟩ : MethodName)) hown (hw _ (List.mem_of_getElem? (i := 60) rfl)) (hw _ (List.mem_of_getElem? (i := 61) rfl)) (hw _ (List.mem_of_getElem? (i := 55) rfl)) (hw _ (List.mem_of_getElem? (i := 62) rfl)) (by decide) (own_clL_1 l Z a0 hw b129 T129.heap n0 _ aL) (by rw [hml]; rfl) (lenOf own_pd10 rfl) rfl own_d16_45 (by decide) (W := 1) (by exact Nat.le_of_eq rfl) (by decide) (by decide) (by decide) (pc' := 48) rfl (fun T140 v140 X140 hQ140 => ?_)
    obtain ⟨rfl, e140⟩ := hQ140
    rw [e140] at X140
    show Gl p e below n0 _ _ (T140.setTop (mkF m 48 #[.val (.ref y0), .val (.ref y1), .val (.int (0 : Int32)), .val (.int (1 : Int32)), .val .null, .val (.ref b129)] [(.int (0 : Int32)), (.ref y0)]))
    refine g_putF X140 hx hby hZ hown (hw _ (List.mem_of_getElem? (i := 29) rfl)) Via.refl q136 q134 (Or.inr ⟨(hw _ (List.mem_of_getElem? (i := 25) rfl)), rfl, hnm⟩) (hw _ (List.mem_of_getElem? (i := 9) rfl)) (ty := .byte) (by decide) rfl rfl gn own_d16_48 (pc' := 51) rfl (fun T141 h141 X141 W141 => ?_)
    have q142 := q130.wr W141
    have q143 := q131.wr W141
    have q144 := q132.wr W141
    have q145 := q133.wr W141
    have q146 := q134.wr W141
    have q147 := q135.other W141 (Or.inr (slot_ne (Or.inr (hw _ (List.mem_of_getElem? (i := 24) rfl))) (Or.inr (hw _ (List.mem_of_getElem? (i := 25) rfl))) (by decide) (t := (.array .byte)) (t' := .byte) (by decide) (by decide)))
    have q148 := q136.same W141
    have q149 := q137.other W141 (Ne.symm (own_ne_exa Ex (hw _ (List.mem_of_getElem? (i := 9) rfl)) LA1))
    have q150 := aL.other W141 (Ne.symm ne129_y0)
    have zz151 := Nat.le_trans zz138 (Nat.le_of_eq W141.size.symm)
    have kk152 : Keep h0 h141 [y0] := kk139.wr W141 (Or.inl (by simp))
    refine g_aloadN X141 hx hby own_d16_51 rfl rfl (pc' := 52) rfl ?_
    refine g_aload X141 hx hby own_d16_52 rfl rfl (pc' := 54) rfl ?_
    refine g_putF X141 hx hby hZ hown (hw _ (List.mem_of_getElem? (i := 28) rfl)) Via.refl q147 q146 (Or.inr ⟨(hw _ (List.mem_of_getElem? (i := 24) rfl)), rfl, hnm⟩) (hw _ (List.mem_of_getElem? (i := 9) rfl)) (ty := (.array .byte)) (by decide) rfl rfl gn own_d16_54 (pc' := 57) rfl (fun T153 h153 X153 W153 => ?_)
    have q154 := q142.wr W153
    have q155 := q143.wr W153
    have q156 := q144.wr W153
    have q157 := q145.wr W153
    have q158 := q146.wr W153
    have q159 := q147.same W153
    have q160 := q148.other W153 (Or.inr (slot_ne (Or.inr (hw _ (List.mem_of_getElem? (i := 25) rfl))) (Or.inr (hw _ (List.mem_of_getElem? (i := 24) rfl))) (by decide) (t := .byte) (t' := (.array .byte)) (by decide) (by decide)))
    have q161 := q149.other W153 (Ne.symm (own_ne_exa Ex (hw _ (List.mem_of_getElem? (i := 9) rfl)) LA1))
    have q162 := q150.other W153 (Ne.symm ne129_y0)
    have zz163 := Nat.le_trans zz151 (Nat.le_of_eq W153.size.symm)
    have kk164 : Keep h0 h153 [y0] := kk152.wr W153 (Or.inl (by simp))
    exact g_ret X153 hx hby hret hlk own_d16_57 ⟨rfl, kk164, Or.inl ⟨⟨b129, q158, q159, q160, q162⟩, hle⟩⟩ (by decide) (by decide)
  · refine g_astore (L' := #[.val (.ref y0), .val (.ref y1), .val (.int (0 : Int32)), .val (.int (1 : Int32)), .val .null, .val (.ref b129)]) X129 hx hby own_d16_39 rfl rfl (pc' := 41) rfl ?_
    refine g_aloadN X129 hx hby own_d16_41 rfl rfl (pc' := 42) rfl ?_
    refine g_aload X129 hx hby own_d16_42 rfl rfl (pc' := 44) rfl ?_
    refine g_iloadN X129 hx hby own_d16_44 rfl (pc' := 45) rfl ?_
    refine g_callS (argsL := [(.ref b129), (.int (1 : Int32))]) (S := [(.ref y0)]) X129 hx hby hZ (y := (⟨"java/lang/StringUTF16", "coderFromArrayLen", "([BI)B"⟩ : MethodName)) hown (hw _ (List.mem_of_getElem? (i := 60) rfl)) (hw _ (List.mem_of_getElem? (i := 61) rfl)) (hw _ (List.mem_of_getElem? (i := 55) rfl)) (hw _ (List.mem_of_getElem? (i := 62) rfl)) (by decide) (own_clU_1 l Z a0 hw b129 T129.heap n0 _ aU) (by rw [hml]; rfl) (lenOf own_pd10 rfl) rfl own_d16_45 (by decide) (W := 1) (by exact Nat.le_of_eq rfl) (by decide) (by decide) (by decide) (pc' := 48) rfl (fun T165 v165 X165 hQ165 => ?_)
    obtain ⟨rfl, e165⟩ := hQ165
    rw [e165] at X165
    show Gl p e below n0 _ _ (T165.setTop (mkF m 48 #[.val (.ref y0), .val (.ref y1), .val (.int (0 : Int32)), .val (.int (1 : Int32)), .val .null, .val (.ref b129)] [(.int (1 : Int32)), (.ref y0)]))
    refine g_putF X165 hx hby hZ hown (hw _ (List.mem_of_getElem? (i := 29) rfl)) Via.refl q136 q134 (Or.inr ⟨(hw _ (List.mem_of_getElem? (i := 25) rfl)), rfl, hnm⟩) (hw _ (List.mem_of_getElem? (i := 9) rfl)) (ty := .byte) (by decide) rfl rfl gn own_d16_48 (pc' := 51) rfl (fun T166 h166 X166 W166 => ?_)
    have q167 := q130.wr W166
    have q168 := q131.wr W166
    have q169 := q132.wr W166
    have q170 := q133.wr W166
    have q171 := q134.wr W166
    have q172 := q135.other W166 (Or.inr (slot_ne (Or.inr (hw _ (List.mem_of_getElem? (i := 24) rfl))) (Or.inr (hw _ (List.mem_of_getElem? (i := 25) rfl))) (by decide) (t := (.array .byte)) (t' := .byte) (by decide) (by decide)))
    have q173 := q136.same W166
    have q174 := q137.other W166 (Ne.symm (own_ne_exa Ex (hw _ (List.mem_of_getElem? (i := 9) rfl)) LA1))
    have q175 := aU.other W166 (Ne.symm ne129_y0)
    have zz176 := Nat.le_trans zz138 (Nat.le_of_eq W166.size.symm)
    have kk177 : Keep h0 h166 [y0] := kk139.wr W166 (Or.inl (by simp))
    refine g_aloadN X166 hx hby own_d16_51 rfl rfl (pc' := 52) rfl ?_
    refine g_aload X166 hx hby own_d16_52 rfl rfl (pc' := 54) rfl ?_
    refine g_putF X166 hx hby hZ hown (hw _ (List.mem_of_getElem? (i := 28) rfl)) Via.refl q172 q171 (Or.inr ⟨(hw _ (List.mem_of_getElem? (i := 24) rfl)), rfl, hnm⟩) (hw _ (List.mem_of_getElem? (i := 9) rfl)) (ty := (.array .byte)) (by decide) rfl rfl gn own_d16_54 (pc' := 57) rfl (fun T178 h178 X178 W178 => ?_)
    have q179 := q167.wr W178
    have q180 := q168.wr W178
    have q181 := q169.wr W178
    have q182 := q170.wr W178
    have q183 := q171.wr W178
    have q184 := q172.same W178
    have q185 := q173.other W178 (Or.inr (slot_ne (Or.inr (hw _ (List.mem_of_getElem? (i := 25) rfl))) (Or.inr (hw _ (List.mem_of_getElem? (i := 24) rfl))) (by decide) (t := .byte) (t' := (.array .byte)) (by decide) (by decide)))
    have q186 := q174.other W178 (Ne.symm (own_ne_exa Ex (hw _ (List.mem_of_getElem? (i := 9) rfl)) LA1))
    have q187 := q175.other W178 (Ne.symm ne129_y0)
    have zz188 := Nat.le_trans zz176 (Nat.le_of_eq W178.size.symm)
    have kk189 : Keep h0 h178 [y0] := kk177.wr W178 (Or.inl (by simp))
    exact g_ret X178 hx hby hret hlk own_d16_57 ⟨rfl, kk189, Or.inr ⟨b129, q183, q184, q185, q187⟩⟩ (by decide) (by decide)
set_option maxRecDepth 65536 in
set_option maxHeartbeats 40000000 in
theorem own_ef190 (m : MethodId) (y0 : Addr) (y1 : Addr)  : entryFrame m #[(.ref y0), (.ref y1)] 2 = mkF m 0 #[.val (.ref y0), .val (.ref y1)] [] := by first | (simp [entryFrame, mkF, argsToLocals, Value.category, maxLocals]; done) | rfl
theorem own_d17_0 : decode jdk_42_method_3_code 0 = .ok (.aload_n 0, 1) := by decide +kernel
theorem own_d17_1 : decode jdk_42_method_3_code 1 = .ok (.aload_n 1, 1) := by decide +kernel
theorem own_d17_2 : decode jdk_42_method_3_code 2 = .ok (.iconst 0, 1) := by decide +kernel
theorem own_d17_3 : decode jdk_42_method_3_code 3 = .ok (.aload_n 1, 1) := by decide +kernel
theorem own_d17_4 : decode jdk_42_method_3_code 4 = .ok (.arraylength, 1) := by decide +kernel
theorem own_d17_5 : decode jdk_42_method_3_code 5 = .ok (.aconst_null, 1) := by decide +kernel
theorem own_d17_6 : decode jdk_42_method_3_code 6 = .ok (.invokespecial 27, 3) := by decide +kernel
theorem own_pd11 : parseMethodDescriptor "([CIILjava/lang/Void;)V" = some ⟨[(.array .char), .int, .int, (.object "java/lang/Void")], none⟩ := by decide +kernel
theorem own_d17_9 : decode jdk_42_method_3_code 9 = .ok (.return_, 1) := by decide +kernel
set_option maxRecDepth 65536 in
set_option maxHeartbeats 40000000 in
theorem own_n1_1 (l : Launch) (Z : State) (a0 : Array Value) (hw : ∀ d ∈ tables_1, d.before a0 Z = true) (y0 y1 : Addr) (h0 : Heap) (n0 : Nat) (Z0 : n0 ≤ h0.size) (f : Nat → Int32) (hr : ∀ i, 0 ≤ (f i).toInt ∧ (f i).toInt ≤ 65535) (LA1 : Ary Z h0 y1 .char 1 (fun i => .int (f i))) (Ex : Exa Z h0 y0 "java/lang/String") (F1 : Fld Z h0 y0 "java/lang/String" "value" "[B" .null) (F2 : Fld Z h0 y0 "java/lang/String" "coder" "B" (.int 0)) (gn : n0 ≤ y0) (cs : Int32) (Sc : Sta Z h0 "java/lang/String" "COMPACT_STRINGS" "Z" (.int cs)) (hcs : ¬ cs = 0) (Sd : Sta Z h0 "java/lang/StringUTF16" "$assertionsDisabled" "Z" (.int 1)) (Sh : Sta Z h0 "java/lang/StringUTF16" "HI_BYTE_SHIFT" "I" (.int 0)) (Sl : Sta Z h0 "java/lang/StringUTF16" "LO_BYTE_SHIFT" "I" (.int 8)) :
    Ctr l Z (⟨"java/lang/String", "<init>", "([C)V"⟩ : MethodName) jdk_42_method_3_code 2 none [] (own_room 5 2 6 74) #[(.ref y0), (.ref y1)] h0 n0 2 6 (fun v h => v = none ∧ Keep h0 h [y0] ∧ Sg Z h y0 1 2 f) := by
  refine Ctr.of (plainFor_of_name own_pn0) ?_
  intro p e s m below meth c T0 hx hby hml hret hlk hnm hown hZ X0
  rw [own_ef190 m (y0) (y1)]
  refine g_aloadN X0 hx hby own_d17_0 rfl rfl (pc' := 1) rfl ?_
  refine g_aloadN X0 hx hby own_d17_1 rfl rfl (pc' := 2) rfl ?_
  refine g_iconst (v := 0) X0 hx hby own_d17_2 rfl (pc' := 3) rfl ?_
  refine g_aloadN X0 hx hby own_d17_3 rfl rfl (pc' := 4) rfl ?_
  refine g_arraylength (n := (1 : Int32)) X0 hx hby hZ LA1 rfl own_d17_4 (pc' := 5) rfl ?_
  refine g_aconst_null X0 hx hby own_d17_5 (pc' := 6) rfl ?_
  refine g_callC (argsL := [(.ref y1), (.int (0 : Int32)), (.int (1 : Int32)), .null]) (S := []) (a := y0) X0 hx hby hZ (y := (⟨"java/lang/String", "<init>", "([CIILjava/lang/Void;)V"⟩ : MethodName)) rfl hown (hw _ (List.mem_of_getElem? (i := 15) rfl)) (hw _ (List.mem_of_getElem? (i := 16) rfl)) (hw _ (List.mem_of_getElem? (i := 10) rfl)) (hw _ (List.mem_of_getElem? (i := 18) rfl)) (by decide) (own_n2_1 l Z a0 hw y0 y1 h0 n0 Z0 f hr LA1 Ex F1 F2 gn cs Sc hcs Sd Sh Sl) (by rw [hml]; rfl) (lenOf own_pd11 rfl) rfl own_d17_6 (by decide) (W := 0) (by exact Nat.le_of_eq rfl) (by decide) (by decide) (by decide) (pc' := 9) rfl (fun T191 v191 X191 hQ191 => ?_)
  obtain ⟨rfl, ka191, la191⟩ := hQ191
  show Gl p e below n0 _ _ (T191.setTop (mkF m 9 #[.val (.ref y0), .val (.ref y1)] []))
  exact g_ret X191 hx hby hret hlk own_d17_9 ⟨rfl, ka191, la191⟩ (by decide) (by decide)
set_option maxRecDepth 65536 in
set_option maxHeartbeats 40000000 in
theorem own_ef192 (m : MethodId) (y0 : Addr)  : entryFrame m #[(.ref y0)] 1 = mkF m 0 #[.val (.ref y0)] [] := by first | (simp [entryFrame, mkF, argsToLocals, Value.category, maxLocals]; done) | rfl
theorem own_d18_0 : decode jdk_52_method_6_code 0 = .ok (.aload_n 0, 1) := by decide +kernel
theorem own_d18_1 : decode jdk_52_method_6_code 1 = .ok (.arraylength, 1) := by decide +kernel
theorem own_d18_2 : decode jdk_52_method_6_code 2 = .ok (.iconst 1, 1) := by decide +kernel
theorem own_d18_3 : decode jdk_52_method_6_code 3 = .ok (.ishr, 1) := by decide +kernel
theorem own_d18_4 : decode jdk_52_method_6_code 4 = .ok (.ireturn, 1) := by decide +kernel
set_option maxRecDepth 65536 in
set_option maxHeartbeats 40000000 in
theorem own_ul_1 (l : Launch) (Z : State) (a0 : Array Value) (hw : ∀ d ∈ tables_1, d.before a0 Z = true) (y0 : Addr) (h0 : Heap) (n0 : Nat) (g : Nat → Value) (LA0 : Ary Z h0 y0 .byte 2 g) :
    Ctr l Z (⟨"java/lang/StringUTF16", "length", "([B)I"⟩ : MethodName) jdk_52_method_6_code 1 (some .int) [] (own_room 0 0 0 0) #[(.ref y0)] h0 n0 0 0 (fun v h => v = some (.int 1) ∧ h = h0) := by
  refine Ctr.of (plainFor_of_name own_pn3) ?_
  intro p e s m below meth c T0 hx hby hml hret hlk hnm hown hZ X0
  rw [own_ef192 m (y0)]
  refine g_aloadN X0 hx hby own_d18_0 rfl rfl (pc' := 1) rfl ?_
  refine g_arraylength (n := (2 : Int32)) X0 hx hby hZ LA0 rfl own_d18_1 (pc' := 2) rfl ?_
  refine g_iconst (v := 1) X0 hx hby own_d18_2 rfl (pc' := 3) rfl ?_
  refine g_ishr X0 hx hby own_d18_3 (pc' := 4) rfl ?_
  exact g_retI X0 hx hby hret hlk own_d18_4 ⟨congrArg (fun z => some (Value.int z)) (by decide), rfl⟩ (by decide) (by decide)
set_option maxRecDepth 65536 in
set_option maxHeartbeats 40000000 in
theorem own_ef193 (m : MethodId) (y0 : Int32) (y1 : Addr)  : entryFrame m #[(.int y0), (.ref y1)] 2 = mkF m 0 #[.val (.int y0), .val (.ref y1)] [] := by first | (simp [entryFrame, mkF, argsToLocals, Value.category, maxLocals]; done) | rfl
theorem own_d19_0 : decode jdk_52_method_91_code 0 = .ok (.iload_n 0, 1) := by decide +kernel
theorem own_d19_1 : decode jdk_52_method_91_code 1 = .ok (.aload_n 1, 1) := by decide +kernel
theorem own_d19_2 : decode jdk_52_method_91_code 2 = .ok (.invokestatic 48, 3) := by decide +kernel
theorem own_pd12 : parseMethodDescriptor "([B)I" = some ⟨[(.array .byte)], (some .int)⟩ := by decide +kernel
theorem own_d19_5 : decode jdk_52_method_91_code 5 = .ok (.invokestatic 414, 3) := by decide +kernel
theorem own_d19_8 : decode jdk_52_method_91_code 8 = .ok (.return_, 1) := by decide +kernel
set_option maxRecDepth 65536 in
set_option maxHeartbeats 40000000 in
theorem own_ck_1_0 (l : Launch) (Z : State) (a0 : Array Value) (hw : ∀ d ∈ tables_1, d.before a0 Z = true) (y1 : Addr) (h0 : Heap) (n0 : Nat) (g : Nat → Value) (LA0 : Ary Z h0 y1 .byte 2 g) (fm : Value) (Sf : Sta Z h0 "jdk/internal/util/Preconditions" "SIOOBE_FORMATTER" "Ljava/util/function/BiFunction;" fm) (hfm : fm.isRef = true) (Sd : Sta Z h0 "java/lang/StringUTF16" "$assertionsDisabled" "Z" (.int 1)) (Sh : Sta Z h0 "java/lang/StringUTF16" "HI_BYTE_SHIFT" "I" (.int 0)) (Sl : Sta Z h0 "java/lang/StringUTF16" "LO_BYTE_SHIFT" "I" (.int 8)) :
    Ctr l Z (⟨"java/lang/StringUTF16", "checkIndex", "(I[B)V"⟩ : MethodName) jdk_52_method_91_code 2 none [] (own_room 2 0 0 27) #[(.int (0 : Int32)), (.ref y1)] h0 n0 0 0 (fun v h => v = none ∧ h = h0) := by
  refine Ctr.of (plainFor_of_name own_pn3) ?_
  intro p e s m below meth c T0 hx hby hml hret hlk hnm hown hZ X0
  rw [own_ef193 m ((0 : Int32)) (y1)]
  refine g_iloadN X0 hx hby own_d19_0 rfl (pc' := 1) rfl ?_
  refine g_aloadN X0 hx hby own_d19_1 rfl rfl (pc' := 2) rfl ?_
  refine g_callS (argsL := [(.ref y1)]) (S := [(.int (0 : Int32))]) X0 hx hby hZ (y := (⟨"java/lang/StringUTF16", "length", "([B)I"⟩ : MethodName)) hown (hw _ (List.mem_of_getElem? (i := 107) rfl)) (hw _ (List.mem_of_getElem? (i := 108) rfl)) (hw _ (List.mem_of_getElem? (i := 55) rfl)) (hw _ (List.mem_of_getElem? (i := 109) rfl)) (by decide) (own_ul_1 l Z a0 hw y1 h0 n0 _ LA0) (by rw [hml]; rfl) (lenOf own_pd12 rfl) rfl own_d19_2 (by decide) (W := 1) (by exact Nat.le_of_eq rfl) (by decide) (by decide) (by decide) (pc' := 5) rfl (fun T194 v194 X194 hQ194 => ?_)
  obtain ⟨rfl, e194⟩ := hQ194
  rw [e194] at X194
  show Gl p e below n0 _ _ (T194.setTop (mkF m 5 #[.val (.int (0 : Int32)), .val (.ref y1)] [(.int (1 : Int32)), (.int (0 : Int32))]))
  refine g_callS (argsL := [(.int (0 : Int32)), (.int (1 : Int32))]) (S := []) X194 hx hby hZ (y := (⟨"java/lang/String", "checkIndex", "(II)V"⟩ : MethodName)) hown (hw _ (List.mem_of_getElem? (i := 110) rfl)) (hw _ (List.mem_of_getElem? (i := 111) rfl)) (hw _ (List.mem_of_getElem? (i := 10) rfl)) (hw _ (List.mem_of_getElem? (i := 112) rfl)) (by decide) (own_ci l Z a0 hw (0 : Int32) (1 : Int32) h0 n0 fm Sf hfm (by decide) (by decide)) (by rw [hml]; rfl) (lenOf own_pd2 rfl) rfl own_d19_5 (by decide) (W := 0) (by exact Nat.le_of_eq rfl) (by decide) (by decide) (by decide) (pc' := 8) rfl (fun T195 v195 X195 hQ195 => ?_)
  obtain ⟨rfl, e195⟩ := hQ195
  rw [e195] at X195
  show Gl p e below n0 _ _ (T195.setTop (mkF m 8 #[.val (.int (0 : Int32)), .val (.ref y1)] []))
  exact g_ret X195 hx hby hret hlk own_d19_8 ⟨rfl, rfl⟩ (by decide) (by decide)
set_option maxRecDepth 65536 in
set_option maxHeartbeats 40000000 in
theorem own_ef196 (m : MethodId) (y0 : Addr) (y1 : Int32)  : entryFrame m #[(.ref y0), (.int y1)] 2 = mkF m 0 #[.val (.ref y0), .val (.int y1)] [] := by first | (simp [entryFrame, mkF, argsToLocals, Value.category, maxLocals]; done) | rfl
theorem own_d20_0 : decode jdk_52_method_83_code 0 = .ok (.iload_n 1, 1) := by decide +kernel
theorem own_d20_1 : decode jdk_52_method_83_code 1 = .ok (.aload_n 0, 1) := by decide +kernel
theorem own_d20_2 : decode jdk_52_method_83_code 2 = .ok (.invokestatic 67, 3) := by decide +kernel
theorem own_pd13 : parseMethodDescriptor "(I[B)V" = some ⟨[.int, (.array .byte)], none⟩ := by decide +kernel
theorem own_d20_5 : decode jdk_52_method_83_code 5 = .ok (.aload_n 0, 1) := by decide +kernel
theorem own_d20_6 : decode jdk_52_method_83_code 6 = .ok (.iload_n 1, 1) := by decide +kernel
theorem own_d20_7 : decode jdk_52_method_83_code 7 = .ok (.invokestatic 71, 3) := by decide +kernel
theorem own_d20_10 : decode jdk_52_method_83_code 10 = .ok (.ireturn, 1) := by decide +kernel
set_option maxRecDepth 65536 in
set_option maxHeartbeats 40000000 in
theorem own_uc_1_0 (l : Launch) (Z : State) (a0 : Array Value) (hw : ∀ d ∈ tables_1, d.before a0 Z = true) (y0 : Addr) (h0 : Heap) (n0 : Nat) (f : Nat → Int32) (hr : ∀ i, 0 ≤ (f i).toInt ∧ (f i).toInt ≤ 65535) (LA0 : Ary Z h0 y0 .byte 2 (fun i => .int (own_ub f i))) (fm : Value) (Sf : Sta Z h0 "jdk/internal/util/Preconditions" "SIOOBE_FORMATTER" "Ljava/util/function/BiFunction;" fm) (hfm : fm.isRef = true) (Sd : Sta Z h0 "java/lang/StringUTF16" "$assertionsDisabled" "Z" (.int 1)) (Sh : Sta Z h0 "java/lang/StringUTF16" "HI_BYTE_SHIFT" "I" (.int 0)) (Sl : Sta Z h0 "java/lang/StringUTF16" "LO_BYTE_SHIFT" "I" (.int 8)) :
    Ctr l Z (⟨"java/lang/StringUTF16", "charAt", "([BI)C"⟩ : MethodName) jdk_52_method_83_code 2 (some .char) [] (own_room 3 0 0 40) #[(.ref y0), (.int (0 : Int32))] h0 n0 0 0 (fun v h => v = some (.int (f 0)) ∧ h = h0) := by
  refine Ctr.of (plainFor_of_name own_pn3) ?_
  intro p e s m below meth c T0 hx hby hml hret hlk hnm hown hZ X0
  rw [own_ef196 m (y0) ((0 : Int32))]
  refine g_iloadN X0 hx hby own_d20_0 rfl (pc' := 1) rfl ?_
  refine g_aloadN X0 hx hby own_d20_1 rfl rfl (pc' := 2) rfl ?_
  refine g_callS (argsL := [(.int (0 : Int32)), (.ref y0)]) (S := []) X0 hx hby hZ (y := (⟨"java/lang/StringUTF16", "checkIndex", "(I[B)V"⟩ : MethodName)) hown (hw _ (List.mem_of_getElem? (i := 104) rfl)) (hw _ (List.mem_of_getElem? (i := 105) rfl)) (hw _ (List.mem_of_getElem? (i := 55) rfl)) (hw _ (List.mem_of_getElem? (i := 106) rfl)) (by decide) (own_ck_1_0 l Z a0 hw y0 h0 n0 _ LA0 fm Sf hfm Sd Sh Sl) (by rw [hml]; rfl) (lenOf own_pd13 rfl) rfl own_d20_2 (by decide) (W := 0) (by exact Nat.le_of_eq rfl) (by decide) (by decide) (by decide) (pc' := 5) rfl (fun T197 v197 X197 hQ197 => ?_)
  obtain ⟨rfl, e197⟩ := hQ197
  rw [e197] at X197
  show Gl p e below n0 _ _ (T197.setTop (mkF m 5 #[.val (.ref y0), .val (.int (0 : Int32))] []))
  refine g_aloadN X197 hx hby own_d20_5 rfl rfl (pc' := 6) rfl ?_
  refine g_iloadN X197 hx hby own_d20_6 rfl (pc' := 7) rfl ?_
  refine g_callS (argsL := [(.ref y0), (.int (0 : Int32))]) (S := []) X197 hx hby hZ (y := (⟨"java/lang/StringUTF16", "getChar", "([BI)C"⟩ : MethodName)) hown (hw _ (List.mem_of_getElem? (i := 82) rfl)) (hw _ (List.mem_of_getElem? (i := 83) rfl)) (hw _ (List.mem_of_getElem? (i := 55) rfl)) (hw _ (List.mem_of_getElem? (i := 84) rfl)) (by decide) (own_gc_1_0 l Z a0 hw y0 h0 n0 f hr LA0 Sd Sh Sl) (by rw [hml]; rfl) (lenOf own_pd4 rfl) rfl own_d20_7 (by decide) (W := 0) (by exact Nat.le_of_eq rfl) (by decide) (by decide) (by decide) (pc' := 10) rfl (fun T198 v198 X198 hQ198 => ?_)
  obtain ⟨rfl, e198⟩ := hQ198
  rw [e198] at X198
  show Gl p e below n0 _ _ (T198.setTop (mkF m 10 #[.val (.ref y0), .val (.int (0 : Int32))] [(.int (f 0))]))
  exact g_retN X198 hx hby hret hlk (by simp) own_d20_10 ⟨congrArg (fun z => some (Value.int z)) (own_narC (hr 0)), rfl⟩ (by decide) (by decide)
set_option maxRecDepth 65536 in
set_option maxHeartbeats 40000000 in
theorem own_ef199 (m : MethodId) (y0 : Int32)  : entryFrame m #[(.int y0)] 1 = mkF m 0 #[.val (.int y0)] [] := by first | (simp [entryFrame, mkF, argsToLocals, Value.category, maxLocals]; done) | rfl
set_option maxRecDepth 65536 in
set_option maxHeartbeats 40000000 in
theorem own_nl_2 (l : Launch) (Z : State) (a0 : Array Value) (hw : ∀ d ∈ tables_1, d.before a0 Z = true)  (h0 : Heap) (n0 : Nat)  :
    Ctr l Z (⟨"java/lang/StringUTF16", "newBytesLength", "(I)I"⟩ : MethodName) jdk_52_method_3_code 1 (some .int) [] (own_room 0 0 0 0) #[(.int (2 : Int32))] h0 n0 0 0 (fun v h => v = some (.int 4) ∧ h = h0) := by
  refine Ctr.of (plainFor_of_name own_pn3) ?_
  intro p e s m below meth c T0 hx hby hml hret hlk hnm hown hZ X0
  rw [own_ef199 m ((2 : Int32))]
  refine g_iloadN X0 hx hby own_d8_0 rfl (pc' := 1) rfl ?_
  refine g_if_ge X0 hx hby own_d8_1 (by decide) (pc' := 12) (by decide) (pc2 := 4) rfl (fun c1_200 => ?_) (fun q => absurd q (by decide))
  refine g_iloadN X0 hx hby own_d8_12 rfl (pc' := 13) rfl ?_
  refine g_ldc X0 hx hby hZ hown (hw _ (List.mem_of_getElem? (i := 75) rfl)) own_d8_13 (pc' := 15) rfl ?_
  refine g_icmp_lt X0 hx hby own_d8_15 (by decide) (pc' := 55) (by decide) (pc2 := 18) rfl (fun c15_201 => ?_) (fun q => absurd (by decide) q)
  refine g_iloadN X0 hx hby own_d8_55 rfl (pc' := 56) rfl ?_
  refine g_iconst (v := 1) X0 hx hby own_d8_56 rfl (pc' := 57) rfl ?_
  refine g_ishl X0 hx hby own_d8_57 (pc' := 58) rfl ?_
  exact g_retI X0 hx hby hret hlk own_d8_58 ⟨congrArg (fun z => some (Value.int z)) (by decide), rfl⟩ (by decide) (by decide)
set_option maxRecDepth 65536 in
set_option maxHeartbeats 40000000 in
theorem own_ef202 (m : MethodId) (y0 : Int32)  : entryFrame m #[(.int y0)] 1 = mkF m 0 #[.val (.int y0)] [] := by first | (simp [entryFrame, mkF, argsToLocals, Value.category, maxLocals]; done) | rfl
set_option maxRecDepth 65536 in
set_option maxHeartbeats 40000000 in
theorem own_nf_2 (l : Launch) (Z : State) (a0 : Array Value) (hw : ∀ d ∈ tables_1, d.before a0 Z = true)  (h0 : Heap) (n0 : Nat) (Z0 : n0 ≤ h0.size) :
    Ctr l Z (⟨"java/lang/StringUTF16", "newBytesFor", "(I)[B"⟩ : MethodName) jdk_52_method_2_code 1 (some (.array .byte)) [] (own_room 1 1 4 12) #[(.int (2 : Int32))] h0 n0 1 4 (fun v h => ∃ b, v = some (.ref b) ∧ Keep h0 h [] ∧ h0.size ≤ b ∧ n0 ≤ b ∧ Ary Z h b .byte 4 (fun _ => .int 0)) := by
  refine Ctr.of (plainFor_of_name own_pn3) ?_
  intro p e s m below meth c T0 hx hby hml hret hlk hnm hown hZ X0
  rw [own_ef202 m ((2 : Int32))]
  refine g_iloadN X0 hx hby own_d9_0 rfl (pc' := 1) rfl ?_
  refine g_callS (argsL := [(.int (2 : Int32))]) (S := []) X0 hx hby hZ (y := (⟨"java/lang/StringUTF16", "newBytesLength", "(I)I"⟩ : MethodName)) hown (hw _ (List.mem_of_getElem? (i := 72) rfl)) (hw _ (List.mem_of_getElem? (i := 73) rfl)) (hw _ (List.mem_of_getElem? (i := 55) rfl)) (hw _ (List.mem_of_getElem? (i := 74) rfl)) (by decide) (own_nl_2 l Z a0 hw h0 n0) (by rw [hml]; rfl) (lenOf own_pd5 rfl) rfl own_d9_1 (by decide) (W := 0) (by exact Nat.le_of_eq rfl) (by decide) (by decide) (by decide) (pc' := 4) rfl (fun T203 v203 X203 hQ203 => ?_)
  obtain ⟨rfl, e203⟩ := hQ203
  rw [e203] at X203
  show Gl p e below n0 _ _ (T203.setTop (mkF m 4 #[.val (.int (2 : Int32))] [(.int (4 : Int32))]))
  refine g_newarray (k := 4) (cap := 4) X203 hx hby hZ (hw _ (List.mem_of_getElem? (i := 23) rfl)) own_d9_4 rfl (by decide) (by decide) (by decide) (by decide) (pc' := 6) rfl (fun T204 h204 b204 g204 X204 E204 A204 => ?_)
  have nn205 : n0 ≤ b204 := by rw [g204]; exact Z0
  have hh206 : h0.size ≤ b204 := by rw [g204]; exact (Keep.refl h0 []).1
  have zz207 := Nat.le_trans Z0 E204.1
  have kk208 : Keep h0 h204 [] := (Keep.refl h0 []).ext E204
  exact g_retA X204 hx hby hret hlk rfl rfl own_d9_6 ⟨b204, rfl, kk208, hh206, nn205, A204⟩ (by decide) (by decide)
set_option maxRecDepth 65536 in
set_option maxHeartbeats 40000000 in
theorem own_ef209 (m : MethodId) (y0 : Addr) (y1 : Int32) (y2 : Int32)  : entryFrame m #[(.ref y0), (.int y1), (.int y2)] 3 = mkF m 0 #[.val (.ref y0), .val (.int y1), .val (.int y2)] [] := by first | (simp [entryFrame, mkF, argsToLocals, Value.category, maxLocals]; done) | rfl
set_option maxRecDepth 65536 in
set_option maxHeartbeats 40000000 in
theorem own_pu_2_0 (l : Launch) (Z : State) (a0 : Array Value) (hw : ∀ d ∈ tables_1, d.before a0 Z = true) (y0 : Addr) (y2 : Int32) (h0 : Heap) (n0 : Nat) (Z0 : n0 ≤ h0.size) (g : Nat → Value) (LA0 : Ary Z h0 y0 .byte 4 g) (gn : n0 ≤ y0) (Sd : Sta Z h0 "java/lang/StringUTF16" "$assertionsDisabled" "Z" (.int 1)) (Sh : Sta Z h0 "java/lang/StringUTF16" "HI_BYTE_SHIFT" "I" (.int 0)) (Sl : Sta Z h0 "java/lang/StringUTF16" "LO_BYTE_SHIFT" "I" (.int 8)) :
    Ctr l Z (⟨"java/lang/StringUTF16", "putChar", "([BII)V"⟩ : MethodName) jdk_52_method_4_code 3 none [] (own_room 0 0 0 0) #[(.ref y0), (.int (0 : Int32)), (.int y2)] h0 n0 0 0 (fun v h => v = none ∧ Keep h0 h [y0] ∧ Ary Z h y0 .byte 4 (own_upd (own_upd g 0 (.int (own_lo y2))) 1 (.int (own_hi y2)))) := by
  refine Ctr.of (plainFor_of_name own_pn3) ?_
  intro p e s m below meth c T0 hx hby hml hret hlk hnm hown hZ X0
  rw [own_ef209 m (y0) ((0 : Int32)) (y2)]
  refine g_getS X0 hx hby hZ hown (hw _ (List.mem_of_getElem? (i := 79) rfl)) Via.refl Sd own_d10_0 (pc' := 3) rfl (fun T210 X210 => ?_)
  refine g_if_ne X210 hx hby own_d10_3 (by decide) (pc' := 28) (by decide) (pc2 := 6) rfl (fun c3_211 => ?_) (fun q => absurd q (by decide))
  refine g_iloadN X210 hx hby own_d10_28 rfl (pc' := 29) rfl ?_
  refine g_iconst (v := 1) X210 hx hby own_d10_29 rfl (pc' := 30) rfl ?_
  refine g_ishl X210 hx hby own_d10_30 (pc' := 31) rfl ?_
  refine g_istoreN (L' := #[.val (.ref y0), .val (.int ((0 : Int32) <<< ((1 : Int32) &&& 31))), .val (.int y2)]) X210 hx hby own_d10_31 rfl (pc' := 32) rfl ?_
  refine g_aloadN X210 hx hby own_d10_32 rfl rfl (pc' := 33) rfl ?_
  refine g_iloadN X210 hx hby own_d10_33 rfl (pc' := 34) rfl ?_
  refine g_iinc (y := 1) (L' := #[.val (.ref y0), .val (.int (((0 : Int32) <<< ((1 : Int32) &&& 31)) + (1 : Int32))), .val (.int y2)]) X210 hx hby own_d10_34 rfl rfl rfl (pc' := 37) rfl ?_
  refine g_iloadN X210 hx hby own_d10_37 rfl (pc' := 38) rfl ?_
  refine g_getS X210 hx hby hZ hown (hw _ (List.mem_of_getElem? (i := 80) rfl)) Via.refl Sh own_d10_38 (pc' := 41) rfl (fun T212 X212 => ?_)
  refine g_ishr X212 hx hby own_d10_41 (pc' := 42) rfl ?_
  refine g_i2b X212 hx hby own_d10_42 (pc' := 43) rfl ?_
  refine g_bastore (i := 0) X212 hx hby hZ LA0 (by decide) (by decide) gn own_d10_43 (pc' := 44) rfl (fun T213 h213 sl213 X213 W213 A213 => ?_)
  have q214 := Sd.wr W213
  have q215 := Sh.wr W213
  have q216 := Sl.wr W213
  have zz217 := Nat.le_trans Z0 (Nat.le_of_eq W213.size.symm)
  have kk218 : Keep h0 h213 [y0] := (Keep.refl h0 [y0]).wr W213 (Or.inl (by simp))
  refine g_aloadN X213 hx hby own_d10_44 rfl rfl (pc' := 45) rfl ?_
  refine g_iloadN X213 hx hby own_d10_45 rfl (pc' := 46) rfl ?_
  refine g_iloadN X213 hx hby own_d10_46 rfl (pc' := 47) rfl ?_
  refine g_getS X213 hx hby hZ hown (hw _ (List.mem_of_getElem? (i := 81) rfl)) Via.refl q216 own_d10_47 (pc' := 50) rfl (fun T219 X219 => ?_)
  refine g_ishr X219 hx hby own_d10_50 (pc' := 51) rfl ?_
  refine g_i2b X219 hx hby own_d10_51 (pc' := 52) rfl ?_
  refine g_bastore (i := 1) X219 hx hby hZ A213 (by decide) (by decide) gn own_d10_52 (pc' := 53) rfl (fun T220 h220 sl220 X220 W220 A220 => ?_)
  have q221 := q214.wr W220
  have q222 := q215.wr W220
  have q223 := q216.wr W220
  have zz224 := Nat.le_trans zz217 (Nat.le_of_eq W220.size.symm)
  have kk225 : Keep h0 h220 [y0] := kk218.wr W220 (Or.inl (by simp))
  exact g_ret X220 hx hby hret hlk own_d10_53 ⟨rfl, kk225, A220⟩ (by decide) (by decide)
set_option maxRecDepth 65536 in
set_option maxHeartbeats 40000000 in
theorem own_ef226 (m : MethodId) (y0 : Addr) (y1 : Int32)  : entryFrame m #[(.ref y0), (.int y1)] 2 = mkF m 0 #[.val (.ref y0), .val (.int y1)] [] := by first | (simp [entryFrame, mkF, argsToLocals, Value.category, maxLocals]; done) | rfl
set_option maxRecDepth 65536 in
set_option maxHeartbeats 40000000 in
theorem own_gc_2_0 (l : Launch) (Z : State) (a0 : Array Value) (hw : ∀ d ∈ tables_1, d.before a0 Z = true) (y0 : Addr) (h0 : Heap) (n0 : Nat) (f : Nat → Int32) (hr : ∀ i, 0 ≤ (f i).toInt ∧ (f i).toInt ≤ 65535) (LA0 : Ary Z h0 y0 .byte 4 (fun i => .int (own_ub f i))) (Sd : Sta Z h0 "java/lang/StringUTF16" "$assertionsDisabled" "Z" (.int 1)) (Sh : Sta Z h0 "java/lang/StringUTF16" "HI_BYTE_SHIFT" "I" (.int 0)) (Sl : Sta Z h0 "java/lang/StringUTF16" "LO_BYTE_SHIFT" "I" (.int 8)) :
    Ctr l Z (⟨"java/lang/StringUTF16", "getChar", "([BI)C"⟩ : MethodName) jdk_52_method_5_code 2 (some .char) [] (own_room 0 0 0 0) #[(.ref y0), (.int (0 : Int32))] h0 n0 0 0 (fun v h => v = some (.int (f 0)) ∧ h = h0) := by
  refine Ctr.of (plainFor_of_name own_pn3) ?_
  intro p e s m below meth c T0 hx hby hml hret hlk hnm hown hZ X0
  rw [own_ef226 m (y0) ((0 : Int32))]
  refine g_getS X0 hx hby hZ hown (hw _ (List.mem_of_getElem? (i := 79) rfl)) Via.refl Sd own_d11_0 (pc' := 3) rfl (fun T227 X227 => ?_)
  refine g_if_ne X227 hx hby own_d11_3 (by decide) (pc' := 28) (by decide) (pc2 := 6) rfl (fun c3_228 => ?_) (fun q => absurd q (by decide))
  refine g_iloadN X227 hx hby own_d11_28 rfl (pc' := 29) rfl ?_
  refine g_iconst (v := 1) X227 hx hby own_d11_29 rfl (pc' := 30) rfl ?_
  refine g_ishl X227 hx hby own_d11_30 (pc' := 31) rfl ?_
  refine g_istoreN (L' := #[.val (.ref y0), .val (.int ((0 : Int32) <<< ((1 : Int32) &&& 31)))]) X227 hx hby own_d11_31 rfl (pc' := 32) rfl ?_
  refine g_aloadN X227 hx hby own_d11_32 rfl rfl (pc' := 33) rfl ?_
  refine g_iloadN X227 hx hby own_d11_33 rfl (pc' := 34) rfl ?_
  refine g_iinc (y := 1) (L' := #[.val (.ref y0), .val (.int (((0 : Int32) <<< ((1 : Int32) &&& 31)) + (1 : Int32)))]) X227 hx hby own_d11_34 rfl rfl rfl (pc' := 37) rfl ?_
  refine g_baload (i := 0) (v := (.int (own_lo (f 0)))) X227 hx hby hZ LA0 (by decide) (by decide) rfl own_d11_37 (pc' := 38) rfl ?_
  refine g_sipush (v := 255) X227 hx hby own_d11_38 rfl (pc' := 41) rfl ?_
  refine g_iand X227 hx hby own_d11_41 (pc' := 42) rfl ?_
  refine g_getS X227 hx hby hZ hown (hw _ (List.mem_of_getElem? (i := 80) rfl)) Via.refl Sh own_d11_42 (pc' := 45) rfl (fun T229 X229 => ?_)
  refine g_ishl X229 hx hby own_d11_45 (pc' := 46) rfl ?_
  refine g_aloadN X229 hx hby own_d11_46 rfl rfl (pc' := 47) rfl ?_
  refine g_iloadN X229 hx hby own_d11_47 rfl (pc' := 48) rfl ?_
  refine g_baload (i := 1) (v := (.int (own_hi (f 0)))) X229 hx hby hZ LA0 (by decide) (by decide) rfl own_d11_48 (pc' := 49) rfl ?_
  refine g_sipush (v := 255) X229 hx hby own_d11_49 rfl (pc' := 52) rfl ?_
  refine g_iand X229 hx hby own_d11_52 (pc' := 53) rfl ?_
  refine g_getS X229 hx hby hZ hown (hw _ (List.mem_of_getElem? (i := 81) rfl)) Via.refl Sl own_d11_53 (pc' := 56) rfl (fun T230 X230 => ?_)
  refine g_ishl X230 hx hby own_d11_56 (pc' := 57) rfl ?_
  refine g_ior X230 hx hby own_d11_57 (pc' := 58) rfl ?_
  refine g_i2c X230 hx hby own_d11_58 (pc' := 59) rfl ?_
  exact g_retN X230 hx hby hret hlk (by simp) own_d11_59 ⟨congrArg (fun z => some (Value.int z)) (own_get (hr 0)), rfl⟩ (by decide) (by decide)
set_option maxRecDepth 65536 in
set_option maxHeartbeats 40000000 in
theorem own_ef231 (m : MethodId) (y0 : Addr) (y1 : Int32) (y2 : Int32)  : entryFrame m #[(.ref y0), (.int y1), (.int y2)] 3 = mkF m 0 #[.val (.ref y0), .val (.int y1), .val (.int y2)] [] := by first | (simp [entryFrame, mkF, argsToLocals, Value.category, maxLocals]; done) | rfl
set_option maxRecDepth 65536 in
set_option maxHeartbeats 40000000 in
theorem own_pu_2_1 (l : Launch) (Z : State) (a0 : Array Value) (hw : ∀ d ∈ tables_1, d.before a0 Z = true) (y0 : Addr) (y2 : Int32) (h0 : Heap) (n0 : Nat) (Z0 : n0 ≤ h0.size) (g : Nat → Value) (LA0 : Ary Z h0 y0 .byte 4 g) (gn : n0 ≤ y0) (Sd : Sta Z h0 "java/lang/StringUTF16" "$assertionsDisabled" "Z" (.int 1)) (Sh : Sta Z h0 "java/lang/StringUTF16" "HI_BYTE_SHIFT" "I" (.int 0)) (Sl : Sta Z h0 "java/lang/StringUTF16" "LO_BYTE_SHIFT" "I" (.int 8)) :
    Ctr l Z (⟨"java/lang/StringUTF16", "putChar", "([BII)V"⟩ : MethodName) jdk_52_method_4_code 3 none [] (own_room 0 0 0 0) #[(.ref y0), (.int (1 : Int32)), (.int y2)] h0 n0 0 0 (fun v h => v = none ∧ Keep h0 h [y0] ∧ Ary Z h y0 .byte 4 (own_upd (own_upd g 2 (.int (own_lo y2))) 3 (.int (own_hi y2)))) := by
  refine Ctr.of (plainFor_of_name own_pn3) ?_
  intro p e s m below meth c T0 hx hby hml hret hlk hnm hown hZ X0
  rw [own_ef231 m (y0) ((1 : Int32)) (y2)]
  refine g_getS X0 hx hby hZ hown (hw _ (List.mem_of_getElem? (i := 79) rfl)) Via.refl Sd own_d10_0 (pc' := 3) rfl (fun T232 X232 => ?_)
  refine g_if_ne X232 hx hby own_d10_3 (by decide) (pc' := 28) (by decide) (pc2 := 6) rfl (fun c3_233 => ?_) (fun q => absurd q (by decide))
  refine g_iloadN X232 hx hby own_d10_28 rfl (pc' := 29) rfl ?_
  refine g_iconst (v := 1) X232 hx hby own_d10_29 rfl (pc' := 30) rfl ?_
  refine g_ishl X232 hx hby own_d10_30 (pc' := 31) rfl ?_
  refine g_istoreN (L' := #[.val (.ref y0), .val (.int ((1 : Int32) <<< ((1 : Int32) &&& 31))), .val (.int y2)]) X232 hx hby own_d10_31 rfl (pc' := 32) rfl ?_
  refine g_aloadN X232 hx hby own_d10_32 rfl rfl (pc' := 33) rfl ?_
  refine g_iloadN X232 hx hby own_d10_33 rfl (pc' := 34) rfl ?_
  refine g_iinc (y := 1) (L' := #[.val (.ref y0), .val (.int (((1 : Int32) <<< ((1 : Int32) &&& 31)) + (1 : Int32))), .val (.int y2)]) X232 hx hby own_d10_34 rfl rfl rfl (pc' := 37) rfl ?_
  refine g_iloadN X232 hx hby own_d10_37 rfl (pc' := 38) rfl ?_
  refine g_getS X232 hx hby hZ hown (hw _ (List.mem_of_getElem? (i := 80) rfl)) Via.refl Sh own_d10_38 (pc' := 41) rfl (fun T234 X234 => ?_)
  refine g_ishr X234 hx hby own_d10_41 (pc' := 42) rfl ?_
  refine g_i2b X234 hx hby own_d10_42 (pc' := 43) rfl ?_
  refine g_bastore (i := 2) X234 hx hby hZ LA0 (by decide) (by decide) gn own_d10_43 (pc' := 44) rfl (fun T235 h235 sl235 X235 W235 A235 => ?_)
  have q236 := Sd.wr W235
  have q237 := Sh.wr W235
  have q238 := Sl.wr W235
  have zz239 := Nat.le_trans Z0 (Nat.le_of_eq W235.size.symm)
  have kk240 : Keep h0 h235 [y0] := (Keep.refl h0 [y0]).wr W235 (Or.inl (by simp))
  refine g_aloadN X235 hx hby own_d10_44 rfl rfl (pc' := 45) rfl ?_
  refine g_iloadN X235 hx hby own_d10_45 rfl (pc' := 46) rfl ?_
  refine g_iloadN X235 hx hby own_d10_46 rfl (pc' := 47) rfl ?_
  refine g_getS X235 hx hby hZ hown (hw _ (List.mem_of_getElem? (i := 81) rfl)) Via.refl q238 own_d10_47 (pc' := 50) rfl (fun T241 X241 => ?_)
  refine g_ishr X241 hx hby own_d10_50 (pc' := 51) rfl ?_
  refine g_i2b X241 hx hby own_d10_51 (pc' := 52) rfl ?_
  refine g_bastore (i := 3) X241 hx hby hZ A235 (by decide) (by decide) gn own_d10_52 (pc' := 53) rfl (fun T242 h242 sl242 X242 W242 A242 => ?_)
  have q243 := q236.wr W242
  have q244 := q237.wr W242
  have q245 := q238.wr W242
  have zz246 := Nat.le_trans zz239 (Nat.le_of_eq W242.size.symm)
  have kk247 : Keep h0 h242 [y0] := kk240.wr W242 (Or.inl (by simp))
  exact g_ret X242 hx hby hret hlk own_d10_53 ⟨rfl, kk247, A242⟩ (by decide) (by decide)
set_option maxRecDepth 65536 in
set_option maxHeartbeats 40000000 in
theorem own_ef248 (m : MethodId) (y0 : Addr) (y1 : Int32)  : entryFrame m #[(.ref y0), (.int y1)] 2 = mkF m 0 #[.val (.ref y0), .val (.int y1)] [] := by first | (simp [entryFrame, mkF, argsToLocals, Value.category, maxLocals]; done) | rfl
set_option maxRecDepth 65536 in
set_option maxHeartbeats 40000000 in
theorem own_gc_2_1 (l : Launch) (Z : State) (a0 : Array Value) (hw : ∀ d ∈ tables_1, d.before a0 Z = true) (y0 : Addr) (h0 : Heap) (n0 : Nat) (f : Nat → Int32) (hr : ∀ i, 0 ≤ (f i).toInt ∧ (f i).toInt ≤ 65535) (LA0 : Ary Z h0 y0 .byte 4 (fun i => .int (own_ub f i))) (Sd : Sta Z h0 "java/lang/StringUTF16" "$assertionsDisabled" "Z" (.int 1)) (Sh : Sta Z h0 "java/lang/StringUTF16" "HI_BYTE_SHIFT" "I" (.int 0)) (Sl : Sta Z h0 "java/lang/StringUTF16" "LO_BYTE_SHIFT" "I" (.int 8)) :
    Ctr l Z (⟨"java/lang/StringUTF16", "getChar", "([BI)C"⟩ : MethodName) jdk_52_method_5_code 2 (some .char) [] (own_room 0 0 0 0) #[(.ref y0), (.int (1 : Int32))] h0 n0 0 0 (fun v h => v = some (.int (f 1)) ∧ h = h0) := by
  refine Ctr.of (plainFor_of_name own_pn3) ?_
  intro p e s m below meth c T0 hx hby hml hret hlk hnm hown hZ X0
  rw [own_ef248 m (y0) ((1 : Int32))]
  refine g_getS X0 hx hby hZ hown (hw _ (List.mem_of_getElem? (i := 79) rfl)) Via.refl Sd own_d11_0 (pc' := 3) rfl (fun T249 X249 => ?_)
  refine g_if_ne X249 hx hby own_d11_3 (by decide) (pc' := 28) (by decide) (pc2 := 6) rfl (fun c3_250 => ?_) (fun q => absurd q (by decide))
  refine g_iloadN X249 hx hby own_d11_28 rfl (pc' := 29) rfl ?_
  refine g_iconst (v := 1) X249 hx hby own_d11_29 rfl (pc' := 30) rfl ?_
  refine g_ishl X249 hx hby own_d11_30 (pc' := 31) rfl ?_
  refine g_istoreN (L' := #[.val (.ref y0), .val (.int ((1 : Int32) <<< ((1 : Int32) &&& 31)))]) X249 hx hby own_d11_31 rfl (pc' := 32) rfl ?_
  refine g_aloadN X249 hx hby own_d11_32 rfl rfl (pc' := 33) rfl ?_
  refine g_iloadN X249 hx hby own_d11_33 rfl (pc' := 34) rfl ?_
  refine g_iinc (y := 1) (L' := #[.val (.ref y0), .val (.int (((1 : Int32) <<< ((1 : Int32) &&& 31)) + (1 : Int32)))]) X249 hx hby own_d11_34 rfl rfl rfl (pc' := 37) rfl ?_
  refine g_baload (i := 2) (v := (.int (own_lo (f 1)))) X249 hx hby hZ LA0 (by decide) (by decide) rfl own_d11_37 (pc' := 38) rfl ?_
  refine g_sipush (v := 255) X249 hx hby own_d11_38 rfl (pc' := 41) rfl ?_
  refine g_iand X249 hx hby own_d11_41 (pc' := 42) rfl ?_
  refine g_getS X249 hx hby hZ hown (hw _ (List.mem_of_getElem? (i := 80) rfl)) Via.refl Sh own_d11_42 (pc' := 45) rfl (fun T251 X251 => ?_)
  refine g_ishl X251 hx hby own_d11_45 (pc' := 46) rfl ?_
  refine g_aloadN X251 hx hby own_d11_46 rfl rfl (pc' := 47) rfl ?_
  refine g_iloadN X251 hx hby own_d11_47 rfl (pc' := 48) rfl ?_
  refine g_baload (i := 3) (v := (.int (own_hi (f 1)))) X251 hx hby hZ LA0 (by decide) (by decide) rfl own_d11_48 (pc' := 49) rfl ?_
  refine g_sipush (v := 255) X251 hx hby own_d11_49 rfl (pc' := 52) rfl ?_
  refine g_iand X251 hx hby own_d11_52 (pc' := 53) rfl ?_
  refine g_getS X251 hx hby hZ hown (hw _ (List.mem_of_getElem? (i := 81) rfl)) Via.refl Sl own_d11_53 (pc' := 56) rfl (fun T252 X252 => ?_)
  refine g_ishl X252 hx hby own_d11_56 (pc' := 57) rfl ?_
  refine g_ior X252 hx hby own_d11_57 (pc' := 58) rfl ?_
  refine g_i2c X252 hx hby own_d11_58 (pc' := 59) rfl ?_
  exact g_retN X252 hx hby hret hlk (by simp) own_d11_59 ⟨congrArg (fun z => some (Value.int z)) (own_get (hr 1)), rfl⟩ (by decide) (by decide)
set_option maxRecDepth 65536 in
set_option maxHeartbeats 40000000 in
theorem own_ef253 (m : MethodId) (y0 : Addr) (y1 : Int32) (y2 : Int32)  : entryFrame m #[(.ref y0), (.int y1), (.int y2)] 5 = mkF m 0 #[.val (.ref y0), .val (.int y1), .val (.int y2), .unset, .unset] [] := by first | (simp [entryFrame, mkF, argsToLocals, Value.category, maxLocals]; done) | rfl
set_option maxRecDepth 65536 in
set_option maxHeartbeats 40000000 in
theorem own_tb_2 (l : Launch) (Z : State) (a0 : Array Value) (hw : ∀ d ∈ tables_1, d.before a0 Z = true) (y0 : Addr) (h0 : Heap) (n0 : Nat) (Z0 : n0 ≤ h0.size) (f : Nat → Int32) (LA0 : Ary Z h0 y0 .char 2 (fun i => .int (f i))) (Sd : Sta Z h0 "java/lang/StringUTF16" "$assertionsDisabled" "Z" (.int 1)) (Sh : Sta Z h0 "java/lang/StringUTF16" "HI_BYTE_SHIFT" "I" (.int 0)) (Sl : Sta Z h0 "java/lang/StringUTF16" "LO_BYTE_SHIFT" "I" (.int 8)) :
    Ctr l Z (⟨"java/lang/StringUTF16", "toBytes", "([CII)[B"⟩ : MethodName) jdk_52_method_14_code 5 (some (.array .byte)) [] (own_room 2 1 4 24) #[(.ref y0), (.int (0 : Int32)), (.int (2 : Int32))] h0 n0 1 4 (fun v h => ∃ b, v = some (.ref b) ∧ Keep h0 h [] ∧ h0.size ≤ b ∧ n0 ≤ b ∧ Ary Z h b .byte 4 (fun i => .int (own_ub f i))) := by
  refine Ctr.of (plainFor_of_name own_pn3) ?_
  intro p e s m below meth c T0 hx hby hml hret hlk hnm hown hZ X0
  rw [own_ef253 m (y0) ((0 : Int32)) ((2 : Int32))]
  refine g_iloadN X0 hx hby own_d12_0 rfl (pc' := 1) rfl ?_
  refine g_callS (argsL := [(.int (2 : Int32))]) (S := []) X0 hx hby hZ (y := (⟨"java/lang/StringUTF16", "newBytesFor", "(I)[B"⟩ : MethodName)) hown (hw _ (List.mem_of_getElem? (i := 69) rfl)) (hw _ (List.mem_of_getElem? (i := 70) rfl)) (hw _ (List.mem_of_getElem? (i := 55) rfl)) (hw _ (List.mem_of_getElem? (i := 71) rfl)) (by decide) (own_nf_2 l Z a0 hw h0 n0 Z0) (by rw [hml]; rfl) (lenOf own_pd6 rfl) rfl own_d12_1 (by decide) (W := 0) (by exact Nat.le_of_eq rfl) (by decide) (by decide) (by decide) (pc' := 4) rfl (fun T254 v254 X254 hQ254 => ?_)
  obtain ⟨b254, rfl, ka254, hb254, nb254, aa254⟩ := hQ254
  have ne254_y0 : y0 ≠ b254 := Nat.ne_of_lt (Nat.lt_of_lt_of_le LA0.lt hb254)
  have q255 := own_sta_keep Sd ka254 all0
  have q256 := own_sta_keep Sh ka254 all0
  have q257 := own_sta_keep Sl ka254 all0
  have q258 := LA0.keep ka254 nin0
  have zz259 := Nat.le_trans Z0 ka254.1
  have kk260 : Keep h0 T254.heap [] := (Keep.refl h0 []).trans ka254 all0
  show Gl p e below n0 _ _ (T254.setTop (mkF m 4 #[.val (.ref y0), .val (.int (0 : Int32)), .val (.int (2 : Int32)), .unset, .unset] [(.ref b254)]))
  refine g_astoreN (L' := #[.val (.ref y0), .val (.int (0 : Int32)), .val (.int (2 : Int32)), .val (.ref b254), .unset]) X254 hx hby own_d12_4 rfl rfl (pc' := 5) rfl ?_
  refine g_iconst (v := 0) X254 hx hby own_d12_5 rfl (pc' := 6) rfl ?_
  refine g_istore (L' := #[.val (.ref y0), .val (.int (0 : Int32)), .val (.int (2 : Int32)), .val (.ref b254), .val (.int (0 : Int32))]) X254 hx hby own_d12_6 rfl (pc' := 8) rfl ?_
  refine g_iload X254 hx hby own_d12_8 rfl (pc' := 10) rfl ?_
  refine g_iloadN X254 hx hby own_d12_10 rfl (pc' := 11) rfl ?_
  refine g_icmp_ge X254 hx hby own_d12_11 (by decide) (pc' := 32) (by decide) (pc2 := 14) rfl (fun q => absurd (by decide) q) (fun c11_261 => ?_)
  refine g_aloadN X254 hx hby own_d12_14 rfl rfl (pc' := 15) rfl ?_
  refine g_iload X254 hx hby own_d12_15 rfl (pc' := 17) rfl ?_
  refine g_aloadN X254 hx hby own_d12_17 rfl rfl (pc' := 18) rfl ?_
  refine g_iloadN X254 hx hby own_d12_18 rfl (pc' := 19) rfl ?_
  refine g_caload (i := 0) (v := (.int (f 0))) X254 hx hby hZ q258 (by decide) (by decide) rfl own_d12_19 (pc' := 20) rfl ?_
  refine g_callS (argsL := [(.ref b254), (.int (0 : Int32)), (.int (f 0))]) (S := []) X254 hx hby hZ (y := (⟨"java/lang/StringUTF16", "putChar", "([BII)V"⟩ : MethodName)) hown (hw _ (List.mem_of_getElem? (i := 76) rfl)) (hw _ (List.mem_of_getElem? (i := 77) rfl)) (hw _ (List.mem_of_getElem? (i := 55) rfl)) (hw _ (List.mem_of_getElem? (i := 78) rfl)) (by decide) (own_pu_2_0 l Z a0 hw b254 (f 0) T254.heap n0 zz259 _ aa254 nb254 q255 q256 q257) (by rw [hml]; rfl) (lenOf own_pd7 rfl) rfl own_d12_20 (by decide) (W := 0) (by exact Nat.le_of_eq rfl) (by decide) (by decide) (by decide) (pc' := 23) rfl (fun T262 v262 X262 hQ262 => ?_)
  obtain ⟨rfl, ka262, aa262⟩ := hQ262
  have q263 := own_sta_keep q255 ka262 (allS (own_plainA aa254) all0)
  have q264 := own_sta_keep q256 ka262 (allS (own_plainA aa254) all0)
  have q265 := own_sta_keep q257 ka262 (allS (own_plainA aa254) all0)
  have q266 := q258.keep ka262 (ninS ne254_y0 nin0)
  have zz267 := Nat.le_trans zz259 ka262.1
  have kk268 : Keep h0 T262.heap [] := kk260.trans ka262 (allS (Or.inr (Nat.le_trans (Keep.refl h0 []).1 hb254)) all0)
  show Gl p e below n0 _ _ (T262.setTop (mkF m 23 #[.val (.ref y0), .val (.int (0 : Int32)), .val (.int (2 : Int32)), .val (.ref b254), .val (.int (0 : Int32))] []))
  refine g_iinc (y := 1) (L' := #[.val (.ref y0), .val (.int (1 : Int32)), .val (.int (2 : Int32)), .val (.ref b254), .val (.int (0 : Int32))]) X262 hx hby own_d12_23 rfl rfl rfl (pc' := 26) rfl ?_
  refine g_iinc (y := 1) (L' := #[.val (.ref y0), .val (.int (1 : Int32)), .val (.int (2 : Int32)), .val (.ref b254), .val (.int (1 : Int32))]) X262 hx hby own_d12_26 rfl rfl rfl (pc' := 29) rfl ?_
  refine g_goto X262 hx hby own_d12_29 (by decide) (pc' := 8) (by decide) ?_
  refine g_iload X262 hx hby own_d12_8 rfl (pc' := 10) rfl ?_
  refine g_iloadN X262 hx hby own_d12_10 rfl (pc' := 11) rfl ?_
  refine g_icmp_ge X262 hx hby own_d12_11 (by decide) (pc' := 32) (by decide) (pc2 := 14) rfl (fun q => absurd (by decide) q) (fun c11_269 => ?_)
  refine g_aloadN X262 hx hby own_d12_14 rfl rfl (pc' := 15) rfl ?_
  refine g_iload X262 hx hby own_d12_15 rfl (pc' := 17) rfl ?_
  refine g_aloadN X262 hx hby own_d12_17 rfl rfl (pc' := 18) rfl ?_
  refine g_iloadN X262 hx hby own_d12_18 rfl (pc' := 19) rfl ?_
  refine g_caload (i := 1) (v := (.int (f 1))) X262 hx hby hZ q266 (by decide) (by decide) rfl own_d12_19 (pc' := 20) rfl ?_
  refine g_callS (argsL := [(.ref b254), (.int (1 : Int32)), (.int (f 1))]) (S := []) X262 hx hby hZ (y := (⟨"java/lang/StringUTF16", "putChar", "([BII)V"⟩ : MethodName)) hown (hw _ (List.mem_of_getElem? (i := 76) rfl)) (hw _ (List.mem_of_getElem? (i := 77) rfl)) (hw _ (List.mem_of_getElem? (i := 55) rfl)) (hw _ (List.mem_of_getElem? (i := 78) rfl)) (by decide) (own_pu_2_1 l Z a0 hw b254 (f 1) T262.heap n0 zz267 _ aa262 nb254 q263 q264 q265) (by rw [hml]; rfl) (lenOf own_pd7 rfl) rfl own_d12_20 (by decide) (W := 0) (by exact Nat.le_of_eq rfl) (by decide) (by decide) (by decide) (pc' := 23) rfl (fun T270 v270 X270 hQ270 => ?_)
  obtain ⟨rfl, ka270, aa270⟩ := hQ270
  have q271 := own_sta_keep q263 ka270 (allS (own_plainA aa262) all0)
  have q272 := own_sta_keep q264 ka270 (allS (own_plainA aa262) all0)
  have q273 := own_sta_keep q265 ka270 (allS (own_plainA aa262) all0)
  have q274 := q266.keep ka270 (ninS ne254_y0 nin0)
  have zz275 := Nat.le_trans zz267 ka270.1
  have kk276 : Keep h0 T270.heap [] := kk268.trans ka270 (allS (Or.inr (Nat.le_trans (Keep.refl h0 []).1 hb254)) all0)
  show Gl p e below n0 _ _ (T270.setTop (mkF m 23 #[.val (.ref y0), .val (.int (1 : Int32)), .val (.int (2 : Int32)), .val (.ref b254), .val (.int (1 : Int32))] []))
  refine g_iinc (y := 1) (L' := #[.val (.ref y0), .val (.int (2 : Int32)), .val (.int (2 : Int32)), .val (.ref b254), .val (.int (1 : Int32))]) X270 hx hby own_d12_23 rfl rfl rfl (pc' := 26) rfl ?_
  refine g_iinc (y := 1) (L' := #[.val (.ref y0), .val (.int (2 : Int32)), .val (.int (2 : Int32)), .val (.ref b254), .val (.int (2 : Int32))]) X270 hx hby own_d12_26 rfl rfl rfl (pc' := 29) rfl ?_
  refine g_goto X270 hx hby own_d12_29 (by decide) (pc' := 8) (by decide) ?_
  refine g_iload X270 hx hby own_d12_8 rfl (pc' := 10) rfl ?_
  refine g_iloadN X270 hx hby own_d12_10 rfl (pc' := 11) rfl ?_
  refine g_icmp_ge X270 hx hby own_d12_11 (by decide) (pc' := 32) (by decide) (pc2 := 14) rfl (fun c11_277 => ?_) (fun q => absurd q (by decide))
  refine g_aloadN X270 hx hby own_d12_32 rfl rfl (pc' := 33) rfl ?_
  exact g_retA X270 hx hby hret hlk rfl rfl own_d12_33 ⟨b254, rfl, kk276, (Nat.le_trans (Keep.refl h0 []).1 hb254), nb254, aa270.congr fun i hi => by
    have h8 : i = 0 ∨ i = 1 ∨ i = 2 ∨ i = 3 := by omega
    rcases h8 with rfl | rfl | rfl | rfl <;> rfl⟩ (by decide) (by decide)
set_option maxRecDepth 65536 in
set_option maxHeartbeats 40000000 in
theorem own_ef278 (m : MethodId) (y0 : Addr) (y1 : Int32) (y2 : Addr) (y3 : Int32) (y4 : Int32)  : entryFrame m #[(.ref y0), (.int y1), (.ref y2), (.int y3), (.int y4)] 7 = mkF m 0 #[.val (.ref y0), .val (.int y1), .val (.ref y2), .val (.int y3), .val (.int y4), .unset, .unset] [] := by first | (simp [entryFrame, mkF, argsToLocals, Value.category, maxLocals]; done) | rfl
set_option maxRecDepth 65536 in
set_option maxHeartbeats 40000000 in
theorem own_p5_2 (l : Launch) (Z : State) (a0 : Array Value) (hw : ∀ d ∈ tables_1, d.before a0 Z = true) (y0 y2 : Addr) (h0 : Heap) (n0 : Nat) (Z0 : n0 ≤ h0.size) (f : Nat → Int32) (g : Nat → Value) (LA0 : Ary Z h0 y0 .char 2 (fun i => .int (f i))) (LA2 : Ary Z h0 y2 .byte 2 g) (gn : n0 ≤ y2) :
    Ctr l Z (⟨"java/lang/StringUTF16", "compress", "([CI[BII)I"⟩ : MethodName) jdk_52_method_21_code 7 (some .int) [] (own_room 0 0 0 0) #[(.ref y0), (.int (0 : Int32)), (.ref y2), (.int (0 : Int32)), (.int (2 : Int32))] h0 n0 0 0 (fun v h => (v = some (.int 2) ∧ Keep h0 h [y2] ∧ Ary Z h y2 .byte 2 (fun i => .int (own_y (f i))) ∧ ∀ i, i < 2 → ¬ (255 : Int32) < f i) ∨ (v = some (.int 0) ∧ Keep h0 h [y2] ∧ (255 : Int32) < f 0) ∨ (v = some (.int 1) ∧ Keep h0 h [y2] ∧ (255 : Int32) < f 1)) := by
  refine Ctr.of (plainFor_of_name own_pn3) ?_
  intro p e s m below meth c T0 hx hby hml hret hlk hnm hown hZ X0
  rw [own_ef278 m (y0) ((0 : Int32)) (y2) ((0 : Int32)) ((2 : Int32))]
  refine g_iconst (v := 0) X0 hx hby own_d13_0 rfl (pc' := 1) rfl ?_
  refine g_istore (L' := #[.val (.ref y0), .val (.int (0 : Int32)), .val (.ref y2), .val (.int (0 : Int32)), .val (.int (2 : Int32)), .val (.int (0 : Int32)), .unset]) X0 hx hby own_d13_1 rfl (pc' := 3) rfl ?_
  refine g_iload X0 hx hby own_d13_3 rfl (pc' := 5) rfl ?_
  refine g_iload X0 hx hby own_d13_5 rfl (pc' := 7) rfl ?_
  refine g_icmp_ge X0 hx hby own_d13_7 (by decide) (pc' := 44) (by decide) (pc2 := 10) rfl (fun q => absurd (by decide) q) (fun c7_279 => ?_)
  refine g_aloadN X0 hx hby own_d13_10 rfl rfl (pc' := 11) rfl ?_
  refine g_iloadN X0 hx hby own_d13_11 rfl (pc' := 12) rfl ?_
  refine g_caload (i := 0) (v := (.int (f 0))) X0 hx hby hZ LA0 (by decide) (by decide) rfl own_d13_12 (pc' := 13) rfl ?_
  refine g_istore (L' := #[.val (.ref y0), .val (.int (0 : Int32)), .val (.ref y2), .val (.int (0 : Int32)), .val (.int (2 : Int32)), .val (.int (0 : Int32)), .val (.int (f 0))]) X0 hx hby own_d13_13 rfl (pc' := 15) rfl ?_
  refine g_iload X0 hx hby own_d13_15 rfl (pc' := 17) rfl ?_
  refine g_sipush (v := 255) X0 hx hby own_d13_17 rfl (pc' := 20) rfl ?_
  refine g_icmp_le X0 hx hby own_d13_20 (by decide) (pc' := 26) (by decide) (pc2 := 23) rfl (fun c20_280 => ?_) (fun c20_280 => ?_)
  · refine g_aloadN X0 hx hby own_d13_26 rfl rfl (pc' := 27) rfl ?_
    refine g_iloadN X0 hx hby own_d13_27 rfl (pc' := 28) rfl ?_
    refine g_iload X0 hx hby own_d13_28 rfl (pc' := 30) rfl ?_
    refine g_i2b X0 hx hby own_d13_30 (pc' := 31) rfl ?_
    refine g_bastore (i := 0) X0 hx hby hZ LA2 rfl (by decide) gn own_d13_31 (pc' := 32) rfl (fun T281 h281 sl281 X281 W281 A281 => ?_)
    have q282 := LA0.other W281 (own_ne_ty LA0 LA2 (by decide))
    have zz283 := Nat.le_trans Z0 (Nat.le_of_eq W281.size.symm)
    have kk284 : Keep h0 h281 [y2] := (Keep.refl h0 [y2]).wr W281 (Or.inl (by simp))
    refine g_iinc (y := 1) (L' := #[.val (.ref y0), .val (.int (1 : Int32)), .val (.ref y2), .val (.int (0 : Int32)), .val (.int (2 : Int32)), .val (.int (0 : Int32)), .val (.int (f 0))]) X281 hx hby own_d13_32 rfl rfl rfl (pc' := 35) rfl ?_
    refine g_iinc (y := 1) (L' := #[.val (.ref y0), .val (.int (1 : Int32)), .val (.ref y2), .val (.int (1 : Int32)), .val (.int (2 : Int32)), .val (.int (0 : Int32)), .val (.int (f 0))]) X281 hx hby own_d13_35 rfl rfl rfl (pc' := 38) rfl ?_
    refine g_iinc (y := 1) (L' := #[.val (.ref y0), .val (.int (1 : Int32)), .val (.ref y2), .val (.int (1 : Int32)), .val (.int (2 : Int32)), .val (.int (1 : Int32)), .val (.int (f 0))]) X281 hx hby own_d13_38 rfl rfl rfl (pc' := 41) rfl ?_
    refine g_goto X281 hx hby own_d13_41 (by decide) (pc' := 3) (by decide) ?_
    refine g_iload X281 hx hby own_d13_3 rfl (pc' := 5) rfl ?_
    refine g_iload X281 hx hby own_d13_5 rfl (pc' := 7) rfl ?_
    refine g_icmp_ge X281 hx hby own_d13_7 (by decide) (pc' := 44) (by decide) (pc2 := 10) rfl (fun q => absurd (by decide) q) (fun c7_285 => ?_)
    refine g_aloadN X281 hx hby own_d13_10 rfl rfl (pc' := 11) rfl ?_
    refine g_iloadN X281 hx hby own_d13_11 rfl (pc' := 12) rfl ?_
    refine g_caload (i := 1) (v := (.int (f 1))) X281 hx hby hZ q282 (by decide) (by decide) rfl own_d13_12 (pc' := 13) rfl ?_
    refine g_istore (L' := #[.val (.ref y0), .val (.int (1 : Int32)), .val (.ref y2), .val (.int (1 : Int32)), .val (.int (2 : Int32)), .val (.int (1 : Int32)), .val (.int (f 1))]) X281 hx hby own_d13_13 rfl (pc' := 15) rfl ?_
    refine g_iload X281 hx hby own_d13_15 rfl (pc' := 17) rfl ?_
    refine g_sipush (v := 255) X281 hx hby own_d13_17 rfl (pc' := 20) rfl ?_
    refine g_icmp_le X281 hx hby own_d13_20 (by decide) (pc' := 26) (by decide) (pc2 := 23) rfl (fun c20_286 => ?_) (fun c20_286 => ?_)
    · refine g_aloadN X281 hx hby own_d13_26 rfl rfl (pc' := 27) rfl ?_
      refine g_iloadN X281 hx hby own_d13_27 rfl (pc' := 28) rfl ?_
      refine g_iload X281 hx hby own_d13_28 rfl (pc' := 30) rfl ?_
      refine g_i2b X281 hx hby own_d13_30 (pc' := 31) rfl ?_
      refine g_bastore (i := 1) X281 hx hby hZ A281 rfl (by decide) gn own_d13_31 (pc' := 32) rfl (fun T287 h287 sl287 X287 W287 A287 => ?_)
      have q288 := q282.other W287 (own_ne_ty LA0 LA2 (by decide))
      have zz289 := Nat.le_trans zz283 (Nat.le_of_eq W287.size.symm)
      have kk290 : Keep h0 h287 [y2] := kk284.wr W287 (Or.inl (by simp))
      refine g_iinc (y := 1) (L' := #[.val (.ref y0), .val (.int (2 : Int32)), .val (.ref y2), .val (.int (1 : Int32)), .val (.int (2 : Int32)), .val (.int (1 : Int32)), .val (.int (f 1))]) X287 hx hby own_d13_32 rfl rfl rfl (pc' := 35) rfl ?_
      refine g_iinc (y := 1) (L' := #[.val (.ref y0), .val (.int (2 : Int32)), .val (.ref y2), .val (.int (2 : Int32)), .val (.int (2 : Int32)), .val (.int (1 : Int32)), .val (.int (f 1))]) X287 hx hby own_d13_35 rfl rfl rfl (pc' := 38) rfl ?_
      refine g_iinc (y := 1) (L' := #[.val (.ref y0), .val (.int (2 : Int32)), .val (.ref y2), .val (.int (2 : Int32)), .val (.int (2 : Int32)), .val (.int (2 : Int32)), .val (.int (f 1))]) X287 hx hby own_d13_38 rfl rfl rfl (pc' := 41) rfl ?_
      refine g_goto X287 hx hby own_d13_41 (by decide) (pc' := 3) (by decide) ?_
      refine g_iload X287 hx hby own_d13_3 rfl (pc' := 5) rfl ?_
      refine g_iload X287 hx hby own_d13_5 rfl (pc' := 7) rfl ?_
      refine g_icmp_ge X287 hx hby own_d13_7 (by decide) (pc' := 44) (by decide) (pc2 := 10) rfl (fun c7_291 => ?_) (fun q => absurd q (by decide))
      refine g_iload X287 hx hby own_d13_44 rfl (pc' := 46) rfl ?_
      exact g_retI X287 hx hby hret hlk own_d13_46 (Or.inl ⟨rfl, kk290, A287.congr fun i hi => by
        have h8 : i = 0 ∨ i = 1 := by omega
        rcases h8 with rfl | rfl <;> rfl, fun i hi => by
        have h8 : i = 0 ∨ i = 1 := by omega
        rcases h8 with rfl | rfl
        · exact c20_280
        · exact c20_286⟩) (by decide) (by decide)
    · refine g_iload X281 hx hby own_d13_23 rfl (pc' := 25) rfl ?_
      exact g_retI X281 hx hby hret hlk own_d13_25 (Or.inr (Or.inr ⟨rfl, kk284, c20_286⟩)) (by decide) (by decide)
  · refine g_iload X0 hx hby own_d13_23 rfl (pc' := 25) rfl ?_
    exact g_retI X0 hx hby hret hlk own_d13_25 (Or.inr (Or.inl ⟨rfl, (Keep.refl h0 [y2]), c20_280⟩)) (by decide) (by decide)
set_option maxRecDepth 65536 in
set_option maxHeartbeats 40000000 in
theorem own_ef292 (m : MethodId) (y0 : Addr) (y1 : Int32) (y2 : Int32)  : entryFrame m #[(.ref y0), (.int y1), (.int y2)] 6 = mkF m 0 #[.val (.ref y0), .val (.int y1), .val (.int y2), .unset, .unset, .unset] [] := by first | (simp [entryFrame, mkF, argsToLocals, Value.category, maxLocals]; done) | rfl
set_option maxRecDepth 65536 in
set_option maxHeartbeats 40000000 in
theorem own_p3_2 (l : Launch) (Z : State) (a0 : Array Value) (hw : ∀ d ∈ tables_1, d.before a0 Z = true) (y0 : Addr) (h0 : Heap) (n0 : Nat) (Z0 : n0 ≤ h0.size) (f : Nat → Int32) (hr : ∀ i, 0 ≤ (f i).toInt ∧ (f i).toInt ≤ 65535) (LA0 : Ary Z h0 y0 .char 2 (fun i => .int (f i))) (Sd : Sta Z h0 "java/lang/StringUTF16" "$assertionsDisabled" "Z" (.int 1)) (Sh : Sta Z h0 "java/lang/StringUTF16" "HI_BYTE_SHIFT" "I" (.int 0)) (Sl : Sta Z h0 "java/lang/StringUTF16" "LO_BYTE_SHIFT" "I" (.int 8)) :
    Ctr l Z (⟨"java/lang/StringUTF16", "compress", "([CII)[B"⟩ : MethodName) jdk_52_method_16_code 6 (some (.array .byte)) [] (own_room 3 2 6 40) #[(.ref y0), (.int (0 : Int32)), (.int (2 : Int32))] h0 n0 2 6 (fun v h => ∃ b, v = some (.ref b) ∧ Keep h0 h [] ∧ h0.size ≤ b ∧ n0 ≤ b ∧ ((Ary Z h b .byte 2 (fun i => .int (own_y (f i))) ∧ ∀ i, i < 2 → ¬ (255 : Int32) < f i) ∨ Ary Z h b .byte 4 (fun i => .int (own_ub f i)))) := by
  refine Ctr.of (plainFor_of_name own_pn3) ?_
  intro p e s m below meth c T0 hx hby hml hret hlk hnm hown hZ X0
  rw [own_ef292 m (y0) ((0 : Int32)) ((2 : Int32))]
  refine g_iloadN X0 hx hby own_d14_0 rfl (pc' := 1) rfl ?_
  refine g_newarray (k := 2) (cap := 2) X0 hx hby hZ (hw _ (List.mem_of_getElem? (i := 23) rfl)) own_d14_1 rfl (by decide) (by decide) (by decide) (by decide) (pc' := 3) rfl (fun T293 h293 b293 g293 X293 E293 A293 => ?_)
  have ne294 : y0 ≠ b293 := by rw [g293]; exact Nat.ne_of_lt LA0.lt
  have nn295 : n0 ≤ b293 := by rw [g293]; exact Z0
  have hh296 : h0.size ≤ b293 := by rw [g293]; exact (Keep.refl h0 []).1
  have q297 := Sd.ext E293
  have q298 := Sh.ext E293
  have q299 := Sl.ext E293
  have q300 := LA0.ext E293
  have zz301 := Nat.le_trans Z0 E293.1
  have kk302 : Keep h0 h293 [] := (Keep.refl h0 []).ext E293
  refine g_astoreN (L' := #[.val (.ref y0), .val (.int (0 : Int32)), .val (.int (2 : Int32)), .val (.ref b293), .unset, .unset]) X293 hx hby own_d14_3 rfl rfl (pc' := 4) rfl ?_
  refine g_aloadN X293 hx hby own_d14_4 rfl rfl (pc' := 5) rfl ?_
  refine g_iloadN X293 hx hby own_d14_5 rfl (pc' := 6) rfl ?_
  refine g_aloadN X293 hx hby own_d14_6 rfl rfl (pc' := 7) rfl ?_
  refine g_iconst (v := 0) X293 hx hby own_d14_7 rfl (pc' := 8) rfl ?_
  refine g_iloadN X293 hx hby own_d14_8 rfl (pc' := 9) rfl ?_
  refine g_callS (argsL := [(.ref y0), (.int (0 : Int32)), (.ref b293), (.int (0 : Int32)), (.int (2 : Int32))]) (S := []) X293 hx hby hZ (y := (⟨"java/lang/StringUTF16", "compress", "([CI[BII)I"⟩ : MethodName)) hown (hw _ (List.mem_of_getElem? (i := 57) rfl)) (hw _ (List.mem_of_getElem? (i := 58) rfl)) (hw _ (List.mem_of_getElem? (i := 55) rfl)) (hw _ (List.mem_of_getElem? (i := 59) rfl)) (by decide) (own_p5_2 l Z a0 hw y0 b293 h293 n0 zz301 f _ q300 A293 nn295) (by rw [hml]; rfl) (lenOf own_pd8 rfl) rfl own_d14_9 (by decide) (W := 0) (by exact Nat.le_of_eq rfl) (by decide) (by decide) (by decide) (pc' := 12) rfl (fun T303 v303 X303 hQ303 => ?_)
  rcases hQ303 with ⟨rfl, ka303, aa303, hle303⟩ | ⟨rfl, ka303, hgt303⟩ | ⟨rfl, ka303, hgt303⟩
  · have q304 := own_sta_keep q297 ka303 (allS (own_plainA A293) all0)
    have q305 := own_sta_keep q298 ka303 (allS (own_plainA A293) all0)
    have q306 := own_sta_keep q299 ka303 (allS (own_plainA A293) all0)
    have q307 := q300.keep ka303 (ninS ne294 nin0)
    have zz308 := Nat.le_trans zz301 ka303.1
    have kk309 : Keep h0 T303.heap [] := kk302.trans ka303 (allS (Or.inr hh296) all0)
    show Gl p e below n0 _ _ (T303.setTop (mkF m 12 #[.val (.ref y0), .val (.int (0 : Int32)), .val (.int (2 : Int32)), .val (.ref b293), .unset, .unset] [(.int (2 : Int32))]))
    refine g_istore (L' := #[.val (.ref y0), .val (.int (0 : Int32)), .val (.int (2 : Int32)), .val (.ref b293), .val (.int (2 : Int32)), .unset]) X303 hx hby own_d14_12 rfl (pc' := 14) rfl ?_
    refine g_iload X303 hx hby own_d14_14 rfl (pc' := 16) rfl ?_
    refine g_iloadN X303 hx hby own_d14_16 rfl (pc' := 17) rfl ?_
    refine g_icmp_eq X303 hx hby own_d14_17 (by decide) (pc' := 57) (by decide) (pc2 := 20) rfl (fun c17_310 => ?_) (fun q => absurd (by decide) q)
    refine g_aloadN X303 hx hby own_d14_57 rfl rfl (pc' := 58) rfl ?_
    exact g_retA X303 hx hby hret hlk rfl rfl own_d14_58 ⟨b293, rfl, kk309, hh296, nn295, Or.inl ⟨aa303, hle303⟩⟩ (by decide) (by decide)
  · have q311 := own_sta_keep q297 ka303 (allS (own_plainA A293) all0)
    have q312 := own_sta_keep q298 ka303 (allS (own_plainA A293) all0)
    have q313 := own_sta_keep q299 ka303 (allS (own_plainA A293) all0)
    have q314 := q300.keep ka303 (ninS ne294 nin0)
    have zz315 := Nat.le_trans zz301 ka303.1
    have kk316 : Keep h0 T303.heap [] := kk302.trans ka303 (allS (Or.inr hh296) all0)
    show Gl p e below n0 _ _ (T303.setTop (mkF m 12 #[.val (.ref y0), .val (.int (0 : Int32)), .val (.int (2 : Int32)), .val (.ref b293), .unset, .unset] [(.int (0 : Int32))]))
    refine g_istore (L' := #[.val (.ref y0), .val (.int (0 : Int32)), .val (.int (2 : Int32)), .val (.ref b293), .val (.int (0 : Int32)), .unset]) X303 hx hby own_d14_12 rfl (pc' := 14) rfl ?_
    refine g_iload X303 hx hby own_d14_14 rfl (pc' := 16) rfl ?_
    refine g_iloadN X303 hx hby own_d14_16 rfl (pc' := 17) rfl ?_
    refine g_icmp_eq X303 hx hby own_d14_17 (by decide) (pc' := 57) (by decide) (pc2 := 20) rfl (fun q => absurd q (by decide)) (fun c17_317 => ?_)
    refine g_aloadN X303 hx hby own_d14_20 rfl rfl (pc' := 21) rfl ?_
    refine g_iloadN X303 hx hby own_d14_21 rfl (pc' := 22) rfl ?_
    refine g_iloadN X303 hx hby own_d14_22 rfl (pc' := 23) rfl ?_
    refine g_callS (argsL := [(.ref y0), (.int (0 : Int32)), (.int (2 : Int32))]) (S := []) X303 hx hby hZ (y := (⟨"java/lang/StringUTF16", "toBytes", "([CII)[B"⟩ : MethodName)) hown (hw _ (List.mem_of_getElem? (i := 66) rfl)) (hw _ (List.mem_of_getElem? (i := 67) rfl)) (hw _ (List.mem_of_getElem? (i := 55) rfl)) (hw _ (List.mem_of_getElem? (i := 68) rfl)) (by decide) (own_tb_2 l Z a0 hw y0 T303.heap n0 zz315 f q314 q311 q312 q313) (by rw [hml]; rfl) (lenOf own_pd9 rfl) rfl own_d14_23 (by decide) (W := 0) (by exact Nat.le_of_eq rfl) (by decide) (by decide) (by decide) (pc' := 26) rfl (fun T318 v318 X318 hQ318 => ?_)
    obtain ⟨b318, rfl, ka318, hb318, nb318, aa318⟩ := hQ318
    have ne318_y0 : y0 ≠ b318 := Nat.ne_of_lt (Nat.lt_of_lt_of_le q314.lt hb318)
    have q319 := own_sta_keep q311 ka318 all0
    have q320 := own_sta_keep q312 ka318 all0
    have q321 := own_sta_keep q313 ka318 all0
    have q322 := q314.keep ka318 nin0
    have zz323 := Nat.le_trans zz315 ka318.1
    have kk324 : Keep h0 T318.heap [] := kk316.trans ka318 all0
    show Gl p e below n0 _ _ (T318.setTop (mkF m 26 #[.val (.ref y0), .val (.int (0 : Int32)), .val (.int (2 : Int32)), .val (.ref b293), .val (.int (0 : Int32)), .unset] [(.ref b318)]))
    refine g_astore (L' := #[.val (.ref y0), .val (.int (0 : Int32)), .val (.int (2 : Int32)), .val (.ref b293), .val (.int (0 : Int32)), .val (.ref b318)]) X318 hx hby own_d14_26 rfl rfl (pc' := 28) rfl ?_
    refine g_aload X318 hx hby own_d14_28 rfl rfl (pc' := 30) rfl ?_
    refine g_iload X318 hx hby own_d14_30 rfl (pc' := 32) rfl ?_
    refine g_callS (argsL := [(.ref b318), (.int (0 : Int32))]) (S := []) X318 hx hby hZ (y := (⟨"java/lang/StringUTF16", "getChar", "([BI)C"⟩ : MethodName)) hown (hw _ (List.mem_of_getElem? (i := 82) rfl)) (hw _ (List.mem_of_getElem? (i := 83) rfl)) (hw _ (List.mem_of_getElem? (i := 55) rfl)) (hw _ (List.mem_of_getElem? (i := 84) rfl)) (by decide) (own_gc_2_0 l Z a0 hw b318 T318.heap n0 f hr aa318 q319 q320 q321) (by rw [hml]; rfl) (lenOf own_pd4 rfl) rfl own_d14_32 (by decide) (W := 0) (by exact Nat.le_of_eq rfl) (by decide) (by decide) (by decide) (pc' := 35) rfl (fun T325 v325 X325 hQ325 => ?_)
    obtain ⟨rfl, e325⟩ := hQ325
    rw [e325] at X325
    show Gl p e below n0 _ _ (T325.setTop (mkF m 35 #[.val (.ref y0), .val (.int (0 : Int32)), .val (.int (2 : Int32)), .val (.ref b293), .val (.int (0 : Int32)), .val (.ref b318)] [(.int (f 0))]))
    refine g_sipush (v := 255) X325 hx hby own_d14_35 rfl (pc' := 38) rfl ?_
    refine g_icmp_gt X325 hx hby own_d14_38 (by decide) (pc' := 54) (by decide) (pc2 := 41) rfl (fun c38_326 => ?_) (fun q => absurd hgt303 q)
    refine g_aload X325 hx hby own_d14_54 rfl rfl (pc' := 56) rfl ?_
    exact g_retA X325 hx hby hret hlk rfl rfl own_d14_56 ⟨b318, rfl, kk324, (Nat.le_trans kk316.1 hb318), nb318, Or.inr aa318⟩ (by decide) (by decide)
  · have q327 := own_sta_keep q297 ka303 (allS (own_plainA A293) all0)
    have q328 := own_sta_keep q298 ka303 (allS (own_plainA A293) all0)
    have q329 := own_sta_keep q299 ka303 (allS (own_plainA A293) all0)
    have q330 := q300.keep ka303 (ninS ne294 nin0)
    have zz331 := Nat.le_trans zz301 ka303.1
    have kk332 : Keep h0 T303.heap [] := kk302.trans ka303 (allS (Or.inr hh296) all0)
    show Gl p e below n0 _ _ (T303.setTop (mkF m 12 #[.val (.ref y0), .val (.int (0 : Int32)), .val (.int (2 : Int32)), .val (.ref b293), .unset, .unset] [(.int (1 : Int32))]))
    refine g_istore (L' := #[.val (.ref y0), .val (.int (0 : Int32)), .val (.int (2 : Int32)), .val (.ref b293), .val (.int (1 : Int32)), .unset]) X303 hx hby own_d14_12 rfl (pc' := 14) rfl ?_
    refine g_iload X303 hx hby own_d14_14 rfl (pc' := 16) rfl ?_
    refine g_iloadN X303 hx hby own_d14_16 rfl (pc' := 17) rfl ?_
    refine g_icmp_eq X303 hx hby own_d14_17 (by decide) (pc' := 57) (by decide) (pc2 := 20) rfl (fun q => absurd q (by decide)) (fun c17_333 => ?_)
    refine g_aloadN X303 hx hby own_d14_20 rfl rfl (pc' := 21) rfl ?_
    refine g_iloadN X303 hx hby own_d14_21 rfl (pc' := 22) rfl ?_
    refine g_iloadN X303 hx hby own_d14_22 rfl (pc' := 23) rfl ?_
    refine g_callS (argsL := [(.ref y0), (.int (0 : Int32)), (.int (2 : Int32))]) (S := []) X303 hx hby hZ (y := (⟨"java/lang/StringUTF16", "toBytes", "([CII)[B"⟩ : MethodName)) hown (hw _ (List.mem_of_getElem? (i := 66) rfl)) (hw _ (List.mem_of_getElem? (i := 67) rfl)) (hw _ (List.mem_of_getElem? (i := 55) rfl)) (hw _ (List.mem_of_getElem? (i := 68) rfl)) (by decide) (own_tb_2 l Z a0 hw y0 T303.heap n0 zz331 f q330 q327 q328 q329) (by rw [hml]; rfl) (lenOf own_pd9 rfl) rfl own_d14_23 (by decide) (W := 0) (by exact Nat.le_of_eq rfl) (by decide) (by decide) (by decide) (pc' := 26) rfl (fun T334 v334 X334 hQ334 => ?_)
    obtain ⟨b334, rfl, ka334, hb334, nb334, aa334⟩ := hQ334
    have ne334_y0 : y0 ≠ b334 := Nat.ne_of_lt (Nat.lt_of_lt_of_le q330.lt hb334)
    have q335 := own_sta_keep q327 ka334 all0
    have q336 := own_sta_keep q328 ka334 all0
    have q337 := own_sta_keep q329 ka334 all0
    have q338 := q330.keep ka334 nin0
    have zz339 := Nat.le_trans zz331 ka334.1
    have kk340 : Keep h0 T334.heap [] := kk332.trans ka334 all0
    show Gl p e below n0 _ _ (T334.setTop (mkF m 26 #[.val (.ref y0), .val (.int (0 : Int32)), .val (.int (2 : Int32)), .val (.ref b293), .val (.int (1 : Int32)), .unset] [(.ref b334)]))
    refine g_astore (L' := #[.val (.ref y0), .val (.int (0 : Int32)), .val (.int (2 : Int32)), .val (.ref b293), .val (.int (1 : Int32)), .val (.ref b334)]) X334 hx hby own_d14_26 rfl rfl (pc' := 28) rfl ?_
    refine g_aload X334 hx hby own_d14_28 rfl rfl (pc' := 30) rfl ?_
    refine g_iload X334 hx hby own_d14_30 rfl (pc' := 32) rfl ?_
    refine g_callS (argsL := [(.ref b334), (.int (1 : Int32))]) (S := []) X334 hx hby hZ (y := (⟨"java/lang/StringUTF16", "getChar", "([BI)C"⟩ : MethodName)) hown (hw _ (List.mem_of_getElem? (i := 82) rfl)) (hw _ (List.mem_of_getElem? (i := 83) rfl)) (hw _ (List.mem_of_getElem? (i := 55) rfl)) (hw _ (List.mem_of_getElem? (i := 84) rfl)) (by decide) (own_gc_2_1 l Z a0 hw b334 T334.heap n0 f hr aa334 q335 q336 q337) (by rw [hml]; rfl) (lenOf own_pd4 rfl) rfl own_d14_32 (by decide) (W := 0) (by exact Nat.le_of_eq rfl) (by decide) (by decide) (by decide) (pc' := 35) rfl (fun T341 v341 X341 hQ341 => ?_)
    obtain ⟨rfl, e341⟩ := hQ341
    rw [e341] at X341
    show Gl p e below n0 _ _ (T341.setTop (mkF m 35 #[.val (.ref y0), .val (.int (0 : Int32)), .val (.int (2 : Int32)), .val (.ref b293), .val (.int (1 : Int32)), .val (.ref b334)] [(.int (f 1))]))
    refine g_sipush (v := 255) X341 hx hby own_d14_35 rfl (pc' := 38) rfl ?_
    refine g_icmp_gt X341 hx hby own_d14_38 (by decide) (pc' := 54) (by decide) (pc2 := 41) rfl (fun c38_342 => ?_) (fun q => absurd hgt303 q)
    refine g_aload X341 hx hby own_d14_54 rfl rfl (pc' := 56) rfl ?_
    exact g_retA X341 hx hby hret hlk rfl rfl own_d14_56 ⟨b334, rfl, kk340, (Nat.le_trans kk332.1 hb334), nb334, Or.inr aa334⟩ (by decide) (by decide)
set_option maxRecDepth 65536 in
set_option maxHeartbeats 40000000 in
theorem own_ef343 (m : MethodId) (y0 : Addr) (y1 : Int32)  : entryFrame m #[(.ref y0), (.int y1)] 2 = mkF m 0 #[.val (.ref y0), .val (.int y1)] [] := by first | (simp [entryFrame, mkF, argsToLocals, Value.category, maxLocals]; done) | rfl
set_option maxRecDepth 65536 in
set_option maxHeartbeats 40000000 in
theorem own_clL_2 (l : Launch) (Z : State) (a0 : Array Value) (hw : ∀ d ∈ tables_1, d.before a0 Z = true) (y0 : Addr) (h0 : Heap) (n0 : Nat) (f : Nat → Value) (LA0 : Ary Z h0 y0 .byte 2 f) :
    Ctr l Z (⟨"java/lang/StringUTF16", "coderFromArrayLen", "([BI)B"⟩ : MethodName) jdk_52_method_15_code 2 (some .byte) [] (own_room 0 0 0 0) #[(.ref y0), (.int (2 : Int32))] h0 n0 0 0 (fun v h => v = some (.int 0) ∧ h = h0) := by
  refine Ctr.of (plainFor_of_name own_pn3) ?_
  intro p e s m below meth c T0 hx hby hml hret hlk hnm hown hZ X0
  rw [own_ef343 m (y0) ((2 : Int32))]
  refine g_iloadN X0 hx hby own_d15_0 rfl (pc' := 1) rfl ?_
  refine g_aloadN X0 hx hby own_d15_1 rfl rfl (pc' := 2) rfl ?_
  refine g_arraylength (n := (2 : Int32)) X0 hx hby hZ LA0 rfl own_d15_2 (pc' := 3) rfl ?_
  refine g_isub X0 hx hby own_d15_3 (pc' := 4) rfl ?_
  refine g_bipush (v := 31) X0 hx hby own_d15_4 rfl (pc' := 6) rfl ?_
  refine g_iushr X0 hx hby own_d15_6 (pc' := 7) rfl ?_
  refine g_i2b X0 hx hby own_d15_7 (pc' := 8) rfl ?_
  exact g_retN X0 hx hby hret hlk (by simp) own_d15_8 ⟨congrArg (fun z => some (Value.int z)) (by decide), rfl⟩ (by decide) (by decide)
set_option maxRecDepth 65536 in
set_option maxHeartbeats 40000000 in
theorem own_ef344 (m : MethodId) (y0 : Addr) (y1 : Int32)  : entryFrame m #[(.ref y0), (.int y1)] 2 = mkF m 0 #[.val (.ref y0), .val (.int y1)] [] := by first | (simp [entryFrame, mkF, argsToLocals, Value.category, maxLocals]; done) | rfl
set_option maxRecDepth 65536 in
set_option maxHeartbeats 40000000 in
theorem own_clU_2 (l : Launch) (Z : State) (a0 : Array Value) (hw : ∀ d ∈ tables_1, d.before a0 Z = true) (y0 : Addr) (h0 : Heap) (n0 : Nat) (f : Nat → Value) (LA0 : Ary Z h0 y0 .byte 4 f) :
    Ctr l Z (⟨"java/lang/StringUTF16", "coderFromArrayLen", "([BI)B"⟩ : MethodName) jdk_52_method_15_code 2 (some .byte) [] (own_room 0 0 0 0) #[(.ref y0), (.int (2 : Int32))] h0 n0 0 0 (fun v h => v = some (.int 1) ∧ h = h0) := by
  refine Ctr.of (plainFor_of_name own_pn3) ?_
  intro p e s m below meth c T0 hx hby hml hret hlk hnm hown hZ X0
  rw [own_ef344 m (y0) ((2 : Int32))]
  refine g_iloadN X0 hx hby own_d15_0 rfl (pc' := 1) rfl ?_
  refine g_aloadN X0 hx hby own_d15_1 rfl rfl (pc' := 2) rfl ?_
  refine g_arraylength (n := (4 : Int32)) X0 hx hby hZ LA0 rfl own_d15_2 (pc' := 3) rfl ?_
  refine g_isub X0 hx hby own_d15_3 (pc' := 4) rfl ?_
  refine g_bipush (v := 31) X0 hx hby own_d15_4 rfl (pc' := 6) rfl ?_
  refine g_iushr X0 hx hby own_d15_6 (pc' := 7) rfl ?_
  refine g_i2b X0 hx hby own_d15_7 (pc' := 8) rfl ?_
  exact g_retN X0 hx hby hret hlk (by simp) own_d15_8 ⟨congrArg (fun z => some (Value.int z)) (by decide), rfl⟩ (by decide) (by decide)
set_option maxRecDepth 65536 in
set_option maxHeartbeats 40000000 in
theorem own_ef345 (m : MethodId) (y0 : Addr) (y1 : Addr) (y2 : Int32) (y3 : Int32)  : entryFrame m #[(.ref y0), (.ref y1), (.int y2), (.int y3), .null] 6 = mkF m 0 #[.val (.ref y0), .val (.ref y1), .val (.int y2), .val (.int y3), .val .null, .unset] [] := by first | (simp [entryFrame, mkF, argsToLocals, Value.category, maxLocals]; done) | rfl
set_option maxRecDepth 65536 in
set_option maxHeartbeats 40000000 in
theorem own_n2_2 (l : Launch) (Z : State) (a0 : Array Value) (hw : ∀ d ∈ tables_1, d.before a0 Z = true) (y0 y1 : Addr) (h0 : Heap) (n0 : Nat) (Z0 : n0 ≤ h0.size) (f : Nat → Int32) (hr : ∀ i, 0 ≤ (f i).toInt ∧ (f i).toInt ≤ 65535) (LA1 : Ary Z h0 y1 .char 2 (fun i => .int (f i))) (Ex : Exa Z h0 y0 "java/lang/String") (F1 : Fld Z h0 y0 "java/lang/String" "value" "[B" .null) (F2 : Fld Z h0 y0 "java/lang/String" "coder" "B" (.int 0)) (gn : n0 ≤ y0) (cs : Int32) (Sc : Sta Z h0 "java/lang/String" "COMPACT_STRINGS" "Z" (.int cs)) (hcs : ¬ cs = 0) (Sd : Sta Z h0 "java/lang/StringUTF16" "$assertionsDisabled" "Z" (.int 1)) (Sh : Sta Z h0 "java/lang/StringUTF16" "HI_BYTE_SHIFT" "I" (.int 0)) (Sl : Sta Z h0 "java/lang/StringUTF16" "LO_BYTE_SHIFT" "I" (.int 8)) :
    Ctr l Z (⟨"java/lang/String", "<init>", "([CIILjava/lang/Void;)V"⟩ : MethodName) jdk_42_method_149_code 6 none [] (own_room 4 2 6 57) #[(.ref y0), (.ref y1), (.int (0 : Int32)), (.int (2 : Int32)), .null] h0 n0 2 6 (fun v h => v = none ∧ Keep h0 h [y0] ∧ Sg Z h y0 2 4 f) := by
  refine Ctr.of (plainFor_of_name own_pn0) ?_
  intro p e s m below meth c T0 hx hby hml hret hlk hnm hown hZ X0
  rw [own_ef345 m (y0) (y1) ((0 : Int32)) ((2 : Int32))]
  refine g_aloadN X0 hx hby own_d16_0 rfl rfl (pc' := 1) rfl ?_
  refine g_initO X0 hx hby hZ (W := 0) hown (hw _ (List.mem_of_getElem? (i := 19) rfl)) (hw _ (List.mem_of_getElem? (i := 20) rfl)) (hw _ (List.mem_of_getElem? (i := 21) rfl)) (by rw [hml]; rfl) own_d16_1 (by decide) (by exact Nat.le_of_eq rfl) (by decide) (pc' := 4) rfl (fun T346 X346 => ?_)
  refine g_iloadN X346 hx hby own_d16_4 rfl (pc' := 5) rfl ?_
  refine g_if_ne X346 hx hby own_d16_5 (by decide) (pc' := 27) (by decide) (pc2 := 8) rfl (fun c5_347 => ?_) (fun q => absurd q (by decide))
  refine g_getS X346 hx hby hZ hown (hw _ (List.mem_of_getElem? (i := 51) rfl)) Via.refl Sc own_d16_27 (pc' := 30) rfl (fun T348 X348 => ?_)
  refine g_if_eq X348 hx hby own_d16_30 (by decide) (pc' := 58) (by decide) (pc2 := 33) rfl (fun q => absurd q hcs) (fun c30_349 => ?_)
  refine g_aloadN X348 hx hby own_d16_33 rfl rfl (pc' := 34) rfl ?_
  refine g_iloadN X348 hx hby own_d16_34 rfl (pc' := 35) rfl ?_
  refine g_iloadN X348 hx hby own_d16_35 rfl (pc' := 36) rfl ?_
  refine g_callS (argsL := [(.ref y1), (.int (0 : Int32)), (.int (2 : Int32))]) (S := []) X348 hx hby hZ (y := (⟨"java/lang/StringUTF16", "compress", "([CII)[B"⟩ : MethodName)) hown (hw _ (List.mem_of_getElem? (i := 53) rfl)) (hw _ (List.mem_of_getElem? (i := 54) rfl)) (hw _ (List.mem_of_getElem? (i := 55) rfl)) (hw _ (List.mem_of_getElem? (i := 56) rfl)) (by decide) (own_p3_2 l Z a0 hw y1 h0 n0 Z0 f hr LA1 Sd Sh Sl) (by rw [hml]; rfl) (lenOf own_pd9 rfl) rfl own_d16_36 (by decide) (W := 0) (by exact Nat.le_of_eq rfl) (by decide) (by decide) (by decide) (pc' := 39) rfl (fun T350 v350 X350 hQ350 => ?_)
  obtain ⟨b350, rfl, ka350, hb350, nb350, aa350⟩ := hQ350
  have ne350_y0 : y0 ≠ b350 := Nat.ne_of_lt (Nat.lt_of_lt_of_le Ex.lt hb350)
  have ne350_y1 : y1 ≠ b350 := Nat.ne_of_lt (Nat.lt_of_lt_of_le LA1.lt hb350)
  have q351 := own_sta_keep Sc ka350 all0
  have q352 := own_sta_keep Sd ka350 all0
  have q353 := own_sta_keep Sh ka350 all0
  have q354 := own_sta_keep Sl ka350 all0
  have q355 := Ex.keep ka350
  have q356 := F1.keep ka350 nin0
  have q357 := F2.keep ka350 nin0
  have q358 := LA1.keep ka350 nin0
  have zz359 := Nat.le_trans Z0 ka350.1
  have kk360 : Keep h0 T350.heap [y0] := (Keep.refl h0 [y0]).trans ka350 all0
  show Gl p e below n0 _ _ (T350.setTop (mkF m 39 #[.val (.ref y0), .val (.ref y1), .val (.int (0 : Int32)), .val (.int (2 : Int32)), .val .null, .unset] [(.ref b350)]))
  rcases aa350 with ⟨aL, hle⟩ | aU
  · refine g_astore (L' := #[.val (.ref y0), .val (.ref y1), .val (.int (0 : Int32)), .val (.int (2 : Int32)), .val .null, .val (.ref b350)]) X350 hx hby own_d16_39 rfl rfl (pc' := 41) rfl ?_
    refine g_aloadN X350 hx hby own_d16_41 rfl rfl (pc' := 42) rfl ?_
    refine g_aload X350 hx hby own_d16_42 rfl rfl (pc' := 44) rfl ?_
    refine g_iloadN X350 hx hby own_d16_44 rfl (pc' := 45) rfl ?_
    refine g_callS (argsL := [(.ref b350), (.int (2 : Int32))]) (S := [(.ref y0)]) X350 hx hby hZ (y := (⟨"java/lang/StringUTF16", "coderFromArrayLen", "([BI)B"⟩ : MethodName)) hown (hw _ (List.mem_of_getElem? (i := 60) rfl)) (hw _ (List.mem_of_getElem? (i := 61) rfl)) (hw _ (List.mem_of_getElem? (i := 55) rfl)) (hw _ (List.mem_of_getElem? (i := 62) rfl)) (by decide) (own_clL_2 l Z a0 hw b350 T350.heap n0 _ aL) (by rw [hml]; rfl) (lenOf own_pd10 rfl) rfl own_d16_45 (by decide) (W := 1) (by exact Nat.le_of_eq rfl) (by decide) (by decide) (by decide) (pc' := 48) rfl (fun T361 v361 X361 hQ361 => ?_)
    obtain ⟨rfl, e361⟩ := hQ361
    rw [e361] at X361
    show Gl p e below n0 _ _ (T361.setTop (mkF m 48 #[.val (.ref y0), .val (.ref y1), .val (.int (0 : Int32)), .val (.int (2 : Int32)), .val .null, .val (.ref b350)] [(.int (0 : Int32)), (.ref y0)]))
    refine g_putF X361 hx hby hZ hown (hw _ (List.mem_of_getElem? (i := 29) rfl)) Via.refl q357 q355 (Or.inr ⟨(hw _ (List.mem_of_getElem? (i := 25) rfl)), rfl, hnm⟩) (hw _ (List.mem_of_getElem? (i := 9) rfl)) (ty := .byte) (by decide) rfl rfl gn own_d16_48 (pc' := 51) rfl (fun T362 h362 X362 W362 => ?_)
    have q363 := q351.wr W362
    have q364 := q352.wr W362
    have q365 := q353.wr W362
    have q366 := q354.wr W362
    have q367 := q355.wr W362
    have q368 := q356.other W362 (Or.inr (slot_ne (Or.inr (hw _ (List.mem_of_getElem? (i := 24) rfl))) (Or.inr (hw _ (List.mem_of_getElem? (i := 25) rfl))) (by decide) (t := (.array .byte)) (t' := .byte) (by decide) (by decide)))
    have q369 := q357.same W362
    have q370 := q358.other W362 (Ne.symm (own_ne_exa Ex (hw _ (List.mem_of_getElem? (i := 9) rfl)) LA1))
    have q371 := aL.other W362 (Ne.symm ne350_y0)
    have zz372 := Nat.le_trans zz359 (Nat.le_of_eq W362.size.symm)
    have kk373 : Keep h0 h362 [y0] := kk360.wr W362 (Or.inl (by simp))
    refine g_aloadN X362 hx hby own_d16_51 rfl rfl (pc' := 52) rfl ?_
    refine g_aload X362 hx hby own_d16_52 rfl rfl (pc' := 54) rfl ?_
    refine g_putF X362 hx hby hZ hown (hw _ (List.mem_of_getElem? (i := 28) rfl)) Via.refl q368 q367 (Or.inr ⟨(hw _ (List.mem_of_getElem? (i := 24) rfl)), rfl, hnm⟩) (hw _ (List.mem_of_getElem? (i := 9) rfl)) (ty := (.array .byte)) (by decide) rfl rfl gn own_d16_54 (pc' := 57) rfl (fun T374 h374 X374 W374 => ?_)
    have q375 := q363.wr W374
    have q376 := q364.wr W374
    have q377 := q365.wr W374
    have q378 := q366.wr W374
    have q379 := q367.wr W374
    have q380 := q368.same W374
    have q381 := q369.other W374 (Or.inr (slot_ne (Or.inr (hw _ (List.mem_of_getElem? (i := 25) rfl))) (Or.inr (hw _ (List.mem_of_getElem? (i := 24) rfl))) (by decide) (t := .byte) (t' := (.array .byte)) (by decide) (by decide)))
    have q382 := q370.other W374 (Ne.symm (own_ne_exa Ex (hw _ (List.mem_of_getElem? (i := 9) rfl)) LA1))
    have q383 := q371.other W374 (Ne.symm ne350_y0)
    have zz384 := Nat.le_trans zz372 (Nat.le_of_eq W374.size.symm)
    have kk385 : Keep h0 h374 [y0] := kk373.wr W374 (Or.inl (by simp))
    exact g_ret X374 hx hby hret hlk own_d16_57 ⟨rfl, kk385, Or.inl ⟨⟨b350, q379, q380, q381, q383⟩, hle⟩⟩ (by decide) (by decide)
  · refine g_astore (L' := #[.val (.ref y0), .val (.ref y1), .val (.int (0 : Int32)), .val (.int (2 : Int32)), .val .null, .val (.ref b350)]) X350 hx hby own_d16_39 rfl rfl (pc' := 41) rfl ?_
    refine g_aloadN X350 hx hby own_d16_41 rfl rfl (pc' := 42) rfl ?_
    refine g_aload X350 hx hby own_d16_42 rfl rfl (pc' := 44) rfl ?_
    refine g_iloadN X350 hx hby own_d16_44 rfl (pc' := 45) rfl ?_
    refine g_callS (argsL := [(.ref b350), (.int (2 : Int32))]) (S := [(.ref y0)]) X350 hx hby hZ (y := (⟨"java/lang/StringUTF16", "coderFromArrayLen", "([BI)B"⟩ : MethodName)) hown (hw _ (List.mem_of_getElem? (i := 60) rfl)) (hw _ (List.mem_of_getElem? (i := 61) rfl)) (hw _ (List.mem_of_getElem? (i := 55) rfl)) (hw _ (List.mem_of_getElem? (i := 62) rfl)) (by decide) (own_clU_2 l Z a0 hw b350 T350.heap n0 _ aU) (by rw [hml]; rfl) (lenOf own_pd10 rfl) rfl own_d16_45 (by decide) (W := 1) (by exact Nat.le_of_eq rfl) (by decide) (by decide) (by decide) (pc' := 48) rfl (fun T386 v386 X386 hQ386 => ?_)
    obtain ⟨rfl, e386⟩ := hQ386
    rw [e386] at X386
    show Gl p e below n0 _ _ (T386.setTop (mkF m 48 #[.val (.ref y0), .val (.ref y1), .val (.int (0 : Int32)), .val (.int (2 : Int32)), .val .null, .val (.ref b350)] [(.int (1 : Int32)), (.ref y0)]))
    refine g_putF X386 hx hby hZ hown (hw _ (List.mem_of_getElem? (i := 29) rfl)) Via.refl q357 q355 (Or.inr ⟨(hw _ (List.mem_of_getElem? (i := 25) rfl)), rfl, hnm⟩) (hw _ (List.mem_of_getElem? (i := 9) rfl)) (ty := .byte) (by decide) rfl rfl gn own_d16_48 (pc' := 51) rfl (fun T387 h387 X387 W387 => ?_)
    have q388 := q351.wr W387
    have q389 := q352.wr W387
    have q390 := q353.wr W387
    have q391 := q354.wr W387
    have q392 := q355.wr W387
    have q393 := q356.other W387 (Or.inr (slot_ne (Or.inr (hw _ (List.mem_of_getElem? (i := 24) rfl))) (Or.inr (hw _ (List.mem_of_getElem? (i := 25) rfl))) (by decide) (t := (.array .byte)) (t' := .byte) (by decide) (by decide)))
    have q394 := q357.same W387
    have q395 := q358.other W387 (Ne.symm (own_ne_exa Ex (hw _ (List.mem_of_getElem? (i := 9) rfl)) LA1))
    have q396 := aU.other W387 (Ne.symm ne350_y0)
    have zz397 := Nat.le_trans zz359 (Nat.le_of_eq W387.size.symm)
    have kk398 : Keep h0 h387 [y0] := kk360.wr W387 (Or.inl (by simp))
    refine g_aloadN X387 hx hby own_d16_51 rfl rfl (pc' := 52) rfl ?_
    refine g_aload X387 hx hby own_d16_52 rfl rfl (pc' := 54) rfl ?_
    refine g_putF X387 hx hby hZ hown (hw _ (List.mem_of_getElem? (i := 28) rfl)) Via.refl q393 q392 (Or.inr ⟨(hw _ (List.mem_of_getElem? (i := 24) rfl)), rfl, hnm⟩) (hw _ (List.mem_of_getElem? (i := 9) rfl)) (ty := (.array .byte)) (by decide) rfl rfl gn own_d16_54 (pc' := 57) rfl (fun T399 h399 X399 W399 => ?_)
    have q400 := q388.wr W399
    have q401 := q389.wr W399
    have q402 := q390.wr W399
    have q403 := q391.wr W399
    have q404 := q392.wr W399
    have q405 := q393.same W399
    have q406 := q394.other W399 (Or.inr (slot_ne (Or.inr (hw _ (List.mem_of_getElem? (i := 25) rfl))) (Or.inr (hw _ (List.mem_of_getElem? (i := 24) rfl))) (by decide) (t := .byte) (t' := (.array .byte)) (by decide) (by decide)))
    have q407 := q395.other W399 (Ne.symm (own_ne_exa Ex (hw _ (List.mem_of_getElem? (i := 9) rfl)) LA1))
    have q408 := q396.other W399 (Ne.symm ne350_y0)
    have zz409 := Nat.le_trans zz397 (Nat.le_of_eq W399.size.symm)
    have kk410 : Keep h0 h399 [y0] := kk398.wr W399 (Or.inl (by simp))
    exact g_ret X399 hx hby hret hlk own_d16_57 ⟨rfl, kk410, Or.inr ⟨b350, q404, q405, q406, q408⟩⟩ (by decide) (by decide)
set_option maxRecDepth 65536 in
set_option maxHeartbeats 40000000 in
theorem own_ef411 (m : MethodId) (y0 : Addr) (y1 : Addr)  : entryFrame m #[(.ref y0), (.ref y1)] 2 = mkF m 0 #[.val (.ref y0), .val (.ref y1)] [] := by first | (simp [entryFrame, mkF, argsToLocals, Value.category, maxLocals]; done) | rfl
set_option maxRecDepth 65536 in
set_option maxHeartbeats 40000000 in
theorem own_n1_2 (l : Launch) (Z : State) (a0 : Array Value) (hw : ∀ d ∈ tables_1, d.before a0 Z = true) (y0 y1 : Addr) (h0 : Heap) (n0 : Nat) (Z0 : n0 ≤ h0.size) (f : Nat → Int32) (hr : ∀ i, 0 ≤ (f i).toInt ∧ (f i).toInt ≤ 65535) (LA1 : Ary Z h0 y1 .char 2 (fun i => .int (f i))) (Ex : Exa Z h0 y0 "java/lang/String") (F1 : Fld Z h0 y0 "java/lang/String" "value" "[B" .null) (F2 : Fld Z h0 y0 "java/lang/String" "coder" "B" (.int 0)) (gn : n0 ≤ y0) (cs : Int32) (Sc : Sta Z h0 "java/lang/String" "COMPACT_STRINGS" "Z" (.int cs)) (hcs : ¬ cs = 0) (Sd : Sta Z h0 "java/lang/StringUTF16" "$assertionsDisabled" "Z" (.int 1)) (Sh : Sta Z h0 "java/lang/StringUTF16" "HI_BYTE_SHIFT" "I" (.int 0)) (Sl : Sta Z h0 "java/lang/StringUTF16" "LO_BYTE_SHIFT" "I" (.int 8)) :
    Ctr l Z (⟨"java/lang/String", "<init>", "([C)V"⟩ : MethodName) jdk_42_method_3_code 2 none [] (own_room 5 2 6 74) #[(.ref y0), (.ref y1)] h0 n0 2 6 (fun v h => v = none ∧ Keep h0 h [y0] ∧ Sg Z h y0 2 4 f) := by
  refine Ctr.of (plainFor_of_name own_pn0) ?_
  intro p e s m below meth c T0 hx hby hml hret hlk hnm hown hZ X0
  rw [own_ef411 m (y0) (y1)]
  refine g_aloadN X0 hx hby own_d17_0 rfl rfl (pc' := 1) rfl ?_
  refine g_aloadN X0 hx hby own_d17_1 rfl rfl (pc' := 2) rfl ?_
  refine g_iconst (v := 0) X0 hx hby own_d17_2 rfl (pc' := 3) rfl ?_
  refine g_aloadN X0 hx hby own_d17_3 rfl rfl (pc' := 4) rfl ?_
  refine g_arraylength (n := (2 : Int32)) X0 hx hby hZ LA1 rfl own_d17_4 (pc' := 5) rfl ?_
  refine g_aconst_null X0 hx hby own_d17_5 (pc' := 6) rfl ?_
  refine g_callC (argsL := [(.ref y1), (.int (0 : Int32)), (.int (2 : Int32)), .null]) (S := []) (a := y0) X0 hx hby hZ (y := (⟨"java/lang/String", "<init>", "([CIILjava/lang/Void;)V"⟩ : MethodName)) rfl hown (hw _ (List.mem_of_getElem? (i := 15) rfl)) (hw _ (List.mem_of_getElem? (i := 16) rfl)) (hw _ (List.mem_of_getElem? (i := 10) rfl)) (hw _ (List.mem_of_getElem? (i := 18) rfl)) (by decide) (own_n2_2 l Z a0 hw y0 y1 h0 n0 Z0 f hr LA1 Ex F1 F2 gn cs Sc hcs Sd Sh Sl) (by rw [hml]; rfl) (lenOf own_pd11 rfl) rfl own_d17_6 (by decide) (W := 0) (by exact Nat.le_of_eq rfl) (by decide) (by decide) (by decide) (pc' := 9) rfl (fun T412 v412 X412 hQ412 => ?_)
  obtain ⟨rfl, ka412, la412⟩ := hQ412
  show Gl p e below n0 _ _ (T412.setTop (mkF m 9 #[.val (.ref y0), .val (.ref y1)] []))
  exact g_ret X412 hx hby hret hlk own_d17_9 ⟨rfl, ka412, la412⟩ (by decide) (by decide)
set_option maxRecDepth 65536 in
set_option maxHeartbeats 40000000 in
theorem own_ef413 (m : MethodId) (y0 : Addr)  : entryFrame m #[(.ref y0)] 1 = mkF m 0 #[.val (.ref y0)] [] := by first | (simp [entryFrame, mkF, argsToLocals, Value.category, maxLocals]; done) | rfl
set_option maxRecDepth 65536 in
set_option maxHeartbeats 40000000 in
theorem own_ul_2 (l : Launch) (Z : State) (a0 : Array Value) (hw : ∀ d ∈ tables_1, d.before a0 Z = true) (y0 : Addr) (h0 : Heap) (n0 : Nat) (g : Nat → Value) (LA0 : Ary Z h0 y0 .byte 4 g) :
    Ctr l Z (⟨"java/lang/StringUTF16", "length", "([B)I"⟩ : MethodName) jdk_52_method_6_code 1 (some .int) [] (own_room 0 0 0 0) #[(.ref y0)] h0 n0 0 0 (fun v h => v = some (.int 2) ∧ h = h0) := by
  refine Ctr.of (plainFor_of_name own_pn3) ?_
  intro p e s m below meth c T0 hx hby hml hret hlk hnm hown hZ X0
  rw [own_ef413 m (y0)]
  refine g_aloadN X0 hx hby own_d18_0 rfl rfl (pc' := 1) rfl ?_
  refine g_arraylength (n := (4 : Int32)) X0 hx hby hZ LA0 rfl own_d18_1 (pc' := 2) rfl ?_
  refine g_iconst (v := 1) X0 hx hby own_d18_2 rfl (pc' := 3) rfl ?_
  refine g_ishr X0 hx hby own_d18_3 (pc' := 4) rfl ?_
  exact g_retI X0 hx hby hret hlk own_d18_4 ⟨congrArg (fun z => some (Value.int z)) (by decide), rfl⟩ (by decide) (by decide)
set_option maxRecDepth 65536 in
set_option maxHeartbeats 40000000 in
theorem own_ef414 (m : MethodId) (y0 : Int32) (y1 : Addr)  : entryFrame m #[(.int y0), (.ref y1)] 2 = mkF m 0 #[.val (.int y0), .val (.ref y1)] [] := by first | (simp [entryFrame, mkF, argsToLocals, Value.category, maxLocals]; done) | rfl
set_option maxRecDepth 65536 in
set_option maxHeartbeats 40000000 in
theorem own_ck_2_0 (l : Launch) (Z : State) (a0 : Array Value) (hw : ∀ d ∈ tables_1, d.before a0 Z = true) (y1 : Addr) (h0 : Heap) (n0 : Nat) (g : Nat → Value) (LA0 : Ary Z h0 y1 .byte 4 g) (fm : Value) (Sf : Sta Z h0 "jdk/internal/util/Preconditions" "SIOOBE_FORMATTER" "Ljava/util/function/BiFunction;" fm) (hfm : fm.isRef = true) (Sd : Sta Z h0 "java/lang/StringUTF16" "$assertionsDisabled" "Z" (.int 1)) (Sh : Sta Z h0 "java/lang/StringUTF16" "HI_BYTE_SHIFT" "I" (.int 0)) (Sl : Sta Z h0 "java/lang/StringUTF16" "LO_BYTE_SHIFT" "I" (.int 8)) :
    Ctr l Z (⟨"java/lang/StringUTF16", "checkIndex", "(I[B)V"⟩ : MethodName) jdk_52_method_91_code 2 none [] (own_room 2 0 0 27) #[(.int (0 : Int32)), (.ref y1)] h0 n0 0 0 (fun v h => v = none ∧ h = h0) := by
  refine Ctr.of (plainFor_of_name own_pn3) ?_
  intro p e s m below meth c T0 hx hby hml hret hlk hnm hown hZ X0
  rw [own_ef414 m ((0 : Int32)) (y1)]
  refine g_iloadN X0 hx hby own_d19_0 rfl (pc' := 1) rfl ?_
  refine g_aloadN X0 hx hby own_d19_1 rfl rfl (pc' := 2) rfl ?_
  refine g_callS (argsL := [(.ref y1)]) (S := [(.int (0 : Int32))]) X0 hx hby hZ (y := (⟨"java/lang/StringUTF16", "length", "([B)I"⟩ : MethodName)) hown (hw _ (List.mem_of_getElem? (i := 107) rfl)) (hw _ (List.mem_of_getElem? (i := 108) rfl)) (hw _ (List.mem_of_getElem? (i := 55) rfl)) (hw _ (List.mem_of_getElem? (i := 109) rfl)) (by decide) (own_ul_2 l Z a0 hw y1 h0 n0 _ LA0) (by rw [hml]; rfl) (lenOf own_pd12 rfl) rfl own_d19_2 (by decide) (W := 1) (by exact Nat.le_of_eq rfl) (by decide) (by decide) (by decide) (pc' := 5) rfl (fun T415 v415 X415 hQ415 => ?_)
  obtain ⟨rfl, e415⟩ := hQ415
  rw [e415] at X415
  show Gl p e below n0 _ _ (T415.setTop (mkF m 5 #[.val (.int (0 : Int32)), .val (.ref y1)] [(.int (2 : Int32)), (.int (0 : Int32))]))
  refine g_callS (argsL := [(.int (0 : Int32)), (.int (2 : Int32))]) (S := []) X415 hx hby hZ (y := (⟨"java/lang/String", "checkIndex", "(II)V"⟩ : MethodName)) hown (hw _ (List.mem_of_getElem? (i := 110) rfl)) (hw _ (List.mem_of_getElem? (i := 111) rfl)) (hw _ (List.mem_of_getElem? (i := 10) rfl)) (hw _ (List.mem_of_getElem? (i := 112) rfl)) (by decide) (own_ci l Z a0 hw (0 : Int32) (2 : Int32) h0 n0 fm Sf hfm (by decide) (by decide)) (by rw [hml]; rfl) (lenOf own_pd2 rfl) rfl own_d19_5 (by decide) (W := 0) (by exact Nat.le_of_eq rfl) (by decide) (by decide) (by decide) (pc' := 8) rfl (fun T416 v416 X416 hQ416 => ?_)
  obtain ⟨rfl, e416⟩ := hQ416
  rw [e416] at X416
  show Gl p e below n0 _ _ (T416.setTop (mkF m 8 #[.val (.int (0 : Int32)), .val (.ref y1)] []))
  exact g_ret X416 hx hby hret hlk own_d19_8 ⟨rfl, rfl⟩ (by decide) (by decide)
set_option maxRecDepth 65536 in
set_option maxHeartbeats 40000000 in
theorem own_ef417 (m : MethodId) (y0 : Addr) (y1 : Int32)  : entryFrame m #[(.ref y0), (.int y1)] 2 = mkF m 0 #[.val (.ref y0), .val (.int y1)] [] := by first | (simp [entryFrame, mkF, argsToLocals, Value.category, maxLocals]; done) | rfl
set_option maxRecDepth 65536 in
set_option maxHeartbeats 40000000 in
theorem own_uc_2_0 (l : Launch) (Z : State) (a0 : Array Value) (hw : ∀ d ∈ tables_1, d.before a0 Z = true) (y0 : Addr) (h0 : Heap) (n0 : Nat) (f : Nat → Int32) (hr : ∀ i, 0 ≤ (f i).toInt ∧ (f i).toInt ≤ 65535) (LA0 : Ary Z h0 y0 .byte 4 (fun i => .int (own_ub f i))) (fm : Value) (Sf : Sta Z h0 "jdk/internal/util/Preconditions" "SIOOBE_FORMATTER" "Ljava/util/function/BiFunction;" fm) (hfm : fm.isRef = true) (Sd : Sta Z h0 "java/lang/StringUTF16" "$assertionsDisabled" "Z" (.int 1)) (Sh : Sta Z h0 "java/lang/StringUTF16" "HI_BYTE_SHIFT" "I" (.int 0)) (Sl : Sta Z h0 "java/lang/StringUTF16" "LO_BYTE_SHIFT" "I" (.int 8)) :
    Ctr l Z (⟨"java/lang/StringUTF16", "charAt", "([BI)C"⟩ : MethodName) jdk_52_method_83_code 2 (some .char) [] (own_room 3 0 0 40) #[(.ref y0), (.int (0 : Int32))] h0 n0 0 0 (fun v h => v = some (.int (f 0)) ∧ h = h0) := by
  refine Ctr.of (plainFor_of_name own_pn3) ?_
  intro p e s m below meth c T0 hx hby hml hret hlk hnm hown hZ X0
  rw [own_ef417 m (y0) ((0 : Int32))]
  refine g_iloadN X0 hx hby own_d20_0 rfl (pc' := 1) rfl ?_
  refine g_aloadN X0 hx hby own_d20_1 rfl rfl (pc' := 2) rfl ?_
  refine g_callS (argsL := [(.int (0 : Int32)), (.ref y0)]) (S := []) X0 hx hby hZ (y := (⟨"java/lang/StringUTF16", "checkIndex", "(I[B)V"⟩ : MethodName)) hown (hw _ (List.mem_of_getElem? (i := 104) rfl)) (hw _ (List.mem_of_getElem? (i := 105) rfl)) (hw _ (List.mem_of_getElem? (i := 55) rfl)) (hw _ (List.mem_of_getElem? (i := 106) rfl)) (by decide) (own_ck_2_0 l Z a0 hw y0 h0 n0 _ LA0 fm Sf hfm Sd Sh Sl) (by rw [hml]; rfl) (lenOf own_pd13 rfl) rfl own_d20_2 (by decide) (W := 0) (by exact Nat.le_of_eq rfl) (by decide) (by decide) (by decide) (pc' := 5) rfl (fun T418 v418 X418 hQ418 => ?_)
  obtain ⟨rfl, e418⟩ := hQ418
  rw [e418] at X418
  show Gl p e below n0 _ _ (T418.setTop (mkF m 5 #[.val (.ref y0), .val (.int (0 : Int32))] []))
  refine g_aloadN X418 hx hby own_d20_5 rfl rfl (pc' := 6) rfl ?_
  refine g_iloadN X418 hx hby own_d20_6 rfl (pc' := 7) rfl ?_
  refine g_callS (argsL := [(.ref y0), (.int (0 : Int32))]) (S := []) X418 hx hby hZ (y := (⟨"java/lang/StringUTF16", "getChar", "([BI)C"⟩ : MethodName)) hown (hw _ (List.mem_of_getElem? (i := 82) rfl)) (hw _ (List.mem_of_getElem? (i := 83) rfl)) (hw _ (List.mem_of_getElem? (i := 55) rfl)) (hw _ (List.mem_of_getElem? (i := 84) rfl)) (by decide) (own_gc_2_0 l Z a0 hw y0 h0 n0 f hr LA0 Sd Sh Sl) (by rw [hml]; rfl) (lenOf own_pd4 rfl) rfl own_d20_7 (by decide) (W := 0) (by exact Nat.le_of_eq rfl) (by decide) (by decide) (by decide) (pc' := 10) rfl (fun T419 v419 X419 hQ419 => ?_)
  obtain ⟨rfl, e419⟩ := hQ419
  rw [e419] at X419
  show Gl p e below n0 _ _ (T419.setTop (mkF m 10 #[.val (.ref y0), .val (.int (0 : Int32))] [(.int (f 0))]))
  exact g_retN X419 hx hby hret hlk (by simp) own_d20_10 ⟨congrArg (fun z => some (Value.int z)) (own_narC (hr 0)), rfl⟩ (by decide) (by decide)
set_option maxRecDepth 65536 in
set_option maxHeartbeats 40000000 in
theorem own_ef420 (m : MethodId) (y0 : Int32) (y1 : Addr)  : entryFrame m #[(.int y0), (.ref y1)] 2 = mkF m 0 #[.val (.int y0), .val (.ref y1)] [] := by first | (simp [entryFrame, mkF, argsToLocals, Value.category, maxLocals]; done) | rfl
set_option maxRecDepth 65536 in
set_option maxHeartbeats 40000000 in
theorem own_ck_2_1 (l : Launch) (Z : State) (a0 : Array Value) (hw : ∀ d ∈ tables_1, d.before a0 Z = true) (y1 : Addr) (h0 : Heap) (n0 : Nat) (g : Nat → Value) (LA0 : Ary Z h0 y1 .byte 4 g) (fm : Value) (Sf : Sta Z h0 "jdk/internal/util/Preconditions" "SIOOBE_FORMATTER" "Ljava/util/function/BiFunction;" fm) (hfm : fm.isRef = true) (Sd : Sta Z h0 "java/lang/StringUTF16" "$assertionsDisabled" "Z" (.int 1)) (Sh : Sta Z h0 "java/lang/StringUTF16" "HI_BYTE_SHIFT" "I" (.int 0)) (Sl : Sta Z h0 "java/lang/StringUTF16" "LO_BYTE_SHIFT" "I" (.int 8)) :
    Ctr l Z (⟨"java/lang/StringUTF16", "checkIndex", "(I[B)V"⟩ : MethodName) jdk_52_method_91_code 2 none [] (own_room 2 0 0 27) #[(.int (1 : Int32)), (.ref y1)] h0 n0 0 0 (fun v h => v = none ∧ h = h0) := by
  refine Ctr.of (plainFor_of_name own_pn3) ?_
  intro p e s m below meth c T0 hx hby hml hret hlk hnm hown hZ X0
  rw [own_ef420 m ((1 : Int32)) (y1)]
  refine g_iloadN X0 hx hby own_d19_0 rfl (pc' := 1) rfl ?_
  refine g_aloadN X0 hx hby own_d19_1 rfl rfl (pc' := 2) rfl ?_
  refine g_callS (argsL := [(.ref y1)]) (S := [(.int (1 : Int32))]) X0 hx hby hZ (y := (⟨"java/lang/StringUTF16", "length", "([B)I"⟩ : MethodName)) hown (hw _ (List.mem_of_getElem? (i := 107) rfl)) (hw _ (List.mem_of_getElem? (i := 108) rfl)) (hw _ (List.mem_of_getElem? (i := 55) rfl)) (hw _ (List.mem_of_getElem? (i := 109) rfl)) (by decide) (own_ul_2 l Z a0 hw y1 h0 n0 _ LA0) (by rw [hml]; rfl) (lenOf own_pd12 rfl) rfl own_d19_2 (by decide) (W := 1) (by exact Nat.le_of_eq rfl) (by decide) (by decide) (by decide) (pc' := 5) rfl (fun T421 v421 X421 hQ421 => ?_)
  obtain ⟨rfl, e421⟩ := hQ421
  rw [e421] at X421
  show Gl p e below n0 _ _ (T421.setTop (mkF m 5 #[.val (.int (1 : Int32)), .val (.ref y1)] [(.int (2 : Int32)), (.int (1 : Int32))]))
  refine g_callS (argsL := [(.int (1 : Int32)), (.int (2 : Int32))]) (S := []) X421 hx hby hZ (y := (⟨"java/lang/String", "checkIndex", "(II)V"⟩ : MethodName)) hown (hw _ (List.mem_of_getElem? (i := 110) rfl)) (hw _ (List.mem_of_getElem? (i := 111) rfl)) (hw _ (List.mem_of_getElem? (i := 10) rfl)) (hw _ (List.mem_of_getElem? (i := 112) rfl)) (by decide) (own_ci l Z a0 hw (1 : Int32) (2 : Int32) h0 n0 fm Sf hfm (by decide) (by decide)) (by rw [hml]; rfl) (lenOf own_pd2 rfl) rfl own_d19_5 (by decide) (W := 0) (by exact Nat.le_of_eq rfl) (by decide) (by decide) (by decide) (pc' := 8) rfl (fun T422 v422 X422 hQ422 => ?_)
  obtain ⟨rfl, e422⟩ := hQ422
  rw [e422] at X422
  show Gl p e below n0 _ _ (T422.setTop (mkF m 8 #[.val (.int (1 : Int32)), .val (.ref y1)] []))
  exact g_ret X422 hx hby hret hlk own_d19_8 ⟨rfl, rfl⟩ (by decide) (by decide)
set_option maxRecDepth 65536 in
set_option maxHeartbeats 40000000 in
theorem own_ef423 (m : MethodId) (y0 : Addr) (y1 : Int32)  : entryFrame m #[(.ref y0), (.int y1)] 2 = mkF m 0 #[.val (.ref y0), .val (.int y1)] [] := by first | (simp [entryFrame, mkF, argsToLocals, Value.category, maxLocals]; done) | rfl
set_option maxRecDepth 65536 in
set_option maxHeartbeats 40000000 in
theorem own_uc_2_1 (l : Launch) (Z : State) (a0 : Array Value) (hw : ∀ d ∈ tables_1, d.before a0 Z = true) (y0 : Addr) (h0 : Heap) (n0 : Nat) (f : Nat → Int32) (hr : ∀ i, 0 ≤ (f i).toInt ∧ (f i).toInt ≤ 65535) (LA0 : Ary Z h0 y0 .byte 4 (fun i => .int (own_ub f i))) (fm : Value) (Sf : Sta Z h0 "jdk/internal/util/Preconditions" "SIOOBE_FORMATTER" "Ljava/util/function/BiFunction;" fm) (hfm : fm.isRef = true) (Sd : Sta Z h0 "java/lang/StringUTF16" "$assertionsDisabled" "Z" (.int 1)) (Sh : Sta Z h0 "java/lang/StringUTF16" "HI_BYTE_SHIFT" "I" (.int 0)) (Sl : Sta Z h0 "java/lang/StringUTF16" "LO_BYTE_SHIFT" "I" (.int 8)) :
    Ctr l Z (⟨"java/lang/StringUTF16", "charAt", "([BI)C"⟩ : MethodName) jdk_52_method_83_code 2 (some .char) [] (own_room 3 0 0 40) #[(.ref y0), (.int (1 : Int32))] h0 n0 0 0 (fun v h => v = some (.int (f 1)) ∧ h = h0) := by
  refine Ctr.of (plainFor_of_name own_pn3) ?_
  intro p e s m below meth c T0 hx hby hml hret hlk hnm hown hZ X0
  rw [own_ef423 m (y0) ((1 : Int32))]
  refine g_iloadN X0 hx hby own_d20_0 rfl (pc' := 1) rfl ?_
  refine g_aloadN X0 hx hby own_d20_1 rfl rfl (pc' := 2) rfl ?_
  refine g_callS (argsL := [(.int (1 : Int32)), (.ref y0)]) (S := []) X0 hx hby hZ (y := (⟨"java/lang/StringUTF16", "checkIndex", "(I[B)V"⟩ : MethodName)) hown (hw _ (List.mem_of_getElem? (i := 104) rfl)) (hw _ (List.mem_of_getElem? (i := 105) rfl)) (hw _ (List.mem_of_getElem? (i := 55) rfl)) (hw _ (List.mem_of_getElem? (i := 106) rfl)) (by decide) (own_ck_2_1 l Z a0 hw y0 h0 n0 _ LA0 fm Sf hfm Sd Sh Sl) (by rw [hml]; rfl) (lenOf own_pd13 rfl) rfl own_d20_2 (by decide) (W := 0) (by exact Nat.le_of_eq rfl) (by decide) (by decide) (by decide) (pc' := 5) rfl (fun T424 v424 X424 hQ424 => ?_)
  obtain ⟨rfl, e424⟩ := hQ424
  rw [e424] at X424
  show Gl p e below n0 _ _ (T424.setTop (mkF m 5 #[.val (.ref y0), .val (.int (1 : Int32))] []))
  refine g_aloadN X424 hx hby own_d20_5 rfl rfl (pc' := 6) rfl ?_
  refine g_iloadN X424 hx hby own_d20_6 rfl (pc' := 7) rfl ?_
  refine g_callS (argsL := [(.ref y0), (.int (1 : Int32))]) (S := []) X424 hx hby hZ (y := (⟨"java/lang/StringUTF16", "getChar", "([BI)C"⟩ : MethodName)) hown (hw _ (List.mem_of_getElem? (i := 82) rfl)) (hw _ (List.mem_of_getElem? (i := 83) rfl)) (hw _ (List.mem_of_getElem? (i := 55) rfl)) (hw _ (List.mem_of_getElem? (i := 84) rfl)) (by decide) (own_gc_2_1 l Z a0 hw y0 h0 n0 f hr LA0 Sd Sh Sl) (by rw [hml]; rfl) (lenOf own_pd4 rfl) rfl own_d20_7 (by decide) (W := 0) (by exact Nat.le_of_eq rfl) (by decide) (by decide) (by decide) (pc' := 10) rfl (fun T425 v425 X425 hQ425 => ?_)
  obtain ⟨rfl, e425⟩ := hQ425
  rw [e425] at X425
  show Gl p e below n0 _ _ (T425.setTop (mkF m 10 #[.val (.ref y0), .val (.int (1 : Int32))] [(.int (f 1))]))
  exact g_retN X425 hx hby hret hlk (by simp) own_d20_10 ⟨congrArg (fun z => some (Value.int z)) (own_narC (hr 1)), rfl⟩ (by decide) (by decide)
set_option maxRecDepth 65536 in
set_option maxHeartbeats 40000000 in
theorem own_ef426 (m : MethodId) (y0 : Addr)  : entryFrame m #[(.ref y0)] 1 = mkF m 0 #[.val (.ref y0)] [] := by first | (simp [entryFrame, mkF, argsToLocals, Value.category, maxLocals]; done) | rfl
set_option maxRecDepth 65536 in
set_option maxHeartbeats 40000000 in
theorem own_coU (l : Launch) (Z : State) (a0 : Array Value) (hw : ∀ d ∈ tables_1, d.before a0 Z = true) (y0 : Addr) (h0 : Heap) (n0 : Nat) (n : Nat) (f : Nat → Int32) (P0 : Utf Z h0 y0 n f) (cs : Int32) (Sc : Sta Z h0 "java/lang/String" "COMPACT_STRINGS" "Z" (.int cs)) (hcs : ¬ cs = 0) :
    Ctr l Z (⟨"java/lang/String", "coder", "()B"⟩ : MethodName) jdk_42_method_152_code 1 (some .byte) [] (own_room 0 0 0 0) #[(.ref y0)] h0 n0 0 0 (fun v h => v = some (.int 1) ∧ h = h0) := by
  refine Ctr.of (plainFor_of_name own_pn0) ?_
  intro p e s m below meth c T0 hx hby hml hret hlk hnm hown hZ X0
  rw [own_ef426 m (y0)]
  obtain ⟨v0, LE0, LV0, LC0, LA0⟩ := P0
  refine g_getS X0 hx hby hZ hown (hw _ (List.mem_of_getElem? (i := 51) rfl)) Via.refl Sc own_d0_0 (pc' := 3) rfl (fun T427 X427 => ?_)
  refine g_if_eq X427 hx hby own_d0_3 (by decide) (pc' := 13) (by decide) (pc2 := 6) rfl (fun q => absurd q hcs) (fun c3_428 => ?_)
  refine g_aloadN X427 hx hby own_d0_6 rfl rfl (pc' := 7) rfl ?_
  refine g_getF X427 hx hby hZ hown (hw _ (List.mem_of_getElem? (i := 29) rfl)) Via.refl LC0 own_d0_7 (pc' := 10) rfl (fun T429 X429 => ?_)
  refine g_goto X429 hx hby own_d0_10 (by decide) (pc' := 14) (by decide) ?_
  exact g_retN X429 hx hby hret hlk (by simp) own_d0_14 ⟨rfl, rfl⟩ (by decide) (by decide)
set_option maxRecDepth 65536 in
set_option maxHeartbeats 40000000 in
theorem own_ef430 (m : MethodId) (y0 : Addr)  : entryFrame m #[(.ref y0)] 1 = mkF m 0 #[.val (.ref y0)] [] := by first | (simp [entryFrame, mkF, argsToLocals, Value.category, maxLocals]; done) | rfl
theorem own_d1_17 : decode jdk_42_method_154_code 17 = .ok (.iconst 0, 1) := by decide +kernel
set_option maxRecDepth 65536 in
set_option maxHeartbeats 40000000 in
theorem own_ilU (l : Launch) (Z : State) (a0 : Array Value) (hw : ∀ d ∈ tables_1, d.before a0 Z = true) (y0 : Addr) (h0 : Heap) (n0 : Nat) (n : Nat) (f : Nat → Int32) (P0 : Utf Z h0 y0 n f) (cs : Int32) (Sc : Sta Z h0 "java/lang/String" "COMPACT_STRINGS" "Z" (.int cs)) (hcs : ¬ cs = 0) :
    Ctr l Z (⟨"java/lang/String", "isLatin1", "()Z"⟩ : MethodName) jdk_42_method_154_code 1 (some .boolean) [] (own_room 0 0 0 0) #[(.ref y0)] h0 n0 0 0 (fun v h => v = some (.int 0) ∧ h = h0) := by
  refine Ctr.of (plainFor_of_name own_pn0) ?_
  intro p e s m below meth c T0 hx hby hml hret hlk hnm hown hZ X0
  rw [own_ef430 m (y0)]
  obtain ⟨v0, LE0, LV0, LC0, LA0⟩ := P0
  refine g_getS X0 hx hby hZ hown (hw _ (List.mem_of_getElem? (i := 51) rfl)) Via.refl Sc own_d1_0 (pc' := 3) rfl (fun T431 X431 => ?_)
  refine g_if_eq X431 hx hby own_d1_3 (by decide) (pc' := 17) (by decide) (pc2 := 6) rfl (fun q => absurd q hcs) (fun c3_432 => ?_)
  refine g_aloadN X431 hx hby own_d1_6 rfl rfl (pc' := 7) rfl ?_
  refine g_getF X431 hx hby hZ hown (hw _ (List.mem_of_getElem? (i := 29) rfl)) Via.refl LC0 own_d1_7 (pc' := 10) rfl (fun T433 X433 => ?_)
  refine g_if_ne X433 hx hby own_d1_10 (by decide) (pc' := 17) (by decide) (pc2 := 13) rfl (fun c10_434 => ?_) (fun q => absurd q (by decide))
  refine g_iconst (v := 0) X433 hx hby own_d1_17 rfl (pc' := 18) rfl ?_
  exact g_retN X433 hx hby hret hlk (by simp) own_d1_18 ⟨rfl, rfl⟩ (by decide) (by decide)
set_option maxRecDepth 65536 in
set_option maxHeartbeats 40000000 in
theorem own_ef435 (m : MethodId) (y0 : Addr)  : entryFrame m #[(.ref y0)] 1 = mkF m 0 #[.val (.ref y0)] [] := by first | (simp [entryFrame, mkF, argsToLocals, Value.category, maxLocals]; done) | rfl
set_option maxRecDepth 65536 in
set_option maxHeartbeats 40000000 in
theorem own_lnS_0 (l : Launch) (Z : State) (a0 : Array Value) (hw : ∀ d ∈ tables_1, d.before a0 Z = true) (y0 : Addr) (h0 : Heap) (n0 : Nat) (f : Nat → Int32) (P0 : Sg Z h0 y0 0 0 f) (cs : Int32) (Sc : Sta Z h0 "java/lang/String" "COMPACT_STRINGS" "Z" (.int cs)) (hcs : ¬ cs = 0) (fm : Value) (Sf : Sta Z h0 "jdk/internal/util/Preconditions" "SIOOBE_FORMATTER" "Ljava/util/function/BiFunction;" fm) (hfm : fm.isRef = true) (Sd : Sta Z h0 "java/lang/StringUTF16" "$assertionsDisabled" "Z" (.int 1)) (Sh : Sta Z h0 "java/lang/StringUTF16" "HI_BYTE_SHIFT" "I" (.int 0)) (Sl : Sta Z h0 "java/lang/StringUTF16" "LO_BYTE_SHIFT" "I" (.int 8)) :
    Ctr l Z (⟨"java/lang/String", "length", "()I"⟩ : MethodName) jdk_42_method_54_code 1 (some .int) [] (own_room 1 0 0 13) #[(.ref y0)] h0 n0 0 0 (fun v h => v = some (.int 0) ∧ h = h0) := by
  refine Ctr.of (plainFor_of_name own_pn0) ?_
  intro p e s m below meth c T0 hx hby hml hret hlk hnm hown hZ X0
  rw [own_ef435 m (y0)]
  rcases P0 with ⟨P0, hle⟩ | P0
  · obtain ⟨v0, LE0, LV0, LC0, LA0⟩ := P0
    refine g_aloadN X0 hx hby own_d2_0 rfl rfl (pc' := 1) rfl ?_
    refine g_getF X0 hx hby hZ hown (hw _ (List.mem_of_getElem? (i := 28) rfl)) Via.refl LV0 own_d2_1 (pc' := 4) rfl (fun T436 X436 => ?_)
    refine g_arraylength (n := (0 : Int32)) X436 hx hby hZ LA0 rfl own_d2_4 (pc' := 5) rfl ?_
    refine g_aloadN X436 hx hby own_d2_5 rfl rfl (pc' := 6) rfl ?_
    refine g_callV (argsL := []) (S := [(.int (0 : Int32))]) (a := y0) X436 hx hby hZ (y := (⟨"java/lang/String", "coder", "()B"⟩ : MethodName)) (y' := (⟨"java/lang/String", "coder", "()B"⟩ : MethodName)) hown (hw _ (List.mem_of_getElem? (i := 46) rfl)) (hw _ (List.mem_of_getElem? (i := 47) rfl)) (notFace_of_selects (args := #[]) (mvT hZ (hw _ (List.mem_of_getElem? (i := 49) rfl)))) (hw _ (List.mem_of_getElem? (i := 49) rfl)) (hw _ (List.mem_of_getElem? (i := 48) rfl)) (hw _ (List.mem_of_getElem? (i := 10) rfl)) (hw _ (List.mem_of_getElem? (i := 50) rfl)) (by decide) LE0 (own_co l Z a0 hw y0 h0 n0 0 (0 : Int32) (fun i => own_y (f i)) rfl ⟨v0, LE0, LV0, LC0, LA0⟩ cs Sc hcs ) (by rw [hml]; rfl) (lenOf own_pd0 rfl) rfl own_d2_6 (by decide) (W := 1) (by exact Nat.le_of_eq rfl) (by decide) (by decide) (by decide) (pc' := 9) rfl (fun T437 v437 X437 hQ437 => ?_)
    obtain ⟨rfl, e437⟩ := hQ437
    rw [e437] at X437
    show Gl p e below n0 _ _ (T437.setTop (mkF m 9 #[.val (.ref y0)] [(.int (0 : Int32)), (.int (0 : Int32))]))
    refine g_ishr X437 hx hby own_d2_9 (pc' := 10) rfl ?_
    exact g_retI X437 hx hby hret hlk own_d2_10 ⟨congrArg (fun z => some (Value.int z)) (by decide), rfl⟩ (by decide) (by decide)
  · obtain ⟨v0, LE0, LV0, LC0, LA0⟩ := P0
    refine g_aloadN X0 hx hby own_d2_0 rfl rfl (pc' := 1) rfl ?_
    refine g_getF X0 hx hby hZ hown (hw _ (List.mem_of_getElem? (i := 28) rfl)) Via.refl LV0 own_d2_1 (pc' := 4) rfl (fun T438 X438 => ?_)
    refine g_arraylength (n := (0 : Int32)) X438 hx hby hZ LA0 rfl own_d2_4 (pc' := 5) rfl ?_
    refine g_aloadN X438 hx hby own_d2_5 rfl rfl (pc' := 6) rfl ?_
    refine g_callV (argsL := []) (S := [(.int (0 : Int32))]) (a := y0) X438 hx hby hZ (y := (⟨"java/lang/String", "coder", "()B"⟩ : MethodName)) (y' := (⟨"java/lang/String", "coder", "()B"⟩ : MethodName)) hown (hw _ (List.mem_of_getElem? (i := 46) rfl)) (hw _ (List.mem_of_getElem? (i := 47) rfl)) (notFace_of_selects (args := #[]) (mvT hZ (hw _ (List.mem_of_getElem? (i := 49) rfl)))) (hw _ (List.mem_of_getElem? (i := 49) rfl)) (hw _ (List.mem_of_getElem? (i := 48) rfl)) (hw _ (List.mem_of_getElem? (i := 10) rfl)) (hw _ (List.mem_of_getElem? (i := 50) rfl)) (by decide) LE0 (own_coU l Z a0 hw y0 h0 n0 _ f ⟨v0, LE0, LV0, LC0, LA0⟩ cs Sc hcs) (by rw [hml]; rfl) (lenOf own_pd0 rfl) rfl own_d2_6 (by decide) (W := 1) (by exact Nat.le_of_eq rfl) (by decide) (by decide) (by decide) (pc' := 9) rfl (fun T439 v439 X439 hQ439 => ?_)
    obtain ⟨rfl, e439⟩ := hQ439
    rw [e439] at X439
    show Gl p e below n0 _ _ (T439.setTop (mkF m 9 #[.val (.ref y0)] [(.int (1 : Int32)), (.int (0 : Int32))]))
    refine g_ishr X439 hx hby own_d2_9 (pc' := 10) rfl ?_
    exact g_retI X439 hx hby hret hlk own_d2_10 ⟨congrArg (fun z => some (Value.int z)) (by decide), rfl⟩ (by decide) (by decide)
set_option maxRecDepth 65536 in
set_option maxHeartbeats 40000000 in
theorem own_ef440 (m : MethodId) (y0 : Addr)  : entryFrame m #[(.ref y0)] 1 = mkF m 0 #[.val (.ref y0)] [] := by first | (simp [entryFrame, mkF, argsToLocals, Value.category, maxLocals]; done) | rfl
set_option maxRecDepth 65536 in
set_option maxHeartbeats 40000000 in
theorem own_lnS_1 (l : Launch) (Z : State) (a0 : Array Value) (hw : ∀ d ∈ tables_1, d.before a0 Z = true) (y0 : Addr) (h0 : Heap) (n0 : Nat) (f : Nat → Int32) (P0 : Sg Z h0 y0 1 2 f) (cs : Int32) (Sc : Sta Z h0 "java/lang/String" "COMPACT_STRINGS" "Z" (.int cs)) (hcs : ¬ cs = 0) (fm : Value) (Sf : Sta Z h0 "jdk/internal/util/Preconditions" "SIOOBE_FORMATTER" "Ljava/util/function/BiFunction;" fm) (hfm : fm.isRef = true) (Sd : Sta Z h0 "java/lang/StringUTF16" "$assertionsDisabled" "Z" (.int 1)) (Sh : Sta Z h0 "java/lang/StringUTF16" "HI_BYTE_SHIFT" "I" (.int 0)) (Sl : Sta Z h0 "java/lang/StringUTF16" "LO_BYTE_SHIFT" "I" (.int 8)) :
    Ctr l Z (⟨"java/lang/String", "length", "()I"⟩ : MethodName) jdk_42_method_54_code 1 (some .int) [] (own_room 1 0 0 13) #[(.ref y0)] h0 n0 0 0 (fun v h => v = some (.int 1) ∧ h = h0) := by
  refine Ctr.of (plainFor_of_name own_pn0) ?_
  intro p e s m below meth c T0 hx hby hml hret hlk hnm hown hZ X0
  rw [own_ef440 m (y0)]
  rcases P0 with ⟨P0, hle⟩ | P0
  · obtain ⟨v0, LE0, LV0, LC0, LA0⟩ := P0
    refine g_aloadN X0 hx hby own_d2_0 rfl rfl (pc' := 1) rfl ?_
    refine g_getF X0 hx hby hZ hown (hw _ (List.mem_of_getElem? (i := 28) rfl)) Via.refl LV0 own_d2_1 (pc' := 4) rfl (fun T441 X441 => ?_)
    refine g_arraylength (n := (1 : Int32)) X441 hx hby hZ LA0 rfl own_d2_4 (pc' := 5) rfl ?_
    refine g_aloadN X441 hx hby own_d2_5 rfl rfl (pc' := 6) rfl ?_
    refine g_callV (argsL := []) (S := [(.int (1 : Int32))]) (a := y0) X441 hx hby hZ (y := (⟨"java/lang/String", "coder", "()B"⟩ : MethodName)) (y' := (⟨"java/lang/String", "coder", "()B"⟩ : MethodName)) hown (hw _ (List.mem_of_getElem? (i := 46) rfl)) (hw _ (List.mem_of_getElem? (i := 47) rfl)) (notFace_of_selects (args := #[]) (mvT hZ (hw _ (List.mem_of_getElem? (i := 49) rfl)))) (hw _ (List.mem_of_getElem? (i := 49) rfl)) (hw _ (List.mem_of_getElem? (i := 48) rfl)) (hw _ (List.mem_of_getElem? (i := 10) rfl)) (hw _ (List.mem_of_getElem? (i := 50) rfl)) (by decide) LE0 (own_co l Z a0 hw y0 h0 n0 1 (1 : Int32) (fun i => own_y (f i)) rfl ⟨v0, LE0, LV0, LC0, LA0⟩ cs Sc hcs ) (by rw [hml]; rfl) (lenOf own_pd0 rfl) rfl own_d2_6 (by decide) (W := 1) (by exact Nat.le_of_eq rfl) (by decide) (by decide) (by decide) (pc' := 9) rfl (fun T442 v442 X442 hQ442 => ?_)
    obtain ⟨rfl, e442⟩ := hQ442
    rw [e442] at X442
    show Gl p e below n0 _ _ (T442.setTop (mkF m 9 #[.val (.ref y0)] [(.int (0 : Int32)), (.int (1 : Int32))]))
    refine g_ishr X442 hx hby own_d2_9 (pc' := 10) rfl ?_
    exact g_retI X442 hx hby hret hlk own_d2_10 ⟨congrArg (fun z => some (Value.int z)) (by decide), rfl⟩ (by decide) (by decide)
  · obtain ⟨v0, LE0, LV0, LC0, LA0⟩ := P0
    refine g_aloadN X0 hx hby own_d2_0 rfl rfl (pc' := 1) rfl ?_
    refine g_getF X0 hx hby hZ hown (hw _ (List.mem_of_getElem? (i := 28) rfl)) Via.refl LV0 own_d2_1 (pc' := 4) rfl (fun T443 X443 => ?_)
    refine g_arraylength (n := (2 : Int32)) X443 hx hby hZ LA0 rfl own_d2_4 (pc' := 5) rfl ?_
    refine g_aloadN X443 hx hby own_d2_5 rfl rfl (pc' := 6) rfl ?_
    refine g_callV (argsL := []) (S := [(.int (2 : Int32))]) (a := y0) X443 hx hby hZ (y := (⟨"java/lang/String", "coder", "()B"⟩ : MethodName)) (y' := (⟨"java/lang/String", "coder", "()B"⟩ : MethodName)) hown (hw _ (List.mem_of_getElem? (i := 46) rfl)) (hw _ (List.mem_of_getElem? (i := 47) rfl)) (notFace_of_selects (args := #[]) (mvT hZ (hw _ (List.mem_of_getElem? (i := 49) rfl)))) (hw _ (List.mem_of_getElem? (i := 49) rfl)) (hw _ (List.mem_of_getElem? (i := 48) rfl)) (hw _ (List.mem_of_getElem? (i := 10) rfl)) (hw _ (List.mem_of_getElem? (i := 50) rfl)) (by decide) LE0 (own_coU l Z a0 hw y0 h0 n0 _ f ⟨v0, LE0, LV0, LC0, LA0⟩ cs Sc hcs) (by rw [hml]; rfl) (lenOf own_pd0 rfl) rfl own_d2_6 (by decide) (W := 1) (by exact Nat.le_of_eq rfl) (by decide) (by decide) (by decide) (pc' := 9) rfl (fun T444 v444 X444 hQ444 => ?_)
    obtain ⟨rfl, e444⟩ := hQ444
    rw [e444] at X444
    show Gl p e below n0 _ _ (T444.setTop (mkF m 9 #[.val (.ref y0)] [(.int (1 : Int32)), (.int (2 : Int32))]))
    refine g_ishr X444 hx hby own_d2_9 (pc' := 10) rfl ?_
    exact g_retI X444 hx hby hret hlk own_d2_10 ⟨congrArg (fun z => some (Value.int z)) (by decide), rfl⟩ (by decide) (by decide)
set_option maxRecDepth 65536 in
set_option maxHeartbeats 40000000 in
theorem own_ef445 (m : MethodId) (y0 : Addr) (y1 : Int32)  : entryFrame m #[(.ref y0), (.int y1)] 2 = mkF m 0 #[.val (.ref y0), .val (.int y1)] [] := by first | (simp [entryFrame, mkF, argsToLocals, Value.category, maxLocals]; done) | rfl
theorem own_d6_16 : decode jdk_42_method_56_code 16 = .ok (.aload_n 0, 1) := by decide +kernel
theorem own_d6_17 : decode jdk_42_method_56_code 17 = .ok (.getfield 9, 3) := by decide +kernel
theorem own_d6_20 : decode jdk_42_method_56_code 20 = .ok (.iload_n 1, 1) := by decide +kernel
theorem own_d6_21 : decode jdk_42_method_56_code 21 = .ok (.invokestatic 498, 3) := by decide +kernel
theorem own_d6_24 : decode jdk_42_method_56_code 24 = .ok (.ireturn, 1) := by decide +kernel
set_option maxRecDepth 65536 in
set_option maxHeartbeats 40000000 in
theorem own_caS_1_0 (l : Launch) (Z : State) (a0 : Array Value) (hw : ∀ d ∈ tables_1, d.before a0 Z = true) (y0 : Addr) (h0 : Heap) (n0 : Nat) (f : Nat → Int32) (hr : ∀ i, 0 ≤ (f i).toInt ∧ (f i).toInt ≤ 65535) (P0 : Sg Z h0 y0 1 2 f) (cs : Int32) (Sc : Sta Z h0 "java/lang/String" "COMPACT_STRINGS" "Z" (.int cs)) (hcs : ¬ cs = 0) (fm : Value) (Sf : Sta Z h0 "jdk/internal/util/Preconditions" "SIOOBE_FORMATTER" "Ljava/util/function/BiFunction;" fm) (hfm : fm.isRef = true) (Sd : Sta Z h0 "java/lang/StringUTF16" "$assertionsDisabled" "Z" (.int 1)) (Sh : Sta Z h0 "java/lang/StringUTF16" "HI_BYTE_SHIFT" "I" (.int 0)) (Sl : Sta Z h0 "java/lang/StringUTF16" "LO_BYTE_SHIFT" "I" (.int 8)) :
    Ctr l Z (⟨"java/lang/String", "charAt", "(I)C"⟩ : MethodName) jdk_42_method_56_code 2 (some .char) [] (own_room 4 0 0 53) #[(.ref y0), (.int (0 : Int32))] h0 n0 0 0 (fun v h => v = some (.int (f 0)) ∧ h = h0) := by
  refine Ctr.of (plainFor_of_name own_pn0) ?_
  intro p e s m below meth c T0 hx hby hml hret hlk hnm hown hZ X0
  rw [own_ef445 m (y0) ((0 : Int32))]
  rcases P0 with ⟨P0, hle⟩ | P0
  · obtain ⟨v0, LE0, LV0, LC0, LA0⟩ := P0
    refine g_aloadN X0 hx hby own_d6_0 rfl rfl (pc' := 1) rfl ?_
    refine g_callV (argsL := []) (S := []) (a := y0) X0 hx hby hZ (y := (⟨"java/lang/String", "isLatin1", "()Z"⟩ : MethodName)) (y' := (⟨"java/lang/String", "isLatin1", "()Z"⟩ : MethodName)) hown (hw _ (List.mem_of_getElem? (i := 96) rfl)) (hw _ (List.mem_of_getElem? (i := 97) rfl)) (notFace_of_selects (args := #[]) (mvT hZ (hw _ (List.mem_of_getElem? (i := 99) rfl)))) (hw _ (List.mem_of_getElem? (i := 99) rfl)) (hw _ (List.mem_of_getElem? (i := 98) rfl)) (hw _ (List.mem_of_getElem? (i := 10) rfl)) (hw _ (List.mem_of_getElem? (i := 100) rfl)) (by decide) LE0 (own_il l Z a0 hw y0 h0 n0 1 (1 : Int32) (fun i => own_y (f i)) rfl ⟨v0, LE0, LV0, LC0, LA0⟩ cs Sc hcs ) (by rw [hml]; rfl) (lenOf own_pd3 rfl) rfl own_d6_1 (by decide) (W := 0) (by exact Nat.le_of_eq rfl) (by decide) (by decide) (by decide) (pc' := 4) rfl (fun T446 v446 X446 hQ446 => ?_)
    obtain ⟨rfl, e446⟩ := hQ446
    rw [e446] at X446
    show Gl p e below n0 _ _ (T446.setTop (mkF m 4 #[.val (.ref y0), .val (.int (0 : Int32))] [(.int (1 : Int32))]))
    refine g_if_eq X446 hx hby own_d6_4 (by decide) (pc' := 16) (by decide) (pc2 := 7) rfl (fun q => absurd q (by decide)) (fun c4_447 => ?_)
    refine g_aloadN X446 hx hby own_d6_7 rfl rfl (pc' := 8) rfl ?_
    refine g_getF X446 hx hby hZ hown (hw _ (List.mem_of_getElem? (i := 28) rfl)) Via.refl LV0 own_d6_8 (pc' := 11) rfl (fun T448 X448 => ?_)
    refine g_iloadN X448 hx hby own_d6_11 rfl (pc' := 12) rfl ?_
    refine g_callS (argsL := [(.ref v0), (.int (0 : Int32))]) (S := []) X448 hx hby hZ (y := (⟨"java/lang/StringLatin1", "charAt", "([BI)C"⟩ : MethodName)) hown (hw _ (List.mem_of_getElem? (i := 123) rfl)) (hw _ (List.mem_of_getElem? (i := 124) rfl)) (hw _ (List.mem_of_getElem? (i := 125) rfl)) (hw _ (List.mem_of_getElem? (i := 126) rfl)) (by decide) (own_la l Z a0 hw v0 (0 : Int32) h0 n0 1 1 (fun i => own_y (f i)) rfl LA0 0 rfl (by decide) fm Sf hfm) (by rw [hml]; rfl) (lenOf own_pd4 rfl) rfl own_d6_12 (by decide) (W := 0) (by exact Nat.le_of_eq rfl) (by decide) (by decide) (by decide) (pc' := 15) rfl (fun T449 v449 X449 hQ449 => ?_)
    obtain ⟨rfl, e449⟩ := hQ449
    rw [e449] at X449
    show Gl p e below n0 _ _ (T449.setTop (mkF m 15 #[.val (.ref y0), .val (.int (0 : Int32))] [(.int (own_y (f 0) &&& (255 : Int32)))]))
    exact g_retN X449 hx hby hret hlk (by simp) own_d6_15 ⟨congrArg (fun z => some (Value.int z)) ((own_narc8 _).trans (own_chr_y (own_not255 (hr 0) (hle 0 (by decide))))), rfl⟩ (by decide) (by decide)
  · obtain ⟨v0, LE0, LV0, LC0, LA0⟩ := P0
    refine g_aloadN X0 hx hby own_d6_0 rfl rfl (pc' := 1) rfl ?_
    refine g_callV (argsL := []) (S := []) (a := y0) X0 hx hby hZ (y := (⟨"java/lang/String", "isLatin1", "()Z"⟩ : MethodName)) (y' := (⟨"java/lang/String", "isLatin1", "()Z"⟩ : MethodName)) hown (hw _ (List.mem_of_getElem? (i := 96) rfl)) (hw _ (List.mem_of_getElem? (i := 97) rfl)) (notFace_of_selects (args := #[]) (mvT hZ (hw _ (List.mem_of_getElem? (i := 99) rfl)))) (hw _ (List.mem_of_getElem? (i := 99) rfl)) (hw _ (List.mem_of_getElem? (i := 98) rfl)) (hw _ (List.mem_of_getElem? (i := 10) rfl)) (hw _ (List.mem_of_getElem? (i := 100) rfl)) (by decide) LE0 (own_ilU l Z a0 hw y0 h0 n0 _ f ⟨v0, LE0, LV0, LC0, LA0⟩ cs Sc hcs) (by rw [hml]; rfl) (lenOf own_pd3 rfl) rfl own_d6_1 (by decide) (W := 0) (by exact Nat.le_of_eq rfl) (by decide) (by decide) (by decide) (pc' := 4) rfl (fun T450 v450 X450 hQ450 => ?_)
    obtain ⟨rfl, e450⟩ := hQ450
    rw [e450] at X450
    show Gl p e below n0 _ _ (T450.setTop (mkF m 4 #[.val (.ref y0), .val (.int (0 : Int32))] [(.int (0 : Int32))]))
    refine g_if_eq X450 hx hby own_d6_4 (by decide) (pc' := 16) (by decide) (pc2 := 7) rfl (fun c4_451 => ?_) (fun q => absurd (by decide) q)
    refine g_aloadN X450 hx hby own_d6_16 rfl rfl (pc' := 17) rfl ?_
    refine g_getF X450 hx hby hZ hown (hw _ (List.mem_of_getElem? (i := 28) rfl)) Via.refl LV0 own_d6_17 (pc' := 20) rfl (fun T452 X452 => ?_)
    refine g_iloadN X452 hx hby own_d6_20 rfl (pc' := 21) rfl ?_
    refine g_callS (argsL := [(.ref v0), (.int (0 : Int32))]) (S := []) X452 hx hby hZ (y := (⟨"java/lang/StringUTF16", "charAt", "([BI)C"⟩ : MethodName)) hown (hw _ (List.mem_of_getElem? (i := 101) rfl)) (hw _ (List.mem_of_getElem? (i := 102) rfl)) (hw _ (List.mem_of_getElem? (i := 55) rfl)) (hw _ (List.mem_of_getElem? (i := 103) rfl)) (by decide) (own_uc_1_0 l Z a0 hw v0 h0 n0 f hr LA0 fm Sf hfm Sd Sh Sl) (by rw [hml]; rfl) (lenOf own_pd4 rfl) rfl own_d6_21 (by decide) (W := 0) (by exact Nat.le_of_eq rfl) (by decide) (by decide) (by decide) (pc' := 24) rfl (fun T453 v453 X453 hQ453 => ?_)
    obtain ⟨rfl, e453⟩ := hQ453
    rw [e453] at X453
    show Gl p e below n0 _ _ (T453.setTop (mkF m 24 #[.val (.ref y0), .val (.int (0 : Int32))] [(.int (f 0))]))
    exact g_retN X453 hx hby hret hlk (by simp) own_d6_24 ⟨congrArg (fun z => some (Value.int z)) (own_narC (hr 0)), rfl⟩ (by decide) (by decide)
set_option maxRecDepth 65536 in
set_option maxHeartbeats 40000000 in
theorem own_ef454 (m : MethodId) (y0 : Addr)  : entryFrame m #[(.ref y0)] 1 = mkF m 0 #[.val (.ref y0)] [] := by first | (simp [entryFrame, mkF, argsToLocals, Value.category, maxLocals]; done) | rfl
set_option maxRecDepth 65536 in
set_option maxHeartbeats 40000000 in
theorem own_lnS_2 (l : Launch) (Z : State) (a0 : Array Value) (hw : ∀ d ∈ tables_1, d.before a0 Z = true) (y0 : Addr) (h0 : Heap) (n0 : Nat) (f : Nat → Int32) (P0 : Sg Z h0 y0 2 4 f) (cs : Int32) (Sc : Sta Z h0 "java/lang/String" "COMPACT_STRINGS" "Z" (.int cs)) (hcs : ¬ cs = 0) (fm : Value) (Sf : Sta Z h0 "jdk/internal/util/Preconditions" "SIOOBE_FORMATTER" "Ljava/util/function/BiFunction;" fm) (hfm : fm.isRef = true) (Sd : Sta Z h0 "java/lang/StringUTF16" "$assertionsDisabled" "Z" (.int 1)) (Sh : Sta Z h0 "java/lang/StringUTF16" "HI_BYTE_SHIFT" "I" (.int 0)) (Sl : Sta Z h0 "java/lang/StringUTF16" "LO_BYTE_SHIFT" "I" (.int 8)) :
    Ctr l Z (⟨"java/lang/String", "length", "()I"⟩ : MethodName) jdk_42_method_54_code 1 (some .int) [] (own_room 1 0 0 13) #[(.ref y0)] h0 n0 0 0 (fun v h => v = some (.int 2) ∧ h = h0) := by
  refine Ctr.of (plainFor_of_name own_pn0) ?_
  intro p e s m below meth c T0 hx hby hml hret hlk hnm hown hZ X0
  rw [own_ef454 m (y0)]
  rcases P0 with ⟨P0, hle⟩ | P0
  · obtain ⟨v0, LE0, LV0, LC0, LA0⟩ := P0
    refine g_aloadN X0 hx hby own_d2_0 rfl rfl (pc' := 1) rfl ?_
    refine g_getF X0 hx hby hZ hown (hw _ (List.mem_of_getElem? (i := 28) rfl)) Via.refl LV0 own_d2_1 (pc' := 4) rfl (fun T455 X455 => ?_)
    refine g_arraylength (n := (2 : Int32)) X455 hx hby hZ LA0 rfl own_d2_4 (pc' := 5) rfl ?_
    refine g_aloadN X455 hx hby own_d2_5 rfl rfl (pc' := 6) rfl ?_
    refine g_callV (argsL := []) (S := [(.int (2 : Int32))]) (a := y0) X455 hx hby hZ (y := (⟨"java/lang/String", "coder", "()B"⟩ : MethodName)) (y' := (⟨"java/lang/String", "coder", "()B"⟩ : MethodName)) hown (hw _ (List.mem_of_getElem? (i := 46) rfl)) (hw _ (List.mem_of_getElem? (i := 47) rfl)) (notFace_of_selects (args := #[]) (mvT hZ (hw _ (List.mem_of_getElem? (i := 49) rfl)))) (hw _ (List.mem_of_getElem? (i := 49) rfl)) (hw _ (List.mem_of_getElem? (i := 48) rfl)) (hw _ (List.mem_of_getElem? (i := 10) rfl)) (hw _ (List.mem_of_getElem? (i := 50) rfl)) (by decide) LE0 (own_co l Z a0 hw y0 h0 n0 2 (2 : Int32) (fun i => own_y (f i)) rfl ⟨v0, LE0, LV0, LC0, LA0⟩ cs Sc hcs ) (by rw [hml]; rfl) (lenOf own_pd0 rfl) rfl own_d2_6 (by decide) (W := 1) (by exact Nat.le_of_eq rfl) (by decide) (by decide) (by decide) (pc' := 9) rfl (fun T456 v456 X456 hQ456 => ?_)
    obtain ⟨rfl, e456⟩ := hQ456
    rw [e456] at X456
    show Gl p e below n0 _ _ (T456.setTop (mkF m 9 #[.val (.ref y0)] [(.int (0 : Int32)), (.int (2 : Int32))]))
    refine g_ishr X456 hx hby own_d2_9 (pc' := 10) rfl ?_
    exact g_retI X456 hx hby hret hlk own_d2_10 ⟨congrArg (fun z => some (Value.int z)) (by decide), rfl⟩ (by decide) (by decide)
  · obtain ⟨v0, LE0, LV0, LC0, LA0⟩ := P0
    refine g_aloadN X0 hx hby own_d2_0 rfl rfl (pc' := 1) rfl ?_
    refine g_getF X0 hx hby hZ hown (hw _ (List.mem_of_getElem? (i := 28) rfl)) Via.refl LV0 own_d2_1 (pc' := 4) rfl (fun T457 X457 => ?_)
    refine g_arraylength (n := (4 : Int32)) X457 hx hby hZ LA0 rfl own_d2_4 (pc' := 5) rfl ?_
    refine g_aloadN X457 hx hby own_d2_5 rfl rfl (pc' := 6) rfl ?_
    refine g_callV (argsL := []) (S := [(.int (4 : Int32))]) (a := y0) X457 hx hby hZ (y := (⟨"java/lang/String", "coder", "()B"⟩ : MethodName)) (y' := (⟨"java/lang/String", "coder", "()B"⟩ : MethodName)) hown (hw _ (List.mem_of_getElem? (i := 46) rfl)) (hw _ (List.mem_of_getElem? (i := 47) rfl)) (notFace_of_selects (args := #[]) (mvT hZ (hw _ (List.mem_of_getElem? (i := 49) rfl)))) (hw _ (List.mem_of_getElem? (i := 49) rfl)) (hw _ (List.mem_of_getElem? (i := 48) rfl)) (hw _ (List.mem_of_getElem? (i := 10) rfl)) (hw _ (List.mem_of_getElem? (i := 50) rfl)) (by decide) LE0 (own_coU l Z a0 hw y0 h0 n0 _ f ⟨v0, LE0, LV0, LC0, LA0⟩ cs Sc hcs) (by rw [hml]; rfl) (lenOf own_pd0 rfl) rfl own_d2_6 (by decide) (W := 1) (by exact Nat.le_of_eq rfl) (by decide) (by decide) (by decide) (pc' := 9) rfl (fun T458 v458 X458 hQ458 => ?_)
    obtain ⟨rfl, e458⟩ := hQ458
    rw [e458] at X458
    show Gl p e below n0 _ _ (T458.setTop (mkF m 9 #[.val (.ref y0)] [(.int (1 : Int32)), (.int (4 : Int32))]))
    refine g_ishr X458 hx hby own_d2_9 (pc' := 10) rfl ?_
    exact g_retI X458 hx hby hret hlk own_d2_10 ⟨congrArg (fun z => some (Value.int z)) (by decide), rfl⟩ (by decide) (by decide)
set_option maxRecDepth 65536 in
set_option maxHeartbeats 40000000 in
theorem own_ef459 (m : MethodId) (y0 : Addr) (y1 : Int32)  : entryFrame m #[(.ref y0), (.int y1)] 2 = mkF m 0 #[.val (.ref y0), .val (.int y1)] [] := by first | (simp [entryFrame, mkF, argsToLocals, Value.category, maxLocals]; done) | rfl
set_option maxRecDepth 65536 in
set_option maxHeartbeats 40000000 in
theorem own_caS_2_0 (l : Launch) (Z : State) (a0 : Array Value) (hw : ∀ d ∈ tables_1, d.before a0 Z = true) (y0 : Addr) (h0 : Heap) (n0 : Nat) (f : Nat → Int32) (hr : ∀ i, 0 ≤ (f i).toInt ∧ (f i).toInt ≤ 65535) (P0 : Sg Z h0 y0 2 4 f) (cs : Int32) (Sc : Sta Z h0 "java/lang/String" "COMPACT_STRINGS" "Z" (.int cs)) (hcs : ¬ cs = 0) (fm : Value) (Sf : Sta Z h0 "jdk/internal/util/Preconditions" "SIOOBE_FORMATTER" "Ljava/util/function/BiFunction;" fm) (hfm : fm.isRef = true) (Sd : Sta Z h0 "java/lang/StringUTF16" "$assertionsDisabled" "Z" (.int 1)) (Sh : Sta Z h0 "java/lang/StringUTF16" "HI_BYTE_SHIFT" "I" (.int 0)) (Sl : Sta Z h0 "java/lang/StringUTF16" "LO_BYTE_SHIFT" "I" (.int 8)) :
    Ctr l Z (⟨"java/lang/String", "charAt", "(I)C"⟩ : MethodName) jdk_42_method_56_code 2 (some .char) [] (own_room 4 0 0 53) #[(.ref y0), (.int (0 : Int32))] h0 n0 0 0 (fun v h => v = some (.int (f 0)) ∧ h = h0) := by
  refine Ctr.of (plainFor_of_name own_pn0) ?_
  intro p e s m below meth c T0 hx hby hml hret hlk hnm hown hZ X0
  rw [own_ef459 m (y0) ((0 : Int32))]
  rcases P0 with ⟨P0, hle⟩ | P0
  · obtain ⟨v0, LE0, LV0, LC0, LA0⟩ := P0
    refine g_aloadN X0 hx hby own_d6_0 rfl rfl (pc' := 1) rfl ?_
    refine g_callV (argsL := []) (S := []) (a := y0) X0 hx hby hZ (y := (⟨"java/lang/String", "isLatin1", "()Z"⟩ : MethodName)) (y' := (⟨"java/lang/String", "isLatin1", "()Z"⟩ : MethodName)) hown (hw _ (List.mem_of_getElem? (i := 96) rfl)) (hw _ (List.mem_of_getElem? (i := 97) rfl)) (notFace_of_selects (args := #[]) (mvT hZ (hw _ (List.mem_of_getElem? (i := 99) rfl)))) (hw _ (List.mem_of_getElem? (i := 99) rfl)) (hw _ (List.mem_of_getElem? (i := 98) rfl)) (hw _ (List.mem_of_getElem? (i := 10) rfl)) (hw _ (List.mem_of_getElem? (i := 100) rfl)) (by decide) LE0 (own_il l Z a0 hw y0 h0 n0 2 (2 : Int32) (fun i => own_y (f i)) rfl ⟨v0, LE0, LV0, LC0, LA0⟩ cs Sc hcs ) (by rw [hml]; rfl) (lenOf own_pd3 rfl) rfl own_d6_1 (by decide) (W := 0) (by exact Nat.le_of_eq rfl) (by decide) (by decide) (by decide) (pc' := 4) rfl (fun T460 v460 X460 hQ460 => ?_)
    obtain ⟨rfl, e460⟩ := hQ460
    rw [e460] at X460
    show Gl p e below n0 _ _ (T460.setTop (mkF m 4 #[.val (.ref y0), .val (.int (0 : Int32))] [(.int (1 : Int32))]))
    refine g_if_eq X460 hx hby own_d6_4 (by decide) (pc' := 16) (by decide) (pc2 := 7) rfl (fun q => absurd q (by decide)) (fun c4_461 => ?_)
    refine g_aloadN X460 hx hby own_d6_7 rfl rfl (pc' := 8) rfl ?_
    refine g_getF X460 hx hby hZ hown (hw _ (List.mem_of_getElem? (i := 28) rfl)) Via.refl LV0 own_d6_8 (pc' := 11) rfl (fun T462 X462 => ?_)
    refine g_iloadN X462 hx hby own_d6_11 rfl (pc' := 12) rfl ?_
    refine g_callS (argsL := [(.ref v0), (.int (0 : Int32))]) (S := []) X462 hx hby hZ (y := (⟨"java/lang/StringLatin1", "charAt", "([BI)C"⟩ : MethodName)) hown (hw _ (List.mem_of_getElem? (i := 123) rfl)) (hw _ (List.mem_of_getElem? (i := 124) rfl)) (hw _ (List.mem_of_getElem? (i := 125) rfl)) (hw _ (List.mem_of_getElem? (i := 126) rfl)) (by decide) (own_la l Z a0 hw v0 (0 : Int32) h0 n0 2 2 (fun i => own_y (f i)) rfl LA0 0 rfl (by decide) fm Sf hfm) (by rw [hml]; rfl) (lenOf own_pd4 rfl) rfl own_d6_12 (by decide) (W := 0) (by exact Nat.le_of_eq rfl) (by decide) (by decide) (by decide) (pc' := 15) rfl (fun T463 v463 X463 hQ463 => ?_)
    obtain ⟨rfl, e463⟩ := hQ463
    rw [e463] at X463
    show Gl p e below n0 _ _ (T463.setTop (mkF m 15 #[.val (.ref y0), .val (.int (0 : Int32))] [(.int (own_y (f 0) &&& (255 : Int32)))]))
    exact g_retN X463 hx hby hret hlk (by simp) own_d6_15 ⟨congrArg (fun z => some (Value.int z)) ((own_narc8 _).trans (own_chr_y (own_not255 (hr 0) (hle 0 (by decide))))), rfl⟩ (by decide) (by decide)
  · obtain ⟨v0, LE0, LV0, LC0, LA0⟩ := P0
    refine g_aloadN X0 hx hby own_d6_0 rfl rfl (pc' := 1) rfl ?_
    refine g_callV (argsL := []) (S := []) (a := y0) X0 hx hby hZ (y := (⟨"java/lang/String", "isLatin1", "()Z"⟩ : MethodName)) (y' := (⟨"java/lang/String", "isLatin1", "()Z"⟩ : MethodName)) hown (hw _ (List.mem_of_getElem? (i := 96) rfl)) (hw _ (List.mem_of_getElem? (i := 97) rfl)) (notFace_of_selects (args := #[]) (mvT hZ (hw _ (List.mem_of_getElem? (i := 99) rfl)))) (hw _ (List.mem_of_getElem? (i := 99) rfl)) (hw _ (List.mem_of_getElem? (i := 98) rfl)) (hw _ (List.mem_of_getElem? (i := 10) rfl)) (hw _ (List.mem_of_getElem? (i := 100) rfl)) (by decide) LE0 (own_ilU l Z a0 hw y0 h0 n0 _ f ⟨v0, LE0, LV0, LC0, LA0⟩ cs Sc hcs) (by rw [hml]; rfl) (lenOf own_pd3 rfl) rfl own_d6_1 (by decide) (W := 0) (by exact Nat.le_of_eq rfl) (by decide) (by decide) (by decide) (pc' := 4) rfl (fun T464 v464 X464 hQ464 => ?_)
    obtain ⟨rfl, e464⟩ := hQ464
    rw [e464] at X464
    show Gl p e below n0 _ _ (T464.setTop (mkF m 4 #[.val (.ref y0), .val (.int (0 : Int32))] [(.int (0 : Int32))]))
    refine g_if_eq X464 hx hby own_d6_4 (by decide) (pc' := 16) (by decide) (pc2 := 7) rfl (fun c4_465 => ?_) (fun q => absurd (by decide) q)
    refine g_aloadN X464 hx hby own_d6_16 rfl rfl (pc' := 17) rfl ?_
    refine g_getF X464 hx hby hZ hown (hw _ (List.mem_of_getElem? (i := 28) rfl)) Via.refl LV0 own_d6_17 (pc' := 20) rfl (fun T466 X466 => ?_)
    refine g_iloadN X466 hx hby own_d6_20 rfl (pc' := 21) rfl ?_
    refine g_callS (argsL := [(.ref v0), (.int (0 : Int32))]) (S := []) X466 hx hby hZ (y := (⟨"java/lang/StringUTF16", "charAt", "([BI)C"⟩ : MethodName)) hown (hw _ (List.mem_of_getElem? (i := 101) rfl)) (hw _ (List.mem_of_getElem? (i := 102) rfl)) (hw _ (List.mem_of_getElem? (i := 55) rfl)) (hw _ (List.mem_of_getElem? (i := 103) rfl)) (by decide) (own_uc_2_0 l Z a0 hw v0 h0 n0 f hr LA0 fm Sf hfm Sd Sh Sl) (by rw [hml]; rfl) (lenOf own_pd4 rfl) rfl own_d6_21 (by decide) (W := 0) (by exact Nat.le_of_eq rfl) (by decide) (by decide) (by decide) (pc' := 24) rfl (fun T467 v467 X467 hQ467 => ?_)
    obtain ⟨rfl, e467⟩ := hQ467
    rw [e467] at X467
    show Gl p e below n0 _ _ (T467.setTop (mkF m 24 #[.val (.ref y0), .val (.int (0 : Int32))] [(.int (f 0))]))
    exact g_retN X467 hx hby hret hlk (by simp) own_d6_24 ⟨congrArg (fun z => some (Value.int z)) (own_narC (hr 0)), rfl⟩ (by decide) (by decide)
set_option maxRecDepth 65536 in
set_option maxHeartbeats 40000000 in
theorem own_ef468 (m : MethodId) (y0 : Addr) (y1 : Int32)  : entryFrame m #[(.ref y0), (.int y1)] 2 = mkF m 0 #[.val (.ref y0), .val (.int y1)] [] := by first | (simp [entryFrame, mkF, argsToLocals, Value.category, maxLocals]; done) | rfl
set_option maxRecDepth 65536 in
set_option maxHeartbeats 40000000 in
theorem own_caS_2_1 (l : Launch) (Z : State) (a0 : Array Value) (hw : ∀ d ∈ tables_1, d.before a0 Z = true) (y0 : Addr) (h0 : Heap) (n0 : Nat) (f : Nat → Int32) (hr : ∀ i, 0 ≤ (f i).toInt ∧ (f i).toInt ≤ 65535) (P0 : Sg Z h0 y0 2 4 f) (cs : Int32) (Sc : Sta Z h0 "java/lang/String" "COMPACT_STRINGS" "Z" (.int cs)) (hcs : ¬ cs = 0) (fm : Value) (Sf : Sta Z h0 "jdk/internal/util/Preconditions" "SIOOBE_FORMATTER" "Ljava/util/function/BiFunction;" fm) (hfm : fm.isRef = true) (Sd : Sta Z h0 "java/lang/StringUTF16" "$assertionsDisabled" "Z" (.int 1)) (Sh : Sta Z h0 "java/lang/StringUTF16" "HI_BYTE_SHIFT" "I" (.int 0)) (Sl : Sta Z h0 "java/lang/StringUTF16" "LO_BYTE_SHIFT" "I" (.int 8)) :
    Ctr l Z (⟨"java/lang/String", "charAt", "(I)C"⟩ : MethodName) jdk_42_method_56_code 2 (some .char) [] (own_room 4 0 0 53) #[(.ref y0), (.int (1 : Int32))] h0 n0 0 0 (fun v h => v = some (.int (f 1)) ∧ h = h0) := by
  refine Ctr.of (plainFor_of_name own_pn0) ?_
  intro p e s m below meth c T0 hx hby hml hret hlk hnm hown hZ X0
  rw [own_ef468 m (y0) ((1 : Int32))]
  rcases P0 with ⟨P0, hle⟩ | P0
  · obtain ⟨v0, LE0, LV0, LC0, LA0⟩ := P0
    refine g_aloadN X0 hx hby own_d6_0 rfl rfl (pc' := 1) rfl ?_
    refine g_callV (argsL := []) (S := []) (a := y0) X0 hx hby hZ (y := (⟨"java/lang/String", "isLatin1", "()Z"⟩ : MethodName)) (y' := (⟨"java/lang/String", "isLatin1", "()Z"⟩ : MethodName)) hown (hw _ (List.mem_of_getElem? (i := 96) rfl)) (hw _ (List.mem_of_getElem? (i := 97) rfl)) (notFace_of_selects (args := #[]) (mvT hZ (hw _ (List.mem_of_getElem? (i := 99) rfl)))) (hw _ (List.mem_of_getElem? (i := 99) rfl)) (hw _ (List.mem_of_getElem? (i := 98) rfl)) (hw _ (List.mem_of_getElem? (i := 10) rfl)) (hw _ (List.mem_of_getElem? (i := 100) rfl)) (by decide) LE0 (own_il l Z a0 hw y0 h0 n0 2 (2 : Int32) (fun i => own_y (f i)) rfl ⟨v0, LE0, LV0, LC0, LA0⟩ cs Sc hcs ) (by rw [hml]; rfl) (lenOf own_pd3 rfl) rfl own_d6_1 (by decide) (W := 0) (by exact Nat.le_of_eq rfl) (by decide) (by decide) (by decide) (pc' := 4) rfl (fun T469 v469 X469 hQ469 => ?_)
    obtain ⟨rfl, e469⟩ := hQ469
    rw [e469] at X469
    show Gl p e below n0 _ _ (T469.setTop (mkF m 4 #[.val (.ref y0), .val (.int (1 : Int32))] [(.int (1 : Int32))]))
    refine g_if_eq X469 hx hby own_d6_4 (by decide) (pc' := 16) (by decide) (pc2 := 7) rfl (fun q => absurd q (by decide)) (fun c4_470 => ?_)
    refine g_aloadN X469 hx hby own_d6_7 rfl rfl (pc' := 8) rfl ?_
    refine g_getF X469 hx hby hZ hown (hw _ (List.mem_of_getElem? (i := 28) rfl)) Via.refl LV0 own_d6_8 (pc' := 11) rfl (fun T471 X471 => ?_)
    refine g_iloadN X471 hx hby own_d6_11 rfl (pc' := 12) rfl ?_
    refine g_callS (argsL := [(.ref v0), (.int (1 : Int32))]) (S := []) X471 hx hby hZ (y := (⟨"java/lang/StringLatin1", "charAt", "([BI)C"⟩ : MethodName)) hown (hw _ (List.mem_of_getElem? (i := 123) rfl)) (hw _ (List.mem_of_getElem? (i := 124) rfl)) (hw _ (List.mem_of_getElem? (i := 125) rfl)) (hw _ (List.mem_of_getElem? (i := 126) rfl)) (by decide) (own_la l Z a0 hw v0 (1 : Int32) h0 n0 2 2 (fun i => own_y (f i)) rfl LA0 1 rfl (by decide) fm Sf hfm) (by rw [hml]; rfl) (lenOf own_pd4 rfl) rfl own_d6_12 (by decide) (W := 0) (by exact Nat.le_of_eq rfl) (by decide) (by decide) (by decide) (pc' := 15) rfl (fun T472 v472 X472 hQ472 => ?_)
    obtain ⟨rfl, e472⟩ := hQ472
    rw [e472] at X472
    show Gl p e below n0 _ _ (T472.setTop (mkF m 15 #[.val (.ref y0), .val (.int (1 : Int32))] [(.int (own_y (f 1) &&& (255 : Int32)))]))
    exact g_retN X472 hx hby hret hlk (by simp) own_d6_15 ⟨congrArg (fun z => some (Value.int z)) ((own_narc8 _).trans (own_chr_y (own_not255 (hr 1) (hle 1 (by decide))))), rfl⟩ (by decide) (by decide)
  · obtain ⟨v0, LE0, LV0, LC0, LA0⟩ := P0
    refine g_aloadN X0 hx hby own_d6_0 rfl rfl (pc' := 1) rfl ?_
    refine g_callV (argsL := []) (S := []) (a := y0) X0 hx hby hZ (y := (⟨"java/lang/String", "isLatin1", "()Z"⟩ : MethodName)) (y' := (⟨"java/lang/String", "isLatin1", "()Z"⟩ : MethodName)) hown (hw _ (List.mem_of_getElem? (i := 96) rfl)) (hw _ (List.mem_of_getElem? (i := 97) rfl)) (notFace_of_selects (args := #[]) (mvT hZ (hw _ (List.mem_of_getElem? (i := 99) rfl)))) (hw _ (List.mem_of_getElem? (i := 99) rfl)) (hw _ (List.mem_of_getElem? (i := 98) rfl)) (hw _ (List.mem_of_getElem? (i := 10) rfl)) (hw _ (List.mem_of_getElem? (i := 100) rfl)) (by decide) LE0 (own_ilU l Z a0 hw y0 h0 n0 _ f ⟨v0, LE0, LV0, LC0, LA0⟩ cs Sc hcs) (by rw [hml]; rfl) (lenOf own_pd3 rfl) rfl own_d6_1 (by decide) (W := 0) (by exact Nat.le_of_eq rfl) (by decide) (by decide) (by decide) (pc' := 4) rfl (fun T473 v473 X473 hQ473 => ?_)
    obtain ⟨rfl, e473⟩ := hQ473
    rw [e473] at X473
    show Gl p e below n0 _ _ (T473.setTop (mkF m 4 #[.val (.ref y0), .val (.int (1 : Int32))] [(.int (0 : Int32))]))
    refine g_if_eq X473 hx hby own_d6_4 (by decide) (pc' := 16) (by decide) (pc2 := 7) rfl (fun c4_474 => ?_) (fun q => absurd (by decide) q)
    refine g_aloadN X473 hx hby own_d6_16 rfl rfl (pc' := 17) rfl ?_
    refine g_getF X473 hx hby hZ hown (hw _ (List.mem_of_getElem? (i := 28) rfl)) Via.refl LV0 own_d6_17 (pc' := 20) rfl (fun T475 X475 => ?_)
    refine g_iloadN X475 hx hby own_d6_20 rfl (pc' := 21) rfl ?_
    refine g_callS (argsL := [(.ref v0), (.int (1 : Int32))]) (S := []) X475 hx hby hZ (y := (⟨"java/lang/StringUTF16", "charAt", "([BI)C"⟩ : MethodName)) hown (hw _ (List.mem_of_getElem? (i := 101) rfl)) (hw _ (List.mem_of_getElem? (i := 102) rfl)) (hw _ (List.mem_of_getElem? (i := 55) rfl)) (hw _ (List.mem_of_getElem? (i := 103) rfl)) (by decide) (own_uc_2_1 l Z a0 hw v0 h0 n0 f hr LA0 fm Sf hfm Sd Sh Sl) (by rw [hml]; rfl) (lenOf own_pd4 rfl) rfl own_d6_21 (by decide) (W := 0) (by exact Nat.le_of_eq rfl) (by decide) (by decide) (by decide) (pc' := 24) rfl (fun T476 v476 X476 hQ476 => ?_)
    obtain ⟨rfl, e476⟩ := hQ476
    rw [e476] at X476
    show Gl p e below n0 _ _ (T476.setTop (mkF m 24 #[.val (.ref y0), .val (.int (1 : Int32))] [(.int (f 1))]))
    exact g_retN X476 hx hby hret hlk (by simp) own_d6_24 ⟨congrArg (fun z => some (Value.int z)) (own_narC (hr 1)), rfl⟩ (by decide) (by decide)
set_option maxRecDepth 65536 in
set_option maxHeartbeats 40000000 in
theorem own_ef477 (m : MethodId) (y0 : Int32)  : entryFrame m #[(.int y0)] 2 = mkF m 0 #[.val (.int y0), .unset] [] := by first | (simp [entryFrame, mkF, argsToLocals, Value.category, maxLocals]; done) | rfl
theorem own_pn4 : plainName "com/example/urutan/urutan/build/CodePointOrder" = true := by first | (simp [plainName, overriddenIn]; done) | decide +kernel
theorem own_d21_0 : decode prog_2_method_3_code 0 = .ok (.iload_n 0, 1) := by decide +kernel
theorem own_d21_1 : decode prog_2_method_3_code 1 = .ok (.istore_n 1, 1) := by decide +kernel
theorem own_d21_2 : decode prog_2_method_3_code 2 = .ok (.iload_n 0, 1) := by decide +kernel
theorem own_d21_3 : decode prog_2_method_3_code 3 = .ok (.ldc 29, 2) := by decide +kernel
theorem own_d21_5 : decode prog_2_method_3_code 5 = .ok (.if_icmp .lt 12, 3) := by decide +kernel
theorem own_d21_17 : decode prog_2_method_3_code 17 = .ok (.iload_n 0, 1) := by decide +kernel
theorem own_d21_18 : decode prog_2_method_3_code 18 = .ok (.ldc 30, 2) := by decide +kernel
theorem own_d21_20 : decode prog_2_method_3_code 20 = .ok (.if_icmp .lt 9, 3) := by decide +kernel
theorem own_d21_29 : decode prog_2_method_3_code 29 = .ok (.iload_n 1, 1) := by decide +kernel
theorem own_d21_30 : decode prog_2_method_3_code 30 = .ok (.ireturn, 1) := by decide +kernel
theorem own_d21_23 : decode prog_2_method_3_code 23 = .ok (.iload_n 0, 1) := by decide +kernel
theorem own_d21_24 : decode prog_2_method_3_code 24 = .ok (.sipush 8192, 3) := by decide +kernel
theorem own_d21_27 : decode prog_2_method_3_code 27 = .ok (.iadd, 1) := by decide +kernel
theorem own_d21_28 : decode prog_2_method_3_code 28 = .ok (.istore_n 1, 1) := by decide +kernel
theorem own_d21_8 : decode prog_2_method_3_code 8 = .ok (.iload_n 0, 1) := by decide +kernel
theorem own_d21_9 : decode prog_2_method_3_code 9 = .ok (.sipush 2048, 3) := by decide +kernel
theorem own_d21_12 : decode prog_2_method_3_code 12 = .ok (.isub, 1) := by decide +kernel
theorem own_d21_13 : decode prog_2_method_3_code 13 = .ok (.istore_n 1, 1) := by decide +kernel
theorem own_d21_14 : decode prog_2_method_3_code 14 = .ok (.goto 15, 3) := by decide +kernel
set_option maxRecDepth 65536 in
set_option maxHeartbeats 40000000 in
theorem own_plc (l : Launch) (Z : State) (a0 : Array Value) (hw : ∀ d ∈ tables_1, d.before a0 Z = true) (y0 : Int32) (h0 : Heap) (n0 : Nat)  :
    Ctr l Z (⟨"com/example/urutan/urutan/build/CodePointOrder", "place", "(C)I"⟩ : MethodName) prog_2_method_3_code 2 (some .int) [] (own_room 0 0 0 0) #[(.int y0)] h0 n0 0 0 (fun v h => v = some (.int (own_pl y0)) ∧ h = h0) := by
  refine Ctr.of (plainFor_of_name own_pn4) ?_
  intro p e s m below meth c T0 hx hby hml hret hlk hnm hown hZ X0
  rw [own_ef477 m (y0)]
  refine g_iloadN X0 hx hby own_d21_0 rfl (pc' := 1) rfl ?_
  refine g_istoreN (L' := #[.val (.int y0), .val (.int y0)]) X0 hx hby own_d21_1 rfl (pc' := 2) rfl ?_
  refine g_iloadN X0 hx hby own_d21_2 rfl (pc' := 3) rfl ?_
  refine g_ldc X0 hx hby hZ hown (hw _ (List.mem_of_getElem? (i := 121) rfl)) own_d21_3 (pc' := 5) rfl ?_
  refine g_icmp_lt X0 hx hby own_d21_5 (by decide) (pc' := 17) (by decide) (pc2 := 8) rfl (fun c5_478 => ?_) (fun c5_478 => ?_)
  · refine g_iloadN X0 hx hby own_d21_17 rfl (pc' := 18) rfl ?_
    refine g_ldc X0 hx hby hZ hown (hw _ (List.mem_of_getElem? (i := 122) rfl)) own_d21_18 (pc' := 20) rfl ?_
    refine g_icmp_lt X0 hx hby own_d21_20 (by decide) (pc' := 29) (by decide) (pc2 := 23) rfl (fun c20_479 => ?_) (fun c20_479 => ?_)
    · refine g_iloadN X0 hx hby own_d21_29 rfl (pc' := 30) rfl ?_
      exact g_retI X0 hx hby hret hlk own_d21_30 ⟨congrArg (fun z => some (Value.int z)) (show y0 = own_pl y0 by simp only [own_pl, if_pos c5_478, if_pos c20_479]), rfl⟩ (by decide) (by decide)
    · refine g_iloadN X0 hx hby own_d21_23 rfl (pc' := 24) rfl ?_
      refine g_sipush (v := 8192) X0 hx hby own_d21_24 rfl (pc' := 27) rfl ?_
      refine g_iadd X0 hx hby own_d21_27 (pc' := 28) rfl ?_
      refine g_istoreN (L' := #[.val (.int y0), .val (.int (y0 + (8192 : Int32)))]) X0 hx hby own_d21_28 rfl (pc' := 29) rfl ?_
      refine g_iloadN X0 hx hby own_d21_29 rfl (pc' := 30) rfl ?_
      exact g_retI X0 hx hby hret hlk own_d21_30 ⟨congrArg (fun z => some (Value.int z)) (show (y0 + (8192 : Int32)) = own_pl y0 by simp only [own_pl, if_pos c5_478, if_neg c20_479]), rfl⟩ (by decide) (by decide)
  · refine g_iloadN X0 hx hby own_d21_8 rfl (pc' := 9) rfl ?_
    refine g_sipush (v := 2048) X0 hx hby own_d21_9 rfl (pc' := 12) rfl ?_
    refine g_isub X0 hx hby own_d21_12 (pc' := 13) rfl ?_
    refine g_istoreN (L' := #[.val (.int y0), .val (.int (y0 - (2048 : Int32)))]) X0 hx hby own_d21_13 rfl (pc' := 14) rfl ?_
    refine g_goto X0 hx hby own_d21_14 (by decide) (pc' := 29) (by decide) ?_
    refine g_iloadN X0 hx hby own_d21_29 rfl (pc' := 30) rfl ?_
    exact g_retI X0 hx hby hret hlk own_d21_30 ⟨congrArg (fun z => some (Value.int z)) (show (y0 - (2048 : Int32)) = own_pl y0 by simp only [own_pl, if_neg c5_478]), rfl⟩ (by decide) (by decide)
set_option maxRecDepth 65536 in
set_option maxHeartbeats 40000000 in
theorem own_ef480 (m : MethodId) (y0 : Int32)  : entryFrame m #[(.int y0)] 1 = mkF m 0 #[.val (.int y0)] [] := by first | (simp [entryFrame, mkF, argsToLocals, Value.category, maxLocals]; done) | rfl
theorem own_pn5 : plainName "com/example/urutan/urutan/build/CodePointOrderComparePinLaw" = true := by first | (simp [plainName, overriddenIn]; done) | decide +kernel
theorem own_d22_0 : decode method_7_code 0 = .ok (.iload_n 0, 1) := by decide +kernel
theorem own_d22_1 : decode method_7_code 1 = .ok (.ifCond .ge 5, 3) := by decide +kernel
theorem own_d22_6 : decode method_7_code 6 = .ok (.iload_n 0, 1) := by decide +kernel
theorem own_d22_7 : decode method_7_code 7 = .ok (.ifCond .le 5, 3) := by decide +kernel
theorem own_d22_12 : decode method_7_code 12 = .ok (.iconst 0, 1) := by decide +kernel
theorem own_d22_13 : decode method_7_code 13 = .ok (.ireturn, 1) := by decide +kernel
theorem own_d22_10 : decode method_7_code 10 = .ok (.iconst 1, 1) := by decide +kernel
theorem own_d22_11 : decode method_7_code 11 = .ok (.ireturn, 1) := by decide +kernel
theorem own_d22_4 : decode method_7_code 4 = .ok (.iconst (-1), 1) := by decide +kernel
theorem own_d22_5 : decode method_7_code 5 = .ok (.ireturn, 1) := by decide +kernel
set_option maxRecDepth 65536 in
set_option maxHeartbeats 40000000 in
theorem own_sgc (l : Launch) (Z : State) (a0 : Array Value) (hw : ∀ d ∈ tables_1, d.before a0 Z = true) (y0 : Int32) (h0 : Heap) (n0 : Nat)  :
    Ctr l Z (⟨"com/example/urutan/urutan/build/CodePointOrderComparePinLaw", "sign", "(I)I"⟩ : MethodName) method_7_code 1 (some .int) [] (own_room 0 0 0 0) #[(.int y0)] h0 n0 0 0 (fun v h => v = some (.int (own_sg y0)) ∧ h = h0) := by
  refine Ctr.of (plainFor_of_name own_pn5) ?_
  intro p e s m below meth c T0 hx hby hml hret hlk hnm hown hZ X0
  rw [own_ef480 m (y0)]
  refine g_iloadN X0 hx hby own_d22_0 rfl (pc' := 1) rfl ?_
  refine g_if_ge X0 hx hby own_d22_1 (by decide) (pc' := 6) (by decide) (pc2 := 4) rfl (fun c1_481 => ?_) (fun c1_481 => ?_)
  · refine g_iloadN X0 hx hby own_d22_6 rfl (pc' := 7) rfl ?_
    refine g_if_le X0 hx hby own_d22_7 (by decide) (pc' := 12) (by decide) (pc2 := 10) rfl (fun c7_482 => ?_) (fun c7_482 => ?_)
    · refine g_iconst (v := 0) X0 hx hby own_d22_12 rfl (pc' := 13) rfl ?_
      exact g_retI X0 hx hby hret hlk own_d22_13 ⟨congrArg (fun z => some (Value.int z)) (show (0 : Int32) = own_sg y0 by simp only [own_sg, if_neg c1_481, if_neg c7_482]), rfl⟩ (by decide) (by decide)
    · refine g_iconst (v := 1) X0 hx hby own_d22_10 rfl (pc' := 11) rfl ?_
      exact g_retI X0 hx hby hret hlk own_d22_11 ⟨congrArg (fun z => some (Value.int z)) (show (1 : Int32) = own_sg y0 by simp only [own_sg, if_neg c1_481, if_pos c7_482]), rfl⟩ (by decide) (by decide)
  · refine g_iconst (v := (-1)) X0 hx hby own_d22_4 rfl (pc' := 5) rfl ?_
    exact g_retI X0 hx hby hret hlk own_d22_5 ⟨congrArg (fun z => some (Value.int z)) (show (-1 : Int32) = own_sg y0 by simp only [own_sg, if_pos c1_481]), rfl⟩ (by decide) (by decide)
set_option maxRecDepth 65536 in
set_option maxHeartbeats 40000000 in
theorem own_ef483 (m : MethodId) (y0 : Int32)  : entryFrame m #[(.int y0)] 1 = mkF m 0 #[.val (.int y0)] [] := by first | (simp [entryFrame, mkF, argsToLocals, Value.category, maxLocals]; done) | rfl
theorem own_d23_0 : decode method_5_code 0 = .ok (.iload_n 0, 1) := by decide +kernel
theorem own_d23_1 : decode method_5_code 1 = .ok (.ldc 38, 2) := by decide +kernel
theorem own_d23_3 : decode method_5_code 3 = .ok (.if_icmp .ge 5, 3) := by decide +kernel
theorem own_d23_8 : decode method_5_code 8 = .ok (.iload_n 0, 1) := by decide +kernel
theorem own_d23_9 : decode method_5_code 9 = .ok (.ldc 39, 2) := by decide +kernel
theorem own_d23_11 : decode method_5_code 11 = .ok (.if_icmp .ge 5, 3) := by decide +kernel
theorem own_d23_16 : decode method_5_code 16 = .ok (.iconst 1, 1) := by decide +kernel
theorem own_d23_17 : decode method_5_code 17 = .ok (.ireturn, 1) := by decide +kernel
theorem own_d23_14 : decode method_5_code 14 = .ok (.iconst 2, 1) := by decide +kernel
theorem own_d23_15 : decode method_5_code 15 = .ok (.ireturn, 1) := by decide +kernel
theorem own_d23_6 : decode method_5_code 6 = .ok (.iconst 0, 1) := by decide +kernel
theorem own_d23_7 : decode method_5_code 7 = .ok (.ireturn, 1) := by decide +kernel
set_option maxRecDepth 65536 in
set_option maxHeartbeats 40000000 in
theorem own_rkc (l : Launch) (Z : State) (a0 : Array Value) (hw : ∀ d ∈ tables_1, d.before a0 Z = true) (y0 : Int32) (h0 : Heap) (n0 : Nat)  :
    Ctr l Z (⟨"com/example/urutan/urutan/build/CodePointOrderComparePinLaw", "rank", "(C)I"⟩ : MethodName) method_5_code 1 (some .int) [] (own_room 0 0 0 0) #[(.int y0)] h0 n0 0 0 (fun v h => v = some (.int (own_rk y0)) ∧ h = h0) := by
  refine Ctr.of (plainFor_of_name own_pn5) ?_
  intro p e s m below meth c T0 hx hby hml hret hlk hnm hown hZ X0
  rw [own_ef483 m (y0)]
  refine g_iloadN X0 hx hby own_d23_0 rfl (pc' := 1) rfl ?_
  refine g_ldc X0 hx hby hZ hown (hw _ (List.mem_of_getElem? (i := 64) rfl)) own_d23_1 (pc' := 3) rfl ?_
  refine g_icmp_ge X0 hx hby own_d23_3 (by decide) (pc' := 8) (by decide) (pc2 := 6) rfl (fun c3_484 => ?_) (fun c3_484 => ?_)
  · refine g_iloadN X0 hx hby own_d23_8 rfl (pc' := 9) rfl ?_
    refine g_ldc X0 hx hby hZ hown (hw _ (List.mem_of_getElem? (i := 63) rfl)) own_d23_9 (pc' := 11) rfl ?_
    refine g_icmp_ge X0 hx hby own_d23_11 (by decide) (pc' := 16) (by decide) (pc2 := 14) rfl (fun c11_485 => ?_) (fun c11_485 => ?_)
    · refine g_iconst (v := 1) X0 hx hby own_d23_16 rfl (pc' := 17) rfl ?_
      exact g_retI X0 hx hby hret hlk own_d23_17 ⟨congrArg (fun z => some (Value.int z)) (show (1 : Int32) = own_rk y0 by simp only [own_rk, if_neg c3_484, if_neg c11_485]), rfl⟩ (by decide) (by decide)
    · refine g_iconst (v := 2) X0 hx hby own_d23_14 rfl (pc' := 15) rfl ?_
      exact g_retI X0 hx hby hret hlk own_d23_15 ⟨congrArg (fun z => some (Value.int z)) (show (2 : Int32) = own_rk y0 by simp only [own_rk, if_neg c3_484, if_pos c11_485]), rfl⟩ (by decide) (by decide)
  · refine g_iconst (v := 0) X0 hx hby own_d23_6 rfl (pc' := 7) rfl ?_
    exact g_retI X0 hx hby hret hlk own_d23_7 ⟨congrArg (fun z => some (Value.int z)) (show (0 : Int32) = own_rk y0 by simp only [own_rk, if_pos c3_484]), rfl⟩ (by decide) (by decide)
set_option maxRecDepth 65536 in
set_option maxHeartbeats 40000000 in
theorem own_ef486 (m : MethodId) (y0 : Int32) (y1 : Int32)  : entryFrame m #[(.int y0), (.int y1)] 4 = mkF m 0 #[.val (.int y0), .val (.int y1), .unset, .unset] [] := by first | (simp [entryFrame, mkF, argsToLocals, Value.category, maxLocals]; done) | rfl
theorem own_d24_0 : decode method_6_code 0 = .ok (.iload_n 0, 1) := by decide +kernel
theorem own_d24_1 : decode method_6_code 1 = .ok (.invokestatic 46, 3) := by decide +kernel
theorem own_pd14 : parseMethodDescriptor "(C)I" = some ⟨[.char], (some .int)⟩ := by decide +kernel
theorem own_d24_4 : decode method_6_code 4 = .ok (.istore_n 2, 1) := by decide +kernel
theorem own_d24_5 : decode method_6_code 5 = .ok (.iload_n 1, 1) := by decide +kernel
theorem own_d24_6 : decode method_6_code 6 = .ok (.invokestatic 46, 3) := by decide +kernel
theorem own_d24_9 : decode method_6_code 9 = .ok (.istore_n 3, 1) := by decide +kernel
theorem own_d24_10 : decode method_6_code 10 = .ok (.iload_n 2, 1) := by decide +kernel
theorem own_d24_11 : decode method_6_code 11 = .ok (.iload_n 3, 1) := by decide +kernel
theorem own_d24_12 : decode method_6_code 12 = .ok (.if_icmp .eq 10, 3) := by decide +kernel
theorem own_d24_22 : decode method_6_code 22 = .ok (.iload_n 0, 1) := by decide +kernel
theorem own_d24_23 : decode method_6_code 23 = .ok (.iload_n 1, 1) := by decide +kernel
theorem own_d24_24 : decode method_6_code 24 = .ok (.isub, 1) := by decide +kernel
theorem own_d24_25 : decode method_6_code 25 = .ok (.invokestatic 27, 3) := by decide +kernel
theorem own_d24_28 : decode method_6_code 28 = .ok (.ireturn, 1) := by decide +kernel
theorem own_d24_15 : decode method_6_code 15 = .ok (.iload_n 2, 1) := by decide +kernel
theorem own_d24_16 : decode method_6_code 16 = .ok (.iload_n 3, 1) := by decide +kernel
theorem own_d24_17 : decode method_6_code 17 = .ok (.isub, 1) := by decide +kernel
theorem own_d24_18 : decode method_6_code 18 = .ok (.invokestatic 27, 3) := by decide +kernel
theorem own_d24_21 : decode method_6_code 21 = .ok (.ireturn, 1) := by decide +kernel
set_option maxRecDepth 65536 in
set_option maxHeartbeats 40000000 in
theorem own_uoc (l : Launch) (Z : State) (a0 : Array Value) (hw : ∀ d ∈ tables_1, d.before a0 Z = true) (y0 y1 : Int32) (h0 : Heap) (n0 : Nat)  :
    Ctr l Z (⟨"com/example/urutan/urutan/build/CodePointOrderComparePinLaw", "unitOrder", "(CC)I"⟩ : MethodName) method_6_code 4 (some .int) [] (own_room 1 0 0 12) #[(.int y0), (.int y1)] h0 n0 0 0 (fun v h => v = some (.int (own_uo y0 y1)) ∧ h = h0) := by
  refine Ctr.of (plainFor_of_name own_pn5) ?_
  intro p e s m below meth c T0 hx hby hml hret hlk hnm hown hZ X0
  rw [own_ef486 m (y0) (y1)]
  refine g_iloadN X0 hx hby own_d24_0 rfl (pc' := 1) rfl ?_
  refine g_callS (argsL := [(.int y0)]) (S := []) X0 hx hby hZ (y := (⟨"com/example/urutan/urutan/build/CodePointOrderComparePinLaw", "rank", "(C)I"⟩ : MethodName)) hown (hw _ (List.mem_of_getElem? (i := 88) rfl)) (hw _ (List.mem_of_getElem? (i := 89) rfl)) (hw _ (List.mem_of_getElem? (i := 2) rfl)) (hw _ (List.mem_of_getElem? (i := 90) rfl)) (by decide) (own_rkc l Z a0 hw (y0) h0 n0) (by rw [hml]; rfl) (lenOf own_pd14 rfl) rfl own_d24_1 (by decide) (W := 0) (by exact Nat.le_of_eq rfl) (by decide) (by decide) (by decide) (pc' := 4) rfl (fun T487 v487 X487 hQ487 => ?_)
  obtain ⟨rfl, e487⟩ := hQ487
  rw [e487] at X487
  show Gl p e below n0 _ _ (T487.setTop (mkF m 4 #[.val (.int y0), .val (.int y1), .unset, .unset] [(.int (own_rk y0))]))
  refine g_istoreN (L' := #[.val (.int y0), .val (.int y1), .val (.int (own_rk y0)), .unset]) X487 hx hby own_d24_4 rfl (pc' := 5) rfl ?_
  refine g_iloadN X487 hx hby own_d24_5 rfl (pc' := 6) rfl ?_
  refine g_callS (argsL := [(.int y1)]) (S := []) X487 hx hby hZ (y := (⟨"com/example/urutan/urutan/build/CodePointOrderComparePinLaw", "rank", "(C)I"⟩ : MethodName)) hown (hw _ (List.mem_of_getElem? (i := 88) rfl)) (hw _ (List.mem_of_getElem? (i := 89) rfl)) (hw _ (List.mem_of_getElem? (i := 2) rfl)) (hw _ (List.mem_of_getElem? (i := 90) rfl)) (by decide) (own_rkc l Z a0 hw (y1) h0 n0) (by rw [hml]; rfl) (lenOf own_pd14 rfl) rfl own_d24_6 (by decide) (W := 0) (by exact Nat.le_of_eq rfl) (by decide) (by decide) (by decide) (pc' := 9) rfl (fun T488 v488 X488 hQ488 => ?_)
  obtain ⟨rfl, e488⟩ := hQ488
  rw [e488] at X488
  show Gl p e below n0 _ _ (T488.setTop (mkF m 9 #[.val (.int y0), .val (.int y1), .val (.int (own_rk y0)), .unset] [(.int (own_rk y1))]))
  refine g_istoreN (L' := #[.val (.int y0), .val (.int y1), .val (.int (own_rk y0)), .val (.int (own_rk y1))]) X488 hx hby own_d24_9 rfl (pc' := 10) rfl ?_
  refine g_iloadN X488 hx hby own_d24_10 rfl (pc' := 11) rfl ?_
  refine g_iloadN X488 hx hby own_d24_11 rfl (pc' := 12) rfl ?_
  refine g_icmp_eq X488 hx hby own_d24_12 (by decide) (pc' := 22) (by decide) (pc2 := 15) rfl (fun c12_489 => ?_) (fun c12_489 => ?_)
  · refine g_iloadN X488 hx hby own_d24_22 rfl (pc' := 23) rfl ?_
    refine g_iloadN X488 hx hby own_d24_23 rfl (pc' := 24) rfl ?_
    refine g_isub X488 hx hby own_d24_24 (pc' := 25) rfl ?_
    refine g_callS (argsL := [(.int (y0 - y1))]) (S := []) X488 hx hby hZ (y := (⟨"com/example/urutan/urutan/build/CodePointOrderComparePinLaw", "sign", "(I)I"⟩ : MethodName)) hown (hw _ (List.mem_of_getElem? (i := 34) rfl)) (hw _ (List.mem_of_getElem? (i := 35) rfl)) (hw _ (List.mem_of_getElem? (i := 2) rfl)) (hw _ (List.mem_of_getElem? (i := 36) rfl)) (by decide) (own_sgc l Z a0 hw ((y0 - y1)) h0 n0) (by rw [hml]; rfl) (lenOf own_pd5 rfl) rfl own_d24_25 (by decide) (W := 0) (by exact Nat.le_of_eq rfl) (by decide) (by decide) (by decide) (pc' := 28) rfl (fun T490 v490 X490 hQ490 => ?_)
    obtain ⟨rfl, e490⟩ := hQ490
    rw [e490] at X490
    show Gl p e below n0 _ _ (T490.setTop (mkF m 28 #[.val (.int y0), .val (.int y1), .val (.int (own_rk y0)), .val (.int (own_rk y1))] [(.int (own_sg (y0 - y1)))]))
    exact g_retI X490 hx hby hret hlk own_d24_28 ⟨congrArg (fun z => some (Value.int z)) (show (own_sg (y0 - y1)) = own_uo y0 y1 by simp only [own_uo, if_pos c12_489]), rfl⟩ (by decide) (by decide)
  · refine g_iloadN X488 hx hby own_d24_15 rfl (pc' := 16) rfl ?_
    refine g_iloadN X488 hx hby own_d24_16 rfl (pc' := 17) rfl ?_
    refine g_isub X488 hx hby own_d24_17 (pc' := 18) rfl ?_
    refine g_callS (argsL := [(.int ((own_rk y0) - (own_rk y1)))]) (S := []) X488 hx hby hZ (y := (⟨"com/example/urutan/urutan/build/CodePointOrderComparePinLaw", "sign", "(I)I"⟩ : MethodName)) hown (hw _ (List.mem_of_getElem? (i := 34) rfl)) (hw _ (List.mem_of_getElem? (i := 35) rfl)) (hw _ (List.mem_of_getElem? (i := 2) rfl)) (hw _ (List.mem_of_getElem? (i := 36) rfl)) (by decide) (own_sgc l Z a0 hw (((own_rk y0) - (own_rk y1))) h0 n0) (by rw [hml]; rfl) (lenOf own_pd5 rfl) rfl own_d24_18 (by decide) (W := 0) (by exact Nat.le_of_eq rfl) (by decide) (by decide) (by decide) (pc' := 21) rfl (fun T491 v491 X491 hQ491 => ?_)
    obtain ⟨rfl, e491⟩ := hQ491
    rw [e491] at X491
    show Gl p e below n0 _ _ (T491.setTop (mkF m 21 #[.val (.int y0), .val (.int y1), .val (.int (own_rk y0)), .val (.int (own_rk y1))] [(.int (own_sg ((own_rk y0) - (own_rk y1))))]))
    exact g_retI X491 hx hby hret hlk own_d24_21 ⟨congrArg (fun z => some (Value.int z)) (show (own_sg ((own_rk y0) - (own_rk y1))) = own_uo y0 y1 by simp only [own_uo, if_neg c12_489]), rfl⟩ (by decide) (by decide)
set_option maxRecDepth 65536 in
set_option maxHeartbeats 40000000 in
theorem own_ef492 (m : MethodId) (y0 : Addr) (y1 : Addr)  : entryFrame m #[(.ref y0), (.ref y1)] 6 = mkF m 0 #[.val (.ref y0), .val (.ref y1), .unset, .unset, .unset, .unset] [] := by first | (simp [entryFrame, mkF, argsToLocals, Value.category, maxLocals]; done) | rfl
theorem own_d25_0 : decode prog_2_method_2_code 0 = .ok (.aload_n 0, 1) := by decide +kernel
theorem own_d25_1 : decode prog_2_method_2_code 1 = .ok (.invokevirtual 7, 3) := by decide +kernel
theorem own_pd15 : parseMethodDescriptor "()I" = some ⟨[], (some .int)⟩ := by decide +kernel
theorem own_d25_4 : decode prog_2_method_2_code 4 = .ok (.aload_n 1, 1) := by decide +kernel
theorem own_d25_5 : decode prog_2_method_2_code 5 = .ok (.invokevirtual 7, 3) := by decide +kernel
theorem own_d25_8 : decode prog_2_method_2_code 8 = .ok (.invokestatic 13, 3) := by decide +kernel
theorem own_pd16 : parseMethodDescriptor "(II)I" = some ⟨[.int, .int], (some .int)⟩ := by decide +kernel
theorem own_d25_11 : decode prog_2_method_2_code 11 = .ok (.istore_n 2, 1) := by decide +kernel
theorem own_d25_12 : decode prog_2_method_2_code 12 = .ok (.iconst 0, 1) := by decide +kernel
theorem own_d25_13 : decode prog_2_method_2_code 13 = .ok (.istore_n 3, 1) := by decide +kernel
theorem own_d25_14 : decode prog_2_method_2_code 14 = .ok (.iload_n 3, 1) := by decide +kernel
theorem own_d25_15 : decode prog_2_method_2_code 15 = .ok (.iload_n 2, 1) := by decide +kernel
theorem own_d25_16 : decode prog_2_method_2_code 16 = .ok (.if_icmp .ge 42, 3) := by decide +kernel
theorem own_d25_58 : decode prog_2_method_2_code 58 = .ok (.aload_n 0, 1) := by decide +kernel
theorem own_d25_59 : decode prog_2_method_2_code 59 = .ok (.invokevirtual 7, 3) := by decide +kernel
theorem own_d25_62 : decode prog_2_method_2_code 62 = .ok (.aload_n 1, 1) := by decide +kernel
theorem own_d25_63 : decode prog_2_method_2_code 63 = .ok (.invokevirtual 7, 3) := by decide +kernel
theorem own_d25_66 : decode prog_2_method_2_code 66 = .ok (.isub, 1) := by decide +kernel
theorem own_d25_67 : decode prog_2_method_2_code 67 = .ok (.ireturn, 1) := by decide +kernel
set_option maxRecDepth 65536 in
set_option maxHeartbeats 40000000 in
theorem own_cm_0_0 (l : Launch) (Z : State) (a0 : Array Value) (hw : ∀ d ∈ tables_1, d.before a0 Z = true) (y0 y1 : Addr) (h0 : Heap) (n0 : Nat) (f g : Nat → Int32) (hrf : ∀ i, 0 ≤ (f i).toInt ∧ (f i).toInt ≤ 65535) (hrg : ∀ i, 0 ≤ (g i).toInt ∧ (g i).toInt ≤ 65535) (Pa : Sg Z h0 y0 0 0 f) (Pb : Sg Z h0 y1 0 0 g) (cs : Int32) (Sc : Sta Z h0 "java/lang/String" "COMPACT_STRINGS" "Z" (.int cs)) (hcs : ¬ cs = 0) (fm : Value) (Sf : Sta Z h0 "jdk/internal/util/Preconditions" "SIOOBE_FORMATTER" "Ljava/util/function/BiFunction;" fm) (hfm : fm.isRef = true) (Sd : Sta Z h0 "java/lang/StringUTF16" "$assertionsDisabled" "Z" (.int 1)) (Sh : Sta Z h0 "java/lang/StringUTF16" "HI_BYTE_SHIFT" "I" (.int 0)) (Sl : Sta Z h0 "java/lang/StringUTF16" "LO_BYTE_SHIFT" "I" (.int 8)) :
    Ctr l Z (⟨"com/example/urutan/urutan/build/CodePointOrder", "compare", "(Ljava/lang/String;Ljava/lang/String;)I"⟩ : MethodName) prog_2_method_2_code 6 (some .int) [] (own_room 5 0 0 66) #[(.ref y0), (.ref y1)] h0 n0 0 0 (fun v h => v = some (.int (own_cv0 f g ((0 : Int32) - (0 : Int32)))) ∧ h = h0) := by
  refine Ctr.of (plainFor_of_name own_pn4) ?_
  intro p e s m below meth c T0 hx hby hml hret hlk hnm hown hZ X0
  rw [own_ef492 m (y0) (y1)]
  refine g_aloadN X0 hx hby own_d25_0 rfl rfl (pc' := 1) rfl ?_
  refine g_callV (argsL := []) (S := []) (a := y0) X0 hx hby hZ (y := (⟨"java/lang/String", "length", "()I"⟩ : MethodName)) (y' := (⟨"java/lang/String", "length", "()I"⟩ : MethodName)) hown (hw _ (List.mem_of_getElem? (i := 41) rfl)) (hw _ (List.mem_of_getElem? (i := 42) rfl)) (notFace_of_selects (args := #[]) (mvT hZ (hw _ (List.mem_of_getElem? (i := 44) rfl)))) (hw _ (List.mem_of_getElem? (i := 44) rfl)) (hw _ (List.mem_of_getElem? (i := 43) rfl)) (hw _ (List.mem_of_getElem? (i := 10) rfl)) (hw _ (List.mem_of_getElem? (i := 45) rfl)) (by decide) Pa.exa (own_lnS_0 l Z a0 hw y0 h0 n0 f Pa cs Sc hcs fm Sf hfm Sd Sh Sl) (by rw [hml]; rfl) (lenOf own_pd15 rfl) rfl own_d25_1 (by decide) (W := 0) (by exact Nat.le_of_eq rfl) (by decide) (by decide) (by decide) (pc' := 4) rfl (fun T493 v493 X493 hQ493 => ?_)
  obtain ⟨rfl, e493⟩ := hQ493
  rw [e493] at X493
  show Gl p e below n0 _ _ (T493.setTop (mkF m 4 #[.val (.ref y0), .val (.ref y1), .unset, .unset, .unset, .unset] [(.int (0 : Int32))]))
  refine g_aloadN X493 hx hby own_d25_4 rfl rfl (pc' := 5) rfl ?_
  refine g_callV (argsL := []) (S := [(.int (0 : Int32))]) (a := y1) X493 hx hby hZ (y := (⟨"java/lang/String", "length", "()I"⟩ : MethodName)) (y' := (⟨"java/lang/String", "length", "()I"⟩ : MethodName)) hown (hw _ (List.mem_of_getElem? (i := 41) rfl)) (hw _ (List.mem_of_getElem? (i := 42) rfl)) (notFace_of_selects (args := #[]) (mvT hZ (hw _ (List.mem_of_getElem? (i := 44) rfl)))) (hw _ (List.mem_of_getElem? (i := 44) rfl)) (hw _ (List.mem_of_getElem? (i := 43) rfl)) (hw _ (List.mem_of_getElem? (i := 10) rfl)) (hw _ (List.mem_of_getElem? (i := 45) rfl)) (by decide) Pb.exa (own_lnS_0 l Z a0 hw y1 h0 n0 g Pb cs Sc hcs fm Sf hfm Sd Sh Sl) (by rw [hml]; rfl) (lenOf own_pd15 rfl) rfl own_d25_5 (by decide) (W := 1) (by exact Nat.le_of_eq rfl) (by decide) (by decide) (by decide) (pc' := 8) rfl (fun T494 v494 X494 hQ494 => ?_)
  obtain ⟨rfl, e494⟩ := hQ494
  rw [e494] at X494
  show Gl p e below n0 _ _ (T494.setTop (mkF m 8 #[.val (.ref y0), .val (.ref y1), .unset, .unset, .unset, .unset] [(.int (0 : Int32)), (.int (0 : Int32))]))
  refine g_callS (argsL := [(.int (0 : Int32)), (.int (0 : Int32))]) (S := []) X494 hx hby hZ (y := (⟨"java/lang/Math", "min", "(II)I"⟩ : MethodName)) hown (hw _ (List.mem_of_getElem? (i := 52) rfl)) (hw _ (List.mem_of_getElem? (i := 31) rfl)) (hw _ (List.mem_of_getElem? (i := 32) rfl)) (hw _ (List.mem_of_getElem? (i := 33) rfl)) (by decide) (own_minA l Z a0 hw (0 : Int32) (0 : Int32) h0 n0 (by decide)) (by rw [hml]; rfl) (lenOf own_pd16 rfl) rfl own_d25_8 (by decide) (W := 0) (by exact Nat.le_of_eq rfl) (by decide) (by decide) (by decide) (pc' := 11) rfl (fun T495 v495 X495 hQ495 => ?_)
  obtain ⟨rfl, e495⟩ := hQ495
  rw [e495] at X495
  show Gl p e below n0 _ _ (T495.setTop (mkF m 11 #[.val (.ref y0), .val (.ref y1), .unset, .unset, .unset, .unset] [(.int (0 : Int32))]))
  refine g_istoreN (L' := #[.val (.ref y0), .val (.ref y1), .val (.int (0 : Int32)), .unset, .unset, .unset]) X495 hx hby own_d25_11 rfl (pc' := 12) rfl ?_
  refine g_iconst (v := 0) X495 hx hby own_d25_12 rfl (pc' := 13) rfl ?_
  refine g_istoreN (L' := #[.val (.ref y0), .val (.ref y1), .val (.int (0 : Int32)), .val (.int (0 : Int32)), .unset, .unset]) X495 hx hby own_d25_13 rfl (pc' := 14) rfl ?_
  refine g_iloadN X495 hx hby own_d25_14 rfl (pc' := 15) rfl ?_
  refine g_iloadN X495 hx hby own_d25_15 rfl (pc' := 16) rfl ?_
  refine g_icmp_ge X495 hx hby own_d25_16 (by decide) (pc' := 58) (by decide) (pc2 := 19) rfl (fun c16_496 => ?_) (fun q => absurd q (by decide))
  refine g_aloadN X495 hx hby own_d25_58 rfl rfl (pc' := 59) rfl ?_
  refine g_callV (argsL := []) (S := []) (a := y0) X495 hx hby hZ (y := (⟨"java/lang/String", "length", "()I"⟩ : MethodName)) (y' := (⟨"java/lang/String", "length", "()I"⟩ : MethodName)) hown (hw _ (List.mem_of_getElem? (i := 41) rfl)) (hw _ (List.mem_of_getElem? (i := 42) rfl)) (notFace_of_selects (args := #[]) (mvT hZ (hw _ (List.mem_of_getElem? (i := 44) rfl)))) (hw _ (List.mem_of_getElem? (i := 44) rfl)) (hw _ (List.mem_of_getElem? (i := 43) rfl)) (hw _ (List.mem_of_getElem? (i := 10) rfl)) (hw _ (List.mem_of_getElem? (i := 45) rfl)) (by decide) Pa.exa (own_lnS_0 l Z a0 hw y0 h0 n0 f Pa cs Sc hcs fm Sf hfm Sd Sh Sl) (by rw [hml]; rfl) (lenOf own_pd15 rfl) rfl own_d25_59 (by decide) (W := 0) (by exact Nat.le_of_eq rfl) (by decide) (by decide) (by decide) (pc' := 62) rfl (fun T497 v497 X497 hQ497 => ?_)
  obtain ⟨rfl, e497⟩ := hQ497
  rw [e497] at X497
  show Gl p e below n0 _ _ (T497.setTop (mkF m 62 #[.val (.ref y0), .val (.ref y1), .val (.int (0 : Int32)), .val (.int (0 : Int32)), .unset, .unset] [(.int (0 : Int32))]))
  refine g_aloadN X497 hx hby own_d25_62 rfl rfl (pc' := 63) rfl ?_
  refine g_callV (argsL := []) (S := [(.int (0 : Int32))]) (a := y1) X497 hx hby hZ (y := (⟨"java/lang/String", "length", "()I"⟩ : MethodName)) (y' := (⟨"java/lang/String", "length", "()I"⟩ : MethodName)) hown (hw _ (List.mem_of_getElem? (i := 41) rfl)) (hw _ (List.mem_of_getElem? (i := 42) rfl)) (notFace_of_selects (args := #[]) (mvT hZ (hw _ (List.mem_of_getElem? (i := 44) rfl)))) (hw _ (List.mem_of_getElem? (i := 44) rfl)) (hw _ (List.mem_of_getElem? (i := 43) rfl)) (hw _ (List.mem_of_getElem? (i := 10) rfl)) (hw _ (List.mem_of_getElem? (i := 45) rfl)) (by decide) Pb.exa (own_lnS_0 l Z a0 hw y1 h0 n0 g Pb cs Sc hcs fm Sf hfm Sd Sh Sl) (by rw [hml]; rfl) (lenOf own_pd15 rfl) rfl own_d25_63 (by decide) (W := 1) (by exact Nat.le_of_eq rfl) (by decide) (by decide) (by decide) (pc' := 66) rfl (fun T498 v498 X498 hQ498 => ?_)
  obtain ⟨rfl, e498⟩ := hQ498
  rw [e498] at X498
  show Gl p e below n0 _ _ (T498.setTop (mkF m 66 #[.val (.ref y0), .val (.ref y1), .val (.int (0 : Int32)), .val (.int (0 : Int32)), .unset, .unset] [(.int (0 : Int32)), (.int (0 : Int32))]))
  refine g_isub X498 hx hby own_d25_66 (pc' := 67) rfl ?_
  exact g_retI X498 hx hby hret hlk own_d25_67 ⟨congrArg (fun z => some (Value.int z)) (show ((0 : Int32) - (0 : Int32)) = own_cv0 f g ((0 : Int32) - (0 : Int32)) by simp only [own_cv0, if_neg c16_496]), rfl⟩ (by decide) (by decide)
set_option maxRecDepth 65536 in
set_option maxHeartbeats 40000000 in
theorem own_ef499 (m : MethodId) (y0 : Addr) (y1 : Addr)  : entryFrame m #[(.ref y0), (.ref y1)] 6 = mkF m 0 #[.val (.ref y0), .val (.ref y1), .unset, .unset, .unset, .unset] [] := by first | (simp [entryFrame, mkF, argsToLocals, Value.category, maxLocals]; done) | rfl
set_option maxRecDepth 65536 in
set_option maxHeartbeats 40000000 in
theorem own_cm_0_1 (l : Launch) (Z : State) (a0 : Array Value) (hw : ∀ d ∈ tables_1, d.before a0 Z = true) (y0 y1 : Addr) (h0 : Heap) (n0 : Nat) (f g : Nat → Int32) (hrf : ∀ i, 0 ≤ (f i).toInt ∧ (f i).toInt ≤ 65535) (hrg : ∀ i, 0 ≤ (g i).toInt ∧ (g i).toInt ≤ 65535) (Pa : Sg Z h0 y0 0 0 f) (Pb : Sg Z h0 y1 1 2 g) (cs : Int32) (Sc : Sta Z h0 "java/lang/String" "COMPACT_STRINGS" "Z" (.int cs)) (hcs : ¬ cs = 0) (fm : Value) (Sf : Sta Z h0 "jdk/internal/util/Preconditions" "SIOOBE_FORMATTER" "Ljava/util/function/BiFunction;" fm) (hfm : fm.isRef = true) (Sd : Sta Z h0 "java/lang/StringUTF16" "$assertionsDisabled" "Z" (.int 1)) (Sh : Sta Z h0 "java/lang/StringUTF16" "HI_BYTE_SHIFT" "I" (.int 0)) (Sl : Sta Z h0 "java/lang/StringUTF16" "LO_BYTE_SHIFT" "I" (.int 8)) :
    Ctr l Z (⟨"com/example/urutan/urutan/build/CodePointOrder", "compare", "(Ljava/lang/String;Ljava/lang/String;)I"⟩ : MethodName) prog_2_method_2_code 6 (some .int) [] (own_room 5 0 0 66) #[(.ref y0), (.ref y1)] h0 n0 0 0 (fun v h => v = some (.int (own_cv0 f g ((0 : Int32) - (1 : Int32)))) ∧ h = h0) := by
  refine Ctr.of (plainFor_of_name own_pn4) ?_
  intro p e s m below meth c T0 hx hby hml hret hlk hnm hown hZ X0
  rw [own_ef499 m (y0) (y1)]
  refine g_aloadN X0 hx hby own_d25_0 rfl rfl (pc' := 1) rfl ?_
  refine g_callV (argsL := []) (S := []) (a := y0) X0 hx hby hZ (y := (⟨"java/lang/String", "length", "()I"⟩ : MethodName)) (y' := (⟨"java/lang/String", "length", "()I"⟩ : MethodName)) hown (hw _ (List.mem_of_getElem? (i := 41) rfl)) (hw _ (List.mem_of_getElem? (i := 42) rfl)) (notFace_of_selects (args := #[]) (mvT hZ (hw _ (List.mem_of_getElem? (i := 44) rfl)))) (hw _ (List.mem_of_getElem? (i := 44) rfl)) (hw _ (List.mem_of_getElem? (i := 43) rfl)) (hw _ (List.mem_of_getElem? (i := 10) rfl)) (hw _ (List.mem_of_getElem? (i := 45) rfl)) (by decide) Pa.exa (own_lnS_0 l Z a0 hw y0 h0 n0 f Pa cs Sc hcs fm Sf hfm Sd Sh Sl) (by rw [hml]; rfl) (lenOf own_pd15 rfl) rfl own_d25_1 (by decide) (W := 0) (by exact Nat.le_of_eq rfl) (by decide) (by decide) (by decide) (pc' := 4) rfl (fun T500 v500 X500 hQ500 => ?_)
  obtain ⟨rfl, e500⟩ := hQ500
  rw [e500] at X500
  show Gl p e below n0 _ _ (T500.setTop (mkF m 4 #[.val (.ref y0), .val (.ref y1), .unset, .unset, .unset, .unset] [(.int (0 : Int32))]))
  refine g_aloadN X500 hx hby own_d25_4 rfl rfl (pc' := 5) rfl ?_
  refine g_callV (argsL := []) (S := [(.int (0 : Int32))]) (a := y1) X500 hx hby hZ (y := (⟨"java/lang/String", "length", "()I"⟩ : MethodName)) (y' := (⟨"java/lang/String", "length", "()I"⟩ : MethodName)) hown (hw _ (List.mem_of_getElem? (i := 41) rfl)) (hw _ (List.mem_of_getElem? (i := 42) rfl)) (notFace_of_selects (args := #[]) (mvT hZ (hw _ (List.mem_of_getElem? (i := 44) rfl)))) (hw _ (List.mem_of_getElem? (i := 44) rfl)) (hw _ (List.mem_of_getElem? (i := 43) rfl)) (hw _ (List.mem_of_getElem? (i := 10) rfl)) (hw _ (List.mem_of_getElem? (i := 45) rfl)) (by decide) Pb.exa (own_lnS_1 l Z a0 hw y1 h0 n0 g Pb cs Sc hcs fm Sf hfm Sd Sh Sl) (by rw [hml]; rfl) (lenOf own_pd15 rfl) rfl own_d25_5 (by decide) (W := 1) (by exact Nat.le_of_eq rfl) (by decide) (by decide) (by decide) (pc' := 8) rfl (fun T501 v501 X501 hQ501 => ?_)
  obtain ⟨rfl, e501⟩ := hQ501
  rw [e501] at X501
  show Gl p e below n0 _ _ (T501.setTop (mkF m 8 #[.val (.ref y0), .val (.ref y1), .unset, .unset, .unset, .unset] [(.int (1 : Int32)), (.int (0 : Int32))]))
  refine g_callS (argsL := [(.int (0 : Int32)), (.int (1 : Int32))]) (S := []) X501 hx hby hZ (y := (⟨"java/lang/Math", "min", "(II)I"⟩ : MethodName)) hown (hw _ (List.mem_of_getElem? (i := 52) rfl)) (hw _ (List.mem_of_getElem? (i := 31) rfl)) (hw _ (List.mem_of_getElem? (i := 32) rfl)) (hw _ (List.mem_of_getElem? (i := 33) rfl)) (by decide) (own_minA l Z a0 hw (0 : Int32) (1 : Int32) h0 n0 (by decide)) (by rw [hml]; rfl) (lenOf own_pd16 rfl) rfl own_d25_8 (by decide) (W := 0) (by exact Nat.le_of_eq rfl) (by decide) (by decide) (by decide) (pc' := 11) rfl (fun T502 v502 X502 hQ502 => ?_)
  obtain ⟨rfl, e502⟩ := hQ502
  rw [e502] at X502
  show Gl p e below n0 _ _ (T502.setTop (mkF m 11 #[.val (.ref y0), .val (.ref y1), .unset, .unset, .unset, .unset] [(.int (0 : Int32))]))
  refine g_istoreN (L' := #[.val (.ref y0), .val (.ref y1), .val (.int (0 : Int32)), .unset, .unset, .unset]) X502 hx hby own_d25_11 rfl (pc' := 12) rfl ?_
  refine g_iconst (v := 0) X502 hx hby own_d25_12 rfl (pc' := 13) rfl ?_
  refine g_istoreN (L' := #[.val (.ref y0), .val (.ref y1), .val (.int (0 : Int32)), .val (.int (0 : Int32)), .unset, .unset]) X502 hx hby own_d25_13 rfl (pc' := 14) rfl ?_
  refine g_iloadN X502 hx hby own_d25_14 rfl (pc' := 15) rfl ?_
  refine g_iloadN X502 hx hby own_d25_15 rfl (pc' := 16) rfl ?_
  refine g_icmp_ge X502 hx hby own_d25_16 (by decide) (pc' := 58) (by decide) (pc2 := 19) rfl (fun c16_503 => ?_) (fun q => absurd q (by decide))
  refine g_aloadN X502 hx hby own_d25_58 rfl rfl (pc' := 59) rfl ?_
  refine g_callV (argsL := []) (S := []) (a := y0) X502 hx hby hZ (y := (⟨"java/lang/String", "length", "()I"⟩ : MethodName)) (y' := (⟨"java/lang/String", "length", "()I"⟩ : MethodName)) hown (hw _ (List.mem_of_getElem? (i := 41) rfl)) (hw _ (List.mem_of_getElem? (i := 42) rfl)) (notFace_of_selects (args := #[]) (mvT hZ (hw _ (List.mem_of_getElem? (i := 44) rfl)))) (hw _ (List.mem_of_getElem? (i := 44) rfl)) (hw _ (List.mem_of_getElem? (i := 43) rfl)) (hw _ (List.mem_of_getElem? (i := 10) rfl)) (hw _ (List.mem_of_getElem? (i := 45) rfl)) (by decide) Pa.exa (own_lnS_0 l Z a0 hw y0 h0 n0 f Pa cs Sc hcs fm Sf hfm Sd Sh Sl) (by rw [hml]; rfl) (lenOf own_pd15 rfl) rfl own_d25_59 (by decide) (W := 0) (by exact Nat.le_of_eq rfl) (by decide) (by decide) (by decide) (pc' := 62) rfl (fun T504 v504 X504 hQ504 => ?_)
  obtain ⟨rfl, e504⟩ := hQ504
  rw [e504] at X504
  show Gl p e below n0 _ _ (T504.setTop (mkF m 62 #[.val (.ref y0), .val (.ref y1), .val (.int (0 : Int32)), .val (.int (0 : Int32)), .unset, .unset] [(.int (0 : Int32))]))
  refine g_aloadN X504 hx hby own_d25_62 rfl rfl (pc' := 63) rfl ?_
  refine g_callV (argsL := []) (S := [(.int (0 : Int32))]) (a := y1) X504 hx hby hZ (y := (⟨"java/lang/String", "length", "()I"⟩ : MethodName)) (y' := (⟨"java/lang/String", "length", "()I"⟩ : MethodName)) hown (hw _ (List.mem_of_getElem? (i := 41) rfl)) (hw _ (List.mem_of_getElem? (i := 42) rfl)) (notFace_of_selects (args := #[]) (mvT hZ (hw _ (List.mem_of_getElem? (i := 44) rfl)))) (hw _ (List.mem_of_getElem? (i := 44) rfl)) (hw _ (List.mem_of_getElem? (i := 43) rfl)) (hw _ (List.mem_of_getElem? (i := 10) rfl)) (hw _ (List.mem_of_getElem? (i := 45) rfl)) (by decide) Pb.exa (own_lnS_1 l Z a0 hw y1 h0 n0 g Pb cs Sc hcs fm Sf hfm Sd Sh Sl) (by rw [hml]; rfl) (lenOf own_pd15 rfl) rfl own_d25_63 (by decide) (W := 1) (by exact Nat.le_of_eq rfl) (by decide) (by decide) (by decide) (pc' := 66) rfl (fun T505 v505 X505 hQ505 => ?_)
  obtain ⟨rfl, e505⟩ := hQ505
  rw [e505] at X505
  show Gl p e below n0 _ _ (T505.setTop (mkF m 66 #[.val (.ref y0), .val (.ref y1), .val (.int (0 : Int32)), .val (.int (0 : Int32)), .unset, .unset] [(.int (1 : Int32)), (.int (0 : Int32))]))
  refine g_isub X505 hx hby own_d25_66 (pc' := 67) rfl ?_
  exact g_retI X505 hx hby hret hlk own_d25_67 ⟨congrArg (fun z => some (Value.int z)) (show ((0 : Int32) - (1 : Int32)) = own_cv0 f g ((0 : Int32) - (1 : Int32)) by simp only [own_cv0, if_neg c16_503]), rfl⟩ (by decide) (by decide)
set_option maxRecDepth 65536 in
set_option maxHeartbeats 40000000 in
theorem own_ef506 (m : MethodId) (y0 : Addr) (y1 : Addr)  : entryFrame m #[(.ref y0), (.ref y1)] 6 = mkF m 0 #[.val (.ref y0), .val (.ref y1), .unset, .unset, .unset, .unset] [] := by first | (simp [entryFrame, mkF, argsToLocals, Value.category, maxLocals]; done) | rfl
set_option maxRecDepth 65536 in
set_option maxHeartbeats 40000000 in
theorem own_cm_0_2 (l : Launch) (Z : State) (a0 : Array Value) (hw : ∀ d ∈ tables_1, d.before a0 Z = true) (y0 y1 : Addr) (h0 : Heap) (n0 : Nat) (f g : Nat → Int32) (hrf : ∀ i, 0 ≤ (f i).toInt ∧ (f i).toInt ≤ 65535) (hrg : ∀ i, 0 ≤ (g i).toInt ∧ (g i).toInt ≤ 65535) (Pa : Sg Z h0 y0 0 0 f) (Pb : Sg Z h0 y1 2 4 g) (cs : Int32) (Sc : Sta Z h0 "java/lang/String" "COMPACT_STRINGS" "Z" (.int cs)) (hcs : ¬ cs = 0) (fm : Value) (Sf : Sta Z h0 "jdk/internal/util/Preconditions" "SIOOBE_FORMATTER" "Ljava/util/function/BiFunction;" fm) (hfm : fm.isRef = true) (Sd : Sta Z h0 "java/lang/StringUTF16" "$assertionsDisabled" "Z" (.int 1)) (Sh : Sta Z h0 "java/lang/StringUTF16" "HI_BYTE_SHIFT" "I" (.int 0)) (Sl : Sta Z h0 "java/lang/StringUTF16" "LO_BYTE_SHIFT" "I" (.int 8)) :
    Ctr l Z (⟨"com/example/urutan/urutan/build/CodePointOrder", "compare", "(Ljava/lang/String;Ljava/lang/String;)I"⟩ : MethodName) prog_2_method_2_code 6 (some .int) [] (own_room 5 0 0 66) #[(.ref y0), (.ref y1)] h0 n0 0 0 (fun v h => v = some (.int (own_cv0 f g ((0 : Int32) - (2 : Int32)))) ∧ h = h0) := by
  refine Ctr.of (plainFor_of_name own_pn4) ?_
  intro p e s m below meth c T0 hx hby hml hret hlk hnm hown hZ X0
  rw [own_ef506 m (y0) (y1)]
  refine g_aloadN X0 hx hby own_d25_0 rfl rfl (pc' := 1) rfl ?_
  refine g_callV (argsL := []) (S := []) (a := y0) X0 hx hby hZ (y := (⟨"java/lang/String", "length", "()I"⟩ : MethodName)) (y' := (⟨"java/lang/String", "length", "()I"⟩ : MethodName)) hown (hw _ (List.mem_of_getElem? (i := 41) rfl)) (hw _ (List.mem_of_getElem? (i := 42) rfl)) (notFace_of_selects (args := #[]) (mvT hZ (hw _ (List.mem_of_getElem? (i := 44) rfl)))) (hw _ (List.mem_of_getElem? (i := 44) rfl)) (hw _ (List.mem_of_getElem? (i := 43) rfl)) (hw _ (List.mem_of_getElem? (i := 10) rfl)) (hw _ (List.mem_of_getElem? (i := 45) rfl)) (by decide) Pa.exa (own_lnS_0 l Z a0 hw y0 h0 n0 f Pa cs Sc hcs fm Sf hfm Sd Sh Sl) (by rw [hml]; rfl) (lenOf own_pd15 rfl) rfl own_d25_1 (by decide) (W := 0) (by exact Nat.le_of_eq rfl) (by decide) (by decide) (by decide) (pc' := 4) rfl (fun T507 v507 X507 hQ507 => ?_)
  obtain ⟨rfl, e507⟩ := hQ507
  rw [e507] at X507
  show Gl p e below n0 _ _ (T507.setTop (mkF m 4 #[.val (.ref y0), .val (.ref y1), .unset, .unset, .unset, .unset] [(.int (0 : Int32))]))
  refine g_aloadN X507 hx hby own_d25_4 rfl rfl (pc' := 5) rfl ?_
  refine g_callV (argsL := []) (S := [(.int (0 : Int32))]) (a := y1) X507 hx hby hZ (y := (⟨"java/lang/String", "length", "()I"⟩ : MethodName)) (y' := (⟨"java/lang/String", "length", "()I"⟩ : MethodName)) hown (hw _ (List.mem_of_getElem? (i := 41) rfl)) (hw _ (List.mem_of_getElem? (i := 42) rfl)) (notFace_of_selects (args := #[]) (mvT hZ (hw _ (List.mem_of_getElem? (i := 44) rfl)))) (hw _ (List.mem_of_getElem? (i := 44) rfl)) (hw _ (List.mem_of_getElem? (i := 43) rfl)) (hw _ (List.mem_of_getElem? (i := 10) rfl)) (hw _ (List.mem_of_getElem? (i := 45) rfl)) (by decide) Pb.exa (own_lnS_2 l Z a0 hw y1 h0 n0 g Pb cs Sc hcs fm Sf hfm Sd Sh Sl) (by rw [hml]; rfl) (lenOf own_pd15 rfl) rfl own_d25_5 (by decide) (W := 1) (by exact Nat.le_of_eq rfl) (by decide) (by decide) (by decide) (pc' := 8) rfl (fun T508 v508 X508 hQ508 => ?_)
  obtain ⟨rfl, e508⟩ := hQ508
  rw [e508] at X508
  show Gl p e below n0 _ _ (T508.setTop (mkF m 8 #[.val (.ref y0), .val (.ref y1), .unset, .unset, .unset, .unset] [(.int (2 : Int32)), (.int (0 : Int32))]))
  refine g_callS (argsL := [(.int (0 : Int32)), (.int (2 : Int32))]) (S := []) X508 hx hby hZ (y := (⟨"java/lang/Math", "min", "(II)I"⟩ : MethodName)) hown (hw _ (List.mem_of_getElem? (i := 52) rfl)) (hw _ (List.mem_of_getElem? (i := 31) rfl)) (hw _ (List.mem_of_getElem? (i := 32) rfl)) (hw _ (List.mem_of_getElem? (i := 33) rfl)) (by decide) (own_minA l Z a0 hw (0 : Int32) (2 : Int32) h0 n0 (by decide)) (by rw [hml]; rfl) (lenOf own_pd16 rfl) rfl own_d25_8 (by decide) (W := 0) (by exact Nat.le_of_eq rfl) (by decide) (by decide) (by decide) (pc' := 11) rfl (fun T509 v509 X509 hQ509 => ?_)
  obtain ⟨rfl, e509⟩ := hQ509
  rw [e509] at X509
  show Gl p e below n0 _ _ (T509.setTop (mkF m 11 #[.val (.ref y0), .val (.ref y1), .unset, .unset, .unset, .unset] [(.int (0 : Int32))]))
  refine g_istoreN (L' := #[.val (.ref y0), .val (.ref y1), .val (.int (0 : Int32)), .unset, .unset, .unset]) X509 hx hby own_d25_11 rfl (pc' := 12) rfl ?_
  refine g_iconst (v := 0) X509 hx hby own_d25_12 rfl (pc' := 13) rfl ?_
  refine g_istoreN (L' := #[.val (.ref y0), .val (.ref y1), .val (.int (0 : Int32)), .val (.int (0 : Int32)), .unset, .unset]) X509 hx hby own_d25_13 rfl (pc' := 14) rfl ?_
  refine g_iloadN X509 hx hby own_d25_14 rfl (pc' := 15) rfl ?_
  refine g_iloadN X509 hx hby own_d25_15 rfl (pc' := 16) rfl ?_
  refine g_icmp_ge X509 hx hby own_d25_16 (by decide) (pc' := 58) (by decide) (pc2 := 19) rfl (fun c16_510 => ?_) (fun q => absurd q (by decide))
  refine g_aloadN X509 hx hby own_d25_58 rfl rfl (pc' := 59) rfl ?_
  refine g_callV (argsL := []) (S := []) (a := y0) X509 hx hby hZ (y := (⟨"java/lang/String", "length", "()I"⟩ : MethodName)) (y' := (⟨"java/lang/String", "length", "()I"⟩ : MethodName)) hown (hw _ (List.mem_of_getElem? (i := 41) rfl)) (hw _ (List.mem_of_getElem? (i := 42) rfl)) (notFace_of_selects (args := #[]) (mvT hZ (hw _ (List.mem_of_getElem? (i := 44) rfl)))) (hw _ (List.mem_of_getElem? (i := 44) rfl)) (hw _ (List.mem_of_getElem? (i := 43) rfl)) (hw _ (List.mem_of_getElem? (i := 10) rfl)) (hw _ (List.mem_of_getElem? (i := 45) rfl)) (by decide) Pa.exa (own_lnS_0 l Z a0 hw y0 h0 n0 f Pa cs Sc hcs fm Sf hfm Sd Sh Sl) (by rw [hml]; rfl) (lenOf own_pd15 rfl) rfl own_d25_59 (by decide) (W := 0) (by exact Nat.le_of_eq rfl) (by decide) (by decide) (by decide) (pc' := 62) rfl (fun T511 v511 X511 hQ511 => ?_)
  obtain ⟨rfl, e511⟩ := hQ511
  rw [e511] at X511
  show Gl p e below n0 _ _ (T511.setTop (mkF m 62 #[.val (.ref y0), .val (.ref y1), .val (.int (0 : Int32)), .val (.int (0 : Int32)), .unset, .unset] [(.int (0 : Int32))]))
  refine g_aloadN X511 hx hby own_d25_62 rfl rfl (pc' := 63) rfl ?_
  refine g_callV (argsL := []) (S := [(.int (0 : Int32))]) (a := y1) X511 hx hby hZ (y := (⟨"java/lang/String", "length", "()I"⟩ : MethodName)) (y' := (⟨"java/lang/String", "length", "()I"⟩ : MethodName)) hown (hw _ (List.mem_of_getElem? (i := 41) rfl)) (hw _ (List.mem_of_getElem? (i := 42) rfl)) (notFace_of_selects (args := #[]) (mvT hZ (hw _ (List.mem_of_getElem? (i := 44) rfl)))) (hw _ (List.mem_of_getElem? (i := 44) rfl)) (hw _ (List.mem_of_getElem? (i := 43) rfl)) (hw _ (List.mem_of_getElem? (i := 10) rfl)) (hw _ (List.mem_of_getElem? (i := 45) rfl)) (by decide) Pb.exa (own_lnS_2 l Z a0 hw y1 h0 n0 g Pb cs Sc hcs fm Sf hfm Sd Sh Sl) (by rw [hml]; rfl) (lenOf own_pd15 rfl) rfl own_d25_63 (by decide) (W := 1) (by exact Nat.le_of_eq rfl) (by decide) (by decide) (by decide) (pc' := 66) rfl (fun T512 v512 X512 hQ512 => ?_)
  obtain ⟨rfl, e512⟩ := hQ512
  rw [e512] at X512
  show Gl p e below n0 _ _ (T512.setTop (mkF m 66 #[.val (.ref y0), .val (.ref y1), .val (.int (0 : Int32)), .val (.int (0 : Int32)), .unset, .unset] [(.int (2 : Int32)), (.int (0 : Int32))]))
  refine g_isub X512 hx hby own_d25_66 (pc' := 67) rfl ?_
  exact g_retI X512 hx hby hret hlk own_d25_67 ⟨congrArg (fun z => some (Value.int z)) (show ((0 : Int32) - (2 : Int32)) = own_cv0 f g ((0 : Int32) - (2 : Int32)) by simp only [own_cv0, if_neg c16_510]), rfl⟩ (by decide) (by decide)
set_option maxRecDepth 65536 in
set_option maxHeartbeats 40000000 in
theorem own_ef513 (m : MethodId) (y0 : Addr) (y1 : Addr)  : entryFrame m #[(.ref y0), (.ref y1)] 6 = mkF m 0 #[.val (.ref y0), .val (.ref y1), .unset, .unset, .unset, .unset] [] := by first | (simp [entryFrame, mkF, argsToLocals, Value.category, maxLocals]; done) | rfl
set_option maxRecDepth 65536 in
set_option maxHeartbeats 40000000 in
theorem own_cm_1_0 (l : Launch) (Z : State) (a0 : Array Value) (hw : ∀ d ∈ tables_1, d.before a0 Z = true) (y0 y1 : Addr) (h0 : Heap) (n0 : Nat) (f g : Nat → Int32) (hrf : ∀ i, 0 ≤ (f i).toInt ∧ (f i).toInt ≤ 65535) (hrg : ∀ i, 0 ≤ (g i).toInt ∧ (g i).toInt ≤ 65535) (Pa : Sg Z h0 y0 1 2 f) (Pb : Sg Z h0 y1 0 0 g) (cs : Int32) (Sc : Sta Z h0 "java/lang/String" "COMPACT_STRINGS" "Z" (.int cs)) (hcs : ¬ cs = 0) (fm : Value) (Sf : Sta Z h0 "jdk/internal/util/Preconditions" "SIOOBE_FORMATTER" "Ljava/util/function/BiFunction;" fm) (hfm : fm.isRef = true) (Sd : Sta Z h0 "java/lang/StringUTF16" "$assertionsDisabled" "Z" (.int 1)) (Sh : Sta Z h0 "java/lang/StringUTF16" "HI_BYTE_SHIFT" "I" (.int 0)) (Sl : Sta Z h0 "java/lang/StringUTF16" "LO_BYTE_SHIFT" "I" (.int 8)) :
    Ctr l Z (⟨"com/example/urutan/urutan/build/CodePointOrder", "compare", "(Ljava/lang/String;Ljava/lang/String;)I"⟩ : MethodName) prog_2_method_2_code 6 (some .int) [] (own_room 5 0 0 66) #[(.ref y0), (.ref y1)] h0 n0 0 0 (fun v h => v = some (.int (own_cv0 f g ((1 : Int32) - (0 : Int32)))) ∧ h = h0) := by
  refine Ctr.of (plainFor_of_name own_pn4) ?_
  intro p e s m below meth c T0 hx hby hml hret hlk hnm hown hZ X0
  rw [own_ef513 m (y0) (y1)]
  refine g_aloadN X0 hx hby own_d25_0 rfl rfl (pc' := 1) rfl ?_
  refine g_callV (argsL := []) (S := []) (a := y0) X0 hx hby hZ (y := (⟨"java/lang/String", "length", "()I"⟩ : MethodName)) (y' := (⟨"java/lang/String", "length", "()I"⟩ : MethodName)) hown (hw _ (List.mem_of_getElem? (i := 41) rfl)) (hw _ (List.mem_of_getElem? (i := 42) rfl)) (notFace_of_selects (args := #[]) (mvT hZ (hw _ (List.mem_of_getElem? (i := 44) rfl)))) (hw _ (List.mem_of_getElem? (i := 44) rfl)) (hw _ (List.mem_of_getElem? (i := 43) rfl)) (hw _ (List.mem_of_getElem? (i := 10) rfl)) (hw _ (List.mem_of_getElem? (i := 45) rfl)) (by decide) Pa.exa (own_lnS_1 l Z a0 hw y0 h0 n0 f Pa cs Sc hcs fm Sf hfm Sd Sh Sl) (by rw [hml]; rfl) (lenOf own_pd15 rfl) rfl own_d25_1 (by decide) (W := 0) (by exact Nat.le_of_eq rfl) (by decide) (by decide) (by decide) (pc' := 4) rfl (fun T514 v514 X514 hQ514 => ?_)
  obtain ⟨rfl, e514⟩ := hQ514
  rw [e514] at X514
  show Gl p e below n0 _ _ (T514.setTop (mkF m 4 #[.val (.ref y0), .val (.ref y1), .unset, .unset, .unset, .unset] [(.int (1 : Int32))]))
  refine g_aloadN X514 hx hby own_d25_4 rfl rfl (pc' := 5) rfl ?_
  refine g_callV (argsL := []) (S := [(.int (1 : Int32))]) (a := y1) X514 hx hby hZ (y := (⟨"java/lang/String", "length", "()I"⟩ : MethodName)) (y' := (⟨"java/lang/String", "length", "()I"⟩ : MethodName)) hown (hw _ (List.mem_of_getElem? (i := 41) rfl)) (hw _ (List.mem_of_getElem? (i := 42) rfl)) (notFace_of_selects (args := #[]) (mvT hZ (hw _ (List.mem_of_getElem? (i := 44) rfl)))) (hw _ (List.mem_of_getElem? (i := 44) rfl)) (hw _ (List.mem_of_getElem? (i := 43) rfl)) (hw _ (List.mem_of_getElem? (i := 10) rfl)) (hw _ (List.mem_of_getElem? (i := 45) rfl)) (by decide) Pb.exa (own_lnS_0 l Z a0 hw y1 h0 n0 g Pb cs Sc hcs fm Sf hfm Sd Sh Sl) (by rw [hml]; rfl) (lenOf own_pd15 rfl) rfl own_d25_5 (by decide) (W := 1) (by exact Nat.le_of_eq rfl) (by decide) (by decide) (by decide) (pc' := 8) rfl (fun T515 v515 X515 hQ515 => ?_)
  obtain ⟨rfl, e515⟩ := hQ515
  rw [e515] at X515
  show Gl p e below n0 _ _ (T515.setTop (mkF m 8 #[.val (.ref y0), .val (.ref y1), .unset, .unset, .unset, .unset] [(.int (0 : Int32)), (.int (1 : Int32))]))
  refine g_callS (argsL := [(.int (1 : Int32)), (.int (0 : Int32))]) (S := []) X515 hx hby hZ (y := (⟨"java/lang/Math", "min", "(II)I"⟩ : MethodName)) hown (hw _ (List.mem_of_getElem? (i := 52) rfl)) (hw _ (List.mem_of_getElem? (i := 31) rfl)) (hw _ (List.mem_of_getElem? (i := 32) rfl)) (hw _ (List.mem_of_getElem? (i := 33) rfl)) (by decide) (own_minB l Z a0 hw (1 : Int32) (0 : Int32) h0 n0 (by decide)) (by rw [hml]; rfl) (lenOf own_pd16 rfl) rfl own_d25_8 (by decide) (W := 0) (by exact Nat.le_of_eq rfl) (by decide) (by decide) (by decide) (pc' := 11) rfl (fun T516 v516 X516 hQ516 => ?_)
  obtain ⟨rfl, e516⟩ := hQ516
  rw [e516] at X516
  show Gl p e below n0 _ _ (T516.setTop (mkF m 11 #[.val (.ref y0), .val (.ref y1), .unset, .unset, .unset, .unset] [(.int (0 : Int32))]))
  refine g_istoreN (L' := #[.val (.ref y0), .val (.ref y1), .val (.int (0 : Int32)), .unset, .unset, .unset]) X516 hx hby own_d25_11 rfl (pc' := 12) rfl ?_
  refine g_iconst (v := 0) X516 hx hby own_d25_12 rfl (pc' := 13) rfl ?_
  refine g_istoreN (L' := #[.val (.ref y0), .val (.ref y1), .val (.int (0 : Int32)), .val (.int (0 : Int32)), .unset, .unset]) X516 hx hby own_d25_13 rfl (pc' := 14) rfl ?_
  refine g_iloadN X516 hx hby own_d25_14 rfl (pc' := 15) rfl ?_
  refine g_iloadN X516 hx hby own_d25_15 rfl (pc' := 16) rfl ?_
  refine g_icmp_ge X516 hx hby own_d25_16 (by decide) (pc' := 58) (by decide) (pc2 := 19) rfl (fun c16_517 => ?_) (fun q => absurd q (by decide))
  refine g_aloadN X516 hx hby own_d25_58 rfl rfl (pc' := 59) rfl ?_
  refine g_callV (argsL := []) (S := []) (a := y0) X516 hx hby hZ (y := (⟨"java/lang/String", "length", "()I"⟩ : MethodName)) (y' := (⟨"java/lang/String", "length", "()I"⟩ : MethodName)) hown (hw _ (List.mem_of_getElem? (i := 41) rfl)) (hw _ (List.mem_of_getElem? (i := 42) rfl)) (notFace_of_selects (args := #[]) (mvT hZ (hw _ (List.mem_of_getElem? (i := 44) rfl)))) (hw _ (List.mem_of_getElem? (i := 44) rfl)) (hw _ (List.mem_of_getElem? (i := 43) rfl)) (hw _ (List.mem_of_getElem? (i := 10) rfl)) (hw _ (List.mem_of_getElem? (i := 45) rfl)) (by decide) Pa.exa (own_lnS_1 l Z a0 hw y0 h0 n0 f Pa cs Sc hcs fm Sf hfm Sd Sh Sl) (by rw [hml]; rfl) (lenOf own_pd15 rfl) rfl own_d25_59 (by decide) (W := 0) (by exact Nat.le_of_eq rfl) (by decide) (by decide) (by decide) (pc' := 62) rfl (fun T518 v518 X518 hQ518 => ?_)
  obtain ⟨rfl, e518⟩ := hQ518
  rw [e518] at X518
  show Gl p e below n0 _ _ (T518.setTop (mkF m 62 #[.val (.ref y0), .val (.ref y1), .val (.int (0 : Int32)), .val (.int (0 : Int32)), .unset, .unset] [(.int (1 : Int32))]))
  refine g_aloadN X518 hx hby own_d25_62 rfl rfl (pc' := 63) rfl ?_
  refine g_callV (argsL := []) (S := [(.int (1 : Int32))]) (a := y1) X518 hx hby hZ (y := (⟨"java/lang/String", "length", "()I"⟩ : MethodName)) (y' := (⟨"java/lang/String", "length", "()I"⟩ : MethodName)) hown (hw _ (List.mem_of_getElem? (i := 41) rfl)) (hw _ (List.mem_of_getElem? (i := 42) rfl)) (notFace_of_selects (args := #[]) (mvT hZ (hw _ (List.mem_of_getElem? (i := 44) rfl)))) (hw _ (List.mem_of_getElem? (i := 44) rfl)) (hw _ (List.mem_of_getElem? (i := 43) rfl)) (hw _ (List.mem_of_getElem? (i := 10) rfl)) (hw _ (List.mem_of_getElem? (i := 45) rfl)) (by decide) Pb.exa (own_lnS_0 l Z a0 hw y1 h0 n0 g Pb cs Sc hcs fm Sf hfm Sd Sh Sl) (by rw [hml]; rfl) (lenOf own_pd15 rfl) rfl own_d25_63 (by decide) (W := 1) (by exact Nat.le_of_eq rfl) (by decide) (by decide) (by decide) (pc' := 66) rfl (fun T519 v519 X519 hQ519 => ?_)
  obtain ⟨rfl, e519⟩ := hQ519
  rw [e519] at X519
  show Gl p e below n0 _ _ (T519.setTop (mkF m 66 #[.val (.ref y0), .val (.ref y1), .val (.int (0 : Int32)), .val (.int (0 : Int32)), .unset, .unset] [(.int (0 : Int32)), (.int (1 : Int32))]))
  refine g_isub X519 hx hby own_d25_66 (pc' := 67) rfl ?_
  exact g_retI X519 hx hby hret hlk own_d25_67 ⟨congrArg (fun z => some (Value.int z)) (show ((1 : Int32) - (0 : Int32)) = own_cv0 f g ((1 : Int32) - (0 : Int32)) by simp only [own_cv0, if_neg c16_517]), rfl⟩ (by decide) (by decide)
set_option maxRecDepth 65536 in
set_option maxHeartbeats 40000000 in
theorem own_ef520 (m : MethodId) (y0 : Addr) (y1 : Addr)  : entryFrame m #[(.ref y0), (.ref y1)] 6 = mkF m 0 #[.val (.ref y0), .val (.ref y1), .unset, .unset, .unset, .unset] [] := by first | (simp [entryFrame, mkF, argsToLocals, Value.category, maxLocals]; done) | rfl
theorem own_d25_19 : decode prog_2_method_2_code 19 = .ok (.aload_n 0, 1) := by decide +kernel
theorem own_d25_20 : decode prog_2_method_2_code 20 = .ok (.iload_n 3, 1) := by decide +kernel
theorem own_d25_21 : decode prog_2_method_2_code 21 = .ok (.invokevirtual 19, 3) := by decide +kernel
theorem own_pd17 : parseMethodDescriptor "(I)C" = some ⟨[.int], (some .char)⟩ := by decide +kernel
theorem own_d25_24 : decode prog_2_method_2_code 24 = .ok (.istore 4, 2) := by decide +kernel
theorem own_d25_26 : decode prog_2_method_2_code 26 = .ok (.aload_n 1, 1) := by decide +kernel
theorem own_d25_27 : decode prog_2_method_2_code 27 = .ok (.iload_n 3, 1) := by decide +kernel
theorem own_d25_28 : decode prog_2_method_2_code 28 = .ok (.invokevirtual 19, 3) := by decide +kernel
theorem own_d25_31 : decode prog_2_method_2_code 31 = .ok (.istore 5, 2) := by decide +kernel
theorem own_d25_33 : decode prog_2_method_2_code 33 = .ok (.iload 4, 2) := by decide +kernel
theorem own_d25_35 : decode prog_2_method_2_code 35 = .ok (.iload 5, 2) := by decide +kernel
theorem own_d25_37 : decode prog_2_method_2_code 37 = .ok (.if_icmp .eq 15, 3) := by decide +kernel
theorem own_d25_52 : decode prog_2_method_2_code 52 = .ok (.iinc 3 1, 3) := by decide +kernel
theorem own_d25_55 : decode prog_2_method_2_code 55 = .ok (.goto (-41), 3) := by decide +kernel
theorem own_d25_40 : decode prog_2_method_2_code 40 = .ok (.iload 4, 2) := by decide +kernel
theorem own_d25_42 : decode prog_2_method_2_code 42 = .ok (.invokestatic 23, 3) := by decide +kernel
theorem own_d25_45 : decode prog_2_method_2_code 45 = .ok (.iload 5, 2) := by decide +kernel
theorem own_d25_47 : decode prog_2_method_2_code 47 = .ok (.invokestatic 23, 3) := by decide +kernel
theorem own_d25_50 : decode prog_2_method_2_code 50 = .ok (.isub, 1) := by decide +kernel
theorem own_d25_51 : decode prog_2_method_2_code 51 = .ok (.ireturn, 1) := by decide +kernel
set_option maxRecDepth 65536 in
set_option maxHeartbeats 40000000 in
theorem own_cm_1_1 (l : Launch) (Z : State) (a0 : Array Value) (hw : ∀ d ∈ tables_1, d.before a0 Z = true) (y0 y1 : Addr) (h0 : Heap) (n0 : Nat) (f g : Nat → Int32) (hrf : ∀ i, 0 ≤ (f i).toInt ∧ (f i).toInt ≤ 65535) (hrg : ∀ i, 0 ≤ (g i).toInt ∧ (g i).toInt ≤ 65535) (Pa : Sg Z h0 y0 1 2 f) (Pb : Sg Z h0 y1 1 2 g) (cs : Int32) (Sc : Sta Z h0 "java/lang/String" "COMPACT_STRINGS" "Z" (.int cs)) (hcs : ¬ cs = 0) (fm : Value) (Sf : Sta Z h0 "jdk/internal/util/Preconditions" "SIOOBE_FORMATTER" "Ljava/util/function/BiFunction;" fm) (hfm : fm.isRef = true) (Sd : Sta Z h0 "java/lang/StringUTF16" "$assertionsDisabled" "Z" (.int 1)) (Sh : Sta Z h0 "java/lang/StringUTF16" "HI_BYTE_SHIFT" "I" (.int 0)) (Sl : Sta Z h0 "java/lang/StringUTF16" "LO_BYTE_SHIFT" "I" (.int 8)) :
    Ctr l Z (⟨"com/example/urutan/urutan/build/CodePointOrder", "compare", "(Ljava/lang/String;Ljava/lang/String;)I"⟩ : MethodName) prog_2_method_2_code 6 (some .int) [] (own_room 5 0 0 66) #[(.ref y0), (.ref y1)] h0 n0 0 0 (fun v h => v = some (.int (own_cv1 f g ((1 : Int32) - (1 : Int32)))) ∧ h = h0) := by
  refine Ctr.of (plainFor_of_name own_pn4) ?_
  intro p e s m below meth c T0 hx hby hml hret hlk hnm hown hZ X0
  rw [own_ef520 m (y0) (y1)]
  refine g_aloadN X0 hx hby own_d25_0 rfl rfl (pc' := 1) rfl ?_
  refine g_callV (argsL := []) (S := []) (a := y0) X0 hx hby hZ (y := (⟨"java/lang/String", "length", "()I"⟩ : MethodName)) (y' := (⟨"java/lang/String", "length", "()I"⟩ : MethodName)) hown (hw _ (List.mem_of_getElem? (i := 41) rfl)) (hw _ (List.mem_of_getElem? (i := 42) rfl)) (notFace_of_selects (args := #[]) (mvT hZ (hw _ (List.mem_of_getElem? (i := 44) rfl)))) (hw _ (List.mem_of_getElem? (i := 44) rfl)) (hw _ (List.mem_of_getElem? (i := 43) rfl)) (hw _ (List.mem_of_getElem? (i := 10) rfl)) (hw _ (List.mem_of_getElem? (i := 45) rfl)) (by decide) Pa.exa (own_lnS_1 l Z a0 hw y0 h0 n0 f Pa cs Sc hcs fm Sf hfm Sd Sh Sl) (by rw [hml]; rfl) (lenOf own_pd15 rfl) rfl own_d25_1 (by decide) (W := 0) (by exact Nat.le_of_eq rfl) (by decide) (by decide) (by decide) (pc' := 4) rfl (fun T521 v521 X521 hQ521 => ?_)
  obtain ⟨rfl, e521⟩ := hQ521
  rw [e521] at X521
  show Gl p e below n0 _ _ (T521.setTop (mkF m 4 #[.val (.ref y0), .val (.ref y1), .unset, .unset, .unset, .unset] [(.int (1 : Int32))]))
  refine g_aloadN X521 hx hby own_d25_4 rfl rfl (pc' := 5) rfl ?_
  refine g_callV (argsL := []) (S := [(.int (1 : Int32))]) (a := y1) X521 hx hby hZ (y := (⟨"java/lang/String", "length", "()I"⟩ : MethodName)) (y' := (⟨"java/lang/String", "length", "()I"⟩ : MethodName)) hown (hw _ (List.mem_of_getElem? (i := 41) rfl)) (hw _ (List.mem_of_getElem? (i := 42) rfl)) (notFace_of_selects (args := #[]) (mvT hZ (hw _ (List.mem_of_getElem? (i := 44) rfl)))) (hw _ (List.mem_of_getElem? (i := 44) rfl)) (hw _ (List.mem_of_getElem? (i := 43) rfl)) (hw _ (List.mem_of_getElem? (i := 10) rfl)) (hw _ (List.mem_of_getElem? (i := 45) rfl)) (by decide) Pb.exa (own_lnS_1 l Z a0 hw y1 h0 n0 g Pb cs Sc hcs fm Sf hfm Sd Sh Sl) (by rw [hml]; rfl) (lenOf own_pd15 rfl) rfl own_d25_5 (by decide) (W := 1) (by exact Nat.le_of_eq rfl) (by decide) (by decide) (by decide) (pc' := 8) rfl (fun T522 v522 X522 hQ522 => ?_)
  obtain ⟨rfl, e522⟩ := hQ522
  rw [e522] at X522
  show Gl p e below n0 _ _ (T522.setTop (mkF m 8 #[.val (.ref y0), .val (.ref y1), .unset, .unset, .unset, .unset] [(.int (1 : Int32)), (.int (1 : Int32))]))
  refine g_callS (argsL := [(.int (1 : Int32)), (.int (1 : Int32))]) (S := []) X522 hx hby hZ (y := (⟨"java/lang/Math", "min", "(II)I"⟩ : MethodName)) hown (hw _ (List.mem_of_getElem? (i := 52) rfl)) (hw _ (List.mem_of_getElem? (i := 31) rfl)) (hw _ (List.mem_of_getElem? (i := 32) rfl)) (hw _ (List.mem_of_getElem? (i := 33) rfl)) (by decide) (own_minA l Z a0 hw (1 : Int32) (1 : Int32) h0 n0 (by decide)) (by rw [hml]; rfl) (lenOf own_pd16 rfl) rfl own_d25_8 (by decide) (W := 0) (by exact Nat.le_of_eq rfl) (by decide) (by decide) (by decide) (pc' := 11) rfl (fun T523 v523 X523 hQ523 => ?_)
  obtain ⟨rfl, e523⟩ := hQ523
  rw [e523] at X523
  show Gl p e below n0 _ _ (T523.setTop (mkF m 11 #[.val (.ref y0), .val (.ref y1), .unset, .unset, .unset, .unset] [(.int (1 : Int32))]))
  refine g_istoreN (L' := #[.val (.ref y0), .val (.ref y1), .val (.int (1 : Int32)), .unset, .unset, .unset]) X523 hx hby own_d25_11 rfl (pc' := 12) rfl ?_
  refine g_iconst (v := 0) X523 hx hby own_d25_12 rfl (pc' := 13) rfl ?_
  refine g_istoreN (L' := #[.val (.ref y0), .val (.ref y1), .val (.int (1 : Int32)), .val (.int (0 : Int32)), .unset, .unset]) X523 hx hby own_d25_13 rfl (pc' := 14) rfl ?_
  refine g_iloadN X523 hx hby own_d25_14 rfl (pc' := 15) rfl ?_
  refine g_iloadN X523 hx hby own_d25_15 rfl (pc' := 16) rfl ?_
  refine g_icmp_ge X523 hx hby own_d25_16 (by decide) (pc' := 58) (by decide) (pc2 := 19) rfl (fun q => absurd (by decide) q) (fun c16_524 => ?_)
  refine g_aloadN X523 hx hby own_d25_19 rfl rfl (pc' := 20) rfl ?_
  refine g_iloadN X523 hx hby own_d25_20 rfl (pc' := 21) rfl ?_
  refine g_callV (argsL := [(.int (0 : Int32))]) (S := []) (a := y0) X523 hx hby hZ (y := (⟨"java/lang/String", "charAt", "(I)C"⟩ : MethodName)) (y' := (⟨"java/lang/String", "charAt", "(I)C"⟩ : MethodName)) hown (hw _ (List.mem_of_getElem? (i := 91) rfl)) (hw _ (List.mem_of_getElem? (i := 92) rfl)) (notFace_of_selects (args := #[]) (mvT hZ (hw _ (List.mem_of_getElem? (i := 94) rfl)))) (hw _ (List.mem_of_getElem? (i := 94) rfl)) (hw _ (List.mem_of_getElem? (i := 93) rfl)) (hw _ (List.mem_of_getElem? (i := 10) rfl)) (hw _ (List.mem_of_getElem? (i := 95) rfl)) (by decide) Pa.exa (own_caS_1_0 l Z a0 hw y0 h0 n0 f hrf Pa cs Sc hcs fm Sf hfm Sd Sh Sl) (by rw [hml]; rfl) (lenOf own_pd17 rfl) rfl own_d25_21 (by decide) (W := 0) (by exact Nat.le_of_eq rfl) (by decide) (by decide) (by decide) (pc' := 24) rfl (fun T525 v525 X525 hQ525 => ?_)
  obtain ⟨rfl, e525⟩ := hQ525
  rw [e525] at X525
  show Gl p e below n0 _ _ (T525.setTop (mkF m 24 #[.val (.ref y0), .val (.ref y1), .val (.int (1 : Int32)), .val (.int (0 : Int32)), .unset, .unset] [(.int (f 0))]))
  refine g_istore (L' := #[.val (.ref y0), .val (.ref y1), .val (.int (1 : Int32)), .val (.int (0 : Int32)), .val (.int (f 0)), .unset]) X525 hx hby own_d25_24 rfl (pc' := 26) rfl ?_
  refine g_aloadN X525 hx hby own_d25_26 rfl rfl (pc' := 27) rfl ?_
  refine g_iloadN X525 hx hby own_d25_27 rfl (pc' := 28) rfl ?_
  refine g_callV (argsL := [(.int (0 : Int32))]) (S := []) (a := y1) X525 hx hby hZ (y := (⟨"java/lang/String", "charAt", "(I)C"⟩ : MethodName)) (y' := (⟨"java/lang/String", "charAt", "(I)C"⟩ : MethodName)) hown (hw _ (List.mem_of_getElem? (i := 91) rfl)) (hw _ (List.mem_of_getElem? (i := 92) rfl)) (notFace_of_selects (args := #[]) (mvT hZ (hw _ (List.mem_of_getElem? (i := 94) rfl)))) (hw _ (List.mem_of_getElem? (i := 94) rfl)) (hw _ (List.mem_of_getElem? (i := 93) rfl)) (hw _ (List.mem_of_getElem? (i := 10) rfl)) (hw _ (List.mem_of_getElem? (i := 95) rfl)) (by decide) Pb.exa (own_caS_1_0 l Z a0 hw y1 h0 n0 g hrg Pb cs Sc hcs fm Sf hfm Sd Sh Sl) (by rw [hml]; rfl) (lenOf own_pd17 rfl) rfl own_d25_28 (by decide) (W := 0) (by exact Nat.le_of_eq rfl) (by decide) (by decide) (by decide) (pc' := 31) rfl (fun T526 v526 X526 hQ526 => ?_)
  obtain ⟨rfl, e526⟩ := hQ526
  rw [e526] at X526
  show Gl p e below n0 _ _ (T526.setTop (mkF m 31 #[.val (.ref y0), .val (.ref y1), .val (.int (1 : Int32)), .val (.int (0 : Int32)), .val (.int (f 0)), .unset] [(.int (g 0))]))
  refine g_istore (L' := #[.val (.ref y0), .val (.ref y1), .val (.int (1 : Int32)), .val (.int (0 : Int32)), .val (.int (f 0)), .val (.int (g 0))]) X526 hx hby own_d25_31 rfl (pc' := 33) rfl ?_
  refine g_iload X526 hx hby own_d25_33 rfl (pc' := 35) rfl ?_
  refine g_iload X526 hx hby own_d25_35 rfl (pc' := 37) rfl ?_
  refine g_icmp_eq X526 hx hby own_d25_37 (by decide) (pc' := 52) (by decide) (pc2 := 40) rfl (fun c37_527 => ?_) (fun c37_527 => ?_)
  · refine g_iinc (y := 1) (L' := #[.val (.ref y0), .val (.ref y1), .val (.int (1 : Int32)), .val (.int (1 : Int32)), .val (.int (f 0)), .val (.int (g 0))]) X526 hx hby own_d25_52 rfl rfl rfl (pc' := 55) rfl ?_
    refine g_goto X526 hx hby own_d25_55 (by decide) (pc' := 14) (by decide) ?_
    refine g_iloadN X526 hx hby own_d25_14 rfl (pc' := 15) rfl ?_
    refine g_iloadN X526 hx hby own_d25_15 rfl (pc' := 16) rfl ?_
    refine g_icmp_ge X526 hx hby own_d25_16 (by decide) (pc' := 58) (by decide) (pc2 := 19) rfl (fun c16_528 => ?_) (fun q => absurd q (by decide))
    refine g_aloadN X526 hx hby own_d25_58 rfl rfl (pc' := 59) rfl ?_
    refine g_callV (argsL := []) (S := []) (a := y0) X526 hx hby hZ (y := (⟨"java/lang/String", "length", "()I"⟩ : MethodName)) (y' := (⟨"java/lang/String", "length", "()I"⟩ : MethodName)) hown (hw _ (List.mem_of_getElem? (i := 41) rfl)) (hw _ (List.mem_of_getElem? (i := 42) rfl)) (notFace_of_selects (args := #[]) (mvT hZ (hw _ (List.mem_of_getElem? (i := 44) rfl)))) (hw _ (List.mem_of_getElem? (i := 44) rfl)) (hw _ (List.mem_of_getElem? (i := 43) rfl)) (hw _ (List.mem_of_getElem? (i := 10) rfl)) (hw _ (List.mem_of_getElem? (i := 45) rfl)) (by decide) Pa.exa (own_lnS_1 l Z a0 hw y0 h0 n0 f Pa cs Sc hcs fm Sf hfm Sd Sh Sl) (by rw [hml]; rfl) (lenOf own_pd15 rfl) rfl own_d25_59 (by decide) (W := 0) (by exact Nat.le_of_eq rfl) (by decide) (by decide) (by decide) (pc' := 62) rfl (fun T529 v529 X529 hQ529 => ?_)
    obtain ⟨rfl, e529⟩ := hQ529
    rw [e529] at X529
    show Gl p e below n0 _ _ (T529.setTop (mkF m 62 #[.val (.ref y0), .val (.ref y1), .val (.int (1 : Int32)), .val (.int (1 : Int32)), .val (.int (f 0)), .val (.int (g 0))] [(.int (1 : Int32))]))
    refine g_aloadN X529 hx hby own_d25_62 rfl rfl (pc' := 63) rfl ?_
    refine g_callV (argsL := []) (S := [(.int (1 : Int32))]) (a := y1) X529 hx hby hZ (y := (⟨"java/lang/String", "length", "()I"⟩ : MethodName)) (y' := (⟨"java/lang/String", "length", "()I"⟩ : MethodName)) hown (hw _ (List.mem_of_getElem? (i := 41) rfl)) (hw _ (List.mem_of_getElem? (i := 42) rfl)) (notFace_of_selects (args := #[]) (mvT hZ (hw _ (List.mem_of_getElem? (i := 44) rfl)))) (hw _ (List.mem_of_getElem? (i := 44) rfl)) (hw _ (List.mem_of_getElem? (i := 43) rfl)) (hw _ (List.mem_of_getElem? (i := 10) rfl)) (hw _ (List.mem_of_getElem? (i := 45) rfl)) (by decide) Pb.exa (own_lnS_1 l Z a0 hw y1 h0 n0 g Pb cs Sc hcs fm Sf hfm Sd Sh Sl) (by rw [hml]; rfl) (lenOf own_pd15 rfl) rfl own_d25_63 (by decide) (W := 1) (by exact Nat.le_of_eq rfl) (by decide) (by decide) (by decide) (pc' := 66) rfl (fun T530 v530 X530 hQ530 => ?_)
    obtain ⟨rfl, e530⟩ := hQ530
    rw [e530] at X530
    show Gl p e below n0 _ _ (T530.setTop (mkF m 66 #[.val (.ref y0), .val (.ref y1), .val (.int (1 : Int32)), .val (.int (1 : Int32)), .val (.int (f 0)), .val (.int (g 0))] [(.int (1 : Int32)), (.int (1 : Int32))]))
    refine g_isub X530 hx hby own_d25_66 (pc' := 67) rfl ?_
    exact g_retI X530 hx hby hret hlk own_d25_67 ⟨congrArg (fun z => some (Value.int z)) (show ((1 : Int32) - (1 : Int32)) = own_cv1 f g ((1 : Int32) - (1 : Int32)) by simp only [own_cv1, if_pos c16_524, if_pos c37_527, if_neg c16_528]), rfl⟩ (by decide) (by decide)
  · refine g_iload X526 hx hby own_d25_40 rfl (pc' := 42) rfl ?_
    refine g_callS (argsL := [(.int (f 0))]) (S := []) X526 hx hby hZ (y := (⟨"com/example/urutan/urutan/build/CodePointOrder", "place", "(C)I"⟩ : MethodName)) hown (hw _ (List.mem_of_getElem? (i := 118) rfl)) (hw _ (List.mem_of_getElem? (i := 119) rfl)) (hw _ (List.mem_of_getElem? (i := 39) rfl)) (hw _ (List.mem_of_getElem? (i := 120) rfl)) (by decide) (own_plc l Z a0 hw ((f 0)) h0 n0) (by rw [hml]; rfl) (lenOf own_pd14 rfl) rfl own_d25_42 (by decide) (W := 0) (by exact Nat.le_of_eq rfl) (by decide) (by decide) (by decide) (pc' := 45) rfl (fun T531 v531 X531 hQ531 => ?_)
    obtain ⟨rfl, e531⟩ := hQ531
    rw [e531] at X531
    show Gl p e below n0 _ _ (T531.setTop (mkF m 45 #[.val (.ref y0), .val (.ref y1), .val (.int (1 : Int32)), .val (.int (0 : Int32)), .val (.int (f 0)), .val (.int (g 0))] [(.int (own_pl (f 0)))]))
    refine g_iload X531 hx hby own_d25_45 rfl (pc' := 47) rfl ?_
    refine g_callS (argsL := [(.int (g 0))]) (S := [(.int (own_pl (f 0)))]) X531 hx hby hZ (y := (⟨"com/example/urutan/urutan/build/CodePointOrder", "place", "(C)I"⟩ : MethodName)) hown (hw _ (List.mem_of_getElem? (i := 118) rfl)) (hw _ (List.mem_of_getElem? (i := 119) rfl)) (hw _ (List.mem_of_getElem? (i := 39) rfl)) (hw _ (List.mem_of_getElem? (i := 120) rfl)) (by decide) (own_plc l Z a0 hw ((g 0)) h0 n0) (by rw [hml]; rfl) (lenOf own_pd14 rfl) rfl own_d25_47 (by decide) (W := 1) (by exact Nat.le_of_eq rfl) (by decide) (by decide) (by decide) (pc' := 50) rfl (fun T532 v532 X532 hQ532 => ?_)
    obtain ⟨rfl, e532⟩ := hQ532
    rw [e532] at X532
    show Gl p e below n0 _ _ (T532.setTop (mkF m 50 #[.val (.ref y0), .val (.ref y1), .val (.int (1 : Int32)), .val (.int (0 : Int32)), .val (.int (f 0)), .val (.int (g 0))] [(.int (own_pl (g 0))), (.int (own_pl (f 0)))]))
    refine g_isub X532 hx hby own_d25_50 (pc' := 51) rfl ?_
    exact g_retI X532 hx hby hret hlk own_d25_51 ⟨congrArg (fun z => some (Value.int z)) (show ((own_pl (f 0)) - (own_pl (g 0))) = own_cv1 f g ((1 : Int32) - (1 : Int32)) by simp only [own_cv1, if_pos c16_524, if_neg c37_527]), rfl⟩ (by decide) (by decide)
set_option maxRecDepth 65536 in
set_option maxHeartbeats 40000000 in
theorem own_ef533 (m : MethodId) (y0 : Addr) (y1 : Addr)  : entryFrame m #[(.ref y0), (.ref y1)] 6 = mkF m 0 #[.val (.ref y0), .val (.ref y1), .unset, .unset, .unset, .unset] [] := by first | (simp [entryFrame, mkF, argsToLocals, Value.category, maxLocals]; done) | rfl
set_option maxRecDepth 65536 in
set_option maxHeartbeats 40000000 in
theorem own_cm_1_2 (l : Launch) (Z : State) (a0 : Array Value) (hw : ∀ d ∈ tables_1, d.before a0 Z = true) (y0 y1 : Addr) (h0 : Heap) (n0 : Nat) (f g : Nat → Int32) (hrf : ∀ i, 0 ≤ (f i).toInt ∧ (f i).toInt ≤ 65535) (hrg : ∀ i, 0 ≤ (g i).toInt ∧ (g i).toInt ≤ 65535) (Pa : Sg Z h0 y0 1 2 f) (Pb : Sg Z h0 y1 2 4 g) (cs : Int32) (Sc : Sta Z h0 "java/lang/String" "COMPACT_STRINGS" "Z" (.int cs)) (hcs : ¬ cs = 0) (fm : Value) (Sf : Sta Z h0 "jdk/internal/util/Preconditions" "SIOOBE_FORMATTER" "Ljava/util/function/BiFunction;" fm) (hfm : fm.isRef = true) (Sd : Sta Z h0 "java/lang/StringUTF16" "$assertionsDisabled" "Z" (.int 1)) (Sh : Sta Z h0 "java/lang/StringUTF16" "HI_BYTE_SHIFT" "I" (.int 0)) (Sl : Sta Z h0 "java/lang/StringUTF16" "LO_BYTE_SHIFT" "I" (.int 8)) :
    Ctr l Z (⟨"com/example/urutan/urutan/build/CodePointOrder", "compare", "(Ljava/lang/String;Ljava/lang/String;)I"⟩ : MethodName) prog_2_method_2_code 6 (some .int) [] (own_room 5 0 0 66) #[(.ref y0), (.ref y1)] h0 n0 0 0 (fun v h => v = some (.int (own_cv1 f g ((1 : Int32) - (2 : Int32)))) ∧ h = h0) := by
  refine Ctr.of (plainFor_of_name own_pn4) ?_
  intro p e s m below meth c T0 hx hby hml hret hlk hnm hown hZ X0
  rw [own_ef533 m (y0) (y1)]
  refine g_aloadN X0 hx hby own_d25_0 rfl rfl (pc' := 1) rfl ?_
  refine g_callV (argsL := []) (S := []) (a := y0) X0 hx hby hZ (y := (⟨"java/lang/String", "length", "()I"⟩ : MethodName)) (y' := (⟨"java/lang/String", "length", "()I"⟩ : MethodName)) hown (hw _ (List.mem_of_getElem? (i := 41) rfl)) (hw _ (List.mem_of_getElem? (i := 42) rfl)) (notFace_of_selects (args := #[]) (mvT hZ (hw _ (List.mem_of_getElem? (i := 44) rfl)))) (hw _ (List.mem_of_getElem? (i := 44) rfl)) (hw _ (List.mem_of_getElem? (i := 43) rfl)) (hw _ (List.mem_of_getElem? (i := 10) rfl)) (hw _ (List.mem_of_getElem? (i := 45) rfl)) (by decide) Pa.exa (own_lnS_1 l Z a0 hw y0 h0 n0 f Pa cs Sc hcs fm Sf hfm Sd Sh Sl) (by rw [hml]; rfl) (lenOf own_pd15 rfl) rfl own_d25_1 (by decide) (W := 0) (by exact Nat.le_of_eq rfl) (by decide) (by decide) (by decide) (pc' := 4) rfl (fun T534 v534 X534 hQ534 => ?_)
  obtain ⟨rfl, e534⟩ := hQ534
  rw [e534] at X534
  show Gl p e below n0 _ _ (T534.setTop (mkF m 4 #[.val (.ref y0), .val (.ref y1), .unset, .unset, .unset, .unset] [(.int (1 : Int32))]))
  refine g_aloadN X534 hx hby own_d25_4 rfl rfl (pc' := 5) rfl ?_
  refine g_callV (argsL := []) (S := [(.int (1 : Int32))]) (a := y1) X534 hx hby hZ (y := (⟨"java/lang/String", "length", "()I"⟩ : MethodName)) (y' := (⟨"java/lang/String", "length", "()I"⟩ : MethodName)) hown (hw _ (List.mem_of_getElem? (i := 41) rfl)) (hw _ (List.mem_of_getElem? (i := 42) rfl)) (notFace_of_selects (args := #[]) (mvT hZ (hw _ (List.mem_of_getElem? (i := 44) rfl)))) (hw _ (List.mem_of_getElem? (i := 44) rfl)) (hw _ (List.mem_of_getElem? (i := 43) rfl)) (hw _ (List.mem_of_getElem? (i := 10) rfl)) (hw _ (List.mem_of_getElem? (i := 45) rfl)) (by decide) Pb.exa (own_lnS_2 l Z a0 hw y1 h0 n0 g Pb cs Sc hcs fm Sf hfm Sd Sh Sl) (by rw [hml]; rfl) (lenOf own_pd15 rfl) rfl own_d25_5 (by decide) (W := 1) (by exact Nat.le_of_eq rfl) (by decide) (by decide) (by decide) (pc' := 8) rfl (fun T535 v535 X535 hQ535 => ?_)
  obtain ⟨rfl, e535⟩ := hQ535
  rw [e535] at X535
  show Gl p e below n0 _ _ (T535.setTop (mkF m 8 #[.val (.ref y0), .val (.ref y1), .unset, .unset, .unset, .unset] [(.int (2 : Int32)), (.int (1 : Int32))]))
  refine g_callS (argsL := [(.int (1 : Int32)), (.int (2 : Int32))]) (S := []) X535 hx hby hZ (y := (⟨"java/lang/Math", "min", "(II)I"⟩ : MethodName)) hown (hw _ (List.mem_of_getElem? (i := 52) rfl)) (hw _ (List.mem_of_getElem? (i := 31) rfl)) (hw _ (List.mem_of_getElem? (i := 32) rfl)) (hw _ (List.mem_of_getElem? (i := 33) rfl)) (by decide) (own_minA l Z a0 hw (1 : Int32) (2 : Int32) h0 n0 (by decide)) (by rw [hml]; rfl) (lenOf own_pd16 rfl) rfl own_d25_8 (by decide) (W := 0) (by exact Nat.le_of_eq rfl) (by decide) (by decide) (by decide) (pc' := 11) rfl (fun T536 v536 X536 hQ536 => ?_)
  obtain ⟨rfl, e536⟩ := hQ536
  rw [e536] at X536
  show Gl p e below n0 _ _ (T536.setTop (mkF m 11 #[.val (.ref y0), .val (.ref y1), .unset, .unset, .unset, .unset] [(.int (1 : Int32))]))
  refine g_istoreN (L' := #[.val (.ref y0), .val (.ref y1), .val (.int (1 : Int32)), .unset, .unset, .unset]) X536 hx hby own_d25_11 rfl (pc' := 12) rfl ?_
  refine g_iconst (v := 0) X536 hx hby own_d25_12 rfl (pc' := 13) rfl ?_
  refine g_istoreN (L' := #[.val (.ref y0), .val (.ref y1), .val (.int (1 : Int32)), .val (.int (0 : Int32)), .unset, .unset]) X536 hx hby own_d25_13 rfl (pc' := 14) rfl ?_
  refine g_iloadN X536 hx hby own_d25_14 rfl (pc' := 15) rfl ?_
  refine g_iloadN X536 hx hby own_d25_15 rfl (pc' := 16) rfl ?_
  refine g_icmp_ge X536 hx hby own_d25_16 (by decide) (pc' := 58) (by decide) (pc2 := 19) rfl (fun q => absurd (by decide) q) (fun c16_537 => ?_)
  refine g_aloadN X536 hx hby own_d25_19 rfl rfl (pc' := 20) rfl ?_
  refine g_iloadN X536 hx hby own_d25_20 rfl (pc' := 21) rfl ?_
  refine g_callV (argsL := [(.int (0 : Int32))]) (S := []) (a := y0) X536 hx hby hZ (y := (⟨"java/lang/String", "charAt", "(I)C"⟩ : MethodName)) (y' := (⟨"java/lang/String", "charAt", "(I)C"⟩ : MethodName)) hown (hw _ (List.mem_of_getElem? (i := 91) rfl)) (hw _ (List.mem_of_getElem? (i := 92) rfl)) (notFace_of_selects (args := #[]) (mvT hZ (hw _ (List.mem_of_getElem? (i := 94) rfl)))) (hw _ (List.mem_of_getElem? (i := 94) rfl)) (hw _ (List.mem_of_getElem? (i := 93) rfl)) (hw _ (List.mem_of_getElem? (i := 10) rfl)) (hw _ (List.mem_of_getElem? (i := 95) rfl)) (by decide) Pa.exa (own_caS_1_0 l Z a0 hw y0 h0 n0 f hrf Pa cs Sc hcs fm Sf hfm Sd Sh Sl) (by rw [hml]; rfl) (lenOf own_pd17 rfl) rfl own_d25_21 (by decide) (W := 0) (by exact Nat.le_of_eq rfl) (by decide) (by decide) (by decide) (pc' := 24) rfl (fun T538 v538 X538 hQ538 => ?_)
  obtain ⟨rfl, e538⟩ := hQ538
  rw [e538] at X538
  show Gl p e below n0 _ _ (T538.setTop (mkF m 24 #[.val (.ref y0), .val (.ref y1), .val (.int (1 : Int32)), .val (.int (0 : Int32)), .unset, .unset] [(.int (f 0))]))
  refine g_istore (L' := #[.val (.ref y0), .val (.ref y1), .val (.int (1 : Int32)), .val (.int (0 : Int32)), .val (.int (f 0)), .unset]) X538 hx hby own_d25_24 rfl (pc' := 26) rfl ?_
  refine g_aloadN X538 hx hby own_d25_26 rfl rfl (pc' := 27) rfl ?_
  refine g_iloadN X538 hx hby own_d25_27 rfl (pc' := 28) rfl ?_
  refine g_callV (argsL := [(.int (0 : Int32))]) (S := []) (a := y1) X538 hx hby hZ (y := (⟨"java/lang/String", "charAt", "(I)C"⟩ : MethodName)) (y' := (⟨"java/lang/String", "charAt", "(I)C"⟩ : MethodName)) hown (hw _ (List.mem_of_getElem? (i := 91) rfl)) (hw _ (List.mem_of_getElem? (i := 92) rfl)) (notFace_of_selects (args := #[]) (mvT hZ (hw _ (List.mem_of_getElem? (i := 94) rfl)))) (hw _ (List.mem_of_getElem? (i := 94) rfl)) (hw _ (List.mem_of_getElem? (i := 93) rfl)) (hw _ (List.mem_of_getElem? (i := 10) rfl)) (hw _ (List.mem_of_getElem? (i := 95) rfl)) (by decide) Pb.exa (own_caS_2_0 l Z a0 hw y1 h0 n0 g hrg Pb cs Sc hcs fm Sf hfm Sd Sh Sl) (by rw [hml]; rfl) (lenOf own_pd17 rfl) rfl own_d25_28 (by decide) (W := 0) (by exact Nat.le_of_eq rfl) (by decide) (by decide) (by decide) (pc' := 31) rfl (fun T539 v539 X539 hQ539 => ?_)
  obtain ⟨rfl, e539⟩ := hQ539
  rw [e539] at X539
  show Gl p e below n0 _ _ (T539.setTop (mkF m 31 #[.val (.ref y0), .val (.ref y1), .val (.int (1 : Int32)), .val (.int (0 : Int32)), .val (.int (f 0)), .unset] [(.int (g 0))]))
  refine g_istore (L' := #[.val (.ref y0), .val (.ref y1), .val (.int (1 : Int32)), .val (.int (0 : Int32)), .val (.int (f 0)), .val (.int (g 0))]) X539 hx hby own_d25_31 rfl (pc' := 33) rfl ?_
  refine g_iload X539 hx hby own_d25_33 rfl (pc' := 35) rfl ?_
  refine g_iload X539 hx hby own_d25_35 rfl (pc' := 37) rfl ?_
  refine g_icmp_eq X539 hx hby own_d25_37 (by decide) (pc' := 52) (by decide) (pc2 := 40) rfl (fun c37_540 => ?_) (fun c37_540 => ?_)
  · refine g_iinc (y := 1) (L' := #[.val (.ref y0), .val (.ref y1), .val (.int (1 : Int32)), .val (.int (1 : Int32)), .val (.int (f 0)), .val (.int (g 0))]) X539 hx hby own_d25_52 rfl rfl rfl (pc' := 55) rfl ?_
    refine g_goto X539 hx hby own_d25_55 (by decide) (pc' := 14) (by decide) ?_
    refine g_iloadN X539 hx hby own_d25_14 rfl (pc' := 15) rfl ?_
    refine g_iloadN X539 hx hby own_d25_15 rfl (pc' := 16) rfl ?_
    refine g_icmp_ge X539 hx hby own_d25_16 (by decide) (pc' := 58) (by decide) (pc2 := 19) rfl (fun c16_541 => ?_) (fun q => absurd q (by decide))
    refine g_aloadN X539 hx hby own_d25_58 rfl rfl (pc' := 59) rfl ?_
    refine g_callV (argsL := []) (S := []) (a := y0) X539 hx hby hZ (y := (⟨"java/lang/String", "length", "()I"⟩ : MethodName)) (y' := (⟨"java/lang/String", "length", "()I"⟩ : MethodName)) hown (hw _ (List.mem_of_getElem? (i := 41) rfl)) (hw _ (List.mem_of_getElem? (i := 42) rfl)) (notFace_of_selects (args := #[]) (mvT hZ (hw _ (List.mem_of_getElem? (i := 44) rfl)))) (hw _ (List.mem_of_getElem? (i := 44) rfl)) (hw _ (List.mem_of_getElem? (i := 43) rfl)) (hw _ (List.mem_of_getElem? (i := 10) rfl)) (hw _ (List.mem_of_getElem? (i := 45) rfl)) (by decide) Pa.exa (own_lnS_1 l Z a0 hw y0 h0 n0 f Pa cs Sc hcs fm Sf hfm Sd Sh Sl) (by rw [hml]; rfl) (lenOf own_pd15 rfl) rfl own_d25_59 (by decide) (W := 0) (by exact Nat.le_of_eq rfl) (by decide) (by decide) (by decide) (pc' := 62) rfl (fun T542 v542 X542 hQ542 => ?_)
    obtain ⟨rfl, e542⟩ := hQ542
    rw [e542] at X542
    show Gl p e below n0 _ _ (T542.setTop (mkF m 62 #[.val (.ref y0), .val (.ref y1), .val (.int (1 : Int32)), .val (.int (1 : Int32)), .val (.int (f 0)), .val (.int (g 0))] [(.int (1 : Int32))]))
    refine g_aloadN X542 hx hby own_d25_62 rfl rfl (pc' := 63) rfl ?_
    refine g_callV (argsL := []) (S := [(.int (1 : Int32))]) (a := y1) X542 hx hby hZ (y := (⟨"java/lang/String", "length", "()I"⟩ : MethodName)) (y' := (⟨"java/lang/String", "length", "()I"⟩ : MethodName)) hown (hw _ (List.mem_of_getElem? (i := 41) rfl)) (hw _ (List.mem_of_getElem? (i := 42) rfl)) (notFace_of_selects (args := #[]) (mvT hZ (hw _ (List.mem_of_getElem? (i := 44) rfl)))) (hw _ (List.mem_of_getElem? (i := 44) rfl)) (hw _ (List.mem_of_getElem? (i := 43) rfl)) (hw _ (List.mem_of_getElem? (i := 10) rfl)) (hw _ (List.mem_of_getElem? (i := 45) rfl)) (by decide) Pb.exa (own_lnS_2 l Z a0 hw y1 h0 n0 g Pb cs Sc hcs fm Sf hfm Sd Sh Sl) (by rw [hml]; rfl) (lenOf own_pd15 rfl) rfl own_d25_63 (by decide) (W := 1) (by exact Nat.le_of_eq rfl) (by decide) (by decide) (by decide) (pc' := 66) rfl (fun T543 v543 X543 hQ543 => ?_)
    obtain ⟨rfl, e543⟩ := hQ543
    rw [e543] at X543
    show Gl p e below n0 _ _ (T543.setTop (mkF m 66 #[.val (.ref y0), .val (.ref y1), .val (.int (1 : Int32)), .val (.int (1 : Int32)), .val (.int (f 0)), .val (.int (g 0))] [(.int (2 : Int32)), (.int (1 : Int32))]))
    refine g_isub X543 hx hby own_d25_66 (pc' := 67) rfl ?_
    exact g_retI X543 hx hby hret hlk own_d25_67 ⟨congrArg (fun z => some (Value.int z)) (show ((1 : Int32) - (2 : Int32)) = own_cv1 f g ((1 : Int32) - (2 : Int32)) by simp only [own_cv1, if_pos c16_537, if_pos c37_540, if_neg c16_541]), rfl⟩ (by decide) (by decide)
  · refine g_iload X539 hx hby own_d25_40 rfl (pc' := 42) rfl ?_
    refine g_callS (argsL := [(.int (f 0))]) (S := []) X539 hx hby hZ (y := (⟨"com/example/urutan/urutan/build/CodePointOrder", "place", "(C)I"⟩ : MethodName)) hown (hw _ (List.mem_of_getElem? (i := 118) rfl)) (hw _ (List.mem_of_getElem? (i := 119) rfl)) (hw _ (List.mem_of_getElem? (i := 39) rfl)) (hw _ (List.mem_of_getElem? (i := 120) rfl)) (by decide) (own_plc l Z a0 hw ((f 0)) h0 n0) (by rw [hml]; rfl) (lenOf own_pd14 rfl) rfl own_d25_42 (by decide) (W := 0) (by exact Nat.le_of_eq rfl) (by decide) (by decide) (by decide) (pc' := 45) rfl (fun T544 v544 X544 hQ544 => ?_)
    obtain ⟨rfl, e544⟩ := hQ544
    rw [e544] at X544
    show Gl p e below n0 _ _ (T544.setTop (mkF m 45 #[.val (.ref y0), .val (.ref y1), .val (.int (1 : Int32)), .val (.int (0 : Int32)), .val (.int (f 0)), .val (.int (g 0))] [(.int (own_pl (f 0)))]))
    refine g_iload X544 hx hby own_d25_45 rfl (pc' := 47) rfl ?_
    refine g_callS (argsL := [(.int (g 0))]) (S := [(.int (own_pl (f 0)))]) X544 hx hby hZ (y := (⟨"com/example/urutan/urutan/build/CodePointOrder", "place", "(C)I"⟩ : MethodName)) hown (hw _ (List.mem_of_getElem? (i := 118) rfl)) (hw _ (List.mem_of_getElem? (i := 119) rfl)) (hw _ (List.mem_of_getElem? (i := 39) rfl)) (hw _ (List.mem_of_getElem? (i := 120) rfl)) (by decide) (own_plc l Z a0 hw ((g 0)) h0 n0) (by rw [hml]; rfl) (lenOf own_pd14 rfl) rfl own_d25_47 (by decide) (W := 1) (by exact Nat.le_of_eq rfl) (by decide) (by decide) (by decide) (pc' := 50) rfl (fun T545 v545 X545 hQ545 => ?_)
    obtain ⟨rfl, e545⟩ := hQ545
    rw [e545] at X545
    show Gl p e below n0 _ _ (T545.setTop (mkF m 50 #[.val (.ref y0), .val (.ref y1), .val (.int (1 : Int32)), .val (.int (0 : Int32)), .val (.int (f 0)), .val (.int (g 0))] [(.int (own_pl (g 0))), (.int (own_pl (f 0)))]))
    refine g_isub X545 hx hby own_d25_50 (pc' := 51) rfl ?_
    exact g_retI X545 hx hby hret hlk own_d25_51 ⟨congrArg (fun z => some (Value.int z)) (show ((own_pl (f 0)) - (own_pl (g 0))) = own_cv1 f g ((1 : Int32) - (2 : Int32)) by simp only [own_cv1, if_pos c16_537, if_neg c37_540]), rfl⟩ (by decide) (by decide)
set_option maxRecDepth 65536 in
set_option maxHeartbeats 40000000 in
theorem own_ef546 (m : MethodId) (y0 : Addr) (y1 : Addr)  : entryFrame m #[(.ref y0), (.ref y1)] 6 = mkF m 0 #[.val (.ref y0), .val (.ref y1), .unset, .unset, .unset, .unset] [] := by first | (simp [entryFrame, mkF, argsToLocals, Value.category, maxLocals]; done) | rfl
set_option maxRecDepth 65536 in
set_option maxHeartbeats 40000000 in
theorem own_cm_2_0 (l : Launch) (Z : State) (a0 : Array Value) (hw : ∀ d ∈ tables_1, d.before a0 Z = true) (y0 y1 : Addr) (h0 : Heap) (n0 : Nat) (f g : Nat → Int32) (hrf : ∀ i, 0 ≤ (f i).toInt ∧ (f i).toInt ≤ 65535) (hrg : ∀ i, 0 ≤ (g i).toInt ∧ (g i).toInt ≤ 65535) (Pa : Sg Z h0 y0 2 4 f) (Pb : Sg Z h0 y1 0 0 g) (cs : Int32) (Sc : Sta Z h0 "java/lang/String" "COMPACT_STRINGS" "Z" (.int cs)) (hcs : ¬ cs = 0) (fm : Value) (Sf : Sta Z h0 "jdk/internal/util/Preconditions" "SIOOBE_FORMATTER" "Ljava/util/function/BiFunction;" fm) (hfm : fm.isRef = true) (Sd : Sta Z h0 "java/lang/StringUTF16" "$assertionsDisabled" "Z" (.int 1)) (Sh : Sta Z h0 "java/lang/StringUTF16" "HI_BYTE_SHIFT" "I" (.int 0)) (Sl : Sta Z h0 "java/lang/StringUTF16" "LO_BYTE_SHIFT" "I" (.int 8)) :
    Ctr l Z (⟨"com/example/urutan/urutan/build/CodePointOrder", "compare", "(Ljava/lang/String;Ljava/lang/String;)I"⟩ : MethodName) prog_2_method_2_code 6 (some .int) [] (own_room 5 0 0 66) #[(.ref y0), (.ref y1)] h0 n0 0 0 (fun v h => v = some (.int (own_cv0 f g ((2 : Int32) - (0 : Int32)))) ∧ h = h0) := by
  refine Ctr.of (plainFor_of_name own_pn4) ?_
  intro p e s m below meth c T0 hx hby hml hret hlk hnm hown hZ X0
  rw [own_ef546 m (y0) (y1)]
  refine g_aloadN X0 hx hby own_d25_0 rfl rfl (pc' := 1) rfl ?_
  refine g_callV (argsL := []) (S := []) (a := y0) X0 hx hby hZ (y := (⟨"java/lang/String", "length", "()I"⟩ : MethodName)) (y' := (⟨"java/lang/String", "length", "()I"⟩ : MethodName)) hown (hw _ (List.mem_of_getElem? (i := 41) rfl)) (hw _ (List.mem_of_getElem? (i := 42) rfl)) (notFace_of_selects (args := #[]) (mvT hZ (hw _ (List.mem_of_getElem? (i := 44) rfl)))) (hw _ (List.mem_of_getElem? (i := 44) rfl)) (hw _ (List.mem_of_getElem? (i := 43) rfl)) (hw _ (List.mem_of_getElem? (i := 10) rfl)) (hw _ (List.mem_of_getElem? (i := 45) rfl)) (by decide) Pa.exa (own_lnS_2 l Z a0 hw y0 h0 n0 f Pa cs Sc hcs fm Sf hfm Sd Sh Sl) (by rw [hml]; rfl) (lenOf own_pd15 rfl) rfl own_d25_1 (by decide) (W := 0) (by exact Nat.le_of_eq rfl) (by decide) (by decide) (by decide) (pc' := 4) rfl (fun T547 v547 X547 hQ547 => ?_)
  obtain ⟨rfl, e547⟩ := hQ547
  rw [e547] at X547
  show Gl p e below n0 _ _ (T547.setTop (mkF m 4 #[.val (.ref y0), .val (.ref y1), .unset, .unset, .unset, .unset] [(.int (2 : Int32))]))
  refine g_aloadN X547 hx hby own_d25_4 rfl rfl (pc' := 5) rfl ?_
  refine g_callV (argsL := []) (S := [(.int (2 : Int32))]) (a := y1) X547 hx hby hZ (y := (⟨"java/lang/String", "length", "()I"⟩ : MethodName)) (y' := (⟨"java/lang/String", "length", "()I"⟩ : MethodName)) hown (hw _ (List.mem_of_getElem? (i := 41) rfl)) (hw _ (List.mem_of_getElem? (i := 42) rfl)) (notFace_of_selects (args := #[]) (mvT hZ (hw _ (List.mem_of_getElem? (i := 44) rfl)))) (hw _ (List.mem_of_getElem? (i := 44) rfl)) (hw _ (List.mem_of_getElem? (i := 43) rfl)) (hw _ (List.mem_of_getElem? (i := 10) rfl)) (hw _ (List.mem_of_getElem? (i := 45) rfl)) (by decide) Pb.exa (own_lnS_0 l Z a0 hw y1 h0 n0 g Pb cs Sc hcs fm Sf hfm Sd Sh Sl) (by rw [hml]; rfl) (lenOf own_pd15 rfl) rfl own_d25_5 (by decide) (W := 1) (by exact Nat.le_of_eq rfl) (by decide) (by decide) (by decide) (pc' := 8) rfl (fun T548 v548 X548 hQ548 => ?_)
  obtain ⟨rfl, e548⟩ := hQ548
  rw [e548] at X548
  show Gl p e below n0 _ _ (T548.setTop (mkF m 8 #[.val (.ref y0), .val (.ref y1), .unset, .unset, .unset, .unset] [(.int (0 : Int32)), (.int (2 : Int32))]))
  refine g_callS (argsL := [(.int (2 : Int32)), (.int (0 : Int32))]) (S := []) X548 hx hby hZ (y := (⟨"java/lang/Math", "min", "(II)I"⟩ : MethodName)) hown (hw _ (List.mem_of_getElem? (i := 52) rfl)) (hw _ (List.mem_of_getElem? (i := 31) rfl)) (hw _ (List.mem_of_getElem? (i := 32) rfl)) (hw _ (List.mem_of_getElem? (i := 33) rfl)) (by decide) (own_minB l Z a0 hw (2 : Int32) (0 : Int32) h0 n0 (by decide)) (by rw [hml]; rfl) (lenOf own_pd16 rfl) rfl own_d25_8 (by decide) (W := 0) (by exact Nat.le_of_eq rfl) (by decide) (by decide) (by decide) (pc' := 11) rfl (fun T549 v549 X549 hQ549 => ?_)
  obtain ⟨rfl, e549⟩ := hQ549
  rw [e549] at X549
  show Gl p e below n0 _ _ (T549.setTop (mkF m 11 #[.val (.ref y0), .val (.ref y1), .unset, .unset, .unset, .unset] [(.int (0 : Int32))]))
  refine g_istoreN (L' := #[.val (.ref y0), .val (.ref y1), .val (.int (0 : Int32)), .unset, .unset, .unset]) X549 hx hby own_d25_11 rfl (pc' := 12) rfl ?_
  refine g_iconst (v := 0) X549 hx hby own_d25_12 rfl (pc' := 13) rfl ?_
  refine g_istoreN (L' := #[.val (.ref y0), .val (.ref y1), .val (.int (0 : Int32)), .val (.int (0 : Int32)), .unset, .unset]) X549 hx hby own_d25_13 rfl (pc' := 14) rfl ?_
  refine g_iloadN X549 hx hby own_d25_14 rfl (pc' := 15) rfl ?_
  refine g_iloadN X549 hx hby own_d25_15 rfl (pc' := 16) rfl ?_
  refine g_icmp_ge X549 hx hby own_d25_16 (by decide) (pc' := 58) (by decide) (pc2 := 19) rfl (fun c16_550 => ?_) (fun q => absurd q (by decide))
  refine g_aloadN X549 hx hby own_d25_58 rfl rfl (pc' := 59) rfl ?_
  refine g_callV (argsL := []) (S := []) (a := y0) X549 hx hby hZ (y := (⟨"java/lang/String", "length", "()I"⟩ : MethodName)) (y' := (⟨"java/lang/String", "length", "()I"⟩ : MethodName)) hown (hw _ (List.mem_of_getElem? (i := 41) rfl)) (hw _ (List.mem_of_getElem? (i := 42) rfl)) (notFace_of_selects (args := #[]) (mvT hZ (hw _ (List.mem_of_getElem? (i := 44) rfl)))) (hw _ (List.mem_of_getElem? (i := 44) rfl)) (hw _ (List.mem_of_getElem? (i := 43) rfl)) (hw _ (List.mem_of_getElem? (i := 10) rfl)) (hw _ (List.mem_of_getElem? (i := 45) rfl)) (by decide) Pa.exa (own_lnS_2 l Z a0 hw y0 h0 n0 f Pa cs Sc hcs fm Sf hfm Sd Sh Sl) (by rw [hml]; rfl) (lenOf own_pd15 rfl) rfl own_d25_59 (by decide) (W := 0) (by exact Nat.le_of_eq rfl) (by decide) (by decide) (by decide) (pc' := 62) rfl (fun T551 v551 X551 hQ551 => ?_)
  obtain ⟨rfl, e551⟩ := hQ551
  rw [e551] at X551
  show Gl p e below n0 _ _ (T551.setTop (mkF m 62 #[.val (.ref y0), .val (.ref y1), .val (.int (0 : Int32)), .val (.int (0 : Int32)), .unset, .unset] [(.int (2 : Int32))]))
  refine g_aloadN X551 hx hby own_d25_62 rfl rfl (pc' := 63) rfl ?_
  refine g_callV (argsL := []) (S := [(.int (2 : Int32))]) (a := y1) X551 hx hby hZ (y := (⟨"java/lang/String", "length", "()I"⟩ : MethodName)) (y' := (⟨"java/lang/String", "length", "()I"⟩ : MethodName)) hown (hw _ (List.mem_of_getElem? (i := 41) rfl)) (hw _ (List.mem_of_getElem? (i := 42) rfl)) (notFace_of_selects (args := #[]) (mvT hZ (hw _ (List.mem_of_getElem? (i := 44) rfl)))) (hw _ (List.mem_of_getElem? (i := 44) rfl)) (hw _ (List.mem_of_getElem? (i := 43) rfl)) (hw _ (List.mem_of_getElem? (i := 10) rfl)) (hw _ (List.mem_of_getElem? (i := 45) rfl)) (by decide) Pb.exa (own_lnS_0 l Z a0 hw y1 h0 n0 g Pb cs Sc hcs fm Sf hfm Sd Sh Sl) (by rw [hml]; rfl) (lenOf own_pd15 rfl) rfl own_d25_63 (by decide) (W := 1) (by exact Nat.le_of_eq rfl) (by decide) (by decide) (by decide) (pc' := 66) rfl (fun T552 v552 X552 hQ552 => ?_)
  obtain ⟨rfl, e552⟩ := hQ552
  rw [e552] at X552
  show Gl p e below n0 _ _ (T552.setTop (mkF m 66 #[.val (.ref y0), .val (.ref y1), .val (.int (0 : Int32)), .val (.int (0 : Int32)), .unset, .unset] [(.int (0 : Int32)), (.int (2 : Int32))]))
  refine g_isub X552 hx hby own_d25_66 (pc' := 67) rfl ?_
  exact g_retI X552 hx hby hret hlk own_d25_67 ⟨congrArg (fun z => some (Value.int z)) (show ((2 : Int32) - (0 : Int32)) = own_cv0 f g ((2 : Int32) - (0 : Int32)) by simp only [own_cv0, if_neg c16_550]), rfl⟩ (by decide) (by decide)
set_option maxRecDepth 65536 in
set_option maxHeartbeats 40000000 in
theorem own_ef553 (m : MethodId) (y0 : Addr) (y1 : Addr)  : entryFrame m #[(.ref y0), (.ref y1)] 6 = mkF m 0 #[.val (.ref y0), .val (.ref y1), .unset, .unset, .unset, .unset] [] := by first | (simp [entryFrame, mkF, argsToLocals, Value.category, maxLocals]; done) | rfl
set_option maxRecDepth 65536 in
set_option maxHeartbeats 40000000 in
theorem own_cm_2_1 (l : Launch) (Z : State) (a0 : Array Value) (hw : ∀ d ∈ tables_1, d.before a0 Z = true) (y0 y1 : Addr) (h0 : Heap) (n0 : Nat) (f g : Nat → Int32) (hrf : ∀ i, 0 ≤ (f i).toInt ∧ (f i).toInt ≤ 65535) (hrg : ∀ i, 0 ≤ (g i).toInt ∧ (g i).toInt ≤ 65535) (Pa : Sg Z h0 y0 2 4 f) (Pb : Sg Z h0 y1 1 2 g) (cs : Int32) (Sc : Sta Z h0 "java/lang/String" "COMPACT_STRINGS" "Z" (.int cs)) (hcs : ¬ cs = 0) (fm : Value) (Sf : Sta Z h0 "jdk/internal/util/Preconditions" "SIOOBE_FORMATTER" "Ljava/util/function/BiFunction;" fm) (hfm : fm.isRef = true) (Sd : Sta Z h0 "java/lang/StringUTF16" "$assertionsDisabled" "Z" (.int 1)) (Sh : Sta Z h0 "java/lang/StringUTF16" "HI_BYTE_SHIFT" "I" (.int 0)) (Sl : Sta Z h0 "java/lang/StringUTF16" "LO_BYTE_SHIFT" "I" (.int 8)) :
    Ctr l Z (⟨"com/example/urutan/urutan/build/CodePointOrder", "compare", "(Ljava/lang/String;Ljava/lang/String;)I"⟩ : MethodName) prog_2_method_2_code 6 (some .int) [] (own_room 5 0 0 66) #[(.ref y0), (.ref y1)] h0 n0 0 0 (fun v h => v = some (.int (own_cv1 f g ((2 : Int32) - (1 : Int32)))) ∧ h = h0) := by
  refine Ctr.of (plainFor_of_name own_pn4) ?_
  intro p e s m below meth c T0 hx hby hml hret hlk hnm hown hZ X0
  rw [own_ef553 m (y0) (y1)]
  refine g_aloadN X0 hx hby own_d25_0 rfl rfl (pc' := 1) rfl ?_
  refine g_callV (argsL := []) (S := []) (a := y0) X0 hx hby hZ (y := (⟨"java/lang/String", "length", "()I"⟩ : MethodName)) (y' := (⟨"java/lang/String", "length", "()I"⟩ : MethodName)) hown (hw _ (List.mem_of_getElem? (i := 41) rfl)) (hw _ (List.mem_of_getElem? (i := 42) rfl)) (notFace_of_selects (args := #[]) (mvT hZ (hw _ (List.mem_of_getElem? (i := 44) rfl)))) (hw _ (List.mem_of_getElem? (i := 44) rfl)) (hw _ (List.mem_of_getElem? (i := 43) rfl)) (hw _ (List.mem_of_getElem? (i := 10) rfl)) (hw _ (List.mem_of_getElem? (i := 45) rfl)) (by decide) Pa.exa (own_lnS_2 l Z a0 hw y0 h0 n0 f Pa cs Sc hcs fm Sf hfm Sd Sh Sl) (by rw [hml]; rfl) (lenOf own_pd15 rfl) rfl own_d25_1 (by decide) (W := 0) (by exact Nat.le_of_eq rfl) (by decide) (by decide) (by decide) (pc' := 4) rfl (fun T554 v554 X554 hQ554 => ?_)
  obtain ⟨rfl, e554⟩ := hQ554
  rw [e554] at X554
  show Gl p e below n0 _ _ (T554.setTop (mkF m 4 #[.val (.ref y0), .val (.ref y1), .unset, .unset, .unset, .unset] [(.int (2 : Int32))]))
  refine g_aloadN X554 hx hby own_d25_4 rfl rfl (pc' := 5) rfl ?_
  refine g_callV (argsL := []) (S := [(.int (2 : Int32))]) (a := y1) X554 hx hby hZ (y := (⟨"java/lang/String", "length", "()I"⟩ : MethodName)) (y' := (⟨"java/lang/String", "length", "()I"⟩ : MethodName)) hown (hw _ (List.mem_of_getElem? (i := 41) rfl)) (hw _ (List.mem_of_getElem? (i := 42) rfl)) (notFace_of_selects (args := #[]) (mvT hZ (hw _ (List.mem_of_getElem? (i := 44) rfl)))) (hw _ (List.mem_of_getElem? (i := 44) rfl)) (hw _ (List.mem_of_getElem? (i := 43) rfl)) (hw _ (List.mem_of_getElem? (i := 10) rfl)) (hw _ (List.mem_of_getElem? (i := 45) rfl)) (by decide) Pb.exa (own_lnS_1 l Z a0 hw y1 h0 n0 g Pb cs Sc hcs fm Sf hfm Sd Sh Sl) (by rw [hml]; rfl) (lenOf own_pd15 rfl) rfl own_d25_5 (by decide) (W := 1) (by exact Nat.le_of_eq rfl) (by decide) (by decide) (by decide) (pc' := 8) rfl (fun T555 v555 X555 hQ555 => ?_)
  obtain ⟨rfl, e555⟩ := hQ555
  rw [e555] at X555
  show Gl p e below n0 _ _ (T555.setTop (mkF m 8 #[.val (.ref y0), .val (.ref y1), .unset, .unset, .unset, .unset] [(.int (1 : Int32)), (.int (2 : Int32))]))
  refine g_callS (argsL := [(.int (2 : Int32)), (.int (1 : Int32))]) (S := []) X555 hx hby hZ (y := (⟨"java/lang/Math", "min", "(II)I"⟩ : MethodName)) hown (hw _ (List.mem_of_getElem? (i := 52) rfl)) (hw _ (List.mem_of_getElem? (i := 31) rfl)) (hw _ (List.mem_of_getElem? (i := 32) rfl)) (hw _ (List.mem_of_getElem? (i := 33) rfl)) (by decide) (own_minB l Z a0 hw (2 : Int32) (1 : Int32) h0 n0 (by decide)) (by rw [hml]; rfl) (lenOf own_pd16 rfl) rfl own_d25_8 (by decide) (W := 0) (by exact Nat.le_of_eq rfl) (by decide) (by decide) (by decide) (pc' := 11) rfl (fun T556 v556 X556 hQ556 => ?_)
  obtain ⟨rfl, e556⟩ := hQ556
  rw [e556] at X556
  show Gl p e below n0 _ _ (T556.setTop (mkF m 11 #[.val (.ref y0), .val (.ref y1), .unset, .unset, .unset, .unset] [(.int (1 : Int32))]))
  refine g_istoreN (L' := #[.val (.ref y0), .val (.ref y1), .val (.int (1 : Int32)), .unset, .unset, .unset]) X556 hx hby own_d25_11 rfl (pc' := 12) rfl ?_
  refine g_iconst (v := 0) X556 hx hby own_d25_12 rfl (pc' := 13) rfl ?_
  refine g_istoreN (L' := #[.val (.ref y0), .val (.ref y1), .val (.int (1 : Int32)), .val (.int (0 : Int32)), .unset, .unset]) X556 hx hby own_d25_13 rfl (pc' := 14) rfl ?_
  refine g_iloadN X556 hx hby own_d25_14 rfl (pc' := 15) rfl ?_
  refine g_iloadN X556 hx hby own_d25_15 rfl (pc' := 16) rfl ?_
  refine g_icmp_ge X556 hx hby own_d25_16 (by decide) (pc' := 58) (by decide) (pc2 := 19) rfl (fun q => absurd (by decide) q) (fun c16_557 => ?_)
  refine g_aloadN X556 hx hby own_d25_19 rfl rfl (pc' := 20) rfl ?_
  refine g_iloadN X556 hx hby own_d25_20 rfl (pc' := 21) rfl ?_
  refine g_callV (argsL := [(.int (0 : Int32))]) (S := []) (a := y0) X556 hx hby hZ (y := (⟨"java/lang/String", "charAt", "(I)C"⟩ : MethodName)) (y' := (⟨"java/lang/String", "charAt", "(I)C"⟩ : MethodName)) hown (hw _ (List.mem_of_getElem? (i := 91) rfl)) (hw _ (List.mem_of_getElem? (i := 92) rfl)) (notFace_of_selects (args := #[]) (mvT hZ (hw _ (List.mem_of_getElem? (i := 94) rfl)))) (hw _ (List.mem_of_getElem? (i := 94) rfl)) (hw _ (List.mem_of_getElem? (i := 93) rfl)) (hw _ (List.mem_of_getElem? (i := 10) rfl)) (hw _ (List.mem_of_getElem? (i := 95) rfl)) (by decide) Pa.exa (own_caS_2_0 l Z a0 hw y0 h0 n0 f hrf Pa cs Sc hcs fm Sf hfm Sd Sh Sl) (by rw [hml]; rfl) (lenOf own_pd17 rfl) rfl own_d25_21 (by decide) (W := 0) (by exact Nat.le_of_eq rfl) (by decide) (by decide) (by decide) (pc' := 24) rfl (fun T558 v558 X558 hQ558 => ?_)
  obtain ⟨rfl, e558⟩ := hQ558
  rw [e558] at X558
  show Gl p e below n0 _ _ (T558.setTop (mkF m 24 #[.val (.ref y0), .val (.ref y1), .val (.int (1 : Int32)), .val (.int (0 : Int32)), .unset, .unset] [(.int (f 0))]))
  refine g_istore (L' := #[.val (.ref y0), .val (.ref y1), .val (.int (1 : Int32)), .val (.int (0 : Int32)), .val (.int (f 0)), .unset]) X558 hx hby own_d25_24 rfl (pc' := 26) rfl ?_
  refine g_aloadN X558 hx hby own_d25_26 rfl rfl (pc' := 27) rfl ?_
  refine g_iloadN X558 hx hby own_d25_27 rfl (pc' := 28) rfl ?_
  refine g_callV (argsL := [(.int (0 : Int32))]) (S := []) (a := y1) X558 hx hby hZ (y := (⟨"java/lang/String", "charAt", "(I)C"⟩ : MethodName)) (y' := (⟨"java/lang/String", "charAt", "(I)C"⟩ : MethodName)) hown (hw _ (List.mem_of_getElem? (i := 91) rfl)) (hw _ (List.mem_of_getElem? (i := 92) rfl)) (notFace_of_selects (args := #[]) (mvT hZ (hw _ (List.mem_of_getElem? (i := 94) rfl)))) (hw _ (List.mem_of_getElem? (i := 94) rfl)) (hw _ (List.mem_of_getElem? (i := 93) rfl)) (hw _ (List.mem_of_getElem? (i := 10) rfl)) (hw _ (List.mem_of_getElem? (i := 95) rfl)) (by decide) Pb.exa (own_caS_1_0 l Z a0 hw y1 h0 n0 g hrg Pb cs Sc hcs fm Sf hfm Sd Sh Sl) (by rw [hml]; rfl) (lenOf own_pd17 rfl) rfl own_d25_28 (by decide) (W := 0) (by exact Nat.le_of_eq rfl) (by decide) (by decide) (by decide) (pc' := 31) rfl (fun T559 v559 X559 hQ559 => ?_)
  obtain ⟨rfl, e559⟩ := hQ559
  rw [e559] at X559
  show Gl p e below n0 _ _ (T559.setTop (mkF m 31 #[.val (.ref y0), .val (.ref y1), .val (.int (1 : Int32)), .val (.int (0 : Int32)), .val (.int (f 0)), .unset] [(.int (g 0))]))
  refine g_istore (L' := #[.val (.ref y0), .val (.ref y1), .val (.int (1 : Int32)), .val (.int (0 : Int32)), .val (.int (f 0)), .val (.int (g 0))]) X559 hx hby own_d25_31 rfl (pc' := 33) rfl ?_
  refine g_iload X559 hx hby own_d25_33 rfl (pc' := 35) rfl ?_
  refine g_iload X559 hx hby own_d25_35 rfl (pc' := 37) rfl ?_
  refine g_icmp_eq X559 hx hby own_d25_37 (by decide) (pc' := 52) (by decide) (pc2 := 40) rfl (fun c37_560 => ?_) (fun c37_560 => ?_)
  · refine g_iinc (y := 1) (L' := #[.val (.ref y0), .val (.ref y1), .val (.int (1 : Int32)), .val (.int (1 : Int32)), .val (.int (f 0)), .val (.int (g 0))]) X559 hx hby own_d25_52 rfl rfl rfl (pc' := 55) rfl ?_
    refine g_goto X559 hx hby own_d25_55 (by decide) (pc' := 14) (by decide) ?_
    refine g_iloadN X559 hx hby own_d25_14 rfl (pc' := 15) rfl ?_
    refine g_iloadN X559 hx hby own_d25_15 rfl (pc' := 16) rfl ?_
    refine g_icmp_ge X559 hx hby own_d25_16 (by decide) (pc' := 58) (by decide) (pc2 := 19) rfl (fun c16_561 => ?_) (fun q => absurd q (by decide))
    refine g_aloadN X559 hx hby own_d25_58 rfl rfl (pc' := 59) rfl ?_
    refine g_callV (argsL := []) (S := []) (a := y0) X559 hx hby hZ (y := (⟨"java/lang/String", "length", "()I"⟩ : MethodName)) (y' := (⟨"java/lang/String", "length", "()I"⟩ : MethodName)) hown (hw _ (List.mem_of_getElem? (i := 41) rfl)) (hw _ (List.mem_of_getElem? (i := 42) rfl)) (notFace_of_selects (args := #[]) (mvT hZ (hw _ (List.mem_of_getElem? (i := 44) rfl)))) (hw _ (List.mem_of_getElem? (i := 44) rfl)) (hw _ (List.mem_of_getElem? (i := 43) rfl)) (hw _ (List.mem_of_getElem? (i := 10) rfl)) (hw _ (List.mem_of_getElem? (i := 45) rfl)) (by decide) Pa.exa (own_lnS_2 l Z a0 hw y0 h0 n0 f Pa cs Sc hcs fm Sf hfm Sd Sh Sl) (by rw [hml]; rfl) (lenOf own_pd15 rfl) rfl own_d25_59 (by decide) (W := 0) (by exact Nat.le_of_eq rfl) (by decide) (by decide) (by decide) (pc' := 62) rfl (fun T562 v562 X562 hQ562 => ?_)
    obtain ⟨rfl, e562⟩ := hQ562
    rw [e562] at X562
    show Gl p e below n0 _ _ (T562.setTop (mkF m 62 #[.val (.ref y0), .val (.ref y1), .val (.int (1 : Int32)), .val (.int (1 : Int32)), .val (.int (f 0)), .val (.int (g 0))] [(.int (2 : Int32))]))
    refine g_aloadN X562 hx hby own_d25_62 rfl rfl (pc' := 63) rfl ?_
    refine g_callV (argsL := []) (S := [(.int (2 : Int32))]) (a := y1) X562 hx hby hZ (y := (⟨"java/lang/String", "length", "()I"⟩ : MethodName)) (y' := (⟨"java/lang/String", "length", "()I"⟩ : MethodName)) hown (hw _ (List.mem_of_getElem? (i := 41) rfl)) (hw _ (List.mem_of_getElem? (i := 42) rfl)) (notFace_of_selects (args := #[]) (mvT hZ (hw _ (List.mem_of_getElem? (i := 44) rfl)))) (hw _ (List.mem_of_getElem? (i := 44) rfl)) (hw _ (List.mem_of_getElem? (i := 43) rfl)) (hw _ (List.mem_of_getElem? (i := 10) rfl)) (hw _ (List.mem_of_getElem? (i := 45) rfl)) (by decide) Pb.exa (own_lnS_1 l Z a0 hw y1 h0 n0 g Pb cs Sc hcs fm Sf hfm Sd Sh Sl) (by rw [hml]; rfl) (lenOf own_pd15 rfl) rfl own_d25_63 (by decide) (W := 1) (by exact Nat.le_of_eq rfl) (by decide) (by decide) (by decide) (pc' := 66) rfl (fun T563 v563 X563 hQ563 => ?_)
    obtain ⟨rfl, e563⟩ := hQ563
    rw [e563] at X563
    show Gl p e below n0 _ _ (T563.setTop (mkF m 66 #[.val (.ref y0), .val (.ref y1), .val (.int (1 : Int32)), .val (.int (1 : Int32)), .val (.int (f 0)), .val (.int (g 0))] [(.int (1 : Int32)), (.int (2 : Int32))]))
    refine g_isub X563 hx hby own_d25_66 (pc' := 67) rfl ?_
    exact g_retI X563 hx hby hret hlk own_d25_67 ⟨congrArg (fun z => some (Value.int z)) (show ((2 : Int32) - (1 : Int32)) = own_cv1 f g ((2 : Int32) - (1 : Int32)) by simp only [own_cv1, if_pos c16_557, if_pos c37_560, if_neg c16_561]), rfl⟩ (by decide) (by decide)
  · refine g_iload X559 hx hby own_d25_40 rfl (pc' := 42) rfl ?_
    refine g_callS (argsL := [(.int (f 0))]) (S := []) X559 hx hby hZ (y := (⟨"com/example/urutan/urutan/build/CodePointOrder", "place", "(C)I"⟩ : MethodName)) hown (hw _ (List.mem_of_getElem? (i := 118) rfl)) (hw _ (List.mem_of_getElem? (i := 119) rfl)) (hw _ (List.mem_of_getElem? (i := 39) rfl)) (hw _ (List.mem_of_getElem? (i := 120) rfl)) (by decide) (own_plc l Z a0 hw ((f 0)) h0 n0) (by rw [hml]; rfl) (lenOf own_pd14 rfl) rfl own_d25_42 (by decide) (W := 0) (by exact Nat.le_of_eq rfl) (by decide) (by decide) (by decide) (pc' := 45) rfl (fun T564 v564 X564 hQ564 => ?_)
    obtain ⟨rfl, e564⟩ := hQ564
    rw [e564] at X564
    show Gl p e below n0 _ _ (T564.setTop (mkF m 45 #[.val (.ref y0), .val (.ref y1), .val (.int (1 : Int32)), .val (.int (0 : Int32)), .val (.int (f 0)), .val (.int (g 0))] [(.int (own_pl (f 0)))]))
    refine g_iload X564 hx hby own_d25_45 rfl (pc' := 47) rfl ?_
    refine g_callS (argsL := [(.int (g 0))]) (S := [(.int (own_pl (f 0)))]) X564 hx hby hZ (y := (⟨"com/example/urutan/urutan/build/CodePointOrder", "place", "(C)I"⟩ : MethodName)) hown (hw _ (List.mem_of_getElem? (i := 118) rfl)) (hw _ (List.mem_of_getElem? (i := 119) rfl)) (hw _ (List.mem_of_getElem? (i := 39) rfl)) (hw _ (List.mem_of_getElem? (i := 120) rfl)) (by decide) (own_plc l Z a0 hw ((g 0)) h0 n0) (by rw [hml]; rfl) (lenOf own_pd14 rfl) rfl own_d25_47 (by decide) (W := 1) (by exact Nat.le_of_eq rfl) (by decide) (by decide) (by decide) (pc' := 50) rfl (fun T565 v565 X565 hQ565 => ?_)
    obtain ⟨rfl, e565⟩ := hQ565
    rw [e565] at X565
    show Gl p e below n0 _ _ (T565.setTop (mkF m 50 #[.val (.ref y0), .val (.ref y1), .val (.int (1 : Int32)), .val (.int (0 : Int32)), .val (.int (f 0)), .val (.int (g 0))] [(.int (own_pl (g 0))), (.int (own_pl (f 0)))]))
    refine g_isub X565 hx hby own_d25_50 (pc' := 51) rfl ?_
    exact g_retI X565 hx hby hret hlk own_d25_51 ⟨congrArg (fun z => some (Value.int z)) (show ((own_pl (f 0)) - (own_pl (g 0))) = own_cv1 f g ((2 : Int32) - (1 : Int32)) by simp only [own_cv1, if_pos c16_557, if_neg c37_560]), rfl⟩ (by decide) (by decide)
set_option maxRecDepth 65536 in
set_option maxHeartbeats 40000000 in
theorem own_ef566 (m : MethodId) (y0 : Addr) (y1 : Addr)  : entryFrame m #[(.ref y0), (.ref y1)] 6 = mkF m 0 #[.val (.ref y0), .val (.ref y1), .unset, .unset, .unset, .unset] [] := by first | (simp [entryFrame, mkF, argsToLocals, Value.category, maxLocals]; done) | rfl
set_option maxRecDepth 65536 in
set_option maxHeartbeats 40000000 in
theorem own_cm_2_2 (l : Launch) (Z : State) (a0 : Array Value) (hw : ∀ d ∈ tables_1, d.before a0 Z = true) (y0 y1 : Addr) (h0 : Heap) (n0 : Nat) (f g : Nat → Int32) (hrf : ∀ i, 0 ≤ (f i).toInt ∧ (f i).toInt ≤ 65535) (hrg : ∀ i, 0 ≤ (g i).toInt ∧ (g i).toInt ≤ 65535) (Pa : Sg Z h0 y0 2 4 f) (Pb : Sg Z h0 y1 2 4 g) (cs : Int32) (Sc : Sta Z h0 "java/lang/String" "COMPACT_STRINGS" "Z" (.int cs)) (hcs : ¬ cs = 0) (fm : Value) (Sf : Sta Z h0 "jdk/internal/util/Preconditions" "SIOOBE_FORMATTER" "Ljava/util/function/BiFunction;" fm) (hfm : fm.isRef = true) (Sd : Sta Z h0 "java/lang/StringUTF16" "$assertionsDisabled" "Z" (.int 1)) (Sh : Sta Z h0 "java/lang/StringUTF16" "HI_BYTE_SHIFT" "I" (.int 0)) (Sl : Sta Z h0 "java/lang/StringUTF16" "LO_BYTE_SHIFT" "I" (.int 8)) :
    Ctr l Z (⟨"com/example/urutan/urutan/build/CodePointOrder", "compare", "(Ljava/lang/String;Ljava/lang/String;)I"⟩ : MethodName) prog_2_method_2_code 6 (some .int) [] (own_room 5 0 0 66) #[(.ref y0), (.ref y1)] h0 n0 0 0 (fun v h => v = some (.int (own_cv2 f g ((2 : Int32) - (2 : Int32)))) ∧ h = h0) := by
  refine Ctr.of (plainFor_of_name own_pn4) ?_
  intro p e s m below meth c T0 hx hby hml hret hlk hnm hown hZ X0
  rw [own_ef566 m (y0) (y1)]
  refine g_aloadN X0 hx hby own_d25_0 rfl rfl (pc' := 1) rfl ?_
  refine g_callV (argsL := []) (S := []) (a := y0) X0 hx hby hZ (y := (⟨"java/lang/String", "length", "()I"⟩ : MethodName)) (y' := (⟨"java/lang/String", "length", "()I"⟩ : MethodName)) hown (hw _ (List.mem_of_getElem? (i := 41) rfl)) (hw _ (List.mem_of_getElem? (i := 42) rfl)) (notFace_of_selects (args := #[]) (mvT hZ (hw _ (List.mem_of_getElem? (i := 44) rfl)))) (hw _ (List.mem_of_getElem? (i := 44) rfl)) (hw _ (List.mem_of_getElem? (i := 43) rfl)) (hw _ (List.mem_of_getElem? (i := 10) rfl)) (hw _ (List.mem_of_getElem? (i := 45) rfl)) (by decide) Pa.exa (own_lnS_2 l Z a0 hw y0 h0 n0 f Pa cs Sc hcs fm Sf hfm Sd Sh Sl) (by rw [hml]; rfl) (lenOf own_pd15 rfl) rfl own_d25_1 (by decide) (W := 0) (by exact Nat.le_of_eq rfl) (by decide) (by decide) (by decide) (pc' := 4) rfl (fun T567 v567 X567 hQ567 => ?_)
  obtain ⟨rfl, e567⟩ := hQ567
  rw [e567] at X567
  show Gl p e below n0 _ _ (T567.setTop (mkF m 4 #[.val (.ref y0), .val (.ref y1), .unset, .unset, .unset, .unset] [(.int (2 : Int32))]))
  refine g_aloadN X567 hx hby own_d25_4 rfl rfl (pc' := 5) rfl ?_
  refine g_callV (argsL := []) (S := [(.int (2 : Int32))]) (a := y1) X567 hx hby hZ (y := (⟨"java/lang/String", "length", "()I"⟩ : MethodName)) (y' := (⟨"java/lang/String", "length", "()I"⟩ : MethodName)) hown (hw _ (List.mem_of_getElem? (i := 41) rfl)) (hw _ (List.mem_of_getElem? (i := 42) rfl)) (notFace_of_selects (args := #[]) (mvT hZ (hw _ (List.mem_of_getElem? (i := 44) rfl)))) (hw _ (List.mem_of_getElem? (i := 44) rfl)) (hw _ (List.mem_of_getElem? (i := 43) rfl)) (hw _ (List.mem_of_getElem? (i := 10) rfl)) (hw _ (List.mem_of_getElem? (i := 45) rfl)) (by decide) Pb.exa (own_lnS_2 l Z a0 hw y1 h0 n0 g Pb cs Sc hcs fm Sf hfm Sd Sh Sl) (by rw [hml]; rfl) (lenOf own_pd15 rfl) rfl own_d25_5 (by decide) (W := 1) (by exact Nat.le_of_eq rfl) (by decide) (by decide) (by decide) (pc' := 8) rfl (fun T568 v568 X568 hQ568 => ?_)
  obtain ⟨rfl, e568⟩ := hQ568
  rw [e568] at X568
  show Gl p e below n0 _ _ (T568.setTop (mkF m 8 #[.val (.ref y0), .val (.ref y1), .unset, .unset, .unset, .unset] [(.int (2 : Int32)), (.int (2 : Int32))]))
  refine g_callS (argsL := [(.int (2 : Int32)), (.int (2 : Int32))]) (S := []) X568 hx hby hZ (y := (⟨"java/lang/Math", "min", "(II)I"⟩ : MethodName)) hown (hw _ (List.mem_of_getElem? (i := 52) rfl)) (hw _ (List.mem_of_getElem? (i := 31) rfl)) (hw _ (List.mem_of_getElem? (i := 32) rfl)) (hw _ (List.mem_of_getElem? (i := 33) rfl)) (by decide) (own_minA l Z a0 hw (2 : Int32) (2 : Int32) h0 n0 (by decide)) (by rw [hml]; rfl) (lenOf own_pd16 rfl) rfl own_d25_8 (by decide) (W := 0) (by exact Nat.le_of_eq rfl) (by decide) (by decide) (by decide) (pc' := 11) rfl (fun T569 v569 X569 hQ569 => ?_)
  obtain ⟨rfl, e569⟩ := hQ569
  rw [e569] at X569
  show Gl p e below n0 _ _ (T569.setTop (mkF m 11 #[.val (.ref y0), .val (.ref y1), .unset, .unset, .unset, .unset] [(.int (2 : Int32))]))
  refine g_istoreN (L' := #[.val (.ref y0), .val (.ref y1), .val (.int (2 : Int32)), .unset, .unset, .unset]) X569 hx hby own_d25_11 rfl (pc' := 12) rfl ?_
  refine g_iconst (v := 0) X569 hx hby own_d25_12 rfl (pc' := 13) rfl ?_
  refine g_istoreN (L' := #[.val (.ref y0), .val (.ref y1), .val (.int (2 : Int32)), .val (.int (0 : Int32)), .unset, .unset]) X569 hx hby own_d25_13 rfl (pc' := 14) rfl ?_
  refine g_iloadN X569 hx hby own_d25_14 rfl (pc' := 15) rfl ?_
  refine g_iloadN X569 hx hby own_d25_15 rfl (pc' := 16) rfl ?_
  refine g_icmp_ge X569 hx hby own_d25_16 (by decide) (pc' := 58) (by decide) (pc2 := 19) rfl (fun q => absurd (by decide) q) (fun c16_570 => ?_)
  refine g_aloadN X569 hx hby own_d25_19 rfl rfl (pc' := 20) rfl ?_
  refine g_iloadN X569 hx hby own_d25_20 rfl (pc' := 21) rfl ?_
  refine g_callV (argsL := [(.int (0 : Int32))]) (S := []) (a := y0) X569 hx hby hZ (y := (⟨"java/lang/String", "charAt", "(I)C"⟩ : MethodName)) (y' := (⟨"java/lang/String", "charAt", "(I)C"⟩ : MethodName)) hown (hw _ (List.mem_of_getElem? (i := 91) rfl)) (hw _ (List.mem_of_getElem? (i := 92) rfl)) (notFace_of_selects (args := #[]) (mvT hZ (hw _ (List.mem_of_getElem? (i := 94) rfl)))) (hw _ (List.mem_of_getElem? (i := 94) rfl)) (hw _ (List.mem_of_getElem? (i := 93) rfl)) (hw _ (List.mem_of_getElem? (i := 10) rfl)) (hw _ (List.mem_of_getElem? (i := 95) rfl)) (by decide) Pa.exa (own_caS_2_0 l Z a0 hw y0 h0 n0 f hrf Pa cs Sc hcs fm Sf hfm Sd Sh Sl) (by rw [hml]; rfl) (lenOf own_pd17 rfl) rfl own_d25_21 (by decide) (W := 0) (by exact Nat.le_of_eq rfl) (by decide) (by decide) (by decide) (pc' := 24) rfl (fun T571 v571 X571 hQ571 => ?_)
  obtain ⟨rfl, e571⟩ := hQ571
  rw [e571] at X571
  show Gl p e below n0 _ _ (T571.setTop (mkF m 24 #[.val (.ref y0), .val (.ref y1), .val (.int (2 : Int32)), .val (.int (0 : Int32)), .unset, .unset] [(.int (f 0))]))
  refine g_istore (L' := #[.val (.ref y0), .val (.ref y1), .val (.int (2 : Int32)), .val (.int (0 : Int32)), .val (.int (f 0)), .unset]) X571 hx hby own_d25_24 rfl (pc' := 26) rfl ?_
  refine g_aloadN X571 hx hby own_d25_26 rfl rfl (pc' := 27) rfl ?_
  refine g_iloadN X571 hx hby own_d25_27 rfl (pc' := 28) rfl ?_
  refine g_callV (argsL := [(.int (0 : Int32))]) (S := []) (a := y1) X571 hx hby hZ (y := (⟨"java/lang/String", "charAt", "(I)C"⟩ : MethodName)) (y' := (⟨"java/lang/String", "charAt", "(I)C"⟩ : MethodName)) hown (hw _ (List.mem_of_getElem? (i := 91) rfl)) (hw _ (List.mem_of_getElem? (i := 92) rfl)) (notFace_of_selects (args := #[]) (mvT hZ (hw _ (List.mem_of_getElem? (i := 94) rfl)))) (hw _ (List.mem_of_getElem? (i := 94) rfl)) (hw _ (List.mem_of_getElem? (i := 93) rfl)) (hw _ (List.mem_of_getElem? (i := 10) rfl)) (hw _ (List.mem_of_getElem? (i := 95) rfl)) (by decide) Pb.exa (own_caS_2_0 l Z a0 hw y1 h0 n0 g hrg Pb cs Sc hcs fm Sf hfm Sd Sh Sl) (by rw [hml]; rfl) (lenOf own_pd17 rfl) rfl own_d25_28 (by decide) (W := 0) (by exact Nat.le_of_eq rfl) (by decide) (by decide) (by decide) (pc' := 31) rfl (fun T572 v572 X572 hQ572 => ?_)
  obtain ⟨rfl, e572⟩ := hQ572
  rw [e572] at X572
  show Gl p e below n0 _ _ (T572.setTop (mkF m 31 #[.val (.ref y0), .val (.ref y1), .val (.int (2 : Int32)), .val (.int (0 : Int32)), .val (.int (f 0)), .unset] [(.int (g 0))]))
  refine g_istore (L' := #[.val (.ref y0), .val (.ref y1), .val (.int (2 : Int32)), .val (.int (0 : Int32)), .val (.int (f 0)), .val (.int (g 0))]) X572 hx hby own_d25_31 rfl (pc' := 33) rfl ?_
  refine g_iload X572 hx hby own_d25_33 rfl (pc' := 35) rfl ?_
  refine g_iload X572 hx hby own_d25_35 rfl (pc' := 37) rfl ?_
  refine g_icmp_eq X572 hx hby own_d25_37 (by decide) (pc' := 52) (by decide) (pc2 := 40) rfl (fun c37_573 => ?_) (fun c37_573 => ?_)
  · refine g_iinc (y := 1) (L' := #[.val (.ref y0), .val (.ref y1), .val (.int (2 : Int32)), .val (.int (1 : Int32)), .val (.int (f 0)), .val (.int (g 0))]) X572 hx hby own_d25_52 rfl rfl rfl (pc' := 55) rfl ?_
    refine g_goto X572 hx hby own_d25_55 (by decide) (pc' := 14) (by decide) ?_
    refine g_iloadN X572 hx hby own_d25_14 rfl (pc' := 15) rfl ?_
    refine g_iloadN X572 hx hby own_d25_15 rfl (pc' := 16) rfl ?_
    refine g_icmp_ge X572 hx hby own_d25_16 (by decide) (pc' := 58) (by decide) (pc2 := 19) rfl (fun q => absurd (by decide) q) (fun c16_574 => ?_)
    refine g_aloadN X572 hx hby own_d25_19 rfl rfl (pc' := 20) rfl ?_
    refine g_iloadN X572 hx hby own_d25_20 rfl (pc' := 21) rfl ?_
    refine g_callV (argsL := [(.int (1 : Int32))]) (S := []) (a := y0) X572 hx hby hZ (y := (⟨"java/lang/String", "charAt", "(I)C"⟩ : MethodName)) (y' := (⟨"java/lang/String", "charAt", "(I)C"⟩ : MethodName)) hown (hw _ (List.mem_of_getElem? (i := 91) rfl)) (hw _ (List.mem_of_getElem? (i := 92) rfl)) (notFace_of_selects (args := #[]) (mvT hZ (hw _ (List.mem_of_getElem? (i := 94) rfl)))) (hw _ (List.mem_of_getElem? (i := 94) rfl)) (hw _ (List.mem_of_getElem? (i := 93) rfl)) (hw _ (List.mem_of_getElem? (i := 10) rfl)) (hw _ (List.mem_of_getElem? (i := 95) rfl)) (by decide) Pa.exa (own_caS_2_1 l Z a0 hw y0 h0 n0 f hrf Pa cs Sc hcs fm Sf hfm Sd Sh Sl) (by rw [hml]; rfl) (lenOf own_pd17 rfl) rfl own_d25_21 (by decide) (W := 0) (by exact Nat.le_of_eq rfl) (by decide) (by decide) (by decide) (pc' := 24) rfl (fun T575 v575 X575 hQ575 => ?_)
    obtain ⟨rfl, e575⟩ := hQ575
    rw [e575] at X575
    show Gl p e below n0 _ _ (T575.setTop (mkF m 24 #[.val (.ref y0), .val (.ref y1), .val (.int (2 : Int32)), .val (.int (1 : Int32)), .val (.int (f 0)), .val (.int (g 0))] [(.int (f 1))]))
    refine g_istore (L' := #[.val (.ref y0), .val (.ref y1), .val (.int (2 : Int32)), .val (.int (1 : Int32)), .val (.int (f 1)), .val (.int (g 0))]) X575 hx hby own_d25_24 rfl (pc' := 26) rfl ?_
    refine g_aloadN X575 hx hby own_d25_26 rfl rfl (pc' := 27) rfl ?_
    refine g_iloadN X575 hx hby own_d25_27 rfl (pc' := 28) rfl ?_
    refine g_callV (argsL := [(.int (1 : Int32))]) (S := []) (a := y1) X575 hx hby hZ (y := (⟨"java/lang/String", "charAt", "(I)C"⟩ : MethodName)) (y' := (⟨"java/lang/String", "charAt", "(I)C"⟩ : MethodName)) hown (hw _ (List.mem_of_getElem? (i := 91) rfl)) (hw _ (List.mem_of_getElem? (i := 92) rfl)) (notFace_of_selects (args := #[]) (mvT hZ (hw _ (List.mem_of_getElem? (i := 94) rfl)))) (hw _ (List.mem_of_getElem? (i := 94) rfl)) (hw _ (List.mem_of_getElem? (i := 93) rfl)) (hw _ (List.mem_of_getElem? (i := 10) rfl)) (hw _ (List.mem_of_getElem? (i := 95) rfl)) (by decide) Pb.exa (own_caS_2_1 l Z a0 hw y1 h0 n0 g hrg Pb cs Sc hcs fm Sf hfm Sd Sh Sl) (by rw [hml]; rfl) (lenOf own_pd17 rfl) rfl own_d25_28 (by decide) (W := 0) (by exact Nat.le_of_eq rfl) (by decide) (by decide) (by decide) (pc' := 31) rfl (fun T576 v576 X576 hQ576 => ?_)
    obtain ⟨rfl, e576⟩ := hQ576
    rw [e576] at X576
    show Gl p e below n0 _ _ (T576.setTop (mkF m 31 #[.val (.ref y0), .val (.ref y1), .val (.int (2 : Int32)), .val (.int (1 : Int32)), .val (.int (f 1)), .val (.int (g 0))] [(.int (g 1))]))
    refine g_istore (L' := #[.val (.ref y0), .val (.ref y1), .val (.int (2 : Int32)), .val (.int (1 : Int32)), .val (.int (f 1)), .val (.int (g 1))]) X576 hx hby own_d25_31 rfl (pc' := 33) rfl ?_
    refine g_iload X576 hx hby own_d25_33 rfl (pc' := 35) rfl ?_
    refine g_iload X576 hx hby own_d25_35 rfl (pc' := 37) rfl ?_
    refine g_icmp_eq X576 hx hby own_d25_37 (by decide) (pc' := 52) (by decide) (pc2 := 40) rfl (fun c37_577 => ?_) (fun c37_577 => ?_)
    · refine g_iinc (y := 1) (L' := #[.val (.ref y0), .val (.ref y1), .val (.int (2 : Int32)), .val (.int (2 : Int32)), .val (.int (f 1)), .val (.int (g 1))]) X576 hx hby own_d25_52 rfl rfl rfl (pc' := 55) rfl ?_
      refine g_goto X576 hx hby own_d25_55 (by decide) (pc' := 14) (by decide) ?_
      refine g_iloadN X576 hx hby own_d25_14 rfl (pc' := 15) rfl ?_
      refine g_iloadN X576 hx hby own_d25_15 rfl (pc' := 16) rfl ?_
      refine g_icmp_ge X576 hx hby own_d25_16 (by decide) (pc' := 58) (by decide) (pc2 := 19) rfl (fun c16_578 => ?_) (fun q => absurd q (by decide))
      refine g_aloadN X576 hx hby own_d25_58 rfl rfl (pc' := 59) rfl ?_
      refine g_callV (argsL := []) (S := []) (a := y0) X576 hx hby hZ (y := (⟨"java/lang/String", "length", "()I"⟩ : MethodName)) (y' := (⟨"java/lang/String", "length", "()I"⟩ : MethodName)) hown (hw _ (List.mem_of_getElem? (i := 41) rfl)) (hw _ (List.mem_of_getElem? (i := 42) rfl)) (notFace_of_selects (args := #[]) (mvT hZ (hw _ (List.mem_of_getElem? (i := 44) rfl)))) (hw _ (List.mem_of_getElem? (i := 44) rfl)) (hw _ (List.mem_of_getElem? (i := 43) rfl)) (hw _ (List.mem_of_getElem? (i := 10) rfl)) (hw _ (List.mem_of_getElem? (i := 45) rfl)) (by decide) Pa.exa (own_lnS_2 l Z a0 hw y0 h0 n0 f Pa cs Sc hcs fm Sf hfm Sd Sh Sl) (by rw [hml]; rfl) (lenOf own_pd15 rfl) rfl own_d25_59 (by decide) (W := 0) (by exact Nat.le_of_eq rfl) (by decide) (by decide) (by decide) (pc' := 62) rfl (fun T579 v579 X579 hQ579 => ?_)
      obtain ⟨rfl, e579⟩ := hQ579
      rw [e579] at X579
      show Gl p e below n0 _ _ (T579.setTop (mkF m 62 #[.val (.ref y0), .val (.ref y1), .val (.int (2 : Int32)), .val (.int (2 : Int32)), .val (.int (f 1)), .val (.int (g 1))] [(.int (2 : Int32))]))
      refine g_aloadN X579 hx hby own_d25_62 rfl rfl (pc' := 63) rfl ?_
      refine g_callV (argsL := []) (S := [(.int (2 : Int32))]) (a := y1) X579 hx hby hZ (y := (⟨"java/lang/String", "length", "()I"⟩ : MethodName)) (y' := (⟨"java/lang/String", "length", "()I"⟩ : MethodName)) hown (hw _ (List.mem_of_getElem? (i := 41) rfl)) (hw _ (List.mem_of_getElem? (i := 42) rfl)) (notFace_of_selects (args := #[]) (mvT hZ (hw _ (List.mem_of_getElem? (i := 44) rfl)))) (hw _ (List.mem_of_getElem? (i := 44) rfl)) (hw _ (List.mem_of_getElem? (i := 43) rfl)) (hw _ (List.mem_of_getElem? (i := 10) rfl)) (hw _ (List.mem_of_getElem? (i := 45) rfl)) (by decide) Pb.exa (own_lnS_2 l Z a0 hw y1 h0 n0 g Pb cs Sc hcs fm Sf hfm Sd Sh Sl) (by rw [hml]; rfl) (lenOf own_pd15 rfl) rfl own_d25_63 (by decide) (W := 1) (by exact Nat.le_of_eq rfl) (by decide) (by decide) (by decide) (pc' := 66) rfl (fun T580 v580 X580 hQ580 => ?_)
      obtain ⟨rfl, e580⟩ := hQ580
      rw [e580] at X580
      show Gl p e below n0 _ _ (T580.setTop (mkF m 66 #[.val (.ref y0), .val (.ref y1), .val (.int (2 : Int32)), .val (.int (2 : Int32)), .val (.int (f 1)), .val (.int (g 1))] [(.int (2 : Int32)), (.int (2 : Int32))]))
      refine g_isub X580 hx hby own_d25_66 (pc' := 67) rfl ?_
      exact g_retI X580 hx hby hret hlk own_d25_67 ⟨congrArg (fun z => some (Value.int z)) (show ((2 : Int32) - (2 : Int32)) = own_cv2 f g ((2 : Int32) - (2 : Int32)) by simp only [own_cv2, if_pos c16_570, if_pos c37_573, if_pos c16_574, if_pos c37_577, if_neg c16_578]), rfl⟩ (by decide) (by decide)
    · refine g_iload X576 hx hby own_d25_40 rfl (pc' := 42) rfl ?_
      refine g_callS (argsL := [(.int (f 1))]) (S := []) X576 hx hby hZ (y := (⟨"com/example/urutan/urutan/build/CodePointOrder", "place", "(C)I"⟩ : MethodName)) hown (hw _ (List.mem_of_getElem? (i := 118) rfl)) (hw _ (List.mem_of_getElem? (i := 119) rfl)) (hw _ (List.mem_of_getElem? (i := 39) rfl)) (hw _ (List.mem_of_getElem? (i := 120) rfl)) (by decide) (own_plc l Z a0 hw ((f 1)) h0 n0) (by rw [hml]; rfl) (lenOf own_pd14 rfl) rfl own_d25_42 (by decide) (W := 0) (by exact Nat.le_of_eq rfl) (by decide) (by decide) (by decide) (pc' := 45) rfl (fun T581 v581 X581 hQ581 => ?_)
      obtain ⟨rfl, e581⟩ := hQ581
      rw [e581] at X581
      show Gl p e below n0 _ _ (T581.setTop (mkF m 45 #[.val (.ref y0), .val (.ref y1), .val (.int (2 : Int32)), .val (.int (1 : Int32)), .val (.int (f 1)), .val (.int (g 1))] [(.int (own_pl (f 1)))]))
      refine g_iload X581 hx hby own_d25_45 rfl (pc' := 47) rfl ?_
      refine g_callS (argsL := [(.int (g 1))]) (S := [(.int (own_pl (f 1)))]) X581 hx hby hZ (y := (⟨"com/example/urutan/urutan/build/CodePointOrder", "place", "(C)I"⟩ : MethodName)) hown (hw _ (List.mem_of_getElem? (i := 118) rfl)) (hw _ (List.mem_of_getElem? (i := 119) rfl)) (hw _ (List.mem_of_getElem? (i := 39) rfl)) (hw _ (List.mem_of_getElem? (i := 120) rfl)) (by decide) (own_plc l Z a0 hw ((g 1)) h0 n0) (by rw [hml]; rfl) (lenOf own_pd14 rfl) rfl own_d25_47 (by decide) (W := 1) (by exact Nat.le_of_eq rfl) (by decide) (by decide) (by decide) (pc' := 50) rfl (fun T582 v582 X582 hQ582 => ?_)
      obtain ⟨rfl, e582⟩ := hQ582
      rw [e582] at X582
      show Gl p e below n0 _ _ (T582.setTop (mkF m 50 #[.val (.ref y0), .val (.ref y1), .val (.int (2 : Int32)), .val (.int (1 : Int32)), .val (.int (f 1)), .val (.int (g 1))] [(.int (own_pl (g 1))), (.int (own_pl (f 1)))]))
      refine g_isub X582 hx hby own_d25_50 (pc' := 51) rfl ?_
      exact g_retI X582 hx hby hret hlk own_d25_51 ⟨congrArg (fun z => some (Value.int z)) (show ((own_pl (f 1)) - (own_pl (g 1))) = own_cv2 f g ((2 : Int32) - (2 : Int32)) by simp only [own_cv2, if_pos c16_570, if_pos c37_573, if_pos c16_574, if_neg c37_577]), rfl⟩ (by decide) (by decide)
  · refine g_iload X572 hx hby own_d25_40 rfl (pc' := 42) rfl ?_
    refine g_callS (argsL := [(.int (f 0))]) (S := []) X572 hx hby hZ (y := (⟨"com/example/urutan/urutan/build/CodePointOrder", "place", "(C)I"⟩ : MethodName)) hown (hw _ (List.mem_of_getElem? (i := 118) rfl)) (hw _ (List.mem_of_getElem? (i := 119) rfl)) (hw _ (List.mem_of_getElem? (i := 39) rfl)) (hw _ (List.mem_of_getElem? (i := 120) rfl)) (by decide) (own_plc l Z a0 hw ((f 0)) h0 n0) (by rw [hml]; rfl) (lenOf own_pd14 rfl) rfl own_d25_42 (by decide) (W := 0) (by exact Nat.le_of_eq rfl) (by decide) (by decide) (by decide) (pc' := 45) rfl (fun T583 v583 X583 hQ583 => ?_)
    obtain ⟨rfl, e583⟩ := hQ583
    rw [e583] at X583
    show Gl p e below n0 _ _ (T583.setTop (mkF m 45 #[.val (.ref y0), .val (.ref y1), .val (.int (2 : Int32)), .val (.int (0 : Int32)), .val (.int (f 0)), .val (.int (g 0))] [(.int (own_pl (f 0)))]))
    refine g_iload X583 hx hby own_d25_45 rfl (pc' := 47) rfl ?_
    refine g_callS (argsL := [(.int (g 0))]) (S := [(.int (own_pl (f 0)))]) X583 hx hby hZ (y := (⟨"com/example/urutan/urutan/build/CodePointOrder", "place", "(C)I"⟩ : MethodName)) hown (hw _ (List.mem_of_getElem? (i := 118) rfl)) (hw _ (List.mem_of_getElem? (i := 119) rfl)) (hw _ (List.mem_of_getElem? (i := 39) rfl)) (hw _ (List.mem_of_getElem? (i := 120) rfl)) (by decide) (own_plc l Z a0 hw ((g 0)) h0 n0) (by rw [hml]; rfl) (lenOf own_pd14 rfl) rfl own_d25_47 (by decide) (W := 1) (by exact Nat.le_of_eq rfl) (by decide) (by decide) (by decide) (pc' := 50) rfl (fun T584 v584 X584 hQ584 => ?_)
    obtain ⟨rfl, e584⟩ := hQ584
    rw [e584] at X584
    show Gl p e below n0 _ _ (T584.setTop (mkF m 50 #[.val (.ref y0), .val (.ref y1), .val (.int (2 : Int32)), .val (.int (0 : Int32)), .val (.int (f 0)), .val (.int (g 0))] [(.int (own_pl (g 0))), (.int (own_pl (f 0)))]))
    refine g_isub X584 hx hby own_d25_50 (pc' := 51) rfl ?_
    exact g_retI X584 hx hby hret hlk own_d25_51 ⟨congrArg (fun z => some (Value.int z)) (show ((own_pl (f 0)) - (own_pl (g 0))) = own_cv2 f g ((2 : Int32) - (2 : Int32)) by simp only [own_cv2, if_pos c16_570, if_neg c37_573]), rfl⟩ (by decide) (by decide)
set_option maxRecDepth 65536 in
set_option maxHeartbeats 40000000 in
theorem own_ef585 (m : MethodId) (y0 : Addr) (y1 : Addr) (y2 : Int32) (y3 : Int32)  : entryFrame m #[(.ref y0), (.ref y1), (.int y2), (.int y3), .null] 6 = mkF m 0 #[.val (.ref y0), .val (.ref y1), .val (.int y2), .val (.int y3), .val .null, .unset] [] := by first | (simp [entryFrame, mkF, argsToLocals, Value.category, maxLocals]; done) | rfl
theorem own_d16_8 : decode jdk_42_method_149_code 8 = .ok (.aload_n 0, 1) := by decide +kernel
theorem own_d16_9 : decode jdk_42_method_149_code 9 = .ok (.ldc 7, 2) := by decide +kernel
theorem own_d16_11 : decode jdk_42_method_149_code 11 = .ok (.getfield 9, 3) := by decide +kernel
theorem own_d16_14 : decode jdk_42_method_149_code 14 = .ok (.putfield 9, 3) := by decide +kernel
theorem own_d16_17 : decode jdk_42_method_149_code 17 = .ok (.aload_n 0, 1) := by decide +kernel
theorem own_d16_18 : decode jdk_42_method_149_code 18 = .ok (.ldc 7, 2) := by decide +kernel
theorem own_d16_20 : decode jdk_42_method_149_code 20 = .ok (.getfield 15, 3) := by decide +kernel
theorem own_d16_23 : decode jdk_42_method_149_code 23 = .ok (.putfield 15, 3) := by decide +kernel
theorem own_d16_26 : decode jdk_42_method_149_code 26 = .ok (.return_, 1) := by decide +kernel
set_option maxRecDepth 65536 in
set_option maxHeartbeats 40000000 in
theorem own_n2_0 (l : Launch) (Z : State) (a0 : Array Value) (hw : ∀ d ∈ tables_1, d.before a0 Z = true) (y0 y1 : Addr) (h0 : Heap) (n0 : Nat) (Z0 : n0 ≤ h0.size) (g : Nat → Value) (LA1 : Ary Z h0 y1 .char 0 g) (Ex : Exa Z h0 y0 "java/lang/String") (F1 : Fld Z h0 y0 "java/lang/String" "value" "[B" .null) (F2 : Fld Z h0 y0 "java/lang/String" "coder" "B" (.int 0)) (gn : n0 ≤ y0) (cs : Int32) (Sc : Sta Z h0 "java/lang/String" "COMPACT_STRINGS" "Z" (.int cs)) (hcs : ¬ cs = 0) :
    CtrH l Z own_EL [y0] (⟨"java/lang/String", "<init>", "([CIILjava/lang/Void;)V"⟩ : MethodName) jdk_42_method_149_code 6 none [] (own_room 1 2 4 13) #[(.ref y0), (.ref y1), (.int (0 : Int32)), (.int (0 : Int32)), .null] h0 n0 2 4 (fun v h => v = none ∧ Keep h0 h [y0] ∧ Lat Z h y0 0 (fun i => ([] : List Int32).getD i 0)) := by
  refine CtrH.of (plainFor_of_name own_pn0) ?_
  intro p e s m below meth c T0 hx hby hml hret hlk hnm hown hZ X0 hS hC0 hss
  rw [own_ef585 m (y0) (y1) ((0 : Int32)) ((0 : Int32))]
  have sy := hss y0 (by simp)
  refine g_aloadN X0 hx hby own_d16_0 rfl rfl (pc' := 1) rfl ?_
  refine g_initO X0 hx hby hZ (W := 0) hown (hw _ (List.mem_of_getElem? (i := 19) rfl)) (hw _ (List.mem_of_getElem? (i := 20) rfl)) (hw _ (List.mem_of_getElem? (i := 21) rfl)) (by rw [hml]; rfl) own_d16_1 (by decide) (by exact Nat.le_of_eq rfl) (by decide) (pc' := 4) rfl (fun T586 X586 => ?_)
  refine g_iloadN X586 hx hby own_d16_4 rfl (pc' := 5) rfl ?_
  refine g_if_ne X586 hx hby own_d16_5 (by decide) (pc' := 27) (by decide) (pc2 := 8) rfl (fun q => absurd (by decide) q) (fun c5_587 => ?_)
  refine g_aloadN X586 hx hby own_d16_8 rfl rfl (pc' := 9) rfl ?_
  refine gh_ldc (n := 0) (vs := []) (kn := 0) (f := (fun i => ([] : List Int32).getD i 0)) X586 hx hby hZ hS (Nat.le_refl _) (own_hEL hw) hC0 hown (hw _ (List.mem_of_getElem? (i := 22) rfl)) (own_wS hw) (by simp [own_EL]) ⟨by decide, by decide⟩ rfl (by decide) (by decide) own_d16_9 (by decide) (by decide) (by decide) (by decide) (pc' := 11) rfl (fun a588 b588 T588 h588 k588 X588 hS588 hk588 hZ588 hown588 hC588 hD588 E588 le588 lc588 lv588 la588 hL588 hne588 => ?_)
  have sf589 := hD588.safe Ex.lt sy.2
  have nl590 := hne588 _ sf589
  have q591 := Sc.ext E588
  have q592 := Ex.ext E588
  have q593 := F1.ext E588
  have q594 := F2.ext E588
  have q595 := LA1.ext E588
  have zz596 := Nat.le_trans Z0 E588.1
  have kk597 : Keep h0 h588 [y0] := (Keep.refl h0 [y0]).ext E588
  refine g_getF X588 hx hby hZ588 hown588 (hw _ (List.mem_of_getElem? (i := 28) rfl)) Via.refl lv588 own_d16_11 (pc' := 14) rfl (fun T598 X598 => ?_)
  refine g_putF X598 hx hby hZ588 hown588 (hw _ (List.mem_of_getElem? (i := 28) rfl)) Via.refl q593 q592 (Or.inr ⟨(hw _ (List.mem_of_getElem? (i := 24) rfl)), rfl, hnm⟩) (hw _ (List.mem_of_getElem? (i := 9) rfl)) (ty := (.array .byte)) (by decide) rfl rfl gn own_d16_14 (pc' := 17) rfl (fun T599 h599 X599 W599 => ?_)
  have sf600 := Safe.wr W599 sf589 hC588.1 sf589
  have ch601 := hC588.trans (CHr.wr W599 sf589 hC588.1)
  have q602 := q591.wr W599
  have q603 := q592.wr W599
  have q604 := q593.same W599
  have q605 := q594.other W599 (Or.inr (slot_ne (Or.inr (hw _ (List.mem_of_getElem? (i := 25) rfl))) (Or.inr (hw _ (List.mem_of_getElem? (i := 24) rfl))) (by decide) (t := .byte) (t' := (.array .byte)) (by decide) (by decide)))
  have q606 := q595.other W599 (Ne.symm (own_ne_exa Ex (hw _ (List.mem_of_getElem? (i := 9) rfl)) LA1))
  have q607 := le588.wr W599
  have q608 := lv588.other W599 (Or.inl (Ne.symm nl590.1))
  have q609 := lc588.other W599 (Or.inl (Ne.symm nl590.1))
  have q610 := la588.other W599 (Ne.symm nl590.2)
  have zz611 := Nat.le_trans zz596 (Nat.le_of_eq W599.size.symm)
  have hk612 := Nat.le_trans hk588 (Nat.le_of_eq W599.size.symm)
  have kk613 : Keep h0 h599 [y0] := kk597.wr W599 (Or.inl (by simp))
  refine g_aloadN X599 hx hby own_d16_17 rfl rfl (pc' := 18) rfl ?_
  refine gh_again X599 hx hby hZ588 hown588 (hw _ (List.mem_of_getElem? (i := 22) rfl)) hL588 own_d16_18 (pc' := 20) rfl ?_
  refine g_getF X599 hx hby hZ588 hown588 (hw _ (List.mem_of_getElem? (i := 29) rfl)) Via.refl q609 own_d16_20 (pc' := 23) rfl (fun T615 X615 => ?_)
  refine g_putF X615 hx hby hZ588 hown588 (hw _ (List.mem_of_getElem? (i := 29) rfl)) Via.refl q605 q603 (Or.inr ⟨(hw _ (List.mem_of_getElem? (i := 25) rfl)), rfl, hnm⟩) (hw _ (List.mem_of_getElem? (i := 9) rfl)) (ty := .byte) (by decide) rfl rfl gn own_d16_23 (pc' := 26) rfl (fun T616 h616 X616 W616 => ?_)
  have sf617 := Safe.wr W616 sf600 ch601.1 sf600
  have ch618 := ch601.trans (CHr.wr W616 sf600 ch601.1)
  have q619 := q602.wr W616
  have q620 := q603.wr W616
  have q621 := q604.other W616 (Or.inr (slot_ne (Or.inr (hw _ (List.mem_of_getElem? (i := 24) rfl))) (Or.inr (hw _ (List.mem_of_getElem? (i := 25) rfl))) (by decide) (t := (.array .byte)) (t' := .byte) (by decide) (by decide)))
  have q622 := q605.same W616
  have q623 := q606.other W616 (Ne.symm (own_ne_exa Ex (hw _ (List.mem_of_getElem? (i := 9) rfl)) LA1))
  have q624 := q607.wr W616
  have q625 := q608.other W616 (Or.inl (Ne.symm nl590.1))
  have q626 := q609.other W616 (Or.inl (Ne.symm nl590.1))
  have q627 := q610.other W616 (Ne.symm nl590.2)
  have zz628 := Nat.le_trans zz611 (Nat.le_of_eq W616.size.symm)
  have hk629 := Nat.le_trans hk612 (Nat.le_of_eq W616.size.symm)
  have kk630 : Keep h0 h616 [y0] := kk613.wr W616 (Or.inl (by simp))
  exact gh_ret X616 hx hby hZ588 hS588 hk629 (own_hEL hw) ch618 hret hlk own_d16_26 ⟨rfl, kk630, ⟨b588, q620, q621, q622, q627⟩⟩ (by decide) (by decide)
set_option maxRecDepth 65536 in
set_option maxHeartbeats 40000000 in
theorem own_ef631 (m : MethodId) (y0 : Addr) (y1 : Addr)  : entryFrame m #[(.ref y0), (.ref y1)] 2 = mkF m 0 #[.val (.ref y0), .val (.ref y1)] [] := by first | (simp [entryFrame, mkF, argsToLocals, Value.category, maxLocals]; done) | rfl
set_option maxRecDepth 65536 in
set_option maxHeartbeats 40000000 in
theorem own_n1_0 (l : Launch) (Z : State) (a0 : Array Value) (hw : ∀ d ∈ tables_1, d.before a0 Z = true) (y0 y1 : Addr) (h0 : Heap) (n0 : Nat) (Z0 : n0 ≤ h0.size) (g : Nat → Value) (LA1 : Ary Z h0 y1 .char 0 g) (Ex : Exa Z h0 y0 "java/lang/String") (F1 : Fld Z h0 y0 "java/lang/String" "value" "[B" .null) (F2 : Fld Z h0 y0 "java/lang/String" "coder" "B" (.int 0)) (gn : n0 ≤ y0) (cs : Int32) (Sc : Sta Z h0 "java/lang/String" "COMPACT_STRINGS" "Z" (.int cs)) (hcs : ¬ cs = 0) :
    CtrH l Z own_EL [y0] (⟨"java/lang/String", "<init>", "([C)V"⟩ : MethodName) jdk_42_method_3_code 2 none [] (own_room 2 2 4 30) #[(.ref y0), (.ref y1)] h0 n0 2 4 (fun v h => v = none ∧ Keep h0 h [y0] ∧ Lat Z h y0 0 (fun i => ([] : List Int32).getD i 0)) := by
  refine CtrH.of (plainFor_of_name own_pn0) ?_
  intro p e s m below meth c T0 hx hby hml hret hlk hnm hown hZ X0 hS hC0 hss
  rw [own_ef631 m (y0) (y1)]
  have sy := hss y0 (by simp)
  refine g_aloadN X0 hx hby own_d17_0 rfl rfl (pc' := 1) rfl ?_
  refine g_aloadN X0 hx hby own_d17_1 rfl rfl (pc' := 2) rfl ?_
  refine g_iconst (v := 0) X0 hx hby own_d17_2 rfl (pc' := 3) rfl ?_
  refine g_aloadN X0 hx hby own_d17_3 rfl rfl (pc' := 4) rfl ?_
  refine g_arraylength (n := (0 : Int32)) X0 hx hby hZ LA1 rfl own_d17_4 (pc' := 5) rfl ?_
  refine g_aconst_null X0 hx hby own_d17_5 (pc' := 6) rfl ?_
  refine gh_callC (argsL := [(.ref y1), (.int (0 : Int32)), (.int (0 : Int32)), .null]) (S := []) (a := y0) X0 hx hby hZ hS (Nat.le_refl _) (own_hEL hw) hC0 hss (y := (⟨"java/lang/String", "<init>", "([CIILjava/lang/Void;)V"⟩ : MethodName)) rfl hown (hw _ (List.mem_of_getElem? (i := 15) rfl)) (hw _ (List.mem_of_getElem? (i := 16) rfl)) (hw _ (List.mem_of_getElem? (i := 10) rfl)) (hw _ (List.mem_of_getElem? (i := 18) rfl)) (by decide) (own_n2_0 l Z a0 hw y0 y1 h0 n0 Z0 _ LA1 Ex F1 F2 gn cs Sc hcs) (by rw [hml]; rfl) (lenOf own_pd11 rfl) rfl own_d17_6 (by decide) (W := 0) (by exact Nat.le_of_eq rfl) (by decide) (by decide) (by decide) (pc' := 9) rfl (fun T632 v632 k632 X632 hS632 hk632 hZ632 hown632 hC632 hD632 hQ632 => ?_)
  obtain ⟨rfl, ka632, la632⟩ := hQ632
  show Gl p e below n0 _ _ (T632.setTop (mkF m 9 #[.val (.ref y0), .val (.ref y1)] []))
  exact gh_ret X632 hx hby hZ632 hS632 hk632 (own_hEL hw) hC632 hret hlk own_d17_9 ⟨rfl, ka632, la632⟩ (by decide) (by decide)
set_option maxRecDepth 65536 in
set_option maxHeartbeats 40000000 in
theorem own_ef633 (m : MethodId) (y0 : Int32) (y1 : Int32) (y2 : Int32)  : entryFrame m #[(.int y0), (.int y1), (.int y2)] 3 = mkF m 0 #[.val (.int y0), .val (.int y1), .val (.int y2)] [] := by first | (simp [entryFrame, mkF, argsToLocals, Value.category, maxLocals]; done) | rfl
theorem own_d26_0 : decode method_4_code 0 = .ok (.iload_n 0, 1) := by decide +kernel
theorem own_d26_1 : decode method_4_code 1 = .ok (.ifCond .ne 14, 3) := by decide +kernel
theorem own_d26_4 : decode method_4_code 4 = .ok (.new 41, 3) := by decide +kernel
theorem own_d26_7 : decode method_4_code 7 = .ok (.dup, 1) := by decide +kernel
theorem own_d26_8 : decode method_4_code 8 = .ok (.iconst 0, 1) := by decide +kernel
theorem own_d26_9 : decode method_4_code 9 = .ok (.newarray .char, 2) := by decide +kernel
theorem own_d26_11 : decode method_4_code 11 = .ok (.invokespecial 43, 3) := by decide +kernel
theorem own_pd18 : parseMethodDescriptor "([C)V" = some ⟨[(.array .char)], none⟩ := by decide +kernel
theorem own_d26_14 : decode method_4_code 14 = .ok (.areturn, 1) := by decide +kernel
set_option maxRecDepth 65536 in
set_option maxHeartbeats 40000000 in
theorem own_mk_0 (l : Launch) (Z : State) (a0 : Array Value) (hw : ∀ d ∈ tables_1, d.before a0 Z = true) (y1 y2 : Int32) (h0 : Heap) (n0 : Nat) (Z0 : n0 ≤ h0.size) (h1 : 0 ≤ y1.toInt ∧ y1.toInt ≤ 65535) (h2 : 0 ≤ y2.toInt ∧ y2.toInt ≤ 65535) (cs : Int32) (Sc : Sta Z h0 "java/lang/String" "COMPACT_STRINGS" "Z" (.int cs)) (hcs : ¬ cs = 0) (Sd : Sta Z h0 "java/lang/StringUTF16" "$assertionsDisabled" "Z" (.int 1)) (Sh : Sta Z h0 "java/lang/StringUTF16" "HI_BYTE_SHIFT" "I" (.int 0)) (Sl : Sta Z h0 "java/lang/StringUTF16" "LO_BYTE_SHIFT" "I" (.int 8)) :
    CtrH l Z own_EL [] (⟨"com/example/urutan/urutan/build/CodePointOrderComparePinLaw", "mk", "(ICC)Ljava/lang/String;"⟩ : MethodName) method_4_code 3 (some (.object "java/lang/String")) [] (own_room 3 4 8 44) #[(.int (0 : Int32)), (.int y1), (.int y2)] h0 n0 4 8 (fun v h => ∃ b, v = some (.ref b) ∧ Keep h0 h [] ∧ Sg Z h b 0 0 (own_cf2 y1 y2)) := by
  refine CtrH.of (plainFor_of_name own_pn5) ?_
  intro p e s m below meth c T0 hx hby hml hret hlk hnm hown hZ X0 hS hC0 hss
  rw [own_ef633 m ((0 : Int32)) (y1) (y2)]
  refine g_iloadN X0 hx hby own_d26_0 rfl (pc' := 1) rfl ?_
  refine g_if_ne X0 hx hby own_d26_1 (by decide) (pc' := 15) (by decide) (pc2 := 4) rfl (fun q => absurd (by decide) q) (fun c1_634 => ?_)
  refine g_new X0 hx hby hZ hown (hw _ (List.mem_of_getElem? (i := 8) rfl)) (hw _ (List.mem_of_getElem? (i := 9) rfl)) (hw _ (List.mem_of_getElem? (i := 10) rfl)) own_d26_4 (by decide) (by decide) (pc' := 7) rfl (fun T635 h635 b635 g635 X635 E635 A635 D635 => ?_)
  have nn636 : n0 ≤ b635 := by rw [g635]; exact Z0
  have hh637 : h0.size ≤ b635 := by rw [g635]; exact (Keep.refl h0 []).1
  have sn638 := Safe.ext E635 hC0.1 (Safe.new (x := b635) (Nat.le_of_eq g635.symm))
  have ch639 := hC0.trans (CHr.ext E635 hC0.1)
  have hk640 := Nat.le_trans (Nat.le_refl _) E635.1
  have q641 := Sc.ext E635
  have q642 := Sd.ext E635
  have q643 := Sh.ext E635
  have q644 := Sl.ext E635
  have zz645 := Nat.le_trans Z0 E635.1
  have kk646 : Keep h0 h635 [] := (Keep.refl h0 []).ext E635
  have q647 : Fld Z h635 b635 "java/lang/String" "value" "[B" .null := D635 (Or.inr (hw _ (List.mem_of_getElem? (i := 24) rfl))) (ty := (.array .byte)) (by decide)
  have q648 : Fld Z h635 b635 "java/lang/String" "coder" "B" (.int (0 : Int32)) := D635 (Or.inr (hw _ (List.mem_of_getElem? (i := 25) rfl))) (ty := .byte) (by decide)
  refine g_dup X635 hx hby own_d26_7 rfl (pc' := 8) rfl ?_
  refine g_iconst (v := 0) X635 hx hby own_d26_8 rfl (pc' := 9) rfl ?_
  refine g_newarray (k := 0) (cap := 0) X635 hx hby hZ (hw _ (List.mem_of_getElem? (i := 11) rfl)) own_d26_9 rfl (by decide) (by decide) (by decide) (by decide) (pc' := 11) rfl (fun T649 h649 b649 g649 X649 E649 A649 => ?_)
  have ne650 : b635 ≠ b649 := by rw [g649]; exact Nat.ne_of_lt A635.lt
  have nn651 : n0 ≤ b649 := by rw [g649]; exact zz645
  have hh652 : h0.size ≤ b649 := by rw [g649]; exact kk646.1
  have sn653 := Safe.ext E649 ch639.1 (Safe.new (x := b649) (Nat.le_of_eq g649.symm))
  have sf654 := Safe.ext E649 ch639.1 sn638
  have ch655 := ch639.trans (CHr.ext E649 ch639.1)
  have hk656 := Nat.le_trans hk640 E649.1
  have q657 := q641.ext E649
  have q658 := q642.ext E649
  have q659 := q643.ext E649
  have q660 := q644.ext E649
  have q661 := A635.ext E649
  have q662 := q647.ext E649
  have q663 := q648.ext E649
  have zz664 := Nat.le_trans zz645 E649.1
  have kk665 : Keep h0 h649 [] := kk646.ext E649
  refine gh_callC (argsL := [(.ref b649)]) (S := [(.ref b635)]) (a := b635) X649 hx hby hZ hS hk656 (own_hEL hw) ch655 (own_ss1 ⟨q661.lt, sf654⟩) (y := (⟨"java/lang/String", "<init>", "([C)V"⟩ : MethodName)) rfl hown (hw _ (List.mem_of_getElem? (i := 12) rfl)) (hw _ (List.mem_of_getElem? (i := 13) rfl)) (hw _ (List.mem_of_getElem? (i := 10) rfl)) (hw _ (List.mem_of_getElem? (i := 14) rfl)) (by decide) (own_n1_0 l Z a0 hw b635 b649 h649 n0 zz664 _ A649 q661 q662 q663 nn636 cs q657 hcs) (by rw [hml]; rfl) (lenOf own_pd18 rfl) rfl own_d26_11 (by decide) (W := 1) (by exact Nat.le_of_eq rfl) (by decide) (by decide) (by decide) (pc' := 14) rfl (fun T666 v666 k666 X666 hS666 hk666 hZ666 hown666 hC666 hD666 hQ666 => ?_)
  obtain ⟨rfl, ka666, la666⟩ := hQ666
  have q667 := q661.keep ka666
  have zz668 := Nat.le_trans zz664 ka666.1
  have kk669 : Keep h0 T666.heap [] := kk665.trans ka666 (allS (Or.inr hh637) all0)
  show Gl p e below n0 _ _ (T666.setTop (mkF m 14 #[.val (.int (0 : Int32)), .val (.int y1), .val (.int y2)] [(.ref b635)]))
  exact gh_retA X666 hx hby hZ666 hS666 hk666 (own_hEL hw) hC666 hret hlk rfl rfl own_d26_14 ⟨b635, rfl, kk669, la666.sg0⟩ (by decide) (by decide)
set_option maxRecDepth 65536 in
set_option maxHeartbeats 40000000 in
theorem own_ef670 (m : MethodId) (y0 : Int32) (y1 : Int32) (y2 : Int32)  : entryFrame m #[(.int y0), (.int y1), (.int y2)] 3 = mkF m 0 #[.val (.int y0), .val (.int y1), .val (.int y2)] [] := by first | (simp [entryFrame, mkF, argsToLocals, Value.category, maxLocals]; done) | rfl
theorem own_d26_15 : decode method_4_code 15 = .ok (.iload_n 0, 1) := by decide +kernel
theorem own_d26_16 : decode method_4_code 16 = .ok (.iconst 1, 1) := by decide +kernel
theorem own_d26_17 : decode method_4_code 17 = .ok (.if_icmp .ne 18, 3) := by decide +kernel
theorem own_d26_20 : decode method_4_code 20 = .ok (.new 41, 3) := by decide +kernel
theorem own_d26_23 : decode method_4_code 23 = .ok (.dup, 1) := by decide +kernel
theorem own_d26_24 : decode method_4_code 24 = .ok (.iconst 1, 1) := by decide +kernel
theorem own_d26_25 : decode method_4_code 25 = .ok (.newarray .char, 2) := by decide +kernel
theorem own_d26_27 : decode method_4_code 27 = .ok (.dup, 1) := by decide +kernel
theorem own_d26_28 : decode method_4_code 28 = .ok (.iconst 0, 1) := by decide +kernel
theorem own_d26_29 : decode method_4_code 29 = .ok (.iload_n 1, 1) := by decide +kernel
theorem own_d26_30 : decode method_4_code 30 = .ok (.castore, 1) := by decide +kernel
theorem own_d26_31 : decode method_4_code 31 = .ok (.invokespecial 43, 3) := by decide +kernel
theorem own_d26_34 : decode method_4_code 34 = .ok (.areturn, 1) := by decide +kernel
set_option maxRecDepth 65536 in
set_option maxHeartbeats 40000000 in
theorem own_mk_1 (l : Launch) (Z : State) (a0 : Array Value) (hw : ∀ d ∈ tables_1, d.before a0 Z = true) (y1 y2 : Int32) (h0 : Heap) (n0 : Nat) (Z0 : n0 ≤ h0.size) (h1 : 0 ≤ y1.toInt ∧ y1.toInt ≤ 65535) (h2 : 0 ≤ y2.toInt ∧ y2.toInt ≤ 65535) (cs : Int32) (Sc : Sta Z h0 "java/lang/String" "COMPACT_STRINGS" "Z" (.int cs)) (hcs : ¬ cs = 0) (Sd : Sta Z h0 "java/lang/StringUTF16" "$assertionsDisabled" "Z" (.int 1)) (Sh : Sta Z h0 "java/lang/StringUTF16" "HI_BYTE_SHIFT" "I" (.int 0)) (Sl : Sta Z h0 "java/lang/StringUTF16" "LO_BYTE_SHIFT" "I" (.int 8)) :
    Ctr l Z (⟨"com/example/urutan/urutan/build/CodePointOrderComparePinLaw", "mk", "(ICC)Ljava/lang/String;"⟩ : MethodName) method_4_code 3 (some (.object "java/lang/String")) [] (own_room 6 4 11 88) #[(.int (1 : Int32)), (.int y1), (.int y2)] h0 n0 4 11 (fun v h => ∃ b, v = some (.ref b) ∧ Keep h0 h [] ∧ Sg Z h b 1 2 (own_cf2 y1 y2)) := by
  refine Ctr.of (plainFor_of_name own_pn5) ?_
  intro p e s m below meth c T0 hx hby hml hret hlk hnm hown hZ X0
  rw [own_ef670 m ((1 : Int32)) (y1) (y2)]
  refine g_iloadN X0 hx hby own_d26_0 rfl (pc' := 1) rfl ?_
  refine g_if_ne X0 hx hby own_d26_1 (by decide) (pc' := 15) (by decide) (pc2 := 4) rfl (fun c1_671 => ?_) (fun q => absurd q (by decide))
  refine g_iloadN X0 hx hby own_d26_15 rfl (pc' := 16) rfl ?_
  refine g_iconst (v := 1) X0 hx hby own_d26_16 rfl (pc' := 17) rfl ?_
  refine g_icmp_ne X0 hx hby own_d26_17 (by decide) (pc' := 35) (by decide) (pc2 := 20) rfl (fun q => absurd (by decide) q) (fun c17_672 => ?_)
  refine g_new X0 hx hby hZ hown (hw _ (List.mem_of_getElem? (i := 8) rfl)) (hw _ (List.mem_of_getElem? (i := 9) rfl)) (hw _ (List.mem_of_getElem? (i := 10) rfl)) own_d26_20 (by decide) (by decide) (pc' := 23) rfl (fun T673 h673 b673 g673 X673 E673 A673 D673 => ?_)
  have nn674 : n0 ≤ b673 := by rw [g673]; exact Z0
  have hh675 : h0.size ≤ b673 := by rw [g673]; exact (Keep.refl h0 []).1
  have q676 := Sc.ext E673
  have q677 := Sd.ext E673
  have q678 := Sh.ext E673
  have q679 := Sl.ext E673
  have zz680 := Nat.le_trans Z0 E673.1
  have kk681 : Keep h0 h673 [] := (Keep.refl h0 []).ext E673
  have q682 : Fld Z h673 b673 "java/lang/String" "value" "[B" .null := D673 (Or.inr (hw _ (List.mem_of_getElem? (i := 24) rfl))) (ty := (.array .byte)) (by decide)
  have q683 : Fld Z h673 b673 "java/lang/String" "coder" "B" (.int (0 : Int32)) := D673 (Or.inr (hw _ (List.mem_of_getElem? (i := 25) rfl))) (ty := .byte) (by decide)
  refine g_dup X673 hx hby own_d26_23 rfl (pc' := 24) rfl ?_
  refine g_iconst (v := 1) X673 hx hby own_d26_24 rfl (pc' := 25) rfl ?_
  refine g_newarray (k := 1) (cap := 1) X673 hx hby hZ (hw _ (List.mem_of_getElem? (i := 11) rfl)) own_d26_25 rfl (by decide) (by decide) (by decide) (by decide) (pc' := 27) rfl (fun T684 h684 b684 g684 X684 E684 A684 => ?_)
  have ne685 : b673 ≠ b684 := by rw [g684]; exact Nat.ne_of_lt A673.lt
  have nn686 : n0 ≤ b684 := by rw [g684]; exact zz680
  have hh687 : h0.size ≤ b684 := by rw [g684]; exact kk681.1
  have q688 := q676.ext E684
  have q689 := q677.ext E684
  have q690 := q678.ext E684
  have q691 := q679.ext E684
  have q692 := A673.ext E684
  have q693 := q682.ext E684
  have q694 := q683.ext E684
  have zz695 := Nat.le_trans zz680 E684.1
  have kk696 : Keep h0 h684 [] := kk681.ext E684
  refine g_dup X684 hx hby own_d26_27 rfl (pc' := 28) rfl ?_
  refine g_iconst (v := 0) X684 hx hby own_d26_28 rfl (pc' := 29) rfl ?_
  refine g_iloadN X684 hx hby own_d26_29 rfl (pc' := 30) rfl ?_
  refine g_castore (i := 0) X684 hx hby hZ A684 rfl (by decide) nn686 own_d26_30 (pc' := 31) rfl (fun T697 h697 sl697 X697 W697 A697 => ?_)
  have q698 := q688.wr W697
  have q699 := q689.wr W697
  have q700 := q690.wr W697
  have q701 := q691.wr W697
  have q702 := q692.wr W697
  have q703 := q693.other W697 (Or.inl ne685)
  have q704 := q694.other W697 (Or.inl ne685)
  have zz705 := Nat.le_trans zz695 (Nat.le_of_eq W697.size.symm)
  have kk706 : Keep h0 h697 [] := kk696.wr W697 (Or.inr hh687)
  have AG708 : Ary Z h697 b684 .char 1 (fun i => .int (own_cf2 y1 y2 i)) := by
    refine A697.congr fun i hi => ?_
    have h8 : i = 0 := by omega
    rcases h8 with rfl
    · exact congrArg Value.int (own_narC h1)
  refine g_callC (argsL := [(.ref b684)]) (S := [(.ref b673)]) (a := b673) X697 hx hby hZ (y := (⟨"java/lang/String", "<init>", "([C)V"⟩ : MethodName)) rfl hown (hw _ (List.mem_of_getElem? (i := 12) rfl)) (hw _ (List.mem_of_getElem? (i := 13) rfl)) (hw _ (List.mem_of_getElem? (i := 10) rfl)) (hw _ (List.mem_of_getElem? (i := 14) rfl)) (by decide) (own_n1_1 l Z a0 hw b673 b684 h697 n0 zz705 (own_cf2 y1 y2) (own_cf2r h1 h2) AG708 q702 q703 q704 nn674 cs q698 hcs q699 q700 q701) (by rw [hml]; rfl) (lenOf own_pd18 rfl) rfl own_d26_31 (by decide) (W := 1) (by exact Nat.le_of_eq rfl) (by decide) (by decide) (by decide) (pc' := 34) rfl (fun T707 v707 X707 hQ707 => ?_)
  obtain ⟨rfl, ka707, la707⟩ := hQ707
  have q709 := q702.keep ka707
  have zz710 := Nat.le_trans zz705 ka707.1
  have kk711 : Keep h0 T707.heap [] := kk706.trans ka707 (allS (Or.inr hh675) all0)
  show Gl p e below n0 _ _ (T707.setTop (mkF m 34 #[.val (.int (1 : Int32)), .val (.int y1), .val (.int y2)] [(.ref b673)]))
  exact g_retA X707 hx hby hret hlk rfl rfl own_d26_34 ⟨b673, rfl, kk711, la707⟩ (by decide) (by decide)
set_option maxRecDepth 65536 in
set_option maxHeartbeats 40000000 in
theorem own_ef712 (m : MethodId) (y0 : Int32) (y1 : Int32) (y2 : Int32)  : entryFrame m #[(.int y0), (.int y1), (.int y2)] 3 = mkF m 0 #[.val (.int y0), .val (.int y1), .val (.int y2)] [] := by first | (simp [entryFrame, mkF, argsToLocals, Value.category, maxLocals]; done) | rfl
theorem own_d26_35 : decode method_4_code 35 = .ok (.new 41, 3) := by decide +kernel
theorem own_d26_38 : decode method_4_code 38 = .ok (.dup, 1) := by decide +kernel
theorem own_d26_39 : decode method_4_code 39 = .ok (.iconst 2, 1) := by decide +kernel
theorem own_d26_40 : decode method_4_code 40 = .ok (.newarray .char, 2) := by decide +kernel
theorem own_d26_42 : decode method_4_code 42 = .ok (.dup, 1) := by decide +kernel
theorem own_d26_43 : decode method_4_code 43 = .ok (.iconst 0, 1) := by decide +kernel
theorem own_d26_44 : decode method_4_code 44 = .ok (.iload_n 1, 1) := by decide +kernel
theorem own_d26_45 : decode method_4_code 45 = .ok (.castore, 1) := by decide +kernel
theorem own_d26_46 : decode method_4_code 46 = .ok (.dup, 1) := by decide +kernel
theorem own_d26_47 : decode method_4_code 47 = .ok (.iconst 1, 1) := by decide +kernel
theorem own_d26_48 : decode method_4_code 48 = .ok (.iload_n 2, 1) := by decide +kernel
theorem own_d26_49 : decode method_4_code 49 = .ok (.castore, 1) := by decide +kernel
theorem own_d26_50 : decode method_4_code 50 = .ok (.invokespecial 43, 3) := by decide +kernel
theorem own_d26_53 : decode method_4_code 53 = .ok (.areturn, 1) := by decide +kernel
set_option maxRecDepth 65536 in
set_option maxHeartbeats 40000000 in
theorem own_mk_2 (l : Launch) (Z : State) (a0 : Array Value) (hw : ∀ d ∈ tables_1, d.before a0 Z = true) (y1 y2 : Int32) (h0 : Heap) (n0 : Nat) (Z0 : n0 ≤ h0.size) (h1 : 0 ≤ y1.toInt ∧ y1.toInt ≤ 65535) (h2 : 0 ≤ y2.toInt ∧ y2.toInt ≤ 65535) (cs : Int32) (Sc : Sta Z h0 "java/lang/String" "COMPACT_STRINGS" "Z" (.int cs)) (hcs : ¬ cs = 0) (Sd : Sta Z h0 "java/lang/StringUTF16" "$assertionsDisabled" "Z" (.int 1)) (Sh : Sta Z h0 "java/lang/StringUTF16" "HI_BYTE_SHIFT" "I" (.int 0)) (Sl : Sta Z h0 "java/lang/StringUTF16" "LO_BYTE_SHIFT" "I" (.int 8)) :
    Ctr l Z (⟨"com/example/urutan/urutan/build/CodePointOrderComparePinLaw", "mk", "(ICC)Ljava/lang/String;"⟩ : MethodName) method_4_code 3 (some (.object "java/lang/String")) [] (own_room 6 4 12 88) #[(.int (2 : Int32)), (.int y1), (.int y2)] h0 n0 4 12 (fun v h => ∃ b, v = some (.ref b) ∧ Keep h0 h [] ∧ Sg Z h b 2 4 (own_cf2 y1 y2)) := by
  refine Ctr.of (plainFor_of_name own_pn5) ?_
  intro p e s m below meth c T0 hx hby hml hret hlk hnm hown hZ X0
  rw [own_ef712 m ((2 : Int32)) (y1) (y2)]
  refine g_iloadN X0 hx hby own_d26_0 rfl (pc' := 1) rfl ?_
  refine g_if_ne X0 hx hby own_d26_1 (by decide) (pc' := 15) (by decide) (pc2 := 4) rfl (fun c1_713 => ?_) (fun q => absurd q (by decide))
  refine g_iloadN X0 hx hby own_d26_15 rfl (pc' := 16) rfl ?_
  refine g_iconst (v := 1) X0 hx hby own_d26_16 rfl (pc' := 17) rfl ?_
  refine g_icmp_ne X0 hx hby own_d26_17 (by decide) (pc' := 35) (by decide) (pc2 := 20) rfl (fun c17_714 => ?_) (fun q => absurd q (by decide))
  refine g_new X0 hx hby hZ hown (hw _ (List.mem_of_getElem? (i := 8) rfl)) (hw _ (List.mem_of_getElem? (i := 9) rfl)) (hw _ (List.mem_of_getElem? (i := 10) rfl)) own_d26_35 (by decide) (by decide) (pc' := 38) rfl (fun T715 h715 b715 g715 X715 E715 A715 D715 => ?_)
  have nn716 : n0 ≤ b715 := by rw [g715]; exact Z0
  have hh717 : h0.size ≤ b715 := by rw [g715]; exact (Keep.refl h0 []).1
  have q718 := Sc.ext E715
  have q719 := Sd.ext E715
  have q720 := Sh.ext E715
  have q721 := Sl.ext E715
  have zz722 := Nat.le_trans Z0 E715.1
  have kk723 : Keep h0 h715 [] := (Keep.refl h0 []).ext E715
  have q724 : Fld Z h715 b715 "java/lang/String" "value" "[B" .null := D715 (Or.inr (hw _ (List.mem_of_getElem? (i := 24) rfl))) (ty := (.array .byte)) (by decide)
  have q725 : Fld Z h715 b715 "java/lang/String" "coder" "B" (.int (0 : Int32)) := D715 (Or.inr (hw _ (List.mem_of_getElem? (i := 25) rfl))) (ty := .byte) (by decide)
  refine g_dup X715 hx hby own_d26_38 rfl (pc' := 39) rfl ?_
  refine g_iconst (v := 2) X715 hx hby own_d26_39 rfl (pc' := 40) rfl ?_
  refine g_newarray (k := 2) (cap := 2) X715 hx hby hZ (hw _ (List.mem_of_getElem? (i := 11) rfl)) own_d26_40 rfl (by decide) (by decide) (by decide) (by decide) (pc' := 42) rfl (fun T726 h726 b726 g726 X726 E726 A726 => ?_)
  have ne727 : b715 ≠ b726 := by rw [g726]; exact Nat.ne_of_lt A715.lt
  have nn728 : n0 ≤ b726 := by rw [g726]; exact zz722
  have hh729 : h0.size ≤ b726 := by rw [g726]; exact kk723.1
  have q730 := q718.ext E726
  have q731 := q719.ext E726
  have q732 := q720.ext E726
  have q733 := q721.ext E726
  have q734 := A715.ext E726
  have q735 := q724.ext E726
  have q736 := q725.ext E726
  have zz737 := Nat.le_trans zz722 E726.1
  have kk738 : Keep h0 h726 [] := kk723.ext E726
  refine g_dup X726 hx hby own_d26_42 rfl (pc' := 43) rfl ?_
  refine g_iconst (v := 0) X726 hx hby own_d26_43 rfl (pc' := 44) rfl ?_
  refine g_iloadN X726 hx hby own_d26_44 rfl (pc' := 45) rfl ?_
  refine g_castore (i := 0) X726 hx hby hZ A726 rfl (by decide) nn728 own_d26_45 (pc' := 46) rfl (fun T739 h739 sl739 X739 W739 A739 => ?_)
  have q740 := q730.wr W739
  have q741 := q731.wr W739
  have q742 := q732.wr W739
  have q743 := q733.wr W739
  have q744 := q734.wr W739
  have q745 := q735.other W739 (Or.inl ne727)
  have q746 := q736.other W739 (Or.inl ne727)
  have zz747 := Nat.le_trans zz737 (Nat.le_of_eq W739.size.symm)
  have kk748 : Keep h0 h739 [] := kk738.wr W739 (Or.inr hh729)
  refine g_dup X739 hx hby own_d26_46 rfl (pc' := 47) rfl ?_
  refine g_iconst (v := 1) X739 hx hby own_d26_47 rfl (pc' := 48) rfl ?_
  refine g_iloadN X739 hx hby own_d26_48 rfl (pc' := 49) rfl ?_
  refine g_castore (i := 1) X739 hx hby hZ A739 rfl (by decide) nn728 own_d26_49 (pc' := 50) rfl (fun T749 h749 sl749 X749 W749 A749 => ?_)
  have q750 := q740.wr W749
  have q751 := q741.wr W749
  have q752 := q742.wr W749
  have q753 := q743.wr W749
  have q754 := q744.wr W749
  have q755 := q745.other W749 (Or.inl ne727)
  have q756 := q746.other W749 (Or.inl ne727)
  have zz757 := Nat.le_trans zz747 (Nat.le_of_eq W749.size.symm)
  have kk758 : Keep h0 h749 [] := kk748.wr W749 (Or.inr hh729)
  have AG760 : Ary Z h749 b726 .char 2 (fun i => .int (own_cf2 y1 y2 i)) := by
    refine A749.congr fun i hi => ?_
    have h8 : i = 0 ∨ i = 1 := by omega
    rcases h8 with rfl | rfl
    · exact congrArg Value.int (own_narC h1)
    · exact congrArg Value.int (own_narC h2)
  refine g_callC (argsL := [(.ref b726)]) (S := [(.ref b715)]) (a := b715) X749 hx hby hZ (y := (⟨"java/lang/String", "<init>", "([C)V"⟩ : MethodName)) rfl hown (hw _ (List.mem_of_getElem? (i := 12) rfl)) (hw _ (List.mem_of_getElem? (i := 13) rfl)) (hw _ (List.mem_of_getElem? (i := 10) rfl)) (hw _ (List.mem_of_getElem? (i := 14) rfl)) (by decide) (own_n1_2 l Z a0 hw b715 b726 h749 n0 zz757 (own_cf2 y1 y2) (own_cf2r h1 h2) AG760 q754 q755 q756 nn716 cs q750 hcs q751 q752 q753) (by rw [hml]; rfl) (lenOf own_pd18 rfl) rfl own_d26_50 (by decide) (W := 1) (by exact Nat.le_of_eq rfl) (by decide) (by decide) (by decide) (pc' := 53) rfl (fun T759 v759 X759 hQ759 => ?_)
  obtain ⟨rfl, ka759, la759⟩ := hQ759
  have q761 := q754.keep ka759
  have zz762 := Nat.le_trans zz757 ka759.1
  have kk763 : Keep h0 T759.heap [] := kk758.trans ka759 (allS (Or.inr hh717) all0)
  show Gl p e below n0 _ _ (T759.setTop (mkF m 53 #[.val (.int (2 : Int32)), .val (.int y1), .val (.int y2)] [(.ref b715)]))
  exact g_retA X759 hx hby hret hlk rfl rfl own_d26_53 ⟨b715, rfl, kk763, la759⟩ (by decide) (by decide)
set_option maxRecDepth 65536 in
set_option maxHeartbeats 40000000 in
theorem own_ef764 (m : MethodId) (y0 : Int32)  : entryFrame m #[(.int y0)] 3 = mkF m 0 #[.val (.int y0), .unset, .unset] [] := by first | (simp [entryFrame, mkF, argsToLocals, Value.category, maxLocals]; done) | rfl
theorem own_d27_0 : decode method_3_code 0 = .ok (.iload_n 0, 1) := by decide +kernel
theorem own_d27_1 : decode method_3_code 1 = .ok (.bipush 16, 2) := by decide +kernel
theorem own_d27_3 : decode method_3_code 3 = .ok (.iushr, 1) := by decide +kernel
theorem own_d27_4 : decode method_3_code 4 = .ok (.iconst 3, 1) := by decide +kernel
theorem own_d27_5 : decode method_3_code 5 = .ok (.iand, 1) := by decide +kernel
theorem own_d27_6 : decode method_3_code 6 = .ok (.istore_n 1, 1) := by decide +kernel
theorem own_d27_7 : decode method_3_code 7 = .ok (.iload_n 0, 1) := by decide +kernel
theorem own_d27_8 : decode method_3_code 8 = .ok (.ldc 37, 2) := by decide +kernel
theorem own_d27_10 : decode method_3_code 10 = .ok (.iand, 1) := by decide +kernel
theorem own_d27_11 : decode method_3_code 11 = .ok (.istore_n 2, 1) := by decide +kernel
theorem own_d27_12 : decode method_3_code 12 = .ok (.iload_n 1, 1) := by decide +kernel
theorem own_d27_13 : decode method_3_code 13 = .ok (.ifCond .ne 6, 3) := by decide +kernel
theorem own_d27_19 : decode method_3_code 19 = .ok (.iload_n 1, 1) := by decide +kernel
theorem own_d27_20 : decode method_3_code 20 = .ok (.iconst 1, 1) := by decide +kernel
theorem own_d27_21 : decode method_3_code 21 = .ok (.if_icmp .ne 13, 3) := by decide +kernel
theorem own_d27_34 : decode method_3_code 34 = .ok (.iload_n 1, 1) := by decide +kernel
theorem own_d27_35 : decode method_3_code 35 = .ok (.iconst 2, 1) := by decide +kernel
theorem own_d27_36 : decode method_3_code 36 = .ok (.if_icmp .ne 13, 3) := by decide +kernel
theorem own_d27_49 : decode method_3_code 49 = .ok (.ldc 40, 2) := by decide +kernel
theorem own_d27_51 : decode method_3_code 51 = .ok (.iload_n 2, 1) := by decide +kernel
theorem own_d27_52 : decode method_3_code 52 = .ok (.sipush 8191, 3) := by decide +kernel
theorem own_d27_55 : decode method_3_code 55 = .ok (.iand, 1) := by decide +kernel
theorem own_d27_56 : decode method_3_code 56 = .ok (.iadd, 1) := by decide +kernel
theorem own_d27_57 : decode method_3_code 57 = .ok (.i2c, 1) := by decide +kernel
theorem own_d27_58 : decode method_3_code 58 = .ok (.ireturn, 1) := by decide +kernel
theorem own_d27_39 : decode method_3_code 39 = .ok (.ldc 39, 2) := by decide +kernel
theorem own_d27_41 : decode method_3_code 41 = .ok (.iload_n 2, 1) := by decide +kernel
theorem own_d27_42 : decode method_3_code 42 = .ok (.sipush 8191, 3) := by decide +kernel
theorem own_d27_45 : decode method_3_code 45 = .ok (.iand, 1) := by decide +kernel
theorem own_d27_46 : decode method_3_code 46 = .ok (.iadd, 1) := by decide +kernel
theorem own_d27_47 : decode method_3_code 47 = .ok (.i2c, 1) := by decide +kernel
theorem own_d27_48 : decode method_3_code 48 = .ok (.ireturn, 1) := by decide +kernel
theorem own_d27_24 : decode method_3_code 24 = .ok (.ldc 38, 2) := by decide +kernel
theorem own_d27_26 : decode method_3_code 26 = .ok (.iload_n 2, 1) := by decide +kernel
theorem own_d27_27 : decode method_3_code 27 = .ok (.sipush 2047, 3) := by decide +kernel
theorem own_d27_30 : decode method_3_code 30 = .ok (.iand, 1) := by decide +kernel
theorem own_d27_31 : decode method_3_code 31 = .ok (.iadd, 1) := by decide +kernel
theorem own_d27_32 : decode method_3_code 32 = .ok (.i2c, 1) := by decide +kernel
theorem own_d27_33 : decode method_3_code 33 = .ok (.ireturn, 1) := by decide +kernel
theorem own_d27_16 : decode method_3_code 16 = .ok (.iload_n 2, 1) := by decide +kernel
theorem own_d27_17 : decode method_3_code 17 = .ok (.i2c, 1) := by decide +kernel
theorem own_d27_18 : decode method_3_code 18 = .ok (.ireturn, 1) := by decide +kernel
set_option maxRecDepth 65536 in
set_option maxHeartbeats 40000000 in
theorem own_dr (l : Launch) (Z : State) (a0 : Array Value) (hw : ∀ d ∈ tables_1, d.before a0 Z = true) (y0 : Int32) (h0 : Heap) (n0 : Nat)  :
    Ctr l Z (⟨"com/example/urutan/urutan/build/CodePointOrderComparePinLaw", "draw", "(I)C"⟩ : MethodName) method_3_code 3 (some .char) [] (own_room 0 0 0 0) #[(.int y0)] h0 n0 0 0 (fun v h => ∃ c : Int32, v = some (.int c) ∧ (0 ≤ c.toInt ∧ c.toInt ≤ 65535) ∧ h = h0) := by
  refine Ctr.of (plainFor_of_name own_pn5) ?_
  intro p e s m below meth c T0 hx hby hml hret hlk hnm hown hZ X0
  rw [own_ef764 m (y0)]
  refine g_iloadN X0 hx hby own_d27_0 rfl (pc' := 1) rfl ?_
  refine g_bipush (v := 16) X0 hx hby own_d27_1 rfl (pc' := 3) rfl ?_
  refine g_iushr X0 hx hby own_d27_3 (pc' := 4) rfl ?_
  refine g_iconst (v := 3) X0 hx hby own_d27_4 rfl (pc' := 5) rfl ?_
  refine g_iand X0 hx hby own_d27_5 (pc' := 6) rfl ?_
  refine g_istoreN (L' := #[.val (.int y0), .val (.int (((y0.toUInt32 >>> ((16 : Int32) &&& 31).toUInt32).toInt32) &&& (3 : Int32))), .unset]) X0 hx hby own_d27_6 rfl (pc' := 7) rfl ?_
  refine g_iloadN X0 hx hby own_d27_7 rfl (pc' := 8) rfl ?_
  refine g_ldc X0 hx hby hZ hown (hw _ (List.mem_of_getElem? (i := 4) rfl)) own_d27_8 (pc' := 10) rfl ?_
  refine g_iand X0 hx hby own_d27_10 (pc' := 11) rfl ?_
  refine g_istoreN (L' := #[.val (.int y0), .val (.int (((y0.toUInt32 >>> ((16 : Int32) &&& 31).toUInt32).toInt32) &&& (3 : Int32))), .val (.int (y0 &&& (65535 : Int32)))]) X0 hx hby own_d27_11 rfl (pc' := 12) rfl ?_
  refine g_iloadN X0 hx hby own_d27_12 rfl (pc' := 13) rfl ?_
  refine g_if_ne X0 hx hby own_d27_13 (by decide) (pc' := 19) (by decide) (pc2 := 16) rfl (fun c13_765 => ?_) (fun c13_765 => ?_)
  · refine g_iloadN X0 hx hby own_d27_19 rfl (pc' := 20) rfl ?_
    refine g_iconst (v := 1) X0 hx hby own_d27_20 rfl (pc' := 21) rfl ?_
    refine g_icmp_ne X0 hx hby own_d27_21 (by decide) (pc' := 34) (by decide) (pc2 := 24) rfl (fun c21_766 => ?_) (fun c21_766 => ?_)
    · refine g_iloadN X0 hx hby own_d27_34 rfl (pc' := 35) rfl ?_
      refine g_iconst (v := 2) X0 hx hby own_d27_35 rfl (pc' := 36) rfl ?_
      refine g_icmp_ne X0 hx hby own_d27_36 (by decide) (pc' := 49) (by decide) (pc2 := 39) rfl (fun c36_767 => ?_) (fun c36_767 => ?_)
      · refine g_ldc X0 hx hby hZ hown (hw _ (List.mem_of_getElem? (i := 65) rfl)) own_d27_49 (pc' := 51) rfl ?_
        refine g_iloadN X0 hx hby own_d27_51 rfl (pc' := 52) rfl ?_
        refine g_sipush (v := 8191) X0 hx hby own_d27_52 rfl (pc' := 55) rfl ?_
        refine g_iand X0 hx hby own_d27_55 (pc' := 56) rfl ?_
        refine g_iadd X0 hx hby own_d27_56 (pc' := 57) rfl ?_
        refine g_i2c X0 hx hby own_d27_57 (pc' := 58) rfl ?_
        exact g_retN X0 hx hby hret hlk (by simp) own_d27_58 ⟨_, rfl, own_i2cr _, rfl⟩ (by decide) (by decide)
      · refine g_ldc X0 hx hby hZ hown (hw _ (List.mem_of_getElem? (i := 63) rfl)) own_d27_39 (pc' := 41) rfl ?_
        refine g_iloadN X0 hx hby own_d27_41 rfl (pc' := 42) rfl ?_
        refine g_sipush (v := 8191) X0 hx hby own_d27_42 rfl (pc' := 45) rfl ?_
        refine g_iand X0 hx hby own_d27_45 (pc' := 46) rfl ?_
        refine g_iadd X0 hx hby own_d27_46 (pc' := 47) rfl ?_
        refine g_i2c X0 hx hby own_d27_47 (pc' := 48) rfl ?_
        exact g_retN X0 hx hby hret hlk (by simp) own_d27_48 ⟨_, rfl, own_i2cr _, rfl⟩ (by decide) (by decide)
    · refine g_ldc X0 hx hby hZ hown (hw _ (List.mem_of_getElem? (i := 64) rfl)) own_d27_24 (pc' := 26) rfl ?_
      refine g_iloadN X0 hx hby own_d27_26 rfl (pc' := 27) rfl ?_
      refine g_sipush (v := 2047) X0 hx hby own_d27_27 rfl (pc' := 30) rfl ?_
      refine g_iand X0 hx hby own_d27_30 (pc' := 31) rfl ?_
      refine g_iadd X0 hx hby own_d27_31 (pc' := 32) rfl ?_
      refine g_i2c X0 hx hby own_d27_32 (pc' := 33) rfl ?_
      exact g_retN X0 hx hby hret hlk (by simp) own_d27_33 ⟨_, rfl, own_i2cr _, rfl⟩ (by decide) (by decide)
  · refine g_iloadN X0 hx hby own_d27_16 rfl (pc' := 17) rfl ?_
    refine g_i2c X0 hx hby own_d27_17 (pc' := 18) rfl ?_
    exact g_retN X0 hx hby hret hlk (by simp) own_d27_18 ⟨_, rfl, own_i2cr _, rfl⟩ (by decide) (by decide)
set_option maxRecDepth 65536 in
set_option maxHeartbeats 40000000 in
theorem own_ef768 (m : MethodId) (y0 : Int32) (y1 : Int32) (y2 : Int32) (y3 : Int32) (y4 : Int32)  : entryFrame m #[(.int y0), (.int y1), (.int y2), (.int y3), (.int y4)] maxLocals = mkF m 0 #[.val (.int y0), .val (.int y1), .val (.int y2), .val (.int y3), .val (.int y4), .unset, .unset, .unset, .unset, .unset, .unset, .unset, .unset, .unset, .unset, .unset, .unset] [] := by first | (simp [entryFrame, mkF, argsToLocals, Value.category, maxLocals]; done) | rfl
theorem own_pd19 : parseMethodDescriptor "(ICC)Ljava/lang/String;" = some ⟨[.int, .char, .char], (some (.object "java/lang/String"))⟩ := by decide +kernel
theorem own_pd20 : parseMethodDescriptor "(Ljava/lang/String;Ljava/lang/String;)I" = some ⟨[(.object "java/lang/String"), (.object "java/lang/String")], (some .int)⟩ := by decide +kernel
theorem own_pd21 : parseMethodDescriptor "(CC)I" = some ⟨[.char, .char], (some .int)⟩ := by decide +kernel
set_option maxRecDepth 65536 in
set_option maxHeartbeats 40000000 in
theorem own_rm0 (l : Launch) (Z : State) (a0 : Array Value) (hw : ∀ d ∈ tables_1, d.before a0 Z = true) (y0 y1 y2 y3 y4 : Int32) (h0 : Heap) (n0 : Nat) (Z0 : n0 ≤ h0.size) (hCH : CHv Z own_EL Z.vm Z.heap) (cs : Int32) (Sc : Sta Z h0 "java/lang/String" "COMPACT_STRINGS" "Z" (.int cs)) (hcs : ¬ cs = 0) (fm : Value) (Sf : Sta Z h0 "jdk/internal/util/Preconditions" "SIOOBE_FORMATTER" "Ljava/util/function/BiFunction;" fm) (hfm : fm.isRef = true) (Sd : Sta Z h0 "java/lang/StringUTF16" "$assertionsDisabled" "Z" (.int 1)) (Sh : Sta Z h0 "java/lang/StringUTF16" "HI_BYTE_SHIFT" "I" (.int 0)) (Sl : Sta Z h0 "java/lang/StringUTF16" "LO_BYTE_SHIFT" "I" (.int 8)) :
    CtrL l Z x code maxLocals ret tables_1 room_1 #[(.int y0), (.int y1), (.int y2), (.int y3), (.int y4)] h0 n0 8 24 (fun v h => v = some (.int 1)) := by
  refine CtrL.of (plainFor_of_name own_pn5) ?_
  intro p e s m below meth c T0 hx hby hml hret hlk hnm hown hZ X0 hS hsZ hsh
  rw [own_ef768 m (y0) (y1) (y2) (y3) (y4)]
  have hC0 : CHr Z own_EL s.vm h0 s.vm h0 := CHr.refl (by rw [← hsh, hsZ]; exact hCH)
  refine g_iloadN X0 hx hby at_0 rfl (pc' := 1) rfl ?_
  refine g_bipush (v := 15) X0 hx hby at_1 rfl (pc' := 3) rfl ?_
  refine g_iand X0 hx hby at_3 (pc' := 4) rfl ?_
  refine g_iconst (v := 3) X0 hx hby at_4 rfl (pc' := 5) rfl ?_
  refine g_irem X0 hx hby at_5 (by decide) (pc' := 6) rfl ?_
  refine g_istore (L' := #[.val (.int y0), .val (.int y1), .val (.int y2), .val (.int y3), .val (.int y4), .val (.int ((y0 &&& (15 : Int32)) % (3 : Int32))), .unset, .unset, .unset, .unset, .unset, .unset, .unset, .unset, .unset, .unset, .unset]) X0 hx hby at_6 rfl (pc' := 8) rfl ?_
  refine g_iloadN X0 hx hby at_8 rfl (pc' := 9) rfl ?_
  refine g_iconst (v := 4) X0 hx hby at_9 rfl (pc' := 10) rfl ?_
  refine g_iushr X0 hx hby at_10 (pc' := 11) rfl ?_
  refine g_bipush (v := 15) X0 hx hby at_11 rfl (pc' := 13) rfl ?_
  refine g_iand X0 hx hby at_13 (pc' := 14) rfl ?_
  refine g_iconst (v := 3) X0 hx hby at_14 rfl (pc' := 15) rfl ?_
  refine g_irem X0 hx hby at_15 (by decide) (pc' := 16) rfl ?_
  refine g_istore (L' := #[.val (.int y0), .val (.int y1), .val (.int y2), .val (.int y3), .val (.int y4), .val (.int ((y0 &&& (15 : Int32)) % (3 : Int32))), .val (.int ((((y0.toUInt32 >>> ((4 : Int32) &&& 31).toUInt32).toInt32) &&& (15 : Int32)) % (3 : Int32))), .unset, .unset, .unset, .unset, .unset, .unset, .unset, .unset, .unset, .unset]) X0 hx hby at_16 rfl (pc' := 18) rfl ?_
  refine g_iloadN X0 hx hby at_18 rfl (pc' := 19) rfl ?_
  refine g_callS (argsL := [(.int y1)]) (S := []) X0 hx hby hZ (y := (⟨"com/example/urutan/urutan/build/CodePointOrderComparePinLaw", "draw", "(I)C"⟩ : MethodName)) hown (hw _ (List.mem_of_getElem? (i := 0) rfl)) (hw _ (List.mem_of_getElem? (i := 1) rfl)) (hw _ (List.mem_of_getElem? (i := 2) rfl)) (hw _ (List.mem_of_getElem? (i := 3) rfl)) (by decide) (own_dr l Z a0 hw (y1) h0 n0) (by rw [hml]; rfl) (lenOf own_pd17 rfl) rfl at_19 (by decide) (W := 0) (by exact Nat.le_of_eq rfl) (by decide) (by decide) (by decide) (pc' := 22) rfl (fun T769 v769 X769 hQ769 => ?_)
  obtain ⟨k769, rfl, rg769, e769⟩ := hQ769
  rw [e769] at X769
  show Gl p e below n0 _ _ (T769.setTop (mkF m 22 #[.val (.int y0), .val (.int y1), .val (.int y2), .val (.int y3), .val (.int y4), .val (.int ((y0 &&& (15 : Int32)) % (3 : Int32))), .val (.int ((((y0.toUInt32 >>> ((4 : Int32) &&& 31).toUInt32).toInt32) &&& (15 : Int32)) % (3 : Int32))), .unset, .unset, .unset, .unset, .unset, .unset, .unset, .unset, .unset, .unset] [(.int k769)]))
  refine g_istore (L' := #[.val (.int y0), .val (.int y1), .val (.int y2), .val (.int y3), .val (.int y4), .val (.int ((y0 &&& (15 : Int32)) % (3 : Int32))), .val (.int ((((y0.toUInt32 >>> ((4 : Int32) &&& 31).toUInt32).toInt32) &&& (15 : Int32)) % (3 : Int32))), .val (.int k769), .unset, .unset, .unset, .unset, .unset, .unset, .unset, .unset, .unset]) X769 hx hby at_22 rfl (pc' := 24) rfl ?_
  refine g_iloadN X769 hx hby at_24 rfl (pc' := 25) rfl ?_
  refine g_callS (argsL := [(.int y2)]) (S := []) X769 hx hby hZ (y := (⟨"com/example/urutan/urutan/build/CodePointOrderComparePinLaw", "draw", "(I)C"⟩ : MethodName)) hown (hw _ (List.mem_of_getElem? (i := 0) rfl)) (hw _ (List.mem_of_getElem? (i := 1) rfl)) (hw _ (List.mem_of_getElem? (i := 2) rfl)) (hw _ (List.mem_of_getElem? (i := 3) rfl)) (by decide) (own_dr l Z a0 hw (y2) h0 n0) (by rw [hml]; rfl) (lenOf own_pd17 rfl) rfl at_25 (by decide) (W := 0) (by exact Nat.le_of_eq rfl) (by decide) (by decide) (by decide) (pc' := 28) rfl (fun T770 v770 X770 hQ770 => ?_)
  obtain ⟨k770, rfl, rg770, e770⟩ := hQ770
  rw [e770] at X770
  show Gl p e below n0 _ _ (T770.setTop (mkF m 28 #[.val (.int y0), .val (.int y1), .val (.int y2), .val (.int y3), .val (.int y4), .val (.int ((y0 &&& (15 : Int32)) % (3 : Int32))), .val (.int ((((y0.toUInt32 >>> ((4 : Int32) &&& 31).toUInt32).toInt32) &&& (15 : Int32)) % (3 : Int32))), .val (.int k769), .unset, .unset, .unset, .unset, .unset, .unset, .unset, .unset, .unset] [(.int k770)]))
  refine g_istore (L' := #[.val (.int y0), .val (.int y1), .val (.int y2), .val (.int y3), .val (.int y4), .val (.int ((y0 &&& (15 : Int32)) % (3 : Int32))), .val (.int ((((y0.toUInt32 >>> ((4 : Int32) &&& 31).toUInt32).toInt32) &&& (15 : Int32)) % (3 : Int32))), .val (.int k769), .val (.int k770), .unset, .unset, .unset, .unset, .unset, .unset, .unset, .unset]) X770 hx hby at_28 rfl (pc' := 30) rfl ?_
  refine g_iloadN X770 hx hby at_30 rfl (pc' := 31) rfl ?_
  refine g_bipush (v := 8) X770 hx hby at_31 rfl (pc' := 33) rfl ?_
  refine g_iushr X770 hx hby at_33 (pc' := 34) rfl ?_
  refine g_iconst (v := 1) X770 hx hby at_34 rfl (pc' := 35) rfl ?_
  refine g_iand X770 hx hby at_35 (pc' := 36) rfl ?_
  have J48 : ∀ (vb : Int32) (T_vb : State), 0 ≤ vb.toInt ∧ vb.toInt ≤ 65535 → St p l e room_1 (s.setVm s.vm) m #[(.int y0), (.int y1), (.int y2), (.int y3), (.int y4)] below meth c n0 T_vb h0 0 0 → Gl p e below n0 (Fw s 8 24) (fun v h => v = some (.int 1)) (T_vb.setTop (mkF m 48 #[.val (.int y0), .val (.int y1), .val (.int y2), .val (.int y3), .val (.int y4), .val (.int ((y0 &&& (15 : Int32)) % (3 : Int32))), .val (.int ((((y0.toUInt32 >>> ((4 : Int32) &&& 31).toUInt32).toInt32) &&& (15 : Int32)) % (3 : Int32))), .val (.int k769), .val (.int k770), .unset, .unset, .unset, .unset, .unset, .unset, .unset, .unset] [(.int vb)])) := by
    intro vb T_vb rg_vb X_vb
    refine g_istore (L' := #[.val (.int y0), .val (.int y1), .val (.int y2), .val (.int y3), .val (.int y4), .val (.int ((y0 &&& (15 : Int32)) % (3 : Int32))), .val (.int ((((y0.toUInt32 >>> ((4 : Int32) &&& 31).toUInt32).toInt32) &&& (15 : Int32)) % (3 : Int32))), .val (.int k769), .val (.int k770), .val (.int vb), .unset, .unset, .unset, .unset, .unset, .unset, .unset]) X_vb hx hby at_48 rfl (pc' := 50) rfl ?_
    refine g_iloadN X_vb hx hby at_50 rfl (pc' := 51) rfl ?_
    refine g_bipush (v := 9) X_vb hx hby at_51 rfl (pc' := 53) rfl ?_
    refine g_iushr X_vb hx hby at_53 (pc' := 54) rfl ?_
    refine g_iconst (v := 1) X_vb hx hby at_54 rfl (pc' := 55) rfl ?_
    refine g_iand X_vb hx hby at_55 (pc' := 56) rfl ?_
    have J69 : ∀ (vc : Int32) (T_vc : State), 0 ≤ vc.toInt ∧ vc.toInt ≤ 65535 → St p l e room_1 (s.setVm s.vm) m #[(.int y0), (.int y1), (.int y2), (.int y3), (.int y4)] below meth c n0 T_vc h0 0 0 → Gl p e below n0 (Fw s 8 24) (fun v h => v = some (.int 1)) (T_vc.setTop (mkF m 69 #[.val (.int y0), .val (.int y1), .val (.int y2), .val (.int y3), .val (.int y4), .val (.int ((y0 &&& (15 : Int32)) % (3 : Int32))), .val (.int ((((y0.toUInt32 >>> ((4 : Int32) &&& 31).toUInt32).toInt32) &&& (15 : Int32)) % (3 : Int32))), .val (.int k769), .val (.int k770), .val (.int vb), .unset, .unset, .unset, .unset, .unset, .unset, .unset] [(.int vc)])) := by
      intro vc T_vc rg_vc X_vc
      refine g_istore (L' := #[.val (.int y0), .val (.int y1), .val (.int y2), .val (.int y3), .val (.int y4), .val (.int ((y0 &&& (15 : Int32)) % (3 : Int32))), .val (.int ((((y0.toUInt32 >>> ((4 : Int32) &&& 31).toUInt32).toInt32) &&& (15 : Int32)) % (3 : Int32))), .val (.int k769), .val (.int k770), .val (.int vb), .val (.int vc), .unset, .unset, .unset, .unset, .unset, .unset]) X_vc hx hby at_69 rfl (pc' := 71) rfl ?_
      rcases own_three (y0) with qa | qa | qa
      · rw [qa]
        rcases own_three (((y0.toUInt32 >>> ((4 : Int32) &&& 31).toUInt32).toInt32)) with qb | qb | qb
        · rw [qb]
          show Gl p e below n0 _ _ (T_vc.setTop (mkF m 71 #[.val (.int y0), .val (.int y1), .val (.int y2), .val (.int y3), .val (.int y4), .val (.int (0 : Int32)), .val (.int (0 : Int32)), .val (.int k769), .val (.int k770), .val (.int vb), .val (.int vc), .unset, .unset, .unset, .unset, .unset, .unset] []))
          refine g_iload X_vc hx hby at_71 rfl (pc' := 73) rfl ?_
          refine g_iload X_vc hx hby at_73 rfl (pc' := 75) rfl ?_
          refine g_iload X_vc hx hby at_75 rfl (pc' := 77) rfl ?_
          refine gh_callS (argsL := [(.int (0 : Int32)), (.int k769), (.int k770)]) (S := []) X_vc hx hby hZ hS (Nat.le_refl _) (own_hEL hw) hC0 own_nss (y := (⟨"com/example/urutan/urutan/build/CodePointOrderComparePinLaw", "mk", "(ICC)Ljava/lang/String;"⟩ : MethodName)) hown (hw _ (List.mem_of_getElem? (i := 5) rfl)) (hw _ (List.mem_of_getElem? (i := 6) rfl)) (hw _ (List.mem_of_getElem? (i := 2) rfl)) (hw _ (List.mem_of_getElem? (i := 7) rfl)) (by decide) (own_mk_0 l Z a0 hw k769 k770 h0 n0 Z0 rg769 rg770 cs Sc hcs Sd Sh Sl) (by rw [hml]; rfl) (lenOf own_pd19 rfl) rfl at_77 (by decide) (W := 0) (by exact Nat.le_of_eq rfl) (by decide) (by decide) (by decide) (pc' := 80) rfl (fun T771 v771 k771 X771 hS771 hk771 hZ771 hown771 hC771 hD771 hQ771 => ?_)
          obtain ⟨b771, rfl, ka771, sg771⟩ := hQ771
          have q772 := own_sta_keep Sc ka771 all0
          have q773 := own_sta_keep Sf ka771 all0
          have q774 := own_sta_keep Sd ka771 all0
          have q775 := own_sta_keep Sh ka771 all0
          have q776 := own_sta_keep Sl ka771 all0
          have zz777 := Nat.le_trans Z0 ka771.1
          have kk778 : Keep h0 T771.heap [] := (Keep.refl h0 []).trans ka771 all0
          show Gl p e below n0 _ _ (T771.setTop (mkF m 80 #[.val (.int y0), .val (.int y1), .val (.int y2), .val (.int y3), .val (.int y4), .val (.int (0 : Int32)), .val (.int (0 : Int32)), .val (.int k769), .val (.int k770), .val (.int vb), .val (.int vc), .unset, .unset, .unset, .unset, .unset, .unset] [(.ref b771)]))
          refine g_astore (L' := #[.val (.int y0), .val (.int y1), .val (.int y2), .val (.int y3), .val (.int y4), .val (.int (0 : Int32)), .val (.int (0 : Int32)), .val (.int k769), .val (.int k770), .val (.int vb), .val (.int vc), .val (.ref b771), .unset, .unset, .unset, .unset, .unset]) X771 hx hby at_80 rfl rfl (pc' := 82) rfl ?_
          refine g_iload X771 hx hby at_82 rfl (pc' := 84) rfl ?_
          refine g_iload X771 hx hby at_84 rfl (pc' := 86) rfl ?_
          refine g_iload X771 hx hby at_86 rfl (pc' := 88) rfl ?_
          refine gh_callS (argsL := [(.int (0 : Int32)), (.int vb), (.int vc)]) (S := []) X771 hx hby hZ771 hS771 hk771 (own_hEL hw) hC771 own_nss (y := (⟨"com/example/urutan/urutan/build/CodePointOrderComparePinLaw", "mk", "(ICC)Ljava/lang/String;"⟩ : MethodName)) hown771 (hw _ (List.mem_of_getElem? (i := 5) rfl)) (hw _ (List.mem_of_getElem? (i := 6) rfl)) (hw _ (List.mem_of_getElem? (i := 2) rfl)) (hw _ (List.mem_of_getElem? (i := 7) rfl)) (by decide) (own_mk_0 l Z a0 hw vb vc T771.heap n0 zz777 rg_vb rg_vc cs q772 hcs q774 q775 q776) (by rw [hml]; rfl) (lenOf own_pd19 rfl) rfl at_88 (by decide) (W := 0) (by exact Nat.le_of_eq rfl) (by decide) (by decide) (by decide) (pc' := 91) rfl (fun T779 v779 k779 X779 hS779 hk779 hZ779 hown779 hC779 hD779 hQ779 => ?_)
          obtain ⟨b779, rfl, ka779, sg779⟩ := hQ779
          have q780 := own_sta_keep q772 ka779 all0
          have q781 := own_sta_keep q773 ka779 all0
          have q782 := own_sta_keep q774 ka779 all0
          have q783 := own_sta_keep q775 ka779 all0
          have q784 := own_sta_keep q776 ka779 all0
          have zz785 := Nat.le_trans zz777 ka779.1
          have kk786 : Keep h0 T779.heap [] := kk778.trans ka779 all0
          have ps787 := sg771.keep0 ka779
          show Gl p e below n0 _ _ (T779.setTop (mkF m 91 #[.val (.int y0), .val (.int y1), .val (.int y2), .val (.int y3), .val (.int y4), .val (.int (0 : Int32)), .val (.int (0 : Int32)), .val (.int k769), .val (.int k770), .val (.int vb), .val (.int vc), .val (.ref b771), .unset, .unset, .unset, .unset, .unset] [(.ref b779)]))
          refine g_astore (L' := #[.val (.int y0), .val (.int y1), .val (.int y2), .val (.int y3), .val (.int y4), .val (.int (0 : Int32)), .val (.int (0 : Int32)), .val (.int k769), .val (.int k770), .val (.int vb), .val (.int vc), .val (.ref b771), .val (.ref b779), .unset, .unset, .unset, .unset]) X779 hx hby at_91 rfl rfl (pc' := 93) rfl ?_
          refine g_iload X779 hx hby at_93 rfl (pc' := 95) rfl ?_
          refine g_iload X779 hx hby at_95 rfl (pc' := 97) rfl ?_
          refine g_callS (argsL := [(.int (0 : Int32)), (.int (0 : Int32))]) (S := []) X779 hx hby hZ779 (y := (⟨"java/lang/Math", "min", "(II)I"⟩ : MethodName)) hown779 (hw _ (List.mem_of_getElem? (i := 30) rfl)) (hw _ (List.mem_of_getElem? (i := 31) rfl)) (hw _ (List.mem_of_getElem? (i := 32) rfl)) (hw _ (List.mem_of_getElem? (i := 33) rfl)) (by decide) (own_minA l Z a0 hw (0 : Int32) (0 : Int32) T779.heap n0 (by decide)) (by rw [hml]; rfl) (lenOf own_pd16 rfl) rfl at_97 (by decide) (W := 0) (by exact Nat.le_of_eq rfl) (by decide) (by decide) (by decide) (pc' := 100) rfl (fun T788 v788 X788 hQ788 => ?_)
          obtain ⟨rfl, e788⟩ := hQ788
          rw [e788] at X788
          show Gl p e below n0 _ _ (T788.setTop (mkF m 100 #[.val (.int y0), .val (.int y1), .val (.int y2), .val (.int y3), .val (.int y4), .val (.int (0 : Int32)), .val (.int (0 : Int32)), .val (.int k769), .val (.int k770), .val (.int vb), .val (.int vc), .val (.ref b771), .val (.ref b779), .unset, .unset, .unset, .unset] [(.int (0 : Int32))]))
          refine g_istore (L' := #[.val (.int y0), .val (.int y1), .val (.int y2), .val (.int y3), .val (.int y4), .val (.int (0 : Int32)), .val (.int (0 : Int32)), .val (.int k769), .val (.int k770), .val (.int vb), .val (.int vc), .val (.ref b771), .val (.ref b779), .val (.int (0 : Int32)), .unset, .unset, .unset]) X788 hx hby at_100 rfl (pc' := 102) rfl ?_
          refine g_iload X788 hx hby at_102 rfl (pc' := 104) rfl ?_
          refine g_iconst (v := 1) X788 hx hby at_104 rfl (pc' := 105) rfl ?_
          refine g_icmp_lt X788 hx hby at_105 (by decide) (pc' := 127) (by decide) (pc2 := 108) rfl (fun c105_789 => ?_) (fun q => absurd (by decide) q)
          refine g_iload X788 hx hby at_127 rfl (pc' := 129) rfl ?_
          refine g_iconst (v := 2) X788 hx hby at_129 rfl (pc' := 130) rfl ?_
          refine g_icmp_lt X788 hx hby at_130 (by decide) (pc' := 152) (by decide) (pc2 := 133) rfl (fun c130_790 => ?_) (fun q => absurd (by decide) q)
          refine g_iload X788 hx hby at_152 rfl (pc' := 154) rfl ?_
          refine g_iload X788 hx hby at_154 rfl (pc' := 156) rfl ?_
          refine g_isub X788 hx hby at_156 (pc' := 157) rfl ?_
          refine g_callS (argsL := [(.int ((0 : Int32) - (0 : Int32)))]) (S := []) X788 hx hby hZ779 (y := (⟨"com/example/urutan/urutan/build/CodePointOrderComparePinLaw", "sign", "(I)I"⟩ : MethodName)) hown779 (hw _ (List.mem_of_getElem? (i := 34) rfl)) (hw _ (List.mem_of_getElem? (i := 35) rfl)) (hw _ (List.mem_of_getElem? (i := 2) rfl)) (hw _ (List.mem_of_getElem? (i := 36) rfl)) (by decide) (own_sgc l Z a0 hw (((0 : Int32) - (0 : Int32))) T779.heap n0) (by rw [hml]; rfl) (lenOf own_pd5 rfl) rfl at_157 (by decide) (W := 0) (by exact Nat.le_of_eq rfl) (by decide) (by decide) (by decide) (pc' := 160) rfl (fun T791 v791 X791 hQ791 => ?_)
          obtain ⟨rfl, e791⟩ := hQ791
          rw [e791] at X791
          show Gl p e below n0 _ _ (T791.setTop (mkF m 160 #[.val (.int y0), .val (.int y1), .val (.int y2), .val (.int y3), .val (.int y4), .val (.int (0 : Int32)), .val (.int (0 : Int32)), .val (.int k769), .val (.int k770), .val (.int vb), .val (.int vc), .val (.ref b771), .val (.ref b779), .val (.int (0 : Int32)), .unset, .unset, .unset] [(.int (own_sg ((0 : Int32) - (0 : Int32))))]))
          refine g_istore (L' := #[.val (.int y0), .val (.int y1), .val (.int y2), .val (.int y3), .val (.int y4), .val (.int (0 : Int32)), .val (.int (0 : Int32)), .val (.int k769), .val (.int k770), .val (.int vb), .val (.int vc), .val (.ref b771), .val (.ref b779), .val (.int (0 : Int32)), .val (.int (own_sg ((0 : Int32) - (0 : Int32)))), .unset, .unset]) X791 hx hby at_160 rfl (pc' := 162) rfl ?_
          refine g_aload X791 hx hby at_162 rfl rfl (pc' := 164) rfl ?_
          refine g_aload X791 hx hby at_164 rfl rfl (pc' := 166) rfl ?_
          refine g_callS (argsL := [(.ref b771), (.ref b779)]) (S := []) X791 hx hby hZ779 (y := (⟨"com/example/urutan/urutan/build/CodePointOrder", "compare", "(Ljava/lang/String;Ljava/lang/String;)I"⟩ : MethodName)) hown779 (hw _ (List.mem_of_getElem? (i := 37) rfl)) (hw _ (List.mem_of_getElem? (i := 38) rfl)) (hw _ (List.mem_of_getElem? (i := 39) rfl)) (hw _ (List.mem_of_getElem? (i := 40) rfl)) (by decide) (own_cm_0_0 l Z a0 hw b771 b779 T779.heap n0 (own_cf2 k769 k770) (own_cf2 vb vc) (own_cf2r rg769 rg770) (own_cf2r rg_vb rg_vc) ps787 sg779 cs q780 hcs fm q781 hfm q782 q783 q784) (by rw [hml]; rfl) (lenOf own_pd20 rfl) rfl at_166 (by decide) (W := 0) (by exact Nat.le_of_eq rfl) (by decide) (by decide) (by decide) (pc' := 169) rfl (fun T792 v792 X792 hQ792 => ?_)
          obtain ⟨rfl, e792⟩ := hQ792
          rw [e792] at X792
          have ev792 : own_cv0 (own_cf2 k769 k770) (own_cf2 vb vc) ((0 : Int32) - (0 : Int32)) = ((0 : Int32) - (0 : Int32)) := by simp only [own_cv0, own_cf2]
          rw [ev792]
          show Gl p e below n0 _ _ (T792.setTop (mkF m 169 #[.val (.int y0), .val (.int y1), .val (.int y2), .val (.int y3), .val (.int y4), .val (.int (0 : Int32)), .val (.int (0 : Int32)), .val (.int k769), .val (.int k770), .val (.int vb), .val (.int vc), .val (.ref b771), .val (.ref b779), .val (.int (0 : Int32)), .val (.int (own_sg ((0 : Int32) - (0 : Int32)))), .unset, .unset] [(.int ((0 : Int32) - (0 : Int32)))]))
          refine g_istore (L' := #[.val (.int y0), .val (.int y1), .val (.int y2), .val (.int y3), .val (.int y4), .val (.int (0 : Int32)), .val (.int (0 : Int32)), .val (.int k769), .val (.int k770), .val (.int vb), .val (.int vc), .val (.ref b771), .val (.ref b779), .val (.int (0 : Int32)), .val (.int (own_sg ((0 : Int32) - (0 : Int32)))), .val (.int ((0 : Int32) - (0 : Int32))), .unset]) X792 hx hby at_169 rfl (pc' := 171) rfl ?_
          refine g_aload X792 hx hby at_171 rfl rfl (pc' := 173) rfl ?_
          refine g_aload X792 hx hby at_173 rfl rfl (pc' := 175) rfl ?_
          refine g_callS (argsL := [(.ref b779), (.ref b771)]) (S := []) X792 hx hby hZ779 (y := (⟨"com/example/urutan/urutan/build/CodePointOrder", "compare", "(Ljava/lang/String;Ljava/lang/String;)I"⟩ : MethodName)) hown779 (hw _ (List.mem_of_getElem? (i := 37) rfl)) (hw _ (List.mem_of_getElem? (i := 38) rfl)) (hw _ (List.mem_of_getElem? (i := 39) rfl)) (hw _ (List.mem_of_getElem? (i := 40) rfl)) (by decide) (own_cm_0_0 l Z a0 hw b779 b771 T779.heap n0 (own_cf2 vb vc) (own_cf2 k769 k770) (own_cf2r rg_vb rg_vc) (own_cf2r rg769 rg770) sg779 ps787 cs q780 hcs fm q781 hfm q782 q783 q784) (by rw [hml]; rfl) (lenOf own_pd20 rfl) rfl at_175 (by decide) (W := 0) (by exact Nat.le_of_eq rfl) (by decide) (by decide) (by decide) (pc' := 178) rfl (fun T793 v793 X793 hQ793 => ?_)
          obtain ⟨rfl, e793⟩ := hQ793
          rw [e793] at X793
          have ev793 : own_cv0 (own_cf2 vb vc) (own_cf2 k769 k770) ((0 : Int32) - (0 : Int32)) = ((0 : Int32) - (0 : Int32)) := by simp only [own_cv0, own_cf2]
          rw [ev793]
          show Gl p e below n0 _ _ (T793.setTop (mkF m 178 #[.val (.int y0), .val (.int y1), .val (.int y2), .val (.int y3), .val (.int y4), .val (.int (0 : Int32)), .val (.int (0 : Int32)), .val (.int k769), .val (.int k770), .val (.int vb), .val (.int vc), .val (.ref b771), .val (.ref b779), .val (.int (0 : Int32)), .val (.int (own_sg ((0 : Int32) - (0 : Int32)))), .val (.int ((0 : Int32) - (0 : Int32))), .unset] [(.int ((0 : Int32) - (0 : Int32)))]))
          refine g_istore (L' := #[.val (.int y0), .val (.int y1), .val (.int y2), .val (.int y3), .val (.int y4), .val (.int (0 : Int32)), .val (.int (0 : Int32)), .val (.int k769), .val (.int k770), .val (.int vb), .val (.int vc), .val (.ref b771), .val (.ref b779), .val (.int (0 : Int32)), .val (.int (own_sg ((0 : Int32) - (0 : Int32)))), .val (.int ((0 : Int32) - (0 : Int32))), .val (.int ((0 : Int32) - (0 : Int32)))]) X793 hx hby at_178 rfl (pc' := 180) rfl ?_
          refine g_iload X793 hx hby at_180 rfl (pc' := 182) rfl ?_
          refine g_callS (argsL := [(.int ((0 : Int32) - (0 : Int32)))]) (S := []) X793 hx hby hZ779 (y := (⟨"com/example/urutan/urutan/build/CodePointOrderComparePinLaw", "sign", "(I)I"⟩ : MethodName)) hown779 (hw _ (List.mem_of_getElem? (i := 34) rfl)) (hw _ (List.mem_of_getElem? (i := 35) rfl)) (hw _ (List.mem_of_getElem? (i := 2) rfl)) (hw _ (List.mem_of_getElem? (i := 36) rfl)) (by decide) (own_sgc l Z a0 hw (((0 : Int32) - (0 : Int32))) T779.heap n0) (by rw [hml]; rfl) (lenOf own_pd5 rfl) rfl at_182 (by decide) (W := 0) (by exact Nat.le_of_eq rfl) (by decide) (by decide) (by decide) (pc' := 185) rfl (fun T794 v794 X794 hQ794 => ?_)
          obtain ⟨rfl, e794⟩ := hQ794
          rw [e794] at X794
          show Gl p e below n0 _ _ (T794.setTop (mkF m 185 #[.val (.int y0), .val (.int y1), .val (.int y2), .val (.int y3), .val (.int y4), .val (.int (0 : Int32)), .val (.int (0 : Int32)), .val (.int k769), .val (.int k770), .val (.int vb), .val (.int vc), .val (.ref b771), .val (.ref b779), .val (.int (0 : Int32)), .val (.int (own_sg ((0 : Int32) - (0 : Int32)))), .val (.int ((0 : Int32) - (0 : Int32))), .val (.int ((0 : Int32) - (0 : Int32)))] [(.int (own_sg ((0 : Int32) - (0 : Int32))))]))
          refine g_iload X794 hx hby at_185 rfl (pc' := 187) rfl ?_
          refine g_icmp_ne X794 hx hby at_187 (by decide) (pc' := 205) (by decide) (pc2 := 190) rfl (fun q => absurd rfl q) (fun c187_795 => ?_)
          refine g_iload X794 hx hby at_190 rfl (pc' := 192) rfl ?_
          refine g_callS (argsL := [(.int ((0 : Int32) - (0 : Int32)))]) (S := []) X794 hx hby hZ779 (y := (⟨"com/example/urutan/urutan/build/CodePointOrderComparePinLaw", "sign", "(I)I"⟩ : MethodName)) hown779 (hw _ (List.mem_of_getElem? (i := 34) rfl)) (hw _ (List.mem_of_getElem? (i := 35) rfl)) (hw _ (List.mem_of_getElem? (i := 2) rfl)) (hw _ (List.mem_of_getElem? (i := 36) rfl)) (by decide) (own_sgc l Z a0 hw (((0 : Int32) - (0 : Int32))) T779.heap n0) (by rw [hml]; rfl) (lenOf own_pd5 rfl) rfl at_192 (by decide) (W := 0) (by exact Nat.le_of_eq rfl) (by decide) (by decide) (by decide) (pc' := 195) rfl (fun T796 v796 X796 hQ796 => ?_)
          obtain ⟨rfl, e796⟩ := hQ796
          rw [e796] at X796
          show Gl p e below n0 _ _ (T796.setTop (mkF m 195 #[.val (.int y0), .val (.int y1), .val (.int y2), .val (.int y3), .val (.int y4), .val (.int (0 : Int32)), .val (.int (0 : Int32)), .val (.int k769), .val (.int k770), .val (.int vb), .val (.int vc), .val (.ref b771), .val (.ref b779), .val (.int (0 : Int32)), .val (.int (own_sg ((0 : Int32) - (0 : Int32)))), .val (.int ((0 : Int32) - (0 : Int32))), .val (.int ((0 : Int32) - (0 : Int32)))] [(.int (own_sg ((0 : Int32) - (0 : Int32))))]))
          refine g_iload X796 hx hby at_195 rfl (pc' := 197) rfl ?_
          refine g_ineg X796 hx hby at_197 (pc' := 198) rfl ?_
          refine g_icmp_ne X796 hx hby at_198 (by decide) (pc' := 205) (by decide) (pc2 := 201) rfl (fun q => absurd (by decide) q) (fun c198_797 => ?_)
          refine g_iconst (v := 1) X796 hx hby at_201 rfl (pc' := 202) rfl ?_
          refine g_goto X796 hx hby at_202 (by decide) (pc' := 206) (by decide) ?_
          exact gw_retN X796 hx hby hS779 hk779 hret hlk (by simp) at_206 rfl (by decide) (by decide)
        · rw [qb]
          show Gl p e below n0 _ _ (T_vc.setTop (mkF m 71 #[.val (.int y0), .val (.int y1), .val (.int y2), .val (.int y3), .val (.int y4), .val (.int (0 : Int32)), .val (.int (1 : Int32)), .val (.int k769), .val (.int k770), .val (.int vb), .val (.int vc), .unset, .unset, .unset, .unset, .unset, .unset] []))
          refine g_iload X_vc hx hby at_71 rfl (pc' := 73) rfl ?_
          refine g_iload X_vc hx hby at_73 rfl (pc' := 75) rfl ?_
          refine g_iload X_vc hx hby at_75 rfl (pc' := 77) rfl ?_
          refine gh_callS (argsL := [(.int (0 : Int32)), (.int k769), (.int k770)]) (S := []) X_vc hx hby hZ hS (Nat.le_refl _) (own_hEL hw) hC0 own_nss (y := (⟨"com/example/urutan/urutan/build/CodePointOrderComparePinLaw", "mk", "(ICC)Ljava/lang/String;"⟩ : MethodName)) hown (hw _ (List.mem_of_getElem? (i := 5) rfl)) (hw _ (List.mem_of_getElem? (i := 6) rfl)) (hw _ (List.mem_of_getElem? (i := 2) rfl)) (hw _ (List.mem_of_getElem? (i := 7) rfl)) (by decide) (own_mk_0 l Z a0 hw k769 k770 h0 n0 Z0 rg769 rg770 cs Sc hcs Sd Sh Sl) (by rw [hml]; rfl) (lenOf own_pd19 rfl) rfl at_77 (by decide) (W := 0) (by exact Nat.le_of_eq rfl) (by decide) (by decide) (by decide) (pc' := 80) rfl (fun T798 v798 k798 X798 hS798 hk798 hZ798 hown798 hC798 hD798 hQ798 => ?_)
          obtain ⟨b798, rfl, ka798, sg798⟩ := hQ798
          have q799 := own_sta_keep Sc ka798 all0
          have q800 := own_sta_keep Sf ka798 all0
          have q801 := own_sta_keep Sd ka798 all0
          have q802 := own_sta_keep Sh ka798 all0
          have q803 := own_sta_keep Sl ka798 all0
          have zz804 := Nat.le_trans Z0 ka798.1
          have kk805 : Keep h0 T798.heap [] := (Keep.refl h0 []).trans ka798 all0
          show Gl p e below n0 _ _ (T798.setTop (mkF m 80 #[.val (.int y0), .val (.int y1), .val (.int y2), .val (.int y3), .val (.int y4), .val (.int (0 : Int32)), .val (.int (1 : Int32)), .val (.int k769), .val (.int k770), .val (.int vb), .val (.int vc), .unset, .unset, .unset, .unset, .unset, .unset] [(.ref b798)]))
          refine g_astore (L' := #[.val (.int y0), .val (.int y1), .val (.int y2), .val (.int y3), .val (.int y4), .val (.int (0 : Int32)), .val (.int (1 : Int32)), .val (.int k769), .val (.int k770), .val (.int vb), .val (.int vc), .val (.ref b798), .unset, .unset, .unset, .unset, .unset]) X798 hx hby at_80 rfl rfl (pc' := 82) rfl ?_
          refine g_iload X798 hx hby at_82 rfl (pc' := 84) rfl ?_
          refine g_iload X798 hx hby at_84 rfl (pc' := 86) rfl ?_
          refine g_iload X798 hx hby at_86 rfl (pc' := 88) rfl ?_
          refine g_callS (argsL := [(.int (1 : Int32)), (.int vb), (.int vc)]) (S := []) X798 hx hby hZ798 (y := (⟨"com/example/urutan/urutan/build/CodePointOrderComparePinLaw", "mk", "(ICC)Ljava/lang/String;"⟩ : MethodName)) hown798 (hw _ (List.mem_of_getElem? (i := 5) rfl)) (hw _ (List.mem_of_getElem? (i := 6) rfl)) (hw _ (List.mem_of_getElem? (i := 2) rfl)) (hw _ (List.mem_of_getElem? (i := 7) rfl)) (by decide) (own_mk_1 l Z a0 hw vb vc T798.heap n0 zz804 rg_vb rg_vc cs q799 hcs q801 q802 q803) (by rw [hml]; rfl) (lenOf own_pd19 rfl) rfl at_88 (by decide) (W := 0) (by exact Nat.le_of_eq rfl) (by decide) (by decide) (by decide) (pc' := 91) rfl (fun T806 v806 X806 hQ806 => ?_)
          obtain ⟨b806, rfl, ka806, sg806⟩ := hQ806
          have ch807 := hC798.trans (CHr.keep ka806 own_nsf hC798.1)
          have q808 := own_sta_keep q799 ka806 all0
          have q809 := own_sta_keep q800 ka806 all0
          have q810 := own_sta_keep q801 ka806 all0
          have q811 := own_sta_keep q802 ka806 all0
          have q812 := own_sta_keep q803 ka806 all0
          have zz813 := Nat.le_trans zz804 ka806.1
          have hk814 := Nat.le_trans hk798 ka806.1
          have kk815 : Keep h0 T806.heap [] := kk805.trans ka806 all0
          have ps816 := sg798.keep0 ka806
          show Gl p e below n0 _ _ (T806.setTop (mkF m 91 #[.val (.int y0), .val (.int y1), .val (.int y2), .val (.int y3), .val (.int y4), .val (.int (0 : Int32)), .val (.int (1 : Int32)), .val (.int k769), .val (.int k770), .val (.int vb), .val (.int vc), .val (.ref b798), .unset, .unset, .unset, .unset, .unset] [(.ref b806)]))
          refine g_astore (L' := #[.val (.int y0), .val (.int y1), .val (.int y2), .val (.int y3), .val (.int y4), .val (.int (0 : Int32)), .val (.int (1 : Int32)), .val (.int k769), .val (.int k770), .val (.int vb), .val (.int vc), .val (.ref b798), .val (.ref b806), .unset, .unset, .unset, .unset]) X806 hx hby at_91 rfl rfl (pc' := 93) rfl ?_
          refine g_iload X806 hx hby at_93 rfl (pc' := 95) rfl ?_
          refine g_iload X806 hx hby at_95 rfl (pc' := 97) rfl ?_
          refine g_callS (argsL := [(.int (0 : Int32)), (.int (1 : Int32))]) (S := []) X806 hx hby hZ798 (y := (⟨"java/lang/Math", "min", "(II)I"⟩ : MethodName)) hown798 (hw _ (List.mem_of_getElem? (i := 30) rfl)) (hw _ (List.mem_of_getElem? (i := 31) rfl)) (hw _ (List.mem_of_getElem? (i := 32) rfl)) (hw _ (List.mem_of_getElem? (i := 33) rfl)) (by decide) (own_minA l Z a0 hw (0 : Int32) (1 : Int32) T806.heap n0 (by decide)) (by rw [hml]; rfl) (lenOf own_pd16 rfl) rfl at_97 (by decide) (W := 0) (by exact Nat.le_of_eq rfl) (by decide) (by decide) (by decide) (pc' := 100) rfl (fun T817 v817 X817 hQ817 => ?_)
          obtain ⟨rfl, e817⟩ := hQ817
          rw [e817] at X817
          show Gl p e below n0 _ _ (T817.setTop (mkF m 100 #[.val (.int y0), .val (.int y1), .val (.int y2), .val (.int y3), .val (.int y4), .val (.int (0 : Int32)), .val (.int (1 : Int32)), .val (.int k769), .val (.int k770), .val (.int vb), .val (.int vc), .val (.ref b798), .val (.ref b806), .unset, .unset, .unset, .unset] [(.int (0 : Int32))]))
          refine g_istore (L' := #[.val (.int y0), .val (.int y1), .val (.int y2), .val (.int y3), .val (.int y4), .val (.int (0 : Int32)), .val (.int (1 : Int32)), .val (.int k769), .val (.int k770), .val (.int vb), .val (.int vc), .val (.ref b798), .val (.ref b806), .val (.int (0 : Int32)), .unset, .unset, .unset]) X817 hx hby at_100 rfl (pc' := 102) rfl ?_
          refine g_iload X817 hx hby at_102 rfl (pc' := 104) rfl ?_
          refine g_iconst (v := 1) X817 hx hby at_104 rfl (pc' := 105) rfl ?_
          refine g_icmp_lt X817 hx hby at_105 (by decide) (pc' := 127) (by decide) (pc2 := 108) rfl (fun c105_818 => ?_) (fun q => absurd (by decide) q)
          refine g_iload X817 hx hby at_127 rfl (pc' := 129) rfl ?_
          refine g_iconst (v := 2) X817 hx hby at_129 rfl (pc' := 130) rfl ?_
          refine g_icmp_lt X817 hx hby at_130 (by decide) (pc' := 152) (by decide) (pc2 := 133) rfl (fun c130_819 => ?_) (fun q => absurd (by decide) q)
          refine g_iload X817 hx hby at_152 rfl (pc' := 154) rfl ?_
          refine g_iload X817 hx hby at_154 rfl (pc' := 156) rfl ?_
          refine g_isub X817 hx hby at_156 (pc' := 157) rfl ?_
          refine g_callS (argsL := [(.int ((0 : Int32) - (1 : Int32)))]) (S := []) X817 hx hby hZ798 (y := (⟨"com/example/urutan/urutan/build/CodePointOrderComparePinLaw", "sign", "(I)I"⟩ : MethodName)) hown798 (hw _ (List.mem_of_getElem? (i := 34) rfl)) (hw _ (List.mem_of_getElem? (i := 35) rfl)) (hw _ (List.mem_of_getElem? (i := 2) rfl)) (hw _ (List.mem_of_getElem? (i := 36) rfl)) (by decide) (own_sgc l Z a0 hw (((0 : Int32) - (1 : Int32))) T806.heap n0) (by rw [hml]; rfl) (lenOf own_pd5 rfl) rfl at_157 (by decide) (W := 0) (by exact Nat.le_of_eq rfl) (by decide) (by decide) (by decide) (pc' := 160) rfl (fun T820 v820 X820 hQ820 => ?_)
          obtain ⟨rfl, e820⟩ := hQ820
          rw [e820] at X820
          show Gl p e below n0 _ _ (T820.setTop (mkF m 160 #[.val (.int y0), .val (.int y1), .val (.int y2), .val (.int y3), .val (.int y4), .val (.int (0 : Int32)), .val (.int (1 : Int32)), .val (.int k769), .val (.int k770), .val (.int vb), .val (.int vc), .val (.ref b798), .val (.ref b806), .val (.int (0 : Int32)), .unset, .unset, .unset] [(.int (own_sg ((0 : Int32) - (1 : Int32))))]))
          refine g_istore (L' := #[.val (.int y0), .val (.int y1), .val (.int y2), .val (.int y3), .val (.int y4), .val (.int (0 : Int32)), .val (.int (1 : Int32)), .val (.int k769), .val (.int k770), .val (.int vb), .val (.int vc), .val (.ref b798), .val (.ref b806), .val (.int (0 : Int32)), .val (.int (own_sg ((0 : Int32) - (1 : Int32)))), .unset, .unset]) X820 hx hby at_160 rfl (pc' := 162) rfl ?_
          refine g_aload X820 hx hby at_162 rfl rfl (pc' := 164) rfl ?_
          refine g_aload X820 hx hby at_164 rfl rfl (pc' := 166) rfl ?_
          refine g_callS (argsL := [(.ref b798), (.ref b806)]) (S := []) X820 hx hby hZ798 (y := (⟨"com/example/urutan/urutan/build/CodePointOrder", "compare", "(Ljava/lang/String;Ljava/lang/String;)I"⟩ : MethodName)) hown798 (hw _ (List.mem_of_getElem? (i := 37) rfl)) (hw _ (List.mem_of_getElem? (i := 38) rfl)) (hw _ (List.mem_of_getElem? (i := 39) rfl)) (hw _ (List.mem_of_getElem? (i := 40) rfl)) (by decide) (own_cm_0_1 l Z a0 hw b798 b806 T806.heap n0 (own_cf2 k769 k770) (own_cf2 vb vc) (own_cf2r rg769 rg770) (own_cf2r rg_vb rg_vc) ps816 sg806 cs q808 hcs fm q809 hfm q810 q811 q812) (by rw [hml]; rfl) (lenOf own_pd20 rfl) rfl at_166 (by decide) (W := 0) (by exact Nat.le_of_eq rfl) (by decide) (by decide) (by decide) (pc' := 169) rfl (fun T821 v821 X821 hQ821 => ?_)
          obtain ⟨rfl, e821⟩ := hQ821
          rw [e821] at X821
          have ev821 : own_cv0 (own_cf2 k769 k770) (own_cf2 vb vc) ((0 : Int32) - (1 : Int32)) = ((0 : Int32) - (1 : Int32)) := by simp only [own_cv0, own_cf2]
          rw [ev821]
          show Gl p e below n0 _ _ (T821.setTop (mkF m 169 #[.val (.int y0), .val (.int y1), .val (.int y2), .val (.int y3), .val (.int y4), .val (.int (0 : Int32)), .val (.int (1 : Int32)), .val (.int k769), .val (.int k770), .val (.int vb), .val (.int vc), .val (.ref b798), .val (.ref b806), .val (.int (0 : Int32)), .val (.int (own_sg ((0 : Int32) - (1 : Int32)))), .unset, .unset] [(.int ((0 : Int32) - (1 : Int32)))]))
          refine g_istore (L' := #[.val (.int y0), .val (.int y1), .val (.int y2), .val (.int y3), .val (.int y4), .val (.int (0 : Int32)), .val (.int (1 : Int32)), .val (.int k769), .val (.int k770), .val (.int vb), .val (.int vc), .val (.ref b798), .val (.ref b806), .val (.int (0 : Int32)), .val (.int (own_sg ((0 : Int32) - (1 : Int32)))), .val (.int ((0 : Int32) - (1 : Int32))), .unset]) X821 hx hby at_169 rfl (pc' := 171) rfl ?_
          refine g_aload X821 hx hby at_171 rfl rfl (pc' := 173) rfl ?_
          refine g_aload X821 hx hby at_173 rfl rfl (pc' := 175) rfl ?_
          refine g_callS (argsL := [(.ref b806), (.ref b798)]) (S := []) X821 hx hby hZ798 (y := (⟨"com/example/urutan/urutan/build/CodePointOrder", "compare", "(Ljava/lang/String;Ljava/lang/String;)I"⟩ : MethodName)) hown798 (hw _ (List.mem_of_getElem? (i := 37) rfl)) (hw _ (List.mem_of_getElem? (i := 38) rfl)) (hw _ (List.mem_of_getElem? (i := 39) rfl)) (hw _ (List.mem_of_getElem? (i := 40) rfl)) (by decide) (own_cm_1_0 l Z a0 hw b806 b798 T806.heap n0 (own_cf2 vb vc) (own_cf2 k769 k770) (own_cf2r rg_vb rg_vc) (own_cf2r rg769 rg770) sg806 ps816 cs q808 hcs fm q809 hfm q810 q811 q812) (by rw [hml]; rfl) (lenOf own_pd20 rfl) rfl at_175 (by decide) (W := 0) (by exact Nat.le_of_eq rfl) (by decide) (by decide) (by decide) (pc' := 178) rfl (fun T822 v822 X822 hQ822 => ?_)
          obtain ⟨rfl, e822⟩ := hQ822
          rw [e822] at X822
          have ev822 : own_cv0 (own_cf2 vb vc) (own_cf2 k769 k770) ((1 : Int32) - (0 : Int32)) = ((1 : Int32) - (0 : Int32)) := by simp only [own_cv0, own_cf2]
          rw [ev822]
          show Gl p e below n0 _ _ (T822.setTop (mkF m 178 #[.val (.int y0), .val (.int y1), .val (.int y2), .val (.int y3), .val (.int y4), .val (.int (0 : Int32)), .val (.int (1 : Int32)), .val (.int k769), .val (.int k770), .val (.int vb), .val (.int vc), .val (.ref b798), .val (.ref b806), .val (.int (0 : Int32)), .val (.int (own_sg ((0 : Int32) - (1 : Int32)))), .val (.int ((0 : Int32) - (1 : Int32))), .unset] [(.int ((1 : Int32) - (0 : Int32)))]))
          refine g_istore (L' := #[.val (.int y0), .val (.int y1), .val (.int y2), .val (.int y3), .val (.int y4), .val (.int (0 : Int32)), .val (.int (1 : Int32)), .val (.int k769), .val (.int k770), .val (.int vb), .val (.int vc), .val (.ref b798), .val (.ref b806), .val (.int (0 : Int32)), .val (.int (own_sg ((0 : Int32) - (1 : Int32)))), .val (.int ((0 : Int32) - (1 : Int32))), .val (.int ((1 : Int32) - (0 : Int32)))]) X822 hx hby at_178 rfl (pc' := 180) rfl ?_
          refine g_iload X822 hx hby at_180 rfl (pc' := 182) rfl ?_
          refine g_callS (argsL := [(.int ((0 : Int32) - (1 : Int32)))]) (S := []) X822 hx hby hZ798 (y := (⟨"com/example/urutan/urutan/build/CodePointOrderComparePinLaw", "sign", "(I)I"⟩ : MethodName)) hown798 (hw _ (List.mem_of_getElem? (i := 34) rfl)) (hw _ (List.mem_of_getElem? (i := 35) rfl)) (hw _ (List.mem_of_getElem? (i := 2) rfl)) (hw _ (List.mem_of_getElem? (i := 36) rfl)) (by decide) (own_sgc l Z a0 hw (((0 : Int32) - (1 : Int32))) T806.heap n0) (by rw [hml]; rfl) (lenOf own_pd5 rfl) rfl at_182 (by decide) (W := 0) (by exact Nat.le_of_eq rfl) (by decide) (by decide) (by decide) (pc' := 185) rfl (fun T823 v823 X823 hQ823 => ?_)
          obtain ⟨rfl, e823⟩ := hQ823
          rw [e823] at X823
          show Gl p e below n0 _ _ (T823.setTop (mkF m 185 #[.val (.int y0), .val (.int y1), .val (.int y2), .val (.int y3), .val (.int y4), .val (.int (0 : Int32)), .val (.int (1 : Int32)), .val (.int k769), .val (.int k770), .val (.int vb), .val (.int vc), .val (.ref b798), .val (.ref b806), .val (.int (0 : Int32)), .val (.int (own_sg ((0 : Int32) - (1 : Int32)))), .val (.int ((0 : Int32) - (1 : Int32))), .val (.int ((1 : Int32) - (0 : Int32)))] [(.int (own_sg ((0 : Int32) - (1 : Int32))))]))
          refine g_iload X823 hx hby at_185 rfl (pc' := 187) rfl ?_
          refine g_icmp_ne X823 hx hby at_187 (by decide) (pc' := 205) (by decide) (pc2 := 190) rfl (fun q => absurd rfl q) (fun c187_824 => ?_)
          refine g_iload X823 hx hby at_190 rfl (pc' := 192) rfl ?_
          refine g_callS (argsL := [(.int ((1 : Int32) - (0 : Int32)))]) (S := []) X823 hx hby hZ798 (y := (⟨"com/example/urutan/urutan/build/CodePointOrderComparePinLaw", "sign", "(I)I"⟩ : MethodName)) hown798 (hw _ (List.mem_of_getElem? (i := 34) rfl)) (hw _ (List.mem_of_getElem? (i := 35) rfl)) (hw _ (List.mem_of_getElem? (i := 2) rfl)) (hw _ (List.mem_of_getElem? (i := 36) rfl)) (by decide) (own_sgc l Z a0 hw (((1 : Int32) - (0 : Int32))) T806.heap n0) (by rw [hml]; rfl) (lenOf own_pd5 rfl) rfl at_192 (by decide) (W := 0) (by exact Nat.le_of_eq rfl) (by decide) (by decide) (by decide) (pc' := 195) rfl (fun T825 v825 X825 hQ825 => ?_)
          obtain ⟨rfl, e825⟩ := hQ825
          rw [e825] at X825
          show Gl p e below n0 _ _ (T825.setTop (mkF m 195 #[.val (.int y0), .val (.int y1), .val (.int y2), .val (.int y3), .val (.int y4), .val (.int (0 : Int32)), .val (.int (1 : Int32)), .val (.int k769), .val (.int k770), .val (.int vb), .val (.int vc), .val (.ref b798), .val (.ref b806), .val (.int (0 : Int32)), .val (.int (own_sg ((0 : Int32) - (1 : Int32)))), .val (.int ((0 : Int32) - (1 : Int32))), .val (.int ((1 : Int32) - (0 : Int32)))] [(.int (own_sg ((1 : Int32) - (0 : Int32))))]))
          refine g_iload X825 hx hby at_195 rfl (pc' := 197) rfl ?_
          refine g_ineg X825 hx hby at_197 (pc' := 198) rfl ?_
          refine g_icmp_ne X825 hx hby at_198 (by decide) (pc' := 205) (by decide) (pc2 := 201) rfl (fun q => absurd (by decide) q) (fun c198_826 => ?_)
          refine g_iconst (v := 1) X825 hx hby at_201 rfl (pc' := 202) rfl ?_
          refine g_goto X825 hx hby at_202 (by decide) (pc' := 206) (by decide) ?_
          exact gw_retN X825 hx hby hS798 hk814 hret hlk (by simp) at_206 rfl (by decide) (by decide)
        · rw [qb]
          show Gl p e below n0 _ _ (T_vc.setTop (mkF m 71 #[.val (.int y0), .val (.int y1), .val (.int y2), .val (.int y3), .val (.int y4), .val (.int (0 : Int32)), .val (.int (2 : Int32)), .val (.int k769), .val (.int k770), .val (.int vb), .val (.int vc), .unset, .unset, .unset, .unset, .unset, .unset] []))
          refine g_iload X_vc hx hby at_71 rfl (pc' := 73) rfl ?_
          refine g_iload X_vc hx hby at_73 rfl (pc' := 75) rfl ?_
          refine g_iload X_vc hx hby at_75 rfl (pc' := 77) rfl ?_
          refine gh_callS (argsL := [(.int (0 : Int32)), (.int k769), (.int k770)]) (S := []) X_vc hx hby hZ hS (Nat.le_refl _) (own_hEL hw) hC0 own_nss (y := (⟨"com/example/urutan/urutan/build/CodePointOrderComparePinLaw", "mk", "(ICC)Ljava/lang/String;"⟩ : MethodName)) hown (hw _ (List.mem_of_getElem? (i := 5) rfl)) (hw _ (List.mem_of_getElem? (i := 6) rfl)) (hw _ (List.mem_of_getElem? (i := 2) rfl)) (hw _ (List.mem_of_getElem? (i := 7) rfl)) (by decide) (own_mk_0 l Z a0 hw k769 k770 h0 n0 Z0 rg769 rg770 cs Sc hcs Sd Sh Sl) (by rw [hml]; rfl) (lenOf own_pd19 rfl) rfl at_77 (by decide) (W := 0) (by exact Nat.le_of_eq rfl) (by decide) (by decide) (by decide) (pc' := 80) rfl (fun T827 v827 k827 X827 hS827 hk827 hZ827 hown827 hC827 hD827 hQ827 => ?_)
          obtain ⟨b827, rfl, ka827, sg827⟩ := hQ827
          have q828 := own_sta_keep Sc ka827 all0
          have q829 := own_sta_keep Sf ka827 all0
          have q830 := own_sta_keep Sd ka827 all0
          have q831 := own_sta_keep Sh ka827 all0
          have q832 := own_sta_keep Sl ka827 all0
          have zz833 := Nat.le_trans Z0 ka827.1
          have kk834 : Keep h0 T827.heap [] := (Keep.refl h0 []).trans ka827 all0
          show Gl p e below n0 _ _ (T827.setTop (mkF m 80 #[.val (.int y0), .val (.int y1), .val (.int y2), .val (.int y3), .val (.int y4), .val (.int (0 : Int32)), .val (.int (2 : Int32)), .val (.int k769), .val (.int k770), .val (.int vb), .val (.int vc), .unset, .unset, .unset, .unset, .unset, .unset] [(.ref b827)]))
          refine g_astore (L' := #[.val (.int y0), .val (.int y1), .val (.int y2), .val (.int y3), .val (.int y4), .val (.int (0 : Int32)), .val (.int (2 : Int32)), .val (.int k769), .val (.int k770), .val (.int vb), .val (.int vc), .val (.ref b827), .unset, .unset, .unset, .unset, .unset]) X827 hx hby at_80 rfl rfl (pc' := 82) rfl ?_
          refine g_iload X827 hx hby at_82 rfl (pc' := 84) rfl ?_
          refine g_iload X827 hx hby at_84 rfl (pc' := 86) rfl ?_
          refine g_iload X827 hx hby at_86 rfl (pc' := 88) rfl ?_
          refine g_callS (argsL := [(.int (2 : Int32)), (.int vb), (.int vc)]) (S := []) X827 hx hby hZ827 (y := (⟨"com/example/urutan/urutan/build/CodePointOrderComparePinLaw", "mk", "(ICC)Ljava/lang/String;"⟩ : MethodName)) hown827 (hw _ (List.mem_of_getElem? (i := 5) rfl)) (hw _ (List.mem_of_getElem? (i := 6) rfl)) (hw _ (List.mem_of_getElem? (i := 2) rfl)) (hw _ (List.mem_of_getElem? (i := 7) rfl)) (by decide) (own_mk_2 l Z a0 hw vb vc T827.heap n0 zz833 rg_vb rg_vc cs q828 hcs q830 q831 q832) (by rw [hml]; rfl) (lenOf own_pd19 rfl) rfl at_88 (by decide) (W := 0) (by exact Nat.le_of_eq rfl) (by decide) (by decide) (by decide) (pc' := 91) rfl (fun T835 v835 X835 hQ835 => ?_)
          obtain ⟨b835, rfl, ka835, sg835⟩ := hQ835
          have ch836 := hC827.trans (CHr.keep ka835 own_nsf hC827.1)
          have q837 := own_sta_keep q828 ka835 all0
          have q838 := own_sta_keep q829 ka835 all0
          have q839 := own_sta_keep q830 ka835 all0
          have q840 := own_sta_keep q831 ka835 all0
          have q841 := own_sta_keep q832 ka835 all0
          have zz842 := Nat.le_trans zz833 ka835.1
          have hk843 := Nat.le_trans hk827 ka835.1
          have kk844 : Keep h0 T835.heap [] := kk834.trans ka835 all0
          have ps845 := sg827.keep0 ka835
          show Gl p e below n0 _ _ (T835.setTop (mkF m 91 #[.val (.int y0), .val (.int y1), .val (.int y2), .val (.int y3), .val (.int y4), .val (.int (0 : Int32)), .val (.int (2 : Int32)), .val (.int k769), .val (.int k770), .val (.int vb), .val (.int vc), .val (.ref b827), .unset, .unset, .unset, .unset, .unset] [(.ref b835)]))
          refine g_astore (L' := #[.val (.int y0), .val (.int y1), .val (.int y2), .val (.int y3), .val (.int y4), .val (.int (0 : Int32)), .val (.int (2 : Int32)), .val (.int k769), .val (.int k770), .val (.int vb), .val (.int vc), .val (.ref b827), .val (.ref b835), .unset, .unset, .unset, .unset]) X835 hx hby at_91 rfl rfl (pc' := 93) rfl ?_
          refine g_iload X835 hx hby at_93 rfl (pc' := 95) rfl ?_
          refine g_iload X835 hx hby at_95 rfl (pc' := 97) rfl ?_
          refine g_callS (argsL := [(.int (0 : Int32)), (.int (2 : Int32))]) (S := []) X835 hx hby hZ827 (y := (⟨"java/lang/Math", "min", "(II)I"⟩ : MethodName)) hown827 (hw _ (List.mem_of_getElem? (i := 30) rfl)) (hw _ (List.mem_of_getElem? (i := 31) rfl)) (hw _ (List.mem_of_getElem? (i := 32) rfl)) (hw _ (List.mem_of_getElem? (i := 33) rfl)) (by decide) (own_minA l Z a0 hw (0 : Int32) (2 : Int32) T835.heap n0 (by decide)) (by rw [hml]; rfl) (lenOf own_pd16 rfl) rfl at_97 (by decide) (W := 0) (by exact Nat.le_of_eq rfl) (by decide) (by decide) (by decide) (pc' := 100) rfl (fun T846 v846 X846 hQ846 => ?_)
          obtain ⟨rfl, e846⟩ := hQ846
          rw [e846] at X846
          show Gl p e below n0 _ _ (T846.setTop (mkF m 100 #[.val (.int y0), .val (.int y1), .val (.int y2), .val (.int y3), .val (.int y4), .val (.int (0 : Int32)), .val (.int (2 : Int32)), .val (.int k769), .val (.int k770), .val (.int vb), .val (.int vc), .val (.ref b827), .val (.ref b835), .unset, .unset, .unset, .unset] [(.int (0 : Int32))]))
          refine g_istore (L' := #[.val (.int y0), .val (.int y1), .val (.int y2), .val (.int y3), .val (.int y4), .val (.int (0 : Int32)), .val (.int (2 : Int32)), .val (.int k769), .val (.int k770), .val (.int vb), .val (.int vc), .val (.ref b827), .val (.ref b835), .val (.int (0 : Int32)), .unset, .unset, .unset]) X846 hx hby at_100 rfl (pc' := 102) rfl ?_
          refine g_iload X846 hx hby at_102 rfl (pc' := 104) rfl ?_
          refine g_iconst (v := 1) X846 hx hby at_104 rfl (pc' := 105) rfl ?_
          refine g_icmp_lt X846 hx hby at_105 (by decide) (pc' := 127) (by decide) (pc2 := 108) rfl (fun c105_847 => ?_) (fun q => absurd (by decide) q)
          refine g_iload X846 hx hby at_127 rfl (pc' := 129) rfl ?_
          refine g_iconst (v := 2) X846 hx hby at_129 rfl (pc' := 130) rfl ?_
          refine g_icmp_lt X846 hx hby at_130 (by decide) (pc' := 152) (by decide) (pc2 := 133) rfl (fun c130_848 => ?_) (fun q => absurd (by decide) q)
          refine g_iload X846 hx hby at_152 rfl (pc' := 154) rfl ?_
          refine g_iload X846 hx hby at_154 rfl (pc' := 156) rfl ?_
          refine g_isub X846 hx hby at_156 (pc' := 157) rfl ?_
          refine g_callS (argsL := [(.int ((0 : Int32) - (2 : Int32)))]) (S := []) X846 hx hby hZ827 (y := (⟨"com/example/urutan/urutan/build/CodePointOrderComparePinLaw", "sign", "(I)I"⟩ : MethodName)) hown827 (hw _ (List.mem_of_getElem? (i := 34) rfl)) (hw _ (List.mem_of_getElem? (i := 35) rfl)) (hw _ (List.mem_of_getElem? (i := 2) rfl)) (hw _ (List.mem_of_getElem? (i := 36) rfl)) (by decide) (own_sgc l Z a0 hw (((0 : Int32) - (2 : Int32))) T835.heap n0) (by rw [hml]; rfl) (lenOf own_pd5 rfl) rfl at_157 (by decide) (W := 0) (by exact Nat.le_of_eq rfl) (by decide) (by decide) (by decide) (pc' := 160) rfl (fun T849 v849 X849 hQ849 => ?_)
          obtain ⟨rfl, e849⟩ := hQ849
          rw [e849] at X849
          show Gl p e below n0 _ _ (T849.setTop (mkF m 160 #[.val (.int y0), .val (.int y1), .val (.int y2), .val (.int y3), .val (.int y4), .val (.int (0 : Int32)), .val (.int (2 : Int32)), .val (.int k769), .val (.int k770), .val (.int vb), .val (.int vc), .val (.ref b827), .val (.ref b835), .val (.int (0 : Int32)), .unset, .unset, .unset] [(.int (own_sg ((0 : Int32) - (2 : Int32))))]))
          refine g_istore (L' := #[.val (.int y0), .val (.int y1), .val (.int y2), .val (.int y3), .val (.int y4), .val (.int (0 : Int32)), .val (.int (2 : Int32)), .val (.int k769), .val (.int k770), .val (.int vb), .val (.int vc), .val (.ref b827), .val (.ref b835), .val (.int (0 : Int32)), .val (.int (own_sg ((0 : Int32) - (2 : Int32)))), .unset, .unset]) X849 hx hby at_160 rfl (pc' := 162) rfl ?_
          refine g_aload X849 hx hby at_162 rfl rfl (pc' := 164) rfl ?_
          refine g_aload X849 hx hby at_164 rfl rfl (pc' := 166) rfl ?_
          refine g_callS (argsL := [(.ref b827), (.ref b835)]) (S := []) X849 hx hby hZ827 (y := (⟨"com/example/urutan/urutan/build/CodePointOrder", "compare", "(Ljava/lang/String;Ljava/lang/String;)I"⟩ : MethodName)) hown827 (hw _ (List.mem_of_getElem? (i := 37) rfl)) (hw _ (List.mem_of_getElem? (i := 38) rfl)) (hw _ (List.mem_of_getElem? (i := 39) rfl)) (hw _ (List.mem_of_getElem? (i := 40) rfl)) (by decide) (own_cm_0_2 l Z a0 hw b827 b835 T835.heap n0 (own_cf2 k769 k770) (own_cf2 vb vc) (own_cf2r rg769 rg770) (own_cf2r rg_vb rg_vc) ps845 sg835 cs q837 hcs fm q838 hfm q839 q840 q841) (by rw [hml]; rfl) (lenOf own_pd20 rfl) rfl at_166 (by decide) (W := 0) (by exact Nat.le_of_eq rfl) (by decide) (by decide) (by decide) (pc' := 169) rfl (fun T850 v850 X850 hQ850 => ?_)
          obtain ⟨rfl, e850⟩ := hQ850
          rw [e850] at X850
          have ev850 : own_cv0 (own_cf2 k769 k770) (own_cf2 vb vc) ((0 : Int32) - (2 : Int32)) = ((0 : Int32) - (2 : Int32)) := by simp only [own_cv0, own_cf2]
          rw [ev850]
          show Gl p e below n0 _ _ (T850.setTop (mkF m 169 #[.val (.int y0), .val (.int y1), .val (.int y2), .val (.int y3), .val (.int y4), .val (.int (0 : Int32)), .val (.int (2 : Int32)), .val (.int k769), .val (.int k770), .val (.int vb), .val (.int vc), .val (.ref b827), .val (.ref b835), .val (.int (0 : Int32)), .val (.int (own_sg ((0 : Int32) - (2 : Int32)))), .unset, .unset] [(.int ((0 : Int32) - (2 : Int32)))]))
          refine g_istore (L' := #[.val (.int y0), .val (.int y1), .val (.int y2), .val (.int y3), .val (.int y4), .val (.int (0 : Int32)), .val (.int (2 : Int32)), .val (.int k769), .val (.int k770), .val (.int vb), .val (.int vc), .val (.ref b827), .val (.ref b835), .val (.int (0 : Int32)), .val (.int (own_sg ((0 : Int32) - (2 : Int32)))), .val (.int ((0 : Int32) - (2 : Int32))), .unset]) X850 hx hby at_169 rfl (pc' := 171) rfl ?_
          refine g_aload X850 hx hby at_171 rfl rfl (pc' := 173) rfl ?_
          refine g_aload X850 hx hby at_173 rfl rfl (pc' := 175) rfl ?_
          refine g_callS (argsL := [(.ref b835), (.ref b827)]) (S := []) X850 hx hby hZ827 (y := (⟨"com/example/urutan/urutan/build/CodePointOrder", "compare", "(Ljava/lang/String;Ljava/lang/String;)I"⟩ : MethodName)) hown827 (hw _ (List.mem_of_getElem? (i := 37) rfl)) (hw _ (List.mem_of_getElem? (i := 38) rfl)) (hw _ (List.mem_of_getElem? (i := 39) rfl)) (hw _ (List.mem_of_getElem? (i := 40) rfl)) (by decide) (own_cm_2_0 l Z a0 hw b835 b827 T835.heap n0 (own_cf2 vb vc) (own_cf2 k769 k770) (own_cf2r rg_vb rg_vc) (own_cf2r rg769 rg770) sg835 ps845 cs q837 hcs fm q838 hfm q839 q840 q841) (by rw [hml]; rfl) (lenOf own_pd20 rfl) rfl at_175 (by decide) (W := 0) (by exact Nat.le_of_eq rfl) (by decide) (by decide) (by decide) (pc' := 178) rfl (fun T851 v851 X851 hQ851 => ?_)
          obtain ⟨rfl, e851⟩ := hQ851
          rw [e851] at X851
          have ev851 : own_cv0 (own_cf2 vb vc) (own_cf2 k769 k770) ((2 : Int32) - (0 : Int32)) = ((2 : Int32) - (0 : Int32)) := by simp only [own_cv0, own_cf2]
          rw [ev851]
          show Gl p e below n0 _ _ (T851.setTop (mkF m 178 #[.val (.int y0), .val (.int y1), .val (.int y2), .val (.int y3), .val (.int y4), .val (.int (0 : Int32)), .val (.int (2 : Int32)), .val (.int k769), .val (.int k770), .val (.int vb), .val (.int vc), .val (.ref b827), .val (.ref b835), .val (.int (0 : Int32)), .val (.int (own_sg ((0 : Int32) - (2 : Int32)))), .val (.int ((0 : Int32) - (2 : Int32))), .unset] [(.int ((2 : Int32) - (0 : Int32)))]))
          refine g_istore (L' := #[.val (.int y0), .val (.int y1), .val (.int y2), .val (.int y3), .val (.int y4), .val (.int (0 : Int32)), .val (.int (2 : Int32)), .val (.int k769), .val (.int k770), .val (.int vb), .val (.int vc), .val (.ref b827), .val (.ref b835), .val (.int (0 : Int32)), .val (.int (own_sg ((0 : Int32) - (2 : Int32)))), .val (.int ((0 : Int32) - (2 : Int32))), .val (.int ((2 : Int32) - (0 : Int32)))]) X851 hx hby at_178 rfl (pc' := 180) rfl ?_
          refine g_iload X851 hx hby at_180 rfl (pc' := 182) rfl ?_
          refine g_callS (argsL := [(.int ((0 : Int32) - (2 : Int32)))]) (S := []) X851 hx hby hZ827 (y := (⟨"com/example/urutan/urutan/build/CodePointOrderComparePinLaw", "sign", "(I)I"⟩ : MethodName)) hown827 (hw _ (List.mem_of_getElem? (i := 34) rfl)) (hw _ (List.mem_of_getElem? (i := 35) rfl)) (hw _ (List.mem_of_getElem? (i := 2) rfl)) (hw _ (List.mem_of_getElem? (i := 36) rfl)) (by decide) (own_sgc l Z a0 hw (((0 : Int32) - (2 : Int32))) T835.heap n0) (by rw [hml]; rfl) (lenOf own_pd5 rfl) rfl at_182 (by decide) (W := 0) (by exact Nat.le_of_eq rfl) (by decide) (by decide) (by decide) (pc' := 185) rfl (fun T852 v852 X852 hQ852 => ?_)
          obtain ⟨rfl, e852⟩ := hQ852
          rw [e852] at X852
          show Gl p e below n0 _ _ (T852.setTop (mkF m 185 #[.val (.int y0), .val (.int y1), .val (.int y2), .val (.int y3), .val (.int y4), .val (.int (0 : Int32)), .val (.int (2 : Int32)), .val (.int k769), .val (.int k770), .val (.int vb), .val (.int vc), .val (.ref b827), .val (.ref b835), .val (.int (0 : Int32)), .val (.int (own_sg ((0 : Int32) - (2 : Int32)))), .val (.int ((0 : Int32) - (2 : Int32))), .val (.int ((2 : Int32) - (0 : Int32)))] [(.int (own_sg ((0 : Int32) - (2 : Int32))))]))
          refine g_iload X852 hx hby at_185 rfl (pc' := 187) rfl ?_
          refine g_icmp_ne X852 hx hby at_187 (by decide) (pc' := 205) (by decide) (pc2 := 190) rfl (fun q => absurd rfl q) (fun c187_853 => ?_)
          refine g_iload X852 hx hby at_190 rfl (pc' := 192) rfl ?_
          refine g_callS (argsL := [(.int ((2 : Int32) - (0 : Int32)))]) (S := []) X852 hx hby hZ827 (y := (⟨"com/example/urutan/urutan/build/CodePointOrderComparePinLaw", "sign", "(I)I"⟩ : MethodName)) hown827 (hw _ (List.mem_of_getElem? (i := 34) rfl)) (hw _ (List.mem_of_getElem? (i := 35) rfl)) (hw _ (List.mem_of_getElem? (i := 2) rfl)) (hw _ (List.mem_of_getElem? (i := 36) rfl)) (by decide) (own_sgc l Z a0 hw (((2 : Int32) - (0 : Int32))) T835.heap n0) (by rw [hml]; rfl) (lenOf own_pd5 rfl) rfl at_192 (by decide) (W := 0) (by exact Nat.le_of_eq rfl) (by decide) (by decide) (by decide) (pc' := 195) rfl (fun T854 v854 X854 hQ854 => ?_)
          obtain ⟨rfl, e854⟩ := hQ854
          rw [e854] at X854
          show Gl p e below n0 _ _ (T854.setTop (mkF m 195 #[.val (.int y0), .val (.int y1), .val (.int y2), .val (.int y3), .val (.int y4), .val (.int (0 : Int32)), .val (.int (2 : Int32)), .val (.int k769), .val (.int k770), .val (.int vb), .val (.int vc), .val (.ref b827), .val (.ref b835), .val (.int (0 : Int32)), .val (.int (own_sg ((0 : Int32) - (2 : Int32)))), .val (.int ((0 : Int32) - (2 : Int32))), .val (.int ((2 : Int32) - (0 : Int32)))] [(.int (own_sg ((2 : Int32) - (0 : Int32))))]))
          refine g_iload X854 hx hby at_195 rfl (pc' := 197) rfl ?_
          refine g_ineg X854 hx hby at_197 (pc' := 198) rfl ?_
          refine g_icmp_ne X854 hx hby at_198 (by decide) (pc' := 205) (by decide) (pc2 := 201) rfl (fun q => absurd (by decide) q) (fun c198_855 => ?_)
          refine g_iconst (v := 1) X854 hx hby at_201 rfl (pc' := 202) rfl ?_
          refine g_goto X854 hx hby at_202 (by decide) (pc' := 206) (by decide) ?_
          exact gw_retN X854 hx hby hS827 hk843 hret hlk (by simp) at_206 rfl (by decide) (by decide)
      · rw [qa]
        rcases own_three (((y0.toUInt32 >>> ((4 : Int32) &&& 31).toUInt32).toInt32)) with qb | qb | qb
        · rw [qb]
          show Gl p e below n0 _ _ (T_vc.setTop (mkF m 71 #[.val (.int y0), .val (.int y1), .val (.int y2), .val (.int y3), .val (.int y4), .val (.int (1 : Int32)), .val (.int (0 : Int32)), .val (.int k769), .val (.int k770), .val (.int vb), .val (.int vc), .unset, .unset, .unset, .unset, .unset, .unset] []))
          refine g_iload X_vc hx hby at_71 rfl (pc' := 73) rfl ?_
          refine g_iload X_vc hx hby at_73 rfl (pc' := 75) rfl ?_
          refine g_iload X_vc hx hby at_75 rfl (pc' := 77) rfl ?_
          refine g_callS (argsL := [(.int (1 : Int32)), (.int k769), (.int k770)]) (S := []) X_vc hx hby hZ (y := (⟨"com/example/urutan/urutan/build/CodePointOrderComparePinLaw", "mk", "(ICC)Ljava/lang/String;"⟩ : MethodName)) hown (hw _ (List.mem_of_getElem? (i := 5) rfl)) (hw _ (List.mem_of_getElem? (i := 6) rfl)) (hw _ (List.mem_of_getElem? (i := 2) rfl)) (hw _ (List.mem_of_getElem? (i := 7) rfl)) (by decide) (own_mk_1 l Z a0 hw k769 k770 h0 n0 Z0 rg769 rg770 cs Sc hcs Sd Sh Sl) (by rw [hml]; rfl) (lenOf own_pd19 rfl) rfl at_77 (by decide) (W := 0) (by exact Nat.le_of_eq rfl) (by decide) (by decide) (by decide) (pc' := 80) rfl (fun T856 v856 X856 hQ856 => ?_)
          obtain ⟨b856, rfl, ka856, sg856⟩ := hQ856
          have ch857 := hC0.trans (CHr.keep ka856 own_nsf hC0.1)
          have q858 := own_sta_keep Sc ka856 all0
          have q859 := own_sta_keep Sf ka856 all0
          have q860 := own_sta_keep Sd ka856 all0
          have q861 := own_sta_keep Sh ka856 all0
          have q862 := own_sta_keep Sl ka856 all0
          have zz863 := Nat.le_trans Z0 ka856.1
          have hk864 := Nat.le_trans (Nat.le_refl _) ka856.1
          have kk865 : Keep h0 T856.heap [] := (Keep.refl h0 []).trans ka856 all0
          show Gl p e below n0 _ _ (T856.setTop (mkF m 80 #[.val (.int y0), .val (.int y1), .val (.int y2), .val (.int y3), .val (.int y4), .val (.int (1 : Int32)), .val (.int (0 : Int32)), .val (.int k769), .val (.int k770), .val (.int vb), .val (.int vc), .unset, .unset, .unset, .unset, .unset, .unset] [(.ref b856)]))
          refine g_astore (L' := #[.val (.int y0), .val (.int y1), .val (.int y2), .val (.int y3), .val (.int y4), .val (.int (1 : Int32)), .val (.int (0 : Int32)), .val (.int k769), .val (.int k770), .val (.int vb), .val (.int vc), .val (.ref b856), .unset, .unset, .unset, .unset, .unset]) X856 hx hby at_80 rfl rfl (pc' := 82) rfl ?_
          refine g_iload X856 hx hby at_82 rfl (pc' := 84) rfl ?_
          refine g_iload X856 hx hby at_84 rfl (pc' := 86) rfl ?_
          refine g_iload X856 hx hby at_86 rfl (pc' := 88) rfl ?_
          refine gh_callS (argsL := [(.int (0 : Int32)), (.int vb), (.int vc)]) (S := []) X856 hx hby hZ hS hk864 (own_hEL hw) ch857 own_nss (y := (⟨"com/example/urutan/urutan/build/CodePointOrderComparePinLaw", "mk", "(ICC)Ljava/lang/String;"⟩ : MethodName)) hown (hw _ (List.mem_of_getElem? (i := 5) rfl)) (hw _ (List.mem_of_getElem? (i := 6) rfl)) (hw _ (List.mem_of_getElem? (i := 2) rfl)) (hw _ (List.mem_of_getElem? (i := 7) rfl)) (by decide) (own_mk_0 l Z a0 hw vb vc T856.heap n0 zz863 rg_vb rg_vc cs q858 hcs q860 q861 q862) (by rw [hml]; rfl) (lenOf own_pd19 rfl) rfl at_88 (by decide) (W := 0) (by exact Nat.le_of_eq rfl) (by decide) (by decide) (by decide) (pc' := 91) rfl (fun T866 v866 k866 X866 hS866 hk866 hZ866 hown866 hC866 hD866 hQ866 => ?_)
          obtain ⟨b866, rfl, ka866, sg866⟩ := hQ866
          have q867 := own_sta_keep q858 ka866 all0
          have q868 := own_sta_keep q859 ka866 all0
          have q869 := own_sta_keep q860 ka866 all0
          have q870 := own_sta_keep q861 ka866 all0
          have q871 := own_sta_keep q862 ka866 all0
          have zz872 := Nat.le_trans zz863 ka866.1
          have kk873 : Keep h0 T866.heap [] := kk865.trans ka866 all0
          have ps874 := sg856.keep0 ka866
          show Gl p e below n0 _ _ (T866.setTop (mkF m 91 #[.val (.int y0), .val (.int y1), .val (.int y2), .val (.int y3), .val (.int y4), .val (.int (1 : Int32)), .val (.int (0 : Int32)), .val (.int k769), .val (.int k770), .val (.int vb), .val (.int vc), .val (.ref b856), .unset, .unset, .unset, .unset, .unset] [(.ref b866)]))
          refine g_astore (L' := #[.val (.int y0), .val (.int y1), .val (.int y2), .val (.int y3), .val (.int y4), .val (.int (1 : Int32)), .val (.int (0 : Int32)), .val (.int k769), .val (.int k770), .val (.int vb), .val (.int vc), .val (.ref b856), .val (.ref b866), .unset, .unset, .unset, .unset]) X866 hx hby at_91 rfl rfl (pc' := 93) rfl ?_
          refine g_iload X866 hx hby at_93 rfl (pc' := 95) rfl ?_
          refine g_iload X866 hx hby at_95 rfl (pc' := 97) rfl ?_
          refine g_callS (argsL := [(.int (1 : Int32)), (.int (0 : Int32))]) (S := []) X866 hx hby hZ866 (y := (⟨"java/lang/Math", "min", "(II)I"⟩ : MethodName)) hown866 (hw _ (List.mem_of_getElem? (i := 30) rfl)) (hw _ (List.mem_of_getElem? (i := 31) rfl)) (hw _ (List.mem_of_getElem? (i := 32) rfl)) (hw _ (List.mem_of_getElem? (i := 33) rfl)) (by decide) (own_minB l Z a0 hw (1 : Int32) (0 : Int32) T866.heap n0 (by decide)) (by rw [hml]; rfl) (lenOf own_pd16 rfl) rfl at_97 (by decide) (W := 0) (by exact Nat.le_of_eq rfl) (by decide) (by decide) (by decide) (pc' := 100) rfl (fun T875 v875 X875 hQ875 => ?_)
          obtain ⟨rfl, e875⟩ := hQ875
          rw [e875] at X875
          show Gl p e below n0 _ _ (T875.setTop (mkF m 100 #[.val (.int y0), .val (.int y1), .val (.int y2), .val (.int y3), .val (.int y4), .val (.int (1 : Int32)), .val (.int (0 : Int32)), .val (.int k769), .val (.int k770), .val (.int vb), .val (.int vc), .val (.ref b856), .val (.ref b866), .unset, .unset, .unset, .unset] [(.int (0 : Int32))]))
          refine g_istore (L' := #[.val (.int y0), .val (.int y1), .val (.int y2), .val (.int y3), .val (.int y4), .val (.int (1 : Int32)), .val (.int (0 : Int32)), .val (.int k769), .val (.int k770), .val (.int vb), .val (.int vc), .val (.ref b856), .val (.ref b866), .val (.int (0 : Int32)), .unset, .unset, .unset]) X875 hx hby at_100 rfl (pc' := 102) rfl ?_
          refine g_iload X875 hx hby at_102 rfl (pc' := 104) rfl ?_
          refine g_iconst (v := 1) X875 hx hby at_104 rfl (pc' := 105) rfl ?_
          refine g_icmp_lt X875 hx hby at_105 (by decide) (pc' := 127) (by decide) (pc2 := 108) rfl (fun c105_876 => ?_) (fun q => absurd (by decide) q)
          refine g_iload X875 hx hby at_127 rfl (pc' := 129) rfl ?_
          refine g_iconst (v := 2) X875 hx hby at_129 rfl (pc' := 130) rfl ?_
          refine g_icmp_lt X875 hx hby at_130 (by decide) (pc' := 152) (by decide) (pc2 := 133) rfl (fun c130_877 => ?_) (fun q => absurd (by decide) q)
          refine g_iload X875 hx hby at_152 rfl (pc' := 154) rfl ?_
          refine g_iload X875 hx hby at_154 rfl (pc' := 156) rfl ?_
          refine g_isub X875 hx hby at_156 (pc' := 157) rfl ?_
          refine g_callS (argsL := [(.int ((1 : Int32) - (0 : Int32)))]) (S := []) X875 hx hby hZ866 (y := (⟨"com/example/urutan/urutan/build/CodePointOrderComparePinLaw", "sign", "(I)I"⟩ : MethodName)) hown866 (hw _ (List.mem_of_getElem? (i := 34) rfl)) (hw _ (List.mem_of_getElem? (i := 35) rfl)) (hw _ (List.mem_of_getElem? (i := 2) rfl)) (hw _ (List.mem_of_getElem? (i := 36) rfl)) (by decide) (own_sgc l Z a0 hw (((1 : Int32) - (0 : Int32))) T866.heap n0) (by rw [hml]; rfl) (lenOf own_pd5 rfl) rfl at_157 (by decide) (W := 0) (by exact Nat.le_of_eq rfl) (by decide) (by decide) (by decide) (pc' := 160) rfl (fun T878 v878 X878 hQ878 => ?_)
          obtain ⟨rfl, e878⟩ := hQ878
          rw [e878] at X878
          show Gl p e below n0 _ _ (T878.setTop (mkF m 160 #[.val (.int y0), .val (.int y1), .val (.int y2), .val (.int y3), .val (.int y4), .val (.int (1 : Int32)), .val (.int (0 : Int32)), .val (.int k769), .val (.int k770), .val (.int vb), .val (.int vc), .val (.ref b856), .val (.ref b866), .val (.int (0 : Int32)), .unset, .unset, .unset] [(.int (own_sg ((1 : Int32) - (0 : Int32))))]))
          refine g_istore (L' := #[.val (.int y0), .val (.int y1), .val (.int y2), .val (.int y3), .val (.int y4), .val (.int (1 : Int32)), .val (.int (0 : Int32)), .val (.int k769), .val (.int k770), .val (.int vb), .val (.int vc), .val (.ref b856), .val (.ref b866), .val (.int (0 : Int32)), .val (.int (own_sg ((1 : Int32) - (0 : Int32)))), .unset, .unset]) X878 hx hby at_160 rfl (pc' := 162) rfl ?_
          refine g_aload X878 hx hby at_162 rfl rfl (pc' := 164) rfl ?_
          refine g_aload X878 hx hby at_164 rfl rfl (pc' := 166) rfl ?_
          refine g_callS (argsL := [(.ref b856), (.ref b866)]) (S := []) X878 hx hby hZ866 (y := (⟨"com/example/urutan/urutan/build/CodePointOrder", "compare", "(Ljava/lang/String;Ljava/lang/String;)I"⟩ : MethodName)) hown866 (hw _ (List.mem_of_getElem? (i := 37) rfl)) (hw _ (List.mem_of_getElem? (i := 38) rfl)) (hw _ (List.mem_of_getElem? (i := 39) rfl)) (hw _ (List.mem_of_getElem? (i := 40) rfl)) (by decide) (own_cm_1_0 l Z a0 hw b856 b866 T866.heap n0 (own_cf2 k769 k770) (own_cf2 vb vc) (own_cf2r rg769 rg770) (own_cf2r rg_vb rg_vc) ps874 sg866 cs q867 hcs fm q868 hfm q869 q870 q871) (by rw [hml]; rfl) (lenOf own_pd20 rfl) rfl at_166 (by decide) (W := 0) (by exact Nat.le_of_eq rfl) (by decide) (by decide) (by decide) (pc' := 169) rfl (fun T879 v879 X879 hQ879 => ?_)
          obtain ⟨rfl, e879⟩ := hQ879
          rw [e879] at X879
          have ev879 : own_cv0 (own_cf2 k769 k770) (own_cf2 vb vc) ((1 : Int32) - (0 : Int32)) = ((1 : Int32) - (0 : Int32)) := by simp only [own_cv0, own_cf2]
          rw [ev879]
          show Gl p e below n0 _ _ (T879.setTop (mkF m 169 #[.val (.int y0), .val (.int y1), .val (.int y2), .val (.int y3), .val (.int y4), .val (.int (1 : Int32)), .val (.int (0 : Int32)), .val (.int k769), .val (.int k770), .val (.int vb), .val (.int vc), .val (.ref b856), .val (.ref b866), .val (.int (0 : Int32)), .val (.int (own_sg ((1 : Int32) - (0 : Int32)))), .unset, .unset] [(.int ((1 : Int32) - (0 : Int32)))]))
          refine g_istore (L' := #[.val (.int y0), .val (.int y1), .val (.int y2), .val (.int y3), .val (.int y4), .val (.int (1 : Int32)), .val (.int (0 : Int32)), .val (.int k769), .val (.int k770), .val (.int vb), .val (.int vc), .val (.ref b856), .val (.ref b866), .val (.int (0 : Int32)), .val (.int (own_sg ((1 : Int32) - (0 : Int32)))), .val (.int ((1 : Int32) - (0 : Int32))), .unset]) X879 hx hby at_169 rfl (pc' := 171) rfl ?_
          refine g_aload X879 hx hby at_171 rfl rfl (pc' := 173) rfl ?_
          refine g_aload X879 hx hby at_173 rfl rfl (pc' := 175) rfl ?_
          refine g_callS (argsL := [(.ref b866), (.ref b856)]) (S := []) X879 hx hby hZ866 (y := (⟨"com/example/urutan/urutan/build/CodePointOrder", "compare", "(Ljava/lang/String;Ljava/lang/String;)I"⟩ : MethodName)) hown866 (hw _ (List.mem_of_getElem? (i := 37) rfl)) (hw _ (List.mem_of_getElem? (i := 38) rfl)) (hw _ (List.mem_of_getElem? (i := 39) rfl)) (hw _ (List.mem_of_getElem? (i := 40) rfl)) (by decide) (own_cm_0_1 l Z a0 hw b866 b856 T866.heap n0 (own_cf2 vb vc) (own_cf2 k769 k770) (own_cf2r rg_vb rg_vc) (own_cf2r rg769 rg770) sg866 ps874 cs q867 hcs fm q868 hfm q869 q870 q871) (by rw [hml]; rfl) (lenOf own_pd20 rfl) rfl at_175 (by decide) (W := 0) (by exact Nat.le_of_eq rfl) (by decide) (by decide) (by decide) (pc' := 178) rfl (fun T880 v880 X880 hQ880 => ?_)
          obtain ⟨rfl, e880⟩ := hQ880
          rw [e880] at X880
          have ev880 : own_cv0 (own_cf2 vb vc) (own_cf2 k769 k770) ((0 : Int32) - (1 : Int32)) = ((0 : Int32) - (1 : Int32)) := by simp only [own_cv0, own_cf2]
          rw [ev880]
          show Gl p e below n0 _ _ (T880.setTop (mkF m 178 #[.val (.int y0), .val (.int y1), .val (.int y2), .val (.int y3), .val (.int y4), .val (.int (1 : Int32)), .val (.int (0 : Int32)), .val (.int k769), .val (.int k770), .val (.int vb), .val (.int vc), .val (.ref b856), .val (.ref b866), .val (.int (0 : Int32)), .val (.int (own_sg ((1 : Int32) - (0 : Int32)))), .val (.int ((1 : Int32) - (0 : Int32))), .unset] [(.int ((0 : Int32) - (1 : Int32)))]))
          refine g_istore (L' := #[.val (.int y0), .val (.int y1), .val (.int y2), .val (.int y3), .val (.int y4), .val (.int (1 : Int32)), .val (.int (0 : Int32)), .val (.int k769), .val (.int k770), .val (.int vb), .val (.int vc), .val (.ref b856), .val (.ref b866), .val (.int (0 : Int32)), .val (.int (own_sg ((1 : Int32) - (0 : Int32)))), .val (.int ((1 : Int32) - (0 : Int32))), .val (.int ((0 : Int32) - (1 : Int32)))]) X880 hx hby at_178 rfl (pc' := 180) rfl ?_
          refine g_iload X880 hx hby at_180 rfl (pc' := 182) rfl ?_
          refine g_callS (argsL := [(.int ((1 : Int32) - (0 : Int32)))]) (S := []) X880 hx hby hZ866 (y := (⟨"com/example/urutan/urutan/build/CodePointOrderComparePinLaw", "sign", "(I)I"⟩ : MethodName)) hown866 (hw _ (List.mem_of_getElem? (i := 34) rfl)) (hw _ (List.mem_of_getElem? (i := 35) rfl)) (hw _ (List.mem_of_getElem? (i := 2) rfl)) (hw _ (List.mem_of_getElem? (i := 36) rfl)) (by decide) (own_sgc l Z a0 hw (((1 : Int32) - (0 : Int32))) T866.heap n0) (by rw [hml]; rfl) (lenOf own_pd5 rfl) rfl at_182 (by decide) (W := 0) (by exact Nat.le_of_eq rfl) (by decide) (by decide) (by decide) (pc' := 185) rfl (fun T881 v881 X881 hQ881 => ?_)
          obtain ⟨rfl, e881⟩ := hQ881
          rw [e881] at X881
          show Gl p e below n0 _ _ (T881.setTop (mkF m 185 #[.val (.int y0), .val (.int y1), .val (.int y2), .val (.int y3), .val (.int y4), .val (.int (1 : Int32)), .val (.int (0 : Int32)), .val (.int k769), .val (.int k770), .val (.int vb), .val (.int vc), .val (.ref b856), .val (.ref b866), .val (.int (0 : Int32)), .val (.int (own_sg ((1 : Int32) - (0 : Int32)))), .val (.int ((1 : Int32) - (0 : Int32))), .val (.int ((0 : Int32) - (1 : Int32)))] [(.int (own_sg ((1 : Int32) - (0 : Int32))))]))
          refine g_iload X881 hx hby at_185 rfl (pc' := 187) rfl ?_
          refine g_icmp_ne X881 hx hby at_187 (by decide) (pc' := 205) (by decide) (pc2 := 190) rfl (fun q => absurd rfl q) (fun c187_882 => ?_)
          refine g_iload X881 hx hby at_190 rfl (pc' := 192) rfl ?_
          refine g_callS (argsL := [(.int ((0 : Int32) - (1 : Int32)))]) (S := []) X881 hx hby hZ866 (y := (⟨"com/example/urutan/urutan/build/CodePointOrderComparePinLaw", "sign", "(I)I"⟩ : MethodName)) hown866 (hw _ (List.mem_of_getElem? (i := 34) rfl)) (hw _ (List.mem_of_getElem? (i := 35) rfl)) (hw _ (List.mem_of_getElem? (i := 2) rfl)) (hw _ (List.mem_of_getElem? (i := 36) rfl)) (by decide) (own_sgc l Z a0 hw (((0 : Int32) - (1 : Int32))) T866.heap n0) (by rw [hml]; rfl) (lenOf own_pd5 rfl) rfl at_192 (by decide) (W := 0) (by exact Nat.le_of_eq rfl) (by decide) (by decide) (by decide) (pc' := 195) rfl (fun T883 v883 X883 hQ883 => ?_)
          obtain ⟨rfl, e883⟩ := hQ883
          rw [e883] at X883
          show Gl p e below n0 _ _ (T883.setTop (mkF m 195 #[.val (.int y0), .val (.int y1), .val (.int y2), .val (.int y3), .val (.int y4), .val (.int (1 : Int32)), .val (.int (0 : Int32)), .val (.int k769), .val (.int k770), .val (.int vb), .val (.int vc), .val (.ref b856), .val (.ref b866), .val (.int (0 : Int32)), .val (.int (own_sg ((1 : Int32) - (0 : Int32)))), .val (.int ((1 : Int32) - (0 : Int32))), .val (.int ((0 : Int32) - (1 : Int32)))] [(.int (own_sg ((0 : Int32) - (1 : Int32))))]))
          refine g_iload X883 hx hby at_195 rfl (pc' := 197) rfl ?_
          refine g_ineg X883 hx hby at_197 (pc' := 198) rfl ?_
          refine g_icmp_ne X883 hx hby at_198 (by decide) (pc' := 205) (by decide) (pc2 := 201) rfl (fun q => absurd (by decide) q) (fun c198_884 => ?_)
          refine g_iconst (v := 1) X883 hx hby at_201 rfl (pc' := 202) rfl ?_
          refine g_goto X883 hx hby at_202 (by decide) (pc' := 206) (by decide) ?_
          exact gw_retN X883 hx hby hS866 hk866 hret hlk (by simp) at_206 rfl (by decide) (by decide)
        · rw [qb]
          show Gl p e below n0 _ _ (T_vc.setTop (mkF m 71 #[.val (.int y0), .val (.int y1), .val (.int y2), .val (.int y3), .val (.int y4), .val (.int (1 : Int32)), .val (.int (1 : Int32)), .val (.int k769), .val (.int k770), .val (.int vb), .val (.int vc), .unset, .unset, .unset, .unset, .unset, .unset] []))
          refine g_iload X_vc hx hby at_71 rfl (pc' := 73) rfl ?_
          refine g_iload X_vc hx hby at_73 rfl (pc' := 75) rfl ?_
          refine g_iload X_vc hx hby at_75 rfl (pc' := 77) rfl ?_
          refine g_callS (argsL := [(.int (1 : Int32)), (.int k769), (.int k770)]) (S := []) X_vc hx hby hZ (y := (⟨"com/example/urutan/urutan/build/CodePointOrderComparePinLaw", "mk", "(ICC)Ljava/lang/String;"⟩ : MethodName)) hown (hw _ (List.mem_of_getElem? (i := 5) rfl)) (hw _ (List.mem_of_getElem? (i := 6) rfl)) (hw _ (List.mem_of_getElem? (i := 2) rfl)) (hw _ (List.mem_of_getElem? (i := 7) rfl)) (by decide) (own_mk_1 l Z a0 hw k769 k770 h0 n0 Z0 rg769 rg770 cs Sc hcs Sd Sh Sl) (by rw [hml]; rfl) (lenOf own_pd19 rfl) rfl at_77 (by decide) (W := 0) (by exact Nat.le_of_eq rfl) (by decide) (by decide) (by decide) (pc' := 80) rfl (fun T885 v885 X885 hQ885 => ?_)
          obtain ⟨b885, rfl, ka885, sg885⟩ := hQ885
          have ch886 := hC0.trans (CHr.keep ka885 own_nsf hC0.1)
          have q887 := own_sta_keep Sc ka885 all0
          have q888 := own_sta_keep Sf ka885 all0
          have q889 := own_sta_keep Sd ka885 all0
          have q890 := own_sta_keep Sh ka885 all0
          have q891 := own_sta_keep Sl ka885 all0
          have zz892 := Nat.le_trans Z0 ka885.1
          have hk893 := Nat.le_trans (Nat.le_refl _) ka885.1
          have kk894 : Keep h0 T885.heap [] := (Keep.refl h0 []).trans ka885 all0
          show Gl p e below n0 _ _ (T885.setTop (mkF m 80 #[.val (.int y0), .val (.int y1), .val (.int y2), .val (.int y3), .val (.int y4), .val (.int (1 : Int32)), .val (.int (1 : Int32)), .val (.int k769), .val (.int k770), .val (.int vb), .val (.int vc), .unset, .unset, .unset, .unset, .unset, .unset] [(.ref b885)]))
          refine g_astore (L' := #[.val (.int y0), .val (.int y1), .val (.int y2), .val (.int y3), .val (.int y4), .val (.int (1 : Int32)), .val (.int (1 : Int32)), .val (.int k769), .val (.int k770), .val (.int vb), .val (.int vc), .val (.ref b885), .unset, .unset, .unset, .unset, .unset]) X885 hx hby at_80 rfl rfl (pc' := 82) rfl ?_
          refine g_iload X885 hx hby at_82 rfl (pc' := 84) rfl ?_
          refine g_iload X885 hx hby at_84 rfl (pc' := 86) rfl ?_
          refine g_iload X885 hx hby at_86 rfl (pc' := 88) rfl ?_
          refine g_callS (argsL := [(.int (1 : Int32)), (.int vb), (.int vc)]) (S := []) X885 hx hby hZ (y := (⟨"com/example/urutan/urutan/build/CodePointOrderComparePinLaw", "mk", "(ICC)Ljava/lang/String;"⟩ : MethodName)) hown (hw _ (List.mem_of_getElem? (i := 5) rfl)) (hw _ (List.mem_of_getElem? (i := 6) rfl)) (hw _ (List.mem_of_getElem? (i := 2) rfl)) (hw _ (List.mem_of_getElem? (i := 7) rfl)) (by decide) (own_mk_1 l Z a0 hw vb vc T885.heap n0 zz892 rg_vb rg_vc cs q887 hcs q889 q890 q891) (by rw [hml]; rfl) (lenOf own_pd19 rfl) rfl at_88 (by decide) (W := 0) (by exact Nat.le_of_eq rfl) (by decide) (by decide) (by decide) (pc' := 91) rfl (fun T895 v895 X895 hQ895 => ?_)
          obtain ⟨b895, rfl, ka895, sg895⟩ := hQ895
          have ch896 := ch886.trans (CHr.keep ka895 own_nsf ch886.1)
          have q897 := own_sta_keep q887 ka895 all0
          have q898 := own_sta_keep q888 ka895 all0
          have q899 := own_sta_keep q889 ka895 all0
          have q900 := own_sta_keep q890 ka895 all0
          have q901 := own_sta_keep q891 ka895 all0
          have zz902 := Nat.le_trans zz892 ka895.1
          have hk903 := Nat.le_trans hk893 ka895.1
          have kk904 : Keep h0 T895.heap [] := kk894.trans ka895 all0
          have ps905 := sg885.keep0 ka895
          show Gl p e below n0 _ _ (T895.setTop (mkF m 91 #[.val (.int y0), .val (.int y1), .val (.int y2), .val (.int y3), .val (.int y4), .val (.int (1 : Int32)), .val (.int (1 : Int32)), .val (.int k769), .val (.int k770), .val (.int vb), .val (.int vc), .val (.ref b885), .unset, .unset, .unset, .unset, .unset] [(.ref b895)]))
          refine g_astore (L' := #[.val (.int y0), .val (.int y1), .val (.int y2), .val (.int y3), .val (.int y4), .val (.int (1 : Int32)), .val (.int (1 : Int32)), .val (.int k769), .val (.int k770), .val (.int vb), .val (.int vc), .val (.ref b885), .val (.ref b895), .unset, .unset, .unset, .unset]) X895 hx hby at_91 rfl rfl (pc' := 93) rfl ?_
          refine g_iload X895 hx hby at_93 rfl (pc' := 95) rfl ?_
          refine g_iload X895 hx hby at_95 rfl (pc' := 97) rfl ?_
          refine g_callS (argsL := [(.int (1 : Int32)), (.int (1 : Int32))]) (S := []) X895 hx hby hZ (y := (⟨"java/lang/Math", "min", "(II)I"⟩ : MethodName)) hown (hw _ (List.mem_of_getElem? (i := 30) rfl)) (hw _ (List.mem_of_getElem? (i := 31) rfl)) (hw _ (List.mem_of_getElem? (i := 32) rfl)) (hw _ (List.mem_of_getElem? (i := 33) rfl)) (by decide) (own_minA l Z a0 hw (1 : Int32) (1 : Int32) T895.heap n0 (by decide)) (by rw [hml]; rfl) (lenOf own_pd16 rfl) rfl at_97 (by decide) (W := 0) (by exact Nat.le_of_eq rfl) (by decide) (by decide) (by decide) (pc' := 100) rfl (fun T906 v906 X906 hQ906 => ?_)
          obtain ⟨rfl, e906⟩ := hQ906
          rw [e906] at X906
          show Gl p e below n0 _ _ (T906.setTop (mkF m 100 #[.val (.int y0), .val (.int y1), .val (.int y2), .val (.int y3), .val (.int y4), .val (.int (1 : Int32)), .val (.int (1 : Int32)), .val (.int k769), .val (.int k770), .val (.int vb), .val (.int vc), .val (.ref b885), .val (.ref b895), .unset, .unset, .unset, .unset] [(.int (1 : Int32))]))
          refine g_istore (L' := #[.val (.int y0), .val (.int y1), .val (.int y2), .val (.int y3), .val (.int y4), .val (.int (1 : Int32)), .val (.int (1 : Int32)), .val (.int k769), .val (.int k770), .val (.int vb), .val (.int vc), .val (.ref b885), .val (.ref b895), .val (.int (1 : Int32)), .unset, .unset, .unset]) X906 hx hby at_100 rfl (pc' := 102) rfl ?_
          refine g_iload X906 hx hby at_102 rfl (pc' := 104) rfl ?_
          refine g_iconst (v := 1) X906 hx hby at_104 rfl (pc' := 105) rfl ?_
          refine g_icmp_lt X906 hx hby at_105 (by decide) (pc' := 127) (by decide) (pc2 := 108) rfl (fun q => absurd q (by decide)) (fun c105_907 => ?_)
          refine g_iload X906 hx hby at_108 rfl (pc' := 110) rfl ?_
          refine g_iload X906 hx hby at_110 rfl (pc' := 112) rfl ?_
          refine g_icmp_eq X906 hx hby at_112 (by decide) (pc' := 127) (by decide) (pc2 := 115) rfl (fun c112_908 => ?_) (fun c112_908 => ?_)
          · refine g_iload X906 hx hby at_127 rfl (pc' := 129) rfl ?_
            refine g_iconst (v := 2) X906 hx hby at_129 rfl (pc' := 130) rfl ?_
            refine g_icmp_lt X906 hx hby at_130 (by decide) (pc' := 152) (by decide) (pc2 := 133) rfl (fun c130_909 => ?_) (fun q => absurd (by decide) q)
            refine g_iload X906 hx hby at_152 rfl (pc' := 154) rfl ?_
            refine g_iload X906 hx hby at_154 rfl (pc' := 156) rfl ?_
            refine g_isub X906 hx hby at_156 (pc' := 157) rfl ?_
            refine g_callS (argsL := [(.int ((1 : Int32) - (1 : Int32)))]) (S := []) X906 hx hby hZ (y := (⟨"com/example/urutan/urutan/build/CodePointOrderComparePinLaw", "sign", "(I)I"⟩ : MethodName)) hown (hw _ (List.mem_of_getElem? (i := 34) rfl)) (hw _ (List.mem_of_getElem? (i := 35) rfl)) (hw _ (List.mem_of_getElem? (i := 2) rfl)) (hw _ (List.mem_of_getElem? (i := 36) rfl)) (by decide) (own_sgc l Z a0 hw (((1 : Int32) - (1 : Int32))) T895.heap n0) (by rw [hml]; rfl) (lenOf own_pd5 rfl) rfl at_157 (by decide) (W := 0) (by exact Nat.le_of_eq rfl) (by decide) (by decide) (by decide) (pc' := 160) rfl (fun T910 v910 X910 hQ910 => ?_)
            obtain ⟨rfl, e910⟩ := hQ910
            rw [e910] at X910
            show Gl p e below n0 _ _ (T910.setTop (mkF m 160 #[.val (.int y0), .val (.int y1), .val (.int y2), .val (.int y3), .val (.int y4), .val (.int (1 : Int32)), .val (.int (1 : Int32)), .val (.int k769), .val (.int k770), .val (.int vb), .val (.int vc), .val (.ref b885), .val (.ref b895), .val (.int (1 : Int32)), .unset, .unset, .unset] [(.int (own_sg ((1 : Int32) - (1 : Int32))))]))
            refine g_istore (L' := #[.val (.int y0), .val (.int y1), .val (.int y2), .val (.int y3), .val (.int y4), .val (.int (1 : Int32)), .val (.int (1 : Int32)), .val (.int k769), .val (.int k770), .val (.int vb), .val (.int vc), .val (.ref b885), .val (.ref b895), .val (.int (1 : Int32)), .val (.int (own_sg ((1 : Int32) - (1 : Int32)))), .unset, .unset]) X910 hx hby at_160 rfl (pc' := 162) rfl ?_
            refine g_aload X910 hx hby at_162 rfl rfl (pc' := 164) rfl ?_
            refine g_aload X910 hx hby at_164 rfl rfl (pc' := 166) rfl ?_
            refine g_callS (argsL := [(.ref b885), (.ref b895)]) (S := []) X910 hx hby hZ (y := (⟨"com/example/urutan/urutan/build/CodePointOrder", "compare", "(Ljava/lang/String;Ljava/lang/String;)I"⟩ : MethodName)) hown (hw _ (List.mem_of_getElem? (i := 37) rfl)) (hw _ (List.mem_of_getElem? (i := 38) rfl)) (hw _ (List.mem_of_getElem? (i := 39) rfl)) (hw _ (List.mem_of_getElem? (i := 40) rfl)) (by decide) (own_cm_1_1 l Z a0 hw b885 b895 T895.heap n0 (own_cf2 k769 k770) (own_cf2 vb vc) (own_cf2r rg769 rg770) (own_cf2r rg_vb rg_vc) ps905 sg895 cs q897 hcs fm q898 hfm q899 q900 q901) (by rw [hml]; rfl) (lenOf own_pd20 rfl) rfl at_166 (by decide) (W := 0) (by exact Nat.le_of_eq rfl) (by decide) (by decide) (by decide) (pc' := 169) rfl (fun T911 v911 X911 hQ911 => ?_)
            obtain ⟨rfl, e911⟩ := hQ911
            rw [e911] at X911
            have ev911 : own_cv1 (own_cf2 k769 k770) (own_cf2 vb vc) ((1 : Int32) - (1 : Int32)) = ((1 : Int32) - (1 : Int32)) := by simp only [own_cv1, own_cf2, if_pos c112_908]
            rw [ev911]
            show Gl p e below n0 _ _ (T911.setTop (mkF m 169 #[.val (.int y0), .val (.int y1), .val (.int y2), .val (.int y3), .val (.int y4), .val (.int (1 : Int32)), .val (.int (1 : Int32)), .val (.int k769), .val (.int k770), .val (.int vb), .val (.int vc), .val (.ref b885), .val (.ref b895), .val (.int (1 : Int32)), .val (.int (own_sg ((1 : Int32) - (1 : Int32)))), .unset, .unset] [(.int ((1 : Int32) - (1 : Int32)))]))
            refine g_istore (L' := #[.val (.int y0), .val (.int y1), .val (.int y2), .val (.int y3), .val (.int y4), .val (.int (1 : Int32)), .val (.int (1 : Int32)), .val (.int k769), .val (.int k770), .val (.int vb), .val (.int vc), .val (.ref b885), .val (.ref b895), .val (.int (1 : Int32)), .val (.int (own_sg ((1 : Int32) - (1 : Int32)))), .val (.int ((1 : Int32) - (1 : Int32))), .unset]) X911 hx hby at_169 rfl (pc' := 171) rfl ?_
            refine g_aload X911 hx hby at_171 rfl rfl (pc' := 173) rfl ?_
            refine g_aload X911 hx hby at_173 rfl rfl (pc' := 175) rfl ?_
            refine g_callS (argsL := [(.ref b895), (.ref b885)]) (S := []) X911 hx hby hZ (y := (⟨"com/example/urutan/urutan/build/CodePointOrder", "compare", "(Ljava/lang/String;Ljava/lang/String;)I"⟩ : MethodName)) hown (hw _ (List.mem_of_getElem? (i := 37) rfl)) (hw _ (List.mem_of_getElem? (i := 38) rfl)) (hw _ (List.mem_of_getElem? (i := 39) rfl)) (hw _ (List.mem_of_getElem? (i := 40) rfl)) (by decide) (own_cm_1_1 l Z a0 hw b895 b885 T895.heap n0 (own_cf2 vb vc) (own_cf2 k769 k770) (own_cf2r rg_vb rg_vc) (own_cf2r rg769 rg770) sg895 ps905 cs q897 hcs fm q898 hfm q899 q900 q901) (by rw [hml]; rfl) (lenOf own_pd20 rfl) rfl at_175 (by decide) (W := 0) (by exact Nat.le_of_eq rfl) (by decide) (by decide) (by decide) (pc' := 178) rfl (fun T912 v912 X912 hQ912 => ?_)
            obtain ⟨rfl, e912⟩ := hQ912
            rw [e912] at X912
            have ev912 : own_cv1 (own_cf2 vb vc) (own_cf2 k769 k770) ((1 : Int32) - (1 : Int32)) = ((1 : Int32) - (1 : Int32)) := by simp only [own_cv1, own_cf2, if_pos c112_908.symm]
            rw [ev912]
            show Gl p e below n0 _ _ (T912.setTop (mkF m 178 #[.val (.int y0), .val (.int y1), .val (.int y2), .val (.int y3), .val (.int y4), .val (.int (1 : Int32)), .val (.int (1 : Int32)), .val (.int k769), .val (.int k770), .val (.int vb), .val (.int vc), .val (.ref b885), .val (.ref b895), .val (.int (1 : Int32)), .val (.int (own_sg ((1 : Int32) - (1 : Int32)))), .val (.int ((1 : Int32) - (1 : Int32))), .unset] [(.int ((1 : Int32) - (1 : Int32)))]))
            refine g_istore (L' := #[.val (.int y0), .val (.int y1), .val (.int y2), .val (.int y3), .val (.int y4), .val (.int (1 : Int32)), .val (.int (1 : Int32)), .val (.int k769), .val (.int k770), .val (.int vb), .val (.int vc), .val (.ref b885), .val (.ref b895), .val (.int (1 : Int32)), .val (.int (own_sg ((1 : Int32) - (1 : Int32)))), .val (.int ((1 : Int32) - (1 : Int32))), .val (.int ((1 : Int32) - (1 : Int32)))]) X912 hx hby at_178 rfl (pc' := 180) rfl ?_
            refine g_iload X912 hx hby at_180 rfl (pc' := 182) rfl ?_
            refine g_callS (argsL := [(.int ((1 : Int32) - (1 : Int32)))]) (S := []) X912 hx hby hZ (y := (⟨"com/example/urutan/urutan/build/CodePointOrderComparePinLaw", "sign", "(I)I"⟩ : MethodName)) hown (hw _ (List.mem_of_getElem? (i := 34) rfl)) (hw _ (List.mem_of_getElem? (i := 35) rfl)) (hw _ (List.mem_of_getElem? (i := 2) rfl)) (hw _ (List.mem_of_getElem? (i := 36) rfl)) (by decide) (own_sgc l Z a0 hw (((1 : Int32) - (1 : Int32))) T895.heap n0) (by rw [hml]; rfl) (lenOf own_pd5 rfl) rfl at_182 (by decide) (W := 0) (by exact Nat.le_of_eq rfl) (by decide) (by decide) (by decide) (pc' := 185) rfl (fun T913 v913 X913 hQ913 => ?_)
            obtain ⟨rfl, e913⟩ := hQ913
            rw [e913] at X913
            show Gl p e below n0 _ _ (T913.setTop (mkF m 185 #[.val (.int y0), .val (.int y1), .val (.int y2), .val (.int y3), .val (.int y4), .val (.int (1 : Int32)), .val (.int (1 : Int32)), .val (.int k769), .val (.int k770), .val (.int vb), .val (.int vc), .val (.ref b885), .val (.ref b895), .val (.int (1 : Int32)), .val (.int (own_sg ((1 : Int32) - (1 : Int32)))), .val (.int ((1 : Int32) - (1 : Int32))), .val (.int ((1 : Int32) - (1 : Int32)))] [(.int (own_sg ((1 : Int32) - (1 : Int32))))]))
            refine g_iload X913 hx hby at_185 rfl (pc' := 187) rfl ?_
            refine g_icmp_ne X913 hx hby at_187 (by decide) (pc' := 205) (by decide) (pc2 := 190) rfl (fun q => absurd rfl q) (fun c187_914 => ?_)
            refine g_iload X913 hx hby at_190 rfl (pc' := 192) rfl ?_
            refine g_callS (argsL := [(.int ((1 : Int32) - (1 : Int32)))]) (S := []) X913 hx hby hZ (y := (⟨"com/example/urutan/urutan/build/CodePointOrderComparePinLaw", "sign", "(I)I"⟩ : MethodName)) hown (hw _ (List.mem_of_getElem? (i := 34) rfl)) (hw _ (List.mem_of_getElem? (i := 35) rfl)) (hw _ (List.mem_of_getElem? (i := 2) rfl)) (hw _ (List.mem_of_getElem? (i := 36) rfl)) (by decide) (own_sgc l Z a0 hw (((1 : Int32) - (1 : Int32))) T895.heap n0) (by rw [hml]; rfl) (lenOf own_pd5 rfl) rfl at_192 (by decide) (W := 0) (by exact Nat.le_of_eq rfl) (by decide) (by decide) (by decide) (pc' := 195) rfl (fun T915 v915 X915 hQ915 => ?_)
            obtain ⟨rfl, e915⟩ := hQ915
            rw [e915] at X915
            show Gl p e below n0 _ _ (T915.setTop (mkF m 195 #[.val (.int y0), .val (.int y1), .val (.int y2), .val (.int y3), .val (.int y4), .val (.int (1 : Int32)), .val (.int (1 : Int32)), .val (.int k769), .val (.int k770), .val (.int vb), .val (.int vc), .val (.ref b885), .val (.ref b895), .val (.int (1 : Int32)), .val (.int (own_sg ((1 : Int32) - (1 : Int32)))), .val (.int ((1 : Int32) - (1 : Int32))), .val (.int ((1 : Int32) - (1 : Int32)))] [(.int (own_sg ((1 : Int32) - (1 : Int32))))]))
            refine g_iload X915 hx hby at_195 rfl (pc' := 197) rfl ?_
            refine g_ineg X915 hx hby at_197 (pc' := 198) rfl ?_
            refine g_icmp_ne X915 hx hby at_198 (by decide) (pc' := 205) (by decide) (pc2 := 201) rfl (fun q => absurd (by decide) q) (fun c198_916 => ?_)
            refine g_iconst (v := 1) X915 hx hby at_201 rfl (pc' := 202) rfl ?_
            refine g_goto X915 hx hby at_202 (by decide) (pc' := 206) (by decide) ?_
            exact gw_retN X915 hx hby hS hk903 hret hlk (by simp) at_206 rfl (by decide) (by decide)
          · refine g_iload X906 hx hby at_115 rfl (pc' := 117) rfl ?_
            refine g_iload X906 hx hby at_117 rfl (pc' := 119) rfl ?_
            refine g_callS (argsL := [(.int k769), (.int vb)]) (S := []) X906 hx hby hZ (y := (⟨"com/example/urutan/urutan/build/CodePointOrderComparePinLaw", "unitOrder", "(CC)I"⟩ : MethodName)) hown (hw _ (List.mem_of_getElem? (i := 85) rfl)) (hw _ (List.mem_of_getElem? (i := 86) rfl)) (hw _ (List.mem_of_getElem? (i := 2) rfl)) (hw _ (List.mem_of_getElem? (i := 87) rfl)) (by decide) (own_uoc l Z a0 hw k769 vb T895.heap n0) (by rw [hml]; rfl) (lenOf own_pd21 rfl) rfl at_119 (by decide) (W := 0) (by exact Nat.le_of_eq rfl) (by decide) (by decide) (by decide) (pc' := 122) rfl (fun T917 v917 X917 hQ917 => ?_)
            obtain ⟨rfl, e917⟩ := hQ917
            rw [e917] at X917
            show Gl p e below n0 _ _ (T917.setTop (mkF m 122 #[.val (.int y0), .val (.int y1), .val (.int y2), .val (.int y3), .val (.int y4), .val (.int (1 : Int32)), .val (.int (1 : Int32)), .val (.int k769), .val (.int k770), .val (.int vb), .val (.int vc), .val (.ref b885), .val (.ref b895), .val (.int (1 : Int32)), .unset, .unset, .unset] [(.int (own_uo k769 vb))]))
            refine g_istore (L' := #[.val (.int y0), .val (.int y1), .val (.int y2), .val (.int y3), .val (.int y4), .val (.int (1 : Int32)), .val (.int (1 : Int32)), .val (.int k769), .val (.int k770), .val (.int vb), .val (.int vc), .val (.ref b885), .val (.ref b895), .val (.int (1 : Int32)), .val (.int (own_uo k769 vb)), .unset, .unset]) X917 hx hby at_122 rfl (pc' := 124) rfl ?_
            refine g_goto X917 hx hby at_124 (by decide) (pc' := 162) (by decide) ?_
            refine g_aload X917 hx hby at_162 rfl rfl (pc' := 164) rfl ?_
            refine g_aload X917 hx hby at_164 rfl rfl (pc' := 166) rfl ?_
            refine g_callS (argsL := [(.ref b885), (.ref b895)]) (S := []) X917 hx hby hZ (y := (⟨"com/example/urutan/urutan/build/CodePointOrder", "compare", "(Ljava/lang/String;Ljava/lang/String;)I"⟩ : MethodName)) hown (hw _ (List.mem_of_getElem? (i := 37) rfl)) (hw _ (List.mem_of_getElem? (i := 38) rfl)) (hw _ (List.mem_of_getElem? (i := 39) rfl)) (hw _ (List.mem_of_getElem? (i := 40) rfl)) (by decide) (own_cm_1_1 l Z a0 hw b885 b895 T895.heap n0 (own_cf2 k769 k770) (own_cf2 vb vc) (own_cf2r rg769 rg770) (own_cf2r rg_vb rg_vc) ps905 sg895 cs q897 hcs fm q898 hfm q899 q900 q901) (by rw [hml]; rfl) (lenOf own_pd20 rfl) rfl at_166 (by decide) (W := 0) (by exact Nat.le_of_eq rfl) (by decide) (by decide) (by decide) (pc' := 169) rfl (fun T918 v918 X918 hQ918 => ?_)
            obtain ⟨rfl, e918⟩ := hQ918
            rw [e918] at X918
            have ev918 : own_cv1 (own_cf2 k769 k770) (own_cf2 vb vc) ((1 : Int32) - (1 : Int32)) = (own_pl k769 - own_pl vb) := by simp only [own_cv1, own_cf2, if_neg c112_908]
            rw [ev918]
            show Gl p e below n0 _ _ (T918.setTop (mkF m 169 #[.val (.int y0), .val (.int y1), .val (.int y2), .val (.int y3), .val (.int y4), .val (.int (1 : Int32)), .val (.int (1 : Int32)), .val (.int k769), .val (.int k770), .val (.int vb), .val (.int vc), .val (.ref b885), .val (.ref b895), .val (.int (1 : Int32)), .val (.int (own_uo k769 vb)), .unset, .unset] [(.int (own_pl k769 - own_pl vb))]))
            refine g_istore (L' := #[.val (.int y0), .val (.int y1), .val (.int y2), .val (.int y3), .val (.int y4), .val (.int (1 : Int32)), .val (.int (1 : Int32)), .val (.int k769), .val (.int k770), .val (.int vb), .val (.int vc), .val (.ref b885), .val (.ref b895), .val (.int (1 : Int32)), .val (.int (own_uo k769 vb)), .val (.int (own_pl k769 - own_pl vb)), .unset]) X918 hx hby at_169 rfl (pc' := 171) rfl ?_
            refine g_aload X918 hx hby at_171 rfl rfl (pc' := 173) rfl ?_
            refine g_aload X918 hx hby at_173 rfl rfl (pc' := 175) rfl ?_
            refine g_callS (argsL := [(.ref b895), (.ref b885)]) (S := []) X918 hx hby hZ (y := (⟨"com/example/urutan/urutan/build/CodePointOrder", "compare", "(Ljava/lang/String;Ljava/lang/String;)I"⟩ : MethodName)) hown (hw _ (List.mem_of_getElem? (i := 37) rfl)) (hw _ (List.mem_of_getElem? (i := 38) rfl)) (hw _ (List.mem_of_getElem? (i := 39) rfl)) (hw _ (List.mem_of_getElem? (i := 40) rfl)) (by decide) (own_cm_1_1 l Z a0 hw b895 b885 T895.heap n0 (own_cf2 vb vc) (own_cf2 k769 k770) (own_cf2r rg_vb rg_vc) (own_cf2r rg769 rg770) sg895 ps905 cs q897 hcs fm q898 hfm q899 q900 q901) (by rw [hml]; rfl) (lenOf own_pd20 rfl) rfl at_175 (by decide) (W := 0) (by exact Nat.le_of_eq rfl) (by decide) (by decide) (by decide) (pc' := 178) rfl (fun T919 v919 X919 hQ919 => ?_)
            obtain ⟨rfl, e919⟩ := hQ919
            rw [e919] at X919
            have ev919 : own_cv1 (own_cf2 vb vc) (own_cf2 k769 k770) ((1 : Int32) - (1 : Int32)) = (own_pl vb - own_pl k769) := by simp only [own_cv1, own_cf2, if_neg (Ne.symm c112_908)]
            rw [ev919]
            show Gl p e below n0 _ _ (T919.setTop (mkF m 178 #[.val (.int y0), .val (.int y1), .val (.int y2), .val (.int y3), .val (.int y4), .val (.int (1 : Int32)), .val (.int (1 : Int32)), .val (.int k769), .val (.int k770), .val (.int vb), .val (.int vc), .val (.ref b885), .val (.ref b895), .val (.int (1 : Int32)), .val (.int (own_uo k769 vb)), .val (.int (own_pl k769 - own_pl vb)), .unset] [(.int (own_pl vb - own_pl k769))]))
            refine g_istore (L' := #[.val (.int y0), .val (.int y1), .val (.int y2), .val (.int y3), .val (.int y4), .val (.int (1 : Int32)), .val (.int (1 : Int32)), .val (.int k769), .val (.int k770), .val (.int vb), .val (.int vc), .val (.ref b885), .val (.ref b895), .val (.int (1 : Int32)), .val (.int (own_uo k769 vb)), .val (.int (own_pl k769 - own_pl vb)), .val (.int (own_pl vb - own_pl k769))]) X919 hx hby at_178 rfl (pc' := 180) rfl ?_
            refine g_iload X919 hx hby at_180 rfl (pc' := 182) rfl ?_
            refine g_callS (argsL := [(.int (own_pl k769 - own_pl vb))]) (S := []) X919 hx hby hZ (y := (⟨"com/example/urutan/urutan/build/CodePointOrderComparePinLaw", "sign", "(I)I"⟩ : MethodName)) hown (hw _ (List.mem_of_getElem? (i := 34) rfl)) (hw _ (List.mem_of_getElem? (i := 35) rfl)) (hw _ (List.mem_of_getElem? (i := 2) rfl)) (hw _ (List.mem_of_getElem? (i := 36) rfl)) (by decide) (own_sgc l Z a0 hw ((own_pl k769 - own_pl vb)) T895.heap n0) (by rw [hml]; rfl) (lenOf own_pd5 rfl) rfl at_182 (by decide) (W := 0) (by exact Nat.le_of_eq rfl) (by decide) (by decide) (by decide) (pc' := 185) rfl (fun T920 v920 X920 hQ920 => ?_)
            obtain ⟨rfl, e920⟩ := hQ920
            rw [e920] at X920
            show Gl p e below n0 _ _ (T920.setTop (mkF m 185 #[.val (.int y0), .val (.int y1), .val (.int y2), .val (.int y3), .val (.int y4), .val (.int (1 : Int32)), .val (.int (1 : Int32)), .val (.int k769), .val (.int k770), .val (.int vb), .val (.int vc), .val (.ref b885), .val (.ref b895), .val (.int (1 : Int32)), .val (.int (own_uo k769 vb)), .val (.int (own_pl k769 - own_pl vb)), .val (.int (own_pl vb - own_pl k769))] [(.int (own_sg (own_pl k769 - own_pl vb)))]))
            refine g_iload X920 hx hby at_185 rfl (pc' := 187) rfl ?_
            refine g_icmp_ne X920 hx hby at_187 (by decide) (pc' := 205) (by decide) (pc2 := 190) rfl (fun q => absurd (own_main1 rg769 rg_vb) q) (fun c187_921 => ?_)
            refine g_iload X920 hx hby at_190 rfl (pc' := 192) rfl ?_
            refine g_callS (argsL := [(.int (own_pl vb - own_pl k769))]) (S := []) X920 hx hby hZ (y := (⟨"com/example/urutan/urutan/build/CodePointOrderComparePinLaw", "sign", "(I)I"⟩ : MethodName)) hown (hw _ (List.mem_of_getElem? (i := 34) rfl)) (hw _ (List.mem_of_getElem? (i := 35) rfl)) (hw _ (List.mem_of_getElem? (i := 2) rfl)) (hw _ (List.mem_of_getElem? (i := 36) rfl)) (by decide) (own_sgc l Z a0 hw ((own_pl vb - own_pl k769)) T895.heap n0) (by rw [hml]; rfl) (lenOf own_pd5 rfl) rfl at_192 (by decide) (W := 0) (by exact Nat.le_of_eq rfl) (by decide) (by decide) (by decide) (pc' := 195) rfl (fun T922 v922 X922 hQ922 => ?_)
            obtain ⟨rfl, e922⟩ := hQ922
            rw [e922] at X922
            show Gl p e below n0 _ _ (T922.setTop (mkF m 195 #[.val (.int y0), .val (.int y1), .val (.int y2), .val (.int y3), .val (.int y4), .val (.int (1 : Int32)), .val (.int (1 : Int32)), .val (.int k769), .val (.int k770), .val (.int vb), .val (.int vc), .val (.ref b885), .val (.ref b895), .val (.int (1 : Int32)), .val (.int (own_uo k769 vb)), .val (.int (own_pl k769 - own_pl vb)), .val (.int (own_pl vb - own_pl k769))] [(.int (own_sg (own_pl vb - own_pl k769)))]))
            refine g_iload X922 hx hby at_195 rfl (pc' := 197) rfl ?_
            refine g_ineg X922 hx hby at_197 (pc' := 198) rfl ?_
            refine g_icmp_ne X922 hx hby at_198 (by decide) (pc' := 205) (by decide) (pc2 := 201) rfl (fun q => absurd (own_main2 rg769 rg_vb) q) (fun c198_923 => ?_)
            refine g_iconst (v := 1) X922 hx hby at_201 rfl (pc' := 202) rfl ?_
            refine g_goto X922 hx hby at_202 (by decide) (pc' := 206) (by decide) ?_
            exact gw_retN X922 hx hby hS hk903 hret hlk (by simp) at_206 rfl (by decide) (by decide)
        · rw [qb]
          show Gl p e below n0 _ _ (T_vc.setTop (mkF m 71 #[.val (.int y0), .val (.int y1), .val (.int y2), .val (.int y3), .val (.int y4), .val (.int (1 : Int32)), .val (.int (2 : Int32)), .val (.int k769), .val (.int k770), .val (.int vb), .val (.int vc), .unset, .unset, .unset, .unset, .unset, .unset] []))
          refine g_iload X_vc hx hby at_71 rfl (pc' := 73) rfl ?_
          refine g_iload X_vc hx hby at_73 rfl (pc' := 75) rfl ?_
          refine g_iload X_vc hx hby at_75 rfl (pc' := 77) rfl ?_
          refine g_callS (argsL := [(.int (1 : Int32)), (.int k769), (.int k770)]) (S := []) X_vc hx hby hZ (y := (⟨"com/example/urutan/urutan/build/CodePointOrderComparePinLaw", "mk", "(ICC)Ljava/lang/String;"⟩ : MethodName)) hown (hw _ (List.mem_of_getElem? (i := 5) rfl)) (hw _ (List.mem_of_getElem? (i := 6) rfl)) (hw _ (List.mem_of_getElem? (i := 2) rfl)) (hw _ (List.mem_of_getElem? (i := 7) rfl)) (by decide) (own_mk_1 l Z a0 hw k769 k770 h0 n0 Z0 rg769 rg770 cs Sc hcs Sd Sh Sl) (by rw [hml]; rfl) (lenOf own_pd19 rfl) rfl at_77 (by decide) (W := 0) (by exact Nat.le_of_eq rfl) (by decide) (by decide) (by decide) (pc' := 80) rfl (fun T924 v924 X924 hQ924 => ?_)
          obtain ⟨b924, rfl, ka924, sg924⟩ := hQ924
          have ch925 := hC0.trans (CHr.keep ka924 own_nsf hC0.1)
          have q926 := own_sta_keep Sc ka924 all0
          have q927 := own_sta_keep Sf ka924 all0
          have q928 := own_sta_keep Sd ka924 all0
          have q929 := own_sta_keep Sh ka924 all0
          have q930 := own_sta_keep Sl ka924 all0
          have zz931 := Nat.le_trans Z0 ka924.1
          have hk932 := Nat.le_trans (Nat.le_refl _) ka924.1
          have kk933 : Keep h0 T924.heap [] := (Keep.refl h0 []).trans ka924 all0
          show Gl p e below n0 _ _ (T924.setTop (mkF m 80 #[.val (.int y0), .val (.int y1), .val (.int y2), .val (.int y3), .val (.int y4), .val (.int (1 : Int32)), .val (.int (2 : Int32)), .val (.int k769), .val (.int k770), .val (.int vb), .val (.int vc), .unset, .unset, .unset, .unset, .unset, .unset] [(.ref b924)]))
          refine g_astore (L' := #[.val (.int y0), .val (.int y1), .val (.int y2), .val (.int y3), .val (.int y4), .val (.int (1 : Int32)), .val (.int (2 : Int32)), .val (.int k769), .val (.int k770), .val (.int vb), .val (.int vc), .val (.ref b924), .unset, .unset, .unset, .unset, .unset]) X924 hx hby at_80 rfl rfl (pc' := 82) rfl ?_
          refine g_iload X924 hx hby at_82 rfl (pc' := 84) rfl ?_
          refine g_iload X924 hx hby at_84 rfl (pc' := 86) rfl ?_
          refine g_iload X924 hx hby at_86 rfl (pc' := 88) rfl ?_
          refine g_callS (argsL := [(.int (2 : Int32)), (.int vb), (.int vc)]) (S := []) X924 hx hby hZ (y := (⟨"com/example/urutan/urutan/build/CodePointOrderComparePinLaw", "mk", "(ICC)Ljava/lang/String;"⟩ : MethodName)) hown (hw _ (List.mem_of_getElem? (i := 5) rfl)) (hw _ (List.mem_of_getElem? (i := 6) rfl)) (hw _ (List.mem_of_getElem? (i := 2) rfl)) (hw _ (List.mem_of_getElem? (i := 7) rfl)) (by decide) (own_mk_2 l Z a0 hw vb vc T924.heap n0 zz931 rg_vb rg_vc cs q926 hcs q928 q929 q930) (by rw [hml]; rfl) (lenOf own_pd19 rfl) rfl at_88 (by decide) (W := 0) (by exact Nat.le_of_eq rfl) (by decide) (by decide) (by decide) (pc' := 91) rfl (fun T934 v934 X934 hQ934 => ?_)
          obtain ⟨b934, rfl, ka934, sg934⟩ := hQ934
          have ch935 := ch925.trans (CHr.keep ka934 own_nsf ch925.1)
          have q936 := own_sta_keep q926 ka934 all0
          have q937 := own_sta_keep q927 ka934 all0
          have q938 := own_sta_keep q928 ka934 all0
          have q939 := own_sta_keep q929 ka934 all0
          have q940 := own_sta_keep q930 ka934 all0
          have zz941 := Nat.le_trans zz931 ka934.1
          have hk942 := Nat.le_trans hk932 ka934.1
          have kk943 : Keep h0 T934.heap [] := kk933.trans ka934 all0
          have ps944 := sg924.keep0 ka934
          show Gl p e below n0 _ _ (T934.setTop (mkF m 91 #[.val (.int y0), .val (.int y1), .val (.int y2), .val (.int y3), .val (.int y4), .val (.int (1 : Int32)), .val (.int (2 : Int32)), .val (.int k769), .val (.int k770), .val (.int vb), .val (.int vc), .val (.ref b924), .unset, .unset, .unset, .unset, .unset] [(.ref b934)]))
          refine g_astore (L' := #[.val (.int y0), .val (.int y1), .val (.int y2), .val (.int y3), .val (.int y4), .val (.int (1 : Int32)), .val (.int (2 : Int32)), .val (.int k769), .val (.int k770), .val (.int vb), .val (.int vc), .val (.ref b924), .val (.ref b934), .unset, .unset, .unset, .unset]) X934 hx hby at_91 rfl rfl (pc' := 93) rfl ?_
          refine g_iload X934 hx hby at_93 rfl (pc' := 95) rfl ?_
          refine g_iload X934 hx hby at_95 rfl (pc' := 97) rfl ?_
          refine g_callS (argsL := [(.int (1 : Int32)), (.int (2 : Int32))]) (S := []) X934 hx hby hZ (y := (⟨"java/lang/Math", "min", "(II)I"⟩ : MethodName)) hown (hw _ (List.mem_of_getElem? (i := 30) rfl)) (hw _ (List.mem_of_getElem? (i := 31) rfl)) (hw _ (List.mem_of_getElem? (i := 32) rfl)) (hw _ (List.mem_of_getElem? (i := 33) rfl)) (by decide) (own_minA l Z a0 hw (1 : Int32) (2 : Int32) T934.heap n0 (by decide)) (by rw [hml]; rfl) (lenOf own_pd16 rfl) rfl at_97 (by decide) (W := 0) (by exact Nat.le_of_eq rfl) (by decide) (by decide) (by decide) (pc' := 100) rfl (fun T945 v945 X945 hQ945 => ?_)
          obtain ⟨rfl, e945⟩ := hQ945
          rw [e945] at X945
          show Gl p e below n0 _ _ (T945.setTop (mkF m 100 #[.val (.int y0), .val (.int y1), .val (.int y2), .val (.int y3), .val (.int y4), .val (.int (1 : Int32)), .val (.int (2 : Int32)), .val (.int k769), .val (.int k770), .val (.int vb), .val (.int vc), .val (.ref b924), .val (.ref b934), .unset, .unset, .unset, .unset] [(.int (1 : Int32))]))
          refine g_istore (L' := #[.val (.int y0), .val (.int y1), .val (.int y2), .val (.int y3), .val (.int y4), .val (.int (1 : Int32)), .val (.int (2 : Int32)), .val (.int k769), .val (.int k770), .val (.int vb), .val (.int vc), .val (.ref b924), .val (.ref b934), .val (.int (1 : Int32)), .unset, .unset, .unset]) X945 hx hby at_100 rfl (pc' := 102) rfl ?_
          refine g_iload X945 hx hby at_102 rfl (pc' := 104) rfl ?_
          refine g_iconst (v := 1) X945 hx hby at_104 rfl (pc' := 105) rfl ?_
          refine g_icmp_lt X945 hx hby at_105 (by decide) (pc' := 127) (by decide) (pc2 := 108) rfl (fun q => absurd q (by decide)) (fun c105_946 => ?_)
          refine g_iload X945 hx hby at_108 rfl (pc' := 110) rfl ?_
          refine g_iload X945 hx hby at_110 rfl (pc' := 112) rfl ?_
          refine g_icmp_eq X945 hx hby at_112 (by decide) (pc' := 127) (by decide) (pc2 := 115) rfl (fun c112_947 => ?_) (fun c112_947 => ?_)
          · refine g_iload X945 hx hby at_127 rfl (pc' := 129) rfl ?_
            refine g_iconst (v := 2) X945 hx hby at_129 rfl (pc' := 130) rfl ?_
            refine g_icmp_lt X945 hx hby at_130 (by decide) (pc' := 152) (by decide) (pc2 := 133) rfl (fun c130_948 => ?_) (fun q => absurd (by decide) q)
            refine g_iload X945 hx hby at_152 rfl (pc' := 154) rfl ?_
            refine g_iload X945 hx hby at_154 rfl (pc' := 156) rfl ?_
            refine g_isub X945 hx hby at_156 (pc' := 157) rfl ?_
            refine g_callS (argsL := [(.int ((1 : Int32) - (2 : Int32)))]) (S := []) X945 hx hby hZ (y := (⟨"com/example/urutan/urutan/build/CodePointOrderComparePinLaw", "sign", "(I)I"⟩ : MethodName)) hown (hw _ (List.mem_of_getElem? (i := 34) rfl)) (hw _ (List.mem_of_getElem? (i := 35) rfl)) (hw _ (List.mem_of_getElem? (i := 2) rfl)) (hw _ (List.mem_of_getElem? (i := 36) rfl)) (by decide) (own_sgc l Z a0 hw (((1 : Int32) - (2 : Int32))) T934.heap n0) (by rw [hml]; rfl) (lenOf own_pd5 rfl) rfl at_157 (by decide) (W := 0) (by exact Nat.le_of_eq rfl) (by decide) (by decide) (by decide) (pc' := 160) rfl (fun T949 v949 X949 hQ949 => ?_)
            obtain ⟨rfl, e949⟩ := hQ949
            rw [e949] at X949
            show Gl p e below n0 _ _ (T949.setTop (mkF m 160 #[.val (.int y0), .val (.int y1), .val (.int y2), .val (.int y3), .val (.int y4), .val (.int (1 : Int32)), .val (.int (2 : Int32)), .val (.int k769), .val (.int k770), .val (.int vb), .val (.int vc), .val (.ref b924), .val (.ref b934), .val (.int (1 : Int32)), .unset, .unset, .unset] [(.int (own_sg ((1 : Int32) - (2 : Int32))))]))
            refine g_istore (L' := #[.val (.int y0), .val (.int y1), .val (.int y2), .val (.int y3), .val (.int y4), .val (.int (1 : Int32)), .val (.int (2 : Int32)), .val (.int k769), .val (.int k770), .val (.int vb), .val (.int vc), .val (.ref b924), .val (.ref b934), .val (.int (1 : Int32)), .val (.int (own_sg ((1 : Int32) - (2 : Int32)))), .unset, .unset]) X949 hx hby at_160 rfl (pc' := 162) rfl ?_
            refine g_aload X949 hx hby at_162 rfl rfl (pc' := 164) rfl ?_
            refine g_aload X949 hx hby at_164 rfl rfl (pc' := 166) rfl ?_
            refine g_callS (argsL := [(.ref b924), (.ref b934)]) (S := []) X949 hx hby hZ (y := (⟨"com/example/urutan/urutan/build/CodePointOrder", "compare", "(Ljava/lang/String;Ljava/lang/String;)I"⟩ : MethodName)) hown (hw _ (List.mem_of_getElem? (i := 37) rfl)) (hw _ (List.mem_of_getElem? (i := 38) rfl)) (hw _ (List.mem_of_getElem? (i := 39) rfl)) (hw _ (List.mem_of_getElem? (i := 40) rfl)) (by decide) (own_cm_1_2 l Z a0 hw b924 b934 T934.heap n0 (own_cf2 k769 k770) (own_cf2 vb vc) (own_cf2r rg769 rg770) (own_cf2r rg_vb rg_vc) ps944 sg934 cs q936 hcs fm q937 hfm q938 q939 q940) (by rw [hml]; rfl) (lenOf own_pd20 rfl) rfl at_166 (by decide) (W := 0) (by exact Nat.le_of_eq rfl) (by decide) (by decide) (by decide) (pc' := 169) rfl (fun T950 v950 X950 hQ950 => ?_)
            obtain ⟨rfl, e950⟩ := hQ950
            rw [e950] at X950
            have ev950 : own_cv1 (own_cf2 k769 k770) (own_cf2 vb vc) ((1 : Int32) - (2 : Int32)) = ((1 : Int32) - (2 : Int32)) := by simp only [own_cv1, own_cf2, if_pos c112_947]
            rw [ev950]
            show Gl p e below n0 _ _ (T950.setTop (mkF m 169 #[.val (.int y0), .val (.int y1), .val (.int y2), .val (.int y3), .val (.int y4), .val (.int (1 : Int32)), .val (.int (2 : Int32)), .val (.int k769), .val (.int k770), .val (.int vb), .val (.int vc), .val (.ref b924), .val (.ref b934), .val (.int (1 : Int32)), .val (.int (own_sg ((1 : Int32) - (2 : Int32)))), .unset, .unset] [(.int ((1 : Int32) - (2 : Int32)))]))
            refine g_istore (L' := #[.val (.int y0), .val (.int y1), .val (.int y2), .val (.int y3), .val (.int y4), .val (.int (1 : Int32)), .val (.int (2 : Int32)), .val (.int k769), .val (.int k770), .val (.int vb), .val (.int vc), .val (.ref b924), .val (.ref b934), .val (.int (1 : Int32)), .val (.int (own_sg ((1 : Int32) - (2 : Int32)))), .val (.int ((1 : Int32) - (2 : Int32))), .unset]) X950 hx hby at_169 rfl (pc' := 171) rfl ?_
            refine g_aload X950 hx hby at_171 rfl rfl (pc' := 173) rfl ?_
            refine g_aload X950 hx hby at_173 rfl rfl (pc' := 175) rfl ?_
            refine g_callS (argsL := [(.ref b934), (.ref b924)]) (S := []) X950 hx hby hZ (y := (⟨"com/example/urutan/urutan/build/CodePointOrder", "compare", "(Ljava/lang/String;Ljava/lang/String;)I"⟩ : MethodName)) hown (hw _ (List.mem_of_getElem? (i := 37) rfl)) (hw _ (List.mem_of_getElem? (i := 38) rfl)) (hw _ (List.mem_of_getElem? (i := 39) rfl)) (hw _ (List.mem_of_getElem? (i := 40) rfl)) (by decide) (own_cm_2_1 l Z a0 hw b934 b924 T934.heap n0 (own_cf2 vb vc) (own_cf2 k769 k770) (own_cf2r rg_vb rg_vc) (own_cf2r rg769 rg770) sg934 ps944 cs q936 hcs fm q937 hfm q938 q939 q940) (by rw [hml]; rfl) (lenOf own_pd20 rfl) rfl at_175 (by decide) (W := 0) (by exact Nat.le_of_eq rfl) (by decide) (by decide) (by decide) (pc' := 178) rfl (fun T951 v951 X951 hQ951 => ?_)
            obtain ⟨rfl, e951⟩ := hQ951
            rw [e951] at X951
            have ev951 : own_cv1 (own_cf2 vb vc) (own_cf2 k769 k770) ((2 : Int32) - (1 : Int32)) = ((2 : Int32) - (1 : Int32)) := by simp only [own_cv1, own_cf2, if_pos c112_947.symm]
            rw [ev951]
            show Gl p e below n0 _ _ (T951.setTop (mkF m 178 #[.val (.int y0), .val (.int y1), .val (.int y2), .val (.int y3), .val (.int y4), .val (.int (1 : Int32)), .val (.int (2 : Int32)), .val (.int k769), .val (.int k770), .val (.int vb), .val (.int vc), .val (.ref b924), .val (.ref b934), .val (.int (1 : Int32)), .val (.int (own_sg ((1 : Int32) - (2 : Int32)))), .val (.int ((1 : Int32) - (2 : Int32))), .unset] [(.int ((2 : Int32) - (1 : Int32)))]))
            refine g_istore (L' := #[.val (.int y0), .val (.int y1), .val (.int y2), .val (.int y3), .val (.int y4), .val (.int (1 : Int32)), .val (.int (2 : Int32)), .val (.int k769), .val (.int k770), .val (.int vb), .val (.int vc), .val (.ref b924), .val (.ref b934), .val (.int (1 : Int32)), .val (.int (own_sg ((1 : Int32) - (2 : Int32)))), .val (.int ((1 : Int32) - (2 : Int32))), .val (.int ((2 : Int32) - (1 : Int32)))]) X951 hx hby at_178 rfl (pc' := 180) rfl ?_
            refine g_iload X951 hx hby at_180 rfl (pc' := 182) rfl ?_
            refine g_callS (argsL := [(.int ((1 : Int32) - (2 : Int32)))]) (S := []) X951 hx hby hZ (y := (⟨"com/example/urutan/urutan/build/CodePointOrderComparePinLaw", "sign", "(I)I"⟩ : MethodName)) hown (hw _ (List.mem_of_getElem? (i := 34) rfl)) (hw _ (List.mem_of_getElem? (i := 35) rfl)) (hw _ (List.mem_of_getElem? (i := 2) rfl)) (hw _ (List.mem_of_getElem? (i := 36) rfl)) (by decide) (own_sgc l Z a0 hw (((1 : Int32) - (2 : Int32))) T934.heap n0) (by rw [hml]; rfl) (lenOf own_pd5 rfl) rfl at_182 (by decide) (W := 0) (by exact Nat.le_of_eq rfl) (by decide) (by decide) (by decide) (pc' := 185) rfl (fun T952 v952 X952 hQ952 => ?_)
            obtain ⟨rfl, e952⟩ := hQ952
            rw [e952] at X952
            show Gl p e below n0 _ _ (T952.setTop (mkF m 185 #[.val (.int y0), .val (.int y1), .val (.int y2), .val (.int y3), .val (.int y4), .val (.int (1 : Int32)), .val (.int (2 : Int32)), .val (.int k769), .val (.int k770), .val (.int vb), .val (.int vc), .val (.ref b924), .val (.ref b934), .val (.int (1 : Int32)), .val (.int (own_sg ((1 : Int32) - (2 : Int32)))), .val (.int ((1 : Int32) - (2 : Int32))), .val (.int ((2 : Int32) - (1 : Int32)))] [(.int (own_sg ((1 : Int32) - (2 : Int32))))]))
            refine g_iload X952 hx hby at_185 rfl (pc' := 187) rfl ?_
            refine g_icmp_ne X952 hx hby at_187 (by decide) (pc' := 205) (by decide) (pc2 := 190) rfl (fun q => absurd rfl q) (fun c187_953 => ?_)
            refine g_iload X952 hx hby at_190 rfl (pc' := 192) rfl ?_
            refine g_callS (argsL := [(.int ((2 : Int32) - (1 : Int32)))]) (S := []) X952 hx hby hZ (y := (⟨"com/example/urutan/urutan/build/CodePointOrderComparePinLaw", "sign", "(I)I"⟩ : MethodName)) hown (hw _ (List.mem_of_getElem? (i := 34) rfl)) (hw _ (List.mem_of_getElem? (i := 35) rfl)) (hw _ (List.mem_of_getElem? (i := 2) rfl)) (hw _ (List.mem_of_getElem? (i := 36) rfl)) (by decide) (own_sgc l Z a0 hw (((2 : Int32) - (1 : Int32))) T934.heap n0) (by rw [hml]; rfl) (lenOf own_pd5 rfl) rfl at_192 (by decide) (W := 0) (by exact Nat.le_of_eq rfl) (by decide) (by decide) (by decide) (pc' := 195) rfl (fun T954 v954 X954 hQ954 => ?_)
            obtain ⟨rfl, e954⟩ := hQ954
            rw [e954] at X954
            show Gl p e below n0 _ _ (T954.setTop (mkF m 195 #[.val (.int y0), .val (.int y1), .val (.int y2), .val (.int y3), .val (.int y4), .val (.int (1 : Int32)), .val (.int (2 : Int32)), .val (.int k769), .val (.int k770), .val (.int vb), .val (.int vc), .val (.ref b924), .val (.ref b934), .val (.int (1 : Int32)), .val (.int (own_sg ((1 : Int32) - (2 : Int32)))), .val (.int ((1 : Int32) - (2 : Int32))), .val (.int ((2 : Int32) - (1 : Int32)))] [(.int (own_sg ((2 : Int32) - (1 : Int32))))]))
            refine g_iload X954 hx hby at_195 rfl (pc' := 197) rfl ?_
            refine g_ineg X954 hx hby at_197 (pc' := 198) rfl ?_
            refine g_icmp_ne X954 hx hby at_198 (by decide) (pc' := 205) (by decide) (pc2 := 201) rfl (fun q => absurd (by decide) q) (fun c198_955 => ?_)
            refine g_iconst (v := 1) X954 hx hby at_201 rfl (pc' := 202) rfl ?_
            refine g_goto X954 hx hby at_202 (by decide) (pc' := 206) (by decide) ?_
            exact gw_retN X954 hx hby hS hk942 hret hlk (by simp) at_206 rfl (by decide) (by decide)
          · refine g_iload X945 hx hby at_115 rfl (pc' := 117) rfl ?_
            refine g_iload X945 hx hby at_117 rfl (pc' := 119) rfl ?_
            refine g_callS (argsL := [(.int k769), (.int vb)]) (S := []) X945 hx hby hZ (y := (⟨"com/example/urutan/urutan/build/CodePointOrderComparePinLaw", "unitOrder", "(CC)I"⟩ : MethodName)) hown (hw _ (List.mem_of_getElem? (i := 85) rfl)) (hw _ (List.mem_of_getElem? (i := 86) rfl)) (hw _ (List.mem_of_getElem? (i := 2) rfl)) (hw _ (List.mem_of_getElem? (i := 87) rfl)) (by decide) (own_uoc l Z a0 hw k769 vb T934.heap n0) (by rw [hml]; rfl) (lenOf own_pd21 rfl) rfl at_119 (by decide) (W := 0) (by exact Nat.le_of_eq rfl) (by decide) (by decide) (by decide) (pc' := 122) rfl (fun T956 v956 X956 hQ956 => ?_)
            obtain ⟨rfl, e956⟩ := hQ956
            rw [e956] at X956
            show Gl p e below n0 _ _ (T956.setTop (mkF m 122 #[.val (.int y0), .val (.int y1), .val (.int y2), .val (.int y3), .val (.int y4), .val (.int (1 : Int32)), .val (.int (2 : Int32)), .val (.int k769), .val (.int k770), .val (.int vb), .val (.int vc), .val (.ref b924), .val (.ref b934), .val (.int (1 : Int32)), .unset, .unset, .unset] [(.int (own_uo k769 vb))]))
            refine g_istore (L' := #[.val (.int y0), .val (.int y1), .val (.int y2), .val (.int y3), .val (.int y4), .val (.int (1 : Int32)), .val (.int (2 : Int32)), .val (.int k769), .val (.int k770), .val (.int vb), .val (.int vc), .val (.ref b924), .val (.ref b934), .val (.int (1 : Int32)), .val (.int (own_uo k769 vb)), .unset, .unset]) X956 hx hby at_122 rfl (pc' := 124) rfl ?_
            refine g_goto X956 hx hby at_124 (by decide) (pc' := 162) (by decide) ?_
            refine g_aload X956 hx hby at_162 rfl rfl (pc' := 164) rfl ?_
            refine g_aload X956 hx hby at_164 rfl rfl (pc' := 166) rfl ?_
            refine g_callS (argsL := [(.ref b924), (.ref b934)]) (S := []) X956 hx hby hZ (y := (⟨"com/example/urutan/urutan/build/CodePointOrder", "compare", "(Ljava/lang/String;Ljava/lang/String;)I"⟩ : MethodName)) hown (hw _ (List.mem_of_getElem? (i := 37) rfl)) (hw _ (List.mem_of_getElem? (i := 38) rfl)) (hw _ (List.mem_of_getElem? (i := 39) rfl)) (hw _ (List.mem_of_getElem? (i := 40) rfl)) (by decide) (own_cm_1_2 l Z a0 hw b924 b934 T934.heap n0 (own_cf2 k769 k770) (own_cf2 vb vc) (own_cf2r rg769 rg770) (own_cf2r rg_vb rg_vc) ps944 sg934 cs q936 hcs fm q937 hfm q938 q939 q940) (by rw [hml]; rfl) (lenOf own_pd20 rfl) rfl at_166 (by decide) (W := 0) (by exact Nat.le_of_eq rfl) (by decide) (by decide) (by decide) (pc' := 169) rfl (fun T957 v957 X957 hQ957 => ?_)
            obtain ⟨rfl, e957⟩ := hQ957
            rw [e957] at X957
            have ev957 : own_cv1 (own_cf2 k769 k770) (own_cf2 vb vc) ((1 : Int32) - (2 : Int32)) = (own_pl k769 - own_pl vb) := by simp only [own_cv1, own_cf2, if_neg c112_947]
            rw [ev957]
            show Gl p e below n0 _ _ (T957.setTop (mkF m 169 #[.val (.int y0), .val (.int y1), .val (.int y2), .val (.int y3), .val (.int y4), .val (.int (1 : Int32)), .val (.int (2 : Int32)), .val (.int k769), .val (.int k770), .val (.int vb), .val (.int vc), .val (.ref b924), .val (.ref b934), .val (.int (1 : Int32)), .val (.int (own_uo k769 vb)), .unset, .unset] [(.int (own_pl k769 - own_pl vb))]))
            refine g_istore (L' := #[.val (.int y0), .val (.int y1), .val (.int y2), .val (.int y3), .val (.int y4), .val (.int (1 : Int32)), .val (.int (2 : Int32)), .val (.int k769), .val (.int k770), .val (.int vb), .val (.int vc), .val (.ref b924), .val (.ref b934), .val (.int (1 : Int32)), .val (.int (own_uo k769 vb)), .val (.int (own_pl k769 - own_pl vb)), .unset]) X957 hx hby at_169 rfl (pc' := 171) rfl ?_
            refine g_aload X957 hx hby at_171 rfl rfl (pc' := 173) rfl ?_
            refine g_aload X957 hx hby at_173 rfl rfl (pc' := 175) rfl ?_
            refine g_callS (argsL := [(.ref b934), (.ref b924)]) (S := []) X957 hx hby hZ (y := (⟨"com/example/urutan/urutan/build/CodePointOrder", "compare", "(Ljava/lang/String;Ljava/lang/String;)I"⟩ : MethodName)) hown (hw _ (List.mem_of_getElem? (i := 37) rfl)) (hw _ (List.mem_of_getElem? (i := 38) rfl)) (hw _ (List.mem_of_getElem? (i := 39) rfl)) (hw _ (List.mem_of_getElem? (i := 40) rfl)) (by decide) (own_cm_2_1 l Z a0 hw b934 b924 T934.heap n0 (own_cf2 vb vc) (own_cf2 k769 k770) (own_cf2r rg_vb rg_vc) (own_cf2r rg769 rg770) sg934 ps944 cs q936 hcs fm q937 hfm q938 q939 q940) (by rw [hml]; rfl) (lenOf own_pd20 rfl) rfl at_175 (by decide) (W := 0) (by exact Nat.le_of_eq rfl) (by decide) (by decide) (by decide) (pc' := 178) rfl (fun T958 v958 X958 hQ958 => ?_)
            obtain ⟨rfl, e958⟩ := hQ958
            rw [e958] at X958
            have ev958 : own_cv1 (own_cf2 vb vc) (own_cf2 k769 k770) ((2 : Int32) - (1 : Int32)) = (own_pl vb - own_pl k769) := by simp only [own_cv1, own_cf2, if_neg (Ne.symm c112_947)]
            rw [ev958]
            show Gl p e below n0 _ _ (T958.setTop (mkF m 178 #[.val (.int y0), .val (.int y1), .val (.int y2), .val (.int y3), .val (.int y4), .val (.int (1 : Int32)), .val (.int (2 : Int32)), .val (.int k769), .val (.int k770), .val (.int vb), .val (.int vc), .val (.ref b924), .val (.ref b934), .val (.int (1 : Int32)), .val (.int (own_uo k769 vb)), .val (.int (own_pl k769 - own_pl vb)), .unset] [(.int (own_pl vb - own_pl k769))]))
            refine g_istore (L' := #[.val (.int y0), .val (.int y1), .val (.int y2), .val (.int y3), .val (.int y4), .val (.int (1 : Int32)), .val (.int (2 : Int32)), .val (.int k769), .val (.int k770), .val (.int vb), .val (.int vc), .val (.ref b924), .val (.ref b934), .val (.int (1 : Int32)), .val (.int (own_uo k769 vb)), .val (.int (own_pl k769 - own_pl vb)), .val (.int (own_pl vb - own_pl k769))]) X958 hx hby at_178 rfl (pc' := 180) rfl ?_
            refine g_iload X958 hx hby at_180 rfl (pc' := 182) rfl ?_
            refine g_callS (argsL := [(.int (own_pl k769 - own_pl vb))]) (S := []) X958 hx hby hZ (y := (⟨"com/example/urutan/urutan/build/CodePointOrderComparePinLaw", "sign", "(I)I"⟩ : MethodName)) hown (hw _ (List.mem_of_getElem? (i := 34) rfl)) (hw _ (List.mem_of_getElem? (i := 35) rfl)) (hw _ (List.mem_of_getElem? (i := 2) rfl)) (hw _ (List.mem_of_getElem? (i := 36) rfl)) (by decide) (own_sgc l Z a0 hw ((own_pl k769 - own_pl vb)) T934.heap n0) (by rw [hml]; rfl) (lenOf own_pd5 rfl) rfl at_182 (by decide) (W := 0) (by exact Nat.le_of_eq rfl) (by decide) (by decide) (by decide) (pc' := 185) rfl (fun T959 v959 X959 hQ959 => ?_)
            obtain ⟨rfl, e959⟩ := hQ959
            rw [e959] at X959
            show Gl p e below n0 _ _ (T959.setTop (mkF m 185 #[.val (.int y0), .val (.int y1), .val (.int y2), .val (.int y3), .val (.int y4), .val (.int (1 : Int32)), .val (.int (2 : Int32)), .val (.int k769), .val (.int k770), .val (.int vb), .val (.int vc), .val (.ref b924), .val (.ref b934), .val (.int (1 : Int32)), .val (.int (own_uo k769 vb)), .val (.int (own_pl k769 - own_pl vb)), .val (.int (own_pl vb - own_pl k769))] [(.int (own_sg (own_pl k769 - own_pl vb)))]))
            refine g_iload X959 hx hby at_185 rfl (pc' := 187) rfl ?_
            refine g_icmp_ne X959 hx hby at_187 (by decide) (pc' := 205) (by decide) (pc2 := 190) rfl (fun q => absurd (own_main1 rg769 rg_vb) q) (fun c187_960 => ?_)
            refine g_iload X959 hx hby at_190 rfl (pc' := 192) rfl ?_
            refine g_callS (argsL := [(.int (own_pl vb - own_pl k769))]) (S := []) X959 hx hby hZ (y := (⟨"com/example/urutan/urutan/build/CodePointOrderComparePinLaw", "sign", "(I)I"⟩ : MethodName)) hown (hw _ (List.mem_of_getElem? (i := 34) rfl)) (hw _ (List.mem_of_getElem? (i := 35) rfl)) (hw _ (List.mem_of_getElem? (i := 2) rfl)) (hw _ (List.mem_of_getElem? (i := 36) rfl)) (by decide) (own_sgc l Z a0 hw ((own_pl vb - own_pl k769)) T934.heap n0) (by rw [hml]; rfl) (lenOf own_pd5 rfl) rfl at_192 (by decide) (W := 0) (by exact Nat.le_of_eq rfl) (by decide) (by decide) (by decide) (pc' := 195) rfl (fun T961 v961 X961 hQ961 => ?_)
            obtain ⟨rfl, e961⟩ := hQ961
            rw [e961] at X961
            show Gl p e below n0 _ _ (T961.setTop (mkF m 195 #[.val (.int y0), .val (.int y1), .val (.int y2), .val (.int y3), .val (.int y4), .val (.int (1 : Int32)), .val (.int (2 : Int32)), .val (.int k769), .val (.int k770), .val (.int vb), .val (.int vc), .val (.ref b924), .val (.ref b934), .val (.int (1 : Int32)), .val (.int (own_uo k769 vb)), .val (.int (own_pl k769 - own_pl vb)), .val (.int (own_pl vb - own_pl k769))] [(.int (own_sg (own_pl vb - own_pl k769)))]))
            refine g_iload X961 hx hby at_195 rfl (pc' := 197) rfl ?_
            refine g_ineg X961 hx hby at_197 (pc' := 198) rfl ?_
            refine g_icmp_ne X961 hx hby at_198 (by decide) (pc' := 205) (by decide) (pc2 := 201) rfl (fun q => absurd (own_main2 rg769 rg_vb) q) (fun c198_962 => ?_)
            refine g_iconst (v := 1) X961 hx hby at_201 rfl (pc' := 202) rfl ?_
            refine g_goto X961 hx hby at_202 (by decide) (pc' := 206) (by decide) ?_
            exact gw_retN X961 hx hby hS hk942 hret hlk (by simp) at_206 rfl (by decide) (by decide)
      · rw [qa]
        rcases own_three (((y0.toUInt32 >>> ((4 : Int32) &&& 31).toUInt32).toInt32)) with qb | qb | qb
        · rw [qb]
          show Gl p e below n0 _ _ (T_vc.setTop (mkF m 71 #[.val (.int y0), .val (.int y1), .val (.int y2), .val (.int y3), .val (.int y4), .val (.int (2 : Int32)), .val (.int (0 : Int32)), .val (.int k769), .val (.int k770), .val (.int vb), .val (.int vc), .unset, .unset, .unset, .unset, .unset, .unset] []))
          refine g_iload X_vc hx hby at_71 rfl (pc' := 73) rfl ?_
          refine g_iload X_vc hx hby at_73 rfl (pc' := 75) rfl ?_
          refine g_iload X_vc hx hby at_75 rfl (pc' := 77) rfl ?_
          refine g_callS (argsL := [(.int (2 : Int32)), (.int k769), (.int k770)]) (S := []) X_vc hx hby hZ (y := (⟨"com/example/urutan/urutan/build/CodePointOrderComparePinLaw", "mk", "(ICC)Ljava/lang/String;"⟩ : MethodName)) hown (hw _ (List.mem_of_getElem? (i := 5) rfl)) (hw _ (List.mem_of_getElem? (i := 6) rfl)) (hw _ (List.mem_of_getElem? (i := 2) rfl)) (hw _ (List.mem_of_getElem? (i := 7) rfl)) (by decide) (own_mk_2 l Z a0 hw k769 k770 h0 n0 Z0 rg769 rg770 cs Sc hcs Sd Sh Sl) (by rw [hml]; rfl) (lenOf own_pd19 rfl) rfl at_77 (by decide) (W := 0) (by exact Nat.le_of_eq rfl) (by decide) (by decide) (by decide) (pc' := 80) rfl (fun T963 v963 X963 hQ963 => ?_)
          obtain ⟨b963, rfl, ka963, sg963⟩ := hQ963
          have ch964 := hC0.trans (CHr.keep ka963 own_nsf hC0.1)
          have q965 := own_sta_keep Sc ka963 all0
          have q966 := own_sta_keep Sf ka963 all0
          have q967 := own_sta_keep Sd ka963 all0
          have q968 := own_sta_keep Sh ka963 all0
          have q969 := own_sta_keep Sl ka963 all0
          have zz970 := Nat.le_trans Z0 ka963.1
          have hk971 := Nat.le_trans (Nat.le_refl _) ka963.1
          have kk972 : Keep h0 T963.heap [] := (Keep.refl h0 []).trans ka963 all0
          show Gl p e below n0 _ _ (T963.setTop (mkF m 80 #[.val (.int y0), .val (.int y1), .val (.int y2), .val (.int y3), .val (.int y4), .val (.int (2 : Int32)), .val (.int (0 : Int32)), .val (.int k769), .val (.int k770), .val (.int vb), .val (.int vc), .unset, .unset, .unset, .unset, .unset, .unset] [(.ref b963)]))
          refine g_astore (L' := #[.val (.int y0), .val (.int y1), .val (.int y2), .val (.int y3), .val (.int y4), .val (.int (2 : Int32)), .val (.int (0 : Int32)), .val (.int k769), .val (.int k770), .val (.int vb), .val (.int vc), .val (.ref b963), .unset, .unset, .unset, .unset, .unset]) X963 hx hby at_80 rfl rfl (pc' := 82) rfl ?_
          refine g_iload X963 hx hby at_82 rfl (pc' := 84) rfl ?_
          refine g_iload X963 hx hby at_84 rfl (pc' := 86) rfl ?_
          refine g_iload X963 hx hby at_86 rfl (pc' := 88) rfl ?_
          refine gh_callS (argsL := [(.int (0 : Int32)), (.int vb), (.int vc)]) (S := []) X963 hx hby hZ hS hk971 (own_hEL hw) ch964 own_nss (y := (⟨"com/example/urutan/urutan/build/CodePointOrderComparePinLaw", "mk", "(ICC)Ljava/lang/String;"⟩ : MethodName)) hown (hw _ (List.mem_of_getElem? (i := 5) rfl)) (hw _ (List.mem_of_getElem? (i := 6) rfl)) (hw _ (List.mem_of_getElem? (i := 2) rfl)) (hw _ (List.mem_of_getElem? (i := 7) rfl)) (by decide) (own_mk_0 l Z a0 hw vb vc T963.heap n0 zz970 rg_vb rg_vc cs q965 hcs q967 q968 q969) (by rw [hml]; rfl) (lenOf own_pd19 rfl) rfl at_88 (by decide) (W := 0) (by exact Nat.le_of_eq rfl) (by decide) (by decide) (by decide) (pc' := 91) rfl (fun T973 v973 k973 X973 hS973 hk973 hZ973 hown973 hC973 hD973 hQ973 => ?_)
          obtain ⟨b973, rfl, ka973, sg973⟩ := hQ973
          have q974 := own_sta_keep q965 ka973 all0
          have q975 := own_sta_keep q966 ka973 all0
          have q976 := own_sta_keep q967 ka973 all0
          have q977 := own_sta_keep q968 ka973 all0
          have q978 := own_sta_keep q969 ka973 all0
          have zz979 := Nat.le_trans zz970 ka973.1
          have kk980 : Keep h0 T973.heap [] := kk972.trans ka973 all0
          have ps981 := sg963.keep0 ka973
          show Gl p e below n0 _ _ (T973.setTop (mkF m 91 #[.val (.int y0), .val (.int y1), .val (.int y2), .val (.int y3), .val (.int y4), .val (.int (2 : Int32)), .val (.int (0 : Int32)), .val (.int k769), .val (.int k770), .val (.int vb), .val (.int vc), .val (.ref b963), .unset, .unset, .unset, .unset, .unset] [(.ref b973)]))
          refine g_astore (L' := #[.val (.int y0), .val (.int y1), .val (.int y2), .val (.int y3), .val (.int y4), .val (.int (2 : Int32)), .val (.int (0 : Int32)), .val (.int k769), .val (.int k770), .val (.int vb), .val (.int vc), .val (.ref b963), .val (.ref b973), .unset, .unset, .unset, .unset]) X973 hx hby at_91 rfl rfl (pc' := 93) rfl ?_
          refine g_iload X973 hx hby at_93 rfl (pc' := 95) rfl ?_
          refine g_iload X973 hx hby at_95 rfl (pc' := 97) rfl ?_
          refine g_callS (argsL := [(.int (2 : Int32)), (.int (0 : Int32))]) (S := []) X973 hx hby hZ973 (y := (⟨"java/lang/Math", "min", "(II)I"⟩ : MethodName)) hown973 (hw _ (List.mem_of_getElem? (i := 30) rfl)) (hw _ (List.mem_of_getElem? (i := 31) rfl)) (hw _ (List.mem_of_getElem? (i := 32) rfl)) (hw _ (List.mem_of_getElem? (i := 33) rfl)) (by decide) (own_minB l Z a0 hw (2 : Int32) (0 : Int32) T973.heap n0 (by decide)) (by rw [hml]; rfl) (lenOf own_pd16 rfl) rfl at_97 (by decide) (W := 0) (by exact Nat.le_of_eq rfl) (by decide) (by decide) (by decide) (pc' := 100) rfl (fun T982 v982 X982 hQ982 => ?_)
          obtain ⟨rfl, e982⟩ := hQ982
          rw [e982] at X982
          show Gl p e below n0 _ _ (T982.setTop (mkF m 100 #[.val (.int y0), .val (.int y1), .val (.int y2), .val (.int y3), .val (.int y4), .val (.int (2 : Int32)), .val (.int (0 : Int32)), .val (.int k769), .val (.int k770), .val (.int vb), .val (.int vc), .val (.ref b963), .val (.ref b973), .unset, .unset, .unset, .unset] [(.int (0 : Int32))]))
          refine g_istore (L' := #[.val (.int y0), .val (.int y1), .val (.int y2), .val (.int y3), .val (.int y4), .val (.int (2 : Int32)), .val (.int (0 : Int32)), .val (.int k769), .val (.int k770), .val (.int vb), .val (.int vc), .val (.ref b963), .val (.ref b973), .val (.int (0 : Int32)), .unset, .unset, .unset]) X982 hx hby at_100 rfl (pc' := 102) rfl ?_
          refine g_iload X982 hx hby at_102 rfl (pc' := 104) rfl ?_
          refine g_iconst (v := 1) X982 hx hby at_104 rfl (pc' := 105) rfl ?_
          refine g_icmp_lt X982 hx hby at_105 (by decide) (pc' := 127) (by decide) (pc2 := 108) rfl (fun c105_983 => ?_) (fun q => absurd (by decide) q)
          refine g_iload X982 hx hby at_127 rfl (pc' := 129) rfl ?_
          refine g_iconst (v := 2) X982 hx hby at_129 rfl (pc' := 130) rfl ?_
          refine g_icmp_lt X982 hx hby at_130 (by decide) (pc' := 152) (by decide) (pc2 := 133) rfl (fun c130_984 => ?_) (fun q => absurd (by decide) q)
          refine g_iload X982 hx hby at_152 rfl (pc' := 154) rfl ?_
          refine g_iload X982 hx hby at_154 rfl (pc' := 156) rfl ?_
          refine g_isub X982 hx hby at_156 (pc' := 157) rfl ?_
          refine g_callS (argsL := [(.int ((2 : Int32) - (0 : Int32)))]) (S := []) X982 hx hby hZ973 (y := (⟨"com/example/urutan/urutan/build/CodePointOrderComparePinLaw", "sign", "(I)I"⟩ : MethodName)) hown973 (hw _ (List.mem_of_getElem? (i := 34) rfl)) (hw _ (List.mem_of_getElem? (i := 35) rfl)) (hw _ (List.mem_of_getElem? (i := 2) rfl)) (hw _ (List.mem_of_getElem? (i := 36) rfl)) (by decide) (own_sgc l Z a0 hw (((2 : Int32) - (0 : Int32))) T973.heap n0) (by rw [hml]; rfl) (lenOf own_pd5 rfl) rfl at_157 (by decide) (W := 0) (by exact Nat.le_of_eq rfl) (by decide) (by decide) (by decide) (pc' := 160) rfl (fun T985 v985 X985 hQ985 => ?_)
          obtain ⟨rfl, e985⟩ := hQ985
          rw [e985] at X985
          show Gl p e below n0 _ _ (T985.setTop (mkF m 160 #[.val (.int y0), .val (.int y1), .val (.int y2), .val (.int y3), .val (.int y4), .val (.int (2 : Int32)), .val (.int (0 : Int32)), .val (.int k769), .val (.int k770), .val (.int vb), .val (.int vc), .val (.ref b963), .val (.ref b973), .val (.int (0 : Int32)), .unset, .unset, .unset] [(.int (own_sg ((2 : Int32) - (0 : Int32))))]))
          refine g_istore (L' := #[.val (.int y0), .val (.int y1), .val (.int y2), .val (.int y3), .val (.int y4), .val (.int (2 : Int32)), .val (.int (0 : Int32)), .val (.int k769), .val (.int k770), .val (.int vb), .val (.int vc), .val (.ref b963), .val (.ref b973), .val (.int (0 : Int32)), .val (.int (own_sg ((2 : Int32) - (0 : Int32)))), .unset, .unset]) X985 hx hby at_160 rfl (pc' := 162) rfl ?_
          refine g_aload X985 hx hby at_162 rfl rfl (pc' := 164) rfl ?_
          refine g_aload X985 hx hby at_164 rfl rfl (pc' := 166) rfl ?_
          refine g_callS (argsL := [(.ref b963), (.ref b973)]) (S := []) X985 hx hby hZ973 (y := (⟨"com/example/urutan/urutan/build/CodePointOrder", "compare", "(Ljava/lang/String;Ljava/lang/String;)I"⟩ : MethodName)) hown973 (hw _ (List.mem_of_getElem? (i := 37) rfl)) (hw _ (List.mem_of_getElem? (i := 38) rfl)) (hw _ (List.mem_of_getElem? (i := 39) rfl)) (hw _ (List.mem_of_getElem? (i := 40) rfl)) (by decide) (own_cm_2_0 l Z a0 hw b963 b973 T973.heap n0 (own_cf2 k769 k770) (own_cf2 vb vc) (own_cf2r rg769 rg770) (own_cf2r rg_vb rg_vc) ps981 sg973 cs q974 hcs fm q975 hfm q976 q977 q978) (by rw [hml]; rfl) (lenOf own_pd20 rfl) rfl at_166 (by decide) (W := 0) (by exact Nat.le_of_eq rfl) (by decide) (by decide) (by decide) (pc' := 169) rfl (fun T986 v986 X986 hQ986 => ?_)
          obtain ⟨rfl, e986⟩ := hQ986
          rw [e986] at X986
          have ev986 : own_cv0 (own_cf2 k769 k770) (own_cf2 vb vc) ((2 : Int32) - (0 : Int32)) = ((2 : Int32) - (0 : Int32)) := by simp only [own_cv0, own_cf2]
          rw [ev986]
          show Gl p e below n0 _ _ (T986.setTop (mkF m 169 #[.val (.int y0), .val (.int y1), .val (.int y2), .val (.int y3), .val (.int y4), .val (.int (2 : Int32)), .val (.int (0 : Int32)), .val (.int k769), .val (.int k770), .val (.int vb), .val (.int vc), .val (.ref b963), .val (.ref b973), .val (.int (0 : Int32)), .val (.int (own_sg ((2 : Int32) - (0 : Int32)))), .unset, .unset] [(.int ((2 : Int32) - (0 : Int32)))]))
          refine g_istore (L' := #[.val (.int y0), .val (.int y1), .val (.int y2), .val (.int y3), .val (.int y4), .val (.int (2 : Int32)), .val (.int (0 : Int32)), .val (.int k769), .val (.int k770), .val (.int vb), .val (.int vc), .val (.ref b963), .val (.ref b973), .val (.int (0 : Int32)), .val (.int (own_sg ((2 : Int32) - (0 : Int32)))), .val (.int ((2 : Int32) - (0 : Int32))), .unset]) X986 hx hby at_169 rfl (pc' := 171) rfl ?_
          refine g_aload X986 hx hby at_171 rfl rfl (pc' := 173) rfl ?_
          refine g_aload X986 hx hby at_173 rfl rfl (pc' := 175) rfl ?_
          refine g_callS (argsL := [(.ref b973), (.ref b963)]) (S := []) X986 hx hby hZ973 (y := (⟨"com/example/urutan/urutan/build/CodePointOrder", "compare", "(Ljava/lang/String;Ljava/lang/String;)I"⟩ : MethodName)) hown973 (hw _ (List.mem_of_getElem? (i := 37) rfl)) (hw _ (List.mem_of_getElem? (i := 38) rfl)) (hw _ (List.mem_of_getElem? (i := 39) rfl)) (hw _ (List.mem_of_getElem? (i := 40) rfl)) (by decide) (own_cm_0_2 l Z a0 hw b973 b963 T973.heap n0 (own_cf2 vb vc) (own_cf2 k769 k770) (own_cf2r rg_vb rg_vc) (own_cf2r rg769 rg770) sg973 ps981 cs q974 hcs fm q975 hfm q976 q977 q978) (by rw [hml]; rfl) (lenOf own_pd20 rfl) rfl at_175 (by decide) (W := 0) (by exact Nat.le_of_eq rfl) (by decide) (by decide) (by decide) (pc' := 178) rfl (fun T987 v987 X987 hQ987 => ?_)
          obtain ⟨rfl, e987⟩ := hQ987
          rw [e987] at X987
          have ev987 : own_cv0 (own_cf2 vb vc) (own_cf2 k769 k770) ((0 : Int32) - (2 : Int32)) = ((0 : Int32) - (2 : Int32)) := by simp only [own_cv0, own_cf2]
          rw [ev987]
          show Gl p e below n0 _ _ (T987.setTop (mkF m 178 #[.val (.int y0), .val (.int y1), .val (.int y2), .val (.int y3), .val (.int y4), .val (.int (2 : Int32)), .val (.int (0 : Int32)), .val (.int k769), .val (.int k770), .val (.int vb), .val (.int vc), .val (.ref b963), .val (.ref b973), .val (.int (0 : Int32)), .val (.int (own_sg ((2 : Int32) - (0 : Int32)))), .val (.int ((2 : Int32) - (0 : Int32))), .unset] [(.int ((0 : Int32) - (2 : Int32)))]))
          refine g_istore (L' := #[.val (.int y0), .val (.int y1), .val (.int y2), .val (.int y3), .val (.int y4), .val (.int (2 : Int32)), .val (.int (0 : Int32)), .val (.int k769), .val (.int k770), .val (.int vb), .val (.int vc), .val (.ref b963), .val (.ref b973), .val (.int (0 : Int32)), .val (.int (own_sg ((2 : Int32) - (0 : Int32)))), .val (.int ((2 : Int32) - (0 : Int32))), .val (.int ((0 : Int32) - (2 : Int32)))]) X987 hx hby at_178 rfl (pc' := 180) rfl ?_
          refine g_iload X987 hx hby at_180 rfl (pc' := 182) rfl ?_
          refine g_callS (argsL := [(.int ((2 : Int32) - (0 : Int32)))]) (S := []) X987 hx hby hZ973 (y := (⟨"com/example/urutan/urutan/build/CodePointOrderComparePinLaw", "sign", "(I)I"⟩ : MethodName)) hown973 (hw _ (List.mem_of_getElem? (i := 34) rfl)) (hw _ (List.mem_of_getElem? (i := 35) rfl)) (hw _ (List.mem_of_getElem? (i := 2) rfl)) (hw _ (List.mem_of_getElem? (i := 36) rfl)) (by decide) (own_sgc l Z a0 hw (((2 : Int32) - (0 : Int32))) T973.heap n0) (by rw [hml]; rfl) (lenOf own_pd5 rfl) rfl at_182 (by decide) (W := 0) (by exact Nat.le_of_eq rfl) (by decide) (by decide) (by decide) (pc' := 185) rfl (fun T988 v988 X988 hQ988 => ?_)
          obtain ⟨rfl, e988⟩ := hQ988
          rw [e988] at X988
          show Gl p e below n0 _ _ (T988.setTop (mkF m 185 #[.val (.int y0), .val (.int y1), .val (.int y2), .val (.int y3), .val (.int y4), .val (.int (2 : Int32)), .val (.int (0 : Int32)), .val (.int k769), .val (.int k770), .val (.int vb), .val (.int vc), .val (.ref b963), .val (.ref b973), .val (.int (0 : Int32)), .val (.int (own_sg ((2 : Int32) - (0 : Int32)))), .val (.int ((2 : Int32) - (0 : Int32))), .val (.int ((0 : Int32) - (2 : Int32)))] [(.int (own_sg ((2 : Int32) - (0 : Int32))))]))
          refine g_iload X988 hx hby at_185 rfl (pc' := 187) rfl ?_
          refine g_icmp_ne X988 hx hby at_187 (by decide) (pc' := 205) (by decide) (pc2 := 190) rfl (fun q => absurd rfl q) (fun c187_989 => ?_)
          refine g_iload X988 hx hby at_190 rfl (pc' := 192) rfl ?_
          refine g_callS (argsL := [(.int ((0 : Int32) - (2 : Int32)))]) (S := []) X988 hx hby hZ973 (y := (⟨"com/example/urutan/urutan/build/CodePointOrderComparePinLaw", "sign", "(I)I"⟩ : MethodName)) hown973 (hw _ (List.mem_of_getElem? (i := 34) rfl)) (hw _ (List.mem_of_getElem? (i := 35) rfl)) (hw _ (List.mem_of_getElem? (i := 2) rfl)) (hw _ (List.mem_of_getElem? (i := 36) rfl)) (by decide) (own_sgc l Z a0 hw (((0 : Int32) - (2 : Int32))) T973.heap n0) (by rw [hml]; rfl) (lenOf own_pd5 rfl) rfl at_192 (by decide) (W := 0) (by exact Nat.le_of_eq rfl) (by decide) (by decide) (by decide) (pc' := 195) rfl (fun T990 v990 X990 hQ990 => ?_)
          obtain ⟨rfl, e990⟩ := hQ990
          rw [e990] at X990
          show Gl p e below n0 _ _ (T990.setTop (mkF m 195 #[.val (.int y0), .val (.int y1), .val (.int y2), .val (.int y3), .val (.int y4), .val (.int (2 : Int32)), .val (.int (0 : Int32)), .val (.int k769), .val (.int k770), .val (.int vb), .val (.int vc), .val (.ref b963), .val (.ref b973), .val (.int (0 : Int32)), .val (.int (own_sg ((2 : Int32) - (0 : Int32)))), .val (.int ((2 : Int32) - (0 : Int32))), .val (.int ((0 : Int32) - (2 : Int32)))] [(.int (own_sg ((0 : Int32) - (2 : Int32))))]))
          refine g_iload X990 hx hby at_195 rfl (pc' := 197) rfl ?_
          refine g_ineg X990 hx hby at_197 (pc' := 198) rfl ?_
          refine g_icmp_ne X990 hx hby at_198 (by decide) (pc' := 205) (by decide) (pc2 := 201) rfl (fun q => absurd (by decide) q) (fun c198_991 => ?_)
          refine g_iconst (v := 1) X990 hx hby at_201 rfl (pc' := 202) rfl ?_
          refine g_goto X990 hx hby at_202 (by decide) (pc' := 206) (by decide) ?_
          exact gw_retN X990 hx hby hS973 hk973 hret hlk (by simp) at_206 rfl (by decide) (by decide)
        · rw [qb]
          show Gl p e below n0 _ _ (T_vc.setTop (mkF m 71 #[.val (.int y0), .val (.int y1), .val (.int y2), .val (.int y3), .val (.int y4), .val (.int (2 : Int32)), .val (.int (1 : Int32)), .val (.int k769), .val (.int k770), .val (.int vb), .val (.int vc), .unset, .unset, .unset, .unset, .unset, .unset] []))
          refine g_iload X_vc hx hby at_71 rfl (pc' := 73) rfl ?_
          refine g_iload X_vc hx hby at_73 rfl (pc' := 75) rfl ?_
          refine g_iload X_vc hx hby at_75 rfl (pc' := 77) rfl ?_
          refine g_callS (argsL := [(.int (2 : Int32)), (.int k769), (.int k770)]) (S := []) X_vc hx hby hZ (y := (⟨"com/example/urutan/urutan/build/CodePointOrderComparePinLaw", "mk", "(ICC)Ljava/lang/String;"⟩ : MethodName)) hown (hw _ (List.mem_of_getElem? (i := 5) rfl)) (hw _ (List.mem_of_getElem? (i := 6) rfl)) (hw _ (List.mem_of_getElem? (i := 2) rfl)) (hw _ (List.mem_of_getElem? (i := 7) rfl)) (by decide) (own_mk_2 l Z a0 hw k769 k770 h0 n0 Z0 rg769 rg770 cs Sc hcs Sd Sh Sl) (by rw [hml]; rfl) (lenOf own_pd19 rfl) rfl at_77 (by decide) (W := 0) (by exact Nat.le_of_eq rfl) (by decide) (by decide) (by decide) (pc' := 80) rfl (fun T992 v992 X992 hQ992 => ?_)
          obtain ⟨b992, rfl, ka992, sg992⟩ := hQ992
          have ch993 := hC0.trans (CHr.keep ka992 own_nsf hC0.1)
          have q994 := own_sta_keep Sc ka992 all0
          have q995 := own_sta_keep Sf ka992 all0
          have q996 := own_sta_keep Sd ka992 all0
          have q997 := own_sta_keep Sh ka992 all0
          have q998 := own_sta_keep Sl ka992 all0
          have zz999 := Nat.le_trans Z0 ka992.1
          have hk1000 := Nat.le_trans (Nat.le_refl _) ka992.1
          have kk1001 : Keep h0 T992.heap [] := (Keep.refl h0 []).trans ka992 all0
          show Gl p e below n0 _ _ (T992.setTop (mkF m 80 #[.val (.int y0), .val (.int y1), .val (.int y2), .val (.int y3), .val (.int y4), .val (.int (2 : Int32)), .val (.int (1 : Int32)), .val (.int k769), .val (.int k770), .val (.int vb), .val (.int vc), .unset, .unset, .unset, .unset, .unset, .unset] [(.ref b992)]))
          refine g_astore (L' := #[.val (.int y0), .val (.int y1), .val (.int y2), .val (.int y3), .val (.int y4), .val (.int (2 : Int32)), .val (.int (1 : Int32)), .val (.int k769), .val (.int k770), .val (.int vb), .val (.int vc), .val (.ref b992), .unset, .unset, .unset, .unset, .unset]) X992 hx hby at_80 rfl rfl (pc' := 82) rfl ?_
          refine g_iload X992 hx hby at_82 rfl (pc' := 84) rfl ?_
          refine g_iload X992 hx hby at_84 rfl (pc' := 86) rfl ?_
          refine g_iload X992 hx hby at_86 rfl (pc' := 88) rfl ?_
          refine g_callS (argsL := [(.int (1 : Int32)), (.int vb), (.int vc)]) (S := []) X992 hx hby hZ (y := (⟨"com/example/urutan/urutan/build/CodePointOrderComparePinLaw", "mk", "(ICC)Ljava/lang/String;"⟩ : MethodName)) hown (hw _ (List.mem_of_getElem? (i := 5) rfl)) (hw _ (List.mem_of_getElem? (i := 6) rfl)) (hw _ (List.mem_of_getElem? (i := 2) rfl)) (hw _ (List.mem_of_getElem? (i := 7) rfl)) (by decide) (own_mk_1 l Z a0 hw vb vc T992.heap n0 zz999 rg_vb rg_vc cs q994 hcs q996 q997 q998) (by rw [hml]; rfl) (lenOf own_pd19 rfl) rfl at_88 (by decide) (W := 0) (by exact Nat.le_of_eq rfl) (by decide) (by decide) (by decide) (pc' := 91) rfl (fun T1002 v1002 X1002 hQ1002 => ?_)
          obtain ⟨b1002, rfl, ka1002, sg1002⟩ := hQ1002
          have ch1003 := ch993.trans (CHr.keep ka1002 own_nsf ch993.1)
          have q1004 := own_sta_keep q994 ka1002 all0
          have q1005 := own_sta_keep q995 ka1002 all0
          have q1006 := own_sta_keep q996 ka1002 all0
          have q1007 := own_sta_keep q997 ka1002 all0
          have q1008 := own_sta_keep q998 ka1002 all0
          have zz1009 := Nat.le_trans zz999 ka1002.1
          have hk1010 := Nat.le_trans hk1000 ka1002.1
          have kk1011 : Keep h0 T1002.heap [] := kk1001.trans ka1002 all0
          have ps1012 := sg992.keep0 ka1002
          show Gl p e below n0 _ _ (T1002.setTop (mkF m 91 #[.val (.int y0), .val (.int y1), .val (.int y2), .val (.int y3), .val (.int y4), .val (.int (2 : Int32)), .val (.int (1 : Int32)), .val (.int k769), .val (.int k770), .val (.int vb), .val (.int vc), .val (.ref b992), .unset, .unset, .unset, .unset, .unset] [(.ref b1002)]))
          refine g_astore (L' := #[.val (.int y0), .val (.int y1), .val (.int y2), .val (.int y3), .val (.int y4), .val (.int (2 : Int32)), .val (.int (1 : Int32)), .val (.int k769), .val (.int k770), .val (.int vb), .val (.int vc), .val (.ref b992), .val (.ref b1002), .unset, .unset, .unset, .unset]) X1002 hx hby at_91 rfl rfl (pc' := 93) rfl ?_
          refine g_iload X1002 hx hby at_93 rfl (pc' := 95) rfl ?_
          refine g_iload X1002 hx hby at_95 rfl (pc' := 97) rfl ?_
          refine g_callS (argsL := [(.int (2 : Int32)), (.int (1 : Int32))]) (S := []) X1002 hx hby hZ (y := (⟨"java/lang/Math", "min", "(II)I"⟩ : MethodName)) hown (hw _ (List.mem_of_getElem? (i := 30) rfl)) (hw _ (List.mem_of_getElem? (i := 31) rfl)) (hw _ (List.mem_of_getElem? (i := 32) rfl)) (hw _ (List.mem_of_getElem? (i := 33) rfl)) (by decide) (own_minB l Z a0 hw (2 : Int32) (1 : Int32) T1002.heap n0 (by decide)) (by rw [hml]; rfl) (lenOf own_pd16 rfl) rfl at_97 (by decide) (W := 0) (by exact Nat.le_of_eq rfl) (by decide) (by decide) (by decide) (pc' := 100) rfl (fun T1013 v1013 X1013 hQ1013 => ?_)
          obtain ⟨rfl, e1013⟩ := hQ1013
          rw [e1013] at X1013
          show Gl p e below n0 _ _ (T1013.setTop (mkF m 100 #[.val (.int y0), .val (.int y1), .val (.int y2), .val (.int y3), .val (.int y4), .val (.int (2 : Int32)), .val (.int (1 : Int32)), .val (.int k769), .val (.int k770), .val (.int vb), .val (.int vc), .val (.ref b992), .val (.ref b1002), .unset, .unset, .unset, .unset] [(.int (1 : Int32))]))
          refine g_istore (L' := #[.val (.int y0), .val (.int y1), .val (.int y2), .val (.int y3), .val (.int y4), .val (.int (2 : Int32)), .val (.int (1 : Int32)), .val (.int k769), .val (.int k770), .val (.int vb), .val (.int vc), .val (.ref b992), .val (.ref b1002), .val (.int (1 : Int32)), .unset, .unset, .unset]) X1013 hx hby at_100 rfl (pc' := 102) rfl ?_
          refine g_iload X1013 hx hby at_102 rfl (pc' := 104) rfl ?_
          refine g_iconst (v := 1) X1013 hx hby at_104 rfl (pc' := 105) rfl ?_
          refine g_icmp_lt X1013 hx hby at_105 (by decide) (pc' := 127) (by decide) (pc2 := 108) rfl (fun q => absurd q (by decide)) (fun c105_1014 => ?_)
          refine g_iload X1013 hx hby at_108 rfl (pc' := 110) rfl ?_
          refine g_iload X1013 hx hby at_110 rfl (pc' := 112) rfl ?_
          refine g_icmp_eq X1013 hx hby at_112 (by decide) (pc' := 127) (by decide) (pc2 := 115) rfl (fun c112_1015 => ?_) (fun c112_1015 => ?_)
          · refine g_iload X1013 hx hby at_127 rfl (pc' := 129) rfl ?_
            refine g_iconst (v := 2) X1013 hx hby at_129 rfl (pc' := 130) rfl ?_
            refine g_icmp_lt X1013 hx hby at_130 (by decide) (pc' := 152) (by decide) (pc2 := 133) rfl (fun c130_1016 => ?_) (fun q => absurd (by decide) q)
            refine g_iload X1013 hx hby at_152 rfl (pc' := 154) rfl ?_
            refine g_iload X1013 hx hby at_154 rfl (pc' := 156) rfl ?_
            refine g_isub X1013 hx hby at_156 (pc' := 157) rfl ?_
            refine g_callS (argsL := [(.int ((2 : Int32) - (1 : Int32)))]) (S := []) X1013 hx hby hZ (y := (⟨"com/example/urutan/urutan/build/CodePointOrderComparePinLaw", "sign", "(I)I"⟩ : MethodName)) hown (hw _ (List.mem_of_getElem? (i := 34) rfl)) (hw _ (List.mem_of_getElem? (i := 35) rfl)) (hw _ (List.mem_of_getElem? (i := 2) rfl)) (hw _ (List.mem_of_getElem? (i := 36) rfl)) (by decide) (own_sgc l Z a0 hw (((2 : Int32) - (1 : Int32))) T1002.heap n0) (by rw [hml]; rfl) (lenOf own_pd5 rfl) rfl at_157 (by decide) (W := 0) (by exact Nat.le_of_eq rfl) (by decide) (by decide) (by decide) (pc' := 160) rfl (fun T1017 v1017 X1017 hQ1017 => ?_)
            obtain ⟨rfl, e1017⟩ := hQ1017
            rw [e1017] at X1017
            show Gl p e below n0 _ _ (T1017.setTop (mkF m 160 #[.val (.int y0), .val (.int y1), .val (.int y2), .val (.int y3), .val (.int y4), .val (.int (2 : Int32)), .val (.int (1 : Int32)), .val (.int k769), .val (.int k770), .val (.int vb), .val (.int vc), .val (.ref b992), .val (.ref b1002), .val (.int (1 : Int32)), .unset, .unset, .unset] [(.int (own_sg ((2 : Int32) - (1 : Int32))))]))
            refine g_istore (L' := #[.val (.int y0), .val (.int y1), .val (.int y2), .val (.int y3), .val (.int y4), .val (.int (2 : Int32)), .val (.int (1 : Int32)), .val (.int k769), .val (.int k770), .val (.int vb), .val (.int vc), .val (.ref b992), .val (.ref b1002), .val (.int (1 : Int32)), .val (.int (own_sg ((2 : Int32) - (1 : Int32)))), .unset, .unset]) X1017 hx hby at_160 rfl (pc' := 162) rfl ?_
            refine g_aload X1017 hx hby at_162 rfl rfl (pc' := 164) rfl ?_
            refine g_aload X1017 hx hby at_164 rfl rfl (pc' := 166) rfl ?_
            refine g_callS (argsL := [(.ref b992), (.ref b1002)]) (S := []) X1017 hx hby hZ (y := (⟨"com/example/urutan/urutan/build/CodePointOrder", "compare", "(Ljava/lang/String;Ljava/lang/String;)I"⟩ : MethodName)) hown (hw _ (List.mem_of_getElem? (i := 37) rfl)) (hw _ (List.mem_of_getElem? (i := 38) rfl)) (hw _ (List.mem_of_getElem? (i := 39) rfl)) (hw _ (List.mem_of_getElem? (i := 40) rfl)) (by decide) (own_cm_2_1 l Z a0 hw b992 b1002 T1002.heap n0 (own_cf2 k769 k770) (own_cf2 vb vc) (own_cf2r rg769 rg770) (own_cf2r rg_vb rg_vc) ps1012 sg1002 cs q1004 hcs fm q1005 hfm q1006 q1007 q1008) (by rw [hml]; rfl) (lenOf own_pd20 rfl) rfl at_166 (by decide) (W := 0) (by exact Nat.le_of_eq rfl) (by decide) (by decide) (by decide) (pc' := 169) rfl (fun T1018 v1018 X1018 hQ1018 => ?_)
            obtain ⟨rfl, e1018⟩ := hQ1018
            rw [e1018] at X1018
            have ev1018 : own_cv1 (own_cf2 k769 k770) (own_cf2 vb vc) ((2 : Int32) - (1 : Int32)) = ((2 : Int32) - (1 : Int32)) := by simp only [own_cv1, own_cf2, if_pos c112_1015]
            rw [ev1018]
            show Gl p e below n0 _ _ (T1018.setTop (mkF m 169 #[.val (.int y0), .val (.int y1), .val (.int y2), .val (.int y3), .val (.int y4), .val (.int (2 : Int32)), .val (.int (1 : Int32)), .val (.int k769), .val (.int k770), .val (.int vb), .val (.int vc), .val (.ref b992), .val (.ref b1002), .val (.int (1 : Int32)), .val (.int (own_sg ((2 : Int32) - (1 : Int32)))), .unset, .unset] [(.int ((2 : Int32) - (1 : Int32)))]))
            refine g_istore (L' := #[.val (.int y0), .val (.int y1), .val (.int y2), .val (.int y3), .val (.int y4), .val (.int (2 : Int32)), .val (.int (1 : Int32)), .val (.int k769), .val (.int k770), .val (.int vb), .val (.int vc), .val (.ref b992), .val (.ref b1002), .val (.int (1 : Int32)), .val (.int (own_sg ((2 : Int32) - (1 : Int32)))), .val (.int ((2 : Int32) - (1 : Int32))), .unset]) X1018 hx hby at_169 rfl (pc' := 171) rfl ?_
            refine g_aload X1018 hx hby at_171 rfl rfl (pc' := 173) rfl ?_
            refine g_aload X1018 hx hby at_173 rfl rfl (pc' := 175) rfl ?_
            refine g_callS (argsL := [(.ref b1002), (.ref b992)]) (S := []) X1018 hx hby hZ (y := (⟨"com/example/urutan/urutan/build/CodePointOrder", "compare", "(Ljava/lang/String;Ljava/lang/String;)I"⟩ : MethodName)) hown (hw _ (List.mem_of_getElem? (i := 37) rfl)) (hw _ (List.mem_of_getElem? (i := 38) rfl)) (hw _ (List.mem_of_getElem? (i := 39) rfl)) (hw _ (List.mem_of_getElem? (i := 40) rfl)) (by decide) (own_cm_1_2 l Z a0 hw b1002 b992 T1002.heap n0 (own_cf2 vb vc) (own_cf2 k769 k770) (own_cf2r rg_vb rg_vc) (own_cf2r rg769 rg770) sg1002 ps1012 cs q1004 hcs fm q1005 hfm q1006 q1007 q1008) (by rw [hml]; rfl) (lenOf own_pd20 rfl) rfl at_175 (by decide) (W := 0) (by exact Nat.le_of_eq rfl) (by decide) (by decide) (by decide) (pc' := 178) rfl (fun T1019 v1019 X1019 hQ1019 => ?_)
            obtain ⟨rfl, e1019⟩ := hQ1019
            rw [e1019] at X1019
            have ev1019 : own_cv1 (own_cf2 vb vc) (own_cf2 k769 k770) ((1 : Int32) - (2 : Int32)) = ((1 : Int32) - (2 : Int32)) := by simp only [own_cv1, own_cf2, if_pos c112_1015.symm]
            rw [ev1019]
            show Gl p e below n0 _ _ (T1019.setTop (mkF m 178 #[.val (.int y0), .val (.int y1), .val (.int y2), .val (.int y3), .val (.int y4), .val (.int (2 : Int32)), .val (.int (1 : Int32)), .val (.int k769), .val (.int k770), .val (.int vb), .val (.int vc), .val (.ref b992), .val (.ref b1002), .val (.int (1 : Int32)), .val (.int (own_sg ((2 : Int32) - (1 : Int32)))), .val (.int ((2 : Int32) - (1 : Int32))), .unset] [(.int ((1 : Int32) - (2 : Int32)))]))
            refine g_istore (L' := #[.val (.int y0), .val (.int y1), .val (.int y2), .val (.int y3), .val (.int y4), .val (.int (2 : Int32)), .val (.int (1 : Int32)), .val (.int k769), .val (.int k770), .val (.int vb), .val (.int vc), .val (.ref b992), .val (.ref b1002), .val (.int (1 : Int32)), .val (.int (own_sg ((2 : Int32) - (1 : Int32)))), .val (.int ((2 : Int32) - (1 : Int32))), .val (.int ((1 : Int32) - (2 : Int32)))]) X1019 hx hby at_178 rfl (pc' := 180) rfl ?_
            refine g_iload X1019 hx hby at_180 rfl (pc' := 182) rfl ?_
            refine g_callS (argsL := [(.int ((2 : Int32) - (1 : Int32)))]) (S := []) X1019 hx hby hZ (y := (⟨"com/example/urutan/urutan/build/CodePointOrderComparePinLaw", "sign", "(I)I"⟩ : MethodName)) hown (hw _ (List.mem_of_getElem? (i := 34) rfl)) (hw _ (List.mem_of_getElem? (i := 35) rfl)) (hw _ (List.mem_of_getElem? (i := 2) rfl)) (hw _ (List.mem_of_getElem? (i := 36) rfl)) (by decide) (own_sgc l Z a0 hw (((2 : Int32) - (1 : Int32))) T1002.heap n0) (by rw [hml]; rfl) (lenOf own_pd5 rfl) rfl at_182 (by decide) (W := 0) (by exact Nat.le_of_eq rfl) (by decide) (by decide) (by decide) (pc' := 185) rfl (fun T1020 v1020 X1020 hQ1020 => ?_)
            obtain ⟨rfl, e1020⟩ := hQ1020
            rw [e1020] at X1020
            show Gl p e below n0 _ _ (T1020.setTop (mkF m 185 #[.val (.int y0), .val (.int y1), .val (.int y2), .val (.int y3), .val (.int y4), .val (.int (2 : Int32)), .val (.int (1 : Int32)), .val (.int k769), .val (.int k770), .val (.int vb), .val (.int vc), .val (.ref b992), .val (.ref b1002), .val (.int (1 : Int32)), .val (.int (own_sg ((2 : Int32) - (1 : Int32)))), .val (.int ((2 : Int32) - (1 : Int32))), .val (.int ((1 : Int32) - (2 : Int32)))] [(.int (own_sg ((2 : Int32) - (1 : Int32))))]))
            refine g_iload X1020 hx hby at_185 rfl (pc' := 187) rfl ?_
            refine g_icmp_ne X1020 hx hby at_187 (by decide) (pc' := 205) (by decide) (pc2 := 190) rfl (fun q => absurd rfl q) (fun c187_1021 => ?_)
            refine g_iload X1020 hx hby at_190 rfl (pc' := 192) rfl ?_
            refine g_callS (argsL := [(.int ((1 : Int32) - (2 : Int32)))]) (S := []) X1020 hx hby hZ (y := (⟨"com/example/urutan/urutan/build/CodePointOrderComparePinLaw", "sign", "(I)I"⟩ : MethodName)) hown (hw _ (List.mem_of_getElem? (i := 34) rfl)) (hw _ (List.mem_of_getElem? (i := 35) rfl)) (hw _ (List.mem_of_getElem? (i := 2) rfl)) (hw _ (List.mem_of_getElem? (i := 36) rfl)) (by decide) (own_sgc l Z a0 hw (((1 : Int32) - (2 : Int32))) T1002.heap n0) (by rw [hml]; rfl) (lenOf own_pd5 rfl) rfl at_192 (by decide) (W := 0) (by exact Nat.le_of_eq rfl) (by decide) (by decide) (by decide) (pc' := 195) rfl (fun T1022 v1022 X1022 hQ1022 => ?_)
            obtain ⟨rfl, e1022⟩ := hQ1022
            rw [e1022] at X1022
            show Gl p e below n0 _ _ (T1022.setTop (mkF m 195 #[.val (.int y0), .val (.int y1), .val (.int y2), .val (.int y3), .val (.int y4), .val (.int (2 : Int32)), .val (.int (1 : Int32)), .val (.int k769), .val (.int k770), .val (.int vb), .val (.int vc), .val (.ref b992), .val (.ref b1002), .val (.int (1 : Int32)), .val (.int (own_sg ((2 : Int32) - (1 : Int32)))), .val (.int ((2 : Int32) - (1 : Int32))), .val (.int ((1 : Int32) - (2 : Int32)))] [(.int (own_sg ((1 : Int32) - (2 : Int32))))]))
            refine g_iload X1022 hx hby at_195 rfl (pc' := 197) rfl ?_
            refine g_ineg X1022 hx hby at_197 (pc' := 198) rfl ?_
            refine g_icmp_ne X1022 hx hby at_198 (by decide) (pc' := 205) (by decide) (pc2 := 201) rfl (fun q => absurd (by decide) q) (fun c198_1023 => ?_)
            refine g_iconst (v := 1) X1022 hx hby at_201 rfl (pc' := 202) rfl ?_
            refine g_goto X1022 hx hby at_202 (by decide) (pc' := 206) (by decide) ?_
            exact gw_retN X1022 hx hby hS hk1010 hret hlk (by simp) at_206 rfl (by decide) (by decide)
          · refine g_iload X1013 hx hby at_115 rfl (pc' := 117) rfl ?_
            refine g_iload X1013 hx hby at_117 rfl (pc' := 119) rfl ?_
            refine g_callS (argsL := [(.int k769), (.int vb)]) (S := []) X1013 hx hby hZ (y := (⟨"com/example/urutan/urutan/build/CodePointOrderComparePinLaw", "unitOrder", "(CC)I"⟩ : MethodName)) hown (hw _ (List.mem_of_getElem? (i := 85) rfl)) (hw _ (List.mem_of_getElem? (i := 86) rfl)) (hw _ (List.mem_of_getElem? (i := 2) rfl)) (hw _ (List.mem_of_getElem? (i := 87) rfl)) (by decide) (own_uoc l Z a0 hw k769 vb T1002.heap n0) (by rw [hml]; rfl) (lenOf own_pd21 rfl) rfl at_119 (by decide) (W := 0) (by exact Nat.le_of_eq rfl) (by decide) (by decide) (by decide) (pc' := 122) rfl (fun T1024 v1024 X1024 hQ1024 => ?_)
            obtain ⟨rfl, e1024⟩ := hQ1024
            rw [e1024] at X1024
            show Gl p e below n0 _ _ (T1024.setTop (mkF m 122 #[.val (.int y0), .val (.int y1), .val (.int y2), .val (.int y3), .val (.int y4), .val (.int (2 : Int32)), .val (.int (1 : Int32)), .val (.int k769), .val (.int k770), .val (.int vb), .val (.int vc), .val (.ref b992), .val (.ref b1002), .val (.int (1 : Int32)), .unset, .unset, .unset] [(.int (own_uo k769 vb))]))
            refine g_istore (L' := #[.val (.int y0), .val (.int y1), .val (.int y2), .val (.int y3), .val (.int y4), .val (.int (2 : Int32)), .val (.int (1 : Int32)), .val (.int k769), .val (.int k770), .val (.int vb), .val (.int vc), .val (.ref b992), .val (.ref b1002), .val (.int (1 : Int32)), .val (.int (own_uo k769 vb)), .unset, .unset]) X1024 hx hby at_122 rfl (pc' := 124) rfl ?_
            refine g_goto X1024 hx hby at_124 (by decide) (pc' := 162) (by decide) ?_
            refine g_aload X1024 hx hby at_162 rfl rfl (pc' := 164) rfl ?_
            refine g_aload X1024 hx hby at_164 rfl rfl (pc' := 166) rfl ?_
            refine g_callS (argsL := [(.ref b992), (.ref b1002)]) (S := []) X1024 hx hby hZ (y := (⟨"com/example/urutan/urutan/build/CodePointOrder", "compare", "(Ljava/lang/String;Ljava/lang/String;)I"⟩ : MethodName)) hown (hw _ (List.mem_of_getElem? (i := 37) rfl)) (hw _ (List.mem_of_getElem? (i := 38) rfl)) (hw _ (List.mem_of_getElem? (i := 39) rfl)) (hw _ (List.mem_of_getElem? (i := 40) rfl)) (by decide) (own_cm_2_1 l Z a0 hw b992 b1002 T1002.heap n0 (own_cf2 k769 k770) (own_cf2 vb vc) (own_cf2r rg769 rg770) (own_cf2r rg_vb rg_vc) ps1012 sg1002 cs q1004 hcs fm q1005 hfm q1006 q1007 q1008) (by rw [hml]; rfl) (lenOf own_pd20 rfl) rfl at_166 (by decide) (W := 0) (by exact Nat.le_of_eq rfl) (by decide) (by decide) (by decide) (pc' := 169) rfl (fun T1025 v1025 X1025 hQ1025 => ?_)
            obtain ⟨rfl, e1025⟩ := hQ1025
            rw [e1025] at X1025
            have ev1025 : own_cv1 (own_cf2 k769 k770) (own_cf2 vb vc) ((2 : Int32) - (1 : Int32)) = (own_pl k769 - own_pl vb) := by simp only [own_cv1, own_cf2, if_neg c112_1015]
            rw [ev1025]
            show Gl p e below n0 _ _ (T1025.setTop (mkF m 169 #[.val (.int y0), .val (.int y1), .val (.int y2), .val (.int y3), .val (.int y4), .val (.int (2 : Int32)), .val (.int (1 : Int32)), .val (.int k769), .val (.int k770), .val (.int vb), .val (.int vc), .val (.ref b992), .val (.ref b1002), .val (.int (1 : Int32)), .val (.int (own_uo k769 vb)), .unset, .unset] [(.int (own_pl k769 - own_pl vb))]))
            refine g_istore (L' := #[.val (.int y0), .val (.int y1), .val (.int y2), .val (.int y3), .val (.int y4), .val (.int (2 : Int32)), .val (.int (1 : Int32)), .val (.int k769), .val (.int k770), .val (.int vb), .val (.int vc), .val (.ref b992), .val (.ref b1002), .val (.int (1 : Int32)), .val (.int (own_uo k769 vb)), .val (.int (own_pl k769 - own_pl vb)), .unset]) X1025 hx hby at_169 rfl (pc' := 171) rfl ?_
            refine g_aload X1025 hx hby at_171 rfl rfl (pc' := 173) rfl ?_
            refine g_aload X1025 hx hby at_173 rfl rfl (pc' := 175) rfl ?_
            refine g_callS (argsL := [(.ref b1002), (.ref b992)]) (S := []) X1025 hx hby hZ (y := (⟨"com/example/urutan/urutan/build/CodePointOrder", "compare", "(Ljava/lang/String;Ljava/lang/String;)I"⟩ : MethodName)) hown (hw _ (List.mem_of_getElem? (i := 37) rfl)) (hw _ (List.mem_of_getElem? (i := 38) rfl)) (hw _ (List.mem_of_getElem? (i := 39) rfl)) (hw _ (List.mem_of_getElem? (i := 40) rfl)) (by decide) (own_cm_1_2 l Z a0 hw b1002 b992 T1002.heap n0 (own_cf2 vb vc) (own_cf2 k769 k770) (own_cf2r rg_vb rg_vc) (own_cf2r rg769 rg770) sg1002 ps1012 cs q1004 hcs fm q1005 hfm q1006 q1007 q1008) (by rw [hml]; rfl) (lenOf own_pd20 rfl) rfl at_175 (by decide) (W := 0) (by exact Nat.le_of_eq rfl) (by decide) (by decide) (by decide) (pc' := 178) rfl (fun T1026 v1026 X1026 hQ1026 => ?_)
            obtain ⟨rfl, e1026⟩ := hQ1026
            rw [e1026] at X1026
            have ev1026 : own_cv1 (own_cf2 vb vc) (own_cf2 k769 k770) ((1 : Int32) - (2 : Int32)) = (own_pl vb - own_pl k769) := by simp only [own_cv1, own_cf2, if_neg (Ne.symm c112_1015)]
            rw [ev1026]
            show Gl p e below n0 _ _ (T1026.setTop (mkF m 178 #[.val (.int y0), .val (.int y1), .val (.int y2), .val (.int y3), .val (.int y4), .val (.int (2 : Int32)), .val (.int (1 : Int32)), .val (.int k769), .val (.int k770), .val (.int vb), .val (.int vc), .val (.ref b992), .val (.ref b1002), .val (.int (1 : Int32)), .val (.int (own_uo k769 vb)), .val (.int (own_pl k769 - own_pl vb)), .unset] [(.int (own_pl vb - own_pl k769))]))
            refine g_istore (L' := #[.val (.int y0), .val (.int y1), .val (.int y2), .val (.int y3), .val (.int y4), .val (.int (2 : Int32)), .val (.int (1 : Int32)), .val (.int k769), .val (.int k770), .val (.int vb), .val (.int vc), .val (.ref b992), .val (.ref b1002), .val (.int (1 : Int32)), .val (.int (own_uo k769 vb)), .val (.int (own_pl k769 - own_pl vb)), .val (.int (own_pl vb - own_pl k769))]) X1026 hx hby at_178 rfl (pc' := 180) rfl ?_
            refine g_iload X1026 hx hby at_180 rfl (pc' := 182) rfl ?_
            refine g_callS (argsL := [(.int (own_pl k769 - own_pl vb))]) (S := []) X1026 hx hby hZ (y := (⟨"com/example/urutan/urutan/build/CodePointOrderComparePinLaw", "sign", "(I)I"⟩ : MethodName)) hown (hw _ (List.mem_of_getElem? (i := 34) rfl)) (hw _ (List.mem_of_getElem? (i := 35) rfl)) (hw _ (List.mem_of_getElem? (i := 2) rfl)) (hw _ (List.mem_of_getElem? (i := 36) rfl)) (by decide) (own_sgc l Z a0 hw ((own_pl k769 - own_pl vb)) T1002.heap n0) (by rw [hml]; rfl) (lenOf own_pd5 rfl) rfl at_182 (by decide) (W := 0) (by exact Nat.le_of_eq rfl) (by decide) (by decide) (by decide) (pc' := 185) rfl (fun T1027 v1027 X1027 hQ1027 => ?_)
            obtain ⟨rfl, e1027⟩ := hQ1027
            rw [e1027] at X1027
            show Gl p e below n0 _ _ (T1027.setTop (mkF m 185 #[.val (.int y0), .val (.int y1), .val (.int y2), .val (.int y3), .val (.int y4), .val (.int (2 : Int32)), .val (.int (1 : Int32)), .val (.int k769), .val (.int k770), .val (.int vb), .val (.int vc), .val (.ref b992), .val (.ref b1002), .val (.int (1 : Int32)), .val (.int (own_uo k769 vb)), .val (.int (own_pl k769 - own_pl vb)), .val (.int (own_pl vb - own_pl k769))] [(.int (own_sg (own_pl k769 - own_pl vb)))]))
            refine g_iload X1027 hx hby at_185 rfl (pc' := 187) rfl ?_
            refine g_icmp_ne X1027 hx hby at_187 (by decide) (pc' := 205) (by decide) (pc2 := 190) rfl (fun q => absurd (own_main1 rg769 rg_vb) q) (fun c187_1028 => ?_)
            refine g_iload X1027 hx hby at_190 rfl (pc' := 192) rfl ?_
            refine g_callS (argsL := [(.int (own_pl vb - own_pl k769))]) (S := []) X1027 hx hby hZ (y := (⟨"com/example/urutan/urutan/build/CodePointOrderComparePinLaw", "sign", "(I)I"⟩ : MethodName)) hown (hw _ (List.mem_of_getElem? (i := 34) rfl)) (hw _ (List.mem_of_getElem? (i := 35) rfl)) (hw _ (List.mem_of_getElem? (i := 2) rfl)) (hw _ (List.mem_of_getElem? (i := 36) rfl)) (by decide) (own_sgc l Z a0 hw ((own_pl vb - own_pl k769)) T1002.heap n0) (by rw [hml]; rfl) (lenOf own_pd5 rfl) rfl at_192 (by decide) (W := 0) (by exact Nat.le_of_eq rfl) (by decide) (by decide) (by decide) (pc' := 195) rfl (fun T1029 v1029 X1029 hQ1029 => ?_)
            obtain ⟨rfl, e1029⟩ := hQ1029
            rw [e1029] at X1029
            show Gl p e below n0 _ _ (T1029.setTop (mkF m 195 #[.val (.int y0), .val (.int y1), .val (.int y2), .val (.int y3), .val (.int y4), .val (.int (2 : Int32)), .val (.int (1 : Int32)), .val (.int k769), .val (.int k770), .val (.int vb), .val (.int vc), .val (.ref b992), .val (.ref b1002), .val (.int (1 : Int32)), .val (.int (own_uo k769 vb)), .val (.int (own_pl k769 - own_pl vb)), .val (.int (own_pl vb - own_pl k769))] [(.int (own_sg (own_pl vb - own_pl k769)))]))
            refine g_iload X1029 hx hby at_195 rfl (pc' := 197) rfl ?_
            refine g_ineg X1029 hx hby at_197 (pc' := 198) rfl ?_
            refine g_icmp_ne X1029 hx hby at_198 (by decide) (pc' := 205) (by decide) (pc2 := 201) rfl (fun q => absurd (own_main2 rg769 rg_vb) q) (fun c198_1030 => ?_)
            refine g_iconst (v := 1) X1029 hx hby at_201 rfl (pc' := 202) rfl ?_
            refine g_goto X1029 hx hby at_202 (by decide) (pc' := 206) (by decide) ?_
            exact gw_retN X1029 hx hby hS hk1010 hret hlk (by simp) at_206 rfl (by decide) (by decide)
        · rw [qb]
          show Gl p e below n0 _ _ (T_vc.setTop (mkF m 71 #[.val (.int y0), .val (.int y1), .val (.int y2), .val (.int y3), .val (.int y4), .val (.int (2 : Int32)), .val (.int (2 : Int32)), .val (.int k769), .val (.int k770), .val (.int vb), .val (.int vc), .unset, .unset, .unset, .unset, .unset, .unset] []))
          refine g_iload X_vc hx hby at_71 rfl (pc' := 73) rfl ?_
          refine g_iload X_vc hx hby at_73 rfl (pc' := 75) rfl ?_
          refine g_iload X_vc hx hby at_75 rfl (pc' := 77) rfl ?_
          refine g_callS (argsL := [(.int (2 : Int32)), (.int k769), (.int k770)]) (S := []) X_vc hx hby hZ (y := (⟨"com/example/urutan/urutan/build/CodePointOrderComparePinLaw", "mk", "(ICC)Ljava/lang/String;"⟩ : MethodName)) hown (hw _ (List.mem_of_getElem? (i := 5) rfl)) (hw _ (List.mem_of_getElem? (i := 6) rfl)) (hw _ (List.mem_of_getElem? (i := 2) rfl)) (hw _ (List.mem_of_getElem? (i := 7) rfl)) (by decide) (own_mk_2 l Z a0 hw k769 k770 h0 n0 Z0 rg769 rg770 cs Sc hcs Sd Sh Sl) (by rw [hml]; rfl) (lenOf own_pd19 rfl) rfl at_77 (by decide) (W := 0) (by exact Nat.le_of_eq rfl) (by decide) (by decide) (by decide) (pc' := 80) rfl (fun T1031 v1031 X1031 hQ1031 => ?_)
          obtain ⟨b1031, rfl, ka1031, sg1031⟩ := hQ1031
          have ch1032 := hC0.trans (CHr.keep ka1031 own_nsf hC0.1)
          have q1033 := own_sta_keep Sc ka1031 all0
          have q1034 := own_sta_keep Sf ka1031 all0
          have q1035 := own_sta_keep Sd ka1031 all0
          have q1036 := own_sta_keep Sh ka1031 all0
          have q1037 := own_sta_keep Sl ka1031 all0
          have zz1038 := Nat.le_trans Z0 ka1031.1
          have hk1039 := Nat.le_trans (Nat.le_refl _) ka1031.1
          have kk1040 : Keep h0 T1031.heap [] := (Keep.refl h0 []).trans ka1031 all0
          show Gl p e below n0 _ _ (T1031.setTop (mkF m 80 #[.val (.int y0), .val (.int y1), .val (.int y2), .val (.int y3), .val (.int y4), .val (.int (2 : Int32)), .val (.int (2 : Int32)), .val (.int k769), .val (.int k770), .val (.int vb), .val (.int vc), .unset, .unset, .unset, .unset, .unset, .unset] [(.ref b1031)]))
          refine g_astore (L' := #[.val (.int y0), .val (.int y1), .val (.int y2), .val (.int y3), .val (.int y4), .val (.int (2 : Int32)), .val (.int (2 : Int32)), .val (.int k769), .val (.int k770), .val (.int vb), .val (.int vc), .val (.ref b1031), .unset, .unset, .unset, .unset, .unset]) X1031 hx hby at_80 rfl rfl (pc' := 82) rfl ?_
          refine g_iload X1031 hx hby at_82 rfl (pc' := 84) rfl ?_
          refine g_iload X1031 hx hby at_84 rfl (pc' := 86) rfl ?_
          refine g_iload X1031 hx hby at_86 rfl (pc' := 88) rfl ?_
          refine g_callS (argsL := [(.int (2 : Int32)), (.int vb), (.int vc)]) (S := []) X1031 hx hby hZ (y := (⟨"com/example/urutan/urutan/build/CodePointOrderComparePinLaw", "mk", "(ICC)Ljava/lang/String;"⟩ : MethodName)) hown (hw _ (List.mem_of_getElem? (i := 5) rfl)) (hw _ (List.mem_of_getElem? (i := 6) rfl)) (hw _ (List.mem_of_getElem? (i := 2) rfl)) (hw _ (List.mem_of_getElem? (i := 7) rfl)) (by decide) (own_mk_2 l Z a0 hw vb vc T1031.heap n0 zz1038 rg_vb rg_vc cs q1033 hcs q1035 q1036 q1037) (by rw [hml]; rfl) (lenOf own_pd19 rfl) rfl at_88 (by decide) (W := 0) (by exact Nat.le_of_eq rfl) (by decide) (by decide) (by decide) (pc' := 91) rfl (fun T1041 v1041 X1041 hQ1041 => ?_)
          obtain ⟨b1041, rfl, ka1041, sg1041⟩ := hQ1041
          have ch1042 := ch1032.trans (CHr.keep ka1041 own_nsf ch1032.1)
          have q1043 := own_sta_keep q1033 ka1041 all0
          have q1044 := own_sta_keep q1034 ka1041 all0
          have q1045 := own_sta_keep q1035 ka1041 all0
          have q1046 := own_sta_keep q1036 ka1041 all0
          have q1047 := own_sta_keep q1037 ka1041 all0
          have zz1048 := Nat.le_trans zz1038 ka1041.1
          have hk1049 := Nat.le_trans hk1039 ka1041.1
          have kk1050 : Keep h0 T1041.heap [] := kk1040.trans ka1041 all0
          have ps1051 := sg1031.keep0 ka1041
          show Gl p e below n0 _ _ (T1041.setTop (mkF m 91 #[.val (.int y0), .val (.int y1), .val (.int y2), .val (.int y3), .val (.int y4), .val (.int (2 : Int32)), .val (.int (2 : Int32)), .val (.int k769), .val (.int k770), .val (.int vb), .val (.int vc), .val (.ref b1031), .unset, .unset, .unset, .unset, .unset] [(.ref b1041)]))
          refine g_astore (L' := #[.val (.int y0), .val (.int y1), .val (.int y2), .val (.int y3), .val (.int y4), .val (.int (2 : Int32)), .val (.int (2 : Int32)), .val (.int k769), .val (.int k770), .val (.int vb), .val (.int vc), .val (.ref b1031), .val (.ref b1041), .unset, .unset, .unset, .unset]) X1041 hx hby at_91 rfl rfl (pc' := 93) rfl ?_
          refine g_iload X1041 hx hby at_93 rfl (pc' := 95) rfl ?_
          refine g_iload X1041 hx hby at_95 rfl (pc' := 97) rfl ?_
          refine g_callS (argsL := [(.int (2 : Int32)), (.int (2 : Int32))]) (S := []) X1041 hx hby hZ (y := (⟨"java/lang/Math", "min", "(II)I"⟩ : MethodName)) hown (hw _ (List.mem_of_getElem? (i := 30) rfl)) (hw _ (List.mem_of_getElem? (i := 31) rfl)) (hw _ (List.mem_of_getElem? (i := 32) rfl)) (hw _ (List.mem_of_getElem? (i := 33) rfl)) (by decide) (own_minA l Z a0 hw (2 : Int32) (2 : Int32) T1041.heap n0 (by decide)) (by rw [hml]; rfl) (lenOf own_pd16 rfl) rfl at_97 (by decide) (W := 0) (by exact Nat.le_of_eq rfl) (by decide) (by decide) (by decide) (pc' := 100) rfl (fun T1052 v1052 X1052 hQ1052 => ?_)
          obtain ⟨rfl, e1052⟩ := hQ1052
          rw [e1052] at X1052
          show Gl p e below n0 _ _ (T1052.setTop (mkF m 100 #[.val (.int y0), .val (.int y1), .val (.int y2), .val (.int y3), .val (.int y4), .val (.int (2 : Int32)), .val (.int (2 : Int32)), .val (.int k769), .val (.int k770), .val (.int vb), .val (.int vc), .val (.ref b1031), .val (.ref b1041), .unset, .unset, .unset, .unset] [(.int (2 : Int32))]))
          refine g_istore (L' := #[.val (.int y0), .val (.int y1), .val (.int y2), .val (.int y3), .val (.int y4), .val (.int (2 : Int32)), .val (.int (2 : Int32)), .val (.int k769), .val (.int k770), .val (.int vb), .val (.int vc), .val (.ref b1031), .val (.ref b1041), .val (.int (2 : Int32)), .unset, .unset, .unset]) X1052 hx hby at_100 rfl (pc' := 102) rfl ?_
          refine g_iload X1052 hx hby at_102 rfl (pc' := 104) rfl ?_
          refine g_iconst (v := 1) X1052 hx hby at_104 rfl (pc' := 105) rfl ?_
          refine g_icmp_lt X1052 hx hby at_105 (by decide) (pc' := 127) (by decide) (pc2 := 108) rfl (fun q => absurd q (by decide)) (fun c105_1053 => ?_)
          refine g_iload X1052 hx hby at_108 rfl (pc' := 110) rfl ?_
          refine g_iload X1052 hx hby at_110 rfl (pc' := 112) rfl ?_
          refine g_icmp_eq X1052 hx hby at_112 (by decide) (pc' := 127) (by decide) (pc2 := 115) rfl (fun c112_1054 => ?_) (fun c112_1054 => ?_)
          · refine g_iload X1052 hx hby at_127 rfl (pc' := 129) rfl ?_
            refine g_iconst (v := 2) X1052 hx hby at_129 rfl (pc' := 130) rfl ?_
            refine g_icmp_lt X1052 hx hby at_130 (by decide) (pc' := 152) (by decide) (pc2 := 133) rfl (fun q => absurd q (by decide)) (fun c130_1055 => ?_)
            refine g_iload X1052 hx hby at_133 rfl (pc' := 135) rfl ?_
            refine g_iload X1052 hx hby at_135 rfl (pc' := 137) rfl ?_
            refine g_icmp_eq X1052 hx hby at_137 (by decide) (pc' := 152) (by decide) (pc2 := 140) rfl (fun c137_1056 => ?_) (fun c137_1056 => ?_)
            · refine g_iload X1052 hx hby at_152 rfl (pc' := 154) rfl ?_
              refine g_iload X1052 hx hby at_154 rfl (pc' := 156) rfl ?_
              refine g_isub X1052 hx hby at_156 (pc' := 157) rfl ?_
              refine g_callS (argsL := [(.int ((2 : Int32) - (2 : Int32)))]) (S := []) X1052 hx hby hZ (y := (⟨"com/example/urutan/urutan/build/CodePointOrderComparePinLaw", "sign", "(I)I"⟩ : MethodName)) hown (hw _ (List.mem_of_getElem? (i := 34) rfl)) (hw _ (List.mem_of_getElem? (i := 35) rfl)) (hw _ (List.mem_of_getElem? (i := 2) rfl)) (hw _ (List.mem_of_getElem? (i := 36) rfl)) (by decide) (own_sgc l Z a0 hw (((2 : Int32) - (2 : Int32))) T1041.heap n0) (by rw [hml]; rfl) (lenOf own_pd5 rfl) rfl at_157 (by decide) (W := 0) (by exact Nat.le_of_eq rfl) (by decide) (by decide) (by decide) (pc' := 160) rfl (fun T1057 v1057 X1057 hQ1057 => ?_)
              obtain ⟨rfl, e1057⟩ := hQ1057
              rw [e1057] at X1057
              show Gl p e below n0 _ _ (T1057.setTop (mkF m 160 #[.val (.int y0), .val (.int y1), .val (.int y2), .val (.int y3), .val (.int y4), .val (.int (2 : Int32)), .val (.int (2 : Int32)), .val (.int k769), .val (.int k770), .val (.int vb), .val (.int vc), .val (.ref b1031), .val (.ref b1041), .val (.int (2 : Int32)), .unset, .unset, .unset] [(.int (own_sg ((2 : Int32) - (2 : Int32))))]))
              refine g_istore (L' := #[.val (.int y0), .val (.int y1), .val (.int y2), .val (.int y3), .val (.int y4), .val (.int (2 : Int32)), .val (.int (2 : Int32)), .val (.int k769), .val (.int k770), .val (.int vb), .val (.int vc), .val (.ref b1031), .val (.ref b1041), .val (.int (2 : Int32)), .val (.int (own_sg ((2 : Int32) - (2 : Int32)))), .unset, .unset]) X1057 hx hby at_160 rfl (pc' := 162) rfl ?_
              refine g_aload X1057 hx hby at_162 rfl rfl (pc' := 164) rfl ?_
              refine g_aload X1057 hx hby at_164 rfl rfl (pc' := 166) rfl ?_
              refine g_callS (argsL := [(.ref b1031), (.ref b1041)]) (S := []) X1057 hx hby hZ (y := (⟨"com/example/urutan/urutan/build/CodePointOrder", "compare", "(Ljava/lang/String;Ljava/lang/String;)I"⟩ : MethodName)) hown (hw _ (List.mem_of_getElem? (i := 37) rfl)) (hw _ (List.mem_of_getElem? (i := 38) rfl)) (hw _ (List.mem_of_getElem? (i := 39) rfl)) (hw _ (List.mem_of_getElem? (i := 40) rfl)) (by decide) (own_cm_2_2 l Z a0 hw b1031 b1041 T1041.heap n0 (own_cf2 k769 k770) (own_cf2 vb vc) (own_cf2r rg769 rg770) (own_cf2r rg_vb rg_vc) ps1051 sg1041 cs q1043 hcs fm q1044 hfm q1045 q1046 q1047) (by rw [hml]; rfl) (lenOf own_pd20 rfl) rfl at_166 (by decide) (W := 0) (by exact Nat.le_of_eq rfl) (by decide) (by decide) (by decide) (pc' := 169) rfl (fun T1058 v1058 X1058 hQ1058 => ?_)
              obtain ⟨rfl, e1058⟩ := hQ1058
              rw [e1058] at X1058
              have ev1058 : own_cv2 (own_cf2 k769 k770) (own_cf2 vb vc) ((2 : Int32) - (2 : Int32)) = ((2 : Int32) - (2 : Int32)) := by simp only [own_cv2, own_cf2, if_pos c112_1054, if_pos c137_1056]
              rw [ev1058]
              show Gl p e below n0 _ _ (T1058.setTop (mkF m 169 #[.val (.int y0), .val (.int y1), .val (.int y2), .val (.int y3), .val (.int y4), .val (.int (2 : Int32)), .val (.int (2 : Int32)), .val (.int k769), .val (.int k770), .val (.int vb), .val (.int vc), .val (.ref b1031), .val (.ref b1041), .val (.int (2 : Int32)), .val (.int (own_sg ((2 : Int32) - (2 : Int32)))), .unset, .unset] [(.int ((2 : Int32) - (2 : Int32)))]))
              refine g_istore (L' := #[.val (.int y0), .val (.int y1), .val (.int y2), .val (.int y3), .val (.int y4), .val (.int (2 : Int32)), .val (.int (2 : Int32)), .val (.int k769), .val (.int k770), .val (.int vb), .val (.int vc), .val (.ref b1031), .val (.ref b1041), .val (.int (2 : Int32)), .val (.int (own_sg ((2 : Int32) - (2 : Int32)))), .val (.int ((2 : Int32) - (2 : Int32))), .unset]) X1058 hx hby at_169 rfl (pc' := 171) rfl ?_
              refine g_aload X1058 hx hby at_171 rfl rfl (pc' := 173) rfl ?_
              refine g_aload X1058 hx hby at_173 rfl rfl (pc' := 175) rfl ?_
              refine g_callS (argsL := [(.ref b1041), (.ref b1031)]) (S := []) X1058 hx hby hZ (y := (⟨"com/example/urutan/urutan/build/CodePointOrder", "compare", "(Ljava/lang/String;Ljava/lang/String;)I"⟩ : MethodName)) hown (hw _ (List.mem_of_getElem? (i := 37) rfl)) (hw _ (List.mem_of_getElem? (i := 38) rfl)) (hw _ (List.mem_of_getElem? (i := 39) rfl)) (hw _ (List.mem_of_getElem? (i := 40) rfl)) (by decide) (own_cm_2_2 l Z a0 hw b1041 b1031 T1041.heap n0 (own_cf2 vb vc) (own_cf2 k769 k770) (own_cf2r rg_vb rg_vc) (own_cf2r rg769 rg770) sg1041 ps1051 cs q1043 hcs fm q1044 hfm q1045 q1046 q1047) (by rw [hml]; rfl) (lenOf own_pd20 rfl) rfl at_175 (by decide) (W := 0) (by exact Nat.le_of_eq rfl) (by decide) (by decide) (by decide) (pc' := 178) rfl (fun T1059 v1059 X1059 hQ1059 => ?_)
              obtain ⟨rfl, e1059⟩ := hQ1059
              rw [e1059] at X1059
              have ev1059 : own_cv2 (own_cf2 vb vc) (own_cf2 k769 k770) ((2 : Int32) - (2 : Int32)) = ((2 : Int32) - (2 : Int32)) := by simp only [own_cv2, own_cf2, if_pos c112_1054.symm, if_pos c137_1056.symm]
              rw [ev1059]
              show Gl p e below n0 _ _ (T1059.setTop (mkF m 178 #[.val (.int y0), .val (.int y1), .val (.int y2), .val (.int y3), .val (.int y4), .val (.int (2 : Int32)), .val (.int (2 : Int32)), .val (.int k769), .val (.int k770), .val (.int vb), .val (.int vc), .val (.ref b1031), .val (.ref b1041), .val (.int (2 : Int32)), .val (.int (own_sg ((2 : Int32) - (2 : Int32)))), .val (.int ((2 : Int32) - (2 : Int32))), .unset] [(.int ((2 : Int32) - (2 : Int32)))]))
              refine g_istore (L' := #[.val (.int y0), .val (.int y1), .val (.int y2), .val (.int y3), .val (.int y4), .val (.int (2 : Int32)), .val (.int (2 : Int32)), .val (.int k769), .val (.int k770), .val (.int vb), .val (.int vc), .val (.ref b1031), .val (.ref b1041), .val (.int (2 : Int32)), .val (.int (own_sg ((2 : Int32) - (2 : Int32)))), .val (.int ((2 : Int32) - (2 : Int32))), .val (.int ((2 : Int32) - (2 : Int32)))]) X1059 hx hby at_178 rfl (pc' := 180) rfl ?_
              refine g_iload X1059 hx hby at_180 rfl (pc' := 182) rfl ?_
              refine g_callS (argsL := [(.int ((2 : Int32) - (2 : Int32)))]) (S := []) X1059 hx hby hZ (y := (⟨"com/example/urutan/urutan/build/CodePointOrderComparePinLaw", "sign", "(I)I"⟩ : MethodName)) hown (hw _ (List.mem_of_getElem? (i := 34) rfl)) (hw _ (List.mem_of_getElem? (i := 35) rfl)) (hw _ (List.mem_of_getElem? (i := 2) rfl)) (hw _ (List.mem_of_getElem? (i := 36) rfl)) (by decide) (own_sgc l Z a0 hw (((2 : Int32) - (2 : Int32))) T1041.heap n0) (by rw [hml]; rfl) (lenOf own_pd5 rfl) rfl at_182 (by decide) (W := 0) (by exact Nat.le_of_eq rfl) (by decide) (by decide) (by decide) (pc' := 185) rfl (fun T1060 v1060 X1060 hQ1060 => ?_)
              obtain ⟨rfl, e1060⟩ := hQ1060
              rw [e1060] at X1060
              show Gl p e below n0 _ _ (T1060.setTop (mkF m 185 #[.val (.int y0), .val (.int y1), .val (.int y2), .val (.int y3), .val (.int y4), .val (.int (2 : Int32)), .val (.int (2 : Int32)), .val (.int k769), .val (.int k770), .val (.int vb), .val (.int vc), .val (.ref b1031), .val (.ref b1041), .val (.int (2 : Int32)), .val (.int (own_sg ((2 : Int32) - (2 : Int32)))), .val (.int ((2 : Int32) - (2 : Int32))), .val (.int ((2 : Int32) - (2 : Int32)))] [(.int (own_sg ((2 : Int32) - (2 : Int32))))]))
              refine g_iload X1060 hx hby at_185 rfl (pc' := 187) rfl ?_
              refine g_icmp_ne X1060 hx hby at_187 (by decide) (pc' := 205) (by decide) (pc2 := 190) rfl (fun q => absurd rfl q) (fun c187_1061 => ?_)
              refine g_iload X1060 hx hby at_190 rfl (pc' := 192) rfl ?_
              refine g_callS (argsL := [(.int ((2 : Int32) - (2 : Int32)))]) (S := []) X1060 hx hby hZ (y := (⟨"com/example/urutan/urutan/build/CodePointOrderComparePinLaw", "sign", "(I)I"⟩ : MethodName)) hown (hw _ (List.mem_of_getElem? (i := 34) rfl)) (hw _ (List.mem_of_getElem? (i := 35) rfl)) (hw _ (List.mem_of_getElem? (i := 2) rfl)) (hw _ (List.mem_of_getElem? (i := 36) rfl)) (by decide) (own_sgc l Z a0 hw (((2 : Int32) - (2 : Int32))) T1041.heap n0) (by rw [hml]; rfl) (lenOf own_pd5 rfl) rfl at_192 (by decide) (W := 0) (by exact Nat.le_of_eq rfl) (by decide) (by decide) (by decide) (pc' := 195) rfl (fun T1062 v1062 X1062 hQ1062 => ?_)
              obtain ⟨rfl, e1062⟩ := hQ1062
              rw [e1062] at X1062
              show Gl p e below n0 _ _ (T1062.setTop (mkF m 195 #[.val (.int y0), .val (.int y1), .val (.int y2), .val (.int y3), .val (.int y4), .val (.int (2 : Int32)), .val (.int (2 : Int32)), .val (.int k769), .val (.int k770), .val (.int vb), .val (.int vc), .val (.ref b1031), .val (.ref b1041), .val (.int (2 : Int32)), .val (.int (own_sg ((2 : Int32) - (2 : Int32)))), .val (.int ((2 : Int32) - (2 : Int32))), .val (.int ((2 : Int32) - (2 : Int32)))] [(.int (own_sg ((2 : Int32) - (2 : Int32))))]))
              refine g_iload X1062 hx hby at_195 rfl (pc' := 197) rfl ?_
              refine g_ineg X1062 hx hby at_197 (pc' := 198) rfl ?_
              refine g_icmp_ne X1062 hx hby at_198 (by decide) (pc' := 205) (by decide) (pc2 := 201) rfl (fun q => absurd (by decide) q) (fun c198_1063 => ?_)
              refine g_iconst (v := 1) X1062 hx hby at_201 rfl (pc' := 202) rfl ?_
              refine g_goto X1062 hx hby at_202 (by decide) (pc' := 206) (by decide) ?_
              exact gw_retN X1062 hx hby hS hk1049 hret hlk (by simp) at_206 rfl (by decide) (by decide)
            · refine g_iload X1052 hx hby at_140 rfl (pc' := 142) rfl ?_
              refine g_iload X1052 hx hby at_142 rfl (pc' := 144) rfl ?_
              refine g_callS (argsL := [(.int k770), (.int vc)]) (S := []) X1052 hx hby hZ (y := (⟨"com/example/urutan/urutan/build/CodePointOrderComparePinLaw", "unitOrder", "(CC)I"⟩ : MethodName)) hown (hw _ (List.mem_of_getElem? (i := 85) rfl)) (hw _ (List.mem_of_getElem? (i := 86) rfl)) (hw _ (List.mem_of_getElem? (i := 2) rfl)) (hw _ (List.mem_of_getElem? (i := 87) rfl)) (by decide) (own_uoc l Z a0 hw k770 vc T1041.heap n0) (by rw [hml]; rfl) (lenOf own_pd21 rfl) rfl at_144 (by decide) (W := 0) (by exact Nat.le_of_eq rfl) (by decide) (by decide) (by decide) (pc' := 147) rfl (fun T1064 v1064 X1064 hQ1064 => ?_)
              obtain ⟨rfl, e1064⟩ := hQ1064
              rw [e1064] at X1064
              show Gl p e below n0 _ _ (T1064.setTop (mkF m 147 #[.val (.int y0), .val (.int y1), .val (.int y2), .val (.int y3), .val (.int y4), .val (.int (2 : Int32)), .val (.int (2 : Int32)), .val (.int k769), .val (.int k770), .val (.int vb), .val (.int vc), .val (.ref b1031), .val (.ref b1041), .val (.int (2 : Int32)), .unset, .unset, .unset] [(.int (own_uo k770 vc))]))
              refine g_istore (L' := #[.val (.int y0), .val (.int y1), .val (.int y2), .val (.int y3), .val (.int y4), .val (.int (2 : Int32)), .val (.int (2 : Int32)), .val (.int k769), .val (.int k770), .val (.int vb), .val (.int vc), .val (.ref b1031), .val (.ref b1041), .val (.int (2 : Int32)), .val (.int (own_uo k770 vc)), .unset, .unset]) X1064 hx hby at_147 rfl (pc' := 149) rfl ?_
              refine g_goto X1064 hx hby at_149 (by decide) (pc' := 162) (by decide) ?_
              refine g_aload X1064 hx hby at_162 rfl rfl (pc' := 164) rfl ?_
              refine g_aload X1064 hx hby at_164 rfl rfl (pc' := 166) rfl ?_
              refine g_callS (argsL := [(.ref b1031), (.ref b1041)]) (S := []) X1064 hx hby hZ (y := (⟨"com/example/urutan/urutan/build/CodePointOrder", "compare", "(Ljava/lang/String;Ljava/lang/String;)I"⟩ : MethodName)) hown (hw _ (List.mem_of_getElem? (i := 37) rfl)) (hw _ (List.mem_of_getElem? (i := 38) rfl)) (hw _ (List.mem_of_getElem? (i := 39) rfl)) (hw _ (List.mem_of_getElem? (i := 40) rfl)) (by decide) (own_cm_2_2 l Z a0 hw b1031 b1041 T1041.heap n0 (own_cf2 k769 k770) (own_cf2 vb vc) (own_cf2r rg769 rg770) (own_cf2r rg_vb rg_vc) ps1051 sg1041 cs q1043 hcs fm q1044 hfm q1045 q1046 q1047) (by rw [hml]; rfl) (lenOf own_pd20 rfl) rfl at_166 (by decide) (W := 0) (by exact Nat.le_of_eq rfl) (by decide) (by decide) (by decide) (pc' := 169) rfl (fun T1065 v1065 X1065 hQ1065 => ?_)
              obtain ⟨rfl, e1065⟩ := hQ1065
              rw [e1065] at X1065
              have ev1065 : own_cv2 (own_cf2 k769 k770) (own_cf2 vb vc) ((2 : Int32) - (2 : Int32)) = (own_pl k770 - own_pl vc) := by simp only [own_cv2, own_cf2, if_pos c112_1054, if_neg c137_1056]
              rw [ev1065]
              show Gl p e below n0 _ _ (T1065.setTop (mkF m 169 #[.val (.int y0), .val (.int y1), .val (.int y2), .val (.int y3), .val (.int y4), .val (.int (2 : Int32)), .val (.int (2 : Int32)), .val (.int k769), .val (.int k770), .val (.int vb), .val (.int vc), .val (.ref b1031), .val (.ref b1041), .val (.int (2 : Int32)), .val (.int (own_uo k770 vc)), .unset, .unset] [(.int (own_pl k770 - own_pl vc))]))
              refine g_istore (L' := #[.val (.int y0), .val (.int y1), .val (.int y2), .val (.int y3), .val (.int y4), .val (.int (2 : Int32)), .val (.int (2 : Int32)), .val (.int k769), .val (.int k770), .val (.int vb), .val (.int vc), .val (.ref b1031), .val (.ref b1041), .val (.int (2 : Int32)), .val (.int (own_uo k770 vc)), .val (.int (own_pl k770 - own_pl vc)), .unset]) X1065 hx hby at_169 rfl (pc' := 171) rfl ?_
              refine g_aload X1065 hx hby at_171 rfl rfl (pc' := 173) rfl ?_
              refine g_aload X1065 hx hby at_173 rfl rfl (pc' := 175) rfl ?_
              refine g_callS (argsL := [(.ref b1041), (.ref b1031)]) (S := []) X1065 hx hby hZ (y := (⟨"com/example/urutan/urutan/build/CodePointOrder", "compare", "(Ljava/lang/String;Ljava/lang/String;)I"⟩ : MethodName)) hown (hw _ (List.mem_of_getElem? (i := 37) rfl)) (hw _ (List.mem_of_getElem? (i := 38) rfl)) (hw _ (List.mem_of_getElem? (i := 39) rfl)) (hw _ (List.mem_of_getElem? (i := 40) rfl)) (by decide) (own_cm_2_2 l Z a0 hw b1041 b1031 T1041.heap n0 (own_cf2 vb vc) (own_cf2 k769 k770) (own_cf2r rg_vb rg_vc) (own_cf2r rg769 rg770) sg1041 ps1051 cs q1043 hcs fm q1044 hfm q1045 q1046 q1047) (by rw [hml]; rfl) (lenOf own_pd20 rfl) rfl at_175 (by decide) (W := 0) (by exact Nat.le_of_eq rfl) (by decide) (by decide) (by decide) (pc' := 178) rfl (fun T1066 v1066 X1066 hQ1066 => ?_)
              obtain ⟨rfl, e1066⟩ := hQ1066
              rw [e1066] at X1066
              have ev1066 : own_cv2 (own_cf2 vb vc) (own_cf2 k769 k770) ((2 : Int32) - (2 : Int32)) = (own_pl vc - own_pl k770) := by simp only [own_cv2, own_cf2, if_pos c112_1054.symm, if_neg (Ne.symm c137_1056)]
              rw [ev1066]
              show Gl p e below n0 _ _ (T1066.setTop (mkF m 178 #[.val (.int y0), .val (.int y1), .val (.int y2), .val (.int y3), .val (.int y4), .val (.int (2 : Int32)), .val (.int (2 : Int32)), .val (.int k769), .val (.int k770), .val (.int vb), .val (.int vc), .val (.ref b1031), .val (.ref b1041), .val (.int (2 : Int32)), .val (.int (own_uo k770 vc)), .val (.int (own_pl k770 - own_pl vc)), .unset] [(.int (own_pl vc - own_pl k770))]))
              refine g_istore (L' := #[.val (.int y0), .val (.int y1), .val (.int y2), .val (.int y3), .val (.int y4), .val (.int (2 : Int32)), .val (.int (2 : Int32)), .val (.int k769), .val (.int k770), .val (.int vb), .val (.int vc), .val (.ref b1031), .val (.ref b1041), .val (.int (2 : Int32)), .val (.int (own_uo k770 vc)), .val (.int (own_pl k770 - own_pl vc)), .val (.int (own_pl vc - own_pl k770))]) X1066 hx hby at_178 rfl (pc' := 180) rfl ?_
              refine g_iload X1066 hx hby at_180 rfl (pc' := 182) rfl ?_
              refine g_callS (argsL := [(.int (own_pl k770 - own_pl vc))]) (S := []) X1066 hx hby hZ (y := (⟨"com/example/urutan/urutan/build/CodePointOrderComparePinLaw", "sign", "(I)I"⟩ : MethodName)) hown (hw _ (List.mem_of_getElem? (i := 34) rfl)) (hw _ (List.mem_of_getElem? (i := 35) rfl)) (hw _ (List.mem_of_getElem? (i := 2) rfl)) (hw _ (List.mem_of_getElem? (i := 36) rfl)) (by decide) (own_sgc l Z a0 hw ((own_pl k770 - own_pl vc)) T1041.heap n0) (by rw [hml]; rfl) (lenOf own_pd5 rfl) rfl at_182 (by decide) (W := 0) (by exact Nat.le_of_eq rfl) (by decide) (by decide) (by decide) (pc' := 185) rfl (fun T1067 v1067 X1067 hQ1067 => ?_)
              obtain ⟨rfl, e1067⟩ := hQ1067
              rw [e1067] at X1067
              show Gl p e below n0 _ _ (T1067.setTop (mkF m 185 #[.val (.int y0), .val (.int y1), .val (.int y2), .val (.int y3), .val (.int y4), .val (.int (2 : Int32)), .val (.int (2 : Int32)), .val (.int k769), .val (.int k770), .val (.int vb), .val (.int vc), .val (.ref b1031), .val (.ref b1041), .val (.int (2 : Int32)), .val (.int (own_uo k770 vc)), .val (.int (own_pl k770 - own_pl vc)), .val (.int (own_pl vc - own_pl k770))] [(.int (own_sg (own_pl k770 - own_pl vc)))]))
              refine g_iload X1067 hx hby at_185 rfl (pc' := 187) rfl ?_
              refine g_icmp_ne X1067 hx hby at_187 (by decide) (pc' := 205) (by decide) (pc2 := 190) rfl (fun q => absurd (own_main1 rg770 rg_vc) q) (fun c187_1068 => ?_)
              refine g_iload X1067 hx hby at_190 rfl (pc' := 192) rfl ?_
              refine g_callS (argsL := [(.int (own_pl vc - own_pl k770))]) (S := []) X1067 hx hby hZ (y := (⟨"com/example/urutan/urutan/build/CodePointOrderComparePinLaw", "sign", "(I)I"⟩ : MethodName)) hown (hw _ (List.mem_of_getElem? (i := 34) rfl)) (hw _ (List.mem_of_getElem? (i := 35) rfl)) (hw _ (List.mem_of_getElem? (i := 2) rfl)) (hw _ (List.mem_of_getElem? (i := 36) rfl)) (by decide) (own_sgc l Z a0 hw ((own_pl vc - own_pl k770)) T1041.heap n0) (by rw [hml]; rfl) (lenOf own_pd5 rfl) rfl at_192 (by decide) (W := 0) (by exact Nat.le_of_eq rfl) (by decide) (by decide) (by decide) (pc' := 195) rfl (fun T1069 v1069 X1069 hQ1069 => ?_)
              obtain ⟨rfl, e1069⟩ := hQ1069
              rw [e1069] at X1069
              show Gl p e below n0 _ _ (T1069.setTop (mkF m 195 #[.val (.int y0), .val (.int y1), .val (.int y2), .val (.int y3), .val (.int y4), .val (.int (2 : Int32)), .val (.int (2 : Int32)), .val (.int k769), .val (.int k770), .val (.int vb), .val (.int vc), .val (.ref b1031), .val (.ref b1041), .val (.int (2 : Int32)), .val (.int (own_uo k770 vc)), .val (.int (own_pl k770 - own_pl vc)), .val (.int (own_pl vc - own_pl k770))] [(.int (own_sg (own_pl vc - own_pl k770)))]))
              refine g_iload X1069 hx hby at_195 rfl (pc' := 197) rfl ?_
              refine g_ineg X1069 hx hby at_197 (pc' := 198) rfl ?_
              refine g_icmp_ne X1069 hx hby at_198 (by decide) (pc' := 205) (by decide) (pc2 := 201) rfl (fun q => absurd (own_main2 rg770 rg_vc) q) (fun c198_1070 => ?_)
              refine g_iconst (v := 1) X1069 hx hby at_201 rfl (pc' := 202) rfl ?_
              refine g_goto X1069 hx hby at_202 (by decide) (pc' := 206) (by decide) ?_
              exact gw_retN X1069 hx hby hS hk1049 hret hlk (by simp) at_206 rfl (by decide) (by decide)
          · refine g_iload X1052 hx hby at_115 rfl (pc' := 117) rfl ?_
            refine g_iload X1052 hx hby at_117 rfl (pc' := 119) rfl ?_
            refine g_callS (argsL := [(.int k769), (.int vb)]) (S := []) X1052 hx hby hZ (y := (⟨"com/example/urutan/urutan/build/CodePointOrderComparePinLaw", "unitOrder", "(CC)I"⟩ : MethodName)) hown (hw _ (List.mem_of_getElem? (i := 85) rfl)) (hw _ (List.mem_of_getElem? (i := 86) rfl)) (hw _ (List.mem_of_getElem? (i := 2) rfl)) (hw _ (List.mem_of_getElem? (i := 87) rfl)) (by decide) (own_uoc l Z a0 hw k769 vb T1041.heap n0) (by rw [hml]; rfl) (lenOf own_pd21 rfl) rfl at_119 (by decide) (W := 0) (by exact Nat.le_of_eq rfl) (by decide) (by decide) (by decide) (pc' := 122) rfl (fun T1071 v1071 X1071 hQ1071 => ?_)
            obtain ⟨rfl, e1071⟩ := hQ1071
            rw [e1071] at X1071
            show Gl p e below n0 _ _ (T1071.setTop (mkF m 122 #[.val (.int y0), .val (.int y1), .val (.int y2), .val (.int y3), .val (.int y4), .val (.int (2 : Int32)), .val (.int (2 : Int32)), .val (.int k769), .val (.int k770), .val (.int vb), .val (.int vc), .val (.ref b1031), .val (.ref b1041), .val (.int (2 : Int32)), .unset, .unset, .unset] [(.int (own_uo k769 vb))]))
            refine g_istore (L' := #[.val (.int y0), .val (.int y1), .val (.int y2), .val (.int y3), .val (.int y4), .val (.int (2 : Int32)), .val (.int (2 : Int32)), .val (.int k769), .val (.int k770), .val (.int vb), .val (.int vc), .val (.ref b1031), .val (.ref b1041), .val (.int (2 : Int32)), .val (.int (own_uo k769 vb)), .unset, .unset]) X1071 hx hby at_122 rfl (pc' := 124) rfl ?_
            refine g_goto X1071 hx hby at_124 (by decide) (pc' := 162) (by decide) ?_
            refine g_aload X1071 hx hby at_162 rfl rfl (pc' := 164) rfl ?_
            refine g_aload X1071 hx hby at_164 rfl rfl (pc' := 166) rfl ?_
            refine g_callS (argsL := [(.ref b1031), (.ref b1041)]) (S := []) X1071 hx hby hZ (y := (⟨"com/example/urutan/urutan/build/CodePointOrder", "compare", "(Ljava/lang/String;Ljava/lang/String;)I"⟩ : MethodName)) hown (hw _ (List.mem_of_getElem? (i := 37) rfl)) (hw _ (List.mem_of_getElem? (i := 38) rfl)) (hw _ (List.mem_of_getElem? (i := 39) rfl)) (hw _ (List.mem_of_getElem? (i := 40) rfl)) (by decide) (own_cm_2_2 l Z a0 hw b1031 b1041 T1041.heap n0 (own_cf2 k769 k770) (own_cf2 vb vc) (own_cf2r rg769 rg770) (own_cf2r rg_vb rg_vc) ps1051 sg1041 cs q1043 hcs fm q1044 hfm q1045 q1046 q1047) (by rw [hml]; rfl) (lenOf own_pd20 rfl) rfl at_166 (by decide) (W := 0) (by exact Nat.le_of_eq rfl) (by decide) (by decide) (by decide) (pc' := 169) rfl (fun T1072 v1072 X1072 hQ1072 => ?_)
            obtain ⟨rfl, e1072⟩ := hQ1072
            rw [e1072] at X1072
            have ev1072 : own_cv2 (own_cf2 k769 k770) (own_cf2 vb vc) ((2 : Int32) - (2 : Int32)) = (own_pl k769 - own_pl vb) := by simp only [own_cv2, own_cf2, if_neg c112_1054]
            rw [ev1072]
            show Gl p e below n0 _ _ (T1072.setTop (mkF m 169 #[.val (.int y0), .val (.int y1), .val (.int y2), .val (.int y3), .val (.int y4), .val (.int (2 : Int32)), .val (.int (2 : Int32)), .val (.int k769), .val (.int k770), .val (.int vb), .val (.int vc), .val (.ref b1031), .val (.ref b1041), .val (.int (2 : Int32)), .val (.int (own_uo k769 vb)), .unset, .unset] [(.int (own_pl k769 - own_pl vb))]))
            refine g_istore (L' := #[.val (.int y0), .val (.int y1), .val (.int y2), .val (.int y3), .val (.int y4), .val (.int (2 : Int32)), .val (.int (2 : Int32)), .val (.int k769), .val (.int k770), .val (.int vb), .val (.int vc), .val (.ref b1031), .val (.ref b1041), .val (.int (2 : Int32)), .val (.int (own_uo k769 vb)), .val (.int (own_pl k769 - own_pl vb)), .unset]) X1072 hx hby at_169 rfl (pc' := 171) rfl ?_
            refine g_aload X1072 hx hby at_171 rfl rfl (pc' := 173) rfl ?_
            refine g_aload X1072 hx hby at_173 rfl rfl (pc' := 175) rfl ?_
            refine g_callS (argsL := [(.ref b1041), (.ref b1031)]) (S := []) X1072 hx hby hZ (y := (⟨"com/example/urutan/urutan/build/CodePointOrder", "compare", "(Ljava/lang/String;Ljava/lang/String;)I"⟩ : MethodName)) hown (hw _ (List.mem_of_getElem? (i := 37) rfl)) (hw _ (List.mem_of_getElem? (i := 38) rfl)) (hw _ (List.mem_of_getElem? (i := 39) rfl)) (hw _ (List.mem_of_getElem? (i := 40) rfl)) (by decide) (own_cm_2_2 l Z a0 hw b1041 b1031 T1041.heap n0 (own_cf2 vb vc) (own_cf2 k769 k770) (own_cf2r rg_vb rg_vc) (own_cf2r rg769 rg770) sg1041 ps1051 cs q1043 hcs fm q1044 hfm q1045 q1046 q1047) (by rw [hml]; rfl) (lenOf own_pd20 rfl) rfl at_175 (by decide) (W := 0) (by exact Nat.le_of_eq rfl) (by decide) (by decide) (by decide) (pc' := 178) rfl (fun T1073 v1073 X1073 hQ1073 => ?_)
            obtain ⟨rfl, e1073⟩ := hQ1073
            rw [e1073] at X1073
            have ev1073 : own_cv2 (own_cf2 vb vc) (own_cf2 k769 k770) ((2 : Int32) - (2 : Int32)) = (own_pl vb - own_pl k769) := by simp only [own_cv2, own_cf2, if_neg (Ne.symm c112_1054)]
            rw [ev1073]
            show Gl p e below n0 _ _ (T1073.setTop (mkF m 178 #[.val (.int y0), .val (.int y1), .val (.int y2), .val (.int y3), .val (.int y4), .val (.int (2 : Int32)), .val (.int (2 : Int32)), .val (.int k769), .val (.int k770), .val (.int vb), .val (.int vc), .val (.ref b1031), .val (.ref b1041), .val (.int (2 : Int32)), .val (.int (own_uo k769 vb)), .val (.int (own_pl k769 - own_pl vb)), .unset] [(.int (own_pl vb - own_pl k769))]))
            refine g_istore (L' := #[.val (.int y0), .val (.int y1), .val (.int y2), .val (.int y3), .val (.int y4), .val (.int (2 : Int32)), .val (.int (2 : Int32)), .val (.int k769), .val (.int k770), .val (.int vb), .val (.int vc), .val (.ref b1031), .val (.ref b1041), .val (.int (2 : Int32)), .val (.int (own_uo k769 vb)), .val (.int (own_pl k769 - own_pl vb)), .val (.int (own_pl vb - own_pl k769))]) X1073 hx hby at_178 rfl (pc' := 180) rfl ?_
            refine g_iload X1073 hx hby at_180 rfl (pc' := 182) rfl ?_
            refine g_callS (argsL := [(.int (own_pl k769 - own_pl vb))]) (S := []) X1073 hx hby hZ (y := (⟨"com/example/urutan/urutan/build/CodePointOrderComparePinLaw", "sign", "(I)I"⟩ : MethodName)) hown (hw _ (List.mem_of_getElem? (i := 34) rfl)) (hw _ (List.mem_of_getElem? (i := 35) rfl)) (hw _ (List.mem_of_getElem? (i := 2) rfl)) (hw _ (List.mem_of_getElem? (i := 36) rfl)) (by decide) (own_sgc l Z a0 hw ((own_pl k769 - own_pl vb)) T1041.heap n0) (by rw [hml]; rfl) (lenOf own_pd5 rfl) rfl at_182 (by decide) (W := 0) (by exact Nat.le_of_eq rfl) (by decide) (by decide) (by decide) (pc' := 185) rfl (fun T1074 v1074 X1074 hQ1074 => ?_)
            obtain ⟨rfl, e1074⟩ := hQ1074
            rw [e1074] at X1074
            show Gl p e below n0 _ _ (T1074.setTop (mkF m 185 #[.val (.int y0), .val (.int y1), .val (.int y2), .val (.int y3), .val (.int y4), .val (.int (2 : Int32)), .val (.int (2 : Int32)), .val (.int k769), .val (.int k770), .val (.int vb), .val (.int vc), .val (.ref b1031), .val (.ref b1041), .val (.int (2 : Int32)), .val (.int (own_uo k769 vb)), .val (.int (own_pl k769 - own_pl vb)), .val (.int (own_pl vb - own_pl k769))] [(.int (own_sg (own_pl k769 - own_pl vb)))]))
            refine g_iload X1074 hx hby at_185 rfl (pc' := 187) rfl ?_
            refine g_icmp_ne X1074 hx hby at_187 (by decide) (pc' := 205) (by decide) (pc2 := 190) rfl (fun q => absurd (own_main1 rg769 rg_vb) q) (fun c187_1075 => ?_)
            refine g_iload X1074 hx hby at_190 rfl (pc' := 192) rfl ?_
            refine g_callS (argsL := [(.int (own_pl vb - own_pl k769))]) (S := []) X1074 hx hby hZ (y := (⟨"com/example/urutan/urutan/build/CodePointOrderComparePinLaw", "sign", "(I)I"⟩ : MethodName)) hown (hw _ (List.mem_of_getElem? (i := 34) rfl)) (hw _ (List.mem_of_getElem? (i := 35) rfl)) (hw _ (List.mem_of_getElem? (i := 2) rfl)) (hw _ (List.mem_of_getElem? (i := 36) rfl)) (by decide) (own_sgc l Z a0 hw ((own_pl vb - own_pl k769)) T1041.heap n0) (by rw [hml]; rfl) (lenOf own_pd5 rfl) rfl at_192 (by decide) (W := 0) (by exact Nat.le_of_eq rfl) (by decide) (by decide) (by decide) (pc' := 195) rfl (fun T1076 v1076 X1076 hQ1076 => ?_)
            obtain ⟨rfl, e1076⟩ := hQ1076
            rw [e1076] at X1076
            show Gl p e below n0 _ _ (T1076.setTop (mkF m 195 #[.val (.int y0), .val (.int y1), .val (.int y2), .val (.int y3), .val (.int y4), .val (.int (2 : Int32)), .val (.int (2 : Int32)), .val (.int k769), .val (.int k770), .val (.int vb), .val (.int vc), .val (.ref b1031), .val (.ref b1041), .val (.int (2 : Int32)), .val (.int (own_uo k769 vb)), .val (.int (own_pl k769 - own_pl vb)), .val (.int (own_pl vb - own_pl k769))] [(.int (own_sg (own_pl vb - own_pl k769)))]))
            refine g_iload X1076 hx hby at_195 rfl (pc' := 197) rfl ?_
            refine g_ineg X1076 hx hby at_197 (pc' := 198) rfl ?_
            refine g_icmp_ne X1076 hx hby at_198 (by decide) (pc' := 205) (by decide) (pc2 := 201) rfl (fun q => absurd (own_main2 rg769 rg_vb) q) (fun c198_1077 => ?_)
            refine g_iconst (v := 1) X1076 hx hby at_201 rfl (pc' := 202) rfl ?_
            refine g_goto X1076 hx hby at_202 (by decide) (pc' := 206) (by decide) ?_
            exact gw_retN X1076 hx hby hS hk1049 hret hlk (by simp) at_206 rfl (by decide) (by decide)
    refine g_if_eq X_vb hx hby at_56 (by decide) (pc' := 64) (by decide) (pc2 := 59) rfl (fun c56_1078 => ?_) (fun c56_1078 => ?_)
    · refine g_iload X_vb hx hby at_64 rfl (pc' := 66) rfl ?_
      refine g_callS (argsL := [(.int y4)]) (S := []) X_vb hx hby hZ (y := (⟨"com/example/urutan/urutan/build/CodePointOrderComparePinLaw", "draw", "(I)C"⟩ : MethodName)) hown (hw _ (List.mem_of_getElem? (i := 0) rfl)) (hw _ (List.mem_of_getElem? (i := 1) rfl)) (hw _ (List.mem_of_getElem? (i := 2) rfl)) (hw _ (List.mem_of_getElem? (i := 3) rfl)) (by decide) (own_dr l Z a0 hw (y4) h0 n0) (by rw [hml]; rfl) (lenOf own_pd17 rfl) rfl at_66 (by decide) (W := 0) (by exact Nat.le_of_eq rfl) (by decide) (by decide) (by decide) (pc' := 69) rfl (fun T1079 v1079 X1079 hQ1079 => ?_)
      obtain ⟨k1079, rfl, rg1079, e1079⟩ := hQ1079
      rw [e1079] at X1079
      show Gl p e below n0 _ _ (T1079.setTop (mkF m 69 #[.val (.int y0), .val (.int y1), .val (.int y2), .val (.int y3), .val (.int y4), .val (.int ((y0 &&& (15 : Int32)) % (3 : Int32))), .val (.int ((((y0.toUInt32 >>> ((4 : Int32) &&& 31).toUInt32).toInt32) &&& (15 : Int32)) % (3 : Int32))), .val (.int k769), .val (.int k770), .val (.int vb), .unset, .unset, .unset, .unset, .unset, .unset, .unset] [(.int k1079)]))
      exact J69 _ _ rg1079 X1079
    · refine g_iload X_vb hx hby at_59 rfl (pc' := 61) rfl ?_
      refine g_goto X_vb hx hby at_61 (by decide) (pc' := 69) (by decide) ?_
      exact J69 _ _ rg770 X_vb
  refine g_if_eq X770 hx hby at_36 (by decide) (pc' := 44) (by decide) (pc2 := 39) rfl (fun c36_1080 => ?_) (fun c36_1080 => ?_)
  · refine g_iloadN X770 hx hby at_44 rfl (pc' := 45) rfl ?_
    refine g_callS (argsL := [(.int y3)]) (S := []) X770 hx hby hZ (y := (⟨"com/example/urutan/urutan/build/CodePointOrderComparePinLaw", "draw", "(I)C"⟩ : MethodName)) hown (hw _ (List.mem_of_getElem? (i := 0) rfl)) (hw _ (List.mem_of_getElem? (i := 1) rfl)) (hw _ (List.mem_of_getElem? (i := 2) rfl)) (hw _ (List.mem_of_getElem? (i := 3) rfl)) (by decide) (own_dr l Z a0 hw (y3) h0 n0) (by rw [hml]; rfl) (lenOf own_pd17 rfl) rfl at_45 (by decide) (W := 0) (by exact Nat.le_of_eq rfl) (by decide) (by decide) (by decide) (pc' := 48) rfl (fun T1081 v1081 X1081 hQ1081 => ?_)
    obtain ⟨k1081, rfl, rg1081, e1081⟩ := hQ1081
    rw [e1081] at X1081
    show Gl p e below n0 _ _ (T1081.setTop (mkF m 48 #[.val (.int y0), .val (.int y1), .val (.int y2), .val (.int y3), .val (.int y4), .val (.int ((y0 &&& (15 : Int32)) % (3 : Int32))), .val (.int ((((y0.toUInt32 >>> ((4 : Int32) &&& 31).toUInt32).toInt32) &&& (15 : Int32)) % (3 : Int32))), .val (.int k769), .val (.int k770), .unset, .unset, .unset, .unset, .unset, .unset, .unset, .unset] [(.int k1081)]))
    exact J48 _ _ rg1081 X1081
  · refine g_iload X770 hx hby at_39 rfl (pc' := 41) rfl ?_
    refine g_goto X770 hx hby at_41 (by decide) (pc' := 48) (by decide) ?_
    exact J48 _ _ rg769 X770
theorem own_eq_int {args : Array Value} {s : State} {t : Term} {k : Int32} (h : (Jvm.Cond.eq t (.int k)).value args s none s [] = some true) : t.eval args s none [] s = some (.int k) := by
  obtain ⟨x, y, hx, hy, k1, k2⟩ := cmp_v (Or.inl h)
  obtain rfl : y = .int k := (Option.some.inj ((show (Term.int k).eval args s none [] s = some (.int k) from rfl).symm.trans hy)).symm
  obtain ⟨z, rfl⟩ : ∃ z, x = .int z := k2
  simp [Cond.value, hx, hy] at h
  rw [hx, h]
set_option maxRecDepth 65536 in
set_option maxHeartbeats 40000000 in
theorem comes_1 {Post : Tables → Env → Array Value → State → Outcome → State → Prop} (hpost : ∀ tb e args s v u, (limb_1_1.after args s (.returned v) u = true ∧ limb_1_2.after args s (.returned v) u = true ∧ True) → ReturnedEndW s (.returned v) u (Jvm.fieldLocs frame_1_writes args s ++ Jvm.arrayLocs frame_1_arrays args s ++ Jvm.staticLocs frame_1_statics s) 32 1152 → Post tb e args s (.returned v) u) :
    ArmFor flags0 classFile x code maxLocals ret World_1 tables_1 room_1 Calls_1 rest_1 Pre_1 Post := by
  intro l hfl _ _ p e ha hc hk s m args below hf hA hF happ hP
  obtain ⟨hcalls, hrest, hpre⟩ := hP
  obtain ⟨-, -, -, hnamed, -, -, -, hat⟩ := (Spec.applies_iff hf).mp happ
  obtain ⟨hg, hn⟩ := and_e (Cond.before_iff.mp (show (Jvm.Cond.and given_1 narrow_1).before args s = true from hpre))
  obtain ⟨hcount, hg0⟩ := and_e hg
  obtain ⟨w0, w1, w2, w3, w4, rfl⟩ : ∃ w0 w1 w2 w3 w4 : Value, args = #[w0, w1, w2, w3, w4] := by
    have hs : args.size = 5 := by simpa [Cond.value, given_1] using hcount
    obtain ⟨L⟩ := args
    match L, hs with
    | [w0, w1, w2, w3, w4], _ => exact ⟨w0, w1, w2, w3, w4, rfl⟩
  have hw := fun d (hd : d ∈ tables_1) => atoms_spec (ws := Jvm.Cond.code x code maxLocals ret :: tables_1) hat d (List.mem_cons_of_mem _ hd)
  have hfit : Fit s := fun {y c} hc i hi => by
    obtain ⟨ha, rfl⟩ := Array.getElem?_eq_some_iff.mp hc
    have q := List.all_eq_true.mp ((Array.all_eq_true_iff_forall_mem.mp hF) _ (Array.getElem_mem ha)) i (List.mem_range.mpr hi)
    simpa [Array.getElem?_eq_getElem hi] using q
  obtain ⟨hk0, hg1⟩ := and_e hg0
  obtain ⟨i0, e0⟩ := is_v hk0
  obtain rfl : w0 = (.int i0) := Option.some.inj e0
  obtain ⟨hk1, hg2⟩ := and_e hg1
  obtain ⟨i1, e1⟩ := is_v hk1
  obtain rfl : w1 = (.int i1) := Option.some.inj e1
  obtain ⟨hk2, hg3⟩ := and_e hg2
  obtain ⟨i2, e2⟩ := is_v hk2
  obtain rfl : w2 = (.int i2) := Option.some.inj e2
  obtain ⟨hk3, hg4⟩ := and_e hg3
  obtain ⟨i3, e3⟩ := is_v hk3
  obtain rfl : w3 = (.int i3) := Option.some.inj e3
  obtain ⟨i4, e4⟩ := is_v hg4
  obtain rfl : w4 = (.int i4) := Option.some.inj e4
  have hr := (atoms_of _ (show (jdkStatics_1.foldr Jvm.Cond.and restOwn_1).before _ s = true from (rest_1_c_eq ▸ (show rest_1_c.before _ s = true from hrest)))).1
  obtain ⟨cs, ecs⟩ := is_v (Cond.before_iff.mp (hr _ (List.mem_of_getElem? (i := 1) rfl)))
  have Sc := Sta.start ecs (Or.inl (hr _ (List.mem_of_getElem? (i := 0) rfl)))
  have hcs : ¬ cs = 0 := gotF (Cond.eq_ints ecs (by rfl)) (not_v (Cond.before_iff.mp (hr _ (List.mem_of_getElem? (i := 2) rfl))))
  obtain ⟨fm, efm, hfm⟩ := isR_v (Cond.before_iff.mp (hr _ (List.mem_of_getElem? (i := 8) rfl)))
  have Sf := Sta.start efm (Or.inl (hr _ (List.mem_of_getElem? (i := 7) rfl)))
  have Sd := Sta.start (own_eq_int (Cond.before_iff.mp (hr _ (List.mem_of_getElem? (i := 12) rfl)))) (Or.inl (hr _ (List.mem_of_getElem? (i := 11) rfl)))
  have Sh := Sta.start (own_eq_int (Cond.before_iff.mp (hr _ (List.mem_of_getElem? (i := 15) rfl)))) (Or.inl (hr _ (List.mem_of_getElem? (i := 14) rfl)))
  have Sl := Sta.start (own_eq_int (Cond.before_iff.mp (hr _ (List.mem_of_getElem? (i := 18) rfl)))) (Or.inl (hr _ (List.mem_of_getElem? (i := 17) rfl)))
  have hcw : Jvm.Lit.compactW.before #[Value.int i0, Value.int i1, Value.int i2, Value.int i3, Value.int i4] s = true := hr _ (List.mem_of_getElem? (i := 2) rfl)
  have hCH : CHv s own_EL s.vm s.heap := CHv.start (own_hEL hw) (fun p hp => hcalls.1 p hp) hcw (hw _ (List.mem_of_getElem? (i := 23) rfl)) (hw _ (List.mem_of_getElem? (i := 9) rfl))
  obtain ⟨n, o, h1, h2, h3, _, L, rfl, ⟨rfl, N⟩, hq⟩ := own_rm0 l s _ hw i0 i1 i2 i3 i4 s.heap s.heap.size (Nat.le_refl _) hCH cs Sc hcs fm Sf hfm Sd Sh Sl p e ha hc hk s m _ below hf ((Spec.applies_iff_loose hf).mp happ).1 ⟨rfl, rfl, rfl⟩ trivial
  exact ⟨n, _, h1, h2, h3, hpost _ _ _ _ _ _ ⟨Cond.after_iff.mpr rfl, Cond.after_iff.mpr (eq_i res_at (Term.int_eval (1)) rfl), trivial⟩ ⟨hq.1, hq.2.1, hq.2.2.1, (hq.2.2.2.sift fun y hy => Or.inr (N y hy)).mono (by decide) (by decide)⟩⟩
theorem main_1_1 : Claimed_1_1 := comes_1 fun _ _ _ _ _ _ h hF => ⟨h.1, hF⟩
theorem main_1_2 : Claimed_1_2 := comes_1 fun _ _ _ _ _ _ h hF => ⟨h.2.1, hF⟩
end Jvm.Pilot.@@N@@
namespace Jvm.Pilot.@@N@@
open Jvm Jvm.ClassFile Sem Op Lib Jvm.Free Jvm.Stand Jvm.Pilot.@@N@@.Jvm.D
/-! MADE BY PROGRAM (witnessworld.py) out of the Statement's table words and the real class files: 21 classes; the members and pool entries that the words name. The judged class is class 1, her method 1. -/
namespace start1
open Jvm.ClassFile
def u (s : String) : CpInfo := .utf8 (stringToUtf16 s)
/-- a pool by its gaps: so many unusable entries, then the entry; so many at the end -/
def gap : Nat → List CpInfo → List CpInfo
  | 0, r => r
  | n + 1, r => .unusable :: gap n r
def poolList (es : List (Nat × CpInfo)) (last : Nat) : List CpInfo := es.foldr (fun e r => gap e.1 (e.2 :: r)) (gap last [])
def pool (es : List (Nat × CpInfo)) (last : Nat) : Array CpInfo := ⟨poolList es last⟩
def fileOf (pool : Array CpInfo) (this : Nat) (attrs : Array Attribute := #[]) (ms : Array MethodInfo := #[]) (fl : Nat := 33) (sup : Nat := 0) (ifs : Array Nat := #[]) (fds : Array FieldInfo := #[]) : ClassFile where
  minorVersion := 0
  majorVersion := 65
  constantPool := pool
  accessFlags := fl
  thisClass := this
  superClass := sup
  interfaces := ifs
  fields := fds
  methods := ms
  attributes := attrs
def plain (name : String) (sup : Option ClassId) : Class where
  name := name
  kind := .ordinary
  loader := none
  accessFlags := 33
  super := sup
  interfaces := #[]
  cf := none
  fields := #[]
  methods := #[]
  instanceTypes := #[]
  staticTypes := #[]
  resolved := #[]
  callSites := []
  init := .initialized
  statics := none
  mirror := none

def pool0 : Array CpInfo := pool [(5, u "<init>"), (0, u "()V"), (1, .class_ 10), (1, u "java/lang/Object")] 113

def k0c0 : Code := { maxStack := 0, maxLocals := 1, code := object_method_1_code, exceptionTable := #[], attributes := #[] }
def k0m0 : Method := { name := "<init>", desc := "()V", sig := { parameters := [], returnType := none }, accessFlags := 1, code := some k0c0 }
/-- java/lang/Object -/
def k0 : Class := { plain "java/lang/Object" none with
  accessFlags := 33
  interfaces := #[]
  cf := some (fileOf pool0 8 #[] #[{ accessFlags := 1, nameIndex := 5, descriptorIndex := 6, attributes := #[] }] 33 0 #[] #[])
  fields := #[]
  methods := #[k0m0]
  instanceTypes := #[]
  staticTypes := #[]
  resolved := Array.replicate 124 none
  statics := none }

def pool1 : Array CpInfo := pool [(2, .class_ 4), (1, u "java/lang/Object"), (0, u "<init>"), (0, u "()V"), (0, .methodref 8 9), (0, .class_ 10), (0, .nameAndType 11 12), (0, u "com/example/urutan/urutan/build/CodePointOrderComparePinLaw"), (0, u "draw"), (0, u "(I)C"), (0, .methodref 8 14), (0, .nameAndType 15 16), (0, u "mk"), (0, u "(ICC)Ljava/lang/String;"), (0, .methodref 18 19), (0, .class_ 20), (0, .nameAndType 21 22), (0, u "java/lang/Math"), (0, u "min"), (0, u "(II)I"), (0, .methodref 8 24), (0, .nameAndType 25 26), (0, u "unitOrder"), (0, u "(CC)I"), (0, .methodref 8 28), (0, .nameAndType 29 30), (0, u "sign"), (0, u "(I)I"), (0, .methodref 32 33), (0, .class_ 34), (0, .nameAndType 35 36), (0, u "com/example/urutan/urutan/build/CodePointOrder"), (0, u "compare"), (0, u "(Ljava/lang/String;Ljava/lang/String;)I"), (0, .integer 65535), (0, .integer 55296), (0, .integer 57344), (0, .integer 53248), (0, .class_ 42), (0, u "java/lang/String"), (0, .methodref 41 44), (0, .nameAndType 5 45), (0, u "([C)V"), (0, .methodref 8 47), (0, .nameAndType 48 49), (0, u "rank"), (0, u "(C)I"), (2, u "law"), (0, u "(IIIII)Z")] 3

def k1m0 : Method := { name := "<init>", desc := "()V", sig := { parameters := [], returnType := none }, accessFlags := 1, code := none }
def k1c1 : Code := { maxStack := 3, maxLocals := 17, code := code, exceptionTable := #[], attributes := #[] }
def k1m1 : Method := { name := "law", desc := "(IIIII)Z", sig := { parameters := [.int, .int, .int, .int, .int], returnType := some .boolean }, accessFlags := 9, code := some k1c1 }
def k1c2 : Code := { maxStack := 3, maxLocals := 3, code := method_3_code, exceptionTable := #[], attributes := #[] }
def k1m2 : Method := { name := "draw", desc := "(I)C", sig := { parameters := [.int], returnType := some .char }, accessFlags := 10, code := some k1c2 }
def k1c3 : Code := { maxStack := 6, maxLocals := 3, code := method_4_code, exceptionTable := #[], attributes := #[] }
def k1m3 : Method := { name := "mk", desc := "(ICC)Ljava/lang/String;", sig := { parameters := [.int, .char, .char], returnType := some (.object "java/lang/String") }, accessFlags := 10, code := some k1c3 }
def k1c4 : Code := { maxStack := 2, maxLocals := 1, code := method_5_code, exceptionTable := #[], attributes := #[] }
def k1m4 : Method := { name := "rank", desc := "(C)I", sig := { parameters := [.char], returnType := some .int }, accessFlags := 10, code := some k1c4 }
def k1c5 : Code := { maxStack := 2, maxLocals := 4, code := method_6_code, exceptionTable := #[], attributes := #[] }
def k1m5 : Method := { name := "unitOrder", desc := "(CC)I", sig := { parameters := [.char, .char], returnType := some .int }, accessFlags := 10, code := some k1c5 }
def k1c6 : Code := { maxStack := 1, maxLocals := 1, code := method_7_code, exceptionTable := #[], attributes := #[] }
def k1m6 : Method := { name := "sign", desc := "(I)I", sig := { parameters := [.int], returnType := some .int }, accessFlags := 10, code := some k1c6 }
/-- com/example/urutan/urutan/build/CodePointOrderComparePinLaw -/
def k1 : Class := { plain "com/example/urutan/urutan/build/CodePointOrderComparePinLaw" (some 0) with
  accessFlags := 49
  interfaces := #[]
  cf := some (fileOf pool1 8 #[] #[{ accessFlags := 1, nameIndex := 5, descriptorIndex := 6, attributes := #[] }, { accessFlags := 9, nameIndex := 52, descriptorIndex := 53, attributes := #[] }, { accessFlags := 10, nameIndex := 11, descriptorIndex := 12, attributes := #[] }, { accessFlags := 10, nameIndex := 15, descriptorIndex := 16, attributes := #[] }, { accessFlags := 10, nameIndex := 48, descriptorIndex := 49, attributes := #[] }, { accessFlags := 10, nameIndex := 25, descriptorIndex := 26, attributes := #[] }, { accessFlags := 10, nameIndex := 29, descriptorIndex := 30, attributes := #[] }] 49 2 #[] #[])
  fields := #[]
  methods := #[k1m0, k1m1, k1m2, k1m3, k1m4, k1m5, k1m6]
  instanceTypes := #[]
  staticTypes := #[]
  resolved := Array.replicate 57 none
  statics := none }

def pool2 : Array CpInfo := pool [(1, .class_ 2), (0, u "java/io/Serializable"), (0, .class_ 4), (0, u "java/lang/Object")] 2

/-- java/io/Serializable -/
def k2 : Class := { plain "java/io/Serializable" (some 0) with
  accessFlags := 1537
  interfaces := #[]
  cf := some (fileOf pool2 1 #[] #[] 1537 3 #[] #[])
  fields := #[]
  methods := #[]
  instanceTypes := #[]
  staticTypes := #[]
  resolved := Array.replicate 7 none
  statics := none }

def pool3 : Array CpInfo := pool [(1, .class_ 2), (0, u "java/lang/Comparable"), (0, .class_ 4), (0, u "java/lang/Object")] 7

/-- java/lang/Comparable -/
def k3 : Class := { plain "java/lang/Comparable" (some 0) with
  accessFlags := 1537
  interfaces := #[]
  cf := some (fileOf pool3 1 #[] #[] 1537 3 #[] #[])
  fields := #[]
  methods := #[]
  instanceTypes := #[]
  staticTypes := #[]
  resolved := Array.replicate 12 none
  statics := none }

def pool4 : Array CpInfo := pool [(2, .class_ 4), (1, u "java/lang/CharSequence"), (42, .class_ 48), (0, u "java/lang/CharSequence$1CodePointIterator"), (10, .class_ 60), (0, u "java/lang/CharSequence$1CharIterator"), (5, .class_ 67), (0, u "java/lang/Object")] 63

/-- java/lang/CharSequence -/
def k4 : Class := { plain "java/lang/CharSequence" (some 0) with
  accessFlags := 1537
  interfaces := #[]
  cf := some (fileOf pool4 2 #[.nestMembers #[47, 59]] #[] 1537 66 #[] #[])
  fields := #[]
  methods := #[]
  instanceTypes := #[]
  staticTypes := #[]
  resolved := Array.replicate 131 none
  statics := none }

def pool5 : Array CpInfo := pool [(1, .class_ 2), (0, u "java/lang/constant/Constable"), (0, .class_ 4), (0, u "java/lang/Object")] 6

/-- java/lang/constant/Constable -/
def k5 : Class := { plain "java/lang/constant/Constable" (some 0) with
  accessFlags := 1537
  interfaces := #[]
  cf := some (fileOf pool5 1 #[] #[] 1537 3 #[] #[])
  fields := #[]
  methods := #[]
  instanceTypes := #[]
  staticTypes := #[]
  resolved := Array.replicate 11 none
  statics := none }

def pool6 : Array CpInfo := pool [(1, .class_ 2), (0, u "java/lang/constant/ConstantDesc"), (0, .class_ 4), (0, u "java/lang/Object")] 32

/-- java/lang/constant/ConstantDesc -/
def k6 : Class := { plain "java/lang/constant/ConstantDesc" (some 0) with
  accessFlags := 1537
  interfaces := #[]
  cf := some (fileOf pool6 1 #[] #[] 1537 3 #[] #[])
  fields := #[]
  methods := #[]
  instanceTypes := #[]
  staticTypes := #[]
  resolved := Array.replicate 37 none
  statics := none }

def pool7 : Array CpInfo := pool [(1, .methodref 2 3), (0, .class_ 4), (0, .nameAndType 5 6), (0, u "java/lang/Object"), (0, u "<init>"), (0, u "()V"), (0, .string 8), (0, u ""), (0, .fieldref 10 11), (0, .class_ 12), (0, .nameAndType 13 14), (0, u "java/lang/String"), (0, u "value"), (0, u "[B"), (0, .fieldref 10 16), (0, .nameAndType 17 18), (0, u "coder"), (0, u "B"), (2, u "hash"), (0, u "I"), (2, u "hashIsZero"), (0, u "Z"), (0, .methodref 10 28), (0, .nameAndType 5 29), (0, u "([CIILjava/lang/Void;)V"), (8, .fieldref 10 39), (0, .nameAndType 40 26), (0, u "COMPACT_STRINGS"), (1, .class_ 44), (1, u "java/lang/StringUTF16"), (0, u "compress"), (1, .methodref 42 48), (0, .nameAndType 49 50), (0, u "coderFromArrayLen"), (0, u "([BI)B"), (56, .class_ 109), (1, u "java/lang/StringLatin1"), (32, u "()Z"), (34, .methodref 42 178), (0, .nameAndType 45 179), (0, u "([CII)[B"), (154, u "()I"), (0, .methodref 10 336), (0, .nameAndType 17 337), (0, u "()B"), (25, u "([BI)C"), (27, u "(II)V"), (35, u "(I)C"), (64, .methodref 10 493), (0, .nameAndType 494 142), (0, u "isLatin1"), (0, .methodref 107 496), (0, .nameAndType 497 363), (0, u "charAt"), (0, .methodref 42 496), (2, u "checkIndex"), (5, u "length"), (67, .class_ 576), (0, u "java/lang/CharSequence"), (22, u "CASE_INSENSITIVE_ORDER"), (0, u "Ljava/util/Comparator;"), (409, u "([C)V"), (42, .fieldref 1054 1055), (0, .class_ 1056), (0, .nameAndType 1057 1058), (0, u "jdk/internal/util/Preconditions"), (0, u "SIOOBE_FORMATTER"), (0, u "Ljava/util/function/BiFunction;"), (0, .methodref 1054 1060), (0, .nameAndType 501 1061), (0, u "(IILjava/util/function/BiFunction;)I"), (39, u "serialPersistentFields"), (0, u "[Ljava/io/ObjectStreamField;"), (0, .class_ 1104), (0, u "java/lang/String$CaseInsensitiveComparator"), (1, .class_ 1107), (0, u "java/io/Serializable"), (0, .class_ 1109), (0, u "java/lang/Comparable"), (0, .class_ 1111), (0, u "java/lang/constant/Constable"), (0, .class_ 1113), (0, u "java/lang/constant/ConstantDesc"), (2, u "serialVersionUID"), (0, u "J"), (3, u "REPL"), (0, u "C"), (2, u "LATIN1"), (1, u "UTF16")] 323

def k7m0 : Method := { name := "<init>", desc := "()V", sig := { parameters := [], returnType := none }, accessFlags := 1, code := none }
def k7c1 : Code := { maxStack := 5, maxLocals := 2, code := jdk_42_method_3_code, exceptionTable := #[], attributes := #[] }
def k7m1 : Method := { name := "<init>", desc := "([C)V", sig := { parameters := [(.array .char)], returnType := none }, accessFlags := 1, code := some k7c1 }
def k7c2 : Code := { maxStack := 2, maxLocals := 1, code := jdk_42_method_54_code, exceptionTable := #[], attributes := #[] }
def k7m2 : Method := { name := "length", desc := "()I", sig := { parameters := [], returnType := some .int }, accessFlags := 1, code := some k7c2 }
def k7c3 : Code := { maxStack := 2, maxLocals := 2, code := jdk_42_method_56_code, exceptionTable := #[], attributes := #[] }
def k7m3 : Method := { name := "charAt", desc := "(I)C", sig := { parameters := [.int], returnType := some .char }, accessFlags := 1, code := some k7c3 }
def k7c4 : Code := { maxStack := 4, maxLocals := 6, code := jdk_42_method_149_code, exceptionTable := #[], attributes := #[] }
def k7m4 : Method := { name := "<init>", desc := "([CIILjava/lang/Void;)V", sig := { parameters := [(.array .char), .int, .int, (.object "java/lang/Void")], returnType := none }, accessFlags := 2, code := some k7c4 }
def k7c5 : Code := { maxStack := 1, maxLocals := 1, code := jdk_42_method_152_code, exceptionTable := #[], attributes := #[] }
def k7m5 : Method := { name := "coder", desc := "()B", sig := { parameters := [], returnType := some .byte }, accessFlags := 0, code := some k7c5 }
def k7c6 : Code := { maxStack := 1, maxLocals := 1, code := jdk_42_method_154_code, exceptionTable := #[], attributes := #[] }
def k7m6 : Method := { name := "isLatin1", desc := "()Z", sig := { parameters := [], returnType := some .boolean }, accessFlags := 0, code := some k7c6 }
def k7c7 : Code := { maxStack := 3, maxLocals := 2, code := jdk_42_method_155_code, exceptionTable := #[], attributes := #[] }
def k7m7 : Method := { name := "checkIndex", desc := "(II)V", sig := { parameters := [.int, .int], returnType := none }, accessFlags := 8, code := some k7c7 }
/-- java/lang/String -/
def k7 : Class := { plain "java/lang/String" (some 0) with
  accessFlags := 49
  interfaces := #[2, 3, 4, 5, 6]
  cf := some (fileOf pool7 10 #[.nestMembers #[1103]] #[{ accessFlags := 1, nameIndex := 5, descriptorIndex := 6, attributes := #[] }, { accessFlags := 1, nameIndex := 5, descriptorIndex := 1010, attributes := #[] }, { accessFlags := 1, nameIndex := 507, descriptorIndex := 334, attributes := #[] }, { accessFlags := 1, nameIndex := 497, descriptorIndex := 427, attributes := #[] }, { accessFlags := 2, nameIndex := 5, descriptorIndex := 29, attributes := #[] }, { accessFlags := 0, nameIndex := 17, descriptorIndex := 337, attributes := #[] }, { accessFlags := 0, nameIndex := 494, descriptorIndex := 142, attributes := #[] }, { accessFlags := 8, nameIndex := 501, descriptorIndex := 391, attributes := #[] }] 49 2 #[1106, 1108, 575, 1110, 1112] #[{ accessFlags := 18, nameIndex := 13, descriptorIndex := 14, attributes := #[] }, { accessFlags := 18, nameIndex := 17, descriptorIndex := 18, attributes := #[] }, { accessFlags := 2, nameIndex := 21, descriptorIndex := 22, attributes := #[] }, { accessFlags := 2, nameIndex := 25, descriptorIndex := 26, attributes := #[] }, { accessFlags := 26, nameIndex := 1116, descriptorIndex := 1117, attributes := #[] }, { accessFlags := 24, nameIndex := 40, descriptorIndex := 26, attributes := #[] }, { accessFlags := 26, nameIndex := 1101, descriptorIndex := 1102, attributes := #[] }, { accessFlags := 26, nameIndex := 1121, descriptorIndex := 1122, attributes := #[] }, { accessFlags := 25, nameIndex := 599, descriptorIndex := 600, attributes := #[] }, { accessFlags := 24, nameIndex := 1125, descriptorIndex := 18, attributes := #[] }, { accessFlags := 24, nameIndex := 1127, descriptorIndex := 18, attributes := #[] }])
  fields := #[{ name := "value", type := (.array .byte), accessFlags := 18, slot := 0, constantValue := 0 }, { name := "coder", type := .byte, accessFlags := 18, slot := 1, constantValue := 0 }, { name := "hash", type := .int, accessFlags := 2, slot := 2, constantValue := 0 }, { name := "hashIsZero", type := .boolean, accessFlags := 2, slot := 3, constantValue := 0 }, { name := "serialVersionUID", type := .long, accessFlags := 26, slot := 0, constantValue := 0 }, { name := "COMPACT_STRINGS", type := .boolean, accessFlags := 24, slot := 1, constantValue := 0 }, { name := "serialPersistentFields", type := (.array (.object "java/io/ObjectStreamField")), accessFlags := 26, slot := 2, constantValue := 0 }, { name := "REPL", type := .char, accessFlags := 26, slot := 3, constantValue := 0 }, { name := "CASE_INSENSITIVE_ORDER", type := (.object "java/util/Comparator"), accessFlags := 25, slot := 4, constantValue := 0 }, { name := "LATIN1", type := .byte, accessFlags := 24, slot := 5, constantValue := 0 }, { name := "UTF16", type := .byte, accessFlags := 24, slot := 6, constantValue := 0 }]
  methods := #[k7m0, k7m1, k7m2, k7m3, k7m4, k7m5, k7m6, k7m7]
  instanceTypes := #[(.array .byte), .byte, .int, .boolean]
  staticTypes := #[.long, .boolean, (.array (.object "java/io/ObjectStreamField")), .char, (.object "java/util/Comparator"), .byte, .byte]
  resolved := Array.replicate 1451 none
  statics := some 0 }

def pool8 : Array CpInfo := pool [(1, .class_ 2), (0, u "java/lang/Math"), (1, .class_ 6), (1, u "java/lang/Object"), (0, u "<init>"), (0, u "()V"), (89, .class_ 100), (1, u "java/lang/Math$RandomNumberGeneratorHolder"), (71, u "negativeZeroFloatBits"), (0, u "J"), (2, u "negativeZeroDoubleBits"), (24, u "min"), (43, u "$assertionsDisabled"), (0, u "Z"), (88, u "(II)I"), (2, u "twoToTheDoubleScaleDown"), (0, u "D"), (4, u "twoToTheDoubleScaleUp"), (9, u "E"), (3, u "PI"), (2, u "TAU"), (2, u "DEGREES_TO_RADIANS"), (0, u "RADIANS_TO_DEGREES")] 94

def k8m0 : Method := { name := "<init>", desc := "()V", sig := { parameters := [], returnType := none }, accessFlags := 2, code := none }
def k8c1 : Code := { maxStack := 2, maxLocals := 2, code := jdk_29_method_69_code, exceptionTable := #[], attributes := #[] }
def k8m1 : Method := { name := "min", desc := "(II)I", sig := { parameters := [.int, .int], returnType := some .int }, accessFlags := 9, code := some k8c1 }
/-- java/lang/Math -/
def k8 : Class := { plain "java/lang/Math" (some 0) with
  accessFlags := 49
  interfaces := #[]
  cf := some (fileOf pool8 1 #[.nestMembers #[98]] #[{ accessFlags := 2, nameIndex := 7, descriptorIndex := 8, attributes := #[] }, { accessFlags := 9, nameIndex := 201, descriptorIndex := 335, attributes := #[] }] 49 4 #[] #[{ accessFlags := 25, nameIndex := 354, descriptorIndex := 339, attributes := #[] }, { accessFlags := 25, nameIndex := 358, descriptorIndex := 339, attributes := #[] }, { accessFlags := 25, nameIndex := 361, descriptorIndex := 339, attributes := #[] }, { accessFlags := 26, nameIndex := 364, descriptorIndex := 339, attributes := #[] }, { accessFlags := 26, nameIndex := 365, descriptorIndex := 339, attributes := #[] }, { accessFlags := 26, nameIndex := 172, descriptorIndex := 173, attributes := #[] }, { accessFlags := 26, nameIndex := 176, descriptorIndex := 173, attributes := #[] }, { accessFlags := 8, nameIndex := 344, descriptorIndex := 339, attributes := #[] }, { accessFlags := 8, nameIndex := 338, descriptorIndex := 339, attributes := #[] }, { accessFlags := 4120, nameIndex := 245, descriptorIndex := 246, attributes := #[] }])
  fields := #[{ name := "E", type := .double, accessFlags := 25, slot := 0, constantValue := 0 }, { name := "PI", type := .double, accessFlags := 25, slot := 1, constantValue := 0 }, { name := "TAU", type := .double, accessFlags := 25, slot := 2, constantValue := 0 }, { name := "DEGREES_TO_RADIANS", type := .double, accessFlags := 26, slot := 3, constantValue := 0 }, { name := "RADIANS_TO_DEGREES", type := .double, accessFlags := 26, slot := 4, constantValue := 0 }, { name := "negativeZeroFloatBits", type := .long, accessFlags := 26, slot := 5, constantValue := 0 }, { name := "negativeZeroDoubleBits", type := .long, accessFlags := 26, slot := 6, constantValue := 0 }, { name := "twoToTheDoubleScaleUp", type := .double, accessFlags := 8, slot := 7, constantValue := 0 }, { name := "twoToTheDoubleScaleDown", type := .double, accessFlags := 8, slot := 8, constantValue := 0 }, { name := "$assertionsDisabled", type := .boolean, accessFlags := 4120, slot := 9, constantValue := 0 }]
  methods := #[k8m0, k8m1]
  instanceTypes := #[]
  staticTypes := #[.double, .double, .double, .double, .double, .long, .long, .double, .double, .boolean]
  resolved := Array.replicate 460 none
  statics := none }

def pool9 : Array CpInfo := pool [(2, .class_ 4), (1, u "java/lang/Object"), (0, u "<init>"), (0, u "()V"), (0, .methodref 8 9), (0, .class_ 10), (0, .nameAndType 11 12), (0, u "java/lang/String"), (0, u "length"), (0, u "()I"), (0, .methodref 14 15), (0, .class_ 16), (0, .nameAndType 17 18), (0, u "java/lang/Math"), (0, u "min"), (0, u "(II)I"), (0, .methodref 8 20), (0, .nameAndType 21 22), (0, u "charAt"), (0, u "(I)C"), (0, .methodref 24 25), (0, .class_ 26), (0, .nameAndType 27 28), (0, u "com/example/urutan/urutan/build/CodePointOrder"), (0, u "place"), (0, u "(C)I"), (0, .integer 57344), (0, .integer 55296), (2, u "compare"), (3, u "ORDER"), (0, u "Ljava/util/Comparator;"), (4, u "(Ljava/lang/String;Ljava/lang/String;)I")] 24

def k9m0 : Method := { name := "<init>", desc := "()V", sig := { parameters := [], returnType := none }, accessFlags := 2, code := none }
def k9c1 : Code := { maxStack := 2, maxLocals := 6, code := prog_2_method_2_code, exceptionTable := #[], attributes := #[] }
def k9m1 : Method := { name := "compare", desc := "(Ljava/lang/String;Ljava/lang/String;)I", sig := { parameters := [(.object "java/lang/String"), (.object "java/lang/String")], returnType := some .int }, accessFlags := 9, code := some k9c1 }
def k9c2 : Code := { maxStack := 2, maxLocals := 2, code := prog_2_method_3_code, exceptionTable := #[], attributes := #[] }
def k9m2 : Method := { name := "place", desc := "(C)I", sig := { parameters := [.char], returnType := some .int }, accessFlags := 10, code := some k9c2 }
/-- com/example/urutan/urutan/build/CodePointOrder -/
def k9 : Class := { plain "com/example/urutan/urutan/build/CodePointOrder" (some 0) with
  accessFlags := 49
  interfaces := #[]
  cf := some (fileOf pool9 24 #[] #[{ accessFlags := 2, nameIndex := 5, descriptorIndex := 6, attributes := #[] }, { accessFlags := 9, nameIndex := 33, descriptorIndex := 43, attributes := #[] }, { accessFlags := 10, nameIndex := 27, descriptorIndex := 28, attributes := #[] }] 49 2 #[] #[{ accessFlags := 25, nameIndex := 37, descriptorIndex := 38, attributes := #[] }])
  fields := #[{ name := "ORDER", type := (.object "java/util/Comparator"), accessFlags := 25, slot := 0, constantValue := 0 }]
  methods := #[k9m0, k9m1, k9m2]
  instanceTypes := #[]
  staticTypes := #[(.object "java/util/Comparator")]
  resolved := Array.replicate 68 none
  statics := none }

def pool10 : Array CpInfo := pool [(3, .class_ 4), (0, u "java/lang/String"), (1, .class_ 8), (1, u "java/lang/Object"), (0, u "<init>"), (0, u "()V"), (0, .methodref 12 13), (0, .class_ 14), (0, .nameAndType 15 16), (0, u "java/lang/StringUTF16"), (0, u "newBytesLength"), (0, u "(I)I"), (3, .integer 1073741823), (23, .fieldref 12 45), (0, .nameAndType 46 47), (0, u "$assertionsDisabled"), (0, u "Z"), (0, .methodref 12 49), (0, .nameAndType 50 51), (0, u "length"), (0, u "([B)I"), (7, .fieldref 12 60), (0, .nameAndType 61 62), (0, u "HI_BYTE_SHIFT"), (0, u "I"), (0, .fieldref 12 64), (0, .nameAndType 65 62), (0, u "LO_BYTE_SHIFT"), (1, .methodref 12 68), (0, .nameAndType 69 70), (0, u "checkIndex"), (0, u "(I[B)V"), (0, .methodref 12 72), (0, .nameAndType 73 74), (0, u "getChar"), (0, u "([BI)C"), (32, .methodref 12 108), (0, .nameAndType 109 110), (0, u "newBytesFor"), (0, u "(I)[B"), (0, .methodref 12 112), (0, .nameAndType 113 114), (0, u "putChar"), (0, u "([BII)V"), (0, .methodref 12 116), (0, .nameAndType 117 118), (0, u "compress"), (0, u "([CI[BII)I"), (0, .methodref 12 120), (0, .nameAndType 121 122), (0, u "toBytes"), (0, u "([CII)[B"), (138, u "coderFromArrayLen"), (0, u "([BI)B"), (106, .class_ 371), (1, u "java/lang/StringUTF16$LinesSpliterator"), (20, u "charAt"), (21, .methodref 3 415), (0, .nameAndType 69 416), (0, u "(II)V"), (13, u "MAX_LENGTH"), (196, .class_ 628), (0, u "java/lang/StringUTF16$CodePointsSpliterator"), (0, .class_ 630), (0, u "java/lang/StringUTF16$CharsSpliterator")] 4

def k10m0 : Method := { name := "<init>", desc := "()V", sig := { parameters := [], returnType := none }, accessFlags := 0, code := none }
def k10c1 : Code := { maxStack := 1, maxLocals := 1, code := jdk_52_method_2_code, exceptionTable := #[], attributes := #[] }
def k10m1 : Method := { name := "newBytesFor", desc := "(I)[B", sig := { parameters := [.int], returnType := some (.array .byte) }, accessFlags := 9, code := some k10c1 }
def k10c2 : Code := { maxStack := 4, maxLocals := 1, code := jdk_52_method_3_code, exceptionTable := #[], attributes := #[] }
def k10m2 : Method := { name := "newBytesLength", desc := "(I)I", sig := { parameters := [.int], returnType := some .int }, accessFlags := 9, code := some k10c2 }
def k10c3 : Code := { maxStack := 4, maxLocals := 3, code := jdk_52_method_4_code, exceptionTable := #[], attributes := #[] }
def k10m3 : Method := { name := "putChar", desc := "([BII)V", sig := { parameters := [(.array .byte), .int, .int], returnType := none }, accessFlags := 8, code := some k10c3 }
def k10c4 : Code := { maxStack := 3, maxLocals := 2, code := jdk_52_method_5_code, exceptionTable := #[], attributes := #[] }
def k10m4 : Method := { name := "getChar", desc := "([BI)C", sig := { parameters := [(.array .byte), .int], returnType := some .char }, accessFlags := 8, code := some k10c4 }
def k10c5 : Code := { maxStack := 2, maxLocals := 1, code := jdk_52_method_6_code, exceptionTable := #[], attributes := #[] }
def k10m5 : Method := { name := "length", desc := "([B)I", sig := { parameters := [(.array .byte)], returnType := some .int }, accessFlags := 9, code := some k10c5 }
def k10c6 : Code := { maxStack := 4, maxLocals := 5, code := jdk_52_method_14_code, exceptionTable := #[], attributes := #[] }
def k10m6 : Method := { name := "toBytes", desc := "([CII)[B", sig := { parameters := [(.array .char), .int, .int], returnType := some (.array .byte) }, accessFlags := 9, code := some k10c6 }
def k10c7 : Code := { maxStack := 2, maxLocals := 2, code := jdk_52_method_15_code, exceptionTable := #[], attributes := #[] }
def k10m7 : Method := { name := "coderFromArrayLen", desc := "([BI)B", sig := { parameters := [(.array .byte), .int], returnType := some .byte }, accessFlags := 8, code := some k10c7 }
def k10c8 : Code := { maxStack := 5, maxLocals := 6, code := jdk_52_method_16_code, exceptionTable := #[], attributes := #[] }
def k10m8 : Method := { name := "compress", desc := "([CII)[B", sig := { parameters := [(.array .char), .int, .int], returnType := some (.array .byte) }, accessFlags := 9, code := some k10c8 }
def k10c9 : Code := { maxStack := 3, maxLocals := 7, code := jdk_52_method_21_code, exceptionTable := #[], attributes := #[] }
def k10m9 : Method := { name := "compress", desc := "([CI[BII)I", sig := { parameters := [(.array .char), .int, (.array .byte), .int, .int], returnType := some .int }, accessFlags := 9, code := some k10c9 }
def k10c10 : Code := { maxStack := 2, maxLocals := 2, code := jdk_52_method_83_code, exceptionTable := #[], attributes := #[] }
def k10m10 : Method := { name := "charAt", desc := "([BI)C", sig := { parameters := [(.array .byte), .int], returnType := some .char }, accessFlags := 9, code := some k10c10 }
def k10c11 : Code := { maxStack := 2, maxLocals := 2, code := jdk_52_method_91_code, exceptionTable := #[], attributes := #[] }
def k10m11 : Method := { name := "checkIndex", desc := "(I[B)V", sig := { parameters := [.int, (.array .byte)], returnType := none }, accessFlags := 9, code := some k10c11 }
/-- java/lang/StringUTF16 -/
def k10 : Class := { plain "java/lang/StringUTF16" (some 0) with
  accessFlags := 48
  interfaces := #[]
  cf := some (fileOf pool10 12 #[.nestMembers #[627, 629, 369]] #[{ accessFlags := 0, nameIndex := 9, descriptorIndex := 10, attributes := #[] }, { accessFlags := 9, nameIndex := 109, descriptorIndex := 110, attributes := #[] }, { accessFlags := 9, nameIndex := 15, descriptorIndex := 16, attributes := #[] }, { accessFlags := 8, nameIndex := 113, descriptorIndex := 114, attributes := #[] }, { accessFlags := 8, nameIndex := 73, descriptorIndex := 74, attributes := #[] }, { accessFlags := 9, nameIndex := 50, descriptorIndex := 51, attributes := #[] }, { accessFlags := 9, nameIndex := 121, descriptorIndex := 122, attributes := #[] }, { accessFlags := 8, nameIndex := 261, descriptorIndex := 262, attributes := #[] }, { accessFlags := 9, nameIndex := 117, descriptorIndex := 122, attributes := #[] }, { accessFlags := 9, nameIndex := 117, descriptorIndex := 118, attributes := #[] }, { accessFlags := 9, nameIndex := 392, descriptorIndex := 74, attributes := #[] }, { accessFlags := 9, nameIndex := 69, descriptorIndex := 70, attributes := #[] }] 48 6 #[] #[{ accessFlags := 26, nameIndex := 61, descriptorIndex := 62, attributes := #[] }, { accessFlags := 26, nameIndex := 65, descriptorIndex := 62, attributes := #[] }, { accessFlags := 24, nameIndex := 430, descriptorIndex := 62, attributes := #[] }, { accessFlags := 4120, nameIndex := 46, descriptorIndex := 47, attributes := #[] }])
  fields := #[{ name := "HI_BYTE_SHIFT", type := .int, accessFlags := 26, slot := 0, constantValue := 0 }, { name := "LO_BYTE_SHIFT", type := .int, accessFlags := 26, slot := 1, constantValue := 0 }, { name := "MAX_LENGTH", type := .int, accessFlags := 24, slot := 2, constantValue := 0 }, { name := "$assertionsDisabled", type := .boolean, accessFlags := 4120, slot := 3, constantValue := 0 }]
  methods := #[k10m0, k10m1, k10m2, k10m3, k10m4, k10m5, k10m6, k10m7, k10m8, k10m9, k10m10, k10m11]
  instanceTypes := #[]
  staticTypes := #[.int, .int, .int, .boolean]
  resolved := Array.replicate 635 none
  statics := some 1 }

def pool11 : Array CpInfo := pool [(2, .class_ 4), (1, u "java/lang/Object"), (0, u "<init>"), (0, u "()V"), (17, .class_ 26), (1, u "jdk/internal/util/Preconditions"), (6, u "checkIndex"), (21, .class_ 56), (0, u "jdk/internal/util/Preconditions$4"), (57, .class_ 115), (0, u "jdk/internal/util/Preconditions$1"), (7, u "SIOOBE_FORMATTER"), (0, u "Ljava/util/function/BiFunction;"), (0, .class_ 126), (0, u "jdk/internal/util/Preconditions$2"), (3, u "AIOOBE_FORMATTER"), (0, .class_ 132), (0, u "jdk/internal/util/Preconditions$3"), (3, u "IOOBE_FORMATTER"), (41, u "(IILjava/util/function/BiFunction;)I")] 15

def k11m0 : Method := { name := "<init>", desc := "()V", sig := { parameters := [], returnType := none }, accessFlags := 1, code := none }
def k11c1 : Code := { maxStack := 3, maxLocals := 3, code := jdk_41_method_11_code, exceptionTable := #[], attributes := #[] }
def k11m1 : Method := { name := "checkIndex", desc := "(IILjava/util/function/BiFunction;)I", sig := { parameters := [.int, .int, (.object "java/util/function/BiFunction")], returnType := some .int }, accessFlags := 9, code := some k11c1 }
/-- jdk/internal/util/Preconditions -/
def k11 : Class := { plain "jdk/internal/util/Preconditions" (some 0) with
  accessFlags := 33
  interfaces := #[]
  cf := some (fileOf pool11 24 #[.nestMembers #[55, 131, 125, 114]] #[{ accessFlags := 1, nameIndex := 5, descriptorIndex := 6, attributes := #[] }, { accessFlags := 9, nameIndex := 33, descriptorIndex := 178, attributes := #[] }] 33 2 #[] #[{ accessFlags := 25, nameIndex := 123, descriptorIndex := 124, attributes := #[] }, { accessFlags := 25, nameIndex := 130, descriptorIndex := 124, attributes := #[] }, { accessFlags := 25, nameIndex := 136, descriptorIndex := 124, attributes := #[] }])
  fields := #[{ name := "SIOOBE_FORMATTER", type := (.object "java/util/function/BiFunction"), accessFlags := 25, slot := 0, constantValue := 0 }, { name := "AIOOBE_FORMATTER", type := (.object "java/util/function/BiFunction"), accessFlags := 25, slot := 1, constantValue := 0 }, { name := "IOOBE_FORMATTER", type := (.object "java/util/function/BiFunction"), accessFlags := 25, slot := 2, constantValue := 0 }]
  methods := #[k11m0, k11m1]
  instanceTypes := #[]
  staticTypes := #[(.object "java/util/function/BiFunction"), (.object "java/util/function/BiFunction"), (.object "java/util/function/BiFunction")]
  resolved := Array.replicate 194 none
  statics := some 2 }

def pool12 : Array CpInfo := pool [(1, .class_ 2), (0, u "java/lang/String"), (1, .class_ 6), (1, u "java/lang/Object"), (0, u "<init>"), (0, u "()V"), (0, .methodref 1 10), (0, .nameAndType 11 12), (0, u "checkIndex"), (0, u "(II)V"), (1, .class_ 16), (1, u "java/lang/StringLatin1"), (36, u "([BI)C"), (67, u "$assertionsDisabled"), (0, u "Z"), (98, .class_ 223), (1, u "java/lang/StringLatin1$LinesSpliterator"), (28, u "charAt"), (137, .class_ 391), (0, u "java/lang/StringLatin1$CharsSpliterator")] 3

def k12m0 : Method := { name := "<init>", desc := "()V", sig := { parameters := [], returnType := none }, accessFlags := 0, code := none }
def k12c1 : Code := { maxStack := 2, maxLocals := 2, code := jdk_43_method_2_code, exceptionTable := #[], attributes := #[] }
def k12m1 : Method := { name := "charAt", desc := "([BI)C", sig := { parameters := [(.array .byte), .int], returnType := some .char }, accessFlags := 9, code := some k12c1 }
/-- java/lang/StringLatin1 -/
def k12 : Class := { plain "java/lang/StringLatin1" (some 0) with
  accessFlags := 48
  interfaces := #[]
  cf := some (fileOf pool12 14 #[.nestMembers #[390, 221]] #[{ accessFlags := 0, nameIndex := 7, descriptorIndex := 8, attributes := #[] }, { accessFlags := 9, nameIndex := 252, descriptorIndex := 53, attributes := #[] }] 48 4 #[] #[{ accessFlags := 4120, nameIndex := 121, descriptorIndex := 122, attributes := #[] }])
  fields := #[{ name := "$assertionsDisabled", type := .boolean, accessFlags := 4120, slot := 0, constantValue := 0 }]
  methods := #[k12m0, k12m1]
  instanceTypes := #[]
  staticTypes := #[.boolean]
  resolved := Array.replicate 395 none
  statics := none }

def pool13 : Array CpInfo := pool [(9, u "<init>"), (6, .class_ 18), (1, u "java/lang/Object"), (0, u "()V"), (1, .class_ 23), (1, u "jdk/internal/util/ArraysSupport"), (0, u "LOG2_ARRAY_LONG_INDEX_SCALE"), (0, u "I"), (2, u "U"), (0, u "Ljdk/internal/misc/Unsafe;"), (8, u "BIG_ENDIAN"), (0, u "Z"), (8, u "LOG2_BYTE_BIT_SIZE"), (4, u "LOG2_ARRAY_INT_INDEX_SCALE"), (54, u "JLA"), (0, u "Ljdk/internal/access/JavaLangAccess;"), (11, u "LOG2_ARRAY_BOOLEAN_INDEX_SCALE"), (9, u "LOG2_ARRAY_BYTE_INDEX_SCALE"), (5, u "LOG2_ARRAY_CHAR_INDEX_SCALE"), (5, u "LOG2_ARRAY_SHORT_INDEX_SCALE"), (18, u "LOG2_ARRAY_FLOAT_INDEX_SCALE"), (24, u "LOG2_ARRAY_DOUBLE_INDEX_SCALE"), (89, u "T_BOOLEAN"), (2, u "T_CHAR"), (1, u "T_FLOAT"), (1, u "T_DOUBLE"), (1, u "T_BYTE"), (1, u "T_SHORT"), (1, u "T_INT"), (1, u "T_LONG"), (1, u "SOFT_MAX_ARRAY_LENGTH")] 83

def k13m0 : Method := { name := "<init>", desc := "()V", sig := { parameters := [], returnType := none }, accessFlags := 2, code := none }
/-- jdk/internal/util/ArraysSupport -/
def k13 : Class := { plain "jdk/internal/util/ArraysSupport" (some 0) with
  accessFlags := 33
  interfaces := #[]
  cf := some (fileOf pool13 21 #[] #[{ accessFlags := 2, nameIndex := 9, descriptorIndex := 19, attributes := #[] }] 33 16 #[] #[{ accessFlags := 24, nameIndex := 28, descriptorIndex := 29, attributes := #[] }, { accessFlags := 26, nameIndex := 38, descriptorIndex := 39, attributes := #[] }, { accessFlags := 25, nameIndex := 121, descriptorIndex := 25, attributes := #[] }, { accessFlags := 25, nameIndex := 131, descriptorIndex := 25, attributes := #[] }, { accessFlags := 25, nameIndex := 137, descriptorIndex := 25, attributes := #[] }, { accessFlags := 25, nameIndex := 143, descriptorIndex := 25, attributes := #[] }, { accessFlags := 25, nameIndex := 53, descriptorIndex := 25, attributes := #[] }, { accessFlags := 25, nameIndex := 24, descriptorIndex := 25, attributes := #[] }, { accessFlags := 25, nameIndex := 162, descriptorIndex := 25, attributes := #[] }, { accessFlags := 25, nameIndex := 187, descriptorIndex := 25, attributes := #[] }, { accessFlags := 26, nameIndex := 48, descriptorIndex := 25, attributes := #[] }, { accessFlags := 25, nameIndex := 277, descriptorIndex := 25, attributes := #[] }, { accessFlags := 25, nameIndex := 280, descriptorIndex := 25, attributes := #[] }, { accessFlags := 25, nameIndex := 282, descriptorIndex := 25, attributes := #[] }, { accessFlags := 25, nameIndex := 284, descriptorIndex := 25, attributes := #[] }, { accessFlags := 25, nameIndex := 286, descriptorIndex := 25, attributes := #[] }, { accessFlags := 25, nameIndex := 288, descriptorIndex := 25, attributes := #[] }, { accessFlags := 25, nameIndex := 290, descriptorIndex := 25, attributes := #[] }, { accessFlags := 25, nameIndex := 292, descriptorIndex := 25, attributes := #[] }, { accessFlags := 26, nameIndex := 108, descriptorIndex := 109, attributes := #[] }, { accessFlags := 25, nameIndex := 294, descriptorIndex := 25, attributes := #[] }])
  fields := #[{ name := "U", type := (.object "jdk/internal/misc/Unsafe"), accessFlags := 24, slot := 0, constantValue := 0 }, { name := "BIG_ENDIAN", type := .boolean, accessFlags := 26, slot := 1, constantValue := 0 }, { name := "LOG2_ARRAY_BOOLEAN_INDEX_SCALE", type := .int, accessFlags := 25, slot := 2, constantValue := 0 }, { name := "LOG2_ARRAY_BYTE_INDEX_SCALE", type := .int, accessFlags := 25, slot := 3, constantValue := 0 }, { name := "LOG2_ARRAY_CHAR_INDEX_SCALE", type := .int, accessFlags := 25, slot := 4, constantValue := 0 }, { name := "LOG2_ARRAY_SHORT_INDEX_SCALE", type := .int, accessFlags := 25, slot := 5, constantValue := 0 }, { name := "LOG2_ARRAY_INT_INDEX_SCALE", type := .int, accessFlags := 25, slot := 6, constantValue := 0 }, { name := "LOG2_ARRAY_LONG_INDEX_SCALE", type := .int, accessFlags := 25, slot := 7, constantValue := 0 }, { name := "LOG2_ARRAY_FLOAT_INDEX_SCALE", type := .int, accessFlags := 25, slot := 8, constantValue := 0 }, { name := "LOG2_ARRAY_DOUBLE_INDEX_SCALE", type := .int, accessFlags := 25, slot := 9, constantValue := 0 }, { name := "LOG2_BYTE_BIT_SIZE", type := .int, accessFlags := 26, slot := 10, constantValue := 0 }, { name := "T_BOOLEAN", type := .int, accessFlags := 25, slot := 11, constantValue := 0 }, { name := "T_CHAR", type := .int, accessFlags := 25, slot := 12, constantValue := 0 }, { name := "T_FLOAT", type := .int, accessFlags := 25, slot := 13, constantValue := 0 }, { name := "T_DOUBLE", type := .int, accessFlags := 25, slot := 14, constantValue := 0 }, { name := "T_BYTE", type := .int, accessFlags := 25, slot := 15, constantValue := 0 }, { name := "T_SHORT", type := .int, accessFlags := 25, slot := 16, constantValue := 0 }, { name := "T_INT", type := .int, accessFlags := 25, slot := 17, constantValue := 0 }, { name := "T_LONG", type := .int, accessFlags := 25, slot := 18, constantValue := 0 }, { name := "JLA", type := (.object "jdk/internal/access/JavaLangAccess"), accessFlags := 26, slot := 19, constantValue := 0 }, { name := "SOFT_MAX_ARRAY_LENGTH", type := .int, accessFlags := 25, slot := 20, constantValue := 0 }]
  methods := #[k13m0]
  instanceTypes := #[]
  staticTypes := #[(.object "jdk/internal/misc/Unsafe"), .boolean, .int, .int, .int, .int, .int, .int, .int, .int, .int, .int, .int, .int, .int, .int, .int, .int, .int, (.object "jdk/internal/access/JavaLangAccess"), .int]
  resolved := Array.replicate 378 none
  statics := none }

def pool14 : Array CpInfo := pool [(1, u "java/lang/Cloneable"), (0, .class_ 1), (0, u "java/lang/Object"), (0, .class_ 3)] 3

/-- java/lang/Cloneable -/
def k14 : Class := { plain "java/lang/Cloneable" (some 0) with
  accessFlags := 1537
  interfaces := #[]
  cf := some (fileOf pool14 2 #[] #[] 1537 4 #[] #[])
  fields := #[]
  methods := #[]
  instanceTypes := #[]
  staticTypes := #[]
  resolved := Array.replicate 8 none
  statics := none }

/-- the primitive byte -/
def k15 : Class := { plain "byte" none with kind := .primitive 'B', accessFlags := 0x411 }
/-- [B -/
def k16 : Class := { plain "[B" (some 0) with kind := .array 15 .byte, interfaces := #[14, 2], accessFlags := 1041 }

/-- the primitive char -/
def k17 : Class := { plain "char" none with kind := .primitive 'C', accessFlags := 0x411 }
/-- [C -/
def k18 : Class := { plain "[C" (some 0) with kind := .array 17 .char, interfaces := #[14, 2], accessFlags := 1041 }

/-- the primitive int -/
def k19 : Class := { plain "int" none with kind := .primitive 'I', accessFlags := 0x411 }
/-- [I -/
def k20 : Class := { plain "[I" (some 0) with kind := .array 19 .int, interfaces := #[14, 2], accessFlags := 1041 }

def heap : Heap := #[{ cls := 7, slots := #[.long 0, .int 1, .null, .int 0, .null, .int 0, .int 0], vm := .statics 7 },
  { cls := 10, slots := #[.int 0, .int 8, .int 0, .int 1], vm := .statics 10 },
  { cls := 11, slots := #[.null, .null, .null], vm := .statics 11 }]
def k21 : Class := plain "jdk/internal/util/ArraysSupport" (some 0)
def classes : Array Class := #[k0, k1, k2, k3, k4, k5, k6, k7, k8, k9, k10, k11, k12, k13, k14, k15, k16, k17, k18, k19, k20, k21]
def interned : List (Array UInt16 × Addr) := []
def slotsUsed : Nat := 14
def theMethod : MethodId := ⟨1, 1⟩
def args0 : Array Value := #[.int 5, .int 7, .int 3, .int 1, .int 1]
def aboutOver (below : List Frame) : State where
  vm := { classes := classes, interned := interned.toArray }
  heap := heap
  slotsUsed := slotsUsed
  threads := #[{ frames := .invoking theMethod args0 :: below }]
def below0 : List Frame := [.native { method := ⟨0, 0⟩, args := #[] }]
def about1 : State := aboutOver below0
def p0 : Program := .bare "" "" ""
def e0 : Env := launch0.env 0 0 0
theorem w_frames : about1.frames = Frame.invoking theMethod args0 :: below0 := rfl
set_option maxRecDepth 65536 in
theorem w_args : argsFit about1.vm theMethod args0 = true := by decide +kernel
set_option maxRecDepth 65536 in
theorem w_heap : heapFits about1 = true := by decide +kernel
set_option maxRecDepth 65536 in
theorem w_runnable : about1.curStatus? = some .runnable := by decide +kernel
set_option maxRecDepth 65536 in
theorem w_alone : about1.alone = true := by decide +kernel
set_option maxRecDepth 65536 in
theorem w_named : about1.methodNamed? x = some theMethod := by decide +kernel
set_option maxRecDepth 65536 in
theorem w_hears : about1.hears theMethod below0 = true := by decide +kernel
set_option maxRecDepth 65536 in
theorem w_ripe : about1.ripe theMethod args0 below0 = true := by decide +kernel
theorem w_running : about1.status = .running := rfl
set_option maxRecDepth 65536 in
theorem w_room : about1.hasRoom e0.platform room_1 = true :=
  launch0.hasRoom_least _ room_1 (by decide +kernel) (by decide +kernel) (by decide +kernel) (by decide +kernel) (by decide +kernel) (by decide +kernel)
theorem allAtoms_all (ts : List Jvm.Cond) (a : Array Jvm.Value) (st : Jvm.State) : (allAtoms ts).before a st = ts.all (fun c => c.before a st) := by
  induction ts with
  | nil => rfl
  | cons c t ih =>
    show (Jvm.Cond.and c (allAtoms t)).before a st = _
    rw [Jvm.Cond.before_and, ih, List.all_cons]
def words1 : List Jvm.Cond := Jvm.Cond.code x code maxLocals ret :: tables_1
/-- a 'code' word, met by the world's own term for the bytes: nothing is compared byte by byte -/
theorem code_word {y : MethodName} {bytes : ByteArray} {mx : Nat} {rt : Option FieldType} {a : Array Value} {s : State} {m : MethodId} {meth : Method} {c : Code} (h1 : s.methodNamed? y = some m) (h2 : s.vm.method? m = some meth) (h3 : meth.code = some c) (h4 : c.code = bytes)
    (h5 : (c.maxLocals == mx && c.exceptionTable.isEmpty && decide (c.maxStack ≤ mostOperands) && decide (meth.sig.returnType = rt) && !meth.locks && decide (parseMethodDescriptor y.desc = some meth.sig)) = true) : (Jvm.Cond.code y bytes mx rt).before a s = true := by
  simp only [Bool.and_eq_true, beq_iff_eq, Bool.not_eq_true', decide_eq_true_eq] at h5
  obtain ⟨⟨⟨⟨⟨g1, g2⟩, g3⟩, g4⟩, g5⟩, g6⟩ := h5
  simp [Cond.before, Cond.holds, Cond.value, h1, h2, h3, h4, g1, g2, g3, g4, g5, g6]
def isCode : Jvm.Cond → Bool
  | .code _ _ _ _ => true
  | _ => false
theorem all_split {L : List Jvm.Cond} {P : Jvm.Cond → Bool} (h1 : L.all (fun c => isCode c || P c) = true) (h2 : ∀ c ∈ L.filter isCode, P c = true) : L.all P = true := by
  refine List.all_eq_true.mpr fun c hc => ?_
  have h := List.all_eq_true.mp h1 c hc
  rcases Bool.eq_false_or_eq_true (isCode c) with hi | hi
  · exact h2 c (List.mem_filter.mpr ⟨hc, hi⟩)
  · simpa [hi] using h
set_option maxRecDepth 65536 in
theorem w_c0 : (Jvm.Cond.code x code maxLocals ret).before args0 about1 = true := code_word (m := ⟨1, 1⟩) (meth := k1m1) (c := k1c1) (by decide +kernel) rfl rfl rfl (by decide +kernel)
set_option maxRecDepth 65536 in
theorem w_c1 : (Jvm.Cond.code ({ cls := "com/example/urutan/urutan/build/CodePointOrderComparePinLaw", name := "draw", desc := "(I)C" } : Jvm.MethodName) method_3_code (3 : Nat) (Option.some Jvm.ClassFile.FieldType.char)).before args0 about1 = true := code_word (m := ⟨1, 2⟩) (meth := k1m2) (c := k1c2) (by decide +kernel) rfl rfl rfl (by decide +kernel)
set_option maxRecDepth 65536 in
theorem w_c2 : (Jvm.Cond.code ({ cls := "com/example/urutan/urutan/build/CodePointOrderComparePinLaw", name := "mk", desc := "(ICC)Ljava/lang/String;" } : Jvm.MethodName) method_4_code (3 : Nat) (Option.some (Jvm.ClassFile.FieldType.object "java/lang/String"))).before args0 about1 = true := code_word (m := ⟨1, 3⟩) (meth := k1m3) (c := k1c3) (by decide +kernel) rfl rfl rfl (by decide +kernel)
set_option maxRecDepth 65536 in
theorem w_c3 : (Jvm.Cond.code ({ cls := "java/lang/String", name := "<init>", desc := "([C)V" } : Jvm.MethodName) jdk_42_method_3_code (2 : Nat) (Option.none : Option Jvm.ClassFile.FieldType)).before args0 about1 = true := code_word (m := ⟨7, 1⟩) (meth := k7m1) (c := k7c1) (by decide +kernel) rfl rfl rfl (by decide +kernel)
set_option maxRecDepth 65536 in
theorem w_c4 : (Jvm.Cond.code ({ cls := "java/lang/String", name := "<init>", desc := "([CIILjava/lang/Void;)V" } : Jvm.MethodName) jdk_42_method_149_code (6 : Nat) (Option.none : Option Jvm.ClassFile.FieldType)).before args0 about1 = true := code_word (m := ⟨7, 4⟩) (meth := k7m4) (c := k7c4) (by decide +kernel) rfl rfl rfl (by decide +kernel)
set_option maxRecDepth 65536 in
theorem w_c5 : (Jvm.Cond.code ({ cls := "java/lang/Object", name := "<init>", desc := "()V" } : Jvm.MethodName) object_method_1_code (1 : Nat) (Option.none : Option Jvm.ClassFile.FieldType)).before args0 about1 = true := code_word (m := ⟨0, 0⟩) (meth := k0m0) (c := k0c0) (by decide +kernel) rfl rfl rfl (by decide +kernel)
set_option maxRecDepth 65536 in
theorem w_c6 : (Jvm.Cond.code ({ cls := "java/lang/Math", name := "min", desc := "(II)I" } : Jvm.MethodName) jdk_29_method_69_code (2 : Nat) (Option.some Jvm.ClassFile.FieldType.int)).before args0 about1 = true := code_word (m := ⟨8, 1⟩) (meth := k8m1) (c := k8c1) (by decide +kernel) rfl rfl rfl (by decide +kernel)
set_option maxRecDepth 65536 in
theorem w_c7 : (Jvm.Cond.code ({ cls := "com/example/urutan/urutan/build/CodePointOrderComparePinLaw", name := "sign", desc := "(I)I" } : Jvm.MethodName) method_7_code (1 : Nat) (Option.some Jvm.ClassFile.FieldType.int)).before args0 about1 = true := code_word (m := ⟨1, 6⟩) (meth := k1m6) (c := k1c6) (by decide +kernel) rfl rfl rfl (by decide +kernel)
set_option maxRecDepth 65536 in
theorem w_c8 : (Jvm.Cond.code ({ cls := "com/example/urutan/urutan/build/CodePointOrder", name := "compare", desc := "(Ljava/lang/String;Ljava/lang/String;)I" } : Jvm.MethodName) prog_2_method_2_code (6 : Nat) (Option.some Jvm.ClassFile.FieldType.int)).before args0 about1 = true := code_word (m := ⟨9, 1⟩) (meth := k9m1) (c := k9c1) (by decide +kernel) rfl rfl rfl (by decide +kernel)
set_option maxRecDepth 65536 in
theorem w_c9 : (Jvm.Cond.code ({ cls := "java/lang/String", name := "length", desc := "()I" } : Jvm.MethodName) jdk_42_method_54_code (1 : Nat) (Option.some Jvm.ClassFile.FieldType.int)).before args0 about1 = true := code_word (m := ⟨7, 2⟩) (meth := k7m2) (c := k7c2) (by decide +kernel) rfl rfl rfl (by decide +kernel)
set_option maxRecDepth 65536 in
theorem w_c10 : (Jvm.Cond.code ({ cls := "java/lang/String", name := "coder", desc := "()B" } : Jvm.MethodName) jdk_42_method_152_code (1 : Nat) (Option.some Jvm.ClassFile.FieldType.byte)).before args0 about1 = true := code_word (m := ⟨7, 5⟩) (meth := k7m5) (c := k7c5) (by decide +kernel) rfl rfl rfl (by decide +kernel)
set_option maxRecDepth 65536 in
theorem w_c11 : (Jvm.Cond.code ({ cls := "java/lang/StringUTF16", name := "compress", desc := "([CII)[B" } : Jvm.MethodName) jdk_52_method_16_code (6 : Nat) (Option.some (Jvm.ClassFile.FieldType.array Jvm.ClassFile.FieldType.byte))).before args0 about1 = true := code_word (m := ⟨10, 8⟩) (meth := k10m8) (c := k10c8) (by decide +kernel) rfl rfl rfl (by decide +kernel)
set_option maxRecDepth 65536 in
theorem w_c12 : (Jvm.Cond.code ({ cls := "java/lang/StringUTF16", name := "compress", desc := "([CI[BII)I" } : Jvm.MethodName) jdk_52_method_21_code (7 : Nat) (Option.some Jvm.ClassFile.FieldType.int)).before args0 about1 = true := code_word (m := ⟨10, 9⟩) (meth := k10m9) (c := k10c9) (by decide +kernel) rfl rfl rfl (by decide +kernel)
set_option maxRecDepth 65536 in
theorem w_c13 : (Jvm.Cond.code ({ cls := "java/lang/StringUTF16", name := "coderFromArrayLen", desc := "([BI)B" } : Jvm.MethodName) jdk_52_method_15_code (2 : Nat) (Option.some Jvm.ClassFile.FieldType.byte)).before args0 about1 = true := code_word (m := ⟨10, 7⟩) (meth := k10m7) (c := k10c7) (by decide +kernel) rfl rfl rfl (by decide +kernel)
set_option maxRecDepth 65536 in
theorem w_c14 : (Jvm.Cond.code ({ cls := "java/lang/StringUTF16", name := "toBytes", desc := "([CII)[B" } : Jvm.MethodName) jdk_52_method_14_code (5 : Nat) (Option.some (Jvm.ClassFile.FieldType.array Jvm.ClassFile.FieldType.byte))).before args0 about1 = true := code_word (m := ⟨10, 6⟩) (meth := k10m6) (c := k10c6) (by decide +kernel) rfl rfl rfl (by decide +kernel)
set_option maxRecDepth 65536 in
theorem w_c15 : (Jvm.Cond.code ({ cls := "java/lang/StringUTF16", name := "newBytesFor", desc := "(I)[B" } : Jvm.MethodName) jdk_52_method_2_code (1 : Nat) (Option.some (Jvm.ClassFile.FieldType.array Jvm.ClassFile.FieldType.byte))).before args0 about1 = true := code_word (m := ⟨10, 1⟩) (meth := k10m1) (c := k10c1) (by decide +kernel) rfl rfl rfl (by decide +kernel)
set_option maxRecDepth 65536 in
theorem w_c16 : (Jvm.Cond.code ({ cls := "java/lang/StringUTF16", name := "newBytesLength", desc := "(I)I" } : Jvm.MethodName) jdk_52_method_3_code (1 : Nat) (Option.some Jvm.ClassFile.FieldType.int)).before args0 about1 = true := code_word (m := ⟨10, 2⟩) (meth := k10m2) (c := k10c2) (by decide +kernel) rfl rfl rfl (by decide +kernel)
set_option maxRecDepth 65536 in
theorem w_c17 : (Jvm.Cond.code ({ cls := "java/lang/StringUTF16", name := "putChar", desc := "([BII)V" } : Jvm.MethodName) jdk_52_method_4_code (3 : Nat) (Option.none : Option Jvm.ClassFile.FieldType)).before args0 about1 = true := code_word (m := ⟨10, 3⟩) (meth := k10m3) (c := k10c3) (by decide +kernel) rfl rfl rfl (by decide +kernel)
set_option maxRecDepth 65536 in
theorem w_c18 : (Jvm.Cond.code ({ cls := "java/lang/StringUTF16", name := "getChar", desc := "([BI)C" } : Jvm.MethodName) jdk_52_method_5_code (2 : Nat) (Option.some Jvm.ClassFile.FieldType.char)).before args0 about1 = true := code_word (m := ⟨10, 4⟩) (meth := k10m4) (c := k10c4) (by decide +kernel) rfl rfl rfl (by decide +kernel)
set_option maxRecDepth 65536 in
theorem w_c19 : (Jvm.Cond.code ({ cls := "com/example/urutan/urutan/build/CodePointOrderComparePinLaw", name := "unitOrder", desc := "(CC)I" } : Jvm.MethodName) method_6_code (4 : Nat) (Option.some Jvm.ClassFile.FieldType.int)).before args0 about1 = true := code_word (m := ⟨1, 5⟩) (meth := k1m5) (c := k1c5) (by decide +kernel) rfl rfl rfl (by decide +kernel)
set_option maxRecDepth 65536 in
theorem w_c20 : (Jvm.Cond.code ({ cls := "com/example/urutan/urutan/build/CodePointOrderComparePinLaw", name := "rank", desc := "(C)I" } : Jvm.MethodName) method_5_code (1 : Nat) (Option.some Jvm.ClassFile.FieldType.int)).before args0 about1 = true := code_word (m := ⟨1, 4⟩) (meth := k1m4) (c := k1c4) (by decide +kernel) rfl rfl rfl (by decide +kernel)
set_option maxRecDepth 65536 in
theorem w_c21 : (Jvm.Cond.code ({ cls := "java/lang/String", name := "charAt", desc := "(I)C" } : Jvm.MethodName) jdk_42_method_56_code (2 : Nat) (Option.some Jvm.ClassFile.FieldType.char)).before args0 about1 = true := code_word (m := ⟨7, 3⟩) (meth := k7m3) (c := k7c3) (by decide +kernel) rfl rfl rfl (by decide +kernel)
set_option maxRecDepth 65536 in
theorem w_c22 : (Jvm.Cond.code ({ cls := "java/lang/String", name := "isLatin1", desc := "()Z" } : Jvm.MethodName) jdk_42_method_154_code (1 : Nat) (Option.some Jvm.ClassFile.FieldType.boolean)).before args0 about1 = true := code_word (m := ⟨7, 6⟩) (meth := k7m6) (c := k7c6) (by decide +kernel) rfl rfl rfl (by decide +kernel)
set_option maxRecDepth 65536 in
theorem w_c23 : (Jvm.Cond.code ({ cls := "java/lang/StringUTF16", name := "charAt", desc := "([BI)C" } : Jvm.MethodName) jdk_52_method_83_code (2 : Nat) (Option.some Jvm.ClassFile.FieldType.char)).before args0 about1 = true := code_word (m := ⟨10, 10⟩) (meth := k10m10) (c := k10c10) (by decide +kernel) rfl rfl rfl (by decide +kernel)
set_option maxRecDepth 65536 in
theorem w_c24 : (Jvm.Cond.code ({ cls := "java/lang/StringUTF16", name := "checkIndex", desc := "(I[B)V" } : Jvm.MethodName) jdk_52_method_91_code (2 : Nat) (Option.none : Option Jvm.ClassFile.FieldType)).before args0 about1 = true := code_word (m := ⟨10, 11⟩) (meth := k10m11) (c := k10c11) (by decide +kernel) rfl rfl rfl (by decide +kernel)
set_option maxRecDepth 65536 in
theorem w_c25 : (Jvm.Cond.code ({ cls := "java/lang/StringUTF16", name := "length", desc := "([B)I" } : Jvm.MethodName) jdk_52_method_6_code (1 : Nat) (Option.some Jvm.ClassFile.FieldType.int)).before args0 about1 = true := code_word (m := ⟨10, 5⟩) (meth := k10m5) (c := k10c5) (by decide +kernel) rfl rfl rfl (by decide +kernel)
set_option maxRecDepth 65536 in
theorem w_c26 : (Jvm.Cond.code ({ cls := "java/lang/String", name := "checkIndex", desc := "(II)V" } : Jvm.MethodName) jdk_42_method_155_code (2 : Nat) (Option.none : Option Jvm.ClassFile.FieldType)).before args0 about1 = true := code_word (m := ⟨7, 7⟩) (meth := k7m7) (c := k7c7) (by decide +kernel) rfl rfl rfl (by decide +kernel)
set_option maxRecDepth 65536 in
theorem w_c27 : (Jvm.Cond.code ({ cls := "jdk/internal/util/Preconditions", name := "checkIndex", desc := "(IILjava/util/function/BiFunction;)I" } : Jvm.MethodName) jdk_41_method_11_code (3 : Nat) (Option.some Jvm.ClassFile.FieldType.int)).before args0 about1 = true := code_word (m := ⟨11, 1⟩) (meth := k11m1) (c := k11c1) (by decide +kernel) rfl rfl rfl (by decide +kernel)
set_option maxRecDepth 65536 in
theorem w_c28 : (Jvm.Cond.code ({ cls := "com/example/urutan/urutan/build/CodePointOrder", name := "place", desc := "(C)I" } : Jvm.MethodName) prog_2_method_3_code (2 : Nat) (Option.some Jvm.ClassFile.FieldType.int)).before args0 about1 = true := code_word (m := ⟨9, 2⟩) (meth := k9m2) (c := k9c2) (by decide +kernel) rfl rfl rfl (by decide +kernel)
set_option maxRecDepth 65536 in
theorem w_c29 : (Jvm.Cond.code ({ cls := "java/lang/StringLatin1", name := "charAt", desc := "([BI)C" } : Jvm.MethodName) jdk_43_method_2_code (2 : Nat) (Option.some Jvm.ClassFile.FieldType.char)).before args0 about1 = true := code_word (m := ⟨12, 1⟩) (meth := k12m1) (c := k12c1) (by decide +kernel) rfl rfl rfl (by decide +kernel)
def codes1 : List Jvm.Cond := [Jvm.Cond.code x code maxLocals ret, Jvm.Cond.code ({ cls := "com/example/urutan/urutan/build/CodePointOrderComparePinLaw", name := "draw", desc := "(I)C" } : Jvm.MethodName) method_3_code (3 : Nat) (Option.some Jvm.ClassFile.FieldType.char), Jvm.Cond.code ({ cls := "com/example/urutan/urutan/build/CodePointOrderComparePinLaw", name := "mk", desc := "(ICC)Ljava/lang/String;" } : Jvm.MethodName) method_4_code (3 : Nat) (Option.some (Jvm.ClassFile.FieldType.object "java/lang/String")), Jvm.Cond.code ({ cls := "java/lang/String", name := "<init>", desc := "([C)V" } : Jvm.MethodName) jdk_42_method_3_code (2 : Nat) (Option.none : Option Jvm.ClassFile.FieldType), Jvm.Cond.code ({ cls := "java/lang/String", name := "<init>", desc := "([CIILjava/lang/Void;)V" } : Jvm.MethodName) jdk_42_method_149_code (6 : Nat) (Option.none : Option Jvm.ClassFile.FieldType), Jvm.Cond.code ({ cls := "java/lang/Object", name := "<init>", desc := "()V" } : Jvm.MethodName) object_method_1_code (1 : Nat) (Option.none : Option Jvm.ClassFile.FieldType), Jvm.Cond.code ({ cls := "java/lang/Math", name := "min", desc := "(II)I" } : Jvm.MethodName) jdk_29_method_69_code (2 : Nat) (Option.some Jvm.ClassFile.FieldType.int), Jvm.Cond.code ({ cls := "com/example/urutan/urutan/build/CodePointOrderComparePinLaw", name := "sign", desc := "(I)I" } : Jvm.MethodName) method_7_code (1 : Nat) (Option.some Jvm.ClassFile.FieldType.int), Jvm.Cond.code ({ cls := "com/example/urutan/urutan/build/CodePointOrder", name := "compare", desc := "(Ljava/lang/String;Ljava/lang/String;)I" } : Jvm.MethodName) prog_2_method_2_code (6 : Nat) (Option.some Jvm.ClassFile.FieldType.int), Jvm.Cond.code ({ cls := "java/lang/String", name := "length", desc := "()I" } : Jvm.MethodName) jdk_42_method_54_code (1 : Nat) (Option.some Jvm.ClassFile.FieldType.int), Jvm.Cond.code ({ cls := "java/lang/String", name := "coder", desc := "()B" } : Jvm.MethodName) jdk_42_method_152_code (1 : Nat) (Option.some Jvm.ClassFile.FieldType.byte), Jvm.Cond.code ({ cls := "java/lang/StringUTF16", name := "compress", desc := "([CII)[B" } : Jvm.MethodName) jdk_52_method_16_code (6 : Nat) (Option.some (Jvm.ClassFile.FieldType.array Jvm.ClassFile.FieldType.byte)), Jvm.Cond.code ({ cls := "java/lang/StringUTF16", name := "compress", desc := "([CI[BII)I" } : Jvm.MethodName) jdk_52_method_21_code (7 : Nat) (Option.some Jvm.ClassFile.FieldType.int), Jvm.Cond.code ({ cls := "java/lang/StringUTF16", name := "coderFromArrayLen", desc := "([BI)B" } : Jvm.MethodName) jdk_52_method_15_code (2 : Nat) (Option.some Jvm.ClassFile.FieldType.byte), Jvm.Cond.code ({ cls := "java/lang/StringUTF16", name := "toBytes", desc := "([CII)[B" } : Jvm.MethodName) jdk_52_method_14_code (5 : Nat) (Option.some (Jvm.ClassFile.FieldType.array Jvm.ClassFile.FieldType.byte)), Jvm.Cond.code ({ cls := "java/lang/StringUTF16", name := "newBytesFor", desc := "(I)[B" } : Jvm.MethodName) jdk_52_method_2_code (1 : Nat) (Option.some (Jvm.ClassFile.FieldType.array Jvm.ClassFile.FieldType.byte)), Jvm.Cond.code ({ cls := "java/lang/StringUTF16", name := "newBytesLength", desc := "(I)I" } : Jvm.MethodName) jdk_52_method_3_code (1 : Nat) (Option.some Jvm.ClassFile.FieldType.int), Jvm.Cond.code ({ cls := "java/lang/StringUTF16", name := "putChar", desc := "([BII)V" } : Jvm.MethodName) jdk_52_method_4_code (3 : Nat) (Option.none : Option Jvm.ClassFile.FieldType), Jvm.Cond.code ({ cls := "java/lang/StringUTF16", name := "getChar", desc := "([BI)C" } : Jvm.MethodName) jdk_52_method_5_code (2 : Nat) (Option.some Jvm.ClassFile.FieldType.char), Jvm.Cond.code ({ cls := "com/example/urutan/urutan/build/CodePointOrderComparePinLaw", name := "unitOrder", desc := "(CC)I" } : Jvm.MethodName) method_6_code (4 : Nat) (Option.some Jvm.ClassFile.FieldType.int), Jvm.Cond.code ({ cls := "com/example/urutan/urutan/build/CodePointOrderComparePinLaw", name := "rank", desc := "(C)I" } : Jvm.MethodName) method_5_code (1 : Nat) (Option.some Jvm.ClassFile.FieldType.int), Jvm.Cond.code ({ cls := "java/lang/String", name := "charAt", desc := "(I)C" } : Jvm.MethodName) jdk_42_method_56_code (2 : Nat) (Option.some Jvm.ClassFile.FieldType.char), Jvm.Cond.code ({ cls := "java/lang/String", name := "isLatin1", desc := "()Z" } : Jvm.MethodName) jdk_42_method_154_code (1 : Nat) (Option.some Jvm.ClassFile.FieldType.boolean), Jvm.Cond.code ({ cls := "java/lang/StringUTF16", name := "charAt", desc := "([BI)C" } : Jvm.MethodName) jdk_52_method_83_code (2 : Nat) (Option.some Jvm.ClassFile.FieldType.char), Jvm.Cond.code ({ cls := "java/lang/StringUTF16", name := "checkIndex", desc := "(I[B)V" } : Jvm.MethodName) jdk_52_method_91_code (2 : Nat) (Option.none : Option Jvm.ClassFile.FieldType), Jvm.Cond.code ({ cls := "java/lang/StringUTF16", name := "length", desc := "([B)I" } : Jvm.MethodName) jdk_52_method_6_code (1 : Nat) (Option.some Jvm.ClassFile.FieldType.int), Jvm.Cond.code ({ cls := "java/lang/String", name := "checkIndex", desc := "(II)V" } : Jvm.MethodName) jdk_42_method_155_code (2 : Nat) (Option.none : Option Jvm.ClassFile.FieldType), Jvm.Cond.code ({ cls := "jdk/internal/util/Preconditions", name := "checkIndex", desc := "(IILjava/util/function/BiFunction;)I" } : Jvm.MethodName) jdk_41_method_11_code (3 : Nat) (Option.some Jvm.ClassFile.FieldType.int), Jvm.Cond.code ({ cls := "com/example/urutan/urutan/build/CodePointOrder", name := "place", desc := "(C)I" } : Jvm.MethodName) prog_2_method_3_code (2 : Nat) (Option.some Jvm.ClassFile.FieldType.int), Jvm.Cond.code ({ cls := "java/lang/StringLatin1", name := "charAt", desc := "([BI)C" } : Jvm.MethodName) jdk_43_method_2_code (2 : Nat) (Option.some Jvm.ClassFile.FieldType.char)]
set_option maxRecDepth 65536 in
theorem codes_eq : words1.filter isCode = codes1 := rfl
theorem w_codes : ∀ c ∈ words1.filter isCode, c.before args0 about1 = true := by
  rw [codes_eq]
  intro c hc
  simp only [codes1, List.mem_cons, List.not_mem_nil, or_false] at hc
  rcases hc with rfl | rfl | rfl | rfl | rfl | rfl | rfl | rfl | rfl | rfl | rfl | rfl | rfl | rfl | rfl | rfl | rfl | rfl | rfl | rfl | rfl | rfl | rfl | rfl | rfl | rfl | rfl | rfl | rfl | rfl
  · exact w_c0
  · exact w_c1
  · exact w_c2
  · exact w_c3
  · exact w_c4
  · exact w_c5
  · exact w_c6
  · exact w_c7
  · exact w_c8
  · exact w_c9
  · exact w_c10
  · exact w_c11
  · exact w_c12
  · exact w_c13
  · exact w_c14
  · exact w_c15
  · exact w_c16
  · exact w_c17
  · exact w_c18
  · exact w_c19
  · exact w_c20
  · exact w_c21
  · exact w_c22
  · exact w_c23
  · exact w_c24
  · exact w_c25
  · exact w_c26
  · exact w_c27
  · exact w_c28
  · exact w_c29
set_option maxRecDepth 65536 in
theorem w_t1 : (words1.take 24).all (fun c => isCode c || c.before args0 about1) = true := by decide +kernel
set_option maxRecDepth 65536 in
theorem w_t2 : ((words1.drop 24).take 24).all (fun c => isCode c || c.before args0 about1) = true := by decide +kernel
set_option maxRecDepth 65536 in
theorem w_t3 : (((words1.drop 24).drop 24).take 24).all (fun c => isCode c || c.before args0 about1) = true := by decide +kernel
set_option maxRecDepth 65536 in
theorem w_t4 : ((((words1.drop 24).drop 24).drop 24).take 24).all (fun c => isCode c || c.before args0 about1) = true := by decide +kernel
set_option maxRecDepth 65536 in
theorem w_t5 : (((((words1.drop 24).drop 24).drop 24).drop 24).take 24).all (fun c => isCode c || c.before args0 about1) = true := by decide +kernel
set_option maxRecDepth 65536 in
theorem w_t6 : (((((words1.drop 24).drop 24).drop 24).drop 24).drop 24).all (fun c => isCode c || c.before args0 about1) = true := by decide +kernel
theorem w_tables : (allAtoms (Jvm.Cond.code x code maxLocals ret :: tables_1)).before args0 about1 = true := by
  rw [allAtoms_all]
  show words1.all (fun c => c.before args0 about1) = true
  refine all_split ?_ w_codes
  rw [← List.take_append_drop 24 words1, List.all_append, w_t1, ← List.take_append_drop 24 (words1.drop 24), List.all_append, w_t2, ← List.take_append_drop 24 ((words1.drop 24).drop 24), List.all_append, w_t3, ← List.take_append_drop 24 (((words1.drop 24).drop 24).drop 24), List.all_append, w_t4, ← List.take_append_drop 24 ((((words1.drop 24).drop 24).drop 24).drop 24), List.all_append, w_t5, w_t6]
  rfl
set_option maxRecDepth 65536 in
theorem w_rest : rest_1_c.before args0 about1 = true := by decide +kernel
set_option maxRecDepth 65536 in
theorem w_case : (Jvm.Cond.and given_1 narrow_1).before args0 about1 = true := by decide +kernel
set_option maxRecDepth 65536 in
theorem w_consts : constsHeld consts_1 about1 := Jvm.Lit.constsHeldB_iff.mp (by decide +kernel)
theorem w_applies : (headSpec (Jvm.Cond.code x code maxLocals ret :: tables_1) room_1).applies x e0.platform about1 = true :=
  (Spec.applies_iff w_frames).mpr ⟨w_running, w_runnable, w_alone, w_named, w_hears, w_ripe, w_room, w_tables⟩
theorem atStart : AtStart classFile x code maxLocals ret World_1 tables_1 room_1 Calls_1 rest_1 Pre_1 launch0 p0 e0 about1 theMethod args0 below0 :=
  ⟨lists_1, trivial, launch0.admits_env _ _ _, launch0.least_env, fairChoices_fair.cas, fairChoices_fair.clock, w_frames, w_args, w_heap, w_applies, ⟨w_consts, trivial⟩, w_rest, w_case⟩
end start1
theorem witness_1 : WitnessClaimed_1 := ⟨start1.p0, start1.e0, start1.about1, start1.theMethod, start1.args0, start1.below0, start1.atStart⟩
end Jvm.Pilot.@@N@@
