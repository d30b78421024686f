import JvmDerived
import JvmDerived.Pilot.@@N@@Statement
import JvmDerived.Pilot.@@N@@Code
set_option linter.unusedVariables false
set_option linter.unusedSimpArgs false
namespace Jvm.Pilot.@@N@@
open Jvm Jvm.ClassFile Sem Op Lib Jvm.Free Jvm.Stand Jvm.LawKit Jvm.RoadKit Bundle Jvm.Pilot.@@N@@.Jvm.D
/-! ## The frame of my walks: Gl: what is left to run ends well; St: where the run stands; Ctr: a body's contract; Ary: an array by its length and its values -/
def Gl (p : Program) (e : Env) (below : List Frame) (n0 : Nat) (Φ : Outcome → State → List Loc → Prop) (Q : Option Value → Heap → Prop) (U : State) : Prop :=
  ∃ s₂ o, Steps p.tables e below U s₂ ∧ s₂.status = .running ∧ Ended s₂ below o ∧ ∃ v L, o = .returned v ∧ (Q v s₂.heap ∧ Fr n0 L) ∧ Φ o s₂ L
abbrev Fn (s : State) (cs sl : Nat) : Outcome → State → List Loc → Prop := fun o t L => FrameEnd s o t L cs sl
abbrev Fw (s : State) (cs sl : Nat) : Outcome → State → List Loc → Prop := fun o t L => ReturnedEndW s o t L cs sl
def St (p : Program) (l : Launch) (e : Env) (R : Room) (s : State) (m : MethodId) (args : Array Value) (below : List Frame) (meth : Method) (c : Code) (n0 : Nat) (T : State) (h : Heap) (cells slots : Nat) : Prop :=
  ∃ locs, Stand p l e R s m args below meth c T locs cells slots ∧ T.heap = h ∧ Fr n0 locs
abbrev Ctr (l : Launch) (Z : State) (y : MethodName) (bytes : ByteArray) (maxL : Nat) (ret : Option FieldType) (ws : List Jvm.Cond) (rm : Room) (as' : Array Value) (h0 : Heap) (n0 cs sl : Nat) (Q : Option Value → Heap → Prop) : Prop :=
  MetFree l y (head1 (Jvm.Cond.code y bytes maxL ret :: ws) rm) (fun a U => a = as' ∧ Z.Warmed39 U.vm ∧ U.heap = h0) (fun _ _ _ _ _ => True) (fun _ U o U' => ∃ v L, o = .returned v ∧ (Q v U'.heap ∧ Fr n0 L) ∧ FrameEnd U o U' L cs sl)
theorem Ctr.of {l : Launch} {Z : State} {y : MethodName} {bytes : ByteArray} {maxL : Nat} {ret : Option FieldType} {ws : List Jvm.Cond} {rm : Room} {as' : Array Value} {h0 : Heap} {n0 cs sl : Nat} {Q : Option Value → Heap → Prop} (hn : plainFor y = true)
    (body : ∀ (p : Program) (e : Env) (s : State) (m : MethodId) (below : List Frame) (meth : Method) (c : Code) (T : State), p.tables.exec = Jvm.exec → c.code = bytes → c.maxLocals = maxL → meth.sig.returnType = ret → meth.locks = false → meth.name = y.name → s.vm.findClass y.cls = some m.cls → Z.Warmed39 s.vm →
      St p l e rm s m as' below meth c n0 T h0 0 0 → Gl p e below n0 (Fn s cs sl) Q (T.setTop (entryFrame m as' maxL))) : Ctr l Z y bytes maxL ret ws rm as' h0 n0 cs sl Q := by
  refine MetFree.of_bodySF hn hisR ?_
  intro p e s m args below meth c s₁ Bd hml0 hP hK
  obtain ⟨rfl, hZ, hh⟩ := hP
  exact body p e s m below meth c s₁ Bd.exec Bd.bytes hml0 Bd.returns Bd.notSynchronized (name_of_methodNamed Bd.named Bd.method).1 (findClass_of_methodNamed Bd.named) hZ ⟨[], Stand.of_body Bd, by rw [← hh, Bd.state]; rfl, Fr.nil n0⟩
theorem own_since (s : State) (n : Nat) : s.Since s.vm n := (State.WarmedH.refl s).since n
abbrev CtrW (l : Launch) (Z : State) (y : MethodName) (bytes : ByteArray) (maxL : Nat) (ret : Option FieldType) (ws : List Jvm.Cond) (rm : Room) (as' : Array Value) (h0 : Heap) (n0 cs sl : Nat) (Q : Option Value → Heap → Prop) : Prop :=
  MetFree l y (head1 (Jvm.Cond.code y bytes maxL ret :: ws) rm) (fun a U => a = as' ∧ Z.Warmed39 U.vm ∧ U.heap = h0) (fun _ _ _ _ _ => True) (fun _ U o U' => ∃ v L, o = .returned v ∧ (Q v U'.heap ∧ Fr n0 L) ∧ ReturnedEndW U o U' L cs sl)
theorem CtrW.of {l : Launch} {Z : State} {y : MethodName} {bytes : ByteArray} {maxL : Nat} {ret : Option FieldType} {ws : List Jvm.Cond} {rm : Room} {as' : Array Value} {h0 : Heap} {n0 cs sl : Nat} {Q : Option Value → Heap → Prop} (hn : plainFor y = true)
    (body : ∀ (p : Program) (e : Env) (s : State) (m : MethodId) (below : List Frame) (meth : Method) (c : Code) (T : State), p.tables.exec = Jvm.exec → c.code = bytes → c.maxLocals = maxL → meth.sig.returnType = ret → meth.locks = false → meth.name = y.name → (s.setVm s.vm).vm.findClass y.cls = some m.cls → Z.Warmed39 (s.setVm s.vm).vm →
      St p l e rm (s.setVm s.vm) m as' below meth c n0 T h0 0 0 → s.Since s.vm h0.size → Gl p e below n0 (Fw s cs sl) Q (T.setTop (entryFrame m as' maxL))) : CtrW l Z y bytes maxL ret ws rm as' h0 n0 cs sl Q := by
  refine MetFree.of_bodySF hn hisR ?_
  intro p e s m args below meth c s₁ Bd hml0 hP hK
  obtain ⟨rfl, hZ, hh⟩ := hP
  exact body p e s m below meth c s₁ Bd.exec Bd.bytes hml0 Bd.returns Bd.notSynchronized (name_of_methodNamed Bd.named Bd.method).1 (findClass_of_methodNamed Bd.named) hZ ⟨[], Stand.of_body Bd, by rw [← hh, Bd.state]; rfl, Fr.nil n0⟩ (own_since s h0.size)
abbrev CtrL (l : Launch) (Z : State) (y : MethodName) (bytes : ByteArray) (maxL : Nat) (ret : Option FieldType) (ws : List Jvm.Cond) (rm : Room) (as' : Array Value) (h0 : Heap) (n0 cs sl : Nat) (Q : Option Value → Heap → Prop) : Prop :=
  MetFree l y (head1 (Jvm.Cond.code y bytes maxL ret :: ws) rm) (fun a U => a = as' ∧ U = Z ∧ U.heap = h0) (fun _ _ _ _ _ => True) (fun _ U o U' => ∃ v L, o = .returned v ∧ (Q v U'.heap ∧ Fr n0 L) ∧ ReturnedEndW U o U' L cs sl)
theorem CtrL.of {l : Launch} {Z : State} {y : MethodName} {bytes : ByteArray} {maxL : Nat} {ret : Option FieldType} {ws : List Jvm.Cond} {rm : Room} {as' : Array Value} {h0 : Heap} {n0 cs sl : Nat} {Q : Option Value → Heap → Prop} (hn : plainFor y = true)
    (body : ∀ (p : Program) (e : Env) (s : State) (m : MethodId) (below : List Frame) (meth : Method) (c : Code) (T : State), p.tables.exec = Jvm.exec → c.code = bytes → c.maxLocals = maxL → meth.sig.returnType = ret → meth.locks = false → meth.name = y.name → (s.setVm s.vm).vm.findClass y.cls = some m.cls → Z.Warmed39 (s.setVm s.vm).vm →
      St p l e rm (s.setVm s.vm) m as' below meth c n0 T h0 0 0 → s.Since s.vm h0.size → s = Z → s.heap = h0 → Gl p e below n0 (Fw s cs sl) Q (T.setTop (entryFrame m as' maxL))) : CtrL l Z y bytes maxL ret ws rm as' h0 n0 cs sl Q := by
  refine MetFree.of_bodySF hn hisR ?_
  intro p e s m args below meth c s₁ Bd hml0 hP hK
  obtain ⟨rfl, hZ, hh⟩ := hP
  exact body p e s m below meth c s₁ Bd.exec Bd.bytes hml0 Bd.returns Bd.notSynchronized (name_of_methodNamed Bd.named Bd.method).1 (findClass_of_methodNamed Bd.named) (hZ ▸ State.Warmed39.refl s) ⟨[], Stand.of_body Bd, by rw [← hh, Bd.state]; rfl, Fr.nil n0⟩ (own_since s h0.size) hZ hh
def Ary (Z : State) (h : Heap) (a : Addr) (ty : FieldType) (n : Nat) (f : Nat → Value) : Prop := ∃ c : Cell, Arr Z h a c ty ∧ c.slots.size = n ∧ ∀ i, i < n → c.slots[i]? = some (f i)
def own_upd (f : Nat → Value) (i : Nat) (v : Value) : Nat → Value := fun j => if j = i then v else f j
theorem own_upd_same (f : Nat → Value) (i : Nat) (v : Value) : own_upd f i v i = v := by simp [own_upd]
theorem own_upd_ne (f : Nat → Value) {i j : Nat} (v : Value) (q : ¬ j = i) : own_upd f i v j = f j := by simp [own_upd, q]
theorem own_in {j : Int32} {i k : Nat} (hj : j.toInt = (i : Int)) (hi : i < k) : ¬ (j < 0 ∨ k ≤ j.toNatClampNeg) ∧ j.toNatClampNeg = i := by
  have e : j.toNatClampNeg = i := by simp only [Int32.toNatClampNeg]; omega
  refine ⟨?_, e⟩
  rw [e, Int32.lt_iff_toInt_lt]; have : (0 : Int32).toInt = 0 := rfl
  omega
section OwnFacts
variable {Z : State} {h h' : Heap} {a b : Addr} {ty : FieldType} {n sl : Nat} {f : Nat → Value} {v : Value} {ws : List Addr}
theorem Ary.lt (F : Ary Z h a ty n f) : a < h.size := by obtain ⟨c, A, -⟩ := F; exact A.lt
theorem Ary.ext (F : Ary Z h a ty n f) (E : Ext h h') : Ary Z h' a ty n f := by obtain ⟨c, A, r⟩ := F; exact ⟨c, A.ext E, r⟩
theorem Ary.other (F : Ary Z h b ty n f) (W : Wr h h' a sl v) (q : b ≠ a) : Ary Z h' b ty n f := by obtain ⟨c, A, r⟩ := F; exact ⟨c, A.other W q, r⟩
theorem Ary.keep (F : Ary Z h a ty n f) (K : Keep h h' ws) (q : a ∉ ws) : Ary Z h' a ty n f := by obtain ⟨c, A, r⟩ := F; exact ⟨c, ⟨K.2.1 a c A.1 q, A.2⟩, r⟩
theorem Ary.same {cl : Cell} (A : Arr Z h a cl ty) (sz : cl.slots.size = n) (H : ∀ i, i < n → cl.slots[i]? = some (f i)) {i : Nat} (W : Wr h h' a i v) : Ary Z h' a ty n (own_upd f i v) := by
  refine ⟨_, A.same W, by rw [sz_set]; exact sz, fun j hj => ?_⟩
  by_cases q : j = i
  · subst q; simp [Cell.setSlot, own_upd, sz, hj]
  · rw [own_upd_ne f v q]; exact (Array.getElem?_setIfInBounds_ne (Ne.symm q)).trans (H j hj)
theorem Ary.congr (F : Ary Z h a ty n f) {g : Nat → Value} (q : ∀ i, i < n → f i = g i) : Ary Z h a ty n g := by obtain ⟨c, A, sz, H⟩ := F; exact ⟨c, A, sz, fun i hi => by rw [← q i hi]; exact H i hi⟩
/-- what may lie in an array of C -/
def Ov (Z : State) (h : Heap) (a : Addr) (C : String) : Prop := ∃ c : Cell, h[a]? = some c ∧ Ovr Z c.cls C
theorem Ov.ext {C : String} (F : Ov Z h a C) (E : Ext h h') : Ov Z h' a C := by obtain ⟨c, h1, O⟩ := F; exact ⟨c, E.2 _ _ h1, O⟩
theorem Ov.wr {C : String} (F : Ov Z h a C) (W : Wr h h' b sl v) : Ov Z h' a C := by
  obtain ⟨c, h1, O⟩ := F
  obtain ⟨c', e1, e2, -⟩ := wr_at W h1
  exact ⟨c', e1, by rw [e2]; exact O⟩
theorem Ov.keep {C : String} (F : Ov Z h a C) (K : Keep h h' ws) : Ov Z h' a C := by
  obtain ⟨c, h1, O⟩ := F
  obtain ⟨c', e1, e2, -⟩ := K.2.2 a c h1
  exact ⟨c', e1, by rw [e2]; exact O⟩
theorem Ov.sto {C : String} {y : Addr} (F : Ov Z h a C) (A : Ary Z h a ty n f) (I : Ins Z h y C true) : Sto Z h a (.ref y) := by
  obtain ⟨c, h1, O⟩ := F
  obtain ⟨cl, A, -⟩ := A
  cases h1.symm.trans A.1
  exact Sto.of A O I
theorem own_plain {C : String} (F : Exa Z h a C) : ∃ c : Cell, h[a]? = some c ∧ c.vm.isStatics = false := by obtain ⟨c, k, h1, -, -, h4, -⟩ := F; exact ⟨c, h1, h4⟩
theorem own_plainA (F : Ary Z h a ty n f) : ∃ c : Cell, h[a]? = some c ∧ c.vm.isStatics = false := by obtain ⟨c, A, -⟩ := F; exact ⟨c, A.1, A.plain⟩
theorem own_sta_keep {C nm d : String} (F : Sta Z h C nm d v) (K : Keep h h' ws) (q : ∀ x ∈ ws, ∃ c : Cell, h[x]? = some c ∧ c.vm.isStatics = false) : Sta Z h' C nm d v := by
  obtain ⟨cf, i, k, fd, st, cell, h1, h2, h3, h4, h5, h6, h7⟩ := F
  refine ⟨cf, i, k, fd, st, cell, h1, h2, h3, h4, K.2.1 _ _ h5 fun z => ?_, h6, h7⟩
  obtain ⟨c, e1, e2⟩ := q _ z
  cases h5.symm.trans e1
  rw [e2] at h6; cases h6
theorem own_fld_of {a0 : Array Value} {C O nm d O' nm' d' : String} {k : Nat} (E : Exa Z h a C) (F : Fld Z h a O' nm' d' v) (wi : (Cond.instantiable C k).before a0 Z = true) (L : Laid Z a0 C O nm d) : ∃ v', Fld Z h a O nm d v' := by
  obtain ⟨c, _, _, _, _, h1, -, -, h4, -⟩ := F
  exact fld_laid E ⟨c, h1, h4⟩ wi L
theorem own_ne_ty {ty' : FieldType} {n' : Nat} {f' : Nat → Value} (F : Ary Z h a ty n f) (G : Ary Z h b ty' n' f') (q : ty ≠ ty') : a ≠ b := fun e => by
  subst e
  obtain ⟨c1, A1, -⟩ := F
  obtain ⟨c2, A2, -⟩ := G
  cases A1.1.symm.trans A2.1
  obtain ⟨-, k1, i1, p1, j1⟩ := A1.2.1
  obtain ⟨-, k2, i2, p2, j2⟩ := A2.2.1
  cases i1.symm.trans i2
  rw [j1] at j2; cases j2; exact q rfl
theorem own_ne_exa {a0 : Array Value} {C : String} {k : Nat} (E : Exa Z h a C) (wi : (Cond.instantiable C k).before a0 Z = true) (G : Ary Z h b ty n f) : a ≠ b := by
  obtain ⟨c, A, -⟩ := G; exact ne_arr E wi A
theorem own_fld_inj {C nm d : String} {w : Value} (F : Fld Z h a C nm d v) (G : Fld Z h a C nm d w) : v = w := by
  obtain ⟨c1, cf1, k1, i1, f1, a1, a2, -, -, -, -, a7⟩ := F
  obtain ⟨c2, cf2, k2, i2, f2, b1, b2, -, -, -, -, b7⟩ := G
  cases a1.symm.trans b1
  cases a2.symm.trans b2
  exact Option.some.inj (a7.symm.trans b7)
end OwnFacts
section OwnSteps
variable {p : Program} {l : Launch} {e : Env} {R : Room} {s : State} {m : MethodId} {args : Array Value} {below : List Frame} {meth : Method} {c : Code} {T : State} {n0 : Nat} {h : Heap} {cells slots : Nat} {cs sl : Nat} {Φ : Outcome → State → List Loc → Prop} {Q : Option Value → Heap → Prop} {pc pc' : Nat} {L L' : Array Slot} {S : List Value} {bs : ByteArray} {Z : State} {a0 : Array Value}
theorem Gl.st {U V : State} (q : ∀ t, Steps p.tables e below V t → Steps p.tables e below U t) (k : Gl p e below n0 Φ Q V) : Gl p e below n0 Φ Q U := by
  obtain ⟨t, o, h1, h2⟩ := k; exact ⟨t, o, q _ h1, h2⟩
theorem Gl.mono {U : State} {Q' : Option Value → Heap → Prop} (q : ∀ v h, Q v h → Q' v h) (k : Gl p e below n0 Φ Q U) : Gl p e below n0 Φ Q' U := by
  obtain ⟨t, o, h1, h2, h3, v, L, h4, ⟨h5, h6⟩, h7⟩ := k; exact ⟨t, o, h1, h2, h3, v, L, h4, ⟨q _ _ h5, h6⟩, h7⟩
theorem g_iload (X : St p l e R s m args below meth c n0 T h cells slots) (hx : p.tables.exec = Jvm.exec) (hby : c.code = bs) {k : Nat} {v : Int32} (hd : decode bs pc = .ok (.iload k, 2)) (hl : L[k]? = some (.val (.int v))) (hp : pc + 2 = pc') (K : Gl p e below n0 Φ Q (T.setTop (mkF m pc' L (.int v :: S)))) : Gl p e below n0 Φ Q (T.setTop (mkF m pc L S)) := by
  obtain ⟨locs, Y, -, -⟩ := X; subst hp; exact Gl.st (fun t k => XS.iload Y.here hx rfl (hb hby hd) hl k) K
theorem g_iloadN (X : St p l e R s m args below meth c n0 T h cells slots) (hx : p.tables.exec = Jvm.exec) (hby : c.code = bs) {k : Fin 4} {v : Int32} (hd : decode bs pc = .ok (.iload_n k, 1)) (hl : L[k.val]? = some (.val (.int v))) (hp : pc + 1 = pc') (K : Gl p e below n0 Φ Q (T.setTop (mkF m pc' L (.int v :: S)))) : Gl p e below n0 Φ Q (T.setTop (mkF m pc L S)) := by
  obtain ⟨locs, Y, -, -⟩ := X; subst hp; exact Gl.st (fun t k => XS.iloadN Y.here hx rfl (hb hby hd) hl k) K
theorem g_lload (X : St p l e R s m args below meth c n0 T h cells slots) (hx : p.tables.exec = Jvm.exec) (hby : c.code = bs) {k : Nat} {v : Int64} (hd : decode bs pc = .ok (.lload k, 2)) (hl : L[k]? = some (.val (.long v))) (hp : pc + 2 = pc') (K : Gl p e below n0 Φ Q (T.setTop (mkF m pc' L (.long v :: S)))) : Gl p e below n0 Φ Q (T.setTop (mkF m pc L S)) := by
  obtain ⟨locs, Y, -, -⟩ := X; subst hp; exact Gl.st (fun t k => XS.lload Y.here hx rfl (hb hby hd) hl k) K
theorem g_lloadN (X : St p l e R s m args below meth c n0 T h cells slots) (hx : p.tables.exec = Jvm.exec) (hby : c.code = bs) {k : Fin 4} {v : Int64} (hd : decode bs pc = .ok (.lload_n k, 1)) (hl : L[k.val]? = some (.val (.long v))) (hp : pc + 1 = pc') (K : Gl p e below n0 Φ Q (T.setTop (mkF m pc' L (.long v :: S)))) : Gl p e below n0 Φ Q (T.setTop (mkF m pc L S)) := by
  obtain ⟨locs, Y, -, -⟩ := X; subst hp; exact Gl.st (fun t k => XS.lloadN Y.here hx rfl (hb hby hd) hl k) K
theorem g_aload (X : St p l e R s m args below meth c n0 T h cells slots) (hx : p.tables.exec = Jvm.exec) (hby : c.code = bs) {k : Nat} {v : Value} (hd : decode bs pc = .ok (.aload k, 2)) (hl : L[k]? = some (.val v)) (hv : v.isRef = true) (hp : pc + 2 = pc') (K : Gl p e below n0 Φ Q (T.setTop (mkF m pc' L (v :: S)))) : Gl p e below n0 Φ Q (T.setTop (mkF m pc L S)) := by
  obtain ⟨locs, Y, -, -⟩ := X; subst hp; exact Gl.st (fun t k => XS.aload Y.here hx rfl (hb hby hd) hl hv k) K
theorem g_aloadN (X : St p l e R s m args below meth c n0 T h cells slots) (hx : p.tables.exec = Jvm.exec) (hby : c.code = bs) {k : Fin 4} {v : Value} (hd : decode bs pc = .ok (.aload_n k, 1)) (hl : L[k.val]? = some (.val v)) (hv : v.isRef = true) (hp : pc + 1 = pc') (K : Gl p e below n0 Φ Q (T.setTop (mkF m pc' L (v :: S)))) : Gl p e below n0 Φ Q (T.setTop (mkF m pc L S)) := by
  obtain ⟨locs, Y, -, -⟩ := X; subst hp; exact Gl.st (fun t k => XS.aloadN Y.here hx rfl (hb hby hd) hl hv k) K
theorem g_istore (X : St p l e R s m args below meth c n0 T h cells slots) (hx : p.tables.exec = Jvm.exec) (hby : c.code = bs) {k : Nat} {v : Int32} (hd : decode bs pc = .ok (.istore k, 2)) (hl : storeLocals L k (.int v) = some L') (hp : pc + 2 = pc') (K : Gl p e below n0 Φ Q (T.setTop (mkF m pc' L' S))) : Gl p e below n0 Φ Q (T.setTop (mkF m pc L (.int v :: S))) := by
  obtain ⟨locs, Y, -, -⟩ := X; subst hp; exact Gl.st (fun t k => XS.istore Y.here hx rfl (hb hby hd) rfl hl k) K
theorem g_istoreN (X : St p l e R s m args below meth c n0 T h cells slots) (hx : p.tables.exec = Jvm.exec) (hby : c.code = bs) {k : Fin 4} {v : Int32} (hd : decode bs pc = .ok (.istore_n k, 1)) (hl : storeLocals L k.val (.int v) = some L') (hp : pc + 1 = pc') (K : Gl p e below n0 Φ Q (T.setTop (mkF m pc' L' S))) : Gl p e below n0 Φ Q (T.setTop (mkF m pc L (.int v :: S))) := by
  obtain ⟨locs, Y, -, -⟩ := X; subst hp; exact Gl.st (fun t k => XS.istoreN Y.here hx rfl (hb hby hd) rfl hl k) K
theorem g_lstore (X : St p l e R s m args below meth c n0 T h cells slots) (hx : p.tables.exec = Jvm.exec) (hby : c.code = bs) {k : Nat} {v : Int64} (hd : decode bs pc = .ok (.lstore k, 2)) (hl : storeLocals L k (.long v) = some L') (hp : pc + 2 = pc') (K : Gl p e below n0 Φ Q (T.setTop (mkF m pc' L' S))) : Gl p e below n0 Φ Q (T.setTop (mkF m pc L (.long v :: S))) := by
  obtain ⟨locs, Y, -, -⟩ := X; subst hp; exact Gl.st (fun t k => XS.lstore Y.here hx rfl (hb hby hd) rfl hl k) K
theorem g_lstoreN (X : St p l e R s m args below meth c n0 T h cells slots) (hx : p.tables.exec = Jvm.exec) (hby : c.code = bs) {k : Fin 4} {v : Int64} (hd : decode bs pc = .ok (.lstore_n k, 1)) (hl : storeLocals L k.val (.long v) = some L') (hp : pc + 1 = pc') (K : Gl p e below n0 Φ Q (T.setTop (mkF m pc' L' S))) : Gl p e below n0 Φ Q (T.setTop (mkF m pc L (.long v :: S))) := by
  obtain ⟨locs, Y, -, -⟩ := X; subst hp; exact Gl.st (fun t k => XS.lstoreN Y.here hx rfl (hb hby hd) rfl hl k) K
theorem g_astore (X : St p l e R s m args below meth c n0 T h cells slots) (hx : p.tables.exec = Jvm.exec) (hby : c.code = bs) {k : Nat} {v : Value} (hd : decode bs pc = .ok (.astore k, 2)) (hv : v.isRef = true) (hl : storeLocals L k v = some L') (hp : pc + 2 = pc') (K : Gl p e below n0 Φ Q (T.setTop (mkF m pc' L' S))) : Gl p e below n0 Φ Q (T.setTop (mkF m pc L (v :: S))) := by
  obtain ⟨locs, Y, -, -⟩ := X; subst hp; exact Gl.st (fun t k => XS.astore Y.here hx rfl (hb hby hd) rfl hv hl k) K
theorem g_astoreN (X : St p l e R s m args below meth c n0 T h cells slots) (hx : p.tables.exec = Jvm.exec) (hby : c.code = bs) {k : Fin 4} {v : Value} (hd : decode bs pc = .ok (.astore_n k, 1)) (hv : v.isRef = true) (hl : storeLocals L k.val v = some L') (hp : pc + 1 = pc') (K : Gl p e below n0 Φ Q (T.setTop (mkF m pc' L' S))) : Gl p e below n0 Φ Q (T.setTop (mkF m pc L (v :: S))) := by
  obtain ⟨locs, Y, -, -⟩ := X; subst hp; exact Gl.st (fun t k => XS.astoreN Y.here hx rfl (hb hby hd) rfl hv hl k) K
theorem g_iconst (X : St p l e R s m args below meth c n0 T h cells slots) (hx : p.tables.exec = Jvm.exec) (hby : c.code = bs) {i : Int} {v : Int32} (hd : decode bs pc = .ok (.iconst i, 1)) (hv : Int32.ofInt i = v) (hp : pc + 1 = pc') (K : Gl p e below n0 Φ Q (T.setTop (mkF m pc' L (.int v :: S)))) : Gl p e below n0 Φ Q (T.setTop (mkF m pc L S)) := by
  obtain ⟨locs, Y, -, -⟩ := X; subst hp hv; exact Gl.st (fun t k => XS.iconst Y.here hx rfl (hb hby hd) k) K
theorem g_bipush (X : St p l e R s m args below meth c n0 T h cells slots) (hx : p.tables.exec = Jvm.exec) (hby : c.code = bs) {i : Int} {v : Int32} (hd : decode bs pc = .ok (.bipush i, 2)) (hv : (Int8.ofInt i).toInt32 = v) (hp : pc + 2 = pc') (K : Gl p e below n0 Φ Q (T.setTop (mkF m pc' L (.int v :: S)))) : Gl p e below n0 Φ Q (T.setTop (mkF m pc L S)) := by
  obtain ⟨locs, Y, -, -⟩ := X; subst hp hv; exact Gl.st (fun t k => XS.bipush Y.here hx rfl (hb hby hd) k) K
theorem g_sipush (X : St p l e R s m args below meth c n0 T h cells slots) (hx : p.tables.exec = Jvm.exec) (hby : c.code = bs) {i : Int} {v : Int32} (hd : decode bs pc = .ok (.sipush i, 3)) (hv : (Int16.ofInt i).toInt32 = v) (hp : pc + 3 = pc') (K : Gl p e below n0 Φ Q (T.setTop (mkF m pc' L (.int v :: S)))) : Gl p e below n0 Φ Q (T.setTop (mkF m pc L S)) := by
  obtain ⟨locs, Y, -, -⟩ := X; subst hp hv; exact Gl.st (fun t k => XS.sipush Y.here hx rfl (hb hby hd) k) K
theorem g_lconst (X : St p l e R s m args below meth c n0 T h cells slots) (hx : p.tables.exec = Jvm.exec) (hby : c.code = bs) {i : Fin 2} {v : Int64} (hd : decode bs pc = .ok (.lconst i, 1)) (hv : Int64.ofNat i = v) (hp : pc + 1 = pc') (K : Gl p e below n0 Φ Q (T.setTop (mkF m pc' L (.long v :: S)))) : Gl p e below n0 Φ Q (T.setTop (mkF m pc L S)) := by
  obtain ⟨locs, Y, -, -⟩ := X; subst hp hv; exact Gl.st (fun t k => XS.lconst Y.here hx rfl (hb hby hd) k) K
theorem g_aconst_null (X : St p l e R s m args below meth c n0 T h cells slots) (hx : p.tables.exec = Jvm.exec) (hby : c.code = bs) (hd : decode bs pc = .ok (.aconst_null, 1)) (hp : pc + 1 = pc') (K : Gl p e below n0 Φ Q (T.setTop (mkF m pc' L (.null :: S)))) : Gl p e below n0 Φ Q (T.setTop (mkF m pc L S)) := by
  obtain ⟨locs, Y, -, -⟩ := X; subst hp; exact Gl.st (fun t k => XS.aconstNull Y.here hx rfl (hb hby hd) k) K
theorem g_ldc (X : St p l e R s m args below meth c n0 T h cells slots) (hx : p.tables.exec = Jvm.exec) (hby : c.code = bs) (hZ : Z.Warmed39 s.vm) {own : String} {index : Nat} {v : Int32} (hown : s.vm.findClass own = some m.cls) (w : (Cond.constant own index v).before a0 Z = true) (hd : decode bs pc = .ok (.ldc index, 2)) (hp : pc + 2 = pc') (K : Gl p e below n0 Φ Q (T.setTop (mkF m pc' L (.int v :: S)))) : Gl p e below n0 Φ Q (T.setTop (mkF m pc L S)) := by
  obtain ⟨locs, Y, -, -⟩ := X; subst hp; exact Gl.st (Y.ldcInt hx hown (mvT hZ w) (g := mkF m pc L S) rfl (hb hby hd)) K
theorem g_ldc2_w (X : St p l e R s m args below meth c n0 T h cells slots) (hx : p.tables.exec = Jvm.exec) (hby : c.code = bs) (hZ : Z.Warmed39 s.vm) {own : String} {index : Nat} {v : Int64} (hown : s.vm.findClass own = some m.cls) (w : (Cond.constantLong own index v).before a0 Z = true) (hd : decode bs pc = .ok (.ldc2_w index, 3)) (hp : pc + 3 = pc') (K : Gl p e below n0 Φ Q (T.setTop (mkF m pc' L (.long v :: S)))) : Gl p e below n0 Φ Q (T.setTop (mkF m pc L S)) := by
  obtain ⟨locs, Y, -, -⟩ := X; subst hp; exact Gl.st (Y.ldc2Long hx hown (mvT hZ w) (g := mkF m pc L S) rfl (hb hby hd)) K
theorem g_iadd (X : St p l e R s m args below meth c n0 T h cells slots) (hx : p.tables.exec = Jvm.exec) (hby : c.code = bs) {x y : Int32} (hd : decode bs pc = .ok (.iadd, 1))  (hp : pc + 1 = pc') (K : Gl p e below n0 Φ Q (T.setTop (mkF m pc' L (.int (x + y) :: S)))) : Gl p e below n0 Φ Q (T.setTop (mkF m pc L (.int y :: .int x :: S))) := by
  obtain ⟨locs, Y, -, -⟩ := X; subst hp; exact Gl.st (fun t k => XS.iadd Y.here hx rfl (hb hby hd) rfl k) K
theorem g_isub (X : St p l e R s m args below meth c n0 T h cells slots) (hx : p.tables.exec = Jvm.exec) (hby : c.code = bs) {x y : Int32} (hd : decode bs pc = .ok (.isub, 1))  (hp : pc + 1 = pc') (K : Gl p e below n0 Φ Q (T.setTop (mkF m pc' L (.int (x - y) :: S)))) : Gl p e below n0 Φ Q (T.setTop (mkF m pc L (.int y :: .int x :: S))) := by
  obtain ⟨locs, Y, -, -⟩ := X; subst hp; exact Gl.st (fun t k => XS.isub Y.here hx rfl (hb hby hd) rfl k) K
theorem g_imul (X : St p l e R s m args below meth c n0 T h cells slots) (hx : p.tables.exec = Jvm.exec) (hby : c.code = bs) {x y : Int32} (hd : decode bs pc = .ok (.imul, 1))  (hp : pc + 1 = pc') (K : Gl p e below n0 Φ Q (T.setTop (mkF m pc' L (.int (x * y) :: S)))) : Gl p e below n0 Φ Q (T.setTop (mkF m pc L (.int y :: .int x :: S))) := by
  obtain ⟨locs, Y, -, -⟩ := X; subst hp; exact Gl.st (fun t k => XS.imul Y.here hx rfl (hb hby hd) rfl k) K
theorem g_iand (X : St p l e R s m args below meth c n0 T h cells slots) (hx : p.tables.exec = Jvm.exec) (hby : c.code = bs) {x y : Int32} (hd : decode bs pc = .ok (.iand, 1))  (hp : pc + 1 = pc') (K : Gl p e below n0 Φ Q (T.setTop (mkF m pc' L (.int (x &&& y) :: S)))) : Gl p e below n0 Φ Q (T.setTop (mkF m pc L (.int y :: .int x :: S))) := by
  obtain ⟨locs, Y, -, -⟩ := X; subst hp; exact Gl.st (fun t k => XS.iand Y.here hx rfl (hb hby hd) rfl k) K
theorem g_ior (X : St p l e R s m args below meth c n0 T h cells slots) (hx : p.tables.exec = Jvm.exec) (hby : c.code = bs) {x y : Int32} (hd : decode bs pc = .ok (.ior, 1))  (hp : pc + 1 = pc') (K : Gl p e below n0 Φ Q (T.setTop (mkF m pc' L (.int (x ||| y) :: S)))) : Gl p e below n0 Φ Q (T.setTop (mkF m pc L (.int y :: .int x :: S))) := by
  obtain ⟨locs, Y, -, -⟩ := X; subst hp; exact Gl.st (fun t k => XS.ior Y.here hx rfl (hb hby hd) rfl k) K
theorem g_ixor (X : St p l e R s m args below meth c n0 T h cells slots) (hx : p.tables.exec = Jvm.exec) (hby : c.code = bs) {x y : Int32} (hd : decode bs pc = .ok (.ixor, 1))  (hp : pc + 1 = pc') (K : Gl p e below n0 Φ Q (T.setTop (mkF m pc' L (.int (x ^^^ y) :: S)))) : Gl p e below n0 Φ Q (T.setTop (mkF m pc L (.int y :: .int x :: S))) := by
  obtain ⟨locs, Y, -, -⟩ := X; subst hp; exact Gl.st (fun t k => XS.ixor Y.here hx rfl (hb hby hd) rfl k) K
theorem g_ishl (X : St p l e R s m args below meth c n0 T h cells slots) (hx : p.tables.exec = Jvm.exec) (hby : c.code = bs) {x y : Int32} (hd : decode bs pc = .ok (.ishl, 1))  (hp : pc + 1 = pc') (K : Gl p e below n0 Φ Q (T.setTop (mkF m pc' L (.int (x <<< (y &&& 31)) :: S)))) : Gl p e below n0 Φ Q (T.setTop (mkF m pc L (.int y :: .int x :: S))) := by
  obtain ⟨locs, Y, -, -⟩ := X; subst hp; exact Gl.st (fun t k => XS.ishl Y.here hx rfl (hb hby hd) rfl k) K
theorem g_ishr (X : St p l e R s m args below meth c n0 T h cells slots) (hx : p.tables.exec = Jvm.exec) (hby : c.code = bs) {x y : Int32} (hd : decode bs pc = .ok (.ishr, 1))  (hp : pc + 1 = pc') (K : Gl p e below n0 Φ Q (T.setTop (mkF m pc' L (.int (x >>> (y &&& 31)) :: S)))) : Gl p e below n0 Φ Q (T.setTop (mkF m pc L (.int y :: .int x :: S))) := by
  obtain ⟨locs, Y, -, -⟩ := X; subst hp; exact Gl.st (fun t k => XS.ishr Y.here hx rfl (hb hby hd) rfl k) K
theorem g_iushr (X : St p l e R s m args below meth c n0 T h cells slots) (hx : p.tables.exec = Jvm.exec) (hby : c.code = bs) {x y : Int32} (hd : decode bs pc = .ok (.iushr, 1))  (hp : pc + 1 = pc') (K : Gl p e below n0 Φ Q (T.setTop (mkF m pc' L (.int ((x.toUInt32 >>> (y &&& 31).toUInt32).toInt32) :: S)))) : Gl p e below n0 Φ Q (T.setTop (mkF m pc L (.int y :: .int x :: S))) := by
  obtain ⟨locs, Y, -, -⟩ := X; subst hp; exact Gl.st (fun t k => XS.iushr Y.here hx rfl (hb hby hd) rfl k) K
theorem g_ladd (X : St p l e R s m args below meth c n0 T h cells slots) (hx : p.tables.exec = Jvm.exec) (hby : c.code = bs) {x y : Int64} (hd : decode bs pc = .ok (.ladd, 1))  (hp : pc + 1 = pc') (K : Gl p e below n0 Φ Q (T.setTop (mkF m pc' L (.long (x + y) :: S)))) : Gl p e below n0 Φ Q (T.setTop (mkF m pc L (.long y :: .long x :: S))) := by
  obtain ⟨locs, Y, -, -⟩ := X; subst hp; exact Gl.st (fun t k => XS.ladd Y.here hx rfl (hb hby hd) rfl k) K
theorem g_lsub (X : St p l e R s m args below meth c n0 T h cells slots) (hx : p.tables.exec = Jvm.exec) (hby : c.code = bs) {x y : Int64} (hd : decode bs pc = .ok (.lsub, 1))  (hp : pc + 1 = pc') (K : Gl p e below n0 Φ Q (T.setTop (mkF m pc' L (.long (x - y) :: S)))) : Gl p e below n0 Φ Q (T.setTop (mkF m pc L (.long y :: .long x :: S))) := by
  obtain ⟨locs, Y, -, -⟩ := X; subst hp; exact Gl.st (fun t k => XS.lsub Y.here hx rfl (hb hby hd) rfl k) K
theorem g_lmul (X : St p l e R s m args below meth c n0 T h cells slots) (hx : p.tables.exec = Jvm.exec) (hby : c.code = bs) {x y : Int64} (hd : decode bs pc = .ok (.lmul, 1))  (hp : pc + 1 = pc') (K : Gl p e below n0 Φ Q (T.setTop (mkF m pc' L (.long (x * y) :: S)))) : Gl p e below n0 Φ Q (T.setTop (mkF m pc L (.long y :: .long x :: S))) := by
  obtain ⟨locs, Y, -, -⟩ := X; subst hp; exact Gl.st (fun t k => XS.lmul Y.here hx rfl (hb hby hd) rfl k) K
theorem g_land (X : St p l e R s m args below meth c n0 T h cells slots) (hx : p.tables.exec = Jvm.exec) (hby : c.code = bs) {x y : Int64} (hd : decode bs pc = .ok (.land, 1))  (hp : pc + 1 = pc') (K : Gl p e below n0 Φ Q (T.setTop (mkF m pc' L (.long (x &&& y) :: S)))) : Gl p e below n0 Φ Q (T.setTop (mkF m pc L (.long y :: .long x :: S))) := by
  obtain ⟨locs, Y, -, -⟩ := X; subst hp; exact Gl.st (fun t k => XS.land Y.here hx rfl (hb hby hd) rfl k) K
theorem g_lor (X : St p l e R s m args below meth c n0 T h cells slots) (hx : p.tables.exec = Jvm.exec) (hby : c.code = bs) {x y : Int64} (hd : decode bs pc = .ok (.lor, 1))  (hp : pc + 1 = pc') (K : Gl p e below n0 Φ Q (T.setTop (mkF m pc' L (.long (x ||| y) :: S)))) : Gl p e below n0 Φ Q (T.setTop (mkF m pc L (.long y :: .long x :: S))) := by
  obtain ⟨locs, Y, -, -⟩ := X; subst hp; exact Gl.st (fun t k => XS.lor Y.here hx rfl (hb hby hd) rfl k) K
theorem g_lxor (X : St p l e R s m args below meth c n0 T h cells slots) (hx : p.tables.exec = Jvm.exec) (hby : c.code = bs) {x y : Int64} (hd : decode bs pc = .ok (.lxor, 1))  (hp : pc + 1 = pc') (K : Gl p e below n0 Φ Q (T.setTop (mkF m pc' L (.long (x ^^^ y) :: S)))) : Gl p e below n0 Φ Q (T.setTop (mkF m pc L (.long y :: .long x :: S))) := by
  obtain ⟨locs, Y, -, -⟩ := X; subst hp; exact Gl.st (fun t k => XS.lxor Y.here hx rfl (hb hby hd) rfl k) K
theorem g_lushr (X : St p l e R s m args below meth c n0 T h cells slots) (hx : p.tables.exec = Jvm.exec) (hby : c.code = bs) {x : Int64} {y : Int32} (hd : decode bs pc = .ok (.lushr, 1))  (hp : pc + 1 = pc') (K : Gl p e below n0 Φ Q (T.setTop (mkF m pc' L (.long ((x.toUInt64 >>> (y &&& 0x3f).toInt64.toUInt64).toInt64) :: S)))) : Gl p e below n0 Φ Q (T.setTop (mkF m pc L (.int y :: .long x :: S))) := by
  obtain ⟨locs, Y, -, -⟩ := X; subst hp; exact Gl.st (fun t k => XS.lushr Y.here hx rfl (hb hby hd) rfl k) K
theorem g_irem (X : St p l e R s m args below meth c n0 T h cells slots) (hx : p.tables.exec = Jvm.exec) (hby : c.code = bs) {x y : Int32} (hd : decode bs pc = .ok (.irem, 1)) (hy : y ≠ 0) (hp : pc + 1 = pc') (K : Gl p e below n0 Φ Q (T.setTop (mkF m pc' L (.int (x % y) :: S)))) : Gl p e below n0 Φ Q (T.setTop (mkF m pc L (.int y :: .int x :: S))) := by
  obtain ⟨locs, Y, -, -⟩ := X; subst hp; exact Gl.st (fun t k => iremM Y hx rfl (hb hby hd) rfl hy k) K
theorem g_lrem (X : St p l e R s m args below meth c n0 T h cells slots) (hx : p.tables.exec = Jvm.exec) (hby : c.code = bs) {x y : Int64} (hd : decode bs pc = .ok (.lrem, 1)) (hy : y ≠ 0) (hp : pc + 1 = pc') (K : Gl p e below n0 Φ Q (T.setTop (mkF m pc' L (.long (x - (x / y) * y) :: S)))) : Gl p e below n0 Φ Q (T.setTop (mkF m pc L (.long y :: .long x :: S))) := by
  obtain ⟨locs, Y, -, -⟩ := X; subst hp; exact Gl.st (fun t k => XS.lrem Y.here hx rfl (hb hby hd) rfl hy k) K
theorem g_i2l (X : St p l e R s m args below meth c n0 T h cells slots) (hx : p.tables.exec = Jvm.exec) (hby : c.code = bs) {x : Int32} (hd : decode bs pc = .ok (.i2l, 1))  (hp : pc + 1 = pc') (K : Gl p e below n0 Φ Q (T.setTop (mkF m pc' L (.long (x.toInt64) :: S)))) : Gl p e below n0 Φ Q (T.setTop (mkF m pc L (.int x :: S))) := by
  obtain ⟨locs, Y, -, -⟩ := X; subst hp; exact Gl.st (fun t k => XS.i2l Y.here hx rfl (hb hby hd) rfl k) K
theorem g_l2i (X : St p l e R s m args below meth c n0 T h cells slots) (hx : p.tables.exec = Jvm.exec) (hby : c.code = bs) {x : Int64} (hd : decode bs pc = .ok (.l2i, 1))  (hp : pc + 1 = pc') (K : Gl p e below n0 Φ Q (T.setTop (mkF m pc' L (.int (x.toInt32) :: S)))) : Gl p e below n0 Φ Q (T.setTop (mkF m pc L (.long x :: S))) := by
  obtain ⟨locs, Y, -, -⟩ := X; subst hp; exact Gl.st (fun t k => XS.l2i Y.here hx rfl (hb hby hd) rfl k) K
theorem g_i2b (X : St p l e R s m args below meth c n0 T h cells slots) (hx : p.tables.exec = Jvm.exec) (hby : c.code = bs) {x : Int32} (hd : decode bs pc = .ok (.i2b, 1))  (hp : pc + 1 = pc') (K : Gl p e below n0 Φ Q (T.setTop (mkF m pc' L (.int (x.toInt8.toInt32) :: S)))) : Gl p e below n0 Φ Q (T.setTop (mkF m pc L (.int x :: S))) := by
  obtain ⟨locs, Y, -, -⟩ := X; subst hp; exact Gl.st (fun t k => XS.i2b Y.here hx rfl (hb hby hd) rfl k) K
theorem g_i2c (X : St p l e R s m args below meth c n0 T h cells slots) (hx : p.tables.exec = Jvm.exec) (hby : c.code = bs) {x : Int32} (hd : decode bs pc = .ok (.i2c, 1))  (hp : pc + 1 = pc') (K : Gl p e below n0 Φ Q (T.setTop (mkF m pc' L (.int (x.toUInt32.toUInt16.toUInt32.toInt32) :: S)))) : Gl p e below n0 Φ Q (T.setTop (mkF m pc L (.int x :: S))) := by
  obtain ⟨locs, Y, -, -⟩ := X; subst hp; exact Gl.st (fun t k => XS.i2c Y.here hx rfl (hb hby hd) rfl k) K
theorem g_ineg (X : St p l e R s m args below meth c n0 T h cells slots) (hx : p.tables.exec = Jvm.exec) (hby : c.code = bs) {x : Int32} (hd : decode bs pc = .ok (.ineg, 1))  (hp : pc + 1 = pc') (K : Gl p e below n0 Φ Q (T.setTop (mkF m pc' L (.int (-x) :: S)))) : Gl p e below n0 Φ Q (T.setTop (mkF m pc L (.int x :: S))) := by
  obtain ⟨locs, Y, -, -⟩ := X; subst hp; exact Gl.st (fun t k => XS.ineg Y.here hx rfl (hb hby hd) rfl k) K
theorem g_dload (X : St p l e R s m args below meth c n0 T h cells slots) (hx : p.tables.exec = Jvm.exec) (hby : c.code = bs) {k : Nat} {v : UInt64} (hd : decode bs pc = .ok (.dload k, 2)) (hl : L[k]? = some (.val (.double v))) (hp : pc + 2 = pc') (K : Gl p e below n0 Φ Q (T.setTop (mkF m pc' L (.double v :: S)))) : Gl p e below n0 Φ Q (T.setTop (mkF m pc L S)) := by
  obtain ⟨locs, Y, -, -⟩ := X; subst hp; exact Gl.st (fun t k => XS.dload Y.here hx rfl (hb hby hd) hl k) K
theorem g_dloadN (X : St p l e R s m args below meth c n0 T h cells slots) (hx : p.tables.exec = Jvm.exec) (hby : c.code = bs) {k : Fin 4} {v : UInt64} (hd : decode bs pc = .ok (.dload_n k, 1)) (hl : L[k.val]? = some (.val (.double v))) (hp : pc + 1 = pc') (K : Gl p e below n0 Φ Q (T.setTop (mkF m pc' L (.double v :: S)))) : Gl p e below n0 Φ Q (T.setTop (mkF m pc L S)) := by
  obtain ⟨locs, Y, -, -⟩ := X; subst hp; exact Gl.st (fun t k => XS.dloadN Y.here hx rfl (hb hby hd) hl k) K
theorem g_dstore (X : St p l e R s m args below meth c n0 T h cells slots) (hx : p.tables.exec = Jvm.exec) (hby : c.code = bs) {k : Nat} {v : UInt64} (hd : decode bs pc = .ok (.dstore k, 2)) (hl : storeLocals L k (.double v) = some L') (hp : pc + 2 = pc') (K : Gl p e below n0 Φ Q (T.setTop (mkF m pc' L' S))) : Gl p e below n0 Φ Q (T.setTop (mkF m pc L (.double v :: S))) := by
  obtain ⟨locs, Y, -, -⟩ := X; subst hp; exact Gl.st (fun t k => XS.dstore Y.here hx rfl (hb hby hd) rfl hl k) K
theorem g_dstoreN (X : St p l e R s m args below meth c n0 T h cells slots) (hx : p.tables.exec = Jvm.exec) (hby : c.code = bs) {k : Fin 4} {v : UInt64} (hd : decode bs pc = .ok (.dstore_n k, 1)) (hl : storeLocals L k.val (.double v) = some L') (hp : pc + 1 = pc') (K : Gl p e below n0 Φ Q (T.setTop (mkF m pc' L' S))) : Gl p e below n0 Φ Q (T.setTop (mkF m pc L (.double v :: S))) := by
  obtain ⟨locs, Y, -, -⟩ := X; subst hp; exact Gl.st (fun t k => XS.dstoreN Y.here hx rfl (hb hby hd) rfl hl k) K
theorem g_i2d (X : St p l e R s m args below meth c n0 T h cells slots) (hx : p.tables.exec = Jvm.exec) (hby : c.code = bs) {x : Int32} (hd : decode bs pc = .ok (.i2d, 1))  (hp : pc + 1 = pc') (K : Gl p e below n0 Φ Q (T.setTop (mkF m pc' L (.double (FP.i2d x) :: S)))) : Gl p e below n0 Φ Q (T.setTop (mkF m pc L (.int x :: S))) := by
  obtain ⟨locs, Y, -, -⟩ := X; subst hp; exact Gl.st (fun t k => XS.i2dS Y.here hx rfl (hb hby hd) rfl rfl k) K
theorem g_dconst0 (X : St p l e R s m args below meth c n0 T h cells slots) (hx : p.tables.exec = Jvm.exec) (hby : c.code = bs) (hd : decode bs pc = .ok (.dconst 0, 1)) (hp : pc + 1 = pc') (K : Gl p e below n0 Φ Q (T.setTop (mkF m pc' L (.double FP.dconst0 :: S)))) : Gl p e below n0 Φ Q (T.setTop (mkF m pc L S)) := by
  obtain ⟨locs, Y, -, -⟩ := X; subst hp; exact Gl.st (fun t k => XS.dconst0 Y.here hx rfl (hb hby hd) rfl k) K
theorem g_dconst1 (X : St p l e R s m args below meth c n0 T h cells slots) (hx : p.tables.exec = Jvm.exec) (hby : c.code = bs) (hd : decode bs pc = .ok (.dconst 1, 1)) (hp : pc + 1 = pc') (K : Gl p e below n0 Φ Q (T.setTop (mkF m pc' L (.double FP.dconst1 :: S)))) : Gl p e below n0 Φ Q (T.setTop (mkF m pc L S)) := by
  obtain ⟨locs, Y, -, -⟩ := X; subst hp; exact Gl.st (fun t k => XS.dconst1 Y.here hx rfl (hb hby hd) rfl k) K
theorem g_ddiv (X : St p l e R s m args below meth c n0 T h cells slots) (hx : p.tables.exec = Jvm.exec) (hby : c.code = bs) {x y : UInt64} (hd : decode bs pc = .ok (.ddiv, 1)) (hn : Jvm.Free.Fl.NoNaN64 (FP.ddiv x y)) (hp : pc + 1 = pc') (K : Gl p e below n0 Φ Q (T.setTop (mkF m pc' L (.double (FP.ddiv x y) :: S)))) : Gl p e below n0 Φ Q (T.setTop (mkF m pc L (.double y :: .double x :: S))) := by
  obtain ⟨locs, Y, -, -⟩ := X; subst hp; exact Gl.st (fun t k => XS.ddivS Y.here hx rfl (hb hby hd) rfl hn rfl k) K
theorem g_dcmp (X : St p l e R s m args below meth c n0 T h cells slots) (hx : p.tables.exec = Jvm.exec) (hby : c.code = bs) {x y : UInt64} {o : CmpOp} {v : Int32} (hd : decode bs pc = .ok (.dcmp o, 1)) (hv : cmpValue (FP.dcmp x y) o = v) (hp : pc + 1 = pc') (K : Gl p e below n0 Φ Q (T.setTop (mkF m pc' L (.int v :: S)))) : Gl p e below n0 Φ Q (T.setTop (mkF m pc L (.double y :: .double x :: S))) := by
  obtain ⟨locs, Y, -, -⟩ := X; subst hp; exact Gl.st (fun t k => XS.dcmpS Y.here hx rfl (hb hby hd) rfl hv k) K
theorem g_dup (X : St p l e R s m args below meth c n0 T h cells slots) (hx : p.tables.exec = Jvm.exec) (hby : c.code = bs) {v : Value} (hd : decode bs pc = .ok (.dup, 1)) (hc : v.category = 1) (hp : pc + 1 = pc') (K : Gl p e below n0 Φ Q (T.setTop (mkF m pc' L (v :: v :: S)))) : Gl p e below n0 Φ Q (T.setTop (mkF m pc L (v :: S))) := by
  obtain ⟨locs, Y, -, -⟩ := X; subst hp; exact Gl.st (fun t k => XS.dup Y.here hx rfl (hb hby hd) rfl hc k) K
theorem g_pop (X : St p l e R s m args below meth c n0 T h cells slots) (hx : p.tables.exec = Jvm.exec) (hby : c.code = bs) {v : Value} (hd : decode bs pc = .ok (.pop, 1)) (hc : v.category = 1) (hp : pc + 1 = pc') (K : Gl p e below n0 Φ Q (T.setTop (mkF m pc' L S))) : Gl p e below n0 Φ Q (T.setTop (mkF m pc L (v :: S))) := by
  obtain ⟨locs, Y, -, -⟩ := X; subst hp; exact Gl.st (fun t k => XS.pop Y.here hx rfl (hb hby hd) rfl hc k) K
theorem g_dup2 (X : St p l e R s m args below meth c n0 T h cells slots) (hx : p.tables.exec = Jvm.exec) (hby : c.code = bs) {v w : Value} (hd : decode bs pc = .ok (.dup2, 1)) (hc : v.category = 1) (hc' : w.category = 1) (hp : pc + 1 = pc') (K : Gl p e below n0 Φ Q (T.setTop (mkF m pc' L (v :: w :: v :: w :: S)))) : Gl p e below n0 Φ Q (T.setTop (mkF m pc L (v :: w :: S))) := by
  obtain ⟨locs, Y, -, -⟩ := X; subst hp; exact Gl.st (fun t k => XT.dup2 Y.here hx rfl (hb hby hd) rfl hc hc' k) K
theorem g_iinc (X : St p l e R s m args below meth c n0 T h cells slots) (hx : p.tables.exec = Jvm.exec) (hby : c.code = bs) {k : Nat} {i : Int} {x y : Int32} (hd : decode bs pc = .ok (.iinc k i, 3)) (hl : L[k]? = some (.val (.int x))) (hy : Int32.ofInt i = y) (hl' : storeLocals L k (.int (x + y)) = some L') (hp : pc + 3 = pc') (K : Gl p e below n0 Φ Q (T.setTop (mkF m pc' L' S))) : Gl p e below n0 Φ Q (T.setTop (mkF m pc L S)) := by
  obtain ⟨locs, Y, -, -⟩ := X; subst hp hy; exact Gl.st (fun t k => XS.iinc Y.here hx rfl (hb hby hd) hl hl' k) K
theorem g_goto (X : St p l e R s m args below meth c n0 T h cells slots) (hx : p.tables.exec = Jvm.exec) (hby : c.code = bs) {o : Int} (hd : decode bs pc = .ok (.goto o, 3)) (ho : 0 ≤ (pc : Int) + o) (hp : ((pc : Int) + o).toNat = pc') (K : Gl p e below n0 Φ Q (T.setTop (mkF m pc' L S))) : Gl p e below n0 Φ Q (T.setTop (mkF m pc L S)) := by
  obtain ⟨locs, Y, -, -⟩ := X; exact Gl.st (fun t k => XS.goto Y.here hx rfl (pc0 := pc) rfl (hb hby hd) ho hp k) K
theorem g_icmp (X : St p l e R s m args below meth c n0 T h cells slots) (hx : p.tables.exec = Jvm.exec) (hby : c.code = bs) {cd : ClassFile.Cond} {o : Int} {x y : Int32} {pc2 : Nat} (hd : decode bs pc = .ok (.if_icmp cd o, 3)) (ho : 0 ≤ (pc : Int) + o) (hp : ((pc : Int) + o).toNat = pc') (hq : pc + 3 = pc2) (K1 : if_icmp.holds cd x y = true → Gl p e below n0 Φ Q (T.setTop (mkF m pc' L S))) (K2 : if_icmp.holds cd x y = false → Gl p e below n0 Φ Q (T.setTop (mkF m pc2 L S))) : Gl p e below n0 Φ Q (T.setTop (mkF m pc L (.int y :: .int x :: S))) := by
  obtain ⟨locs, Y, -, -⟩ := X; subst hq
  cases hc : if_icmp.holds cd x y with
  | true => exact Gl.st (fun t k => XS.icmpYes Y.here hx rfl (pc0 := pc) rfl (hb hby hd) rfl hc ho hp k) (K1 hc)
  | false => exact Gl.st (fun t k => XS.icmpNo Y.here hx rfl (hb hby hd) rfl hc k) (K2 hc)
theorem g_if (X : St p l e R s m args below meth c n0 T h cells slots) (hx : p.tables.exec = Jvm.exec) (hby : c.code = bs) {cd : ClassFile.Cond} {o : Int} {x : Int32} {pc2 : Nat} (hd : decode bs pc = .ok (.ifCond cd o, 3)) (ho : 0 ≤ (pc : Int) + o) (hp : ((pc : Int) + o).toNat = pc') (hq : pc + 3 = pc2) (K1 : if_icmp.holds cd x 0 = true → Gl p e below n0 Φ Q (T.setTop (mkF m pc' L S))) (K2 : if_icmp.holds cd x 0 = false → Gl p e below n0 Φ Q (T.setTop (mkF m pc2 L S))) : Gl p e below n0 Φ Q (T.setTop (mkF m pc L (.int x :: S))) := by
  obtain ⟨locs, Y, -, -⟩ := X; subst hq
  cases hc : if_icmp.holds cd x 0 with
  | true => exact Gl.st (fun t k => XS.ifYes Y.here hx rfl (pc0 := pc) rfl (hb hby hd) rfl ((if0 _ _).trans hc) ho hp k) (K1 hc)
  | false => exact Gl.st (fun t k => XS.ifNo Y.here hx rfl (hb hby hd) rfl ((if0 _ _).trans hc) k) (K2 hc)
theorem g_icmp_eq (X : St p l e R s m args below meth c n0 T h cells slots) (hx : p.tables.exec = Jvm.exec) (hby : c.code = bs) {o : Int} {x y : Int32} {pc2 : Nat} (hd : decode bs pc = .ok (.if_icmp .eq o, 3)) (ho : 0 ≤ (pc : Int) + o) (hp : ((pc : Int) + o).toNat = pc') (hq : pc + 3 = pc2) (K1 : x = y → Gl p e below n0 Φ Q (T.setTop (mkF m pc' L S))) (K2 : ¬ (x = y) → Gl p e below n0 Φ Q (T.setTop (mkF m pc2 L S))) : Gl p e below n0 Φ Q (T.setTop (mkF m pc L (.int y :: .int x :: S))) :=
  g_icmp X hx hby hd ho hp hq (fun q => K1 (by simpa [if_icmp.holds] using q)) (fun q => K2 (by simpa [if_icmp.holds] using q))
theorem g_if_eq (X : St p l e R s m args below meth c n0 T h cells slots) (hx : p.tables.exec = Jvm.exec) (hby : c.code = bs) {o : Int} {x : Int32} {pc2 : Nat} (hd : decode bs pc = .ok (.ifCond .eq o, 3)) (ho : 0 ≤ (pc : Int) + o) (hp : ((pc : Int) + o).toNat = pc') (hq : pc + 3 = pc2) (K1 : x = 0 → Gl p e below n0 Φ Q (T.setTop (mkF m pc' L S))) (K2 : ¬ (x = 0) → Gl p e below n0 Φ Q (T.setTop (mkF m pc2 L S))) : Gl p e below n0 Φ Q (T.setTop (mkF m pc L (.int x :: S))) :=
  g_if X hx hby hd ho hp hq (fun q => K1 (by simpa [if_icmp.holds] using q)) (fun q => K2 (by simpa [if_icmp.holds] using q))
theorem g_lcmp_eq (X : St p l e R s m args below meth c n0 T h cells slots) (hx : p.tables.exec = Jvm.exec) (hby : c.code = bs) {o : Int} {x y : Int64} {pc1 pc2 : Nat} (hd1 : decode bs pc = .ok (.lcmp, 1)) (hp1 : pc + 1 = pc1) (hd : decode bs pc1 = .ok (.ifCond .eq o, 3)) (ho : 0 ≤ (pc1 : Int) + o) (hp : ((pc1 : Int) + o).toNat = pc') (hq : pc1 + 3 = pc2) (K1 : x = y → Gl p e below n0 Φ Q (T.setTop (mkF m pc' L S))) (K2 : ¬ (x = y) → Gl p e below n0 Φ Q (T.setTop (mkF m pc2 L S))) : Gl p e below n0 Φ Q (T.setTop (mkF m pc L (.long y :: .long x :: S))) := by
  obtain ⟨locs, Y, b1, b2⟩ := X; subst hp1
  refine Gl.st (V := T.setTop (mkF m (pc + 1) L (.int (lcmpW x y) :: S))) (fun t k => XS.lcmp Y.here hx rfl (hb hby hd1) rfl k) ?_
  exact g_if_eq ⟨locs, Y, b1, b2⟩ hx hby hd ho hp hq (fun q => K1 (by simpa [lw_lt, lw_gt, lw_eq] using q)) (fun q => K2 (by simpa [lw_lt, lw_gt, lw_eq] using q))
theorem g_icmp_ne (X : St p l e R s m args below meth c n0 T h cells slots) (hx : p.tables.exec = Jvm.exec) (hby : c.code = bs) {o : Int} {x y : Int32} {pc2 : Nat} (hd : decode bs pc = .ok (.if_icmp .ne o, 3)) (ho : 0 ≤ (pc : Int) + o) (hp : ((pc : Int) + o).toNat = pc') (hq : pc + 3 = pc2) (K1 : ¬ (x = y) → Gl p e below n0 Φ Q (T.setTop (mkF m pc' L S))) (K2 : x = y → Gl p e below n0 Φ Q (T.setTop (mkF m pc2 L S))) : Gl p e below n0 Φ Q (T.setTop (mkF m pc L (.int y :: .int x :: S))) :=
  g_icmp X hx hby hd ho hp hq (fun q => K1 (by simpa [if_icmp.holds] using q)) (fun q => K2 (by simpa [if_icmp.holds] using q))
theorem g_if_ne (X : St p l e R s m args below meth c n0 T h cells slots) (hx : p.tables.exec = Jvm.exec) (hby : c.code = bs) {o : Int} {x : Int32} {pc2 : Nat} (hd : decode bs pc = .ok (.ifCond .ne o, 3)) (ho : 0 ≤ (pc : Int) + o) (hp : ((pc : Int) + o).toNat = pc') (hq : pc + 3 = pc2) (K1 : ¬ (x = 0) → Gl p e below n0 Φ Q (T.setTop (mkF m pc' L S))) (K2 : x = 0 → Gl p e below n0 Φ Q (T.setTop (mkF m pc2 L S))) : Gl p e below n0 Φ Q (T.setTop (mkF m pc L (.int x :: S))) :=
  g_if X hx hby hd ho hp hq (fun q => K1 (by simpa [if_icmp.holds] using q)) (fun q => K2 (by simpa [if_icmp.holds] using q))
theorem g_lcmp_ne (X : St p l e R s m args below meth c n0 T h cells slots) (hx : p.tables.exec = Jvm.exec) (hby : c.code = bs) {o : Int} {x y : Int64} {pc1 pc2 : Nat} (hd1 : decode bs pc = .ok (.lcmp, 1)) (hp1 : pc + 1 = pc1) (hd : decode bs pc1 = .ok (.ifCond .ne o, 3)) (ho : 0 ≤ (pc1 : Int) + o) (hp : ((pc1 : Int) + o).toNat = pc') (hq : pc1 + 3 = pc2) (K1 : ¬ (x = y) → Gl p e below n0 Φ Q (T.setTop (mkF m pc' L S))) (K2 : x = y → Gl p e below n0 Φ Q (T.setTop (mkF m pc2 L S))) : Gl p e below n0 Φ Q (T.setTop (mkF m pc L (.long y :: .long x :: S))) := by
  obtain ⟨locs, Y, b1, b2⟩ := X; subst hp1
  refine Gl.st (V := T.setTop (mkF m (pc + 1) L (.int (lcmpW x y) :: S))) (fun t k => XS.lcmp Y.here hx rfl (hb hby hd1) rfl k) ?_
  exact g_if_ne ⟨locs, Y, b1, b2⟩ hx hby hd ho hp hq (fun q => K1 (by simpa [lw_lt, lw_gt, lw_eq] using q)) (fun q => K2 (by simpa [lw_lt, lw_gt, lw_eq] using q))
theorem g_icmp_lt (X : St p l e R s m args below meth c n0 T h cells slots) (hx : p.tables.exec = Jvm.exec) (hby : c.code = bs) {o : Int} {x y : Int32} {pc2 : Nat} (hd : decode bs pc = .ok (.if_icmp .lt o, 3)) (ho : 0 ≤ (pc : Int) + o) (hp : ((pc : Int) + o).toNat = pc') (hq : pc + 3 = pc2) (K1 : x < y → Gl p e below n0 Φ Q (T.setTop (mkF m pc' L S))) (K2 : ¬ (x < y) → Gl p e below n0 Φ Q (T.setTop (mkF m pc2 L S))) : Gl p e below n0 Φ Q (T.setTop (mkF m pc L (.int y :: .int x :: S))) :=
  g_icmp X hx hby hd ho hp hq (fun q => K1 (by simpa [if_icmp.holds] using q)) (fun q => K2 (by simpa [if_icmp.holds] using q))
theorem g_if_lt (X : St p l e R s m args below meth c n0 T h cells slots) (hx : p.tables.exec = Jvm.exec) (hby : c.code = bs) {o : Int} {x : Int32} {pc2 : Nat} (hd : decode bs pc = .ok (.ifCond .lt o, 3)) (ho : 0 ≤ (pc : Int) + o) (hp : ((pc : Int) + o).toNat = pc') (hq : pc + 3 = pc2) (K1 : x < 0 → Gl p e below n0 Φ Q (T.setTop (mkF m pc' L S))) (K2 : ¬ (x < 0) → Gl p e below n0 Φ Q (T.setTop (mkF m pc2 L S))) : Gl p e below n0 Φ Q (T.setTop (mkF m pc L (.int x :: S))) :=
  g_if X hx hby hd ho hp hq (fun q => K1 (by simpa [if_icmp.holds] using q)) (fun q => K2 (by simpa [if_icmp.holds] using q))
theorem g_lcmp_lt (X : St p l e R s m args below meth c n0 T h cells slots) (hx : p.tables.exec = Jvm.exec) (hby : c.code = bs) {o : Int} {x y : Int64} {pc1 pc2 : Nat} (hd1 : decode bs pc = .ok (.lcmp, 1)) (hp1 : pc + 1 = pc1) (hd : decode bs pc1 = .ok (.ifCond .lt o, 3)) (ho : 0 ≤ (pc1 : Int) + o) (hp : ((pc1 : Int) + o).toNat = pc') (hq : pc1 + 3 = pc2) (K1 : x < y → Gl p e below n0 Φ Q (T.setTop (mkF m pc' L S))) (K2 : ¬ (x < y) → Gl p e below n0 Φ Q (T.setTop (mkF m pc2 L S))) : Gl p e below n0 Φ Q (T.setTop (mkF m pc L (.long y :: .long x :: S))) := by
  obtain ⟨locs, Y, b1, b2⟩ := X; subst hp1
  refine Gl.st (V := T.setTop (mkF m (pc + 1) L (.int (lcmpW x y) :: S))) (fun t k => XS.lcmp Y.here hx rfl (hb hby hd1) rfl k) ?_
  exact g_if_lt ⟨locs, Y, b1, b2⟩ hx hby hd ho hp hq (fun q => K1 (by simpa [lw_lt, lw_gt, lw_eq] using q)) (fun q => K2 (by simpa [lw_lt, lw_gt, lw_eq] using q))
theorem g_icmp_ge (X : St p l e R s m args below meth c n0 T h cells slots) (hx : p.tables.exec = Jvm.exec) (hby : c.code = bs) {o : Int} {x y : Int32} {pc2 : Nat} (hd : decode bs pc = .ok (.if_icmp .ge o, 3)) (ho : 0 ≤ (pc : Int) + o) (hp : ((pc : Int) + o).toNat = pc') (hq : pc + 3 = pc2) (K1 : ¬ (x < y) → Gl p e below n0 Φ Q (T.setTop (mkF m pc' L S))) (K2 : x < y → Gl p e below n0 Φ Q (T.setTop (mkF m pc2 L S))) : Gl p e below n0 Φ Q (T.setTop (mkF m pc L (.int y :: .int x :: S))) :=
  g_icmp X hx hby hd ho hp hq (fun q => K1 (by simpa [if_icmp.holds] using q)) (fun q => K2 (by simpa [if_icmp.holds] using q))
theorem g_if_ge (X : St p l e R s m args below meth c n0 T h cells slots) (hx : p.tables.exec = Jvm.exec) (hby : c.code = bs) {o : Int} {x : Int32} {pc2 : Nat} (hd : decode bs pc = .ok (.ifCond .ge o, 3)) (ho : 0 ≤ (pc : Int) + o) (hp : ((pc : Int) + o).toNat = pc') (hq : pc + 3 = pc2) (K1 : ¬ (x < 0) → Gl p e below n0 Φ Q (T.setTop (mkF m pc' L S))) (K2 : x < 0 → Gl p e below n0 Φ Q (T.setTop (mkF m pc2 L S))) : Gl p e below n0 Φ Q (T.setTop (mkF m pc L (.int x :: S))) :=
  g_if X hx hby hd ho hp hq (fun q => K1 (by simpa [if_icmp.holds] using q)) (fun q => K2 (by simpa [if_icmp.holds] using q))
theorem g_lcmp_ge (X : St p l e R s m args below meth c n0 T h cells slots) (hx : p.tables.exec = Jvm.exec) (hby : c.code = bs) {o : Int} {x y : Int64} {pc1 pc2 : Nat} (hd1 : decode bs pc = .ok (.lcmp, 1)) (hp1 : pc + 1 = pc1) (hd : decode bs pc1 = .ok (.ifCond .ge o, 3)) (ho : 0 ≤ (pc1 : Int) + o) (hp : ((pc1 : Int) + o).toNat = pc') (hq : pc1 + 3 = pc2) (K1 : ¬ (x < y) → Gl p e below n0 Φ Q (T.setTop (mkF m pc' L S))) (K2 : x < y → Gl p e below n0 Φ Q (T.setTop (mkF m pc2 L S))) : Gl p e below n0 Φ Q (T.setTop (mkF m pc L (.long y :: .long x :: S))) := by
  obtain ⟨locs, Y, b1, b2⟩ := X; subst hp1
  refine Gl.st (V := T.setTop (mkF m (pc + 1) L (.int (lcmpW x y) :: S))) (fun t k => XS.lcmp Y.here hx rfl (hb hby hd1) rfl k) ?_
  exact g_if_ge ⟨locs, Y, b1, b2⟩ hx hby hd ho hp hq (fun q => K1 (by simpa [lw_lt, lw_gt, lw_eq] using q)) (fun q => K2 (by simpa [lw_lt, lw_gt, lw_eq] using q))
theorem g_icmp_gt (X : St p l e R s m args below meth c n0 T h cells slots) (hx : p.tables.exec = Jvm.exec) (hby : c.code = bs) {o : Int} {x y : Int32} {pc2 : Nat} (hd : decode bs pc = .ok (.if_icmp .gt o, 3)) (ho : 0 ≤ (pc : Int) + o) (hp : ((pc : Int) + o).toNat = pc') (hq : pc + 3 = pc2) (K1 : y < x → Gl p e below n0 Φ Q (T.setTop (mkF m pc' L S))) (K2 : ¬ (y < x) → Gl p e below n0 Φ Q (T.setTop (mkF m pc2 L S))) : Gl p e below n0 Φ Q (T.setTop (mkF m pc L (.int y :: .int x :: S))) :=
  g_icmp X hx hby hd ho hp hq (fun q => K1 (by simpa [if_icmp.holds] using q)) (fun q => K2 (by simpa [if_icmp.holds] using q))
theorem g_if_gt (X : St p l e R s m args below meth c n0 T h cells slots) (hx : p.tables.exec = Jvm.exec) (hby : c.code = bs) {o : Int} {x : Int32} {pc2 : Nat} (hd : decode bs pc = .ok (.ifCond .gt o, 3)) (ho : 0 ≤ (pc : Int) + o) (hp : ((pc : Int) + o).toNat = pc') (hq : pc + 3 = pc2) (K1 : 0 < x → Gl p e below n0 Φ Q (T.setTop (mkF m pc' L S))) (K2 : ¬ (0 < x) → Gl p e below n0 Φ Q (T.setTop (mkF m pc2 L S))) : Gl p e below n0 Φ Q (T.setTop (mkF m pc L (.int x :: S))) :=
  g_if X hx hby hd ho hp hq (fun q => K1 (by simpa [if_icmp.holds] using q)) (fun q => K2 (by simpa [if_icmp.holds] using q))
theorem g_lcmp_gt (X : St p l e R s m args below meth c n0 T h cells slots) (hx : p.tables.exec = Jvm.exec) (hby : c.code = bs) {o : Int} {x y : Int64} {pc1 pc2 : Nat} (hd1 : decode bs pc = .ok (.lcmp, 1)) (hp1 : pc + 1 = pc1) (hd : decode bs pc1 = .ok (.ifCond .gt o, 3)) (ho : 0 ≤ (pc1 : Int) + o) (hp : ((pc1 : Int) + o).toNat = pc') (hq : pc1 + 3 = pc2) (K1 : y < x → Gl p e below n0 Φ Q (T.setTop (mkF m pc' L S))) (K2 : ¬ (y < x) → Gl p e below n0 Φ Q (T.setTop (mkF m pc2 L S))) : Gl p e below n0 Φ Q (T.setTop (mkF m pc L (.long y :: .long x :: S))) := by
  obtain ⟨locs, Y, b1, b2⟩ := X; subst hp1
  refine Gl.st (V := T.setTop (mkF m (pc + 1) L (.int (lcmpW x y) :: S))) (fun t k => XS.lcmp Y.here hx rfl (hb hby hd1) rfl k) ?_
  exact g_if_gt ⟨locs, Y, b1, b2⟩ hx hby hd ho hp hq (fun q => K1 (by simpa [lw_lt, lw_gt, lw_eq] using q)) (fun q => K2 (by simpa [lw_lt, lw_gt, lw_eq] using q))
theorem g_icmp_le (X : St p l e R s m args below meth c n0 T h cells slots) (hx : p.tables.exec = Jvm.exec) (hby : c.code = bs) {o : Int} {x y : Int32} {pc2 : Nat} (hd : decode bs pc = .ok (.if_icmp .le o, 3)) (ho : 0 ≤ (pc : Int) + o) (hp : ((pc : Int) + o).toNat = pc') (hq : pc + 3 = pc2) (K1 : ¬ (y < x) → Gl p e below n0 Φ Q (T.setTop (mkF m pc' L S))) (K2 : y < x → Gl p e below n0 Φ Q (T.setTop (mkF m pc2 L S))) : Gl p e below n0 Φ Q (T.setTop (mkF m pc L (.int y :: .int x :: S))) :=
  g_icmp X hx hby hd ho hp hq (fun q => K1 (by simpa [if_icmp.holds] using q)) (fun q => K2 (by simpa [if_icmp.holds] using q))
theorem g_if_le (X : St p l e R s m args below meth c n0 T h cells slots) (hx : p.tables.exec = Jvm.exec) (hby : c.code = bs) {o : Int} {x : Int32} {pc2 : Nat} (hd : decode bs pc = .ok (.ifCond .le o, 3)) (ho : 0 ≤ (pc : Int) + o) (hp : ((pc : Int) + o).toNat = pc') (hq : pc + 3 = pc2) (K1 : ¬ (0 < x) → Gl p e below n0 Φ Q (T.setTop (mkF m pc' L S))) (K2 : 0 < x → Gl p e below n0 Φ Q (T.setTop (mkF m pc2 L S))) : Gl p e below n0 Φ Q (T.setTop (mkF m pc L (.int x :: S))) :=
  g_if X hx hby hd ho hp hq (fun q => K1 (by simpa [if_icmp.holds] using q)) (fun q => K2 (by simpa [if_icmp.holds] using q))
theorem g_lcmp_le (X : St p l e R s m args below meth c n0 T h cells slots) (hx : p.tables.exec = Jvm.exec) (hby : c.code = bs) {o : Int} {x y : Int64} {pc1 pc2 : Nat} (hd1 : decode bs pc = .ok (.lcmp, 1)) (hp1 : pc + 1 = pc1) (hd : decode bs pc1 = .ok (.ifCond .le o, 3)) (ho : 0 ≤ (pc1 : Int) + o) (hp : ((pc1 : Int) + o).toNat = pc') (hq : pc1 + 3 = pc2) (K1 : ¬ (y < x) → Gl p e below n0 Φ Q (T.setTop (mkF m pc' L S))) (K2 : y < x → Gl p e below n0 Φ Q (T.setTop (mkF m pc2 L S))) : Gl p e below n0 Φ Q (T.setTop (mkF m pc L (.long y :: .long x :: S))) := by
  obtain ⟨locs, Y, b1, b2⟩ := X; subst hp1
  refine Gl.st (V := T.setTop (mkF m (pc + 1) L (.int (lcmpW x y) :: S))) (fun t k => XS.lcmp Y.here hx rfl (hb hby hd1) rfl k) ?_
  exact g_if_le ⟨locs, Y, b1, b2⟩ hx hby hd ho hp hq (fun q => K1 (by simpa [lw_lt, lw_gt, lw_eq] using q)) (fun q => K2 (by simpa [lw_lt, lw_gt, lw_eq] using q))
theorem g_ifnull_y (X : St p l e R s m args below meth c n0 T h cells slots) (hx : p.tables.exec = Jvm.exec) (hby : c.code = bs) {o : Int} (hd : decode bs pc = .ok (.ifnull o, 3)) (ho : 0 ≤ (pc : Int) + o) (hp : ((pc : Int) + o).toNat = pc') (K : Gl p e below n0 Φ Q (T.setTop (mkF m pc' L S))) : Gl p e below n0 Φ Q (T.setTop (mkF m pc L (.null :: S))) := by
  obtain ⟨locs, Y, -, -⟩ := X; exact Gl.st (fun t k => XS.ifnullYes Y.here hx rfl (pc0 := pc) rfl (hb hby hd) rfl ho hp k) K
theorem g_ifnull_n (X : St p l e R s m args below meth c n0 T h cells slots) (hx : p.tables.exec = Jvm.exec) (hby : c.code = bs) {o : Int} {a : Addr} (hd : decode bs pc = .ok (.ifnull o, 3)) (hp : pc + 3 = pc') (K : Gl p e below n0 Φ Q (T.setTop (mkF m pc' L S))) : Gl p e below n0 Φ Q (T.setTop (mkF m pc L ((.ref a) :: S))) := by
  obtain ⟨locs, Y, -, -⟩ := X; subst hp; exact Gl.st (fun t k => XS.ifnullNo Y.here hx rfl (hb hby hd) rfl k) K
theorem g_ifnonnull_y (X : St p l e R s m args below meth c n0 T h cells slots) (hx : p.tables.exec = Jvm.exec) (hby : c.code = bs) {o : Int} {a : Addr} (hd : decode bs pc = .ok (.ifnonnull o, 3)) (ho : 0 ≤ (pc : Int) + o) (hp : ((pc : Int) + o).toNat = pc') (K : Gl p e below n0 Φ Q (T.setTop (mkF m pc' L S))) : Gl p e below n0 Φ Q (T.setTop (mkF m pc L ((.ref a) :: S))) := by
  obtain ⟨locs, Y, -, -⟩ := X; exact Gl.st (fun t k => XS.ifnonnullYes Y.here hx rfl (pc0 := pc) rfl (hb hby hd) rfl ho hp k) K
theorem g_ifnonnull_n (X : St p l e R s m args below meth c n0 T h cells slots) (hx : p.tables.exec = Jvm.exec) (hby : c.code = bs) {o : Int} (hd : decode bs pc = .ok (.ifnonnull o, 3)) (hp : pc + 3 = pc') (K : Gl p e below n0 Φ Q (T.setTop (mkF m pc' L S))) : Gl p e below n0 Φ Q (T.setTop (mkF m pc L (.null :: S))) := by
  obtain ⟨locs, Y, -, -⟩ := X; subst hp; exact Gl.st (fun t k => XS.ifnonnullNo Y.here hx rfl (hb hby hd) rfl k) K
theorem g_acmp_y (X : St p l e R s m args below meth c n0 T h cells slots) (hx : p.tables.exec = Jvm.exec) (hby : c.code = bs) {cd : ACond} {o : Int} {x y : Value} {same : Bool} (hd : decode bs pc = .ok (.if_acmp cd o, 3)) (h1 : x.isRef = true) (h2 : y.isRef = true) (hq : decide (x = y) = same) (ho : 0 ≤ (pc : Int) + o) (hp : pc' = if acV cd same = true then ((pc : Int) + o).toNat else pc + 3) (K : Gl p e below n0 Φ Q (T.setTop (mkF m pc' L S))) : Gl p e below n0 Φ Q (T.setTop (mkF m pc L (y :: x :: S))) := by
  obtain ⟨locs, Y, -, -⟩ := X; exact Gl.st (fun t k => Jvm.RoadKit.acmp Y hx rfl h1 h2 (pc0 := pc) rfl (hb hby hd) rfl hq ho hp k) K
theorem g_retN (X : St p l e R s m args below meth c n0 T h cells slots) (hx : p.tables.exec = Jvm.exec) (hby : c.code = bs) {t : FieldType} {z : Int32} (hret : meth.sig.returnType = some t) (hlk : meth.locks = false) (ht : t = .boolean ∨ t = .byte ∨ t = .char ∨ t = .short) (hd : decode bs pc = .ok (.ireturn, 1)) (hq : Q (some (.int (nar t z))) h) (hc : cells ≤ cs) (hs : slots ≤ sl) : Gl p e below n0 (Fn s cs sl) Q (T.setTop (mkF m pc L (.int z :: S))) := by
  obtain ⟨locs, Y, eT, N⟩ := X
  obtain ⟨fs, hr, hrun, hended, hW, hsame⟩ := Y.leave (v := some (.int (nar t z))) (fun q => by rw [hret] at q; cases q) hlk
  exact ⟨_, _, retN Y hx hret ht (hb hby hd) hr, hrun, hended, _, locs, rfl, ⟨(show Q _ T.heap by rw [eT]; exact hq), N⟩, ⟨_, rfl⟩, hW, hsame.mono hc hs⟩
theorem g_retV (X : St p l e R s m args below meth c n0 T h cells slots) (hx : p.tables.exec = Jvm.exec) (hby : c.code = bs) {t : FieldType} {w : Value} {i : Instr} (hret : meth.sig.returnType = some t) (hlk : meth.locks = false) (hn : narrow t w = w) (hi : (i = .ireturn ∧ (t = .int ∨ t = .boolean ∨ t = .byte ∨ t = .char ∨ t = .short) ∧ ∃ z, w = .int z) ∨ (i = .lreturn ∧ t = .long ∧ ∃ z, w = .long z) ∨ (i = .dreturn ∧ t = .double ∧ ∃ z, w = .double z) ∨ (i = .freturn ∧ t = .float ∧ ∃ z, w = .float z) ∨ (i = .areturn ∧ t.isReference = true ∧ w.isRef = true)) (hd : decode bs pc = .ok (i, 1)) (hq : Q (some w) h) (hc : cells ≤ cs) (hs : slots ≤ sl) : Gl p e below n0 (Fn s cs sl) Q (T.setTop (mkF m pc L (w :: S))) := by
  obtain ⟨locs, Y, eT, N⟩ := X
  obtain ⟨fs, hr, hrun, hended, hW, hsame⟩ := Y.leave (v := some w) (fun q => by rw [hret] at q; cases q) hlk
  exact ⟨_, _, retOut Y hx hret hn hi (hb hby hd) hr, hrun, hended, _, locs, rfl, ⟨(show Q _ T.heap by rw [eT]; exact hq), N⟩, ⟨_, rfl⟩, hW, hsame.mono hc hs⟩
theorem g_retI (X : St p l e R s m args below meth c n0 T h cells slots) (hx : p.tables.exec = Jvm.exec) (hby : c.code = bs) {z : Int32} (hret : meth.sig.returnType = some .int) (hlk : meth.locks = false) (hd : decode bs pc = .ok (.ireturn, 1)) (hq : Q (some (.int z)) h) (hc : cells ≤ cs) (hs : slots ≤ sl) : Gl p e below n0 (Fn s cs sl) Q (T.setTop (mkF m pc L (.int z :: S))) := g_retV X hx hby hret hlk rfl (Or.inl ⟨rfl, Or.inl rfl, z, rfl⟩) hd hq hc hs
theorem g_retL (X : St p l e R s m args below meth c n0 T h cells slots) (hx : p.tables.exec = Jvm.exec) (hby : c.code = bs) {z : Int64} (hret : meth.sig.returnType = some .long) (hlk : meth.locks = false) (hd : decode bs pc = .ok (.lreturn, 1)) (hq : Q (some (.long z)) h) (hc : cells ≤ cs) (hs : slots ≤ sl) : Gl p e below n0 (Fn s cs sl) Q (T.setTop (mkF m pc L (.long z :: S))) := g_retV X hx hby hret hlk rfl (Or.inr (Or.inl ⟨rfl, rfl, z, rfl⟩)) hd hq hc hs
theorem g_retD (X : St p l e R s m args below meth c n0 T h cells slots) (hx : p.tables.exec = Jvm.exec) (hby : c.code = bs) {z : UInt64} (hret : meth.sig.returnType = some .double) (hlk : meth.locks = false) (hd : decode bs pc = .ok (.dreturn, 1)) (hq : Q (some (.double z)) h) (hc : cells ≤ cs) (hs : slots ≤ sl) : Gl p e below n0 (Fn s cs sl) Q (T.setTop (mkF m pc L (.double z :: S))) := g_retV X hx hby hret hlk rfl (Or.inr (Or.inr (Or.inl ⟨rfl, rfl, z, rfl⟩))) hd hq hc hs
theorem g_retA (X : St p l e R s m args below meth c n0 T h cells slots) (hx : p.tables.exec = Jvm.exec) (hby : c.code = bs) {t : FieldType} {w : Value} (hret : meth.sig.returnType = some t) (hlk : meth.locks = false) (ht : t.isReference = true) (hw : w.isRef = true) (hd : decode bs pc = .ok (.areturn, 1)) (hq : Q (some w) h) (hc : cells ≤ cs) (hs : slots ≤ sl) : Gl p e below n0 (Fn s cs sl) Q (T.setTop (mkF m pc L (w :: S))) := g_retV X hx hby hret hlk (by rcases ref_cases hw with rfl | ⟨a, rfl⟩ <;> cases t <;> first | rfl | (cases ht; done)) (Or.inr (Or.inr (Or.inr (Or.inr ⟨rfl, ht, hw⟩)))) hd hq hc hs
theorem g_ret (X : St p l e R s m args below meth c n0 T h cells slots) (hx : p.tables.exec = Jvm.exec) (hby : c.code = bs) (hret : meth.sig.returnType = none) (hlk : meth.locks = false) (hd : decode bs pc = .ok (.return_, 1)) (hq : Q none h) (hc : cells ≤ cs) (hs : slots ≤ sl) : Gl p e below n0 (Fn s cs sl) Q (T.setTop (mkF m pc L [])) := by
  obtain ⟨locs, Y, eT, N⟩ := X
  obtain ⟨fs, hr, hrun, hended, hW, hsame⟩ := Y.leave (v := none) (fun _ => rfl) hlk
  exact ⟨_, _, Y.returnOut hx hret (hb hby hd) hr, hrun, hended, _, locs, rfl, ⟨(show Q _ T.heap by rw [eT]; exact hq), N⟩, ⟨_, rfl⟩, hW, hsame.mono hc hs⟩
theorem gw_retN {vm0 : Vm} {k0 : Nat} (X : St p l e R (s.setVm vm0) m args below meth c n0 T h cells slots) (hx : p.tables.exec = Jvm.exec) (hby : c.code = bs) (hS : s.Since vm0 k0) (hk : k0 ≤ h.size) {t : FieldType} {z : Int32} (hret : meth.sig.returnType = some t) (hlk : meth.locks = false) (ht : t = .boolean ∨ t = .byte ∨ t = .char ∨ t = .short) (hd : decode bs pc = .ok (.ireturn, 1)) (hq : Q (some (.int (nar t z))) h) (hc : cells ≤ cs) (hs : slots ≤ sl) : Gl p e below n0 (Fw s cs sl) Q (T.setTop (mkF m pc L (.int z :: S))) := by
  obtain ⟨locs, Y, eT, N⟩ := X
  obtain ⟨fs, hr, hrun, hended, r1, r2, r3, r4⟩ := Y.leaveW hS (by rw [eT]; exact hk) (v := some (.int (nar t z))) (fun q => by rw [hret] at q; cases q) hlk
  exact ⟨_, _, retN Y hx hret ht (hb hby hd) hr, hrun, hended, _, locs, rfl, ⟨(show Q _ T.heap by rw [eT]; exact hq), N⟩, r1, r2, r3, r4.mono hc hs⟩
theorem g_ldcS {vm0 : Vm} {k0 : Nat} (X : St p l e R (s.setVm vm0) m args below meth c n0 T h cells slots) (hx : p.tables.exec = Jvm.exec) (hby : c.code = bs) (hZ : Z.Warmed39 (s.setVm vm0).vm) {own text : String} {index n : Nat} (hown : (s.setVm vm0).vm.findClass own = some m.cls) (w : (Cond.stringLink own index text).before a0 Z = true) (wS : ∀ a ∈ Bundle.stringAtoms, a.before a0 Z = true) (hS : s.Since vm0 k0) (hk : k0 ≤ h.size) (hd : decode bs pc = .ok (.ldc index, 2)) (hn : 4 * text.toList.length ≤ n) (hbig : n ≤ 536870912) (hc : cells + 2 ≤ R.cells) (hl : slots + (n + 4) ≤ R.slots) (hp : pc + 2 = pc') (K : ∀ (a : Addr) T' h' k1, St p l e R (s.setVm T'.vm) m args below meth c n0 T' h' (cells + 2) (slots + (n + 4)) → Ext h h' → s.Since T'.vm k1 → k1 ≤ h'.size → Z.Warmed39 (s.setVm T'.vm).vm → (s.setVm T'.vm).vm.findClass own = some m.cls → Gl p e below n0 Φ Q (T'.setTop (mkF m pc' L (.ref a :: S)))) : Gl p e below n0 Φ Q (T.setTop (mkF m pc L S)) := by
  obtain ⟨locs, Y, eT, N⟩ := X; subst hp
  obtain ⟨a, T', h', k1, Y', e', E, S1, hk1, hZ1, hown1, st⟩ := ldcS Y hx hZ hown w wS eT hS hk (g := mkF m pc L S) rfl (hb hby hd) hn hbig hc hl
  exact Gl.st st (K a T' h' k1 ⟨locs, Y', e', N⟩ E S1 hk1 hZ1 hown1)
theorem g_ldcSV {vm0 : Vm} {k0 : Nat} (X : St p l e R (s.setVm vm0) m args below meth c n0 T h cells slots) (hx : p.tables.exec = Jvm.exec) (hby : c.code = bs) (hZ : Z.Warmed39 (s.setVm vm0).vm) {own text : String} {index n : Nat} (hown : (s.setVm vm0).vm.findClass own = some m.cls) (w : (Cond.stringLink own index text).before a0 Z = true) (wS : ∀ a ∈ Bundle.stringAtoms, a.before a0 Z = true) (hS : s.Since vm0 k0) (hk : k0 ≤ h.size) (hn0 : s.heap.size ≤ n0) (hkeep : ∀ (b : Addr) (cl : Cell), Z.heap[b]? = some cl → s.heap[b]? = some cl) {Ts : List String} (I : IB Z vm0 Ts) (hnot : text ∉ Ts) (hh : Jvm.Lit.constHeld Z own index) (hcw : Jvm.Lit.compactW.before a0 Z = true) {vs : List Value} {kn : Nat} {f : Nat → Int32} (ht : (∀ c ∈ text.toList, c.toNat < 256) ∧ text.toList.map (fun c => Value.int (Jvm.Lit.byteI c.toNat.toUInt16)) = vs) (hl1 : vs.length = kn) (hl2 : kn < 2147483648) (hf : ∀ i, i < kn → vs.getD i (.int 0) = .int (f i)) (hd : decode bs pc = .ok (.ldc index, 2)) (hn : 4 * text.toList.length ≤ n) (hbig : n ≤ 536870912) (hc : cells + 2 ≤ R.cells) (hl : slots + (n + 4) ≤ R.slots) (hp : pc + 2 = pc') (K : ∀ (a b : Addr) T' h' k1, St p l e R (s.setVm T'.vm) m args below meth c n0 T' h' (cells + 2) (slots + (n + 4)) → Ext h h' → s.Since T'.vm k1 → k1 ≤ h'.size → Z.Warmed39 (s.setVm T'.vm).vm → (s.setVm T'.vm).vm.findClass own = some m.cls → Exa Z h' a "java/lang/String" → Fld Z h' a "java/lang/String" "coder" "B" (.int 0) → Fld Z h' a "java/lang/String" "value" "[B" (.ref b) → Ary Z h' b .byte kn (fun i => .int (f i)) → IB Z T'.vm (text :: Ts) → Gl p e below n0 Φ Q (T'.setTop (mkF m pc' L (.ref a :: S)))) : Gl p e below n0 Φ Q (T.setTop (mkF m pc L S)) := by
  obtain ⟨locs, Y, eT, N⟩ := X; subst hp
  have ek : (Int32.ofNat kn).toInt = (kn : Int) := Int32.toInt_ofNat_of_lt (by omega)
  have ez : (0 : Int32).toInt = 0 := rfl
  have ec : (Int32.ofNat kn).toNatClampNeg = kn := by simp only [Int32.toNatClampNeg]; omega
  obtain ⟨a, T', h', k1, b, kc, Y', e', E, S1, hk1, hZ1, hown1, x1, x2, x3, ⟨cl, Ar, -, sz, -, H, -⟩, -, -, I', st⟩ := ldcSV Y hx hZ hown w wS eT hS hk (fun y hy => Nat.le_trans hn0 (N y hy)) hkeep I hnot hh hcw ht (z := Int32.ofNat kn) (by rw [Int32.lt_iff_toInt_lt]; omega) (by rw [ec]; exact hl1.symm) (g := mkF m pc L S) rfl (hb hby hd) hn hbig hc hl
  exact Gl.st st (K a b T' h' k1 ⟨locs, Y', e', N⟩ E S1 hk1 hZ1 hown1 x1 x2 x3 ⟨cl, Ar, by rw [sz, ec], fun i hi => by rw [H i (by rw [sz, ec]; exact hi), hf i hi]⟩ I')
theorem g_getF (X : St p l e R s m args below meth c n0 T h cells slots) (hx : p.tables.exec = Jvm.exec) (hby : c.code = bs) (hZ : Z.Warmed39 s.vm) {own R0 O n d : String} {index : Nat} (hown : s.vm.findClass own = some m.cls) (w : (Cond.fieldLink own index R0 n d).before a0 Z = true) (via : Via Z R0 O n d) {a : Addr} {v : Value} (F : Fld Z h a O n d v) (hd : decode bs pc = .ok (.getfield index, 3)) (hp : pc + 3 = pc') (K : ∀ T', St p l e R s m args below meth c n0 T' h cells slots → Gl p e below n0 Φ Q (T'.setTop (mkF m pc' L (v :: S)))) : Gl p e below n0 Φ Q (T.setTop (mkF m pc L (.ref a :: S))) := by
  obtain ⟨locs, Y, eT, N⟩ := X; subst hp
  obtain ⟨T', Y', e', st⟩ := getF Y hx hZ hown (host := "") (Or.inl w) via eT F (g := mkF m pc L (.ref a :: S)) rfl rfl (hb hby hd)
  exact Gl.st st (K T' ⟨locs, Y', e', N⟩)
theorem g_putF (X : St p l e R s m args below meth c n0 T h cells slots) (hx : p.tables.exec = Jvm.exec) (hby : c.code = bs) (hZ : Z.Warmed39 s.vm) {own R0 O n d C : String} {index kk : Nat} {ty : FieldType} (hown : s.vm.findClass own = some m.cls) (w : (Cond.fieldLink own index R0 n d).before a0 Z = true) (via : Via Z R0 O n d) {a : Addr} {v old : Value} (F : Fld Z h a O n d old) (E : Exa Z h a C) (lay : (Cond.lays C O n d).before a0 Z = true ∨ ((Cond.laysFinal C O n d).before a0 Z = true ∧ own = O ∧ meth.name = "<init>")) (wi : (Cond.instantiable C kk).before a0 Z = true) (hty : parseFieldDescriptor d = some ty) (hn : narrow ty v = v) (hf : fits ty v = true) (hn0 : n0 ≤ a) (hd : decode bs pc = .ok (.putfield index, 3)) (hp : pc + 3 = pc') (K : ∀ T' h', St p l e R s m args below meth c n0 T' h' cells slots → Wr h h' a (Jvm.RoadKit.slotOf Z O n d) v → Gl p e below n0 Φ Q (T'.setTop (mkF m pc' L S))) : Gl p e below n0 Φ Q (T.setTop (mkF m pc L (v :: .ref a :: S))) := by
  obtain ⟨locs, Y, eT, N⟩ := X; subst hp
  obtain ⟨T', h', Y', e', W, st⟩ := putF Y hx hZ hown (host := "") (Or.inl w) via eT F E lay wi hty hn hf (g := mkF m pc L (v :: .ref a :: S)) rfl rfl (hb hby hd)
  exact Gl.st st (K T' h' ⟨_, Y', e', Fr.snoc Y' N hn0⟩ W)
theorem g_putFN (X : St p l e R s m args below meth c n0 T h cells slots) (hx : p.tables.exec = Jvm.exec) (hby : c.code = bs) (hZ : Z.Warmed39 s.vm) {own R0 O n d C : String} {index kk : Nat} {ty : FieldType} (hown : s.vm.findClass own = some m.cls) (w : (Cond.fieldLink own index R0 n d).before a0 Z = true) (via : Via Z R0 O n d) {a : Addr} {v v' old : Value} (F : Fld Z h a O n d old) (E : Exa Z h a C) (lay : (Cond.lays C O n d).before a0 Z = true ∨ ((Cond.laysFinal C O n d).before a0 Z = true ∧ own = O ∧ meth.name = "<init>")) (wi : (Cond.instantiable C kk).before a0 Z = true) (hty : parseFieldDescriptor d = some ty) (hn : narrow ty v = v') (hf : fits ty v' = true) (hn0 : n0 ≤ a) (hd : decode bs pc = .ok (.putfield index, 3)) (hp : pc + 3 = pc') (K : ∀ T' h', St p l e R s m args below meth c n0 T' h' cells slots → Wr h h' a (Jvm.RoadKit.slotOf Z O n d) v' → Gl p e below n0 Φ Q (T'.setTop (mkF m pc' L S))) : Gl p e below n0 Φ Q (T.setTop (mkF m pc L (v :: .ref a :: S))) := by
  obtain ⟨locs, Y, eT, N⟩ := X; subst hp
  obtain ⟨T', h', Y', e', W, st⟩ := putFN Y hx hZ hown w via eT F E lay wi hty hn hf (g := mkF m pc L (v :: .ref a :: S)) rfl rfl (hb hby hd)
  exact Gl.st st (K T' h' ⟨_, Y', e', Fr.snoc Y' N hn0⟩ W)
theorem g_getS (X : St p l e R s m args below meth c n0 T h cells slots) (hx : p.tables.exec = Jvm.exec) (hby : c.code = bs) (hZ : Z.Warmed39 s.vm) {own R0 O n d : String} {index : Nat} (hown : s.vm.findClass own = some m.cls) (w : (Cond.fieldLink own index R0 n d).before a0 Z = true) (via : Via Z R0 O n d) {v : Value} (F : Sta Z h O n d v) (hd : decode bs pc = .ok (.getstatic index, 3)) (hp : pc + 3 = pc') (K : ∀ T', St p l e R s m args below meth c n0 T' h cells slots → Gl p e below n0 Φ Q (T'.setTop (mkF m pc' L (v :: S)))) : Gl p e below n0 Φ Q (T.setTop (mkF m pc L S)) := by
  obtain ⟨locs, Y, eT, N⟩ := X; subst hp
  obtain ⟨T', Y', e', st⟩ := getS Y hx hZ hown (host := "") w via eT F (g := mkF m pc L S) rfl (hb hby hd)
  exact Gl.st st (K T' ⟨locs, Y', e', N⟩)
theorem g_new (X : St p l e R s m args below meth c n0 T h cells slots) (hx : p.tables.exec = Jvm.exec) (hby : c.code = bs) (hZ : Z.Warmed39 s.vm) {own C : String} {index n : Nat} (hown : s.vm.findClass own = some m.cls) (w : (Cond.classLink own index C).before a0 Z = true) (wi : (Cond.instantiable C n).before a0 Z = true) (wz : (Cond.initialized C).before a0 Z = true) (hd : decode bs pc = .ok (.new index, 3)) (hc : cells + 1 ≤ R.cells) (hs : slots + n ≤ R.slots) (hp : pc + 3 = pc') (K : ∀ T' h' (b : Addr), b = h.size → St p l e R s m args below meth c n0 T' h' (cells + 1) (slots + n) → Ext h h' → Exa Z h' b C → (∀ {O nm d : String} {ty : FieldType}, Laid Z a0 C O nm d → parseFieldDescriptor d = some ty → Fld Z h' b O nm d (defaultValue ty)) → Gl p e below n0 Φ Q (T'.setTop (mkF m pc' L (.ref b :: S)))) : Gl p e below n0 Φ Q (T.setTop (mkF m pc L S)) := by
  obtain ⟨locs, Y, eT, N⟩ := X; subst hp
  obtain ⟨T', h', Y', e', E, A, D, -, st⟩ := newO Y hx hZ hown w wi wz eT (g := mkF m pc L S) rfl (hb hby hd) hc hs
  exact Gl.st st (K T' h' _ rfl ⟨locs, Y', e', N⟩ E A D)
theorem g_newarray (X : St p l e R s m args below meth c n0 T h cells slots) (hx : p.tables.exec = Jvm.exec) (hby : c.code = bs) (hZ : Z.Warmed39 s.vm) {aty : ArrayType} (w : (Cond.arrayClass (newarray.typeOf aty)).before a0 Z = true) {n : Int32} {k cap : Nat} (hd : decode bs pc = .ok (.newarray aty, 2)) (hn : n.toInt = (k : Int)) (hcap : k ≤ cap) (hb8 : cap * 8 ≤ 536870912) (hc : cells + 1 ≤ R.cells) (hs : slots + cap ≤ R.slots) (hp : pc + 2 = pc') (K : ∀ T' h' (b : Addr), b = h.size → St p l e R s m args below meth c n0 T' h' (cells + 1) (slots + cap) → Ext h h' → Ary Z h' b (newarray.typeOf aty) k (fun _ => defaultValue (newarray.typeOf aty)) → Gl p e below n0 Φ Q (T'.setTop (mkF m pc' L (.ref b :: S)))) : Gl p e below n0 Φ Q (T.setTop (mkF m pc L (.int n :: S))) := by
  obtain ⟨locs, Y, eT, N⟩ := X; subst hp
  have e1 : n.toNatClampNeg = k := by simp only [Int32.toNatClampNeg]; omega
  obtain ⟨T', h', cA, Y', e', E, A, st⟩ := newP Y hx hZ w eT (g := mkF m pc L (.int n :: S)) rfl (hb hby hd) rfl (by rw [Int32.lt_iff_toInt_lt]; have : (0 : Int32).toInt = 0 := rfl; omega) (cap := cap) (by omega) hb8 hc hs
  exact Gl.st st (K T' h' _ rfl ⟨locs, Y', e', N⟩ E ⟨_, A, by rw [sz_new]; exact e1, fun i hi => by simp [newA, e1, hi]⟩)
theorem g_anewarray (X : St p l e R s m args below meth c n0 T h cells slots) (hx : p.tables.exec = Jvm.exec) (hby : c.code = bs) (hZ : Z.Warmed39 s.vm) {own C : String} {index : Nat} (hown : s.vm.findClass own = some m.cls) (w1 : (Cond.classLink own index C).before a0 Z = true) (w2 : (Cond.arrayOver (.object C)).before a0 Z = true) {n : Int32} {k cap : Nat} (hd : decode bs pc = .ok (.anewarray index, 3)) (hn : n.toInt = (k : Int)) (hcap : k ≤ cap) (hb8 : cap * 8 ≤ 536870912) (hc : cells + 1 ≤ R.cells) (hs : slots + cap ≤ R.slots) (hp : pc + 3 = pc') (K : ∀ T' h' (b : Addr), b = h.size → St p l e R s m args below meth c n0 T' h' (cells + 1) (slots + cap) → Ext h h' → Ary Z h' b (.object C) k (fun _ => .null) → Ov Z h' b C → Gl p e below n0 Φ Q (T'.setTop (mkF m pc' L (.ref b :: S)))) : Gl p e below n0 Φ Q (T.setTop (mkF m pc L (.int n :: S))) := by
  obtain ⟨locs, Y, eT, N⟩ := X; subst hp
  have e1 : n.toNatClampNeg = k := by simp only [Int32.toNatClampNeg]; omega
  obtain ⟨T', h', cA, Y', e', E, A, O, st⟩ := newR Y hx hZ hown w1 w2 eT (g := mkF m pc L (.int n :: S)) rfl (hb hby hd) rfl (by rw [Int32.lt_iff_toInt_lt]; have : (0 : Int32).toInt = 0 := rfl; omega) (cap := cap) (by omega) hb8 hc hs
  exact Gl.st st (K T' h' _ rfl ⟨locs, Y', e', N⟩ E ⟨_, A, by rw [sz_new]; exact e1, fun i hi => by simp [newA, e1, hi, defaultValue]⟩ ⟨_, A.1, O⟩)
theorem g_arraylength (X : St p l e R s m args below meth c n0 T h cells slots) (hx : p.tables.exec = Jvm.exec) (hby : c.code = bs) (hZ : Z.Warmed39 s.vm) {a : Addr} {ty : FieldType} {k : Nat} {f : Nat → Value} {n : Int32} (A : Ary Z h a ty k f) (hn : n.toInt = (k : Int)) (hd : decode bs pc = .ok (.arraylength, 1)) (hp : pc + 1 = pc') (K : Gl p e below n0 Φ Q (T.setTop (mkF m pc' L (.int n :: S)))) : Gl p e below n0 Φ Q (T.setTop (mkF m pc L (.ref a :: S))) := by
  obtain ⟨locs, Y, eT, -⟩ := X; subst hp
  obtain ⟨cl, Ar, sz, -⟩ := A
  have e1 : cl.slots.size.toInt32 = n := by
    have q := rng32 n
    rw [← Int32.toInt_inj, len_toInt (by omega), sz, hn]
  refine Gl.st (fun t k => Y.arraylength hx (by rw [eT]; exact Ar.1) (State.isArrayOf_alike hZ.alike Ar.2.1) (g := mkF m pc L (.ref a :: S)) rfl rfl (hb hby hd) t k) ?_
  rw [e1]; exact K
theorem g_iaload (X : St p l e R s m args below meth c n0 T h cells slots) (hx : p.tables.exec = Jvm.exec) (hby : c.code = bs) (hZ : Z.Warmed39 s.vm) {a : Addr} {k i : Nat} {f : Nat → Value} {j : Int32} {v : Value} (A : Ary Z h a .int k f) (hj : j.toInt = (i : Int)) (hi : i < k) (hv : f i = v) (hd : decode bs pc = .ok (.iaload, 1)) (hp : pc + 1 = pc') (K : Gl p e below n0 Φ Q (T.setTop (mkF m pc' L (v :: S)))) : Gl p e below n0 Φ Q (T.setTop (mkF m pc L (.int j :: .ref a :: S))) := by
  obtain ⟨locs, Y, eT, -⟩ := X; subst hp hv
  obtain ⟨cl, Ar, sz, H⟩ := A
  obtain ⟨q1, q2⟩ := own_in (k := k) hj hi
  exact Gl.st (fun t k => Y.iaload hx (by rw [eT]; exact Ar.1) (State.isArrayOf_alike hZ.alike Ar.2.1) Ar.2.2 (by rw [sz]; exact q1) (by rw [q2]; exact H i hi) (g := mkF m pc L (.int j :: .ref a :: S)) rfl rfl (hb hby hd) t k) K
theorem g_laload (X : St p l e R s m args below meth c n0 T h cells slots) (hx : p.tables.exec = Jvm.exec) (hby : c.code = bs) (hZ : Z.Warmed39 s.vm) {a : Addr} {k i : Nat} {f : Nat → Value} {j : Int32} {v : Value} (A : Ary Z h a .long k f) (hj : j.toInt = (i : Int)) (hi : i < k) (hv : f i = v) (hd : decode bs pc = .ok (.laload, 1)) (hp : pc + 1 = pc') (K : Gl p e below n0 Φ Q (T.setTop (mkF m pc' L (v :: S)))) : Gl p e below n0 Φ Q (T.setTop (mkF m pc L (.int j :: .ref a :: S))) := by
  obtain ⟨locs, Y, eT, -⟩ := X; subst hp hv
  obtain ⟨cl, Ar, sz, H⟩ := A
  obtain ⟨q1, q2⟩ := own_in (k := k) hj hi
  exact Gl.st (fun t k => Y.laload hx (by rw [eT]; exact Ar.1) (State.isArrayOf_alike hZ.alike Ar.2.1) Ar.2.2 (by rw [sz]; exact q1) (by rw [q2]; exact H i hi) (g := mkF m pc L (.int j :: .ref a :: S)) rfl rfl (hb hby hd) t k) K
theorem g_caload (X : St p l e R s m args below meth c n0 T h cells slots) (hx : p.tables.exec = Jvm.exec) (hby : c.code = bs) (hZ : Z.Warmed39 s.vm) {a : Addr} {k i : Nat} {f : Nat → Value} {j : Int32} {v : Value} (A : Ary Z h a .char k f) (hj : j.toInt = (i : Int)) (hi : i < k) (hv : f i = v) (hd : decode bs pc = .ok (.caload, 1)) (hp : pc + 1 = pc') (K : Gl p e below n0 Φ Q (T.setTop (mkF m pc' L (v :: S)))) : Gl p e below n0 Φ Q (T.setTop (mkF m pc L (.int j :: .ref a :: S))) := by
  obtain ⟨locs, Y, eT, -⟩ := X; subst hp hv
  obtain ⟨cl, Ar, sz, H⟩ := A
  obtain ⟨q1, q2⟩ := own_in (k := k) hj hi
  exact Gl.st (fun t k => Y.caload hx (by rw [eT]; exact Ar.1) (State.isArrayOf_alike hZ.alike Ar.2.1) Ar.2.2 (by rw [sz]; exact q1) (by rw [q2]; exact H i hi) (g := mkF m pc L (.int j :: .ref a :: S)) rfl rfl (hb hby hd) t k) K
theorem g_baload (X : St p l e R s m args below meth c n0 T h cells slots) (hx : p.tables.exec = Jvm.exec) (hby : c.code = bs) (hZ : Z.Warmed39 s.vm) {a : Addr} {k i : Nat} {f : Nat → Value} {j : Int32} {v : Value} (A : Ary Z h a .byte k f) (hj : j.toInt = (i : Int)) (hi : i < k) (hv : f i = v) (hd : decode bs pc = .ok (.baload, 1)) (hp : pc + 1 = pc') (K : Gl p e below n0 Φ Q (T.setTop (mkF m pc' L (v :: S)))) : Gl p e below n0 Φ Q (T.setTop (mkF m pc L (.int j :: .ref a :: S))) := by
  obtain ⟨locs, Y, eT, -⟩ := X; subst hp hv
  obtain ⟨cl, Ar, sz, H⟩ := A
  obtain ⟨q1, q2⟩ := own_in (k := k) hj hi
  exact Gl.st (fun t k => Y.baloadBytes hx (by rw [eT]; exact Ar.1) (State.isArrayOf_alike hZ.alike Ar.2.1) Ar.2.2 (by rw [sz]; exact q1) (by rw [q2]; exact H i hi) (g := mkF m pc L (.int j :: .ref a :: S)) rfl rfl (hb hby hd) t k) K
theorem g_zaload (X : St p l e R s m args below meth c n0 T h cells slots) (hx : p.tables.exec = Jvm.exec) (hby : c.code = bs) (hZ : Z.Warmed39 s.vm) {a : Addr} {k i : Nat} {f : Nat → Value} {j : Int32} {v : Value} (A : Ary Z h a .boolean k f) (hj : j.toInt = (i : Int)) (hi : i < k) (hv : f i = v) (hd : decode bs pc = .ok (.baload, 1)) (hp : pc + 1 = pc') (K : Gl p e below n0 Φ Q (T.setTop (mkF m pc' L (v :: S)))) : Gl p e below n0 Φ Q (T.setTop (mkF m pc L (.int j :: .ref a :: S))) := by
  obtain ⟨locs, Y, eT, -⟩ := X; subst hp hv
  obtain ⟨cl, Ar, sz, H⟩ := A
  obtain ⟨q1, q2⟩ := own_in (k := k) hj hi
  exact Gl.st (fun t k => Y.baloadBooleans hx (by rw [eT]; exact Ar.1) (State.isArrayOf_alike hZ.alike Ar.2.1) Ar.2.2 (by rw [sz]; exact q1) (by rw [q2]; exact H i hi) (g := mkF m pc L (.int j :: .ref a :: S)) rfl rfl (hb hby hd) t k) K
theorem g_aaload (X : St p l e R s m args below meth c n0 T h cells slots) (hx : p.tables.exec = Jvm.exec) (hby : c.code = bs) (hZ : Z.Warmed39 s.vm) {a : Addr} {k i : Nat} {f : Nat → Value} {j : Int32} {v : Value} {ty : FieldType} (A : Ary Z h a ty k f) (hty : ty.isReference = true) (hj : j.toInt = (i : Int)) (hi : i < k) (hv : f i = v) (hd : decode bs pc = .ok (.aaload, 1)) (hp : pc + 1 = pc') (K : Gl p e below n0 Φ Q (T.setTop (mkF m pc' L (v :: S)))) : Gl p e below n0 Φ Q (T.setTop (mkF m pc L (.int j :: .ref a :: S))) := by
  obtain ⟨locs, Y, eT, -⟩ := X; subst hp hv
  obtain ⟨cl, Ar, sz, H⟩ := A
  obtain ⟨q1, q2⟩ := own_in (k := k) hj hi
  exact Gl.st (fun t k => Y.aaload hx (by rw [eT]; exact Ar.1) (State.isArrayOf_alike hZ.alike Ar.2.1) hty Ar.2.2 (by rw [sz]; exact q1) (by rw [q2]; exact H i hi) (g := mkF m pc L (.int j :: .ref a :: S)) rfl rfl (hb hby hd) t k) K
theorem g_iastore (X : St p l e R s m args below meth c n0 T h cells slots) (hx : p.tables.exec = Jvm.exec) (hby : c.code = bs) (hZ : Z.Warmed39 s.vm) {a : Addr} {k i : Nat} {f : Nat → Value} {j : Int32} {x : Int32} (A : Ary Z h a .int k f) (hj : j.toInt = (i : Int)) (hi : i < k) (hn0 : n0 ≤ a) (hd : decode bs pc = .ok (.iastore, 1)) (hp : pc + 1 = pc') (K : ∀ T' h' sl0, St p l e R s m args below meth c n0 T' h' cells slots → Wr h h' a sl0 (.int x) → Ary Z h' a .int k (own_upd f i (.int x)) → Gl p e below n0 Φ Q (T'.setTop (mkF m pc' L S))) : Gl p e below n0 Φ Q (T.setTop (mkF m pc L (.int x :: .int j :: .ref a :: S))) := by
  obtain ⟨locs, Y, eT, N⟩ := X; subst hp
  obtain ⟨cl, Ar, sz, H⟩ := A
  obtain ⟨q1, q2⟩ := own_in (k := k) hj hi
  obtain ⟨T', h', Y', e', W, st⟩ := stI Y hx hZ eT Ar (j := j) (by rw [sz]; exact q1) (g := mkF m pc L (.int x :: .int j :: .ref a :: S)) rfl rfl (hb hby hd)
  exact Gl.st st (K T' h' _ ⟨_, Y', e', Fr.snoc Y' N hn0⟩ W (Ary.same Ar sz H (q2 ▸ W)))
theorem g_lastore (X : St p l e R s m args below meth c n0 T h cells slots) (hx : p.tables.exec = Jvm.exec) (hby : c.code = bs) (hZ : Z.Warmed39 s.vm) {a : Addr} {k i : Nat} {f : Nat → Value} {j : Int32} {x : Int64} (A : Ary Z h a .long k f) (hj : j.toInt = (i : Int)) (hi : i < k) (hn0 : n0 ≤ a) (hd : decode bs pc = .ok (.lastore, 1)) (hp : pc + 1 = pc') (K : ∀ T' h' sl0, St p l e R s m args below meth c n0 T' h' cells slots → Wr h h' a sl0 (.long x) → Ary Z h' a .long k (own_upd f i (.long x)) → Gl p e below n0 Φ Q (T'.setTop (mkF m pc' L S))) : Gl p e below n0 Φ Q (T.setTop (mkF m pc L (.long x :: .int j :: .ref a :: S))) := by
  obtain ⟨locs, Y, eT, N⟩ := X; subst hp
  obtain ⟨cl, Ar, sz, H⟩ := A
  obtain ⟨q1, q2⟩ := own_in (k := k) hj hi
  obtain ⟨T', h', Y', e', W, st⟩ := stJ Y hx hZ eT Ar (j := j) (by rw [sz]; exact q1) (g := mkF m pc L (.long x :: .int j :: .ref a :: S)) rfl rfl (hb hby hd)
  exact Gl.st st (K T' h' _ ⟨_, Y', e', Fr.snoc Y' N hn0⟩ W (Ary.same Ar sz H (q2 ▸ W)))
theorem g_bastore (X : St p l e R s m args below meth c n0 T h cells slots) (hx : p.tables.exec = Jvm.exec) (hby : c.code = bs) (hZ : Z.Warmed39 s.vm) {a : Addr} {k i : Nat} {f : Nat → Value} {j : Int32} {x : Int32} (A : Ary Z h a .byte k f) (hj : j.toInt = (i : Int)) (hi : i < k) (hn0 : n0 ≤ a) (hd : decode bs pc = .ok (.bastore, 1)) (hp : pc + 1 = pc') (K : ∀ T' h' sl0, St p l e R s m args below meth c n0 T' h' cells slots → Wr h h' a sl0 (.int (nar .byte x)) → Ary Z h' a .byte k (own_upd f i (.int (nar .byte x))) → Gl p e below n0 Φ Q (T'.setTop (mkF m pc' L S))) : Gl p e below n0 Φ Q (T.setTop (mkF m pc L (.int x :: .int j :: .ref a :: S))) := by
  obtain ⟨locs, Y, eT, N⟩ := X; subst hp
  obtain ⟨cl, Ar, sz, H⟩ := A
  obtain ⟨q1, q2⟩ := own_in (k := k) hj hi
  obtain ⟨T', h', Y', e', W, st⟩ := stB Y hx hZ eT Ar (j := j) (by rw [sz]; exact q1) (g := mkF m pc L (.int x :: .int j :: .ref a :: S)) rfl rfl (hb hby hd)
  exact Gl.st st (K T' h' _ ⟨_, Y', e', Fr.snoc Y' N hn0⟩ W (Ary.same Ar sz H (q2 ▸ W)))
theorem g_zastore (X : St p l e R s m args below meth c n0 T h cells slots) (hx : p.tables.exec = Jvm.exec) (hby : c.code = bs) (hZ : Z.Warmed39 s.vm) {a : Addr} {k i : Nat} {f : Nat → Value} {j : Int32} {x : Int32} (A : Ary Z h a .boolean k f) (hj : j.toInt = (i : Int)) (hi : i < k) (hn0 : n0 ≤ a) (hd : decode bs pc = .ok (.bastore, 1)) (hp : pc + 1 = pc') (K : ∀ T' h' sl0, St p l e R s m args below meth c n0 T' h' cells slots → Wr h h' a sl0 (.int (nar .boolean x)) → Ary Z h' a .boolean k (own_upd f i (.int (nar .boolean x))) → Gl p e below n0 Φ Q (T'.setTop (mkF m pc' L S))) : Gl p e below n0 Φ Q (T.setTop (mkF m pc L (.int x :: .int j :: .ref a :: S))) := by
  obtain ⟨locs, Y, eT, N⟩ := X; subst hp
  obtain ⟨cl, Ar, sz, H⟩ := A
  obtain ⟨q1, q2⟩ := own_in (k := k) hj hi
  obtain ⟨T', h', Y', e', W, st⟩ := stZ Y hx hZ eT Ar (j := j) (by rw [sz]; exact q1) (g := mkF m pc L (.int x :: .int j :: .ref a :: S)) rfl rfl (hb hby hd)
  exact Gl.st st (K T' h' _ ⟨_, Y', e', Fr.snoc Y' N hn0⟩ W (Ary.same Ar sz H (q2 ▸ W)))
theorem g_castore (X : St p l e R s m args below meth c n0 T h cells slots) (hx : p.tables.exec = Jvm.exec) (hby : c.code = bs) (hZ : Z.Warmed39 s.vm) {a : Addr} {k i : Nat} {f : Nat → Value} {j : Int32} {x : Int32} (A : Ary Z h a .char k f) (hj : j.toInt = (i : Int)) (hi : i < k) (hn0 : n0 ≤ a) (hd : decode bs pc = .ok (.castore, 1)) (hp : pc + 1 = pc') (K : ∀ T' h' sl0, St p l e R s m args below meth c n0 T' h' cells slots → Wr h h' a sl0 (.int (nar .char x)) → Ary Z h' a .char k (own_upd f i (.int (nar .char x))) → Gl p e below n0 Φ Q (T'.setTop (mkF m pc' L S))) : Gl p e below n0 Φ Q (T.setTop (mkF m pc L (.int x :: .int j :: .ref a :: S))) := by
  obtain ⟨locs, Y, eT, N⟩ := X; subst hp
  obtain ⟨cl, Ar, sz, H⟩ := A
  obtain ⟨q1, q2⟩ := own_in (k := k) hj hi
  obtain ⟨T', h', Y', e', W, st⟩ := stC Y hx hZ eT Ar (j := j) (by rw [sz]; exact q1) (g := mkF m pc L (.int x :: .int j :: .ref a :: S)) rfl rfl (hb hby hd)
  exact Gl.st st (K T' h' _ ⟨_, Y', e', Fr.snoc Y' N hn0⟩ W (Ary.same Ar sz H (q2 ▸ W)))
theorem g_aastore (X : St p l e R s m args below meth c n0 T h cells slots) (hx : p.tables.exec = Jvm.exec) (hby : c.code = bs) (hZ : Z.Warmed39 s.vm) {a : Addr} {k i : Nat} {f : Nat → Value} {j : Int32} {v : Value} {ty : FieldType} (A : Ary Z h a ty k f) (hty : ty.isReference = true) (St0 : Sto Z h a v) (hj : j.toInt = (i : Int)) (hi : i < k) (hn0 : n0 ≤ a) (hd : decode bs pc = .ok (.aastore, 1)) (hp : pc + 1 = pc') (K : ∀ T' h' sl0, St p l e R s m args below meth c n0 T' h' cells slots → Wr h h' a sl0 v → Ary Z h' a ty k (own_upd f i v) → Gl p e below n0 Φ Q (T'.setTop (mkF m pc' L S))) : Gl p e below n0 Φ Q (T.setTop (mkF m pc L (v :: .int j :: .ref a :: S))) := by
  obtain ⟨locs, Y, eT, N⟩ := X; subst hp
  obtain ⟨cl, Ar, sz, H⟩ := A
  obtain ⟨q1, q2⟩ := own_in (k := k) hj hi
  obtain ⟨T', h', Y', e', W, st⟩ := stR Y hx hZ eT Ar (j := j) (by rw [sz]; exact q1) hty St0 (g := mkF m pc L (v :: .int j :: .ref a :: S)) rfl rfl (hb hby hd)
  exact Gl.st st (K T' h' _ ⟨_, Y', e', Fr.snoc Y' N hn0⟩ W (Ary.same Ar sz H (q2 ▸ W)))
theorem g_instY (X : St p l e R s m args below meth c n0 T h cells slots) (hx : p.tables.exec = Jvm.exec) (hby : c.code = bs) (hZ : Z.Warmed39 s.vm) {own K : String} {index : Nat} {a : Addr} (hown : s.vm.findClass own = some m.cls) (w : (Cond.classLink own index K).before a0 Z = true) (I : Ins Z h a K true) (hd : decode bs pc = .ok (.instanceof index, 3)) (hp : pc + 3 = pc') (K1 : ∀ T', St p l e R s m args below meth c n0 T' h cells slots → Gl p e below n0 Φ Q (T'.setTop (mkF m pc' L (.int 1 :: S)))) : Gl p e below n0 Φ Q (T.setTop (mkF m pc L (.ref a :: S))) := by
  obtain ⟨locs, Y, eT, N⟩ := X; subst hp
  obtain ⟨T', Y', e', st⟩ := instY Y hx hZ hown w eT I (g := mkF m pc L (.ref a :: S)) rfl rfl (hb hby hd)
  exact Gl.st st (K1 T' ⟨locs, Y', e', N⟩)
theorem g_castY (X : St p l e R s m args below meth c n0 T h cells slots) (hx : p.tables.exec = Jvm.exec) (hby : c.code = bs) (hZ : Z.Warmed39 s.vm) {own K : String} {index : Nat} {a : Addr} (hown : s.vm.findClass own = some m.cls) (w : (Cond.classLink own index K).before a0 Z = true) (I : Ins Z h a K true) (hd : decode bs pc = .ok (.checkcast index, 3)) (hp : pc + 3 = pc') (K1 : ∀ T', St p l e R s m args below meth c n0 T' h cells slots → Gl p e below n0 Φ Q (T'.setTop (mkF m pc' L (.ref a :: S)))) : Gl p e below n0 Φ Q (T.setTop (mkF m pc L (.ref a :: S))) := by
  obtain ⟨locs, Y, eT, N⟩ := X; subst hp
  obtain ⟨T', Y', e', st⟩ := castY Y hx hZ hown w eT I (g := mkF m pc L (.ref a :: S)) rfl rfl (hb hby hd)
  exact Gl.st st (K1 T' ⟨locs, Y', e', N⟩)
theorem g_instNo (X : St p l e R s m args below meth c n0 T h cells slots) (hx : p.tables.exec = Jvm.exec) (hby : c.code = bs) (hZ : Z.Warmed39 s.vm) {own K C : String} {index : Nat} {a : Addr} (hown : s.vm.findClass own = some m.cls) (w : (Cond.classLink own index K).before a0 Z = true) (E : Exa Z h a C) (I : ∃ c t, Z.vm.findClass C = some c ∧ Z.vm.findClass K = some t ∧ Z.vm.assignable c t = false) (hd : decode bs pc = .ok (.instanceof index, 3)) (hp : pc + 3 = pc') (K1 : ∀ T', St p l e R s m args below meth c n0 T' h cells slots → Gl p e below n0 Φ Q (T'.setTop (mkF m pc' L (.int 0 :: S)))) : Gl p e below n0 Φ Q (T.setTop (mkF m pc L (.ref a :: S))) := by
  obtain ⟨locs, Y, eT, N⟩ := X; subst hp
  obtain ⟨T', Y', e', st⟩ := instNo Y hx hZ hown w eT E I (g := mkF m pc L (.ref a :: S)) rfl rfl (hb hby hd)
  exact Gl.st st (K1 T' ⟨locs, Y', e', N⟩)
theorem g_instNull (X : St p l e R s m args below meth c n0 T h cells slots) (hx : p.tables.exec = Jvm.exec) (hby : c.code = bs) {index : Nat} (hd : decode bs pc = .ok (.instanceof index, 3)) (hp : pc + 3 = pc') (K1 : Gl p e below n0 Φ Q (T.setTop (mkF m pc' L (.int 0 :: S)))) : Gl p e below n0 Φ Q (T.setTop (mkF m pc L (.null :: S))) := by
  obtain ⟨locs, Y, eT, N⟩ := X; subst hp
  exact Gl.st (fun t k => Y.instanceofNull hx (g := mkF m pc L (.null :: S)) rfl rfl (hb hby hd) t k) K1
theorem g_initO (X : St p l e R s m args below meth c n0 T h cells slots) (hx : p.tables.exec = Jvm.exec) (hby : c.code = bs) (hZ : Z.Warmed39 s.vm) {own : String} {idx W : Nat} {a : Addr} (hown : s.vm.findClass own = some m.cls) (w1 : (Cond.methodLink own idx Lib.objectInit).before a0 Z = true) (w2 : (Cond.instanceMethod Lib.objectInit).before a0 Z = true) (w3 : (Cond.code Lib.objectInit ⟨#[0xb1]⟩ 1 none).before a0 Z = true) (hsz : L.size = c.maxLocals) (hd : decode bs pc = .ok (.invokespecial idx, 3)) (hf : 1 ≤ R.frames) (hW : 2 * 0 + (S.map fun v => v.category).sum ≤ W) (hlo : W + 12 ≤ R.locals) (hp : pc + 3 = pc') (K : ∀ T', St p l e R s m args below meth c n0 T' h cells slots → Gl p e below n0 Φ Q (T'.setTop (mkF m pc' L S))) : Gl p e below n0 Φ Q (T.setTop (mkF m pc L (.ref a :: S))) := by
  obtain ⟨locs, Y, eT, N⟩ := X; subst hp
  obtain ⟨T', Y', e', st⟩ := initO Y hx hZ hown w1 w2 w3 eT (g := mkF m pc L (.ref a :: S)) rfl hsz rfl (hb hby hd) hf (W := W) hW hlo
  exact Gl.st st (K T' ⟨locs, Y', e', N⟩)
theorem g_callS (X : St p l e R s m args below meth c n0 T h cells slots) (hx : p.tables.exec = Jvm.exec) (hby : c.code = bs) (hZ : Z.Warmed39 s.vm) {rm : Room} {y : MethodName} {bytes : ByteArray} {maxL : Nat} {ret : Option FieldType} {Qc : Option Value → Heap → Prop} {own : String} {idx : Nat} {argsL S0 : List Value} (hown : s.vm.findClass own = some m.cls) (w1 : (Cond.methodLink own idx y).before a0 Z = true) (w2 : (Cond.static y).before a0 Z = true) (w3 : (Cond.initialized y.cls).before a0 Z = true) (w4 : (Cond.code y bytes maxL ret).before a0 Z = true) (hy : y.cls ≠ "java/lang/invoke/MethodHandle" ∧ y.cls ≠ "java/lang/invoke/VarHandle") (hM : Ctr l Z y bytes maxL ret [] rm argsL.toArray h n0 rm.cells rm.slots Qc) (hsz : L.size = c.maxLocals) (hlen : ∀ sig, parseMethodDescriptor y.desc = some sig → argsL.length = sig.parameters.length) (hst : S0 = argsL.reverse ++ S) (hd : decode bs pc = .ok (.invokestatic idx, 3)) (hf : rm.frames + 1 ≤ R.frames) {W : Nat} (hW : 2 * 0 + (S.map fun v => v.category).sum ≤ W) (hlo : W + (maxL + 11) + rm.locals ≤ R.locals) (hc : cells + rm.cells ≤ R.cells) (hs : slots + rm.slots ≤ R.slots) (hp : pc + 3 = pc') (K : ∀ T' v, St p l e R s m args below meth c n0 T' T'.heap (cells + rm.cells) (slots + rm.slots) → Qc v T'.heap → Gl p e below n0 Φ Q (T'.setTop (mkF m pc' L (v.toList ++ S)))) : Gl p e below n0 Φ Q (T.setTop (mkF m pc L S0)) := by
  obtain ⟨locs, Y, eT, N⟩ := X; subst hp
  obtain ⟨v, _, ⟨T', L1, k1, n1⟩, -, Y', ⟨Lc, hQ, l1, y1, z1⟩, st⟩ := Jvm.LawKit.callS Y hx (y := y) hown (mvT hZ w1) (mvT hZ w2) (mvT hZ w3) (mvT hZ w4) hy (backOf (W := W) (Q := fun v h L => Qc v h ∧ Fr n0 L) hM hZ w4 w3 hf hlo) (g := mkF m pc L S0) rfl hsz (argsL := argsL) (rest := S) hlen hst hW (hb hby hd) (fun _ _ => ⟨rfl, eT, hc, hs⟩)
  dsimp only [Pt.U, Pt.locs, Pt.cells, Pt.slots] at Y' l1 y1 z1 st hQ
  subst l1 y1 z1
  exact Gl.st (st) (K T' v ⟨_, Y', rfl, Fr.app N hQ.2⟩ hQ.1)
theorem g_callC (X : St p l e R s m args below meth c n0 T h cells slots) (hx : p.tables.exec = Jvm.exec) (hby : c.code = bs) (hZ : Z.Warmed39 s.vm) {rm : Room} {y : MethodName} {bytes : ByteArray} {maxL : Nat} {Qc : Option Value → Heap → Prop} {own : String} {idx : Nat} {a : Addr} {argsL S0 : List Value} (hy1 : y.name = "<init>") (hown : s.vm.findClass own = some m.cls) (w1 : (Cond.methodLink own idx y).before a0 Z = true) (w2 : (Cond.instanceMethod y).before a0 Z = true) (w3 : (Cond.initialized y.cls).before a0 Z = true) (w4 : (Cond.code y bytes maxL none).before a0 Z = true) (hy : y.cls ≠ "java/lang/invoke/MethodHandle" ∧ y.cls ≠ "java/lang/invoke/VarHandle") (hM : Ctr l Z y bytes maxL none [] rm (.ref a :: argsL).toArray h n0 rm.cells rm.slots Qc) (hsz : L.size = c.maxLocals) (hlen : ∀ sig, parseMethodDescriptor y.desc = some sig → argsL.length = sig.parameters.length) (hst : S0 = argsL.reverse ++ .ref a :: S) (hd : decode bs pc = .ok (.invokespecial idx, 3)) (hf : rm.frames + 1 ≤ R.frames) {W : Nat} (hW : 2 * 0 + (S.map fun v => v.category).sum ≤ W) (hlo : W + (maxL + 11) + rm.locals ≤ R.locals) (hc : cells + rm.cells ≤ R.cells) (hs : slots + rm.slots ≤ R.slots) (hp : pc + 3 = pc') (K : ∀ T' v, St p l e R s m args below meth c n0 T' T'.heap (cells + rm.cells) (slots + rm.slots) → Qc v T'.heap → Gl p e below n0 Φ Q (T'.setTop (mkF m pc' L (v.toList ++ S)))) : Gl p e below n0 Φ Q (T.setTop (mkF m pc L S0)) := by
  obtain ⟨locs, Y, eT, N⟩ := X; subst hp
  obtain ⟨v, _, ⟨T', L1, k1, n1⟩, -, Y', ⟨Lc, hQ, l1, y1, z1⟩, st⟩ := Y.specialBack hx (y := y) hy1 hown (mvT hZ w1) (mvT hZ w2) (mvT hZ w4) hy (backOf (W := W) (Q := fun v h L => Qc v h ∧ Fr n0 L) hM hZ w4 w3 hf hlo) (g := mkF m pc L S0) rfl hsz (Steps.refl _) (a := a) (argsL := argsL) (rest := S) hlen hst hW (hb hby hd) (fun _ _ => ⟨rfl, eT, hc, hs⟩)
  dsimp only [Pt.U, Pt.locs, Pt.cells, Pt.slots] at Y' l1 y1 z1 st hQ
  subst l1 y1 z1
  exact Gl.st (fun t k => st.trans k) (K T' v ⟨_, Y', rfl, Fr.app N hQ.2⟩ hQ.1)
theorem g_callV (X : St p l e R s m args below meth c n0 T h cells slots) (hx : p.tables.exec = Jvm.exec) (hby : c.code = bs) (hZ : Z.Warmed39 s.vm) {rm : Room} {y : MethodName} {bytes : ByteArray} {maxL : Nat} {ret : Option FieldType} {Qc : Option Value → Heap → Prop} {own C : String} {idx : Nat} {a : Addr} {y' : MethodName} {argsL S0 : List Value} (hown : s.vm.findClass own = some m.cls) (w1 : (Cond.methodLink own idx y').before a0 Z = true) (w2 : (Cond.declares y').before a0 Z = true) (w5 : NotFace s y') (w6 : (Cond.selects C y' y).before a0 Z = true) (w7 : (Cond.instanceMethod y).before a0 Z = true) (w3 : (Cond.initialized y.cls).before a0 Z = true) (w4 : (Cond.code y bytes maxL ret).before a0 Z = true) (hy : y'.cls ≠ "java/lang/invoke/MethodHandle" ∧ y'.cls ≠ "java/lang/invoke/VarHandle") (E : Exa Z h a C) (hM : Ctr l Z y bytes maxL ret [] rm (.ref a :: argsL).toArray h n0 rm.cells rm.slots Qc) (hsz : L.size = c.maxLocals) (hlen : ∀ sig, parseMethodDescriptor y'.desc = some sig → argsL.length = sig.parameters.length) (hst : S0 = argsL.reverse ++ .ref a :: S) (hd : decode bs pc = .ok (.invokevirtual idx, 3)) (hf : rm.frames + 1 ≤ R.frames) {W : Nat} (hW : 2 * 0 + (S.map fun v => v.category).sum ≤ W) (hlo : W + (maxL + 11) + rm.locals ≤ R.locals) (hc : cells + rm.cells ≤ R.cells) (hs : slots + rm.slots ≤ R.slots) (hp : pc + 3 = pc') (K : ∀ T' v, St p l e R s m args below meth c n0 T' T'.heap (cells + rm.cells) (slots + rm.slots) → Qc v T'.heap → Gl p e below n0 Φ Q (T'.setTop (mkF m pc' L (v.toList ++ S)))) : Gl p e below n0 Φ Q (T.setTop (mkF m pc L S0)) := by
  obtain ⟨locs, Y, eT, N⟩ := X; subst hp
  obtain ⟨cB, kB, qa, qb, qc⟩ := isOf hZ eT E
  obtain ⟨v, _, ⟨T', L1, k1, n1⟩, -, Y', ⟨Lc, hQ, l1, y1, z1⟩, st⟩ := Y.virtualBack hx (y := y') (z := y) hown (mvT hZ w1) (mvT hZ w2) w5 (mvT hZ w6) (mvT hZ w7) hy (backOf (W := W) (Q := fun v h L => Qc v h ∧ Fr n0 L) hM hZ w4 w3 hf hlo) qa qc (g := mkF m pc L S0) rfl hsz (Steps.refl _) (argsL := argsL) (rest := S) hlen hst hW (hb hby hd) (fun _ _ => ⟨rfl, eT, hc, hs⟩)
  dsimp only [Pt.U, Pt.locs, Pt.cells, Pt.slots] at Y' l1 y1 z1 st hQ
  subst l1 y1 z1
  exact Gl.st (fun t k => st.trans k) (K T' v ⟨_, Y', rfl, Fr.app N hQ.2⟩ hQ.1)
end OwnSteps
abbrev own_room (f c s l : Nat) : Room := { frames := f, cells := c, slots := s, locals := l }
def Str (Z : State) (h : Heap) (b : Addr) (x : Int32) : Prop := ∃ a' : Addr, Exa Z h b "java/lang/String" ∧ Fld Z h b "java/lang/String" "value" "[B" (.ref a') ∧ Fld Z h b "java/lang/String" "coder" "B" (.int 0) ∧ Ary Z h a' .byte 1 (fun _ => .int x)
section OwnStr
variable {Z : State} {h h' : Heap} {a b : Addr} {x x' : Int32} {ws : List Addr} {a0 : Array Value}
theorem Str.exa (F : Str Z h b x) : Exa Z h b "java/lang/String" := by obtain ⟨_, E, -⟩ := F; exact E
theorem Str.ext (F : Str Z h b x) (E : Ext h h') : Str Z h' b x := by obtain ⟨a, f1, f2, f3, f4⟩ := F; exact ⟨a, f1.ext E, f2.ext E, f3.ext E, f4.ext E⟩
theorem Str.keep0 (F : Str Z h b x) (K : Keep h h' []) : Str Z h' b x := by obtain ⟨a, f1, f2, f3, f4⟩ := F; exact ⟨a, f1.keep K, f2.keep K nin0, f3.keep K nin0, f4.keep K nin0⟩
theorem Str.keep1 {C : String} {k : Nat} (F : Str Z h b x) (K : Keep h h' [a]) (E : Exa Z h a C) (wi : (Cond.instantiable C k).before a0 Z = true) (hC : "java/lang/String" ≠ C) : Str Z h' b x := by
  obtain ⟨a', f1, f2, f3, f4⟩ := F
  have q := ninS (ne_exa f1 E hC) (nin0 (x := b))
  obtain ⟨cl, A, r⟩ := f4
  have q' := ninS (Ne.symm (ne_arr E wi A)) (nin0 (x := a'))
  exact ⟨a', f1.keep K, f2.keep K q, f3.keep K q, Ary.keep ⟨cl, A, r⟩ K q'⟩
theorem Ary.inj {ty : FieldType} {n : Nat} {f g : Nat → Value} (F : Ary Z h a ty n f) (G : Ary Z h a ty n g) : ∀ i, i < n → f i = g i := fun i hi => by
  obtain ⟨c1, A1, s1, H1⟩ := F
  obtain ⟨c2, A2, s2, H2⟩ := G
  cases A1.1.symm.trans A2.1
  exact Option.some.inj ((H1 i hi).symm.trans (H2 i hi))
theorem Str.inj (F : Str Z h b x) (G : Str Z h b x') : x = x' := by
  obtain ⟨a1, -, f2, -, f4⟩ := F
  obtain ⟨a2, -, g2, -, g4⟩ := G
  cases own_fld_inj f2 g2
  cases Ary.inj f4 g4 0 (by decide)
  rfl
end OwnStr
theorem own_ary1 {Z : State} {h : Heap} {a : Addr} {ty : FieldType} {f : Nat → Value} {v : Value} (F : Ary Z h a ty 1 f) (e : f 0 = v) : Ary Z h a ty 1 (fun _ => v) := F.congr fun i hi => by
  have : i = 0 := by omega
  subst this; exact e
def own_y (c : Int32) : Int32 := nar .byte c.toInt8.toInt32
def own_e (x y : Int32) : Int32 := if x = y then 1 else 0
theorem own_e1 {x y : Int32} (q : ¬ own_e x y = 0) : own_e x y = 1 := by unfold own_e at *; split at q <;> simp_all
theorem own_b8 (x : Int32) : nar .byte (nar .byte x) = nar .byte x := by show x.toInt8.toInt32.toInt8.toInt32 = x.toInt8.toInt32; rw [Int8.toInt8_toInt32]
theorem own_y_inj {c d : Int32} (hc : 0 ≤ c.toInt ∧ c.toInt ≤ 255) (hd : 0 ≤ d.toInt ∧ d.toInt ≤ 255) (q : own_y c = own_y d) : c = d := by
  have e1 : own_y c = c.toInt8.toInt32 := own_b8 c
  have e2 : own_y d = d.toInt8.toInt32 := own_b8 d
  rw [e1, e2] at q
  have f1 := c_i2b c; have f2 := c_i2b d
  rw [q] at f1
  exact Int32.toInt_inj.mp (by omega)
def Lat (Z : State) (h : Heap) (b : Addr) (n : Nat) (f : Nat → Int32) : Prop := ∃ a' : Addr, Exa Z h b "java/lang/String" ∧ Fld Z h b "java/lang/String" "value" "[B" (.ref a') ∧ Fld Z h b "java/lang/String" "coder" "B" (.int 0) ∧ Ary Z h a' .byte n (fun i => .int (f i))
theorem Str.lat {Z : State} {h : Heap} {b : Addr} {x y : Int32} (F : Str Z h b x) (q : x = y) : Lat Z h b 1 (fun _ => y) := by subst q; exact F
theorem own_shr0 (N : Int32) : N >>> ((0 : Int32) &&& 31) = N := by
  show N >>> (0 : Int32) = N
  simp
theorem own_narc (x : Int32) : nar .char ((x &&& (255 : Int32)).toUInt32.toUInt16.toUInt32.toInt32) = x &&& 255 := by
  show ((x &&& (255 : Int32)).toUInt32.toUInt16.toUInt32.toInt32).toUInt32.toUInt16.toUInt32.toInt32 = x &&& 255
  rw [i2c_mask, i2c_mask]
theorem own_i2c {x : Int32} (h : 0 ≤ x.toInt ∧ x.toInt ≤ 65535) : x.toUInt32.toUInt16.toUInt32.toInt32 = x := by
  have q := c_i2c x
  exact Int32.toInt_inj.mp (by omega)
theorem own_narC {x : Int32} (h : 0 ≤ x.toInt ∧ x.toInt ≤ 65535) : nar .char x = x := own_i2c h
theorem own_cat {v : Value} (h : v.isRef = true) : v.category = 1 := by rcases ref_cases h with rfl | ⟨a, rfl⟩ <;> rfl
theorem own_y_id {c : Int32} (h : 0 ≤ c.toInt ∧ c.toInt ≤ 127) : own_y c = c := by
  have e1 : own_y c = c.toInt8.toInt32 := own_b8 c
  have f1 := c_i2b c
  rw [e1]; exact Int32.toInt_inj.mp (by omega)
theorem own_chr_y {c : Int32} (h : 0 ≤ c.toInt ∧ c.toInt ≤ 255) : own_y c &&& (255 : Int32) = c := by
  have e1 : own_y c = c.toInt8.toInt32 := own_b8 c
  have f1 := c_i2b c
  have h1 := c_mask c.toInt8.toInt32 255 8 (by decide) (by decide); have h5 : ((2 ^ 8 : Nat) : Int) = 256 := rfl
  rw [e1]; exact Int32.toInt_inj.mp (by omega)
theorem own_ilt {i n : Nat} {I N : Int32} (h1 : I.toInt = (i : Int)) (h2 : N.toInt = (n : Int)) (h : i < n) : I < N := Int32.lt_iff_toInt_lt.mpr (by omega)
theorem own_i0 {i : Nat} {I : Int32} (h1 : I.toInt = (i : Int)) : ¬ I < 0 := fun q => by have := Int32.lt_iff_toInt_lt.mp q; have z : (0 : Int32).toInt = 0 := rfl; omega
theorem own_le255 {c : Int32} (h : 0 ≤ c.toInt ∧ c.toInt ≤ 255) : ¬ (255 : Int32) < c := fun q => by
  have := Int32.lt_iff_toInt_lt.mp q; have z : (255 : Int32).toInt = 255 := rfl; omega
theorem own_lt {a b : Int32} (q : a.toInt < b.toInt) : a < b := Int32.lt_iff_toInt_lt.mpr q
theorem own_nlt {a b : Int32} (q : b.toInt ≤ a.toInt) : ¬ a < b := fun z => by have := Int32.lt_iff_toInt_lt.mp z; omega
theorem own_inc {i : Int32} (q : i.toInt < 2147483647) : (i + (1 : Int32)).toInt = i.toInt + 1 := by
  have h1 := c_iadd i 1; have h2 := rng32 i; have h3 := rng32 (i + 1); have h4 : (1 : Int32).toInt = 1 := rfl
  omega
theorem own_dec1 {i : Int32} (q : 0 < i.toInt) : (i - (1 : Int32)).toInt = i.toInt - 1 := by
  have h1 := c_isub i 1; have h2 := rng32 i; have h3 := rng32 (i - 1); have h4 : (1 : Int32).toInt = 1 := rfl
  omega
theorem own_n255 {c : Int32} (h : 0 ≤ c.toInt ∧ c.toInt ≤ 255) : ¬ (255 : Int32) < c := own_le255 h
theorem own_ltk {c : Int32} {k : Int32} {x : Int} (e : k.toInt = x) (h : c.toInt < x) : c < k := own_lt (by omega)
theorem own_nek {c k : Int32} {x : Int} (e : k.toInt = x) (h : c.toInt ≠ x) : ¬ c = k := fun q => h (by rw [q]; exact e)
/-- a printable sign -/
def Prt (c : Int32) : Prop := 33 ≤ c.toInt ∧ c.toInt ≤ 126
theorem Prt.r255 {c : Int32} (h : Prt c) : 0 ≤ c.toInt ∧ c.toInt ≤ 255 := ⟨by have := h.1; omega, by have := h.2; omega⟩
theorem Prt.r127 {c : Int32} (h : Prt c) : 0 ≤ c.toInt ∧ c.toInt ≤ 127 := ⟨by have := h.1; omega, by have := h.2; omega⟩
theorem Prt.and (c : Int32) (h : Prt c) : c &&& (255 : Int32) = c := by
  have q : own_y c = c := own_y_id ⟨by have := h.1; omega, by have := h.2; omega⟩
  have r := own_chr_y (c := c) ⟨by have := h.1; omega, by have := h.2; omega⟩
  rw [q] at r; exact r
theorem own_pr (x : Int32) : Prt (((33 : Int32) + (x &&& (2147483647 : Int32)) % (94 : Int32)).toUInt32.toUInt16.toUInt32.toInt32) := by
  have h2 := c_mask x 2147483647 31 (by decide) (by decide +kernel)
  have h3 : ((2 ^ 31 : Nat) : Int) = 2147483648 := rfl
  have h4 := (c_iremV (x &&& 2147483647) 94).1 (by omega) (by decide)
  have h5 : (94 : Int32).toInt = 94 := rfl
  have h6 : (33 : Int32).toInt = 33 := rfl
  have h7 := c_iadd 33 ((x &&& 2147483647) % 94); have h8 := rng32 (33 + (x &&& 2147483647) % 94)
  rw [own_i2c (by omega)]
  unfold Prt; omega
theorem own_nmr (x : Int32) : 97 ≤ (((97 : Int32) + (x &&& (2147483647 : Int32)) % (26 : Int32)).toUInt32.toUInt16.toUInt32.toInt32).toInt ∧ (((97 : Int32) + (x &&& (2147483647 : Int32)) % (26 : Int32)).toUInt32.toUInt16.toUInt32.toInt32).toInt ≤ 122 := by
  have h2 := c_mask x 2147483647 31 (by decide) (by decide +kernel)
  have h3 : ((2 ^ 31 : Nat) : Int) = 2147483648 := rfl
  have h4 := (c_iremV (x &&& 2147483647) 26).1 (by omega) (by decide)
  have h5 : (26 : Int32).toInt = 26 := rfl
  have h6 : (97 : Int32).toInt = 97 := rfl
  have h7 := c_iadd 97 ((x &&& 2147483647) % 26); have h8 := rng32 (97 + (x &&& 2147483647) % 26)
  rw [own_i2c (by omega)]
  omega
theorem own_sh5 {x : Int32} (h : Prt x) : ¬ ((x.toUInt32 >>> ((5 : Int32) &&& 31).toUInt32).toInt32) = 0 := fun q => by
  have h1 := h.1; have h2 := h.2
  have e := c_iushr x 5 5 rfl (by decide)
  have e2 : ((2 ^ 5 : Nat) : Int) = 32 := rfl
  rw [q] at e
  have z : (0 : Int32).toInt = 0 := rfl
  omega
set_option maxRecDepth 65536 in
set_option maxHeartbeats 40000000 in
theorem own_ef1 (m : MethodId) (y0 : Int32)  : entryFrame m #[(.int y0)] 1 = mkF m 0 #[.val (.int y0)] [] := by first | (simp [entryFrame, mkF, argsToLocals, Value.category, maxLocals]; done) | rfl
theorem own_pn0 : plainName "java/lang/StringLatin1" = true := by first | (simp [plainName, overriddenIn]; done) | decide +kernel
theorem own_d0_0 : decode jdk_43_method_3_code 0 = .ok (.iload_n 0, 1) := by decide +kernel
theorem own_d0_1 : decode jdk_43_method_3_code 1 = .ok (.sipush 255, 3) := by decide +kernel
theorem own_d0_4 : decode jdk_43_method_3_code 4 = .ok (.if_icmp .gt 7, 3) := by decide +kernel
theorem own_d0_7 : decode jdk_43_method_3_code 7 = .ok (.iconst 1, 1) := by decide +kernel
theorem own_d0_8 : decode jdk_43_method_3_code 8 = .ok (.goto 4, 3) := by decide +kernel
theorem own_d0_12 : decode jdk_43_method_3_code 12 = .ok (.ireturn, 1) := by decide +kernel
set_option maxRecDepth 65536 in
set_option maxHeartbeats 40000000 in
theorem own_ce (l : Launch) (Z : State) (a0 : Array Value) (hw : ∀ d ∈ tables_1, d.before a0 Z = true) (y0 : Int32) (h0 : Heap) (n0 : Nat) (hc : ¬ (255 : Int32) < y0) :
    Ctr l Z (⟨"java/lang/StringLatin1", "canEncode", "(C)Z"⟩ : MethodName) jdk_43_method_3_code 1 (some .boolean) [] (own_room 0 0 0 0) #[(.int y0)] h0 n0 0 0 (fun v h => v = some (.int 1) ∧ h = h0) := by
  refine Ctr.of (plainFor_of_name own_pn0) ?_
  intro p e s m below meth c T0 hx hby hml hret hlk hnm hown hZ X0
  rw [own_ef1 m (y0)]
  refine g_iloadN X0 hx hby own_d0_0 rfl (pc' := 1) rfl ?_
  refine g_sipush (v := 255) X0 hx hby own_d0_1 rfl (pc' := 4) rfl ?_
  refine g_icmp_gt X0 hx hby own_d0_4 (by decide) (pc' := 11) (by decide) (pc2 := 7) rfl (fun q => absurd q hc) (fun c4_2 => ?_)
  refine g_iconst (v := 1) X0 hx hby own_d0_7 rfl (pc' := 8) rfl ?_
  refine g_goto X0 hx hby own_d0_8 (by decide) (pc' := 12) (by decide) ?_
  exact g_retN X0 hx hby hret hlk (by simp) own_d0_12 ⟨rfl, rfl⟩ (by decide) (by decide)
set_option maxRecDepth 65536 in
set_option maxHeartbeats 40000000 in
theorem own_ef3 (m : MethodId) (y0 : Int32)  : entryFrame m #[(.int y0)] 1 = mkF m 0 #[.val (.int y0)] [] := by first | (simp [entryFrame, mkF, argsToLocals, Value.category, maxLocals]; done) | rfl
theorem own_d1_0 : decode jdk_43_method_46_code 0 = .ok (.iconst 1, 1) := by decide +kernel
theorem own_d1_1 : decode jdk_43_method_46_code 1 = .ok (.newarray .byte, 2) := by decide +kernel
theorem own_d1_3 : decode jdk_43_method_46_code 3 = .ok (.dup, 1) := by decide +kernel
theorem own_d1_4 : decode jdk_43_method_46_code 4 = .ok (.iconst 0, 1) := by decide +kernel
theorem own_d1_5 : decode jdk_43_method_46_code 5 = .ok (.iload_n 0, 1) := by decide +kernel
theorem own_d1_6 : decode jdk_43_method_46_code 6 = .ok (.i2b, 1) := by decide +kernel
theorem own_d1_7 : decode jdk_43_method_46_code 7 = .ok (.bastore, 1) := by decide +kernel
theorem own_d1_8 : decode jdk_43_method_46_code 8 = .ok (.areturn, 1) := by decide +kernel
set_option maxRecDepth 65536 in
set_option maxHeartbeats 40000000 in
theorem own_tb (l : Launch) (Z : State) (a0 : Array Value) (hw : ∀ d ∈ tables_1, d.before a0 Z = true) (y0 : Int32) (h0 : Heap) (n0 : Nat) (Z0 : n0 ≤ h0.size) :
    Ctr l Z (⟨"java/lang/StringLatin1", "toBytes", "(C)[B"⟩ : MethodName) jdk_43_method_46_code 1 (some (.array .byte)) [] (own_room 0 1 1 0) #[(.int y0)] h0 n0 1 1 (fun v h => ∃ b, v = some (.ref b) ∧ Keep h0 h [] ∧ h0.size ≤ b ∧ Ary Z h b .byte 1 (fun _ => .int (own_y y0)) ∧ n0 ≤ b) := by
  refine Ctr.of (plainFor_of_name own_pn0) ?_
  intro p e s m below meth c T0 hx hby hml hret hlk hnm hown hZ X0
  rw [own_ef3 m (y0)]
  refine g_iconst (v := 1) X0 hx hby own_d1_0 rfl (pc' := 1) rfl ?_
  refine g_newarray (k := 1) (cap := 1) X0 hx hby hZ (hw _ (List.mem_of_getElem? (i := 15) rfl)) own_d1_1 rfl (by decide) (by decide) (by decide) (by decide) (pc' := 3) rfl (fun T4 h4 b4 g4 X4 E4 A4 => ?_)
  have nn5 : n0 ≤ b4 := by rw [g4]; exact Z0
  have hh6 : h0.size ≤ b4 := by rw [g4]; exact (Keep.refl h0 []).1
  have zz7 := Nat.le_trans Z0 E4.1
  have kk8 : Keep h0 h4 [] := (Keep.refl h0 []).ext E4
  refine g_dup X4 hx hby own_d1_3 rfl (pc' := 4) rfl ?_
  refine g_iconst (v := 0) X4 hx hby own_d1_4 rfl (pc' := 5) rfl ?_
  refine g_iloadN X4 hx hby own_d1_5 rfl (pc' := 6) rfl ?_
  refine g_i2b X4 hx hby own_d1_6 (pc' := 7) rfl ?_
  refine g_bastore (i := 0) X4 hx hby hZ A4 rfl (by decide) nn5 own_d1_7 (pc' := 8) rfl (fun T9 h9 sl9 X9 W9 A9 => ?_)
  have zz10 := Nat.le_trans zz7 (Nat.le_of_eq W9.size.symm)
  have kk11 : Keep h0 h9 [] := kk8.wr W9 (Or.inr hh6)
  exact g_retA X9 hx hby hret hlk rfl rfl own_d1_8 ⟨b4, rfl, kk11, hh6, own_ary1 A9 rfl, nn5⟩ (by decide) (by decide)
set_option maxRecDepth 65536 in
set_option maxHeartbeats 40000000 in
theorem own_ef12 (m : MethodId) (y0 : Addr) (y1 : Addr) (y2 : Int32)  : entryFrame m #[(.ref y0), (.ref y1), (.int y2)] 3 = mkF m 0 #[.val (.ref y0), .val (.ref y1), .val (.int y2)] [] := by first | (simp [entryFrame, mkF, argsToLocals, Value.category, maxLocals]; done) | rfl
theorem own_pn1 : plainName "java/lang/String" = true := by first | (simp [plainName, overriddenIn]; done) | decide +kernel
theorem own_d2_0 : decode jdk_42_method_151_code 0 = .ok (.aload_n 0, 1) := by decide +kernel
theorem own_d2_1 : decode jdk_42_method_151_code 1 = .ok (.invokespecial 1, 3) := by decide +kernel
theorem own_d2_4 : decode jdk_42_method_151_code 4 = .ok (.aload_n 0, 1) := by decide +kernel
theorem own_d2_5 : decode jdk_42_method_151_code 5 = .ok (.aload_n 1, 1) := by decide +kernel
theorem own_d2_6 : decode jdk_42_method_151_code 6 = .ok (.putfield 9, 3) := by decide +kernel
theorem own_d2_9 : decode jdk_42_method_151_code 9 = .ok (.aload_n 0, 1) := by decide +kernel
theorem own_d2_10 : decode jdk_42_method_151_code 10 = .ok (.iload_n 2, 1) := by decide +kernel
theorem own_d2_11 : decode jdk_42_method_151_code 11 = .ok (.putfield 15, 3) := by decide +kernel
theorem own_d2_14 : decode jdk_42_method_151_code 14 = .ok (.return_, 1) := by decide +kernel
set_option maxRecDepth 65536 in
set_option maxHeartbeats 40000000 in
theorem own_si (l : Launch) (Z : State) (a0 : Array Value) (hw : ∀ d ∈ tables_1, d.before a0 Z = true) (y0 y1 : Addr) (h0 : Heap) (n0 : Nat) (Z0 : n0 ≤ h0.size) (Ex : Exa Z h0 y0 "java/lang/String") (F1 : Fld Z h0 y0 "java/lang/String" "value" "[B" .null) (F2 : Fld Z h0 y0 "java/lang/String" "coder" "B" (.int 0)) (gn : n0 ≤ y0) :
    Ctr l Z (⟨"java/lang/String", "<init>", "([BB)V"⟩ : MethodName) jdk_42_method_151_code 3 none [] (own_room 1 0 0 13) #[(.ref y0), (.ref y1), (.int (0 : Int32))] h0 n0 0 0 (fun v h => v = none ∧ Keep h0 h [y0] ∧ Fld Z h y0 "java/lang/String" "value" "[B" (.ref y1) ∧ Fld Z h y0 "java/lang/String" "coder" "B" (.int 0)) := by
  refine Ctr.of (plainFor_of_name own_pn1) ?_
  intro p e s m below meth c T0 hx hby hml hret hlk hnm hown hZ X0
  rw [own_ef12 m (y0) (y1) ((0 : Int32))]
  refine g_aloadN X0 hx hby own_d2_0 rfl rfl (pc' := 1) rfl ?_
  refine g_initO X0 hx hby hZ (W := 0) hown (hw _ (List.mem_of_getElem? (i := 20) rfl)) (hw _ (List.mem_of_getElem? (i := 21) rfl)) (hw _ (List.mem_of_getElem? (i := 22) rfl)) (by rw [hml]; rfl) own_d2_1 (by decide) (by exact Nat.le_of_eq rfl) (by decide) (pc' := 4) rfl (fun T13 X13 => ?_)
  refine g_aloadN X13 hx hby own_d2_4 rfl rfl (pc' := 5) rfl ?_
  refine g_aloadN X13 hx hby own_d2_5 rfl rfl (pc' := 6) rfl ?_
  refine g_putF X13 hx hby hZ hown (hw _ (List.mem_of_getElem? (i := 23) rfl)) Via.refl F1 Ex (Or.inr ⟨(hw _ (List.mem_of_getElem? (i := 24) rfl)), rfl, hnm⟩) (hw _ (List.mem_of_getElem? (i := 11) rfl)) (ty := (.array .byte)) (by decide) rfl rfl gn own_d2_6 (pc' := 9) rfl (fun T14 h14 X14 W14 => ?_)
  have q15 := Ex.wr W14
  have q16 := F1.same W14
  have q17 := F2.other W14 (Or.inr (slot_ne (Or.inr (hw _ (List.mem_of_getElem? (i := 26) rfl))) (Or.inr (hw _ (List.mem_of_getElem? (i := 24) rfl))) (by decide) (t := .byte) (t' := (.array .byte)) (by decide) (by decide)))
  have zz18 := Nat.le_trans Z0 (Nat.le_of_eq W14.size.symm)
  have kk19 : Keep h0 h14 [y0] := (Keep.refl h0 [y0]).wr W14 (Or.inl (by simp))
  refine g_aloadN X14 hx hby own_d2_9 rfl rfl (pc' := 10) rfl ?_
  refine g_iloadN X14 hx hby own_d2_10 rfl (pc' := 11) rfl ?_
  refine g_putF X14 hx hby hZ hown (hw _ (List.mem_of_getElem? (i := 25) rfl)) Via.refl q17 q15 (Or.inr ⟨(hw _ (List.mem_of_getElem? (i := 26) rfl)), rfl, hnm⟩) (hw _ (List.mem_of_getElem? (i := 11) rfl)) (ty := .byte) (by decide) rfl rfl gn own_d2_11 (pc' := 14) rfl (fun T20 h20 X20 W20 => ?_)
  have q21 := q15.wr W20
  have q22 := q16.other W20 (Or.inr (slot_ne (Or.inr (hw _ (List.mem_of_getElem? (i := 24) rfl))) (Or.inr (hw _ (List.mem_of_getElem? (i := 26) rfl))) (by decide) (t := (.array .byte)) (t' := .byte) (by decide) (by decide)))
  have q23 := q17.same W20
  have zz24 := Nat.le_trans zz18 (Nat.le_of_eq W20.size.symm)
  have kk25 : Keep h0 h20 [y0] := kk19.wr W20 (Or.inl (by simp))
  exact g_ret X20 hx hby hret hlk own_d2_14 ⟨rfl, kk25, q22, q23⟩ (by decide) (by decide)
set_option maxRecDepth 65536 in
set_option maxHeartbeats 40000000 in
theorem own_ef26 (m : MethodId) (y0 : Int32)  : entryFrame m #[(.int y0)] 1 = mkF m 0 #[.val (.int y0)] [] := by first | (simp [entryFrame, mkF, argsToLocals, Value.category, maxLocals]; done) | rfl
theorem own_d3_0 : decode jdk_42_method_139_code 0 = .ok (.getstatic 38, 3) := by decide +kernel
theorem own_d3_3 : decode jdk_42_method_139_code 3 = .ok (.ifCond .eq 23, 3) := by decide +kernel
theorem own_d3_6 : decode jdk_42_method_139_code 6 = .ok (.iload_n 0, 1) := by decide +kernel
theorem own_d3_7 : decode jdk_42_method_139_code 7 = .ok (.invokestatic 1015, 3) := by decide +kernel
theorem own_pd0 : parseMethodDescriptor "(C)Z" = some ⟨[.char], (some .boolean)⟩ := by decide +kernel
theorem own_d3_10 : decode jdk_42_method_139_code 10 = .ok (.ifCond .eq 16, 3) := by decide +kernel
theorem own_d3_13 : decode jdk_42_method_139_code 13 = .ok (.new 10, 3) := by decide +kernel
theorem own_d3_16 : decode jdk_42_method_139_code 16 = .ok (.dup, 1) := by decide +kernel
theorem own_d3_17 : decode jdk_42_method_139_code 17 = .ok (.iload_n 0, 1) := by decide +kernel
theorem own_d3_18 : decode jdk_42_method_139_code 18 = .ok (.invokestatic 1018, 3) := by decide +kernel
theorem own_pd1 : parseMethodDescriptor "(C)[B" = some ⟨[.char], (some (.array .byte))⟩ := by decide +kernel
theorem own_d3_21 : decode jdk_42_method_139_code 21 = .ok (.iconst 0, 1) := by decide +kernel
theorem own_d3_22 : decode jdk_42_method_139_code 22 = .ok (.invokespecial 209, 3) := by decide +kernel
theorem own_pd2 : parseMethodDescriptor "([BB)V" = some ⟨[(.array .byte), .byte], none⟩ := by decide +kernel
theorem own_d3_25 : decode jdk_42_method_139_code 25 = .ok (.areturn, 1) := by decide +kernel
set_option maxRecDepth 65536 in
set_option maxHeartbeats 40000000 in
theorem own_vo (l : Launch) (Z : State) (a0 : Array Value) (hw : ∀ d ∈ tables_1, d.before a0 Z = true) (y0 : Int32) (h0 : Heap) (n0 : Nat) (Z0 : n0 ≤ h0.size) (hc : ¬ (255 : Int32) < y0) (cs : Int32) (Sc : Sta Z h0 "java/lang/String" "COMPACT_STRINGS" "Z" (.int cs)) (hcs : ¬ cs = 0) :
    Ctr l Z (⟨"java/lang/String", "valueOf", "(C)Ljava/lang/String;"⟩ : MethodName) jdk_42_method_139_code 1 (some (.object "java/lang/String")) [] (own_room 2 2 5 40) #[(.int y0)] h0 n0 2 5 (fun v h => ∃ b, v = some (.ref b) ∧ Keep h0 h [] ∧ Str Z h b (own_y y0)) := by
  refine Ctr.of (plainFor_of_name own_pn1) ?_
  intro p e s m below meth c T0 hx hby hml hret hlk hnm hown hZ X0
  rw [own_ef26 m (y0)]
  refine g_getS X0 hx hby hZ hown (hw _ (List.mem_of_getElem? (i := 5) rfl)) Via.refl Sc own_d3_0 (pc' := 3) rfl (fun T27 X27 => ?_)
  refine g_if_eq X27 hx hby own_d3_3 (by decide) (pc' := 26) (by decide) (pc2 := 6) rfl (fun q => absurd q hcs) (fun c3_28 => ?_)
  refine g_iloadN X27 hx hby own_d3_6 rfl (pc' := 7) rfl ?_
  refine g_callS (argsL := [(.int y0)]) (S := []) X27 hx hby hZ (y := (⟨"java/lang/StringLatin1", "canEncode", "(C)Z"⟩ : MethodName)) hown (hw _ (List.mem_of_getElem? (i := 6) rfl)) (hw _ (List.mem_of_getElem? (i := 7) rfl)) (hw _ (List.mem_of_getElem? (i := 8) rfl)) (hw _ (List.mem_of_getElem? (i := 9) rfl)) (by decide) (own_ce l Z a0 hw y0 h0 n0 hc) (by rw [hml]; rfl) (lenOf own_pd0 rfl) rfl own_d3_7 (by decide) (W := 0) (by exact Nat.le_of_eq rfl) (by decide) (by decide) (by decide) (pc' := 10) rfl (fun T29 v29 X29 hQ29 => ?_)
  obtain ⟨rfl, e29⟩ := hQ29
  rw [e29] at X29
  show Gl p e below n0 _ _ (T29.setTop (mkF m 10 #[.val (.int y0)] [(.int (1 : Int32))]))
  refine g_if_eq X29 hx hby own_d3_10 (by decide) (pc' := 26) (by decide) (pc2 := 13) rfl (fun q => absurd q (by decide)) (fun c10_30 => ?_)
  refine g_new X29 hx hby hZ hown (hw _ (List.mem_of_getElem? (i := 10) rfl)) (hw _ (List.mem_of_getElem? (i := 11) rfl)) (hw _ (List.mem_of_getElem? (i := 3) rfl)) own_d3_13 (by decide) (by decide) (pc' := 16) rfl (fun T31 h31 b31 g31 X31 E31 A31 D31 => ?_)
  have nn32 : n0 ≤ b31 := by rw [g31]; exact Z0
  have hh33 : h0.size ≤ b31 := by rw [g31]; exact (Keep.refl h0 []).1
  have q34 := Sc.ext E31
  have zz35 := Nat.le_trans Z0 E31.1
  have kk36 : Keep h0 h31 [] := (Keep.refl h0 []).ext E31
  have q37 : Fld Z h31 b31 "java/lang/String" "value" "[B" .null := D31 (Or.inr (hw _ (List.mem_of_getElem? (i := 24) rfl))) (ty := (.array .byte)) (by decide)
  have q38 : Fld Z h31 b31 "java/lang/String" "coder" "B" (.int (0 : Int32)) := D31 (Or.inr (hw _ (List.mem_of_getElem? (i := 26) rfl))) (ty := .byte) (by decide)
  refine g_dup X31 hx hby own_d3_16 rfl (pc' := 17) rfl ?_
  refine g_iloadN X31 hx hby own_d3_17 rfl (pc' := 18) rfl ?_
  refine g_callS (argsL := [(.int y0)]) (S := [(.ref b31), (.ref b31)]) X31 hx hby hZ (y := (⟨"java/lang/StringLatin1", "toBytes", "(C)[B"⟩ : MethodName)) hown (hw _ (List.mem_of_getElem? (i := 12) rfl)) (hw _ (List.mem_of_getElem? (i := 13) rfl)) (hw _ (List.mem_of_getElem? (i := 8) rfl)) (hw _ (List.mem_of_getElem? (i := 14) rfl)) (by decide) (own_tb l Z a0 hw y0 h31 n0 zz35) (by rw [hml]; rfl) (lenOf own_pd1 rfl) rfl own_d3_18 (by decide) (W := 2) (by exact Nat.le_of_eq rfl) (by decide) (by decide) (by decide) (pc' := 21) rfl (fun T39 v39 X39 hQ39 => ?_)
  obtain ⟨b39, rfl, ka39, hb39, aa39, nb39⟩ := hQ39
  have ne39_b31 : b31 ≠ b39 := Nat.ne_of_lt (Nat.lt_of_lt_of_le A31.lt hb39)
  have q40 := own_sta_keep q34 ka39 all0
  have q41 := A31.keep ka39
  have q42 := q37.keep ka39 nin0
  have q43 := q38.keep ka39 nin0
  have zz44 := Nat.le_trans zz35 ka39.1
  have kk45 : Keep h0 T39.heap [] := kk36.trans ka39 all0
  show Gl p e below n0 _ _ (T39.setTop (mkF m 21 #[.val (.int y0)] [(.ref b39), (.ref b31), (.ref b31)]))
  refine g_iconst (v := 0) X39 hx hby own_d3_21 rfl (pc' := 22) rfl ?_
  refine g_callC (argsL := [(.ref b39), (.int (0 : Int32))]) (S := [(.ref b31)]) (a := b31) X39 hx hby hZ (y := (⟨"java/lang/String", "<init>", "([BB)V"⟩ : MethodName)) rfl hown (hw _ (List.mem_of_getElem? (i := 16) rfl)) (hw _ (List.mem_of_getElem? (i := 17) rfl)) (hw _ (List.mem_of_getElem? (i := 3) rfl)) (hw _ (List.mem_of_getElem? (i := 19) rfl)) (by decide) (own_si l Z a0 hw b31 b39 T39.heap n0 zz44 q41 q42 q43 nn32) (by rw [hml]; rfl) (lenOf own_pd2 rfl) rfl own_d3_22 (by decide) (W := 1) (by exact Nat.le_of_eq rfl) (by decide) (by decide) (by decide) (pc' := 25) rfl (fun T46 v46 X46 hQ46 => ?_)
  obtain ⟨rfl, ka46, fa46, fb46⟩ := hQ46
  have q47 := own_sta_keep q40 ka46 (allS (own_plain q41) all0)
  have q48 := q41.keep ka46
  have q49 := aa39.keep ka46 (ninS (Ne.symm ne39_b31) nin0)
  have zz50 := Nat.le_trans zz44 ka46.1
  have kk51 : Keep h0 T46.heap [] := kk45.trans ka46 (allS (Or.inr hh33) all0)
  show Gl p e below n0 _ _ (T46.setTop (mkF m 25 #[.val (.int y0)] [(.ref b31)]))
  exact g_retA X46 hx hby hret hlk rfl rfl own_d3_25 ⟨b31, rfl, kk51, ⟨b39, q48, fa46, fb46, q49⟩⟩ (by decide) (by decide)
set_option maxRecDepth 65536 in
set_option maxHeartbeats 40000000 in
theorem own_ef52 (m : MethodId) (y0 : Addr)  : entryFrame m #[(.ref y0)] 1 = mkF m 0 #[.val (.ref y0)] [] := by first | (simp [entryFrame, mkF, argsToLocals, Value.category, maxLocals]; done) | rfl
theorem own_d4_0 : decode jdk_42_method_152_code 0 = .ok (.getstatic 38, 3) := by decide +kernel
theorem own_d4_3 : decode jdk_42_method_152_code 3 = .ok (.ifCond .eq 10, 3) := by decide +kernel
theorem own_d4_6 : decode jdk_42_method_152_code 6 = .ok (.aload_n 0, 1) := by decide +kernel
theorem own_d4_7 : decode jdk_42_method_152_code 7 = .ok (.getfield 15, 3) := by decide +kernel
theorem own_d4_10 : decode jdk_42_method_152_code 10 = .ok (.goto 4, 3) := by decide +kernel
theorem own_d4_14 : decode jdk_42_method_152_code 14 = .ok (.ireturn, 1) := by decide +kernel
set_option maxRecDepth 65536 in
set_option maxHeartbeats 40000000 in
theorem own_co (l : Launch) (Z : State) (a0 : Array Value) (hw : ∀ d ∈ tables_1, d.before a0 Z = true) (y0 : Addr) (h0 : Heap) (n0 : Nat) (n : Nat) (N : Int32) (f : Nat → Int32) (hN : N.toInt = (n : Int)) (P0 : Lat Z h0 y0 n f) (cs : Int32) (Sc : Sta Z h0 "java/lang/String" "COMPACT_STRINGS" "Z" (.int cs)) (hcs : ¬ cs = 0) :
    Ctr l Z (⟨"java/lang/String", "coder", "()B"⟩ : MethodName) jdk_42_method_152_code 1 (some .byte) [] (own_room 0 0 0 0) #[(.ref y0)] h0 n0 0 0 (fun v h => v = some (.int 0) ∧ h = h0) := by
  refine Ctr.of (plainFor_of_name own_pn1) ?_
  intro p e s m below meth c T0 hx hby hml hret hlk hnm hown hZ X0
  rw [own_ef52 m (y0)]
  obtain ⟨v0, LE0, LV0, LC0, LA0⟩ := P0
  refine g_getS X0 hx hby hZ hown (hw _ (List.mem_of_getElem? (i := 5) rfl)) Via.refl Sc own_d4_0 (pc' := 3) rfl (fun T53 X53 => ?_)
  refine g_if_eq X53 hx hby own_d4_3 (by decide) (pc' := 13) (by decide) (pc2 := 6) rfl (fun q => absurd q hcs) (fun c3_54 => ?_)
  refine g_aloadN X53 hx hby own_d4_6 rfl rfl (pc' := 7) rfl ?_
  refine g_getF X53 hx hby hZ hown (hw _ (List.mem_of_getElem? (i := 25) rfl)) Via.refl LC0 own_d4_7 (pc' := 10) rfl (fun T55 X55 => ?_)
  refine g_goto X55 hx hby own_d4_10 (by decide) (pc' := 14) (by decide) ?_
  exact g_retN X55 hx hby hret hlk (by simp) own_d4_14 ⟨rfl, rfl⟩ (by decide) (by decide)
set_option maxRecDepth 65536 in
set_option maxHeartbeats 40000000 in
theorem own_ef56 (m : MethodId) (y0 : Addr)  : entryFrame m #[(.ref y0)] 1 = mkF m 0 #[.val (.ref y0)] [] := by first | (simp [entryFrame, mkF, argsToLocals, Value.category, maxLocals]; done) | rfl
theorem own_d5_0 : decode jdk_42_method_154_code 0 = .ok (.getstatic 38, 3) := by decide +kernel
theorem own_d5_3 : decode jdk_42_method_154_code 3 = .ok (.ifCond .eq 14, 3) := by decide +kernel
theorem own_d5_6 : decode jdk_42_method_154_code 6 = .ok (.aload_n 0, 1) := by decide +kernel
theorem own_d5_7 : decode jdk_42_method_154_code 7 = .ok (.getfield 15, 3) := by decide +kernel
theorem own_d5_10 : decode jdk_42_method_154_code 10 = .ok (.ifCond .ne 7, 3) := by decide +kernel
theorem own_d5_13 : decode jdk_42_method_154_code 13 = .ok (.iconst 1, 1) := by decide +kernel
theorem own_d5_14 : decode jdk_42_method_154_code 14 = .ok (.goto 4, 3) := by decide +kernel
theorem own_d5_18 : decode jdk_42_method_154_code 18 = .ok (.ireturn, 1) := by decide +kernel
set_option maxRecDepth 65536 in
set_option maxHeartbeats 40000000 in
theorem own_il (l : Launch) (Z : State) (a0 : Array Value) (hw : ∀ d ∈ tables_1, d.before a0 Z = true) (y0 : Addr) (h0 : Heap) (n0 : Nat) (n : Nat) (N : Int32) (f : Nat → Int32) (hN : N.toInt = (n : Int)) (P0 : Lat Z h0 y0 n f) (cs : Int32) (Sc : Sta Z h0 "java/lang/String" "COMPACT_STRINGS" "Z" (.int cs)) (hcs : ¬ cs = 0) :
    Ctr l Z (⟨"java/lang/String", "isLatin1", "()Z"⟩ : MethodName) jdk_42_method_154_code 1 (some .boolean) [] (own_room 0 0 0 0) #[(.ref y0)] h0 n0 0 0 (fun v h => v = some (.int 1) ∧ h = h0) := by
  refine Ctr.of (plainFor_of_name own_pn1) ?_
  intro p e s m below meth c T0 hx hby hml hret hlk hnm hown hZ X0
  rw [own_ef56 m (y0)]
  obtain ⟨v0, LE0, LV0, LC0, LA0⟩ := P0
  refine g_getS X0 hx hby hZ hown (hw _ (List.mem_of_getElem? (i := 5) rfl)) Via.refl Sc own_d5_0 (pc' := 3) rfl (fun T57 X57 => ?_)
  refine g_if_eq X57 hx hby own_d5_3 (by decide) (pc' := 17) (by decide) (pc2 := 6) rfl (fun q => absurd q hcs) (fun c3_58 => ?_)
  refine g_aloadN X57 hx hby own_d5_6 rfl rfl (pc' := 7) rfl ?_
  refine g_getF X57 hx hby hZ hown (hw _ (List.mem_of_getElem? (i := 25) rfl)) Via.refl LC0 own_d5_7 (pc' := 10) rfl (fun T59 X59 => ?_)
  refine g_if_ne X59 hx hby own_d5_10 (by decide) (pc' := 17) (by decide) (pc2 := 13) rfl (fun q => absurd (by decide) q) (fun c10_60 => ?_)
  refine g_iconst (v := 1) X59 hx hby own_d5_13 rfl (pc' := 14) rfl ?_
  refine g_goto X59 hx hby own_d5_14 (by decide) (pc' := 18) (by decide) ?_
  exact g_retN X59 hx hby hret hlk (by simp) own_d5_18 ⟨rfl, rfl⟩ (by decide) (by decide)
set_option maxRecDepth 65536 in
set_option maxHeartbeats 40000000 in
theorem own_ef61 (m : MethodId) (y0 : Addr)  : entryFrame m #[(.ref y0)] 1 = mkF m 0 #[.val (.ref y0)] [] := by first | (simp [entryFrame, mkF, argsToLocals, Value.category, maxLocals]; done) | rfl
theorem own_d6_0 : decode jdk_42_method_54_code 0 = .ok (.aload_n 0, 1) := by decide +kernel
theorem own_d6_1 : decode jdk_42_method_54_code 1 = .ok (.getfield 9, 3) := by decide +kernel
theorem own_d6_4 : decode jdk_42_method_54_code 4 = .ok (.arraylength, 1) := by decide +kernel
theorem own_d6_5 : decode jdk_42_method_54_code 5 = .ok (.aload_n 0, 1) := by decide +kernel
theorem own_d6_6 : decode jdk_42_method_54_code 6 = .ok (.invokevirtual 335, 3) := by decide +kernel
theorem own_pd3 : parseMethodDescriptor "()B" = some ⟨[], (some .byte)⟩ := by decide +kernel
theorem own_d6_9 : decode jdk_42_method_54_code 9 = .ok (.ishr, 1) := by decide +kernel
theorem own_d6_10 : decode jdk_42_method_54_code 10 = .ok (.ireturn, 1) := by decide +kernel
set_option maxRecDepth 65536 in
set_option maxHeartbeats 40000000 in
theorem own_ln (l : Launch) (Z : State) (a0 : Array Value) (hw : ∀ d ∈ tables_1, d.before a0 Z = true) (y0 : Addr) (h0 : Heap) (n0 : Nat) (n : Nat) (N : Int32) (f : Nat → Int32) (hN : N.toInt = (n : Int)) (P0 : Lat Z h0 y0 n f) (cs : Int32) (Sc : Sta Z h0 "java/lang/String" "COMPACT_STRINGS" "Z" (.int cs)) (hcs : ¬ cs = 0) :
    Ctr l Z (⟨"java/lang/String", "length", "()I"⟩ : MethodName) jdk_42_method_54_code 1 (some .int) [] (own_room 1 0 0 13) #[(.ref y0)] h0 n0 0 0 (fun v h => v = some (.int N) ∧ h = h0) := by
  refine Ctr.of (plainFor_of_name own_pn1) ?_
  intro p e s m below meth c T0 hx hby hml hret hlk hnm hown hZ X0
  rw [own_ef61 m (y0)]
  obtain ⟨v0, LE0, LV0, LC0, LA0⟩ := P0
  refine g_aloadN X0 hx hby own_d6_0 rfl rfl (pc' := 1) rfl ?_
  refine g_getF X0 hx hby hZ hown (hw _ (List.mem_of_getElem? (i := 23) rfl)) Via.refl LV0 own_d6_1 (pc' := 4) rfl (fun T62 X62 => ?_)
  refine g_arraylength (n := N) X62 hx hby hZ LA0 hN own_d6_4 (pc' := 5) rfl ?_
  refine g_aloadN X62 hx hby own_d6_5 rfl rfl (pc' := 6) rfl ?_
  refine g_callV (argsL := []) (S := [(.int N)]) (a := y0) X62 hx hby hZ (y := (⟨"java/lang/String", "coder", "()B"⟩ : MethodName)) (y' := (⟨"java/lang/String", "coder", "()B"⟩ : MethodName)) hown (hw _ (List.mem_of_getElem? (i := 79) rfl)) (hw _ (List.mem_of_getElem? (i := 80) rfl)) (notFace_of_selects (args := #[]) (mvT hZ (hw _ (List.mem_of_getElem? (i := 82) rfl)))) (hw _ (List.mem_of_getElem? (i := 82) rfl)) (hw _ (List.mem_of_getElem? (i := 81) rfl)) (hw _ (List.mem_of_getElem? (i := 3) rfl)) (hw _ (List.mem_of_getElem? (i := 83) rfl)) (by decide) LE0 (own_co l Z a0 hw y0 h0 n0 n N f hN ⟨v0, LE0, LV0, LC0, LA0⟩ cs Sc hcs ) (by rw [hml]; rfl) (lenOf own_pd3 rfl) rfl own_d6_6 (by decide) (W := 1) (by exact Nat.le_of_eq rfl) (by decide) (by decide) (by decide) (pc' := 9) rfl (fun T63 v63 X63 hQ63 => ?_)
  obtain ⟨rfl, e63⟩ := hQ63
  rw [e63] at X63
  show Gl p e below n0 _ _ (T63.setTop (mkF m 9 #[.val (.ref y0)] [(.int (0 : Int32)), (.int N)]))
  refine g_ishr X63 hx hby own_d6_9 (pc' := 10) rfl ?_
  exact g_retI X63 hx hby hret hlk own_d6_10 ⟨congrArg (fun z => some (Value.int z)) (own_shr0 N), rfl⟩ (by decide) (by decide)
set_option maxRecDepth 65536 in
set_option maxHeartbeats 40000000 in
theorem own_ef64 (m : MethodId) (y0 : Addr)  : entryFrame m #[(.ref y0)] 1 = mkF m 0 #[.val (.ref y0)] [] := by first | (simp [entryFrame, mkF, argsToLocals, Value.category, maxLocals]; done) | rfl
theorem own_d7_0 : decode jdk_42_method_55_code 0 = .ok (.aload_n 0, 1) := by decide +kernel
theorem own_d7_1 : decode jdk_42_method_55_code 1 = .ok (.getfield 9, 3) := by decide +kernel
theorem own_d7_4 : decode jdk_42_method_55_code 4 = .ok (.arraylength, 1) := by decide +kernel
theorem own_d7_5 : decode jdk_42_method_55_code 5 = .ok (.ifCond .ne 7, 3) := by decide +kernel
theorem own_d7_12 : decode jdk_42_method_55_code 12 = .ok (.iconst 0, 1) := by decide +kernel
theorem own_d7_13 : decode jdk_42_method_55_code 13 = .ok (.ireturn, 1) := by decide +kernel
set_option maxRecDepth 65536 in
set_option maxHeartbeats 40000000 in
theorem own_ie (l : Launch) (Z : State) (a0 : Array Value) (hw : ∀ d ∈ tables_1, d.before a0 Z = true) (y0 : Addr) (h0 : Heap) (n0 : Nat) (n : Nat) (N : Int32) (f : Nat → Int32) (hN : N.toInt = (n : Int)) (P0 : Lat Z h0 y0 n f) (cs : Int32) (Sc : Sta Z h0 "java/lang/String" "COMPACT_STRINGS" "Z" (.int cs)) (hcs : ¬ cs = 0) (hpos : ¬ N = 0) :
    Ctr l Z (⟨"java/lang/String", "isEmpty", "()Z"⟩ : MethodName) jdk_42_method_55_code 1 (some .boolean) [] (own_room 0 0 0 0) #[(.ref y0)] h0 n0 0 0 (fun v h => v = some (.int 0) ∧ h = h0) := by
  refine Ctr.of (plainFor_of_name own_pn1) ?_
  intro p e s m below meth c T0 hx hby hml hret hlk hnm hown hZ X0
  rw [own_ef64 m (y0)]
  obtain ⟨v0, LE0, LV0, LC0, LA0⟩ := P0
  refine g_aloadN X0 hx hby own_d7_0 rfl rfl (pc' := 1) rfl ?_
  refine g_getF X0 hx hby hZ hown (hw _ (List.mem_of_getElem? (i := 23) rfl)) Via.refl LV0 own_d7_1 (pc' := 4) rfl (fun T65 X65 => ?_)
  refine g_arraylength (n := N) X65 hx hby hZ LA0 hN own_d7_4 (pc' := 5) rfl ?_
  refine g_if_ne X65 hx hby own_d7_5 (by decide) (pc' := 12) (by decide) (pc2 := 8) rfl (fun c5_66 => ?_) (fun q => absurd q hpos)
  refine g_iconst (v := 0) X65 hx hby own_d7_12 rfl (pc' := 13) rfl ?_
  exact g_retN X65 hx hby hret hlk (by simp) own_d7_13 ⟨rfl, rfl⟩ (by decide) (by decide)
set_option maxRecDepth 65536 in
set_option maxHeartbeats 40000000 in
theorem own_ef67 (m : MethodId) (y0 : Int32) (y1 : Int32) (y2 : Value) (hy2 : y2.category = 1) : entryFrame m #[(.int y0), (.int y1), y2] 3 = mkF m 0 #[.val (.int y0), .val (.int y1), .val y2] [] := by
  cases y2 <;> first | (simp [Value.category] at hy2; done) | (simp [entryFrame, mkF, argsToLocals, Value.category, maxLocals]; done) | rfl
theorem own_pn2 : plainName "jdk/internal/util/Preconditions" = true := by first | (simp [plainName, overriddenIn]; done) | decide +kernel
theorem own_d8_0 : decode jdk_41_method_11_code 0 = .ok (.iload_n 0, 1) := by decide +kernel
theorem own_d8_1 : decode jdk_41_method_11_code 1 = .ok (.ifCond .lt 8, 3) := by decide +kernel
theorem own_d8_4 : decode jdk_41_method_11_code 4 = .ok (.iload_n 0, 1) := by decide +kernel
theorem own_d8_5 : decode jdk_41_method_11_code 5 = .ok (.iload_n 1, 1) := by decide +kernel
theorem own_d8_6 : decode jdk_41_method_11_code 6 = .ok (.if_icmp .lt 10, 3) := by decide +kernel
theorem own_d8_16 : decode jdk_41_method_11_code 16 = .ok (.iload_n 0, 1) := by decide +kernel
theorem own_d8_17 : decode jdk_41_method_11_code 17 = .ok (.ireturn, 1) := by decide +kernel
set_option maxRecDepth 65536 in
set_option maxHeartbeats 40000000 in
theorem own_pc (l : Launch) (Z : State) (a0 : Array Value) (hw : ∀ d ∈ tables_1, d.before a0 Z = true) (y0 y1 : Int32) (y2 : Value) (h0 : Heap) (n0 : Nat) (hy2 : y2.category = 1) (h1 : ¬ y0 < 0) (h2 : y0 < y1) :
    Ctr l Z (⟨"jdk/internal/util/Preconditions", "checkIndex", "(IILjava/util/function/BiFunction;)I"⟩ : MethodName) jdk_41_method_11_code 3 (some .int) [] (own_room 0 0 0 0) #[(.int y0), (.int y1), y2] h0 n0 0 0 (fun v h => v = some (.int y0) ∧ h = h0) := by
  refine Ctr.of (plainFor_of_name own_pn2) ?_
  intro p e s m below meth c T0 hx hby hml hret hlk hnm hown hZ X0
  rw [own_ef67 m (y0) (y1) (y2) (by assumption)]
  refine g_iloadN X0 hx hby own_d8_0 rfl (pc' := 1) rfl ?_
  refine g_if_lt X0 hx hby own_d8_1 (by decide) (pc' := 9) (by decide) (pc2 := 4) rfl (fun q => absurd q h1) (fun c1_68 => ?_)
  refine g_iloadN X0 hx hby own_d8_4 rfl (pc' := 5) rfl ?_
  refine g_iloadN X0 hx hby own_d8_5 rfl (pc' := 6) rfl ?_
  refine g_icmp_lt X0 hx hby own_d8_6 (by decide) (pc' := 16) (by decide) (pc2 := 9) rfl (fun c6_69 => ?_) (fun q => absurd h2 q)
  refine g_iloadN X0 hx hby own_d8_16 rfl (pc' := 17) rfl ?_
  exact g_retI X0 hx hby hret hlk own_d8_17 ⟨rfl, rfl⟩ (by decide) (by decide)
set_option maxRecDepth 65536 in
set_option maxHeartbeats 40000000 in
theorem own_ef70 (m : MethodId) (y0 : Int32) (y1 : Int32)  : entryFrame m #[(.int y0), (.int y1)] 2 = mkF m 0 #[.val (.int y0), .val (.int y1)] [] := by first | (simp [entryFrame, mkF, argsToLocals, Value.category, maxLocals]; done) | rfl
theorem own_d9_0 : decode jdk_42_method_155_code 0 = .ok (.iload_n 0, 1) := by decide +kernel
theorem own_d9_1 : decode jdk_42_method_155_code 1 = .ok (.iload_n 1, 1) := by decide +kernel
theorem own_d9_2 : decode jdk_42_method_155_code 2 = .ok (.getstatic 1053, 3) := by decide +kernel
theorem own_d9_5 : decode jdk_42_method_155_code 5 = .ok (.invokestatic 1059, 3) := by decide +kernel
theorem own_pd4 : parseMethodDescriptor "(IILjava/util/function/BiFunction;)I" = some ⟨[.int, .int, (.object "java/util/function/BiFunction")], (some .int)⟩ := by decide +kernel
theorem own_d9_8 : decode jdk_42_method_155_code 8 = .ok (.pop, 1) := by decide +kernel
theorem own_d9_9 : decode jdk_42_method_155_code 9 = .ok (.return_, 1) := by decide +kernel
set_option maxRecDepth 65536 in
set_option maxHeartbeats 40000000 in
theorem own_ci (l : Launch) (Z : State) (a0 : Array Value) (hw : ∀ d ∈ tables_1, d.before a0 Z = true) (y0 y1 : Int32) (h0 : Heap) (n0 : Nat) (fm : Value) (Sf : Sta Z h0 "jdk/internal/util/Preconditions" "SIOOBE_FORMATTER" "Ljava/util/function/BiFunction;" fm) (hfm : fm.isRef = true) (h1 : ¬ y0 < 0) (h2 : y0 < y1) :
    Ctr l Z (⟨"java/lang/String", "checkIndex", "(II)V"⟩ : MethodName) jdk_42_method_155_code 2 none [] (own_room 1 0 0 14) #[(.int y0), (.int y1)] h0 n0 0 0 (fun v h => v = none ∧ h = h0) := by
  refine Ctr.of (plainFor_of_name own_pn1) ?_
  intro p e s m below meth c T0 hx hby hml hret hlk hnm hown hZ X0
  rw [own_ef70 m (y0) (y1)]
  refine g_iloadN X0 hx hby own_d9_0 rfl (pc' := 1) rfl ?_
  refine g_iloadN X0 hx hby own_d9_1 rfl (pc' := 2) rfl ?_
  refine g_getS X0 hx hby hZ hown (hw _ (List.mem_of_getElem? (i := 66) rfl)) Via.refl Sf own_d9_2 (pc' := 5) rfl (fun T71 X71 => ?_)
  refine g_callS (argsL := [(.int y0), (.int y1), fm]) (S := []) X71 hx hby hZ (y := (⟨"jdk/internal/util/Preconditions", "checkIndex", "(IILjava/util/function/BiFunction;)I"⟩ : MethodName)) hown (hw _ (List.mem_of_getElem? (i := 68) rfl)) (hw _ (List.mem_of_getElem? (i := 69) rfl)) (hw _ (List.mem_of_getElem? (i := 67) rfl)) (hw _ (List.mem_of_getElem? (i := 70) rfl)) (by decide) (own_pc l Z a0 hw y0 y1 fm h0 n0 (own_cat hfm) h1 h2) (by rw [hml]; rfl) (lenOf own_pd4 rfl) rfl own_d9_5 (by decide) (W := 0) (by exact Nat.le_of_eq rfl) (by decide) (by decide) (by decide) (pc' := 8) rfl (fun T72 v72 X72 hQ72 => ?_)
  obtain ⟨rfl, e72⟩ := hQ72
  rw [e72] at X72
  show Gl p e below n0 _ _ (T72.setTop (mkF m 8 #[.val (.int y0), .val (.int y1)] [(.int y0)]))
  refine g_pop X72 hx hby own_d9_8 rfl (pc' := 9) rfl ?_
  exact g_ret X72 hx hby hret hlk own_d9_9 ⟨rfl, rfl⟩ (by decide) (by decide)
set_option maxRecDepth 65536 in
set_option maxHeartbeats 40000000 in
theorem own_ef73 (m : MethodId) (y0 : Addr) (y1 : Int32)  : entryFrame m #[(.ref y0), (.int y1)] 2 = mkF m 0 #[.val (.ref y0), .val (.int y1)] [] := by first | (simp [entryFrame, mkF, argsToLocals, Value.category, maxLocals]; done) | rfl
theorem own_d10_0 : decode jdk_43_method_2_code 0 = .ok (.iload_n 1, 1) := by decide +kernel
theorem own_d10_1 : decode jdk_43_method_2_code 1 = .ok (.aload_n 0, 1) := by decide +kernel
theorem own_d10_2 : decode jdk_43_method_2_code 2 = .ok (.arraylength, 1) := by decide +kernel
theorem own_d10_3 : decode jdk_43_method_2_code 3 = .ok (.invokestatic 9, 3) := by decide +kernel
theorem own_pd5 : parseMethodDescriptor "(II)V" = some ⟨[.int, .int], none⟩ := by decide +kernel
theorem own_d10_6 : decode jdk_43_method_2_code 6 = .ok (.aload_n 0, 1) := by decide +kernel
theorem own_d10_7 : decode jdk_43_method_2_code 7 = .ok (.iload_n 1, 1) := by decide +kernel
theorem own_d10_8 : decode jdk_43_method_2_code 8 = .ok (.baload, 1) := by decide +kernel
theorem own_d10_9 : decode jdk_43_method_2_code 9 = .ok (.sipush 255, 3) := by decide +kernel
theorem own_d10_12 : decode jdk_43_method_2_code 12 = .ok (.iand, 1) := by decide +kernel
theorem own_d10_13 : decode jdk_43_method_2_code 13 = .ok (.i2c, 1) := by decide +kernel
theorem own_d10_14 : decode jdk_43_method_2_code 14 = .ok (.ireturn, 1) := by decide +kernel
set_option maxRecDepth 65536 in
set_option maxHeartbeats 40000000 in
theorem own_la (l : Launch) (Z : State) (a0 : Array Value) (hw : ∀ d ∈ tables_1, d.before a0 Z = true) (y0 : Addr) (y1 : Int32) (h0 : Heap) (n0 : Nat) (n : Nat) (N : Int32) (f : Nat → Int32) (hN : N.toInt = (n : Int)) (LA0 : Ary Z h0 y0 .byte n (fun i => .int (f i))) (i : Nat) (hi : y1.toInt = (i : Int)) (hlt : i < n) (fm : Value) (Sf : Sta Z h0 "jdk/internal/util/Preconditions" "SIOOBE_FORMATTER" "Ljava/util/function/BiFunction;" fm) (hfm : fm.isRef = true) :
    Ctr l Z (⟨"java/lang/StringLatin1", "charAt", "([BI)C"⟩ : MethodName) jdk_43_method_2_code 2 (some .char) [] (own_room 2 0 0 28) #[(.ref y0), (.int y1)] h0 n0 0 0 (fun v h => v = some (.int (f i &&& 255)) ∧ h = h0) := by
  refine Ctr.of (plainFor_of_name own_pn0) ?_
  intro p e s m below meth c T0 hx hby hml hret hlk hnm hown hZ X0
  rw [own_ef73 m (y0) (y1)]
  refine g_iloadN X0 hx hby own_d10_0 rfl (pc' := 1) rfl ?_
  refine g_aloadN X0 hx hby own_d10_1 rfl rfl (pc' := 2) rfl ?_
  refine g_arraylength (n := N) X0 hx hby hZ LA0 hN own_d10_2 (pc' := 3) rfl ?_
  refine g_callS (argsL := [(.int y1), (.int N)]) (S := []) X0 hx hby hZ (y := (⟨"java/lang/String", "checkIndex", "(II)V"⟩ : MethodName)) hown (hw _ (List.mem_of_getElem? (i := 63) rfl)) (hw _ (List.mem_of_getElem? (i := 64) rfl)) (hw _ (List.mem_of_getElem? (i := 3) rfl)) (hw _ (List.mem_of_getElem? (i := 65) rfl)) (by decide) (own_ci l Z a0 hw y1 N h0 n0 fm Sf hfm (own_i0 hi) (own_ilt hi hN hlt)) (by rw [hml]; rfl) (lenOf own_pd5 rfl) rfl own_d10_3 (by decide) (W := 0) (by exact Nat.le_of_eq rfl) (by decide) (by decide) (by decide) (pc' := 6) rfl (fun T74 v74 X74 hQ74 => ?_)
  obtain ⟨rfl, e74⟩ := hQ74
  rw [e74] at X74
  show Gl p e below n0 _ _ (T74.setTop (mkF m 6 #[.val (.ref y0), .val (.int y1)] []))
  refine g_aloadN X74 hx hby own_d10_6 rfl rfl (pc' := 7) rfl ?_
  refine g_iloadN X74 hx hby own_d10_7 rfl (pc' := 8) rfl ?_
  refine g_baload (i := i) (v := (.int (f i))) X74 hx hby hZ LA0 hi hlt rfl own_d10_8 (pc' := 9) rfl ?_
  refine g_sipush (v := 255) X74 hx hby own_d10_9 rfl (pc' := 12) rfl ?_
  refine g_iand X74 hx hby own_d10_12 (pc' := 13) rfl ?_
  refine g_i2c X74 hx hby own_d10_13 (pc' := 14) rfl ?_
  exact g_retN X74 hx hby hret hlk (by simp) own_d10_14 ⟨congrArg (fun z => some (Value.int z)) (own_narc (f i)), rfl⟩ (by decide) (by decide)
theorem own_narc8 (x : Int32) : nar .char (x &&& 255) = x &&& 255 := i2c_mask x
set_option maxRecDepth 65536 in
set_option maxHeartbeats 40000000 in
theorem own_ef75 (m : MethodId) (y0 : Addr) (y1 : Int32)  : entryFrame m #[(.ref y0), (.int y1)] 2 = mkF m 0 #[.val (.ref y0), .val (.int y1)] [] := by first | (simp [entryFrame, mkF, argsToLocals, Value.category, maxLocals]; done) | rfl
theorem own_d11_0 : decode jdk_42_method_56_code 0 = .ok (.aload_n 0, 1) := by decide +kernel
theorem own_d11_1 : decode jdk_42_method_56_code 1 = .ok (.invokevirtual 492, 3) := by decide +kernel
theorem own_pd6 : parseMethodDescriptor "()Z" = some ⟨[], (some .boolean)⟩ := by decide +kernel
theorem own_d11_4 : decode jdk_42_method_56_code 4 = .ok (.ifCond .eq 12, 3) := by decide +kernel
theorem own_d11_7 : decode jdk_42_method_56_code 7 = .ok (.aload_n 0, 1) := by decide +kernel
theorem own_d11_8 : decode jdk_42_method_56_code 8 = .ok (.getfield 9, 3) := by decide +kernel
theorem own_d11_11 : decode jdk_42_method_56_code 11 = .ok (.iload_n 1, 1) := by decide +kernel
theorem own_d11_12 : decode jdk_42_method_56_code 12 = .ok (.invokestatic 495, 3) := by decide +kernel
theorem own_pd7 : parseMethodDescriptor "([BI)C" = some ⟨[(.array .byte), .int], (some .char)⟩ := by decide +kernel
theorem own_d11_15 : decode jdk_42_method_56_code 15 = .ok (.ireturn, 1) := by decide +kernel
set_option maxRecDepth 65536 in
set_option maxHeartbeats 40000000 in
theorem own_ca (l : Launch) (Z : State) (a0 : Array Value) (hw : ∀ d ∈ tables_1, d.before a0 Z = true) (y0 : Addr) (y1 : Int32) (h0 : Heap) (n0 : Nat) (n : Nat) (N : Int32) (f : Nat → Int32) (hN : N.toInt = (n : Int)) (P0 : Lat Z h0 y0 n f) (cs : Int32) (Sc : Sta Z h0 "java/lang/String" "COMPACT_STRINGS" "Z" (.int cs)) (hcs : ¬ cs = 0) (i : Nat) (hi : y1.toInt = (i : Int)) (hlt : i < n) (fm : Value) (Sf : Sta Z h0 "jdk/internal/util/Preconditions" "SIOOBE_FORMATTER" "Ljava/util/function/BiFunction;" fm) (hfm : fm.isRef = true) :
    Ctr l Z (⟨"java/lang/String", "charAt", "(I)C"⟩ : MethodName) jdk_42_method_56_code 2 (some .char) [] (own_room 3 0 0 42) #[(.ref y0), (.int y1)] h0 n0 0 0 (fun v h => v = some (.int (f i &&& 255)) ∧ h = h0) := by
  refine Ctr.of (plainFor_of_name own_pn1) ?_
  intro p e s m below meth c T0 hx hby hml hret hlk hnm hown hZ X0
  rw [own_ef75 m (y0) (y1)]
  obtain ⟨v0, LE0, LV0, LC0, LA0⟩ := P0
  refine g_aloadN X0 hx hby own_d11_0 rfl rfl (pc' := 1) rfl ?_
  refine g_callV (argsL := []) (S := []) (a := y0) X0 hx hby hZ (y := (⟨"java/lang/String", "isLatin1", "()Z"⟩ : MethodName)) (y' := (⟨"java/lang/String", "isLatin1", "()Z"⟩ : MethodName)) hown (hw _ (List.mem_of_getElem? (i := 55) rfl)) (hw _ (List.mem_of_getElem? (i := 56) rfl)) (notFace_of_selects (args := #[]) (mvT hZ (hw _ (List.mem_of_getElem? (i := 58) rfl)))) (hw _ (List.mem_of_getElem? (i := 58) rfl)) (hw _ (List.mem_of_getElem? (i := 57) rfl)) (hw _ (List.mem_of_getElem? (i := 3) rfl)) (hw _ (List.mem_of_getElem? (i := 59) rfl)) (by decide) LE0 (own_il l Z a0 hw y0 h0 n0 n N f hN ⟨v0, LE0, LV0, LC0, LA0⟩ cs Sc hcs ) (by rw [hml]; rfl) (lenOf own_pd6 rfl) rfl own_d11_1 (by decide) (W := 0) (by exact Nat.le_of_eq rfl) (by decide) (by decide) (by decide) (pc' := 4) rfl (fun T76 v76 X76 hQ76 => ?_)
  obtain ⟨rfl, e76⟩ := hQ76
  rw [e76] at X76
  show Gl p e below n0 _ _ (T76.setTop (mkF m 4 #[.val (.ref y0), .val (.int y1)] [(.int (1 : Int32))]))
  refine g_if_eq X76 hx hby own_d11_4 (by decide) (pc' := 16) (by decide) (pc2 := 7) rfl (fun q => absurd q (by decide)) (fun c4_77 => ?_)
  refine g_aloadN X76 hx hby own_d11_7 rfl rfl (pc' := 8) rfl ?_
  refine g_getF X76 hx hby hZ hown (hw _ (List.mem_of_getElem? (i := 23) rfl)) Via.refl LV0 own_d11_8 (pc' := 11) rfl (fun T78 X78 => ?_)
  refine g_iloadN X78 hx hby own_d11_11 rfl (pc' := 12) rfl ?_
  refine g_callS (argsL := [(.ref v0), (.int y1)]) (S := []) X78 hx hby hZ (y := (⟨"java/lang/StringLatin1", "charAt", "([BI)C"⟩ : MethodName)) hown (hw _ (List.mem_of_getElem? (i := 60) rfl)) (hw _ (List.mem_of_getElem? (i := 61) rfl)) (hw _ (List.mem_of_getElem? (i := 8) rfl)) (hw _ (List.mem_of_getElem? (i := 62) rfl)) (by decide) (own_la l Z a0 hw v0 y1 h0 n0 n N f hN LA0 i hi hlt fm Sf hfm) (by rw [hml]; rfl) (lenOf own_pd7 rfl) rfl own_d11_12 (by decide) (W := 0) (by exact Nat.le_of_eq rfl) (by decide) (by decide) (by decide) (pc' := 15) rfl (fun T79 v79 X79 hQ79 => ?_)
  obtain ⟨rfl, e79⟩ := hQ79
  rw [e79] at X79
  show Gl p e below n0 _ _ (T79.setTop (mkF m 15 #[.val (.ref y0), .val (.int y1)] [(.int (f i &&& 255))]))
  exact g_retN X79 hx hby hret hlk (by simp) own_d11_15 ⟨congrArg (fun z => some (Value.int z)) (own_narc8 (f i)), rfl⟩ (by decide) (by decide)
set_option maxRecDepth 65536 in
set_option maxHeartbeats 40000000 in
theorem own_ef80 (m : MethodId) (y0 : Addr) (y1 : Int32) (y2 : Addr) (y3 : Int32) (y4 : Int32)  : entryFrame m #[(.ref y0), (.int y1), (.ref y2), (.int y3), (.int y4)] 7 = mkF m 0 #[.val (.ref y0), .val (.int y1), .val (.ref y2), .val (.int y3), .val (.int y4), .unset, .unset] [] := by first | (simp [entryFrame, mkF, argsToLocals, Value.category, maxLocals]; done) | rfl
theorem own_pn3 : plainName "java/lang/StringUTF16" = true := by first | (simp [plainName, overriddenIn]; done) | decide +kernel
theorem own_d12_0 : decode jdk_52_method_21_code 0 = .ok (.iconst 0, 1) := by decide +kernel
theorem own_d12_1 : decode jdk_52_method_21_code 1 = .ok (.istore 5, 2) := by decide +kernel
theorem own_d12_3 : decode jdk_52_method_21_code 3 = .ok (.iload 5, 2) := by decide +kernel
theorem own_d12_5 : decode jdk_52_method_21_code 5 = .ok (.iload 4, 2) := by decide +kernel
theorem own_d12_7 : decode jdk_52_method_21_code 7 = .ok (.if_icmp .ge 37, 3) := by decide +kernel
theorem own_d12_10 : decode jdk_52_method_21_code 10 = .ok (.aload_n 0, 1) := by decide +kernel
theorem own_d12_11 : decode jdk_52_method_21_code 11 = .ok (.iload_n 1, 1) := by decide +kernel
theorem own_d12_12 : decode jdk_52_method_21_code 12 = .ok (.caload, 1) := by decide +kernel
theorem own_d12_13 : decode jdk_52_method_21_code 13 = .ok (.istore 6, 2) := by decide +kernel
theorem own_d12_15 : decode jdk_52_method_21_code 15 = .ok (.iload 6, 2) := by decide +kernel
theorem own_d12_17 : decode jdk_52_method_21_code 17 = .ok (.sipush 255, 3) := by decide +kernel
theorem own_d12_20 : decode jdk_52_method_21_code 20 = .ok (.if_icmp .le 6, 3) := by decide +kernel
theorem own_d12_26 : decode jdk_52_method_21_code 26 = .ok (.aload_n 2, 1) := by decide +kernel
theorem own_d12_27 : decode jdk_52_method_21_code 27 = .ok (.iload_n 3, 1) := by decide +kernel
theorem own_d12_28 : decode jdk_52_method_21_code 28 = .ok (.iload 6, 2) := by decide +kernel
theorem own_d12_30 : decode jdk_52_method_21_code 30 = .ok (.i2b, 1) := by decide +kernel
theorem own_d12_31 : decode jdk_52_method_21_code 31 = .ok (.bastore, 1) := by decide +kernel
theorem own_d12_32 : decode jdk_52_method_21_code 32 = .ok (.iinc 1 1, 3) := by decide +kernel
theorem own_d12_35 : decode jdk_52_method_21_code 35 = .ok (.iinc 3 1, 3) := by decide +kernel
theorem own_d12_38 : decode jdk_52_method_21_code 38 = .ok (.iinc 5 1, 3) := by decide +kernel
theorem own_d12_41 : decode jdk_52_method_21_code 41 = .ok (.goto (-38), 3) := by decide +kernel
theorem own_d12_44 : decode jdk_52_method_21_code 44 = .ok (.iload 4, 2) := by decide +kernel
theorem own_d12_46 : decode jdk_52_method_21_code 46 = .ok (.ireturn, 1) := by decide +kernel
set_option maxRecDepth 65536 in
set_option maxHeartbeats 40000000 in
theorem own_p5_2 (l : Launch) (Z : State) (a0 : Array Value) (hw : ∀ d ∈ tables_1, d.before a0 Z = true) (y0 y2 : Addr) (h0 : Heap) (n0 : Nat) (Z0 : n0 ≤ h0.size) (f : Nat → Int32) (g : Nat → Value) (hr : ∀ i, i < 2 → 0 ≤ (f i).toInt ∧ (f i).toInt ≤ 255) (LA0 : Ary Z h0 y0 .char 2 (fun i => .int (f i))) (LA2 : Ary Z h0 y2 .byte 2 g) (gn : n0 ≤ y2) :
    Ctr l Z (⟨"java/lang/StringUTF16", "compress", "([CI[BII)I"⟩ : MethodName) jdk_52_method_21_code 7 (some .int) [] (own_room 0 0 0 0) #[(.ref y0), (.int (0 : Int32)), (.ref y2), (.int (0 : Int32)), (.int (2 : Int32))] h0 n0 0 0 (fun v h => v = some (.int 2) ∧ Keep h0 h [y2] ∧ Ary Z h y2 .byte 2 (fun i => .int (own_y (f i)))) := by
  refine Ctr.of (plainFor_of_name own_pn3) ?_
  intro p e s m below meth c T0 hx hby hml hret hlk hnm hown hZ X0
  rw [own_ef80 m (y0) ((0 : Int32)) (y2) ((0 : Int32)) ((2 : Int32))]
  refine g_iconst (v := 0) X0 hx hby own_d12_0 rfl (pc' := 1) rfl ?_
  refine g_istore (L' := #[.val (.ref y0), .val (.int (0 : Int32)), .val (.ref y2), .val (.int (0 : Int32)), .val (.int (2 : Int32)), .val (.int (0 : Int32)), .unset]) X0 hx hby own_d12_1 rfl (pc' := 3) rfl ?_
  refine g_iload X0 hx hby own_d12_3 rfl (pc' := 5) rfl ?_
  refine g_iload X0 hx hby own_d12_5 rfl (pc' := 7) rfl ?_
  refine g_icmp_ge X0 hx hby own_d12_7 (by decide) (pc' := 44) (by decide) (pc2 := 10) rfl (fun q => absurd (by decide) q) (fun c7_81 => ?_)
  refine g_aloadN X0 hx hby own_d12_10 rfl rfl (pc' := 11) rfl ?_
  refine g_iloadN X0 hx hby own_d12_11 rfl (pc' := 12) rfl ?_
  refine g_caload (i := 0) (v := (.int (f 0))) X0 hx hby hZ LA0 rfl (by decide) rfl own_d12_12 (pc' := 13) rfl ?_
  refine g_istore (L' := #[.val (.ref y0), .val (.int (0 : Int32)), .val (.ref y2), .val (.int (0 : Int32)), .val (.int (2 : Int32)), .val (.int (0 : Int32)), .val (.int (f 0))]) X0 hx hby own_d12_13 rfl (pc' := 15) rfl ?_
  refine g_iload X0 hx hby own_d12_15 rfl (pc' := 17) rfl ?_
  refine g_sipush (v := 255) X0 hx hby own_d12_17 rfl (pc' := 20) rfl ?_
  refine g_icmp_le X0 hx hby own_d12_20 (by decide) (pc' := 26) (by decide) (pc2 := 23) rfl (fun c20_82 => ?_) (fun q => absurd q (own_le255 (hr 0 (by decide))))
  refine g_aloadN X0 hx hby own_d12_26 rfl rfl (pc' := 27) rfl ?_
  refine g_iloadN X0 hx hby own_d12_27 rfl (pc' := 28) rfl ?_
  refine g_iload X0 hx hby own_d12_28 rfl (pc' := 30) rfl ?_
  refine g_i2b X0 hx hby own_d12_30 (pc' := 31) rfl ?_
  refine g_bastore (i := 0) X0 hx hby hZ LA2 rfl (by decide) gn own_d12_31 (pc' := 32) rfl (fun T83 h83 sl83 X83 W83 A83 => ?_)
  have q84 := LA0.other W83 (own_ne_ty LA0 LA2 (by decide))
  have zz85 := Nat.le_trans Z0 (Nat.le_of_eq W83.size.symm)
  have kk86 : Keep h0 h83 [y2] := (Keep.refl h0 [y2]).wr W83 (Or.inl (by simp))
  refine g_iinc (y := 1) (L' := #[.val (.ref y0), .val (.int (1 : Int32)), .val (.ref y2), .val (.int (0 : Int32)), .val (.int (2 : Int32)), .val (.int (0 : Int32)), .val (.int (f 0))]) X83 hx hby own_d12_32 rfl rfl rfl (pc' := 35) rfl ?_
  refine g_iinc (y := 1) (L' := #[.val (.ref y0), .val (.int (1 : Int32)), .val (.ref y2), .val (.int (1 : Int32)), .val (.int (2 : Int32)), .val (.int (0 : Int32)), .val (.int (f 0))]) X83 hx hby own_d12_35 rfl rfl rfl (pc' := 38) rfl ?_
  refine g_iinc (y := 1) (L' := #[.val (.ref y0), .val (.int (1 : Int32)), .val (.ref y2), .val (.int (1 : Int32)), .val (.int (2 : Int32)), .val (.int (1 : Int32)), .val (.int (f 0))]) X83 hx hby own_d12_38 rfl rfl rfl (pc' := 41) rfl ?_
  refine g_goto X83 hx hby own_d12_41 (by decide) (pc' := 3) (by decide) ?_
  refine g_iload X83 hx hby own_d12_3 rfl (pc' := 5) rfl ?_
  refine g_iload X83 hx hby own_d12_5 rfl (pc' := 7) rfl ?_
  refine g_icmp_ge X83 hx hby own_d12_7 (by decide) (pc' := 44) (by decide) (pc2 := 10) rfl (fun q => absurd (by decide) q) (fun c7_87 => ?_)
  refine g_aloadN X83 hx hby own_d12_10 rfl rfl (pc' := 11) rfl ?_
  refine g_iloadN X83 hx hby own_d12_11 rfl (pc' := 12) rfl ?_
  refine g_caload (i := 1) (v := (.int (f 1))) X83 hx hby hZ q84 rfl (by decide) rfl own_d12_12 (pc' := 13) rfl ?_
  refine g_istore (L' := #[.val (.ref y0), .val (.int (1 : Int32)), .val (.ref y2), .val (.int (1 : Int32)), .val (.int (2 : Int32)), .val (.int (1 : Int32)), .val (.int (f 1))]) X83 hx hby own_d12_13 rfl (pc' := 15) rfl ?_
  refine g_iload X83 hx hby own_d12_15 rfl (pc' := 17) rfl ?_
  refine g_sipush (v := 255) X83 hx hby own_d12_17 rfl (pc' := 20) rfl ?_
  refine g_icmp_le X83 hx hby own_d12_20 (by decide) (pc' := 26) (by decide) (pc2 := 23) rfl (fun c20_88 => ?_) (fun q => absurd q (own_le255 (hr 1 (by decide))))
  refine g_aloadN X83 hx hby own_d12_26 rfl rfl (pc' := 27) rfl ?_
  refine g_iloadN X83 hx hby own_d12_27 rfl (pc' := 28) rfl ?_
  refine g_iload X83 hx hby own_d12_28 rfl (pc' := 30) rfl ?_
  refine g_i2b X83 hx hby own_d12_30 (pc' := 31) rfl ?_
  refine g_bastore (i := 1) X83 hx hby hZ A83 rfl (by decide) gn own_d12_31 (pc' := 32) rfl (fun T89 h89 sl89 X89 W89 A89 => ?_)
  have q90 := q84.other W89 (own_ne_ty LA0 LA2 (by decide))
  have zz91 := Nat.le_trans zz85 (Nat.le_of_eq W89.size.symm)
  have kk92 : Keep h0 h89 [y2] := kk86.wr W89 (Or.inl (by simp))
  refine g_iinc (y := 1) (L' := #[.val (.ref y0), .val (.int (2 : Int32)), .val (.ref y2), .val (.int (1 : Int32)), .val (.int (2 : Int32)), .val (.int (1 : Int32)), .val (.int (f 1))]) X89 hx hby own_d12_32 rfl rfl rfl (pc' := 35) rfl ?_
  refine g_iinc (y := 1) (L' := #[.val (.ref y0), .val (.int (2 : Int32)), .val (.ref y2), .val (.int (2 : Int32)), .val (.int (2 : Int32)), .val (.int (1 : Int32)), .val (.int (f 1))]) X89 hx hby own_d12_35 rfl rfl rfl (pc' := 38) rfl ?_
  refine g_iinc (y := 1) (L' := #[.val (.ref y0), .val (.int (2 : Int32)), .val (.ref y2), .val (.int (2 : Int32)), .val (.int (2 : Int32)), .val (.int (2 : Int32)), .val (.int (f 1))]) X89 hx hby own_d12_38 rfl rfl rfl (pc' := 41) rfl ?_
  refine g_goto X89 hx hby own_d12_41 (by decide) (pc' := 3) (by decide) ?_
  refine g_iload X89 hx hby own_d12_3 rfl (pc' := 5) rfl ?_
  refine g_iload X89 hx hby own_d12_5 rfl (pc' := 7) rfl ?_
  refine g_icmp_ge X89 hx hby own_d12_7 (by decide) (pc' := 44) (by decide) (pc2 := 10) rfl (fun c7_93 => ?_) (fun q => absurd q (by decide))
  refine g_iload X89 hx hby own_d12_44 rfl (pc' := 46) rfl ?_
  exact g_retI X89 hx hby hret hlk own_d12_46 ⟨rfl, kk92, A89.congr fun i hi => by
      have h8 : i = 0 ∨ i = 1 := by omega
      rcases h8 with rfl | rfl <;> rfl⟩ (by decide) (by decide)
set_option maxRecDepth 65536 in
set_option maxHeartbeats 40000000 in
theorem own_ef94 (m : MethodId) (y0 : Addr) (y1 : Int32) (y2 : Int32)  : entryFrame m #[(.ref y0), (.int y1), (.int y2)] 6 = mkF m 0 #[.val (.ref y0), .val (.int y1), .val (.int y2), .unset, .unset, .unset] [] := by first | (simp [entryFrame, mkF, argsToLocals, Value.category, maxLocals]; done) | rfl
theorem own_d13_0 : decode jdk_52_method_16_code 0 = .ok (.iload_n 2, 1) := by decide +kernel
theorem own_d13_1 : decode jdk_52_method_16_code 1 = .ok (.newarray .byte, 2) := by decide +kernel
theorem own_d13_3 : decode jdk_52_method_16_code 3 = .ok (.astore_n 3, 1) := by decide +kernel
theorem own_d13_4 : decode jdk_52_method_16_code 4 = .ok (.aload_n 0, 1) := by decide +kernel
theorem own_d13_5 : decode jdk_52_method_16_code 5 = .ok (.iload_n 1, 1) := by decide +kernel
theorem own_d13_6 : decode jdk_52_method_16_code 6 = .ok (.aload_n 3, 1) := by decide +kernel
theorem own_d13_7 : decode jdk_52_method_16_code 7 = .ok (.iconst 0, 1) := by decide +kernel
theorem own_d13_8 : decode jdk_52_method_16_code 8 = .ok (.iload_n 2, 1) := by decide +kernel
theorem own_d13_9 : decode jdk_52_method_16_code 9 = .ok (.invokestatic 115, 3) := by decide +kernel
theorem own_pd8 : parseMethodDescriptor "([CI[BII)I" = some ⟨[(.array .char), .int, (.array .byte), .int, .int], (some .int)⟩ := by decide +kernel
theorem own_d13_12 : decode jdk_52_method_16_code 12 = .ok (.istore 4, 2) := by decide +kernel
theorem own_d13_14 : decode jdk_52_method_16_code 14 = .ok (.iload 4, 2) := by decide +kernel
theorem own_d13_16 : decode jdk_52_method_16_code 16 = .ok (.iload_n 2, 1) := by decide +kernel
theorem own_d13_17 : decode jdk_52_method_16_code 17 = .ok (.if_icmp .eq 40, 3) := by decide +kernel
theorem own_d13_57 : decode jdk_52_method_16_code 57 = .ok (.aload_n 3, 1) := by decide +kernel
theorem own_d13_58 : decode jdk_52_method_16_code 58 = .ok (.areturn, 1) := by decide +kernel
set_option maxRecDepth 65536 in
set_option maxHeartbeats 40000000 in
theorem own_p3_2 (l : Launch) (Z : State) (a0 : Array Value) (hw : ∀ d ∈ tables_1, d.before a0 Z = true) (y0 : Addr) (h0 : Heap) (n0 : Nat) (Z0 : n0 ≤ h0.size) (f : Nat → Int32) (hr : ∀ i, i < 2 → 0 ≤ (f i).toInt ∧ (f i).toInt ≤ 255) (LA0 : Ary Z h0 y0 .char 2 (fun i => .int (f i))) :
    Ctr l Z (⟨"java/lang/StringUTF16", "compress", "([CII)[B"⟩ : MethodName) jdk_52_method_16_code 6 (some (.array .byte)) [] (own_room 1 1 2 18) #[(.ref y0), (.int (0 : Int32)), (.int (2 : Int32))] h0 n0 1 2 (fun v h => ∃ b, v = some (.ref b) ∧ Keep h0 h [] ∧ h0.size ≤ b ∧ n0 ≤ b ∧ Ary Z h b .byte 2 (fun i => .int (own_y (f i)))) := by
  refine Ctr.of (plainFor_of_name own_pn3) ?_
  intro p e s m below meth c T0 hx hby hml hret hlk hnm hown hZ X0
  rw [own_ef94 m (y0) ((0 : Int32)) ((2 : Int32))]
  refine g_iloadN X0 hx hby own_d13_0 rfl (pc' := 1) rfl ?_
  refine g_newarray (k := 2) (cap := 2) X0 hx hby hZ (hw _ (List.mem_of_getElem? (i := 15) rfl)) own_d13_1 rfl (by decide) (by decide) (by decide) (by decide) (pc' := 3) rfl (fun T95 h95 b95 g95 X95 E95 A95 => ?_)
  have ne96 : y0 ≠ b95 := by rw [g95]; exact Nat.ne_of_lt LA0.lt
  have nn97 : n0 ≤ b95 := by rw [g95]; exact Z0
  have hh98 : h0.size ≤ b95 := by rw [g95]; exact (Keep.refl h0 []).1
  have q99 := LA0.ext E95
  have zz100 := Nat.le_trans Z0 E95.1
  have kk101 : Keep h0 h95 [] := (Keep.refl h0 []).ext E95
  refine g_astoreN (L' := #[.val (.ref y0), .val (.int (0 : Int32)), .val (.int (2 : Int32)), .val (.ref b95), .unset, .unset]) X95 hx hby own_d13_3 rfl rfl (pc' := 4) rfl ?_
  refine g_aloadN X95 hx hby own_d13_4 rfl rfl (pc' := 5) rfl ?_
  refine g_iloadN X95 hx hby own_d13_5 rfl (pc' := 6) rfl ?_
  refine g_aloadN X95 hx hby own_d13_6 rfl rfl (pc' := 7) rfl ?_
  refine g_iconst (v := 0) X95 hx hby own_d13_7 rfl (pc' := 8) rfl ?_
  refine g_iloadN X95 hx hby own_d13_8 rfl (pc' := 9) rfl ?_
  refine g_callS (argsL := [(.ref y0), (.int (0 : Int32)), (.ref b95), (.int (0 : Int32)), (.int (2 : Int32))]) (S := []) X95 hx hby hZ (y := (⟨"java/lang/StringUTF16", "compress", "([CI[BII)I"⟩ : MethodName)) hown (hw _ (List.mem_of_getElem? (i := 112) rfl)) (hw _ (List.mem_of_getElem? (i := 113) rfl)) (hw _ (List.mem_of_getElem? (i := 110) rfl)) (hw _ (List.mem_of_getElem? (i := 114) rfl)) (by decide) (own_p5_2 l Z a0 hw y0 b95 h95 n0 zz100 f _ hr q99 A95 nn97) (by rw [hml]; rfl) (lenOf own_pd8 rfl) rfl own_d13_9 (by decide) (W := 0) (by exact Nat.le_of_eq rfl) (by decide) (by decide) (by decide) (pc' := 12) rfl (fun T102 v102 X102 hQ102 => ?_)
  obtain ⟨rfl, ka102, aa102⟩ := hQ102
  have q103 := q99.keep ka102 (ninS ne96 nin0)
  have zz104 := Nat.le_trans zz100 ka102.1
  have kk105 : Keep h0 T102.heap [] := kk101.trans ka102 (allS (Or.inr hh98) all0)
  show Gl p e below n0 _ _ (T102.setTop (mkF m 12 #[.val (.ref y0), .val (.int (0 : Int32)), .val (.int (2 : Int32)), .val (.ref b95), .unset, .unset] [(.int (2 : Int32))]))
  refine g_istore (L' := #[.val (.ref y0), .val (.int (0 : Int32)), .val (.int (2 : Int32)), .val (.ref b95), .val (.int (2 : Int32)), .unset]) X102 hx hby own_d13_12 rfl (pc' := 14) rfl ?_
  refine g_iload X102 hx hby own_d13_14 rfl (pc' := 16) rfl ?_
  refine g_iloadN X102 hx hby own_d13_16 rfl (pc' := 17) rfl ?_
  refine g_icmp_eq X102 hx hby own_d13_17 (by decide) (pc' := 57) (by decide) (pc2 := 20) rfl (fun c17_106 => ?_) (fun q => absurd (by decide) q)
  refine g_aloadN X102 hx hby own_d13_57 rfl rfl (pc' := 58) rfl ?_
  exact g_retA X102 hx hby hret hlk rfl rfl own_d13_58 ⟨b95, rfl, kk105, hh98, nn97, aa102⟩ (by decide) (by decide)
set_option maxRecDepth 65536 in
set_option maxHeartbeats 40000000 in
theorem own_ef107 (m : MethodId) (y0 : Addr) (y1 : Int32)  : entryFrame m #[(.ref y0), (.int y1)] 2 = mkF m 0 #[.val (.ref y0), .val (.int y1)] [] := by first | (simp [entryFrame, mkF, argsToLocals, Value.category, maxLocals]; done) | rfl
theorem own_d14_0 : decode jdk_52_method_15_code 0 = .ok (.iload_n 1, 1) := by decide +kernel
theorem own_d14_1 : decode jdk_52_method_15_code 1 = .ok (.aload_n 0, 1) := by decide +kernel
theorem own_d14_2 : decode jdk_52_method_15_code 2 = .ok (.arraylength, 1) := by decide +kernel
theorem own_d14_3 : decode jdk_52_method_15_code 3 = .ok (.isub, 1) := by decide +kernel
theorem own_d14_4 : decode jdk_52_method_15_code 4 = .ok (.bipush 31, 2) := by decide +kernel
theorem own_d14_6 : decode jdk_52_method_15_code 6 = .ok (.iushr, 1) := by decide +kernel
theorem own_d14_7 : decode jdk_52_method_15_code 7 = .ok (.i2b, 1) := by decide +kernel
theorem own_d14_8 : decode jdk_52_method_15_code 8 = .ok (.ireturn, 1) := by decide +kernel
set_option maxRecDepth 65536 in
set_option maxHeartbeats 40000000 in
theorem own_cl_2 (l : Launch) (Z : State) (a0 : Array Value) (hw : ∀ d ∈ tables_1, d.before a0 Z = true) (y0 : Addr) (h0 : Heap) (n0 : Nat) (f : Nat → Value) (LA0 : Ary Z h0 y0 .byte 2 f) :
    Ctr l Z (⟨"java/lang/StringUTF16", "coderFromArrayLen", "([BI)B"⟩ : MethodName) jdk_52_method_15_code 2 (some .byte) [] (own_room 0 0 0 0) #[(.ref y0), (.int (2 : Int32))] h0 n0 0 0 (fun v h => v = some (.int 0) ∧ h = h0) := by
  refine Ctr.of (plainFor_of_name own_pn3) ?_
  intro p e s m below meth c T0 hx hby hml hret hlk hnm hown hZ X0
  rw [own_ef107 m (y0) ((2 : Int32))]
  refine g_iloadN X0 hx hby own_d14_0 rfl (pc' := 1) rfl ?_
  refine g_aloadN X0 hx hby own_d14_1 rfl rfl (pc' := 2) rfl ?_
  refine g_arraylength (n := (2 : Int32)) X0 hx hby hZ LA0 rfl own_d14_2 (pc' := 3) rfl ?_
  refine g_isub X0 hx hby own_d14_3 (pc' := 4) rfl ?_
  refine g_bipush (v := 31) X0 hx hby own_d14_4 rfl (pc' := 6) rfl ?_
  refine g_iushr X0 hx hby own_d14_6 (pc' := 7) rfl ?_
  refine g_i2b X0 hx hby own_d14_7 (pc' := 8) rfl ?_
  exact g_retN X0 hx hby hret hlk (by simp) own_d14_8 ⟨congrArg (fun z => some (Value.int z)) (by decide), rfl⟩ (by decide) (by decide)
set_option maxRecDepth 65536 in
set_option maxHeartbeats 40000000 in
theorem own_ef108 (m : MethodId) (y0 : Addr) (y1 : Addr) (y2 : Int32) (y3 : Int32)  : entryFrame m #[(.ref y0), (.ref y1), (.int y2), (.int y3), .null] 6 = mkF m 0 #[.val (.ref y0), .val (.ref y1), .val (.int y2), .val (.int y3), .val .null, .unset] [] := by first | (simp [entryFrame, mkF, argsToLocals, Value.category, maxLocals]; done) | rfl
theorem own_d15_0 : decode jdk_42_method_149_code 0 = .ok (.aload_n 0, 1) := by decide +kernel
theorem own_d15_1 : decode jdk_42_method_149_code 1 = .ok (.invokespecial 1, 3) := by decide +kernel
theorem own_d15_4 : decode jdk_42_method_149_code 4 = .ok (.iload_n 3, 1) := by decide +kernel
theorem own_d15_5 : decode jdk_42_method_149_code 5 = .ok (.ifCond .ne 22, 3) := by decide +kernel
theorem own_d15_27 : decode jdk_42_method_149_code 27 = .ok (.getstatic 38, 3) := by decide +kernel
theorem own_d15_30 : decode jdk_42_method_149_code 30 = .ok (.ifCond .eq 28, 3) := by decide +kernel
theorem own_d15_33 : decode jdk_42_method_149_code 33 = .ok (.aload_n 1, 1) := by decide +kernel
theorem own_d15_34 : decode jdk_42_method_149_code 34 = .ok (.iload_n 2, 1) := by decide +kernel
theorem own_d15_35 : decode jdk_42_method_149_code 35 = .ok (.iload_n 3, 1) := by decide +kernel
theorem own_d15_36 : decode jdk_42_method_149_code 36 = .ok (.invokestatic 177, 3) := by decide +kernel
theorem own_pd9 : parseMethodDescriptor "([CII)[B" = some ⟨[(.array .char), .int, .int], (some (.array .byte))⟩ := by decide +kernel
theorem own_d15_39 : decode jdk_42_method_149_code 39 = .ok (.astore 5, 2) := by decide +kernel
theorem own_d15_41 : decode jdk_42_method_149_code 41 = .ok (.aload_n 0, 1) := by decide +kernel
theorem own_d15_42 : decode jdk_42_method_149_code 42 = .ok (.aload 5, 2) := by decide +kernel
theorem own_d15_44 : decode jdk_42_method_149_code 44 = .ok (.iload_n 3, 1) := by decide +kernel
theorem own_d15_45 : decode jdk_42_method_149_code 45 = .ok (.invokestatic 47, 3) := by decide +kernel
theorem own_pd10 : parseMethodDescriptor "([BI)B" = some ⟨[(.array .byte), .int], (some .byte)⟩ := by decide +kernel
theorem own_d15_48 : decode jdk_42_method_149_code 48 = .ok (.putfield 15, 3) := by decide +kernel
theorem own_d15_51 : decode jdk_42_method_149_code 51 = .ok (.aload_n 0, 1) := by decide +kernel
theorem own_d15_52 : decode jdk_42_method_149_code 52 = .ok (.aload 5, 2) := by decide +kernel
theorem own_d15_54 : decode jdk_42_method_149_code 54 = .ok (.putfield 9, 3) := by decide +kernel
theorem own_d15_57 : decode jdk_42_method_149_code 57 = .ok (.return_, 1) := by decide +kernel
set_option maxRecDepth 65536 in
set_option maxHeartbeats 40000000 in
theorem own_n2_2 (l : Launch) (Z : State) (a0 : Array Value) (hw : ∀ d ∈ tables_1, d.before a0 Z = true) (y0 y1 : Addr) (h0 : Heap) (n0 : Nat) (Z0 : n0 ≤ h0.size) (f : Nat → Int32) (hr : ∀ i, i < 2 → 0 ≤ (f i).toInt ∧ (f i).toInt ≤ 255) (LA1 : Ary Z h0 y1 .char 2 (fun i => .int (f i))) (Ex : Exa Z h0 y0 "java/lang/String") (F1 : Fld Z h0 y0 "java/lang/String" "value" "[B" .null) (F2 : Fld Z h0 y0 "java/lang/String" "coder" "B" (.int 0)) (gn : n0 ≤ y0) (cs : Int32) (Sc : Sta Z h0 "java/lang/String" "COMPACT_STRINGS" "Z" (.int cs)) (hcs : ¬ cs = 0) :
    Ctr l Z (⟨"java/lang/String", "<init>", "([CIILjava/lang/Void;)V"⟩ : MethodName) jdk_42_method_149_code 6 none [] (own_room 2 1 2 37) #[(.ref y0), (.ref y1), (.int (0 : Int32)), (.int (2 : Int32)), .null] h0 n0 1 2 (fun v h => v = none ∧ Keep h0 h [y0] ∧ Lat Z h y0 2 (fun i => own_y (f i))) := by
  refine Ctr.of (plainFor_of_name own_pn1) ?_
  intro p e s m below meth c T0 hx hby hml hret hlk hnm hown hZ X0
  rw [own_ef108 m (y0) (y1) ((0 : Int32)) ((2 : Int32))]
  refine g_aloadN X0 hx hby own_d15_0 rfl rfl (pc' := 1) rfl ?_
  refine g_initO X0 hx hby hZ (W := 0) hown (hw _ (List.mem_of_getElem? (i := 20) rfl)) (hw _ (List.mem_of_getElem? (i := 21) rfl)) (hw _ (List.mem_of_getElem? (i := 22) rfl)) (by rw [hml]; rfl) own_d15_1 (by decide) (by exact Nat.le_of_eq rfl) (by decide) (pc' := 4) rfl (fun T109 X109 => ?_)
  refine g_iloadN X109 hx hby own_d15_4 rfl (pc' := 5) rfl ?_
  refine g_if_ne X109 hx hby own_d15_5 (by decide) (pc' := 27) (by decide) (pc2 := 8) rfl (fun c5_110 => ?_) (fun q => absurd q (by decide))
  refine g_getS X109 hx hby hZ hown (hw _ (List.mem_of_getElem? (i := 5) rfl)) Via.refl Sc own_d15_27 (pc' := 30) rfl (fun T111 X111 => ?_)
  refine g_if_eq X111 hx hby own_d15_30 (by decide) (pc' := 58) (by decide) (pc2 := 33) rfl (fun q => absurd q hcs) (fun c30_112 => ?_)
  refine g_aloadN X111 hx hby own_d15_33 rfl rfl (pc' := 34) rfl ?_
  refine g_iloadN X111 hx hby own_d15_34 rfl (pc' := 35) rfl ?_
  refine g_iloadN X111 hx hby own_d15_35 rfl (pc' := 36) rfl ?_
  refine g_callS (argsL := [(.ref y1), (.int (0 : Int32)), (.int (2 : Int32))]) (S := []) X111 hx hby hZ (y := (⟨"java/lang/StringUTF16", "compress", "([CII)[B"⟩ : MethodName)) hown (hw _ (List.mem_of_getElem? (i := 108) rfl)) (hw _ (List.mem_of_getElem? (i := 109) rfl)) (hw _ (List.mem_of_getElem? (i := 110) rfl)) (hw _ (List.mem_of_getElem? (i := 111) rfl)) (by decide) (own_p3_2 l Z a0 hw y1 h0 n0 Z0 f hr LA1) (by rw [hml]; rfl) (lenOf own_pd9 rfl) rfl own_d15_36 (by decide) (W := 0) (by exact Nat.le_of_eq rfl) (by decide) (by decide) (by decide) (pc' := 39) rfl (fun T113 v113 X113 hQ113 => ?_)
  obtain ⟨b113, rfl, ka113, hb113, nb113, aa113⟩ := hQ113
  have ne113_y0 : y0 ≠ b113 := Nat.ne_of_lt (Nat.lt_of_lt_of_le Ex.lt hb113)
  have ne113_y1 : y1 ≠ b113 := Nat.ne_of_lt (Nat.lt_of_lt_of_le LA1.lt hb113)
  have q114 := own_sta_keep Sc ka113 all0
  have q115 := Ex.keep ka113
  have q116 := F1.keep ka113 nin0
  have q117 := F2.keep ka113 nin0
  have q118 := LA1.keep ka113 nin0
  have zz119 := Nat.le_trans Z0 ka113.1
  have kk120 : Keep h0 T113.heap [y0] := (Keep.refl h0 [y0]).trans ka113 all0
  show Gl p e below n0 _ _ (T113.setTop (mkF m 39 #[.val (.ref y0), .val (.ref y1), .val (.int (0 : Int32)), .val (.int (2 : Int32)), .val .null, .unset] [(.ref b113)]))
  refine g_astore (L' := #[.val (.ref y0), .val (.ref y1), .val (.int (0 : Int32)), .val (.int (2 : Int32)), .val .null, .val (.ref b113)]) X113 hx hby own_d15_39 rfl rfl (pc' := 41) rfl ?_
  refine g_aloadN X113 hx hby own_d15_41 rfl rfl (pc' := 42) rfl ?_
  refine g_aload X113 hx hby own_d15_42 rfl rfl (pc' := 44) rfl ?_
  refine g_iloadN X113 hx hby own_d15_44 rfl (pc' := 45) rfl ?_
  refine g_callS (argsL := [(.ref b113), (.int (2 : Int32))]) (S := [(.ref y0)]) X113 hx hby hZ (y := (⟨"java/lang/StringUTF16", "coderFromArrayLen", "([BI)B"⟩ : MethodName)) hown (hw _ (List.mem_of_getElem? (i := 115) rfl)) (hw _ (List.mem_of_getElem? (i := 116) rfl)) (hw _ (List.mem_of_getElem? (i := 110) rfl)) (hw _ (List.mem_of_getElem? (i := 117) rfl)) (by decide) (own_cl_2 l Z a0 hw b113 T113.heap n0 _ aa113) (by rw [hml]; rfl) (lenOf own_pd10 rfl) rfl own_d15_45 (by decide) (W := 1) (by exact Nat.le_of_eq rfl) (by decide) (by decide) (by decide) (pc' := 48) rfl (fun T121 v121 X121 hQ121 => ?_)
  obtain ⟨rfl, e121⟩ := hQ121
  rw [e121] at X121
  show Gl p e below n0 _ _ (T121.setTop (mkF m 48 #[.val (.ref y0), .val (.ref y1), .val (.int (0 : Int32)), .val (.int (2 : Int32)), .val .null, .val (.ref b113)] [(.int (0 : Int32)), (.ref y0)]))
  refine g_putF X121 hx hby hZ hown (hw _ (List.mem_of_getElem? (i := 25) rfl)) Via.refl q117 q115 (Or.inr ⟨(hw _ (List.mem_of_getElem? (i := 26) rfl)), rfl, hnm⟩) (hw _ (List.mem_of_getElem? (i := 11) rfl)) (ty := .byte) (by decide) rfl rfl gn own_d15_48 (pc' := 51) rfl (fun T122 h122 X122 W122 => ?_)
  have q123 := q114.wr W122
  have q124 := q115.wr W122
  have q125 := q116.other W122 (Or.inr (slot_ne (Or.inr (hw _ (List.mem_of_getElem? (i := 24) rfl))) (Or.inr (hw _ (List.mem_of_getElem? (i := 26) rfl))) (by decide) (t := (.array .byte)) (t' := .byte) (by decide) (by decide)))
  have q126 := q117.same W122
  have q127 := q118.other W122 (Ne.symm (own_ne_exa Ex (hw _ (List.mem_of_getElem? (i := 11) rfl)) LA1))
  have q128 := aa113.other W122 (Ne.symm ne113_y0)
  have zz129 := Nat.le_trans zz119 (Nat.le_of_eq W122.size.symm)
  have kk130 : Keep h0 h122 [y0] := kk120.wr W122 (Or.inl (by simp))
  refine g_aloadN X122 hx hby own_d15_51 rfl rfl (pc' := 52) rfl ?_
  refine g_aload X122 hx hby own_d15_52 rfl rfl (pc' := 54) rfl ?_
  refine g_putF X122 hx hby hZ hown (hw _ (List.mem_of_getElem? (i := 23) rfl)) Via.refl q125 q124 (Or.inr ⟨(hw _ (List.mem_of_getElem? (i := 24) rfl)), rfl, hnm⟩) (hw _ (List.mem_of_getElem? (i := 11) rfl)) (ty := (.array .byte)) (by decide) rfl rfl gn own_d15_54 (pc' := 57) rfl (fun T131 h131 X131 W131 => ?_)
  have q132 := q123.wr W131
  have q133 := q124.wr W131
  have q134 := q125.same W131
  have q135 := q126.other W131 (Or.inr (slot_ne (Or.inr (hw _ (List.mem_of_getElem? (i := 26) rfl))) (Or.inr (hw _ (List.mem_of_getElem? (i := 24) rfl))) (by decide) (t := .byte) (t' := (.array .byte)) (by decide) (by decide)))
  have q136 := q127.other W131 (Ne.symm (own_ne_exa Ex (hw _ (List.mem_of_getElem? (i := 11) rfl)) LA1))
  have q137 := q128.other W131 (Ne.symm ne113_y0)
  have zz138 := Nat.le_trans zz129 (Nat.le_of_eq W131.size.symm)
  have kk139 : Keep h0 h131 [y0] := kk130.wr W131 (Or.inl (by simp))
  exact g_ret X131 hx hby hret hlk own_d15_57 ⟨rfl, kk139, ⟨b113, q133, q134, q135, q137⟩⟩ (by decide) (by decide)
set_option maxRecDepth 65536 in
set_option maxHeartbeats 40000000 in
theorem own_ef140 (m : MethodId) (y0 : Addr) (y1 : Addr)  : entryFrame m #[(.ref y0), (.ref y1)] 2 = mkF m 0 #[.val (.ref y0), .val (.ref y1)] [] := by first | (simp [entryFrame, mkF, argsToLocals, Value.category, maxLocals]; done) | rfl
theorem own_d16_0 : decode jdk_42_method_3_code 0 = .ok (.aload_n 0, 1) := by decide +kernel
theorem own_d16_1 : decode jdk_42_method_3_code 1 = .ok (.aload_n 1, 1) := by decide +kernel
theorem own_d16_2 : decode jdk_42_method_3_code 2 = .ok (.iconst 0, 1) := by decide +kernel
theorem own_d16_3 : decode jdk_42_method_3_code 3 = .ok (.aload_n 1, 1) := by decide +kernel
theorem own_d16_4 : decode jdk_42_method_3_code 4 = .ok (.arraylength, 1) := by decide +kernel
theorem own_d16_5 : decode jdk_42_method_3_code 5 = .ok (.aconst_null, 1) := by decide +kernel
theorem own_d16_6 : decode jdk_42_method_3_code 6 = .ok (.invokespecial 27, 3) := by decide +kernel
theorem own_pd11 : parseMethodDescriptor "([CIILjava/lang/Void;)V" = some ⟨[(.array .char), .int, .int, (.object "java/lang/Void")], none⟩ := by decide +kernel
theorem own_d16_9 : decode jdk_42_method_3_code 9 = .ok (.return_, 1) := by decide +kernel
set_option maxRecDepth 65536 in
set_option maxHeartbeats 40000000 in
theorem own_n1_2 (l : Launch) (Z : State) (a0 : Array Value) (hw : ∀ d ∈ tables_1, d.before a0 Z = true) (y0 y1 : Addr) (h0 : Heap) (n0 : Nat) (Z0 : n0 ≤ h0.size) (f : Nat → Int32) (hr : ∀ i, i < 2 → 0 ≤ (f i).toInt ∧ (f i).toInt ≤ 255) (LA1 : Ary Z h0 y1 .char 2 (fun i => .int (f i))) (Ex : Exa Z h0 y0 "java/lang/String") (F1 : Fld Z h0 y0 "java/lang/String" "value" "[B" .null) (F2 : Fld Z h0 y0 "java/lang/String" "coder" "B" (.int 0)) (gn : n0 ≤ y0) (cs : Int32) (Sc : Sta Z h0 "java/lang/String" "COMPACT_STRINGS" "Z" (.int cs)) (hcs : ¬ cs = 0) :
    Ctr l Z (⟨"java/lang/String", "<init>", "([C)V"⟩ : MethodName) jdk_42_method_3_code 2 none [] (own_room 3 1 2 54) #[(.ref y0), (.ref y1)] h0 n0 1 2 (fun v h => v = none ∧ Keep h0 h [y0] ∧ Lat Z h y0 2 (fun i => own_y (f i))) := by
  refine Ctr.of (plainFor_of_name own_pn1) ?_
  intro p e s m below meth c T0 hx hby hml hret hlk hnm hown hZ X0
  rw [own_ef140 m (y0) (y1)]
  refine g_aloadN X0 hx hby own_d16_0 rfl rfl (pc' := 1) rfl ?_
  refine g_aloadN X0 hx hby own_d16_1 rfl rfl (pc' := 2) rfl ?_
  refine g_iconst (v := 0) X0 hx hby own_d16_2 rfl (pc' := 3) rfl ?_
  refine g_aloadN X0 hx hby own_d16_3 rfl rfl (pc' := 4) rfl ?_
  refine g_arraylength (n := (2 : Int32)) X0 hx hby hZ LA1 rfl own_d16_4 (pc' := 5) rfl ?_
  refine g_aconst_null X0 hx hby own_d16_5 (pc' := 6) rfl ?_
  refine g_callC (argsL := [(.ref y1), (.int (0 : Int32)), (.int (2 : Int32)), .null]) (S := []) (a := y0) X0 hx hby hZ (y := (⟨"java/lang/String", "<init>", "([CIILjava/lang/Void;)V"⟩ : MethodName)) rfl hown (hw _ (List.mem_of_getElem? (i := 105) rfl)) (hw _ (List.mem_of_getElem? (i := 106) rfl)) (hw _ (List.mem_of_getElem? (i := 3) rfl)) (hw _ (List.mem_of_getElem? (i := 107) rfl)) (by decide) (own_n2_2 l Z a0 hw y0 y1 h0 n0 Z0 f hr LA1 Ex F1 F2 gn cs Sc hcs) (by rw [hml]; rfl) (lenOf own_pd11 rfl) rfl own_d16_6 (by decide) (W := 0) (by exact Nat.le_of_eq rfl) (by decide) (by decide) (by decide) (pc' := 9) rfl (fun T141 v141 X141 hQ141 => ?_)
  obtain ⟨rfl, ka141, la141⟩ := hQ141
  have q142 := own_sta_keep Sc ka141 (allS (own_plain Ex) all0)
  have q143 := Ex.keep ka141
  have q144 := LA1.keep ka141 (ninS (Ne.symm (own_ne_exa Ex (hw _ (List.mem_of_getElem? (i := 11) rfl)) LA1)) nin0)
  have zz145 := Nat.le_trans Z0 ka141.1
  have kk146 : Keep h0 T141.heap [y0] := (Keep.refl h0 [y0]).trans ka141 (allS (Or.inl (by simp)) all0)
  show Gl p e below n0 _ _ (T141.setTop (mkF m 9 #[.val (.ref y0), .val (.ref y1)] []))
  exact g_ret X141 hx hby hret hlk own_d16_9 ⟨rfl, kk146, la141⟩ (by decide) (by decide)
set_option maxRecDepth 65536 in
set_option maxHeartbeats 40000000 in
theorem own_ef147 (m : MethodId) (y0 : Addr) (y1 : Int32)  : entryFrame m #[(.ref y0), (.int y1)] 4 = mkF m 0 #[.val (.ref y0), .val (.int y1), .unset, .unset] [] := by first | (simp [entryFrame, mkF, argsToLocals, Value.category, maxLocals]; done) | rfl
theorem own_pn4 : plainName "java/lang/CharacterDataLatin1" = true := by first | (simp [plainName, overriddenIn]; done) | decide +kernel
theorem own_d17_0 : decode jdk_116_method_1_code 0 = .ok (.iload_n 1, 1) := by decide +kernel
theorem own_d17_1 : decode jdk_116_method_1_code 1 = .ok (.i2c, 1) := by decide +kernel
theorem own_d17_2 : decode jdk_116_method_1_code 2 = .ok (.istore_n 2, 1) := by decide +kernel
theorem own_d17_3 : decode jdk_116_method_1_code 3 = .ok (.getstatic 1, 3) := by decide +kernel
theorem own_d17_6 : decode jdk_116_method_1_code 6 = .ok (.iload_n 2, 1) := by decide +kernel
theorem own_d17_7 : decode jdk_116_method_1_code 7 = .ok (.iaload, 1) := by decide +kernel
theorem own_d17_8 : decode jdk_116_method_1_code 8 = .ok (.istore_n 3, 1) := by decide +kernel
theorem own_d17_9 : decode jdk_116_method_1_code 9 = .ok (.iload_n 3, 1) := by decide +kernel
theorem own_d17_10 : decode jdk_116_method_1_code 10 = .ok (.ireturn, 1) := by decide +kernel
set_option maxRecDepth 65536 in
set_option maxHeartbeats 40000000 in
theorem own_gp (l : Launch) (Z : State) (a0 : Array Value) (hw : ∀ d ∈ tables_1, d.before a0 Z = true) (y0 : Addr) (y1 : Int32) (h0 : Heap) (n0 : Nat) (hp : Prt y1) (z : Int32) (ci aa : Addr) (na : Nat) (g : Nat → Value) (Si : Sta Z h0 "java/lang/CharacterDataLatin1" "instance" "Ljava/lang/CharacterDataLatin1;" (.ref ci)) (Ei : Exa Z h0 ci "java/lang/CharacterDataLatin1") (Sa : Sta Z h0 "java/lang/CharacterDataLatin1" "A" "[I" (.ref aa)) (Aa : Ary Z h0 aa .int na g) (hA : (∀ i, 33 ≤ i → i < 127 → i < na ∧ ∃ z : Int32, g i = .int z ∧ ¬ (z &&& (28672 : Int32)) = 16384)) (hlt : y1.toInt.toNat < na) (hz : g y1.toInt.toNat = .int z) :
    Ctr l Z (⟨"java/lang/CharacterDataLatin1", "getProperties", "(I)I"⟩ : MethodName) jdk_116_method_1_code 4 (some .int) [] (own_room 0 0 0 0) #[(.ref y0), (.int y1)] h0 n0 0 0 (fun v h => v = some (.int z) ∧ h = h0) := by
  refine Ctr.of (plainFor_of_name own_pn4) ?_
  intro p e s m below meth c T0 hx hby hml hret hlk hnm hown hZ X0
  rw [own_ef147 m (y0) (y1)]
  refine g_iloadN X0 hx hby own_d17_0 rfl (pc' := 1) rfl ?_
  refine g_i2c X0 hx hby own_d17_1 (pc' := 2) rfl ?_
  rw [own_i2c ⟨by have := hp.1; omega, by have := hp.2; omega⟩]
  refine g_istoreN (L' := #[.val (.ref y0), .val (.int y1), .val (.int y1), .unset]) X0 hx hby own_d17_2 rfl (pc' := 3) rfl ?_
  refine g_getS X0 hx hby hZ hown (hw _ (List.mem_of_getElem? (i := 153) rfl)) Via.refl Sa own_d17_3 (pc' := 6) rfl (fun T148 X148 => ?_)
  refine g_iloadN X148 hx hby own_d17_6 rfl (pc' := 7) rfl ?_
  refine g_iaload (i := y1.toInt.toNat) (v := (.int z)) X148 hx hby hZ Aa (by have := hp.1; omega) hlt hz own_d17_7 (pc' := 8) rfl ?_
  refine g_istoreN (L' := #[.val (.ref y0), .val (.int y1), .val (.int y1), .val (.int z)]) X148 hx hby own_d17_8 rfl (pc' := 9) rfl ?_
  refine g_iloadN X148 hx hby own_d17_9 rfl (pc' := 10) rfl ?_
  exact g_retI X148 hx hby hret hlk own_d17_10 ⟨rfl, rfl⟩ (by decide) (by decide)
set_option maxRecDepth 65536 in
set_option maxHeartbeats 40000000 in
theorem own_ef149 (m : MethodId) (y0 : Addr) (y1 : Int32)  : entryFrame m #[(.ref y0), (.int y1)] 3 = mkF m 0 #[.val (.ref y0), .val (.int y1), .unset] [] := by first | (simp [entryFrame, mkF, argsToLocals, Value.category, maxLocals]; done) | rfl
theorem own_d18_0 : decode jdk_116_method_26_code 0 = .ok (.aload_n 0, 1) := by decide +kernel
theorem own_d18_1 : decode jdk_116_method_26_code 1 = .ok (.iload_n 1, 1) := by decide +kernel
theorem own_d18_2 : decode jdk_116_method_26_code 2 = .ok (.invokevirtual 15, 3) := by decide +kernel
theorem own_pd12 : parseMethodDescriptor "(I)I" = some ⟨[.int], (some .int)⟩ := by decide +kernel
theorem own_d18_5 : decode jdk_116_method_26_code 5 = .ok (.istore_n 2, 1) := by decide +kernel
theorem own_d18_6 : decode jdk_116_method_26_code 6 = .ok (.iload_n 2, 1) := by decide +kernel
theorem own_d18_7 : decode jdk_116_method_26_code 7 = .ok (.sipush 28672, 3) := by decide +kernel
theorem own_d18_10 : decode jdk_116_method_26_code 10 = .ok (.iand, 1) := by decide +kernel
theorem own_d18_11 : decode jdk_116_method_26_code 11 = .ok (.sipush 16384, 3) := by decide +kernel
theorem own_d18_14 : decode jdk_116_method_26_code 14 = .ok (.if_icmp .ne 7, 3) := by decide +kernel
theorem own_d18_21 : decode jdk_116_method_26_code 21 = .ok (.iconst 0, 1) := by decide +kernel
theorem own_d18_22 : decode jdk_116_method_26_code 22 = .ok (.ireturn, 1) := by decide +kernel
set_option maxRecDepth 65536 in
set_option maxHeartbeats 40000000 in
theorem own_ws (l : Launch) (Z : State) (a0 : Array Value) (hw : ∀ d ∈ tables_1, d.before a0 Z = true) (y0 : Addr) (y1 : Int32) (h0 : Heap) (n0 : Nat) (hp : Prt y1) (E0 : Exa Z h0 y0 "java/lang/CharacterDataLatin1") (ci aa : Addr) (na : Nat) (g : Nat → Value) (Si : Sta Z h0 "java/lang/CharacterDataLatin1" "instance" "Ljava/lang/CharacterDataLatin1;" (.ref ci)) (Ei : Exa Z h0 ci "java/lang/CharacterDataLatin1") (Sa : Sta Z h0 "java/lang/CharacterDataLatin1" "A" "[I" (.ref aa)) (Aa : Ary Z h0 aa .int na g) (hA : (∀ i, 33 ≤ i → i < 127 → i < na ∧ ∃ z : Int32, g i = .int z ∧ ¬ (z &&& (28672 : Int32)) = 16384)) :
    Ctr l Z (⟨"java/lang/CharacterDataLatin1", "isWhitespace", "(I)Z"⟩ : MethodName) jdk_116_method_26_code 3 (some .boolean) [] (own_room 1 0 0 15) #[(.ref y0), (.int y1)] h0 n0 0 0 (fun v h => v = some (.int 0) ∧ h = h0) := by
  refine Ctr.of (plainFor_of_name own_pn4) ?_
  intro p e s m below meth c T0 hx hby hml hret hlk hnm hown hZ X0
  rw [own_ef149 m (y0) (y1)]
  obtain ⟨hlt, z, hz, hnz⟩ := hA y1.toInt.toNat (by have := hp.1; omega) (by have := hp.2; omega)
  refine g_aloadN X0 hx hby own_d18_0 rfl rfl (pc' := 1) rfl ?_
  refine g_iloadN X0 hx hby own_d18_1 rfl (pc' := 2) rfl ?_
  refine g_callV (argsL := [(.int y1)]) (S := []) (a := y0) X0 hx hby hZ (y := (⟨"java/lang/CharacterDataLatin1", "getProperties", "(I)I"⟩ : MethodName)) (y' := (⟨"java/lang/CharacterDataLatin1", "getProperties", "(I)I"⟩ : MethodName)) hown (hw _ (List.mem_of_getElem? (i := 148) rfl)) (hw _ (List.mem_of_getElem? (i := 149) rfl)) (notFace_of_selects (args := #[]) (mvT hZ (hw _ (List.mem_of_getElem? (i := 151) rfl)))) (hw _ (List.mem_of_getElem? (i := 151) rfl)) (hw _ (List.mem_of_getElem? (i := 150) rfl)) (hw _ (List.mem_of_getElem? (i := 142) rfl)) (hw _ (List.mem_of_getElem? (i := 152) rfl)) (by decide) E0 (own_gp l Z a0 hw y0 y1 h0 n0 hp z ci aa na g Si Ei Sa Aa hA hlt hz) (by rw [hml]; rfl) (lenOf own_pd12 rfl) rfl own_d18_2 (by decide) (W := 0) (by exact Nat.le_of_eq rfl) (by decide) (by decide) (by decide) (pc' := 5) rfl (fun T150 v150 X150 hQ150 => ?_)
  obtain ⟨rfl, e150⟩ := hQ150
  rw [e150] at X150
  show Gl p e below n0 _ _ (T150.setTop (mkF m 5 #[.val (.ref y0), .val (.int y1), .unset] [(.int z)]))
  refine g_istoreN (L' := #[.val (.ref y0), .val (.int y1), .val (.int z)]) X150 hx hby own_d18_5 rfl (pc' := 6) rfl ?_
  refine g_iloadN X150 hx hby own_d18_6 rfl (pc' := 7) rfl ?_
  refine g_sipush (v := 28672) X150 hx hby own_d18_7 rfl (pc' := 10) rfl ?_
  refine g_iand X150 hx hby own_d18_10 (pc' := 11) rfl ?_
  refine g_sipush (v := 16384) X150 hx hby own_d18_11 rfl (pc' := 14) rfl ?_
  refine g_icmp_ne X150 hx hby own_d18_14 (by decide) (pc' := 21) (by decide) (pc2 := 17) rfl (fun c14_151 => ?_) (fun q => absurd q hnz)
  refine g_iconst (v := 0) X150 hx hby own_d18_21 rfl (pc' := 22) rfl ?_
  exact g_retN X150 hx hby hret hlk (by simp) own_d18_22 ⟨rfl, rfl⟩ (by decide) (by decide)
set_option maxRecDepth 65536 in
set_option maxHeartbeats 40000000 in
theorem own_ef152 (m : MethodId) (y0 : Addr) (y1 : Int32)  : entryFrame m #[(.ref y0), (.int y1)] 2 = mkF m 0 #[.val (.ref y0), .val (.int y1)] [] := by first | (simp [entryFrame, mkF, argsToLocals, Value.category, maxLocals]; done) | rfl
theorem own_d19_0 : decode jdk_43_method_44_code 0 = .ok (.aload_n 0, 1) := by decide +kernel
theorem own_d19_1 : decode jdk_43_method_44_code 1 = .ok (.iload_n 1, 1) := by decide +kernel
theorem own_d19_2 : decode jdk_43_method_44_code 2 = .ok (.baload, 1) := by decide +kernel
theorem own_d19_3 : decode jdk_43_method_44_code 3 = .ok (.sipush 255, 3) := by decide +kernel
theorem own_d19_6 : decode jdk_43_method_44_code 6 = .ok (.iand, 1) := by decide +kernel
theorem own_d19_7 : decode jdk_43_method_44_code 7 = .ok (.i2c, 1) := by decide +kernel
theorem own_d19_8 : decode jdk_43_method_44_code 8 = .ok (.ireturn, 1) := by decide +kernel
set_option maxRecDepth 65536 in
set_option maxHeartbeats 40000000 in
theorem own_gc (l : Launch) (Z : State) (a0 : Array Value) (hw : ∀ d ∈ tables_1, d.before a0 Z = true) (y0 : Addr) (y1 : Int32) (h0 : Heap) (n0 : Nat) (n : Nat) (N : Int32) (f : Nat → Int32) (hN : N.toInt = (n : Int)) (LA0 : Ary Z h0 y0 .byte n (fun i => .int (f i))) (hpr : ∀ i, i < n → Prt (f i)) (hn1 : 1 ≤ n) (i : Nat) (hi : y1.toInt = (i : Int)) (hlt : i < n) :
    Ctr l Z (⟨"java/lang/StringLatin1", "getChar", "([BI)C"⟩ : MethodName) jdk_43_method_44_code 2 (some .char) [] (own_room 0 0 0 0) #[(.ref y0), (.int y1)] h0 n0 0 0 (fun v h => v = some (.int (f i)) ∧ h = h0) := by
  refine Ctr.of (plainFor_of_name own_pn0) ?_
  intro p e s m below meth c T0 hx hby hml hret hlk hnm hown hZ X0
  rw [own_ef152 m (y0) (y1)]
  refine g_aloadN X0 hx hby own_d19_0 rfl rfl (pc' := 1) rfl ?_
  refine g_iloadN X0 hx hby own_d19_1 rfl (pc' := 2) rfl ?_
  refine g_baload (i := i) (v := (.int (f i))) X0 hx hby hZ LA0 hi hlt rfl own_d19_2 (pc' := 3) rfl ?_
  refine g_sipush (v := 255) X0 hx hby own_d19_3 rfl (pc' := 6) rfl ?_
  refine g_iand X0 hx hby own_d19_6 (pc' := 7) rfl ?_
  refine g_i2c X0 hx hby own_d19_7 (pc' := 8) rfl ?_
  exact g_retN X0 hx hby hret hlk (by simp) own_d19_8 ⟨congrArg (fun z => some (Value.int z)) ((own_narc (f i)).trans (Prt.and _ (hpr i hlt))), rfl⟩ (by decide) (by decide)
set_option maxRecDepth 65536 in
set_option maxHeartbeats 40000000 in
theorem own_ef153 (m : MethodId) (y0 : Addr)  : entryFrame m #[(.ref y0)] 4 = mkF m 0 #[.val (.ref y0), .unset, .unset, .unset] [] := by first | (simp [entryFrame, mkF, argsToLocals, Value.category, maxLocals]; done) | rfl
theorem own_d20_0 : decode jdk_43_method_37_code 0 = .ok (.aload_n 0, 1) := by decide +kernel
theorem own_d20_1 : decode jdk_43_method_37_code 1 = .ok (.arraylength, 1) := by decide +kernel
theorem own_d20_2 : decode jdk_43_method_37_code 2 = .ok (.istore_n 1, 1) := by decide +kernel
theorem own_d20_3 : decode jdk_43_method_37_code 3 = .ok (.iconst 0, 1) := by decide +kernel
theorem own_d20_4 : decode jdk_43_method_37_code 4 = .ok (.istore_n 2, 1) := by decide +kernel
theorem own_d20_5 : decode jdk_43_method_37_code 5 = .ok (.iload_n 2, 1) := by decide +kernel
theorem own_d20_6 : decode jdk_43_method_37_code 6 = .ok (.iload_n 1, 1) := by decide +kernel
theorem own_d20_7 : decode jdk_43_method_37_code 7 = .ok (.if_icmp .ge 40, 3) := by decide +kernel
theorem own_d20_10 : decode jdk_43_method_37_code 10 = .ok (.aload_n 0, 1) := by decide +kernel
theorem own_d20_11 : decode jdk_43_method_37_code 11 = .ok (.iload_n 2, 1) := by decide +kernel
theorem own_d20_12 : decode jdk_43_method_37_code 12 = .ok (.invokestatic 50, 3) := by decide +kernel
theorem own_d20_15 : decode jdk_43_method_37_code 15 = .ok (.istore_n 3, 1) := by decide +kernel
theorem own_d20_16 : decode jdk_43_method_37_code 16 = .ok (.iload_n 3, 1) := by decide +kernel
theorem own_d20_17 : decode jdk_43_method_37_code 17 = .ok (.bipush 32, 2) := by decide +kernel
theorem own_d20_19 : decode jdk_43_method_37_code 19 = .ok (.if_icmp .eq 22, 3) := by decide +kernel
theorem own_d20_22 : decode jdk_43_method_37_code 22 = .ok (.iload_n 3, 1) := by decide +kernel
theorem own_d20_23 : decode jdk_43_method_37_code 23 = .ok (.bipush 9, 2) := by decide +kernel
theorem own_d20_25 : decode jdk_43_method_37_code 25 = .ok (.if_icmp .eq 16, 3) := by decide +kernel
theorem own_d20_28 : decode jdk_43_method_37_code 28 = .ok (.getstatic 66, 3) := by decide +kernel
theorem own_d20_31 : decode jdk_43_method_37_code 31 = .ok (.iload_n 3, 1) := by decide +kernel
theorem own_d20_32 : decode jdk_43_method_37_code 32 = .ok (.invokevirtual 211, 3) := by decide +kernel
theorem own_pd13 : parseMethodDescriptor "(I)Z" = some ⟨[.int], (some .boolean)⟩ := by decide +kernel
theorem own_d20_35 : decode jdk_43_method_37_code 35 = .ok (.ifCond .ne 6, 3) := by decide +kernel
theorem own_d20_38 : decode jdk_43_method_37_code 38 = .ok (.goto 9, 3) := by decide +kernel
theorem own_d20_47 : decode jdk_43_method_37_code 47 = .ok (.iload_n 2, 1) := by decide +kernel
theorem own_d20_48 : decode jdk_43_method_37_code 48 = .ok (.ireturn, 1) := by decide +kernel
set_option maxRecDepth 65536 in
set_option maxHeartbeats 40000000 in
theorem own_in0 (l : Launch) (Z : State) (a0 : Array Value) (hw : ∀ d ∈ tables_1, d.before a0 Z = true) (y0 : Addr) (h0 : Heap) (n0 : Nat) (n : Nat) (N : Int32) (f : Nat → Int32) (hN : N.toInt = (n : Int)) (LA0 : Ary Z h0 y0 .byte n (fun i => .int (f i))) (hpr : ∀ i, i < n → Prt (f i)) (hn1 : 1 ≤ n) (ci aa : Addr) (na : Nat) (g : Nat → Value) (Si : Sta Z h0 "java/lang/CharacterDataLatin1" "instance" "Ljava/lang/CharacterDataLatin1;" (.ref ci)) (Ei : Exa Z h0 ci "java/lang/CharacterDataLatin1") (Sa : Sta Z h0 "java/lang/CharacterDataLatin1" "A" "[I" (.ref aa)) (Aa : Ary Z h0 aa .int na g) (hA : (∀ i, 33 ≤ i → i < 127 → i < na ∧ ∃ z : Int32, g i = .int z ∧ ¬ (z &&& (28672 : Int32)) = 16384)) :
    Ctr l Z (⟨"java/lang/StringLatin1", "indexOfNonWhitespace", "([B)I"⟩ : MethodName) jdk_43_method_37_code 4 (some .int) [] (own_room 2 0 0 29) #[(.ref y0)] h0 n0 0 0 (fun v h => v = some (.int 0) ∧ h = h0) := by
  refine Ctr.of (plainFor_of_name own_pn0) ?_
  intro p e s m below meth c T0 hx hby hml hret hlk hnm hown hZ X0
  rw [own_ef153 m (y0)]
  refine g_aloadN X0 hx hby own_d20_0 rfl rfl (pc' := 1) rfl ?_
  refine g_arraylength (n := N) X0 hx hby hZ LA0 hN own_d20_1 (pc' := 2) rfl ?_
  refine g_istoreN (L' := #[.val (.ref y0), .val (.int N), .unset, .unset]) X0 hx hby own_d20_2 rfl (pc' := 3) rfl ?_
  refine g_iconst (v := 0) X0 hx hby own_d20_3 rfl (pc' := 4) rfl ?_
  refine g_istoreN (L' := #[.val (.ref y0), .val (.int N), .val (.int (0 : Int32)), .unset]) X0 hx hby own_d20_4 rfl (pc' := 5) rfl ?_
  refine g_iloadN X0 hx hby own_d20_5 rfl (pc' := 6) rfl ?_
  refine g_iloadN X0 hx hby own_d20_6 rfl (pc' := 7) rfl ?_
  refine g_icmp_ge X0 hx hby own_d20_7 (by decide) (pc' := 47) (by decide) (pc2 := 10) rfl (fun q => absurd (own_lt (by rw [hN]; show (0 : Int) < _; omega)) q) (fun c7_154 => ?_)
  refine g_aloadN X0 hx hby own_d20_10 rfl rfl (pc' := 11) rfl ?_
  refine g_iloadN X0 hx hby own_d20_11 rfl (pc' := 12) rfl ?_
  refine g_callS (argsL := [(.ref y0), (.int (0 : Int32))]) (S := []) X0 hx hby hZ (y := (⟨"java/lang/StringLatin1", "getChar", "([BI)C"⟩ : MethodName)) hown (hw _ (List.mem_of_getElem? (i := 138) rfl)) (hw _ (List.mem_of_getElem? (i := 139) rfl)) (hw _ (List.mem_of_getElem? (i := 8) rfl)) (hw _ (List.mem_of_getElem? (i := 140) rfl)) (by decide) (own_gc l Z a0 hw y0 (0 : Int32) h0 n0 n N f hN LA0 hpr hn1 0 rfl (by omega)) (by rw [hml]; rfl) (lenOf own_pd7 rfl) rfl own_d20_12 (by decide) (W := 0) (by exact Nat.le_of_eq rfl) (by decide) (by decide) (by decide) (pc' := 15) rfl (fun T155 v155 X155 hQ155 => ?_)
  obtain ⟨rfl, e155⟩ := hQ155
  rw [e155] at X155
  show Gl p e below n0 _ _ (T155.setTop (mkF m 15 #[.val (.ref y0), .val (.int N), .val (.int (0 : Int32)), .unset] [(.int (f 0))]))
  have hp := hpr 0 (by omega)
  refine g_istoreN (L' := #[.val (.ref y0), .val (.int N), .val (.int (0 : Int32)), .val (.int (f 0))]) X155 hx hby own_d20_15 rfl (pc' := 16) rfl ?_
  refine g_iloadN X155 hx hby own_d20_16 rfl (pc' := 17) rfl ?_
  refine g_bipush (v := 32) X155 hx hby own_d20_17 rfl (pc' := 19) rfl ?_
  refine g_icmp_eq X155 hx hby own_d20_19 (by decide) (pc' := 41) (by decide) (pc2 := 22) rfl (fun q => absurd q (own_nek (x := 32) rfl (by have := hp.1; omega))) (fun c19_156 => ?_)
  refine g_iloadN X155 hx hby own_d20_22 rfl (pc' := 23) rfl ?_
  refine g_bipush (v := 9) X155 hx hby own_d20_23 rfl (pc' := 25) rfl ?_
  refine g_icmp_eq X155 hx hby own_d20_25 (by decide) (pc' := 41) (by decide) (pc2 := 28) rfl (fun q => absurd q (own_nek (x := 9) rfl (by have := hp.1; omega))) (fun c25_157 => ?_)
  refine g_getS X155 hx hby hZ hown (hw _ (List.mem_of_getElem? (i := 141) rfl)) Via.refl Si own_d20_28 (pc' := 31) rfl (fun T158 X158 => ?_)
  refine g_iloadN X158 hx hby own_d20_31 rfl (pc' := 32) rfl ?_
  refine g_callV (argsL := [(.int (f 0))]) (S := []) (a := ci) X158 hx hby hZ (y := (⟨"java/lang/CharacterDataLatin1", "isWhitespace", "(I)Z"⟩ : MethodName)) (y' := (⟨"java/lang/CharacterDataLatin1", "isWhitespace", "(I)Z"⟩ : MethodName)) hown (hw _ (List.mem_of_getElem? (i := 143) rfl)) (hw _ (List.mem_of_getElem? (i := 144) rfl)) (notFace_of_selects (args := #[]) (mvT hZ (hw _ (List.mem_of_getElem? (i := 146) rfl)))) (hw _ (List.mem_of_getElem? (i := 146) rfl)) (hw _ (List.mem_of_getElem? (i := 145) rfl)) (hw _ (List.mem_of_getElem? (i := 142) rfl)) (hw _ (List.mem_of_getElem? (i := 147) rfl)) (by decide) Ei (own_ws l Z a0 hw ci (f 0) h0 n0 hp Ei ci aa na g Si Ei Sa Aa hA) (by rw [hml]; rfl) (lenOf own_pd13 rfl) rfl own_d20_32 (by decide) (W := 0) (by exact Nat.le_of_eq rfl) (by decide) (by decide) (by decide) (pc' := 35) rfl (fun T159 v159 X159 hQ159 => ?_)
  obtain ⟨rfl, e159⟩ := hQ159
  rw [e159] at X159
  show Gl p e below n0 _ _ (T159.setTop (mkF m 35 #[.val (.ref y0), .val (.int N), .val (.int (0 : Int32)), .val (.int (f 0))] [(.int (0 : Int32))]))
  refine g_if_ne X159 hx hby own_d20_35 (by decide) (pc' := 41) (by decide) (pc2 := 38) rfl (fun q => absurd (by decide) q) (fun c35_160 => ?_)
  refine g_goto X159 hx hby own_d20_38 (by decide) (pc' := 47) (by decide) ?_
  refine g_iloadN X159 hx hby own_d20_47 rfl (pc' := 48) rfl ?_
  exact g_retI X159 hx hby hret hlk own_d20_48 ⟨rfl, rfl⟩ (by decide) (by decide)
set_option maxRecDepth 65536 in
set_option maxHeartbeats 40000000 in
theorem own_ef161 (m : MethodId) (y0 : Addr)  : entryFrame m #[(.ref y0)] 4 = mkF m 0 #[.val (.ref y0), .unset, .unset, .unset] [] := by first | (simp [entryFrame, mkF, argsToLocals, Value.category, maxLocals]; done) | rfl
theorem own_d21_0 : decode jdk_43_method_38_code 0 = .ok (.aload_n 0, 1) := by decide +kernel
theorem own_d21_1 : decode jdk_43_method_38_code 1 = .ok (.arraylength, 1) := by decide +kernel
theorem own_d21_2 : decode jdk_43_method_38_code 2 = .ok (.istore_n 1, 1) := by decide +kernel
theorem own_d21_3 : decode jdk_43_method_38_code 3 = .ok (.iload_n 1, 1) := by decide +kernel
theorem own_d21_4 : decode jdk_43_method_38_code 4 = .ok (.istore_n 2, 1) := by decide +kernel
theorem own_d21_5 : decode jdk_43_method_38_code 5 = .ok (.iconst 0, 1) := by decide +kernel
theorem own_d21_6 : decode jdk_43_method_38_code 6 = .ok (.iload_n 2, 1) := by decide +kernel
theorem own_d21_7 : decode jdk_43_method_38_code 7 = .ok (.if_icmp .ge 42, 3) := by decide +kernel
theorem own_d21_10 : decode jdk_43_method_38_code 10 = .ok (.aload_n 0, 1) := by decide +kernel
theorem own_d21_11 : decode jdk_43_method_38_code 11 = .ok (.iload_n 2, 1) := by decide +kernel
theorem own_d21_12 : decode jdk_43_method_38_code 12 = .ok (.iconst 1, 1) := by decide +kernel
theorem own_d21_13 : decode jdk_43_method_38_code 13 = .ok (.isub, 1) := by decide +kernel
theorem own_d21_14 : decode jdk_43_method_38_code 14 = .ok (.invokestatic 50, 3) := by decide +kernel
theorem own_d21_17 : decode jdk_43_method_38_code 17 = .ok (.istore_n 3, 1) := by decide +kernel
theorem own_d21_18 : decode jdk_43_method_38_code 18 = .ok (.iload_n 3, 1) := by decide +kernel
theorem own_d21_19 : decode jdk_43_method_38_code 19 = .ok (.bipush 32, 2) := by decide +kernel
theorem own_d21_21 : decode jdk_43_method_38_code 21 = .ok (.if_icmp .eq 22, 3) := by decide +kernel
theorem own_d21_24 : decode jdk_43_method_38_code 24 = .ok (.iload_n 3, 1) := by decide +kernel
theorem own_d21_25 : decode jdk_43_method_38_code 25 = .ok (.bipush 9, 2) := by decide +kernel
theorem own_d21_27 : decode jdk_43_method_38_code 27 = .ok (.if_icmp .eq 16, 3) := by decide +kernel
theorem own_d21_30 : decode jdk_43_method_38_code 30 = .ok (.getstatic 66, 3) := by decide +kernel
theorem own_d21_33 : decode jdk_43_method_38_code 33 = .ok (.iload_n 3, 1) := by decide +kernel
theorem own_d21_34 : decode jdk_43_method_38_code 34 = .ok (.invokevirtual 211, 3) := by decide +kernel
theorem own_d21_37 : decode jdk_43_method_38_code 37 = .ok (.ifCond .ne 6, 3) := by decide +kernel
theorem own_d21_40 : decode jdk_43_method_38_code 40 = .ok (.goto 9, 3) := by decide +kernel
theorem own_d21_49 : decode jdk_43_method_38_code 49 = .ok (.iload_n 2, 1) := by decide +kernel
theorem own_d21_50 : decode jdk_43_method_38_code 50 = .ok (.ireturn, 1) := by decide +kernel
set_option maxRecDepth 65536 in
set_option maxHeartbeats 40000000 in
theorem own_li0 (l : Launch) (Z : State) (a0 : Array Value) (hw : ∀ d ∈ tables_1, d.before a0 Z = true) (y0 : Addr) (h0 : Heap) (n0 : Nat) (n : Nat) (N : Int32) (f : Nat → Int32) (hN : N.toInt = (n : Int)) (LA0 : Ary Z h0 y0 .byte n (fun i => .int (f i))) (hpr : ∀ i, i < n → Prt (f i)) (hn1 : 1 ≤ n) (ci aa : Addr) (na : Nat) (g : Nat → Value) (Si : Sta Z h0 "java/lang/CharacterDataLatin1" "instance" "Ljava/lang/CharacterDataLatin1;" (.ref ci)) (Ei : Exa Z h0 ci "java/lang/CharacterDataLatin1") (Sa : Sta Z h0 "java/lang/CharacterDataLatin1" "A" "[I" (.ref aa)) (Aa : Ary Z h0 aa .int na g) (hA : (∀ i, 33 ≤ i → i < 127 → i < na ∧ ∃ z : Int32, g i = .int z ∧ ¬ (z &&& (28672 : Int32)) = 16384)) :
    Ctr l Z (⟨"java/lang/StringLatin1", "lastIndexOfNonWhitespace", "([B)I"⟩ : MethodName) jdk_43_method_38_code 4 (some .int) [] (own_room 2 0 0 29) #[(.ref y0)] h0 n0 0 0 (fun v h => v = some (.int N) ∧ h = h0) := by
  refine Ctr.of (plainFor_of_name own_pn0) ?_
  intro p e s m below meth c T0 hx hby hml hret hlk hnm hown hZ X0
  rw [own_ef161 m (y0)]
  refine g_aloadN X0 hx hby own_d21_0 rfl rfl (pc' := 1) rfl ?_
  refine g_arraylength (n := N) X0 hx hby hZ LA0 hN own_d21_1 (pc' := 2) rfl ?_
  refine g_istoreN (L' := #[.val (.ref y0), .val (.int N), .unset, .unset]) X0 hx hby own_d21_2 rfl (pc' := 3) rfl ?_
  refine g_iloadN X0 hx hby own_d21_3 rfl (pc' := 4) rfl ?_
  refine g_istoreN (L' := #[.val (.ref y0), .val (.int N), .val (.int N), .unset]) X0 hx hby own_d21_4 rfl (pc' := 5) rfl ?_
  refine g_iconst (v := 0) X0 hx hby own_d21_5 rfl (pc' := 6) rfl ?_
  refine g_iloadN X0 hx hby own_d21_6 rfl (pc' := 7) rfl ?_
  refine g_icmp_ge X0 hx hby own_d21_7 (by decide) (pc' := 49) (by decide) (pc2 := 10) rfl (fun q => absurd (own_lt (by rw [hN]; show (0 : Int) < _; omega)) q) (fun c7_162 => ?_)
  refine g_aloadN X0 hx hby own_d21_10 rfl rfl (pc' := 11) rfl ?_
  refine g_iloadN X0 hx hby own_d21_11 rfl (pc' := 12) rfl ?_
  refine g_iconst (v := 1) X0 hx hby own_d21_12 rfl (pc' := 13) rfl ?_
  refine g_isub X0 hx hby own_d21_13 (pc' := 14) rfl ?_
  refine g_callS (argsL := [(.ref y0), (.int (N - (1 : Int32)))]) (S := []) X0 hx hby hZ (y := (⟨"java/lang/StringLatin1", "getChar", "([BI)C"⟩ : MethodName)) hown (hw _ (List.mem_of_getElem? (i := 138) rfl)) (hw _ (List.mem_of_getElem? (i := 139) rfl)) (hw _ (List.mem_of_getElem? (i := 8) rfl)) (hw _ (List.mem_of_getElem? (i := 140) rfl)) (by decide) (own_gc l Z a0 hw y0 (N - (1 : Int32)) h0 n0 n N f hN LA0 hpr hn1 (n - 1) (by rw [own_dec1 (by omega)]; omega) (by omega)) (by rw [hml]; rfl) (lenOf own_pd7 rfl) rfl own_d21_14 (by decide) (W := 0) (by exact Nat.le_of_eq rfl) (by decide) (by decide) (by decide) (pc' := 17) rfl (fun T163 v163 X163 hQ163 => ?_)
  obtain ⟨rfl, e163⟩ := hQ163
  rw [e163] at X163
  show Gl p e below n0 _ _ (T163.setTop (mkF m 17 #[.val (.ref y0), .val (.int N), .val (.int N), .unset] [(.int (f (n - 1)))]))
  have hp := hpr (n - 1) (by omega)
  refine g_istoreN (L' := #[.val (.ref y0), .val (.int N), .val (.int N), .val (.int (f (n - 1)))]) X163 hx hby own_d21_17 rfl (pc' := 18) rfl ?_
  refine g_iloadN X163 hx hby own_d21_18 rfl (pc' := 19) rfl ?_
  refine g_bipush (v := 32) X163 hx hby own_d21_19 rfl (pc' := 21) rfl ?_
  refine g_icmp_eq X163 hx hby own_d21_21 (by decide) (pc' := 43) (by decide) (pc2 := 24) rfl (fun q => absurd q (own_nek (x := 32) rfl (by have := hp.1; omega))) (fun c21_164 => ?_)
  refine g_iloadN X163 hx hby own_d21_24 rfl (pc' := 25) rfl ?_
  refine g_bipush (v := 9) X163 hx hby own_d21_25 rfl (pc' := 27) rfl ?_
  refine g_icmp_eq X163 hx hby own_d21_27 (by decide) (pc' := 43) (by decide) (pc2 := 30) rfl (fun q => absurd q (own_nek (x := 9) rfl (by have := hp.1; omega))) (fun c27_165 => ?_)
  refine g_getS X163 hx hby hZ hown (hw _ (List.mem_of_getElem? (i := 141) rfl)) Via.refl Si own_d21_30 (pc' := 33) rfl (fun T166 X166 => ?_)
  refine g_iloadN X166 hx hby own_d21_33 rfl (pc' := 34) rfl ?_
  refine g_callV (argsL := [(.int (f (n - 1)))]) (S := []) (a := ci) X166 hx hby hZ (y := (⟨"java/lang/CharacterDataLatin1", "isWhitespace", "(I)Z"⟩ : MethodName)) (y' := (⟨"java/lang/CharacterDataLatin1", "isWhitespace", "(I)Z"⟩ : MethodName)) hown (hw _ (List.mem_of_getElem? (i := 143) rfl)) (hw _ (List.mem_of_getElem? (i := 144) rfl)) (notFace_of_selects (args := #[]) (mvT hZ (hw _ (List.mem_of_getElem? (i := 146) rfl)))) (hw _ (List.mem_of_getElem? (i := 146) rfl)) (hw _ (List.mem_of_getElem? (i := 145) rfl)) (hw _ (List.mem_of_getElem? (i := 142) rfl)) (hw _ (List.mem_of_getElem? (i := 147) rfl)) (by decide) Ei (own_ws l Z a0 hw ci (f (n - 1)) h0 n0 hp Ei ci aa na g Si Ei Sa Aa hA) (by rw [hml]; rfl) (lenOf own_pd13 rfl) rfl own_d21_34 (by decide) (W := 0) (by exact Nat.le_of_eq rfl) (by decide) (by decide) (by decide) (pc' := 37) rfl (fun T167 v167 X167 hQ167 => ?_)
  obtain ⟨rfl, e167⟩ := hQ167
  rw [e167] at X167
  show Gl p e below n0 _ _ (T167.setTop (mkF m 37 #[.val (.ref y0), .val (.int N), .val (.int N), .val (.int (f (n - 1)))] [(.int (0 : Int32))]))
  refine g_if_ne X167 hx hby own_d21_37 (by decide) (pc' := 43) (by decide) (pc2 := 40) rfl (fun q => absurd (by decide) q) (fun c37_168 => ?_)
  refine g_goto X167 hx hby own_d21_40 (by decide) (pc' := 49) (by decide) ?_
  refine g_iloadN X167 hx hby own_d21_49 rfl (pc' := 50) rfl ?_
  exact g_retI X167 hx hby hret hlk own_d21_50 ⟨rfl, rfl⟩ (by decide) (by decide)
set_option maxRecDepth 65536 in
set_option maxHeartbeats 40000000 in
theorem own_ef169 (m : MethodId) (y0 : Addr)  : entryFrame m #[(.ref y0)] 4 = mkF m 0 #[.val (.ref y0), .unset, .unset, .unset] [] := by first | (simp [entryFrame, mkF, argsToLocals, Value.category, maxLocals]; done) | rfl
theorem own_d22_0 : decode jdk_43_method_39_code 0 = .ok (.aload_n 0, 1) := by decide +kernel
theorem own_d22_1 : decode jdk_43_method_39_code 1 = .ok (.invokestatic 214, 3) := by decide +kernel
theorem own_pd14 : parseMethodDescriptor "([B)I" = some ⟨[(.array .byte)], (some .int)⟩ := by decide +kernel
theorem own_d22_4 : decode jdk_43_method_39_code 4 = .ok (.istore_n 1, 1) := by decide +kernel
theorem own_d22_5 : decode jdk_43_method_39_code 5 = .ok (.iload_n 1, 1) := by decide +kernel
theorem own_d22_6 : decode jdk_43_method_39_code 6 = .ok (.aload_n 0, 1) := by decide +kernel
theorem own_d22_7 : decode jdk_43_method_39_code 7 = .ok (.arraylength, 1) := by decide +kernel
theorem own_d22_8 : decode jdk_43_method_39_code 8 = .ok (.if_icmp .ne 6, 3) := by decide +kernel
theorem own_d22_14 : decode jdk_43_method_39_code 14 = .ok (.aload_n 0, 1) := by decide +kernel
theorem own_d22_15 : decode jdk_43_method_39_code 15 = .ok (.invokestatic 217, 3) := by decide +kernel
theorem own_d22_18 : decode jdk_43_method_39_code 18 = .ok (.istore_n 2, 1) := by decide +kernel
theorem own_d22_19 : decode jdk_43_method_39_code 19 = .ok (.iload_n 1, 1) := by decide +kernel
theorem own_d22_20 : decode jdk_43_method_39_code 20 = .ok (.ifCond .gt 9, 3) := by decide +kernel
theorem own_d22_23 : decode jdk_43_method_39_code 23 = .ok (.iload_n 2, 1) := by decide +kernel
theorem own_d22_24 : decode jdk_43_method_39_code 24 = .ok (.aload_n 0, 1) := by decide +kernel
theorem own_d22_25 : decode jdk_43_method_39_code 25 = .ok (.arraylength, 1) := by decide +kernel
theorem own_d22_26 : decode jdk_43_method_39_code 26 = .ok (.if_icmp .ge 7, 3) := by decide +kernel
theorem own_d22_33 : decode jdk_43_method_39_code 33 = .ok (.iconst 0, 1) := by decide +kernel
theorem own_d22_34 : decode jdk_43_method_39_code 34 = .ok (.istore_n 3, 1) := by decide +kernel
theorem own_d22_35 : decode jdk_43_method_39_code 35 = .ok (.iload_n 3, 1) := by decide +kernel
theorem own_d22_36 : decode jdk_43_method_39_code 36 = .ok (.ifCond .eq 14, 3) := by decide +kernel
theorem own_d22_50 : decode jdk_43_method_39_code 50 = .ok (.aconst_null, 1) := by decide +kernel
theorem own_d22_51 : decode jdk_43_method_39_code 51 = .ok (.areturn, 1) := by decide +kernel
set_option maxRecDepth 65536 in
set_option maxHeartbeats 40000000 in
theorem own_ls (l : Launch) (Z : State) (a0 : Array Value) (hw : ∀ d ∈ tables_1, d.before a0 Z = true) (y0 : Addr) (h0 : Heap) (n0 : Nat) (n : Nat) (N : Int32) (f : Nat → Int32) (hN : N.toInt = (n : Int)) (LA0 : Ary Z h0 y0 .byte n (fun i => .int (f i))) (hpr : ∀ i, i < n → Prt (f i)) (hn1 : 1 ≤ n) (ci aa : Addr) (na : Nat) (g : Nat → Value) (Si : Sta Z h0 "java/lang/CharacterDataLatin1" "instance" "Ljava/lang/CharacterDataLatin1;" (.ref ci)) (Ei : Exa Z h0 ci "java/lang/CharacterDataLatin1") (Sa : Sta Z h0 "java/lang/CharacterDataLatin1" "A" "[I" (.ref aa)) (Aa : Ary Z h0 aa .int na g) (hA : (∀ i, 33 ≤ i → i < 127 → i < na ∧ ∃ z : Int32, g i = .int z ∧ ¬ (z &&& (28672 : Int32)) = 16384)) (hpos : ¬ N = 0) :
    Ctr l Z (⟨"java/lang/StringLatin1", "strip", "([B)Ljava/lang/String;"⟩ : MethodName) jdk_43_method_39_code 4 (some (.object "java/lang/String")) [] (own_room 3 0 0 44) #[(.ref y0)] h0 n0 0 0 (fun v h => v = some .null ∧ h = h0) := by
  refine Ctr.of (plainFor_of_name own_pn0) ?_
  intro p e s m below meth c T0 hx hby hml hret hlk hnm hown hZ X0
  rw [own_ef169 m (y0)]
  refine g_aloadN X0 hx hby own_d22_0 rfl rfl (pc' := 1) rfl ?_
  refine g_callS (argsL := [(.ref y0)]) (S := []) X0 hx hby hZ (y := (⟨"java/lang/StringLatin1", "indexOfNonWhitespace", "([B)I"⟩ : MethodName)) hown (hw _ (List.mem_of_getElem? (i := 135) rfl)) (hw _ (List.mem_of_getElem? (i := 136) rfl)) (hw _ (List.mem_of_getElem? (i := 8) rfl)) (hw _ (List.mem_of_getElem? (i := 137) rfl)) (by decide) (own_in0 l Z a0 hw y0 h0 n0 n N f hN LA0 hpr hn1 ci aa na g Si Ei Sa Aa hA) (by rw [hml]; rfl) (lenOf own_pd14 rfl) rfl own_d22_1 (by decide) (W := 0) (by exact Nat.le_of_eq rfl) (by decide) (by decide) (by decide) (pc' := 4) rfl (fun T170 v170 X170 hQ170 => ?_)
  obtain ⟨rfl, e170⟩ := hQ170
  rw [e170] at X170
  show Gl p e below n0 _ _ (T170.setTop (mkF m 4 #[.val (.ref y0), .unset, .unset, .unset] [(.int (0 : Int32))]))
  refine g_istoreN (L' := #[.val (.ref y0), .val (.int (0 : Int32)), .unset, .unset]) X170 hx hby own_d22_4 rfl (pc' := 5) rfl ?_
  refine g_iloadN X170 hx hby own_d22_5 rfl (pc' := 6) rfl ?_
  refine g_aloadN X170 hx hby own_d22_6 rfl rfl (pc' := 7) rfl ?_
  refine g_arraylength (n := N) X170 hx hby hZ LA0 hN own_d22_7 (pc' := 8) rfl ?_
  refine g_icmp_ne X170 hx hby own_d22_8 (by decide) (pc' := 14) (by decide) (pc2 := 11) rfl (fun c8_171 => ?_) (fun q => absurd q (fun q => hpos q.symm))
  refine g_aloadN X170 hx hby own_d22_14 rfl rfl (pc' := 15) rfl ?_
  refine g_callS (argsL := [(.ref y0)]) (S := []) X170 hx hby hZ (y := (⟨"java/lang/StringLatin1", "lastIndexOfNonWhitespace", "([B)I"⟩ : MethodName)) hown (hw _ (List.mem_of_getElem? (i := 154) rfl)) (hw _ (List.mem_of_getElem? (i := 155) rfl)) (hw _ (List.mem_of_getElem? (i := 8) rfl)) (hw _ (List.mem_of_getElem? (i := 156) rfl)) (by decide) (own_li0 l Z a0 hw y0 h0 n0 n N f hN LA0 hpr hn1 ci aa na g Si Ei Sa Aa hA) (by rw [hml]; rfl) (lenOf own_pd14 rfl) rfl own_d22_15 (by decide) (W := 0) (by exact Nat.le_of_eq rfl) (by decide) (by decide) (by decide) (pc' := 18) rfl (fun T172 v172 X172 hQ172 => ?_)
  obtain ⟨rfl, e172⟩ := hQ172
  rw [e172] at X172
  show Gl p e below n0 _ _ (T172.setTop (mkF m 18 #[.val (.ref y0), .val (.int (0 : Int32)), .unset, .unset] [(.int N)]))
  refine g_istoreN (L' := #[.val (.ref y0), .val (.int (0 : Int32)), .val (.int N), .unset]) X172 hx hby own_d22_18 rfl (pc' := 19) rfl ?_
  refine g_iloadN X172 hx hby own_d22_19 rfl (pc' := 20) rfl ?_
  refine g_if_gt X172 hx hby own_d22_20 (by decide) (pc' := 29) (by decide) (pc2 := 23) rfl (fun q => absurd q (by decide)) (fun c20_173 => ?_)
  refine g_iloadN X172 hx hby own_d22_23 rfl (pc' := 24) rfl ?_
  refine g_aloadN X172 hx hby own_d22_24 rfl rfl (pc' := 25) rfl ?_
  refine g_arraylength (n := N) X172 hx hby hZ LA0 hN own_d22_25 (pc' := 26) rfl ?_
  refine g_icmp_ge X172 hx hby own_d22_26 (by decide) (pc' := 33) (by decide) (pc2 := 29) rfl (fun c26_174 => ?_) (fun q => absurd q (own_nlt (Int.le_refl _)))
  refine g_iconst (v := 0) X172 hx hby own_d22_33 rfl (pc' := 34) rfl ?_
  refine g_istoreN (L' := #[.val (.ref y0), .val (.int (0 : Int32)), .val (.int N), .val (.int (0 : Int32))]) X172 hx hby own_d22_34 rfl (pc' := 35) rfl ?_
  refine g_iloadN X172 hx hby own_d22_35 rfl (pc' := 36) rfl ?_
  refine g_if_eq X172 hx hby own_d22_36 (by decide) (pc' := 50) (by decide) (pc2 := 39) rfl (fun c36_175 => ?_) (fun q => absurd (by decide) q)
  refine g_aconst_null X172 hx hby own_d22_50 (pc' := 51) rfl ?_
  exact g_retA X172 hx hby hret hlk rfl rfl own_d22_51 ⟨rfl, rfl⟩ (by decide) (by decide)
set_option maxRecDepth 65536 in
set_option maxHeartbeats 40000000 in
theorem own_ef176 (m : MethodId) (y0 : Addr)  : entryFrame m #[(.ref y0)] 2 = mkF m 0 #[.val (.ref y0), .unset] [] := by first | (simp [entryFrame, mkF, argsToLocals, Value.category, maxLocals]; done) | rfl
theorem own_d23_0 : decode jdk_42_method_114_code 0 = .ok (.aload_n 0, 1) := by decide +kernel
theorem own_d23_1 : decode jdk_42_method_114_code 1 = .ok (.invokevirtual 492, 3) := by decide +kernel
theorem own_d23_4 : decode jdk_42_method_114_code 4 = .ok (.ifCond .eq 13, 3) := by decide +kernel
theorem own_d23_7 : decode jdk_42_method_114_code 7 = .ok (.aload_n 0, 1) := by decide +kernel
theorem own_d23_8 : decode jdk_42_method_114_code 8 = .ok (.getfield 9, 3) := by decide +kernel
theorem own_d23_11 : decode jdk_42_method_114_code 11 = .ok (.invokestatic 864, 3) := by decide +kernel
theorem own_pd15 : parseMethodDescriptor "([B)Ljava/lang/String;" = some ⟨[(.array .byte)], (some (.object "java/lang/String"))⟩ := by decide +kernel
theorem own_d23_14 : decode jdk_42_method_114_code 14 = .ok (.goto 10, 3) := by decide +kernel
theorem own_d23_24 : decode jdk_42_method_114_code 24 = .ok (.astore_n 1, 1) := by decide +kernel
theorem own_d23_25 : decode jdk_42_method_114_code 25 = .ok (.aload_n 1, 1) := by decide +kernel
theorem own_d23_26 : decode jdk_42_method_114_code 26 = .ok (.ifnonnull 7, 3) := by decide +kernel
theorem own_d23_29 : decode jdk_42_method_114_code 29 = .ok (.aload_n 0, 1) := by decide +kernel
theorem own_d23_30 : decode jdk_42_method_114_code 30 = .ok (.goto 4, 3) := by decide +kernel
theorem own_d23_34 : decode jdk_42_method_114_code 34 = .ok (.areturn, 1) := by decide +kernel
set_option maxRecDepth 65536 in
set_option maxHeartbeats 40000000 in
theorem own_st (l : Launch) (Z : State) (a0 : Array Value) (hw : ∀ d ∈ tables_1, d.before a0 Z = true) (y0 : Addr) (h0 : Heap) (n0 : Nat) (n : Nat) (N : Int32) (f : Nat → Int32) (hN : N.toInt = (n : Int)) (P0 : Lat Z h0 y0 n f) (cs : Int32) (Sc : Sta Z h0 "java/lang/String" "COMPACT_STRINGS" "Z" (.int cs)) (hcs : ¬ cs = 0) (hpr : ∀ i, i < n → Prt (f i)) (hn1 : 1 ≤ n) (hpos : ¬ N = 0) (fm : Value) (Sf : Sta Z h0 "jdk/internal/util/Preconditions" "SIOOBE_FORMATTER" "Ljava/util/function/BiFunction;" fm) (hfm : fm.isRef = true) (ci aa : Addr) (na : Nat) (g : Nat → Value) (Si : Sta Z h0 "java/lang/CharacterDataLatin1" "instance" "Ljava/lang/CharacterDataLatin1;" (.ref ci)) (Ei : Exa Z h0 ci "java/lang/CharacterDataLatin1") (Sa : Sta Z h0 "java/lang/CharacterDataLatin1" "A" "[I" (.ref aa)) (Aa : Ary Z h0 aa .int na g) (hA : (∀ i, 33 ≤ i → i < 127 → i < na ∧ ∃ z : Int32, g i = .int z ∧ ¬ (z &&& (28672 : Int32)) = 16384)) :
    Ctr l Z (⟨"java/lang/String", "strip", "()Ljava/lang/String;"⟩ : MethodName) jdk_42_method_114_code 2 (some (.object "java/lang/String")) [] (own_room 4 0 0 59) #[(.ref y0)] h0 n0 0 0 (fun v h => v = some (.ref y0) ∧ h = h0) := by
  refine Ctr.of (plainFor_of_name own_pn1) ?_
  intro p e s m below meth c T0 hx hby hml hret hlk hnm hown hZ X0
  rw [own_ef176 m (y0)]
  obtain ⟨v0, LE0, LV0, LC0, LA0⟩ := P0
  refine g_aloadN X0 hx hby own_d23_0 rfl rfl (pc' := 1) rfl ?_
  refine g_callV (argsL := []) (S := []) (a := y0) X0 hx hby hZ (y := (⟨"java/lang/String", "isLatin1", "()Z"⟩ : MethodName)) (y' := (⟨"java/lang/String", "isLatin1", "()Z"⟩ : MethodName)) hown (hw _ (List.mem_of_getElem? (i := 55) rfl)) (hw _ (List.mem_of_getElem? (i := 56) rfl)) (notFace_of_selects (args := #[]) (mvT hZ (hw _ (List.mem_of_getElem? (i := 58) rfl)))) (hw _ (List.mem_of_getElem? (i := 58) rfl)) (hw _ (List.mem_of_getElem? (i := 57) rfl)) (hw _ (List.mem_of_getElem? (i := 3) rfl)) (hw _ (List.mem_of_getElem? (i := 59) rfl)) (by decide) LE0 (own_il l Z a0 hw y0 h0 n0 n N f hN ⟨v0, LE0, LV0, LC0, LA0⟩ cs Sc hcs ) (by rw [hml]; rfl) (lenOf own_pd6 rfl) rfl own_d23_1 (by decide) (W := 0) (by exact Nat.le_of_eq rfl) (by decide) (by decide) (by decide) (pc' := 4) rfl (fun T177 v177 X177 hQ177 => ?_)
  obtain ⟨rfl, e177⟩ := hQ177
  rw [e177] at X177
  show Gl p e below n0 _ _ (T177.setTop (mkF m 4 #[.val (.ref y0), .unset] [(.int (1 : Int32))]))
  refine g_if_eq X177 hx hby own_d23_4 (by decide) (pc' := 17) (by decide) (pc2 := 7) rfl (fun q => absurd q (by decide)) (fun c4_178 => ?_)
  refine g_aloadN X177 hx hby own_d23_7 rfl rfl (pc' := 8) rfl ?_
  refine g_getF X177 hx hby hZ hown (hw _ (List.mem_of_getElem? (i := 23) rfl)) Via.refl LV0 own_d23_8 (pc' := 11) rfl (fun T179 X179 => ?_)
  refine g_callS (argsL := [(.ref v0)]) (S := []) X179 hx hby hZ (y := (⟨"java/lang/StringLatin1", "strip", "([B)Ljava/lang/String;"⟩ : MethodName)) hown (hw _ (List.mem_of_getElem? (i := 132) rfl)) (hw _ (List.mem_of_getElem? (i := 133) rfl)) (hw _ (List.mem_of_getElem? (i := 8) rfl)) (hw _ (List.mem_of_getElem? (i := 134) rfl)) (by decide) (own_ls l Z a0 hw v0 h0 n0 n N f hN LA0 hpr hn1 ci aa na g Si Ei Sa Aa hA hpos) (by rw [hml]; rfl) (lenOf own_pd15 rfl) rfl own_d23_11 (by decide) (W := 0) (by exact Nat.le_of_eq rfl) (by decide) (by decide) (by decide) (pc' := 14) rfl (fun T180 v180 X180 hQ180 => ?_)
  obtain ⟨rfl, e180⟩ := hQ180
  rw [e180] at X180
  show Gl p e below n0 _ _ (T180.setTop (mkF m 14 #[.val (.ref y0), .unset] [.null]))
  refine g_goto X180 hx hby own_d23_14 (by decide) (pc' := 24) (by decide) ?_
  refine g_astoreN (L' := #[.val (.ref y0), .val .null]) X180 hx hby own_d23_24 rfl rfl (pc' := 25) rfl ?_
  refine g_aloadN X180 hx hby own_d23_25 rfl rfl (pc' := 26) rfl ?_
  refine g_ifnonnull_n X180 hx hby own_d23_26 (pc' := 29) rfl ?_
  refine g_aloadN X180 hx hby own_d23_29 rfl rfl (pc' := 30) rfl ?_
  refine g_goto X180 hx hby own_d23_30 (by decide) (pc' := 34) (by decide) ?_
  exact g_retA X180 hx hby hret hlk rfl rfl own_d23_34 ⟨rfl, rfl⟩ (by decide) (by decide)
set_option maxRecDepth 65536 in
set_option maxHeartbeats 40000000 in
theorem own_ef181 (m : MethodId) (y0 : Int32)  : entryFrame m #[(.int y0)] 1 = mkF m 0 #[.val (.int y0)] [] := by first | (simp [entryFrame, mkF, argsToLocals, Value.category, maxLocals]; done) | rfl
theorem own_pn5 : plainName "java/lang/Character" = true := by first | (simp [plainName, overriddenIn]; done) | decide +kernel
theorem own_d24_0 : decode jdk_89_method_89_code 0 = .ok (.iload_n 0, 1) := by decide +kernel
theorem own_d24_1 : decode jdk_89_method_89_code 1 = .ok (.sipush 159, 3) := by decide +kernel
theorem own_d24_4 : decode jdk_89_method_89_code 4 = .ok (.if_icmp .gt 19, 3) := by decide +kernel
theorem own_d24_7 : decode jdk_89_method_89_code 7 = .ok (.iload_n 0, 1) := by decide +kernel
theorem own_d24_8 : decode jdk_89_method_89_code 8 = .ok (.bipush 127, 2) := by decide +kernel
theorem own_d24_10 : decode jdk_89_method_89_code 10 = .ok (.if_icmp .ge 9, 3) := by decide +kernel
theorem own_d24_13 : decode jdk_89_method_89_code 13 = .ok (.iload_n 0, 1) := by decide +kernel
theorem own_d24_14 : decode jdk_89_method_89_code 14 = .ok (.iconst 5, 1) := by decide +kernel
theorem own_d24_15 : decode jdk_89_method_89_code 15 = .ok (.iushr, 1) := by decide +kernel
theorem own_d24_16 : decode jdk_89_method_89_code 16 = .ok (.ifCond .ne 7, 3) := by decide +kernel
theorem own_d24_23 : decode jdk_89_method_89_code 23 = .ok (.iconst 0, 1) := by decide +kernel
theorem own_d24_24 : decode jdk_89_method_89_code 24 = .ok (.ireturn, 1) := by decide +kernel
set_option maxRecDepth 65536 in
set_option maxHeartbeats 40000000 in
theorem own_i2 (l : Launch) (Z : State) (a0 : Array Value) (hw : ∀ d ∈ tables_1, d.before a0 Z = true) (y0 : Int32) (h0 : Heap) (n0 : Nat) (hp : Prt y0) :
    Ctr l Z (⟨"java/lang/Character", "isISOControl", "(I)Z"⟩ : MethodName) jdk_89_method_89_code 1 (some .boolean) [] (own_room 0 0 0 0) #[(.int y0)] h0 n0 0 0 (fun v h => v = some (.int 0) ∧ h = h0) := by
  refine Ctr.of (plainFor_of_name own_pn5) ?_
  intro p e s m below meth c T0 hx hby hml hret hlk hnm hown hZ X0
  rw [own_ef181 m (y0)]
  refine g_iloadN X0 hx hby own_d24_0 rfl (pc' := 1) rfl ?_
  refine g_sipush (v := 159) X0 hx hby own_d24_1 rfl (pc' := 4) rfl ?_
  refine g_icmp_gt X0 hx hby own_d24_4 (by decide) (pc' := 23) (by decide) (pc2 := 7) rfl (fun q => absurd q (own_nlt (show y0.toInt ≤ 159 by have := hp.2; omega))) (fun c4_182 => ?_)
  refine g_iloadN X0 hx hby own_d24_7 rfl (pc' := 8) rfl ?_
  refine g_bipush (v := 127) X0 hx hby own_d24_8 rfl (pc' := 10) rfl ?_
  refine g_icmp_ge X0 hx hby own_d24_10 (by decide) (pc' := 19) (by decide) (pc2 := 13) rfl (fun q => absurd (own_ltk (x := 127) rfl (by have := hp.2; omega)) q) (fun c10_183 => ?_)
  refine g_iloadN X0 hx hby own_d24_13 rfl (pc' := 14) rfl ?_
  refine g_iconst (v := 5) X0 hx hby own_d24_14 rfl (pc' := 15) rfl ?_
  refine g_iushr X0 hx hby own_d24_15 (pc' := 16) rfl ?_
  refine g_if_ne X0 hx hby own_d24_16 (by decide) (pc' := 23) (by decide) (pc2 := 19) rfl (fun c16_184 => ?_) (fun q => absurd q (own_sh5 hp))
  refine g_iconst (v := 0) X0 hx hby own_d24_23 rfl (pc' := 24) rfl ?_
  exact g_retN X0 hx hby hret hlk (by simp) own_d24_24 ⟨rfl, rfl⟩ (by decide) (by decide)
set_option maxRecDepth 65536 in
set_option maxHeartbeats 40000000 in
theorem own_ef185 (m : MethodId) (y0 : Int32)  : entryFrame m #[(.int y0)] 1 = mkF m 0 #[.val (.int y0)] [] := by first | (simp [entryFrame, mkF, argsToLocals, Value.category, maxLocals]; done) | rfl
theorem own_d25_0 : decode jdk_89_method_88_code 0 = .ok (.iload_n 0, 1) := by decide +kernel
theorem own_d25_1 : decode jdk_89_method_88_code 1 = .ok (.invokestatic 266, 3) := by decide +kernel
theorem own_d25_4 : decode jdk_89_method_88_code 4 = .ok (.ireturn, 1) := by decide +kernel
set_option maxRecDepth 65536 in
set_option maxHeartbeats 40000000 in
theorem own_i1 (l : Launch) (Z : State) (a0 : Array Value) (hw : ∀ d ∈ tables_1, d.before a0 Z = true) (y0 : Int32) (h0 : Heap) (n0 : Nat) (hp : Prt y0) :
    Ctr l Z (⟨"java/lang/Character", "isISOControl", "(C)Z"⟩ : MethodName) jdk_89_method_88_code 1 (some .boolean) [] (own_room 1 0 0 12) #[(.int y0)] h0 n0 0 0 (fun v h => v = some (.int 0) ∧ h = h0) := by
  refine Ctr.of (plainFor_of_name own_pn5) ?_
  intro p e s m below meth c T0 hx hby hml hret hlk hnm hown hZ X0
  rw [own_ef185 m (y0)]
  refine g_iloadN X0 hx hby own_d25_0 rfl (pc' := 1) rfl ?_
  refine g_callS (argsL := [(.int y0)]) (S := []) X0 hx hby hZ (y := (⟨"java/lang/Character", "isISOControl", "(I)Z"⟩ : MethodName)) hown (hw _ (List.mem_of_getElem? (i := 164) rfl)) (hw _ (List.mem_of_getElem? (i := 165) rfl)) (hw _ (List.mem_of_getElem? (i := 162) rfl)) (hw _ (List.mem_of_getElem? (i := 166) rfl)) (by decide) (own_i2 l Z a0 hw y0 h0 n0 hp) (by rw [hml]; rfl) (lenOf own_pd13 rfl) rfl own_d25_1 (by decide) (W := 0) (by exact Nat.le_of_eq rfl) (by decide) (by decide) (by decide) (pc' := 4) rfl (fun T186 v186 X186 hQ186 => ?_)
  obtain ⟨rfl, e186⟩ := hQ186
  rw [e186] at X186
  show Gl p e below n0 _ _ (T186.setTop (mkF m 4 #[.val (.int y0)] [(.int (0 : Int32))]))
  exact g_retN X186 hx hby hret hlk (by simp) own_d25_4 ⟨rfl, rfl⟩ (by decide) (by decide)
set_option maxRecDepth 65536 in
set_option maxHeartbeats 40000000 in
theorem own_ef187 (m : MethodId) (y0 : Addr)  : entryFrame m #[(.ref y0)] 3 = mkF m 0 #[.val (.ref y0), .unset, .unset] [] := by first | (simp [entryFrame, mkF, argsToLocals, Value.category, maxLocals]; done) | rfl
theorem own_pn6 : plainName "com/example/filingledger/filingledger/Text" = true := by first | (simp [plainName, overriddenIn]; done) | decide +kernel
theorem own_d26_0 : decode prog_22_method_2_code 0 = .ok (.iconst 0, 1) := by decide +kernel
theorem own_d26_1 : decode prog_22_method_2_code 1 = .ok (.istore_n 1, 1) := by decide +kernel
theorem own_d26_2 : decode prog_22_method_2_code 2 = .ok (.iload_n 1, 1) := by decide +kernel
theorem own_d26_3 : decode prog_22_method_2_code 3 = .ok (.aload_n 0, 1) := by decide +kernel
theorem own_d26_4 : decode prog_22_method_2_code 4 = .ok (.invokevirtual 9, 3) := by decide +kernel
theorem own_pd16 : parseMethodDescriptor "()I" = some ⟨[], (some .int)⟩ := by decide +kernel
theorem own_d26_7 : decode prog_22_method_2_code 7 = .ok (.if_icmp .ge 39, 3) := by decide +kernel
theorem own_d26_46 : decode prog_22_method_2_code 46 = .ok (.iconst 0, 1) := by decide +kernel
theorem own_d26_47 : decode prog_22_method_2_code 47 = .ok (.ireturn, 1) := by decide +kernel
theorem own_d26_10 : decode prog_22_method_2_code 10 = .ok (.aload_n 0, 1) := by decide +kernel
theorem own_d26_11 : decode prog_22_method_2_code 11 = .ok (.iload_n 1, 1) := by decide +kernel
theorem own_d26_12 : decode prog_22_method_2_code 12 = .ok (.invokevirtual 15, 3) := by decide +kernel
theorem own_pd17 : parseMethodDescriptor "(I)C" = some ⟨[.int], (some .char)⟩ := by decide +kernel
theorem own_d26_15 : decode prog_22_method_2_code 15 = .ok (.istore_n 2, 1) := by decide +kernel
theorem own_d26_16 : decode prog_22_method_2_code 16 = .ok (.iload_n 2, 1) := by decide +kernel
theorem own_d26_17 : decode prog_22_method_2_code 17 = .ok (.bipush 32, 2) := by decide +kernel
theorem own_d26_19 : decode prog_22_method_2_code 19 = .ok (.if_icmp .lt 9, 3) := by decide +kernel
theorem own_d26_22 : decode prog_22_method_2_code 22 = .ok (.iload_n 2, 1) := by decide +kernel
theorem own_d26_23 : decode prog_22_method_2_code 23 = .ok (.bipush 126, 2) := by decide +kernel
theorem own_d26_25 : decode prog_22_method_2_code 25 = .ok (.if_icmp .le 15, 3) := by decide +kernel
theorem own_d26_40 : decode prog_22_method_2_code 40 = .ok (.iinc 1 1, 3) := by decide +kernel
theorem own_d26_43 : decode prog_22_method_2_code 43 = .ok (.goto (-41), 3) := by decide +kernel
set_option maxRecDepth 65536 in
set_option maxHeartbeats 40000000 in
theorem own_lb (l : Launch) (Z : State) (a0 : Array Value) (hw : ∀ d ∈ tables_1, d.before a0 Z = true) (y0 : Addr) (h0 : Heap) (n0 : Nat) (n : Nat) (N : Int32) (f : Nat → Int32) (hN : N.toInt = (n : Int)) (P0 : Lat Z h0 y0 n f) (cs : Int32) (Sc : Sta Z h0 "java/lang/String" "COMPACT_STRINGS" "Z" (.int cs)) (hcs : ¬ cs = 0) (hpr : ∀ i, i < n → Prt (f i)) (hn1 : 1 ≤ n) (hpos : ¬ N = 0) (fm : Value) (Sf : Sta Z h0 "jdk/internal/util/Preconditions" "SIOOBE_FORMATTER" "Ljava/util/function/BiFunction;" fm) (hfm : fm.isRef = true) (ci aa : Addr) (na : Nat) (g : Nat → Value) (Si : Sta Z h0 "java/lang/CharacterDataLatin1" "instance" "Ljava/lang/CharacterDataLatin1;" (.ref ci)) (Ei : Exa Z h0 ci "java/lang/CharacterDataLatin1") (Sa : Sta Z h0 "java/lang/CharacterDataLatin1" "A" "[I" (.ref aa)) (Aa : Ary Z h0 aa .int na g) (hA : (∀ i, 33 ≤ i → i < 127 → i < na ∧ ∃ z : Int32, g i = .int z ∧ ¬ (z &&& (28672 : Int32)) = 16384)) :
    Ctr l Z (⟨"com/example/filingledger/filingledger/Text", "hasLineBreak", "(Ljava/lang/String;)Z"⟩ : MethodName) prog_22_method_2_code 3 (some .boolean) [] (own_room 4 0 0 55) #[(.ref y0)] h0 n0 0 0 (fun v h => v = some (.int 0) ∧ h = h0) := by
  refine Ctr.of (plainFor_of_name own_pn6) ?_
  intro p e s m below meth c T0 hx hby hml hret hlk hnm hown hZ X0
  rw [own_ef187 m (y0)]
  obtain ⟨v0, LE0, LV0, LC0, LA0⟩ := P0
  refine g_iconst (v := 0) X0 hx hby own_d26_0 rfl (pc' := 1) rfl ?_
  refine g_istoreN (L' := #[.val (.ref y0), .val (.int (0 : Int32)), .unset]) X0 hx hby own_d26_1 rfl (pc' := 2) rfl ?_
  have rk := rng32 N
  have loop : ∀ (j : Nat) (i : Int32) (T1 : State) (s2 : Slot), (s2 = .unset ∨ ∃ z : Int32, s2 = .val (.int z)) → 0 ≤ i.toInt → i.toInt + (j : Int) = (n : Int) → St p l e (own_room 4 0 0 55) s m #[(.ref y0)] below meth c n0 T1 h0 0 0 → Gl p e below n0 (Fn s 0 0) (fun v h => v = some (.int 0) ∧ h = h0) (T1.setTop (mkF m 2 #[.val (.ref y0), .val (.int i), s2] [])) := by
    intro j
    induction j with
    | zero =>
      intro i T1 s2 hs2 hi hk X1
      refine g_iloadN X1 hx hby own_d26_2 rfl (pc' := 3) rfl ?_
      refine g_aloadN X1 hx hby own_d26_3 rfl rfl (pc' := 4) rfl ?_
      refine g_callV (argsL := []) (S := [(.int i)]) (a := y0) X1 hx hby hZ (y := (⟨"java/lang/String", "length", "()I"⟩ : MethodName)) (y' := (⟨"java/lang/String", "length", "()I"⟩ : MethodName)) hown (hw _ (List.mem_of_getElem? (i := 125) rfl)) (hw _ (List.mem_of_getElem? (i := 75) rfl)) (notFace_of_selects (args := #[]) (mvT hZ (hw _ (List.mem_of_getElem? (i := 77) rfl)))) (hw _ (List.mem_of_getElem? (i := 77) rfl)) (hw _ (List.mem_of_getElem? (i := 76) rfl)) (hw _ (List.mem_of_getElem? (i := 3) rfl)) (hw _ (List.mem_of_getElem? (i := 78) rfl)) (by decide) LE0 (own_ln l Z a0 hw y0 h0 n0 n N f hN ⟨v0, LE0, LV0, LC0, LA0⟩ cs Sc hcs ) (by rw [hml]; rfl) (lenOf own_pd16 rfl) rfl own_d26_4 (by decide) (W := 1) (by exact Nat.le_of_eq rfl) (by decide) (by decide) (by decide) (pc' := 7) rfl (fun T188 v188 X188 hQ188 => ?_)
      obtain ⟨rfl, e188⟩ := hQ188
      rw [e188] at X188
      show Gl p e below n0 _ _ (T188.setTop (mkF m 7 #[.val (.ref y0), .val (.int i), s2] [(.int N), (.int i)]))
      refine g_icmp_ge X188 hx hby own_d26_7 (by decide) (pc' := 46) (by decide) (pc2 := 10) rfl (fun c7_189 => ?_) (fun q => absurd q (own_nlt (by omega)))
      refine g_iconst (v := 0) X188 hx hby own_d26_46 rfl (pc' := 47) rfl ?_
      exact g_retN X188 hx hby hret hlk (by simp) own_d26_47 ⟨rfl, rfl⟩ (by decide) (by decide)
    | succ j ih =>
      intro i T1 s2 hs2 hi hk X1
      rcases hs2 with rfl | ⟨z2, rfl⟩
      · refine g_iloadN X1 hx hby own_d26_2 rfl (pc' := 3) rfl ?_
        refine g_aloadN X1 hx hby own_d26_3 rfl rfl (pc' := 4) rfl ?_
        refine g_callV (argsL := []) (S := [(.int i)]) (a := y0) X1 hx hby hZ (y := (⟨"java/lang/String", "length", "()I"⟩ : MethodName)) (y' := (⟨"java/lang/String", "length", "()I"⟩ : MethodName)) hown (hw _ (List.mem_of_getElem? (i := 125) rfl)) (hw _ (List.mem_of_getElem? (i := 75) rfl)) (notFace_of_selects (args := #[]) (mvT hZ (hw _ (List.mem_of_getElem? (i := 77) rfl)))) (hw _ (List.mem_of_getElem? (i := 77) rfl)) (hw _ (List.mem_of_getElem? (i := 76) rfl)) (hw _ (List.mem_of_getElem? (i := 3) rfl)) (hw _ (List.mem_of_getElem? (i := 78) rfl)) (by decide) LE0 (own_ln l Z a0 hw y0 h0 n0 n N f hN ⟨v0, LE0, LV0, LC0, LA0⟩ cs Sc hcs ) (by rw [hml]; rfl) (lenOf own_pd16 rfl) rfl own_d26_4 (by decide) (W := 1) (by exact Nat.le_of_eq rfl) (by decide) (by decide) (by decide) (pc' := 7) rfl (fun T190 v190 X190 hQ190 => ?_)
        obtain ⟨rfl, e190⟩ := hQ190
        rw [e190] at X190
        show Gl p e below n0 _ _ (T190.setTop (mkF m 7 #[.val (.ref y0), .val (.int i), .unset] [(.int N), (.int i)]))
        refine g_icmp_ge X190 hx hby own_d26_7 (by decide) (pc' := 46) (by decide) (pc2 := 10) rfl (fun q => absurd (own_lt (by omega)) q) (fun c7_191 => ?_)
        refine g_aloadN X190 hx hby own_d26_10 rfl rfl (pc' := 11) rfl ?_
        refine g_iloadN X190 hx hby own_d26_11 rfl (pc' := 12) rfl ?_
        refine g_callV (argsL := [(.int i)]) (S := []) (a := y0) X190 hx hby hZ (y := (⟨"java/lang/String", "charAt", "(I)C"⟩ : MethodName)) (y' := (⟨"java/lang/String", "charAt", "(I)C"⟩ : MethodName)) hown (hw _ (List.mem_of_getElem? (i := 126) rfl)) (hw _ (List.mem_of_getElem? (i := 51) rfl)) (notFace_of_selects (args := #[]) (mvT hZ (hw _ (List.mem_of_getElem? (i := 53) rfl)))) (hw _ (List.mem_of_getElem? (i := 53) rfl)) (hw _ (List.mem_of_getElem? (i := 52) rfl)) (hw _ (List.mem_of_getElem? (i := 3) rfl)) (hw _ (List.mem_of_getElem? (i := 54) rfl)) (by decide) LE0 (own_ca l Z a0 hw y0 i h0 n0 n N f hN ⟨v0, LE0, LV0, LC0, LA0⟩ cs Sc hcs i.toInt.toNat (by omega) (by omega) fm Sf hfm) (by rw [hml]; rfl) (lenOf own_pd17 rfl) rfl own_d26_12 (by decide) (W := 0) (by exact Nat.le_of_eq rfl) (by decide) (by decide) (by decide) (pc' := 15) rfl (fun T192 v192 X192 hQ192 => ?_)
        obtain ⟨rfl, e192⟩ := hQ192
        rw [e192] at X192
        show Gl p e below n0 _ _ (T192.setTop (mkF m 15 #[.val (.ref y0), .val (.int i), .unset] [(.int ((f) i.toInt.toNat &&& (255 : Int32)))]))
        have hp := hpr i.toInt.toNat (by omega)
        rw [Prt.and _ hp]
        refine g_istoreN (L' := #[.val (.ref y0), .val (.int i), .val (.int (f i.toInt.toNat))]) X192 hx hby own_d26_15 rfl (pc' := 16) rfl ?_
        refine g_iloadN X192 hx hby own_d26_16 rfl (pc' := 17) rfl ?_
        refine g_bipush (v := 32) X192 hx hby own_d26_17 rfl (pc' := 19) rfl ?_
        refine g_icmp_lt X192 hx hby own_d26_19 (by decide) (pc' := 28) (by decide) (pc2 := 22) rfl (fun q => absurd q (own_nlt (show (32 : Int) ≤ _ by have := hp.1; omega))) (fun c19_193 => ?_)
        refine g_iloadN X192 hx hby own_d26_22 rfl (pc' := 23) rfl ?_
        refine g_bipush (v := 126) X192 hx hby own_d26_23 rfl (pc' := 25) rfl ?_
        refine g_icmp_le X192 hx hby own_d26_25 (by decide) (pc' := 40) (by decide) (pc2 := 28) rfl (fun c25_194 => ?_) (fun q => absurd q (own_nlt (show _ ≤ (126 : Int) by have := hp.2; omega)))
        refine g_iinc (y := 1) (L' := #[.val (.ref y0), .val (.int (i + (1 : Int32))), .val (.int (f i.toInt.toNat))]) X192 hx hby own_d26_40 rfl rfl rfl (pc' := 43) rfl ?_
        refine g_goto X192 hx hby own_d26_43 (by decide) (pc' := 2) (by decide) ?_
        exact ih _ _ _ (Or.inr ⟨_, rfl⟩) (by rw [own_inc (by omega)]; omega) (by rw [own_inc (by omega)]; omega) X192
      · refine g_iloadN X1 hx hby own_d26_2 rfl (pc' := 3) rfl ?_
        refine g_aloadN X1 hx hby own_d26_3 rfl rfl (pc' := 4) rfl ?_
        refine g_callV (argsL := []) (S := [(.int i)]) (a := y0) X1 hx hby hZ (y := (⟨"java/lang/String", "length", "()I"⟩ : MethodName)) (y' := (⟨"java/lang/String", "length", "()I"⟩ : MethodName)) hown (hw _ (List.mem_of_getElem? (i := 125) rfl)) (hw _ (List.mem_of_getElem? (i := 75) rfl)) (notFace_of_selects (args := #[]) (mvT hZ (hw _ (List.mem_of_getElem? (i := 77) rfl)))) (hw _ (List.mem_of_getElem? (i := 77) rfl)) (hw _ (List.mem_of_getElem? (i := 76) rfl)) (hw _ (List.mem_of_getElem? (i := 3) rfl)) (hw _ (List.mem_of_getElem? (i := 78) rfl)) (by decide) LE0 (own_ln l Z a0 hw y0 h0 n0 n N f hN ⟨v0, LE0, LV0, LC0, LA0⟩ cs Sc hcs ) (by rw [hml]; rfl) (lenOf own_pd16 rfl) rfl own_d26_4 (by decide) (W := 1) (by exact Nat.le_of_eq rfl) (by decide) (by decide) (by decide) (pc' := 7) rfl (fun T195 v195 X195 hQ195 => ?_)
        obtain ⟨rfl, e195⟩ := hQ195
        rw [e195] at X195
        show Gl p e below n0 _ _ (T195.setTop (mkF m 7 #[.val (.ref y0), .val (.int i), .val (.int z2)] [(.int N), (.int i)]))
        refine g_icmp_ge X195 hx hby own_d26_7 (by decide) (pc' := 46) (by decide) (pc2 := 10) rfl (fun q => absurd (own_lt (by omega)) q) (fun c7_196 => ?_)
        refine g_aloadN X195 hx hby own_d26_10 rfl rfl (pc' := 11) rfl ?_
        refine g_iloadN X195 hx hby own_d26_11 rfl (pc' := 12) rfl ?_
        refine g_callV (argsL := [(.int i)]) (S := []) (a := y0) X195 hx hby hZ (y := (⟨"java/lang/String", "charAt", "(I)C"⟩ : MethodName)) (y' := (⟨"java/lang/String", "charAt", "(I)C"⟩ : MethodName)) hown (hw _ (List.mem_of_getElem? (i := 126) rfl)) (hw _ (List.mem_of_getElem? (i := 51) rfl)) (notFace_of_selects (args := #[]) (mvT hZ (hw _ (List.mem_of_getElem? (i := 53) rfl)))) (hw _ (List.mem_of_getElem? (i := 53) rfl)) (hw _ (List.mem_of_getElem? (i := 52) rfl)) (hw _ (List.mem_of_getElem? (i := 3) rfl)) (hw _ (List.mem_of_getElem? (i := 54) rfl)) (by decide) LE0 (own_ca l Z a0 hw y0 i h0 n0 n N f hN ⟨v0, LE0, LV0, LC0, LA0⟩ cs Sc hcs i.toInt.toNat (by omega) (by omega) fm Sf hfm) (by rw [hml]; rfl) (lenOf own_pd17 rfl) rfl own_d26_12 (by decide) (W := 0) (by exact Nat.le_of_eq rfl) (by decide) (by decide) (by decide) (pc' := 15) rfl (fun T197 v197 X197 hQ197 => ?_)
        obtain ⟨rfl, e197⟩ := hQ197
        rw [e197] at X197
        show Gl p e below n0 _ _ (T197.setTop (mkF m 15 #[.val (.ref y0), .val (.int i), .val (.int z2)] [(.int ((f) i.toInt.toNat &&& (255 : Int32)))]))
        have hp := hpr i.toInt.toNat (by omega)
        rw [Prt.and _ hp]
        refine g_istoreN (L' := #[.val (.ref y0), .val (.int i), .val (.int (f i.toInt.toNat))]) X197 hx hby own_d26_15 rfl (pc' := 16) rfl ?_
        refine g_iloadN X197 hx hby own_d26_16 rfl (pc' := 17) rfl ?_
        refine g_bipush (v := 32) X197 hx hby own_d26_17 rfl (pc' := 19) rfl ?_
        refine g_icmp_lt X197 hx hby own_d26_19 (by decide) (pc' := 28) (by decide) (pc2 := 22) rfl (fun q => absurd q (own_nlt (show (32 : Int) ≤ _ by have := hp.1; omega))) (fun c19_198 => ?_)
        refine g_iloadN X197 hx hby own_d26_22 rfl (pc' := 23) rfl ?_
        refine g_bipush (v := 126) X197 hx hby own_d26_23 rfl (pc' := 25) rfl ?_
        refine g_icmp_le X197 hx hby own_d26_25 (by decide) (pc' := 40) (by decide) (pc2 := 28) rfl (fun c25_199 => ?_) (fun q => absurd q (own_nlt (show _ ≤ (126 : Int) by have := hp.2; omega)))
        refine g_iinc (y := 1) (L' := #[.val (.ref y0), .val (.int (i + (1 : Int32))), .val (.int (f i.toInt.toNat))]) X197 hx hby own_d26_40 rfl rfl rfl (pc' := 43) rfl ?_
        refine g_goto X197 hx hby own_d26_43 (by decide) (pc' := 2) (by decide) ?_
        exact ih _ _ _ (Or.inr ⟨_, rfl⟩) (by rw [own_inc (by omega)]; omega) (by rw [own_inc (by omega)]; omega) X197
  exact loop n 0 T0 .unset (Or.inl rfl) (by decide) (by show (0 : Int) + _ = _; omega) X0
set_option maxRecDepth 65536 in
set_option maxHeartbeats 40000000 in
theorem own_ef200 (m : MethodId) (y0 : Addr)  : entryFrame m #[(.ref y0)] 2 = mkF m 0 #[.val (.ref y0), .unset] [] := by first | (simp [entryFrame, mkF, argsToLocals, Value.category, maxLocals]; done) | rfl
theorem own_d27_0 : decode prog_22_method_3_code 0 = .ok (.iconst 0, 1) := by decide +kernel
theorem own_d27_1 : decode prog_22_method_3_code 1 = .ok (.istore_n 1, 1) := by decide +kernel
theorem own_d27_2 : decode prog_22_method_3_code 2 = .ok (.iload_n 1, 1) := by decide +kernel
theorem own_d27_3 : decode prog_22_method_3_code 3 = .ok (.aload_n 0, 1) := by decide +kernel
theorem own_d27_4 : decode prog_22_method_3_code 4 = .ok (.invokevirtual 9, 3) := by decide +kernel
theorem own_d27_7 : decode prog_22_method_3_code 7 = .ok (.if_icmp .ge 22, 3) := by decide +kernel
theorem own_d27_29 : decode prog_22_method_3_code 29 = .ok (.iconst 0, 1) := by decide +kernel
theorem own_d27_30 : decode prog_22_method_3_code 30 = .ok (.ireturn, 1) := by decide +kernel
theorem own_d27_10 : decode prog_22_method_3_code 10 = .ok (.aload_n 0, 1) := by decide +kernel
theorem own_d27_11 : decode prog_22_method_3_code 11 = .ok (.iload_n 1, 1) := by decide +kernel
theorem own_d27_12 : decode prog_22_method_3_code 12 = .ok (.invokevirtual 15, 3) := by decide +kernel
theorem own_d27_15 : decode prog_22_method_3_code 15 = .ok (.invokestatic 29, 3) := by decide +kernel
theorem own_d27_18 : decode prog_22_method_3_code 18 = .ok (.ifCond .eq 5, 3) := by decide +kernel
theorem own_d27_23 : decode prog_22_method_3_code 23 = .ok (.iinc 1 1, 3) := by decide +kernel
theorem own_d27_26 : decode prog_22_method_3_code 26 = .ok (.goto (-24), 3) := by decide +kernel
set_option maxRecDepth 65536 in
set_option maxHeartbeats 40000000 in
theorem own_hc (l : Launch) (Z : State) (a0 : Array Value) (hw : ∀ d ∈ tables_1, d.before a0 Z = true) (y0 : Addr) (h0 : Heap) (n0 : Nat) (n : Nat) (N : Int32) (f : Nat → Int32) (hN : N.toInt = (n : Int)) (P0 : Lat Z h0 y0 n f) (cs : Int32) (Sc : Sta Z h0 "java/lang/String" "COMPACT_STRINGS" "Z" (.int cs)) (hcs : ¬ cs = 0) (hpr : ∀ i, i < n → Prt (f i)) (hn1 : 1 ≤ n) (hpos : ¬ N = 0) (fm : Value) (Sf : Sta Z h0 "jdk/internal/util/Preconditions" "SIOOBE_FORMATTER" "Ljava/util/function/BiFunction;" fm) (hfm : fm.isRef = true) (ci aa : Addr) (na : Nat) (g : Nat → Value) (Si : Sta Z h0 "java/lang/CharacterDataLatin1" "instance" "Ljava/lang/CharacterDataLatin1;" (.ref ci)) (Ei : Exa Z h0 ci "java/lang/CharacterDataLatin1") (Sa : Sta Z h0 "java/lang/CharacterDataLatin1" "A" "[I" (.ref aa)) (Aa : Ary Z h0 aa .int na g) (hA : (∀ i, 33 ≤ i → i < 127 → i < na ∧ ∃ z : Int32, g i = .int z ∧ ¬ (z &&& (28672 : Int32)) = 16384)) :
    Ctr l Z (⟨"com/example/filingledger/filingledger/Text", "hasControl", "(Ljava/lang/String;)Z"⟩ : MethodName) prog_22_method_3_code 2 (some .boolean) [] (own_room 4 0 0 55) #[(.ref y0)] h0 n0 0 0 (fun v h => v = some (.int 0) ∧ h = h0) := by
  refine Ctr.of (plainFor_of_name own_pn6) ?_
  intro p e s m below meth c T0 hx hby hml hret hlk hnm hown hZ X0
  rw [own_ef200 m (y0)]
  obtain ⟨v0, LE0, LV0, LC0, LA0⟩ := P0
  refine g_iconst (v := 0) X0 hx hby own_d27_0 rfl (pc' := 1) rfl ?_
  refine g_istoreN (L' := #[.val (.ref y0), .val (.int (0 : Int32))]) X0 hx hby own_d27_1 rfl (pc' := 2) rfl ?_
  have rk := rng32 N
  have loop : ∀ (j : Nat) (i : Int32) (T1 : State), 0 ≤ i.toInt → i.toInt + (j : Int) = (n : Int) → St p l e (own_room 4 0 0 55) s m #[(.ref y0)] below meth c n0 T1 h0 0 0 → Gl p e below n0 (Fn s 0 0) (fun v h => v = some (.int 0) ∧ h = h0) (T1.setTop (mkF m 2 #[.val (.ref y0), .val (.int i)] [])) := by
    intro j
    induction j with
    | zero =>
      intro i T1 hi hk X1
      refine g_iloadN X1 hx hby own_d27_2 rfl (pc' := 3) rfl ?_
      refine g_aloadN X1 hx hby own_d27_3 rfl rfl (pc' := 4) rfl ?_
      refine g_callV (argsL := []) (S := [(.int i)]) (a := y0) X1 hx hby hZ (y := (⟨"java/lang/String", "length", "()I"⟩ : MethodName)) (y' := (⟨"java/lang/String", "length", "()I"⟩ : MethodName)) hown (hw _ (List.mem_of_getElem? (i := 125) rfl)) (hw _ (List.mem_of_getElem? (i := 75) rfl)) (notFace_of_selects (args := #[]) (mvT hZ (hw _ (List.mem_of_getElem? (i := 77) rfl)))) (hw _ (List.mem_of_getElem? (i := 77) rfl)) (hw _ (List.mem_of_getElem? (i := 76) rfl)) (hw _ (List.mem_of_getElem? (i := 3) rfl)) (hw _ (List.mem_of_getElem? (i := 78) rfl)) (by decide) LE0 (own_ln l Z a0 hw y0 h0 n0 n N f hN ⟨v0, LE0, LV0, LC0, LA0⟩ cs Sc hcs ) (by rw [hml]; rfl) (lenOf own_pd16 rfl) rfl own_d27_4 (by decide) (W := 1) (by exact Nat.le_of_eq rfl) (by decide) (by decide) (by decide) (pc' := 7) rfl (fun T201 v201 X201 hQ201 => ?_)
      obtain ⟨rfl, e201⟩ := hQ201
      rw [e201] at X201
      show Gl p e below n0 _ _ (T201.setTop (mkF m 7 #[.val (.ref y0), .val (.int i)] [(.int N), (.int i)]))
      refine g_icmp_ge X201 hx hby own_d27_7 (by decide) (pc' := 29) (by decide) (pc2 := 10) rfl (fun c7_202 => ?_) (fun q => absurd q (own_nlt (by omega)))
      refine g_iconst (v := 0) X201 hx hby own_d27_29 rfl (pc' := 30) rfl ?_
      exact g_retN X201 hx hby hret hlk (by simp) own_d27_30 ⟨rfl, rfl⟩ (by decide) (by decide)
    | succ j ih =>
      intro i T1 hi hk X1
      refine g_iloadN X1 hx hby own_d27_2 rfl (pc' := 3) rfl ?_
      refine g_aloadN X1 hx hby own_d27_3 rfl rfl (pc' := 4) rfl ?_
      refine g_callV (argsL := []) (S := [(.int i)]) (a := y0) X1 hx hby hZ (y := (⟨"java/lang/String", "length", "()I"⟩ : MethodName)) (y' := (⟨"java/lang/String", "length", "()I"⟩ : MethodName)) hown (hw _ (List.mem_of_getElem? (i := 125) rfl)) (hw _ (List.mem_of_getElem? (i := 75) rfl)) (notFace_of_selects (args := #[]) (mvT hZ (hw _ (List.mem_of_getElem? (i := 77) rfl)))) (hw _ (List.mem_of_getElem? (i := 77) rfl)) (hw _ (List.mem_of_getElem? (i := 76) rfl)) (hw _ (List.mem_of_getElem? (i := 3) rfl)) (hw _ (List.mem_of_getElem? (i := 78) rfl)) (by decide) LE0 (own_ln l Z a0 hw y0 h0 n0 n N f hN ⟨v0, LE0, LV0, LC0, LA0⟩ cs Sc hcs ) (by rw [hml]; rfl) (lenOf own_pd16 rfl) rfl own_d27_4 (by decide) (W := 1) (by exact Nat.le_of_eq rfl) (by decide) (by decide) (by decide) (pc' := 7) rfl (fun T203 v203 X203 hQ203 => ?_)
      obtain ⟨rfl, e203⟩ := hQ203
      rw [e203] at X203
      show Gl p e below n0 _ _ (T203.setTop (mkF m 7 #[.val (.ref y0), .val (.int i)] [(.int N), (.int i)]))
      refine g_icmp_ge X203 hx hby own_d27_7 (by decide) (pc' := 29) (by decide) (pc2 := 10) rfl (fun q => absurd (own_lt (by omega)) q) (fun c7_204 => ?_)
      refine g_aloadN X203 hx hby own_d27_10 rfl rfl (pc' := 11) rfl ?_
      refine g_iloadN X203 hx hby own_d27_11 rfl (pc' := 12) rfl ?_
      refine g_callV (argsL := [(.int i)]) (S := []) (a := y0) X203 hx hby hZ (y := (⟨"java/lang/String", "charAt", "(I)C"⟩ : MethodName)) (y' := (⟨"java/lang/String", "charAt", "(I)C"⟩ : MethodName)) hown (hw _ (List.mem_of_getElem? (i := 126) rfl)) (hw _ (List.mem_of_getElem? (i := 51) rfl)) (notFace_of_selects (args := #[]) (mvT hZ (hw _ (List.mem_of_getElem? (i := 53) rfl)))) (hw _ (List.mem_of_getElem? (i := 53) rfl)) (hw _ (List.mem_of_getElem? (i := 52) rfl)) (hw _ (List.mem_of_getElem? (i := 3) rfl)) (hw _ (List.mem_of_getElem? (i := 54) rfl)) (by decide) LE0 (own_ca l Z a0 hw y0 i h0 n0 n N f hN ⟨v0, LE0, LV0, LC0, LA0⟩ cs Sc hcs i.toInt.toNat (by omega) (by omega) fm Sf hfm) (by rw [hml]; rfl) (lenOf own_pd17 rfl) rfl own_d27_12 (by decide) (W := 0) (by exact Nat.le_of_eq rfl) (by decide) (by decide) (by decide) (pc' := 15) rfl (fun T205 v205 X205 hQ205 => ?_)
      obtain ⟨rfl, e205⟩ := hQ205
      rw [e205] at X205
      show Gl p e below n0 _ _ (T205.setTop (mkF m 15 #[.val (.ref y0), .val (.int i)] [(.int ((f) i.toInt.toNat &&& (255 : Int32)))]))
      have hp := hpr i.toInt.toNat (by omega)
      rw [Prt.and _ hp]
      refine g_callS (argsL := [(.int (f i.toInt.toNat))]) (S := []) X205 hx hby hZ (y := (⟨"java/lang/Character", "isISOControl", "(C)Z"⟩ : MethodName)) hown (hw _ (List.mem_of_getElem? (i := 160) rfl)) (hw _ (List.mem_of_getElem? (i := 161) rfl)) (hw _ (List.mem_of_getElem? (i := 162) rfl)) (hw _ (List.mem_of_getElem? (i := 163) rfl)) (by decide) (own_i1 l Z a0 hw (f i.toInt.toNat) h0 n0 hp) (by rw [hml]; rfl) (lenOf own_pd0 rfl) rfl own_d27_15 (by decide) (W := 0) (by exact Nat.le_of_eq rfl) (by decide) (by decide) (by decide) (pc' := 18) rfl (fun T206 v206 X206 hQ206 => ?_)
      obtain ⟨rfl, e206⟩ := hQ206
      rw [e206] at X206
      show Gl p e below n0 _ _ (T206.setTop (mkF m 18 #[.val (.ref y0), .val (.int i)] [(.int (0 : Int32))]))
      refine g_if_eq X206 hx hby own_d27_18 (by decide) (pc' := 23) (by decide) (pc2 := 21) rfl (fun c18_207 => ?_) (fun q => absurd (by decide) q)
      refine g_iinc (y := 1) (L' := #[.val (.ref y0), .val (.int (i + (1 : Int32)))]) X206 hx hby own_d27_23 rfl rfl rfl (pc' := 26) rfl ?_
      refine g_goto X206 hx hby own_d27_26 (by decide) (pc' := 2) (by decide) ?_
      exact ih _ _ (by rw [own_inc (by omega)]; omega) (by rw [own_inc (by omega)]; omega) X206
  exact loop n 0 T0 (by decide) (by show (0 : Int) + _ = _; omega) X0
set_option maxRecDepth 65536 in
set_option maxHeartbeats 40000000 in
theorem own_ef208 (m : MethodId) (y0 : Addr)  : entryFrame m #[(.ref y0)] 1 = mkF m 0 #[.val (.ref y0)] [] := by first | (simp [entryFrame, mkF, argsToLocals, Value.category, maxLocals]; done) | rfl
theorem own_pn7 : plainName "com/example/filingledger/filingledger/RecordField" = true := by first | (simp [plainName, overriddenIn]; done) | decide +kernel
theorem own_d28_0 : decode prog_17_method_14_code 0 = .ok (.aload_n 0, 1) := by decide +kernel
theorem own_d28_1 : decode prog_17_method_14_code 1 = .ok (.invokevirtual 118, 3) := by decide +kernel
theorem own_d28_4 : decode prog_17_method_14_code 4 = .ok (.ifCond .ne 28, 3) := by decide +kernel
theorem own_d28_7 : decode prog_17_method_14_code 7 = .ok (.aload_n 0, 1) := by decide +kernel
theorem own_d28_8 : decode prog_17_method_14_code 8 = .ok (.invokestatic 125, 3) := by decide +kernel
theorem own_pd18 : parseMethodDescriptor "(Ljava/lang/String;)Z" = some ⟨[(.object "java/lang/String")], (some .boolean)⟩ := by decide +kernel
theorem own_d28_11 : decode prog_17_method_14_code 11 = .ok (.ifCond .ne 21, 3) := by decide +kernel
theorem own_d28_14 : decode prog_17_method_14_code 14 = .ok (.aload_n 0, 1) := by decide +kernel
theorem own_d28_15 : decode prog_17_method_14_code 15 = .ok (.invokevirtual 128, 3) := by decide +kernel
theorem own_pd19 : parseMethodDescriptor "()Ljava/lang/String;" = some ⟨[], (some (.object "java/lang/String"))⟩ := by decide +kernel
theorem own_d28_18 : decode prog_17_method_14_code 18 = .ok (.invokevirtual 82, 3) := by decide +kernel
theorem own_d28_21 : decode prog_17_method_14_code 21 = .ok (.aload_n 0, 1) := by decide +kernel
theorem own_d28_22 : decode prog_17_method_14_code 22 = .ok (.invokevirtual 82, 3) := by decide +kernel
theorem own_d28_25 : decode prog_17_method_14_code 25 = .ok (.if_icmp .ne 7, 3) := by decide +kernel
theorem own_d28_28 : decode prog_17_method_14_code 28 = .ok (.iconst 1, 1) := by decide +kernel
theorem own_d28_29 : decode prog_17_method_14_code 29 = .ok (.goto 4, 3) := by decide +kernel
theorem own_d28_33 : decode prog_17_method_14_code 33 = .ok (.ireturn, 1) := by decide +kernel
set_option maxRecDepth 65536 in
set_option maxHeartbeats 40000000 in
theorem own_ot (l : Launch) (Z : State) (a0 : Array Value) (hw : ∀ d ∈ tables_1, d.before a0 Z = true) (y0 : Addr) (h0 : Heap) (n0 : Nat) (n : Nat) (N : Int32) (f : Nat → Int32) (hN : N.toInt = (n : Int)) (P0 : Lat Z h0 y0 n f) (cs : Int32) (Sc : Sta Z h0 "java/lang/String" "COMPACT_STRINGS" "Z" (.int cs)) (hcs : ¬ cs = 0) (hpr : ∀ i, i < n → Prt (f i)) (hn1 : 1 ≤ n) (hpos : ¬ N = 0) (fm : Value) (Sf : Sta Z h0 "jdk/internal/util/Preconditions" "SIOOBE_FORMATTER" "Ljava/util/function/BiFunction;" fm) (hfm : fm.isRef = true) (ci aa : Addr) (na : Nat) (g : Nat → Value) (Si : Sta Z h0 "java/lang/CharacterDataLatin1" "instance" "Ljava/lang/CharacterDataLatin1;" (.ref ci)) (Ei : Exa Z h0 ci "java/lang/CharacterDataLatin1") (Sa : Sta Z h0 "java/lang/CharacterDataLatin1" "A" "[I" (.ref aa)) (Aa : Ary Z h0 aa .int na g) (hA : (∀ i, 33 ≤ i → i < 127 → i < na ∧ ∃ z : Int32, g i = .int z ∧ ¬ (z &&& (28672 : Int32)) = 16384)) :
    Ctr l Z (⟨"com/example/filingledger/filingledger/RecordField", "isOneTrimmedLine", "(Ljava/lang/String;)Z"⟩ : MethodName) prog_17_method_14_code 1 (some .boolean) [] (own_room 5 0 0 80) #[(.ref y0)] h0 n0 0 0 (fun v h => v = some (.int 1) ∧ h = h0) := by
  refine Ctr.of (plainFor_of_name own_pn7) ?_
  intro p e s m below meth c T0 hx hby hml hret hlk hnm hown hZ X0
  rw [own_ef208 m (y0)]
  obtain ⟨v0, LE0, LV0, LC0, LA0⟩ := P0
  refine g_aloadN X0 hx hby own_d28_0 rfl rfl (pc' := 1) rfl ?_
  refine g_callV (argsL := []) (S := []) (a := y0) X0 hx hby hZ (y := (⟨"java/lang/String", "isEmpty", "()Z"⟩ : MethodName)) (y' := (⟨"java/lang/String", "isEmpty", "()Z"⟩ : MethodName)) hown (hw _ (List.mem_of_getElem? (i := 45) rfl)) (hw _ (List.mem_of_getElem? (i := 46) rfl)) (notFace_of_selects (args := #[]) (mvT hZ (hw _ (List.mem_of_getElem? (i := 48) rfl)))) (hw _ (List.mem_of_getElem? (i := 48) rfl)) (hw _ (List.mem_of_getElem? (i := 47) rfl)) (hw _ (List.mem_of_getElem? (i := 3) rfl)) (hw _ (List.mem_of_getElem? (i := 49) rfl)) (by decide) LE0 (own_ie l Z a0 hw y0 h0 n0 n N f hN ⟨v0, LE0, LV0, LC0, LA0⟩ cs Sc hcs hpos) (by rw [hml]; rfl) (lenOf own_pd6 rfl) rfl own_d28_1 (by decide) (W := 0) (by exact Nat.le_of_eq rfl) (by decide) (by decide) (by decide) (pc' := 4) rfl (fun T209 v209 X209 hQ209 => ?_)
  obtain ⟨rfl, e209⟩ := hQ209
  rw [e209] at X209
  show Gl p e below n0 _ _ (T209.setTop (mkF m 4 #[.val (.ref y0)] [(.int (0 : Int32))]))
  refine g_if_ne X209 hx hby own_d28_4 (by decide) (pc' := 32) (by decide) (pc2 := 7) rfl (fun q => absurd (by decide) q) (fun c4_210 => ?_)
  refine g_aloadN X209 hx hby own_d28_7 rfl rfl (pc' := 8) rfl ?_
  refine g_callS (argsL := [(.ref y0)]) (S := []) X209 hx hby hZ (y := (⟨"com/example/filingledger/filingledger/Text", "hasLineBreak", "(Ljava/lang/String;)Z"⟩ : MethodName)) hown (hw _ (List.mem_of_getElem? (i := 121) rfl)) (hw _ (List.mem_of_getElem? (i := 122) rfl)) (hw _ (List.mem_of_getElem? (i := 123) rfl)) (hw _ (List.mem_of_getElem? (i := 124) rfl)) (by decide) (own_lb l Z a0 hw y0 h0 n0 n N f hN ⟨v0, LE0, LV0, LC0, LA0⟩ cs Sc hcs hpr hn1 hpos fm Sf hfm ci aa na g Si Ei Sa Aa hA) (by rw [hml]; rfl) (lenOf own_pd18 rfl) rfl own_d28_8 (by decide) (W := 0) (by exact Nat.le_of_eq rfl) (by decide) (by decide) (by decide) (pc' := 11) rfl (fun T211 v211 X211 hQ211 => ?_)
  obtain ⟨rfl, e211⟩ := hQ211
  rw [e211] at X211
  show Gl p e below n0 _ _ (T211.setTop (mkF m 11 #[.val (.ref y0)] [(.int (0 : Int32))]))
  refine g_if_ne X211 hx hby own_d28_11 (by decide) (pc' := 32) (by decide) (pc2 := 14) rfl (fun q => absurd (by decide) q) (fun c11_212 => ?_)
  refine g_aloadN X211 hx hby own_d28_14 rfl rfl (pc' := 15) rfl ?_
  refine g_callV (argsL := []) (S := []) (a := y0) X211 hx hby hZ (y := (⟨"java/lang/String", "strip", "()Ljava/lang/String;"⟩ : MethodName)) (y' := (⟨"java/lang/String", "strip", "()Ljava/lang/String;"⟩ : MethodName)) hown (hw _ (List.mem_of_getElem? (i := 127) rfl)) (hw _ (List.mem_of_getElem? (i := 128) rfl)) (notFace_of_selects (args := #[]) (mvT hZ (hw _ (List.mem_of_getElem? (i := 130) rfl)))) (hw _ (List.mem_of_getElem? (i := 130) rfl)) (hw _ (List.mem_of_getElem? (i := 129) rfl)) (hw _ (List.mem_of_getElem? (i := 3) rfl)) (hw _ (List.mem_of_getElem? (i := 131) rfl)) (by decide) LE0 (own_st l Z a0 hw y0 h0 n0 n N f hN ⟨v0, LE0, LV0, LC0, LA0⟩ cs Sc hcs hpr hn1 hpos fm Sf hfm ci aa na g Si Ei Sa Aa hA) (by rw [hml]; rfl) (lenOf own_pd19 rfl) rfl own_d28_15 (by decide) (W := 0) (by exact Nat.le_of_eq rfl) (by decide) (by decide) (by decide) (pc' := 18) rfl (fun T213 v213 X213 hQ213 => ?_)
  obtain ⟨rfl, e213⟩ := hQ213
  rw [e213] at X213
  show Gl p e below n0 _ _ (T213.setTop (mkF m 18 #[.val (.ref y0)] [(.ref y0)]))
  refine g_callV (argsL := []) (S := []) (a := y0) X213 hx hby hZ (y := (⟨"java/lang/String", "length", "()I"⟩ : MethodName)) (y' := (⟨"java/lang/String", "length", "()I"⟩ : MethodName)) hown (hw _ (List.mem_of_getElem? (i := 74) rfl)) (hw _ (List.mem_of_getElem? (i := 75) rfl)) (notFace_of_selects (args := #[]) (mvT hZ (hw _ (List.mem_of_getElem? (i := 77) rfl)))) (hw _ (List.mem_of_getElem? (i := 77) rfl)) (hw _ (List.mem_of_getElem? (i := 76) rfl)) (hw _ (List.mem_of_getElem? (i := 3) rfl)) (hw _ (List.mem_of_getElem? (i := 78) rfl)) (by decide) LE0 (own_ln l Z a0 hw y0 h0 n0 n N f hN ⟨v0, LE0, LV0, LC0, LA0⟩ cs Sc hcs ) (by rw [hml]; rfl) (lenOf own_pd16 rfl) rfl own_d28_18 (by decide) (W := 0) (by exact Nat.le_of_eq rfl) (by decide) (by decide) (by decide) (pc' := 21) rfl (fun T214 v214 X214 hQ214 => ?_)
  obtain ⟨rfl, e214⟩ := hQ214
  rw [e214] at X214
  show Gl p e below n0 _ _ (T214.setTop (mkF m 21 #[.val (.ref y0)] [(.int N)]))
  refine g_aloadN X214 hx hby own_d28_21 rfl rfl (pc' := 22) rfl ?_
  refine g_callV (argsL := []) (S := [(.int N)]) (a := y0) X214 hx hby hZ (y := (⟨"java/lang/String", "length", "()I"⟩ : MethodName)) (y' := (⟨"java/lang/String", "length", "()I"⟩ : MethodName)) hown (hw _ (List.mem_of_getElem? (i := 74) rfl)) (hw _ (List.mem_of_getElem? (i := 75) rfl)) (notFace_of_selects (args := #[]) (mvT hZ (hw _ (List.mem_of_getElem? (i := 77) rfl)))) (hw _ (List.mem_of_getElem? (i := 77) rfl)) (hw _ (List.mem_of_getElem? (i := 76) rfl)) (hw _ (List.mem_of_getElem? (i := 3) rfl)) (hw _ (List.mem_of_getElem? (i := 78) rfl)) (by decide) LE0 (own_ln l Z a0 hw y0 h0 n0 n N f hN ⟨v0, LE0, LV0, LC0, LA0⟩ cs Sc hcs ) (by rw [hml]; rfl) (lenOf own_pd16 rfl) rfl own_d28_22 (by decide) (W := 1) (by exact Nat.le_of_eq rfl) (by decide) (by decide) (by decide) (pc' := 25) rfl (fun T215 v215 X215 hQ215 => ?_)
  obtain ⟨rfl, e215⟩ := hQ215
  rw [e215] at X215
  show Gl p e below n0 _ _ (T215.setTop (mkF m 25 #[.val (.ref y0)] [(.int N), (.int N)]))
  refine g_icmp_ne X215 hx hby own_d28_25 (by decide) (pc' := 32) (by decide) (pc2 := 28) rfl (fun q => absurd rfl q) (fun c25_216 => ?_)
  refine g_iconst (v := 1) X215 hx hby own_d28_28 rfl (pc' := 29) rfl ?_
  refine g_goto X215 hx hby own_d28_29 (by decide) (pc' := 33) (by decide) ?_
  exact g_retN X215 hx hby hret hlk (by simp) own_d28_33 ⟨rfl, rfl⟩ (by decide) (by decide)
set_option maxRecDepth 65536 in
set_option maxHeartbeats 40000000 in
theorem own_ef217 (m : MethodId) (y0 : Addr) (y1 : Addr)  : entryFrame m #[(.ref y0), (.ref y1)] 2 = mkF m 0 #[.val (.ref y0), .val (.ref y1)] [] := by first | (simp [entryFrame, mkF, argsToLocals, Value.category, maxLocals]; done) | rfl
theorem own_d29_0 : decode prog_17_method_3_code 0 = .ok (.aload_n 1, 1) := by decide +kernel
theorem own_d29_1 : decode prog_17_method_3_code 1 = .ok (.ifnonnull 4, 3) := by decide +kernel
theorem own_d29_5 : decode prog_17_method_3_code 5 = .ok (.aload_n 1, 1) := by decide +kernel
theorem own_d29_6 : decode prog_17_method_3_code 6 = .ok (.invokestatic 39, 3) := by decide +kernel
theorem own_d29_9 : decode prog_17_method_3_code 9 = .ok (.ifCond .ne 21, 3) := by decide +kernel
theorem own_d29_30 : decode prog_17_method_3_code 30 = .ok (.aload_n 1, 1) := by decide +kernel
theorem own_d29_31 : decode prog_17_method_3_code 31 = .ok (.invokestatic 45, 3) := by decide +kernel
theorem own_d29_34 : decode prog_17_method_3_code 34 = .ok (.ifCond .eq 21, 3) := by decide +kernel
theorem own_d29_55 : decode prog_17_method_3_code 55 = .ok (.return_, 1) := by decide +kernel
set_option maxRecDepth 65536 in
set_option maxHeartbeats 40000000 in
theorem own_cv (l : Launch) (Z : State) (a0 : Array Value) (hw : ∀ d ∈ tables_1, d.before a0 Z = true) (y0 y1 : Addr) (h0 : Heap) (n0 : Nat) (n : Nat) (N : Int32) (f : Nat → Int32) (hN : N.toInt = (n : Int)) (P0 : Lat Z h0 y1 n f) (cs : Int32) (Sc : Sta Z h0 "java/lang/String" "COMPACT_STRINGS" "Z" (.int cs)) (hcs : ¬ cs = 0) (hpr : ∀ i, i < n → Prt (f i)) (hn1 : 1 ≤ n) (hpos : ¬ N = 0) (fm : Value) (Sf : Sta Z h0 "jdk/internal/util/Preconditions" "SIOOBE_FORMATTER" "Ljava/util/function/BiFunction;" fm) (hfm : fm.isRef = true) (ci aa : Addr) (na : Nat) (g : Nat → Value) (Si : Sta Z h0 "java/lang/CharacterDataLatin1" "instance" "Ljava/lang/CharacterDataLatin1;" (.ref ci)) (Ei : Exa Z h0 ci "java/lang/CharacterDataLatin1") (Sa : Sta Z h0 "java/lang/CharacterDataLatin1" "A" "[I" (.ref aa)) (Aa : Ary Z h0 aa .int na g) (hA : (∀ i, 33 ≤ i → i < 127 → i < na ∧ ∃ z : Int32, g i = .int z ∧ ¬ (z &&& (28672 : Int32)) = 16384)) :
    Ctr l Z (⟨"com/example/filingledger/filingledger/RecordField", "checkValue", "(Ljava/lang/String;Ljava/lang/String;)V"⟩ : MethodName) prog_17_method_3_code 2 none [] (own_room 6 0 0 92) #[(.ref y0), (.ref y1)] h0 n0 0 0 (fun v h => v = none ∧ h = h0) := by
  refine Ctr.of (plainFor_of_name own_pn7) ?_
  intro p e s m below meth c T0 hx hby hml hret hlk hnm hown hZ X0
  rw [own_ef217 m (y0) (y1)]
  obtain ⟨v0, LE0, LV0, LC0, LA0⟩ := P0
  refine g_aloadN X0 hx hby own_d29_0 rfl rfl (pc' := 1) rfl ?_
  refine g_ifnonnull_y X0 hx hby own_d29_1 (by decide) (pc' := 5) (by decide) ?_
  refine g_aloadN X0 hx hby own_d29_5 rfl rfl (pc' := 6) rfl ?_
  refine g_callS (argsL := [(.ref y1)]) (S := []) X0 hx hby hZ (y := (⟨"com/example/filingledger/filingledger/RecordField", "isOneTrimmedLine", "(Ljava/lang/String;)Z"⟩ : MethodName)) hown (hw _ (List.mem_of_getElem? (i := 118) rfl)) (hw _ (List.mem_of_getElem? (i := 119) rfl)) (hw _ (List.mem_of_getElem? (i := 29) rfl)) (hw _ (List.mem_of_getElem? (i := 120) rfl)) (by decide) (own_ot l Z a0 hw y1 h0 n0 n N f hN ⟨v0, LE0, LV0, LC0, LA0⟩ cs Sc hcs hpr hn1 hpos fm Sf hfm ci aa na g Si Ei Sa Aa hA) (by rw [hml]; rfl) (lenOf own_pd18 rfl) rfl own_d29_6 (by decide) (W := 0) (by exact Nat.le_of_eq rfl) (by decide) (by decide) (by decide) (pc' := 9) rfl (fun T218 v218 X218 hQ218 => ?_)
  obtain ⟨rfl, e218⟩ := hQ218
  rw [e218] at X218
  show Gl p e below n0 _ _ (T218.setTop (mkF m 9 #[.val (.ref y0), .val (.ref y1)] [(.int (1 : Int32))]))
  refine g_if_ne X218 hx hby own_d29_9 (by decide) (pc' := 30) (by decide) (pc2 := 12) rfl (fun c9_219 => ?_) (fun q => absurd q (by decide))
  refine g_aloadN X218 hx hby own_d29_30 rfl rfl (pc' := 31) rfl ?_
  refine g_callS (argsL := [(.ref y1)]) (S := []) X218 hx hby hZ (y := (⟨"com/example/filingledger/filingledger/Text", "hasControl", "(Ljava/lang/String;)Z"⟩ : MethodName)) hown (hw _ (List.mem_of_getElem? (i := 157) rfl)) (hw _ (List.mem_of_getElem? (i := 158) rfl)) (hw _ (List.mem_of_getElem? (i := 123) rfl)) (hw _ (List.mem_of_getElem? (i := 159) rfl)) (by decide) (own_hc l Z a0 hw y1 h0 n0 n N f hN ⟨v0, LE0, LV0, LC0, LA0⟩ cs Sc hcs hpr hn1 hpos fm Sf hfm ci aa na g Si Ei Sa Aa hA) (by rw [hml]; rfl) (lenOf own_pd18 rfl) rfl own_d29_31 (by decide) (W := 0) (by exact Nat.le_of_eq rfl) (by decide) (by decide) (by decide) (pc' := 34) rfl (fun T220 v220 X220 hQ220 => ?_)
  obtain ⟨rfl, e220⟩ := hQ220
  rw [e220] at X220
  show Gl p e below n0 _ _ (T220.setTop (mkF m 34 #[.val (.ref y0), .val (.ref y1)] [(.int (0 : Int32))]))
  refine g_if_eq X220 hx hby own_d29_34 (by decide) (pc' := 55) (by decide) (pc2 := 37) rfl (fun c34_221 => ?_) (fun q => absurd (by decide) q)
  exact g_ret X220 hx hby hret hlk own_d29_55 ⟨rfl, rfl⟩ (by decide) (by decide)
set_option maxRecDepth 65536 in
set_option maxHeartbeats 40000000 in
theorem own_ef222 (m : MethodId) (y0 : Addr)  : entryFrame m #[(.ref y0), .null] 2 = mkF m 0 #[.val (.ref y0), .val .null] [] := by first | (simp [entryFrame, mkF, argsToLocals, Value.category, maxLocals]; done) | rfl
theorem own_d29_4 : decode prog_17_method_3_code 4 = .ok (.return_, 1) := by decide +kernel
set_option maxRecDepth 65536 in
set_option maxHeartbeats 40000000 in
theorem own_cvN (l : Launch) (Z : State) (a0 : Array Value) (hw : ∀ d ∈ tables_1, d.before a0 Z = true) (y0 : Addr) (h0 : Heap) (n0 : Nat)  :
    Ctr l Z (⟨"com/example/filingledger/filingledger/RecordField", "checkValue", "(Ljava/lang/String;Ljava/lang/String;)V"⟩ : MethodName) prog_17_method_3_code 2 none [] (own_room 6 0 0 92) #[(.ref y0), .null] h0 n0 0 0 (fun v h => v = none ∧ h = h0) := by
  refine Ctr.of (plainFor_of_name own_pn7) ?_
  intro p e s m below meth c T0 hx hby hml hret hlk hnm hown hZ X0
  rw [own_ef222 m (y0)]
  refine g_aloadN X0 hx hby own_d29_0 rfl rfl (pc' := 1) rfl ?_
  refine g_ifnonnull_n X0 hx hby own_d29_1 (pc' := 4) rfl ?_
  exact g_ret X0 hx hby hret hlk own_d29_4 ⟨rfl, rfl⟩ (by decide) (by decide)
set_option maxRecDepth 65536 in
set_option maxHeartbeats 40000000 in
theorem own_ef223 (m : MethodId) (y0 : Int32)  : entryFrame m #[(.int y0)] 1 = mkF m 0 #[.val (.int y0)] [] := by first | (simp [entryFrame, mkF, argsToLocals, Value.category, maxLocals]; done) | rfl
theorem own_d30_0 : decode prog_17_method_13_code 0 = .ok (.iload_n 0, 1) := by decide +kernel
theorem own_d30_1 : decode prog_17_method_13_code 1 = .ok (.bipush 97, 2) := by decide +kernel
theorem own_d30_3 : decode prog_17_method_13_code 3 = .ok (.if_icmp .lt 13, 3) := by decide +kernel
theorem own_d30_6 : decode prog_17_method_13_code 6 = .ok (.iload_n 0, 1) := by decide +kernel
theorem own_d30_7 : decode prog_17_method_13_code 7 = .ok (.bipush 122, 2) := by decide +kernel
theorem own_d30_9 : decode prog_17_method_13_code 9 = .ok (.if_icmp .gt 7, 3) := by decide +kernel
theorem own_d30_12 : decode prog_17_method_13_code 12 = .ok (.iconst 1, 1) := by decide +kernel
theorem own_d30_13 : decode prog_17_method_13_code 13 = .ok (.goto 4, 3) := by decide +kernel
theorem own_d30_17 : decode prog_17_method_13_code 17 = .ok (.ireturn, 1) := by decide +kernel
set_option maxRecDepth 65536 in
set_option maxHeartbeats 40000000 in
theorem own_lo (l : Launch) (Z : State) (a0 : Array Value) (hw : ∀ d ∈ tables_1, d.before a0 Z = true) (y0 : Int32) (h0 : Heap) (n0 : Nat) (hx0 : 97 ≤ y0.toInt ∧ y0.toInt ≤ 122) :
    Ctr l Z (⟨"com/example/filingledger/filingledger/RecordField", "isLowerCaseLetter", "(C)Z"⟩ : MethodName) prog_17_method_13_code 1 (some .boolean) [] (own_room 0 0 0 0) #[(.int y0)] h0 n0 0 0 (fun v h => v = some (.int 1) ∧ h = h0) := by
  refine Ctr.of (plainFor_of_name own_pn7) ?_
  intro p e s m below meth c T0 hx hby hml hret hlk hnm hown hZ X0
  rw [own_ef223 m (y0)]
  refine g_iloadN X0 hx hby own_d30_0 rfl (pc' := 1) rfl ?_
  refine g_bipush (v := 97) X0 hx hby own_d30_1 rfl (pc' := 3) rfl ?_
  refine g_icmp_lt X0 hx hby own_d30_3 (by decide) (pc' := 16) (by decide) (pc2 := 6) rfl (fun q => absurd q (own_nlt hx0.1)) (fun c3_224 => ?_)
  refine g_iloadN X0 hx hby own_d30_6 rfl (pc' := 7) rfl ?_
  refine g_bipush (v := 122) X0 hx hby own_d30_7 rfl (pc' := 9) rfl ?_
  refine g_icmp_gt X0 hx hby own_d30_9 (by decide) (pc' := 16) (by decide) (pc2 := 12) rfl (fun q => absurd q (own_nlt hx0.2)) (fun c9_225 => ?_)
  refine g_iconst (v := 1) X0 hx hby own_d30_12 rfl (pc' := 13) rfl ?_
  refine g_goto X0 hx hby own_d30_13 (by decide) (pc' := 17) (by decide) ?_
  exact g_retN X0 hx hby hret hlk (by simp) own_d30_17 ⟨rfl, rfl⟩ (by decide) (by decide)
set_option maxRecDepth 65536 in
set_option maxHeartbeats 40000000 in
theorem own_ef226 (m : MethodId) (y0 : Addr)  : entryFrame m #[(.ref y0)] 3 = mkF m 0 #[.val (.ref y0), .unset, .unset] [] := by first | (simp [entryFrame, mkF, argsToLocals, Value.category, maxLocals]; done) | rfl
theorem own_d31_0 : decode prog_17_method_12_code 0 = .ok (.aload_n 0, 1) := by decide +kernel
theorem own_d31_1 : decode prog_17_method_12_code 1 = .ok (.invokevirtual 118, 3) := by decide +kernel
theorem own_d31_4 : decode prog_17_method_12_code 4 = .ok (.ifCond .ne 14, 3) := by decide +kernel
theorem own_d31_7 : decode prog_17_method_12_code 7 = .ok (.aload_n 0, 1) := by decide +kernel
theorem own_d31_8 : decode prog_17_method_12_code 8 = .ok (.iconst 0, 1) := by decide +kernel
theorem own_d31_9 : decode prog_17_method_12_code 9 = .ok (.invokevirtual 105, 3) := by decide +kernel
theorem own_d31_12 : decode prog_17_method_12_code 12 = .ok (.invokestatic 121, 3) := by decide +kernel
theorem own_d31_15 : decode prog_17_method_12_code 15 = .ok (.ifCond .ne 5, 3) := by decide +kernel
theorem own_d31_20 : decode prog_17_method_12_code 20 = .ok (.iconst 1, 1) := by decide +kernel
theorem own_d31_21 : decode prog_17_method_12_code 21 = .ok (.istore_n 1, 1) := by decide +kernel
theorem own_d31_22 : decode prog_17_method_12_code 22 = .ok (.iload_n 1, 1) := by decide +kernel
theorem own_d31_23 : decode prog_17_method_12_code 23 = .ok (.aload_n 0, 1) := by decide +kernel
theorem own_d31_24 : decode prog_17_method_12_code 24 = .ok (.invokevirtual 82, 3) := by decide +kernel
theorem own_d31_27 : decode prog_17_method_12_code 27 = .ok (.if_icmp .ge 42, 3) := by decide +kernel
theorem own_d31_69 : decode prog_17_method_12_code 69 = .ok (.iconst 1, 1) := by decide +kernel
theorem own_d31_70 : decode prog_17_method_12_code 70 = .ok (.ireturn, 1) := by decide +kernel
set_option maxRecDepth 65536 in
set_option maxHeartbeats 40000000 in
theorem own_na (l : Launch) (Z : State) (a0 : Array Value) (hw : ∀ d ∈ tables_1, d.before a0 Z = true) (y0 : Addr) (h0 : Heap) (n0 : Nat) (x : Int32) (hx0 : 97 ≤ x.toInt ∧ x.toInt ≤ 122) (P0 : Lat Z h0 y0 1 (fun _ => x)) (cs : Int32) (Sc : Sta Z h0 "java/lang/String" "COMPACT_STRINGS" "Z" (.int cs)) (hcs : ¬ cs = 0) (fm : Value) (Sf : Sta Z h0 "jdk/internal/util/Preconditions" "SIOOBE_FORMATTER" "Ljava/util/function/BiFunction;" fm) (hfm : fm.isRef = true) :
    Ctr l Z (⟨"com/example/filingledger/filingledger/RecordField", "isName", "(Ljava/lang/String;)Z"⟩ : MethodName) prog_17_method_12_code 3 (some .boolean) [] (own_room 4 0 0 55) #[(.ref y0)] h0 n0 0 0 (fun v h => v = some (.int 1) ∧ h = h0) := by
  refine Ctr.of (plainFor_of_name own_pn7) ?_
  intro p e s m below meth c T0 hx hby hml hret hlk hnm hown hZ X0
  rw [own_ef226 m (y0)]
  obtain ⟨v0, LE0, LV0, LC0, LA0⟩ := P0
  refine g_aloadN X0 hx hby own_d31_0 rfl rfl (pc' := 1) rfl ?_
  refine g_callV (argsL := []) (S := []) (a := y0) X0 hx hby hZ (y := (⟨"java/lang/String", "isEmpty", "()Z"⟩ : MethodName)) (y' := (⟨"java/lang/String", "isEmpty", "()Z"⟩ : MethodName)) hown (hw _ (List.mem_of_getElem? (i := 45) rfl)) (hw _ (List.mem_of_getElem? (i := 46) rfl)) (notFace_of_selects (args := #[]) (mvT hZ (hw _ (List.mem_of_getElem? (i := 48) rfl)))) (hw _ (List.mem_of_getElem? (i := 48) rfl)) (hw _ (List.mem_of_getElem? (i := 47) rfl)) (hw _ (List.mem_of_getElem? (i := 3) rfl)) (hw _ (List.mem_of_getElem? (i := 49) rfl)) (by decide) LE0 (own_ie l Z a0 hw y0 h0 n0 1 (1 : Int32) (fun _ => x) rfl ⟨v0, LE0, LV0, LC0, LA0⟩ cs Sc hcs (by decide)) (by rw [hml]; rfl) (lenOf own_pd6 rfl) rfl own_d31_1 (by decide) (W := 0) (by exact Nat.le_of_eq rfl) (by decide) (by decide) (by decide) (pc' := 4) rfl (fun T227 v227 X227 hQ227 => ?_)
  obtain ⟨rfl, e227⟩ := hQ227
  rw [e227] at X227
  show Gl p e below n0 _ _ (T227.setTop (mkF m 4 #[.val (.ref y0), .unset, .unset] [(.int (0 : Int32))]))
  refine g_if_ne X227 hx hby own_d31_4 (by decide) (pc' := 18) (by decide) (pc2 := 7) rfl (fun q => absurd (by decide) q) (fun c4_228 => ?_)
  refine g_aloadN X227 hx hby own_d31_7 rfl rfl (pc' := 8) rfl ?_
  refine g_iconst (v := 0) X227 hx hby own_d31_8 rfl (pc' := 9) rfl ?_
  refine g_callV (argsL := [(.int (0 : Int32))]) (S := []) (a := y0) X227 hx hby hZ (y := (⟨"java/lang/String", "charAt", "(I)C"⟩ : MethodName)) (y' := (⟨"java/lang/String", "charAt", "(I)C"⟩ : MethodName)) hown (hw _ (List.mem_of_getElem? (i := 50) rfl)) (hw _ (List.mem_of_getElem? (i := 51) rfl)) (notFace_of_selects (args := #[]) (mvT hZ (hw _ (List.mem_of_getElem? (i := 53) rfl)))) (hw _ (List.mem_of_getElem? (i := 53) rfl)) (hw _ (List.mem_of_getElem? (i := 52) rfl)) (hw _ (List.mem_of_getElem? (i := 3) rfl)) (hw _ (List.mem_of_getElem? (i := 54) rfl)) (by decide) LE0 (own_ca l Z a0 hw y0 (0 : Int32) h0 n0 1 (1 : Int32) (fun _ => x) rfl ⟨v0, LE0, LV0, LC0, LA0⟩ cs Sc hcs 0 rfl (by decide) fm Sf hfm) (by rw [hml]; rfl) (lenOf own_pd17 rfl) rfl own_d31_9 (by decide) (W := 0) (by exact Nat.le_of_eq rfl) (by decide) (by decide) (by decide) (pc' := 12) rfl (fun T229 v229 X229 hQ229 => ?_)
  obtain ⟨rfl, e229⟩ := hQ229
  rw [e229] at X229
  show Gl p e below n0 _ _ (T229.setTop (mkF m 12 #[.val (.ref y0), .unset, .unset] [(.int (((fun _ => x)) 0 &&& (255 : Int32)))]))
  show Gl p e below n0 _ _ (T229.setTop (mkF m 12 #[.val (.ref y0), .unset, .unset] [(.int (x &&& (255 : Int32)))]))
  rw [Prt.and x ⟨by omega, by omega⟩]
  refine g_callS (argsL := [(.int x)]) (S := []) X229 hx hby hZ (y := (⟨"com/example/filingledger/filingledger/RecordField", "isLowerCaseLetter", "(C)Z"⟩ : MethodName)) hown (hw _ (List.mem_of_getElem? (i := 71) rfl)) (hw _ (List.mem_of_getElem? (i := 72) rfl)) (hw _ (List.mem_of_getElem? (i := 29) rfl)) (hw _ (List.mem_of_getElem? (i := 73) rfl)) (by decide) (own_lo l Z a0 hw x h0 n0 hx0) (by rw [hml]; rfl) (lenOf own_pd0 rfl) rfl own_d31_12 (by decide) (W := 0) (by exact Nat.le_of_eq rfl) (by decide) (by decide) (by decide) (pc' := 15) rfl (fun T230 v230 X230 hQ230 => ?_)
  obtain ⟨rfl, e230⟩ := hQ230
  rw [e230] at X230
  show Gl p e below n0 _ _ (T230.setTop (mkF m 15 #[.val (.ref y0), .unset, .unset] [(.int (1 : Int32))]))
  refine g_if_ne X230 hx hby own_d31_15 (by decide) (pc' := 20) (by decide) (pc2 := 18) rfl (fun c15_231 => ?_) (fun q => absurd q (by decide))
  refine g_iconst (v := 1) X230 hx hby own_d31_20 rfl (pc' := 21) rfl ?_
  refine g_istoreN (L' := #[.val (.ref y0), .val (.int (1 : Int32)), .unset]) X230 hx hby own_d31_21 rfl (pc' := 22) rfl ?_
  refine g_iloadN X230 hx hby own_d31_22 rfl (pc' := 23) rfl ?_
  refine g_aloadN X230 hx hby own_d31_23 rfl rfl (pc' := 24) rfl ?_
  refine g_callV (argsL := []) (S := [(.int (1 : Int32))]) (a := y0) X230 hx hby hZ (y := (⟨"java/lang/String", "length", "()I"⟩ : MethodName)) (y' := (⟨"java/lang/String", "length", "()I"⟩ : MethodName)) hown (hw _ (List.mem_of_getElem? (i := 74) rfl)) (hw _ (List.mem_of_getElem? (i := 75) rfl)) (notFace_of_selects (args := #[]) (mvT hZ (hw _ (List.mem_of_getElem? (i := 77) rfl)))) (hw _ (List.mem_of_getElem? (i := 77) rfl)) (hw _ (List.mem_of_getElem? (i := 76) rfl)) (hw _ (List.mem_of_getElem? (i := 3) rfl)) (hw _ (List.mem_of_getElem? (i := 78) rfl)) (by decide) LE0 (own_ln l Z a0 hw y0 h0 n0 1 (1 : Int32) (fun _ => x) rfl ⟨v0, LE0, LV0, LC0, LA0⟩ cs Sc hcs ) (by rw [hml]; rfl) (lenOf own_pd16 rfl) rfl own_d31_24 (by decide) (W := 1) (by exact Nat.le_of_eq rfl) (by decide) (by decide) (by decide) (pc' := 27) rfl (fun T232 v232 X232 hQ232 => ?_)
  obtain ⟨rfl, e232⟩ := hQ232
  rw [e232] at X232
  show Gl p e below n0 _ _ (T232.setTop (mkF m 27 #[.val (.ref y0), .val (.int (1 : Int32)), .unset] [(.int (1 : Int32)), (.int (1 : Int32))]))
  refine g_icmp_ge X232 hx hby own_d31_27 (by decide) (pc' := 69) (by decide) (pc2 := 30) rfl (fun c27_233 => ?_) (fun q => absurd q (by decide))
  refine g_iconst (v := 1) X232 hx hby own_d31_69 rfl (pc' := 70) rfl ?_
  exact g_retN X232 hx hby hret hlk (by simp) own_d31_70 ⟨rfl, rfl⟩ (by decide) (by decide)
set_option maxRecDepth 65536 in
set_option maxHeartbeats 40000000 in
theorem own_ef234 (m : MethodId) (y0 : Addr)  : entryFrame m #[(.ref y0)] 1 = mkF m 0 #[.val (.ref y0)] [] := by first | (simp [entryFrame, mkF, argsToLocals, Value.category, maxLocals]; done) | rfl
theorem own_d32_0 : decode prog_17_method_2_code 0 = .ok (.aload_n 0, 1) := by decide +kernel
theorem own_d32_1 : decode prog_17_method_2_code 1 = .ok (.ifnull 10, 3) := by decide +kernel
theorem own_d32_4 : decode prog_17_method_2_code 4 = .ok (.aload_n 0, 1) := by decide +kernel
theorem own_d32_5 : decode prog_17_method_2_code 5 = .ok (.invokestatic 24, 3) := by decide +kernel
theorem own_d32_8 : decode prog_17_method_2_code 8 = .ok (.ifCond .ne 20, 3) := by decide +kernel
theorem own_d32_28 : decode prog_17_method_2_code 28 = .ok (.return_, 1) := by decide +kernel
set_option maxRecDepth 65536 in
set_option maxHeartbeats 40000000 in
theorem own_cn (l : Launch) (Z : State) (a0 : Array Value) (hw : ∀ d ∈ tables_1, d.before a0 Z = true) (y0 : Addr) (h0 : Heap) (n0 : Nat) (x : Int32) (hx0 : 97 ≤ x.toInt ∧ x.toInt ≤ 122) (P0 : Lat Z h0 y0 1 (fun _ => x)) (cs : Int32) (Sc : Sta Z h0 "java/lang/String" "COMPACT_STRINGS" "Z" (.int cs)) (hcs : ¬ cs = 0) (fm : Value) (Sf : Sta Z h0 "jdk/internal/util/Preconditions" "SIOOBE_FORMATTER" "Ljava/util/function/BiFunction;" fm) (hfm : fm.isRef = true) :
    Ctr l Z (⟨"com/example/filingledger/filingledger/RecordField", "checkName", "(Ljava/lang/String;)V"⟩ : MethodName) prog_17_method_2_code 1 none [] (own_room 5 0 0 69) #[(.ref y0)] h0 n0 0 0 (fun v h => v = none ∧ h = h0) := by
  refine Ctr.of (plainFor_of_name own_pn7) ?_
  intro p e s m below meth c T0 hx hby hml hret hlk hnm hown hZ X0
  rw [own_ef234 m (y0)]
  obtain ⟨v0, LE0, LV0, LC0, LA0⟩ := P0
  refine g_aloadN X0 hx hby own_d32_0 rfl rfl (pc' := 1) rfl ?_
  refine g_ifnull_n X0 hx hby own_d32_1 (pc' := 4) rfl ?_
  refine g_aloadN X0 hx hby own_d32_4 rfl rfl (pc' := 5) rfl ?_
  refine g_callS (argsL := [(.ref y0)]) (S := []) X0 hx hby hZ (y := (⟨"com/example/filingledger/filingledger/RecordField", "isName", "(Ljava/lang/String;)Z"⟩ : MethodName)) hown (hw _ (List.mem_of_getElem? (i := 42) rfl)) (hw _ (List.mem_of_getElem? (i := 43) rfl)) (hw _ (List.mem_of_getElem? (i := 29) rfl)) (hw _ (List.mem_of_getElem? (i := 44) rfl)) (by decide) (own_na l Z a0 hw y0 h0 n0 x hx0 ⟨v0, LE0, LV0, LC0, LA0⟩ cs Sc hcs fm Sf hfm) (by rw [hml]; rfl) (lenOf own_pd18 rfl) rfl own_d32_5 (by decide) (W := 0) (by exact Nat.le_of_eq rfl) (by decide) (by decide) (by decide) (pc' := 8) rfl (fun T235 v235 X235 hQ235 => ?_)
  obtain ⟨rfl, e235⟩ := hQ235
  rw [e235] at X235
  show Gl p e below n0 _ _ (T235.setTop (mkF m 8 #[.val (.ref y0)] [(.int (1 : Int32))]))
  refine g_if_ne X235 hx hby own_d32_8 (by decide) (pc' := 28) (by decide) (pc2 := 11) rfl (fun c8_236 => ?_) (fun q => absurd q (by decide))
  exact g_ret X235 hx hby hret hlk own_d32_28 ⟨rfl, rfl⟩ (by decide) (by decide)
set_option maxRecDepth 65536 in
set_option maxHeartbeats 40000000 in
theorem own_ef237 (m : MethodId) (y0 : Addr)  : entryFrame m #[(.ref y0)] 1 = mkF m 0 #[.val (.ref y0)] [] := by first | (simp [entryFrame, mkF, argsToLocals, Value.category, maxLocals]; done) | rfl
theorem own_pn8 : plainName "java/lang/Record" = true := by first | (simp [plainName, overriddenIn]; done) | decide +kernel
theorem own_d33_0 : decode jdk_30_method_1_code 0 = .ok (.aload_n 0, 1) := by decide +kernel
theorem own_d33_1 : decode jdk_30_method_1_code 1 = .ok (.invokespecial 1, 3) := by decide +kernel
theorem own_d33_4 : decode jdk_30_method_1_code 4 = .ok (.return_, 1) := by decide +kernel
set_option maxRecDepth 65536 in
set_option maxHeartbeats 40000000 in
theorem own_rc (l : Launch) (Z : State) (a0 : Array Value) (hw : ∀ d ∈ tables_1, d.before a0 Z = true) (y0 : Addr) (h0 : Heap) (n0 : Nat)  :
    Ctr l Z (⟨"java/lang/Record", "<init>", "()V"⟩ : MethodName) jdk_30_method_1_code 1 none [] (own_room 1 0 0 12) #[(.ref y0)] h0 n0 0 0 (fun v h => v = none ∧ h = h0) := by
  refine Ctr.of (plainFor_of_name own_pn8) ?_
  intro p e s m below meth c T0 hx hby hml hret hlk hnm hown hZ X0
  rw [own_ef237 m (y0)]
  refine g_aloadN X0 hx hby own_d33_0 rfl rfl (pc' := 1) rfl ?_
  refine g_initO X0 hx hby hZ (W := 0) hown (hw _ (List.mem_of_getElem? (i := 38) rfl)) (hw _ (List.mem_of_getElem? (i := 21) rfl)) (hw _ (List.mem_of_getElem? (i := 22) rfl)) (by rw [hml]; rfl) own_d33_1 (by decide) (by exact Nat.le_of_eq rfl) (by decide) (pc' := 4) rfl (fun T238 X238 => ?_)
  exact g_ret X238 hx hby hret hlk own_d33_4 ⟨rfl, rfl⟩ (by decide) (by decide)
set_option maxRecDepth 65536 in
set_option maxHeartbeats 40000000 in
theorem own_ef239 (m : MethodId) (y0 : Addr) (y1 : Addr)  : entryFrame m #[(.ref y0), (.ref y1), .null] 3 = mkF m 0 #[.val (.ref y0), .val (.ref y1), .val .null] [] := by first | (simp [entryFrame, mkF, argsToLocals, Value.category, maxLocals]; done) | rfl
theorem own_d34_0 : decode prog_17_method_1_code 0 = .ok (.aload_n 0, 1) := by decide +kernel
theorem own_d34_1 : decode prog_17_method_1_code 1 = .ok (.invokespecial 1, 3) := by decide +kernel
theorem own_pd20 : parseMethodDescriptor "()V" = some ⟨[], none⟩ := by decide +kernel
theorem own_d34_4 : decode prog_17_method_1_code 4 = .ok (.aload_n 1, 1) := by decide +kernel
theorem own_d34_5 : decode prog_17_method_1_code 5 = .ok (.invokestatic 7, 3) := by decide +kernel
theorem own_pd21 : parseMethodDescriptor "(Ljava/lang/String;)V" = some ⟨[(.object "java/lang/String")], none⟩ := by decide +kernel
theorem own_d34_8 : decode prog_17_method_1_code 8 = .ok (.aload_n 1, 1) := by decide +kernel
theorem own_d34_9 : decode prog_17_method_1_code 9 = .ok (.aload_n 2, 1) := by decide +kernel
theorem own_d34_10 : decode prog_17_method_1_code 10 = .ok (.invokestatic 13, 3) := by decide +kernel
theorem own_pd22 : parseMethodDescriptor "(Ljava/lang/String;Ljava/lang/String;)V" = some ⟨[(.object "java/lang/String"), (.object "java/lang/String")], none⟩ := by decide +kernel
theorem own_d34_13 : decode prog_17_method_1_code 13 = .ok (.aload_n 0, 1) := by decide +kernel
theorem own_d34_14 : decode prog_17_method_1_code 14 = .ok (.aload_n 1, 1) := by decide +kernel
theorem own_d34_15 : decode prog_17_method_1_code 15 = .ok (.putfield 17, 3) := by decide +kernel
theorem own_d34_18 : decode prog_17_method_1_code 18 = .ok (.aload_n 0, 1) := by decide +kernel
theorem own_d34_19 : decode prog_17_method_1_code 19 = .ok (.aload_n 2, 1) := by decide +kernel
theorem own_d34_20 : decode prog_17_method_1_code 20 = .ok (.putfield 21, 3) := by decide +kernel
theorem own_d34_23 : decode prog_17_method_1_code 23 = .ok (.return_, 1) := by decide +kernel
set_option maxRecDepth 65536 in
set_option maxHeartbeats 40000000 in
theorem own_riN (l : Launch) (Z : State) (a0 : Array Value) (hw : ∀ d ∈ tables_1, d.before a0 Z = true) (y0 y1 : Addr) (h0 : Heap) (n0 : Nat) (Z0 : n0 ≤ h0.size) (Ex : Exa Z h0 y0 "com/example/filingledger/filingledger/RecordField") (F_name : Fld Z h0 y0 "com/example/filingledger/filingledger/RecordField" "name" "Ljava/lang/String;" .null) (F_value : Fld Z h0 y0 "com/example/filingledger/filingledger/RecordField" "value" "Ljava/lang/String;" .null) (gn : n0 ≤ y0) (x : Int32) (hx0 : 97 ≤ x.toInt ∧ x.toInt ≤ 122) (P1 : Lat Z h0 y1 1 (fun _ => x)) (cs : Int32) (Sc : Sta Z h0 "java/lang/String" "COMPACT_STRINGS" "Z" (.int cs)) (hcs : ¬ cs = 0) (fm : Value) (Sf : Sta Z h0 "jdk/internal/util/Preconditions" "SIOOBE_FORMATTER" "Ljava/util/function/BiFunction;" fm) (hfm : fm.isRef = true) (ci aa : Addr) (na : Nat) (g : Nat → Value) (Si : Sta Z h0 "java/lang/CharacterDataLatin1" "instance" "Ljava/lang/CharacterDataLatin1;" (.ref ci)) (Ei : Exa Z h0 ci "java/lang/CharacterDataLatin1") (Sa : Sta Z h0 "java/lang/CharacterDataLatin1" "A" "[I" (.ref aa)) (Aa : Ary Z h0 aa .int na g) (hA : (∀ i, 33 ≤ i → i < 127 → i < na ∧ ∃ z : Int32, g i = .int z ∧ ¬ (z &&& (28672 : Int32)) = 16384)) :
    Ctr l Z (⟨"com/example/filingledger/filingledger/RecordField", "<init>", "(Ljava/lang/String;Ljava/lang/String;)V"⟩ : MethodName) prog_17_method_1_code 3 none [] (own_room 7 0 0 105) #[(.ref y0), (.ref y1), .null] h0 n0 0 0 (fun v h => v = none ∧ Keep h0 h [y0] ∧ Fld Z h y0 "com/example/filingledger/filingledger/RecordField" "value" "Ljava/lang/String;" .null) := by
  refine Ctr.of (plainFor_of_name own_pn7) ?_
  intro p e s m below meth c T0 hx hby hml hret hlk hnm hown hZ X0
  rw [own_ef239 m (y0) (y1)]
  refine g_aloadN X0 hx hby own_d34_0 rfl rfl (pc' := 1) rfl ?_
  refine g_callC (argsL := []) (S := []) (a := y0) X0 hx hby hZ (y := (⟨"java/lang/Record", "<init>", "()V"⟩ : MethodName)) rfl hown (hw _ (List.mem_of_getElem? (i := 33) rfl)) (hw _ (List.mem_of_getElem? (i := 34) rfl)) (hw _ (List.mem_of_getElem? (i := 36) rfl)) (hw _ (List.mem_of_getElem? (i := 37) rfl)) (by decide) (own_rc l Z a0 hw y0 h0 n0) (by rw [hml]; rfl) (lenOf own_pd20 rfl) rfl own_d34_1 (by decide) (W := 0) (by exact Nat.le_of_eq rfl) (by decide) (by decide) (by decide) (pc' := 4) rfl (fun T240 v240 X240 hQ240 => ?_)
  obtain ⟨rfl, e240⟩ := hQ240
  rw [e240] at X240
  show Gl p e below n0 _ _ (T240.setTop (mkF m 4 #[.val (.ref y0), .val (.ref y1), .val .null] []))
  refine g_aloadN X240 hx hby own_d34_4 rfl rfl (pc' := 5) rfl ?_
  refine g_callS (argsL := [(.ref y1)]) (S := []) X240 hx hby hZ (y := (⟨"com/example/filingledger/filingledger/RecordField", "checkName", "(Ljava/lang/String;)V"⟩ : MethodName)) hown (hw _ (List.mem_of_getElem? (i := 39) rfl)) (hw _ (List.mem_of_getElem? (i := 40) rfl)) (hw _ (List.mem_of_getElem? (i := 29) rfl)) (hw _ (List.mem_of_getElem? (i := 41) rfl)) (by decide) (own_cn l Z a0 hw y1 h0 n0 x hx0 P1 cs Sc hcs fm Sf hfm) (by rw [hml]; rfl) (lenOf own_pd21 rfl) rfl own_d34_5 (by decide) (W := 0) (by exact Nat.le_of_eq rfl) (by decide) (by decide) (by decide) (pc' := 8) rfl (fun T241 v241 X241 hQ241 => ?_)
  obtain ⟨rfl, e241⟩ := hQ241
  rw [e241] at X241
  show Gl p e below n0 _ _ (T241.setTop (mkF m 8 #[.val (.ref y0), .val (.ref y1), .val .null] []))
  refine g_aloadN X241 hx hby own_d34_8 rfl rfl (pc' := 9) rfl ?_
  refine g_aloadN X241 hx hby own_d34_9 rfl rfl (pc' := 10) rfl ?_
  refine g_callS (argsL := [(.ref y1), .null]) (S := []) X241 hx hby hZ (y := (⟨"com/example/filingledger/filingledger/RecordField", "checkValue", "(Ljava/lang/String;Ljava/lang/String;)V"⟩ : MethodName)) hown (hw _ (List.mem_of_getElem? (i := 84) rfl)) (hw _ (List.mem_of_getElem? (i := 85) rfl)) (hw _ (List.mem_of_getElem? (i := 29) rfl)) (hw _ (List.mem_of_getElem? (i := 86) rfl)) (by decide) (own_cvN l Z a0 hw y1 h0 n0) (by rw [hml]; rfl) (lenOf own_pd22 rfl) rfl own_d34_10 (by decide) (W := 0) (by exact Nat.le_of_eq rfl) (by decide) (by decide) (by decide) (pc' := 13) rfl (fun T242 v242 X242 hQ242 => ?_)
  obtain ⟨rfl, e242⟩ := hQ242
  rw [e242] at X242
  show Gl p e below n0 _ _ (T242.setTop (mkF m 13 #[.val (.ref y0), .val (.ref y1), .val .null] []))
  refine g_aloadN X242 hx hby own_d34_13 rfl rfl (pc' := 14) rfl ?_
  refine g_aloadN X242 hx hby own_d34_14 rfl rfl (pc' := 15) rfl ?_
  refine g_putF X242 hx hby hZ hown (hw _ (List.mem_of_getElem? (i := 87) rfl)) Via.refl F_name Ex (Or.inr ⟨(hw _ (List.mem_of_getElem? (i := 88) rfl)), rfl, hnm⟩) (hw _ (List.mem_of_getElem? (i := 28) rfl)) (ty := (.object "java/lang/String")) (by decide) rfl rfl gn own_d34_15 (pc' := 18) rfl (fun T243 h243 X243 W243 => ?_)
  have q244 := Ex.wr W243
  have q245 := F_name.same W243
  have q246 := F_value.other W243 (Or.inr (slot_ne (Or.inr (hw _ (List.mem_of_getElem? (i := 90) rfl))) (Or.inr (hw _ (List.mem_of_getElem? (i := 88) rfl))) (by decide) (t := (.object "java/lang/String")) (t' := (.object "java/lang/String")) (by decide) (by decide)))
  have zz247 := Nat.le_trans Z0 (Nat.le_of_eq W243.size.symm)
  have kk248 : Keep h0 h243 [y0] := (Keep.refl h0 [y0]).wr W243 (Or.inl (by simp))
  refine g_aloadN X243 hx hby own_d34_18 rfl rfl (pc' := 19) rfl ?_
  refine g_aloadN X243 hx hby own_d34_19 rfl rfl (pc' := 20) rfl ?_
  refine g_putF X243 hx hby hZ hown (hw _ (List.mem_of_getElem? (i := 89) rfl)) Via.refl q246 q244 (Or.inr ⟨(hw _ (List.mem_of_getElem? (i := 90) rfl)), rfl, hnm⟩) (hw _ (List.mem_of_getElem? (i := 28) rfl)) (ty := (.object "java/lang/String")) (by decide) rfl rfl gn own_d34_20 (pc' := 23) rfl (fun T249 h249 X249 W249 => ?_)
  have q250 := q244.wr W249
  have q251 := q245.other W249 (Or.inr (slot_ne (Or.inr (hw _ (List.mem_of_getElem? (i := 88) rfl))) (Or.inr (hw _ (List.mem_of_getElem? (i := 90) rfl))) (by decide) (t := (.object "java/lang/String")) (t' := (.object "java/lang/String")) (by decide) (by decide)))
  have q252 := q246.same W249
  have zz253 := Nat.le_trans zz247 (Nat.le_of_eq W249.size.symm)
  have kk254 : Keep h0 h249 [y0] := kk248.wr W249 (Or.inl (by simp))
  exact g_ret X249 hx hby hret hlk own_d34_23 ⟨rfl, kk254, q252⟩ (by decide) (by decide)
set_option maxRecDepth 65536 in
set_option maxHeartbeats 40000000 in
theorem own_ef255 (m : MethodId) (y0 : Addr) (y1 : Addr) (y2 : Addr)  : entryFrame m #[(.ref y0), (.ref y1), (.ref y2)] 3 = mkF m 0 #[.val (.ref y0), .val (.ref y1), .val (.ref y2)] [] := by first | (simp [entryFrame, mkF, argsToLocals, Value.category, maxLocals]; done) | rfl
set_option maxRecDepth 65536 in
set_option maxHeartbeats 40000000 in
theorem own_ri (l : Launch) (Z : State) (a0 : Array Value) (hw : ∀ d ∈ tables_1, d.before a0 Z = true) (y0 y1 y2 : Addr) (h0 : Heap) (n0 : Nat) (Z0 : n0 ≤ h0.size) (Ex : Exa Z h0 y0 "com/example/filingledger/filingledger/RecordField") (F_name : Fld Z h0 y0 "com/example/filingledger/filingledger/RecordField" "name" "Ljava/lang/String;" .null) (F_value : Fld Z h0 y0 "com/example/filingledger/filingledger/RecordField" "value" "Ljava/lang/String;" .null) (gn : n0 ≤ y0) (x : Int32) (hx0 : 97 ≤ x.toInt ∧ x.toInt ≤ 122) (P1 : Lat Z h0 y1 1 (fun _ => x)) (n : Nat) (N : Int32) (f : Nat → Int32) (hN : N.toInt = (n : Int)) (P0 : Lat Z h0 y2 n f) (cs : Int32) (Sc : Sta Z h0 "java/lang/String" "COMPACT_STRINGS" "Z" (.int cs)) (hcs : ¬ cs = 0) (hpr : ∀ i, i < n → Prt (f i)) (hn1 : 1 ≤ n) (hpos : ¬ N = 0) (fm : Value) (Sf : Sta Z h0 "jdk/internal/util/Preconditions" "SIOOBE_FORMATTER" "Ljava/util/function/BiFunction;" fm) (hfm : fm.isRef = true) (ci aa : Addr) (na : Nat) (g : Nat → Value) (Si : Sta Z h0 "java/lang/CharacterDataLatin1" "instance" "Ljava/lang/CharacterDataLatin1;" (.ref ci)) (Ei : Exa Z h0 ci "java/lang/CharacterDataLatin1") (Sa : Sta Z h0 "java/lang/CharacterDataLatin1" "A" "[I" (.ref aa)) (Aa : Ary Z h0 aa .int na g) (hA : (∀ i, 33 ≤ i → i < 127 → i < na ∧ ∃ z : Int32, g i = .int z ∧ ¬ (z &&& (28672 : Int32)) = 16384)) :
    Ctr l Z (⟨"com/example/filingledger/filingledger/RecordField", "<init>", "(Ljava/lang/String;Ljava/lang/String;)V"⟩ : MethodName) prog_17_method_1_code 3 none [] (own_room 7 0 0 105) #[(.ref y0), (.ref y1), (.ref y2)] h0 n0 0 0 (fun v h => v = none ∧ Keep h0 h [y0] ∧ Fld Z h y0 "com/example/filingledger/filingledger/RecordField" "value" "Ljava/lang/String;" (.ref y2)) := by
  refine Ctr.of (plainFor_of_name own_pn7) ?_
  intro p e s m below meth c T0 hx hby hml hret hlk hnm hown hZ X0
  rw [own_ef255 m (y0) (y1) (y2)]
  refine g_aloadN X0 hx hby own_d34_0 rfl rfl (pc' := 1) rfl ?_
  refine g_callC (argsL := []) (S := []) (a := y0) X0 hx hby hZ (y := (⟨"java/lang/Record", "<init>", "()V"⟩ : MethodName)) rfl hown (hw _ (List.mem_of_getElem? (i := 33) rfl)) (hw _ (List.mem_of_getElem? (i := 34) rfl)) (hw _ (List.mem_of_getElem? (i := 36) rfl)) (hw _ (List.mem_of_getElem? (i := 37) rfl)) (by decide) (own_rc l Z a0 hw y0 h0 n0) (by rw [hml]; rfl) (lenOf own_pd20 rfl) rfl own_d34_1 (by decide) (W := 0) (by exact Nat.le_of_eq rfl) (by decide) (by decide) (by decide) (pc' := 4) rfl (fun T256 v256 X256 hQ256 => ?_)
  obtain ⟨rfl, e256⟩ := hQ256
  rw [e256] at X256
  show Gl p e below n0 _ _ (T256.setTop (mkF m 4 #[.val (.ref y0), .val (.ref y1), .val (.ref y2)] []))
  refine g_aloadN X256 hx hby own_d34_4 rfl rfl (pc' := 5) rfl ?_
  refine g_callS (argsL := [(.ref y1)]) (S := []) X256 hx hby hZ (y := (⟨"com/example/filingledger/filingledger/RecordField", "checkName", "(Ljava/lang/String;)V"⟩ : MethodName)) hown (hw _ (List.mem_of_getElem? (i := 39) rfl)) (hw _ (List.mem_of_getElem? (i := 40) rfl)) (hw _ (List.mem_of_getElem? (i := 29) rfl)) (hw _ (List.mem_of_getElem? (i := 41) rfl)) (by decide) (own_cn l Z a0 hw y1 h0 n0 x hx0 P1 cs Sc hcs fm Sf hfm) (by rw [hml]; rfl) (lenOf own_pd21 rfl) rfl own_d34_5 (by decide) (W := 0) (by exact Nat.le_of_eq rfl) (by decide) (by decide) (by decide) (pc' := 8) rfl (fun T257 v257 X257 hQ257 => ?_)
  obtain ⟨rfl, e257⟩ := hQ257
  rw [e257] at X257
  show Gl p e below n0 _ _ (T257.setTop (mkF m 8 #[.val (.ref y0), .val (.ref y1), .val (.ref y2)] []))
  refine g_aloadN X257 hx hby own_d34_8 rfl rfl (pc' := 9) rfl ?_
  refine g_aloadN X257 hx hby own_d34_9 rfl rfl (pc' := 10) rfl ?_
  refine g_callS (argsL := [(.ref y1), (.ref y2)]) (S := []) X257 hx hby hZ (y := (⟨"com/example/filingledger/filingledger/RecordField", "checkValue", "(Ljava/lang/String;Ljava/lang/String;)V"⟩ : MethodName)) hown (hw _ (List.mem_of_getElem? (i := 84) rfl)) (hw _ (List.mem_of_getElem? (i := 85) rfl)) (hw _ (List.mem_of_getElem? (i := 29) rfl)) (hw _ (List.mem_of_getElem? (i := 86) rfl)) (by decide) (own_cv l Z a0 hw y1 y2 h0 n0 n N f hN P0 cs Sc hcs hpr hn1 hpos fm Sf hfm ci aa na g Si Ei Sa Aa hA) (by rw [hml]; rfl) (lenOf own_pd22 rfl) rfl own_d34_10 (by decide) (W := 0) (by exact Nat.le_of_eq rfl) (by decide) (by decide) (by decide) (pc' := 13) rfl (fun T258 v258 X258 hQ258 => ?_)
  obtain ⟨rfl, e258⟩ := hQ258
  rw [e258] at X258
  show Gl p e below n0 _ _ (T258.setTop (mkF m 13 #[.val (.ref y0), .val (.ref y1), .val (.ref y2)] []))
  refine g_aloadN X258 hx hby own_d34_13 rfl rfl (pc' := 14) rfl ?_
  refine g_aloadN X258 hx hby own_d34_14 rfl rfl (pc' := 15) rfl ?_
  refine g_putF X258 hx hby hZ hown (hw _ (List.mem_of_getElem? (i := 87) rfl)) Via.refl F_name Ex (Or.inr ⟨(hw _ (List.mem_of_getElem? (i := 88) rfl)), rfl, hnm⟩) (hw _ (List.mem_of_getElem? (i := 28) rfl)) (ty := (.object "java/lang/String")) (by decide) rfl rfl gn own_d34_15 (pc' := 18) rfl (fun T259 h259 X259 W259 => ?_)
  have q260 := Ex.wr W259
  have q261 := F_name.same W259
  have q262 := F_value.other W259 (Or.inr (slot_ne (Or.inr (hw _ (List.mem_of_getElem? (i := 90) rfl))) (Or.inr (hw _ (List.mem_of_getElem? (i := 88) rfl))) (by decide) (t := (.object "java/lang/String")) (t' := (.object "java/lang/String")) (by decide) (by decide)))
  have zz263 := Nat.le_trans Z0 (Nat.le_of_eq W259.size.symm)
  have kk264 : Keep h0 h259 [y0] := (Keep.refl h0 [y0]).wr W259 (Or.inl (by simp))
  refine g_aloadN X259 hx hby own_d34_18 rfl rfl (pc' := 19) rfl ?_
  refine g_aloadN X259 hx hby own_d34_19 rfl rfl (pc' := 20) rfl ?_
  refine g_putF X259 hx hby hZ hown (hw _ (List.mem_of_getElem? (i := 89) rfl)) Via.refl q262 q260 (Or.inr ⟨(hw _ (List.mem_of_getElem? (i := 90) rfl)), rfl, hnm⟩) (hw _ (List.mem_of_getElem? (i := 28) rfl)) (ty := (.object "java/lang/String")) (by decide) rfl rfl gn own_d34_20 (pc' := 23) rfl (fun T265 h265 X265 W265 => ?_)
  have q266 := q260.wr W265
  have q267 := q261.other W265 (Or.inr (slot_ne (Or.inr (hw _ (List.mem_of_getElem? (i := 88) rfl))) (Or.inr (hw _ (List.mem_of_getElem? (i := 90) rfl))) (by decide) (t := (.object "java/lang/String")) (t' := (.object "java/lang/String")) (by decide) (by decide)))
  have q268 := q262.same W265
  have zz269 := Nat.le_trans zz263 (Nat.le_of_eq W265.size.symm)
  have kk270 : Keep h0 h265 [y0] := kk264.wr W265 (Or.inl (by simp))
  exact g_ret X265 hx hby hret hlk own_d34_23 ⟨rfl, kk270, q268⟩ (by decide) (by decide)
set_option maxRecDepth 65536 in
set_option maxHeartbeats 40000000 in
theorem own_ef271 (m : MethodId) (y0 : Addr)  : entryFrame m #[(.ref y0)] 1 = mkF m 0 #[.val (.ref y0)] [] := by first | (simp [entryFrame, mkF, argsToLocals, Value.category, maxLocals]; done) | rfl
theorem own_d35_0 : decode prog_17_method_10_code 0 = .ok (.aload_n 0, 1) := by decide +kernel
theorem own_d35_1 : decode prog_17_method_10_code 1 = .ok (.getfield 21, 3) := by decide +kernel
theorem own_d35_4 : decode prog_17_method_10_code 4 = .ok (.ifnull 7, 3) := by decide +kernel
theorem own_d35_11 : decode prog_17_method_10_code 11 = .ok (.iconst 0, 1) := by decide +kernel
theorem own_d35_12 : decode prog_17_method_10_code 12 = .ok (.ireturn, 1) := by decide +kernel
set_option maxRecDepth 65536 in
set_option maxHeartbeats 40000000 in
theorem own_knN (l : Launch) (Z : State) (a0 : Array Value) (hw : ∀ d ∈ tables_1, d.before a0 Z = true) (y0 : Addr) (h0 : Heap) (n0 : Nat) (F0 : Fld Z h0 y0 "com/example/filingledger/filingledger/RecordField" "value" "Ljava/lang/String;" .null) :
    Ctr l Z (⟨"com/example/filingledger/filingledger/RecordField", "isKnown", "()Z"⟩ : MethodName) prog_17_method_10_code 1 (some .boolean) [] (own_room 0 0 0 0) #[(.ref y0)] h0 n0 0 0 (fun v h => v = some (.int 0) ∧ h = h0) := by
  refine Ctr.of (plainFor_of_name own_pn7) ?_
  intro p e s m below meth c T0 hx hby hml hret hlk hnm hown hZ X0
  rw [own_ef271 m (y0)]
  refine g_aloadN X0 hx hby own_d35_0 rfl rfl (pc' := 1) rfl ?_
  refine g_getF X0 hx hby hZ hown (hw _ (List.mem_of_getElem? (i := 89) rfl)) Via.refl F0 own_d35_1 (pc' := 4) rfl (fun T272 X272 => ?_)
  refine g_ifnull_y X272 hx hby own_d35_4 (by decide) (pc' := 11) (by decide) ?_
  refine g_iconst (v := 0) X272 hx hby own_d35_11 rfl (pc' := 12) rfl ?_
  exact g_retN X272 hx hby hret hlk (by simp) own_d35_12 ⟨rfl, rfl⟩ (by decide) (by decide)
set_option maxRecDepth 65536 in
set_option maxHeartbeats 40000000 in
theorem own_ef273 (m : MethodId) (y0 : Addr)  : entryFrame m #[(.ref y0)] 1 = mkF m 0 #[.val (.ref y0)] [] := by first | (simp [entryFrame, mkF, argsToLocals, Value.category, maxLocals]; done) | rfl
theorem own_d35_7 : decode prog_17_method_10_code 7 = .ok (.iconst 1, 1) := by decide +kernel
theorem own_d35_8 : decode prog_17_method_10_code 8 = .ok (.goto 4, 3) := by decide +kernel
set_option maxRecDepth 65536 in
set_option maxHeartbeats 40000000 in
theorem own_kn (l : Launch) (Z : State) (a0 : Array Value) (hw : ∀ d ∈ tables_1, d.before a0 Z = true) (y0 : Addr) (h0 : Heap) (n0 : Nat) (r : Addr) (F0 : Fld Z h0 y0 "com/example/filingledger/filingledger/RecordField" "value" "Ljava/lang/String;" (.ref r)) :
    Ctr l Z (⟨"com/example/filingledger/filingledger/RecordField", "isKnown", "()Z"⟩ : MethodName) prog_17_method_10_code 1 (some .boolean) [] (own_room 0 0 0 0) #[(.ref y0)] h0 n0 0 0 (fun v h => v = some (.int 1) ∧ h = h0) := by
  refine Ctr.of (plainFor_of_name own_pn7) ?_
  intro p e s m below meth c T0 hx hby hml hret hlk hnm hown hZ X0
  rw [own_ef273 m (y0)]
  refine g_aloadN X0 hx hby own_d35_0 rfl rfl (pc' := 1) rfl ?_
  refine g_getF X0 hx hby hZ hown (hw _ (List.mem_of_getElem? (i := 89) rfl)) Via.refl F0 own_d35_1 (pc' := 4) rfl (fun T274 X274 => ?_)
  refine g_ifnull_n X274 hx hby own_d35_4 (pc' := 7) rfl ?_
  refine g_iconst (v := 1) X274 hx hby own_d35_7 rfl (pc' := 8) rfl ?_
  refine g_goto X274 hx hby own_d35_8 (by decide) (pc' := 12) (by decide) ?_
  exact g_retN X274 hx hby hret hlk (by simp) own_d35_12 ⟨rfl, rfl⟩ (by decide) (by decide)
set_option maxRecDepth 65536 in
set_option maxHeartbeats 40000000 in
theorem own_ef275 (m : MethodId) (y0 : Int32)  : entryFrame m #[(.int y0)] 1 = mkF m 0 #[.val (.int y0)] [] := by first | (simp [entryFrame, mkF, argsToLocals, Value.category, maxLocals]; done) | rfl
theorem own_pn9 : plainName "com/example/filingledger/filingledger/RecordFieldIsKnownPinLaw" = true := by first | (simp [plainName, overriddenIn]; done) | decide +kernel
theorem own_d36_0 : decode method_2_code 0 = .ok (.bipush 33, 2) := by decide +kernel
theorem own_d36_2 : decode method_2_code 2 = .ok (.iload_n 0, 1) := by decide +kernel
theorem own_d36_3 : decode method_2_code 3 = .ok (.ldc 7, 2) := by decide +kernel
theorem own_d36_5 : decode method_2_code 5 = .ok (.iand, 1) := by decide +kernel
theorem own_d36_6 : decode method_2_code 6 = .ok (.bipush 94, 2) := by decide +kernel
theorem own_d36_8 : decode method_2_code 8 = .ok (.irem, 1) := by decide +kernel
theorem own_d36_9 : decode method_2_code 9 = .ok (.iadd, 1) := by decide +kernel
theorem own_d36_10 : decode method_2_code 10 = .ok (.i2c, 1) := by decide +kernel
theorem own_d36_11 : decode method_2_code 11 = .ok (.ireturn, 1) := by decide +kernel
set_option maxRecDepth 65536 in
set_option maxHeartbeats 40000000 in
theorem own_prt (l : Launch) (Z : State) (a0 : Array Value) (hw : ∀ d ∈ tables_1, d.before a0 Z = true) (y0 : Int32) (h0 : Heap) (n0 : Nat)  :
    Ctr l Z (⟨"com/example/filingledger/filingledger/RecordFieldIsKnownPinLaw", "printable", "(I)C"⟩ : MethodName) method_2_code 1 (some .char) [] (own_room 0 0 0 0) #[(.int y0)] h0 n0 0 0 (fun v h => ∃ c : Int32, v = some (.int c) ∧ Prt c ∧ h = h0) := by
  refine Ctr.of (plainFor_of_name own_pn9) ?_
  intro p e s m below meth c T0 hx hby hml hret hlk hnm hown hZ X0
  rw [own_ef275 m (y0)]
  refine g_bipush (v := 33) X0 hx hby own_d36_0 rfl (pc' := 2) rfl ?_
  refine g_iloadN X0 hx hby own_d36_2 rfl (pc' := 3) rfl ?_
  refine g_ldc X0 hx hby hZ hown (hw _ (List.mem_of_getElem? (i := 0) rfl)) own_d36_3 (pc' := 5) rfl ?_
  refine g_iand X0 hx hby own_d36_5 (pc' := 6) rfl ?_
  refine g_bipush (v := 94) X0 hx hby own_d36_6 rfl (pc' := 8) rfl ?_
  refine g_irem X0 hx hby own_d36_8 (by decide) (pc' := 9) rfl ?_
  refine g_iadd X0 hx hby own_d36_9 (pc' := 10) rfl ?_
  refine g_i2c X0 hx hby own_d36_10 (pc' := 11) rfl ?_
  exact g_retN X0 hx hby hret hlk (by simp) own_d36_11 ⟨_, congrArg (fun z => some (Value.int z)) (own_narC ⟨by have := (own_pr y0).1; omega, by have := (own_pr y0).2; omega⟩), own_pr y0, rfl⟩ (by decide) (by decide)
theorem own_unk : ∀ i, i < 7 → Prt ((fun i => ([117, 110, 107, 110, 111, 119, 110] : List Int32).getD i 0) i) := by
  intro i hi
  have h8 : i = 0 ∨ i = 1 ∨ i = 2 ∨ i = 3 ∨ i = 4 ∨ i = 5 ∨ i = 6 := by omega
  rcases h8 with rfl | rfl | rfl | rfl | rfl | rfl | rfl <;> exact ⟨by decide, by decide⟩
theorem own_unv : ∀ i, i < 7 → ([.int 117, .int 110, .int 107, .int 110, .int 111, .int 119, .int 110] : List Value).getD i (.int 0) = .int ((fun i => ([117, 110, 107, 110, 111, 119, 110] : List Int32).getD i 0) i) := by
  intro i hi
  have h8 : i = 0 ∨ i = 1 ∨ i = 2 ∨ i = 3 ∨ i = 4 ∨ i = 5 ∨ i = 6 := by omega
  rcases h8 with rfl | rfl | rfl | rfl | rfl | rfl | rfl <;> rfl
set_option maxRecDepth 65536 in
set_option maxHeartbeats 40000000 in
theorem own_ef276 (m : MethodId) (y0 : Int32) (y1 : Int32) (y2 : Int32) (y3 : Int32) (y4 : Int32)  : entryFrame m #[(.int y0), (.int y1), (.int y2), (.int y3), (.int y4)] maxLocals = mkF m 0 #[.val (.int y0), .val (.int y1), .val (.int y2), .val (.int y3), .val (.int y4), .unset, .unset, .unset, .unset, .unset] [] := by first | (simp [entryFrame, mkF, argsToLocals, Value.category, maxLocals]; done) | rfl
theorem own_pd23 : parseMethodDescriptor "(C)Ljava/lang/String;" = some ⟨[.char], (some (.object "java/lang/String"))⟩ := by decide +kernel
theorem own_pd24 : parseMethodDescriptor "([C)V" = some ⟨[(.array .char)], none⟩ := by decide +kernel
set_option maxRecDepth 65536 in
set_option maxHeartbeats 40000000 in
theorem own_rm0 (l : Launch) (Z : State) (a0 : Array Value) (hw : ∀ d ∈ tables_1, d.before a0 Z = true) (y0 y1 y2 y3 y4 : Int32) (h0 : Heap) (n0 : Nat) (Z0 : n0 ≤ h0.size) (hh0 : Z.heap.size ≤ n0) (hheld : Jvm.Lit.constHeld Z "com/example/filingledger/filingledger/RecordFieldIsKnownPinLaw" 14) (hcw : Jvm.Lit.compactW.before a0 Z = true) (cs : Int32) (Sc : Sta Z h0 "java/lang/String" "COMPACT_STRINGS" "Z" (.int cs)) (hcs : ¬ cs = 0) (fm : Value) (Sf : Sta Z h0 "jdk/internal/util/Preconditions" "SIOOBE_FORMATTER" "Ljava/util/function/BiFunction;" fm) (hfm : fm.isRef = true) (ci aa : Addr) (na : Nat) (g : Nat → Value) (Si : Sta Z h0 "java/lang/CharacterDataLatin1" "instance" "Ljava/lang/CharacterDataLatin1;" (.ref ci)) (Ei : Exa Z h0 ci "java/lang/CharacterDataLatin1") (Sa : Sta Z h0 "java/lang/CharacterDataLatin1" "A" "[I" (.ref aa)) (Aa : Ary Z h0 aa .int na g) (hA : (∀ i, 33 ≤ i → i < 127 → i < na ∧ ∃ z : Int32, g i = .int z ∧ ¬ (z &&& (28672 : Int32)) = 16384)) :
    CtrL l Z x code maxLocals ret tables_1 room_1 #[(.int y0), (.int y1), (.int y2), (.int y3), (.int y4)] h0 n0 8 60 (fun v h => v = some (.int 1)) := by
  refine CtrL.of (plainFor_of_name own_pn9) ?_
  intro p e s m below meth c T0 hx hby hml hret hlk hnm hown hZ X0 hS hsZ hsh
  rw [own_ef276 m (y0) (y1) (y2) (y3) (y4)]
  refine g_bipush (v := 97) X0 hx hby at_0 rfl (pc' := 2) rfl ?_
  refine g_iloadN X0 hx hby at_2 rfl (pc' := 3) rfl ?_
  refine g_ldc X0 hx hby hZ hown (hw _ (List.mem_of_getElem? (i := 0) rfl)) at_3 (pc' := 5) rfl ?_
  refine g_iand X0 hx hby at_5 (pc' := 6) rfl ?_
  refine g_bipush (v := 26) X0 hx hby at_6 rfl (pc' := 8) rfl ?_
  refine g_irem X0 hx hby at_8 (by decide) (pc' := 9) rfl ?_
  refine g_iadd X0 hx hby at_9 (pc' := 10) rfl ?_
  refine g_i2c X0 hx hby at_10 (pc' := 11) rfl ?_
  obtain ⟨z277, hz277⟩ : ∃ z, z = (((97 : Int32) + ((y1 &&& (2147483647 : Int32)) % (26 : Int32))).toUInt32.toUInt16.toUInt32.toInt32) := ⟨_, rfl⟩
  rw [← hz277]
  have hx0 : 97 ≤ z277.toInt ∧ z277.toInt ≤ 122 := by rw [hz277]; exact own_nmr y1
  refine g_callS (argsL := [(.int z277)]) (S := []) X0 hx hby hZ (y := (⟨"java/lang/String", "valueOf", "(C)Ljava/lang/String;"⟩ : MethodName)) hown (hw _ (List.mem_of_getElem? (i := 1) rfl)) (hw _ (List.mem_of_getElem? (i := 2) rfl)) (hw _ (List.mem_of_getElem? (i := 3) rfl)) (hw _ (List.mem_of_getElem? (i := 4) rfl)) (by decide) (own_vo l Z a0 hw z277 h0 n0 Z0 (own_n255 ⟨by omega, by omega⟩) cs Sc hcs) (by rw [hml]; rfl) (lenOf own_pd23 rfl) rfl at_11 (by decide) (W := 0) (by exact Nat.le_of_eq rfl) (by decide) (by decide) (by decide) (pc' := 14) rfl (fun T278 v278 X278 hQ278 => ?_)
  obtain ⟨b278, rfl, ka278, p278⟩ := hQ278
  have l278 := p278.lat (y := z277) (own_y_id ⟨by omega, by omega⟩)
  have q279 := own_sta_keep Sc ka278 all0
  have q280 := own_sta_keep Sf ka278 all0
  have q281 := own_sta_keep Si ka278 all0
  have q282 := own_sta_keep Sa ka278 all0
  have q283 := Ei.keep ka278
  have q284 := Aa.keep ka278 nin0
  have zz285 := Nat.le_trans Z0 ka278.1
  have hk286 := Nat.le_trans (Nat.le_refl _) ka278.1
  have kk287 : Keep h0 T278.heap [] := (Keep.refl h0 []).trans ka278 all0
  obtain ⟨w278, LEn278, LVn278, LCn278, LAn278⟩ := l278
  show Gl p e below n0 _ _ (T278.setTop (mkF m 14 #[.val (.int y0), .val (.int y1), .val (.int y2), .val (.int y3), .val (.int y4), .unset, .unset, .unset, .unset, .unset] [(.ref b278)]))
  refine g_astore (L' := #[.val (.int y0), .val (.int y1), .val (.int y2), .val (.int y3), .val (.int y4), .val (.ref b278), .unset, .unset, .unset, .unset]) X278 hx hby at_14 rfl rfl (pc' := 16) rfl ?_
  refine g_iloadN X278 hx hby at_16 rfl (pc' := 17) rfl ?_
  refine g_ldc X278 hx hby hZ hown (hw _ (List.mem_of_getElem? (i := 0) rfl)) at_17 (pc' := 19) rfl ?_
  refine g_iand X278 hx hby at_19 (pc' := 20) rfl ?_
  refine g_iconst (v := 3) X278 hx hby at_20 rfl (pc' := 21) rfl ?_
  refine g_irem X278 hx hby at_21 (by decide) (pc' := 22) rfl ?_
  obtain ⟨z288, hz288⟩ : ∃ z, z = ((y0 &&& (2147483647 : Int32)) % (3 : Int32)) := ⟨_, rfl⟩
  rw [← hz288]
  refine g_istore (L' := #[.val (.int y0), .val (.int y1), .val (.int y2), .val (.int y3), .val (.int y4), .val (.ref b278), .val (.int z288), .unset, .unset, .unset]) X278 hx hby at_22 rfl (pc' := 24) rfl ?_
  refine g_iload X278 hx hby at_24 rfl (pc' := 26) rfl ?_
  refine g_if_ne X278 hx hby at_26 (by decide) (pc' := 35) (by decide) (pc2 := 29) rfl (fun c26_289 => ?_) (fun c26_289 => ?_)
  · refine g_iload X278 hx hby at_35 rfl (pc' := 37) rfl ?_
    refine g_iconst (v := 1) X278 hx hby at_37 rfl (pc' := 38) rfl ?_
    refine g_icmp_ne X278 hx hby at_38 (by decide) (pc' := 48) (by decide) (pc2 := 41) rfl (fun c38_290 => ?_) (fun c38_290 => ?_)
    · refine g_iload X278 hx hby at_48 rfl (pc' := 50) rfl ?_
      refine g_iconst (v := 1) X278 hx hby at_50 rfl (pc' := 51) rfl ?_
      refine g_iand X278 hx hby at_51 (pc' := 52) rfl ?_
      refine g_if_ne X278 hx hby at_52 (by decide) (pc' := 67) (by decide) (pc2 := 55) rfl (fun c52_291 => ?_) (fun c52_291 => ?_)
      · refine g_new X278 hx hby hZ hown (hw _ (List.mem_of_getElem? (i := 96) rfl)) (hw _ (List.mem_of_getElem? (i := 11) rfl)) (hw _ (List.mem_of_getElem? (i := 3) rfl)) at_67 (by decide) (by decide) (pc' := 70) rfl (fun T292 h292 b292 g292 X292 E292 A292 D292 => ?_)
        have ne293 : ci ≠ b292 := by rw [g292]; exact Nat.ne_of_lt q283.lt
        have ne294 : aa ≠ b292 := by rw [g292]; exact Nat.ne_of_lt q284.lt
        have ne295 : b278 ≠ b292 := by rw [g292]; exact Nat.ne_of_lt LEn278.lt
        have ne296 : w278 ≠ b292 := by rw [g292]; exact Nat.ne_of_lt LAn278.lt
        have nn297 : n0 ≤ b292 := by rw [g292]; exact zz285
        have hh298 : h0.size ≤ b292 := by rw [g292]; exact kk287.1
        have hk299 := Nat.le_trans hk286 E292.1
        have q300 := q279.ext E292
        have q301 := q280.ext E292
        have q302 := q281.ext E292
        have q303 := q282.ext E292
        have q304 := q283.ext E292
        have q305 := q284.ext E292
        have q306 := LEn278.ext E292
        have q307 := LVn278.ext E292
        have q308 := LCn278.ext E292
        have q309 := LAn278.ext E292
        have zz310 := Nat.le_trans zz285 E292.1
        have kk311 : Keep h0 h292 [] := kk287.ext E292
        have q312 : Fld Z h292 b292 "java/lang/String" "value" "[B" .null := D292 (Or.inr (hw _ (List.mem_of_getElem? (i := 24) rfl))) (ty := (.array .byte)) (by decide)
        have q313 : Fld Z h292 b292 "java/lang/String" "coder" "B" (.int (0 : Int32)) := D292 (Or.inr (hw _ (List.mem_of_getElem? (i := 26) rfl))) (ty := .byte) (by decide)
        refine g_dup X292 hx hby at_70 rfl (pc' := 71) rfl ?_
        refine g_iconst (v := 2) X292 hx hby at_71 rfl (pc' := 72) rfl ?_
        refine g_newarray (k := 2) (cap := 2) X292 hx hby hZ (hw _ (List.mem_of_getElem? (i := 97) rfl)) at_72 rfl (by decide) (by decide) (by decide) (by decide) (pc' := 74) rfl (fun T314 h314 b314 g314 X314 E314 A314 => ?_)
        have ne315 : ci ≠ b314 := by rw [g314]; exact Nat.ne_of_lt q304.lt
        have ne316 : aa ≠ b314 := by rw [g314]; exact Nat.ne_of_lt q305.lt
        have ne317 : b278 ≠ b314 := by rw [g314]; exact Nat.ne_of_lt q306.lt
        have ne318 : w278 ≠ b314 := by rw [g314]; exact Nat.ne_of_lt q309.lt
        have ne319 : b292 ≠ b314 := by rw [g314]; exact Nat.ne_of_lt A292.lt
        have nn320 : n0 ≤ b314 := by rw [g314]; exact zz310
        have hh321 : h0.size ≤ b314 := by rw [g314]; exact kk311.1
        have hk322 := Nat.le_trans hk299 E314.1
        have q323 := q300.ext E314
        have q324 := q301.ext E314
        have q325 := q302.ext E314
        have q326 := q303.ext E314
        have q327 := q304.ext E314
        have q328 := q305.ext E314
        have q329 := q306.ext E314
        have q330 := q307.ext E314
        have q331 := q308.ext E314
        have q332 := q309.ext E314
        have q333 := A292.ext E314
        have q334 := q312.ext E314
        have q335 := q313.ext E314
        have zz336 := Nat.le_trans zz310 E314.1
        have kk337 : Keep h0 h314 [] := kk311.ext E314
        refine g_dup X314 hx hby at_74 rfl (pc' := 75) rfl ?_
        refine g_iconst (v := 0) X314 hx hby at_75 rfl (pc' := 76) rfl ?_
        refine g_iloadN X314 hx hby at_76 rfl (pc' := 77) rfl ?_
        refine g_callS (argsL := [(.int y2)]) (S := [(.int (0 : Int32)), (.ref b314), (.ref b314), (.ref b292), (.ref b292)]) X314 hx hby hZ (y := (⟨"com/example/filingledger/filingledger/RecordFieldIsKnownPinLaw", "printable", "(I)C"⟩ : MethodName)) hown (hw _ (List.mem_of_getElem? (i := 98) rfl)) (hw _ (List.mem_of_getElem? (i := 99) rfl)) (hw _ (List.mem_of_getElem? (i := 100) rfl)) (hw _ (List.mem_of_getElem? (i := 101) rfl)) (by decide) (own_prt l Z a0 hw y2 h314 n0) (by rw [hml]; rfl) (lenOf own_pd17 rfl) rfl at_77 (by decide) (W := 5) (by exact Nat.le_of_eq rfl) (by decide) (by decide) (by decide) (pc' := 80) rfl (fun T338 v338 X338 hQ338 => ?_)
        obtain ⟨k338, rfl, pr338, e338⟩ := hQ338
        rw [e338] at X338
        show Gl p e below n0 _ _ (T338.setTop (mkF m 80 #[.val (.int y0), .val (.int y1), .val (.int y2), .val (.int y3), .val (.int y4), .val (.ref b278), .val (.int z288), .unset, .unset, .unset] [(.int k338), (.int (0 : Int32)), (.ref b314), (.ref b314), (.ref b292), (.ref b292)]))
        refine g_castore (i := 0) X338 hx hby hZ A314 rfl (by decide) nn320 at_80 (pc' := 81) rfl (fun T339 h339 sl339 X339 W339 A339 => ?_)
        have q340 := q323.wr W339
        have q341 := q324.wr W339
        have q342 := q325.wr W339
        have q343 := q326.wr W339
        have q344 := q327.wr W339
        have q345 := q328.other W339 ne316
        have q346 := q329.wr W339
        have q347 := q330.other W339 (Or.inl ne317)
        have q348 := q331.other W339 (Or.inl ne317)
        have q349 := q332.other W339 ne318
        have q350 := q333.wr W339
        have q351 := q334.other W339 (Or.inl ne319)
        have q352 := q335.other W339 (Or.inl ne319)
        have zz353 := Nat.le_trans zz336 (Nat.le_of_eq W339.size.symm)
        have hk354 := Nat.le_trans hk322 (Nat.le_of_eq W339.size.symm)
        have kk355 : Keep h0 h339 [] := kk337.wr W339 (Or.inr hh321)
        refine g_dup X339 hx hby at_81 rfl (pc' := 82) rfl ?_
        refine g_iconst (v := 1) X339 hx hby at_82 rfl (pc' := 83) rfl ?_
        refine g_iloadN X339 hx hby at_83 rfl (pc' := 84) rfl ?_
        refine g_callS (argsL := [(.int y3)]) (S := [(.int (1 : Int32)), (.ref b314), (.ref b314), (.ref b292), (.ref b292)]) X339 hx hby hZ (y := (⟨"com/example/filingledger/filingledger/RecordFieldIsKnownPinLaw", "printable", "(I)C"⟩ : MethodName)) hown (hw _ (List.mem_of_getElem? (i := 98) rfl)) (hw _ (List.mem_of_getElem? (i := 99) rfl)) (hw _ (List.mem_of_getElem? (i := 100) rfl)) (hw _ (List.mem_of_getElem? (i := 101) rfl)) (by decide) (own_prt l Z a0 hw y3 h339 n0) (by rw [hml]; rfl) (lenOf own_pd17 rfl) rfl at_84 (by decide) (W := 5) (by exact Nat.le_of_eq rfl) (by decide) (by decide) (by decide) (pc' := 87) rfl (fun T356 v356 X356 hQ356 => ?_)
        obtain ⟨k356, rfl, pr356, e356⟩ := hQ356
        rw [e356] at X356
        show Gl p e below n0 _ _ (T356.setTop (mkF m 87 #[.val (.int y0), .val (.int y1), .val (.int y2), .val (.int y3), .val (.int y4), .val (.ref b278), .val (.int z288), .unset, .unset, .unset] [(.int k356), (.int (1 : Int32)), (.ref b314), (.ref b314), (.ref b292), (.ref b292)]))
        refine g_castore (i := 1) X356 hx hby hZ A339 rfl (by decide) nn320 at_87 (pc' := 88) rfl (fun T357 h357 sl357 X357 W357 A357 => ?_)
        have q358 := q340.wr W357
        have q359 := q341.wr W357
        have q360 := q342.wr W357
        have q361 := q343.wr W357
        have q362 := q344.wr W357
        have q363 := q345.other W357 ne316
        have q364 := q346.wr W357
        have q365 := q347.other W357 (Or.inl ne317)
        have q366 := q348.other W357 (Or.inl ne317)
        have q367 := q349.other W357 ne318
        have q368 := q350.wr W357
        have q369 := q351.other W357 (Or.inl ne319)
        have q370 := q352.other W357 (Or.inl ne319)
        have zz371 := Nat.le_trans zz353 (Nat.le_of_eq W357.size.symm)
        have hk372 := Nat.le_trans hk354 (Nat.le_of_eq W357.size.symm)
        have kk373 : Keep h0 h357 [] := kk355.wr W357 (Or.inr hh321)
        have AG375 : Ary Z h357 b314 .char 2 (fun i => .int ((fun i => if i = 0 then k338 else k356) i)) := by
          refine A357.congr fun i hi => ?_
          have h8 : i = 0 ∨ i = 1 := by omega
          rcases h8 with rfl | rfl
          · exact congrArg Value.int (own_narC ⟨by have := pr338.1; omega, by have := pr338.2; omega⟩)
          · exact congrArg Value.int (own_narC ⟨by have := pr356.1; omega, by have := pr356.2; omega⟩)
        have hpr375 : ∀ i, i < 2 → Prt ((fun i => if i = 0 then k338 else k356) i) := fun i hi => by
          show Prt (if i = 0 then k338 else k356)
          split
          · exact pr338
          · exact pr356
        refine g_callC (argsL := [(.ref b314)]) (S := [(.ref b292)]) (a := b292) X357 hx hby hZ (y := (⟨"java/lang/String", "<init>", "([C)V"⟩ : MethodName)) rfl hown (hw _ (List.mem_of_getElem? (i := 102) rfl)) (hw _ (List.mem_of_getElem? (i := 103) rfl)) (hw _ (List.mem_of_getElem? (i := 3) rfl)) (hw _ (List.mem_of_getElem? (i := 104) rfl)) (by decide) (own_n1_2 l Z a0 hw b292 b314 h357 n0 zz371 (fun i => if i = 0 then k338 else k356) (fun i hi => (hpr375 i hi).r255) AG375 q368 q369 q370 nn297 cs q358 hcs) (by rw [hml]; rfl) (lenOf own_pd24 rfl) rfl at_88 (by decide) (W := 1) (by exact Nat.le_of_eq rfl) (by decide) (by decide) (by decide) (pc' := 91) rfl (fun T374 v374 X374 hQ374 => ?_)
        obtain ⟨rfl, ka374, la374⟩ := hQ374
        have q376 := own_sta_keep q358 ka374 (allS (own_plain q368) all0)
        have q377 := own_sta_keep q359 ka374 (allS (own_plain q368) all0)
        have q378 := own_sta_keep q360 ka374 (allS (own_plain q368) all0)
        have q379 := own_sta_keep q361 ka374 (allS (own_plain q368) all0)
        have q380 := q362.keep ka374
        have q381 := q363.keep ka374 (ninS ne294 nin0)
        have q382 := q364.keep ka374
        have q383 := q365.keep ka374 (ninS ne295 nin0)
        have q384 := q366.keep ka374 (ninS ne295 nin0)
        have q385 := q367.keep ka374 (ninS ne296 nin0)
        have q386 := q368.keep ka374
        have q387 := A357.keep ka374 (ninS (Ne.symm ne319) nin0)
        have zz388 := Nat.le_trans zz371 ka374.1
        have hk389 := Nat.le_trans hk372 ka374.1
        have kk390 : Keep h0 T374.heap [] := kk373.trans ka374 (allS (Or.inr hh298) all0)
        have lb374 : Lat Z T374.heap b292 2 (fun i => if i = 0 then k338 else k356) := by
          obtain ⟨a', q1, q2, q3, q4⟩ := la374
          exact ⟨a', q1, q2, q3, q4.congr fun i hi => congrArg Value.int (own_y_id (hpr375 i hi).r127)⟩
        obtain ⟨w374, LEn374, LVn374, LCn374, LAn374⟩ := lb374
        show Gl p e below n0 _ _ (T374.setTop (mkF m 91 #[.val (.int y0), .val (.int y1), .val (.int y2), .val (.int y3), .val (.int y4), .val (.ref b278), .val (.int z288), .unset, .unset, .unset] [(.ref b292)]))
        refine g_astore (L' := #[.val (.int y0), .val (.int y1), .val (.int y2), .val (.int y3), .val (.int y4), .val (.ref b278), .val (.int z288), .val (.ref b292), .unset, .unset]) X374 hx hby at_91 rfl rfl (pc' := 93) rfl ?_
        refine g_new X374 hx hby hZ hown (hw _ (List.mem_of_getElem? (i := 27) rfl)) (hw _ (List.mem_of_getElem? (i := 28) rfl)) (hw _ (List.mem_of_getElem? (i := 29) rfl)) at_93 (by decide) (by decide) (pc' := 96) rfl (fun T391 h391 b391 g391 X391 E391 A391 D391 => ?_)
        have ne392 : ci ≠ b391 := by rw [g391]; exact Nat.ne_of_lt q380.lt
        have ne393 : aa ≠ b391 := by rw [g391]; exact Nat.ne_of_lt q381.lt
        have ne394 : b278 ≠ b391 := by rw [g391]; exact Nat.ne_of_lt q382.lt
        have ne395 : w278 ≠ b391 := by rw [g391]; exact Nat.ne_of_lt q385.lt
        have ne396 : b292 ≠ b391 := by rw [g391]; exact Nat.ne_of_lt LEn374.lt
        have ne397 : b314 ≠ b391 := by rw [g391]; exact Nat.ne_of_lt q387.lt
        have ne398 : w374 ≠ b391 := by rw [g391]; exact Nat.ne_of_lt LAn374.lt
        have nn399 : n0 ≤ b391 := by rw [g391]; exact zz388
        have hh400 : h0.size ≤ b391 := by rw [g391]; exact kk390.1
        have hk401 := Nat.le_trans hk389 E391.1
        have q402 := q376.ext E391
        have q403 := q377.ext E391
        have q404 := q378.ext E391
        have q405 := q379.ext E391
        have q406 := q380.ext E391
        have q407 := q381.ext E391
        have q408 := q382.ext E391
        have q409 := q383.ext E391
        have q410 := q384.ext E391
        have q411 := q385.ext E391
        have q412 := LEn374.ext E391
        have q413 := q387.ext E391
        have q414 := LVn374.ext E391
        have q415 := LCn374.ext E391
        have q416 := LAn374.ext E391
        have zz417 := Nat.le_trans zz388 E391.1
        have kk418 : Keep h0 h391 [] := kk390.ext E391
        have q419 : Fld Z h391 b391 "com/example/filingledger/filingledger/RecordField" "name" "Ljava/lang/String;" .null := D391 (Or.inr (hw _ (List.mem_of_getElem? (i := 88) rfl))) (ty := (.object "java/lang/String")) (by decide)
        have q420 : Fld Z h391 b391 "com/example/filingledger/filingledger/RecordField" "value" "Ljava/lang/String;" .null := D391 (Or.inr (hw _ (List.mem_of_getElem? (i := 90) rfl))) (ty := (.object "java/lang/String")) (by decide)
        refine g_dup X391 hx hby at_96 rfl (pc' := 97) rfl ?_
        refine g_aload X391 hx hby at_97 rfl rfl (pc' := 99) rfl ?_
        refine g_aload X391 hx hby at_99 rfl rfl (pc' := 101) rfl ?_
        refine g_callC (argsL := [(.ref b278), (.ref b292)]) (S := [(.ref b391)]) (a := b391) X391 hx hby hZ (y := (⟨"com/example/filingledger/filingledger/RecordField", "<init>", "(Ljava/lang/String;Ljava/lang/String;)V"⟩ : MethodName)) rfl hown (hw _ (List.mem_of_getElem? (i := 30) rfl)) (hw _ (List.mem_of_getElem? (i := 31) rfl)) (hw _ (List.mem_of_getElem? (i := 29) rfl)) (hw _ (List.mem_of_getElem? (i := 32) rfl)) (by decide) (own_ri l Z a0 hw b391 b278 b292 h391 n0 zz417 A391 q419 q420 nn399 z277 hx0 ⟨w278, q408, q409, q410, q411⟩ 2 2 (fun i => if i = 0 then k338 else k356) rfl ⟨w374, q412, q414, q415, q416⟩ cs q402 hcs hpr375 (by decide) (by decide) fm q403 hfm ci aa na g q404 q406 q405 q407 hA) (by rw [hml]; rfl) (lenOf own_pd22 rfl) rfl at_101 (by decide) (W := 1) (by exact Nat.le_of_eq rfl) (by decide) (by decide) (by decide) (pc' := 104) rfl (fun T421 v421 X421 hQ421 => ?_)
        obtain ⟨rfl, ka421, fv421⟩ := hQ421
        have q422 := own_sta_keep q402 ka421 (allS (own_plain A391) all0)
        have q423 := own_sta_keep q403 ka421 (allS (own_plain A391) all0)
        have q424 := own_sta_keep q404 ka421 (allS (own_plain A391) all0)
        have q425 := own_sta_keep q405 ka421 (allS (own_plain A391) all0)
        have q426 := q406.keep ka421
        have q427 := q407.keep ka421 (ninS ne393 nin0)
        have q428 := q408.keep ka421
        have q429 := q409.keep ka421 (ninS ne394 nin0)
        have q430 := q410.keep ka421 (ninS ne394 nin0)
        have q431 := q411.keep ka421 (ninS ne395 nin0)
        have q432 := q412.keep ka421
        have q433 := q413.keep ka421 (ninS ne397 nin0)
        have q434 := q414.keep ka421 (ninS ne396 nin0)
        have q435 := q415.keep ka421 (ninS ne396 nin0)
        have q436 := q416.keep ka421 (ninS ne398 nin0)
        have q437 := A391.keep ka421
        have zz438 := Nat.le_trans zz417 ka421.1
        have hk439 := Nat.le_trans hk401 ka421.1
        have kk440 : Keep h0 T421.heap [] := kk418.trans ka421 (allS (Or.inr hh400) all0)
        show Gl p e below n0 _ _ (T421.setTop (mkF m 104 #[.val (.int y0), .val (.int y1), .val (.int y2), .val (.int y3), .val (.int y4), .val (.ref b278), .val (.int z288), .val (.ref b292), .unset, .unset] [(.ref b391)]))
        refine g_astore (L' := #[.val (.int y0), .val (.int y1), .val (.int y2), .val (.int y3), .val (.int y4), .val (.ref b278), .val (.int z288), .val (.ref b292), .val (.ref b391), .unset]) X421 hx hby at_104 rfl rfl (pc' := 106) rfl ?_
        refine g_iload X421 hx hby at_106 rfl (pc' := 108) rfl ?_
        refine g_if_eq X421 hx hby at_108 (by decide) (pc' := 115) (by decide) (pc2 := 111) rfl (fun q => absurd q c26_289) (fun c108_441 => ?_)
        refine g_iconst (v := 1) X421 hx hby at_111 rfl (pc' := 112) rfl ?_
        refine g_goto X421 hx hby at_112 (by decide) (pc' := 116) (by decide) ?_
        refine g_istore (L' := #[.val (.int y0), .val (.int y1), .val (.int y2), .val (.int y3), .val (.int y4), .val (.ref b278), .val (.int z288), .val (.ref b292), .val (.ref b391), .val (.int (1 : Int32))]) X421 hx hby at_116 rfl (pc' := 118) rfl ?_
        refine g_aload X421 hx hby at_118 rfl rfl (pc' := 120) rfl ?_
        refine g_callV (argsL := []) (S := []) (a := b391) X421 hx hby hZ (y := (⟨"com/example/filingledger/filingledger/RecordField", "isKnown", "()Z"⟩ : MethodName)) (y' := (⟨"com/example/filingledger/filingledger/RecordField", "isKnown", "()Z"⟩ : MethodName)) hown (hw _ (List.mem_of_getElem? (i := 91) rfl)) (hw _ (List.mem_of_getElem? (i := 92) rfl)) (notFace_of_selects (args := #[]) (mvT hZ (hw _ (List.mem_of_getElem? (i := 94) rfl)))) (hw _ (List.mem_of_getElem? (i := 94) rfl)) (hw _ (List.mem_of_getElem? (i := 93) rfl)) (hw _ (List.mem_of_getElem? (i := 29) rfl)) (hw _ (List.mem_of_getElem? (i := 95) rfl)) (by decide) q437 (own_kn l Z a0 hw b391 T421.heap n0 b292 fv421) (by rw [hml]; rfl) (lenOf own_pd6 rfl) rfl at_120 (by decide) (W := 0) (by exact Nat.le_of_eq rfl) (by decide) (by decide) (by decide) (pc' := 123) rfl (fun T442 v442 X442 hQ442 => ?_)
        obtain ⟨rfl, e442⟩ := hQ442
        rw [e442] at X442
        show Gl p e below n0 _ _ (T442.setTop (mkF m 123 #[.val (.int y0), .val (.int y1), .val (.int y2), .val (.int y3), .val (.int y4), .val (.ref b278), .val (.int z288), .val (.ref b292), .val (.ref b391), .val (.int (1 : Int32))] [(.int (1 : Int32))]))
        refine g_iload X442 hx hby at_123 rfl (pc' := 125) rfl ?_
        refine g_icmp_ne X442 hx hby at_125 (by decide) (pc' := 132) (by decide) (pc2 := 128) rfl (fun q => absurd (by decide) q) (fun c125_443 => ?_)
        refine g_iconst (v := 1) X442 hx hby at_128 rfl (pc' := 129) rfl ?_
        refine g_goto X442 hx hby at_129 (by decide) (pc' := 133) (by decide) ?_
        exact gw_retN X442 hx hby hS hk439 hret hlk (by simp) at_133 rfl (by decide) (by decide)
      · refine g_iloadN X278 hx hby at_55 rfl (pc' := 56) rfl ?_
        refine g_callS (argsL := [(.int y2)]) (S := []) X278 hx hby hZ (y := (⟨"com/example/filingledger/filingledger/RecordFieldIsKnownPinLaw", "printable", "(I)C"⟩ : MethodName)) hown (hw _ (List.mem_of_getElem? (i := 98) rfl)) (hw _ (List.mem_of_getElem? (i := 99) rfl)) (hw _ (List.mem_of_getElem? (i := 100) rfl)) (hw _ (List.mem_of_getElem? (i := 101) rfl)) (by decide) (own_prt l Z a0 hw y2 T278.heap n0) (by rw [hml]; rfl) (lenOf own_pd17 rfl) rfl at_56 (by decide) (W := 0) (by exact Nat.le_of_eq rfl) (by decide) (by decide) (by decide) (pc' := 59) rfl (fun T444 v444 X444 hQ444 => ?_)
        obtain ⟨k444, rfl, pr444, e444⟩ := hQ444
        rw [e444] at X444
        show Gl p e below n0 _ _ (T444.setTop (mkF m 59 #[.val (.int y0), .val (.int y1), .val (.int y2), .val (.int y3), .val (.int y4), .val (.ref b278), .val (.int z288), .unset, .unset, .unset] [(.int k444)]))
        refine g_callS (argsL := [(.int k444)]) (S := []) X444 hx hby hZ (y := (⟨"java/lang/String", "valueOf", "(C)Ljava/lang/String;"⟩ : MethodName)) hown (hw _ (List.mem_of_getElem? (i := 1) rfl)) (hw _ (List.mem_of_getElem? (i := 2) rfl)) (hw _ (List.mem_of_getElem? (i := 3) rfl)) (hw _ (List.mem_of_getElem? (i := 4) rfl)) (by decide) (own_vo l Z a0 hw k444 T278.heap n0 zz285 (own_n255 ⟨by have := pr444.1; omega, by have := pr444.2; omega⟩) cs q279 hcs) (by rw [hml]; rfl) (lenOf own_pd23 rfl) rfl at_59 (by decide) (W := 0) (by exact Nat.le_of_eq rfl) (by decide) (by decide) (by decide) (pc' := 62) rfl (fun T445 v445 X445 hQ445 => ?_)
        obtain ⟨b445, rfl, ka445, p445⟩ := hQ445
        have l445 := p445.lat (y := k444) (own_y_id ⟨by have := pr444.1; omega, by have := pr444.2; omega⟩)
        have q446 := own_sta_keep q279 ka445 all0
        have q447 := own_sta_keep q280 ka445 all0
        have q448 := own_sta_keep q281 ka445 all0
        have q449 := own_sta_keep q282 ka445 all0
        have q450 := q283.keep ka445
        have q451 := q284.keep ka445 nin0
        have q452 := LEn278.keep ka445
        have q453 := LVn278.keep ka445 nin0
        have q454 := LCn278.keep ka445 nin0
        have q455 := LAn278.keep ka445 nin0
        have zz456 := Nat.le_trans zz285 ka445.1
        have hk457 := Nat.le_trans hk286 ka445.1
        have kk458 : Keep h0 T445.heap [] := kk287.trans ka445 all0
        obtain ⟨w445, LEn445, LVn445, LCn445, LAn445⟩ := l445
        have hpr445 : ∀ i, i < 1 → Prt ((fun _ => k444) i) := fun _ _ => pr444
        show Gl p e below n0 _ _ (T445.setTop (mkF m 62 #[.val (.int y0), .val (.int y1), .val (.int y2), .val (.int y3), .val (.int y4), .val (.ref b278), .val (.int z288), .unset, .unset, .unset] [(.ref b445)]))
        refine g_astore (L' := #[.val (.int y0), .val (.int y1), .val (.int y2), .val (.int y3), .val (.int y4), .val (.ref b278), .val (.int z288), .val (.ref b445), .unset, .unset]) X445 hx hby at_62 rfl rfl (pc' := 64) rfl ?_
        refine g_goto X445 hx hby at_64 (by decide) (pc' := 93) (by decide) ?_
        refine g_new X445 hx hby hZ hown (hw _ (List.mem_of_getElem? (i := 27) rfl)) (hw _ (List.mem_of_getElem? (i := 28) rfl)) (hw _ (List.mem_of_getElem? (i := 29) rfl)) at_93 (by decide) (by decide) (pc' := 96) rfl (fun T459 h459 b459 g459 X459 E459 A459 D459 => ?_)
        have ne460 : ci ≠ b459 := by rw [g459]; exact Nat.ne_of_lt q450.lt
        have ne461 : aa ≠ b459 := by rw [g459]; exact Nat.ne_of_lt q451.lt
        have ne462 : b278 ≠ b459 := by rw [g459]; exact Nat.ne_of_lt q452.lt
        have ne463 : w278 ≠ b459 := by rw [g459]; exact Nat.ne_of_lt q455.lt
        have ne464 : b445 ≠ b459 := by rw [g459]; exact Nat.ne_of_lt LEn445.lt
        have ne465 : w445 ≠ b459 := by rw [g459]; exact Nat.ne_of_lt LAn445.lt
        have nn466 : n0 ≤ b459 := by rw [g459]; exact zz456
        have hh467 : h0.size ≤ b459 := by rw [g459]; exact kk458.1
        have hk468 := Nat.le_trans hk457 E459.1
        have q469 := q446.ext E459
        have q470 := q447.ext E459
        have q471 := q448.ext E459
        have q472 := q449.ext E459
        have q473 := q450.ext E459
        have q474 := q451.ext E459
        have q475 := q452.ext E459
        have q476 := q453.ext E459
        have q477 := q454.ext E459
        have q478 := q455.ext E459
        have q479 := LEn445.ext E459
        have q480 := LVn445.ext E459
        have q481 := LCn445.ext E459
        have q482 := LAn445.ext E459
        have zz483 := Nat.le_trans zz456 E459.1
        have kk484 : Keep h0 h459 [] := kk458.ext E459
        have q485 : Fld Z h459 b459 "com/example/filingledger/filingledger/RecordField" "name" "Ljava/lang/String;" .null := D459 (Or.inr (hw _ (List.mem_of_getElem? (i := 88) rfl))) (ty := (.object "java/lang/String")) (by decide)
        have q486 : Fld Z h459 b459 "com/example/filingledger/filingledger/RecordField" "value" "Ljava/lang/String;" .null := D459 (Or.inr (hw _ (List.mem_of_getElem? (i := 90) rfl))) (ty := (.object "java/lang/String")) (by decide)
        refine g_dup X459 hx hby at_96 rfl (pc' := 97) rfl ?_
        refine g_aload X459 hx hby at_97 rfl rfl (pc' := 99) rfl ?_
        refine g_aload X459 hx hby at_99 rfl rfl (pc' := 101) rfl ?_
        refine g_callC (argsL := [(.ref b278), (.ref b445)]) (S := [(.ref b459)]) (a := b459) X459 hx hby hZ (y := (⟨"com/example/filingledger/filingledger/RecordField", "<init>", "(Ljava/lang/String;Ljava/lang/String;)V"⟩ : MethodName)) rfl hown (hw _ (List.mem_of_getElem? (i := 30) rfl)) (hw _ (List.mem_of_getElem? (i := 31) rfl)) (hw _ (List.mem_of_getElem? (i := 29) rfl)) (hw _ (List.mem_of_getElem? (i := 32) rfl)) (by decide) (own_ri l Z a0 hw b459 b278 b445 h459 n0 zz483 A459 q485 q486 nn466 z277 hx0 ⟨w278, q475, q476, q477, q478⟩ 1 1 (fun _ => k444) rfl ⟨w445, q479, q480, q481, q482⟩ cs q469 hcs hpr445 (by decide) (by decide) fm q470 hfm ci aa na g q471 q473 q472 q474 hA) (by rw [hml]; rfl) (lenOf own_pd22 rfl) rfl at_101 (by decide) (W := 1) (by exact Nat.le_of_eq rfl) (by decide) (by decide) (by decide) (pc' := 104) rfl (fun T487 v487 X487 hQ487 => ?_)
        obtain ⟨rfl, ka487, fv487⟩ := hQ487
        have q488 := own_sta_keep q469 ka487 (allS (own_plain A459) all0)
        have q489 := own_sta_keep q470 ka487 (allS (own_plain A459) all0)
        have q490 := own_sta_keep q471 ka487 (allS (own_plain A459) all0)
        have q491 := own_sta_keep q472 ka487 (allS (own_plain A459) all0)
        have q492 := q473.keep ka487
        have q493 := q474.keep ka487 (ninS ne461 nin0)
        have q494 := q475.keep ka487
        have q495 := q476.keep ka487 (ninS ne462 nin0)
        have q496 := q477.keep ka487 (ninS ne462 nin0)
        have q497 := q478.keep ka487 (ninS ne463 nin0)
        have q498 := q479.keep ka487
        have q499 := q480.keep ka487 (ninS ne464 nin0)
        have q500 := q481.keep ka487 (ninS ne464 nin0)
        have q501 := q482.keep ka487 (ninS ne465 nin0)
        have q502 := A459.keep ka487
        have zz503 := Nat.le_trans zz483 ka487.1
        have hk504 := Nat.le_trans hk468 ka487.1
        have kk505 : Keep h0 T487.heap [] := kk484.trans ka487 (allS (Or.inr hh467) all0)
        show Gl p e below n0 _ _ (T487.setTop (mkF m 104 #[.val (.int y0), .val (.int y1), .val (.int y2), .val (.int y3), .val (.int y4), .val (.ref b278), .val (.int z288), .val (.ref b445), .unset, .unset] [(.ref b459)]))
        refine g_astore (L' := #[.val (.int y0), .val (.int y1), .val (.int y2), .val (.int y3), .val (.int y4), .val (.ref b278), .val (.int z288), .val (.ref b445), .val (.ref b459), .unset]) X487 hx hby at_104 rfl rfl (pc' := 106) rfl ?_
        refine g_iload X487 hx hby at_106 rfl (pc' := 108) rfl ?_
        refine g_if_eq X487 hx hby at_108 (by decide) (pc' := 115) (by decide) (pc2 := 111) rfl (fun q => absurd q c26_289) (fun c108_506 => ?_)
        refine g_iconst (v := 1) X487 hx hby at_111 rfl (pc' := 112) rfl ?_
        refine g_goto X487 hx hby at_112 (by decide) (pc' := 116) (by decide) ?_
        refine g_istore (L' := #[.val (.int y0), .val (.int y1), .val (.int y2), .val (.int y3), .val (.int y4), .val (.ref b278), .val (.int z288), .val (.ref b445), .val (.ref b459), .val (.int (1 : Int32))]) X487 hx hby at_116 rfl (pc' := 118) rfl ?_
        refine g_aload X487 hx hby at_118 rfl rfl (pc' := 120) rfl ?_
        refine g_callV (argsL := []) (S := []) (a := b459) X487 hx hby hZ (y := (⟨"com/example/filingledger/filingledger/RecordField", "isKnown", "()Z"⟩ : MethodName)) (y' := (⟨"com/example/filingledger/filingledger/RecordField", "isKnown", "()Z"⟩ : MethodName)) hown (hw _ (List.mem_of_getElem? (i := 91) rfl)) (hw _ (List.mem_of_getElem? (i := 92) rfl)) (notFace_of_selects (args := #[]) (mvT hZ (hw _ (List.mem_of_getElem? (i := 94) rfl)))) (hw _ (List.mem_of_getElem? (i := 94) rfl)) (hw _ (List.mem_of_getElem? (i := 93) rfl)) (hw _ (List.mem_of_getElem? (i := 29) rfl)) (hw _ (List.mem_of_getElem? (i := 95) rfl)) (by decide) q502 (own_kn l Z a0 hw b459 T487.heap n0 b445 fv487) (by rw [hml]; rfl) (lenOf own_pd6 rfl) rfl at_120 (by decide) (W := 0) (by exact Nat.le_of_eq rfl) (by decide) (by decide) (by decide) (pc' := 123) rfl (fun T507 v507 X507 hQ507 => ?_)
        obtain ⟨rfl, e507⟩ := hQ507
        rw [e507] at X507
        show Gl p e below n0 _ _ (T507.setTop (mkF m 123 #[.val (.int y0), .val (.int y1), .val (.int y2), .val (.int y3), .val (.int y4), .val (.ref b278), .val (.int z288), .val (.ref b445), .val (.ref b459), .val (.int (1 : Int32))] [(.int (1 : Int32))]))
        refine g_iload X507 hx hby at_123 rfl (pc' := 125) rfl ?_
        refine g_icmp_ne X507 hx hby at_125 (by decide) (pc' := 132) (by decide) (pc2 := 128) rfl (fun q => absurd (by decide) q) (fun c125_508 => ?_)
        refine g_iconst (v := 1) X507 hx hby at_128 rfl (pc' := 129) rfl ?_
        refine g_goto X507 hx hby at_129 (by decide) (pc' := 133) (by decide) ?_
        exact gw_retN X507 hx hby hS hk504 hret hlk (by simp) at_133 rfl (by decide) (by decide)
    · have wS509 : ∀ a ∈ Bundle.stringAtoms, a.before a0 Z = true := by
        intro a ha; simp only [Bundle.stringAtoms, List.mem_cons, List.not_mem_nil, or_false] at ha
        rcases ha with rfl | rfl | rfl | rfl | rfl | rfl | rfl
        · exact (hw _ (List.mem_of_getElem? (i := 3) rfl))
        · exact (hw _ (List.mem_of_getElem? (i := 11) rfl))
        · exact (hw _ (List.mem_of_getElem? (i := 15) rfl))
        · exact (hw _ (List.mem_of_getElem? (i := 24) rfl))
        · exact (hw _ (List.mem_of_getElem? (i := 26) rfl))
        · exact (hw _ (List.mem_of_getElem? (i := 168) rfl))
        · exact (hw _ (List.mem_of_getElem? (i := 169) rfl))
      refine g_ldcSV (n := 28) (vs := [.int 117, .int 110, .int 107, .int 110, .int 111, .int 119, .int 110]) (kn := 7) (f := (fun i => ([117, 110, 107, 110, 111, 119, 110] : List Int32).getD i 0)) X278 hx hby hZ hown (hw _ (List.mem_of_getElem? (i := 167) rfl)) wS509 hS (Nat.le_trans (Nat.le_refl _) kk287.1) (by rw [hsZ]; exact hh0) (fun b cl q => by rw [hsZ]; exact q) (Ts := []) (by rw [hsZ]; exact IB.start) (by simp) hheld hcw ⟨by decide, by decide⟩ rfl (by decide) own_unv at_41 (by decide) (by decide) (by decide) (by decide) (pc' := 43) rfl (fun a509 b509 T509 h509 k509 X509 E509 hS509 hk509 hZ509 hown509 le509 lc509 lv509 la509 ib509 => ?_)
      have q510 := q279.ext E509
      have q511 := q280.ext E509
      have q512 := q281.ext E509
      have q513 := q282.ext E509
      have q514 := q283.ext E509
      have q515 := q284.ext E509
      have q516 := LEn278.ext E509
      have q517 := LVn278.ext E509
      have q518 := LCn278.ext E509
      have q519 := LAn278.ext E509
      have zz520 := Nat.le_trans zz285 E509.1
      have kk521 : Keep h0 h509 [] := kk287.ext E509
      refine g_astore (L' := #[.val (.int y0), .val (.int y1), .val (.int y2), .val (.int y3), .val (.int y4), .val (.ref b278), .val (.int z288), .val (.ref a509), .unset, .unset]) X509 hx hby at_43 rfl rfl (pc' := 45) rfl ?_
      refine g_goto X509 hx hby at_45 (by decide) (pc' := 93) (by decide) ?_
      refine g_new X509 hx hby hZ509 hown509 (hw _ (List.mem_of_getElem? (i := 27) rfl)) (hw _ (List.mem_of_getElem? (i := 28) rfl)) (hw _ (List.mem_of_getElem? (i := 29) rfl)) at_93 (by decide) (by decide) (pc' := 96) rfl (fun T522 h522 b522 g522 X522 E522 A522 D522 => ?_)
      have ne523 : ci ≠ b522 := by rw [g522]; exact Nat.ne_of_lt q514.lt
      have ne524 : aa ≠ b522 := by rw [g522]; exact Nat.ne_of_lt q515.lt
      have ne525 : b278 ≠ b522 := by rw [g522]; exact Nat.ne_of_lt q516.lt
      have ne526 : w278 ≠ b522 := by rw [g522]; exact Nat.ne_of_lt q519.lt
      have ne527 : a509 ≠ b522 := by rw [g522]; exact Nat.ne_of_lt le509.lt
      have ne528 : b509 ≠ b522 := by rw [g522]; exact Nat.ne_of_lt la509.lt
      have nn529 : n0 ≤ b522 := by rw [g522]; exact zz520
      have hh530 : h0.size ≤ b522 := by rw [g522]; exact kk521.1
      have hk531 := Nat.le_trans hk509 E522.1
      have q532 := q510.ext E522
      have q533 := q511.ext E522
      have q534 := q512.ext E522
      have q535 := q513.ext E522
      have q536 := q514.ext E522
      have q537 := q515.ext E522
      have q538 := q516.ext E522
      have q539 := q517.ext E522
      have q540 := q518.ext E522
      have q541 := q519.ext E522
      have q542 := le509.ext E522
      have q543 := lv509.ext E522
      have q544 := lc509.ext E522
      have q545 := la509.ext E522
      have zz546 := Nat.le_trans zz520 E522.1
      have kk547 : Keep h0 h522 [] := kk521.ext E522
      have q548 : Fld Z h522 b522 "com/example/filingledger/filingledger/RecordField" "name" "Ljava/lang/String;" .null := D522 (Or.inr (hw _ (List.mem_of_getElem? (i := 88) rfl))) (ty := (.object "java/lang/String")) (by decide)
      have q549 : Fld Z h522 b522 "com/example/filingledger/filingledger/RecordField" "value" "Ljava/lang/String;" .null := D522 (Or.inr (hw _ (List.mem_of_getElem? (i := 90) rfl))) (ty := (.object "java/lang/String")) (by decide)
      refine g_dup X522 hx hby at_96 rfl (pc' := 97) rfl ?_
      refine g_aload X522 hx hby at_97 rfl rfl (pc' := 99) rfl ?_
      refine g_aload X522 hx hby at_99 rfl rfl (pc' := 101) rfl ?_
      refine g_callC (argsL := [(.ref b278), (.ref a509)]) (S := [(.ref b522)]) (a := b522) X522 hx hby hZ509 (y := (⟨"com/example/filingledger/filingledger/RecordField", "<init>", "(Ljava/lang/String;Ljava/lang/String;)V"⟩ : MethodName)) rfl hown509 (hw _ (List.mem_of_getElem? (i := 30) rfl)) (hw _ (List.mem_of_getElem? (i := 31) rfl)) (hw _ (List.mem_of_getElem? (i := 29) rfl)) (hw _ (List.mem_of_getElem? (i := 32) rfl)) (by decide) (own_ri l Z a0 hw b522 b278 a509 h522 n0 zz546 A522 q548 q549 nn529 z277 hx0 ⟨w278, q538, q539, q540, q541⟩ 7 7 (fun i => ([117, 110, 107, 110, 111, 119, 110] : List Int32).getD i 0) rfl ⟨b509, q542, q543, q544, q545⟩ cs q532 hcs own_unk (by decide) (by decide) fm q533 hfm ci aa na g q534 q536 q535 q537 hA) (by rw [hml]; rfl) (lenOf own_pd22 rfl) rfl at_101 (by decide) (W := 1) (by exact Nat.le_of_eq rfl) (by decide) (by decide) (by decide) (pc' := 104) rfl (fun T550 v550 X550 hQ550 => ?_)
      obtain ⟨rfl, ka550, fv550⟩ := hQ550
      have q551 := own_sta_keep q532 ka550 (allS (own_plain A522) all0)
      have q552 := own_sta_keep q533 ka550 (allS (own_plain A522) all0)
      have q553 := own_sta_keep q534 ka550 (allS (own_plain A522) all0)
      have q554 := own_sta_keep q535 ka550 (allS (own_plain A522) all0)
      have q555 := q536.keep ka550
      have q556 := q537.keep ka550 (ninS ne524 nin0)
      have q557 := q538.keep ka550
      have q558 := q539.keep ka550 (ninS ne525 nin0)
      have q559 := q540.keep ka550 (ninS ne525 nin0)
      have q560 := q541.keep ka550 (ninS ne526 nin0)
      have q561 := q542.keep ka550
      have q562 := q543.keep ka550 (ninS ne527 nin0)
      have q563 := q544.keep ka550 (ninS ne527 nin0)
      have q564 := q545.keep ka550 (ninS ne528 nin0)
      have q565 := A522.keep ka550
      have zz566 := Nat.le_trans zz546 ka550.1
      have hk567 := Nat.le_trans hk531 ka550.1
      have kk568 : Keep h0 T550.heap [] := kk547.trans ka550 (allS (Or.inr hh530) all0)
      show Gl p e below n0 _ _ (T550.setTop (mkF m 104 #[.val (.int y0), .val (.int y1), .val (.int y2), .val (.int y3), .val (.int y4), .val (.ref b278), .val (.int z288), .val (.ref a509), .unset, .unset] [(.ref b522)]))
      refine g_astore (L' := #[.val (.int y0), .val (.int y1), .val (.int y2), .val (.int y3), .val (.int y4), .val (.ref b278), .val (.int z288), .val (.ref a509), .val (.ref b522), .unset]) X550 hx hby at_104 rfl rfl (pc' := 106) rfl ?_
      refine g_iload X550 hx hby at_106 rfl (pc' := 108) rfl ?_
      refine g_if_eq X550 hx hby at_108 (by decide) (pc' := 115) (by decide) (pc2 := 111) rfl (fun q => absurd q c26_289) (fun c108_569 => ?_)
      refine g_iconst (v := 1) X550 hx hby at_111 rfl (pc' := 112) rfl ?_
      refine g_goto X550 hx hby at_112 (by decide) (pc' := 116) (by decide) ?_
      refine g_istore (L' := #[.val (.int y0), .val (.int y1), .val (.int y2), .val (.int y3), .val (.int y4), .val (.ref b278), .val (.int z288), .val (.ref a509), .val (.ref b522), .val (.int (1 : Int32))]) X550 hx hby at_116 rfl (pc' := 118) rfl ?_
      refine g_aload X550 hx hby at_118 rfl rfl (pc' := 120) rfl ?_
      refine g_callV (argsL := []) (S := []) (a := b522) X550 hx hby hZ509 (y := (⟨"com/example/filingledger/filingledger/RecordField", "isKnown", "()Z"⟩ : MethodName)) (y' := (⟨"com/example/filingledger/filingledger/RecordField", "isKnown", "()Z"⟩ : MethodName)) hown509 (hw _ (List.mem_of_getElem? (i := 91) rfl)) (hw _ (List.mem_of_getElem? (i := 92) rfl)) (notFace_of_selects (args := #[]) (mvT hZ509 (hw _ (List.mem_of_getElem? (i := 94) rfl)))) (hw _ (List.mem_of_getElem? (i := 94) rfl)) (hw _ (List.mem_of_getElem? (i := 93) rfl)) (hw _ (List.mem_of_getElem? (i := 29) rfl)) (hw _ (List.mem_of_getElem? (i := 95) rfl)) (by decide) q565 (own_kn l Z a0 hw b522 T550.heap n0 a509 fv550) (by rw [hml]; rfl) (lenOf own_pd6 rfl) rfl at_120 (by decide) (W := 0) (by exact Nat.le_of_eq rfl) (by decide) (by decide) (by decide) (pc' := 123) rfl (fun T570 v570 X570 hQ570 => ?_)
      obtain ⟨rfl, e570⟩ := hQ570
      rw [e570] at X570
      show Gl p e below n0 _ _ (T570.setTop (mkF m 123 #[.val (.int y0), .val (.int y1), .val (.int y2), .val (.int y3), .val (.int y4), .val (.ref b278), .val (.int z288), .val (.ref a509), .val (.ref b522), .val (.int (1 : Int32))] [(.int (1 : Int32))]))
      refine g_iload X570 hx hby at_123 rfl (pc' := 125) rfl ?_
      refine g_icmp_ne X570 hx hby at_125 (by decide) (pc' := 132) (by decide) (pc2 := 128) rfl (fun q => absurd (by decide) q) (fun c125_571 => ?_)
      refine g_iconst (v := 1) X570 hx hby at_128 rfl (pc' := 129) rfl ?_
      refine g_goto X570 hx hby at_129 (by decide) (pc' := 133) (by decide) ?_
      exact gw_retN X570 hx hby hS509 hk567 hret hlk (by simp) at_133 rfl (by decide) (by decide)
  · refine g_aconst_null X278 hx hby at_29 (pc' := 30) rfl ?_
    refine g_astore (L' := #[.val (.int y0), .val (.int y1), .val (.int y2), .val (.int y3), .val (.int y4), .val (.ref b278), .val (.int z288), .val .null, .unset, .unset]) X278 hx hby at_30 rfl rfl (pc' := 32) rfl ?_
    refine g_goto X278 hx hby at_32 (by decide) (pc' := 93) (by decide) ?_
    refine g_new X278 hx hby hZ hown (hw _ (List.mem_of_getElem? (i := 27) rfl)) (hw _ (List.mem_of_getElem? (i := 28) rfl)) (hw _ (List.mem_of_getElem? (i := 29) rfl)) at_93 (by decide) (by decide) (pc' := 96) rfl (fun T572 h572 b572 g572 X572 E572 A572 D572 => ?_)
    have ne573 : ci ≠ b572 := by rw [g572]; exact Nat.ne_of_lt q283.lt
    have ne574 : aa ≠ b572 := by rw [g572]; exact Nat.ne_of_lt q284.lt
    have ne575 : b278 ≠ b572 := by rw [g572]; exact Nat.ne_of_lt LEn278.lt
    have ne576 : w278 ≠ b572 := by rw [g572]; exact Nat.ne_of_lt LAn278.lt
    have nn577 : n0 ≤ b572 := by rw [g572]; exact zz285
    have hh578 : h0.size ≤ b572 := by rw [g572]; exact kk287.1
    have hk579 := Nat.le_trans hk286 E572.1
    have q580 := q279.ext E572
    have q581 := q280.ext E572
    have q582 := q281.ext E572
    have q583 := q282.ext E572
    have q584 := q283.ext E572
    have q585 := q284.ext E572
    have q586 := LEn278.ext E572
    have q587 := LVn278.ext E572
    have q588 := LCn278.ext E572
    have q589 := LAn278.ext E572
    have zz590 := Nat.le_trans zz285 E572.1
    have kk591 : Keep h0 h572 [] := kk287.ext E572
    have q592 : Fld Z h572 b572 "com/example/filingledger/filingledger/RecordField" "name" "Ljava/lang/String;" .null := D572 (Or.inr (hw _ (List.mem_of_getElem? (i := 88) rfl))) (ty := (.object "java/lang/String")) (by decide)
    have q593 : Fld Z h572 b572 "com/example/filingledger/filingledger/RecordField" "value" "Ljava/lang/String;" .null := D572 (Or.inr (hw _ (List.mem_of_getElem? (i := 90) rfl))) (ty := (.object "java/lang/String")) (by decide)
    refine g_dup X572 hx hby at_96 rfl (pc' := 97) rfl ?_
    refine g_aload X572 hx hby at_97 rfl rfl (pc' := 99) rfl ?_
    refine g_aload X572 hx hby at_99 rfl rfl (pc' := 101) rfl ?_
    refine g_callC (argsL := [(.ref b278), .null]) (S := [(.ref b572)]) (a := b572) X572 hx hby hZ (y := (⟨"com/example/filingledger/filingledger/RecordField", "<init>", "(Ljava/lang/String;Ljava/lang/String;)V"⟩ : MethodName)) rfl hown (hw _ (List.mem_of_getElem? (i := 30) rfl)) (hw _ (List.mem_of_getElem? (i := 31) rfl)) (hw _ (List.mem_of_getElem? (i := 29) rfl)) (hw _ (List.mem_of_getElem? (i := 32) rfl)) (by decide) (own_riN l Z a0 hw b572 b278 h572 n0 zz590 A572 q592 q593 nn577 z277 hx0 ⟨w278, q586, q587, q588, q589⟩ cs q580 hcs fm q581 hfm ci aa na g q582 q584 q583 q585 hA) (by rw [hml]; rfl) (lenOf own_pd22 rfl) rfl at_101 (by decide) (W := 1) (by exact Nat.le_of_eq rfl) (by decide) (by decide) (by decide) (pc' := 104) rfl (fun T594 v594 X594 hQ594 => ?_)
    obtain ⟨rfl, ka594, fv594⟩ := hQ594
    have q595 := own_sta_keep q580 ka594 (allS (own_plain A572) all0)
    have q596 := own_sta_keep q581 ka594 (allS (own_plain A572) all0)
    have q597 := own_sta_keep q582 ka594 (allS (own_plain A572) all0)
    have q598 := own_sta_keep q583 ka594 (allS (own_plain A572) all0)
    have q599 := q584.keep ka594
    have q600 := q585.keep ka594 (ninS ne574 nin0)
    have q601 := q586.keep ka594
    have q602 := q587.keep ka594 (ninS ne575 nin0)
    have q603 := q588.keep ka594 (ninS ne575 nin0)
    have q604 := q589.keep ka594 (ninS ne576 nin0)
    have q605 := A572.keep ka594
    have zz606 := Nat.le_trans zz590 ka594.1
    have hk607 := Nat.le_trans hk579 ka594.1
    have kk608 : Keep h0 T594.heap [] := kk591.trans ka594 (allS (Or.inr hh578) all0)
    show Gl p e below n0 _ _ (T594.setTop (mkF m 104 #[.val (.int y0), .val (.int y1), .val (.int y2), .val (.int y3), .val (.int y4), .val (.ref b278), .val (.int z288), .val .null, .unset, .unset] [(.ref b572)]))
    refine g_astore (L' := #[.val (.int y0), .val (.int y1), .val (.int y2), .val (.int y3), .val (.int y4), .val (.ref b278), .val (.int z288), .val .null, .val (.ref b572), .unset]) X594 hx hby at_104 rfl rfl (pc' := 106) rfl ?_
    refine g_iload X594 hx hby at_106 rfl (pc' := 108) rfl ?_
    refine g_if_eq X594 hx hby at_108 (by decide) (pc' := 115) (by decide) (pc2 := 111) rfl (fun c108_609 => ?_) (fun q => absurd c26_289 q)
    refine g_iconst (v := 0) X594 hx hby at_115 rfl (pc' := 116) rfl ?_
    refine g_istore (L' := #[.val (.int y0), .val (.int y1), .val (.int y2), .val (.int y3), .val (.int y4), .val (.ref b278), .val (.int z288), .val .null, .val (.ref b572), .val (.int (0 : Int32))]) X594 hx hby at_116 rfl (pc' := 118) rfl ?_
    refine g_aload X594 hx hby at_118 rfl rfl (pc' := 120) rfl ?_
    refine g_callV (argsL := []) (S := []) (a := b572) X594 hx hby hZ (y := (⟨"com/example/filingledger/filingledger/RecordField", "isKnown", "()Z"⟩ : MethodName)) (y' := (⟨"com/example/filingledger/filingledger/RecordField", "isKnown", "()Z"⟩ : MethodName)) hown (hw _ (List.mem_of_getElem? (i := 91) rfl)) (hw _ (List.mem_of_getElem? (i := 92) rfl)) (notFace_of_selects (args := #[]) (mvT hZ (hw _ (List.mem_of_getElem? (i := 94) rfl)))) (hw _ (List.mem_of_getElem? (i := 94) rfl)) (hw _ (List.mem_of_getElem? (i := 93) rfl)) (hw _ (List.mem_of_getElem? (i := 29) rfl)) (hw _ (List.mem_of_getElem? (i := 95) rfl)) (by decide) q605 (own_knN l Z a0 hw b572 T594.heap n0 fv594) (by rw [hml]; rfl) (lenOf own_pd6 rfl) rfl at_120 (by decide) (W := 0) (by exact Nat.le_of_eq rfl) (by decide) (by decide) (by decide) (pc' := 123) rfl (fun T610 v610 X610 hQ610 => ?_)
    obtain ⟨rfl, e610⟩ := hQ610
    rw [e610] at X610
    show Gl p e below n0 _ _ (T610.setTop (mkF m 123 #[.val (.int y0), .val (.int y1), .val (.int y2), .val (.int y3), .val (.int y4), .val (.ref b278), .val (.int z288), .val .null, .val (.ref b572), .val (.int (0 : Int32))] [(.int (0 : Int32))]))
    refine g_iload X610 hx hby at_123 rfl (pc' := 125) rfl ?_
    refine g_icmp_ne X610 hx hby at_125 (by decide) (pc' := 132) (by decide) (pc2 := 128) rfl (fun q => absurd (by decide) q) (fun c125_611 => ?_)
    refine g_iconst (v := 1) X610 hx hby at_128 rfl (pc' := 129) rfl ?_
    refine g_goto X610 hx hby at_129 (by decide) (pc' := 133) (by decide) ?_
    exact gw_retN X610 hx hby hS hk607 hret hlk (by simp) at_133 rfl (by decide) (by decide)
theorem own_eq_int {args : Array Value} {s : State} {t : Term} {k : Int32} (h : (Jvm.Cond.eq t (.int k)).value args s none s [] = some true) : t.eval args s none [] s = some (.int k) := by
  obtain ⟨x, y, hx, hy, k1, k2⟩ := cmp_v (Or.inl h)
  obtain rfl : y = .int k := (Option.some.inj ((show (Term.int k).eval args s none [] s = some (.int k) from rfl).symm.trans hy)).symm
  obtain ⟨z, rfl⟩ : ∃ z, x = .int z := k2
  simp [Cond.value, hx, hy] at h
  rw [hx, h]
theorem own_el {s : State} {args : Array Value} {t : Term} {x : Addr} {cl : Cell} {j v : Int32} {i : Nat} (ev : t.eval args s none [] s = some (.ref x)) (hc : s.heap[x]? = some cl) (w : (Jvm.Cond.eq (.elem t (.int j)) (.int v)).before args s = true) (hj : j.toInt = (i : Int)) : cl.slots[i]? = some (.int v) := by
  have h := own_eq_int (Cond.before_iff.mp w)
  have q := elem_in h ev rfl hc
  have e1 : j.toNatClampNeg = i := by simp only [Int32.toNatClampNeg]; omega
  rw [e1] at q; exact q.2
theorem own_getD {cl : Cell} {i : Nat} {v : Value} (h : cl.slots[i]? = some v) : i < cl.slots.size ∧ cl.slots.getD i .null = v := by
  obtain ⟨hi, e⟩ := Array.getElem?_eq_some_iff.mp h
  exact ⟨hi, by simp [Array.getD, hi, e]⟩
theorem own_cons {P : Nat → Prop} {a a' b : Nat} (e : a + 1 = a') (h : P a) (k : ∀ i, a' ≤ i → i < b → P i) : ∀ i, a ≤ i → i < b → P i := fun i h1 h2 => by
  by_cases q : i = a
  · rw [q]; exact h
  · exact k i (by omega) h2
theorem own_one {s : State} {args : Array Value} {t : Term} {x : Addr} {cl : Cell} {j v : Int32} {i : Nat} (ev : t.eval args s none [] s = some (.ref x)) (hc : s.heap[x]? = some cl) (w : (Jvm.Cond.eq (.elem t (.int j)) (.int v)).before args s = true) (hj : j.toInt = (i : Int)) (hv : ¬ (v &&& (28672 : Int32)) = 16384) : i < cl.slots.size ∧ ∃ z : Int32, (cl.slots.getD i .null) = .int z ∧ ¬ (z &&& (28672 : Int32)) = 16384 := by
  obtain ⟨h1, h2⟩ := own_getD (own_el ev hc w hj)
  exact ⟨h1, v, h2, hv⟩
set_option maxRecDepth 65536 in
theorem own_tabw {s : State} {args : Array Value} {x : Addr} {cl : Cell} (hr : ∀ d ∈ jdkStatics_1, d.before args s = true) (ev : (Term.static "java/lang/CharacterDataLatin1" "A" "[I").eval args s none [] s = some (.ref x)) (hc : s.heap[x]? = some cl) : ∀ i, 33 ≤ i → i < 127 → i < cl.slots.size ∧ ∃ z : Int32, (cl.slots.getD i .null) = .int z ∧ ¬ (z &&& (28672 : Int32)) = 16384 := by
  refine own_cons (a' := 34) rfl (own_one ev hc (hr _ (List.mem_of_getElem? (i := 50) rfl)) rfl (by decide)) ?_
  refine own_cons (a' := 35) rfl (own_one ev hc (hr _ (List.mem_of_getElem? (i := 51) rfl)) rfl (by decide)) ?_
  refine own_cons (a' := 36) rfl (own_one ev hc (hr _ (List.mem_of_getElem? (i := 52) rfl)) rfl (by decide)) ?_
  refine own_cons (a' := 37) rfl (own_one ev hc (hr _ (List.mem_of_getElem? (i := 53) rfl)) rfl (by decide)) ?_
  refine own_cons (a' := 38) rfl (own_one ev hc (hr _ (List.mem_of_getElem? (i := 54) rfl)) rfl (by decide)) ?_
  refine own_cons (a' := 39) rfl (own_one ev hc (hr _ (List.mem_of_getElem? (i := 55) rfl)) rfl (by decide)) ?_
  refine own_cons (a' := 40) rfl (own_one ev hc (hr _ (List.mem_of_getElem? (i := 56) rfl)) rfl (by decide)) ?_
  refine own_cons (a' := 41) rfl (own_one ev hc (hr _ (List.mem_of_getElem? (i := 57) rfl)) rfl (by decide)) ?_
  refine own_cons (a' := 42) rfl (own_one ev hc (hr _ (List.mem_of_getElem? (i := 58) rfl)) rfl (by decide)) ?_
  refine own_cons (a' := 43) rfl (own_one ev hc (hr _ (List.mem_of_getElem? (i := 59) rfl)) rfl (by decide)) ?_
  refine own_cons (a' := 44) rfl (own_one ev hc (hr _ (List.mem_of_getElem? (i := 60) rfl)) rfl (by decide)) ?_
  refine own_cons (a' := 45) rfl (own_one ev hc (hr _ (List.mem_of_getElem? (i := 61) rfl)) rfl (by decide)) ?_
  refine own_cons (a' := 46) rfl (own_one ev hc (hr _ (List.mem_of_getElem? (i := 62) rfl)) rfl (by decide)) ?_
  refine own_cons (a' := 47) rfl (own_one ev hc (hr _ (List.mem_of_getElem? (i := 63) rfl)) rfl (by decide)) ?_
  refine own_cons (a' := 48) rfl (own_one ev hc (hr _ (List.mem_of_getElem? (i := 64) rfl)) rfl (by decide)) ?_
  refine own_cons (a' := 49) rfl (own_one ev hc (hr _ (List.mem_of_getElem? (i := 65) rfl)) rfl (by decide)) ?_
  refine own_cons (a' := 50) rfl (own_one ev hc (hr _ (List.mem_of_getElem? (i := 66) rfl)) rfl (by decide)) ?_
  refine own_cons (a' := 51) rfl (own_one ev hc (hr _ (List.mem_of_getElem? (i := 67) rfl)) rfl (by decide)) ?_
  refine own_cons (a' := 52) rfl (own_one ev hc (hr _ (List.mem_of_getElem? (i := 68) rfl)) rfl (by decide)) ?_
  refine own_cons (a' := 53) rfl (own_one ev hc (hr _ (List.mem_of_getElem? (i := 69) rfl)) rfl (by decide)) ?_
  refine own_cons (a' := 54) rfl (own_one ev hc (hr _ (List.mem_of_getElem? (i := 70) rfl)) rfl (by decide)) ?_
  refine own_cons (a' := 55) rfl (own_one ev hc (hr _ (List.mem_of_getElem? (i := 71) rfl)) rfl (by decide)) ?_
  refine own_cons (a' := 56) rfl (own_one ev hc (hr _ (List.mem_of_getElem? (i := 72) rfl)) rfl (by decide)) ?_
  refine own_cons (a' := 57) rfl (own_one ev hc (hr _ (List.mem_of_getElem? (i := 73) rfl)) rfl (by decide)) ?_
  refine own_cons (a' := 58) rfl (own_one ev hc (hr _ (List.mem_of_getElem? (i := 74) rfl)) rfl (by decide)) ?_
  refine own_cons (a' := 59) rfl (own_one ev hc (hr _ (List.mem_of_getElem? (i := 75) rfl)) rfl (by decide)) ?_
  refine own_cons (a' := 60) rfl (own_one ev hc (hr _ (List.mem_of_getElem? (i := 76) rfl)) rfl (by decide)) ?_
  refine own_cons (a' := 61) rfl (own_one ev hc (hr _ (List.mem_of_getElem? (i := 77) rfl)) rfl (by decide)) ?_
  refine own_cons (a' := 62) rfl (own_one ev hc (hr _ (List.mem_of_getElem? (i := 78) rfl)) rfl (by decide)) ?_
  refine own_cons (a' := 63) rfl (own_one ev hc (hr _ (List.mem_of_getElem? (i := 79) rfl)) rfl (by decide)) ?_
  refine own_cons (a' := 64) rfl (own_one ev hc (hr _ (List.mem_of_getElem? (i := 80) rfl)) rfl (by decide)) ?_
  refine own_cons (a' := 65) rfl (own_one ev hc (hr _ (List.mem_of_getElem? (i := 81) rfl)) rfl (by decide)) ?_
  refine own_cons (a' := 66) rfl (own_one ev hc (hr _ (List.mem_of_getElem? (i := 82) rfl)) rfl (by decide)) ?_
  refine own_cons (a' := 67) rfl (own_one ev hc (hr _ (List.mem_of_getElem? (i := 83) rfl)) rfl (by decide)) ?_
  refine own_cons (a' := 68) rfl (own_one ev hc (hr _ (List.mem_of_getElem? (i := 84) rfl)) rfl (by decide)) ?_
  refine own_cons (a' := 69) rfl (own_one ev hc (hr _ (List.mem_of_getElem? (i := 85) rfl)) rfl (by decide)) ?_
  refine own_cons (a' := 70) rfl (own_one ev hc (hr _ (List.mem_of_getElem? (i := 86) rfl)) rfl (by decide)) ?_
  refine own_cons (a' := 71) rfl (own_one ev hc (hr _ (List.mem_of_getElem? (i := 87) rfl)) rfl (by decide)) ?_
  refine own_cons (a' := 72) rfl (own_one ev hc (hr _ (List.mem_of_getElem? (i := 88) rfl)) rfl (by decide)) ?_
  refine own_cons (a' := 73) rfl (own_one ev hc (hr _ (List.mem_of_getElem? (i := 89) rfl)) rfl (by decide)) ?_
  refine own_cons (a' := 74) rfl (own_one ev hc (hr _ (List.mem_of_getElem? (i := 90) rfl)) rfl (by decide)) ?_
  refine own_cons (a' := 75) rfl (own_one ev hc (hr _ (List.mem_of_getElem? (i := 91) rfl)) rfl (by decide)) ?_
  refine own_cons (a' := 76) rfl (own_one ev hc (hr _ (List.mem_of_getElem? (i := 92) rfl)) rfl (by decide)) ?_
  refine own_cons (a' := 77) rfl (own_one ev hc (hr _ (List.mem_of_getElem? (i := 93) rfl)) rfl (by decide)) ?_
  refine own_cons (a' := 78) rfl (own_one ev hc (hr _ (List.mem_of_getElem? (i := 94) rfl)) rfl (by decide)) ?_
  refine own_cons (a' := 79) rfl (own_one ev hc (hr _ (List.mem_of_getElem? (i := 95) rfl)) rfl (by decide)) ?_
  refine own_cons (a' := 80) rfl (own_one ev hc (hr _ (List.mem_of_getElem? (i := 96) rfl)) rfl (by decide)) ?_
  refine own_cons (a' := 81) rfl (own_one ev hc (hr _ (List.mem_of_getElem? (i := 97) rfl)) rfl (by decide)) ?_
  refine own_cons (a' := 82) rfl (own_one ev hc (hr _ (List.mem_of_getElem? (i := 98) rfl)) rfl (by decide)) ?_
  refine own_cons (a' := 83) rfl (own_one ev hc (hr _ (List.mem_of_getElem? (i := 99) rfl)) rfl (by decide)) ?_
  refine own_cons (a' := 84) rfl (own_one ev hc (hr _ (List.mem_of_getElem? (i := 100) rfl)) rfl (by decide)) ?_
  refine own_cons (a' := 85) rfl (own_one ev hc (hr _ (List.mem_of_getElem? (i := 101) rfl)) rfl (by decide)) ?_
  refine own_cons (a' := 86) rfl (own_one ev hc (hr _ (List.mem_of_getElem? (i := 102) rfl)) rfl (by decide)) ?_
  refine own_cons (a' := 87) rfl (own_one ev hc (hr _ (List.mem_of_getElem? (i := 103) rfl)) rfl (by decide)) ?_
  refine own_cons (a' := 88) rfl (own_one ev hc (hr _ (List.mem_of_getElem? (i := 104) rfl)) rfl (by decide)) ?_
  refine own_cons (a' := 89) rfl (own_one ev hc (hr _ (List.mem_of_getElem? (i := 105) rfl)) rfl (by decide)) ?_
  refine own_cons (a' := 90) rfl (own_one ev hc (hr _ (List.mem_of_getElem? (i := 106) rfl)) rfl (by decide)) ?_
  refine own_cons (a' := 91) rfl (own_one ev hc (hr _ (List.mem_of_getElem? (i := 107) rfl)) rfl (by decide)) ?_
  refine own_cons (a' := 92) rfl (own_one ev hc (hr _ (List.mem_of_getElem? (i := 108) rfl)) rfl (by decide)) ?_
  refine own_cons (a' := 93) rfl (own_one ev hc (hr _ (List.mem_of_getElem? (i := 109) rfl)) rfl (by decide)) ?_
  refine own_cons (a' := 94) rfl (own_one ev hc (hr _ (List.mem_of_getElem? (i := 110) rfl)) rfl (by decide)) ?_
  refine own_cons (a' := 95) rfl (own_one ev hc (hr _ (List.mem_of_getElem? (i := 111) rfl)) rfl (by decide)) ?_
  refine own_cons (a' := 96) rfl (own_one ev hc (hr _ (List.mem_of_getElem? (i := 112) rfl)) rfl (by decide)) ?_
  refine own_cons (a' := 97) rfl (own_one ev hc (hr _ (List.mem_of_getElem? (i := 113) rfl)) rfl (by decide)) ?_
  refine own_cons (a' := 98) rfl (own_one ev hc (hr _ (List.mem_of_getElem? (i := 114) rfl)) rfl (by decide)) ?_
  refine own_cons (a' := 99) rfl (own_one ev hc (hr _ (List.mem_of_getElem? (i := 115) rfl)) rfl (by decide)) ?_
  refine own_cons (a' := 100) rfl (own_one ev hc (hr _ (List.mem_of_getElem? (i := 116) rfl)) rfl (by decide)) ?_
  refine own_cons (a' := 101) rfl (own_one ev hc (hr _ (List.mem_of_getElem? (i := 117) rfl)) rfl (by decide)) ?_
  refine own_cons (a' := 102) rfl (own_one ev hc (hr _ (List.mem_of_getElem? (i := 118) rfl)) rfl (by decide)) ?_
  refine own_cons (a' := 103) rfl (own_one ev hc (hr _ (List.mem_of_getElem? (i := 119) rfl)) rfl (by decide)) ?_
  refine own_cons (a' := 104) rfl (own_one ev hc (hr _ (List.mem_of_getElem? (i := 120) rfl)) rfl (by decide)) ?_
  refine own_cons (a' := 105) rfl (own_one ev hc (hr _ (List.mem_of_getElem? (i := 121) rfl)) rfl (by decide)) ?_
  refine own_cons (a' := 106) rfl (own_one ev hc (hr _ (List.mem_of_getElem? (i := 122) rfl)) rfl (by decide)) ?_
  refine own_cons (a' := 107) rfl (own_one ev hc (hr _ (List.mem_of_getElem? (i := 123) rfl)) rfl (by decide)) ?_
  refine own_cons (a' := 108) rfl (own_one ev hc (hr _ (List.mem_of_getElem? (i := 124) rfl)) rfl (by decide)) ?_
  refine own_cons (a' := 109) rfl (own_one ev hc (hr _ (List.mem_of_getElem? (i := 125) rfl)) rfl (by decide)) ?_
  refine own_cons (a' := 110) rfl (own_one ev hc (hr _ (List.mem_of_getElem? (i := 126) rfl)) rfl (by decide)) ?_
  refine own_cons (a' := 111) rfl (own_one ev hc (hr _ (List.mem_of_getElem? (i := 127) rfl)) rfl (by decide)) ?_
  refine own_cons (a' := 112) rfl (own_one ev hc (hr _ (List.mem_of_getElem? (i := 128) rfl)) rfl (by decide)) ?_
  refine own_cons (a' := 113) rfl (own_one ev hc (hr _ (List.mem_of_getElem? (i := 129) rfl)) rfl (by decide)) ?_
  refine own_cons (a' := 114) rfl (own_one ev hc (hr _ (List.mem_of_getElem? (i := 130) rfl)) rfl (by decide)) ?_
  refine own_cons (a' := 115) rfl (own_one ev hc (hr _ (List.mem_of_getElem? (i := 131) rfl)) rfl (by decide)) ?_
  refine own_cons (a' := 116) rfl (own_one ev hc (hr _ (List.mem_of_getElem? (i := 132) rfl)) rfl (by decide)) ?_
  refine own_cons (a' := 117) rfl (own_one ev hc (hr _ (List.mem_of_getElem? (i := 133) rfl)) rfl (by decide)) ?_
  refine own_cons (a' := 118) rfl (own_one ev hc (hr _ (List.mem_of_getElem? (i := 134) rfl)) rfl (by decide)) ?_
  refine own_cons (a' := 119) rfl (own_one ev hc (hr _ (List.mem_of_getElem? (i := 135) rfl)) rfl (by decide)) ?_
  refine own_cons (a' := 120) rfl (own_one ev hc (hr _ (List.mem_of_getElem? (i := 136) rfl)) rfl (by decide)) ?_
  refine own_cons (a' := 121) rfl (own_one ev hc (hr _ (List.mem_of_getElem? (i := 137) rfl)) rfl (by decide)) ?_
  refine own_cons (a' := 122) rfl (own_one ev hc (hr _ (List.mem_of_getElem? (i := 138) rfl)) rfl (by decide)) ?_
  refine own_cons (a' := 123) rfl (own_one ev hc (hr _ (List.mem_of_getElem? (i := 139) rfl)) rfl (by decide)) ?_
  refine own_cons (a' := 124) rfl (own_one ev hc (hr _ (List.mem_of_getElem? (i := 140) rfl)) rfl (by decide)) ?_
  refine own_cons (a' := 125) rfl (own_one ev hc (hr _ (List.mem_of_getElem? (i := 141) rfl)) rfl (by decide)) ?_
  refine own_cons (a' := 126) rfl (own_one ev hc (hr _ (List.mem_of_getElem? (i := 142) rfl)) rfl (by decide)) ?_
  refine own_cons (a' := 127) rfl (own_one ev hc (hr _ (List.mem_of_getElem? (i := 143) rfl)) rfl (by decide)) ?_
  exact fun i h1 h2 => absurd h1 (by omega)
set_option maxRecDepth 65536 in
set_option maxHeartbeats 40000000 in
theorem comes_1 {Post : Tables → Env → Array Value → State → Outcome → State → Prop} (hpost : ∀ tb e args s v u, (limb_1_1.after args s (.returned v) u = true ∧ limb_1_2.after args s (.returned v) u = true ∧ True) → ReturnedEndW s (.returned v) u (Jvm.fieldLocs frame_1_writes args s ++ Jvm.arrayLocs frame_1_arrays args s ++ Jvm.staticLocs frame_1_statics s) 24 1152 → Post tb e args s (.returned v) u) :
    ArmFor flags0 classFile x code maxLocals ret World_1 tables_1 room_1 Calls_1 rest_1 Pre_1 Post := by
  intro l hfl _ _ p e ha hc hk s m args below hf hA hF happ hP
  obtain ⟨hcalls, hrest, hpre⟩ := hP
  obtain ⟨-, -, -, hnamed, -, -, -, hat⟩ := (Spec.applies_iff hf).mp happ
  obtain ⟨hg, hn⟩ := and_e (Cond.before_iff.mp (show (Jvm.Cond.and given_1 narrow_1).before args s = true from hpre))
  obtain ⟨hcount, hg0⟩ := and_e hg
  obtain ⟨w0, w1, w2, w3, w4, rfl⟩ : ∃ w0 w1 w2 w3 w4 : Value, args = #[w0, w1, w2, w3, w4] := by
    have hs : args.size = 5 := by simpa [Cond.value, given_1] using hcount
    obtain ⟨L⟩ := args
    match L, hs with
    | [w0, w1, w2, w3, w4], _ => exact ⟨w0, w1, w2, w3, w4, rfl⟩
  have hw := fun d (hd : d ∈ tables_1) => atoms_spec (ws := Jvm.Cond.code x code maxLocals ret :: tables_1) hat d (List.mem_cons_of_mem _ hd)
  have hfit : Fit s := fun {y c} hc i hi => by
    obtain ⟨ha, rfl⟩ := Array.getElem?_eq_some_iff.mp hc
    have q := List.all_eq_true.mp ((Array.all_eq_true_iff_forall_mem.mp hF) _ (Array.getElem_mem ha)) i (List.mem_range.mpr hi)
    simpa [Array.getElem?_eq_getElem hi] using q
  obtain ⟨hk0, hg1⟩ := and_e hg0
  obtain ⟨i0, e0⟩ := is_v hk0
  obtain rfl : w0 = (.int i0) := Option.some.inj e0
  obtain ⟨hk1, hg2⟩ := and_e hg1
  obtain ⟨i1, e1⟩ := is_v hk1
  obtain rfl : w1 = (.int i1) := Option.some.inj e1
  obtain ⟨hk2, hg3⟩ := and_e hg2
  obtain ⟨i2, e2⟩ := is_v hk2
  obtain rfl : w2 = (.int i2) := Option.some.inj e2
  obtain ⟨hk3, hg4⟩ := and_e hg3
  obtain ⟨i3, e3⟩ := is_v hk3
  obtain rfl : w3 = (.int i3) := Option.some.inj e3
  obtain ⟨i4, e4⟩ := is_v hg4
  obtain rfl : w4 = (.int i4) := Option.some.inj e4
  have hr := (atoms_of _ (show (jdkStatics_1.foldr Jvm.Cond.and restOwn_1).before _ s = true from (rest_1_c_eq ▸ (show rest_1_c.before _ s = true from hrest)))).1
  obtain ⟨cs, ecs⟩ := is_v (Cond.before_iff.mp (hr _ (List.mem_of_getElem? (i := 1) rfl)))
  have Sc := Sta.start ecs (Or.inl (hr _ (List.mem_of_getElem? (i := 0) rfl)))
  have hcs : ¬ cs = 0 := gotF (Cond.eq_ints ecs (by rfl)) (not_v (Cond.before_iff.mp (hr _ (List.mem_of_getElem? (i := 2) rfl))))
  obtain ⟨fm, efm, hfm⟩ := isR_v (Cond.before_iff.mp (hr _ (List.mem_of_getElem? (i := 8) rfl)))
  have Sf := Sta.start efm (Or.inl (hr _ (List.mem_of_getElem? (i := 7) rfl)))
  have xi := Cond.before_iff.mp (hr _ (List.mem_of_getElem? (i := 11) rfl))
  obtain ⟨ci, eci⟩ := exa_v xi
  have Si := Sta.start eci (Or.inl (hr _ (List.mem_of_getElem? (i := 10) rfl)))
  have Ei := Exa.start eci xi
  have xa := Cond.before_iff.mp (hr _ (List.mem_of_getElem? (i := 14) rfl))
  obtain ⟨aa, eaa⟩ := arr_v xa
  have Sa := Sta.start eaa (Or.inl (hr _ (List.mem_of_getElem? (i := 13) rfl)))
  obtain ⟨cl, Ar⟩ := Arr.start eaa xa
  have Aa : Ary s s.heap aa .int cl.slots.size (fun i => cl.slots.getD i .null) := ⟨cl, Ar, rfl, fun i hi => by simp [Array.getD, hi]⟩
  have hA := own_tabw hr eaa Ar.1
  have hcw : Jvm.Lit.compactW.before #[Value.int i0, Value.int i1, Value.int i2, Value.int i3, Value.int i4] s = true := hr _ (List.mem_of_getElem? (i := 2) rfl)
  have hheld : Jvm.Lit.constHeld s "com/example/filingledger/filingledger/RecordFieldIsKnownPinLaw" 14 := hcalls.1 ("com/example/filingledger/filingledger/RecordFieldIsKnownPinLaw", 14) (by simp [consts_1])
  obtain ⟨n, o, h1, h2, h3, _, L, rfl, ⟨rfl, N⟩, hq⟩ := own_rm0 l s _ hw i0 i1 i2 i3 i4 s.heap s.heap.size (Nat.le_refl _) (Nat.le_refl _) hheld hcw cs Sc hcs fm Sf hfm ci aa _ _ Si Ei Sa Aa hA p e ha hc hk s m _ below hf ((Spec.applies_iff_loose hf).mp happ).1 ⟨rfl, rfl, rfl⟩ trivial
  exact ⟨n, _, h1, h2, h3, hpost _ _ _ _ _ _ ⟨Cond.after_iff.mpr rfl, Cond.after_iff.mpr (eq_i res_at (Term.int_eval (1)) rfl), trivial⟩ ⟨hq.1, hq.2.1, hq.2.2.1, (hq.2.2.2.sift fun y hy => Or.inr (N y hy)).mono (by decide) (by decide)⟩⟩
theorem main_1_1 : Claimed_1_1 := comes_1 fun _ _ _ _ _ _ h hF => ⟨h.1, hF⟩
theorem main_1_2 : Claimed_1_2 := comes_1 fun _ _ _ _ _ _ h hF => ⟨h.2.1, hF⟩
end Jvm.Pilot.@@N@@
namespace Jvm.Pilot.@@N@@
open Jvm Jvm.ClassFile Sem Op Lib Jvm.Free Jvm.Stand Jvm.Pilot.@@N@@.Jvm.D
/-! MADE BY PROGRAM (witnessworld.py) out of the Statement's table words and the real class files: 24 classes; the members and pool entries that the words name. The judged class is class 1, her method 2. -/
namespace start1
open Jvm.ClassFile
def u (s : String) : CpInfo := .utf8 (stringToUtf16 s)
/-- a pool by its gaps: so many unusable entries, then the entry; so many at the end -/
def gap : Nat → List CpInfo → List CpInfo
  | 0, r => r
  | n + 1, r => .unusable :: gap n r
def poolList (es : List (Nat × CpInfo)) (last : Nat) : List CpInfo := es.foldr (fun e r => gap e.1 (e.2 :: r)) (gap last [])
def pool (es : List (Nat × CpInfo)) (last : Nat) : Array CpInfo := ⟨poolList es last⟩
def fileOf (pool : Array CpInfo) (this : Nat) (attrs : Array Attribute := #[]) (ms : Array MethodInfo := #[]) (fl : Nat := 33) (sup : Nat := 0) (ifs : Array Nat := #[]) (fds : Array FieldInfo := #[]) : ClassFile where
  minorVersion := 0
  majorVersion := 65
  constantPool := pool
  accessFlags := fl
  thisClass := this
  superClass := sup
  interfaces := ifs
  fields := fds
  methods := ms
  attributes := attrs
def plain (name : String) (sup : Option ClassId) : Class where
  name := name
  kind := .ordinary
  loader := none
  accessFlags := 33
  super := sup
  interfaces := #[]
  cf := none
  fields := #[]
  methods := #[]
  instanceTypes := #[]
  staticTypes := #[]
  resolved := #[]
  callSites := []
  init := .initialized
  statics := none
  mirror := none

def pool0 : Array CpInfo := pool [(5, u "<init>"), (0, u "()V"), (1, .class_ 10), (1, u "java/lang/Object")] 113

def k0c0 : Code := { maxStack := 0, maxLocals := 1, code := object_method_1_code, exceptionTable := #[], attributes := #[] }
def k0m0 : Method := { name := "<init>", desc := "()V", sig := { parameters := [], returnType := none }, accessFlags := 1, code := some k0c0 }
/-- java/lang/Object -/
def k0 : Class := { plain "java/lang/Object" none with
  accessFlags := 33
  interfaces := #[]
  cf := some (fileOf pool0 8 #[] #[{ accessFlags := 1, nameIndex := 5, descriptorIndex := 6, attributes := #[] }] 33 0 #[] #[])
  fields := #[]
  methods := #[k0m0]
  instanceTypes := #[]
  staticTypes := #[]
  resolved := Array.replicate 124 none
  statics := none }

def pool1 : Array CpInfo := pool [(2, .class_ 4), (1, u "java/lang/Object"), (0, u "<init>"), (0, u "()V"), (0, .integer 2147483647), (0, .methodref 9 10), (0, .class_ 11), (0, .nameAndType 12 13), (0, u "java/lang/String"), (0, u "valueOf"), (0, u "(C)Ljava/lang/String;"), (0, .string 15), (0, u "unknown"), (0, .methodref 17 18), (0, .class_ 19), (0, .nameAndType 20 21), (0, u "com/example/filingledger/filingledger/RecordFieldIsKnownPinLaw"), (0, u "printable"), (0, u "(I)C"), (0, .methodref 9 23), (0, .nameAndType 5 24), (0, u "([C)V"), (0, .class_ 26), (0, u "com/example/filingledger/filingledger/RecordField"), (0, .methodref 25 28), (0, .nameAndType 5 29), (0, u "(Ljava/lang/String;Ljava/lang/String;)V"), (0, .methodref 25 31), (0, .nameAndType 32 33), (0, u "isKnown"), (0, u "()Z"), (2, u "law"), (0, u "(IIIII)Z")] 3

def k1m0 : Method := { name := "<init>", desc := "()V", sig := { parameters := [], returnType := none }, accessFlags := 2, code := none }
def k1c1 : Code := { maxStack := 3, maxLocals := 1, code := method_2_code, exceptionTable := #[], attributes := #[] }
def k1m1 : Method := { name := "printable", desc := "(I)C", sig := { parameters := [.int], returnType := some .char }, accessFlags := 10, code := some k1c1 }
def k1c2 : Code := { maxStack := 6, maxLocals := 10, code := code, exceptionTable := #[], attributes := #[] }
def k1m2 : Method := { name := "law", desc := "(IIIII)Z", sig := { parameters := [.int, .int, .int, .int, .int], returnType := some .boolean }, accessFlags := 9, code := some k1c2 }
/-- com/example/filingledger/filingledger/RecordFieldIsKnownPinLaw -/
def k1 : Class := { plain "com/example/filingledger/filingledger/RecordFieldIsKnownPinLaw" (some 0) with
  accessFlags := 49
  interfaces := #[]
  cf := some (fileOf pool1 17 #[] #[{ accessFlags := 2, nameIndex := 5, descriptorIndex := 6, attributes := #[] }, { accessFlags := 10, nameIndex := 20, descriptorIndex := 21, attributes := #[] }, { accessFlags := 9, nameIndex := 36, descriptorIndex := 37, attributes := #[] }] 49 2 #[] #[])
  fields := #[]
  methods := #[k1m0, k1m1, k1m2]
  instanceTypes := #[]
  staticTypes := #[]
  resolved := Array.replicate 41 none
  statics := none }

def pool2 : Array CpInfo := pool [(1, .class_ 2), (0, u "java/io/Serializable"), (0, .class_ 4), (0, u "java/lang/Object")] 2

/-- java/io/Serializable -/
def k2 : Class := { plain "java/io/Serializable" (some 0) with
  accessFlags := 1537
  interfaces := #[]
  cf := some (fileOf pool2 1 #[] #[] 1537 3 #[] #[])
  fields := #[]
  methods := #[]
  instanceTypes := #[]
  staticTypes := #[]
  resolved := Array.replicate 7 none
  statics := none }

def pool3 : Array CpInfo := pool [(1, .class_ 2), (0, u "java/lang/Comparable"), (0, .class_ 4), (0, u "java/lang/Object")] 7

/-- java/lang/Comparable -/
def k3 : Class := { plain "java/lang/Comparable" (some 0) with
  accessFlags := 1537
  interfaces := #[]
  cf := some (fileOf pool3 1 #[] #[] 1537 3 #[] #[])
  fields := #[]
  methods := #[]
  instanceTypes := #[]
  staticTypes := #[]
  resolved := Array.replicate 12 none
  statics := none }

def pool4 : Array CpInfo := pool [(2, .class_ 4), (1, u "java/lang/CharSequence"), (42, .class_ 48), (0, u "java/lang/CharSequence$1CodePointIterator"), (10, .class_ 60), (0, u "java/lang/CharSequence$1CharIterator"), (5, .class_ 67), (0, u "java/lang/Object")] 63

/-- java/lang/CharSequence -/
def k4 : Class := { plain "java/lang/CharSequence" (some 0) with
  accessFlags := 1537
  interfaces := #[]
  cf := some (fileOf pool4 2 #[.nestMembers #[47, 59]] #[] 1537 66 #[] #[])
  fields := #[]
  methods := #[]
  instanceTypes := #[]
  staticTypes := #[]
  resolved := Array.replicate 131 none
  statics := none }

def pool5 : Array CpInfo := pool [(1, .class_ 2), (0, u "java/lang/constant/Constable"), (0, .class_ 4), (0, u "java/lang/Object")] 6

/-- java/lang/constant/Constable -/
def k5 : Class := { plain "java/lang/constant/Constable" (some 0) with
  accessFlags := 1537
  interfaces := #[]
  cf := some (fileOf pool5 1 #[] #[] 1537 3 #[] #[])
  fields := #[]
  methods := #[]
  instanceTypes := #[]
  staticTypes := #[]
  resolved := Array.replicate 11 none
  statics := none }

def pool6 : Array CpInfo := pool [(1, .class_ 2), (0, u "java/lang/constant/ConstantDesc"), (0, .class_ 4), (0, u "java/lang/Object")] 32

/-- java/lang/constant/ConstantDesc -/
def k6 : Class := { plain "java/lang/constant/ConstantDesc" (some 0) with
  accessFlags := 1537
  interfaces := #[]
  cf := some (fileOf pool6 1 #[] #[] 1537 3 #[] #[])
  fields := #[]
  methods := #[]
  instanceTypes := #[]
  staticTypes := #[]
  resolved := Array.replicate 37 none
  statics := none }

def pool7 : Array CpInfo := pool [(1, .methodref 2 3), (0, .class_ 4), (0, .nameAndType 5 6), (0, u "java/lang/Object"), (0, u "<init>"), (0, u "()V"), (2, .fieldref 10 11), (0, .class_ 12), (0, .nameAndType 13 14), (0, u "java/lang/String"), (0, u "value"), (0, u "[B"), (0, .fieldref 10 16), (0, .nameAndType 17 18), (0, u "coder"), (0, u "B"), (2, u "hash"), (0, u "I"), (2, u "hashIsZero"), (0, u "Z"), (0, .methodref 10 28), (0, .nameAndType 5 29), (0, u "([CIILjava/lang/Void;)V"), (8, .fieldref 10 39), (0, .nameAndType 40 26), (0, u "COMPACT_STRINGS"), (1, .class_ 44), (1, u "java/lang/StringUTF16"), (0, u "compress"), (1, .methodref 42 48), (0, .nameAndType 49 50), (0, u "coderFromArrayLen"), (0, u "([BI)B"), (2, u "toBytes"), (53, .class_ 109), (1, u "java/lang/StringLatin1"), (32, u "()Z"), (34, .methodref 42 178), (0, .nameAndType 45 179), (0, u "([CII)[B"), (29, .methodref 10 210), (0, .nameAndType 5 211), (0, u "([BB)V"), (122, u "()I"), (0, .methodref 10 336), (0, .nameAndType 17 337), (0, u "()B"), (25, u "([BI)C"), (5, u "(C)Z"), (21, u "(II)V"), (35, u "(I)C"), (36, u "()Ljava/lang/String;"), (27, .methodref 10 493), (0, .nameAndType 494 142), (0, u "isLatin1"), (0, .methodref 107 496), (0, .nameAndType 497 363), (0, u "charAt"), (3, u "checkIndex"), (5, u "length"), (67, .class_ 576), (0, u "java/lang/CharSequence"), (22, u "CASE_INSENSITIVE_ORDER"), (0, u "Ljava/util/Comparator;"), (91, u "isEmpty"), (89, u "valueOf"), (0, u "(C)Ljava/lang/String;"), (78, u "([B)Ljava/lang/String;"), (1, .methodref 107 865), (0, .nameAndType 866 862), (0, u "strip"), (143, u "([C)V"), (4, .methodref 107 1016), (0, .nameAndType 1017 369), (0, u "canEncode"), (0, .methodref 107 1019), (0, .nameAndType 53 1020), (0, u "(C)[B"), (32, .fieldref 1054 1055), (0, .class_ 1056), (0, .nameAndType 1057 1058), (0, u "jdk/internal/util/Preconditions"), (0, u "SIOOBE_FORMATTER"), (0, u "Ljava/util/function/BiFunction;"), (0, .methodref 1054 1060), (0, .nameAndType 501 1061), (0, u "(IILjava/util/function/BiFunction;)I"), (39, u "serialPersistentFields"), (0, u "[Ljava/io/ObjectStreamField;"), (0, .class_ 1104), (0, u "java/lang/String$CaseInsensitiveComparator"), (1, .class_ 1107), (0, u "java/io/Serializable"), (0, .class_ 1109), (0, u "java/lang/Comparable"), (0, .class_ 1111), (0, u "java/lang/constant/Constable"), (0, .class_ 1113), (0, u "java/lang/constant/ConstantDesc"), (2, u "serialVersionUID"), (0, u "J"), (3, u "REPL"), (0, u "C"), (2, u "LATIN1"), (1, u "UTF16")] 323

def k7m0 : Method := { name := "<init>", desc := "()V", sig := { parameters := [], returnType := none }, accessFlags := 1, code := none }
def k7c1 : Code := { maxStack := 5, maxLocals := 2, code := jdk_42_method_3_code, exceptionTable := #[], attributes := #[] }
def k7m1 : Method := { name := "<init>", desc := "([C)V", sig := { parameters := [(.array .char)], returnType := none }, accessFlags := 1, code := some k7c1 }
def k7c2 : Code := { maxStack := 2, maxLocals := 1, code := jdk_42_method_54_code, exceptionTable := #[], attributes := #[] }
def k7m2 : Method := { name := "length", desc := "()I", sig := { parameters := [], returnType := some .int }, accessFlags := 1, code := some k7c2 }
def k7c3 : Code := { maxStack := 1, maxLocals := 1, code := jdk_42_method_55_code, exceptionTable := #[], attributes := #[] }
def k7m3 : Method := { name := "isEmpty", desc := "()Z", sig := { parameters := [], returnType := some .boolean }, accessFlags := 1, code := some k7c3 }
def k7c4 : Code := { maxStack := 2, maxLocals := 2, code := jdk_42_method_56_code, exceptionTable := #[], attributes := #[] }
def k7m4 : Method := { name := "charAt", desc := "(I)C", sig := { parameters := [.int], returnType := some .char }, accessFlags := 1, code := some k7c4 }
def k7c5 : Code := { maxStack := 1, maxLocals := 2, code := jdk_42_method_114_code, exceptionTable := #[], attributes := #[] }
def k7m5 : Method := { name := "strip", desc := "()Ljava/lang/String;", sig := { parameters := [], returnType := some (.object "java/lang/String") }, accessFlags := 1, code := some k7c5 }
def k7c6 : Code := { maxStack := 4, maxLocals := 1, code := jdk_42_method_139_code, exceptionTable := #[], attributes := #[] }
def k7m6 : Method := { name := "valueOf", desc := "(C)Ljava/lang/String;", sig := { parameters := [.char], returnType := some (.object "java/lang/String") }, accessFlags := 9, code := some k7c6 }
def k7c7 : Code := { maxStack := 4, maxLocals := 6, code := jdk_42_method_149_code, exceptionTable := #[], attributes := #[] }
def k7m7 : Method := { name := "<init>", desc := "([CIILjava/lang/Void;)V", sig := { parameters := [(.array .char), .int, .int, (.object "java/lang/Void")], returnType := none }, accessFlags := 2, code := some k7c7 }
def k7c8 : Code := { maxStack := 2, maxLocals := 3, code := jdk_42_method_151_code, exceptionTable := #[], attributes := #[] }
def k7m8 : Method := { name := "<init>", desc := "([BB)V", sig := { parameters := [(.array .byte), .byte], returnType := none }, accessFlags := 0, code := some k7c8 }
def k7c9 : Code := { maxStack := 1, maxLocals := 1, code := jdk_42_method_152_code, exceptionTable := #[], attributes := #[] }
def k7m9 : Method := { name := "coder", desc := "()B", sig := { parameters := [], returnType := some .byte }, accessFlags := 0, code := some k7c9 }
def k7c10 : Code := { maxStack := 1, maxLocals := 1, code := jdk_42_method_154_code, exceptionTable := #[], attributes := #[] }
def k7m10 : Method := { name := "isLatin1", desc := "()Z", sig := { parameters := [], returnType := some .boolean }, accessFlags := 0, code := some k7c10 }
def k7c11 : Code := { maxStack := 3, maxLocals := 2, code := jdk_42_method_155_code, exceptionTable := #[], attributes := #[] }
def k7m11 : Method := { name := "checkIndex", desc := "(II)V", sig := { parameters := [.int, .int], returnType := none }, accessFlags := 8, code := some k7c11 }
/-- java/lang/String -/
def k7 : Class := { plain "java/lang/String" (some 0) with
  accessFlags := 49
  interfaces := #[2, 3, 4, 5, 6]
  cf := some (fileOf pool7 10 #[.nestMembers #[1103]] #[{ accessFlags := 1, nameIndex := 5, descriptorIndex := 6, attributes := #[] }, { accessFlags := 1, nameIndex := 5, descriptorIndex := 1010, attributes := #[] }, { accessFlags := 1, nameIndex := 507, descriptorIndex := 334, attributes := #[] }, { accessFlags := 1, nameIndex := 692, descriptorIndex := 142, attributes := #[] }, { accessFlags := 1, nameIndex := 497, descriptorIndex := 427, attributes := #[] }, { accessFlags := 1, nameIndex := 866, descriptorIndex := 464, attributes := #[] }, { accessFlags := 9, nameIndex := 782, descriptorIndex := 783, attributes := #[] }, { accessFlags := 2, nameIndex := 5, descriptorIndex := 29, attributes := #[] }, { accessFlags := 0, nameIndex := 5, descriptorIndex := 211, attributes := #[] }, { accessFlags := 0, nameIndex := 17, descriptorIndex := 337, attributes := #[] }, { accessFlags := 0, nameIndex := 494, descriptorIndex := 142, attributes := #[] }, { accessFlags := 8, nameIndex := 501, descriptorIndex := 391, attributes := #[] }] 49 2 #[1106, 1108, 575, 1110, 1112] #[{ accessFlags := 18, nameIndex := 13, descriptorIndex := 14, attributes := #[] }, { accessFlags := 18, nameIndex := 17, descriptorIndex := 18, attributes := #[] }, { accessFlags := 2, nameIndex := 21, descriptorIndex := 22, attributes := #[] }, { accessFlags := 2, nameIndex := 25, descriptorIndex := 26, attributes := #[] }, { accessFlags := 26, nameIndex := 1116, descriptorIndex := 1117, attributes := #[] }, { accessFlags := 24, nameIndex := 40, descriptorIndex := 26, attributes := #[] }, { accessFlags := 26, nameIndex := 1101, descriptorIndex := 1102, attributes := #[] }, { accessFlags := 26, nameIndex := 1121, descriptorIndex := 1122, attributes := #[] }, { accessFlags := 25, nameIndex := 599, descriptorIndex := 600, attributes := #[] }, { accessFlags := 24, nameIndex := 1125, descriptorIndex := 18, attributes := #[] }, { accessFlags := 24, nameIndex := 1127, descriptorIndex := 18, attributes := #[] }])
  fields := #[{ name := "value", type := (.array .byte), accessFlags := 18, slot := 0, constantValue := 0 }, { name := "coder", type := .byte, accessFlags := 18, slot := 1, constantValue := 0 }, { name := "hash", type := .int, accessFlags := 2, slot := 2, constantValue := 0 }, { name := "hashIsZero", type := .boolean, accessFlags := 2, slot := 3, constantValue := 0 }, { name := "serialVersionUID", type := .long, accessFlags := 26, slot := 0, constantValue := 0 }, { name := "COMPACT_STRINGS", type := .boolean, accessFlags := 24, slot := 1, constantValue := 0 }, { name := "serialPersistentFields", type := (.array (.object "java/io/ObjectStreamField")), accessFlags := 26, slot := 2, constantValue := 0 }, { name := "REPL", type := .char, accessFlags := 26, slot := 3, constantValue := 0 }, { name := "CASE_INSENSITIVE_ORDER", type := (.object "java/util/Comparator"), accessFlags := 25, slot := 4, constantValue := 0 }, { name := "LATIN1", type := .byte, accessFlags := 24, slot := 5, constantValue := 0 }, { name := "UTF16", type := .byte, accessFlags := 24, slot := 6, constantValue := 0 }]
  methods := #[k7m0, k7m1, k7m2, k7m3, k7m4, k7m5, k7m6, k7m7, k7m8, k7m9, k7m10, k7m11]
  instanceTypes := #[(.array .byte), .byte, .int, .boolean]
  staticTypes := #[.long, .boolean, (.array (.object "java/io/ObjectStreamField")), .char, (.object "java/util/Comparator"), .byte, .byte]
  resolved := Array.replicate 1451 none
  statics := some 0 }

def pool8 : Array CpInfo := pool [(1, .class_ 2), (0, u "java/lang/String"), (1, .class_ 6), (1, u "java/lang/Object"), (0, u "<init>"), (0, u "()V"), (0, .methodref 1 10), (0, .nameAndType 11 12), (0, u "checkIndex"), (0, u "(II)V"), (1, .class_ 16), (1, u "java/lang/StringLatin1"), (33, .methodref 14 51), (0, .nameAndType 52 53), (0, u "getChar"), (0, u "([BI)C"), (3, u "([B)I"), (8, .fieldref 67 68), (0, .class_ 69), (0, .nameAndType 70 71), (0, u "java/lang/CharacterDataLatin1"), (0, u "instance"), (0, u "Ljava/lang/CharacterDataLatin1;"), (18, u "canEncode"), (0, u "(I)Z"), (13, u "(C)Z"), (15, u "$assertionsDisabled"), (0, u "Z"), (88, .methodref 67 212), (0, .nameAndType 213 91), (0, u "isWhitespace"), (0, .methodref 14 215), (0, .nameAndType 216 57), (0, u "indexOfNonWhitespace"), (0, .methodref 14 218), (0, .nameAndType 219 57), (0, u "lastIndexOfNonWhitespace"), (1, .class_ 223), (1, u "java/lang/StringLatin1$LinesSpliterator"), (28, u "charAt"), (114, u "([B)Ljava/lang/String;"), (3, u "strip"), (8, u "toBytes"), (1, u "(C)[B"), (7, .class_ 391), (0, u "java/lang/StringLatin1$CharsSpliterator")] 3

def k8m0 : Method := { name := "<init>", desc := "()V", sig := { parameters := [], returnType := none }, accessFlags := 0, code := none }
def k8c1 : Code := { maxStack := 2, maxLocals := 2, code := jdk_43_method_2_code, exceptionTable := #[], attributes := #[] }
def k8m1 : Method := { name := "charAt", desc := "([BI)C", sig := { parameters := [(.array .byte), .int], returnType := some .char }, accessFlags := 9, code := some k8c1 }
def k8c2 : Code := { maxStack := 2, maxLocals := 1, code := jdk_43_method_3_code, exceptionTable := #[], attributes := #[] }
def k8m2 : Method := { name := "canEncode", desc := "(C)Z", sig := { parameters := [.char], returnType := some .boolean }, accessFlags := 9, code := some k8c2 }
def k8c3 : Code := { maxStack := 2, maxLocals := 4, code := jdk_43_method_37_code, exceptionTable := #[], attributes := #[] }
def k8m3 : Method := { name := "indexOfNonWhitespace", desc := "([B)I", sig := { parameters := [(.array .byte)], returnType := some .int }, accessFlags := 9, code := some k8c3 }
def k8c4 : Code := { maxStack := 3, maxLocals := 4, code := jdk_43_method_38_code, exceptionTable := #[], attributes := #[] }
def k8m4 : Method := { name := "lastIndexOfNonWhitespace", desc := "([B)I", sig := { parameters := [(.array .byte)], returnType := some .int }, accessFlags := 9, code := some k8c4 }
def k8c5 : Code := { maxStack := 4, maxLocals := 4, code := jdk_43_method_39_code, exceptionTable := #[], attributes := #[] }
def k8m5 : Method := { name := "strip", desc := "([B)Ljava/lang/String;", sig := { parameters := [(.array .byte)], returnType := some (.object "java/lang/String") }, accessFlags := 9, code := some k8c5 }
def k8c6 : Code := { maxStack := 2, maxLocals := 2, code := jdk_43_method_44_code, exceptionTable := #[], attributes := #[] }
def k8m6 : Method := { name := "getChar", desc := "([BI)C", sig := { parameters := [(.array .byte), .int], returnType := some .char }, accessFlags := 9, code := some k8c6 }
def k8c7 : Code := { maxStack := 4, maxLocals := 1, code := jdk_43_method_46_code, exceptionTable := #[], attributes := #[] }
def k8m7 : Method := { name := "toBytes", desc := "(C)[B", sig := { parameters := [.char], returnType := some (.array .byte) }, accessFlags := 9, code := some k8c7 }
/-- java/lang/StringLatin1 -/
def k8 : Class := { plain "java/lang/StringLatin1" (some 0) with
  accessFlags := 48
  interfaces := #[]
  cf := some (fileOf pool8 14 #[.nestMembers #[390, 221]] #[{ accessFlags := 0, nameIndex := 7, descriptorIndex := 8, attributes := #[] }, { accessFlags := 9, nameIndex := 252, descriptorIndex := 53, attributes := #[] }, { accessFlags := 9, nameIndex := 90, descriptorIndex := 105, attributes := #[] }, { accessFlags := 9, nameIndex := 216, descriptorIndex := 57, attributes := #[] }, { accessFlags := 9, nameIndex := 219, descriptorIndex := 57, attributes := #[] }, { accessFlags := 9, nameIndex := 371, descriptorIndex := 367, attributes := #[] }, { accessFlags := 9, nameIndex := 52, descriptorIndex := 53, attributes := #[] }, { accessFlags := 9, nameIndex := 380, descriptorIndex := 382, attributes := #[] }] 48 4 #[] #[{ accessFlags := 4120, nameIndex := 121, descriptorIndex := 122, attributes := #[] }])
  fields := #[{ name := "$assertionsDisabled", type := .boolean, accessFlags := 4120, slot := 0, constantValue := 0 }]
  methods := #[k8m0, k8m1, k8m2, k8m3, k8m4, k8m5, k8m6, k8m7]
  instanceTypes := #[]
  staticTypes := #[.boolean]
  resolved := Array.replicate 395 none
  statics := none }

def pool9 : Array CpInfo := pool [(1, .methodref 2 3), (0, .class_ 4), (0, .nameAndType 5 6), (0, u "java/lang/Object"), (0, u "<init>"), (0, u "()V"), (0, .class_ 8), (0, u "java/lang/Record")] 13

def k9c0 : Code := { maxStack := 1, maxLocals := 1, code := jdk_30_method_1_code, exceptionTable := #[], attributes := #[] }
def k9m0 : Method := { name := "<init>", desc := "()V", sig := { parameters := [], returnType := none }, accessFlags := 4, code := some k9c0 }
/-- java/lang/Record -/
def k9 : Class := { plain "java/lang/Record" (some 0) with
  accessFlags := 1057
  interfaces := #[]
  cf := some (fileOf pool9 7 #[] #[{ accessFlags := 4, nameIndex := 5, descriptorIndex := 6, attributes := #[] }] 1057 2 #[] #[])
  fields := #[]
  methods := #[k9m0]
  instanceTypes := #[]
  staticTypes := #[]
  resolved := Array.replicate 22 none
  statics := none }

def pool10 : Array CpInfo := pool [(1, .methodref 2 3), (0, .class_ 4), (0, .nameAndType 5 6), (0, u "java/lang/Record"), (0, u "<init>"), (0, u "()V"), (0, .methodref 8 9), (0, .class_ 10), (0, .nameAndType 11 12), (0, u "com/example/filingledger/filingledger/RecordField"), (0, u "checkName"), (0, u "(Ljava/lang/String;)V"), (0, .methodref 8 14), (0, .nameAndType 15 16), (0, u "checkValue"), (0, u "(Ljava/lang/String;Ljava/lang/String;)V"), (0, .fieldref 8 18), (0, .nameAndType 19 20), (0, u "name"), (0, u "Ljava/lang/String;"), (0, .fieldref 8 22), (0, .nameAndType 23 20), (0, u "value"), (0, .methodref 8 25), (0, .nameAndType 26 27), (0, u "isName"), (0, u "(Ljava/lang/String;)Z"), (11, .methodref 8 40), (0, .nameAndType 41 27), (0, u "isOneTrimmedLine"), (3, .methodref 46 47), (0, .class_ 48), (0, .nameAndType 49 27), (0, u "com/example/filingledger/filingledger/Text"), (0, u "hasControl"), (12, .class_ 64), (1, u "java/lang/String"), (8, u "()Ljava/lang/String;"), (8, .methodref 62 83), (0, .nameAndType 84 85), (0, u "length"), (0, u "()I"), (19, .methodref 62 106), (0, .nameAndType 107 108), (0, u "charAt"), (0, u "(I)C"), (5, u "isKnown"), (0, u "()Z"), (2, .methodref 62 119), (0, .nameAndType 120 115), (0, u "isEmpty"), (0, .methodref 8 122), (0, .nameAndType 123 124), (0, u "isLowerCaseLetter"), (0, u "(C)Z"), (0, .methodref 46 126), (0, .nameAndType 127 27), (0, u "hasLineBreak"), (0, .methodref 62 129), (0, .nameAndType 130 73), (0, u "strip"), (14, u "UNKNOWN"), (1, u "DATE_FORM")] 49

def k10c0 : Code := { maxStack := 2, maxLocals := 3, code := prog_17_method_1_code, exceptionTable := #[], attributes := #[] }
def k10m0 : Method := { name := "<init>", desc := "(Ljava/lang/String;Ljava/lang/String;)V", sig := { parameters := [(.object "java/lang/String"), (.object "java/lang/String")], returnType := none }, accessFlags := 1, code := some k10c0 }
def k10c1 : Code := { maxStack := 3, maxLocals := 1, code := prog_17_method_2_code, exceptionTable := #[], attributes := #[] }
def k10m1 : Method := { name := "checkName", desc := "(Ljava/lang/String;)V", sig := { parameters := [(.object "java/lang/String")], returnType := none }, accessFlags := 8, code := some k10c1 }
def k10c2 : Code := { maxStack := 4, maxLocals := 2, code := prog_17_method_3_code, exceptionTable := #[], attributes := #[] }
def k10m2 : Method := { name := "checkValue", desc := "(Ljava/lang/String;Ljava/lang/String;)V", sig := { parameters := [(.object "java/lang/String"), (.object "java/lang/String")], returnType := none }, accessFlags := 8, code := some k10c2 }
def k10c3 : Code := { maxStack := 1, maxLocals := 1, code := prog_17_method_10_code, exceptionTable := #[], attributes := #[] }
def k10m3 : Method := { name := "isKnown", desc := "()Z", sig := { parameters := [], returnType := some .boolean }, accessFlags := 1, code := some k10c3 }
def k10c4 : Code := { maxStack := 2, maxLocals := 3, code := prog_17_method_12_code, exceptionTable := #[], attributes := #[] }
def k10m4 : Method := { name := "isName", desc := "(Ljava/lang/String;)Z", sig := { parameters := [(.object "java/lang/String")], returnType := some .boolean }, accessFlags := 10, code := some k10c4 }
def k10c5 : Code := { maxStack := 2, maxLocals := 1, code := prog_17_method_13_code, exceptionTable := #[], attributes := #[] }
def k10m5 : Method := { name := "isLowerCaseLetter", desc := "(C)Z", sig := { parameters := [.char], returnType := some .boolean }, accessFlags := 10, code := some k10c5 }
def k10c6 : Code := { maxStack := 2, maxLocals := 1, code := prog_17_method_14_code, exceptionTable := #[], attributes := #[] }
def k10m6 : Method := { name := "isOneTrimmedLine", desc := "(Ljava/lang/String;)Z", sig := { parameters := [(.object "java/lang/String")], returnType := some .boolean }, accessFlags := 10, code := some k10c6 }
/-- com/example/filingledger/filingledger/RecordField -/
def k10 : Class := { plain "com/example/filingledger/filingledger/RecordField" (some 9) with
  accessFlags := 49
  interfaces := #[]
  cf := some (fileOf pool10 8 #[] #[{ accessFlags := 1, nameIndex := 5, descriptorIndex := 16, attributes := #[] }, { accessFlags := 8, nameIndex := 11, descriptorIndex := 12, attributes := #[] }, { accessFlags := 8, nameIndex := 15, descriptorIndex := 16, attributes := #[] }, { accessFlags := 1, nameIndex := 114, descriptorIndex := 115, attributes := #[] }, { accessFlags := 10, nameIndex := 26, descriptorIndex := 27, attributes := #[] }, { accessFlags := 10, nameIndex := 123, descriptorIndex := 124, attributes := #[] }, { accessFlags := 10, nameIndex := 41, descriptorIndex := 27, attributes := #[] }] 49 2 #[] #[{ accessFlags := 18, nameIndex := 19, descriptorIndex := 20, attributes := #[] }, { accessFlags := 18, nameIndex := 23, descriptorIndex := 20, attributes := #[] }, { accessFlags := 25, nameIndex := 145, descriptorIndex := 20, attributes := #[] }, { accessFlags := 26, nameIndex := 147, descriptorIndex := 20, attributes := #[] }])
  fields := #[{ name := "name", type := (.object "java/lang/String"), accessFlags := 18, slot := 0, constantValue := 0 }, { name := "value", type := (.object "java/lang/String"), accessFlags := 18, slot := 1, constantValue := 0 }, { name := "UNKNOWN", type := (.object "java/lang/String"), accessFlags := 25, slot := 0, constantValue := 0 }, { name := "DATE_FORM", type := (.object "java/lang/String"), accessFlags := 26, slot := 1, constantValue := 0 }]
  methods := #[k10m0, k10m1, k10m2, k10m3, k10m4, k10m5, k10m6]
  instanceTypes := #[(.object "java/lang/String"), (.object "java/lang/String")]
  staticTypes := #[(.object "java/lang/String"), (.object "java/lang/String")]
  resolved := Array.replicate 197 none
  statics := none }

def pool11 : Array CpInfo := pool [(2, .class_ 4), (1, u "java/lang/Object"), (0, u "<init>"), (0, u "()V"), (17, .class_ 26), (1, u "jdk/internal/util/Preconditions"), (6, u "checkIndex"), (21, .class_ 56), (0, u "jdk/internal/util/Preconditions$4"), (57, .class_ 115), (0, u "jdk/internal/util/Preconditions$1"), (7, u "SIOOBE_FORMATTER"), (0, u "Ljava/util/function/BiFunction;"), (0, .class_ 126), (0, u "jdk/internal/util/Preconditions$2"), (3, u "AIOOBE_FORMATTER"), (0, .class_ 132), (0, u "jdk/internal/util/Preconditions$3"), (3, u "IOOBE_FORMATTER"), (41, u "(IILjava/util/function/BiFunction;)I")] 15

def k11m0 : Method := { name := "<init>", desc := "()V", sig := { parameters := [], returnType := none }, accessFlags := 1, code := none }
def k11c1 : Code := { maxStack := 3, maxLocals := 3, code := jdk_41_method_11_code, exceptionTable := #[], attributes := #[] }
def k11m1 : Method := { name := "checkIndex", desc := "(IILjava/util/function/BiFunction;)I", sig := { parameters := [.int, .int, (.object "java/util/function/BiFunction")], returnType := some .int }, accessFlags := 9, code := some k11c1 }
/-- jdk/internal/util/Preconditions -/
def k11 : Class := { plain "jdk/internal/util/Preconditions" (some 0) with
  accessFlags := 33
  interfaces := #[]
  cf := some (fileOf pool11 24 #[.nestMembers #[55, 131, 125, 114]] #[{ accessFlags := 1, nameIndex := 5, descriptorIndex := 6, attributes := #[] }, { accessFlags := 9, nameIndex := 33, descriptorIndex := 178, attributes := #[] }] 33 2 #[] #[{ accessFlags := 25, nameIndex := 123, descriptorIndex := 124, attributes := #[] }, { accessFlags := 25, nameIndex := 130, descriptorIndex := 124, attributes := #[] }, { accessFlags := 25, nameIndex := 136, descriptorIndex := 124, attributes := #[] }])
  fields := #[{ name := "SIOOBE_FORMATTER", type := (.object "java/util/function/BiFunction"), accessFlags := 25, slot := 0, constantValue := 0 }, { name := "AIOOBE_FORMATTER", type := (.object "java/util/function/BiFunction"), accessFlags := 25, slot := 1, constantValue := 0 }, { name := "IOOBE_FORMATTER", type := (.object "java/util/function/BiFunction"), accessFlags := 25, slot := 2, constantValue := 0 }]
  methods := #[k11m0, k11m1]
  instanceTypes := #[]
  staticTypes := #[(.object "java/util/function/BiFunction"), (.object "java/util/function/BiFunction"), (.object "java/util/function/BiFunction")]
  resolved := Array.replicate 194 none
  statics := some 1 }

def pool12 : Array CpInfo := pool [(6, .class_ 8), (1, u "java/lang/Object"), (0, u "<init>"), (0, u "()V"), (1, .class_ 14), (1, u "java/lang/StringUTF16"), (31, u "$assertionsDisabled"), (0, u "Z"), (13, u "HI_BYTE_SHIFT"), (0, u "I"), (2, u "LO_BYTE_SHIFT"), (49, .methodref 12 116), (0, .nameAndType 117 118), (0, u "compress"), (0, u "([CI[BII)I"), (3, u "([CII)[B"), (138, u "coderFromArrayLen"), (0, u "([BI)B"), (106, .class_ 371), (1, u "java/lang/StringUTF16$LinesSpliterator"), (58, u "MAX_LENGTH"), (196, .class_ 628), (0, u "java/lang/StringUTF16$CodePointsSpliterator"), (0, .class_ 630), (0, u "java/lang/StringUTF16$CharsSpliterator")] 4

def k12m0 : Method := { name := "<init>", desc := "()V", sig := { parameters := [], returnType := none }, accessFlags := 0, code := none }
def k12c1 : Code := { maxStack := 2, maxLocals := 2, code := jdk_52_method_15_code, exceptionTable := #[], attributes := #[] }
def k12m1 : Method := { name := "coderFromArrayLen", desc := "([BI)B", sig := { parameters := [(.array .byte), .int], returnType := some .byte }, accessFlags := 8, code := some k12c1 }
def k12c2 : Code := { maxStack := 5, maxLocals := 6, code := jdk_52_method_16_code, exceptionTable := #[], attributes := #[] }
def k12m2 : Method := { name := "compress", desc := "([CII)[B", sig := { parameters := [(.array .char), .int, .int], returnType := some (.array .byte) }, accessFlags := 9, code := some k12c2 }
def k12c3 : Code := { maxStack := 3, maxLocals := 7, code := jdk_52_method_21_code, exceptionTable := #[], attributes := #[] }
def k12m3 : Method := { name := "compress", desc := "([CI[BII)I", sig := { parameters := [(.array .char), .int, (.array .byte), .int, .int], returnType := some .int }, accessFlags := 9, code := some k12c3 }
/-- java/lang/StringUTF16 -/
def k12 : Class := { plain "java/lang/StringUTF16" (some 0) with
  accessFlags := 48
  interfaces := #[]
  cf := some (fileOf pool12 12 #[.nestMembers #[627, 629, 369]] #[{ accessFlags := 0, nameIndex := 9, descriptorIndex := 10, attributes := #[] }, { accessFlags := 8, nameIndex := 261, descriptorIndex := 262, attributes := #[] }, { accessFlags := 9, nameIndex := 117, descriptorIndex := 122, attributes := #[] }, { accessFlags := 9, nameIndex := 117, descriptorIndex := 118, attributes := #[] }] 48 6 #[] #[{ accessFlags := 26, nameIndex := 61, descriptorIndex := 62, attributes := #[] }, { accessFlags := 26, nameIndex := 65, descriptorIndex := 62, attributes := #[] }, { accessFlags := 24, nameIndex := 430, descriptorIndex := 62, attributes := #[] }, { accessFlags := 4120, nameIndex := 46, descriptorIndex := 47, attributes := #[] }])
  fields := #[{ name := "HI_BYTE_SHIFT", type := .int, accessFlags := 26, slot := 0, constantValue := 0 }, { name := "LO_BYTE_SHIFT", type := .int, accessFlags := 26, slot := 1, constantValue := 0 }, { name := "MAX_LENGTH", type := .int, accessFlags := 24, slot := 2, constantValue := 0 }, { name := "$assertionsDisabled", type := .boolean, accessFlags := 4120, slot := 3, constantValue := 0 }]
  methods := #[k12m0, k12m1, k12m2, k12m3]
  instanceTypes := #[]
  staticTypes := #[.int, .int, .int, .boolean]
  resolved := Array.replicate 635 none
  statics := none }

def pool13 : Array CpInfo := pool [(1, .class_ 2), (0, u "com/example/filingledger/filingledger/Text"), (1, .class_ 6), (1, u "java/lang/Object"), (0, u "<init>"), (0, u "()V"), (0, .methodref 10 11), (0, .class_ 12), (0, .nameAndType 13 14), (0, u "java/lang/String"), (0, u "length"), (0, u "()I"), (0, .methodref 10 16), (0, .nameAndType 17 18), (0, u "charAt"), (0, u "(I)C"), (2, u "LINE_BREAK_CHARS"), (0, u "Ljava/util/BitSet;"), (6, .methodref 30 31), (0, .class_ 32), (0, .nameAndType 33 34), (0, u "java/lang/Character"), (0, u "isISOControl"), (0, u "(C)Z"), (39, u "WHITE_SPACE_RUN"), (0, u "Ljava/util/regex/Pattern;"), (94, u "DASH_WITH_SPACE"), (32, u "LINE_BREAKS"), (0, u "Ljava/lang/String;"), (1, u "NEXT_LINE"), (0, u "C"), (1, u "WHITE_SPACE"), (2, u "BLANK"), (2, u "HYPHEN"), (1, u "FIRST_OTHER_DASH"), (1, u "LAST_OTHER_DASH"), (1, u "DASH"), (2, u "EXCERPT_LENGTH"), (0, u "I"), (3, u "hasLineBreak"), (0, u "(Ljava/lang/String;)Z"), (1, u "hasControl")] 52

def k13m0 : Method := { name := "<init>", desc := "()V", sig := { parameters := [], returnType := none }, accessFlags := 2, code := none }
def k13c1 : Code := { maxStack := 2, maxLocals := 3, code := prog_22_method_2_code, exceptionTable := #[], attributes := #[] }
def k13m1 : Method := { name := "hasLineBreak", desc := "(Ljava/lang/String;)Z", sig := { parameters := [(.object "java/lang/String")], returnType := some .boolean }, accessFlags := 8, code := some k13c1 }
def k13c2 : Code := { maxStack := 2, maxLocals := 2, code := prog_22_method_3_code, exceptionTable := #[], attributes := #[] }
def k13m2 : Method := { name := "hasControl", desc := "(Ljava/lang/String;)Z", sig := { parameters := [(.object "java/lang/String")], returnType := some .boolean }, accessFlags := 8, code := some k13c2 }
/-- com/example/filingledger/filingledger/Text -/
def k13 : Class := { plain "com/example/filingledger/filingledger/Text" (some 0) with
  accessFlags := 49
  interfaces := #[]
  cf := some (fileOf pool13 1 #[] #[{ accessFlags := 2, nameIndex := 7, descriptorIndex := 8, attributes := #[] }, { accessFlags := 8, nameIndex := 229, descriptorIndex := 230, attributes := #[] }, { accessFlags := 8, nameIndex := 232, descriptorIndex := 230, attributes := #[] }] 49 4 #[] #[{ accessFlags := 26, nameIndex := 203, descriptorIndex := 204, attributes := #[] }, { accessFlags := 26, nameIndex := 21, descriptorIndex := 22, attributes := #[] }, { accessFlags := 26, nameIndex := 206, descriptorIndex := 207, attributes := #[] }, { accessFlags := 24, nameIndex := 209, descriptorIndex := 204, attributes := #[] }, { accessFlags := 24, nameIndex := 212, descriptorIndex := 204, attributes := #[] }, { accessFlags := 26, nameIndex := 215, descriptorIndex := 207, attributes := #[] }, { accessFlags := 26, nameIndex := 217, descriptorIndex := 207, attributes := #[] }, { accessFlags := 26, nameIndex := 219, descriptorIndex := 207, attributes := #[] }, { accessFlags := 24, nameIndex := 221, descriptorIndex := 204, attributes := #[] }, { accessFlags := 26, nameIndex := 224, descriptorIndex := 225, attributes := #[] }, { accessFlags := 26, nameIndex := 74, descriptorIndex := 75, attributes := #[] }, { accessFlags := 26, nameIndex := 170, descriptorIndex := 75, attributes := #[] }])
  fields := #[{ name := "LINE_BREAKS", type := (.object "java/lang/String"), accessFlags := 26, slot := 0, constantValue := 0 }, { name := "LINE_BREAK_CHARS", type := (.object "java/util/BitSet"), accessFlags := 26, slot := 1, constantValue := 0 }, { name := "NEXT_LINE", type := .char, accessFlags := 26, slot := 2, constantValue := 0 }, { name := "WHITE_SPACE", type := (.object "java/lang/String"), accessFlags := 24, slot := 3, constantValue := 0 }, { name := "BLANK", type := (.object "java/lang/String"), accessFlags := 24, slot := 4, constantValue := 0 }, { name := "HYPHEN", type := .char, accessFlags := 26, slot := 5, constantValue := 0 }, { name := "FIRST_OTHER_DASH", type := .char, accessFlags := 26, slot := 6, constantValue := 0 }, { name := "LAST_OTHER_DASH", type := .char, accessFlags := 26, slot := 7, constantValue := 0 }, { name := "DASH", type := (.object "java/lang/String"), accessFlags := 24, slot := 8, constantValue := 0 }, { name := "EXCERPT_LENGTH", type := .int, accessFlags := 26, slot := 9, constantValue := 0 }, { name := "WHITE_SPACE_RUN", type := (.object "java/util/regex/Pattern"), accessFlags := 26, slot := 10, constantValue := 0 }, { name := "DASH_WITH_SPACE", type := (.object "java/util/regex/Pattern"), accessFlags := 26, slot := 11, constantValue := 0 }]
  methods := #[k13m0, k13m1, k13m2]
  instanceTypes := #[]
  staticTypes := #[(.object "java/lang/String"), (.object "java/util/BitSet"), .char, (.object "java/lang/String"), (.object "java/lang/String"), .char, .char, .char, (.object "java/lang/String"), .int, (.object "java/util/regex/Pattern"), (.object "java/util/regex/Pattern")]
  resolved := Array.replicate 285 none
  statics := none }

def pool14 : Array CpInfo := pool [(2, .class_ 4), (1, u "java/lang/Object"), (0, u "<init>"), (0, u "()V"), (1, .class_ 10), (1, u "java/lang/CharacterData")] 75

def k14m0 : Method := { name := "<init>", desc := "()V", sig := { parameters := [], returnType := none }, accessFlags := 0, code := none }
/-- java/lang/CharacterData -/
def k14 : Class := { plain "java/lang/CharacterData" (some 0) with
  accessFlags := 1056
  interfaces := #[]
  cf := some (fileOf pool14 8 #[] #[{ accessFlags := 0, nameIndex := 5, descriptorIndex := 6, attributes := #[] }] 1056 2 #[] #[])
  fields := #[]
  methods := #[k14m0]
  instanceTypes := #[]
  staticTypes := #[]
  resolved := Array.replicate 86 none
  statics := none }

def pool15 : Array CpInfo := pool [(1, .fieldref 2 3), (0, .class_ 4), (0, .nameAndType 5 6), (0, u "java/lang/CharacterDataLatin1"), (0, u "A"), (0, u "[I"), (2, u "B"), (0, u "[C"), (3, u "(I)I"), (0, .methodref 2 16), (0, .nameAndType 17 14), (0, u "getProperties"), (3, u "(I)Z"), (5, u "DIGITS"), (0, u "[B"), (8, u "sharpsMap"), (1, .class_ 41), (1, u "java/lang/CharacterData"), (0, u "<init>"), (0, u "()V"), (3, u "instance"), (0, u "Ljava/lang/CharacterDataLatin1;"), (78, u "isWhitespace")] 13

def k15c0 : Code := { maxStack := 2, maxLocals := 4, code := jdk_116_method_1_code, exceptionTable := #[], attributes := #[] }
def k15m0 : Method := { name := "getProperties", desc := "(I)I", sig := { parameters := [.int], returnType := some .int }, accessFlags := 0, code := some k15c0 }
def k15c1 : Code := { maxStack := 2, maxLocals := 3, code := jdk_116_method_26_code, exceptionTable := #[], attributes := #[] }
def k15m1 : Method := { name := "isWhitespace", desc := "(I)Z", sig := { parameters := [.int], returnType := some .boolean }, accessFlags := 0, code := some k15c1 }
def k15m2 : Method := { name := "<init>", desc := "()V", sig := { parameters := [], returnType := none }, accessFlags := 2, code := none }
/-- java/lang/CharacterDataLatin1 -/
def k15 : Class := { plain "java/lang/CharacterDataLatin1" (some 14) with
  accessFlags := 32
  interfaces := #[]
  cf := some (fileOf pool15 2 #[] #[{ accessFlags := 0, nameIndex := 17, descriptorIndex := 14, attributes := #[] }, { accessFlags := 0, nameIndex := 127, descriptorIndex := 21, attributes := #[] }, { accessFlags := 2, nameIndex := 42, descriptorIndex := 43, attributes := #[] }] 32 39 #[] #[{ accessFlags := 26, nameIndex := 27, descriptorIndex := 28, attributes := #[] }, { accessFlags := 8, nameIndex := 37, descriptorIndex := 10, attributes := #[] }, { accessFlags := 24, nameIndex := 47, descriptorIndex := 48, attributes := #[] }, { accessFlags := 24, nameIndex := 5, descriptorIndex := 6, attributes := #[] }, { accessFlags := 24, nameIndex := 9, descriptorIndex := 10, attributes := #[] }])
  fields := #[{ name := "DIGITS", type := (.array .byte), accessFlags := 26, slot := 0, constantValue := 0 }, { name := "sharpsMap", type := (.array .char), accessFlags := 8, slot := 1, constantValue := 0 }, { name := "instance", type := (.object "java/lang/CharacterDataLatin1"), accessFlags := 24, slot := 2, constantValue := 0 }, { name := "A", type := (.array .int), accessFlags := 24, slot := 3, constantValue := 0 }, { name := "B", type := (.array .char), accessFlags := 24, slot := 4, constantValue := 0 }]
  methods := #[k15m0, k15m1, k15m2]
  instanceTypes := #[]
  staticTypes := #[(.array .byte), (.array .char), (.object "java/lang/CharacterDataLatin1"), (.array .int), (.array .char)]
  resolved := Array.replicate 141 none
  statics := some 2 }

def pool16 : Array CpInfo := pool [(1, .class_ 2), (0, u "java/lang/Character"), (18, u "value"), (0, u "C"), (19, .class_ 44), (1, u "java/lang/Object"), (3, .class_ 50), (1, u "java/lang/Character$CharacterCache"), (30, u "(C)Z"), (32, u "(I)Z"), (151, .methodref 1 267), (0, .nameAndType 268 114), (0, u "isISOControl"), (15, u "$assertionsDisabled"), (0, u "Z"), (21, .class_ 309), (1, u "java/lang/Character$UnicodeBlock"), (73, u "TYPE"), (0, u "Ljava/lang/Class;"), (0, .class_ 386), (0, u "java/io/Serializable"), (0, .class_ 388), (0, u "java/lang/Comparable"), (0, .class_ 390), (0, u "java/lang/constant/Constable"), (0, u "MIN_RADIX"), (0, u "I"), (2, u "MAX_RADIX"), (1, u "MIN_VALUE"), (1, u "MAX_VALUE"), (3, u "UNASSIGNED"), (0, u "B"), (0, u "UPPERCASE_LETTER"), (1, u "LOWERCASE_LETTER"), (0, u "TITLECASE_LETTER"), (1, u "MODIFIER_LETTER"), (1, u "OTHER_LETTER"), (1, u "NON_SPACING_MARK"), (1, u "ENCLOSING_MARK"), (1, u "COMBINING_SPACING_MARK"), (1, u "DECIMAL_DIGIT_NUMBER"), (1, u "LETTER_NUMBER"), (1, u "OTHER_NUMBER"), (1, u "SPACE_SEPARATOR"), (1, u "LINE_SEPARATOR"), (1, u "PARAGRAPH_SEPARATOR"), (1, u "CONTROL"), (1, u "FORMAT"), (1, u "PRIVATE_USE"), (1, u "SURROGATE"), (1, u "DASH_PUNCTUATION"), (1, u "START_PUNCTUATION"), (1, u "END_PUNCTUATION"), (1, u "CONNECTOR_PUNCTUATION"), (1, u "OTHER_PUNCTUATION"), (1, u "MATH_SYMBOL"), (1, u "CURRENCY_SYMBOL"), (1, u "MODIFIER_SYMBOL"), (1, u "OTHER_SYMBOL"), (1, u "INITIAL_QUOTE_PUNCTUATION"), (1, u "FINAL_QUOTE_PUNCTUATION"), (1, u "ERROR"), (1, u "DIRECTIONALITY_UNDEFINED"), (0, u "DIRECTIONALITY_LEFT_TO_RIGHT"), (0, u "DIRECTIONALITY_RIGHT_TO_LEFT"), (0, u "DIRECTIONALITY_RIGHT_TO_LEFT_ARABIC"), (0, u "DIRECTIONALITY_EUROPEAN_NUMBER"), (0, u "DIRECTIONALITY_EUROPEAN_NUMBER_SEPARATOR"), (0, u "DIRECTIONALITY_EUROPEAN_NUMBER_TERMINATOR"), (0, u "DIRECTIONALITY_ARABIC_NUMBER"), (0, u "DIRECTIONALITY_COMMON_NUMBER_SEPARATOR"), (0, u "DIRECTIONALITY_NONSPACING_MARK"), (0, u "DIRECTIONALITY_BOUNDARY_NEUTRAL"), (0, u "DIRECTIONALITY_PARAGRAPH_SEPARATOR"), (0, u "DIRECTIONALITY_SEGMENT_SEPARATOR"), (0, u "DIRECTIONALITY_WHITESPACE"), (0, u "DIRECTIONALITY_OTHER_NEUTRALS"), (0, u "DIRECTIONALITY_LEFT_TO_RIGHT_EMBEDDING"), (0, u "DIRECTIONALITY_LEFT_TO_RIGHT_OVERRIDE"), (0, u "DIRECTIONALITY_RIGHT_TO_LEFT_EMBEDDING"), (0, u "DIRECTIONALITY_RIGHT_TO_LEFT_OVERRIDE"), (1, u "DIRECTIONALITY_POP_DIRECTIONAL_FORMAT"), (0, u "DIRECTIONALITY_LEFT_TO_RIGHT_ISOLATE"), (0, u "DIRECTIONALITY_RIGHT_TO_LEFT_ISOLATE"), (0, u "DIRECTIONALITY_FIRST_STRONG_ISOLATE"), (0, u "DIRECTIONALITY_POP_DIRECTIONAL_ISOLATE"), (0, u "MIN_HIGH_SURROGATE"), (0, u "MAX_HIGH_SURROGATE"), (1, u "MIN_LOW_SURROGATE"), (0, u "MAX_LOW_SURROGATE"), (1, u "MIN_SURROGATE"), (0, u "MAX_SURROGATE"), (0, u "MIN_SUPPLEMENTARY_CODE_POINT"), (0, u "MIN_CODE_POINT"), (0, u "MAX_CODE_POINT"), (1, u "serialVersionUID"), (0, u "J"), (2, u "SIZE"), (0, u "BYTES"), (88, .class_ 596), (0, u "java/lang/Character$UnicodeScript"), (0, .class_ 598), (0, u "java/lang/Character$Subset")] 5

def k16c0 : Code := { maxStack := 1, maxLocals := 1, code := jdk_89_method_88_code, exceptionTable := #[], attributes := #[] }
def k16m0 : Method := { name := "isISOControl", desc := "(C)Z", sig := { parameters := [.char], returnType := some .boolean }, accessFlags := 9, code := some k16c0 }
def k16c1 : Code := { maxStack := 2, maxLocals := 1, code := jdk_89_method_89_code, exceptionTable := #[], attributes := #[] }
def k16m1 : Method := { name := "isISOControl", desc := "(I)Z", sig := { parameters := [.int], returnType := some .boolean }, accessFlags := 9, code := some k16c1 }
/-- java/lang/Character -/
def k16 : Class := { plain "java/lang/Character" (some 0) with
  accessFlags := 49
  interfaces := #[2, 3, 5]
  cf := some (fileOf pool16 1 #[.nestMembers #[48, 595, 307, 597]] #[{ accessFlags := 9, nameIndex := 268, descriptorIndex := 81, attributes := #[] }, { accessFlags := 9, nameIndex := 268, descriptorIndex := 114, attributes := #[] }] 49 42 #[385, 387, 389] #[{ accessFlags := 25, nameIndex := 391, descriptorIndex := 392, attributes := #[] }, { accessFlags := 25, nameIndex := 395, descriptorIndex := 392, attributes := #[] }, { accessFlags := 25, nameIndex := 397, descriptorIndex := 22, attributes := #[] }, { accessFlags := 25, nameIndex := 399, descriptorIndex := 22, attributes := #[] }, { accessFlags := 25, nameIndex := 383, descriptorIndex := 384, attributes := #[] }, { accessFlags := 25, nameIndex := 403, descriptorIndex := 404, attributes := #[] }, { accessFlags := 25, nameIndex := 405, descriptorIndex := 404, attributes := #[] }, { accessFlags := 25, nameIndex := 407, descriptorIndex := 404, attributes := #[] }, { accessFlags := 25, nameIndex := 408, descriptorIndex := 404, attributes := #[] }, { accessFlags := 25, nameIndex := 410, descriptorIndex := 404, attributes := #[] }, { accessFlags := 25, nameIndex := 412, descriptorIndex := 404, attributes := #[] }, { accessFlags := 25, nameIndex := 414, descriptorIndex := 404, attributes := #[] }, { accessFlags := 25, nameIndex := 416, descriptorIndex := 404, attributes := #[] }, { accessFlags := 25, nameIndex := 418, descriptorIndex := 404, attributes := #[] }, { accessFlags := 25, nameIndex := 420, descriptorIndex := 404, attributes := #[] }, { accessFlags := 25, nameIndex := 422, descriptorIndex := 404, attributes := #[] }, { accessFlags := 25, nameIndex := 424, descriptorIndex := 404, attributes := #[] }, { accessFlags := 25, nameIndex := 426, descriptorIndex := 404, attributes := #[] }, { accessFlags := 25, nameIndex := 428, descriptorIndex := 404, attributes := #[] }, { accessFlags := 25, nameIndex := 430, descriptorIndex := 404, attributes := #[] }, { accessFlags := 25, nameIndex := 432, descriptorIndex := 404, attributes := #[] }, { accessFlags := 25, nameIndex := 434, descriptorIndex := 404, attributes := #[] }, { accessFlags := 25, nameIndex := 436, descriptorIndex := 404, attributes := #[] }, { accessFlags := 25, nameIndex := 438, descriptorIndex := 404, attributes := #[] }, { accessFlags := 25, nameIndex := 440, descriptorIndex := 404, attributes := #[] }, { accessFlags := 25, nameIndex := 442, descriptorIndex := 404, attributes := #[] }, { accessFlags := 25, nameIndex := 444, descriptorIndex := 404, attributes := #[] }, { accessFlags := 25, nameIndex := 446, descriptorIndex := 404, attributes := #[] }, { accessFlags := 25, nameIndex := 448, descriptorIndex := 404, attributes := #[] }, { accessFlags := 25, nameIndex := 450, descriptorIndex := 404, attributes := #[] }, { accessFlags := 25, nameIndex := 452, descriptorIndex := 404, attributes := #[] }, { accessFlags := 25, nameIndex := 454, descriptorIndex := 404, attributes := #[] }, { accessFlags := 25, nameIndex := 456, descriptorIndex := 404, attributes := #[] }, { accessFlags := 25, nameIndex := 458, descriptorIndex := 404, attributes := #[] }, { accessFlags := 25, nameIndex := 460, descriptorIndex := 404, attributes := #[] }, { accessFlags := 24, nameIndex := 462, descriptorIndex := 392, attributes := #[] }, { accessFlags := 25, nameIndex := 464, descriptorIndex := 404, attributes := #[] }, { accessFlags := 25, nameIndex := 465, descriptorIndex := 404, attributes := #[] }, { accessFlags := 25, nameIndex := 466, descriptorIndex := 404, attributes := #[] }, { accessFlags := 25, nameIndex := 467, descriptorIndex := 404, attributes := #[] }, { accessFlags := 25, nameIndex := 468, descriptorIndex := 404, attributes := #[] }, { accessFlags := 25, nameIndex := 469, descriptorIndex := 404, attributes := #[] }, { accessFlags := 25, nameIndex := 470, descriptorIndex := 404, attributes := #[] }, { accessFlags := 25, nameIndex := 471, descriptorIndex := 404, attributes := #[] }, { accessFlags := 25, nameIndex := 472, descriptorIndex := 404, attributes := #[] }, { accessFlags := 25, nameIndex := 473, descriptorIndex := 404, attributes := #[] }, { accessFlags := 25, nameIndex := 474, descriptorIndex := 404, attributes := #[] }, { accessFlags := 25, nameIndex := 475, descriptorIndex := 404, attributes := #[] }, { accessFlags := 25, nameIndex := 476, descriptorIndex := 404, attributes := #[] }, { accessFlags := 25, nameIndex := 477, descriptorIndex := 404, attributes := #[] }, { accessFlags := 25, nameIndex := 478, descriptorIndex := 404, attributes := #[] }, { accessFlags := 25, nameIndex := 479, descriptorIndex := 404, attributes := #[] }, { accessFlags := 25, nameIndex := 480, descriptorIndex := 404, attributes := #[] }, { accessFlags := 25, nameIndex := 481, descriptorIndex := 404, attributes := #[] }, { accessFlags := 25, nameIndex := 482, descriptorIndex := 404, attributes := #[] }, { accessFlags := 25, nameIndex := 484, descriptorIndex := 404, attributes := #[] }, { accessFlags := 25, nameIndex := 485, descriptorIndex := 404, attributes := #[] }, { accessFlags := 25, nameIndex := 486, descriptorIndex := 404, attributes := #[] }, { accessFlags := 25, nameIndex := 487, descriptorIndex := 404, attributes := #[] }, { accessFlags := 25, nameIndex := 488, descriptorIndex := 404, attributes := #[] }, { accessFlags := 25, nameIndex := 489, descriptorIndex := 22, attributes := #[] }, { accessFlags := 25, nameIndex := 490, descriptorIndex := 22, attributes := #[] }, { accessFlags := 25, nameIndex := 492, descriptorIndex := 22, attributes := #[] }, { accessFlags := 25, nameIndex := 493, descriptorIndex := 22, attributes := #[] }, { accessFlags := 25, nameIndex := 495, descriptorIndex := 22, attributes := #[] }, { accessFlags := 25, nameIndex := 496, descriptorIndex := 22, attributes := #[] }, { accessFlags := 25, nameIndex := 497, descriptorIndex := 392, attributes := #[] }, { accessFlags := 25, nameIndex := 498, descriptorIndex := 392, attributes := #[] }, { accessFlags := 25, nameIndex := 499, descriptorIndex := 392, attributes := #[] }, { accessFlags := 18, nameIndex := 21, descriptorIndex := 22, attributes := #[] }, { accessFlags := 26, nameIndex := 501, descriptorIndex := 502, attributes := #[] }, { accessFlags := 25, nameIndex := 505, descriptorIndex := 392, attributes := #[] }, { accessFlags := 25, nameIndex := 506, descriptorIndex := 392, attributes := #[] }, { accessFlags := 4120, nameIndex := 284, descriptorIndex := 285, attributes := #[] }])
  fields := #[{ name := "MIN_RADIX", type := .int, accessFlags := 25, slot := 0, constantValue := 0 }, { name := "MAX_RADIX", type := .int, accessFlags := 25, slot := 1, constantValue := 0 }, { name := "MIN_VALUE", type := .char, accessFlags := 25, slot := 2, constantValue := 0 }, { name := "MAX_VALUE", type := .char, accessFlags := 25, slot := 3, constantValue := 0 }, { name := "TYPE", type := (.object "java/lang/Class"), accessFlags := 25, slot := 4, constantValue := 0 }, { name := "UNASSIGNED", type := .byte, accessFlags := 25, slot := 5, constantValue := 0 }, { name := "UPPERCASE_LETTER", type := .byte, accessFlags := 25, slot := 6, constantValue := 0 }, { name := "LOWERCASE_LETTER", type := .byte, accessFlags := 25, slot := 7, constantValue := 0 }, { name := "TITLECASE_LETTER", type := .byte, accessFlags := 25, slot := 8, constantValue := 0 }, { name := "MODIFIER_LETTER", type := .byte, accessFlags := 25, slot := 9, constantValue := 0 }, { name := "OTHER_LETTER", type := .byte, accessFlags := 25, slot := 10, constantValue := 0 }, { name := "NON_SPACING_MARK", type := .byte, accessFlags := 25, slot := 11, constantValue := 0 }, { name := "ENCLOSING_MARK", type := .byte, accessFlags := 25, slot := 12, constantValue := 0 }, { name := "COMBINING_SPACING_MARK", type := .byte, accessFlags := 25, slot := 13, constantValue := 0 }, { name := "DECIMAL_DIGIT_NUMBER", type := .byte, accessFlags := 25, slot := 14, constantValue := 0 }, { name := "LETTER_NUMBER", type := .byte, accessFlags := 25, slot := 15, constantValue := 0 }, { name := "OTHER_NUMBER", type := .byte, accessFlags := 25, slot := 16, constantValue := 0 }, { name := "SPACE_SEPARATOR", type := .byte, accessFlags := 25, slot := 17, constantValue := 0 }, { name := "LINE_SEPARATOR", type := .byte, accessFlags := 25, slot := 18, constantValue := 0 }, { name := "PARAGRAPH_SEPARATOR", type := .byte, accessFlags := 25, slot := 19, constantValue := 0 }, { name := "CONTROL", type := .byte, accessFlags := 25, slot := 20, constantValue := 0 }, { name := "FORMAT", type := .byte, accessFlags := 25, slot := 21, constantValue := 0 }, { name := "PRIVATE_USE", type := .byte, accessFlags := 25, slot := 22, constantValue := 0 }, { name := "SURROGATE", type := .byte, accessFlags := 25, slot := 23, constantValue := 0 }, { name := "DASH_PUNCTUATION", type := .byte, accessFlags := 25, slot := 24, constantValue := 0 }, { name := "START_PUNCTUATION", type := .byte, accessFlags := 25, slot := 25, constantValue := 0 }, { name := "END_PUNCTUATION", type := .byte, accessFlags := 25, slot := 26, constantValue := 0 }, { name := "CONNECTOR_PUNCTUATION", type := .byte, accessFlags := 25, slot := 27, constantValue := 0 }, { name := "OTHER_PUNCTUATION", type := .byte, accessFlags := 25, slot := 28, constantValue := 0 }, { name := "MATH_SYMBOL", type := .byte, accessFlags := 25, slot := 29, constantValue := 0 }, { name := "CURRENCY_SYMBOL", type := .byte, accessFlags := 25, slot := 30, constantValue := 0 }, { name := "MODIFIER_SYMBOL", type := .byte, accessFlags := 25, slot := 31, constantValue := 0 }, { name := "OTHER_SYMBOL", type := .byte, accessFlags := 25, slot := 32, constantValue := 0 }, { name := "INITIAL_QUOTE_PUNCTUATION", type := .byte, accessFlags := 25, slot := 33, constantValue := 0 }, { name := "FINAL_QUOTE_PUNCTUATION", type := .byte, accessFlags := 25, slot := 34, constantValue := 0 }, { name := "ERROR", type := .int, accessFlags := 24, slot := 35, constantValue := 0 }, { name := "DIRECTIONALITY_UNDEFINED", type := .byte, accessFlags := 25, slot := 36, constantValue := 0 }, { name := "DIRECTIONALITY_LEFT_TO_RIGHT", type := .byte, accessFlags := 25, slot := 37, constantValue := 0 }, { name := "DIRECTIONALITY_RIGHT_TO_LEFT", type := .byte, accessFlags := 25, slot := 38, constantValue := 0 }, { name := "DIRECTIONALITY_RIGHT_TO_LEFT_ARABIC", type := .byte, accessFlags := 25, slot := 39, constantValue := 0 }, { name := "DIRECTIONALITY_EUROPEAN_NUMBER", type := .byte, accessFlags := 25, slot := 40, constantValue := 0 }, { name := "DIRECTIONALITY_EUROPEAN_NUMBER_SEPARATOR", type := .byte, accessFlags := 25, slot := 41, constantValue := 0 }, { name := "DIRECTIONALITY_EUROPEAN_NUMBER_TERMINATOR", type := .byte, accessFlags := 25, slot := 42, constantValue := 0 }, { name := "DIRECTIONALITY_ARABIC_NUMBER", type := .byte, accessFlags := 25, slot := 43, constantValue := 0 }, { name := "DIRECTIONALITY_COMMON_NUMBER_SEPARATOR", type := .byte, accessFlags := 25, slot := 44, constantValue := 0 }, { name := "DIRECTIONALITY_NONSPACING_MARK", type := .byte, accessFlags := 25, slot := 45, constantValue := 0 }, { name := "DIRECTIONALITY_BOUNDARY_NEUTRAL", type := .byte, accessFlags := 25, slot := 46, constantValue := 0 }, { name := "DIRECTIONALITY_PARAGRAPH_SEPARATOR", type := .byte, accessFlags := 25, slot := 47, constantValue := 0 }, { name := "DIRECTIONALITY_SEGMENT_SEPARATOR", type := .byte, accessFlags := 25, slot := 48, constantValue := 0 }, { name := "DIRECTIONALITY_WHITESPACE", type := .byte, accessFlags := 25, slot := 49, constantValue := 0 }, { name := "DIRECTIONALITY_OTHER_NEUTRALS", type := .byte, accessFlags := 25, slot := 50, constantValue := 0 }, { name := "DIRECTIONALITY_LEFT_TO_RIGHT_EMBEDDING", type := .byte, accessFlags := 25, slot := 51, constantValue := 0 }, { name := "DIRECTIONALITY_LEFT_TO_RIGHT_OVERRIDE", type := .byte, accessFlags := 25, slot := 52, constantValue := 0 }, { name := "DIRECTIONALITY_RIGHT_TO_LEFT_EMBEDDING", type := .byte, accessFlags := 25, slot := 53, constantValue := 0 }, { name := "DIRECTIONALITY_RIGHT_TO_LEFT_OVERRIDE", type := .byte, accessFlags := 25, slot := 54, constantValue := 0 }, { name := "DIRECTIONALITY_POP_DIRECTIONAL_FORMAT", type := .byte, accessFlags := 25, slot := 55, constantValue := 0 }, { name := "DIRECTIONALITY_LEFT_TO_RIGHT_ISOLATE", type := .byte, accessFlags := 25, slot := 56, constantValue := 0 }, { name := "DIRECTIONALITY_RIGHT_TO_LEFT_ISOLATE", type := .byte, accessFlags := 25, slot := 57, constantValue := 0 }, { name := "DIRECTIONALITY_FIRST_STRONG_ISOLATE", type := .byte, accessFlags := 25, slot := 58, constantValue := 0 }, { name := "DIRECTIONALITY_POP_DIRECTIONAL_ISOLATE", type := .byte, accessFlags := 25, slot := 59, constantValue := 0 }, { name := "MIN_HIGH_SURROGATE", type := .char, accessFlags := 25, slot := 60, constantValue := 0 }, { name := "MAX_HIGH_SURROGATE", type := .char, accessFlags := 25, slot := 61, constantValue := 0 }, { name := "MIN_LOW_SURROGATE", type := .char, accessFlags := 25, slot := 62, constantValue := 0 }, { name := "MAX_LOW_SURROGATE", type := .char, accessFlags := 25, slot := 63, constantValue := 0 }, { name := "MIN_SURROGATE", type := .char, accessFlags := 25, slot := 64, constantValue := 0 }, { name := "MAX_SURROGATE", type := .char, accessFlags := 25, slot := 65, constantValue := 0 }, { name := "MIN_SUPPLEMENTARY_CODE_POINT", type := .int, accessFlags := 25, slot := 66, constantValue := 0 }, { name := "MIN_CODE_POINT", type := .int, accessFlags := 25, slot := 67, constantValue := 0 }, { name := "MAX_CODE_POINT", type := .int, accessFlags := 25, slot := 68, constantValue := 0 }, { name := "value", type := .char, accessFlags := 18, slot := 0, constantValue := 0 }, { name := "serialVersionUID", type := .long, accessFlags := 26, slot := 69, constantValue := 0 }, { name := "SIZE", type := .int, accessFlags := 25, slot := 70, constantValue := 0 }, { name := "BYTES", type := .int, accessFlags := 25, slot := 71, constantValue := 0 }, { name := "$assertionsDisabled", type := .boolean, accessFlags := 4120, slot := 72, constantValue := 0 }]
  methods := #[k16m0, k16m1]
  instanceTypes := #[.char]
  staticTypes := #[.int, .int, .char, .char, (.object "java/lang/Class"), .byte, .byte, .byte, .byte, .byte, .byte, .byte, .byte, .byte, .byte, .byte, .byte, .byte, .byte, .byte, .byte, .byte, .byte, .byte, .byte, .byte, .byte, .byte, .byte, .byte, .byte, .byte, .byte, .byte, .byte, .int, .byte, .byte, .byte, .byte, .byte, .byte, .byte, .byte, .byte, .byte, .byte, .byte, .byte, .byte, .byte, .byte, .byte, .byte, .byte, .byte, .byte, .byte, .byte, .byte, .char, .char, .char, .char, .char, .char, .int, .int, .int, .long, .int, .int, .boolean]
  resolved := Array.replicate 604 none
  statics := none }

def pool17 : Array CpInfo := pool [(1, u "java/lang/Cloneable"), (0, .class_ 1), (0, u "java/lang/Object"), (0, .class_ 3)] 3

/-- java/lang/Cloneable -/
def k17 : Class := { plain "java/lang/Cloneable" (some 0) with
  accessFlags := 1537
  interfaces := #[]
  cf := some (fileOf pool17 2 #[] #[] 1537 4 #[] #[])
  fields := #[]
  methods := #[]
  instanceTypes := #[]
  staticTypes := #[]
  resolved := Array.replicate 8 none
  statics := none }

/-- the primitive byte -/
def k18 : Class := { plain "byte" none with kind := .primitive 'B', accessFlags := 0x411 }
/-- [B -/
def k19 : Class := { plain "[B" (some 0) with kind := .array 18 .byte, interfaces := #[17, 2], accessFlags := 1041 }

/-- the primitive char -/
def k20 : Class := { plain "char" none with kind := .primitive 'C', accessFlags := 0x411 }
/-- [C -/
def k21 : Class := { plain "[C" (some 0) with kind := .array 20 .char, interfaces := #[17, 2], accessFlags := 1041 }

/-- the primitive int -/
def k22 : Class := { plain "int" none with kind := .primitive 'I', accessFlags := 0x411 }
/-- [I -/
def k23 : Class := { plain "[I" (some 0) with kind := .array 22 .int, interfaces := #[17, 2], accessFlags := 1041 }

def heap : Heap := #[{ cls := 7, slots := #[.long 0, .int 1, .null, .int 0, .null, .int 0, .int 0], vm := .statics 7 },
  { cls := 11, slots := #[.null, .null, .null], vm := .statics 11 },
  { cls := 15, slots := #[.null, .null, .ref 3, .ref 4, .null], vm := .statics 15 },
  { cls := 15, slots := #[], vm := .none },
  { cls := 23, slots := #[.int 1207963663, .int 1207963663, .int 1207963663, .int 1207963663, .int 1207963663, .int 1207963663, .int 1207963663, .int 1207963663, .int 1207963663, .int 1476411407, .int 1342193679, .int 1476411407, .int 1610629135, .int 1342193679, .int 1207963663, .int 1207963663, .int 1207963663, .int 1207963663, .int 1207963663, .int 1207963663, .int 1207963663, .int 1207963663, .int 1207963663, .int 1207963663, .int 1207963663, .int 1207963663, .int 1207963663, .int 1207963663, .int 1342193679, .int 1342193679, .int 1342193679, .int 1476411407, .int 1610629132, .int 1744830488, .int 1744830488, .int 671088664, .int 671113242, .int 671088664, .int 1744830488, .int 1744830488, .int (-402653163), .int (-402653162), .int 1744830488, .int 536870937, .int 939524120, .int 536870932, .int 939524120, .int 939524120, .int 402667017, .int 402667017, .int 402667017, .int 402667017, .int 402667017, .int 402667017, .int 402667017, .int 402667017, .int 402667017, .int 402667017, .int 939524120, .int 1744830488, .int (-402653159), .int 1744830489, .int (-402653159), .int 1744830488, .int 1744830488, .int 8552417, .int 8552417, .int 8552417, .int 8552417, .int 8552417, .int 8552417, .int 8552417, .int 8552417, .int 8552417, .int 8552417, .int 8552417, .int 8552417, .int 8552417, .int 8552417, .int 8552417, .int 8552417, .int 8552417, .int 8552417, .int 8552417, .int 8552417, .int 8552417, .int 8552417, .int 8552417, .int 8552417, .int 8552417, .int 8552417, .int (-402653163), .int 1744830488, .int (-402653162), .int 1744830491, .int 1744850967, .int 1744830491, .int 8486882, .int 8486882, .int 8486882, .int 8486882, .int 8486882, .int 8486882, .int 8486882, .int 8486882, .int 8486882, .int 8486882, .int 8486882, .int 8486882, .int 8486882, .int 8486882, .int 8486882, .int 8486882, .int 8486882, .int 8486882, .int 8486882, .int 8486882, .int 8486882, .int 8486882, .int 8486882, .int 8486882, .int 8486882, .int 8486882, .int (-402653163), .int 1744830489, .int (-402653162), .int 1744830489, .int 1207963663, .int 1207963663, .int 1207963663, .int 1207963663, .int 1207963663, .int 1207963663, .int 1342181391, .int 1207963663, .int 1207963663, .int 1207963663, .int 1207963663, .int 1207963663, .int 1207963663, .int 1207963663, .int 1207963663, .int 1207963663, .int 1207963663, .int 1207963663, .int 1207963663, .int 1207963663, .int 1207963663, .int 1207963663, .int 1207963663, .int 1207963663, .int 1207963663, .int 1207963663, .int 1207963663, .int 1207963663, .int 1207963663, .int 1207963663, .int 1207963663, .int 1207963663, .int 1207963663, .int 939524108, .int 1744830488, .int 671113242, .int 671113242, .int 671113242, .int 671113242, .int 1744830492, .int 1744830488, .int 1744830491, .int 1744830492, .int 28677, .int (-402653155), .int 1744830489, .int 1207963664, .int 1744830492, .int 1744830491, .int 671088668, .int 671088665, .int 402654731, .int 402654731, .int 1744830491, .int 134049794, .int 1744830488, .int 1744830488, .int 1744830491, .int 402654475, .int 28677, .int (-402653154), .int 1744832523, .int 1744832523, .int 1744832523, .int 1744830488, .int 8548353, .int 8548353, .int 8548353, .int 8548353, .int 8548353, .int 8548353, .int 8548353, .int 8548353, .int 8548353, .int 8548353, .int 8548353, .int 8548353, .int 8548353, .int 8548353, .int 8548353, .int 8548353, .int 8548353, .int 8548353, .int 8548353, .int 8548353, .int 8548353, .int 8548353, .int 8548353, .int 1744830489, .int 8548353, .int 8548353, .int 8548353, .int 8548353, .int 8548353, .int 8548353, .int 8548353, .int 134049794, .int 8482818, .int 8482818, .int 8482818, .int 8482818, .int 8482818, .int 8482818, .int 8482818, .int 8482818, .int 8482818, .int 8482818, .int 8482818, .int 8482818, .int 8482818, .int 8482818, .int 8482818, .int 8482818, .int 8482818, .int 8482818, .int 8482818, .int 8482818, .int 8482818, .int 8482818, .int 8482818, .int 1744830489, .int 8482818, .int 8482818, .int 8482818, .int 8482818, .int 8482818, .int 8482818, .int 8482818, .int 102592514], vm := .none }]
def k24 : Class := plain "jdk/internal/util/ArraysSupport" (some 0)
def classes : Array Class := #[k0, k1, k2, k3, k4, k5, k6, k7, k8, k9, k10, k11, k12, k13, k14, k15, k16, k17, k18, k19, k20, k21, k22, k23, k24]
def interned : List (Array UInt16 × Addr) := []
def slotsUsed : Nat := 271
def theMethod : MethodId := ⟨1, 2⟩
def args0 : Array Value := #[.int 5, .int 7, .int 3, .int 1, .int 1]
def aboutOver (below : List Frame) : State where
  vm := { classes := classes, interned := interned.toArray }
  heap := heap
  slotsUsed := slotsUsed
  threads := #[{ frames := .invoking theMethod args0 :: below }]
def below0 : List Frame := [.native { method := ⟨0, 0⟩, args := #[] }]
def about1 : State := aboutOver below0
def p0 : Program := .bare "" "" ""
def e0 : Env := launch0.env 0 0 0
theorem w_frames : about1.frames = Frame.invoking theMethod args0 :: below0 := rfl
set_option maxRecDepth 65536 in
theorem w_args : argsFit about1.vm theMethod args0 = true := by decide +kernel
set_option maxRecDepth 65536 in
theorem w_heap : heapFits about1 = true := by decide +kernel
set_option maxRecDepth 65536 in
theorem w_runnable : about1.curStatus? = some .runnable := by decide +kernel
set_option maxRecDepth 65536 in
theorem w_alone : about1.alone = true := by decide +kernel
set_option maxRecDepth 65536 in
theorem w_named : about1.methodNamed? x = some theMethod := by decide +kernel
set_option maxRecDepth 65536 in
theorem w_hears : about1.hears theMethod below0 = true := by decide +kernel
set_option maxRecDepth 65536 in
theorem w_ripe : about1.ripe theMethod args0 below0 = true := by decide +kernel
theorem w_running : about1.status = .running := rfl
set_option maxRecDepth 65536 in
theorem w_room : about1.hasRoom e0.platform room_1 = true :=
  launch0.hasRoom_least _ room_1 (by decide +kernel) (by decide +kernel) (by decide +kernel) (by decide +kernel) (by decide +kernel) (by decide +kernel)
theorem allAtoms_all (ts : List Jvm.Cond) (a : Array Jvm.Value) (st : Jvm.State) : (allAtoms ts).before a st = ts.all (fun c => c.before a st) := by
  induction ts with
  | nil => rfl
  | cons c t ih =>
    show (Jvm.Cond.and c (allAtoms t)).before a st = _
    rw [Jvm.Cond.before_and, ih, List.all_cons]
def words1 : List Jvm.Cond := Jvm.Cond.code x code maxLocals ret :: tables_1
/-- a 'code' word, met by the world's own term for the bytes: nothing is compared byte by byte -/
theorem code_word {y : MethodName} {bytes : ByteArray} {mx : Nat} {rt : Option FieldType} {a : Array Value} {s : State} {m : MethodId} {meth : Method} {c : Code} (h1 : s.methodNamed? y = some m) (h2 : s.vm.method? m = some meth) (h3 : meth.code = some c) (h4 : c.code = bytes)
    (h5 : (c.maxLocals == mx && c.exceptionTable.isEmpty && decide (c.maxStack ≤ mostOperands) && decide (meth.sig.returnType = rt) && !meth.locks && decide (parseMethodDescriptor y.desc = some meth.sig)) = true) : (Jvm.Cond.code y bytes mx rt).before a s = true := by
  simp only [Bool.and_eq_true, beq_iff_eq, Bool.not_eq_true', decide_eq_true_eq] at h5
  obtain ⟨⟨⟨⟨⟨g1, g2⟩, g3⟩, g4⟩, g5⟩, g6⟩ := h5
  simp [Cond.before, Cond.holds, Cond.value, h1, h2, h3, h4, g1, g2, g3, g4, g5, g6]
def isCode : Jvm.Cond → Bool
  | .code _ _ _ _ => true
  | _ => false
theorem all_split {L : List Jvm.Cond} {P : Jvm.Cond → Bool} (h1 : L.all (fun c => isCode c || P c) = true) (h2 : ∀ c ∈ L.filter isCode, P c = true) : L.all P = true := by
  refine List.all_eq_true.mpr fun c hc => ?_
  have h := List.all_eq_true.mp h1 c hc
  rcases Bool.eq_false_or_eq_true (isCode c) with hi | hi
  · exact h2 c (List.mem_filter.mpr ⟨hc, hi⟩)
  · simpa [hi] using h
set_option maxRecDepth 65536 in
theorem w_c0 : (Jvm.Cond.code x code maxLocals ret).before args0 about1 = true := code_word (m := ⟨1, 2⟩) (meth := k1m2) (c := k1c2) (by decide +kernel) rfl rfl rfl (by decide +kernel)
set_option maxRecDepth 65536 in
theorem w_c1 : (Jvm.Cond.code ({ cls := "java/lang/String", name := "valueOf", desc := "(C)Ljava/lang/String;" } : Jvm.MethodName) jdk_42_method_139_code (1 : Nat) (Option.some (Jvm.ClassFile.FieldType.object "java/lang/String"))).before args0 about1 = true := code_word (m := ⟨7, 6⟩) (meth := k7m6) (c := k7c6) (by decide +kernel) rfl rfl rfl (by decide +kernel)
set_option maxRecDepth 65536 in
theorem w_c2 : (Jvm.Cond.code ({ cls := "java/lang/StringLatin1", name := "canEncode", desc := "(C)Z" } : Jvm.MethodName) jdk_43_method_3_code (1 : Nat) (Option.some Jvm.ClassFile.FieldType.boolean)).before args0 about1 = true := code_word (m := ⟨8, 2⟩) (meth := k8m2) (c := k8c2) (by decide +kernel) rfl rfl rfl (by decide +kernel)
set_option maxRecDepth 65536 in
theorem w_c3 : (Jvm.Cond.code ({ cls := "java/lang/StringLatin1", name := "toBytes", desc := "(C)[B" } : Jvm.MethodName) jdk_43_method_46_code (1 : Nat) (Option.some (Jvm.ClassFile.FieldType.array Jvm.ClassFile.FieldType.byte))).before args0 about1 = true := code_word (m := ⟨8, 7⟩) (meth := k8m7) (c := k8c7) (by decide +kernel) rfl rfl rfl (by decide +kernel)
set_option maxRecDepth 65536 in
theorem w_c4 : (Jvm.Cond.code ({ cls := "java/lang/String", name := "<init>", desc := "([BB)V" } : Jvm.MethodName) jdk_42_method_151_code (3 : Nat) (Option.none : Option Jvm.ClassFile.FieldType)).before args0 about1 = true := code_word (m := ⟨7, 8⟩) (meth := k7m8) (c := k7c8) (by decide +kernel) rfl rfl rfl (by decide +kernel)
set_option maxRecDepth 65536 in
theorem w_c5 : (Jvm.Cond.code ({ cls := "java/lang/Object", name := "<init>", desc := "()V" } : Jvm.MethodName) object_method_1_code (1 : Nat) (Option.none : Option Jvm.ClassFile.FieldType)).before args0 about1 = true := code_word (m := ⟨0, 0⟩) (meth := k0m0) (c := k0c0) (by decide +kernel) rfl rfl rfl (by decide +kernel)
set_option maxRecDepth 65536 in
theorem w_c6 : (Jvm.Cond.code ({ cls := "com/example/filingledger/filingledger/RecordField", name := "<init>", desc := "(Ljava/lang/String;Ljava/lang/String;)V" } : Jvm.MethodName) prog_17_method_1_code (3 : Nat) (Option.none : Option Jvm.ClassFile.FieldType)).before args0 about1 = true := code_word (m := ⟨10, 0⟩) (meth := k10m0) (c := k10c0) (by decide +kernel) rfl rfl rfl (by decide +kernel)
set_option maxRecDepth 65536 in
theorem w_c7 : (Jvm.Cond.code ({ cls := "java/lang/Record", name := "<init>", desc := "()V" } : Jvm.MethodName) jdk_30_method_1_code (1 : Nat) (Option.none : Option Jvm.ClassFile.FieldType)).before args0 about1 = true := code_word (m := ⟨9, 0⟩) (meth := k9m0) (c := k9c0) (by decide +kernel) rfl rfl rfl (by decide +kernel)
set_option maxRecDepth 65536 in
theorem w_c8 : (Jvm.Cond.code ({ cls := "com/example/filingledger/filingledger/RecordField", name := "checkName", desc := "(Ljava/lang/String;)V" } : Jvm.MethodName) prog_17_method_2_code (1 : Nat) (Option.none : Option Jvm.ClassFile.FieldType)).before args0 about1 = true := code_word (m := ⟨10, 1⟩) (meth := k10m1) (c := k10c1) (by decide +kernel) rfl rfl rfl (by decide +kernel)
set_option maxRecDepth 65536 in
theorem w_c9 : (Jvm.Cond.code ({ cls := "com/example/filingledger/filingledger/RecordField", name := "isName", desc := "(Ljava/lang/String;)Z" } : Jvm.MethodName) prog_17_method_12_code (3 : Nat) (Option.some Jvm.ClassFile.FieldType.boolean)).before args0 about1 = true := code_word (m := ⟨10, 4⟩) (meth := k10m4) (c := k10c4) (by decide +kernel) rfl rfl rfl (by decide +kernel)
set_option maxRecDepth 65536 in
theorem w_c10 : (Jvm.Cond.code ({ cls := "java/lang/String", name := "isEmpty", desc := "()Z" } : Jvm.MethodName) jdk_42_method_55_code (1 : Nat) (Option.some Jvm.ClassFile.FieldType.boolean)).before args0 about1 = true := code_word (m := ⟨7, 3⟩) (meth := k7m3) (c := k7c3) (by decide +kernel) rfl rfl rfl (by decide +kernel)
set_option maxRecDepth 65536 in
theorem w_c11 : (Jvm.Cond.code ({ cls := "java/lang/String", name := "charAt", desc := "(I)C" } : Jvm.MethodName) jdk_42_method_56_code (2 : Nat) (Option.some Jvm.ClassFile.FieldType.char)).before args0 about1 = true := code_word (m := ⟨7, 4⟩) (meth := k7m4) (c := k7c4) (by decide +kernel) rfl rfl rfl (by decide +kernel)
set_option maxRecDepth 65536 in
theorem w_c12 : (Jvm.Cond.code ({ cls := "java/lang/String", name := "isLatin1", desc := "()Z" } : Jvm.MethodName) jdk_42_method_154_code (1 : Nat) (Option.some Jvm.ClassFile.FieldType.boolean)).before args0 about1 = true := code_word (m := ⟨7, 10⟩) (meth := k7m10) (c := k7c10) (by decide +kernel) rfl rfl rfl (by decide +kernel)
set_option maxRecDepth 65536 in
theorem w_c13 : (Jvm.Cond.code ({ cls := "java/lang/StringLatin1", name := "charAt", desc := "([BI)C" } : Jvm.MethodName) jdk_43_method_2_code (2 : Nat) (Option.some Jvm.ClassFile.FieldType.char)).before args0 about1 = true := code_word (m := ⟨8, 1⟩) (meth := k8m1) (c := k8c1) (by decide +kernel) rfl rfl rfl (by decide +kernel)
set_option maxRecDepth 65536 in
theorem w_c14 : (Jvm.Cond.code ({ cls := "java/lang/String", name := "checkIndex", desc := "(II)V" } : Jvm.MethodName) jdk_42_method_155_code (2 : Nat) (Option.none : Option Jvm.ClassFile.FieldType)).before args0 about1 = true := code_word (m := ⟨7, 11⟩) (meth := k7m11) (c := k7c11) (by decide +kernel) rfl rfl rfl (by decide +kernel)
set_option maxRecDepth 65536 in
theorem w_c15 : (Jvm.Cond.code ({ cls := "jdk/internal/util/Preconditions", name := "checkIndex", desc := "(IILjava/util/function/BiFunction;)I" } : Jvm.MethodName) jdk_41_method_11_code (3 : Nat) (Option.some Jvm.ClassFile.FieldType.int)).before args0 about1 = true := code_word (m := ⟨11, 1⟩) (meth := k11m1) (c := k11c1) (by decide +kernel) rfl rfl rfl (by decide +kernel)
set_option maxRecDepth 65536 in
theorem w_c16 : (Jvm.Cond.code ({ cls := "com/example/filingledger/filingledger/RecordField", name := "isLowerCaseLetter", desc := "(C)Z" } : Jvm.MethodName) prog_17_method_13_code (1 : Nat) (Option.some Jvm.ClassFile.FieldType.boolean)).before args0 about1 = true := code_word (m := ⟨10, 5⟩) (meth := k10m5) (c := k10c5) (by decide +kernel) rfl rfl rfl (by decide +kernel)
set_option maxRecDepth 65536 in
theorem w_c17 : (Jvm.Cond.code ({ cls := "java/lang/String", name := "length", desc := "()I" } : Jvm.MethodName) jdk_42_method_54_code (1 : Nat) (Option.some Jvm.ClassFile.FieldType.int)).before args0 about1 = true := code_word (m := ⟨7, 2⟩) (meth := k7m2) (c := k7c2) (by decide +kernel) rfl rfl rfl (by decide +kernel)
set_option maxRecDepth 65536 in
theorem w_c18 : (Jvm.Cond.code ({ cls := "java/lang/String", name := "coder", desc := "()B" } : Jvm.MethodName) jdk_42_method_152_code (1 : Nat) (Option.some Jvm.ClassFile.FieldType.byte)).before args0 about1 = true := code_word (m := ⟨7, 9⟩) (meth := k7m9) (c := k7c9) (by decide +kernel) rfl rfl rfl (by decide +kernel)
set_option maxRecDepth 65536 in
theorem w_c19 : (Jvm.Cond.code ({ cls := "com/example/filingledger/filingledger/RecordField", name := "checkValue", desc := "(Ljava/lang/String;Ljava/lang/String;)V" } : Jvm.MethodName) prog_17_method_3_code (2 : Nat) (Option.none : Option Jvm.ClassFile.FieldType)).before args0 about1 = true := code_word (m := ⟨10, 2⟩) (meth := k10m2) (c := k10c2) (by decide +kernel) rfl rfl rfl (by decide +kernel)
set_option maxRecDepth 65536 in
theorem w_c20 : (Jvm.Cond.code ({ cls := "com/example/filingledger/filingledger/RecordField", name := "isKnown", desc := "()Z" } : Jvm.MethodName) prog_17_method_10_code (1 : Nat) (Option.some Jvm.ClassFile.FieldType.boolean)).before args0 about1 = true := code_word (m := ⟨10, 3⟩) (meth := k10m3) (c := k10c3) (by decide +kernel) rfl rfl rfl (by decide +kernel)
set_option maxRecDepth 65536 in
theorem w_c21 : (Jvm.Cond.code ({ cls := "com/example/filingledger/filingledger/RecordFieldIsKnownPinLaw", name := "printable", desc := "(I)C" } : Jvm.MethodName) method_2_code (1 : Nat) (Option.some Jvm.ClassFile.FieldType.char)).before args0 about1 = true := code_word (m := ⟨1, 1⟩) (meth := k1m1) (c := k1c1) (by decide +kernel) rfl rfl rfl (by decide +kernel)
set_option maxRecDepth 65536 in
theorem w_c22 : (Jvm.Cond.code ({ cls := "java/lang/String", name := "<init>", desc := "([C)V" } : Jvm.MethodName) jdk_42_method_3_code (2 : Nat) (Option.none : Option Jvm.ClassFile.FieldType)).before args0 about1 = true := code_word (m := ⟨7, 1⟩) (meth := k7m1) (c := k7c1) (by decide +kernel) rfl rfl rfl (by decide +kernel)
set_option maxRecDepth 65536 in
theorem w_c23 : (Jvm.Cond.code ({ cls := "java/lang/String", name := "<init>", desc := "([CIILjava/lang/Void;)V" } : Jvm.MethodName) jdk_42_method_149_code (6 : Nat) (Option.none : Option Jvm.ClassFile.FieldType)).before args0 about1 = true := code_word (m := ⟨7, 7⟩) (meth := k7m7) (c := k7c7) (by decide +kernel) rfl rfl rfl (by decide +kernel)
set_option maxRecDepth 65536 in
theorem w_c24 : (Jvm.Cond.code ({ cls := "java/lang/StringUTF16", name := "compress", desc := "([CII)[B" } : Jvm.MethodName) jdk_52_method_16_code (6 : Nat) (Option.some (Jvm.ClassFile.FieldType.array Jvm.ClassFile.FieldType.byte))).before args0 about1 = true := code_word (m := ⟨12, 2⟩) (meth := k12m2) (c := k12c2) (by decide +kernel) rfl rfl rfl (by decide +kernel)
set_option maxRecDepth 65536 in
theorem w_c25 : (Jvm.Cond.code ({ cls := "java/lang/StringUTF16", name := "compress", desc := "([CI[BII)I" } : Jvm.MethodName) jdk_52_method_21_code (7 : Nat) (Option.some Jvm.ClassFile.FieldType.int)).before args0 about1 = true := code_word (m := ⟨12, 3⟩) (meth := k12m3) (c := k12c3) (by decide +kernel) rfl rfl rfl (by decide +kernel)
set_option maxRecDepth 65536 in
theorem w_c26 : (Jvm.Cond.code ({ cls := "java/lang/StringUTF16", name := "coderFromArrayLen", desc := "([BI)B" } : Jvm.MethodName) jdk_52_method_15_code (2 : Nat) (Option.some Jvm.ClassFile.FieldType.byte)).before args0 about1 = true := code_word (m := ⟨12, 1⟩) (meth := k12m1) (c := k12c1) (by decide +kernel) rfl rfl rfl (by decide +kernel)
set_option maxRecDepth 65536 in
theorem w_c27 : (Jvm.Cond.code ({ cls := "com/example/filingledger/filingledger/RecordField", name := "isOneTrimmedLine", desc := "(Ljava/lang/String;)Z" } : Jvm.MethodName) prog_17_method_14_code (1 : Nat) (Option.some Jvm.ClassFile.FieldType.boolean)).before args0 about1 = true := code_word (m := ⟨10, 6⟩) (meth := k10m6) (c := k10c6) (by decide +kernel) rfl rfl rfl (by decide +kernel)
set_option maxRecDepth 65536 in
theorem w_c28 : (Jvm.Cond.code ({ cls := "com/example/filingledger/filingledger/Text", name := "hasLineBreak", desc := "(Ljava/lang/String;)Z" } : Jvm.MethodName) prog_22_method_2_code (3 : Nat) (Option.some Jvm.ClassFile.FieldType.boolean)).before args0 about1 = true := code_word (m := ⟨13, 1⟩) (meth := k13m1) (c := k13c1) (by decide +kernel) rfl rfl rfl (by decide +kernel)
set_option maxRecDepth 65536 in
theorem w_c29 : (Jvm.Cond.code ({ cls := "java/lang/String", name := "strip", desc := "()Ljava/lang/String;" } : Jvm.MethodName) jdk_42_method_114_code (2 : Nat) (Option.some (Jvm.ClassFile.FieldType.object "java/lang/String"))).before args0 about1 = true := code_word (m := ⟨7, 5⟩) (meth := k7m5) (c := k7c5) (by decide +kernel) rfl rfl rfl (by decide +kernel)
set_option maxRecDepth 65536 in
theorem w_c30 : (Jvm.Cond.code ({ cls := "java/lang/StringLatin1", name := "strip", desc := "([B)Ljava/lang/String;" } : Jvm.MethodName) jdk_43_method_39_code (4 : Nat) (Option.some (Jvm.ClassFile.FieldType.object "java/lang/String"))).before args0 about1 = true := code_word (m := ⟨8, 5⟩) (meth := k8m5) (c := k8c5) (by decide +kernel) rfl rfl rfl (by decide +kernel)
set_option maxRecDepth 65536 in
theorem w_c31 : (Jvm.Cond.code ({ cls := "java/lang/StringLatin1", name := "indexOfNonWhitespace", desc := "([B)I" } : Jvm.MethodName) jdk_43_method_37_code (4 : Nat) (Option.some Jvm.ClassFile.FieldType.int)).before args0 about1 = true := code_word (m := ⟨8, 3⟩) (meth := k8m3) (c := k8c3) (by decide +kernel) rfl rfl rfl (by decide +kernel)
set_option maxRecDepth 65536 in
theorem w_c32 : (Jvm.Cond.code ({ cls := "java/lang/StringLatin1", name := "getChar", desc := "([BI)C" } : Jvm.MethodName) jdk_43_method_44_code (2 : Nat) (Option.some Jvm.ClassFile.FieldType.char)).before args0 about1 = true := code_word (m := ⟨8, 6⟩) (meth := k8m6) (c := k8c6) (by decide +kernel) rfl rfl rfl (by decide +kernel)
set_option maxRecDepth 65536 in
theorem w_c33 : (Jvm.Cond.code ({ cls := "java/lang/CharacterDataLatin1", name := "isWhitespace", desc := "(I)Z" } : Jvm.MethodName) jdk_116_method_26_code (3 : Nat) (Option.some Jvm.ClassFile.FieldType.boolean)).before args0 about1 = true := code_word (m := ⟨15, 1⟩) (meth := k15m1) (c := k15c1) (by decide +kernel) rfl rfl rfl (by decide +kernel)
set_option maxRecDepth 65536 in
theorem w_c34 : (Jvm.Cond.code ({ cls := "java/lang/CharacterDataLatin1", name := "getProperties", desc := "(I)I" } : Jvm.MethodName) jdk_116_method_1_code (4 : Nat) (Option.some Jvm.ClassFile.FieldType.int)).before args0 about1 = true := code_word (m := ⟨15, 0⟩) (meth := k15m0) (c := k15c0) (by decide +kernel) rfl rfl rfl (by decide +kernel)
set_option maxRecDepth 65536 in
theorem w_c35 : (Jvm.Cond.code ({ cls := "java/lang/StringLatin1", name := "lastIndexOfNonWhitespace", desc := "([B)I" } : Jvm.MethodName) jdk_43_method_38_code (4 : Nat) (Option.some Jvm.ClassFile.FieldType.int)).before args0 about1 = true := code_word (m := ⟨8, 4⟩) (meth := k8m4) (c := k8c4) (by decide +kernel) rfl rfl rfl (by decide +kernel)
set_option maxRecDepth 65536 in
theorem w_c36 : (Jvm.Cond.code ({ cls := "com/example/filingledger/filingledger/Text", name := "hasControl", desc := "(Ljava/lang/String;)Z" } : Jvm.MethodName) prog_22_method_3_code (2 : Nat) (Option.some Jvm.ClassFile.FieldType.boolean)).before args0 about1 = true := code_word (m := ⟨13, 2⟩) (meth := k13m2) (c := k13c2) (by decide +kernel) rfl rfl rfl (by decide +kernel)
set_option maxRecDepth 65536 in
theorem w_c37 : (Jvm.Cond.code ({ cls := "java/lang/Character", name := "isISOControl", desc := "(C)Z" } : Jvm.MethodName) jdk_89_method_88_code (1 : Nat) (Option.some Jvm.ClassFile.FieldType.boolean)).before args0 about1 = true := code_word (m := ⟨16, 0⟩) (meth := k16m0) (c := k16c0) (by decide +kernel) rfl rfl rfl (by decide +kernel)
set_option maxRecDepth 65536 in
theorem w_c38 : (Jvm.Cond.code ({ cls := "java/lang/Character", name := "isISOControl", desc := "(I)Z" } : Jvm.MethodName) jdk_89_method_89_code (1 : Nat) (Option.some Jvm.ClassFile.FieldType.boolean)).before args0 about1 = true := code_word (m := ⟨16, 1⟩) (meth := k16m1) (c := k16c1) (by decide +kernel) rfl rfl rfl (by decide +kernel)
def codes1 : List Jvm.Cond := [Jvm.Cond.code x code maxLocals ret, Jvm.Cond.code ({ cls := "java/lang/String", name := "valueOf", desc := "(C)Ljava/lang/String;" } : Jvm.MethodName) jdk_42_method_139_code (1 : Nat) (Option.some (Jvm.ClassFile.FieldType.object "java/lang/String")), Jvm.Cond.code ({ cls := "java/lang/StringLatin1", name := "canEncode", desc := "(C)Z" } : Jvm.MethodName) jdk_43_method_3_code (1 : Nat) (Option.some Jvm.ClassFile.FieldType.boolean), Jvm.Cond.code ({ cls := "java/lang/StringLatin1", name := "toBytes", desc := "(C)[B" } : Jvm.MethodName) jdk_43_method_46_code (1 : Nat) (Option.some (Jvm.ClassFile.FieldType.array Jvm.ClassFile.FieldType.byte)), Jvm.Cond.code ({ cls := "java/lang/String", name := "<init>", desc := "([BB)V" } : Jvm.MethodName) jdk_42_method_151_code (3 : Nat) (Option.none : Option Jvm.ClassFile.FieldType), Jvm.Cond.code ({ cls := "java/lang/Object", name := "<init>", desc := "()V" } : Jvm.MethodName) object_method_1_code (1 : Nat) (Option.none : Option Jvm.ClassFile.FieldType), Jvm.Cond.code ({ cls := "com/example/filingledger/filingledger/RecordField", name := "<init>", desc := "(Ljava/lang/String;Ljava/lang/String;)V" } : Jvm.MethodName) prog_17_method_1_code (3 : Nat) (Option.none : Option Jvm.ClassFile.FieldType), Jvm.Cond.code ({ cls := "java/lang/Record", name := "<init>", desc := "()V" } : Jvm.MethodName) jdk_30_method_1_code (1 : Nat) (Option.none : Option Jvm.ClassFile.FieldType), Jvm.Cond.code ({ cls := "com/example/filingledger/filingledger/RecordField", name := "checkName", desc := "(Ljava/lang/String;)V" } : Jvm.MethodName) prog_17_method_2_code (1 : Nat) (Option.none : Option Jvm.ClassFile.FieldType), Jvm.Cond.code ({ cls := "com/example/filingledger/filingledger/RecordField", name := "isName", desc := "(Ljava/lang/String;)Z" } : Jvm.MethodName) prog_17_method_12_code (3 : Nat) (Option.some Jvm.ClassFile.FieldType.boolean), Jvm.Cond.code ({ cls := "java/lang/String", name := "isEmpty", desc := "()Z" } : Jvm.MethodName) jdk_42_method_55_code (1 : Nat) (Option.some Jvm.ClassFile.FieldType.boolean), Jvm.Cond.code ({ cls := "java/lang/String", name := "charAt", desc := "(I)C" } : Jvm.MethodName) jdk_42_method_56_code (2 : Nat) (Option.some Jvm.ClassFile.FieldType.char), Jvm.Cond.code ({ cls := "java/lang/String", name := "isLatin1", desc := "()Z" } : Jvm.MethodName) jdk_42_method_154_code (1 : Nat) (Option.some Jvm.ClassFile.FieldType.boolean), Jvm.Cond.code ({ cls := "java/lang/StringLatin1", name := "charAt", desc := "([BI)C" } : Jvm.MethodName) jdk_43_method_2_code (2 : Nat) (Option.some Jvm.ClassFile.FieldType.char), Jvm.Cond.code ({ cls := "java/lang/String", name := "checkIndex", desc := "(II)V" } : Jvm.MethodName) jdk_42_method_155_code (2 : Nat) (Option.none : Option Jvm.ClassFile.FieldType), Jvm.Cond.code ({ cls := "jdk/internal/util/Preconditions", name := "checkIndex", desc := "(IILjava/util/function/BiFunction;)I" } : Jvm.MethodName) jdk_41_method_11_code (3 : Nat) (Option.some Jvm.ClassFile.FieldType.int), Jvm.Cond.code ({ cls := "com/example/filingledger/filingledger/RecordField", name := "isLowerCaseLetter", desc := "(C)Z" } : Jvm.MethodName) prog_17_method_13_code (1 : Nat) (Option.some Jvm.ClassFile.FieldType.boolean), Jvm.Cond.code ({ cls := "java/lang/String", name := "length", desc := "()I" } : Jvm.MethodName) jdk_42_method_54_code (1 : Nat) (Option.some Jvm.ClassFile.FieldType.int), Jvm.Cond.code ({ cls := "java/lang/String", name := "coder", desc := "()B" } : Jvm.MethodName) jdk_42_method_152_code (1 : Nat) (Option.some Jvm.ClassFile.FieldType.byte), Jvm.Cond.code ({ cls := "com/example/filingledger/filingledger/RecordField", name := "checkValue", desc := "(Ljava/lang/String;Ljava/lang/String;)V" } : Jvm.MethodName) prog_17_method_3_code (2 : Nat) (Option.none : Option Jvm.ClassFile.FieldType), Jvm.Cond.code ({ cls := "com/example/filingledger/filingledger/RecordField", name := "isKnown", desc := "()Z" } : Jvm.MethodName) prog_17_method_10_code (1 : Nat) (Option.some Jvm.ClassFile.FieldType.boolean), Jvm.Cond.code ({ cls := "com/example/filingledger/filingledger/RecordFieldIsKnownPinLaw", name := "printable", desc := "(I)C" } : Jvm.MethodName) method_2_code (1 : Nat) (Option.some Jvm.ClassFile.FieldType.char), Jvm.Cond.code ({ cls := "java/lang/String", name := "<init>", desc := "([C)V" } : Jvm.MethodName) jdk_42_method_3_code (2 : Nat) (Option.none : Option Jvm.ClassFile.FieldType), Jvm.Cond.code ({ cls := "java/lang/String", name := "<init>", desc := "([CIILjava/lang/Void;)V" } : Jvm.MethodName) jdk_42_method_149_code (6 : Nat) (Option.none : Option Jvm.ClassFile.FieldType), Jvm.Cond.code ({ cls := "java/lang/StringUTF16", name := "compress", desc := "([CII)[B" } : Jvm.MethodName) jdk_52_method_16_code (6 : Nat) (Option.some (Jvm.ClassFile.FieldType.array Jvm.ClassFile.FieldType.byte)), Jvm.Cond.code ({ cls := "java/lang/StringUTF16", name := "compress", desc := "([CI[BII)I" } : Jvm.MethodName) jdk_52_method_21_code (7 : Nat) (Option.some Jvm.ClassFile.FieldType.int), Jvm.Cond.code ({ cls := "java/lang/StringUTF16", name := "coderFromArrayLen", desc := "([BI)B" } : Jvm.MethodName) jdk_52_method_15_code (2 : Nat) (Option.some Jvm.ClassFile.FieldType.byte), Jvm.Cond.code ({ cls := "com/example/filingledger/filingledger/RecordField", name := "isOneTrimmedLine", desc := "(Ljava/lang/String;)Z" } : Jvm.MethodName) prog_17_method_14_code (1 : Nat) (Option.some Jvm.ClassFile.FieldType.boolean), Jvm.Cond.code ({ cls := "com/example/filingledger/filingledger/Text", name := "hasLineBreak", desc := "(Ljava/lang/String;)Z" } : Jvm.MethodName) prog_22_method_2_code (3 : Nat) (Option.some Jvm.ClassFile.FieldType.boolean), Jvm.Cond.code ({ cls := "java/lang/String", name := "strip", desc := "()Ljava/lang/String;" } : Jvm.MethodName) jdk_42_method_114_code (2 : Nat) (Option.some (Jvm.ClassFile.FieldType.object "java/lang/String")), Jvm.Cond.code ({ cls := "java/lang/StringLatin1", name := "strip", desc := "([B)Ljava/lang/String;" } : Jvm.MethodName) jdk_43_method_39_code (4 : Nat) (Option.some (Jvm.ClassFile.FieldType.object "java/lang/String")), Jvm.Cond.code ({ cls := "java/lang/StringLatin1", name := "indexOfNonWhitespace", desc := "([B)I" } : Jvm.MethodName) jdk_43_method_37_code (4 : Nat) (Option.some Jvm.ClassFile.FieldType.int), Jvm.Cond.code ({ cls := "java/lang/StringLatin1", name := "getChar", desc := "([BI)C" } : Jvm.MethodName) jdk_43_method_44_code (2 : Nat) (Option.some Jvm.ClassFile.FieldType.char), Jvm.Cond.code ({ cls := "java/lang/CharacterDataLatin1", name := "isWhitespace", desc := "(I)Z" } : Jvm.MethodName) jdk_116_method_26_code (3 : Nat) (Option.some Jvm.ClassFile.FieldType.boolean), Jvm.Cond.code ({ cls := "java/lang/CharacterDataLatin1", name := "getProperties", desc := "(I)I" } : Jvm.MethodName) jdk_116_method_1_code (4 : Nat) (Option.some Jvm.ClassFile.FieldType.int), Jvm.Cond.code ({ cls := "java/lang/StringLatin1", name := "lastIndexOfNonWhitespace", desc := "([B)I" } : Jvm.MethodName) jdk_43_method_38_code (4 : Nat) (Option.some Jvm.ClassFile.FieldType.int), Jvm.Cond.code ({ cls := "com/example/filingledger/filingledger/Text", name := "hasControl", desc := "(Ljava/lang/String;)Z" } : Jvm.MethodName) prog_22_method_3_code (2 : Nat) (Option.some Jvm.ClassFile.FieldType.boolean), Jvm.Cond.code ({ cls := "java/lang/Character", name := "isISOControl", desc := "(C)Z" } : Jvm.MethodName) jdk_89_method_88_code (1 : Nat) (Option.some Jvm.ClassFile.FieldType.boolean), Jvm.Cond.code ({ cls := "java/lang/Character", name := "isISOControl", desc := "(I)Z" } : Jvm.MethodName) jdk_89_method_89_code (1 : Nat) (Option.some Jvm.ClassFile.FieldType.boolean)]
set_option maxRecDepth 65536 in
theorem codes_eq : words1.filter isCode = codes1 := rfl
theorem w_codes : ∀ c ∈ words1.filter isCode, c.before args0 about1 = true := by
  rw [codes_eq]
  intro c hc
  simp only [codes1, List.mem_cons, List.not_mem_nil, or_false] at hc
  rcases hc with rfl | rfl | rfl | rfl | rfl | rfl | rfl | rfl | rfl | rfl | rfl | rfl | rfl | rfl | rfl | rfl | rfl | rfl | rfl | rfl | rfl | rfl | rfl | rfl | rfl | rfl | rfl | rfl | rfl | rfl | rfl | rfl | rfl | rfl | rfl | rfl | rfl | rfl | rfl
  · exact w_c0
  · exact w_c1
  · exact w_c2
  · exact w_c3
  · exact w_c4
  · exact w_c5
  · exact w_c6
  · exact w_c7
  · exact w_c8
  · exact w_c9
  · exact w_c10
  · exact w_c11
  · exact w_c12
  · exact w_c13
  · exact w_c14
  · exact w_c15
  · exact w_c16
  · exact w_c17
  · exact w_c18
  · exact w_c19
  · exact w_c20
  · exact w_c21
  · exact w_c22
  · exact w_c23
  · exact w_c24
  · exact w_c25
  · exact w_c26
  · exact w_c27
  · exact w_c28
  · exact w_c29
  · exact w_c30
  · exact w_c31
  · exact w_c32
  · exact w_c33
  · exact w_c34
  · exact w_c35
  · exact w_c36
  · exact w_c37
  · exact w_c38
set_option maxRecDepth 65536 in
theorem w_t1 : (words1.take 24).all (fun c => isCode c || c.before args0 about1) = true := by decide +kernel
set_option maxRecDepth 65536 in
theorem w_t2 : ((words1.drop 24).take 24).all (fun c => isCode c || c.before args0 about1) = true := by decide +kernel
set_option maxRecDepth 65536 in
theorem w_t3 : (((words1.drop 24).drop 24).take 24).all (fun c => isCode c || c.before args0 about1) = true := by decide +kernel
set_option maxRecDepth 65536 in
theorem w_t4 : ((((words1.drop 24).drop 24).drop 24).take 24).all (fun c => isCode c || c.before args0 about1) = true := by decide +kernel
set_option maxRecDepth 65536 in
theorem w_t5 : (((((words1.drop 24).drop 24).drop 24).drop 24).take 24).all (fun c => isCode c || c.before args0 about1) = true := by decide +kernel
set_option maxRecDepth 65536 in
theorem w_t6 : ((((((words1.drop 24).drop 24).drop 24).drop 24).drop 24).take 24).all (fun c => isCode c || c.before args0 about1) = true := by decide +kernel
set_option maxRecDepth 65536 in
theorem w_t7 : (((((((words1.drop 24).drop 24).drop 24).drop 24).drop 24).drop 24).take 24).all (fun c => isCode c || c.before args0 about1) = true := by decide +kernel
set_option maxRecDepth 65536 in
theorem w_t8 : (((((((words1.drop 24).drop 24).drop 24).drop 24).drop 24).drop 24).drop 24).all (fun c => isCode c || c.before args0 about1) = true := by decide +kernel
theorem w_tables : (allAtoms (Jvm.Cond.code x code maxLocals ret :: tables_1)).before args0 about1 = true := by
  rw [allAtoms_all]
  show words1.all (fun c => c.before args0 about1) = true
  refine all_split ?_ w_codes
  rw [← List.take_append_drop 24 words1, List.all_append, w_t1, ← List.take_append_drop 24 (words1.drop 24), List.all_append, w_t2, ← List.take_append_drop 24 ((words1.drop 24).drop 24), List.all_append, w_t3, ← List.take_append_drop 24 (((words1.drop 24).drop 24).drop 24), List.all_append, w_t4, ← List.take_append_drop 24 ((((words1.drop 24).drop 24).drop 24).drop 24), List.all_append, w_t5, ← List.take_append_drop 24 (((((words1.drop 24).drop 24).drop 24).drop 24).drop 24), List.all_append, w_t6, ← List.take_append_drop 24 ((((((words1.drop 24).drop 24).drop 24).drop 24).drop 24).drop 24), List.all_append, w_t7, w_t8]
  rfl
set_option maxRecDepth 65536 in
theorem w_rest : rest_1_c.before args0 about1 = true := by decide +kernel
set_option maxRecDepth 65536 in
theorem w_case : (Jvm.Cond.and given_1 narrow_1).before args0 about1 = true := by decide +kernel
set_option maxRecDepth 65536 in
theorem w_consts : constsHeld consts_1 about1 := Jvm.Lit.constsHeldB_iff.mp (by decide +kernel)
theorem w_applies : (headSpec (Jvm.Cond.code x code maxLocals ret :: tables_1) room_1).applies x e0.platform about1 = true :=
  (Spec.applies_iff w_frames).mpr ⟨w_running, w_runnable, w_alone, w_named, w_hears, w_ripe, w_room, w_tables⟩
theorem atStart : AtStart classFile x code maxLocals ret World_1 tables_1 room_1 Calls_1 rest_1 Pre_1 launch0 p0 e0 about1 theMethod args0 below0 :=
  ⟨lists_1, trivial, launch0.admits_env _ _ _, launch0.least_env, fairChoices_fair.cas, fairChoices_fair.clock, w_frames, w_args, w_heap, w_applies, ⟨w_consts, trivial⟩, w_rest, w_case⟩
end start1
theorem witness_1 : WitnessClaimed_1 := ⟨start1.p0, start1.e0, start1.about1, start1.theMethod, start1.args0, start1.below0, start1.atStart⟩
end Jvm.Pilot.@@N@@
