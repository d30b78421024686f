import JvmDerived
import JvmDerived.Pilot.@@N@@Statement
import JvmDerived.Pilot.@@N@@Code
set_option linter.unusedVariables false
set_option linter.unusedSimpArgs false
namespace Jvm.Pilot.@@N@@
open Jvm Jvm.ClassFile Sem Op Lib Jvm.Free Jvm.Stand Jvm.LawKit Jvm.RoadKit Bundle Jvm.Pilot.@@N@@.Jvm.D
/-! ## The frame of my walks: Gl: what is left to run ends well; St: where the run stands; Ctr: a body's contract; Ary: an array by its length and its values -/
def Gl (p : Program) (e : Env) (below : List Frame) (n0 : Nat) (Φ : Outcome → State → List Loc → Prop) (Q : Option Value → Heap → Prop) (U : State) : Prop :=
  ∃ s₂ o, Steps p.tables e below U s₂ ∧ s₂.status = .running ∧ Ended s₂ below o ∧ ∃ v L, o = .returned v ∧ (Q v s₂.heap ∧ Fr n0 L) ∧ Φ o s₂ L
abbrev Fn (s : State) (cs sl : Nat) : Outcome → State → List Loc → Prop := fun o t L => FrameEnd s o t L cs sl
abbrev Fw (s : State) (cs sl : Nat) : Outcome → State → List Loc → Prop := fun o t L => ReturnedEndW s o t L cs sl
def St (p : Program) (l : Launch) (e : Env) (R : Room) (s : State) (m : MethodId) (args : Array Value) (below : List Frame) (meth : Method) (c : Code) (n0 : Nat) (T : State) (h : Heap) (cells slots : Nat) : Prop :=
  ∃ locs, Stand p l e R s m args below meth c T locs cells slots ∧ T.heap = h ∧ Fr n0 locs
abbrev Ctr (l : Launch) (Z : State) (y : MethodName) (bytes : ByteArray) (maxL : Nat) (ret : Option FieldType) (ws : List Jvm.Cond) (rm : Room) (as' : Array Value) (h0 : Heap) (n0 cs sl : Nat) (Q : Option Value → Heap → Prop) : Prop :=
  MetFree l y (head1 (Jvm.Cond.code y bytes maxL ret :: ws) rm) (fun a U => a = as' ∧ Z.Warmed39 U.vm ∧ U.heap = h0) (fun _ _ _ _ _ => True) (fun _ U o U' => ∃ v L, o = .returned v ∧ (Q v U'.heap ∧ Fr n0 L) ∧ FrameEnd U o U' L cs sl)
theorem Ctr.of {l : Launch} {Z : State} {y : MethodName} {bytes : ByteArray} {maxL : Nat} {ret : Option FieldType} {ws : List Jvm.Cond} {rm : Room} {as' : Array Value} {h0 : Heap} {n0 cs sl : Nat} {Q : Option Value → Heap → Prop} (hn : plainFor y = true)
    (body : ∀ (p : Program) (e : Env) (s : State) (m : MethodId) (below : List Frame) (meth : Method) (c : Code) (T : State), p.tables.exec = Jvm.exec → c.code = bytes → c.maxLocals = maxL → meth.sig.returnType = ret → meth.locks = false → meth.name = y.name → s.vm.findClass y.cls = some m.cls → Z.Warmed39 s.vm →
      St p l e rm s m as' below meth c n0 T h0 0 0 → Gl p e below n0 (Fn s cs sl) Q (T.setTop (entryFrame m as' maxL))) : Ctr l Z y bytes maxL ret ws rm as' h0 n0 cs sl Q := by
  refine MetFree.of_bodySF hn hisR ?_
  intro p e s m args below meth c s₁ Bd hml0 hP hK
  obtain ⟨rfl, hZ, hh⟩ := hP
  exact body p e s m below meth c s₁ Bd.exec Bd.bytes hml0 Bd.returns Bd.notSynchronized (name_of_methodNamed Bd.named Bd.method).1 (findClass_of_methodNamed Bd.named) hZ ⟨[], Stand.of_body Bd, by rw [← hh, Bd.state]; rfl, Fr.nil n0⟩
theorem own_since (s : State) (n : Nat) : s.Since s.vm n := (State.WarmedH.refl s).since n
abbrev CtrW (l : Launch) (Z : State) (y : MethodName) (bytes : ByteArray) (maxL : Nat) (ret : Option FieldType) (ws : List Jvm.Cond) (rm : Room) (as' : Array Value) (h0 : Heap) (n0 cs sl : Nat) (Q : Option Value → Heap → Prop) : Prop :=
  MetFree l y (head1 (Jvm.Cond.code y bytes maxL ret :: ws) rm) (fun a U => a = as' ∧ Z.Warmed39 U.vm ∧ U.heap = h0) (fun _ _ _ _ _ => True) (fun _ U o U' => ∃ v L, o = .returned v ∧ (Q v U'.heap ∧ Fr n0 L) ∧ ReturnedEndW U o U' L cs sl)
theorem CtrW.of {l : Launch} {Z : State} {y : MethodName} {bytes : ByteArray} {maxL : Nat} {ret : Option FieldType} {ws : List Jvm.Cond} {rm : Room} {as' : Array Value} {h0 : Heap} {n0 cs sl : Nat} {Q : Option Value → Heap → Prop} (hn : plainFor y = true)
    (body : ∀ (p : Program) (e : Env) (s : State) (m : MethodId) (below : List Frame) (meth : Method) (c : Code) (T : State), p.tables.exec = Jvm.exec → c.code = bytes → c.maxLocals = maxL → meth.sig.returnType = ret → meth.locks = false → meth.name = y.name → (s.setVm s.vm).vm.findClass y.cls = some m.cls → Z.Warmed39 (s.setVm s.vm).vm →
      St p l e rm (s.setVm s.vm) m as' below meth c n0 T h0 0 0 → s.Since s.vm h0.size → Gl p e below n0 (Fw s cs sl) Q (T.setTop (entryFrame m as' maxL))) : CtrW l Z y bytes maxL ret ws rm as' h0 n0 cs sl Q := by
  refine MetFree.of_bodySF hn hisR ?_
  intro p e s m args below meth c s₁ Bd hml0 hP hK
  obtain ⟨rfl, hZ, hh⟩ := hP
  exact body p e s m below meth c s₁ Bd.exec Bd.bytes hml0 Bd.returns Bd.notSynchronized (name_of_methodNamed Bd.named Bd.method).1 (findClass_of_methodNamed Bd.named) hZ ⟨[], Stand.of_body Bd, by rw [← hh, Bd.state]; rfl, Fr.nil n0⟩ (own_since s h0.size)
def Ary (Z : State) (h : Heap) (a : Addr) (ty : FieldType) (n : Nat) (f : Nat → Value) : Prop := ∃ c : Cell, Arr Z h a c ty ∧ c.slots.size = n ∧ ∀ i, i < n → c.slots[i]? = some (f i)
def own_upd (f : Nat → Value) (i : Nat) (v : Value) : Nat → Value := fun j => if j = i then v else f j
theorem own_upd_same (f : Nat → Value) (i : Nat) (v : Value) : own_upd f i v i = v := by simp [own_upd]
theorem own_upd_ne (f : Nat → Value) {i j : Nat} (v : Value) (q : ¬ j = i) : own_upd f i v j = f j := by simp [own_upd, q]
theorem own_in {j : Int32} {i k : Nat} (hj : j.toInt = (i : Int)) (hi : i < k) : ¬ (j < 0 ∨ k ≤ j.toNatClampNeg) ∧ j.toNatClampNeg = i := by
  have e : j.toNatClampNeg = i := by simp only [Int32.toNatClampNeg]; omega
  refine ⟨?_, e⟩
  rw [e, Int32.lt_iff_toInt_lt]; have : (0 : Int32).toInt = 0 := rfl
  omega
section OwnFacts
variable {Z : State} {h h' : Heap} {a b : Addr} {ty : FieldType} {n sl : Nat} {f : Nat → Value} {v : Value} {ws : List Addr}
theorem Ary.lt (F : Ary Z h a ty n f) : a < h.size := by obtain ⟨c, A, -⟩ := F; exact A.lt
theorem Ary.ext (F : Ary Z h a ty n f) (E : Ext h h') : Ary Z h' a ty n f := by obtain ⟨c, A, r⟩ := F; exact ⟨c, A.ext E, r⟩
theorem Ary.other (F : Ary Z h b ty n f) (W : Wr h h' a sl v) (q : b ≠ a) : Ary Z h' b ty n f := by obtain ⟨c, A, r⟩ := F; exact ⟨c, A.other W q, r⟩
theorem Ary.keep (F : Ary Z h a ty n f) (K : Keep h h' ws) (q : a ∉ ws) : Ary Z h' a ty n f := by obtain ⟨c, A, r⟩ := F; exact ⟨c, ⟨K.2.1 a c A.1 q, A.2⟩, r⟩
theorem Ary.same {cl : Cell} (A : Arr Z h a cl ty) (sz : cl.slots.size = n) (H : ∀ i, i < n → cl.slots[i]? = some (f i)) {i : Nat} (W : Wr h h' a i v) : Ary Z h' a ty n (own_upd f i v) := by
  refine ⟨_, A.same W, by rw [sz_set]; exact sz, fun j hj => ?_⟩
  by_cases q : j = i
  · subst q; simp [Cell.setSlot, own_upd, sz, hj]
  · rw [own_upd_ne f v q]; exact (Array.getElem?_setIfInBounds_ne (Ne.symm q)).trans (H j hj)
theorem Ary.congr (F : Ary Z h a ty n f) {g : Nat → Value} (q : ∀ i, i < n → f i = g i) : Ary Z h a ty n g := by obtain ⟨c, A, sz, H⟩ := F; exact ⟨c, A, sz, fun i hi => by rw [← q i hi]; exact H i hi⟩
/-- what may lie in an array of C -/
def Ov (Z : State) (h : Heap) (a : Addr) (C : String) : Prop := ∃ c : Cell, h[a]? = some c ∧ Ovr Z c.cls C
theorem Ov.ext {C : String} (F : Ov Z h a C) (E : Ext h h') : Ov Z h' a C := by obtain ⟨c, h1, O⟩ := F; exact ⟨c, E.2 _ _ h1, O⟩
theorem Ov.wr {C : String} (F : Ov Z h a C) (W : Wr h h' b sl v) : Ov Z h' a C := by
  obtain ⟨c, h1, O⟩ := F
  obtain ⟨c', e1, e2, -⟩ := wr_at W h1
  exact ⟨c', e1, by rw [e2]; exact O⟩
theorem Ov.keep {C : String} (F : Ov Z h a C) (K : Keep h h' ws) : Ov Z h' a C := by
  obtain ⟨c, h1, O⟩ := F
  obtain ⟨c', e1, e2, -⟩ := K.2.2 a c h1
  exact ⟨c', e1, by rw [e2]; exact O⟩
theorem Ov.sto {C : String} {y : Addr} (F : Ov Z h a C) (A : Ary Z h a ty n f) (I : Ins Z h y C true) : Sto Z h a (.ref y) := by
  obtain ⟨c, h1, O⟩ := F
  obtain ⟨cl, A, -⟩ := A
  cases h1.symm.trans A.1
  exact Sto.of A O I
theorem own_plain {C : String} (F : Exa Z h a C) : ∃ c : Cell, h[a]? = some c ∧ c.vm.isStatics = false := by obtain ⟨c, k, h1, -, -, h4, -⟩ := F; exact ⟨c, h1, h4⟩
theorem own_plainA (F : Ary Z h a ty n f) : ∃ c : Cell, h[a]? = some c ∧ c.vm.isStatics = false := by obtain ⟨c, A, -⟩ := F; exact ⟨c, A.1, A.plain⟩
theorem own_sta_keep {C nm d : String} (F : Sta Z h C nm d v) (K : Keep h h' ws) (q : ∀ x ∈ ws, ∃ c : Cell, h[x]? = some c ∧ c.vm.isStatics = false) : Sta Z h' C nm d v := by
  obtain ⟨cf, i, k, fd, st, cell, h1, h2, h3, h4, h5, h6, h7⟩ := F
  refine ⟨cf, i, k, fd, st, cell, h1, h2, h3, h4, K.2.1 _ _ h5 fun z => ?_, h6, h7⟩
  obtain ⟨c, e1, e2⟩ := q _ z
  cases h5.symm.trans e1
  rw [e2] at h6; cases h6
theorem own_fld_of {a0 : Array Value} {C O nm d O' nm' d' : String} {k : Nat} (E : Exa Z h a C) (F : Fld Z h a O' nm' d' v) (wi : (Cond.instantiable C k).before a0 Z = true) (L : Laid Z a0 C O nm d) : ∃ v', Fld Z h a O nm d v' := by
  obtain ⟨c, _, _, _, _, h1, -, -, h4, -⟩ := F
  exact fld_laid E ⟨c, h1, h4⟩ wi L
theorem own_ne_ty {ty' : FieldType} {n' : Nat} {f' : Nat → Value} (F : Ary Z h a ty n f) (G : Ary Z h b ty' n' f') (q : ty ≠ ty') : a ≠ b := fun e => by
  subst e
  obtain ⟨c1, A1, -⟩ := F
  obtain ⟨c2, A2, -⟩ := G
  cases A1.1.symm.trans A2.1
  obtain ⟨-, k1, i1, p1, j1⟩ := A1.2.1
  obtain ⟨-, k2, i2, p2, j2⟩ := A2.2.1
  cases i1.symm.trans i2
  rw [j1] at j2; cases j2; exact q rfl
theorem own_ne_exa {a0 : Array Value} {C : String} {k : Nat} (E : Exa Z h a C) (wi : (Cond.instantiable C k).before a0 Z = true) (G : Ary Z h b ty n f) : a ≠ b := by
  obtain ⟨c, A, -⟩ := G; exact ne_arr E wi A
theorem own_fld_inj {C nm d : String} {w : Value} (F : Fld Z h a C nm d v) (G : Fld Z h a C nm d w) : v = w := by
  obtain ⟨c1, cf1, k1, i1, f1, a1, a2, -, -, -, -, a7⟩ := F
  obtain ⟨c2, cf2, k2, i2, f2, b1, b2, -, -, -, -, b7⟩ := G
  cases a1.symm.trans b1
  cases a2.symm.trans b2
  exact Option.some.inj (a7.symm.trans b7)
end OwnFacts
section OwnSteps
variable {p : Program} {l : Launch} {e : Env} {R : Room} {s : State} {m : MethodId} {args : Array Value} {below : List Frame} {meth : Method} {c : Code} {T : State} {n0 : Nat} {h : Heap} {cells slots : Nat} {cs sl : Nat} {Φ : Outcome → State → List Loc → Prop} {Q : Option Value → Heap → Prop} {pc pc' : Nat} {L L' : Array Slot} {S : List Value} {bs : ByteArray} {Z : State} {a0 : Array Value}
theorem Gl.st {U V : State} (q : ∀ t, Steps p.tables e below V t → Steps p.tables e below U t) (k : Gl p e below n0 Φ Q V) : Gl p e below n0 Φ Q U := by
  obtain ⟨t, o, h1, h2⟩ := k; exact ⟨t, o, q _ h1, h2⟩
theorem Gl.mono {U : State} {Q' : Option Value → Heap → Prop} (q : ∀ v h, Q v h → Q' v h) (k : Gl p e below n0 Φ Q U) : Gl p e below n0 Φ Q' U := by
  obtain ⟨t, o, h1, h2, h3, v, L, h4, ⟨h5, h6⟩, h7⟩ := k; exact ⟨t, o, h1, h2, h3, v, L, h4, ⟨q _ _ h5, h6⟩, h7⟩
theorem g_iload (X : St p l e R s m args below meth c n0 T h cells slots) (hx : p.tables.exec = Jvm.exec) (hby : c.code = bs) {k : Nat} {v : Int32} (hd : decode bs pc = .ok (.iload k, 2)) (hl : L[k]? = some (.val (.int v))) (hp : pc + 2 = pc') (K : Gl p e below n0 Φ Q (T.setTop (mkF m pc' L (.int v :: S)))) : Gl p e below n0 Φ Q (T.setTop (mkF m pc L S)) := by
  obtain ⟨locs, Y, -, -⟩ := X; subst hp; exact Gl.st (fun t k => XS.iload Y.here hx rfl (hb hby hd) hl k) K
theorem g_iloadN (X : St p l e R s m args below meth c n0 T h cells slots) (hx : p.tables.exec = Jvm.exec) (hby : c.code = bs) {k : Fin 4} {v : Int32} (hd : decode bs pc = .ok (.iload_n k, 1)) (hl : L[k.val]? = some (.val (.int v))) (hp : pc + 1 = pc') (K : Gl p e below n0 Φ Q (T.setTop (mkF m pc' L (.int v :: S)))) : Gl p e below n0 Φ Q (T.setTop (mkF m pc L S)) := by
  obtain ⟨locs, Y, -, -⟩ := X; subst hp; exact Gl.st (fun t k => XS.iloadN Y.here hx rfl (hb hby hd) hl k) K
theorem g_lload (X : St p l e R s m args below meth c n0 T h cells slots) (hx : p.tables.exec = Jvm.exec) (hby : c.code = bs) {k : Nat} {v : Int64} (hd : decode bs pc = .ok (.lload k, 2)) (hl : L[k]? = some (.val (.long v))) (hp : pc + 2 = pc') (K : Gl p e below n0 Φ Q (T.setTop (mkF m pc' L (.long v :: S)))) : Gl p e below n0 Φ Q (T.setTop (mkF m pc L S)) := by
  obtain ⟨locs, Y, -, -⟩ := X; subst hp; exact Gl.st (fun t k => XS.lload Y.here hx rfl (hb hby hd) hl k) K
theorem g_lloadN (X : St p l e R s m args below meth c n0 T h cells slots) (hx : p.tables.exec = Jvm.exec) (hby : c.code = bs) {k : Fin 4} {v : Int64} (hd : decode bs pc = .ok (.lload_n k, 1)) (hl : L[k.val]? = some (.val (.long v))) (hp : pc + 1 = pc') (K : Gl p e below n0 Φ Q (T.setTop (mkF m pc' L (.long v :: S)))) : Gl p e below n0 Φ Q (T.setTop (mkF m pc L S)) := by
  obtain ⟨locs, Y, -, -⟩ := X; subst hp; exact Gl.st (fun t k => XS.lloadN Y.here hx rfl (hb hby hd) hl k) K
theorem g_aload (X : St p l e R s m args below meth c n0 T h cells slots) (hx : p.tables.exec = Jvm.exec) (hby : c.code = bs) {k : Nat} {v : Value} (hd : decode bs pc = .ok (.aload k, 2)) (hl : L[k]? = some (.val v)) (hv : v.isRef = true) (hp : pc + 2 = pc') (K : Gl p e below n0 Φ Q (T.setTop (mkF m pc' L (v :: S)))) : Gl p e below n0 Φ Q (T.setTop (mkF m pc L S)) := by
  obtain ⟨locs, Y, -, -⟩ := X; subst hp; exact Gl.st (fun t k => XS.aload Y.here hx rfl (hb hby hd) hl hv k) K
theorem g_aloadN (X : St p l e R s m args below meth c n0 T h cells slots) (hx : p.tables.exec = Jvm.exec) (hby : c.code = bs) {k : Fin 4} {v : Value} (hd : decode bs pc = .ok (.aload_n k, 1)) (hl : L[k.val]? = some (.val v)) (hv : v.isRef = true) (hp : pc + 1 = pc') (K : Gl p e below n0 Φ Q (T.setTop (mkF m pc' L (v :: S)))) : Gl p e below n0 Φ Q (T.setTop (mkF m pc L S)) := by
  obtain ⟨locs, Y, -, -⟩ := X; subst hp; exact Gl.st (fun t k => XS.aloadN Y.here hx rfl (hb hby hd) hl hv k) K
theorem g_istore (X : St p l e R s m args below meth c n0 T h cells slots) (hx : p.tables.exec = Jvm.exec) (hby : c.code = bs) {k : Nat} {v : Int32} (hd : decode bs pc = .ok (.istore k, 2)) (hl : storeLocals L k (.int v) = some L') (hp : pc + 2 = pc') (K : Gl p e below n0 Φ Q (T.setTop (mkF m pc' L' S))) : Gl p e below n0 Φ Q (T.setTop (mkF m pc L (.int v :: S))) := by
  obtain ⟨locs, Y, -, -⟩ := X; subst hp; exact Gl.st (fun t k => XS.istore Y.here hx rfl (hb hby hd) rfl hl k) K
theorem g_istoreN (X : St p l e R s m args below meth c n0 T h cells slots) (hx : p.tables.exec = Jvm.exec) (hby : c.code = bs) {k : Fin 4} {v : Int32} (hd : decode bs pc = .ok (.istore_n k, 1)) (hl : storeLocals L k.val (.int v) = some L') (hp : pc + 1 = pc') (K : Gl p e below n0 Φ Q (T.setTop (mkF m pc' L' S))) : Gl p e below n0 Φ Q (T.setTop (mkF m pc L (.int v :: S))) := by
  obtain ⟨locs, Y, -, -⟩ := X; subst hp; exact Gl.st (fun t k => XS.istoreN Y.here hx rfl (hb hby hd) rfl hl k) K
theorem g_lstore (X : St p l e R s m args below meth c n0 T h cells slots) (hx : p.tables.exec = Jvm.exec) (hby : c.code = bs) {k : Nat} {v : Int64} (hd : decode bs pc = .ok (.lstore k, 2)) (hl : storeLocals L k (.long v) = some L') (hp : pc + 2 = pc') (K : Gl p e below n0 Φ Q (T.setTop (mkF m pc' L' S))) : Gl p e below n0 Φ Q (T.setTop (mkF m pc L (.long v :: S))) := by
  obtain ⟨locs, Y, -, -⟩ := X; subst hp; exact Gl.st (fun t k => XS.lstore Y.here hx rfl (hb hby hd) rfl hl k) K
theorem g_lstoreN (X : St p l e R s m args below meth c n0 T h cells slots) (hx : p.tables.exec = Jvm.exec) (hby : c.code = bs) {k : Fin 4} {v : Int64} (hd : decode bs pc = .ok (.lstore_n k, 1)) (hl : storeLocals L k.val (.long v) = some L') (hp : pc + 1 = pc') (K : Gl p e below n0 Φ Q (T.setTop (mkF m pc' L' S))) : Gl p e below n0 Φ Q (T.setTop (mkF m pc L (.long v :: S))) := by
  obtain ⟨locs, Y, -, -⟩ := X; subst hp; exact Gl.st (fun t k => XS.lstoreN Y.here hx rfl (hb hby hd) rfl hl k) K
theorem g_astore (X : St p l e R s m args below meth c n0 T h cells slots) (hx : p.tables.exec = Jvm.exec) (hby : c.code = bs) {k : Nat} {v : Value} (hd : decode bs pc = .ok (.astore k, 2)) (hv : v.isRef = true) (hl : storeLocals L k v = some L') (hp : pc + 2 = pc') (K : Gl p e below n0 Φ Q (T.setTop (mkF m pc' L' S))) : Gl p e below n0 Φ Q (T.setTop (mkF m pc L (v :: S))) := by
  obtain ⟨locs, Y, -, -⟩ := X; subst hp; exact Gl.st (fun t k => XS.astore Y.here hx rfl (hb hby hd) rfl hv hl k) K
theorem g_astoreN (X : St p l e R s m args below meth c n0 T h cells slots) (hx : p.tables.exec = Jvm.exec) (hby : c.code = bs) {k : Fin 4} {v : Value} (hd : decode bs pc = .ok (.astore_n k, 1)) (hv : v.isRef = true) (hl : storeLocals L k.val v = some L') (hp : pc + 1 = pc') (K : Gl p e below n0 Φ Q (T.setTop (mkF m pc' L' S))) : Gl p e below n0 Φ Q (T.setTop (mkF m pc L (v :: S))) := by
  obtain ⟨locs, Y, -, -⟩ := X; subst hp; exact Gl.st (fun t k => XS.astoreN Y.here hx rfl (hb hby hd) rfl hv hl k) K
theorem g_iconst (X : St p l e R s m args below meth c n0 T h cells slots) (hx : p.tables.exec = Jvm.exec) (hby : c.code = bs) {i : Int} {v : Int32} (hd : decode bs pc = .ok (.iconst i, 1)) (hv : Int32.ofInt i = v) (hp : pc + 1 = pc') (K : Gl p e below n0 Φ Q (T.setTop (mkF m pc' L (.int v :: S)))) : Gl p e below n0 Φ Q (T.setTop (mkF m pc L S)) := by
  obtain ⟨locs, Y, -, -⟩ := X; subst hp hv; exact Gl.st (fun t k => XS.iconst Y.here hx rfl (hb hby hd) k) K
theorem g_bipush (X : St p l e R s m args below meth c n0 T h cells slots) (hx : p.tables.exec = Jvm.exec) (hby : c.code = bs) {i : Int} {v : Int32} (hd : decode bs pc = .ok (.bipush i, 2)) (hv : (Int8.ofInt i).toInt32 = v) (hp : pc + 2 = pc') (K : Gl p e below n0 Φ Q (T.setTop (mkF m pc' L (.int v :: S)))) : Gl p e below n0 Φ Q (T.setTop (mkF m pc L S)) := by
  obtain ⟨locs, Y, -, -⟩ := X; subst hp hv; exact Gl.st (fun t k => XS.bipush Y.here hx rfl (hb hby hd) k) K
theorem g_sipush (X : St p l e R s m args below meth c n0 T h cells slots) (hx : p.tables.exec = Jvm.exec) (hby : c.code = bs) {i : Int} {v : Int32} (hd : decode bs pc = .ok (.sipush i, 3)) (hv : (Int16.ofInt i).toInt32 = v) (hp : pc + 3 = pc') (K : Gl p e below n0 Φ Q (T.setTop (mkF m pc' L (.int v :: S)))) : Gl p e below n0 Φ Q (T.setTop (mkF m pc L S)) := by
  obtain ⟨locs, Y, -, -⟩ := X; subst hp hv; exact Gl.st (fun t k => XS.sipush Y.here hx rfl (hb hby hd) k) K
theorem g_lconst (X : St p l e R s m args below meth c n0 T h cells slots) (hx : p.tables.exec = Jvm.exec) (hby : c.code = bs) {i : Fin 2} {v : Int64} (hd : decode bs pc = .ok (.lconst i, 1)) (hv : Int64.ofNat i = v) (hp : pc + 1 = pc') (K : Gl p e below n0 Φ Q (T.setTop (mkF m pc' L (.long v :: S)))) : Gl p e below n0 Φ Q (T.setTop (mkF m pc L S)) := by
  obtain ⟨locs, Y, -, -⟩ := X; subst hp hv; exact Gl.st (fun t k => XS.lconst Y.here hx rfl (hb hby hd) k) K
theorem g_aconst_null (X : St p l e R s m args below meth c n0 T h cells slots) (hx : p.tables.exec = Jvm.exec) (hby : c.code = bs) (hd : decode bs pc = .ok (.aconst_null, 1)) (hp : pc + 1 = pc') (K : Gl p e below n0 Φ Q (T.setTop (mkF m pc' L (.null :: S)))) : Gl p e below n0 Φ Q (T.setTop (mkF m pc L S)) := by
  obtain ⟨locs, Y, -, -⟩ := X; subst hp; exact Gl.st (fun t k => XS.aconstNull Y.here hx rfl (hb hby hd) k) K
theorem g_ldc (X : St p l e R s m args below meth c n0 T h cells slots) (hx : p.tables.exec = Jvm.exec) (hby : c.code = bs) (hZ : Z.Warmed39 s.vm) {own : String} {index : Nat} {v : Int32} (hown : s.vm.findClass own = some m.cls) (w : (Cond.constant own index v).before a0 Z = true) (hd : decode bs pc = .ok (.ldc index, 2)) (hp : pc + 2 = pc') (K : Gl p e below n0 Φ Q (T.setTop (mkF m pc' L (.int v :: S)))) : Gl p e below n0 Φ Q (T.setTop (mkF m pc L S)) := by
  obtain ⟨locs, Y, -, -⟩ := X; subst hp; exact Gl.st (Y.ldcInt hx hown (mvT hZ w) (g := mkF m pc L S) rfl (hb hby hd)) K
theorem g_ldc2_w (X : St p l e R s m args below meth c n0 T h cells slots) (hx : p.tables.exec = Jvm.exec) (hby : c.code = bs) (hZ : Z.Warmed39 s.vm) {own : String} {index : Nat} {v : Int64} (hown : s.vm.findClass own = some m.cls) (w : (Cond.constantLong own index v).before a0 Z = true) (hd : decode bs pc = .ok (.ldc2_w index, 3)) (hp : pc + 3 = pc') (K : Gl p e below n0 Φ Q (T.setTop (mkF m pc' L (.long v :: S)))) : Gl p e below n0 Φ Q (T.setTop (mkF m pc L S)) := by
  obtain ⟨locs, Y, -, -⟩ := X; subst hp; exact Gl.st (Y.ldc2Long hx hown (mvT hZ w) (g := mkF m pc L S) rfl (hb hby hd)) K
theorem g_iadd (X : St p l e R s m args below meth c n0 T h cells slots) (hx : p.tables.exec = Jvm.exec) (hby : c.code = bs) {x y : Int32} (hd : decode bs pc = .ok (.iadd, 1))  (hp : pc + 1 = pc') (K : Gl p e below n0 Φ Q (T.setTop (mkF m pc' L (.int (x + y) :: S)))) : Gl p e below n0 Φ Q (T.setTop (mkF m pc L (.int y :: .int x :: S))) := by
  obtain ⟨locs, Y, -, -⟩ := X; subst hp; exact Gl.st (fun t k => XS.iadd Y.here hx rfl (hb hby hd) rfl k) K
theorem g_isub (X : St p l e R s m args below meth c n0 T h cells slots) (hx : p.tables.exec = Jvm.exec) (hby : c.code = bs) {x y : Int32} (hd : decode bs pc = .ok (.isub, 1))  (hp : pc + 1 = pc') (K : Gl p e below n0 Φ Q (T.setTop (mkF m pc' L (.int (x - y) :: S)))) : Gl p e below n0 Φ Q (T.setTop (mkF m pc L (.int y :: .int x :: S))) := by
  obtain ⟨locs, Y, -, -⟩ := X; subst hp; exact Gl.st (fun t k => XS.isub Y.here hx rfl (hb hby hd) rfl k) K
theorem g_imul (X : St p l e R s m args below meth c n0 T h cells slots) (hx : p.tables.exec = Jvm.exec) (hby : c.code = bs) {x y : Int32} (hd : decode bs pc = .ok (.imul, 1))  (hp : pc + 1 = pc') (K : Gl p e below n0 Φ Q (T.setTop (mkF m pc' L (.int (x * y) :: S)))) : Gl p e below n0 Φ Q (T.setTop (mkF m pc L (.int y :: .int x :: S))) := by
  obtain ⟨locs, Y, -, -⟩ := X; subst hp; exact Gl.st (fun t k => XS.imul Y.here hx rfl (hb hby hd) rfl k) K
theorem g_iand (X : St p l e R s m args below meth c n0 T h cells slots) (hx : p.tables.exec = Jvm.exec) (hby : c.code = bs) {x y : Int32} (hd : decode bs pc = .ok (.iand, 1))  (hp : pc + 1 = pc') (K : Gl p e below n0 Φ Q (T.setTop (mkF m pc' L (.int (x &&& y) :: S)))) : Gl p e below n0 Φ Q (T.setTop (mkF m pc L (.int y :: .int x :: S))) := by
  obtain ⟨locs, Y, -, -⟩ := X; subst hp; exact Gl.st (fun t k => XS.iand Y.here hx rfl (hb hby hd) rfl k) K
theorem g_ior (X : St p l e R s m args below meth c n0 T h cells slots) (hx : p.tables.exec = Jvm.exec) (hby : c.code = bs) {x y : Int32} (hd : decode bs pc = .ok (.ior, 1))  (hp : pc + 1 = pc') (K : Gl p e below n0 Φ Q (T.setTop (mkF m pc' L (.int (x ||| y) :: S)))) : Gl p e below n0 Φ Q (T.setTop (mkF m pc L (.int y :: .int x :: S))) := by
  obtain ⟨locs, Y, -, -⟩ := X; subst hp; exact Gl.st (fun t k => XS.ior Y.here hx rfl (hb hby hd) rfl k) K
theorem g_ixor (X : St p l e R s m args below meth c n0 T h cells slots) (hx : p.tables.exec = Jvm.exec) (hby : c.code = bs) {x y : Int32} (hd : decode bs pc = .ok (.ixor, 1))  (hp : pc + 1 = pc') (K : Gl p e below n0 Φ Q (T.setTop (mkF m pc' L (.int (x ^^^ y) :: S)))) : Gl p e below n0 Φ Q (T.setTop (mkF m pc L (.int y :: .int x :: S))) := by
  obtain ⟨locs, Y, -, -⟩ := X; subst hp; exact Gl.st (fun t k => XS.ixor Y.here hx rfl (hb hby hd) rfl k) K
theorem g_ishl (X : St p l e R s m args below meth c n0 T h cells slots) (hx : p.tables.exec = Jvm.exec) (hby : c.code = bs) {x y : Int32} (hd : decode bs pc = .ok (.ishl, 1))  (hp : pc + 1 = pc') (K : Gl p e below n0 Φ Q (T.setTop (mkF m pc' L (.int (x <<< (y &&& 31)) :: S)))) : Gl p e below n0 Φ Q (T.setTop (mkF m pc L (.int y :: .int x :: S))) := by
  obtain ⟨locs, Y, -, -⟩ := X; subst hp; exact Gl.st (fun t k => XS.ishl Y.here hx rfl (hb hby hd) rfl k) K
theorem g_ishr (X : St p l e R s m args below meth c n0 T h cells slots) (hx : p.tables.exec = Jvm.exec) (hby : c.code = bs) {x y : Int32} (hd : decode bs pc = .ok (.ishr, 1))  (hp : pc + 1 = pc') (K : Gl p e below n0 Φ Q (T.setTop (mkF m pc' L (.int (x >>> (y &&& 31)) :: S)))) : Gl p e below n0 Φ Q (T.setTop (mkF m pc L (.int y :: .int x :: S))) := by
  obtain ⟨locs, Y, -, -⟩ := X; subst hp; exact Gl.st (fun t k => XS.ishr Y.here hx rfl (hb hby hd) rfl k) K
theorem g_iushr (X : St p l e R s m args below meth c n0 T h cells slots) (hx : p.tables.exec = Jvm.exec) (hby : c.code = bs) {x y : Int32} (hd : decode bs pc = .ok (.iushr, 1))  (hp : pc + 1 = pc') (K : Gl p e below n0 Φ Q (T.setTop (mkF m pc' L (.int ((x.toUInt32 >>> (y &&& 31).toUInt32).toInt32) :: S)))) : Gl p e below n0 Φ Q (T.setTop (mkF m pc L (.int y :: .int x :: S))) := by
  obtain ⟨locs, Y, -, -⟩ := X; subst hp; exact Gl.st (fun t k => XS.iushr Y.here hx rfl (hb hby hd) rfl k) K
theorem g_ladd (X : St p l e R s m args below meth c n0 T h cells slots) (hx : p.tables.exec = Jvm.exec) (hby : c.code = bs) {x y : Int64} (hd : decode bs pc = .ok (.ladd, 1))  (hp : pc + 1 = pc') (K : Gl p e below n0 Φ Q (T.setTop (mkF m pc' L (.long (x + y) :: S)))) : Gl p e below n0 Φ Q (T.setTop (mkF m pc L (.long y :: .long x :: S))) := by
  obtain ⟨locs, Y, -, -⟩ := X; subst hp; exact Gl.st (fun t k => XS.ladd Y.here hx rfl (hb hby hd) rfl k) K
theorem g_lsub (X : St p l e R s m args below meth c n0 T h cells slots) (hx : p.tables.exec = Jvm.exec) (hby : c.code = bs) {x y : Int64} (hd : decode bs pc = .ok (.lsub, 1))  (hp : pc + 1 = pc') (K : Gl p e below n0 Φ Q (T.setTop (mkF m pc' L (.long (x - y) :: S)))) : Gl p e below n0 Φ Q (T.setTop (mkF m pc L (.long y :: .long x :: S))) := by
  obtain ⟨locs, Y, -, -⟩ := X; subst hp; exact Gl.st (fun t k => XS.lsub Y.here hx rfl (hb hby hd) rfl k) K
theorem g_lmul (X : St p l e R s m args below meth c n0 T h cells slots) (hx : p.tables.exec = Jvm.exec) (hby : c.code = bs) {x y : Int64} (hd : decode bs pc = .ok (.lmul, 1))  (hp : pc + 1 = pc') (K : Gl p e below n0 Φ Q (T.setTop (mkF m pc' L (.long (x * y) :: S)))) : Gl p e below n0 Φ Q (T.setTop (mkF m pc L (.long y :: .long x :: S))) := by
  obtain ⟨locs, Y, -, -⟩ := X; subst hp; exact Gl.st (fun t k => XS.lmul Y.here hx rfl (hb hby hd) rfl k) K
theorem g_land (X : St p l e R s m args below meth c n0 T h cells slots) (hx : p.tables.exec = Jvm.exec) (hby : c.code = bs) {x y : Int64} (hd : decode bs pc = .ok (.land, 1))  (hp : pc + 1 = pc') (K : Gl p e below n0 Φ Q (T.setTop (mkF m pc' L (.long (x &&& y) :: S)))) : Gl p e below n0 Φ Q (T.setTop (mkF m pc L (.long y :: .long x :: S))) := by
  obtain ⟨locs, Y, -, -⟩ := X; subst hp; exact Gl.st (fun t k => XS.land Y.here hx rfl (hb hby hd) rfl k) K
theorem g_lor (X : St p l e R s m args below meth c n0 T h cells slots) (hx : p.tables.exec = Jvm.exec) (hby : c.code = bs) {x y : Int64} (hd : decode bs pc = .ok (.lor, 1))  (hp : pc + 1 = pc') (K : Gl p e below n0 Φ Q (T.setTop (mkF m pc' L (.long (x ||| y) :: S)))) : Gl p e below n0 Φ Q (T.setTop (mkF m pc L (.long y :: .long x :: S))) := by
  obtain ⟨locs, Y, -, -⟩ := X; subst hp; exact Gl.st (fun t k => XS.lor Y.here hx rfl (hb hby hd) rfl k) K
theorem g_lxor (X : St p l e R s m args below meth c n0 T h cells slots) (hx : p.tables.exec = Jvm.exec) (hby : c.code = bs) {x y : Int64} (hd : decode bs pc = .ok (.lxor, 1))  (hp : pc + 1 = pc') (K : Gl p e below n0 Φ Q (T.setTop (mkF m pc' L (.long (x ^^^ y) :: S)))) : Gl p e below n0 Φ Q (T.setTop (mkF m pc L (.long y :: .long x :: S))) := by
  obtain ⟨locs, Y, -, -⟩ := X; subst hp; exact Gl.st (fun t k => XS.lxor Y.here hx rfl (hb hby hd) rfl k) K
theorem g_lushr (X : St p l e R s m args below meth c n0 T h cells slots) (hx : p.tables.exec = Jvm.exec) (hby : c.code = bs) {x : Int64} {y : Int32} (hd : decode bs pc = .ok (.lushr, 1))  (hp : pc + 1 = pc') (K : Gl p e below n0 Φ Q (T.setTop (mkF m pc' L (.long ((x.toUInt64 >>> (y &&& 0x3f).toInt64.toUInt64).toInt64) :: S)))) : Gl p e below n0 Φ Q (T.setTop (mkF m pc L (.int y :: .long x :: S))) := by
  obtain ⟨locs, Y, -, -⟩ := X; subst hp; exact Gl.st (fun t k => XS.lushr Y.here hx rfl (hb hby hd) rfl k) K
theorem g_irem (X : St p l e R s m args below meth c n0 T h cells slots) (hx : p.tables.exec = Jvm.exec) (hby : c.code = bs) {x y : Int32} (hd : decode bs pc = .ok (.irem, 1)) (hy : y ≠ 0) (hp : pc + 1 = pc') (K : Gl p e below n0 Φ Q (T.setTop (mkF m pc' L (.int (x % y) :: S)))) : Gl p e below n0 Φ Q (T.setTop (mkF m pc L (.int y :: .int x :: S))) := by
  obtain ⟨locs, Y, -, -⟩ := X; subst hp; exact Gl.st (fun t k => iremM Y hx rfl (hb hby hd) rfl hy k) K
theorem g_lrem (X : St p l e R s m args below meth c n0 T h cells slots) (hx : p.tables.exec = Jvm.exec) (hby : c.code = bs) {x y : Int64} (hd : decode bs pc = .ok (.lrem, 1)) (hy : y ≠ 0) (hp : pc + 1 = pc') (K : Gl p e below n0 Φ Q (T.setTop (mkF m pc' L (.long (x - (x / y) * y) :: S)))) : Gl p e below n0 Φ Q (T.setTop (mkF m pc L (.long y :: .long x :: S))) := by
  obtain ⟨locs, Y, -, -⟩ := X; subst hp; exact Gl.st (fun t k => XS.lrem Y.here hx rfl (hb hby hd) rfl hy k) K
theorem g_i2l (X : St p l e R s m args below meth c n0 T h cells slots) (hx : p.tables.exec = Jvm.exec) (hby : c.code = bs) {x : Int32} (hd : decode bs pc = .ok (.i2l, 1))  (hp : pc + 1 = pc') (K : Gl p e below n0 Φ Q (T.setTop (mkF m pc' L (.long (x.toInt64) :: S)))) : Gl p e below n0 Φ Q (T.setTop (mkF m pc L (.int x :: S))) := by
  obtain ⟨locs, Y, -, -⟩ := X; subst hp; exact Gl.st (fun t k => XS.i2l Y.here hx rfl (hb hby hd) rfl k) K
theorem g_l2i (X : St p l e R s m args below meth c n0 T h cells slots) (hx : p.tables.exec = Jvm.exec) (hby : c.code = bs) {x : Int64} (hd : decode bs pc = .ok (.l2i, 1))  (hp : pc + 1 = pc') (K : Gl p e below n0 Φ Q (T.setTop (mkF m pc' L (.int (x.toInt32) :: S)))) : Gl p e below n0 Φ Q (T.setTop (mkF m pc L (.long x :: S))) := by
  obtain ⟨locs, Y, -, -⟩ := X; subst hp; exact Gl.st (fun t k => XS.l2i Y.here hx rfl (hb hby hd) rfl k) K
theorem g_i2b (X : St p l e R s m args below meth c n0 T h cells slots) (hx : p.tables.exec = Jvm.exec) (hby : c.code = bs) {x : Int32} (hd : decode bs pc = .ok (.i2b, 1))  (hp : pc + 1 = pc') (K : Gl p e below n0 Φ Q (T.setTop (mkF m pc' L (.int (x.toInt8.toInt32) :: S)))) : Gl p e below n0 Φ Q (T.setTop (mkF m pc L (.int x :: S))) := by
  obtain ⟨locs, Y, -, -⟩ := X; subst hp; exact Gl.st (fun t k => XS.i2b Y.here hx rfl (hb hby hd) rfl k) K
theorem g_i2c (X : St p l e R s m args below meth c n0 T h cells slots) (hx : p.tables.exec = Jvm.exec) (hby : c.code = bs) {x : Int32} (hd : decode bs pc = .ok (.i2c, 1))  (hp : pc + 1 = pc') (K : Gl p e below n0 Φ Q (T.setTop (mkF m pc' L (.int (x.toUInt32.toUInt16.toUInt32.toInt32) :: S)))) : Gl p e below n0 Φ Q (T.setTop (mkF m pc L (.int x :: S))) := by
  obtain ⟨locs, Y, -, -⟩ := X; subst hp; exact Gl.st (fun t k => XS.i2c Y.here hx rfl (hb hby hd) rfl k) K
theorem g_ineg (X : St p l e R s m args below meth c n0 T h cells slots) (hx : p.tables.exec = Jvm.exec) (hby : c.code = bs) {x : Int32} (hd : decode bs pc = .ok (.ineg, 1))  (hp : pc + 1 = pc') (K : Gl p e below n0 Φ Q (T.setTop (mkF m pc' L (.int (-x) :: S)))) : Gl p e below n0 Φ Q (T.setTop (mkF m pc L (.int x :: S))) := by
  obtain ⟨locs, Y, -, -⟩ := X; subst hp; exact Gl.st (fun t k => XS.ineg Y.here hx rfl (hb hby hd) rfl k) K
theorem g_dload (X : St p l e R s m args below meth c n0 T h cells slots) (hx : p.tables.exec = Jvm.exec) (hby : c.code = bs) {k : Nat} {v : UInt64} (hd : decode bs pc = .ok (.dload k, 2)) (hl : L[k]? = some (.val (.double v))) (hp : pc + 2 = pc') (K : Gl p e below n0 Φ Q (T.setTop (mkF m pc' L (.double v :: S)))) : Gl p e below n0 Φ Q (T.setTop (mkF m pc L S)) := by
  obtain ⟨locs, Y, -, -⟩ := X; subst hp; exact Gl.st (fun t k => XS.dload Y.here hx rfl (hb hby hd) hl k) K
theorem g_dloadN (X : St p l e R s m args below meth c n0 T h cells slots) (hx : p.tables.exec = Jvm.exec) (hby : c.code = bs) {k : Fin 4} {v : UInt64} (hd : decode bs pc = .ok (.dload_n k, 1)) (hl : L[k.val]? = some (.val (.double v))) (hp : pc + 1 = pc') (K : Gl p e below n0 Φ Q (T.setTop (mkF m pc' L (.double v :: S)))) : Gl p e below n0 Φ Q (T.setTop (mkF m pc L S)) := by
  obtain ⟨locs, Y, -, -⟩ := X; subst hp; exact Gl.st (fun t k => XS.dloadN Y.here hx rfl (hb hby hd) hl k) K
theorem g_dstore (X : St p l e R s m args below meth c n0 T h cells slots) (hx : p.tables.exec = Jvm.exec) (hby : c.code = bs) {k : Nat} {v : UInt64} (hd : decode bs pc = .ok (.dstore k, 2)) (hl : storeLocals L k (.double v) = some L') (hp : pc + 2 = pc') (K : Gl p e below n0 Φ Q (T.setTop (mkF m pc' L' S))) : Gl p e below n0 Φ Q (T.setTop (mkF m pc L (.double v :: S))) := by
  obtain ⟨locs, Y, -, -⟩ := X; subst hp; exact Gl.st (fun t k => XS.dstore Y.here hx rfl (hb hby hd) rfl hl k) K
theorem g_dstoreN (X : St p l e R s m args below meth c n0 T h cells slots) (hx : p.tables.exec = Jvm.exec) (hby : c.code = bs) {k : Fin 4} {v : UInt64} (hd : decode bs pc = .ok (.dstore_n k, 1)) (hl : storeLocals L k.val (.double v) = some L') (hp : pc + 1 = pc') (K : Gl p e below n0 Φ Q (T.setTop (mkF m pc' L' S))) : Gl p e below n0 Φ Q (T.setTop (mkF m pc L (.double v :: S))) := by
  obtain ⟨locs, Y, -, -⟩ := X; subst hp; exact Gl.st (fun t k => XS.dstoreN Y.here hx rfl (hb hby hd) rfl hl k) K
theorem g_i2d (X : St p l e R s m args below meth c n0 T h cells slots) (hx : p.tables.exec = Jvm.exec) (hby : c.code = bs) {x : Int32} (hd : decode bs pc = .ok (.i2d, 1))  (hp : pc + 1 = pc') (K : Gl p e below n0 Φ Q (T.setTop (mkF m pc' L (.double (FP.i2d x) :: S)))) : Gl p e below n0 Φ Q (T.setTop (mkF m pc L (.int x :: S))) := by
  obtain ⟨locs, Y, -, -⟩ := X; subst hp; exact Gl.st (fun t k => XS.i2dS Y.here hx rfl (hb hby hd) rfl rfl k) K
theorem g_dconst0 (X : St p l e R s m args below meth c n0 T h cells slots) (hx : p.tables.exec = Jvm.exec) (hby : c.code = bs) (hd : decode bs pc = .ok (.dconst 0, 1)) (hp : pc + 1 = pc') (K : Gl p e below n0 Φ Q (T.setTop (mkF m pc' L (.double FP.dconst0 :: S)))) : Gl p e below n0 Φ Q (T.setTop (mkF m pc L S)) := by
  obtain ⟨locs, Y, -, -⟩ := X; subst hp; exact Gl.st (fun t k => XS.dconst0 Y.here hx rfl (hb hby hd) rfl k) K
theorem g_dconst1 (X : St p l e R s m args below meth c n0 T h cells slots) (hx : p.tables.exec = Jvm.exec) (hby : c.code = bs) (hd : decode bs pc = .ok (.dconst 1, 1)) (hp : pc + 1 = pc') (K : Gl p e below n0 Φ Q (T.setTop (mkF m pc' L (.double FP.dconst1 :: S)))) : Gl p e below n0 Φ Q (T.setTop (mkF m pc L S)) := by
  obtain ⟨locs, Y, -, -⟩ := X; subst hp; exact Gl.st (fun t k => XS.dconst1 Y.here hx rfl (hb hby hd) rfl k) K
theorem g_ddiv (X : St p l e R s m args below meth c n0 T h cells slots) (hx : p.tables.exec = Jvm.exec) (hby : c.code = bs) {x y : UInt64} (hd : decode bs pc = .ok (.ddiv, 1)) (hn : Jvm.Free.Fl.NoNaN64 (FP.ddiv x y)) (hp : pc + 1 = pc') (K : Gl p e below n0 Φ Q (T.setTop (mkF m pc' L (.double (FP.ddiv x y) :: S)))) : Gl p e below n0 Φ Q (T.setTop (mkF m pc L (.double y :: .double x :: S))) := by
  obtain ⟨locs, Y, -, -⟩ := X; subst hp; exact Gl.st (fun t k => XS.ddivS Y.here hx rfl (hb hby hd) rfl hn rfl k) K
theorem g_dcmp (X : St p l e R s m args below meth c n0 T h cells slots) (hx : p.tables.exec = Jvm.exec) (hby : c.code = bs) {x y : UInt64} {o : CmpOp} {v : Int32} (hd : decode bs pc = .ok (.dcmp o, 1)) (hv : cmpValue (FP.dcmp x y) o = v) (hp : pc + 1 = pc') (K : Gl p e below n0 Φ Q (T.setTop (mkF m pc' L (.int v :: S)))) : Gl p e below n0 Φ Q (T.setTop (mkF m pc L (.double y :: .double x :: S))) := by
  obtain ⟨locs, Y, -, -⟩ := X; subst hp; exact Gl.st (fun t k => XS.dcmpS Y.here hx rfl (hb hby hd) rfl hv k) K
theorem g_dup (X : St p l e R s m args below meth c n0 T h cells slots) (hx : p.tables.exec = Jvm.exec) (hby : c.code = bs) {v : Value} (hd : decode bs pc = .ok (.dup, 1)) (hc : v.category = 1) (hp : pc + 1 = pc') (K : Gl p e below n0 Φ Q (T.setTop (mkF m pc' L (v :: v :: S)))) : Gl p e below n0 Φ Q (T.setTop (mkF m pc L (v :: S))) := by
  obtain ⟨locs, Y, -, -⟩ := X; subst hp; exact Gl.st (fun t k => XS.dup Y.here hx rfl (hb hby hd) rfl hc k) K
theorem g_pop (X : St p l e R s m args below meth c n0 T h cells slots) (hx : p.tables.exec = Jvm.exec) (hby : c.code = bs) {v : Value} (hd : decode bs pc = .ok (.pop, 1)) (hc : v.category = 1) (hp : pc + 1 = pc') (K : Gl p e below n0 Φ Q (T.setTop (mkF m pc' L S))) : Gl p e below n0 Φ Q (T.setTop (mkF m pc L (v :: S))) := by
  obtain ⟨locs, Y, -, -⟩ := X; subst hp; exact Gl.st (fun t k => XS.pop Y.here hx rfl (hb hby hd) rfl hc k) K
theorem g_dup2 (X : St p l e R s m args below meth c n0 T h cells slots) (hx : p.tables.exec = Jvm.exec) (hby : c.code = bs) {v w : Value} (hd : decode bs pc = .ok (.dup2, 1)) (hc : v.category = 1) (hc' : w.category = 1) (hp : pc + 1 = pc') (K : Gl p e below n0 Φ Q (T.setTop (mkF m pc' L (v :: w :: v :: w :: S)))) : Gl p e below n0 Φ Q (T.setTop (mkF m pc L (v :: w :: S))) := by
  obtain ⟨locs, Y, -, -⟩ := X; subst hp; exact Gl.st (fun t k => XT.dup2 Y.here hx rfl (hb hby hd) rfl hc hc' k) K
theorem g_iinc (X : St p l e R s m args below meth c n0 T h cells slots) (hx : p.tables.exec = Jvm.exec) (hby : c.code = bs) {k : Nat} {i : Int} {x y : Int32} (hd : decode bs pc = .ok (.iinc k i, 3)) (hl : L[k]? = some (.val (.int x))) (hy : Int32.ofInt i = y) (hl' : storeLocals L k (.int (x + y)) = some L') (hp : pc + 3 = pc') (K : Gl p e below n0 Φ Q (T.setTop (mkF m pc' L' S))) : Gl p e below n0 Φ Q (T.setTop (mkF m pc L S)) := by
  obtain ⟨locs, Y, -, -⟩ := X; subst hp hy; exact Gl.st (fun t k => XS.iinc Y.here hx rfl (hb hby hd) hl hl' k) K
theorem g_goto (X : St p l e R s m args below meth c n0 T h cells slots) (hx : p.tables.exec = Jvm.exec) (hby : c.code = bs) {o : Int} (hd : decode bs pc = .ok (.goto o, 3)) (ho : 0 ≤ (pc : Int) + o) (hp : ((pc : Int) + o).toNat = pc') (K : Gl p e below n0 Φ Q (T.setTop (mkF m pc' L S))) : Gl p e below n0 Φ Q (T.setTop (mkF m pc L S)) := by
  obtain ⟨locs, Y, -, -⟩ := X; exact Gl.st (fun t k => XS.goto Y.here hx rfl (pc0 := pc) rfl (hb hby hd) ho hp k) K
theorem g_icmp (X : St p l e R s m args below meth c n0 T h cells slots) (hx : p.tables.exec = Jvm.exec) (hby : c.code = bs) {cd : ClassFile.Cond} {o : Int} {x y : Int32} {pc2 : Nat} (hd : decode bs pc = .ok (.if_icmp cd o, 3)) (ho : 0 ≤ (pc : Int) + o) (hp : ((pc : Int) + o).toNat = pc') (hq : pc + 3 = pc2) (K1 : if_icmp.holds cd x y = true → Gl p e below n0 Φ Q (T.setTop (mkF m pc' L S))) (K2 : if_icmp.holds cd x y = false → Gl p e below n0 Φ Q (T.setTop (mkF m pc2 L S))) : Gl p e below n0 Φ Q (T.setTop (mkF m pc L (.int y :: .int x :: S))) := by
  obtain ⟨locs, Y, -, -⟩ := X; subst hq
  cases hc : if_icmp.holds cd x y with
  | true => exact Gl.st (fun t k => XS.icmpYes Y.here hx rfl (pc0 := pc) rfl (hb hby hd) rfl hc ho hp k) (K1 hc)
  | false => exact Gl.st (fun t k => XS.icmpNo Y.here hx rfl (hb hby hd) rfl hc k) (K2 hc)
theorem g_if (X : St p l e R s m args below meth c n0 T h cells slots) (hx : p.tables.exec = Jvm.exec) (hby : c.code = bs) {cd : ClassFile.Cond} {o : Int} {x : Int32} {pc2 : Nat} (hd : decode bs pc = .ok (.ifCond cd o, 3)) (ho : 0 ≤ (pc : Int) + o) (hp : ((pc : Int) + o).toNat = pc') (hq : pc + 3 = pc2) (K1 : if_icmp.holds cd x 0 = true → Gl p e below n0 Φ Q (T.setTop (mkF m pc' L S))) (K2 : if_icmp.holds cd x 0 = false → Gl p e below n0 Φ Q (T.setTop (mkF m pc2 L S))) : Gl p e below n0 Φ Q (T.setTop (mkF m pc L (.int x :: S))) := by
  obtain ⟨locs, Y, -, -⟩ := X; subst hq
  cases hc : if_icmp.holds cd x 0 with
  | true => exact Gl.st (fun t k => XS.ifYes Y.here hx rfl (pc0 := pc) rfl (hb hby hd) rfl ((if0 _ _).trans hc) ho hp k) (K1 hc)
  | false => exact Gl.st (fun t k => XS.ifNo Y.here hx rfl (hb hby hd) rfl ((if0 _ _).trans hc) k) (K2 hc)
theorem g_icmp_eq (X : St p l e R s m args below meth c n0 T h cells slots) (hx : p.tables.exec = Jvm.exec) (hby : c.code = bs) {o : Int} {x y : Int32} {pc2 : Nat} (hd : decode bs pc = .ok (.if_icmp .eq o, 3)) (ho : 0 ≤ (pc : Int) + o) (hp : ((pc : Int) + o).toNat = pc') (hq : pc + 3 = pc2) (K1 : x = y → Gl p e below n0 Φ Q (T.setTop (mkF m pc' L S))) (K2 : ¬ (x = y) → Gl p e below n0 Φ Q (T.setTop (mkF m pc2 L S))) : Gl p e below n0 Φ Q (T.setTop (mkF m pc L (.int y :: .int x :: S))) :=
  g_icmp X hx hby hd ho hp hq (fun q => K1 (by simpa [if_icmp.holds] using q)) (fun q => K2 (by simpa [if_icmp.holds] using q))
theorem g_if_eq (X : St p l e R s m args below meth c n0 T h cells slots) (hx : p.tables.exec = Jvm.exec) (hby : c.code = bs) {o : Int} {x : Int32} {pc2 : Nat} (hd : decode bs pc = .ok (.ifCond .eq o, 3)) (ho : 0 ≤ (pc : Int) + o) (hp : ((pc : Int) + o).toNat = pc') (hq : pc + 3 = pc2) (K1 : x = 0 → Gl p e below n0 Φ Q (T.setTop (mkF m pc' L S))) (K2 : ¬ (x = 0) → Gl p e below n0 Φ Q (T.setTop (mkF m pc2 L S))) : Gl p e below n0 Φ Q (T.setTop (mkF m pc L (.int x :: S))) :=
  g_if X hx hby hd ho hp hq (fun q => K1 (by simpa [if_icmp.holds] using q)) (fun q => K2 (by simpa [if_icmp.holds] using q))
theorem g_lcmp_eq (X : St p l e R s m args below meth c n0 T h cells slots) (hx : p.tables.exec = Jvm.exec) (hby : c.code = bs) {o : Int} {x y : Int64} {pc1 pc2 : Nat} (hd1 : decode bs pc = .ok (.lcmp, 1)) (hp1 : pc + 1 = pc1) (hd : decode bs pc1 = .ok (.ifCond .eq o, 3)) (ho : 0 ≤ (pc1 : Int) + o) (hp : ((pc1 : Int) + o).toNat = pc') (hq : pc1 + 3 = pc2) (K1 : x = y → Gl p e below n0 Φ Q (T.setTop (mkF m pc' L S))) (K2 : ¬ (x = y) → Gl p e below n0 Φ Q (T.setTop (mkF m pc2 L S))) : Gl p e below n0 Φ Q (T.setTop (mkF m pc L (.long y :: .long x :: S))) := by
  obtain ⟨locs, Y, b1, b2⟩ := X; subst hp1
  refine Gl.st (V := T.setTop (mkF m (pc + 1) L (.int (lcmpW x y) :: S))) (fun t k => XS.lcmp Y.here hx rfl (hb hby hd1) rfl k) ?_
  exact g_if_eq ⟨locs, Y, b1, b2⟩ hx hby hd ho hp hq (fun q => K1 (by simpa [lw_lt, lw_gt, lw_eq] using q)) (fun q => K2 (by simpa [lw_lt, lw_gt, lw_eq] using q))
theorem g_icmp_ne (X : St p l e R s m args below meth c n0 T h cells slots) (hx : p.tables.exec = Jvm.exec) (hby : c.code = bs) {o : Int} {x y : Int32} {pc2 : Nat} (hd : decode bs pc = .ok (.if_icmp .ne o, 3)) (ho : 0 ≤ (pc : Int) + o) (hp : ((pc : Int) + o).toNat = pc') (hq : pc + 3 = pc2) (K1 : ¬ (x = y) → Gl p e below n0 Φ Q (T.setTop (mkF m pc' L S))) (K2 : x = y → Gl p e below n0 Φ Q (T.setTop (mkF m pc2 L S))) : Gl p e below n0 Φ Q (T.setTop (mkF m pc L (.int y :: .int x :: S))) :=
  g_icmp X hx hby hd ho hp hq (fun q => K1 (by simpa [if_icmp.holds] using q)) (fun q => K2 (by simpa [if_icmp.holds] using q))
theorem g_if_ne (X : St p l e R s m args below meth c n0 T h cells slots) (hx : p.tables.exec = Jvm.exec) (hby : c.code = bs) {o : Int} {x : Int32} {pc2 : Nat} (hd : decode bs pc = .ok (.ifCond .ne o, 3)) (ho : 0 ≤ (pc : Int) + o) (hp : ((pc : Int) + o).toNat = pc') (hq : pc + 3 = pc2) (K1 : ¬ (x = 0) → Gl p e below n0 Φ Q (T.setTop (mkF m pc' L S))) (K2 : x = 0 → Gl p e below n0 Φ Q (T.setTop (mkF m pc2 L S))) : Gl p e below n0 Φ Q (T.setTop (mkF m pc L (.int x :: S))) :=
  g_if X hx hby hd ho hp hq (fun q => K1 (by simpa [if_icmp.holds] using q)) (fun q => K2 (by simpa [if_icmp.holds] using q))
theorem g_lcmp_ne (X : St p l e R s m args below meth c n0 T h cells slots) (hx : p.tables.exec = Jvm.exec) (hby : c.code = bs) {o : Int} {x y : Int64} {pc1 pc2 : Nat} (hd1 : decode bs pc = .ok (.lcmp, 1)) (hp1 : pc + 1 = pc1) (hd : decode bs pc1 = .ok (.ifCond .ne o, 3)) (ho : 0 ≤ (pc1 : Int) + o) (hp : ((pc1 : Int) + o).toNat = pc') (hq : pc1 + 3 = pc2) (K1 : ¬ (x = y) → Gl p e below n0 Φ Q (T.setTop (mkF m pc' L S))) (K2 : x = y → Gl p e below n0 Φ Q (T.setTop (mkF m pc2 L S))) : Gl p e below n0 Φ Q (T.setTop (mkF m pc L (.long y :: .long x :: S))) := by
  obtain ⟨locs, Y, b1, b2⟩ := X; subst hp1
  refine Gl.st (V := T.setTop (mkF m (pc + 1) L (.int (lcmpW x y) :: S))) (fun t k => XS.lcmp Y.here hx rfl (hb hby hd1) rfl k) ?_
  exact g_if_ne ⟨locs, Y, b1, b2⟩ hx hby hd ho hp hq (fun q => K1 (by simpa [lw_lt, lw_gt, lw_eq] using q)) (fun q => K2 (by simpa [lw_lt, lw_gt, lw_eq] using q))
theorem g_icmp_lt (X : St p l e R s m args below meth c n0 T h cells slots) (hx : p.tables.exec = Jvm.exec) (hby : c.code = bs) {o : Int} {x y : Int32} {pc2 : Nat} (hd : decode bs pc = .ok (.if_icmp .lt o, 3)) (ho : 0 ≤ (pc : Int) + o) (hp : ((pc : Int) + o).toNat = pc') (hq : pc + 3 = pc2) (K1 : x < y → Gl p e below n0 Φ Q (T.setTop (mkF m pc' L S))) (K2 : ¬ (x < y) → Gl p e below n0 Φ Q (T.setTop (mkF m pc2 L S))) : Gl p e below n0 Φ Q (T.setTop (mkF m pc L (.int y :: .int x :: S))) :=
  g_icmp X hx hby hd ho hp hq (fun q => K1 (by simpa [if_icmp.holds] using q)) (fun q => K2 (by simpa [if_icmp.holds] using q))
theorem g_if_lt (X : St p l e R s m args below meth c n0 T h cells slots) (hx : p.tables.exec = Jvm.exec) (hby : c.code = bs) {o : Int} {x : Int32} {pc2 : Nat} (hd : decode bs pc = .ok (.ifCond .lt o, 3)) (ho : 0 ≤ (pc : Int) + o) (hp : ((pc : Int) + o).toNat = pc') (hq : pc + 3 = pc2) (K1 : x < 0 → Gl p e below n0 Φ Q (T.setTop (mkF m pc' L S))) (K2 : ¬ (x < 0) → Gl p e below n0 Φ Q (T.setTop (mkF m pc2 L S))) : Gl p e below n0 Φ Q (T.setTop (mkF m pc L (.int x :: S))) :=
  g_if X hx hby hd ho hp hq (fun q => K1 (by simpa [if_icmp.holds] using q)) (fun q => K2 (by simpa [if_icmp.holds] using q))
theorem g_lcmp_lt (X : St p l e R s m args below meth c n0 T h cells slots) (hx : p.tables.exec = Jvm.exec) (hby : c.code = bs) {o : Int} {x y : Int64} {pc1 pc2 : Nat} (hd1 : decode bs pc = .ok (.lcmp, 1)) (hp1 : pc + 1 = pc1) (hd : decode bs pc1 = .ok (.ifCond .lt o, 3)) (ho : 0 ≤ (pc1 : Int) + o) (hp : ((pc1 : Int) + o).toNat = pc') (hq : pc1 + 3 = pc2) (K1 : x < y → Gl p e below n0 Φ Q (T.setTop (mkF m pc' L S))) (K2 : ¬ (x < y) → Gl p e below n0 Φ Q (T.setTop (mkF m pc2 L S))) : Gl p e below n0 Φ Q (T.setTop (mkF m pc L (.long y :: .long x :: S))) := by
  obtain ⟨locs, Y, b1, b2⟩ := X; subst hp1
  refine Gl.st (V := T.setTop (mkF m (pc + 1) L (.int (lcmpW x y) :: S))) (fun t k => XS.lcmp Y.here hx rfl (hb hby hd1) rfl k) ?_
  exact g_if_lt ⟨locs, Y, b1, b2⟩ hx hby hd ho hp hq (fun q => K1 (by simpa [lw_lt, lw_gt, lw_eq] using q)) (fun q => K2 (by simpa [lw_lt, lw_gt, lw_eq] using q))
theorem g_icmp_ge (X : St p l e R s m args below meth c n0 T h cells slots) (hx : p.tables.exec = Jvm.exec) (hby : c.code = bs) {o : Int} {x y : Int32} {pc2 : Nat} (hd : decode bs pc = .ok (.if_icmp .ge o, 3)) (ho : 0 ≤ (pc : Int) + o) (hp : ((pc : Int) + o).toNat = pc') (hq : pc + 3 = pc2) (K1 : ¬ (x < y) → Gl p e below n0 Φ Q (T.setTop (mkF m pc' L S))) (K2 : x < y → Gl p e below n0 Φ Q (T.setTop (mkF m pc2 L S))) : Gl p e below n0 Φ Q (T.setTop (mkF m pc L (.int y :: .int x :: S))) :=
  g_icmp X hx hby hd ho hp hq (fun q => K1 (by simpa [if_icmp.holds] using q)) (fun q => K2 (by simpa [if_icmp.holds] using q))
theorem g_if_ge (X : St p l e R s m args below meth c n0 T h cells slots) (hx : p.tables.exec = Jvm.exec) (hby : c.code = bs) {o : Int} {x : Int32} {pc2 : Nat} (hd : decode bs pc = .ok (.ifCond .ge o, 3)) (ho : 0 ≤ (pc : Int) + o) (hp : ((pc : Int) + o).toNat = pc') (hq : pc + 3 = pc2) (K1 : ¬ (x < 0) → Gl p e below n0 Φ Q (T.setTop (mkF m pc' L S))) (K2 : x < 0 → Gl p e below n0 Φ Q (T.setTop (mkF m pc2 L S))) : Gl p e below n0 Φ Q (T.setTop (mkF m pc L (.int x :: S))) :=
  g_if X hx hby hd ho hp hq (fun q => K1 (by simpa [if_icmp.holds] using q)) (fun q => K2 (by simpa [if_icmp.holds] using q))
theorem g_lcmp_ge (X : St p l e R s m args below meth c n0 T h cells slots) (hx : p.tables.exec = Jvm.exec) (hby : c.code = bs) {o : Int} {x y : Int64} {pc1 pc2 : Nat} (hd1 : decode bs pc = .ok (.lcmp, 1)) (hp1 : pc + 1 = pc1) (hd : decode bs pc1 = .ok (.ifCond .ge o, 3)) (ho : 0 ≤ (pc1 : Int) + o) (hp : ((pc1 : Int) + o).toNat = pc') (hq : pc1 + 3 = pc2) (K1 : ¬ (x < y) → Gl p e below n0 Φ Q (T.setTop (mkF m pc' L S))) (K2 : x < y → Gl p e below n0 Φ Q (T.setTop (mkF m pc2 L S))) : Gl p e below n0 Φ Q (T.setTop (mkF m pc L (.long y :: .long x :: S))) := by
  obtain ⟨locs, Y, b1, b2⟩ := X; subst hp1
  refine Gl.st (V := T.setTop (mkF m (pc + 1) L (.int (lcmpW x y) :: S))) (fun t k => XS.lcmp Y.here hx rfl (hb hby hd1) rfl k) ?_
  exact g_if_ge ⟨locs, Y, b1, b2⟩ hx hby hd ho hp hq (fun q => K1 (by simpa [lw_lt, lw_gt, lw_eq] using q)) (fun q => K2 (by simpa [lw_lt, lw_gt, lw_eq] using q))
theorem g_icmp_gt (X : St p l e R s m args below meth c n0 T h cells slots) (hx : p.tables.exec = Jvm.exec) (hby : c.code = bs) {o : Int} {x y : Int32} {pc2 : Nat} (hd : decode bs pc = .ok (.if_icmp .gt o, 3)) (ho : 0 ≤ (pc : Int) + o) (hp : ((pc : Int) + o).toNat = pc') (hq : pc + 3 = pc2) (K1 : y < x → Gl p e below n0 Φ Q (T.setTop (mkF m pc' L S))) (K2 : ¬ (y < x) → Gl p e below n0 Φ Q (T.setTop (mkF m pc2 L S))) : Gl p e below n0 Φ Q (T.setTop (mkF m pc L (.int y :: .int x :: S))) :=
  g_icmp X hx hby hd ho hp hq (fun q => K1 (by simpa [if_icmp.holds] using q)) (fun q => K2 (by simpa [if_icmp.holds] using q))
theorem g_if_gt (X : St p l e R s m args below meth c n0 T h cells slots) (hx : p.tables.exec = Jvm.exec) (hby : c.code = bs) {o : Int} {x : Int32} {pc2 : Nat} (hd : decode bs pc = .ok (.ifCond .gt o, 3)) (ho : 0 ≤ (pc : Int) + o) (hp : ((pc : Int) + o).toNat = pc') (hq : pc + 3 = pc2) (K1 : 0 < x → Gl p e below n0 Φ Q (T.setTop (mkF m pc' L S))) (K2 : ¬ (0 < x) → Gl p e below n0 Φ Q (T.setTop (mkF m pc2 L S))) : Gl p e below n0 Φ Q (T.setTop (mkF m pc L (.int x :: S))) :=
  g_if X hx hby hd ho hp hq (fun q => K1 (by simpa [if_icmp.holds] using q)) (fun q => K2 (by simpa [if_icmp.holds] using q))
theorem g_lcmp_gt (X : St p l e R s m args below meth c n0 T h cells slots) (hx : p.tables.exec = Jvm.exec) (hby : c.code = bs) {o : Int} {x y : Int64} {pc1 pc2 : Nat} (hd1 : decode bs pc = .ok (.lcmp, 1)) (hp1 : pc + 1 = pc1) (hd : decode bs pc1 = .ok (.ifCond .gt o, 3)) (ho : 0 ≤ (pc1 : Int) + o) (hp : ((pc1 : Int) + o).toNat = pc') (hq : pc1 + 3 = pc2) (K1 : y < x → Gl p e below n0 Φ Q (T.setTop (mkF m pc' L S))) (K2 : ¬ (y < x) → Gl p e below n0 Φ Q (T.setTop (mkF m pc2 L S))) : Gl p e below n0 Φ Q (T.setTop (mkF m pc L (.long y :: .long x :: S))) := by
  obtain ⟨locs, Y, b1, b2⟩ := X; subst hp1
  refine Gl.st (V := T.setTop (mkF m (pc + 1) L (.int (lcmpW x y) :: S))) (fun t k => XS.lcmp Y.here hx rfl (hb hby hd1) rfl k) ?_
  exact g_if_gt ⟨locs, Y, b1, b2⟩ hx hby hd ho hp hq (fun q => K1 (by simpa [lw_lt, lw_gt, lw_eq] using q)) (fun q => K2 (by simpa [lw_lt, lw_gt, lw_eq] using q))
theorem g_icmp_le (X : St p l e R s m args below meth c n0 T h cells slots) (hx : p.tables.exec = Jvm.exec) (hby : c.code = bs) {o : Int} {x y : Int32} {pc2 : Nat} (hd : decode bs pc = .ok (.if_icmp .le o, 3)) (ho : 0 ≤ (pc : Int) + o) (hp : ((pc : Int) + o).toNat = pc') (hq : pc + 3 = pc2) (K1 : ¬ (y < x) → Gl p e below n0 Φ Q (T.setTop (mkF m pc' L S))) (K2 : y < x → Gl p e below n0 Φ Q (T.setTop (mkF m pc2 L S))) : Gl p e below n0 Φ Q (T.setTop (mkF m pc L (.int y :: .int x :: S))) :=
  g_icmp X hx hby hd ho hp hq (fun q => K1 (by simpa [if_icmp.holds] using q)) (fun q => K2 (by simpa [if_icmp.holds] using q))
theorem g_if_le (X : St p l e R s m args below meth c n0 T h cells slots) (hx : p.tables.exec = Jvm.exec) (hby : c.code = bs) {o : Int} {x : Int32} {pc2 : Nat} (hd : decode bs pc = .ok (.ifCond .le o, 3)) (ho : 0 ≤ (pc : Int) + o) (hp : ((pc : Int) + o).toNat = pc') (hq : pc + 3 = pc2) (K1 : ¬ (0 < x) → Gl p e below n0 Φ Q (T.setTop (mkF m pc' L S))) (K2 : 0 < x → Gl p e below n0 Φ Q (T.setTop (mkF m pc2 L S))) : Gl p e below n0 Φ Q (T.setTop (mkF m pc L (.int x :: S))) :=
  g_if X hx hby hd ho hp hq (fun q => K1 (by simpa [if_icmp.holds] using q)) (fun q => K2 (by simpa [if_icmp.holds] using q))
theorem g_lcmp_le (X : St p l e R s m args below meth c n0 T h cells slots) (hx : p.tables.exec = Jvm.exec) (hby : c.code = bs) {o : Int} {x y : Int64} {pc1 pc2 : Nat} (hd1 : decode bs pc = .ok (.lcmp, 1)) (hp1 : pc + 1 = pc1) (hd : decode bs pc1 = .ok (.ifCond .le o, 3)) (ho : 0 ≤ (pc1 : Int) + o) (hp : ((pc1 : Int) + o).toNat = pc') (hq : pc1 + 3 = pc2) (K1 : ¬ (y < x) → Gl p e below n0 Φ Q (T.setTop (mkF m pc' L S))) (K2 : y < x → Gl p e below n0 Φ Q (T.setTop (mkF m pc2 L S))) : Gl p e below n0 Φ Q (T.setTop (mkF m pc L (.long y :: .long x :: S))) := by
  obtain ⟨locs, Y, b1, b2⟩ := X; subst hp1
  refine Gl.st (V := T.setTop (mkF m (pc + 1) L (.int (lcmpW x y) :: S))) (fun t k => XS.lcmp Y.here hx rfl (hb hby hd1) rfl k) ?_
  exact g_if_le ⟨locs, Y, b1, b2⟩ hx hby hd ho hp hq (fun q => K1 (by simpa [lw_lt, lw_gt, lw_eq] using q)) (fun q => K2 (by simpa [lw_lt, lw_gt, lw_eq] using q))
theorem g_ifnull_y (X : St p l e R s m args below meth c n0 T h cells slots) (hx : p.tables.exec = Jvm.exec) (hby : c.code = bs) {o : Int} (hd : decode bs pc = .ok (.ifnull o, 3)) (ho : 0 ≤ (pc : Int) + o) (hp : ((pc : Int) + o).toNat = pc') (K : Gl p e below n0 Φ Q (T.setTop (mkF m pc' L S))) : Gl p e below n0 Φ Q (T.setTop (mkF m pc L (.null :: S))) := by
  obtain ⟨locs, Y, -, -⟩ := X; exact Gl.st (fun t k => XS.ifnullYes Y.here hx rfl (pc0 := pc) rfl (hb hby hd) rfl ho hp k) K
theorem g_ifnull_n (X : St p l e R s m args below meth c n0 T h cells slots) (hx : p.tables.exec = Jvm.exec) (hby : c.code = bs) {o : Int} {a : Addr} (hd : decode bs pc = .ok (.ifnull o, 3)) (hp : pc + 3 = pc') (K : Gl p e below n0 Φ Q (T.setTop (mkF m pc' L S))) : Gl p e below n0 Φ Q (T.setTop (mkF m pc L ((.ref a) :: S))) := by
  obtain ⟨locs, Y, -, -⟩ := X; subst hp; exact Gl.st (fun t k => XS.ifnullNo Y.here hx rfl (hb hby hd) rfl k) K
theorem g_ifnonnull_y (X : St p l e R s m args below meth c n0 T h cells slots) (hx : p.tables.exec = Jvm.exec) (hby : c.code = bs) {o : Int} {a : Addr} (hd : decode bs pc = .ok (.ifnonnull o, 3)) (ho : 0 ≤ (pc : Int) + o) (hp : ((pc : Int) + o).toNat = pc') (K : Gl p e below n0 Φ Q (T.setTop (mkF m pc' L S))) : Gl p e below n0 Φ Q (T.setTop (mkF m pc L ((.ref a) :: S))) := by
  obtain ⟨locs, Y, -, -⟩ := X; exact Gl.st (fun t k => XS.ifnonnullYes Y.here hx rfl (pc0 := pc) rfl (hb hby hd) rfl ho hp k) K
theorem g_ifnonnull_n (X : St p l e R s m args below meth c n0 T h cells slots) (hx : p.tables.exec = Jvm.exec) (hby : c.code = bs) {o : Int} (hd : decode bs pc = .ok (.ifnonnull o, 3)) (hp : pc + 3 = pc') (K : Gl p e below n0 Φ Q (T.setTop (mkF m pc' L S))) : Gl p e below n0 Φ Q (T.setTop (mkF m pc L (.null :: S))) := by
  obtain ⟨locs, Y, -, -⟩ := X; subst hp; exact Gl.st (fun t k => XS.ifnonnullNo Y.here hx rfl (hb hby hd) rfl k) K
theorem g_acmp_y (X : St p l e R s m args below meth c n0 T h cells slots) (hx : p.tables.exec = Jvm.exec) (hby : c.code = bs) {cd : ACond} {o : Int} {x y : Value} {same : Bool} (hd : decode bs pc = .ok (.if_acmp cd o, 3)) (h1 : x.isRef = true) (h2 : y.isRef = true) (hq : decide (x = y) = same) (ho : 0 ≤ (pc : Int) + o) (hp : pc' = if acV cd same = true then ((pc : Int) + o).toNat else pc + 3) (K : Gl p e below n0 Φ Q (T.setTop (mkF m pc' L S))) : Gl p e below n0 Φ Q (T.setTop (mkF m pc L (y :: x :: S))) := by
  obtain ⟨locs, Y, -, -⟩ := X; exact Gl.st (fun t k => Jvm.RoadKit.acmp Y hx rfl h1 h2 (pc0 := pc) rfl (hb hby hd) rfl hq ho hp k) K
theorem g_retN (X : St p l e R s m args below meth c n0 T h cells slots) (hx : p.tables.exec = Jvm.exec) (hby : c.code = bs) {t : FieldType} {z : Int32} (hret : meth.sig.returnType = some t) (hlk : meth.locks = false) (ht : t = .boolean ∨ t = .byte ∨ t = .char ∨ t = .short) (hd : decode bs pc = .ok (.ireturn, 1)) (hq : Q (some (.int (nar t z))) h) (hc : cells ≤ cs) (hs : slots ≤ sl) : Gl p e below n0 (Fn s cs sl) Q (T.setTop (mkF m pc L (.int z :: S))) := by
  obtain ⟨locs, Y, eT, N⟩ := X
  obtain ⟨fs, hr, hrun, hended, hW, hsame⟩ := Y.leave (v := some (.int (nar t z))) (fun q => by rw [hret] at q; cases q) hlk
  exact ⟨_, _, retN Y hx hret ht (hb hby hd) hr, hrun, hended, _, locs, rfl, ⟨(show Q _ T.heap by rw [eT]; exact hq), N⟩, ⟨_, rfl⟩, hW, hsame.mono hc hs⟩
theorem g_retV (X : St p l e R s m args below meth c n0 T h cells slots) (hx : p.tables.exec = Jvm.exec) (hby : c.code = bs) {t : FieldType} {w : Value} {i : Instr} (hret : meth.sig.returnType = some t) (hlk : meth.locks = false) (hn : narrow t w = w) (hi : (i = .ireturn ∧ (t = .int ∨ t = .boolean ∨ t = .byte ∨ t = .char ∨ t = .short) ∧ ∃ z, w = .int z) ∨ (i = .lreturn ∧ t = .long ∧ ∃ z, w = .long z) ∨ (i = .dreturn ∧ t = .double ∧ ∃ z, w = .double z) ∨ (i = .freturn ∧ t = .float ∧ ∃ z, w = .float z) ∨ (i = .areturn ∧ t.isReference = true ∧ w.isRef = true)) (hd : decode bs pc = .ok (i, 1)) (hq : Q (some w) h) (hc : cells ≤ cs) (hs : slots ≤ sl) : Gl p e below n0 (Fn s cs sl) Q (T.setTop (mkF m pc L (w :: S))) := by
  obtain ⟨locs, Y, eT, N⟩ := X
  obtain ⟨fs, hr, hrun, hended, hW, hsame⟩ := Y.leave (v := some w) (fun q => by rw [hret] at q; cases q) hlk
  exact ⟨_, _, retOut Y hx hret hn hi (hb hby hd) hr, hrun, hended, _, locs, rfl, ⟨(show Q _ T.heap by rw [eT]; exact hq), N⟩, ⟨_, rfl⟩, hW, hsame.mono hc hs⟩
theorem g_retI (X : St p l e R s m args below meth c n0 T h cells slots) (hx : p.tables.exec = Jvm.exec) (hby : c.code = bs) {z : Int32} (hret : meth.sig.returnType = some .int) (hlk : meth.locks = false) (hd : decode bs pc = .ok (.ireturn, 1)) (hq : Q (some (.int z)) h) (hc : cells ≤ cs) (hs : slots ≤ sl) : Gl p e below n0 (Fn s cs sl) Q (T.setTop (mkF m pc L (.int z :: S))) := g_retV X hx hby hret hlk rfl (Or.inl ⟨rfl, Or.inl rfl, z, rfl⟩) hd hq hc hs
theorem g_retL (X : St p l e R s m args below meth c n0 T h cells slots) (hx : p.tables.exec = Jvm.exec) (hby : c.code = bs) {z : Int64} (hret : meth.sig.returnType = some .long) (hlk : meth.locks = false) (hd : decode bs pc = .ok (.lreturn, 1)) (hq : Q (some (.long z)) h) (hc : cells ≤ cs) (hs : slots ≤ sl) : Gl p e below n0 (Fn s cs sl) Q (T.setTop (mkF m pc L (.long z :: S))) := g_retV X hx hby hret hlk rfl (Or.inr (Or.inl ⟨rfl, rfl, z, rfl⟩)) hd hq hc hs
theorem g_retD (X : St p l e R s m args below meth c n0 T h cells slots) (hx : p.tables.exec = Jvm.exec) (hby : c.code = bs) {z : UInt64} (hret : meth.sig.returnType = some .double) (hlk : meth.locks = false) (hd : decode bs pc = .ok (.dreturn, 1)) (hq : Q (some (.double z)) h) (hc : cells ≤ cs) (hs : slots ≤ sl) : Gl p e below n0 (Fn s cs sl) Q (T.setTop (mkF m pc L (.double z :: S))) := g_retV X hx hby hret hlk rfl (Or.inr (Or.inr (Or.inl ⟨rfl, rfl, z, rfl⟩))) hd hq hc hs
theorem g_retA (X : St p l e R s m args below meth c n0 T h cells slots) (hx : p.tables.exec = Jvm.exec) (hby : c.code = bs) {t : FieldType} {w : Value} (hret : meth.sig.returnType = some t) (hlk : meth.locks = false) (ht : t.isReference = true) (hw : w.isRef = true) (hd : decode bs pc = .ok (.areturn, 1)) (hq : Q (some w) h) (hc : cells ≤ cs) (hs : slots ≤ sl) : Gl p e below n0 (Fn s cs sl) Q (T.setTop (mkF m pc L (w :: S))) := g_retV X hx hby hret hlk (by rcases ref_cases hw with rfl | ⟨a, rfl⟩ <;> cases t <;> first | rfl | (cases ht; done)) (Or.inr (Or.inr (Or.inr (Or.inr ⟨rfl, ht, hw⟩)))) hd hq hc hs
theorem g_ret (X : St p l e R s m args below meth c n0 T h cells slots) (hx : p.tables.exec = Jvm.exec) (hby : c.code = bs) (hret : meth.sig.returnType = none) (hlk : meth.locks = false) (hd : decode bs pc = .ok (.return_, 1)) (hq : Q none h) (hc : cells ≤ cs) (hs : slots ≤ sl) : Gl p e below n0 (Fn s cs sl) Q (T.setTop (mkF m pc L [])) := by
  obtain ⟨locs, Y, eT, N⟩ := X
  obtain ⟨fs, hr, hrun, hended, hW, hsame⟩ := Y.leave (v := none) (fun _ => rfl) hlk
  exact ⟨_, _, Y.returnOut hx hret (hb hby hd) hr, hrun, hended, _, locs, rfl, ⟨(show Q _ T.heap by rw [eT]; exact hq), N⟩, ⟨_, rfl⟩, hW, hsame.mono hc hs⟩
theorem gw_retN {vm0 : Vm} {k0 : Nat} (X : St p l e R (s.setVm vm0) m args below meth c n0 T h cells slots) (hx : p.tables.exec = Jvm.exec) (hby : c.code = bs) (hS : s.Since vm0 k0) (hk : k0 ≤ h.size) {t : FieldType} {z : Int32} (hret : meth.sig.returnType = some t) (hlk : meth.locks = false) (ht : t = .boolean ∨ t = .byte ∨ t = .char ∨ t = .short) (hd : decode bs pc = .ok (.ireturn, 1)) (hq : Q (some (.int (nar t z))) h) (hc : cells ≤ cs) (hs : slots ≤ sl) : Gl p e below n0 (Fw s cs sl) Q (T.setTop (mkF m pc L (.int z :: S))) := by
  obtain ⟨locs, Y, eT, N⟩ := X
  obtain ⟨fs, hr, hrun, hended, r1, r2, r3, r4⟩ := Y.leaveW hS (by rw [eT]; exact hk) (v := some (.int (nar t z))) (fun q => by rw [hret] at q; cases q) hlk
  exact ⟨_, _, retN Y hx hret ht (hb hby hd) hr, hrun, hended, _, locs, rfl, ⟨(show Q _ T.heap by rw [eT]; exact hq), N⟩, r1, r2, r3, r4.mono hc hs⟩
theorem g_ldcS {vm0 : Vm} {k0 : Nat} (X : St p l e R (s.setVm vm0) m args below meth c n0 T h cells slots) (hx : p.tables.exec = Jvm.exec) (hby : c.code = bs) (hZ : Z.Warmed39 (s.setVm vm0).vm) {own text : String} {index n : Nat} (hown : (s.setVm vm0).vm.findClass own = some m.cls) (w : (Cond.stringLink own index text).before a0 Z = true) (wS : ∀ a ∈ Bundle.stringAtoms, a.before a0 Z = true) (hS : s.Since vm0 k0) (hk : k0 ≤ h.size) (hd : decode bs pc = .ok (.ldc index, 2)) (hn : 4 * text.toList.length ≤ n) (hbig : n ≤ 536870912) (hc : cells + 2 ≤ R.cells) (hl : slots + (n + 4) ≤ R.slots) (hp : pc + 2 = pc') (K : ∀ (a : Addr) T' h' k1, St p l e R (s.setVm T'.vm) m args below meth c n0 T' h' (cells + 2) (slots + (n + 4)) → Ext h h' → s.Since T'.vm k1 → k1 ≤ h'.size → Z.Warmed39 (s.setVm T'.vm).vm → (s.setVm T'.vm).vm.findClass own = some m.cls → Gl p e below n0 Φ Q (T'.setTop (mkF m pc' L (.ref a :: S)))) : Gl p e below n0 Φ Q (T.setTop (mkF m pc L S)) := by
  obtain ⟨locs, Y, eT, N⟩ := X; subst hp
  obtain ⟨a, T', h', k1, Y', e', E, S1, hk1, hZ1, hown1, st⟩ := ldcS Y hx hZ hown w wS eT hS hk (g := mkF m pc L S) rfl (hb hby hd) hn hbig hc hl
  exact Gl.st st (K a T' h' k1 ⟨locs, Y', e', N⟩ E S1 hk1 hZ1 hown1)
theorem g_getF (X : St p l e R s m args below meth c n0 T h cells slots) (hx : p.tables.exec = Jvm.exec) (hby : c.code = bs) (hZ : Z.Warmed39 s.vm) {own R0 O n d : String} {index : Nat} (hown : s.vm.findClass own = some m.cls) (w : (Cond.fieldLink own index R0 n d).before a0 Z = true) (via : Via Z R0 O n d) {a : Addr} {v : Value} (F : Fld Z h a O n d v) (hd : decode bs pc = .ok (.getfield index, 3)) (hp : pc + 3 = pc') (K : ∀ T', St p l e R s m args below meth c n0 T' h cells slots → Gl p e below n0 Φ Q (T'.setTop (mkF m pc' L (v :: S)))) : Gl p e below n0 Φ Q (T.setTop (mkF m pc L (.ref a :: S))) := by
  obtain ⟨locs, Y, eT, N⟩ := X; subst hp
  obtain ⟨T', Y', e', st⟩ := getF Y hx hZ hown (host := "") (Or.inl w) via eT F (g := mkF m pc L (.ref a :: S)) rfl rfl (hb hby hd)
  exact Gl.st st (K T' ⟨locs, Y', e', N⟩)
theorem g_putF (X : St p l e R s m args below meth c n0 T h cells slots) (hx : p.tables.exec = Jvm.exec) (hby : c.code = bs) (hZ : Z.Warmed39 s.vm) {own R0 O n d C : String} {index kk : Nat} {ty : FieldType} (hown : s.vm.findClass own = some m.cls) (w : (Cond.fieldLink own index R0 n d).before a0 Z = true) (via : Via Z R0 O n d) {a : Addr} {v old : Value} (F : Fld Z h a O n d old) (E : Exa Z h a C) (lay : (Cond.lays C O n d).before a0 Z = true ∨ ((Cond.laysFinal C O n d).before a0 Z = true ∧ own = O ∧ meth.name = "<init>")) (wi : (Cond.instantiable C kk).before a0 Z = true) (hty : parseFieldDescriptor d = some ty) (hn : narrow ty v = v) (hf : fits ty v = true) (hn0 : n0 ≤ a) (hd : decode bs pc = .ok (.putfield index, 3)) (hp : pc + 3 = pc') (K : ∀ T' h', St p l e R s m args below meth c n0 T' h' cells slots → Wr h h' a (Jvm.RoadKit.slotOf Z O n d) v → Gl p e below n0 Φ Q (T'.setTop (mkF m pc' L S))) : Gl p e below n0 Φ Q (T.setTop (mkF m pc L (v :: .ref a :: S))) := by
  obtain ⟨locs, Y, eT, N⟩ := X; subst hp
  obtain ⟨T', h', Y', e', W, st⟩ := putF Y hx hZ hown (host := "") (Or.inl w) via eT F E lay wi hty hn hf (g := mkF m pc L (v :: .ref a :: S)) rfl rfl (hb hby hd)
  exact Gl.st st (K T' h' ⟨_, Y', e', Fr.snoc Y' N hn0⟩ W)
theorem g_putFN (X : St p l e R s m args below meth c n0 T h cells slots) (hx : p.tables.exec = Jvm.exec) (hby : c.code = bs) (hZ : Z.Warmed39 s.vm) {own R0 O n d C : String} {index kk : Nat} {ty : FieldType} (hown : s.vm.findClass own = some m.cls) (w : (Cond.fieldLink own index R0 n d).before a0 Z = true) (via : Via Z R0 O n d) {a : Addr} {v v' old : Value} (F : Fld Z h a O n d old) (E : Exa Z h a C) (lay : (Cond.lays C O n d).before a0 Z = true ∨ ((Cond.laysFinal C O n d).before a0 Z = true ∧ own = O ∧ meth.name = "<init>")) (wi : (Cond.instantiable C kk).before a0 Z = true) (hty : parseFieldDescriptor d = some ty) (hn : narrow ty v = v') (hf : fits ty v' = true) (hn0 : n0 ≤ a) (hd : decode bs pc = .ok (.putfield index, 3)) (hp : pc + 3 = pc') (K : ∀ T' h', St p l e R s m args below meth c n0 T' h' cells slots → Wr h h' a (Jvm.RoadKit.slotOf Z O n d) v' → Gl p e below n0 Φ Q (T'.setTop (mkF m pc' L S))) : Gl p e below n0 Φ Q (T.setTop (mkF m pc L (v :: .ref a :: S))) := by
  obtain ⟨locs, Y, eT, N⟩ := X; subst hp
  obtain ⟨T', h', Y', e', W, st⟩ := putFN Y hx hZ hown w via eT F E lay wi hty hn hf (g := mkF m pc L (v :: .ref a :: S)) rfl rfl (hb hby hd)
  exact Gl.st st (K T' h' ⟨_, Y', e', Fr.snoc Y' N hn0⟩ W)
theorem g_getS (X : St p l e R s m args below meth c n0 T h cells slots) (hx : p.tables.exec = Jvm.exec) (hby : c.code = bs) (hZ : Z.Warmed39 s.vm) {own R0 O n d : String} {index : Nat} (hown : s.vm.findClass own = some m.cls) (w : (Cond.fieldLink own index R0 n d).before a0 Z = true) (via : Via Z R0 O n d) {v : Value} (F : Sta Z h O n d v) (hd : decode bs pc = .ok (.getstatic index, 3)) (hp : pc + 3 = pc') (K : ∀ T', St p l e R s m args below meth c n0 T' h cells slots → Gl p e below n0 Φ Q (T'.setTop (mkF m pc' L (v :: S)))) : Gl p e below n0 Φ Q (T.setTop (mkF m pc L S)) := by
  obtain ⟨locs, Y, eT, N⟩ := X; subst hp
  obtain ⟨T', Y', e', st⟩ := getS Y hx hZ hown (host := "") w via eT F (g := mkF m pc L S) rfl (hb hby hd)
  exact Gl.st st (K T' ⟨locs, Y', e', N⟩)
theorem g_new (X : St p l e R s m args below meth c n0 T h cells slots) (hx : p.tables.exec = Jvm.exec) (hby : c.code = bs) (hZ : Z.Warmed39 s.vm) {own C : String} {index n : Nat} (hown : s.vm.findClass own = some m.cls) (w : (Cond.classLink own index C).before a0 Z = true) (wi : (Cond.instantiable C n).before a0 Z = true) (wz : (Cond.initialized C).before a0 Z = true) (hd : decode bs pc = .ok (.new index, 3)) (hc : cells + 1 ≤ R.cells) (hs : slots + n ≤ R.slots) (hp : pc + 3 = pc') (K : ∀ T' h' (b : Addr), b = h.size → St p l e R s m args below meth c n0 T' h' (cells + 1) (slots + n) → Ext h h' → Exa Z h' b C → (∀ {O nm d : String} {ty : FieldType}, Laid Z a0 C O nm d → parseFieldDescriptor d = some ty → Fld Z h' b O nm d (defaultValue ty)) → Gl p e below n0 Φ Q (T'.setTop (mkF m pc' L (.ref b :: S)))) : Gl p e below n0 Φ Q (T.setTop (mkF m pc L S)) := by
  obtain ⟨locs, Y, eT, N⟩ := X; subst hp
  obtain ⟨T', h', Y', e', E, A, D, -, st⟩ := newO Y hx hZ hown w wi wz eT (g := mkF m pc L S) rfl (hb hby hd) hc hs
  exact Gl.st st (K T' h' _ rfl ⟨locs, Y', e', N⟩ E A D)
theorem g_newarray (X : St p l e R s m args below meth c n0 T h cells slots) (hx : p.tables.exec = Jvm.exec) (hby : c.code = bs) (hZ : Z.Warmed39 s.vm) {aty : ArrayType} (w : (Cond.arrayClass (newarray.typeOf aty)).before a0 Z = true) {n : Int32} {k cap : Nat} (hd : decode bs pc = .ok (.newarray aty, 2)) (hn : n.toInt = (k : Int)) (hcap : k ≤ cap) (hb8 : cap * 8 ≤ 536870912) (hc : cells + 1 ≤ R.cells) (hs : slots + cap ≤ R.slots) (hp : pc + 2 = pc') (K : ∀ T' h' (b : Addr), b = h.size → St p l e R s m args below meth c n0 T' h' (cells + 1) (slots + cap) → Ext h h' → Ary Z h' b (newarray.typeOf aty) k (fun _ => defaultValue (newarray.typeOf aty)) → Gl p e below n0 Φ Q (T'.setTop (mkF m pc' L (.ref b :: S)))) : Gl p e below n0 Φ Q (T.setTop (mkF m pc L (.int n :: S))) := by
  obtain ⟨locs, Y, eT, N⟩ := X; subst hp
  have e1 : n.toNatClampNeg = k := by simp only [Int32.toNatClampNeg]; omega
  obtain ⟨T', h', cA, Y', e', E, A, st⟩ := newP Y hx hZ w eT (g := mkF m pc L (.int n :: S)) rfl (hb hby hd) rfl (by rw [Int32.lt_iff_toInt_lt]; have : (0 : Int32).toInt = 0 := rfl; omega) (cap := cap) (by omega) hb8 hc hs
  exact Gl.st st (K T' h' _ rfl ⟨locs, Y', e', N⟩ E ⟨_, A, by rw [sz_new]; exact e1, fun i hi => by simp [newA, e1, hi]⟩)
theorem g_anewarray (X : St p l e R s m args below meth c n0 T h cells slots) (hx : p.tables.exec = Jvm.exec) (hby : c.code = bs) (hZ : Z.Warmed39 s.vm) {own C : String} {index : Nat} (hown : s.vm.findClass own = some m.cls) (w1 : (Cond.classLink own index C).before a0 Z = true) (w2 : (Cond.arrayOver (.object C)).before a0 Z = true) {n : Int32} {k cap : Nat} (hd : decode bs pc = .ok (.anewarray index, 3)) (hn : n.toInt = (k : Int)) (hcap : k ≤ cap) (hb8 : cap * 8 ≤ 536870912) (hc : cells + 1 ≤ R.cells) (hs : slots + cap ≤ R.slots) (hp : pc + 3 = pc') (K : ∀ T' h' (b : Addr), b = h.size → St p l e R s m args below meth c n0 T' h' (cells + 1) (slots + cap) → Ext h h' → Ary Z h' b (.object C) k (fun _ => .null) → Ov Z h' b C → Gl p e below n0 Φ Q (T'.setTop (mkF m pc' L (.ref b :: S)))) : Gl p e below n0 Φ Q (T.setTop (mkF m pc L (.int n :: S))) := by
  obtain ⟨locs, Y, eT, N⟩ := X; subst hp
  have e1 : n.toNatClampNeg = k := by simp only [Int32.toNatClampNeg]; omega
  obtain ⟨T', h', cA, Y', e', E, A, O, st⟩ := newR Y hx hZ hown w1 w2 eT (g := mkF m pc L (.int n :: S)) rfl (hb hby hd) rfl (by rw [Int32.lt_iff_toInt_lt]; have : (0 : Int32).toInt = 0 := rfl; omega) (cap := cap) (by omega) hb8 hc hs
  exact Gl.st st (K T' h' _ rfl ⟨locs, Y', e', N⟩ E ⟨_, A, by rw [sz_new]; exact e1, fun i hi => by simp [newA, e1, hi, defaultValue]⟩ ⟨_, A.1, O⟩)
theorem g_arraylength (X : St p l e R s m args below meth c n0 T h cells slots) (hx : p.tables.exec = Jvm.exec) (hby : c.code = bs) (hZ : Z.Warmed39 s.vm) {a : Addr} {ty : FieldType} {k : Nat} {f : Nat → Value} {n : Int32} (A : Ary Z h a ty k f) (hn : n.toInt = (k : Int)) (hd : decode bs pc = .ok (.arraylength, 1)) (hp : pc + 1 = pc') (K : Gl p e below n0 Φ Q (T.setTop (mkF m pc' L (.int n :: S)))) : Gl p e below n0 Φ Q (T.setTop (mkF m pc L (.ref a :: S))) := by
  obtain ⟨locs, Y, eT, -⟩ := X; subst hp
  obtain ⟨cl, Ar, sz, -⟩ := A
  have e1 : cl.slots.size.toInt32 = n := by
    have q := rng32 n
    rw [← Int32.toInt_inj, len_toInt (by omega), sz, hn]
  refine Gl.st (fun t k => Y.arraylength hx (by rw [eT]; exact Ar.1) (State.isArrayOf_alike hZ.alike Ar.2.1) (g := mkF m pc L (.ref a :: S)) rfl rfl (hb hby hd) t k) ?_
  rw [e1]; exact K
theorem g_iaload (X : St p l e R s m args below meth c n0 T h cells slots) (hx : p.tables.exec = Jvm.exec) (hby : c.code = bs) (hZ : Z.Warmed39 s.vm) {a : Addr} {k i : Nat} {f : Nat → Value} {j : Int32} {v : Value} (A : Ary Z h a .int k f) (hj : j.toInt = (i : Int)) (hi : i < k) (hv : f i = v) (hd : decode bs pc = .ok (.iaload, 1)) (hp : pc + 1 = pc') (K : Gl p e below n0 Φ Q (T.setTop (mkF m pc' L (v :: S)))) : Gl p e below n0 Φ Q (T.setTop (mkF m pc L (.int j :: .ref a :: S))) := by
  obtain ⟨locs, Y, eT, -⟩ := X; subst hp hv
  obtain ⟨cl, Ar, sz, H⟩ := A
  obtain ⟨q1, q2⟩ := own_in (k := k) hj hi
  exact Gl.st (fun t k => Y.iaload hx (by rw [eT]; exact Ar.1) (State.isArrayOf_alike hZ.alike Ar.2.1) Ar.2.2 (by rw [sz]; exact q1) (by rw [q2]; exact H i hi) (g := mkF m pc L (.int j :: .ref a :: S)) rfl rfl (hb hby hd) t k) K
theorem g_laload (X : St p l e R s m args below meth c n0 T h cells slots) (hx : p.tables.exec = Jvm.exec) (hby : c.code = bs) (hZ : Z.Warmed39 s.vm) {a : Addr} {k i : Nat} {f : Nat → Value} {j : Int32} {v : Value} (A : Ary Z h a .long k f) (hj : j.toInt = (i : Int)) (hi : i < k) (hv : f i = v) (hd : decode bs pc = .ok (.laload, 1)) (hp : pc + 1 = pc') (K : Gl p e below n0 Φ Q (T.setTop (mkF m pc' L (v :: S)))) : Gl p e below n0 Φ Q (T.setTop (mkF m pc L (.int j :: .ref a :: S))) := by
  obtain ⟨locs, Y, eT, -⟩ := X; subst hp hv
  obtain ⟨cl, Ar, sz, H⟩ := A
  obtain ⟨q1, q2⟩ := own_in (k := k) hj hi
  exact Gl.st (fun t k => Y.laload hx (by rw [eT]; exact Ar.1) (State.isArrayOf_alike hZ.alike Ar.2.1) Ar.2.2 (by rw [sz]; exact q1) (by rw [q2]; exact H i hi) (g := mkF m pc L (.int j :: .ref a :: S)) rfl rfl (hb hby hd) t k) K
theorem g_caload (X : St p l e R s m args below meth c n0 T h cells slots) (hx : p.tables.exec = Jvm.exec) (hby : c.code = bs) (hZ : Z.Warmed39 s.vm) {a : Addr} {k i : Nat} {f : Nat → Value} {j : Int32} {v : Value} (A : Ary Z h a .char k f) (hj : j.toInt = (i : Int)) (hi : i < k) (hv : f i = v) (hd : decode bs pc = .ok (.caload, 1)) (hp : pc + 1 = pc') (K : Gl p e below n0 Φ Q (T.setTop (mkF m pc' L (v :: S)))) : Gl p e below n0 Φ Q (T.setTop (mkF m pc L (.int j :: .ref a :: S))) := by
  obtain ⟨locs, Y, eT, -⟩ := X; subst hp hv
  obtain ⟨cl, Ar, sz, H⟩ := A
  obtain ⟨q1, q2⟩ := own_in (k := k) hj hi
  exact Gl.st (fun t k => Y.caload hx (by rw [eT]; exact Ar.1) (State.isArrayOf_alike hZ.alike Ar.2.1) Ar.2.2 (by rw [sz]; exact q1) (by rw [q2]; exact H i hi) (g := mkF m pc L (.int j :: .ref a :: S)) rfl rfl (hb hby hd) t k) K
theorem g_baload (X : St p l e R s m args below meth c n0 T h cells slots) (hx : p.tables.exec = Jvm.exec) (hby : c.code = bs) (hZ : Z.Warmed39 s.vm) {a : Addr} {k i : Nat} {f : Nat → Value} {j : Int32} {v : Value} (A : Ary Z h a .byte k f) (hj : j.toInt = (i : Int)) (hi : i < k) (hv : f i = v) (hd : decode bs pc = .ok (.baload, 1)) (hp : pc + 1 = pc') (K : Gl p e below n0 Φ Q (T.setTop (mkF m pc' L (v :: S)))) : Gl p e below n0 Φ Q (T.setTop (mkF m pc L (.int j :: .ref a :: S))) := by
  obtain ⟨locs, Y, eT, -⟩ := X; subst hp hv
  obtain ⟨cl, Ar, sz, H⟩ := A
  obtain ⟨q1, q2⟩ := own_in (k := k) hj hi
  exact Gl.st (fun t k => Y.baloadBytes hx (by rw [eT]; exact Ar.1) (State.isArrayOf_alike hZ.alike Ar.2.1) Ar.2.2 (by rw [sz]; exact q1) (by rw [q2]; exact H i hi) (g := mkF m pc L (.int j :: .ref a :: S)) rfl rfl (hb hby hd) t k) K
theorem g_zaload (X : St p l e R s m args below meth c n0 T h cells slots) (hx : p.tables.exec = Jvm.exec) (hby : c.code = bs) (hZ : Z.Warmed39 s.vm) {a : Addr} {k i : Nat} {f : Nat → Value} {j : Int32} {v : Value} (A : Ary Z h a .boolean k f) (hj : j.toInt = (i : Int)) (hi : i < k) (hv : f i = v) (hd : decode bs pc = .ok (.baload, 1)) (hp : pc + 1 = pc') (K : Gl p e below n0 Φ Q (T.setTop (mkF m pc' L (v :: S)))) : Gl p e below n0 Φ Q (T.setTop (mkF m pc L (.int j :: .ref a :: S))) := by
  obtain ⟨locs, Y, eT, -⟩ := X; subst hp hv
  obtain ⟨cl, Ar, sz, H⟩ := A
  obtain ⟨q1, q2⟩ := own_in (k := k) hj hi
  exact Gl.st (fun t k => Y.baloadBooleans hx (by rw [eT]; exact Ar.1) (State.isArrayOf_alike hZ.alike Ar.2.1) Ar.2.2 (by rw [sz]; exact q1) (by rw [q2]; exact H i hi) (g := mkF m pc L (.int j :: .ref a :: S)) rfl rfl (hb hby hd) t k) K
theorem g_aaload (X : St p l e R s m args below meth c n0 T h cells slots) (hx : p.tables.exec = Jvm.exec) (hby : c.code = bs) (hZ : Z.Warmed39 s.vm) {a : Addr} {k i : Nat} {f : Nat → Value} {j : Int32} {v : Value} {ty : FieldType} (A : Ary Z h a ty k f) (hty : ty.isReference = true) (hj : j.toInt = (i : Int)) (hi : i < k) (hv : f i = v) (hd : decode bs pc = .ok (.aaload, 1)) (hp : pc + 1 = pc') (K : Gl p e below n0 Φ Q (T.setTop (mkF m pc' L (v :: S)))) : Gl p e below n0 Φ Q (T.setTop (mkF m pc L (.int j :: .ref a :: S))) := by
  obtain ⟨locs, Y, eT, -⟩ := X; subst hp hv
  obtain ⟨cl, Ar, sz, H⟩ := A
  obtain ⟨q1, q2⟩ := own_in (k := k) hj hi
  exact Gl.st (fun t k => Y.aaload hx (by rw [eT]; exact Ar.1) (State.isArrayOf_alike hZ.alike Ar.2.1) hty Ar.2.2 (by rw [sz]; exact q1) (by rw [q2]; exact H i hi) (g := mkF m pc L (.int j :: .ref a :: S)) rfl rfl (hb hby hd) t k) K
theorem g_iastore (X : St p l e R s m args below meth c n0 T h cells slots) (hx : p.tables.exec = Jvm.exec) (hby : c.code = bs) (hZ : Z.Warmed39 s.vm) {a : Addr} {k i : Nat} {f : Nat → Value} {j : Int32} {x : Int32} (A : Ary Z h a .int k f) (hj : j.toInt = (i : Int)) (hi : i < k) (hn0 : n0 ≤ a) (hd : decode bs pc = .ok (.iastore, 1)) (hp : pc + 1 = pc') (K : ∀ T' h' sl0, St p l e R s m args below meth c n0 T' h' cells slots → Wr h h' a sl0 (.int x) → Ary Z h' a .int k (own_upd f i (.int x)) → Gl p e below n0 Φ Q (T'.setTop (mkF m pc' L S))) : Gl p e below n0 Φ Q (T.setTop (mkF m pc L (.int x :: .int j :: .ref a :: S))) := by
  obtain ⟨locs, Y, eT, N⟩ := X; subst hp
  obtain ⟨cl, Ar, sz, H⟩ := A
  obtain ⟨q1, q2⟩ := own_in (k := k) hj hi
  obtain ⟨T', h', Y', e', W, st⟩ := stI Y hx hZ eT Ar (j := j) (by rw [sz]; exact q1) (g := mkF m pc L (.int x :: .int j :: .ref a :: S)) rfl rfl (hb hby hd)
  exact Gl.st st (K T' h' _ ⟨_, Y', e', Fr.snoc Y' N hn0⟩ W (Ary.same Ar sz H (q2 ▸ W)))
theorem g_lastore (X : St p l e R s m args below meth c n0 T h cells slots) (hx : p.tables.exec = Jvm.exec) (hby : c.code = bs) (hZ : Z.Warmed39 s.vm) {a : Addr} {k i : Nat} {f : Nat → Value} {j : Int32} {x : Int64} (A : Ary Z h a .long k f) (hj : j.toInt = (i : Int)) (hi : i < k) (hn0 : n0 ≤ a) (hd : decode bs pc = .ok (.lastore, 1)) (hp : pc + 1 = pc') (K : ∀ T' h' sl0, St p l e R s m args below meth c n0 T' h' cells slots → Wr h h' a sl0 (.long x) → Ary Z h' a .long k (own_upd f i (.long x)) → Gl p e below n0 Φ Q (T'.setTop (mkF m pc' L S))) : Gl p e below n0 Φ Q (T.setTop (mkF m pc L (.long x :: .int j :: .ref a :: S))) := by
  obtain ⟨locs, Y, eT, N⟩ := X; subst hp
  obtain ⟨cl, Ar, sz, H⟩ := A
  obtain ⟨q1, q2⟩ := own_in (k := k) hj hi
  obtain ⟨T', h', Y', e', W, st⟩ := stJ Y hx hZ eT Ar (j := j) (by rw [sz]; exact q1) (g := mkF m pc L (.long x :: .int j :: .ref a :: S)) rfl rfl (hb hby hd)
  exact Gl.st st (K T' h' _ ⟨_, Y', e', Fr.snoc Y' N hn0⟩ W (Ary.same Ar sz H (q2 ▸ W)))
theorem g_bastore (X : St p l e R s m args below meth c n0 T h cells slots) (hx : p.tables.exec = Jvm.exec) (hby : c.code = bs) (hZ : Z.Warmed39 s.vm) {a : Addr} {k i : Nat} {f : Nat → Value} {j : Int32} {x : Int32} (A : Ary Z h a .byte k f) (hj : j.toInt = (i : Int)) (hi : i < k) (hn0 : n0 ≤ a) (hd : decode bs pc = .ok (.bastore, 1)) (hp : pc + 1 = pc') (K : ∀ T' h' sl0, St p l e R s m args below meth c n0 T' h' cells slots → Wr h h' a sl0 (.int (nar .byte x)) → Ary Z h' a .byte k (own_upd f i (.int (nar .byte x))) → Gl p e below n0 Φ Q (T'.setTop (mkF m pc' L S))) : Gl p e below n0 Φ Q (T.setTop (mkF m pc L (.int x :: .int j :: .ref a :: S))) := by
  obtain ⟨locs, Y, eT, N⟩ := X; subst hp
  obtain ⟨cl, Ar, sz, H⟩ := A
  obtain ⟨q1, q2⟩ := own_in (k := k) hj hi
  obtain ⟨T', h', Y', e', W, st⟩ := stB Y hx hZ eT Ar (j := j) (by rw [sz]; exact q1) (g := mkF m pc L (.int x :: .int j :: .ref a :: S)) rfl rfl (hb hby hd)
  exact Gl.st st (K T' h' _ ⟨_, Y', e', Fr.snoc Y' N hn0⟩ W (Ary.same Ar sz H (q2 ▸ W)))
theorem g_zastore (X : St p l e R s m args below meth c n0 T h cells slots) (hx : p.tables.exec = Jvm.exec) (hby : c.code = bs) (hZ : Z.Warmed39 s.vm) {a : Addr} {k i : Nat} {f : Nat → Value} {j : Int32} {x : Int32} (A : Ary Z h a .boolean k f) (hj : j.toInt = (i : Int)) (hi : i < k) (hn0 : n0 ≤ a) (hd : decode bs pc = .ok (.bastore, 1)) (hp : pc + 1 = pc') (K : ∀ T' h' sl0, St p l e R s m args below meth c n0 T' h' cells slots → Wr h h' a sl0 (.int (nar .boolean x)) → Ary Z h' a .boolean k (own_upd f i (.int (nar .boolean x))) → Gl p e below n0 Φ Q (T'.setTop (mkF m pc' L S))) : Gl p e below n0 Φ Q (T.setTop (mkF m pc L (.int x :: .int j :: .ref a :: S))) := by
  obtain ⟨locs, Y, eT, N⟩ := X; subst hp
  obtain ⟨cl, Ar, sz, H⟩ := A
  obtain ⟨q1, q2⟩ := own_in (k := k) hj hi
  obtain ⟨T', h', Y', e', W, st⟩ := stZ Y hx hZ eT Ar (j := j) (by rw [sz]; exact q1) (g := mkF m pc L (.int x :: .int j :: .ref a :: S)) rfl rfl (hb hby hd)
  exact Gl.st st (K T' h' _ ⟨_, Y', e', Fr.snoc Y' N hn0⟩ W (Ary.same Ar sz H (q2 ▸ W)))
theorem g_castore (X : St p l e R s m args below meth c n0 T h cells slots) (hx : p.tables.exec = Jvm.exec) (hby : c.code = bs) (hZ : Z.Warmed39 s.vm) {a : Addr} {k i : Nat} {f : Nat → Value} {j : Int32} {x : Int32} (A : Ary Z h a .char k f) (hj : j.toInt = (i : Int)) (hi : i < k) (hn0 : n0 ≤ a) (hd : decode bs pc = .ok (.castore, 1)) (hp : pc + 1 = pc') (K : ∀ T' h' sl0, St p l e R s m args below meth c n0 T' h' cells slots → Wr h h' a sl0 (.int (nar .char x)) → Ary Z h' a .char k (own_upd f i (.int (nar .char x))) → Gl p e below n0 Φ Q (T'.setTop (mkF m pc' L S))) : Gl p e below n0 Φ Q (T.setTop (mkF m pc L (.int x :: .int j :: .ref a :: S))) := by
  obtain ⟨locs, Y, eT, N⟩ := X; subst hp
  obtain ⟨cl, Ar, sz, H⟩ := A
  obtain ⟨q1, q2⟩ := own_in (k := k) hj hi
  obtain ⟨T', h', Y', e', W, st⟩ := stC Y hx hZ eT Ar (j := j) (by rw [sz]; exact q1) (g := mkF m pc L (.int x :: .int j :: .ref a :: S)) rfl rfl (hb hby hd)
  exact Gl.st st (K T' h' _ ⟨_, Y', e', Fr.snoc Y' N hn0⟩ W (Ary.same Ar sz H (q2 ▸ W)))
theorem g_aastore (X : St p l e R s m args below meth c n0 T h cells slots) (hx : p.tables.exec = Jvm.exec) (hby : c.code = bs) (hZ : Z.Warmed39 s.vm) {a : Addr} {k i : Nat} {f : Nat → Value} {j : Int32} {v : Value} {ty : FieldType} (A : Ary Z h a ty k f) (hty : ty.isReference = true) (St0 : Sto Z h a v) (hj : j.toInt = (i : Int)) (hi : i < k) (hn0 : n0 ≤ a) (hd : decode bs pc = .ok (.aastore, 1)) (hp : pc + 1 = pc') (K : ∀ T' h' sl0, St p l e R s m args below meth c n0 T' h' cells slots → Wr h h' a sl0 v → Ary Z h' a ty k (own_upd f i v) → Gl p e below n0 Φ Q (T'.setTop (mkF m pc' L S))) : Gl p e below n0 Φ Q (T.setTop (mkF m pc L (v :: .int j :: .ref a :: S))) := by
  obtain ⟨locs, Y, eT, N⟩ := X; subst hp
  obtain ⟨cl, Ar, sz, H⟩ := A
  obtain ⟨q1, q2⟩ := own_in (k := k) hj hi
  obtain ⟨T', h', Y', e', W, st⟩ := stR Y hx hZ eT Ar (j := j) (by rw [sz]; exact q1) hty St0 (g := mkF m pc L (v :: .int j :: .ref a :: S)) rfl rfl (hb hby hd)
  exact Gl.st st (K T' h' _ ⟨_, Y', e', Fr.snoc Y' N hn0⟩ W (Ary.same Ar sz H (q2 ▸ W)))
theorem g_instY (X : St p l e R s m args below meth c n0 T h cells slots) (hx : p.tables.exec = Jvm.exec) (hby : c.code = bs) (hZ : Z.Warmed39 s.vm) {own K : String} {index : Nat} {a : Addr} (hown : s.vm.findClass own = some m.cls) (w : (Cond.classLink own index K).before a0 Z = true) (I : Ins Z h a K true) (hd : decode bs pc = .ok (.instanceof index, 3)) (hp : pc + 3 = pc') (K1 : ∀ T', St p l e R s m args below meth c n0 T' h cells slots → Gl p e below n0 Φ Q (T'.setTop (mkF m pc' L (.int 1 :: S)))) : Gl p e below n0 Φ Q (T.setTop (mkF m pc L (.ref a :: S))) := by
  obtain ⟨locs, Y, eT, N⟩ := X; subst hp
  obtain ⟨T', Y', e', st⟩ := instY Y hx hZ hown w eT I (g := mkF m pc L (.ref a :: S)) rfl rfl (hb hby hd)
  exact Gl.st st (K1 T' ⟨locs, Y', e', N⟩)
theorem g_castY (X : St p l e R s m args below meth c n0 T h cells slots) (hx : p.tables.exec = Jvm.exec) (hby : c.code = bs) (hZ : Z.Warmed39 s.vm) {own K : String} {index : Nat} {a : Addr} (hown : s.vm.findClass own = some m.cls) (w : (Cond.classLink own index K).before a0 Z = true) (I : Ins Z h a K true) (hd : decode bs pc = .ok (.checkcast index, 3)) (hp : pc + 3 = pc') (K1 : ∀ T', St p l e R s m args below meth c n0 T' h cells slots → Gl p e below n0 Φ Q (T'.setTop (mkF m pc' L (.ref a :: S)))) : Gl p e below n0 Φ Q (T.setTop (mkF m pc L (.ref a :: S))) := by
  obtain ⟨locs, Y, eT, N⟩ := X; subst hp
  obtain ⟨T', Y', e', st⟩ := castY Y hx hZ hown w eT I (g := mkF m pc L (.ref a :: S)) rfl rfl (hb hby hd)
  exact Gl.st st (K1 T' ⟨locs, Y', e', N⟩)
theorem g_instNo (X : St p l e R s m args below meth c n0 T h cells slots) (hx : p.tables.exec = Jvm.exec) (hby : c.code = bs) (hZ : Z.Warmed39 s.vm) {own K C : String} {index : Nat} {a : Addr} (hown : s.vm.findClass own = some m.cls) (w : (Cond.classLink own index K).before a0 Z = true) (E : Exa Z h a C) (I : ∃ c t, Z.vm.findClass C = some c ∧ Z.vm.findClass K = some t ∧ Z.vm.assignable c t = false) (hd : decode bs pc = .ok (.instanceof index, 3)) (hp : pc + 3 = pc') (K1 : ∀ T', St p l e R s m args below meth c n0 T' h cells slots → Gl p e below n0 Φ Q (T'.setTop (mkF m pc' L (.int 0 :: S)))) : Gl p e below n0 Φ Q (T.setTop (mkF m pc L (.ref a :: S))) := by
  obtain ⟨locs, Y, eT, N⟩ := X; subst hp
  obtain ⟨T', Y', e', st⟩ := instNo Y hx hZ hown w eT E I (g := mkF m pc L (.ref a :: S)) rfl rfl (hb hby hd)
  exact Gl.st st (K1 T' ⟨locs, Y', e', N⟩)
theorem g_instNull (X : St p l e R s m args below meth c n0 T h cells slots) (hx : p.tables.exec = Jvm.exec) (hby : c.code = bs) {index : Nat} (hd : decode bs pc = .ok (.instanceof index, 3)) (hp : pc + 3 = pc') (K1 : Gl p e below n0 Φ Q (T.setTop (mkF m pc' L (.int 0 :: S)))) : Gl p e below n0 Φ Q (T.setTop (mkF m pc L (.null :: S))) := by
  obtain ⟨locs, Y, eT, N⟩ := X; subst hp
  exact Gl.st (fun t k => Y.instanceofNull hx (g := mkF m pc L (.null :: S)) rfl rfl (hb hby hd) t k) K1
theorem g_initO (X : St p l e R s m args below meth c n0 T h cells slots) (hx : p.tables.exec = Jvm.exec) (hby : c.code = bs) (hZ : Z.Warmed39 s.vm) {own : String} {idx W : Nat} {a : Addr} (hown : s.vm.findClass own = some m.cls) (w1 : (Cond.methodLink own idx Lib.objectInit).before a0 Z = true) (w2 : (Cond.instanceMethod Lib.objectInit).before a0 Z = true) (w3 : (Cond.code Lib.objectInit ⟨#[0xb1]⟩ 1 none).before a0 Z = true) (hsz : L.size = c.maxLocals) (hd : decode bs pc = .ok (.invokespecial idx, 3)) (hf : 1 ≤ R.frames) (hW : 2 * 0 + (S.map fun v => v.category).sum ≤ W) (hlo : W + 12 ≤ R.locals) (hp : pc + 3 = pc') (K : ∀ T', St p l e R s m args below meth c n0 T' h cells slots → Gl p e below n0 Φ Q (T'.setTop (mkF m pc' L S))) : Gl p e below n0 Φ Q (T.setTop (mkF m pc L (.ref a :: S))) := by
  obtain ⟨locs, Y, eT, N⟩ := X; subst hp
  obtain ⟨T', Y', e', st⟩ := initO Y hx hZ hown w1 w2 w3 eT (g := mkF m pc L (.ref a :: S)) rfl hsz rfl (hb hby hd) hf (W := W) hW hlo
  exact Gl.st st (K T' ⟨locs, Y', e', N⟩)
theorem g_callS (X : St p l e R s m args below meth c n0 T h cells slots) (hx : p.tables.exec = Jvm.exec) (hby : c.code = bs) (hZ : Z.Warmed39 s.vm) {rm : Room} {y : MethodName} {bytes : ByteArray} {maxL : Nat} {ret : Option FieldType} {Qc : Option Value → Heap → Prop} {own : String} {idx : Nat} {argsL S0 : List Value} (hown : s.vm.findClass own = some m.cls) (w1 : (Cond.methodLink own idx y).before a0 Z = true) (w2 : (Cond.static y).before a0 Z = true) (w3 : (Cond.initialized y.cls).before a0 Z = true) (w4 : (Cond.code y bytes maxL ret).before a0 Z = true) (hy : y.cls ≠ "java/lang/invoke/MethodHandle" ∧ y.cls ≠ "java/lang/invoke/VarHandle") (hM : Ctr l Z y bytes maxL ret [] rm argsL.toArray h n0 rm.cells rm.slots Qc) (hsz : L.size = c.maxLocals) (hlen : ∀ sig, parseMethodDescriptor y.desc = some sig → argsL.length = sig.parameters.length) (hst : S0 = argsL.reverse ++ S) (hd : decode bs pc = .ok (.invokestatic idx, 3)) (hf : rm.frames + 1 ≤ R.frames) {W : Nat} (hW : 2 * 0 + (S.map fun v => v.category).sum ≤ W) (hlo : W + (maxL + 11) + rm.locals ≤ R.locals) (hc : cells + rm.cells ≤ R.cells) (hs : slots + rm.slots ≤ R.slots) (hp : pc + 3 = pc') (K : ∀ T' v, St p l e R s m args below meth c n0 T' T'.heap (cells + rm.cells) (slots + rm.slots) → Qc v T'.heap → Gl p e below n0 Φ Q (T'.setTop (mkF m pc' L (v.toList ++ S)))) : Gl p e below n0 Φ Q (T.setTop (mkF m pc L S0)) := by
  obtain ⟨locs, Y, eT, N⟩ := X; subst hp
  obtain ⟨v, _, ⟨T', L1, k1, n1⟩, -, Y', ⟨Lc, hQ, l1, y1, z1⟩, st⟩ := Jvm.LawKit.callS Y hx (y := y) hown (mvT hZ w1) (mvT hZ w2) (mvT hZ w3) (mvT hZ w4) hy (backOf (W := W) (Q := fun v h L => Qc v h ∧ Fr n0 L) hM hZ w4 w3 hf hlo) (g := mkF m pc L S0) rfl hsz (argsL := argsL) (rest := S) hlen hst hW (hb hby hd) (fun _ _ => ⟨rfl, eT, hc, hs⟩)
  dsimp only [Pt.U, Pt.locs, Pt.cells, Pt.slots] at Y' l1 y1 z1 st hQ
  subst l1 y1 z1
  exact Gl.st (st) (K T' v ⟨_, Y', rfl, Fr.app N hQ.2⟩ hQ.1)
theorem g_callC (X : St p l e R s m args below meth c n0 T h cells slots) (hx : p.tables.exec = Jvm.exec) (hby : c.code = bs) (hZ : Z.Warmed39 s.vm) {rm : Room} {y : MethodName} {bytes : ByteArray} {maxL : Nat} {Qc : Option Value → Heap → Prop} {own : String} {idx : Nat} {a : Addr} {argsL S0 : List Value} (hy1 : y.name = "<init>") (hown : s.vm.findClass own = some m.cls) (w1 : (Cond.methodLink own idx y).before a0 Z = true) (w2 : (Cond.instanceMethod y).before a0 Z = true) (w3 : (Cond.initialized y.cls).before a0 Z = true) (w4 : (Cond.code y bytes maxL none).before a0 Z = true) (hy : y.cls ≠ "java/lang/invoke/MethodHandle" ∧ y.cls ≠ "java/lang/invoke/VarHandle") (hM : Ctr l Z y bytes maxL none [] rm (.ref a :: argsL).toArray h n0 rm.cells rm.slots Qc) (hsz : L.size = c.maxLocals) (hlen : ∀ sig, parseMethodDescriptor y.desc = some sig → argsL.length = sig.parameters.length) (hst : S0 = argsL.reverse ++ .ref a :: S) (hd : decode bs pc = .ok (.invokespecial idx, 3)) (hf : rm.frames + 1 ≤ R.frames) {W : Nat} (hW : 2 * 0 + (S.map fun v => v.category).sum ≤ W) (hlo : W + (maxL + 11) + rm.locals ≤ R.locals) (hc : cells + rm.cells ≤ R.cells) (hs : slots + rm.slots ≤ R.slots) (hp : pc + 3 = pc') (K : ∀ T' v, St p l e R s m args below meth c n0 T' T'.heap (cells + rm.cells) (slots + rm.slots) → Qc v T'.heap → Gl p e below n0 Φ Q (T'.setTop (mkF m pc' L (v.toList ++ S)))) : Gl p e below n0 Φ Q (T.setTop (mkF m pc L S0)) := by
  obtain ⟨locs, Y, eT, N⟩ := X; subst hp
  obtain ⟨v, _, ⟨T', L1, k1, n1⟩, -, Y', ⟨Lc, hQ, l1, y1, z1⟩, st⟩ := Y.specialBack hx (y := y) hy1 hown (mvT hZ w1) (mvT hZ w2) (mvT hZ w4) hy (backOf (W := W) (Q := fun v h L => Qc v h ∧ Fr n0 L) hM hZ w4 w3 hf hlo) (g := mkF m pc L S0) rfl hsz (Steps.refl _) (a := a) (argsL := argsL) (rest := S) hlen hst hW (hb hby hd) (fun _ _ => ⟨rfl, eT, hc, hs⟩)
  dsimp only [Pt.U, Pt.locs, Pt.cells, Pt.slots] at Y' l1 y1 z1 st hQ
  subst l1 y1 z1
  exact Gl.st (fun t k => st.trans k) (K T' v ⟨_, Y', rfl, Fr.app N hQ.2⟩ hQ.1)
theorem g_callV (X : St p l e R s m args below meth c n0 T h cells slots) (hx : p.tables.exec = Jvm.exec) (hby : c.code = bs) (hZ : Z.Warmed39 s.vm) {rm : Room} {y : MethodName} {bytes : ByteArray} {maxL : Nat} {ret : Option FieldType} {Qc : Option Value → Heap → Prop} {own C : String} {idx : Nat} {a : Addr} {y' : MethodName} {argsL S0 : List Value} (hown : s.vm.findClass own = some m.cls) (w1 : (Cond.methodLink own idx y').before a0 Z = true) (w2 : (Cond.declares y').before a0 Z = true) (w5 : NotFace s y') (w6 : (Cond.selects C y' y).before a0 Z = true) (w7 : (Cond.instanceMethod y).before a0 Z = true) (w3 : (Cond.initialized y.cls).before a0 Z = true) (w4 : (Cond.code y bytes maxL ret).before a0 Z = true) (hy : y'.cls ≠ "java/lang/invoke/MethodHandle" ∧ y'.cls ≠ "java/lang/invoke/VarHandle") (E : Exa Z h a C) (hM : Ctr l Z y bytes maxL ret [] rm (.ref a :: argsL).toArray h n0 rm.cells rm.slots Qc) (hsz : L.size = c.maxLocals) (hlen : ∀ sig, parseMethodDescriptor y'.desc = some sig → argsL.length = sig.parameters.length) (hst : S0 = argsL.reverse ++ .ref a :: S) (hd : decode bs pc = .ok (.invokevirtual idx, 3)) (hf : rm.frames + 1 ≤ R.frames) {W : Nat} (hW : 2 * 0 + (S.map fun v => v.category).sum ≤ W) (hlo : W + (maxL + 11) + rm.locals ≤ R.locals) (hc : cells + rm.cells ≤ R.cells) (hs : slots + rm.slots ≤ R.slots) (hp : pc + 3 = pc') (K : ∀ T' v, St p l e R s m args below meth c n0 T' T'.heap (cells + rm.cells) (slots + rm.slots) → Qc v T'.heap → Gl p e below n0 Φ Q (T'.setTop (mkF m pc' L (v.toList ++ S)))) : Gl p e below n0 Φ Q (T.setTop (mkF m pc L S0)) := by
  obtain ⟨locs, Y, eT, N⟩ := X; subst hp
  obtain ⟨cB, kB, qa, qb, qc⟩ := isOf hZ eT E
  obtain ⟨v, _, ⟨T', L1, k1, n1⟩, -, Y', ⟨Lc, hQ, l1, y1, z1⟩, st⟩ := Y.virtualBack hx (y := y') (z := y) hown (mvT hZ w1) (mvT hZ w2) w5 (mvT hZ w6) (mvT hZ w7) hy (backOf (W := W) (Q := fun v h L => Qc v h ∧ Fr n0 L) hM hZ w4 w3 hf hlo) qa qc (g := mkF m pc L S0) rfl hsz (Steps.refl _) (argsL := argsL) (rest := S) hlen hst hW (hb hby hd) (fun _ _ => ⟨rfl, eT, hc, hs⟩)
  dsimp only [Pt.U, Pt.locs, Pt.cells, Pt.slots] at Y' l1 y1 z1 st hQ
  subst l1 y1 z1
  exact Gl.st (fun t k => st.trans k) (K T' v ⟨_, Y', rfl, Fr.app N hQ.2⟩ hQ.1)
end OwnSteps
abbrev own_room (f c s l : Nat) : Room := { frames := f, cells := c, slots := s, locals := l }
theorem own_eq_int {args : Array Value} {s : State} {t : Term} {k : Int32} (h : (Jvm.Cond.eq t (.int k)).value args s none s [] = some true) : t.eval args s none [] s = some (.int k) := by
  obtain ⟨x, y, hx, hy, k1, k2⟩ := cmp_v (Or.inl h)
  obtain rfl : y = .int k := (Option.some.inj ((show (Term.int k).eval args s none [] s = some (.int k) from rfl).symm.trans hy)).symm
  obtain ⟨z, rfl⟩ : ∃ z, x = .int z := k2
  simp [Cond.value, hx, hy] at h
  rw [hx, h]
def own_pick (k : Int32) (c0 c1 c2 c3 c4 c5 : Addr) : Addr := if k = 0 then c0 else if k = 1 then c1 else if k = 2 then c2 else if k = 3 then c3 else if k = 4 then c4 else c5
def own_start (a c0 c1 : Addr) : Int32 := if Value.ref a = Value.ref c0 then 1 else if Value.ref a = Value.ref c1 then 1 else 0
theorem own_six (x : Int32) : (x &&& (2147483647 : Int32)) % (6 : Int32) = 0 ∨ (x &&& (2147483647 : Int32)) % (6 : Int32) = 1 ∨ (x &&& (2147483647 : Int32)) % (6 : Int32) = 2 ∨ (x &&& (2147483647 : Int32)) % (6 : Int32) = 3 ∨ (x &&& (2147483647 : Int32)) % (6 : Int32) = 4 ∨ (x &&& (2147483647 : Int32)) % (6 : Int32) = 5 := by
  have h2 := c_mask x 2147483647 31 (by decide) (by decide +kernel)
  have h3 : ((2 ^ 31 : Nat) : Int) = 2147483648 := rfl
  have h4 := (c_irem (x &&& 2147483647) 6 6 rfl).1 (by omega)
  have e0 : (0 : Int32).toInt = 0 := rfl
  have e1 : (1 : Int32).toInt = 1 := rfl
  have e2 : (2 : Int32).toInt = 2 := rfl
  have e3 : (3 : Int32).toInt = 3 := rfl
  have e4 : (4 : Int32).toInt = 4 := rfl
  have e5 : (5 : Int32).toInt = 5 := rfl
  simp only [← Int32.toInt_inj, e0, e1, e2, e3, e4, e5]
  omega
set_option maxRecDepth 65536 in
set_option maxHeartbeats 40000000 in
theorem own_ef1 (m : MethodId) (y0 : Int32)  : entryFrame m #[(.int y0)] 1 = mkF m 0 #[.val (.int y0)] [] := by first | (simp [entryFrame, mkF, argsToLocals, Value.category, maxLocals]; done) | rfl
theorem own_pn0 : plainName "com/example/query_workflow/queryworkflow/lifecycle/QueryStateIsStartPinLaw" = true := by first | (simp [plainName, overriddenIn]; done) | decide +kernel
theorem own_d0_0 : decode method_3_code 0 = .ok (.iload_n 0, 1) := by decide +kernel
theorem own_d0_1 : decode method_3_code 1 = .ok (.ifCond .ne 7, 3) := by decide +kernel
theorem own_d0_8 : decode method_3_code 8 = .ok (.iload_n 0, 1) := by decide +kernel
theorem own_d0_9 : decode method_3_code 9 = .ok (.iconst 1, 1) := by decide +kernel
theorem own_d0_10 : decode method_3_code 10 = .ok (.if_icmp .ne 7, 3) := by decide +kernel
theorem own_d0_17 : decode method_3_code 17 = .ok (.iload_n 0, 1) := by decide +kernel
theorem own_d0_18 : decode method_3_code 18 = .ok (.iconst 2, 1) := by decide +kernel
theorem own_d0_19 : decode method_3_code 19 = .ok (.if_icmp .ne 7, 3) := by decide +kernel
theorem own_d0_26 : decode method_3_code 26 = .ok (.iload_n 0, 1) := by decide +kernel
theorem own_d0_27 : decode method_3_code 27 = .ok (.iconst 3, 1) := by decide +kernel
theorem own_d0_28 : decode method_3_code 28 = .ok (.if_icmp .ne 7, 3) := by decide +kernel
theorem own_d0_35 : decode method_3_code 35 = .ok (.iload_n 0, 1) := by decide +kernel
theorem own_d0_36 : decode method_3_code 36 = .ok (.iconst 4, 1) := by decide +kernel
theorem own_d0_37 : decode method_3_code 37 = .ok (.if_icmp .ne 7, 3) := by decide +kernel
theorem own_d0_44 : decode method_3_code 44 = .ok (.getstatic 36, 3) := by decide +kernel
theorem own_d0_47 : decode method_3_code 47 = .ok (.areturn, 1) := by decide +kernel
theorem own_d0_40 : decode method_3_code 40 = .ok (.getstatic 33, 3) := by decide +kernel
theorem own_d0_43 : decode method_3_code 43 = .ok (.areturn, 1) := by decide +kernel
theorem own_d0_31 : decode method_3_code 31 = .ok (.getstatic 30, 3) := by decide +kernel
theorem own_d0_34 : decode method_3_code 34 = .ok (.areturn, 1) := by decide +kernel
theorem own_d0_22 : decode method_3_code 22 = .ok (.getstatic 27, 3) := by decide +kernel
theorem own_d0_25 : decode method_3_code 25 = .ok (.areturn, 1) := by decide +kernel
theorem own_d0_13 : decode method_3_code 13 = .ok (.getstatic 24, 3) := by decide +kernel
theorem own_d0_16 : decode method_3_code 16 = .ok (.areturn, 1) := by decide +kernel
theorem own_d0_4 : decode method_3_code 4 = .ok (.getstatic 20, 3) := by decide +kernel
theorem own_d0_7 : decode method_3_code 7 = .ok (.areturn, 1) := by decide +kernel
set_option maxRecDepth 65536 in
set_option maxHeartbeats 40000000 in
theorem own_rm1 (l : Launch) (Z : State) (a0 : Array Value) (hw : ∀ d ∈ tables_1, d.before a0 Z = true) (y0 : Int32) (c0 c1 c2 c3 c4 c5 : Addr) (h0 : Heap) (n0 : Nat) (S0 : Sta Z h0 "com/example/query_workflow/queryworkflow/lifecycle/QueryState" "CANDIDATE" "Lcom/example/query_workflow/queryworkflow/lifecycle/QueryState;" (.ref c0)) (S1 : Sta Z h0 "com/example/query_workflow/queryworkflow/lifecycle/QueryState" "OPEN" "Lcom/example/query_workflow/queryworkflow/lifecycle/QueryState;" (.ref c1)) (S2 : Sta Z h0 "com/example/query_workflow/queryworkflow/lifecycle/QueryState" "ANSWERED" "Lcom/example/query_workflow/queryworkflow/lifecycle/QueryState;" (.ref c2)) (S3 : Sta Z h0 "com/example/query_workflow/queryworkflow/lifecycle/QueryState" "CLOSED" "Lcom/example/query_workflow/queryworkflow/lifecycle/QueryState;" (.ref c3)) (S4 : Sta Z h0 "com/example/query_workflow/queryworkflow/lifecycle/QueryState" "CANCELLED" "Lcom/example/query_workflow/queryworkflow/lifecycle/QueryState;" (.ref c4)) (S5 : Sta Z h0 "com/example/query_workflow/queryworkflow/lifecycle/QueryState" "RESOLVED" "Lcom/example/query_workflow/queryworkflow/lifecycle/QueryState;" (.ref c5)) :
    Ctr l Z (⟨"com/example/query_workflow/queryworkflow/lifecycle/QueryStateIsStartPinLaw", "pick", "(I)Lcom/example/query_workflow/queryworkflow/lifecycle/QueryState;"⟩ : MethodName) method_3_code 1 (some (.object "com/example/query_workflow/queryworkflow/lifecycle/QueryState")) [] (own_room 0 0 0 0) #[(.int y0)] h0 n0 0 0 (fun v h => v = some (.ref (own_pick y0 c0 c1 c2 c3 c4 c5)) ∧ h = h0) := by
  refine Ctr.of (plainFor_of_name own_pn0) ?_
  intro p e s m below meth c T0 hx hby hml hret hlk hnm hown hZ X0
  rw [own_ef1 m (y0)]
  refine g_iloadN X0 hx hby own_d0_0 rfl (pc' := 1) rfl ?_
  refine g_if_ne X0 hx hby own_d0_1 (by decide) (pc' := 8) (by decide) (pc2 := 4) rfl (fun c1_2 => ?_) (fun c1_2 => ?_)
  · refine g_iloadN X0 hx hby own_d0_8 rfl (pc' := 9) rfl ?_
    refine g_iconst (v := 1) X0 hx hby own_d0_9 rfl (pc' := 10) rfl ?_
    refine g_icmp_ne X0 hx hby own_d0_10 (by decide) (pc' := 17) (by decide) (pc2 := 13) rfl (fun c10_3 => ?_) (fun c10_3 => ?_)
    · refine g_iloadN X0 hx hby own_d0_17 rfl (pc' := 18) rfl ?_
      refine g_iconst (v := 2) X0 hx hby own_d0_18 rfl (pc' := 19) rfl ?_
      refine g_icmp_ne X0 hx hby own_d0_19 (by decide) (pc' := 26) (by decide) (pc2 := 22) rfl (fun c19_4 => ?_) (fun c19_4 => ?_)
      · refine g_iloadN X0 hx hby own_d0_26 rfl (pc' := 27) rfl ?_
        refine g_iconst (v := 3) X0 hx hby own_d0_27 rfl (pc' := 28) rfl ?_
        refine g_icmp_ne X0 hx hby own_d0_28 (by decide) (pc' := 35) (by decide) (pc2 := 31) rfl (fun c28_5 => ?_) (fun c28_5 => ?_)
        · refine g_iloadN X0 hx hby own_d0_35 rfl (pc' := 36) rfl ?_
          refine g_iconst (v := 4) X0 hx hby own_d0_36 rfl (pc' := 37) rfl ?_
          refine g_icmp_ne X0 hx hby own_d0_37 (by decide) (pc' := 44) (by decide) (pc2 := 40) rfl (fun c37_6 => ?_) (fun c37_6 => ?_)
          · refine g_getS X0 hx hby hZ hown (hw _ (List.mem_of_getElem? (i := 21) rfl)) Via.refl S5 own_d0_44 (pc' := 47) rfl (fun T7 X7 => ?_)
            exact g_retA X7 hx hby hret hlk rfl rfl own_d0_47 ⟨congrArg (fun z => some (Value.ref z)) (show c5 = own_pick y0 c0 c1 c2 c3 c4 c5 by simp [own_pick, c1_2, c10_3, c19_4, c28_5, c37_6]), rfl⟩ (by decide) (by decide)
          · refine g_getS X0 hx hby hZ hown (hw _ (List.mem_of_getElem? (i := 23) rfl)) Via.refl S4 own_d0_40 (pc' := 43) rfl (fun T8 X8 => ?_)
            exact g_retA X8 hx hby hret hlk rfl rfl own_d0_43 ⟨congrArg (fun z => some (Value.ref z)) (show c4 = own_pick y0 c0 c1 c2 c3 c4 c5 by simp [own_pick, c1_2, c10_3, c19_4, c28_5, c37_6]), rfl⟩ (by decide) (by decide)
        · refine g_getS X0 hx hby hZ hown (hw _ (List.mem_of_getElem? (i := 14) rfl)) Via.refl S3 own_d0_31 (pc' := 34) rfl (fun T9 X9 => ?_)
          exact g_retA X9 hx hby hret hlk rfl rfl own_d0_34 ⟨congrArg (fun z => some (Value.ref z)) (show c3 = own_pick y0 c0 c1 c2 c3 c4 c5 by simp [own_pick, c1_2, c10_3, c19_4, c28_5]), rfl⟩ (by decide) (by decide)
      · refine g_getS X0 hx hby hZ hown (hw _ (List.mem_of_getElem? (i := 18) rfl)) Via.refl S2 own_d0_22 (pc' := 25) rfl (fun T10 X10 => ?_)
        exact g_retA X10 hx hby hret hlk rfl rfl own_d0_25 ⟨congrArg (fun z => some (Value.ref z)) (show c2 = own_pick y0 c0 c1 c2 c3 c4 c5 by simp [own_pick, c1_2, c10_3, c19_4]), rfl⟩ (by decide) (by decide)
    · refine g_getS X0 hx hby hZ hown (hw _ (List.mem_of_getElem? (i := 20) rfl)) Via.refl S1 own_d0_13 (pc' := 16) rfl (fun T11 X11 => ?_)
      exact g_retA X11 hx hby hret hlk rfl rfl own_d0_16 ⟨congrArg (fun z => some (Value.ref z)) (show c1 = own_pick y0 c0 c1 c2 c3 c4 c5 by simp [own_pick, c1_2, c10_3]), rfl⟩ (by decide) (by decide)
  · refine g_getS X0 hx hby hZ hown (hw _ (List.mem_of_getElem? (i := 5) rfl)) Via.refl S0 own_d0_4 (pc' := 7) rfl (fun T12 X12 => ?_)
    exact g_retA X12 hx hby hret hlk rfl rfl own_d0_7 ⟨congrArg (fun z => some (Value.ref z)) (show c0 = own_pick y0 c0 c1 c2 c3 c4 c5 by simp [own_pick, c1_2]), rfl⟩ (by decide) (by decide)
set_option maxRecDepth 65536 in
set_option maxHeartbeats 40000000 in
theorem own_ef13 (m : MethodId) (y0 : Addr)  : entryFrame m #[(.ref y0)] 1 = mkF m 0 #[.val (.ref y0)] [] := by first | (simp [entryFrame, mkF, argsToLocals, Value.category, maxLocals]; done) | rfl
theorem own_pn1 : plainName "com/example/query_workflow/queryworkflow/lifecycle/QueryState" = true := by first | (simp [plainName, overriddenIn]; done) | decide +kernel
theorem own_d1_0 : decode prog_27_method_5_code 0 = .ok (.aload_n 0, 1) := by decide +kernel
theorem own_d1_1 : decode prog_27_method_5_code 1 = .ok (.getstatic 3, 3) := by decide +kernel
theorem own_d1_4 : decode prog_27_method_5_code 4 = .ok (.if_acmp .eq 10, 3) := by decide +kernel
theorem own_d1_14 : decode prog_27_method_5_code 14 = .ok (.iconst 1, 1) := by decide +kernel
theorem own_d1_15 : decode prog_27_method_5_code 15 = .ok (.goto 4, 3) := by decide +kernel
theorem own_d1_19 : decode prog_27_method_5_code 19 = .ok (.ireturn, 1) := by decide +kernel
theorem own_d1_7 : decode prog_27_method_5_code 7 = .ok (.aload_n 0, 1) := by decide +kernel
theorem own_d1_8 : decode prog_27_method_5_code 8 = .ok (.getstatic 7, 3) := by decide +kernel
theorem own_d1_11 : decode prog_27_method_5_code 11 = .ok (.if_acmp .ne 7, 3) := by decide +kernel
theorem own_d1_18 : decode prog_27_method_5_code 18 = .ok (.iconst 0, 1) := by decide +kernel
set_option maxRecDepth 65536 in
set_option maxHeartbeats 40000000 in
theorem own_rm2 (l : Launch) (Z : State) (a0 : Array Value) (hw : ∀ d ∈ tables_1, d.before a0 Z = true) (y0 c0 c1 : Addr) (h0 : Heap) (n0 : Nat) (S0 : Sta Z h0 "com/example/query_workflow/queryworkflow/lifecycle/QueryState" "CANDIDATE" "Lcom/example/query_workflow/queryworkflow/lifecycle/QueryState;" (.ref c0)) (S1 : Sta Z h0 "com/example/query_workflow/queryworkflow/lifecycle/QueryState" "OPEN" "Lcom/example/query_workflow/queryworkflow/lifecycle/QueryState;" (.ref c1)) :
    Ctr l Z (⟨"com/example/query_workflow/queryworkflow/lifecycle/QueryState", "isStart", "()Z"⟩ : MethodName) prog_27_method_5_code 1 (some .boolean) [] (own_room 0 0 0 0) #[(.ref y0)] h0 n0 0 0 (fun v h => v = some (.int (own_start y0 c0 c1)) ∧ h = h0) := by
  refine Ctr.of (plainFor_of_name own_pn1) ?_
  intro p e s m below meth c T0 hx hby hml hret hlk hnm hown hZ X0
  rw [own_ef13 m (y0)]
  refine g_aloadN X0 hx hby own_d1_0 rfl rfl (pc' := 1) rfl ?_
  refine g_getS X0 hx hby hZ hown (hw _ (List.mem_of_getElem? (i := 13) rfl)) Via.refl S0 own_d1_1 (pc' := 4) rfl (fun T14 X14 => ?_)
  by_cases c4_15 : ((.ref y0) : Value) = (.ref c0)
  · refine g_acmp_y X14 hx hby own_d1_4 rfl rfl (same := true) (decide_eq_true c4_15) (by decide) (pc' := 14) (by decide) ?_
    refine g_iconst (v := 1) X14 hx hby own_d1_14 rfl (pc' := 15) rfl ?_
    refine g_goto X14 hx hby own_d1_15 (by decide) (pc' := 19) (by decide) ?_
    exact g_retN X14 hx hby hret hlk (by simp) own_d1_19 ⟨congrArg (fun z => some (Value.int z)) (show (1 : Int32) = own_start y0 c0 c1 from (if_pos c4_15).symm), rfl⟩ (by decide) (by decide)
  · refine g_acmp_y X14 hx hby own_d1_4 rfl rfl (same := false) (decide_eq_false c4_15) (by decide) (pc' := 7) (by decide) ?_
    refine g_aloadN X14 hx hby own_d1_7 rfl rfl (pc' := 8) rfl ?_
    refine g_getS X14 hx hby hZ hown (hw _ (List.mem_of_getElem? (i := 16) rfl)) Via.refl S1 own_d1_8 (pc' := 11) rfl (fun T16 X16 => ?_)
    by_cases c11_17 : ((.ref y0) : Value) = (.ref c1)
    · refine g_acmp_y X16 hx hby own_d1_11 rfl rfl (same := true) (decide_eq_true c11_17) (by decide) (pc' := 14) (by decide) ?_
      refine g_iconst (v := 1) X16 hx hby own_d1_14 rfl (pc' := 15) rfl ?_
      refine g_goto X16 hx hby own_d1_15 (by decide) (pc' := 19) (by decide) ?_
      exact g_retN X16 hx hby hret hlk (by simp) own_d1_19 ⟨congrArg (fun z => some (Value.int z)) (show (1 : Int32) = own_start y0 c0 c1 from ((if_neg c4_15).trans (if_pos c11_17)).symm), rfl⟩ (by decide) (by decide)
    · refine g_acmp_y X16 hx hby own_d1_11 rfl rfl (same := false) (decide_eq_false c11_17) (by decide) (pc' := 18) (by decide) ?_
      refine g_iconst (v := 0) X16 hx hby own_d1_18 rfl (pc' := 19) rfl ?_
      exact g_retN X16 hx hby hret hlk (by simp) own_d1_19 ⟨congrArg (fun z => some (Value.int z)) (show (0 : Int32) = own_start y0 c0 c1 from ((if_neg c4_15).trans (if_neg c11_17)).symm), rfl⟩ (by decide) (by decide)
set_option maxRecDepth 65536 in
set_option maxHeartbeats 40000000 in
theorem own_ef18 (m : MethodId) (y0 : Int32)  : entryFrame m #[(.int y0)] maxLocals = mkF m 0 #[.val (.int y0), .unset, .unset, .unset] [] := by first | (simp [entryFrame, mkF, argsToLocals, Value.category, maxLocals]; done) | rfl
theorem own_pd0 : parseMethodDescriptor "(I)Lcom/example/query_workflow/queryworkflow/lifecycle/QueryState;" = some ⟨[.int], (some (.object "com/example/query_workflow/queryworkflow/lifecycle/QueryState"))⟩ := by decide +kernel
theorem own_pd1 : parseMethodDescriptor "()Z" = some ⟨[], (some .boolean)⟩ := by decide +kernel
set_option maxRecDepth 65536 in
set_option maxHeartbeats 40000000 in
theorem own_rm0 (l : Launch) (Z : State) (a0 : Array Value) (hw : ∀ d ∈ tables_1, d.before a0 Z = true) (y0 : Int32) (h0 : Heap) (n0 : Nat) (c0 c1 c2 c3 c4 c5 : Addr) (S0 : Sta Z h0 "com/example/query_workflow/queryworkflow/lifecycle/QueryState" "CANDIDATE" "Lcom/example/query_workflow/queryworkflow/lifecycle/QueryState;" (.ref c0)) (S1 : Sta Z h0 "com/example/query_workflow/queryworkflow/lifecycle/QueryState" "OPEN" "Lcom/example/query_workflow/queryworkflow/lifecycle/QueryState;" (.ref c1)) (S2 : Sta Z h0 "com/example/query_workflow/queryworkflow/lifecycle/QueryState" "ANSWERED" "Lcom/example/query_workflow/queryworkflow/lifecycle/QueryState;" (.ref c2)) (S3 : Sta Z h0 "com/example/query_workflow/queryworkflow/lifecycle/QueryState" "CLOSED" "Lcom/example/query_workflow/queryworkflow/lifecycle/QueryState;" (.ref c3)) (S4 : Sta Z h0 "com/example/query_workflow/queryworkflow/lifecycle/QueryState" "CANCELLED" "Lcom/example/query_workflow/queryworkflow/lifecycle/QueryState;" (.ref c4)) (S5 : Sta Z h0 "com/example/query_workflow/queryworkflow/lifecycle/QueryState" "RESOLVED" "Lcom/example/query_workflow/queryworkflow/lifecycle/QueryState;" (.ref c5)) (Ex0 : Exa Z h0 c0 "com/example/query_workflow/queryworkflow/lifecycle/QueryState") (Ex1 : Exa Z h0 c1 "com/example/query_workflow/queryworkflow/lifecycle/QueryState") (Ex2 : Exa Z h0 c2 "com/example/query_workflow/queryworkflow/lifecycle/QueryState") (Ex3 : Exa Z h0 c3 "com/example/query_workflow/queryworkflow/lifecycle/QueryState") (Ex4 : Exa Z h0 c4 "com/example/query_workflow/queryworkflow/lifecycle/QueryState") (Ex5 : Exa Z h0 c5 "com/example/query_workflow/queryworkflow/lifecycle/QueryState") (hn1 : ¬ Value.ref c1 = Value.ref c0) (hn2 : ¬ Value.ref c2 = Value.ref c0) (hn3 : ¬ Value.ref c3 = Value.ref c0) (hn4 : ¬ Value.ref c4 = Value.ref c0) (hn5 : ¬ Value.ref c5 = Value.ref c0) (hm2 : ¬ Value.ref c2 = Value.ref c1) (hm3 : ¬ Value.ref c3 = Value.ref c1) (hm4 : ¬ Value.ref c4 = Value.ref c1) (hm5 : ¬ Value.ref c5 = Value.ref c1) :
    Ctr l Z x code maxLocals ret tables_1 room_1 #[(.int y0)] h0 n0 0 0 (fun v h => v = some (.int 1)) := by
  refine Ctr.of (plainFor_of_name own_pn0) ?_
  intro p e s m below meth c T0 hx hby hml hret hlk hnm hown hZ X0
  rw [own_ef18 m (y0)]
  refine g_iloadN X0 hx hby at_0 rfl (pc' := 1) rfl ?_
  refine g_ldc X0 hx hby hZ hown (hw _ (List.mem_of_getElem? (i := 0) rfl)) at_1 (pc' := 3) rfl ?_
  refine g_iand X0 hx hby at_3 (pc' := 4) rfl ?_
  refine g_bipush (v := 6) X0 hx hby at_4 rfl (pc' := 6) rfl ?_
  refine g_irem X0 hx hby at_6 (by decide) (pc' := 7) rfl ?_
  refine g_istoreN (L' := #[.val (.int y0), .val (.int ((y0 &&& (2147483647 : Int32)) % (6 : Int32))), .unset, .unset]) X0 hx hby at_7 rfl (pc' := 8) rfl ?_
  obtain ⟨z19, hz19⟩ : ∃ z, z = ((y0 &&& (2147483647 : Int32)) % (6 : Int32)) := ⟨_, rfl⟩
  rw [← hz19]
  have h6 : z19 = 0 ∨ z19 = 1 ∨ z19 = 2 ∨ z19 = 3 ∨ z19 = 4 ∨ z19 = 5 := by rw [hz19]; exact own_six y0
  clear hz19
  rcases h6 with rfl | rfl | rfl | rfl | rfl | rfl
  · refine g_iloadN X0 hx hby at_8 rfl (pc' := 9) rfl ?_
    refine g_callS (argsL := [(.int (0 : Int32))]) (S := []) X0 hx hby hZ (y := (⟨"com/example/query_workflow/queryworkflow/lifecycle/QueryStateIsStartPinLaw", "pick", "(I)Lcom/example/query_workflow/queryworkflow/lifecycle/QueryState;"⟩ : MethodName)) hown (hw _ (List.mem_of_getElem? (i := 1) rfl)) (hw _ (List.mem_of_getElem? (i := 2) rfl)) (hw _ (List.mem_of_getElem? (i := 3) rfl)) (hw _ (List.mem_of_getElem? (i := 4) rfl)) (by decide) (own_rm1 l Z a0 hw (0 : Int32) c0 c1 c2 c3 c4 c5 h0 n0 S0 S1 S2 S3 S4 S5) (by rw [hml]; rfl) (lenOf own_pd0 rfl) rfl at_9 (by decide) (W := 0) (by exact Nat.le_of_eq rfl) (by decide) (by decide) (by decide) (pc' := 12) rfl (fun T20 v20 X20 hQ20 => ?_)
    obtain ⟨rfl, e20⟩ := hQ20
    rw [e20] at X20
    have pk20 : own_pick (0 : Int32) c0 c1 c2 c3 c4 c5 = c0 := by simp [own_pick]
    rw [pk20]
    show Gl p e below n0 _ _ (T20.setTop (mkF m 12 #[.val (.int y0), .val (.int (0 : Int32)), .unset, .unset] [(.ref c0)]))
    refine g_astoreN (L' := #[.val (.int y0), .val (.int (0 : Int32)), .val (.ref c0), .unset]) X20 hx hby at_12 rfl rfl (pc' := 13) rfl ?_
    refine g_iloadN X20 hx hby at_13 rfl (pc' := 14) rfl ?_
    refine g_if_eq X20 hx hby at_14 (by decide) (pc' := 22) (by decide) (pc2 := 17) rfl (fun c14_21 => ?_) (fun q => absurd (by decide) q)
    refine g_iconst (v := 1) X20 hx hby at_22 rfl (pc' := 23) rfl ?_
    refine g_goto X20 hx hby at_23 (by decide) (pc' := 27) (by decide) ?_
    refine g_istoreN (L' := #[.val (.int y0), .val (.int (0 : Int32)), .val (.ref c0), .val (.int (1 : Int32))]) X20 hx hby at_27 rfl (pc' := 28) rfl ?_
    refine g_aloadN X20 hx hby at_28 rfl rfl (pc' := 29) rfl ?_
    refine g_callV (argsL := []) (S := []) (a := c0) X20 hx hby hZ (y := (⟨"com/example/query_workflow/queryworkflow/lifecycle/QueryState", "isStart", "()Z"⟩ : MethodName)) (y' := (⟨"com/example/query_workflow/queryworkflow/lifecycle/QueryState", "isStart", "()Z"⟩ : MethodName)) hown (hw _ (List.mem_of_getElem? (i := 8) rfl)) (hw _ (List.mem_of_getElem? (i := 9) rfl)) (notFace_of_selects (args := #[]) (mvT hZ (hw _ (List.mem_of_getElem? (i := 11) rfl)))) (hw _ (List.mem_of_getElem? (i := 11) rfl)) (hw _ (List.mem_of_getElem? (i := 10) rfl)) (hw _ (List.mem_of_getElem? (i := 6) rfl)) (hw _ (List.mem_of_getElem? (i := 12) rfl)) (by decide) Ex0 (own_rm2 l Z a0 hw c0 c0 c1 h0 n0 S0 S1) (by rw [hml]; rfl) (lenOf own_pd1 rfl) rfl at_29 (by decide) (W := 0) (by exact Nat.le_of_eq rfl) (by decide) (by decide) (by decide) (pc' := 32) rfl (fun T22 v22 X22 hQ22 => ?_)
    obtain ⟨rfl, e22⟩ := hQ22
    rw [e22] at X22
    have pk22 : own_start c0 c0 c1 = 1 := if_pos rfl
    rw [pk22]
    show Gl p e below n0 _ _ (T22.setTop (mkF m 32 #[.val (.int y0), .val (.int (0 : Int32)), .val (.ref c0), .val (.int (1 : Int32))] [(.int (1 : Int32))]))
    refine g_iloadN X22 hx hby at_32 rfl (pc' := 33) rfl ?_
    refine g_icmp_ne X22 hx hby at_33 (by decide) (pc' := 40) (by decide) (pc2 := 36) rfl (fun q => absurd (by decide) q) (fun c33_23 => ?_)
    refine g_iconst (v := 1) X22 hx hby at_36 rfl (pc' := 37) rfl ?_
    refine g_goto X22 hx hby at_37 (by decide) (pc' := 41) (by decide) ?_
    exact g_retN X22 hx hby hret hlk (by simp) at_41 rfl (by decide) (by decide)
  · refine g_iloadN X0 hx hby at_8 rfl (pc' := 9) rfl ?_
    refine g_callS (argsL := [(.int (1 : Int32))]) (S := []) X0 hx hby hZ (y := (⟨"com/example/query_workflow/queryworkflow/lifecycle/QueryStateIsStartPinLaw", "pick", "(I)Lcom/example/query_workflow/queryworkflow/lifecycle/QueryState;"⟩ : MethodName)) hown (hw _ (List.mem_of_getElem? (i := 1) rfl)) (hw _ (List.mem_of_getElem? (i := 2) rfl)) (hw _ (List.mem_of_getElem? (i := 3) rfl)) (hw _ (List.mem_of_getElem? (i := 4) rfl)) (by decide) (own_rm1 l Z a0 hw (1 : Int32) c0 c1 c2 c3 c4 c5 h0 n0 S0 S1 S2 S3 S4 S5) (by rw [hml]; rfl) (lenOf own_pd0 rfl) rfl at_9 (by decide) (W := 0) (by exact Nat.le_of_eq rfl) (by decide) (by decide) (by decide) (pc' := 12) rfl (fun T24 v24 X24 hQ24 => ?_)
    obtain ⟨rfl, e24⟩ := hQ24
    rw [e24] at X24
    have pk24 : own_pick (1 : Int32) c0 c1 c2 c3 c4 c5 = c1 := by simp [own_pick]
    rw [pk24]
    show Gl p e below n0 _ _ (T24.setTop (mkF m 12 #[.val (.int y0), .val (.int (1 : Int32)), .unset, .unset] [(.ref c1)]))
    refine g_astoreN (L' := #[.val (.int y0), .val (.int (1 : Int32)), .val (.ref c1), .unset]) X24 hx hby at_12 rfl rfl (pc' := 13) rfl ?_
    refine g_iloadN X24 hx hby at_13 rfl (pc' := 14) rfl ?_
    refine g_if_eq X24 hx hby at_14 (by decide) (pc' := 22) (by decide) (pc2 := 17) rfl (fun q => absurd q (by decide)) (fun c14_25 => ?_)
    refine g_iloadN X24 hx hby at_17 rfl (pc' := 18) rfl ?_
    refine g_iconst (v := 1) X24 hx hby at_18 rfl (pc' := 19) rfl ?_
    refine g_icmp_ne X24 hx hby at_19 (by decide) (pc' := 26) (by decide) (pc2 := 22) rfl (fun q => absurd (by decide) q) (fun c19_26 => ?_)
    refine g_iconst (v := 1) X24 hx hby at_22 rfl (pc' := 23) rfl ?_
    refine g_goto X24 hx hby at_23 (by decide) (pc' := 27) (by decide) ?_
    refine g_istoreN (L' := #[.val (.int y0), .val (.int (1 : Int32)), .val (.ref c1), .val (.int (1 : Int32))]) X24 hx hby at_27 rfl (pc' := 28) rfl ?_
    refine g_aloadN X24 hx hby at_28 rfl rfl (pc' := 29) rfl ?_
    refine g_callV (argsL := []) (S := []) (a := c1) X24 hx hby hZ (y := (⟨"com/example/query_workflow/queryworkflow/lifecycle/QueryState", "isStart", "()Z"⟩ : MethodName)) (y' := (⟨"com/example/query_workflow/queryworkflow/lifecycle/QueryState", "isStart", "()Z"⟩ : MethodName)) hown (hw _ (List.mem_of_getElem? (i := 8) rfl)) (hw _ (List.mem_of_getElem? (i := 9) rfl)) (notFace_of_selects (args := #[]) (mvT hZ (hw _ (List.mem_of_getElem? (i := 11) rfl)))) (hw _ (List.mem_of_getElem? (i := 11) rfl)) (hw _ (List.mem_of_getElem? (i := 10) rfl)) (hw _ (List.mem_of_getElem? (i := 6) rfl)) (hw _ (List.mem_of_getElem? (i := 12) rfl)) (by decide) Ex1 (own_rm2 l Z a0 hw c1 c0 c1 h0 n0 S0 S1) (by rw [hml]; rfl) (lenOf own_pd1 rfl) rfl at_29 (by decide) (W := 0) (by exact Nat.le_of_eq rfl) (by decide) (by decide) (by decide) (pc' := 32) rfl (fun T27 v27 X27 hQ27 => ?_)
    obtain ⟨rfl, e27⟩ := hQ27
    rw [e27] at X27
    have pk27 : own_start c1 c0 c1 = 1 := (if_neg hn1).trans (if_pos rfl)
    rw [pk27]
    show Gl p e below n0 _ _ (T27.setTop (mkF m 32 #[.val (.int y0), .val (.int (1 : Int32)), .val (.ref c1), .val (.int (1 : Int32))] [(.int (1 : Int32))]))
    refine g_iloadN X27 hx hby at_32 rfl (pc' := 33) rfl ?_
    refine g_icmp_ne X27 hx hby at_33 (by decide) (pc' := 40) (by decide) (pc2 := 36) rfl (fun q => absurd (by decide) q) (fun c33_28 => ?_)
    refine g_iconst (v := 1) X27 hx hby at_36 rfl (pc' := 37) rfl ?_
    refine g_goto X27 hx hby at_37 (by decide) (pc' := 41) (by decide) ?_
    exact g_retN X27 hx hby hret hlk (by simp) at_41 rfl (by decide) (by decide)
  · refine g_iloadN X0 hx hby at_8 rfl (pc' := 9) rfl ?_
    refine g_callS (argsL := [(.int (2 : Int32))]) (S := []) X0 hx hby hZ (y := (⟨"com/example/query_workflow/queryworkflow/lifecycle/QueryStateIsStartPinLaw", "pick", "(I)Lcom/example/query_workflow/queryworkflow/lifecycle/QueryState;"⟩ : MethodName)) hown (hw _ (List.mem_of_getElem? (i := 1) rfl)) (hw _ (List.mem_of_getElem? (i := 2) rfl)) (hw _ (List.mem_of_getElem? (i := 3) rfl)) (hw _ (List.mem_of_getElem? (i := 4) rfl)) (by decide) (own_rm1 l Z a0 hw (2 : Int32) c0 c1 c2 c3 c4 c5 h0 n0 S0 S1 S2 S3 S4 S5) (by rw [hml]; rfl) (lenOf own_pd0 rfl) rfl at_9 (by decide) (W := 0) (by exact Nat.le_of_eq rfl) (by decide) (by decide) (by decide) (pc' := 12) rfl (fun T29 v29 X29 hQ29 => ?_)
    obtain ⟨rfl, e29⟩ := hQ29
    rw [e29] at X29
    have pk29 : own_pick (2 : Int32) c0 c1 c2 c3 c4 c5 = c2 := by simp [own_pick]
    rw [pk29]
    show Gl p e below n0 _ _ (T29.setTop (mkF m 12 #[.val (.int y0), .val (.int (2 : Int32)), .unset, .unset] [(.ref c2)]))
    refine g_astoreN (L' := #[.val (.int y0), .val (.int (2 : Int32)), .val (.ref c2), .unset]) X29 hx hby at_12 rfl rfl (pc' := 13) rfl ?_
    refine g_iloadN X29 hx hby at_13 rfl (pc' := 14) rfl ?_
    refine g_if_eq X29 hx hby at_14 (by decide) (pc' := 22) (by decide) (pc2 := 17) rfl (fun q => absurd q (by decide)) (fun c14_30 => ?_)
    refine g_iloadN X29 hx hby at_17 rfl (pc' := 18) rfl ?_
    refine g_iconst (v := 1) X29 hx hby at_18 rfl (pc' := 19) rfl ?_
    refine g_icmp_ne X29 hx hby at_19 (by decide) (pc' := 26) (by decide) (pc2 := 22) rfl (fun c19_31 => ?_) (fun q => absurd q (by decide))
    refine g_iconst (v := 0) X29 hx hby at_26 rfl (pc' := 27) rfl ?_
    refine g_istoreN (L' := #[.val (.int y0), .val (.int (2 : Int32)), .val (.ref c2), .val (.int (0 : Int32))]) X29 hx hby at_27 rfl (pc' := 28) rfl ?_
    refine g_aloadN X29 hx hby at_28 rfl rfl (pc' := 29) rfl ?_
    refine g_callV (argsL := []) (S := []) (a := c2) X29 hx hby hZ (y := (⟨"com/example/query_workflow/queryworkflow/lifecycle/QueryState", "isStart", "()Z"⟩ : MethodName)) (y' := (⟨"com/example/query_workflow/queryworkflow/lifecycle/QueryState", "isStart", "()Z"⟩ : MethodName)) hown (hw _ (List.mem_of_getElem? (i := 8) rfl)) (hw _ (List.mem_of_getElem? (i := 9) rfl)) (notFace_of_selects (args := #[]) (mvT hZ (hw _ (List.mem_of_getElem? (i := 11) rfl)))) (hw _ (List.mem_of_getElem? (i := 11) rfl)) (hw _ (List.mem_of_getElem? (i := 10) rfl)) (hw _ (List.mem_of_getElem? (i := 6) rfl)) (hw _ (List.mem_of_getElem? (i := 12) rfl)) (by decide) Ex2 (own_rm2 l Z a0 hw c2 c0 c1 h0 n0 S0 S1) (by rw [hml]; rfl) (lenOf own_pd1 rfl) rfl at_29 (by decide) (W := 0) (by exact Nat.le_of_eq rfl) (by decide) (by decide) (by decide) (pc' := 32) rfl (fun T32 v32 X32 hQ32 => ?_)
    obtain ⟨rfl, e32⟩ := hQ32
    rw [e32] at X32
    have pk32 : own_start c2 c0 c1 = 0 := (if_neg hn2).trans (if_neg hm2)
    rw [pk32]
    show Gl p e below n0 _ _ (T32.setTop (mkF m 32 #[.val (.int y0), .val (.int (2 : Int32)), .val (.ref c2), .val (.int (0 : Int32))] [(.int (0 : Int32))]))
    refine g_iloadN X32 hx hby at_32 rfl (pc' := 33) rfl ?_
    refine g_icmp_ne X32 hx hby at_33 (by decide) (pc' := 40) (by decide) (pc2 := 36) rfl (fun q => absurd (by decide) q) (fun c33_33 => ?_)
    refine g_iconst (v := 1) X32 hx hby at_36 rfl (pc' := 37) rfl ?_
    refine g_goto X32 hx hby at_37 (by decide) (pc' := 41) (by decide) ?_
    exact g_retN X32 hx hby hret hlk (by simp) at_41 rfl (by decide) (by decide)
  · refine g_iloadN X0 hx hby at_8 rfl (pc' := 9) rfl ?_
    refine g_callS (argsL := [(.int (3 : Int32))]) (S := []) X0 hx hby hZ (y := (⟨"com/example/query_workflow/queryworkflow/lifecycle/QueryStateIsStartPinLaw", "pick", "(I)Lcom/example/query_workflow/queryworkflow/lifecycle/QueryState;"⟩ : MethodName)) hown (hw _ (List.mem_of_getElem? (i := 1) rfl)) (hw _ (List.mem_of_getElem? (i := 2) rfl)) (hw _ (List.mem_of_getElem? (i := 3) rfl)) (hw _ (List.mem_of_getElem? (i := 4) rfl)) (by decide) (own_rm1 l Z a0 hw (3 : Int32) c0 c1 c2 c3 c4 c5 h0 n0 S0 S1 S2 S3 S4 S5) (by rw [hml]; rfl) (lenOf own_pd0 rfl) rfl at_9 (by decide) (W := 0) (by exact Nat.le_of_eq rfl) (by decide) (by decide) (by decide) (pc' := 12) rfl (fun T34 v34 X34 hQ34 => ?_)
    obtain ⟨rfl, e34⟩ := hQ34
    rw [e34] at X34
    have pk34 : own_pick (3 : Int32) c0 c1 c2 c3 c4 c5 = c3 := by simp [own_pick]
    rw [pk34]
    show Gl p e below n0 _ _ (T34.setTop (mkF m 12 #[.val (.int y0), .val (.int (3 : Int32)), .unset, .unset] [(.ref c3)]))
    refine g_astoreN (L' := #[.val (.int y0), .val (.int (3 : Int32)), .val (.ref c3), .unset]) X34 hx hby at_12 rfl rfl (pc' := 13) rfl ?_
    refine g_iloadN X34 hx hby at_13 rfl (pc' := 14) rfl ?_
    refine g_if_eq X34 hx hby at_14 (by decide) (pc' := 22) (by decide) (pc2 := 17) rfl (fun q => absurd q (by decide)) (fun c14_35 => ?_)
    refine g_iloadN X34 hx hby at_17 rfl (pc' := 18) rfl ?_
    refine g_iconst (v := 1) X34 hx hby at_18 rfl (pc' := 19) rfl ?_
    refine g_icmp_ne X34 hx hby at_19 (by decide) (pc' := 26) (by decide) (pc2 := 22) rfl (fun c19_36 => ?_) (fun q => absurd q (by decide))
    refine g_iconst (v := 0) X34 hx hby at_26 rfl (pc' := 27) rfl ?_
    refine g_istoreN (L' := #[.val (.int y0), .val (.int (3 : Int32)), .val (.ref c3), .val (.int (0 : Int32))]) X34 hx hby at_27 rfl (pc' := 28) rfl ?_
    refine g_aloadN X34 hx hby at_28 rfl rfl (pc' := 29) rfl ?_
    refine g_callV (argsL := []) (S := []) (a := c3) X34 hx hby hZ (y := (⟨"com/example/query_workflow/queryworkflow/lifecycle/QueryState", "isStart", "()Z"⟩ : MethodName)) (y' := (⟨"com/example/query_workflow/queryworkflow/lifecycle/QueryState", "isStart", "()Z"⟩ : MethodName)) hown (hw _ (List.mem_of_getElem? (i := 8) rfl)) (hw _ (List.mem_of_getElem? (i := 9) rfl)) (notFace_of_selects (args := #[]) (mvT hZ (hw _ (List.mem_of_getElem? (i := 11) rfl)))) (hw _ (List.mem_of_getElem? (i := 11) rfl)) (hw _ (List.mem_of_getElem? (i := 10) rfl)) (hw _ (List.mem_of_getElem? (i := 6) rfl)) (hw _ (List.mem_of_getElem? (i := 12) rfl)) (by decide) Ex3 (own_rm2 l Z a0 hw c3 c0 c1 h0 n0 S0 S1) (by rw [hml]; rfl) (lenOf own_pd1 rfl) rfl at_29 (by decide) (W := 0) (by exact Nat.le_of_eq rfl) (by decide) (by decide) (by decide) (pc' := 32) rfl (fun T37 v37 X37 hQ37 => ?_)
    obtain ⟨rfl, e37⟩ := hQ37
    rw [e37] at X37
    have pk37 : own_start c3 c0 c1 = 0 := (if_neg hn3).trans (if_neg hm3)
    rw [pk37]
    show Gl p e below n0 _ _ (T37.setTop (mkF m 32 #[.val (.int y0), .val (.int (3 : Int32)), .val (.ref c3), .val (.int (0 : Int32))] [(.int (0 : Int32))]))
    refine g_iloadN X37 hx hby at_32 rfl (pc' := 33) rfl ?_
    refine g_icmp_ne X37 hx hby at_33 (by decide) (pc' := 40) (by decide) (pc2 := 36) rfl (fun q => absurd (by decide) q) (fun c33_38 => ?_)
    refine g_iconst (v := 1) X37 hx hby at_36 rfl (pc' := 37) rfl ?_
    refine g_goto X37 hx hby at_37 (by decide) (pc' := 41) (by decide) ?_
    exact g_retN X37 hx hby hret hlk (by simp) at_41 rfl (by decide) (by decide)
  · refine g_iloadN X0 hx hby at_8 rfl (pc' := 9) rfl ?_
    refine g_callS (argsL := [(.int (4 : Int32))]) (S := []) X0 hx hby hZ (y := (⟨"com/example/query_workflow/queryworkflow/lifecycle/QueryStateIsStartPinLaw", "pick", "(I)Lcom/example/query_workflow/queryworkflow/lifecycle/QueryState;"⟩ : MethodName)) hown (hw _ (List.mem_of_getElem? (i := 1) rfl)) (hw _ (List.mem_of_getElem? (i := 2) rfl)) (hw _ (List.mem_of_getElem? (i := 3) rfl)) (hw _ (List.mem_of_getElem? (i := 4) rfl)) (by decide) (own_rm1 l Z a0 hw (4 : Int32) c0 c1 c2 c3 c4 c5 h0 n0 S0 S1 S2 S3 S4 S5) (by rw [hml]; rfl) (lenOf own_pd0 rfl) rfl at_9 (by decide) (W := 0) (by exact Nat.le_of_eq rfl) (by decide) (by decide) (by decide) (pc' := 12) rfl (fun T39 v39 X39 hQ39 => ?_)
    obtain ⟨rfl, e39⟩ := hQ39
    rw [e39] at X39
    have pk39 : own_pick (4 : Int32) c0 c1 c2 c3 c4 c5 = c4 := by simp [own_pick]
    rw [pk39]
    show Gl p e below n0 _ _ (T39.setTop (mkF m 12 #[.val (.int y0), .val (.int (4 : Int32)), .unset, .unset] [(.ref c4)]))
    refine g_astoreN (L' := #[.val (.int y0), .val (.int (4 : Int32)), .val (.ref c4), .unset]) X39 hx hby at_12 rfl rfl (pc' := 13) rfl ?_
    refine g_iloadN X39 hx hby at_13 rfl (pc' := 14) rfl ?_
    refine g_if_eq X39 hx hby at_14 (by decide) (pc' := 22) (by decide) (pc2 := 17) rfl (fun q => absurd q (by decide)) (fun c14_40 => ?_)
    refine g_iloadN X39 hx hby at_17 rfl (pc' := 18) rfl ?_
    refine g_iconst (v := 1) X39 hx hby at_18 rfl (pc' := 19) rfl ?_
    refine g_icmp_ne X39 hx hby at_19 (by decide) (pc' := 26) (by decide) (pc2 := 22) rfl (fun c19_41 => ?_) (fun q => absurd q (by decide))
    refine g_iconst (v := 0) X39 hx hby at_26 rfl (pc' := 27) rfl ?_
    refine g_istoreN (L' := #[.val (.int y0), .val (.int (4 : Int32)), .val (.ref c4), .val (.int (0 : Int32))]) X39 hx hby at_27 rfl (pc' := 28) rfl ?_
    refine g_aloadN X39 hx hby at_28 rfl rfl (pc' := 29) rfl ?_
    refine g_callV (argsL := []) (S := []) (a := c4) X39 hx hby hZ (y := (⟨"com/example/query_workflow/queryworkflow/lifecycle/QueryState", "isStart", "()Z"⟩ : MethodName)) (y' := (⟨"com/example/query_workflow/queryworkflow/lifecycle/QueryState", "isStart", "()Z"⟩ : MethodName)) hown (hw _ (List.mem_of_getElem? (i := 8) rfl)) (hw _ (List.mem_of_getElem? (i := 9) rfl)) (notFace_of_selects (args := #[]) (mvT hZ (hw _ (List.mem_of_getElem? (i := 11) rfl)))) (hw _ (List.mem_of_getElem? (i := 11) rfl)) (hw _ (List.mem_of_getElem? (i := 10) rfl)) (hw _ (List.mem_of_getElem? (i := 6) rfl)) (hw _ (List.mem_of_getElem? (i := 12) rfl)) (by decide) Ex4 (own_rm2 l Z a0 hw c4 c0 c1 h0 n0 S0 S1) (by rw [hml]; rfl) (lenOf own_pd1 rfl) rfl at_29 (by decide) (W := 0) (by exact Nat.le_of_eq rfl) (by decide) (by decide) (by decide) (pc' := 32) rfl (fun T42 v42 X42 hQ42 => ?_)
    obtain ⟨rfl, e42⟩ := hQ42
    rw [e42] at X42
    have pk42 : own_start c4 c0 c1 = 0 := (if_neg hn4).trans (if_neg hm4)
    rw [pk42]
    show Gl p e below n0 _ _ (T42.setTop (mkF m 32 #[.val (.int y0), .val (.int (4 : Int32)), .val (.ref c4), .val (.int (0 : Int32))] [(.int (0 : Int32))]))
    refine g_iloadN X42 hx hby at_32 rfl (pc' := 33) rfl ?_
    refine g_icmp_ne X42 hx hby at_33 (by decide) (pc' := 40) (by decide) (pc2 := 36) rfl (fun q => absurd (by decide) q) (fun c33_43 => ?_)
    refine g_iconst (v := 1) X42 hx hby at_36 rfl (pc' := 37) rfl ?_
    refine g_goto X42 hx hby at_37 (by decide) (pc' := 41) (by decide) ?_
    exact g_retN X42 hx hby hret hlk (by simp) at_41 rfl (by decide) (by decide)
  · refine g_iloadN X0 hx hby at_8 rfl (pc' := 9) rfl ?_
    refine g_callS (argsL := [(.int (5 : Int32))]) (S := []) X0 hx hby hZ (y := (⟨"com/example/query_workflow/queryworkflow/lifecycle/QueryStateIsStartPinLaw", "pick", "(I)Lcom/example/query_workflow/queryworkflow/lifecycle/QueryState;"⟩ : MethodName)) hown (hw _ (List.mem_of_getElem? (i := 1) rfl)) (hw _ (List.mem_of_getElem? (i := 2) rfl)) (hw _ (List.mem_of_getElem? (i := 3) rfl)) (hw _ (List.mem_of_getElem? (i := 4) rfl)) (by decide) (own_rm1 l Z a0 hw (5 : Int32) c0 c1 c2 c3 c4 c5 h0 n0 S0 S1 S2 S3 S4 S5) (by rw [hml]; rfl) (lenOf own_pd0 rfl) rfl at_9 (by decide) (W := 0) (by exact Nat.le_of_eq rfl) (by decide) (by decide) (by decide) (pc' := 12) rfl (fun T44 v44 X44 hQ44 => ?_)
    obtain ⟨rfl, e44⟩ := hQ44
    rw [e44] at X44
    have pk44 : own_pick (5 : Int32) c0 c1 c2 c3 c4 c5 = c5 := by simp [own_pick]
    rw [pk44]
    show Gl p e below n0 _ _ (T44.setTop (mkF m 12 #[.val (.int y0), .val (.int (5 : Int32)), .unset, .unset] [(.ref c5)]))
    refine g_astoreN (L' := #[.val (.int y0), .val (.int (5 : Int32)), .val (.ref c5), .unset]) X44 hx hby at_12 rfl rfl (pc' := 13) rfl ?_
    refine g_iloadN X44 hx hby at_13 rfl (pc' := 14) rfl ?_
    refine g_if_eq X44 hx hby at_14 (by decide) (pc' := 22) (by decide) (pc2 := 17) rfl (fun q => absurd q (by decide)) (fun c14_45 => ?_)
    refine g_iloadN X44 hx hby at_17 rfl (pc' := 18) rfl ?_
    refine g_iconst (v := 1) X44 hx hby at_18 rfl (pc' := 19) rfl ?_
    refine g_icmp_ne X44 hx hby at_19 (by decide) (pc' := 26) (by decide) (pc2 := 22) rfl (fun c19_46 => ?_) (fun q => absurd q (by decide))
    refine g_iconst (v := 0) X44 hx hby at_26 rfl (pc' := 27) rfl ?_
    refine g_istoreN (L' := #[.val (.int y0), .val (.int (5 : Int32)), .val (.ref c5), .val (.int (0 : Int32))]) X44 hx hby at_27 rfl (pc' := 28) rfl ?_
    refine g_aloadN X44 hx hby at_28 rfl rfl (pc' := 29) rfl ?_
    refine g_callV (argsL := []) (S := []) (a := c5) X44 hx hby hZ (y := (⟨"com/example/query_workflow/queryworkflow/lifecycle/QueryState", "isStart", "()Z"⟩ : MethodName)) (y' := (⟨"com/example/query_workflow/queryworkflow/lifecycle/QueryState", "isStart", "()Z"⟩ : MethodName)) hown (hw _ (List.mem_of_getElem? (i := 8) rfl)) (hw _ (List.mem_of_getElem? (i := 9) rfl)) (notFace_of_selects (args := #[]) (mvT hZ (hw _ (List.mem_of_getElem? (i := 11) rfl)))) (hw _ (List.mem_of_getElem? (i := 11) rfl)) (hw _ (List.mem_of_getElem? (i := 10) rfl)) (hw _ (List.mem_of_getElem? (i := 6) rfl)) (hw _ (List.mem_of_getElem? (i := 12) rfl)) (by decide) Ex5 (own_rm2 l Z a0 hw c5 c0 c1 h0 n0 S0 S1) (by rw [hml]; rfl) (lenOf own_pd1 rfl) rfl at_29 (by decide) (W := 0) (by exact Nat.le_of_eq rfl) (by decide) (by decide) (by decide) (pc' := 32) rfl (fun T47 v47 X47 hQ47 => ?_)
    obtain ⟨rfl, e47⟩ := hQ47
    rw [e47] at X47
    have pk47 : own_start c5 c0 c1 = 0 := (if_neg hn5).trans (if_neg hm5)
    rw [pk47]
    show Gl p e below n0 _ _ (T47.setTop (mkF m 32 #[.val (.int y0), .val (.int (5 : Int32)), .val (.ref c5), .val (.int (0 : Int32))] [(.int (0 : Int32))]))
    refine g_iloadN X47 hx hby at_32 rfl (pc' := 33) rfl ?_
    refine g_icmp_ne X47 hx hby at_33 (by decide) (pc' := 40) (by decide) (pc2 := 36) rfl (fun q => absurd (by decide) q) (fun c33_48 => ?_)
    refine g_iconst (v := 1) X47 hx hby at_36 rfl (pc' := 37) rfl ?_
    refine g_goto X47 hx hby at_37 (by decide) (pc' := 41) (by decide) ?_
    exact g_retN X47 hx hby hret hlk (by simp) at_41 rfl (by decide) (by decide)
set_option maxRecDepth 65536 in
set_option maxHeartbeats 40000000 in
theorem comes_1 {Post : Tables → Env → Array Value → State → Outcome → State → Prop} (hpost : ∀ tb e args s v u, (limb_1_1.after args s (.returned v) u = true ∧ limb_1_2.after args s (.returned v) u = true ∧ True) → FrameEnd s (.returned v) u (Jvm.fieldLocs frame_1_writes args s ++ Jvm.arrayLocs frame_1_arrays args s ++ Jvm.staticLocs frame_1_statics s) 0 0 → Post tb e args s (.returned v) u) :
    ArmFor flags0 classFile x code maxLocals ret World_1 tables_1 room_1 Calls_1 rest_1 Pre_1 Post := by
  intro l hfl _ _ p e ha hc hk s m args below hf hA hF happ hP
  obtain ⟨hcalls, hrest, hpre⟩ := hP
  obtain ⟨-, -, -, hnamed, -, -, -, hat⟩ := (Spec.applies_iff hf).mp happ
  obtain ⟨hg, hn⟩ := and_e (Cond.before_iff.mp (show (Jvm.Cond.and given_1 narrow_1).before args s = true from hpre))
  obtain ⟨hcount, hg0⟩ := and_e hg
  obtain ⟨w0, rfl⟩ : ∃ w0 : Value, args = #[w0] := by
    have hs : args.size = 1 := by simpa [Cond.value, given_1] using hcount
    obtain ⟨L⟩ := args
    match L, hs with
    | [w0], _ => exact ⟨w0, rfl⟩
  have hw := fun d (hd : d ∈ tables_1) => atoms_spec (ws := Jvm.Cond.code x code maxLocals ret :: tables_1) hat d (List.mem_cons_of_mem _ hd)
  have hfit : Fit s := fun {y c} hc i hi => by
    obtain ⟨ha, rfl⟩ := Array.getElem?_eq_some_iff.mp hc
    have q := List.all_eq_true.mp ((Array.all_eq_true_iff_forall_mem.mp hF) _ (Array.getElem_mem ha)) i (List.mem_range.mpr hi)
    simpa [Array.getElem?_eq_getElem hi] using q
  obtain ⟨i0, e0⟩ := is_v hg0
  obtain rfl : w0 = (.int i0) := Option.some.inj e0
  obtain ⟨nn0, hn⟩ := and_e hn
  obtain ⟨nn1, hn⟩ := and_e hn
  obtain ⟨nn2, hn⟩ := and_e hn
  obtain ⟨nn3, hn⟩ := and_e hn
  obtain ⟨nn4, hn⟩ := and_e hn
  obtain ⟨nn5, hn⟩ := and_e hn
  obtain ⟨nn6, hn⟩ := and_e hn
  obtain ⟨nn7, hn⟩ := and_e hn
  obtain ⟨nn8, hn⟩ := and_e hn
  obtain ⟨nn9, hn⟩ := and_e hn
  obtain ⟨nn10, hn⟩ := and_e hn
  obtain ⟨c0, ev0⟩ := exa_v nn0
  have S0 := Sta.start ev0 (Or.inr ⟨(hw _ (List.mem_of_getElem? (i := 6) rfl)), (hw _ (List.mem_of_getElem? (i := 7) rfl))⟩)
  have F0 := Fld.start ((fld_at ev0).symm.trans (own_eq_int nn3))
  obtain ⟨c1, ev1⟩ := exa_v nn4
  have S1 := Sta.start ev1 (Or.inr ⟨(hw _ (List.mem_of_getElem? (i := 6) rfl)), (hw _ (List.mem_of_getElem? (i := 17) rfl))⟩)
  have F1 := Fld.start ((fld_at ev1).symm.trans (own_eq_int nn5))
  obtain ⟨c2, ev2⟩ := exa_v nn6
  have S2 := Sta.start ev2 (Or.inr ⟨(hw _ (List.mem_of_getElem? (i := 6) rfl)), (hw _ (List.mem_of_getElem? (i := 19) rfl))⟩)
  have F2 := Fld.start ((fld_at ev2).symm.trans (own_eq_int nn7))
  obtain ⟨c3, ev3⟩ := exa_v nn1
  have S3 := Sta.start ev3 (Or.inr ⟨(hw _ (List.mem_of_getElem? (i := 6) rfl)), (hw _ (List.mem_of_getElem? (i := 15) rfl))⟩)
  have F3 := Fld.start ((fld_at ev3).symm.trans (own_eq_int nn2))
  obtain ⟨c4, ev4⟩ := exa_v nn10
  have S4 := Sta.start ev4 (Or.inr ⟨(hw _ (List.mem_of_getElem? (i := 6) rfl)), (hw _ (List.mem_of_getElem? (i := 24) rfl))⟩)
  have F4 := Fld.start ((fld_at ev4).symm.trans (own_eq_int hn))
  obtain ⟨c5, ev5⟩ := exa_v nn8
  have S5 := Sta.start ev5 (Or.inr ⟨(hw _ (List.mem_of_getElem? (i := 6) rfl)), (hw _ (List.mem_of_getElem? (i := 22) rfl))⟩)
  have F5 := Fld.start ((fld_at ev5).symm.trans (own_eq_int nn9))
  have hn1 : ¬ Value.ref c1 = Value.ref c0 := fun q => by cases q; exact absurd (own_fld_inj F1 F0) (by decide)
  have hn2 : ¬ Value.ref c2 = Value.ref c0 := fun q => by cases q; exact absurd (own_fld_inj F2 F0) (by decide)
  have hn3 : ¬ Value.ref c3 = Value.ref c0 := fun q => by cases q; exact absurd (own_fld_inj F3 F0) (by decide)
  have hn4 : ¬ Value.ref c4 = Value.ref c0 := fun q => by cases q; exact absurd (own_fld_inj F4 F0) (by decide)
  have hn5 : ¬ Value.ref c5 = Value.ref c0 := fun q => by cases q; exact absurd (own_fld_inj F5 F0) (by decide)
  have hm2 : ¬ Value.ref c2 = Value.ref c1 := fun q => by cases q; exact absurd (own_fld_inj F2 F1) (by decide)
  have hm3 : ¬ Value.ref c3 = Value.ref c1 := fun q => by cases q; exact absurd (own_fld_inj F3 F1) (by decide)
  have hm4 : ¬ Value.ref c4 = Value.ref c1 := fun q => by cases q; exact absurd (own_fld_inj F4 F1) (by decide)
  have hm5 : ¬ Value.ref c5 = Value.ref c1 := fun q => by cases q; exact absurd (own_fld_inj F5 F1) (by decide)
  obtain ⟨n, o, h1, h2, h3, _, L, rfl, ⟨rfl, N⟩, hq⟩ := own_rm0 l s _ hw i0 s.heap s.heap.size c0 c1 c2 c3 c4 c5 S0 S1 S2 S3 S4 S5 (Exa.start ev0 nn0) (Exa.start ev1 nn4) (Exa.start ev2 nn6) (Exa.start ev3 nn1) (Exa.start ev4 nn10) (Exa.start ev5 nn8) hn1 hn2 hn3 hn4 hn5 hm2 hm3 hm4 hm5 p e ha hc hk s m _ below hf ((Spec.applies_iff_loose hf).mp happ).1 ⟨rfl, State.Warmed39.refl s, rfl⟩ trivial
  exact ⟨n, _, h1, h2, h3, hpost _ _ _ _ _ _ ⟨Cond.after_iff.mpr rfl, Cond.after_iff.mpr (eq_i res_at (Term.int_eval (1)) rfl), trivial⟩ ⟨hq.1, hq.2.1, (hq.2.2.sift fun y hy => Or.inr (N y hy)).mono (by decide) (by decide)⟩⟩
theorem main_1_1 : Claimed_1_1 := comes_1 fun _ _ _ _ _ _ h hF => ⟨h.1, hF⟩
theorem main_1_2 : Claimed_1_2 := comes_1 fun _ _ _ _ _ _ h hF => ⟨h.2.1, hF⟩
end Jvm.Pilot.@@N@@
namespace Jvm.Pilot.@@N@@
open Jvm Jvm.ClassFile Sem Op Lib Jvm.Free Jvm.Stand Jvm.Pilot.@@N@@.Jvm.D
/-! MADE BY PROGRAM (witnessworld.py) out of the Statement's table words and the real class files: 12 classes; the members and pool entries that the words name. The judged class is class 1, her method 1. -/
namespace start1
open Jvm.ClassFile
def u (s : String) : CpInfo := .utf8 (stringToUtf16 s)
/-- a pool by its gaps: so many unusable entries, then the entry; so many at the end -/
def gap : Nat → List CpInfo → List CpInfo
  | 0, r => r
  | n + 1, r => .unusable :: gap n r
def poolList (es : List (Nat × CpInfo)) (last : Nat) : List CpInfo := es.foldr (fun e r => gap e.1 (e.2 :: r)) (gap last [])
def pool (es : List (Nat × CpInfo)) (last : Nat) : Array CpInfo := ⟨poolList es last⟩
def fileOf (pool : Array CpInfo) (this : Nat) (attrs : Array Attribute := #[]) (ms : Array MethodInfo := #[]) (fl : Nat := 33) (sup : Nat := 0) (ifs : Array Nat := #[]) (fds : Array FieldInfo := #[]) : ClassFile where
  minorVersion := 0
  majorVersion := 65
  constantPool := pool
  accessFlags := fl
  thisClass := this
  superClass := sup
  interfaces := ifs
  fields := fds
  methods := ms
  attributes := attrs
def plain (name : String) (sup : Option ClassId) : Class where
  name := name
  kind := .ordinary
  loader := none
  accessFlags := 33
  super := sup
  interfaces := #[]
  cf := none
  fields := #[]
  methods := #[]
  instanceTypes := #[]
  staticTypes := #[]
  resolved := #[]
  callSites := []
  init := .initialized
  statics := none
  mirror := none

def pool0 : Array CpInfo := pool [(5, u "<init>"), (0, u "()V"), (1, .class_ 10), (1, u "java/lang/Object")] 113

def k0m0 : Method := { name := "<init>", desc := "()V", sig := { parameters := [], returnType := none }, accessFlags := 1, code := none }
/-- java/lang/Object -/
def k0 : Class := { plain "java/lang/Object" none with
  accessFlags := 33
  interfaces := #[]
  cf := some (fileOf pool0 8 #[] #[{ accessFlags := 1, nameIndex := 5, descriptorIndex := 6, attributes := #[] }] 33 0 #[] #[])
  fields := #[]
  methods := #[k0m0]
  instanceTypes := #[]
  staticTypes := #[]
  resolved := Array.replicate 124 none
  statics := none }

def pool1 : Array CpInfo := pool [(2, .class_ 4), (1, u "java/lang/Object"), (0, u "<init>"), (0, u "()V"), (0, .integer 2147483647), (0, .methodref 9 10), (0, .class_ 11), (0, .nameAndType 12 13), (0, u "com/example/query_workflow/queryworkflow/lifecycle/QueryStateIsStartPinLaw"), (0, u "pick"), (0, u "(I)Lcom/example/query_workflow/queryworkflow/lifecycle/QueryState;"), (0, .methodref 15 16), (0, .class_ 17), (0, .nameAndType 18 19), (0, u "com/example/query_workflow/queryworkflow/lifecycle/QueryState"), (0, u "isStart"), (0, u "()Z"), (0, .fieldref 15 21), (0, .nameAndType 22 23), (0, u "CANDIDATE"), (0, u "Lcom/example/query_workflow/queryworkflow/lifecycle/QueryState;"), (0, .fieldref 15 25), (0, .nameAndType 26 23), (0, u "OPEN"), (0, .fieldref 15 28), (0, .nameAndType 29 23), (0, u "ANSWERED"), (0, .fieldref 15 31), (0, .nameAndType 32 23), (0, u "CLOSED"), (0, .fieldref 15 34), (0, .nameAndType 35 23), (0, u "CANCELLED"), (0, .fieldref 15 37), (0, .nameAndType 38 23), (0, u "RESOLVED"), (2, u "law"), (0, u "(I)Z")] 3

def k1m0 : Method := { name := "<init>", desc := "()V", sig := { parameters := [], returnType := none }, accessFlags := 2, code := none }
def k1c1 : Code := { maxStack := 2, maxLocals := 4, code := code, exceptionTable := #[], attributes := #[] }
def k1m1 : Method := { name := "law", desc := "(I)Z", sig := { parameters := [.int], returnType := some .boolean }, accessFlags := 9, code := some k1c1 }
def k1c2 : Code := { maxStack := 2, maxLocals := 1, code := method_3_code, exceptionTable := #[], attributes := #[] }
def k1m2 : Method := { name := "pick", desc := "(I)Lcom/example/query_workflow/queryworkflow/lifecycle/QueryState;", sig := { parameters := [.int], returnType := some (.object "com/example/query_workflow/queryworkflow/lifecycle/QueryState") }, accessFlags := 10, code := some k1c2 }
/-- com/example/query_workflow/queryworkflow/lifecycle/QueryStateIsStartPinLaw -/
def k1 : Class := { plain "com/example/query_workflow/queryworkflow/lifecycle/QueryStateIsStartPinLaw" (some 0) with
  accessFlags := 49
  interfaces := #[]
  cf := some (fileOf pool1 9 #[] #[{ accessFlags := 2, nameIndex := 5, descriptorIndex := 6, attributes := #[] }, { accessFlags := 9, nameIndex := 41, descriptorIndex := 42, attributes := #[] }, { accessFlags := 10, nameIndex := 12, descriptorIndex := 13, attributes := #[] }] 49 2 #[] #[])
  fields := #[]
  methods := #[k1m0, k1m1, k1m2]
  instanceTypes := #[]
  staticTypes := #[]
  resolved := Array.replicate 46 none
  statics := none }

def pool2 : Array CpInfo := pool [(1, .class_ 2), (0, u "java/lang/constant/Constable"), (0, .class_ 4), (0, u "java/lang/Object")] 6

/-- java/lang/constant/Constable -/
def k2 : Class := { plain "java/lang/constant/Constable" (some 0) with
  accessFlags := 1537
  interfaces := #[]
  cf := some (fileOf pool2 1 #[] #[] 1537 3 #[] #[])
  fields := #[]
  methods := #[]
  instanceTypes := #[]
  staticTypes := #[]
  resolved := Array.replicate 11 none
  statics := none }

def pool3 : Array CpInfo := pool [(1, .class_ 2), (0, u "java/lang/Comparable"), (0, .class_ 4), (0, u "java/lang/Object")] 7

/-- java/lang/Comparable -/
def k3 : Class := { plain "java/lang/Comparable" (some 0) with
  accessFlags := 1537
  interfaces := #[]
  cf := some (fileOf pool3 1 #[] #[] 1537 3 #[] #[])
  fields := #[]
  methods := #[]
  instanceTypes := #[]
  staticTypes := #[]
  resolved := Array.replicate 12 none
  statics := none }

def pool4 : Array CpInfo := pool [(1, .class_ 2), (0, u "java/io/Serializable"), (0, .class_ 4), (0, u "java/lang/Object")] 2

/-- java/io/Serializable -/
def k4 : Class := { plain "java/io/Serializable" (some 0) with
  accessFlags := 1537
  interfaces := #[]
  cf := some (fileOf pool4 1 #[] #[] 1537 3 #[] #[])
  fields := #[]
  methods := #[]
  instanceTypes := #[]
  staticTypes := #[]
  resolved := Array.replicate 7 none
  statics := none }

def pool5 : Array CpInfo := pool [(2, .class_ 4), (1, u "java/lang/Enum"), (0, u "name"), (0, u "Ljava/lang/String;"), (2, u "ordinal"), (0, u "I"), (1, .class_ 14), (1, u "java/lang/Object"), (4, u "hash"), (86, .class_ 108), (1, u "java/lang/Enum$EnumDesc"), (2, .class_ 112), (0, u "java/lang/constant/Constable"), (0, .class_ 114), (0, u "java/lang/Comparable"), (0, .class_ 116), (0, u "java/io/Serializable")] 87

/-- java/lang/Enum -/
def k5 : Class := { plain "java/lang/Enum" (some 0) with
  accessFlags := 1057
  interfaces := #[2, 3, 4]
  cf := some (fileOf pool5 2 #[.nestMembers #[106]] #[] 1057 12 #[111, 113, 115] #[{ accessFlags := 18, nameIndex := 5, descriptorIndex := 6, attributes := #[] }, { accessFlags := 18, nameIndex := 9, descriptorIndex := 10, attributes := #[] }, { accessFlags := 2, nameIndex := 19, descriptorIndex := 10, attributes := #[] }])
  fields := #[{ name := "name", type := (.object "java/lang/String"), accessFlags := 18, slot := 0, constantValue := 0 }, { name := "ordinal", type := .int, accessFlags := 18, slot := 1, constantValue := 0 }, { name := "hash", type := .int, accessFlags := 2, slot := 2, constantValue := 0 }]
  methods := #[]
  instanceTypes := #[(.object "java/lang/String"), .int, .int]
  staticTypes := #[]
  resolved := Array.replicate 204 none
  statics := none }

def pool6 : Array CpInfo := pool [(1, .class_ 2), (0, u "com/example/query_workflow/queryworkflow/lifecycle/QueryState"), (0, .fieldref 1 4), (0, .nameAndType 5 6), (0, u "CANDIDATE"), (0, u "Lcom/example/query_workflow/queryworkflow/lifecycle/QueryState;"), (0, .fieldref 1 8), (0, .nameAndType 9 6), (0, u "OPEN"), (2, u "ANSWERED"), (2, u "CLOSED"), (2, u "CANCELLED"), (2, u "RESOLVED"), (2, u "$VALUES"), (0, u "[Lcom/example/query_workflow/queryworkflow/lifecycle/QueryState;"), (6, .class_ 34), (1, u "java/lang/Enum"), (8, u "label"), (0, u "Ljava/lang/String;"), (2, u "CHANGES"), (0, u "Ljava/util/Map;"), (11, u "()Z"), (43, u "START_STATES"), (0, u "Ljava/util/List;"), (107, u "isStart")] 64

def k6c0 : Code := { maxStack := 2, maxLocals := 1, code := prog_27_method_5_code, exceptionTable := #[], attributes := #[] }
def k6m0 : Method := { name := "isStart", desc := "()Z", sig := { parameters := [], returnType := some .boolean }, accessFlags := 1, code := some k6c0 }
/-- com/example/query_workflow/queryworkflow/lifecycle/QueryState -/
def k6 : Class := { plain "com/example/query_workflow/queryworkflow/lifecycle/QueryState" (some 5) with
  accessFlags := 16433
  interfaces := #[]
  cf := some (fileOf pool6 1 #[] #[{ accessFlags := 1, nameIndex := 213, descriptorIndex := 60, attributes := #[] }] 16433 32 #[] #[{ accessFlags := 16409, nameIndex := 5, descriptorIndex := 6, attributes := #[] }, { accessFlags := 16409, nameIndex := 9, descriptorIndex := 6, attributes := #[] }, { accessFlags := 16409, nameIndex := 12, descriptorIndex := 6, attributes := #[] }, { accessFlags := 16409, nameIndex := 15, descriptorIndex := 6, attributes := #[] }, { accessFlags := 16409, nameIndex := 18, descriptorIndex := 6, attributes := #[] }, { accessFlags := 16409, nameIndex := 21, descriptorIndex := 6, attributes := #[] }, { accessFlags := 25, nameIndex := 104, descriptorIndex := 105, attributes := #[] }, { accessFlags := 26, nameIndex := 47, descriptorIndex := 48, attributes := #[] }, { accessFlags := 18, nameIndex := 43, descriptorIndex := 44, attributes := #[] }, { accessFlags := 4122, nameIndex := 24, descriptorIndex := 25, attributes := #[] }])
  fields := #[{ name := "CANDIDATE", type := (.object "com/example/query_workflow/queryworkflow/lifecycle/QueryState"), accessFlags := 16409, slot := 0, constantValue := 0 }, { name := "OPEN", type := (.object "com/example/query_workflow/queryworkflow/lifecycle/QueryState"), accessFlags := 16409, slot := 1, constantValue := 0 }, { name := "ANSWERED", type := (.object "com/example/query_workflow/queryworkflow/lifecycle/QueryState"), accessFlags := 16409, slot := 2, constantValue := 0 }, { name := "CLOSED", type := (.object "com/example/query_workflow/queryworkflow/lifecycle/QueryState"), accessFlags := 16409, slot := 3, constantValue := 0 }, { name := "CANCELLED", type := (.object "com/example/query_workflow/queryworkflow/lifecycle/QueryState"), accessFlags := 16409, slot := 4, constantValue := 0 }, { name := "RESOLVED", type := (.object "com/example/query_workflow/queryworkflow/lifecycle/QueryState"), accessFlags := 16409, slot := 5, constantValue := 0 }, { name := "START_STATES", type := (.object "java/util/List"), accessFlags := 25, slot := 6, constantValue := 0 }, { name := "CHANGES", type := (.object "java/util/Map"), accessFlags := 26, slot := 7, constantValue := 0 }, { name := "label", type := (.object "java/lang/String"), accessFlags := 18, slot := 3, constantValue := 0 }, { name := "$VALUES", type := (.array (.object "com/example/query_workflow/queryworkflow/lifecycle/QueryState")), accessFlags := 4122, slot := 8, constantValue := 0 }]
  methods := #[k6m0]
  instanceTypes := #[(.object "java/lang/String"), .int, .int, (.object "java/lang/String")]
  staticTypes := #[(.object "com/example/query_workflow/queryworkflow/lifecycle/QueryState"), (.object "com/example/query_workflow/queryworkflow/lifecycle/QueryState"), (.object "com/example/query_workflow/queryworkflow/lifecycle/QueryState"), (.object "com/example/query_workflow/queryworkflow/lifecycle/QueryState"), (.object "com/example/query_workflow/queryworkflow/lifecycle/QueryState"), (.object "com/example/query_workflow/queryworkflow/lifecycle/QueryState"), (.object "java/util/List"), (.object "java/util/Map"), (.array (.object "com/example/query_workflow/queryworkflow/lifecycle/QueryState"))]
  resolved := Array.replicate 278 none
  statics := some 0 }

def pool7 : Array CpInfo := pool [(1, u "java/lang/Cloneable"), (0, .class_ 1), (0, u "java/lang/Object"), (0, .class_ 3)] 3

/-- java/lang/Cloneable -/
def k7 : Class := { plain "java/lang/Cloneable" (some 0) with
  accessFlags := 1537
  interfaces := #[]
  cf := some (fileOf pool7 2 #[] #[] 1537 4 #[] #[])
  fields := #[]
  methods := #[]
  instanceTypes := #[]
  staticTypes := #[]
  resolved := Array.replicate 8 none
  statics := none }

/-- the primitive byte -/
def k8 : Class := { plain "byte" none with kind := .primitive 'B', accessFlags := 0x411 }
/-- [B -/
def k9 : Class := { plain "[B" (some 0) with kind := .array 8 .byte, interfaces := #[7, 4], accessFlags := 1041 }

/-- the primitive int -/
def k10 : Class := { plain "int" none with kind := .primitive 'I', accessFlags := 0x411 }
/-- [I -/
def k11 : Class := { plain "[I" (some 0) with kind := .array 10 .int, interfaces := #[7, 4], accessFlags := 1041 }

def heap : Heap := #[{ cls := 6, slots := #[.ref 1, .ref 2, .ref 3, .ref 4, .ref 5, .ref 6, .null, .null, .null], vm := .statics 6 },
  { cls := 6, slots := #[.null, .int 0, .int 0, .null], vm := .none },
  { cls := 6, slots := #[.null, .int 1, .int 0, .null], vm := .none },
  { cls := 6, slots := #[.null, .int 2, .int 0, .null], vm := .none },
  { cls := 6, slots := #[.null, .int 3, .int 0, .null], vm := .none },
  { cls := 6, slots := #[.null, .int 4, .int 0, .null], vm := .none },
  { cls := 6, slots := #[.null, .int 5, .int 0, .null], vm := .none }]
def classes : Array Class := #[k0, k1, k2, k3, k4, k5, k6, k7, k8, k9, k10, k11]
def interned : List (Array UInt16 × Addr) := []
def slotsUsed : Nat := 33
def theMethod : MethodId := ⟨1, 1⟩
def args0 : Array Value := #[.int 5]
def aboutOver (below : List Frame) : State where
  vm := { classes := classes, interned := interned.toArray }
  heap := heap
  slotsUsed := slotsUsed
  threads := #[{ frames := .invoking theMethod args0 :: below }]
def below0 : List Frame := [.native { method := ⟨0, 0⟩, args := #[] }]
def about1 : State := aboutOver below0
def p0 : Program := .bare "" "" ""
def e0 : Env := launch0.env 0 0 0
theorem w_frames : about1.frames = Frame.invoking theMethod args0 :: below0 := rfl
set_option maxRecDepth 65536 in
theorem w_args : argsFit about1.vm theMethod args0 = true := by decide +kernel
set_option maxRecDepth 65536 in
theorem w_heap : heapFits about1 = true := by decide +kernel
set_option maxRecDepth 65536 in
theorem w_runnable : about1.curStatus? = some .runnable := by decide +kernel
set_option maxRecDepth 65536 in
theorem w_alone : about1.alone = true := by decide +kernel
set_option maxRecDepth 65536 in
theorem w_named : about1.methodNamed? x = some theMethod := by decide +kernel
set_option maxRecDepth 65536 in
theorem w_hears : about1.hears theMethod below0 = true := by decide +kernel
set_option maxRecDepth 65536 in
theorem w_ripe : about1.ripe theMethod args0 below0 = true := by decide +kernel
theorem w_running : about1.status = .running := rfl
set_option maxRecDepth 65536 in
theorem w_room : about1.hasRoom e0.platform room_1 = true :=
  launch0.hasRoom_least _ room_1 (by decide +kernel) (by decide +kernel) (by decide +kernel) (by decide +kernel) (by decide +kernel) (by decide +kernel)
theorem allAtoms_all (ts : List Jvm.Cond) (a : Array Jvm.Value) (st : Jvm.State) : (allAtoms ts).before a st = ts.all (fun c => c.before a st) := by
  induction ts with
  | nil => rfl
  | cons c t ih =>
    show (Jvm.Cond.and c (allAtoms t)).before a st = _
    rw [Jvm.Cond.before_and, ih, List.all_cons]
def words1 : List Jvm.Cond := Jvm.Cond.code x code maxLocals ret :: tables_1
/-- a 'code' word, met by the world's own term for the bytes: nothing is compared byte by byte -/
theorem code_word {y : MethodName} {bytes : ByteArray} {mx : Nat} {rt : Option FieldType} {a : Array Value} {s : State} {m : MethodId} {meth : Method} {c : Code} (h1 : s.methodNamed? y = some m) (h2 : s.vm.method? m = some meth) (h3 : meth.code = some c) (h4 : c.code = bytes)
    (h5 : (c.maxLocals == mx && c.exceptionTable.isEmpty && decide (c.maxStack ≤ mostOperands) && decide (meth.sig.returnType = rt) && !meth.locks && decide (parseMethodDescriptor y.desc = some meth.sig)) = true) : (Jvm.Cond.code y bytes mx rt).before a s = true := by
  simp only [Bool.and_eq_true, beq_iff_eq, Bool.not_eq_true', decide_eq_true_eq] at h5
  obtain ⟨⟨⟨⟨⟨g1, g2⟩, g3⟩, g4⟩, g5⟩, g6⟩ := h5
  simp [Cond.before, Cond.holds, Cond.value, h1, h2, h3, h4, g1, g2, g3, g4, g5, g6]
def isCode : Jvm.Cond → Bool
  | .code _ _ _ _ => true
  | _ => false
theorem all_split {L : List Jvm.Cond} {P : Jvm.Cond → Bool} (h1 : L.all (fun c => isCode c || P c) = true) (h2 : ∀ c ∈ L.filter isCode, P c = true) : L.all P = true := by
  refine List.all_eq_true.mpr fun c hc => ?_
  have h := List.all_eq_true.mp h1 c hc
  rcases Bool.eq_false_or_eq_true (isCode c) with hi | hi
  · exact h2 c (List.mem_filter.mpr ⟨hc, hi⟩)
  · simpa [hi] using h
set_option maxRecDepth 65536 in
theorem w_c0 : (Jvm.Cond.code x code maxLocals ret).before args0 about1 = true := code_word (m := ⟨1, 1⟩) (meth := k1m1) (c := k1c1) (by decide +kernel) rfl rfl rfl (by decide +kernel)
set_option maxRecDepth 65536 in
theorem w_c1 : (Jvm.Cond.code ({ cls := "com/example/query_workflow/queryworkflow/lifecycle/QueryStateIsStartPinLaw", name := "pick", desc := "(I)Lcom/example/query_workflow/queryworkflow/lifecycle/QueryState;" } : Jvm.MethodName) method_3_code (1 : Nat) (Option.some (Jvm.ClassFile.FieldType.object "com/example/query_workflow/queryworkflow/lifecycle/QueryState"))).before args0 about1 = true := code_word (m := ⟨1, 2⟩) (meth := k1m2) (c := k1c2) (by decide +kernel) rfl rfl rfl (by decide +kernel)
set_option maxRecDepth 65536 in
theorem w_c2 : (Jvm.Cond.code ({ cls := "com/example/query_workflow/queryworkflow/lifecycle/QueryState", name := "isStart", desc := "()Z" } : Jvm.MethodName) prog_27_method_5_code (1 : Nat) (Option.some Jvm.ClassFile.FieldType.boolean)).before args0 about1 = true := code_word (m := ⟨6, 0⟩) (meth := k6m0) (c := k6c0) (by decide +kernel) rfl rfl rfl (by decide +kernel)
def codes1 : List Jvm.Cond := [Jvm.Cond.code x code maxLocals ret, Jvm.Cond.code ({ cls := "com/example/query_workflow/queryworkflow/lifecycle/QueryStateIsStartPinLaw", name := "pick", desc := "(I)Lcom/example/query_workflow/queryworkflow/lifecycle/QueryState;" } : Jvm.MethodName) method_3_code (1 : Nat) (Option.some (Jvm.ClassFile.FieldType.object "com/example/query_workflow/queryworkflow/lifecycle/QueryState")), Jvm.Cond.code ({ cls := "com/example/query_workflow/queryworkflow/lifecycle/QueryState", name := "isStart", desc := "()Z" } : Jvm.MethodName) prog_27_method_5_code (1 : Nat) (Option.some Jvm.ClassFile.FieldType.boolean)]
set_option maxRecDepth 65536 in
theorem codes_eq : words1.filter isCode = codes1 := rfl
theorem w_codes : ∀ c ∈ words1.filter isCode, c.before args0 about1 = true := by
  rw [codes_eq]
  intro c hc
  simp only [codes1, List.mem_cons, List.not_mem_nil, or_false] at hc
  rcases hc with rfl | rfl | rfl
  · exact w_c0
  · exact w_c1
  · exact w_c2
set_option maxRecDepth 65536 in
theorem w_t1 : (words1.take 24).all (fun c => isCode c || c.before args0 about1) = true := by decide +kernel
set_option maxRecDepth 65536 in
theorem w_t2 : (words1.drop 24).all (fun c => isCode c || c.before args0 about1) = true := by decide +kernel
theorem w_tables : (allAtoms (Jvm.Cond.code x code maxLocals ret :: tables_1)).before args0 about1 = true := by
  rw [allAtoms_all]
  show words1.all (fun c => c.before args0 about1) = true
  refine all_split ?_ w_codes
  rw [← List.take_append_drop 24 words1, List.all_append, w_t1, w_t2]
  rfl
set_option maxRecDepth 65536 in
theorem w_case : (Jvm.Cond.and given_1 narrow_1).before args0 about1 = true := by decide +kernel
theorem w_applies : (headSpec (Jvm.Cond.code x code maxLocals ret :: tables_1) room_1).applies x e0.platform about1 = true :=
  (Spec.applies_iff w_frames).mpr ⟨w_running, w_runnable, w_alone, w_named, w_hears, w_ripe, w_room, w_tables⟩
theorem atStart : AtStart classFile x code maxLocals ret World_1 tables_1 room_1 Calls_1 rest_1 Pre_1 launch0 p0 e0 about1 theMethod args0 below0 :=
  ⟨lists_1, trivial, launch0.admits_env _ _ _, launch0.least_env, fairChoices_fair.cas, fairChoices_fair.clock, w_frames, w_args, w_heap, w_applies, trivial, trivial, w_case⟩
end start1
theorem witness_1 : WitnessClaimed_1 := ⟨start1.p0, start1.e0, start1.about1, start1.theMethod, start1.args0, start1.below0, start1.atStart⟩
end Jvm.Pilot.@@N@@
