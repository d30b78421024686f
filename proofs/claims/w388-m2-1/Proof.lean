import JvmDerived
import JvmDerived.Pilot.@@N@@Statement
import JvmDerived.Pilot.@@N@@Code
set_option linter.unusedVariables false
set_option linter.unusedSimpArgs false
namespace Jvm.Pilot.@@N@@
open Jvm Jvm.ClassFile Sem Op Lib Jvm.Free Jvm.Stand Jvm.LawKit Jvm.RoadKit Bundle Jvm.Pilot.@@N@@.Jvm.D
/-! ## The frame of my walks: Gl: what is left to run ends well; St: where the run stands; Ctr: a body's contract; Ary: an array by its length and its values -/
def Gl (p : Program) (e : Env) (below : List Frame) (n0 : Nat) (Φ : Outcome → State → List Loc → Prop) (Q : Option Value → Heap → Prop) (U : State) : Prop :=
  ∃ s₂ o, Steps p.tables e below U s₂ ∧ s₂.status = .running ∧ Ended s₂ below o ∧ ∃ v L, o = .returned v ∧ (Q v s₂.heap ∧ Fr n0 L) ∧ Φ o s₂ L
abbrev Fn (s : State) (cs sl : Nat) : Outcome → State → List Loc → Prop := fun o t L => FrameEnd s o t L cs sl
abbrev Fw (s : State) (cs sl : Nat) : Outcome → State → List Loc → Prop := fun o t L => ReturnedEndW s o t L cs sl
def St (p : Program) (l : Launch) (e : Env) (R : Room) (s : State) (m : MethodId) (args : Array Value) (below : List Frame) (meth : Method) (c : Code) (n0 : Nat) (T : State) (h : Heap) (cells slots : Nat) : Prop :=
  ∃ locs, Stand p l e R s m args below meth c T locs cells slots ∧ T.heap = h ∧ Fr n0 locs
abbrev Ctr (l : Launch) (Z : State) (y : MethodName) (bytes : ByteArray) (maxL : Nat) (ret : Option FieldType) (ws : List Jvm.Cond) (rm : Room) (as' : Array Value) (h0 : Heap) (n0 cs sl : Nat) (Q : Option Value → Heap → Prop) : Prop :=
  MetFree l y (head1 (Jvm.Cond.code y bytes maxL ret :: ws) rm) (fun a U => a = as' ∧ Z.Warmed39 U.vm ∧ U.heap = h0) (fun _ _ _ _ _ => True) (fun _ U o U' => ∃ v L, o = .returned v ∧ (Q v U'.heap ∧ Fr n0 L) ∧ FrameEnd U o U' L cs sl)
theorem Ctr.of {l : Launch} {Z : State} {y : MethodName} {bytes : ByteArray} {maxL : Nat} {ret : Option FieldType} {ws : List Jvm.Cond} {rm : Room} {as' : Array Value} {h0 : Heap} {n0 cs sl : Nat} {Q : Option Value → Heap → Prop} (hn : plainFor y = true)
    (body : ∀ (p : Program) (e : Env) (s : State) (m : MethodId) (below : List Frame) (meth : Method) (c : Code) (T : State), p.tables.exec = Jvm.exec → c.code = bytes → c.maxLocals = maxL → meth.sig.returnType = ret → meth.locks = false → meth.name = y.name → s.vm.findClass y.cls = some m.cls → Z.Warmed39 s.vm →
      St p l e rm s m as' below meth c n0 T h0 0 0 → Gl p e below n0 (Fn s cs sl) Q (T.setTop (entryFrame m as' maxL))) : Ctr l Z y bytes maxL ret ws rm as' h0 n0 cs sl Q := by
  refine MetFree.of_bodySF hn hisR ?_
  intro p e s m args below meth c s₁ Bd hml0 hP hK
  obtain ⟨rfl, hZ, hh⟩ := hP
  exact body p e s m below meth c s₁ Bd.exec Bd.bytes hml0 Bd.returns Bd.notSynchronized (name_of_methodNamed Bd.named Bd.method).1 (findClass_of_methodNamed Bd.named) hZ ⟨[], Stand.of_body Bd, by rw [← hh, Bd.state]; rfl, Fr.nil n0⟩
theorem own_since (s : State) (n : Nat) : s.Since s.vm n := (State.WarmedH.refl s).since n
abbrev CtrW (l : Launch) (Z : State) (y : MethodName) (bytes : ByteArray) (maxL : Nat) (ret : Option FieldType) (ws : List Jvm.Cond) (rm : Room) (as' : Array Value) (h0 : Heap) (n0 cs sl : Nat) (Q : Option Value → Heap → Prop) : Prop :=
  MetFree l y (head1 (Jvm.Cond.code y bytes maxL ret :: ws) rm) (fun a U => a = as' ∧ Z.Warmed39 U.vm ∧ U.heap = h0) (fun _ _ _ _ _ => True) (fun _ U o U' => ∃ v L, o = .returned v ∧ (Q v U'.heap ∧ Fr n0 L) ∧ ReturnedEndW U o U' L cs sl)
theorem CtrW.of {l : Launch} {Z : State} {y : MethodName} {bytes : ByteArray} {maxL : Nat} {ret : Option FieldType} {ws : List Jvm.Cond} {rm : Room} {as' : Array Value} {h0 : Heap} {n0 cs sl : Nat} {Q : Option Value → Heap → Prop} (hn : plainFor y = true)
    (body : ∀ (p : Program) (e : Env) (s : State) (m : MethodId) (below : List Frame) (meth : Method) (c : Code) (T : State), p.tables.exec = Jvm.exec → c.code = bytes → c.maxLocals = maxL → meth.sig.returnType = ret → meth.locks = false → meth.name = y.name → (s.setVm s.vm).vm.findClass y.cls = some m.cls → Z.Warmed39 (s.setVm s.vm).vm →
      St p l e rm (s.setVm s.vm) m as' below meth c n0 T h0 0 0 → s.Since s.vm h0.size → Gl p e below n0 (Fw s cs sl) Q (T.setTop (entryFrame m as' maxL))) : CtrW l Z y bytes maxL ret ws rm as' h0 n0 cs sl Q := by
  refine MetFree.of_bodySF hn hisR ?_
  intro p e s m args below meth c s₁ Bd hml0 hP hK
  obtain ⟨rfl, hZ, hh⟩ := hP
  exact body p e s m below meth c s₁ Bd.exec Bd.bytes hml0 Bd.returns Bd.notSynchronized (name_of_methodNamed Bd.named Bd.method).1 (findClass_of_methodNamed Bd.named) hZ ⟨[], Stand.of_body Bd, by rw [← hh, Bd.state]; rfl, Fr.nil n0⟩ (own_since s h0.size)
def Ary (Z : State) (h : Heap) (a : Addr) (ty : FieldType) (n : Nat) (f : Nat → Value) : Prop := ∃ c : Cell, Arr Z h a c ty ∧ c.slots.size = n ∧ ∀ i, i < n → c.slots[i]? = some (f i)
def own_upd (f : Nat → Value) (i : Nat) (v : Value) : Nat → Value := fun j => if j = i then v else f j
theorem own_upd_same (f : Nat → Value) (i : Nat) (v : Value) : own_upd f i v i = v := by simp [own_upd]
theorem own_upd_ne (f : Nat → Value) {i j : Nat} (v : Value) (q : ¬ j = i) : own_upd f i v j = f j := by simp [own_upd, q]
theorem own_in {j : Int32} {i k : Nat} (hj : j.toInt = (i : Int)) (hi : i < k) : ¬ (j < 0 ∨ k ≤ j.toNatClampNeg) ∧ j.toNatClampNeg = i := by
  have e : j.toNatClampNeg = i := by simp only [Int32.toNatClampNeg]; omega
  refine ⟨?_, e⟩
  rw [e, Int32.lt_iff_toInt_lt]; have : (0 : Int32).toInt = 0 := rfl
  omega
section OwnFacts
variable {Z : State} {h h' : Heap} {a b : Addr} {ty : FieldType} {n sl : Nat} {f : Nat → Value} {v : Value} {ws : List Addr}
theorem Ary.lt (F : Ary Z h a ty n f) : a < h.size := by obtain ⟨c, A, -⟩ := F; exact A.lt
theorem Ary.ext (F : Ary Z h a ty n f) (E : Ext h h') : Ary Z h' a ty n f := by obtain ⟨c, A, r⟩ := F; exact ⟨c, A.ext E, r⟩
theorem Ary.other (F : Ary Z h b ty n f) (W : Wr h h' a sl v) (q : b ≠ a) : Ary Z h' b ty n f := by obtain ⟨c, A, r⟩ := F; exact ⟨c, A.other W q, r⟩
theorem Ary.keep (F : Ary Z h a ty n f) (K : Keep h h' ws) (q : a ∉ ws) : Ary Z h' a ty n f := by obtain ⟨c, A, r⟩ := F; exact ⟨c, ⟨K.2.1 a c A.1 q, A.2⟩, r⟩
theorem Ary.same {cl : Cell} (A : Arr Z h a cl ty) (sz : cl.slots.size = n) (H : ∀ i, i < n → cl.slots[i]? = some (f i)) {i : Nat} (W : Wr h h' a i v) : Ary Z h' a ty n (own_upd f i v) := by
  refine ⟨_, A.same W, by rw [sz_set]; exact sz, fun j hj => ?_⟩
  by_cases q : j = i
  · subst q; simp [Cell.setSlot, own_upd, sz, hj]
  · rw [own_upd_ne f v q]; exact (Array.getElem?_setIfInBounds_ne (Ne.symm q)).trans (H j hj)
theorem Ary.congr (F : Ary Z h a ty n f) {g : Nat → Value} (q : ∀ i, i < n → f i = g i) : Ary Z h a ty n g := by obtain ⟨c, A, sz, H⟩ := F; exact ⟨c, A, sz, fun i hi => by rw [← q i hi]; exact H i hi⟩
/-- what may lie in an array of C -/
def Ov (Z : State) (h : Heap) (a : Addr) (C : String) : Prop := ∃ c : Cell, h[a]? = some c ∧ Ovr Z c.cls C
theorem Ov.ext {C : String} (F : Ov Z h a C) (E : Ext h h') : Ov Z h' a C := by obtain ⟨c, h1, O⟩ := F; exact ⟨c, E.2 _ _ h1, O⟩
theorem Ov.wr {C : String} (F : Ov Z h a C) (W : Wr h h' b sl v) : Ov Z h' a C := by
  obtain ⟨c, h1, O⟩ := F
  obtain ⟨c', e1, e2, -⟩ := wr_at W h1
  exact ⟨c', e1, by rw [e2]; exact O⟩
theorem Ov.keep {C : String} (F : Ov Z h a C) (K : Keep h h' ws) : Ov Z h' a C := by
  obtain ⟨c, h1, O⟩ := F
  obtain ⟨c', e1, e2, -⟩ := K.2.2 a c h1
  exact ⟨c', e1, by rw [e2]; exact O⟩
theorem Ov.sto {C : String} {y : Addr} (F : Ov Z h a C) (A : Ary Z h a ty n f) (I : Ins Z h y C true) : Sto Z h a (.ref y) := by
  obtain ⟨c, h1, O⟩ := F
  obtain ⟨cl, A, -⟩ := A
  cases h1.symm.trans A.1
  exact Sto.of A O I
theorem own_plain {C : String} (F : Exa Z h a C) : ∃ c : Cell, h[a]? = some c ∧ c.vm.isStatics = false := by obtain ⟨c, k, h1, -, -, h4, -⟩ := F; exact ⟨c, h1, h4⟩
theorem own_plainA (F : Ary Z h a ty n f) : ∃ c : Cell, h[a]? = some c ∧ c.vm.isStatics = false := by obtain ⟨c, A, -⟩ := F; exact ⟨c, A.1, A.plain⟩
theorem own_sta_keep {C nm d : String} (F : Sta Z h C nm d v) (K : Keep h h' ws) (q : ∀ x ∈ ws, ∃ c : Cell, h[x]? = some c ∧ c.vm.isStatics = false) : Sta Z h' C nm d v := by
  obtain ⟨cf, i, k, fd, st, cell, h1, h2, h3, h4, h5, h6, h7⟩ := F
  refine ⟨cf, i, k, fd, st, cell, h1, h2, h3, h4, K.2.1 _ _ h5 fun z => ?_, h6, h7⟩
  obtain ⟨c, e1, e2⟩ := q _ z
  cases h5.symm.trans e1
  rw [e2] at h6; cases h6
theorem own_fld_of {a0 : Array Value} {C O nm d O' nm' d' : String} {k : Nat} (E : Exa Z h a C) (F : Fld Z h a O' nm' d' v) (wi : (Cond.instantiable C k).before a0 Z = true) (L : Laid Z a0 C O nm d) : ∃ v', Fld Z h a O nm d v' := by
  obtain ⟨c, _, _, _, _, h1, -, -, h4, -⟩ := F
  exact fld_laid E ⟨c, h1, h4⟩ wi L
theorem own_ne_ty {ty' : FieldType} {n' : Nat} {f' : Nat → Value} (F : Ary Z h a ty n f) (G : Ary Z h b ty' n' f') (q : ty ≠ ty') : a ≠ b := fun e => by
  subst e
  obtain ⟨c1, A1, -⟩ := F
  obtain ⟨c2, A2, -⟩ := G
  cases A1.1.symm.trans A2.1
  obtain ⟨-, k1, i1, p1, j1⟩ := A1.2.1
  obtain ⟨-, k2, i2, p2, j2⟩ := A2.2.1
  cases i1.symm.trans i2
  rw [j1] at j2; cases j2; exact q rfl
theorem own_ne_exa {a0 : Array Value} {C : String} {k : Nat} (E : Exa Z h a C) (wi : (Cond.instantiable C k).before a0 Z = true) (G : Ary Z h b ty n f) : a ≠ b := by
  obtain ⟨c, A, -⟩ := G; exact ne_arr E wi A
theorem own_fld_inj {C nm d : String} {w : Value} (F : Fld Z h a C nm d v) (G : Fld Z h a C nm d w) : v = w := by
  obtain ⟨c1, cf1, k1, i1, f1, a1, a2, -, -, -, -, a7⟩ := F
  obtain ⟨c2, cf2, k2, i2, f2, b1, b2, -, -, -, -, b7⟩ := G
  cases a1.symm.trans b1
  cases a2.symm.trans b2
  exact Option.some.inj (a7.symm.trans b7)
end OwnFacts
section OwnSteps
variable {p : Program} {l : Launch} {e : Env} {R : Room} {s : State} {m : MethodId} {args : Array Value} {below : List Frame} {meth : Method} {c : Code} {T : State} {n0 : Nat} {h : Heap} {cells slots : Nat} {cs sl : Nat} {Φ : Outcome → State → List Loc → Prop} {Q : Option Value → Heap → Prop} {pc pc' : Nat} {L L' : Array Slot} {S : List Value} {bs : ByteArray} {Z : State} {a0 : Array Value}
theorem Gl.st {U V : State} (q : ∀ t, Steps p.tables e below V t → Steps p.tables e below U t) (k : Gl p e below n0 Φ Q V) : Gl p e below n0 Φ Q U := by
  obtain ⟨t, o, h1, h2⟩ := k; exact ⟨t, o, q _ h1, h2⟩
theorem Gl.mono {U : State} {Q' : Option Value → Heap → Prop} (q : ∀ v h, Q v h → Q' v h) (k : Gl p e below n0 Φ Q U) : Gl p e below n0 Φ Q' U := by
  obtain ⟨t, o, h1, h2, h3, v, L, h4, ⟨h5, h6⟩, h7⟩ := k; exact ⟨t, o, h1, h2, h3, v, L, h4, ⟨q _ _ h5, h6⟩, h7⟩
theorem g_iload (X : St p l e R s m args below meth c n0 T h cells slots) (hx : p.tables.exec = Jvm.exec) (hby : c.code = bs) {k : Nat} {v : Int32} (hd : decode bs pc = .ok (.iload k, 2)) (hl : L[k]? = some (.val (.int v))) (hp : pc + 2 = pc') (K : Gl p e below n0 Φ Q (T.setTop (mkF m pc' L (.int v :: S)))) : Gl p e below n0 Φ Q (T.setTop (mkF m pc L S)) := by
  obtain ⟨locs, Y, -, -⟩ := X; subst hp; exact Gl.st (fun t k => XS.iload Y.here hx rfl (hb hby hd) hl k) K
theorem g_iloadN (X : St p l e R s m args below meth c n0 T h cells slots) (hx : p.tables.exec = Jvm.exec) (hby : c.code = bs) {k : Fin 4} {v : Int32} (hd : decode bs pc = .ok (.iload_n k, 1)) (hl : L[k.val]? = some (.val (.int v))) (hp : pc + 1 = pc') (K : Gl p e below n0 Φ Q (T.setTop (mkF m pc' L (.int v :: S)))) : Gl p e below n0 Φ Q (T.setTop (mkF m pc L S)) := by
  obtain ⟨locs, Y, -, -⟩ := X; subst hp; exact Gl.st (fun t k => XS.iloadN Y.here hx rfl (hb hby hd) hl k) K
theorem g_lload (X : St p l e R s m args below meth c n0 T h cells slots) (hx : p.tables.exec = Jvm.exec) (hby : c.code = bs) {k : Nat} {v : Int64} (hd : decode bs pc = .ok (.lload k, 2)) (hl : L[k]? = some (.val (.long v))) (hp : pc + 2 = pc') (K : Gl p e below n0 Φ Q (T.setTop (mkF m pc' L (.long v :: S)))) : Gl p e below n0 Φ Q (T.setTop (mkF m pc L S)) := by
  obtain ⟨locs, Y, -, -⟩ := X; subst hp; exact Gl.st (fun t k => XS.lload Y.here hx rfl (hb hby hd) hl k) K
theorem g_lloadN (X : St p l e R s m args below meth c n0 T h cells slots) (hx : p.tables.exec = Jvm.exec) (hby : c.code = bs) {k : Fin 4} {v : Int64} (hd : decode bs pc = .ok (.lload_n k, 1)) (hl : L[k.val]? = some (.val (.long v))) (hp : pc + 1 = pc') (K : Gl p e below n0 Φ Q (T.setTop (mkF m pc' L (.long v :: S)))) : Gl p e below n0 Φ Q (T.setTop (mkF m pc L S)) := by
  obtain ⟨locs, Y, -, -⟩ := X; subst hp; exact Gl.st (fun t k => XS.lloadN Y.here hx rfl (hb hby hd) hl k) K
theorem g_aload (X : St p l e R s m args below meth c n0 T h cells slots) (hx : p.tables.exec = Jvm.exec) (hby : c.code = bs) {k : Nat} {v : Value} (hd : decode bs pc = .ok (.aload k, 2)) (hl : L[k]? = some (.val v)) (hv : v.isRef = true) (hp : pc + 2 = pc') (K : Gl p e below n0 Φ Q (T.setTop (mkF m pc' L (v :: S)))) : Gl p e below n0 Φ Q (T.setTop (mkF m pc L S)) := by
  obtain ⟨locs, Y, -, -⟩ := X; subst hp; exact Gl.st (fun t k => XS.aload Y.here hx rfl (hb hby hd) hl hv k) K
theorem g_aloadN (X : St p l e R s m args below meth c n0 T h cells slots) (hx : p.tables.exec = Jvm.exec) (hby : c.code = bs) {k : Fin 4} {v : Value} (hd : decode bs pc = .ok (.aload_n k, 1)) (hl : L[k.val]? = some (.val v)) (hv : v.isRef = true) (hp : pc + 1 = pc') (K : Gl p e below n0 Φ Q (T.setTop (mkF m pc' L (v :: S)))) : Gl p e below n0 Φ Q (T.setTop (mkF m pc L S)) := by
  obtain ⟨locs, Y, -, -⟩ := X; subst hp; exact Gl.st (fun t k => XS.aloadN Y.here hx rfl (hb hby hd) hl hv k) K
theorem g_istore (X : St p l e R s m args below meth c n0 T h cells slots) (hx : p.tables.exec = Jvm.exec) (hby : c.code = bs) {k : Nat} {v : Int32} (hd : decode bs pc = .ok (.istore k, 2)) (hl : storeLocals L k (.int v) = some L') (hp : pc + 2 = pc') (K : Gl p e below n0 Φ Q (T.setTop (mkF m pc' L' S))) : Gl p e below n0 Φ Q (T.setTop (mkF m pc L (.int v :: S))) := by
  obtain ⟨locs, Y, -, -⟩ := X; subst hp; exact Gl.st (fun t k => XS.istore Y.here hx rfl (hb hby hd) rfl hl k) K
theorem g_istoreN (X : St p l e R s m args below meth c n0 T h cells slots) (hx : p.tables.exec = Jvm.exec) (hby : c.code = bs) {k : Fin 4} {v : Int32} (hd : decode bs pc = .ok (.istore_n k, 1)) (hl : storeLocals L k.val (.int v) = some L') (hp : pc + 1 = pc') (K : Gl p e below n0 Φ Q (T.setTop (mkF m pc' L' S))) : Gl p e below n0 Φ Q (T.setTop (mkF m pc L (.int v :: S))) := by
  obtain ⟨locs, Y, -, -⟩ := X; subst hp; exact Gl.st (fun t k => XS.istoreN Y.here hx rfl (hb hby hd) rfl hl k) K
theorem g_lstore (X : St p l e R s m args below meth c n0 T h cells slots) (hx : p.tables.exec = Jvm.exec) (hby : c.code = bs) {k : Nat} {v : Int64} (hd : decode bs pc = .ok (.lstore k, 2)) (hl : storeLocals L k (.long v) = some L') (hp : pc + 2 = pc') (K : Gl p e below n0 Φ Q (T.setTop (mkF m pc' L' S))) : Gl p e below n0 Φ Q (T.setTop (mkF m pc L (.long v :: S))) := by
  obtain ⟨locs, Y, -, -⟩ := X; subst hp; exact Gl.st (fun t k => XS.lstore Y.here hx rfl (hb hby hd) rfl hl k) K
theorem g_lstoreN (X : St p l e R s m args below meth c n0 T h cells slots) (hx : p.tables.exec = Jvm.exec) (hby : c.code = bs) {k : Fin 4} {v : Int64} (hd : decode bs pc = .ok (.lstore_n k, 1)) (hl : storeLocals L k.val (.long v) = some L') (hp : pc + 1 = pc') (K : Gl p e below n0 Φ Q (T.setTop (mkF m pc' L' S))) : Gl p e below n0 Φ Q (T.setTop (mkF m pc L (.long v :: S))) := by
  obtain ⟨locs, Y, -, -⟩ := X; subst hp; exact Gl.st (fun t k => XS.lstoreN Y.here hx rfl (hb hby hd) rfl hl k) K
theorem g_astore (X : St p l e R s m args below meth c n0 T h cells slots) (hx : p.tables.exec = Jvm.exec) (hby : c.code = bs) {k : Nat} {v : Value} (hd : decode bs pc = .ok (.astore k, 2)) (hv : v.isRef = true) (hl : storeLocals L k v = some L') (hp : pc + 2 = pc') (K : Gl p e below n0 Φ Q (T.setTop (mkF m pc' L' S))) : Gl p e below n0 Φ Q (T.setTop (mkF m pc L (v :: S))) := by
  obtain ⟨locs, Y, -, -⟩ := X; subst hp; exact Gl.st (fun t k => XS.astore Y.here hx rfl (hb hby hd) rfl hv hl k) K
theorem g_astoreN (X : St p l e R s m args below meth c n0 T h cells slots) (hx : p.tables.exec = Jvm.exec) (hby : c.code = bs) {k : Fin 4} {v : Value} (hd : decode bs pc = .ok (.astore_n k, 1)) (hv : v.isRef = true) (hl : storeLocals L k.val v = some L') (hp : pc + 1 = pc') (K : Gl p e below n0 Φ Q (T.setTop (mkF m pc' L' S))) : Gl p e below n0 Φ Q (T.setTop (mkF m pc L (v :: S))) := by
  obtain ⟨locs, Y, -, -⟩ := X; subst hp; exact Gl.st (fun t k => XS.astoreN Y.here hx rfl (hb hby hd) rfl hv hl k) K
theorem g_iconst (X : St p l e R s m args below meth c n0 T h cells slots) (hx : p.tables.exec = Jvm.exec) (hby : c.code = bs) {i : Int} {v : Int32} (hd : decode bs pc = .ok (.iconst i, 1)) (hv : Int32.ofInt i = v) (hp : pc + 1 = pc') (K : Gl p e below n0 Φ Q (T.setTop (mkF m pc' L (.int v :: S)))) : Gl p e below n0 Φ Q (T.setTop (mkF m pc L S)) := by
  obtain ⟨locs, Y, -, -⟩ := X; subst hp hv; exact Gl.st (fun t k => XS.iconst Y.here hx rfl (hb hby hd) k) K
theorem g_bipush (X : St p l e R s m args below meth c n0 T h cells slots) (hx : p.tables.exec = Jvm.exec) (hby : c.code = bs) {i : Int} {v : Int32} (hd : decode bs pc = .ok (.bipush i, 2)) (hv : (Int8.ofInt i).toInt32 = v) (hp : pc + 2 = pc') (K : Gl p e below n0 Φ Q (T.setTop (mkF m pc' L (.int v :: S)))) : Gl p e below n0 Φ Q (T.setTop (mkF m pc L S)) := by
  obtain ⟨locs, Y, -, -⟩ := X; subst hp hv; exact Gl.st (fun t k => XS.bipush Y.here hx rfl (hb hby hd) k) K
theorem g_sipush (X : St p l e R s m args below meth c n0 T h cells slots) (hx : p.tables.exec = Jvm.exec) (hby : c.code = bs) {i : Int} {v : Int32} (hd : decode bs pc = .ok (.sipush i, 3)) (hv : (Int16.ofInt i).toInt32 = v) (hp : pc + 3 = pc') (K : Gl p e below n0 Φ Q (T.setTop (mkF m pc' L (.int v :: S)))) : Gl p e below n0 Φ Q (T.setTop (mkF m pc L S)) := by
  obtain ⟨locs, Y, -, -⟩ := X; subst hp hv; exact Gl.st (fun t k => XS.sipush Y.here hx rfl (hb hby hd) k) K
theorem g_lconst (X : St p l e R s m args below meth c n0 T h cells slots) (hx : p.tables.exec = Jvm.exec) (hby : c.code = bs) {i : Fin 2} {v : Int64} (hd : decode bs pc = .ok (.lconst i, 1)) (hv : Int64.ofNat i = v) (hp : pc + 1 = pc') (K : Gl p e below n0 Φ Q (T.setTop (mkF m pc' L (.long v :: S)))) : Gl p e below n0 Φ Q (T.setTop (mkF m pc L S)) := by
  obtain ⟨locs, Y, -, -⟩ := X; subst hp hv; exact Gl.st (fun t k => XS.lconst Y.here hx rfl (hb hby hd) k) K
theorem g_aconst_null (X : St p l e R s m args below meth c n0 T h cells slots) (hx : p.tables.exec = Jvm.exec) (hby : c.code = bs) (hd : decode bs pc = .ok (.aconst_null, 1)) (hp : pc + 1 = pc') (K : Gl p e below n0 Φ Q (T.setTop (mkF m pc' L (.null :: S)))) : Gl p e below n0 Φ Q (T.setTop (mkF m pc L S)) := by
  obtain ⟨locs, Y, -, -⟩ := X; subst hp; exact Gl.st (fun t k => XS.aconstNull Y.here hx rfl (hb hby hd) k) K
theorem g_ldc (X : St p l e R s m args below meth c n0 T h cells slots) (hx : p.tables.exec = Jvm.exec) (hby : c.code = bs) (hZ : Z.Warmed39 s.vm) {own : String} {index : Nat} {v : Int32} (hown : s.vm.findClass own = some m.cls) (w : (Cond.constant own index v).before a0 Z = true) (hd : decode bs pc = .ok (.ldc index, 2)) (hp : pc + 2 = pc') (K : Gl p e below n0 Φ Q (T.setTop (mkF m pc' L (.int v :: S)))) : Gl p e below n0 Φ Q (T.setTop (mkF m pc L S)) := by
  obtain ⟨locs, Y, -, -⟩ := X; subst hp; exact Gl.st (Y.ldcInt hx hown (mvT hZ w) (g := mkF m pc L S) rfl (hb hby hd)) K
theorem g_ldc2_w (X : St p l e R s m args below meth c n0 T h cells slots) (hx : p.tables.exec = Jvm.exec) (hby : c.code = bs) (hZ : Z.Warmed39 s.vm) {own : String} {index : Nat} {v : Int64} (hown : s.vm.findClass own = some m.cls) (w : (Cond.constantLong own index v).before a0 Z = true) (hd : decode bs pc = .ok (.ldc2_w index, 3)) (hp : pc + 3 = pc') (K : Gl p e below n0 Φ Q (T.setTop (mkF m pc' L (.long v :: S)))) : Gl p e below n0 Φ Q (T.setTop (mkF m pc L S)) := by
  obtain ⟨locs, Y, -, -⟩ := X; subst hp; exact Gl.st (Y.ldc2Long hx hown (mvT hZ w) (g := mkF m pc L S) rfl (hb hby hd)) K
theorem g_iadd (X : St p l e R s m args below meth c n0 T h cells slots) (hx : p.tables.exec = Jvm.exec) (hby : c.code = bs) {x y : Int32} (hd : decode bs pc = .ok (.iadd, 1))  (hp : pc + 1 = pc') (K : Gl p e below n0 Φ Q (T.setTop (mkF m pc' L (.int (x + y) :: S)))) : Gl p e below n0 Φ Q (T.setTop (mkF m pc L (.int y :: .int x :: S))) := by
  obtain ⟨locs, Y, -, -⟩ := X; subst hp; exact Gl.st (fun t k => XS.iadd Y.here hx rfl (hb hby hd) rfl k) K
theorem g_isub (X : St p l e R s m args below meth c n0 T h cells slots) (hx : p.tables.exec = Jvm.exec) (hby : c.code = bs) {x y : Int32} (hd : decode bs pc = .ok (.isub, 1))  (hp : pc + 1 = pc') (K : Gl p e below n0 Φ Q (T.setTop (mkF m pc' L (.int (x - y) :: S)))) : Gl p e below n0 Φ Q (T.setTop (mkF m pc L (.int y :: .int x :: S))) := by
  obtain ⟨locs, Y, -, -⟩ := X; subst hp; exact Gl.st (fun t k => XS.isub Y.here hx rfl (hb hby hd) rfl k) K
theorem g_imul (X : St p l e R s m args below meth c n0 T h cells slots) (hx : p.tables.exec = Jvm.exec) (hby : c.code = bs) {x y : Int32} (hd : decode bs pc = .ok (.imul, 1))  (hp : pc + 1 = pc') (K : Gl p e below n0 Φ Q (T.setTop (mkF m pc' L (.int (x * y) :: S)))) : Gl p e below n0 Φ Q (T.setTop (mkF m pc L (.int y :: .int x :: S))) := by
  obtain ⟨locs, Y, -, -⟩ := X; subst hp; exact Gl.st (fun t k => XS.imul Y.here hx rfl (hb hby hd) rfl k) K
theorem g_iand (X : St p l e R s m args below meth c n0 T h cells slots) (hx : p.tables.exec = Jvm.exec) (hby : c.code = bs) {x y : Int32} (hd : decode bs pc = .ok (.iand, 1))  (hp : pc + 1 = pc') (K : Gl p e below n0 Φ Q (T.setTop (mkF m pc' L (.int (x &&& y) :: S)))) : Gl p e below n0 Φ Q (T.setTop (mkF m pc L (.int y :: .int x :: S))) := by
  obtain ⟨locs, Y, -, -⟩ := X; subst hp; exact Gl.st (fun t k => XS.iand Y.here hx rfl (hb hby hd) rfl k) K
theorem g_ior (X : St p l e R s m args below meth c n0 T h cells slots) (hx : p.tables.exec = Jvm.exec) (hby : c.code = bs) {x y : Int32} (hd : decode bs pc = .ok (.ior, 1))  (hp : pc + 1 = pc') (K : Gl p e below n0 Φ Q (T.setTop (mkF m pc' L (.int (x ||| y) :: S)))) : Gl p e below n0 Φ Q (T.setTop (mkF m pc L (.int y :: .int x :: S))) := by
  obtain ⟨locs, Y, -, -⟩ := X; subst hp; exact Gl.st (fun t k => XS.ior Y.here hx rfl (hb hby hd) rfl k) K
theorem g_ixor (X : St p l e R s m args below meth c n0 T h cells slots) (hx : p.tables.exec = Jvm.exec) (hby : c.code = bs) {x y : Int32} (hd : decode bs pc = .ok (.ixor, 1))  (hp : pc + 1 = pc') (K : Gl p e below n0 Φ Q (T.setTop (mkF m pc' L (.int (x ^^^ y) :: S)))) : Gl p e below n0 Φ Q (T.setTop (mkF m pc L (.int y :: .int x :: S))) := by
  obtain ⟨locs, Y, -, -⟩ := X; subst hp; exact Gl.st (fun t k => XS.ixor Y.here hx rfl (hb hby hd) rfl k) K
theorem g_ishl (X : St p l e R s m args below meth c n0 T h cells slots) (hx : p.tables.exec = Jvm.exec) (hby : c.code = bs) {x y : Int32} (hd : decode bs pc = .ok (.ishl, 1))  (hp : pc + 1 = pc') (K : Gl p e below n0 Φ Q (T.setTop (mkF m pc' L (.int (x <<< (y &&& 31)) :: S)))) : Gl p e below n0 Φ Q (T.setTop (mkF m pc L (.int y :: .int x :: S))) := by
  obtain ⟨locs, Y, -, -⟩ := X; subst hp; exact Gl.st (fun t k => XS.ishl Y.here hx rfl (hb hby hd) rfl k) K
theorem g_ishr (X : St p l e R s m args below meth c n0 T h cells slots) (hx : p.tables.exec = Jvm.exec) (hby : c.code = bs) {x y : Int32} (hd : decode bs pc = .ok (.ishr, 1))  (hp : pc + 1 = pc') (K : Gl p e below n0 Φ Q (T.setTop (mkF m pc' L (.int (x >>> (y &&& 31)) :: S)))) : Gl p e below n0 Φ Q (T.setTop (mkF m pc L (.int y :: .int x :: S))) := by
  obtain ⟨locs, Y, -, -⟩ := X; subst hp; exact Gl.st (fun t k => XS.ishr Y.here hx rfl (hb hby hd) rfl k) K
theorem g_iushr (X : St p l e R s m args below meth c n0 T h cells slots) (hx : p.tables.exec = Jvm.exec) (hby : c.code = bs) {x y : Int32} (hd : decode bs pc = .ok (.iushr, 1))  (hp : pc + 1 = pc') (K : Gl p e below n0 Φ Q (T.setTop (mkF m pc' L (.int ((x.toUInt32 >>> (y &&& 31).toUInt32).toInt32) :: S)))) : Gl p e below n0 Φ Q (T.setTop (mkF m pc L (.int y :: .int x :: S))) := by
  obtain ⟨locs, Y, -, -⟩ := X; subst hp; exact Gl.st (fun t k => XS.iushr Y.here hx rfl (hb hby hd) rfl k) K
theorem g_ladd (X : St p l e R s m args below meth c n0 T h cells slots) (hx : p.tables.exec = Jvm.exec) (hby : c.code = bs) {x y : Int64} (hd : decode bs pc = .ok (.ladd, 1))  (hp : pc + 1 = pc') (K : Gl p e below n0 Φ Q (T.setTop (mkF m pc' L (.long (x + y) :: S)))) : Gl p e below n0 Φ Q (T.setTop (mkF m pc L (.long y :: .long x :: S))) := by
  obtain ⟨locs, Y, -, -⟩ := X; subst hp; exact Gl.st (fun t k => XS.ladd Y.here hx rfl (hb hby hd) rfl k) K
theorem g_lsub (X : St p l e R s m args below meth c n0 T h cells slots) (hx : p.tables.exec = Jvm.exec) (hby : c.code = bs) {x y : Int64} (hd : decode bs pc = .ok (.lsub, 1))  (hp : pc + 1 = pc') (K : Gl p e below n0 Φ Q (T.setTop (mkF m pc' L (.long (x - y) :: S)))) : Gl p e below n0 Φ Q (T.setTop (mkF m pc L (.long y :: .long x :: S))) := by
  obtain ⟨locs, Y, -, -⟩ := X; subst hp; exact Gl.st (fun t k => XS.lsub Y.here hx rfl (hb hby hd) rfl k) K
theorem g_lmul (X : St p l e R s m args below meth c n0 T h cells slots) (hx : p.tables.exec = Jvm.exec) (hby : c.code = bs) {x y : Int64} (hd : decode bs pc = .ok (.lmul, 1))  (hp : pc + 1 = pc') (K : Gl p e below n0 Φ Q (T.setTop (mkF m pc' L (.long (x * y) :: S)))) : Gl p e below n0 Φ Q (T.setTop (mkF m pc L (.long y :: .long x :: S))) := by
  obtain ⟨locs, Y, -, -⟩ := X; subst hp; exact Gl.st (fun t k => XS.lmul Y.here hx rfl (hb hby hd) rfl k) K
theorem g_land (X : St p l e R s m args below meth c n0 T h cells slots) (hx : p.tables.exec = Jvm.exec) (hby : c.code = bs) {x y : Int64} (hd : decode bs pc = .ok (.land, 1))  (hp : pc + 1 = pc') (K : Gl p e below n0 Φ Q (T.setTop (mkF m pc' L (.long (x &&& y) :: S)))) : Gl p e below n0 Φ Q (T.setTop (mkF m pc L (.long y :: .long x :: S))) := by
  obtain ⟨locs, Y, -, -⟩ := X; subst hp; exact Gl.st (fun t k => XS.land Y.here hx rfl (hb hby hd) rfl k) K
theorem g_lor (X : St p l e R s m args below meth c n0 T h cells slots) (hx : p.tables.exec = Jvm.exec) (hby : c.code = bs) {x y : Int64} (hd : decode bs pc = .ok (.lor, 1))  (hp : pc + 1 = pc') (K : Gl p e below n0 Φ Q (T.setTop (mkF m pc' L (.long (x ||| y) :: S)))) : Gl p e below n0 Φ Q (T.setTop (mkF m pc L (.long y :: .long x :: S))) := by
  obtain ⟨locs, Y, -, -⟩ := X; subst hp; exact Gl.st (fun t k => XS.lor Y.here hx rfl (hb hby hd) rfl k) K
theorem g_lxor (X : St p l e R s m args below meth c n0 T h cells slots) (hx : p.tables.exec = Jvm.exec) (hby : c.code = bs) {x y : Int64} (hd : decode bs pc = .ok (.lxor, 1))  (hp : pc + 1 = pc') (K : Gl p e below n0 Φ Q (T.setTop (mkF m pc' L (.long (x ^^^ y) :: S)))) : Gl p e below n0 Φ Q (T.setTop (mkF m pc L (.long y :: .long x :: S))) := by
  obtain ⟨locs, Y, -, -⟩ := X; subst hp; exact Gl.st (fun t k => XS.lxor Y.here hx rfl (hb hby hd) rfl k) K
theorem g_lushr (X : St p l e R s m args below meth c n0 T h cells slots) (hx : p.tables.exec = Jvm.exec) (hby : c.code = bs) {x : Int64} {y : Int32} (hd : decode bs pc = .ok (.lushr, 1))  (hp : pc + 1 = pc') (K : Gl p e below n0 Φ Q (T.setTop (mkF m pc' L (.long ((x.toUInt64 >>> (y &&& 0x3f).toInt64.toUInt64).toInt64) :: S)))) : Gl p e below n0 Φ Q (T.setTop (mkF m pc L (.int y :: .long x :: S))) := by
  obtain ⟨locs, Y, -, -⟩ := X; subst hp; exact Gl.st (fun t k => XS.lushr Y.here hx rfl (hb hby hd) rfl k) K
theorem g_irem (X : St p l e R s m args below meth c n0 T h cells slots) (hx : p.tables.exec = Jvm.exec) (hby : c.code = bs) {x y : Int32} (hd : decode bs pc = .ok (.irem, 1)) (hy : y ≠ 0) (hp : pc + 1 = pc') (K : Gl p e below n0 Φ Q (T.setTop (mkF m pc' L (.int (x % y) :: S)))) : Gl p e below n0 Φ Q (T.setTop (mkF m pc L (.int y :: .int x :: S))) := by
  obtain ⟨locs, Y, -, -⟩ := X; subst hp; exact Gl.st (fun t k => iremM Y hx rfl (hb hby hd) rfl hy k) K
theorem g_lrem (X : St p l e R s m args below meth c n0 T h cells slots) (hx : p.tables.exec = Jvm.exec) (hby : c.code = bs) {x y : Int64} (hd : decode bs pc = .ok (.lrem, 1)) (hy : y ≠ 0) (hp : pc + 1 = pc') (K : Gl p e below n0 Φ Q (T.setTop (mkF m pc' L (.long (x - (x / y) * y) :: S)))) : Gl p e below n0 Φ Q (T.setTop (mkF m pc L (.long y :: .long x :: S))) := by
  obtain ⟨locs, Y, -, -⟩ := X; subst hp; exact Gl.st (fun t k => XS.lrem Y.here hx rfl (hb hby hd) rfl hy k) K
theorem g_i2l (X : St p l e R s m args below meth c n0 T h cells slots) (hx : p.tables.exec = Jvm.exec) (hby : c.code = bs) {x : Int32} (hd : decode bs pc = .ok (.i2l, 1))  (hp : pc + 1 = pc') (K : Gl p e below n0 Φ Q (T.setTop (mkF m pc' L (.long (x.toInt64) :: S)))) : Gl p e below n0 Φ Q (T.setTop (mkF m pc L (.int x :: S))) := by
  obtain ⟨locs, Y, -, -⟩ := X; subst hp; exact Gl.st (fun t k => XS.i2l Y.here hx rfl (hb hby hd) rfl k) K
theorem g_l2i (X : St p l e R s m args below meth c n0 T h cells slots) (hx : p.tables.exec = Jvm.exec) (hby : c.code = bs) {x : Int64} (hd : decode bs pc = .ok (.l2i, 1))  (hp : pc + 1 = pc') (K : Gl p e below n0 Φ Q (T.setTop (mkF m pc' L (.int (x.toInt32) :: S)))) : Gl p e below n0 Φ Q (T.setTop (mkF m pc L (.long x :: S))) := by
  obtain ⟨locs, Y, -, -⟩ := X; subst hp; exact Gl.st (fun t k => XS.l2i Y.here hx rfl (hb hby hd) rfl k) K
theorem g_i2b (X : St p l e R s m args below meth c n0 T h cells slots) (hx : p.tables.exec = Jvm.exec) (hby : c.code = bs) {x : Int32} (hd : decode bs pc = .ok (.i2b, 1))  (hp : pc + 1 = pc') (K : Gl p e below n0 Φ Q (T.setTop (mkF m pc' L (.int (x.toInt8.toInt32) :: S)))) : Gl p e below n0 Φ Q (T.setTop (mkF m pc L (.int x :: S))) := by
  obtain ⟨locs, Y, -, -⟩ := X; subst hp; exact Gl.st (fun t k => XS.i2b Y.here hx rfl (hb hby hd) rfl k) K
theorem g_i2c (X : St p l e R s m args below meth c n0 T h cells slots) (hx : p.tables.exec = Jvm.exec) (hby : c.code = bs) {x : Int32} (hd : decode bs pc = .ok (.i2c, 1))  (hp : pc + 1 = pc') (K : Gl p e below n0 Φ Q (T.setTop (mkF m pc' L (.int (x.toUInt32.toUInt16.toUInt32.toInt32) :: S)))) : Gl p e below n0 Φ Q (T.setTop (mkF m pc L (.int x :: S))) := by
  obtain ⟨locs, Y, -, -⟩ := X; subst hp; exact Gl.st (fun t k => XS.i2c Y.here hx rfl (hb hby hd) rfl k) K
theorem g_ineg (X : St p l e R s m args below meth c n0 T h cells slots) (hx : p.tables.exec = Jvm.exec) (hby : c.code = bs) {x : Int32} (hd : decode bs pc = .ok (.ineg, 1))  (hp : pc + 1 = pc') (K : Gl p e below n0 Φ Q (T.setTop (mkF m pc' L (.int (-x) :: S)))) : Gl p e below n0 Φ Q (T.setTop (mkF m pc L (.int x :: S))) := by
  obtain ⟨locs, Y, -, -⟩ := X; subst hp; exact Gl.st (fun t k => XS.ineg Y.here hx rfl (hb hby hd) rfl k) K
theorem g_dload (X : St p l e R s m args below meth c n0 T h cells slots) (hx : p.tables.exec = Jvm.exec) (hby : c.code = bs) {k : Nat} {v : UInt64} (hd : decode bs pc = .ok (.dload k, 2)) (hl : L[k]? = some (.val (.double v))) (hp : pc + 2 = pc') (K : Gl p e below n0 Φ Q (T.setTop (mkF m pc' L (.double v :: S)))) : Gl p e below n0 Φ Q (T.setTop (mkF m pc L S)) := by
  obtain ⟨locs, Y, -, -⟩ := X; subst hp; exact Gl.st (fun t k => XS.dload Y.here hx rfl (hb hby hd) hl k) K
theorem g_dloadN (X : St p l e R s m args below meth c n0 T h cells slots) (hx : p.tables.exec = Jvm.exec) (hby : c.code = bs) {k : Fin 4} {v : UInt64} (hd : decode bs pc = .ok (.dload_n k, 1)) (hl : L[k.val]? = some (.val (.double v))) (hp : pc + 1 = pc') (K : Gl p e below n0 Φ Q (T.setTop (mkF m pc' L (.double v :: S)))) : Gl p e below n0 Φ Q (T.setTop (mkF m pc L S)) := by
  obtain ⟨locs, Y, -, -⟩ := X; subst hp; exact Gl.st (fun t k => XS.dloadN Y.here hx rfl (hb hby hd) hl k) K
theorem g_dstore (X : St p l e R s m args below meth c n0 T h cells slots) (hx : p.tables.exec = Jvm.exec) (hby : c.code = bs) {k : Nat} {v : UInt64} (hd : decode bs pc = .ok (.dstore k, 2)) (hl : storeLocals L k (.double v) = some L') (hp : pc + 2 = pc') (K : Gl p e below n0 Φ Q (T.setTop (mkF m pc' L' S))) : Gl p e below n0 Φ Q (T.setTop (mkF m pc L (.double v :: S))) := by
  obtain ⟨locs, Y, -, -⟩ := X; subst hp; exact Gl.st (fun t k => XS.dstore Y.here hx rfl (hb hby hd) rfl hl k) K
theorem g_dstoreN (X : St p l e R s m args below meth c n0 T h cells slots) (hx : p.tables.exec = Jvm.exec) (hby : c.code = bs) {k : Fin 4} {v : UInt64} (hd : decode bs pc = .ok (.dstore_n k, 1)) (hl : storeLocals L k.val (.double v) = some L') (hp : pc + 1 = pc') (K : Gl p e below n0 Φ Q (T.setTop (mkF m pc' L' S))) : Gl p e below n0 Φ Q (T.setTop (mkF m pc L (.double v :: S))) := by
  obtain ⟨locs, Y, -, -⟩ := X; subst hp; exact Gl.st (fun t k => XS.dstoreN Y.here hx rfl (hb hby hd) rfl hl k) K
theorem g_i2d (X : St p l e R s m args below meth c n0 T h cells slots) (hx : p.tables.exec = Jvm.exec) (hby : c.code = bs) {x : Int32} (hd : decode bs pc = .ok (.i2d, 1))  (hp : pc + 1 = pc') (K : Gl p e below n0 Φ Q (T.setTop (mkF m pc' L (.double (FP.i2d x) :: S)))) : Gl p e below n0 Φ Q (T.setTop (mkF m pc L (.int x :: S))) := by
  obtain ⟨locs, Y, -, -⟩ := X; subst hp; exact Gl.st (fun t k => XS.i2dS Y.here hx rfl (hb hby hd) rfl rfl k) K
theorem g_dconst0 (X : St p l e R s m args below meth c n0 T h cells slots) (hx : p.tables.exec = Jvm.exec) (hby : c.code = bs) (hd : decode bs pc = .ok (.dconst 0, 1)) (hp : pc + 1 = pc') (K : Gl p e below n0 Φ Q (T.setTop (mkF m pc' L (.double FP.dconst0 :: S)))) : Gl p e below n0 Φ Q (T.setTop (mkF m pc L S)) := by
  obtain ⟨locs, Y, -, -⟩ := X; subst hp; exact Gl.st (fun t k => XS.dconst0 Y.here hx rfl (hb hby hd) rfl k) K
theorem g_dconst1 (X : St p l e R s m args below meth c n0 T h cells slots) (hx : p.tables.exec = Jvm.exec) (hby : c.code = bs) (hd : decode bs pc = .ok (.dconst 1, 1)) (hp : pc + 1 = pc') (K : Gl p e below n0 Φ Q (T.setTop (mkF m pc' L (.double FP.dconst1 :: S)))) : Gl p e below n0 Φ Q (T.setTop (mkF m pc L S)) := by
  obtain ⟨locs, Y, -, -⟩ := X; subst hp; exact Gl.st (fun t k => XS.dconst1 Y.here hx rfl (hb hby hd) rfl k) K
theorem g_ddiv (X : St p l e R s m args below meth c n0 T h cells slots) (hx : p.tables.exec = Jvm.exec) (hby : c.code = bs) {x y : UInt64} (hd : decode bs pc = .ok (.ddiv, 1)) (hn : Jvm.Free.Fl.NoNaN64 (FP.ddiv x y)) (hp : pc + 1 = pc') (K : Gl p e below n0 Φ Q (T.setTop (mkF m pc' L (.double (FP.ddiv x y) :: S)))) : Gl p e below n0 Φ Q (T.setTop (mkF m pc L (.double y :: .double x :: S))) := by
  obtain ⟨locs, Y, -, -⟩ := X; subst hp; exact Gl.st (fun t k => XS.ddivS Y.here hx rfl (hb hby hd) rfl hn rfl k) K
theorem g_dcmp (X : St p l e R s m args below meth c n0 T h cells slots) (hx : p.tables.exec = Jvm.exec) (hby : c.code = bs) {x y : UInt64} {o : CmpOp} {v : Int32} (hd : decode bs pc = .ok (.dcmp o, 1)) (hv : cmpValue (FP.dcmp x y) o = v) (hp : pc + 1 = pc') (K : Gl p e below n0 Φ Q (T.setTop (mkF m pc' L (.int v :: S)))) : Gl p e below n0 Φ Q (T.setTop (mkF m pc L (.double y :: .double x :: S))) := by
  obtain ⟨locs, Y, -, -⟩ := X; subst hp; exact Gl.st (fun t k => XS.dcmpS Y.here hx rfl (hb hby hd) rfl hv k) K
theorem g_dup (X : St p l e R s m args below meth c n0 T h cells slots) (hx : p.tables.exec = Jvm.exec) (hby : c.code = bs) {v : Value} (hd : decode bs pc = .ok (.dup, 1)) (hc : v.category = 1) (hp : pc + 1 = pc') (K : Gl p e below n0 Φ Q (T.setTop (mkF m pc' L (v :: v :: S)))) : Gl p e below n0 Φ Q (T.setTop (mkF m pc L (v :: S))) := by
  obtain ⟨locs, Y, -, -⟩ := X; subst hp; exact Gl.st (fun t k => XS.dup Y.here hx rfl (hb hby hd) rfl hc k) K
theorem g_pop (X : St p l e R s m args below meth c n0 T h cells slots) (hx : p.tables.exec = Jvm.exec) (hby : c.code = bs) {v : Value} (hd : decode bs pc = .ok (.pop, 1)) (hc : v.category = 1) (hp : pc + 1 = pc') (K : Gl p e below n0 Φ Q (T.setTop (mkF m pc' L S))) : Gl p e below n0 Φ Q (T.setTop (mkF m pc L (v :: S))) := by
  obtain ⟨locs, Y, -, -⟩ := X; subst hp; exact Gl.st (fun t k => XS.pop Y.here hx rfl (hb hby hd) rfl hc k) K
theorem g_dup2 (X : St p l e R s m args below meth c n0 T h cells slots) (hx : p.tables.exec = Jvm.exec) (hby : c.code = bs) {v w : Value} (hd : decode bs pc = .ok (.dup2, 1)) (hc : v.category = 1) (hc' : w.category = 1) (hp : pc + 1 = pc') (K : Gl p e below n0 Φ Q (T.setTop (mkF m pc' L (v :: w :: v :: w :: S)))) : Gl p e below n0 Φ Q (T.setTop (mkF m pc L (v :: w :: S))) := by
  obtain ⟨locs, Y, -, -⟩ := X; subst hp; exact Gl.st (fun t k => XT.dup2 Y.here hx rfl (hb hby hd) rfl hc hc' k) K
theorem g_iinc (X : St p l e R s m args below meth c n0 T h cells slots) (hx : p.tables.exec = Jvm.exec) (hby : c.code = bs) {k : Nat} {i : Int} {x y : Int32} (hd : decode bs pc = .ok (.iinc k i, 3)) (hl : L[k]? = some (.val (.int x))) (hy : Int32.ofInt i = y) (hl' : storeLocals L k (.int (x + y)) = some L') (hp : pc + 3 = pc') (K : Gl p e below n0 Φ Q (T.setTop (mkF m pc' L' S))) : Gl p e below n0 Φ Q (T.setTop (mkF m pc L S)) := by
  obtain ⟨locs, Y, -, -⟩ := X; subst hp hy; exact Gl.st (fun t k => XS.iinc Y.here hx rfl (hb hby hd) hl hl' k) K
theorem g_goto (X : St p l e R s m args below meth c n0 T h cells slots) (hx : p.tables.exec = Jvm.exec) (hby : c.code = bs) {o : Int} (hd : decode bs pc = .ok (.goto o, 3)) (ho : 0 ≤ (pc : Int) + o) (hp : ((pc : Int) + o).toNat = pc') (K : Gl p e below n0 Φ Q (T.setTop (mkF m pc' L S))) : Gl p e below n0 Φ Q (T.setTop (mkF m pc L S)) := by
  obtain ⟨locs, Y, -, -⟩ := X; exact Gl.st (fun t k => XS.goto Y.here hx rfl (pc0 := pc) rfl (hb hby hd) ho hp k) K
theorem g_icmp (X : St p l e R s m args below meth c n0 T h cells slots) (hx : p.tables.exec = Jvm.exec) (hby : c.code = bs) {cd : ClassFile.Cond} {o : Int} {x y : Int32} {pc2 : Nat} (hd : decode bs pc = .ok (.if_icmp cd o, 3)) (ho : 0 ≤ (pc : Int) + o) (hp : ((pc : Int) + o).toNat = pc') (hq : pc + 3 = pc2) (K1 : if_icmp.holds cd x y = true → Gl p e below n0 Φ Q (T.setTop (mkF m pc' L S))) (K2 : if_icmp.holds cd x y = false → Gl p e below n0 Φ Q (T.setTop (mkF m pc2 L S))) : Gl p e below n0 Φ Q (T.setTop (mkF m pc L (.int y :: .int x :: S))) := by
  obtain ⟨locs, Y, -, -⟩ := X; subst hq
  cases hc : if_icmp.holds cd x y with
  | true => exact Gl.st (fun t k => XS.icmpYes Y.here hx rfl (pc0 := pc) rfl (hb hby hd) rfl hc ho hp k) (K1 hc)
  | false => exact Gl.st (fun t k => XS.icmpNo Y.here hx rfl (hb hby hd) rfl hc k) (K2 hc)
theorem g_if (X : St p l e R s m args below meth c n0 T h cells slots) (hx : p.tables.exec = Jvm.exec) (hby : c.code = bs) {cd : ClassFile.Cond} {o : Int} {x : Int32} {pc2 : Nat} (hd : decode bs pc = .ok (.ifCond cd o, 3)) (ho : 0 ≤ (pc : Int) + o) (hp : ((pc : Int) + o).toNat = pc') (hq : pc + 3 = pc2) (K1 : if_icmp.holds cd x 0 = true → Gl p e below n0 Φ Q (T.setTop (mkF m pc' L S))) (K2 : if_icmp.holds cd x 0 = false → Gl p e below n0 Φ Q (T.setTop (mkF m pc2 L S))) : Gl p e below n0 Φ Q (T.setTop (mkF m pc L (.int x :: S))) := by
  obtain ⟨locs, Y, -, -⟩ := X; subst hq
  cases hc : if_icmp.holds cd x 0 with
  | true => exact Gl.st (fun t k => XS.ifYes Y.here hx rfl (pc0 := pc) rfl (hb hby hd) rfl ((if0 _ _).trans hc) ho hp k) (K1 hc)
  | false => exact Gl.st (fun t k => XS.ifNo Y.here hx rfl (hb hby hd) rfl ((if0 _ _).trans hc) k) (K2 hc)
theorem g_icmp_eq (X : St p l e R s m args below meth c n0 T h cells slots) (hx : p.tables.exec = Jvm.exec) (hby : c.code = bs) {o : Int} {x y : Int32} {pc2 : Nat} (hd : decode bs pc = .ok (.if_icmp .eq o, 3)) (ho : 0 ≤ (pc : Int) + o) (hp : ((pc : Int) + o).toNat = pc') (hq : pc + 3 = pc2) (K1 : x = y → Gl p e below n0 Φ Q (T.setTop (mkF m pc' L S))) (K2 : ¬ (x = y) → Gl p e below n0 Φ Q (T.setTop (mkF m pc2 L S))) : Gl p e below n0 Φ Q (T.setTop (mkF m pc L (.int y :: .int x :: S))) :=
  g_icmp X hx hby hd ho hp hq (fun q => K1 (by simpa [if_icmp.holds] using q)) (fun q => K2 (by simpa [if_icmp.holds] using q))
theorem g_if_eq (X : St p l e R s m args below meth c n0 T h cells slots) (hx : p.tables.exec = Jvm.exec) (hby : c.code = bs) {o : Int} {x : Int32} {pc2 : Nat} (hd : decode bs pc = .ok (.ifCond .eq o, 3)) (ho : 0 ≤ (pc : Int) + o) (hp : ((pc : Int) + o).toNat = pc') (hq : pc + 3 = pc2) (K1 : x = 0 → Gl p e below n0 Φ Q (T.setTop (mkF m pc' L S))) (K2 : ¬ (x = 0) → Gl p e below n0 Φ Q (T.setTop (mkF m pc2 L S))) : Gl p e below n0 Φ Q (T.setTop (mkF m pc L (.int x :: S))) :=
  g_if X hx hby hd ho hp hq (fun q => K1 (by simpa [if_icmp.holds] using q)) (fun q => K2 (by simpa [if_icmp.holds] using q))
theorem g_lcmp_eq (X : St p l e R s m args below meth c n0 T h cells slots) (hx : p.tables.exec = Jvm.exec) (hby : c.code = bs) {o : Int} {x y : Int64} {pc1 pc2 : Nat} (hd1 : decode bs pc = .ok (.lcmp, 1)) (hp1 : pc + 1 = pc1) (hd : decode bs pc1 = .ok (.ifCond .eq o, 3)) (ho : 0 ≤ (pc1 : Int) + o) (hp : ((pc1 : Int) + o).toNat = pc') (hq : pc1 + 3 = pc2) (K1 : x = y → Gl p e below n0 Φ Q (T.setTop (mkF m pc' L S))) (K2 : ¬ (x = y) → Gl p e below n0 Φ Q (T.setTop (mkF m pc2 L S))) : Gl p e below n0 Φ Q (T.setTop (mkF m pc L (.long y :: .long x :: S))) := by
  obtain ⟨locs, Y, b1, b2⟩ := X; subst hp1
  refine Gl.st (V := T.setTop (mkF m (pc + 1) L (.int (lcmpW x y) :: S))) (fun t k => XS.lcmp Y.here hx rfl (hb hby hd1) rfl k) ?_
  exact g_if_eq ⟨locs, Y, b1, b2⟩ hx hby hd ho hp hq (fun q => K1 (by simpa [lw_lt, lw_gt, lw_eq] using q)) (fun q => K2 (by simpa [lw_lt, lw_gt, lw_eq] using q))
theorem g_icmp_ne (X : St p l e R s m args below meth c n0 T h cells slots) (hx : p.tables.exec = Jvm.exec) (hby : c.code = bs) {o : Int} {x y : Int32} {pc2 : Nat} (hd : decode bs pc = .ok (.if_icmp .ne o, 3)) (ho : 0 ≤ (pc : Int) + o) (hp : ((pc : Int) + o).toNat = pc') (hq : pc + 3 = pc2) (K1 : ¬ (x = y) → Gl p e below n0 Φ Q (T.setTop (mkF m pc' L S))) (K2 : x = y → Gl p e below n0 Φ Q (T.setTop (mkF m pc2 L S))) : Gl p e below n0 Φ Q (T.setTop (mkF m pc L (.int y :: .int x :: S))) :=
  g_icmp X hx hby hd ho hp hq (fun q => K1 (by simpa [if_icmp.holds] using q)) (fun q => K2 (by simpa [if_icmp.holds] using q))
theorem g_if_ne (X : St p l e R s m args below meth c n0 T h cells slots) (hx : p.tables.exec = Jvm.exec) (hby : c.code = bs) {o : Int} {x : Int32} {pc2 : Nat} (hd : decode bs pc = .ok (.ifCond .ne o, 3)) (ho : 0 ≤ (pc : Int) + o) (hp : ((pc : Int) + o).toNat = pc') (hq : pc + 3 = pc2) (K1 : ¬ (x = 0) → Gl p e below n0 Φ Q (T.setTop (mkF m pc' L S))) (K2 : x = 0 → Gl p e below n0 Φ Q (T.setTop (mkF m pc2 L S))) : Gl p e below n0 Φ Q (T.setTop (mkF m pc L (.int x :: S))) :=
  g_if X hx hby hd ho hp hq (fun q => K1 (by simpa [if_icmp.holds] using q)) (fun q => K2 (by simpa [if_icmp.holds] using q))
theorem g_lcmp_ne (X : St p l e R s m args below meth c n0 T h cells slots) (hx : p.tables.exec = Jvm.exec) (hby : c.code = bs) {o : Int} {x y : Int64} {pc1 pc2 : Nat} (hd1 : decode bs pc = .ok (.lcmp, 1)) (hp1 : pc + 1 = pc1) (hd : decode bs pc1 = .ok (.ifCond .ne o, 3)) (ho : 0 ≤ (pc1 : Int) + o) (hp : ((pc1 : Int) + o).toNat = pc') (hq : pc1 + 3 = pc2) (K1 : ¬ (x = y) → Gl p e below n0 Φ Q (T.setTop (mkF m pc' L S))) (K2 : x = y → Gl p e below n0 Φ Q (T.setTop (mkF m pc2 L S))) : Gl p e below n0 Φ Q (T.setTop (mkF m pc L (.long y :: .long x :: S))) := by
  obtain ⟨locs, Y, b1, b2⟩ := X; subst hp1
  refine Gl.st (V := T.setTop (mkF m (pc + 1) L (.int (lcmpW x y) :: S))) (fun t k => XS.lcmp Y.here hx rfl (hb hby hd1) rfl k) ?_
  exact g_if_ne ⟨locs, Y, b1, b2⟩ hx hby hd ho hp hq (fun q => K1 (by simpa [lw_lt, lw_gt, lw_eq] using q)) (fun q => K2 (by simpa [lw_lt, lw_gt, lw_eq] using q))
theorem g_icmp_lt (X : St p l e R s m args below meth c n0 T h cells slots) (hx : p.tables.exec = Jvm.exec) (hby : c.code = bs) {o : Int} {x y : Int32} {pc2 : Nat} (hd : decode bs pc = .ok (.if_icmp .lt o, 3)) (ho : 0 ≤ (pc : Int) + o) (hp : ((pc : Int) + o).toNat = pc') (hq : pc + 3 = pc2) (K1 : x < y → Gl p e below n0 Φ Q (T.setTop (mkF m pc' L S))) (K2 : ¬ (x < y) → Gl p e below n0 Φ Q (T.setTop (mkF m pc2 L S))) : Gl p e below n0 Φ Q (T.setTop (mkF m pc L (.int y :: .int x :: S))) :=
  g_icmp X hx hby hd ho hp hq (fun q => K1 (by simpa [if_icmp.holds] using q)) (fun q => K2 (by simpa [if_icmp.holds] using q))
theorem g_if_lt (X : St p l e R s m args below meth c n0 T h cells slots) (hx : p.tables.exec = Jvm.exec) (hby : c.code = bs) {o : Int} {x : Int32} {pc2 : Nat} (hd : decode bs pc = .ok (.ifCond .lt o, 3)) (ho : 0 ≤ (pc : Int) + o) (hp : ((pc : Int) + o).toNat = pc') (hq : pc + 3 = pc2) (K1 : x < 0 → Gl p e below n0 Φ Q (T.setTop (mkF m pc' L S))) (K2 : ¬ (x < 0) → Gl p e below n0 Φ Q (T.setTop (mkF m pc2 L S))) : Gl p e below n0 Φ Q (T.setTop (mkF m pc L (.int x :: S))) :=
  g_if X hx hby hd ho hp hq (fun q => K1 (by simpa [if_icmp.holds] using q)) (fun q => K2 (by simpa [if_icmp.holds] using q))
theorem g_lcmp_lt (X : St p l e R s m args below meth c n0 T h cells slots) (hx : p.tables.exec = Jvm.exec) (hby : c.code = bs) {o : Int} {x y : Int64} {pc1 pc2 : Nat} (hd1 : decode bs pc = .ok (.lcmp, 1)) (hp1 : pc + 1 = pc1) (hd : decode bs pc1 = .ok (.ifCond .lt o, 3)) (ho : 0 ≤ (pc1 : Int) + o) (hp : ((pc1 : Int) + o).toNat = pc') (hq : pc1 + 3 = pc2) (K1 : x < y → Gl p e below n0 Φ Q (T.setTop (mkF m pc' L S))) (K2 : ¬ (x < y) → Gl p e below n0 Φ Q (T.setTop (mkF m pc2 L S))) : Gl p e below n0 Φ Q (T.setTop (mkF m pc L (.long y :: .long x :: S))) := by
  obtain ⟨locs, Y, b1, b2⟩ := X; subst hp1
  refine Gl.st (V := T.setTop (mkF m (pc + 1) L (.int (lcmpW x y) :: S))) (fun t k => XS.lcmp Y.here hx rfl (hb hby hd1) rfl k) ?_
  exact g_if_lt ⟨locs, Y, b1, b2⟩ hx hby hd ho hp hq (fun q => K1 (by simpa [lw_lt, lw_gt, lw_eq] using q)) (fun q => K2 (by simpa [lw_lt, lw_gt, lw_eq] using q))
theorem g_icmp_ge (X : St p l e R s m args below meth c n0 T h cells slots) (hx : p.tables.exec = Jvm.exec) (hby : c.code = bs) {o : Int} {x y : Int32} {pc2 : Nat} (hd : decode bs pc = .ok (.if_icmp .ge o, 3)) (ho : 0 ≤ (pc : Int) + o) (hp : ((pc : Int) + o).toNat = pc') (hq : pc + 3 = pc2) (K1 : ¬ (x < y) → Gl p e below n0 Φ Q (T.setTop (mkF m pc' L S))) (K2 : x < y → Gl p e below n0 Φ Q (T.setTop (mkF m pc2 L S))) : Gl p e below n0 Φ Q (T.setTop (mkF m pc L (.int y :: .int x :: S))) :=
  g_icmp X hx hby hd ho hp hq (fun q => K1 (by simpa [if_icmp.holds] using q)) (fun q => K2 (by simpa [if_icmp.holds] using q))
theorem g_if_ge (X : St p l e R s m args below meth c n0 T h cells slots) (hx : p.tables.exec = Jvm.exec) (hby : c.code = bs) {o : Int} {x : Int32} {pc2 : Nat} (hd : decode bs pc = .ok (.ifCond .ge o, 3)) (ho : 0 ≤ (pc : Int) + o) (hp : ((pc : Int) + o).toNat = pc') (hq : pc + 3 = pc2) (K1 : ¬ (x < 0) → Gl p e below n0 Φ Q (T.setTop (mkF m pc' L S))) (K2 : x < 0 → Gl p e below n0 Φ Q (T.setTop (mkF m pc2 L S))) : Gl p e below n0 Φ Q (T.setTop (mkF m pc L (.int x :: S))) :=
  g_if X hx hby hd ho hp hq (fun q => K1 (by simpa [if_icmp.holds] using q)) (fun q => K2 (by simpa [if_icmp.holds] using q))
theorem g_lcmp_ge (X : St p l e R s m args below meth c n0 T h cells slots) (hx : p.tables.exec = Jvm.exec) (hby : c.code = bs) {o : Int} {x y : Int64} {pc1 pc2 : Nat} (hd1 : decode bs pc = .ok (.lcmp, 1)) (hp1 : pc + 1 = pc1) (hd : decode bs pc1 = .ok (.ifCond .ge o, 3)) (ho : 0 ≤ (pc1 : Int) + o) (hp : ((pc1 : Int) + o).toNat = pc') (hq : pc1 + 3 = pc2) (K1 : ¬ (x < y) → Gl p e below n0 Φ Q (T.setTop (mkF m pc' L S))) (K2 : x < y → Gl p e below n0 Φ Q (T.setTop (mkF m pc2 L S))) : Gl p e below n0 Φ Q (T.setTop (mkF m pc L (.long y :: .long x :: S))) := by
  obtain ⟨locs, Y, b1, b2⟩ := X; subst hp1
  refine Gl.st (V := T.setTop (mkF m (pc + 1) L (.int (lcmpW x y) :: S))) (fun t k => XS.lcmp Y.here hx rfl (hb hby hd1) rfl k) ?_
  exact g_if_ge ⟨locs, Y, b1, b2⟩ hx hby hd ho hp hq (fun q => K1 (by simpa [lw_lt, lw_gt, lw_eq] using q)) (fun q => K2 (by simpa [lw_lt, lw_gt, lw_eq] using q))
theorem g_icmp_gt (X : St p l e R s m args below meth c n0 T h cells slots) (hx : p.tables.exec = Jvm.exec) (hby : c.code = bs) {o : Int} {x y : Int32} {pc2 : Nat} (hd : decode bs pc = .ok (.if_icmp .gt o, 3)) (ho : 0 ≤ (pc : Int) + o) (hp : ((pc : Int) + o).toNat = pc') (hq : pc + 3 = pc2) (K1 : y < x → Gl p e below n0 Φ Q (T.setTop (mkF m pc' L S))) (K2 : ¬ (y < x) → Gl p e below n0 Φ Q (T.setTop (mkF m pc2 L S))) : Gl p e below n0 Φ Q (T.setTop (mkF m pc L (.int y :: .int x :: S))) :=
  g_icmp X hx hby hd ho hp hq (fun q => K1 (by simpa [if_icmp.holds] using q)) (fun q => K2 (by simpa [if_icmp.holds] using q))
theorem g_if_gt (X : St p l e R s m args below meth c n0 T h cells slots) (hx : p.tables.exec = Jvm.exec) (hby : c.code = bs) {o : Int} {x : Int32} {pc2 : Nat} (hd : decode bs pc = .ok (.ifCond .gt o, 3)) (ho : 0 ≤ (pc : Int) + o) (hp : ((pc : Int) + o).toNat = pc') (hq : pc + 3 = pc2) (K1 : 0 < x → Gl p e below n0 Φ Q (T.setTop (mkF m pc' L S))) (K2 : ¬ (0 < x) → Gl p e below n0 Φ Q (T.setTop (mkF m pc2 L S))) : Gl p e below n0 Φ Q (T.setTop (mkF m pc L (.int x :: S))) :=
  g_if X hx hby hd ho hp hq (fun q => K1 (by simpa [if_icmp.holds] using q)) (fun q => K2 (by simpa [if_icmp.holds] using q))
theorem g_lcmp_gt (X : St p l e R s m args below meth c n0 T h cells slots) (hx : p.tables.exec = Jvm.exec) (hby : c.code = bs) {o : Int} {x y : Int64} {pc1 pc2 : Nat} (hd1 : decode bs pc = .ok (.lcmp, 1)) (hp1 : pc + 1 = pc1) (hd : decode bs pc1 = .ok (.ifCond .gt o, 3)) (ho : 0 ≤ (pc1 : Int) + o) (hp : ((pc1 : Int) + o).toNat = pc') (hq : pc1 + 3 = pc2) (K1 : y < x → Gl p e below n0 Φ Q (T.setTop (mkF m pc' L S))) (K2 : ¬ (y < x) → Gl p e below n0 Φ Q (T.setTop (mkF m pc2 L S))) : Gl p e below n0 Φ Q (T.setTop (mkF m pc L (.long y :: .long x :: S))) := by
  obtain ⟨locs, Y, b1, b2⟩ := X; subst hp1
  refine Gl.st (V := T.setTop (mkF m (pc + 1) L (.int (lcmpW x y) :: S))) (fun t k => XS.lcmp Y.here hx rfl (hb hby hd1) rfl k) ?_
  exact g_if_gt ⟨locs, Y, b1, b2⟩ hx hby hd ho hp hq (fun q => K1 (by simpa [lw_lt, lw_gt, lw_eq] using q)) (fun q => K2 (by simpa [lw_lt, lw_gt, lw_eq] using q))
theorem g_icmp_le (X : St p l e R s m args below meth c n0 T h cells slots) (hx : p.tables.exec = Jvm.exec) (hby : c.code = bs) {o : Int} {x y : Int32} {pc2 : Nat} (hd : decode bs pc = .ok (.if_icmp .le o, 3)) (ho : 0 ≤ (pc : Int) + o) (hp : ((pc : Int) + o).toNat = pc') (hq : pc + 3 = pc2) (K1 : ¬ (y < x) → Gl p e below n0 Φ Q (T.setTop (mkF m pc' L S))) (K2 : y < x → Gl p e below n0 Φ Q (T.setTop (mkF m pc2 L S))) : Gl p e below n0 Φ Q (T.setTop (mkF m pc L (.int y :: .int x :: S))) :=
  g_icmp X hx hby hd ho hp hq (fun q => K1 (by simpa [if_icmp.holds] using q)) (fun q => K2 (by simpa [if_icmp.holds] using q))
theorem g_if_le (X : St p l e R s m args below meth c n0 T h cells slots) (hx : p.tables.exec = Jvm.exec) (hby : c.code = bs) {o : Int} {x : Int32} {pc2 : Nat} (hd : decode bs pc = .ok (.ifCond .le o, 3)) (ho : 0 ≤ (pc : Int) + o) (hp : ((pc : Int) + o).toNat = pc') (hq : pc + 3 = pc2) (K1 : ¬ (0 < x) → Gl p e below n0 Φ Q (T.setTop (mkF m pc' L S))) (K2 : 0 < x → Gl p e below n0 Φ Q (T.setTop (mkF m pc2 L S))) : Gl p e below n0 Φ Q (T.setTop (mkF m pc L (.int x :: S))) :=
  g_if X hx hby hd ho hp hq (fun q => K1 (by simpa [if_icmp.holds] using q)) (fun q => K2 (by simpa [if_icmp.holds] using q))
theorem g_lcmp_le (X : St p l e R s m args below meth c n0 T h cells slots) (hx : p.tables.exec = Jvm.exec) (hby : c.code = bs) {o : Int} {x y : Int64} {pc1 pc2 : Nat} (hd1 : decode bs pc = .ok (.lcmp, 1)) (hp1 : pc + 1 = pc1) (hd : decode bs pc1 = .ok (.ifCond .le o, 3)) (ho : 0 ≤ (pc1 : Int) + o) (hp : ((pc1 : Int) + o).toNat = pc') (hq : pc1 + 3 = pc2) (K1 : ¬ (y < x) → Gl p e below n0 Φ Q (T.setTop (mkF m pc' L S))) (K2 : y < x → Gl p e below n0 Φ Q (T.setTop (mkF m pc2 L S))) : Gl p e below n0 Φ Q (T.setTop (mkF m pc L (.long y :: .long x :: S))) := by
  obtain ⟨locs, Y, b1, b2⟩ := X; subst hp1
  refine Gl.st (V := T.setTop (mkF m (pc + 1) L (.int (lcmpW x y) :: S))) (fun t k => XS.lcmp Y.here hx rfl (hb hby hd1) rfl k) ?_
  exact g_if_le ⟨locs, Y, b1, b2⟩ hx hby hd ho hp hq (fun q => K1 (by simpa [lw_lt, lw_gt, lw_eq] using q)) (fun q => K2 (by simpa [lw_lt, lw_gt, lw_eq] using q))
theorem g_ifnull_y (X : St p l e R s m args below meth c n0 T h cells slots) (hx : p.tables.exec = Jvm.exec) (hby : c.code = bs) {o : Int} (hd : decode bs pc = .ok (.ifnull o, 3)) (ho : 0 ≤ (pc : Int) + o) (hp : ((pc : Int) + o).toNat = pc') (K : Gl p e below n0 Φ Q (T.setTop (mkF m pc' L S))) : Gl p e below n0 Φ Q (T.setTop (mkF m pc L (.null :: S))) := by
  obtain ⟨locs, Y, -, -⟩ := X; exact Gl.st (fun t k => XS.ifnullYes Y.here hx rfl (pc0 := pc) rfl (hb hby hd) rfl ho hp k) K
theorem g_ifnull_n (X : St p l e R s m args below meth c n0 T h cells slots) (hx : p.tables.exec = Jvm.exec) (hby : c.code = bs) {o : Int} {a : Addr} (hd : decode bs pc = .ok (.ifnull o, 3)) (hp : pc + 3 = pc') (K : Gl p e below n0 Φ Q (T.setTop (mkF m pc' L S))) : Gl p e below n0 Φ Q (T.setTop (mkF m pc L ((.ref a) :: S))) := by
  obtain ⟨locs, Y, -, -⟩ := X; subst hp; exact Gl.st (fun t k => XS.ifnullNo Y.here hx rfl (hb hby hd) rfl k) K
theorem g_ifnonnull_y (X : St p l e R s m args below meth c n0 T h cells slots) (hx : p.tables.exec = Jvm.exec) (hby : c.code = bs) {o : Int} {a : Addr} (hd : decode bs pc = .ok (.ifnonnull o, 3)) (ho : 0 ≤ (pc : Int) + o) (hp : ((pc : Int) + o).toNat = pc') (K : Gl p e below n0 Φ Q (T.setTop (mkF m pc' L S))) : Gl p e below n0 Φ Q (T.setTop (mkF m pc L ((.ref a) :: S))) := by
  obtain ⟨locs, Y, -, -⟩ := X; exact Gl.st (fun t k => XS.ifnonnullYes Y.here hx rfl (pc0 := pc) rfl (hb hby hd) rfl ho hp k) K
theorem g_ifnonnull_n (X : St p l e R s m args below meth c n0 T h cells slots) (hx : p.tables.exec = Jvm.exec) (hby : c.code = bs) {o : Int} (hd : decode bs pc = .ok (.ifnonnull o, 3)) (hp : pc + 3 = pc') (K : Gl p e below n0 Φ Q (T.setTop (mkF m pc' L S))) : Gl p e below n0 Φ Q (T.setTop (mkF m pc L (.null :: S))) := by
  obtain ⟨locs, Y, -, -⟩ := X; subst hp; exact Gl.st (fun t k => XS.ifnonnullNo Y.here hx rfl (hb hby hd) rfl k) K
theorem g_acmp_y (X : St p l e R s m args below meth c n0 T h cells slots) (hx : p.tables.exec = Jvm.exec) (hby : c.code = bs) {cd : ACond} {o : Int} {x y : Value} {same : Bool} (hd : decode bs pc = .ok (.if_acmp cd o, 3)) (h1 : x.isRef = true) (h2 : y.isRef = true) (hq : decide (x = y) = same) (ho : 0 ≤ (pc : Int) + o) (hp : pc' = if acV cd same = true then ((pc : Int) + o).toNat else pc + 3) (K : Gl p e below n0 Φ Q (T.setTop (mkF m pc' L S))) : Gl p e below n0 Φ Q (T.setTop (mkF m pc L (y :: x :: S))) := by
  obtain ⟨locs, Y, -, -⟩ := X; exact Gl.st (fun t k => Jvm.RoadKit.acmp Y hx rfl h1 h2 (pc0 := pc) rfl (hb hby hd) rfl hq ho hp k) K
theorem g_retN (X : St p l e R s m args below meth c n0 T h cells slots) (hx : p.tables.exec = Jvm.exec) (hby : c.code = bs) {t : FieldType} {z : Int32} (hret : meth.sig.returnType = some t) (hlk : meth.locks = false) (ht : t = .boolean ∨ t = .byte ∨ t = .char ∨ t = .short) (hd : decode bs pc = .ok (.ireturn, 1)) (hq : Q (some (.int (nar t z))) h) (hc : cells ≤ cs) (hs : slots ≤ sl) : Gl p e below n0 (Fn s cs sl) Q (T.setTop (mkF m pc L (.int z :: S))) := by
  obtain ⟨locs, Y, eT, N⟩ := X
  obtain ⟨fs, hr, hrun, hended, hW, hsame⟩ := Y.leave (v := some (.int (nar t z))) (fun q => by rw [hret] at q; cases q) hlk
  exact ⟨_, _, retN Y hx hret ht (hb hby hd) hr, hrun, hended, _, locs, rfl, ⟨(show Q _ T.heap by rw [eT]; exact hq), N⟩, ⟨_, rfl⟩, hW, hsame.mono hc hs⟩
theorem g_retV (X : St p l e R s m args below meth c n0 T h cells slots) (hx : p.tables.exec = Jvm.exec) (hby : c.code = bs) {t : FieldType} {w : Value} {i : Instr} (hret : meth.sig.returnType = some t) (hlk : meth.locks = false) (hn : narrow t w = w) (hi : (i = .ireturn ∧ (t = .int ∨ t = .boolean ∨ t = .byte ∨ t = .char ∨ t = .short) ∧ ∃ z, w = .int z) ∨ (i = .lreturn ∧ t = .long ∧ ∃ z, w = .long z) ∨ (i = .dreturn ∧ t = .double ∧ ∃ z, w = .double z) ∨ (i = .freturn ∧ t = .float ∧ ∃ z, w = .float z) ∨ (i = .areturn ∧ t.isReference = true ∧ w.isRef = true)) (hd : decode bs pc = .ok (i, 1)) (hq : Q (some w) h) (hc : cells ≤ cs) (hs : slots ≤ sl) : Gl p e below n0 (Fn s cs sl) Q (T.setTop (mkF m pc L (w :: S))) := by
  obtain ⟨locs, Y, eT, N⟩ := X
  obtain ⟨fs, hr, hrun, hended, hW, hsame⟩ := Y.leave (v := some w) (fun q => by rw [hret] at q; cases q) hlk
  exact ⟨_, _, retOut Y hx hret hn hi (hb hby hd) hr, hrun, hended, _, locs, rfl, ⟨(show Q _ T.heap by rw [eT]; exact hq), N⟩, ⟨_, rfl⟩, hW, hsame.mono hc hs⟩
theorem g_retI (X : St p l e R s m args below meth c n0 T h cells slots) (hx : p.tables.exec = Jvm.exec) (hby : c.code = bs) {z : Int32} (hret : meth.sig.returnType = some .int) (hlk : meth.locks = false) (hd : decode bs pc = .ok (.ireturn, 1)) (hq : Q (some (.int z)) h) (hc : cells ≤ cs) (hs : slots ≤ sl) : Gl p e below n0 (Fn s cs sl) Q (T.setTop (mkF m pc L (.int z :: S))) := g_retV X hx hby hret hlk rfl (Or.inl ⟨rfl, Or.inl rfl, z, rfl⟩) hd hq hc hs
theorem g_retL (X : St p l e R s m args below meth c n0 T h cells slots) (hx : p.tables.exec = Jvm.exec) (hby : c.code = bs) {z : Int64} (hret : meth.sig.returnType = some .long) (hlk : meth.locks = false) (hd : decode bs pc = .ok (.lreturn, 1)) (hq : Q (some (.long z)) h) (hc : cells ≤ cs) (hs : slots ≤ sl) : Gl p e below n0 (Fn s cs sl) Q (T.setTop (mkF m pc L (.long z :: S))) := g_retV X hx hby hret hlk rfl (Or.inr (Or.inl ⟨rfl, rfl, z, rfl⟩)) hd hq hc hs
theorem g_retD (X : St p l e R s m args below meth c n0 T h cells slots) (hx : p.tables.exec = Jvm.exec) (hby : c.code = bs) {z : UInt64} (hret : meth.sig.returnType = some .double) (hlk : meth.locks = false) (hd : decode bs pc = .ok (.dreturn, 1)) (hq : Q (some (.double z)) h) (hc : cells ≤ cs) (hs : slots ≤ sl) : Gl p e below n0 (Fn s cs sl) Q (T.setTop (mkF m pc L (.double z :: S))) := g_retV X hx hby hret hlk rfl (Or.inr (Or.inr (Or.inl ⟨rfl, rfl, z, rfl⟩))) hd hq hc hs
theorem g_retA (X : St p l e R s m args below meth c n0 T h cells slots) (hx : p.tables.exec = Jvm.exec) (hby : c.code = bs) {t : FieldType} {w : Value} (hret : meth.sig.returnType = some t) (hlk : meth.locks = false) (ht : t.isReference = true) (hw : w.isRef = true) (hd : decode bs pc = .ok (.areturn, 1)) (hq : Q (some w) h) (hc : cells ≤ cs) (hs : slots ≤ sl) : Gl p e below n0 (Fn s cs sl) Q (T.setTop (mkF m pc L (w :: S))) := g_retV X hx hby hret hlk (by rcases ref_cases hw with rfl | ⟨a, rfl⟩ <;> cases t <;> first | rfl | (cases ht; done)) (Or.inr (Or.inr (Or.inr (Or.inr ⟨rfl, ht, hw⟩)))) hd hq hc hs
theorem g_ret (X : St p l e R s m args below meth c n0 T h cells slots) (hx : p.tables.exec = Jvm.exec) (hby : c.code = bs) (hret : meth.sig.returnType = none) (hlk : meth.locks = false) (hd : decode bs pc = .ok (.return_, 1)) (hq : Q none h) (hc : cells ≤ cs) (hs : slots ≤ sl) : Gl p e below n0 (Fn s cs sl) Q (T.setTop (mkF m pc L [])) := by
  obtain ⟨locs, Y, eT, N⟩ := X
  obtain ⟨fs, hr, hrun, hended, hW, hsame⟩ := Y.leave (v := none) (fun _ => rfl) hlk
  exact ⟨_, _, Y.returnOut hx hret (hb hby hd) hr, hrun, hended, _, locs, rfl, ⟨(show Q _ T.heap by rw [eT]; exact hq), N⟩, ⟨_, rfl⟩, hW, hsame.mono hc hs⟩
theorem gw_retN {vm0 : Vm} {k0 : Nat} (X : St p l e R (s.setVm vm0) m args below meth c n0 T h cells slots) (hx : p.tables.exec = Jvm.exec) (hby : c.code = bs) (hS : s.Since vm0 k0) (hk : k0 ≤ h.size) {t : FieldType} {z : Int32} (hret : meth.sig.returnType = some t) (hlk : meth.locks = false) (ht : t = .boolean ∨ t = .byte ∨ t = .char ∨ t = .short) (hd : decode bs pc = .ok (.ireturn, 1)) (hq : Q (some (.int (nar t z))) h) (hc : cells ≤ cs) (hs : slots ≤ sl) : Gl p e below n0 (Fw s cs sl) Q (T.setTop (mkF m pc L (.int z :: S))) := by
  obtain ⟨locs, Y, eT, N⟩ := X
  obtain ⟨fs, hr, hrun, hended, r1, r2, r3, r4⟩ := Y.leaveW hS (by rw [eT]; exact hk) (v := some (.int (nar t z))) (fun q => by rw [hret] at q; cases q) hlk
  exact ⟨_, _, retN Y hx hret ht (hb hby hd) hr, hrun, hended, _, locs, rfl, ⟨(show Q _ T.heap by rw [eT]; exact hq), N⟩, r1, r2, r3, r4.mono hc hs⟩
theorem g_ldcS {vm0 : Vm} {k0 : Nat} (X : St p l e R (s.setVm vm0) m args below meth c n0 T h cells slots) (hx : p.tables.exec = Jvm.exec) (hby : c.code = bs) (hZ : Z.Warmed39 (s.setVm vm0).vm) {own text : String} {index n : Nat} (hown : (s.setVm vm0).vm.findClass own = some m.cls) (w : (Cond.stringLink own index text).before a0 Z = true) (wS : ∀ a ∈ Bundle.stringAtoms, a.before a0 Z = true) (hS : s.Since vm0 k0) (hk : k0 ≤ h.size) (hd : decode bs pc = .ok (.ldc index, 2)) (hn : 4 * text.toList.length ≤ n) (hbig : n ≤ 536870912) (hc : cells + 2 ≤ R.cells) (hl : slots + (n + 4) ≤ R.slots) (hp : pc + 2 = pc') (K : ∀ (a : Addr) T' h' k1, St p l e R (s.setVm T'.vm) m args below meth c n0 T' h' (cells + 2) (slots + (n + 4)) → Ext h h' → s.Since T'.vm k1 → k1 ≤ h'.size → Z.Warmed39 (s.setVm T'.vm).vm → (s.setVm T'.vm).vm.findClass own = some m.cls → Gl p e below n0 Φ Q (T'.setTop (mkF m pc' L (.ref a :: S)))) : Gl p e below n0 Φ Q (T.setTop (mkF m pc L S)) := by
  obtain ⟨locs, Y, eT, N⟩ := X; subst hp
  obtain ⟨a, T', h', k1, Y', e', E, S1, hk1, hZ1, hown1, st⟩ := ldcS Y hx hZ hown w wS eT hS hk (g := mkF m pc L S) rfl (hb hby hd) hn hbig hc hl
  exact Gl.st st (K a T' h' k1 ⟨locs, Y', e', N⟩ E S1 hk1 hZ1 hown1)
theorem g_getF (X : St p l e R s m args below meth c n0 T h cells slots) (hx : p.tables.exec = Jvm.exec) (hby : c.code = bs) (hZ : Z.Warmed39 s.vm) {own R0 O n d : String} {index : Nat} (hown : s.vm.findClass own = some m.cls) (w : (Cond.fieldLink own index R0 n d).before a0 Z = true) (via : Via Z R0 O n d) {a : Addr} {v : Value} (F : Fld Z h a O n d v) (hd : decode bs pc = .ok (.getfield index, 3)) (hp : pc + 3 = pc') (K : ∀ T', St p l e R s m args below meth c n0 T' h cells slots → Gl p e below n0 Φ Q (T'.setTop (mkF m pc' L (v :: S)))) : Gl p e below n0 Φ Q (T.setTop (mkF m pc L (.ref a :: S))) := by
  obtain ⟨locs, Y, eT, N⟩ := X; subst hp
  obtain ⟨T', Y', e', st⟩ := getF Y hx hZ hown (host := "") (Or.inl w) via eT F (g := mkF m pc L (.ref a :: S)) rfl rfl (hb hby hd)
  exact Gl.st st (K T' ⟨locs, Y', e', N⟩)
theorem g_putF (X : St p l e R s m args below meth c n0 T h cells slots) (hx : p.tables.exec = Jvm.exec) (hby : c.code = bs) (hZ : Z.Warmed39 s.vm) {own R0 O n d C : String} {index kk : Nat} {ty : FieldType} (hown : s.vm.findClass own = some m.cls) (w : (Cond.fieldLink own index R0 n d).before a0 Z = true) (via : Via Z R0 O n d) {a : Addr} {v old : Value} (F : Fld Z h a O n d old) (E : Exa Z h a C) (lay : (Cond.lays C O n d).before a0 Z = true ∨ ((Cond.laysFinal C O n d).before a0 Z = true ∧ own = O ∧ meth.name = "<init>")) (wi : (Cond.instantiable C kk).before a0 Z = true) (hty : parseFieldDescriptor d = some ty) (hn : narrow ty v = v) (hf : fits ty v = true) (hn0 : n0 ≤ a) (hd : decode bs pc = .ok (.putfield index, 3)) (hp : pc + 3 = pc') (K : ∀ T' h', St p l e R s m args below meth c n0 T' h' cells slots → Wr h h' a (Jvm.RoadKit.slotOf Z O n d) v → Gl p e below n0 Φ Q (T'.setTop (mkF m pc' L S))) : Gl p e below n0 Φ Q (T.setTop (mkF m pc L (v :: .ref a :: S))) := by
  obtain ⟨locs, Y, eT, N⟩ := X; subst hp
  obtain ⟨T', h', Y', e', W, st⟩ := putF Y hx hZ hown (host := "") (Or.inl w) via eT F E lay wi hty hn hf (g := mkF m pc L (v :: .ref a :: S)) rfl rfl (hb hby hd)
  exact Gl.st st (K T' h' ⟨_, Y', e', Fr.snoc Y' N hn0⟩ W)
theorem g_putFN (X : St p l e R s m args below meth c n0 T h cells slots) (hx : p.tables.exec = Jvm.exec) (hby : c.code = bs) (hZ : Z.Warmed39 s.vm) {own R0 O n d C : String} {index kk : Nat} {ty : FieldType} (hown : s.vm.findClass own = some m.cls) (w : (Cond.fieldLink own index R0 n d).before a0 Z = true) (via : Via Z R0 O n d) {a : Addr} {v v' old : Value} (F : Fld Z h a O n d old) (E : Exa Z h a C) (lay : (Cond.lays C O n d).before a0 Z = true ∨ ((Cond.laysFinal C O n d).before a0 Z = true ∧ own = O ∧ meth.name = "<init>")) (wi : (Cond.instantiable C kk).before a0 Z = true) (hty : parseFieldDescriptor d = some ty) (hn : narrow ty v = v') (hf : fits ty v' = true) (hn0 : n0 ≤ a) (hd : decode bs pc = .ok (.putfield index, 3)) (hp : pc + 3 = pc') (K : ∀ T' h', St p l e R s m args below meth c n0 T' h' cells slots → Wr h h' a (Jvm.RoadKit.slotOf Z O n d) v' → Gl p e below n0 Φ Q (T'.setTop (mkF m pc' L S))) : Gl p e below n0 Φ Q (T.setTop (mkF m pc L (v :: .ref a :: S))) := by
  obtain ⟨locs, Y, eT, N⟩ := X; subst hp
  obtain ⟨T', h', Y', e', W, st⟩ := putFN Y hx hZ hown w via eT F E lay wi hty hn hf (g := mkF m pc L (v :: .ref a :: S)) rfl rfl (hb hby hd)
  exact Gl.st st (K T' h' ⟨_, Y', e', Fr.snoc Y' N hn0⟩ W)
theorem g_getS (X : St p l e R s m args below meth c n0 T h cells slots) (hx : p.tables.exec = Jvm.exec) (hby : c.code = bs) (hZ : Z.Warmed39 s.vm) {own R0 O n d : String} {index : Nat} (hown : s.vm.findClass own = some m.cls) (w : (Cond.fieldLink own index R0 n d).before a0 Z = true) (via : Via Z R0 O n d) {v : Value} (F : Sta Z h O n d v) (hd : decode bs pc = .ok (.getstatic index, 3)) (hp : pc + 3 = pc') (K : ∀ T', St p l e R s m args below meth c n0 T' h cells slots → Gl p e below n0 Φ Q (T'.setTop (mkF m pc' L (v :: S)))) : Gl p e below n0 Φ Q (T.setTop (mkF m pc L S)) := by
  obtain ⟨locs, Y, eT, N⟩ := X; subst hp
  obtain ⟨T', Y', e', st⟩ := getS Y hx hZ hown (host := "") w via eT F (g := mkF m pc L S) rfl (hb hby hd)
  exact Gl.st st (K T' ⟨locs, Y', e', N⟩)
theorem g_new (X : St p l e R s m args below meth c n0 T h cells slots) (hx : p.tables.exec = Jvm.exec) (hby : c.code = bs) (hZ : Z.Warmed39 s.vm) {own C : String} {index n : Nat} (hown : s.vm.findClass own = some m.cls) (w : (Cond.classLink own index C).before a0 Z = true) (wi : (Cond.instantiable C n).before a0 Z = true) (wz : (Cond.initialized C).before a0 Z = true) (hd : decode bs pc = .ok (.new index, 3)) (hc : cells + 1 ≤ R.cells) (hs : slots + n ≤ R.slots) (hp : pc + 3 = pc') (K : ∀ T' h' (b : Addr), b = h.size → St p l e R s m args below meth c n0 T' h' (cells + 1) (slots + n) → Ext h h' → Exa Z h' b C → (∀ {O nm d : String} {ty : FieldType}, Laid Z a0 C O nm d → parseFieldDescriptor d = some ty → Fld Z h' b O nm d (defaultValue ty)) → Gl p e below n0 Φ Q (T'.setTop (mkF m pc' L (.ref b :: S)))) : Gl p e below n0 Φ Q (T.setTop (mkF m pc L S)) := by
  obtain ⟨locs, Y, eT, N⟩ := X; subst hp
  obtain ⟨T', h', Y', e', E, A, D, -, st⟩ := newO Y hx hZ hown w wi wz eT (g := mkF m pc L S) rfl (hb hby hd) hc hs
  exact Gl.st st (K T' h' _ rfl ⟨locs, Y', e', N⟩ E A D)
theorem g_newarray (X : St p l e R s m args below meth c n0 T h cells slots) (hx : p.tables.exec = Jvm.exec) (hby : c.code = bs) (hZ : Z.Warmed39 s.vm) {aty : ArrayType} (w : (Cond.arrayClass (newarray.typeOf aty)).before a0 Z = true) {n : Int32} {k cap : Nat} (hd : decode bs pc = .ok (.newarray aty, 2)) (hn : n.toInt = (k : Int)) (hcap : k ≤ cap) (hb8 : cap * 8 ≤ 536870912) (hc : cells + 1 ≤ R.cells) (hs : slots + cap ≤ R.slots) (hp : pc + 2 = pc') (K : ∀ T' h' (b : Addr), b = h.size → St p l e R s m args below meth c n0 T' h' (cells + 1) (slots + cap) → Ext h h' → Ary Z h' b (newarray.typeOf aty) k (fun _ => defaultValue (newarray.typeOf aty)) → Gl p e below n0 Φ Q (T'.setTop (mkF m pc' L (.ref b :: S)))) : Gl p e below n0 Φ Q (T.setTop (mkF m pc L (.int n :: S))) := by
  obtain ⟨locs, Y, eT, N⟩ := X; subst hp
  have e1 : n.toNatClampNeg = k := by simp only [Int32.toNatClampNeg]; omega
  obtain ⟨T', h', cA, Y', e', E, A, st⟩ := newP Y hx hZ w eT (g := mkF m pc L (.int n :: S)) rfl (hb hby hd) rfl (by rw [Int32.lt_iff_toInt_lt]; have : (0 : Int32).toInt = 0 := rfl; omega) (cap := cap) (by omega) hb8 hc hs
  exact Gl.st st (K T' h' _ rfl ⟨locs, Y', e', N⟩ E ⟨_, A, by rw [sz_new]; exact e1, fun i hi => by simp [newA, e1, hi]⟩)
theorem g_anewarray (X : St p l e R s m args below meth c n0 T h cells slots) (hx : p.tables.exec = Jvm.exec) (hby : c.code = bs) (hZ : Z.Warmed39 s.vm) {own C : String} {index : Nat} (hown : s.vm.findClass own = some m.cls) (w1 : (Cond.classLink own index C).before a0 Z = true) (w2 : (Cond.arrayOver (.object C)).before a0 Z = true) {n : Int32} {k cap : Nat} (hd : decode bs pc = .ok (.anewarray index, 3)) (hn : n.toInt = (k : Int)) (hcap : k ≤ cap) (hb8 : cap * 8 ≤ 536870912) (hc : cells + 1 ≤ R.cells) (hs : slots + cap ≤ R.slots) (hp : pc + 3 = pc') (K : ∀ T' h' (b : Addr), b = h.size → St p l e R s m args below meth c n0 T' h' (cells + 1) (slots + cap) → Ext h h' → Ary Z h' b (.object C) k (fun _ => .null) → Ov Z h' b C → Gl p e below n0 Φ Q (T'.setTop (mkF m pc' L (.ref b :: S)))) : Gl p e below n0 Φ Q (T.setTop (mkF m pc L (.int n :: S))) := by
  obtain ⟨locs, Y, eT, N⟩ := X; subst hp
  have e1 : n.toNatClampNeg = k := by simp only [Int32.toNatClampNeg]; omega
  obtain ⟨T', h', cA, Y', e', E, A, O, st⟩ := newR Y hx hZ hown w1 w2 eT (g := mkF m pc L (.int n :: S)) rfl (hb hby hd) rfl (by rw [Int32.lt_iff_toInt_lt]; have : (0 : Int32).toInt = 0 := rfl; omega) (cap := cap) (by omega) hb8 hc hs
  exact Gl.st st (K T' h' _ rfl ⟨locs, Y', e', N⟩ E ⟨_, A, by rw [sz_new]; exact e1, fun i hi => by simp [newA, e1, hi, defaultValue]⟩ ⟨_, A.1, O⟩)
theorem g_arraylength (X : St p l e R s m args below meth c n0 T h cells slots) (hx : p.tables.exec = Jvm.exec) (hby : c.code = bs) (hZ : Z.Warmed39 s.vm) {a : Addr} {ty : FieldType} {k : Nat} {f : Nat → Value} {n : Int32} (A : Ary Z h a ty k f) (hn : n.toInt = (k : Int)) (hd : decode bs pc = .ok (.arraylength, 1)) (hp : pc + 1 = pc') (K : Gl p e below n0 Φ Q (T.setTop (mkF m pc' L (.int n :: S)))) : Gl p e below n0 Φ Q (T.setTop (mkF m pc L (.ref a :: S))) := by
  obtain ⟨locs, Y, eT, -⟩ := X; subst hp
  obtain ⟨cl, Ar, sz, -⟩ := A
  have e1 : cl.slots.size.toInt32 = n := by
    have q := rng32 n
    rw [← Int32.toInt_inj, len_toInt (by omega), sz, hn]
  refine Gl.st (fun t k => Y.arraylength hx (by rw [eT]; exact Ar.1) (State.isArrayOf_alike hZ.alike Ar.2.1) (g := mkF m pc L (.ref a :: S)) rfl rfl (hb hby hd) t k) ?_
  rw [e1]; exact K
theorem g_iaload (X : St p l e R s m args below meth c n0 T h cells slots) (hx : p.tables.exec = Jvm.exec) (hby : c.code = bs) (hZ : Z.Warmed39 s.vm) {a : Addr} {k i : Nat} {f : Nat → Value} {j : Int32} {v : Value} (A : Ary Z h a .int k f) (hj : j.toInt = (i : Int)) (hi : i < k) (hv : f i = v) (hd : decode bs pc = .ok (.iaload, 1)) (hp : pc + 1 = pc') (K : Gl p e below n0 Φ Q (T.setTop (mkF m pc' L (v :: S)))) : Gl p e below n0 Φ Q (T.setTop (mkF m pc L (.int j :: .ref a :: S))) := by
  obtain ⟨locs, Y, eT, -⟩ := X; subst hp hv
  obtain ⟨cl, Ar, sz, H⟩ := A
  obtain ⟨q1, q2⟩ := own_in (k := k) hj hi
  exact Gl.st (fun t k => Y.iaload hx (by rw [eT]; exact Ar.1) (State.isArrayOf_alike hZ.alike Ar.2.1) Ar.2.2 (by rw [sz]; exact q1) (by rw [q2]; exact H i hi) (g := mkF m pc L (.int j :: .ref a :: S)) rfl rfl (hb hby hd) t k) K
theorem g_laload (X : St p l e R s m args below meth c n0 T h cells slots) (hx : p.tables.exec = Jvm.exec) (hby : c.code = bs) (hZ : Z.Warmed39 s.vm) {a : Addr} {k i : Nat} {f : Nat → Value} {j : Int32} {v : Value} (A : Ary Z h a .long k f) (hj : j.toInt = (i : Int)) (hi : i < k) (hv : f i = v) (hd : decode bs pc = .ok (.laload, 1)) (hp : pc + 1 = pc') (K : Gl p e below n0 Φ Q (T.setTop (mkF m pc' L (v :: S)))) : Gl p e below n0 Φ Q (T.setTop (mkF m pc L (.int j :: .ref a :: S))) := by
  obtain ⟨locs, Y, eT, -⟩ := X; subst hp hv
  obtain ⟨cl, Ar, sz, H⟩ := A
  obtain ⟨q1, q2⟩ := own_in (k := k) hj hi
  exact Gl.st (fun t k => Y.laload hx (by rw [eT]; exact Ar.1) (State.isArrayOf_alike hZ.alike Ar.2.1) Ar.2.2 (by rw [sz]; exact q1) (by rw [q2]; exact H i hi) (g := mkF m pc L (.int j :: .ref a :: S)) rfl rfl (hb hby hd) t k) K
theorem g_caload (X : St p l e R s m args below meth c n0 T h cells slots) (hx : p.tables.exec = Jvm.exec) (hby : c.code = bs) (hZ : Z.Warmed39 s.vm) {a : Addr} {k i : Nat} {f : Nat → Value} {j : Int32} {v : Value} (A : Ary Z h a .char k f) (hj : j.toInt = (i : Int)) (hi : i < k) (hv : f i = v) (hd : decode bs pc = .ok (.caload, 1)) (hp : pc + 1 = pc') (K : Gl p e below n0 Φ Q (T.setTop (mkF m pc' L (v :: S)))) : Gl p e below n0 Φ Q (T.setTop (mkF m pc L (.int j :: .ref a :: S))) := by
  obtain ⟨locs, Y, eT, -⟩ := X; subst hp hv
  obtain ⟨cl, Ar, sz, H⟩ := A
  obtain ⟨q1, q2⟩ := own_in (k := k) hj hi
  exact Gl.st (fun t k => Y.caload hx (by rw [eT]; exact Ar.1) (State.isArrayOf_alike hZ.alike Ar.2.1) Ar.2.2 (by rw [sz]; exact q1) (by rw [q2]; exact H i hi) (g := mkF m pc L (.int j :: .ref a :: S)) rfl rfl (hb hby hd) t k) K
theorem g_baload (X : St p l e R s m args below meth c n0 T h cells slots) (hx : p.tables.exec = Jvm.exec) (hby : c.code = bs) (hZ : Z.Warmed39 s.vm) {a : Addr} {k i : Nat} {f : Nat → Value} {j : Int32} {v : Value} (A : Ary Z h a .byte k f) (hj : j.toInt = (i : Int)) (hi : i < k) (hv : f i = v) (hd : decode bs pc = .ok (.baload, 1)) (hp : pc + 1 = pc') (K : Gl p e below n0 Φ Q (T.setTop (mkF m pc' L (v :: S)))) : Gl p e below n0 Φ Q (T.setTop (mkF m pc L (.int j :: .ref a :: S))) := by
  obtain ⟨locs, Y, eT, -⟩ := X; subst hp hv
  obtain ⟨cl, Ar, sz, H⟩ := A
  obtain ⟨q1, q2⟩ := own_in (k := k) hj hi
  exact Gl.st (fun t k => Y.baloadBytes hx (by rw [eT]; exact Ar.1) (State.isArrayOf_alike hZ.alike Ar.2.1) Ar.2.2 (by rw [sz]; exact q1) (by rw [q2]; exact H i hi) (g := mkF m pc L (.int j :: .ref a :: S)) rfl rfl (hb hby hd) t k) K
theorem g_zaload (X : St p l e R s m args below meth c n0 T h cells slots) (hx : p.tables.exec = Jvm.exec) (hby : c.code = bs) (hZ : Z.Warmed39 s.vm) {a : Addr} {k i : Nat} {f : Nat → Value} {j : Int32} {v : Value} (A : Ary Z h a .boolean k f) (hj : j.toInt = (i : Int)) (hi : i < k) (hv : f i = v) (hd : decode bs pc = .ok (.baload, 1)) (hp : pc + 1 = pc') (K : Gl p e below n0 Φ Q (T.setTop (mkF m pc' L (v :: S)))) : Gl p e below n0 Φ Q (T.setTop (mkF m pc L (.int j :: .ref a :: S))) := by
  obtain ⟨locs, Y, eT, -⟩ := X; subst hp hv
  obtain ⟨cl, Ar, sz, H⟩ := A
  obtain ⟨q1, q2⟩ := own_in (k := k) hj hi
  exact Gl.st (fun t k => Y.baloadBooleans hx (by rw [eT]; exact Ar.1) (State.isArrayOf_alike hZ.alike Ar.2.1) Ar.2.2 (by rw [sz]; exact q1) (by rw [q2]; exact H i hi) (g := mkF m pc L (.int j :: .ref a :: S)) rfl rfl (hb hby hd) t k) K
theorem g_aaload (X : St p l e R s m args below meth c n0 T h cells slots) (hx : p.tables.exec = Jvm.exec) (hby : c.code = bs) (hZ : Z.Warmed39 s.vm) {a : Addr} {k i : Nat} {f : Nat → Value} {j : Int32} {v : Value} {ty : FieldType} (A : Ary Z h a ty k f) (hty : ty.isReference = true) (hj : j.toInt = (i : Int)) (hi : i < k) (hv : f i = v) (hd : decode bs pc = .ok (.aaload, 1)) (hp : pc + 1 = pc') (K : Gl p e below n0 Φ Q (T.setTop (mkF m pc' L (v :: S)))) : Gl p e below n0 Φ Q (T.setTop (mkF m pc L (.int j :: .ref a :: S))) := by
  obtain ⟨locs, Y, eT, -⟩ := X; subst hp hv
  obtain ⟨cl, Ar, sz, H⟩ := A
  obtain ⟨q1, q2⟩ := own_in (k := k) hj hi
  exact Gl.st (fun t k => Y.aaload hx (by rw [eT]; exact Ar.1) (State.isArrayOf_alike hZ.alike Ar.2.1) hty Ar.2.2 (by rw [sz]; exact q1) (by rw [q2]; exact H i hi) (g := mkF m pc L (.int j :: .ref a :: S)) rfl rfl (hb hby hd) t k) K
theorem g_iastore (X : St p l e R s m args below meth c n0 T h cells slots) (hx : p.tables.exec = Jvm.exec) (hby : c.code = bs) (hZ : Z.Warmed39 s.vm) {a : Addr} {k i : Nat} {f : Nat → Value} {j : Int32} {x : Int32} (A : Ary Z h a .int k f) (hj : j.toInt = (i : Int)) (hi : i < k) (hn0 : n0 ≤ a) (hd : decode bs pc = .ok (.iastore, 1)) (hp : pc + 1 = pc') (K : ∀ T' h' sl0, St p l e R s m args below meth c n0 T' h' cells slots → Wr h h' a sl0 (.int x) → Ary Z h' a .int k (own_upd f i (.int x)) → Gl p e below n0 Φ Q (T'.setTop (mkF m pc' L S))) : Gl p e below n0 Φ Q (T.setTop (mkF m pc L (.int x :: .int j :: .ref a :: S))) := by
  obtain ⟨locs, Y, eT, N⟩ := X; subst hp
  obtain ⟨cl, Ar, sz, H⟩ := A
  obtain ⟨q1, q2⟩ := own_in (k := k) hj hi
  obtain ⟨T', h', Y', e', W, st⟩ := stI Y hx hZ eT Ar (j := j) (by rw [sz]; exact q1) (g := mkF m pc L (.int x :: .int j :: .ref a :: S)) rfl rfl (hb hby hd)
  exact Gl.st st (K T' h' _ ⟨_, Y', e', Fr.snoc Y' N hn0⟩ W (Ary.same Ar sz H (q2 ▸ W)))
theorem g_lastore (X : St p l e R s m args below meth c n0 T h cells slots) (hx : p.tables.exec = Jvm.exec) (hby : c.code = bs) (hZ : Z.Warmed39 s.vm) {a : Addr} {k i : Nat} {f : Nat → Value} {j : Int32} {x : Int64} (A : Ary Z h a .long k f) (hj : j.toInt = (i : Int)) (hi : i < k) (hn0 : n0 ≤ a) (hd : decode bs pc = .ok (.lastore, 1)) (hp : pc + 1 = pc') (K : ∀ T' h' sl0, St p l e R s m args below meth c n0 T' h' cells slots → Wr h h' a sl0 (.long x) → Ary Z h' a .long k (own_upd f i (.long x)) → Gl p e below n0 Φ Q (T'.setTop (mkF m pc' L S))) : Gl p e below n0 Φ Q (T.setTop (mkF m pc L (.long x :: .int j :: .ref a :: S))) := by
  obtain ⟨locs, Y, eT, N⟩ := X; subst hp
  obtain ⟨cl, Ar, sz, H⟩ := A
  obtain ⟨q1, q2⟩ := own_in (k := k) hj hi
  obtain ⟨T', h', Y', e', W, st⟩ := stJ Y hx hZ eT Ar (j := j) (by rw [sz]; exact q1) (g := mkF m pc L (.long x :: .int j :: .ref a :: S)) rfl rfl (hb hby hd)
  exact Gl.st st (K T' h' _ ⟨_, Y', e', Fr.snoc Y' N hn0⟩ W (Ary.same Ar sz H (q2 ▸ W)))
theorem g_bastore (X : St p l e R s m args below meth c n0 T h cells slots) (hx : p.tables.exec = Jvm.exec) (hby : c.code = bs) (hZ : Z.Warmed39 s.vm) {a : Addr} {k i : Nat} {f : Nat → Value} {j : Int32} {x : Int32} (A : Ary Z h a .byte k f) (hj : j.toInt = (i : Int)) (hi : i < k) (hn0 : n0 ≤ a) (hd : decode bs pc = .ok (.bastore, 1)) (hp : pc + 1 = pc') (K : ∀ T' h' sl0, St p l e R s m args below meth c n0 T' h' cells slots → Wr h h' a sl0 (.int (nar .byte x)) → Ary Z h' a .byte k (own_upd f i (.int (nar .byte x))) → Gl p e below n0 Φ Q (T'.setTop (mkF m pc' L S))) : Gl p e below n0 Φ Q (T.setTop (mkF m pc L (.int x :: .int j :: .ref a :: S))) := by
  obtain ⟨locs, Y, eT, N⟩ := X; subst hp
  obtain ⟨cl, Ar, sz, H⟩ := A
  obtain ⟨q1, q2⟩ := own_in (k := k) hj hi
  obtain ⟨T', h', Y', e', W, st⟩ := stB Y hx hZ eT Ar (j := j) (by rw [sz]; exact q1) (g := mkF m pc L (.int x :: .int j :: .ref a :: S)) rfl rfl (hb hby hd)
  exact Gl.st st (K T' h' _ ⟨_, Y', e', Fr.snoc Y' N hn0⟩ W (Ary.same Ar sz H (q2 ▸ W)))
theorem g_zastore (X : St p l e R s m args below meth c n0 T h cells slots) (hx : p.tables.exec = Jvm.exec) (hby : c.code = bs) (hZ : Z.Warmed39 s.vm) {a : Addr} {k i : Nat} {f : Nat → Value} {j : Int32} {x : Int32} (A : Ary Z h a .boolean k f) (hj : j.toInt = (i : Int)) (hi : i < k) (hn0 : n0 ≤ a) (hd : decode bs pc = .ok (.bastore, 1)) (hp : pc + 1 = pc') (K : ∀ T' h' sl0, St p l e R s m args below meth c n0 T' h' cells slots → Wr h h' a sl0 (.int (nar .boolean x)) → Ary Z h' a .boolean k (own_upd f i (.int (nar .boolean x))) → Gl p e below n0 Φ Q (T'.setTop (mkF m pc' L S))) : Gl p e below n0 Φ Q (T.setTop (mkF m pc L (.int x :: .int j :: .ref a :: S))) := by
  obtain ⟨locs, Y, eT, N⟩ := X; subst hp
  obtain ⟨cl, Ar, sz, H⟩ := A
  obtain ⟨q1, q2⟩ := own_in (k := k) hj hi
  obtain ⟨T', h', Y', e', W, st⟩ := stZ Y hx hZ eT Ar (j := j) (by rw [sz]; exact q1) (g := mkF m pc L (.int x :: .int j :: .ref a :: S)) rfl rfl (hb hby hd)
  exact Gl.st st (K T' h' _ ⟨_, Y', e', Fr.snoc Y' N hn0⟩ W (Ary.same Ar sz H (q2 ▸ W)))
theorem g_castore (X : St p l e R s m args below meth c n0 T h cells slots) (hx : p.tables.exec = Jvm.exec) (hby : c.code = bs) (hZ : Z.Warmed39 s.vm) {a : Addr} {k i : Nat} {f : Nat → Value} {j : Int32} {x : Int32} (A : Ary Z h a .char k f) (hj : j.toInt = (i : Int)) (hi : i < k) (hn0 : n0 ≤ a) (hd : decode bs pc = .ok (.castore, 1)) (hp : pc + 1 = pc') (K : ∀ T' h' sl0, St p l e R s m args below meth c n0 T' h' cells slots → Wr h h' a sl0 (.int (nar .char x)) → Ary Z h' a .char k (own_upd f i (.int (nar .char x))) → Gl p e below n0 Φ Q (T'.setTop (mkF m pc' L S))) : Gl p e below n0 Φ Q (T.setTop (mkF m pc L (.int x :: .int j :: .ref a :: S))) := by
  obtain ⟨locs, Y, eT, N⟩ := X; subst hp
  obtain ⟨cl, Ar, sz, H⟩ := A
  obtain ⟨q1, q2⟩ := own_in (k := k) hj hi
  obtain ⟨T', h', Y', e', W, st⟩ := stC Y hx hZ eT Ar (j := j) (by rw [sz]; exact q1) (g := mkF m pc L (.int x :: .int j :: .ref a :: S)) rfl rfl (hb hby hd)
  exact Gl.st st (K T' h' _ ⟨_, Y', e', Fr.snoc Y' N hn0⟩ W (Ary.same Ar sz H (q2 ▸ W)))
theorem g_aastore (X : St p l e R s m args below meth c n0 T h cells slots) (hx : p.tables.exec = Jvm.exec) (hby : c.code = bs) (hZ : Z.Warmed39 s.vm) {a : Addr} {k i : Nat} {f : Nat → Value} {j : Int32} {v : Value} {ty : FieldType} (A : Ary Z h a ty k f) (hty : ty.isReference = true) (St0 : Sto Z h a v) (hj : j.toInt = (i : Int)) (hi : i < k) (hn0 : n0 ≤ a) (hd : decode bs pc = .ok (.aastore, 1)) (hp : pc + 1 = pc') (K : ∀ T' h' sl0, St p l e R s m args below meth c n0 T' h' cells slots → Wr h h' a sl0 v → Ary Z h' a ty k (own_upd f i v) → Gl p e below n0 Φ Q (T'.setTop (mkF m pc' L S))) : Gl p e below n0 Φ Q (T.setTop (mkF m pc L (v :: .int j :: .ref a :: S))) := by
  obtain ⟨locs, Y, eT, N⟩ := X; subst hp
  obtain ⟨cl, Ar, sz, H⟩ := A
  obtain ⟨q1, q2⟩ := own_in (k := k) hj hi
  obtain ⟨T', h', Y', e', W, st⟩ := stR Y hx hZ eT Ar (j := j) (by rw [sz]; exact q1) hty St0 (g := mkF m pc L (v :: .int j :: .ref a :: S)) rfl rfl (hb hby hd)
  exact Gl.st st (K T' h' _ ⟨_, Y', e', Fr.snoc Y' N hn0⟩ W (Ary.same Ar sz H (q2 ▸ W)))
theorem g_instY (X : St p l e R s m args below meth c n0 T h cells slots) (hx : p.tables.exec = Jvm.exec) (hby : c.code = bs) (hZ : Z.Warmed39 s.vm) {own K : String} {index : Nat} {a : Addr} (hown : s.vm.findClass own = some m.cls) (w : (Cond.classLink own index K).before a0 Z = true) (I : Ins Z h a K true) (hd : decode bs pc = .ok (.instanceof index, 3)) (hp : pc + 3 = pc') (K1 : ∀ T', St p l e R s m args below meth c n0 T' h cells slots → Gl p e below n0 Φ Q (T'.setTop (mkF m pc' L (.int 1 :: S)))) : Gl p e below n0 Φ Q (T.setTop (mkF m pc L (.ref a :: S))) := by
  obtain ⟨locs, Y, eT, N⟩ := X; subst hp
  obtain ⟨T', Y', e', st⟩ := instY Y hx hZ hown w eT I (g := mkF m pc L (.ref a :: S)) rfl rfl (hb hby hd)
  exact Gl.st st (K1 T' ⟨locs, Y', e', N⟩)
theorem g_castY (X : St p l e R s m args below meth c n0 T h cells slots) (hx : p.tables.exec = Jvm.exec) (hby : c.code = bs) (hZ : Z.Warmed39 s.vm) {own K : String} {index : Nat} {a : Addr} (hown : s.vm.findClass own = some m.cls) (w : (Cond.classLink own index K).before a0 Z = true) (I : Ins Z h a K true) (hd : decode bs pc = .ok (.checkcast index, 3)) (hp : pc + 3 = pc') (K1 : ∀ T', St p l e R s m args below meth c n0 T' h cells slots → Gl p e below n0 Φ Q (T'.setTop (mkF m pc' L (.ref a :: S)))) : Gl p e below n0 Φ Q (T.setTop (mkF m pc L (.ref a :: S))) := by
  obtain ⟨locs, Y, eT, N⟩ := X; subst hp
  obtain ⟨T', Y', e', st⟩ := castY Y hx hZ hown w eT I (g := mkF m pc L (.ref a :: S)) rfl rfl (hb hby hd)
  exact Gl.st st (K1 T' ⟨locs, Y', e', N⟩)
theorem g_instNo (X : St p l e R s m args below meth c n0 T h cells slots) (hx : p.tables.exec = Jvm.exec) (hby : c.code = bs) (hZ : Z.Warmed39 s.vm) {own K C : String} {index : Nat} {a : Addr} (hown : s.vm.findClass own = some m.cls) (w : (Cond.classLink own index K).before a0 Z = true) (E : Exa Z h a C) (I : ∃ c t, Z.vm.findClass C = some c ∧ Z.vm.findClass K = some t ∧ Z.vm.assignable c t = false) (hd : decode bs pc = .ok (.instanceof index, 3)) (hp : pc + 3 = pc') (K1 : ∀ T', St p l e R s m args below meth c n0 T' h cells slots → Gl p e below n0 Φ Q (T'.setTop (mkF m pc' L (.int 0 :: S)))) : Gl p e below n0 Φ Q (T.setTop (mkF m pc L (.ref a :: S))) := by
  obtain ⟨locs, Y, eT, N⟩ := X; subst hp
  obtain ⟨T', Y', e', st⟩ := instNo Y hx hZ hown w eT E I (g := mkF m pc L (.ref a :: S)) rfl rfl (hb hby hd)
  exact Gl.st st (K1 T' ⟨locs, Y', e', N⟩)
theorem g_instNull (X : St p l e R s m args below meth c n0 T h cells slots) (hx : p.tables.exec = Jvm.exec) (hby : c.code = bs) {index : Nat} (hd : decode bs pc = .ok (.instanceof index, 3)) (hp : pc + 3 = pc') (K1 : Gl p e below n0 Φ Q (T.setTop (mkF m pc' L (.int 0 :: S)))) : Gl p e below n0 Φ Q (T.setTop (mkF m pc L (.null :: S))) := by
  obtain ⟨locs, Y, eT, N⟩ := X; subst hp
  exact Gl.st (fun t k => Y.instanceofNull hx (g := mkF m pc L (.null :: S)) rfl rfl (hb hby hd) t k) K1
theorem g_initO (X : St p l e R s m args below meth c n0 T h cells slots) (hx : p.tables.exec = Jvm.exec) (hby : c.code = bs) (hZ : Z.Warmed39 s.vm) {own : String} {idx W : Nat} {a : Addr} (hown : s.vm.findClass own = some m.cls) (w1 : (Cond.methodLink own idx Lib.objectInit).before a0 Z = true) (w2 : (Cond.instanceMethod Lib.objectInit).before a0 Z = true) (w3 : (Cond.code Lib.objectInit ⟨#[0xb1]⟩ 1 none).before a0 Z = true) (hsz : L.size = c.maxLocals) (hd : decode bs pc = .ok (.invokespecial idx, 3)) (hf : 1 ≤ R.frames) (hW : 2 * 0 + (S.map fun v => v.category).sum ≤ W) (hlo : W + 12 ≤ R.locals) (hp : pc + 3 = pc') (K : ∀ T', St p l e R s m args below meth c n0 T' h cells slots → Gl p e below n0 Φ Q (T'.setTop (mkF m pc' L S))) : Gl p e below n0 Φ Q (T.setTop (mkF m pc L (.ref a :: S))) := by
  obtain ⟨locs, Y, eT, N⟩ := X; subst hp
  obtain ⟨T', Y', e', st⟩ := initO Y hx hZ hown w1 w2 w3 eT (g := mkF m pc L (.ref a :: S)) rfl hsz rfl (hb hby hd) hf (W := W) hW hlo
  exact Gl.st st (K T' ⟨locs, Y', e', N⟩)
theorem g_callS (X : St p l e R s m args below meth c n0 T h cells slots) (hx : p.tables.exec = Jvm.exec) (hby : c.code = bs) (hZ : Z.Warmed39 s.vm) {rm : Room} {y : MethodName} {bytes : ByteArray} {maxL : Nat} {ret : Option FieldType} {Qc : Option Value → Heap → Prop} {own : String} {idx : Nat} {argsL S0 : List Value} (hown : s.vm.findClass own = some m.cls) (w1 : (Cond.methodLink own idx y).before a0 Z = true) (w2 : (Cond.static y).before a0 Z = true) (w3 : (Cond.initialized y.cls).before a0 Z = true) (w4 : (Cond.code y bytes maxL ret).before a0 Z = true) (hy : y.cls ≠ "java/lang/invoke/MethodHandle" ∧ y.cls ≠ "java/lang/invoke/VarHandle") (hM : Ctr l Z y bytes maxL ret [] rm argsL.toArray h n0 rm.cells rm.slots Qc) (hsz : L.size = c.maxLocals) (hlen : ∀ sig, parseMethodDescriptor y.desc = some sig → argsL.length = sig.parameters.length) (hst : S0 = argsL.reverse ++ S) (hd : decode bs pc = .ok (.invokestatic idx, 3)) (hf : rm.frames + 1 ≤ R.frames) {W : Nat} (hW : 2 * 0 + (S.map fun v => v.category).sum ≤ W) (hlo : W + (maxL + 11) + rm.locals ≤ R.locals) (hc : cells + rm.cells ≤ R.cells) (hs : slots + rm.slots ≤ R.slots) (hp : pc + 3 = pc') (K : ∀ T' v, St p l e R s m args below meth c n0 T' T'.heap (cells + rm.cells) (slots + rm.slots) → Qc v T'.heap → Gl p e below n0 Φ Q (T'.setTop (mkF m pc' L (v.toList ++ S)))) : Gl p e below n0 Φ Q (T.setTop (mkF m pc L S0)) := by
  obtain ⟨locs, Y, eT, N⟩ := X; subst hp
  obtain ⟨v, _, ⟨T', L1, k1, n1⟩, -, Y', ⟨Lc, hQ, l1, y1, z1⟩, st⟩ := Jvm.LawKit.callS Y hx (y := y) hown (mvT hZ w1) (mvT hZ w2) (mvT hZ w3) (mvT hZ w4) hy (backOf (W := W) (Q := fun v h L => Qc v h ∧ Fr n0 L) hM hZ w4 w3 hf hlo) (g := mkF m pc L S0) rfl hsz (argsL := argsL) (rest := S) hlen hst hW (hb hby hd) (fun _ _ => ⟨rfl, eT, hc, hs⟩)
  dsimp only [Pt.U, Pt.locs, Pt.cells, Pt.slots] at Y' l1 y1 z1 st hQ
  subst l1 y1 z1
  exact Gl.st (st) (K T' v ⟨_, Y', rfl, Fr.app N hQ.2⟩ hQ.1)
theorem g_callC (X : St p l e R s m args below meth c n0 T h cells slots) (hx : p.tables.exec = Jvm.exec) (hby : c.code = bs) (hZ : Z.Warmed39 s.vm) {rm : Room} {y : MethodName} {bytes : ByteArray} {maxL : Nat} {Qc : Option Value → Heap → Prop} {own : String} {idx : Nat} {a : Addr} {argsL S0 : List Value} (hy1 : y.name = "<init>") (hown : s.vm.findClass own = some m.cls) (w1 : (Cond.methodLink own idx y).before a0 Z = true) (w2 : (Cond.instanceMethod y).before a0 Z = true) (w3 : (Cond.initialized y.cls).before a0 Z = true) (w4 : (Cond.code y bytes maxL none).before a0 Z = true) (hy : y.cls ≠ "java/lang/invoke/MethodHandle" ∧ y.cls ≠ "java/lang/invoke/VarHandle") (hM : Ctr l Z y bytes maxL none [] rm (.ref a :: argsL).toArray h n0 rm.cells rm.slots Qc) (hsz : L.size = c.maxLocals) (hlen : ∀ sig, parseMethodDescriptor y.desc = some sig → argsL.length = sig.parameters.length) (hst : S0 = argsL.reverse ++ .ref a :: S) (hd : decode bs pc = .ok (.invokespecial idx, 3)) (hf : rm.frames + 1 ≤ R.frames) {W : Nat} (hW : 2 * 0 + (S.map fun v => v.category).sum ≤ W) (hlo : W + (maxL + 11) + rm.locals ≤ R.locals) (hc : cells + rm.cells ≤ R.cells) (hs : slots + rm.slots ≤ R.slots) (hp : pc + 3 = pc') (K : ∀ T' v, St p l e R s m args below meth c n0 T' T'.heap (cells + rm.cells) (slots + rm.slots) → Qc v T'.heap → Gl p e below n0 Φ Q (T'.setTop (mkF m pc' L (v.toList ++ S)))) : Gl p e below n0 Φ Q (T.setTop (mkF m pc L S0)) := by
  obtain ⟨locs, Y, eT, N⟩ := X; subst hp
  obtain ⟨v, _, ⟨T', L1, k1, n1⟩, -, Y', ⟨Lc, hQ, l1, y1, z1⟩, st⟩ := Y.specialBack hx (y := y) hy1 hown (mvT hZ w1) (mvT hZ w2) (mvT hZ w4) hy (backOf (W := W) (Q := fun v h L => Qc v h ∧ Fr n0 L) hM hZ w4 w3 hf hlo) (g := mkF m pc L S0) rfl hsz (Steps.refl _) (a := a) (argsL := argsL) (rest := S) hlen hst hW (hb hby hd) (fun _ _ => ⟨rfl, eT, hc, hs⟩)
  dsimp only [Pt.U, Pt.locs, Pt.cells, Pt.slots] at Y' l1 y1 z1 st hQ
  subst l1 y1 z1
  exact Gl.st (fun t k => st.trans k) (K T' v ⟨_, Y', rfl, Fr.app N hQ.2⟩ hQ.1)
theorem g_callV (X : St p l e R s m args below meth c n0 T h cells slots) (hx : p.tables.exec = Jvm.exec) (hby : c.code = bs) (hZ : Z.Warmed39 s.vm) {rm : Room} {y : MethodName} {bytes : ByteArray} {maxL : Nat} {ret : Option FieldType} {Qc : Option Value → Heap → Prop} {own C : String} {idx : Nat} {a : Addr} {y' : MethodName} {argsL S0 : List Value} (hown : s.vm.findClass own = some m.cls) (w1 : (Cond.methodLink own idx y').before a0 Z = true) (w2 : (Cond.declares y').before a0 Z = true) (w5 : NotFace s y') (w6 : (Cond.selects C y' y).before a0 Z = true) (w7 : (Cond.instanceMethod y).before a0 Z = true) (w3 : (Cond.initialized y.cls).before a0 Z = true) (w4 : (Cond.code y bytes maxL ret).before a0 Z = true) (hy : y'.cls ≠ "java/lang/invoke/MethodHandle" ∧ y'.cls ≠ "java/lang/invoke/VarHandle") (E : Exa Z h a C) (hM : Ctr l Z y bytes maxL ret [] rm (.ref a :: argsL).toArray h n0 rm.cells rm.slots Qc) (hsz : L.size = c.maxLocals) (hlen : ∀ sig, parseMethodDescriptor y'.desc = some sig → argsL.length = sig.parameters.length) (hst : S0 = argsL.reverse ++ .ref a :: S) (hd : decode bs pc = .ok (.invokevirtual idx, 3)) (hf : rm.frames + 1 ≤ R.frames) {W : Nat} (hW : 2 * 0 + (S.map fun v => v.category).sum ≤ W) (hlo : W + (maxL + 11) + rm.locals ≤ R.locals) (hc : cells + rm.cells ≤ R.cells) (hs : slots + rm.slots ≤ R.slots) (hp : pc + 3 = pc') (K : ∀ T' v, St p l e R s m args below meth c n0 T' T'.heap (cells + rm.cells) (slots + rm.slots) → Qc v T'.heap → Gl p e below n0 Φ Q (T'.setTop (mkF m pc' L (v.toList ++ S)))) : Gl p e below n0 Φ Q (T.setTop (mkF m pc L S0)) := by
  obtain ⟨locs, Y, eT, N⟩ := X; subst hp
  obtain ⟨cB, kB, qa, qb, qc⟩ := isOf hZ eT E
  obtain ⟨v, _, ⟨T', L1, k1, n1⟩, -, Y', ⟨Lc, hQ, l1, y1, z1⟩, st⟩ := Y.virtualBack hx (y := y') (z := y) hown (mvT hZ w1) (mvT hZ w2) w5 (mvT hZ w6) (mvT hZ w7) hy (backOf (W := W) (Q := fun v h L => Qc v h ∧ Fr n0 L) hM hZ w4 w3 hf hlo) qa qc (g := mkF m pc L S0) rfl hsz (Steps.refl _) (argsL := argsL) (rest := S) hlen hst hW (hb hby hd) (fun _ _ => ⟨rfl, eT, hc, hs⟩)
  dsimp only [Pt.U, Pt.locs, Pt.cells, Pt.slots] at Y' l1 y1 z1 st hQ
  subst l1 y1 z1
  exact Gl.st (fun t k => st.trans k) (K T' v ⟨_, Y', rfl, Fr.app N hQ.2⟩ hQ.1)
end OwnSteps
abbrev own_room (f c s l : Nat) : Room := { frames := f, cells := c, slots := s, locals := l }
theorem own_lt {a b : Int32} (q : a.toInt < b.toInt) : a < b := Int32.lt_iff_toInt_lt.mpr q
theorem own_nlt {a b : Int32} (q : b.toInt ≤ a.toInt) : ¬ a < b := fun z => by have := Int32.lt_iff_toInt_lt.mp z; omega
theorem own_inc {i : Int32} (q : i.toInt < 2147483647) : (i + (1 : Int32)).toInt = i.toInt + 1 := by
  have h1 := c_iadd i 1; have h2 := rng32 (i + 1); have h3 := rng32 i; have h4 : (1 : Int32).toInt = 1 := rfl
  omega
def own_ct (x y w g : Int32) : Int32 := if x < 0 then 0 else if x < w then (if y < 0 then 0 else if y < g then 1 else 0) else 0
theorem own_u {x w : Int32} (h0 : 0 ≤ w.toInt) : ((x.toInt64 &&& (4294967295 : Int64)) < w.toInt64) ↔ (¬ x < 0 ∧ x < w) := by
  have e1 := c_maskL x.toInt64 4294967295 32 (by decide) (by decide +kernel)
  have e2 := c_i2l x; have e3 := c_i2l w; have e4 := rng32 x; have e5 := rng32 w; have e6 : (0 : Int32).toInt = 0 := rfl
  have e7 : ((2 ^ 32 : Nat) : Int) = 4294967296 := rfl
  rw [Int64.lt_iff_toInt_lt, Int32.lt_iff_toInt_lt, Int32.lt_iff_toInt_lt, e1, e2, e3, e6, e7]
  omega
theorem own_ct_t {x y w g : Int32} (hw : 0 ≤ w.toInt) (hg : 0 ≤ g.toInt) (h1 : (x.toInt64 &&& (4294967295 : Int64)) < w.toInt64) (h2 : (y.toInt64 &&& (4294967295 : Int64)) < g.toInt64) : own_ct x y w g = 1 := by
  rw [own_u hw] at h1; rw [own_u hg] at h2
  unfold own_ct; rw [if_neg h1.1, if_pos h1.2, if_neg h2.1, if_pos h2.2]
theorem own_ct_f1 {x y w g : Int32} (hw : 0 ≤ w.toInt) (h1 : ¬ (x.toInt64 &&& (4294967295 : Int64)) < w.toInt64) : own_ct x y w g = 0 := by
  rw [own_u hw] at h1
  unfold own_ct
  by_cases a : x < 0
  · rw [if_pos a]
  · rw [if_neg a, if_neg fun b => h1 ⟨a, b⟩]
theorem own_ct_f2 {x y w g : Int32} (hg : 0 ≤ g.toInt) (h2 : ¬ (y.toInt64 &&& (4294967295 : Int64)) < g.toInt64) : own_ct x y w g = 0 := by
  rw [own_u hg] at h2
  unfold own_ct
  by_cases a : x < 0
  · rw [if_pos a]
  · rw [if_neg a]
    by_cases b : x < w
    · rw [if_pos b]
      by_cases c : y < 0
      · rw [if_pos c]
      · rw [if_neg c, if_neg fun d => h2 ⟨c, d⟩]
    · rw [if_neg b]
theorem own_side (a : Int32) : 1 ≤ ((a &&& (3 : Int32)) + (1 : Int32)).toInt ∧ ((a &&& (3 : Int32)) + (1 : Int32)).toInt ≤ 4 := by
  have h1 := c_mask a 3 2 (by decide) (by decide); have h2 := c_iadd (a &&& 3) 1; have h3 := rng32 ((a &&& 3) + 1); have h4 : (1 : Int32).toInt = 1 := rfl
  have h5 : ((2 ^ 2 : Nat) : Int) = 4 := rfl
  omega
theorem own_prod {a b : Int32} (h1 : 1 ≤ a.toInt ∧ a.toInt ≤ 4) (h2 : 1 ≤ b.toInt ∧ b.toInt ≤ 4) : 1 ≤ (a * b).toInt ∧ (a * b).toInt ≤ 16 := by
  have e1 := c_imul a b; have e2 := rng32 (a * b)
  have h : a.toInt = 1 ∨ a.toInt = 2 ∨ a.toInt = 3 ∨ a.toInt = 4 := by omega
  have h' : b.toInt = 1 ∨ b.toInt = 2 ∨ b.toInt = 3 ∨ b.toInt = 4 := by omega
  rcases h with h | h | h | h <;> rcases h' with h' | h' | h' | h' <;> rw [h, h'] at e1 <;> omega
set_option maxRecDepth 65536 in
set_option maxHeartbeats 40000000 in
theorem own_ef1 (m : MethodId) (y0 : Addr) (y1 : Int32) (y2 : Int32) (y3 : Addr)  : entryFrame m #[(.ref y0), (.int y1), (.int y2), (.ref y3)] 9 = mkF m 0 #[.val (.ref y0), .val (.int y1), .val (.int y2), .val (.ref y3), .unset, .unset, .unset, .unset, .unset] [] := by first | (simp [entryFrame, mkF, argsToLocals, Value.category, maxLocals]; done) | rfl
theorem own_pn0 : plainName "com/example/hazardsweep/hazardsweep/GridMap" = true := by first | (simp [plainName, overriddenIn]; done) | decide +kernel
theorem own_d0_0 : decode prog_4_method_1_code 0 = .ok (.aload_n 0, 1) := by decide +kernel
theorem own_d0_1 : decode prog_4_method_1_code 1 = .ok (.invokespecial 3, 3) := by decide +kernel
theorem own_d0_4 : decode prog_4_method_1_code 4 = .ok (.aload_n 0, 1) := by decide +kernel
theorem own_d0_5 : decode prog_4_method_1_code 5 = .ok (.iload_n 1, 1) := by decide +kernel
theorem own_d0_6 : decode prog_4_method_1_code 6 = .ok (.putfield 9, 3) := by decide +kernel
theorem own_d0_9 : decode prog_4_method_1_code 9 = .ok (.aload_n 0, 1) := by decide +kernel
theorem own_d0_10 : decode prog_4_method_1_code 10 = .ok (.iload_n 2, 1) := by decide +kernel
theorem own_d0_11 : decode prog_4_method_1_code 11 = .ok (.putfield 13, 3) := by decide +kernel
theorem own_d0_14 : decode prog_4_method_1_code 14 = .ok (.aload_n 0, 1) := by decide +kernel
theorem own_d0_15 : decode prog_4_method_1_code 15 = .ok (.aload_n 3, 1) := by decide +kernel
theorem own_d0_16 : decode prog_4_method_1_code 16 = .ok (.putfield 16, 3) := by decide +kernel
theorem own_d0_19 : decode prog_4_method_1_code 19 = .ok (.iconst 0, 1) := by decide +kernel
theorem own_d0_20 : decode prog_4_method_1_code 20 = .ok (.istore 4, 2) := by decide +kernel
theorem own_d0_22 : decode prog_4_method_1_code 22 = .ok (.aload_n 3, 1) := by decide +kernel
theorem own_d0_23 : decode prog_4_method_1_code 23 = .ok (.astore 5, 2) := by decide +kernel
theorem own_d0_25 : decode prog_4_method_1_code 25 = .ok (.aload 5, 2) := by decide +kernel
theorem own_d0_27 : decode prog_4_method_1_code 27 = .ok (.arraylength, 1) := by decide +kernel
theorem own_d0_28 : decode prog_4_method_1_code 28 = .ok (.istore 6, 2) := by decide +kernel
theorem own_d0_30 : decode prog_4_method_1_code 30 = .ok (.iconst 0, 1) := by decide +kernel
theorem own_d0_31 : decode prog_4_method_1_code 31 = .ok (.istore 7, 2) := by decide +kernel
theorem own_d0_33 : decode prog_4_method_1_code 33 = .ok (.iload 7, 2) := by decide +kernel
theorem own_d0_35 : decode prog_4_method_1_code 35 = .ok (.iload 6, 2) := by decide +kernel
theorem own_d0_37 : decode prog_4_method_1_code 37 = .ok (.if_icmp .ge 31, 3) := by decide +kernel
theorem own_d0_68 : decode prog_4_method_1_code 68 = .ok (.aload_n 0, 1) := by decide +kernel
theorem own_d0_69 : decode prog_4_method_1_code 69 = .ok (.iload 4, 2) := by decide +kernel
theorem own_d0_71 : decode prog_4_method_1_code 71 = .ok (.putfield 20, 3) := by decide +kernel
theorem own_d0_74 : decode prog_4_method_1_code 74 = .ok (.return_, 1) := by decide +kernel
theorem own_d0_40 : decode prog_4_method_1_code 40 = .ok (.aload 5, 2) := by decide +kernel
theorem own_d0_42 : decode prog_4_method_1_code 42 = .ok (.iload 7, 2) := by decide +kernel
theorem own_d0_44 : decode prog_4_method_1_code 44 = .ok (.baload, 1) := by decide +kernel
theorem own_d0_45 : decode prog_4_method_1_code 45 = .ok (.istore 8, 2) := by decide +kernel
theorem own_d0_47 : decode prog_4_method_1_code 47 = .ok (.iload 4, 2) := by decide +kernel
theorem own_d0_49 : decode prog_4_method_1_code 49 = .ok (.iload 8, 2) := by decide +kernel
theorem own_d0_51 : decode prog_4_method_1_code 51 = .ok (.ifCond .eq 7, 3) := by decide +kernel
theorem own_d0_58 : decode prog_4_method_1_code 58 = .ok (.iconst 0, 1) := by decide +kernel
theorem own_d0_59 : decode prog_4_method_1_code 59 = .ok (.iadd, 1) := by decide +kernel
theorem own_d0_60 : decode prog_4_method_1_code 60 = .ok (.istore 4, 2) := by decide +kernel
theorem own_d0_62 : decode prog_4_method_1_code 62 = .ok (.iinc 7 1, 3) := by decide +kernel
theorem own_d0_65 : decode prog_4_method_1_code 65 = .ok (.goto (-32), 3) := by decide +kernel
set_option maxRecDepth 65536 in
set_option maxHeartbeats 40000000 in
theorem own_rm1 (l : Launch) (Z : State) (a0 : Array Value) (hw : ∀ d ∈ tables_1, d.before a0 Z = true) (y0 : Addr) (y1 y2 : Int32) (y3 : Addr) (h0 : Heap) (n0 : Nat) (Z0 : n0 ≤ h0.size) (Ex : Exa Z h0 y0 "com/example/hazardsweep/hazardsweep/GridMap") (F_width : Fld Z h0 y0 "com/example/hazardsweep/hazardsweep/GridMap" "width" "I" (.int (0 : Int32))) (F_height : Fld Z h0 y0 "com/example/hazardsweep/hazardsweep/GridMap" "height" "I" (.int (0 : Int32))) (F_passable : Fld Z h0 y0 "com/example/hazardsweep/hazardsweep/GridMap" "passable" "[Z" .null) (F_passableCells : Fld Z h0 y0 "com/example/hazardsweep/hazardsweep/GridMap" "passableCells" "I" (.int (0 : Int32))) (k : Nat) (zn : Int32) (hzn : zn.toInt = (k : Int)) (Ar : Ary Z h0 y3 .boolean k (fun _ => .int 0)) (hne : y3 ≠ y0) (gn : n0 ≤ y0) :
    Ctr l Z (⟨"com/example/hazardsweep/hazardsweep/GridMap", "<init>", "(II[Z)V"⟩ : MethodName) prog_4_method_1_code 9 none [] (own_room 1 0 0 13) #[(.ref y0), (.int y1), (.int y2), (.ref y3)] h0 n0 0 0 (fun v h => v = none ∧ Keep h0 h [y0] ∧ Fld Z h y0 "com/example/hazardsweep/hazardsweep/GridMap" "width" "I" (.int y1) ∧ Fld Z h y0 "com/example/hazardsweep/hazardsweep/GridMap" "height" "I" (.int y2)) := by
  refine Ctr.of (plainFor_of_name own_pn0) ?_
  intro p e s m below meth c T0 hx hby hml hret hlk hnm hown hZ X0
  rw [own_ef1 m (y0) (y1) (y2) (y3)]
  refine g_aloadN X0 hx hby own_d0_0 rfl rfl (pc' := 1) rfl ?_
  refine g_initO X0 hx hby hZ (W := 0) hown (hw _ (List.mem_of_getElem? (i := 7) rfl)) (hw _ (List.mem_of_getElem? (i := 8) rfl)) (hw _ (List.mem_of_getElem? (i := 9) rfl)) (by rw [hml]; rfl) own_d0_1 (by decide) (by exact Nat.le_of_eq rfl) (by decide) (pc' := 4) rfl (fun T2 X2 => ?_)
  refine g_aloadN X2 hx hby own_d0_4 rfl rfl (pc' := 5) rfl ?_
  refine g_iloadN X2 hx hby own_d0_5 rfl (pc' := 6) rfl ?_
  refine g_putF X2 hx hby hZ hown (hw _ (List.mem_of_getElem? (i := 10) rfl)) Via.refl F_width Ex (Or.inr ⟨(hw _ (List.mem_of_getElem? (i := 11) rfl)), rfl, hnm⟩) (hw _ (List.mem_of_getElem? (i := 1) rfl)) (ty := .int) (by decide) rfl rfl gn own_d0_6 (pc' := 9) rfl (fun T3 h3 X3 W3 => ?_)
  have q4 := Ex.wr W3
  have q5 := F_width.same W3
  have q6 := F_height.other W3 (Or.inr (slot_ne (Or.inr (hw _ (List.mem_of_getElem? (i := 13) rfl))) (Or.inr (hw _ (List.mem_of_getElem? (i := 11) rfl))) (by decide) (t := .int) (t' := .int) (by decide) (by decide)))
  have q7 := F_passable.other W3 (Or.inr (slot_ne (Or.inr (hw _ (List.mem_of_getElem? (i := 15) rfl))) (Or.inr (hw _ (List.mem_of_getElem? (i := 11) rfl))) (by decide) (t := (.array .boolean)) (t' := .int) (by decide) (by decide)))
  have q8 := F_passableCells.other W3 (Or.inr (slot_ne (Or.inr (hw _ (List.mem_of_getElem? (i := 17) rfl))) (Or.inr (hw _ (List.mem_of_getElem? (i := 11) rfl))) (by decide) (t := .int) (t' := .int) (by decide) (by decide)))
  have q9 := Ar.other W3 hne
  have zz10 := Nat.le_trans Z0 (Nat.le_of_eq W3.size.symm)
  have kk11 : Keep h0 h3 [y0] := (Keep.refl h0 [y0]).wr W3 (Or.inl (by simp))
  refine g_aloadN X3 hx hby own_d0_9 rfl rfl (pc' := 10) rfl ?_
  refine g_iloadN X3 hx hby own_d0_10 rfl (pc' := 11) rfl ?_
  refine g_putF X3 hx hby hZ hown (hw _ (List.mem_of_getElem? (i := 12) rfl)) Via.refl q6 q4 (Or.inr ⟨(hw _ (List.mem_of_getElem? (i := 13) rfl)), rfl, hnm⟩) (hw _ (List.mem_of_getElem? (i := 1) rfl)) (ty := .int) (by decide) rfl rfl gn own_d0_11 (pc' := 14) rfl (fun T12 h12 X12 W12 => ?_)
  have q13 := q4.wr W12
  have q14 := q5.other W12 (Or.inr (slot_ne (Or.inr (hw _ (List.mem_of_getElem? (i := 11) rfl))) (Or.inr (hw _ (List.mem_of_getElem? (i := 13) rfl))) (by decide) (t := .int) (t' := .int) (by decide) (by decide)))
  have q15 := q6.same W12
  have q16 := q7.other W12 (Or.inr (slot_ne (Or.inr (hw _ (List.mem_of_getElem? (i := 15) rfl))) (Or.inr (hw _ (List.mem_of_getElem? (i := 13) rfl))) (by decide) (t := (.array .boolean)) (t' := .int) (by decide) (by decide)))
  have q17 := q8.other W12 (Or.inr (slot_ne (Or.inr (hw _ (List.mem_of_getElem? (i := 17) rfl))) (Or.inr (hw _ (List.mem_of_getElem? (i := 13) rfl))) (by decide) (t := .int) (t' := .int) (by decide) (by decide)))
  have q18 := q9.other W12 hne
  have zz19 := Nat.le_trans zz10 (Nat.le_of_eq W12.size.symm)
  have kk20 : Keep h0 h12 [y0] := kk11.wr W12 (Or.inl (by simp))
  refine g_aloadN X12 hx hby own_d0_14 rfl rfl (pc' := 15) rfl ?_
  refine g_aloadN X12 hx hby own_d0_15 rfl rfl (pc' := 16) rfl ?_
  refine g_putF X12 hx hby hZ hown (hw _ (List.mem_of_getElem? (i := 14) rfl)) Via.refl q16 q13 (Or.inr ⟨(hw _ (List.mem_of_getElem? (i := 15) rfl)), rfl, hnm⟩) (hw _ (List.mem_of_getElem? (i := 1) rfl)) (ty := (.array .boolean)) (by decide) rfl rfl gn own_d0_16 (pc' := 19) rfl (fun T21 h21 X21 W21 => ?_)
  have q22 := q13.wr W21
  have q23 := q14.other W21 (Or.inr (slot_ne (Or.inr (hw _ (List.mem_of_getElem? (i := 11) rfl))) (Or.inr (hw _ (List.mem_of_getElem? (i := 15) rfl))) (by decide) (t := .int) (t' := (.array .boolean)) (by decide) (by decide)))
  have q24 := q15.other W21 (Or.inr (slot_ne (Or.inr (hw _ (List.mem_of_getElem? (i := 13) rfl))) (Or.inr (hw _ (List.mem_of_getElem? (i := 15) rfl))) (by decide) (t := .int) (t' := (.array .boolean)) (by decide) (by decide)))
  have q25 := q16.same W21
  have q26 := q17.other W21 (Or.inr (slot_ne (Or.inr (hw _ (List.mem_of_getElem? (i := 17) rfl))) (Or.inr (hw _ (List.mem_of_getElem? (i := 15) rfl))) (by decide) (t := .int) (t' := (.array .boolean)) (by decide) (by decide)))
  have q27 := q18.other W21 hne
  have zz28 := Nat.le_trans zz19 (Nat.le_of_eq W21.size.symm)
  have kk29 : Keep h0 h21 [y0] := kk20.wr W21 (Or.inl (by simp))
  refine g_iconst (v := 0) X21 hx hby own_d0_19 rfl (pc' := 20) rfl ?_
  refine g_istore (L' := #[.val (.ref y0), .val (.int y1), .val (.int y2), .val (.ref y3), .val (.int (0 : Int32)), .unset, .unset, .unset, .unset]) X21 hx hby own_d0_20 rfl (pc' := 22) rfl ?_
  refine g_aloadN X21 hx hby own_d0_22 rfl rfl (pc' := 23) rfl ?_
  refine g_astore (L' := #[.val (.ref y0), .val (.int y1), .val (.int y2), .val (.ref y3), .val (.int (0 : Int32)), .val (.ref y3), .unset, .unset, .unset]) X21 hx hby own_d0_23 rfl rfl (pc' := 25) rfl ?_
  refine g_aload X21 hx hby own_d0_25 rfl rfl (pc' := 27) rfl ?_
  refine g_arraylength (n := zn) X21 hx hby hZ q27 hzn own_d0_27 (pc' := 28) rfl ?_
  refine g_istore (L' := #[.val (.ref y0), .val (.int y1), .val (.int y2), .val (.ref y3), .val (.int (0 : Int32)), .val (.ref y3), .val (.int zn), .unset, .unset]) X21 hx hby own_d0_28 rfl (pc' := 30) rfl ?_
  refine g_iconst (v := 0) X21 hx hby own_d0_30 rfl (pc' := 31) rfl ?_
  refine g_istore (L' := #[.val (.ref y0), .val (.int y1), .val (.int y2), .val (.ref y3), .val (.int (0 : Int32)), .val (.ref y3), .val (.int zn), .val (.int (0 : Int32)), .unset]) X21 hx hby own_d0_31 rfl (pc' := 33) rfl ?_
  have rk := rng32 zn
  have loop : ∀ (j : Nat) (i cc : Int32) (s8 : Slot), (s8 = .unset ∨ ∃ z : Int32, s8 = .val (.int z)) → 0 ≤ i.toInt → i.toInt + (j : Int) = (k : Int) → Gl p e below n0 (Fn s 0 0) (fun v h => v = none ∧ Keep h0 h [y0] ∧ Fld Z h y0 "com/example/hazardsweep/hazardsweep/GridMap" "width" "I" (.int y1) ∧ Fld Z h y0 "com/example/hazardsweep/hazardsweep/GridMap" "height" "I" (.int y2)) (T21.setTop (mkF m 33 #[.val (.ref y0), .val (.int y1), .val (.int y2), .val (.ref y3), .val (.int cc), .val (.ref y3), .val (.int zn), .val (.int i), s8] [])) := by
    intro j
    induction j with
    | zero =>
      intro i cc s8 hs8 hi hk
      refine g_iload X21 hx hby own_d0_33 rfl (pc' := 35) rfl ?_
      refine g_iload X21 hx hby own_d0_35 rfl (pc' := 37) rfl ?_
      refine g_icmp_ge X21 hx hby own_d0_37 (by decide) (pc' := 68) (by decide) (pc2 := 40) rfl (fun c37_30 => ?_) (fun q => absurd q (own_nlt (by omega)))
      refine g_aloadN X21 hx hby own_d0_68 rfl rfl (pc' := 69) rfl ?_
      refine g_iload X21 hx hby own_d0_69 rfl (pc' := 71) rfl ?_
      refine g_putF X21 hx hby hZ hown (hw _ (List.mem_of_getElem? (i := 16) rfl)) Via.refl q26 q22 (Or.inr ⟨(hw _ (List.mem_of_getElem? (i := 17) rfl)), rfl, hnm⟩) (hw _ (List.mem_of_getElem? (i := 1) rfl)) (ty := .int) (by decide) rfl rfl gn own_d0_71 (pc' := 74) rfl (fun T31 h31 X31 W31 => ?_)
      have q32 := q22.wr W31
      have q33 := q23.other W31 (Or.inr (slot_ne (Or.inr (hw _ (List.mem_of_getElem? (i := 11) rfl))) (Or.inr (hw _ (List.mem_of_getElem? (i := 17) rfl))) (by decide) (t := .int) (t' := .int) (by decide) (by decide)))
      have q34 := q24.other W31 (Or.inr (slot_ne (Or.inr (hw _ (List.mem_of_getElem? (i := 13) rfl))) (Or.inr (hw _ (List.mem_of_getElem? (i := 17) rfl))) (by decide) (t := .int) (t' := .int) (by decide) (by decide)))
      have q35 := q25.other W31 (Or.inr (slot_ne (Or.inr (hw _ (List.mem_of_getElem? (i := 15) rfl))) (Or.inr (hw _ (List.mem_of_getElem? (i := 17) rfl))) (by decide) (t := (.array .boolean)) (t' := .int) (by decide) (by decide)))
      have q36 := q26.same W31
      have q37 := q27.other W31 hne
      have zz38 := Nat.le_trans zz28 (Nat.le_of_eq W31.size.symm)
      have kk39 : Keep h0 h31 [y0] := kk29.wr W31 (Or.inl (by simp))
      exact g_ret X31 hx hby hret hlk own_d0_74 ⟨rfl, kk39, q33, q34⟩ (by decide) (by decide)
    | succ j ih =>
      intro i cc s8 hs8 hi hk
      rcases hs8 with rfl | ⟨z8, rfl⟩
      · refine g_iload X21 hx hby own_d0_33 rfl (pc' := 35) rfl ?_
        refine g_iload X21 hx hby own_d0_35 rfl (pc' := 37) rfl ?_
        refine g_icmp_ge X21 hx hby own_d0_37 (by decide) (pc' := 68) (by decide) (pc2 := 40) rfl (fun q => absurd (own_lt (by omega)) q) (fun c37_40 => ?_)
        refine g_aload X21 hx hby own_d0_40 rfl rfl (pc' := 42) rfl ?_
        refine g_iload X21 hx hby own_d0_42 rfl (pc' := 44) rfl ?_
        refine g_zaload (i := i.toInt.toNat) (v := (.int (0 : Int32))) X21 hx hby hZ q27 (by omega) (by omega) rfl own_d0_44 (pc' := 45) rfl ?_
        refine g_istore (L' := #[.val (.ref y0), .val (.int y1), .val (.int y2), .val (.ref y3), .val (.int cc), .val (.ref y3), .val (.int zn), .val (.int i), .val (.int (0 : Int32))]) X21 hx hby own_d0_45 rfl (pc' := 47) rfl ?_
        refine g_iload X21 hx hby own_d0_47 rfl (pc' := 49) rfl ?_
        refine g_iload X21 hx hby own_d0_49 rfl (pc' := 51) rfl ?_
        refine g_if_eq X21 hx hby own_d0_51 (by decide) (pc' := 58) (by decide) (pc2 := 54) rfl (fun c51_41 => ?_) (fun q => absurd (by decide) q)
        refine g_iconst (v := 0) X21 hx hby own_d0_58 rfl (pc' := 59) rfl ?_
        refine g_iadd X21 hx hby own_d0_59 (pc' := 60) rfl ?_
        refine g_istore (L' := #[.val (.ref y0), .val (.int y1), .val (.int y2), .val (.ref y3), .val (.int (cc + (0 : Int32))), .val (.ref y3), .val (.int zn), .val (.int i), .val (.int (0 : Int32))]) X21 hx hby own_d0_60 rfl (pc' := 62) rfl ?_
        refine g_iinc (y := 1) (L' := #[.val (.ref y0), .val (.int y1), .val (.int y2), .val (.ref y3), .val (.int (cc + (0 : Int32))), .val (.ref y3), .val (.int zn), .val (.int (i + (1 : Int32))), .val (.int (0 : Int32))]) X21 hx hby own_d0_62 rfl rfl rfl (pc' := 65) rfl ?_
        refine g_goto X21 hx hby own_d0_65 (by decide) (pc' := 33) (by decide) ?_
        exact ih (i + (1 : Int32)) (cc + (0 : Int32)) _ (Or.inr ⟨_, rfl⟩) (by rw [own_inc (by omega)]; omega) (by rw [own_inc (by omega)]; omega)
      · refine g_iload X21 hx hby own_d0_33 rfl (pc' := 35) rfl ?_
        refine g_iload X21 hx hby own_d0_35 rfl (pc' := 37) rfl ?_
        refine g_icmp_ge X21 hx hby own_d0_37 (by decide) (pc' := 68) (by decide) (pc2 := 40) rfl (fun q => absurd (own_lt (by omega)) q) (fun c37_42 => ?_)
        refine g_aload X21 hx hby own_d0_40 rfl rfl (pc' := 42) rfl ?_
        refine g_iload X21 hx hby own_d0_42 rfl (pc' := 44) rfl ?_
        refine g_zaload (i := i.toInt.toNat) (v := (.int (0 : Int32))) X21 hx hby hZ q27 (by omega) (by omega) rfl own_d0_44 (pc' := 45) rfl ?_
        refine g_istore (L' := #[.val (.ref y0), .val (.int y1), .val (.int y2), .val (.ref y3), .val (.int cc), .val (.ref y3), .val (.int zn), .val (.int i), .val (.int (0 : Int32))]) X21 hx hby own_d0_45 rfl (pc' := 47) rfl ?_
        refine g_iload X21 hx hby own_d0_47 rfl (pc' := 49) rfl ?_
        refine g_iload X21 hx hby own_d0_49 rfl (pc' := 51) rfl ?_
        refine g_if_eq X21 hx hby own_d0_51 (by decide) (pc' := 58) (by decide) (pc2 := 54) rfl (fun c51_43 => ?_) (fun q => absurd (by decide) q)
        refine g_iconst (v := 0) X21 hx hby own_d0_58 rfl (pc' := 59) rfl ?_
        refine g_iadd X21 hx hby own_d0_59 (pc' := 60) rfl ?_
        refine g_istore (L' := #[.val (.ref y0), .val (.int y1), .val (.int y2), .val (.ref y3), .val (.int (cc + (0 : Int32))), .val (.ref y3), .val (.int zn), .val (.int i), .val (.int (0 : Int32))]) X21 hx hby own_d0_60 rfl (pc' := 62) rfl ?_
        refine g_iinc (y := 1) (L' := #[.val (.ref y0), .val (.int y1), .val (.int y2), .val (.ref y3), .val (.int (cc + (0 : Int32))), .val (.ref y3), .val (.int zn), .val (.int (i + (1 : Int32))), .val (.int (0 : Int32))]) X21 hx hby own_d0_62 rfl rfl rfl (pc' := 65) rfl ?_
        refine g_goto X21 hx hby own_d0_65 (by decide) (pc' := 33) (by decide) ?_
        exact ih (i + (1 : Int32)) (cc + (0 : Int32)) _ (Or.inr ⟨_, rfl⟩) (by rw [own_inc (by omega)]; omega) (by rw [own_inc (by omega)]; omega)
  exact loop k 0 0 .unset (Or.inl rfl) (by decide) (by simp)
set_option maxRecDepth 65536 in
set_option maxHeartbeats 40000000 in
theorem own_ef44 (m : MethodId) (y0 : Addr) (y1 : Int32) (y2 : Int32)  : entryFrame m #[(.ref y0), (.int y1), (.int y2)] 3 = mkF m 0 #[.val (.ref y0), .val (.int y1), .val (.int y2)] [] := by first | (simp [entryFrame, mkF, argsToLocals, Value.category, maxLocals]; done) | rfl
theorem own_d1_0 : decode prog_4_method_9_code 0 = .ok (.iload_n 1, 1) := by decide +kernel
theorem own_d1_1 : decode prog_4_method_9_code 1 = .ok (.ifCond .lt 27, 3) := by decide +kernel
theorem own_d1_28 : decode prog_4_method_9_code 28 = .ok (.iconst 0, 1) := by decide +kernel
theorem own_d1_29 : decode prog_4_method_9_code 29 = .ok (.ireturn, 1) := by decide +kernel
theorem own_d1_4 : decode prog_4_method_9_code 4 = .ok (.iload_n 1, 1) := by decide +kernel
theorem own_d1_5 : decode prog_4_method_9_code 5 = .ok (.aload_n 0, 1) := by decide +kernel
theorem own_d1_6 : decode prog_4_method_9_code 6 = .ok (.getfield 9, 3) := by decide +kernel
theorem own_d1_9 : decode prog_4_method_9_code 9 = .ok (.if_icmp .ge 19, 3) := by decide +kernel
theorem own_d1_12 : decode prog_4_method_9_code 12 = .ok (.iload_n 2, 1) := by decide +kernel
theorem own_d1_13 : decode prog_4_method_9_code 13 = .ok (.ifCond .lt 15, 3) := by decide +kernel
theorem own_d1_16 : decode prog_4_method_9_code 16 = .ok (.iload_n 2, 1) := by decide +kernel
theorem own_d1_17 : decode prog_4_method_9_code 17 = .ok (.aload_n 0, 1) := by decide +kernel
theorem own_d1_18 : decode prog_4_method_9_code 18 = .ok (.getfield 13, 3) := by decide +kernel
theorem own_d1_21 : decode prog_4_method_9_code 21 = .ok (.if_icmp .ge 7, 3) := by decide +kernel
theorem own_d1_24 : decode prog_4_method_9_code 24 = .ok (.iconst 1, 1) := by decide +kernel
theorem own_d1_25 : decode prog_4_method_9_code 25 = .ok (.goto 4, 3) := by decide +kernel
set_option maxRecDepth 65536 in
set_option maxHeartbeats 40000000 in
theorem own_rm2 (l : Launch) (Z : State) (a0 : Array Value) (hw : ∀ d ∈ tables_1, d.before a0 Z = true) (y0 : Addr) (y1 y2 ww gg : Int32) (h0 : Heap) (n0 : Nat) (F1 : Fld Z h0 y0 "com/example/hazardsweep/hazardsweep/GridMap" "width" "I" (.int ww)) (F2 : Fld Z h0 y0 "com/example/hazardsweep/hazardsweep/GridMap" "height" "I" (.int gg)) :
    Ctr l Z (⟨"com/example/hazardsweep/hazardsweep/GridMap", "contains", "(II)Z"⟩ : MethodName) prog_4_method_9_code 3 (some .boolean) [] (own_room 0 0 0 0) #[(.ref y0), (.int y1), (.int y2)] h0 n0 0 0 (fun v h => v = some (.int (own_ct y1 y2 ww gg)) ∧ h = h0) := by
  refine Ctr.of (plainFor_of_name own_pn0) ?_
  intro p e s m below meth c T0 hx hby hml hret hlk hnm hown hZ X0
  rw [own_ef44 m (y0) (y1) (y2)]
  refine g_iloadN X0 hx hby own_d1_0 rfl (pc' := 1) rfl ?_
  refine g_if_lt X0 hx hby own_d1_1 (by decide) (pc' := 28) (by decide) (pc2 := 4) rfl (fun c1_45 => ?_) (fun c1_45 => ?_)
  · refine g_iconst (v := 0) X0 hx hby own_d1_28 rfl (pc' := 29) rfl ?_
    exact g_retN X0 hx hby hret hlk (by simp) own_d1_29 ⟨congrArg (fun z => some (Value.int z)) (show (0 : Int32) = own_ct y1 y2 ww gg by simp [own_ct, c1_45]), rfl⟩ (by decide) (by decide)
  · refine g_iloadN X0 hx hby own_d1_4 rfl (pc' := 5) rfl ?_
    refine g_aloadN X0 hx hby own_d1_5 rfl rfl (pc' := 6) rfl ?_
    refine g_getF X0 hx hby hZ hown (hw _ (List.mem_of_getElem? (i := 10) rfl)) Via.refl F1 own_d1_6 (pc' := 9) rfl (fun T46 X46 => ?_)
    refine g_icmp_ge X46 hx hby own_d1_9 (by decide) (pc' := 28) (by decide) (pc2 := 12) rfl (fun c9_47 => ?_) (fun c9_47 => ?_)
    · refine g_iconst (v := 0) X46 hx hby own_d1_28 rfl (pc' := 29) rfl ?_
      exact g_retN X46 hx hby hret hlk (by simp) own_d1_29 ⟨congrArg (fun z => some (Value.int z)) (show (0 : Int32) = own_ct y1 y2 ww gg by simp [own_ct, c1_45, c9_47]), rfl⟩ (by decide) (by decide)
    · refine g_iloadN X46 hx hby own_d1_12 rfl (pc' := 13) rfl ?_
      refine g_if_lt X46 hx hby own_d1_13 (by decide) (pc' := 28) (by decide) (pc2 := 16) rfl (fun c13_48 => ?_) (fun c13_48 => ?_)
      · refine g_iconst (v := 0) X46 hx hby own_d1_28 rfl (pc' := 29) rfl ?_
        exact g_retN X46 hx hby hret hlk (by simp) own_d1_29 ⟨congrArg (fun z => some (Value.int z)) (show (0 : Int32) = own_ct y1 y2 ww gg by simp [own_ct, c1_45, c9_47, c13_48]), rfl⟩ (by decide) (by decide)
      · refine g_iloadN X46 hx hby own_d1_16 rfl (pc' := 17) rfl ?_
        refine g_aloadN X46 hx hby own_d1_17 rfl rfl (pc' := 18) rfl ?_
        refine g_getF X46 hx hby hZ hown (hw _ (List.mem_of_getElem? (i := 12) rfl)) Via.refl F2 own_d1_18 (pc' := 21) rfl (fun T49 X49 => ?_)
        refine g_icmp_ge X49 hx hby own_d1_21 (by decide) (pc' := 28) (by decide) (pc2 := 24) rfl (fun c21_50 => ?_) (fun c21_50 => ?_)
        · refine g_iconst (v := 0) X49 hx hby own_d1_28 rfl (pc' := 29) rfl ?_
          exact g_retN X49 hx hby hret hlk (by simp) own_d1_29 ⟨congrArg (fun z => some (Value.int z)) (show (0 : Int32) = own_ct y1 y2 ww gg by simp [own_ct, c1_45, c9_47, c13_48, c21_50]), rfl⟩ (by decide) (by decide)
        · refine g_iconst (v := 1) X49 hx hby own_d1_24 rfl (pc' := 25) rfl ?_
          refine g_goto X49 hx hby own_d1_25 (by decide) (pc' := 29) (by decide) ?_
          exact g_retN X49 hx hby hret hlk (by simp) own_d1_29 ⟨congrArg (fun z => some (Value.int z)) (show (1 : Int32) = own_ct y1 y2 ww gg by simp [own_ct, c1_45, c9_47, c13_48, c21_50]), rfl⟩ (by decide) (by decide)
set_option maxRecDepth 65536 in
set_option maxHeartbeats 40000000 in
theorem own_ef51 (m : MethodId) (y0 : Int32) (y1 : Int32) (y2 : Int32) (y3 : Int32)  : entryFrame m #[(.int y0), (.int y1), (.int y2), (.int y3)] maxLocals = mkF m 0 #[.val (.int y0), .val (.int y1), .val (.int y2), .val (.int y3), .unset, .unset, .unset, .unset, .unset, .unset] [] := by first | (simp [entryFrame, mkF, argsToLocals, Value.category, maxLocals]; done) | rfl
theorem own_pn1 : plainName "com/example/hazardsweep/hazardsweep/GridMapContainsPinLaw" = true := by first | (simp [plainName, overriddenIn]; done) | decide +kernel
theorem own_pd0 : parseMethodDescriptor "(II[Z)V" = some ⟨[.int, .int, (.array .boolean)], none⟩ := by decide +kernel
theorem own_pd1 : parseMethodDescriptor "(II)Z" = some ⟨[.int, .int], (some .boolean)⟩ := by decide +kernel
set_option maxRecDepth 65536 in
set_option maxHeartbeats 40000000 in
theorem own_rm0 (l : Launch) (Z : State) (a0 : Array Value) (hw : ∀ d ∈ tables_1, d.before a0 Z = true) (y0 y1 y2 y3 : Int32) (h0 : Heap) (n0 : Nat) (Z0 : n0 ≤ h0.size) :
    Ctr l Z x code maxLocals ret tables_1 room_1 #[(.int y0), (.int y1), (.int y2), (.int y3)] h0 n0 2 20 (fun v h => v = some (.int 1)) := by
  refine Ctr.of (plainFor_of_name own_pn1) ?_
  intro p e s m below meth c T0 hx hby hml hret hlk hnm hown hZ X0
  rw [own_ef51 m (y0) (y1) (y2) (y3)]
  refine g_iloadN X0 hx hby at_0 rfl (pc' := 1) rfl ?_
  refine g_iconst (v := 3) X0 hx hby at_1 rfl (pc' := 2) rfl ?_
  refine g_iand X0 hx hby at_2 (pc' := 3) rfl ?_
  refine g_iconst (v := 1) X0 hx hby at_3 rfl (pc' := 4) rfl ?_
  refine g_iadd X0 hx hby at_4 (pc' := 5) rfl ?_
  refine g_istore (L' := #[.val (.int y0), .val (.int y1), .val (.int y2), .val (.int y3), .val (.int ((y0 &&& (3 : Int32)) + (1 : Int32))), .unset, .unset, .unset, .unset, .unset]) X0 hx hby at_5 rfl (pc' := 7) rfl ?_
  obtain ⟨z52, hz52⟩ : ∃ z, z = (y0 &&& (3 : Int32)) + (1 : Int32) := ⟨_, rfl⟩
  rw [← hz52]
  have sw : 1 ≤ z52.toInt ∧ z52.toInt ≤ 4 := by rw [hz52]; exact own_side y0
  refine g_iloadN X0 hx hby at_7 rfl (pc' := 8) rfl ?_
  refine g_iconst (v := 3) X0 hx hby at_8 rfl (pc' := 9) rfl ?_
  refine g_iand X0 hx hby at_9 (pc' := 10) rfl ?_
  refine g_iconst (v := 1) X0 hx hby at_10 rfl (pc' := 11) rfl ?_
  refine g_iadd X0 hx hby at_11 (pc' := 12) rfl ?_
  refine g_istore (L' := #[.val (.int y0), .val (.int y1), .val (.int y2), .val (.int y3), .val (.int z52), .val (.int ((y1 &&& (3 : Int32)) + (1 : Int32))), .unset, .unset, .unset, .unset]) X0 hx hby at_12 rfl (pc' := 14) rfl ?_
  obtain ⟨z53, hz53⟩ : ∃ z, z = (y1 &&& (3 : Int32)) + (1 : Int32) := ⟨_, rfl⟩
  rw [← hz53]
  have sg : 1 ≤ z53.toInt ∧ z53.toInt ≤ 4 := by rw [hz53]; exact own_side y1
  refine g_new X0 hx hby hZ hown (hw _ (List.mem_of_getElem? (i := 0) rfl)) (hw _ (List.mem_of_getElem? (i := 1) rfl)) (hw _ (List.mem_of_getElem? (i := 2) rfl)) at_14 (by decide) (by decide) (pc' := 17) rfl (fun T54 h54 b54 g54 X54 E54 A54 D54 => ?_)
  have nn55 : n0 ≤ b54 := by rw [g54]; exact Z0
  have hh56 : h0.size ≤ b54 := by rw [g54]; exact (Keep.refl h0 []).1
  have zz57 := Nat.le_trans Z0 E54.1
  have kk58 : Keep h0 h54 [] := (Keep.refl h0 []).ext E54
  have q59 : Fld Z h54 b54 "com/example/hazardsweep/hazardsweep/GridMap" "width" "I" (.int (0 : Int32)) := D54 (Or.inr (hw _ (List.mem_of_getElem? (i := 11) rfl))) (ty := .int) (by decide)
  have q60 : Fld Z h54 b54 "com/example/hazardsweep/hazardsweep/GridMap" "height" "I" (.int (0 : Int32)) := D54 (Or.inr (hw _ (List.mem_of_getElem? (i := 13) rfl))) (ty := .int) (by decide)
  have q61 : Fld Z h54 b54 "com/example/hazardsweep/hazardsweep/GridMap" "passable" "[Z" .null := D54 (Or.inr (hw _ (List.mem_of_getElem? (i := 15) rfl))) (ty := (.array .boolean)) (by decide)
  have q62 : Fld Z h54 b54 "com/example/hazardsweep/hazardsweep/GridMap" "passableCells" "I" (.int (0 : Int32)) := D54 (Or.inr (hw _ (List.mem_of_getElem? (i := 17) rfl))) (ty := .int) (by decide)
  refine g_dup X54 hx hby at_17 rfl (pc' := 18) rfl ?_
  refine g_iload X54 hx hby at_18 rfl (pc' := 20) rfl ?_
  refine g_iload X54 hx hby at_20 rfl (pc' := 22) rfl ?_
  refine g_iload X54 hx hby at_22 rfl (pc' := 24) rfl ?_
  refine g_iload X54 hx hby at_24 rfl (pc' := 26) rfl ?_
  refine g_imul X54 hx hby at_26 (pc' := 27) rfl ?_
  have sp := own_prod sw sg
  refine g_newarray (k := (z52 * z53).toInt.toNat) (cap := 16) X54 hx hby hZ (hw _ (List.mem_of_getElem? (i := 3) rfl)) at_27 (by omega) (by omega) (by decide) (by decide) (by decide) (pc' := 29) rfl (fun T63 h63 b63 g63 X63 E63 A63 => ?_)
  have ne64 : b54 ≠ b63 := by rw [g63]; exact Nat.ne_of_lt A54.lt
  have nn65 : n0 ≤ b63 := by rw [g63]; exact zz57
  have hh66 : h0.size ≤ b63 := by rw [g63]; exact kk58.1
  have q67 := A54.ext E63
  have q68 := q59.ext E63
  have q69 := q60.ext E63
  have q70 := q61.ext E63
  have q71 := q62.ext E63
  have zz72 := Nat.le_trans zz57 E63.1
  have kk73 : Keep h0 h63 [] := kk58.ext E63
  refine g_callC (argsL := [(.int z52), (.int z53), (.ref b63)]) (S := [(.ref b54)]) (a := b54) X63 hx hby hZ (y := (⟨"com/example/hazardsweep/hazardsweep/GridMap", "<init>", "(II[Z)V"⟩ : MethodName)) rfl hown (hw _ (List.mem_of_getElem? (i := 4) rfl)) (hw _ (List.mem_of_getElem? (i := 5) rfl)) (hw _ (List.mem_of_getElem? (i := 2) rfl)) (hw _ (List.mem_of_getElem? (i := 6) rfl)) (by decide) (own_rm1 l Z a0 hw b54 z52 z53 b63 h63 n0 zz72 q67 q68 q69 q70 q71 (z52 * z53).toInt.toNat (z52 * z53) (by omega) A63 (Ne.symm ne64) nn55) (by rw [hml]; rfl) (lenOf own_pd0 rfl) rfl at_29 (by decide) (W := 1) (by exact Nat.le_of_eq rfl) (by decide) (by decide) (by decide) (pc' := 32) rfl (fun T74 v74 X74 hQ74 => ?_)
  obtain ⟨rfl, ka74, f1_74, f2_74⟩ := hQ74
  have q75 := q67.keep ka74
  have q76 := A63.keep ka74 (ninS (Ne.symm ne64) nin0)
  have zz77 := Nat.le_trans zz72 ka74.1
  have kk78 : Keep h0 T74.heap [] := kk73.trans ka74 (allS (Or.inr hh56) all0)
  show Gl p e below n0 _ _ (T74.setTop (mkF m 32 #[.val (.int y0), .val (.int y1), .val (.int y2), .val (.int y3), .val (.int z52), .val (.int z53), .unset, .unset, .unset, .unset] [(.ref b54)]))
  refine g_astore (L' := #[.val (.int y0), .val (.int y1), .val (.int y2), .val (.int y3), .val (.int z52), .val (.int z53), .val (.ref b54), .unset, .unset, .unset]) X74 hx hby at_32 rfl rfl (pc' := 34) rfl ?_
  refine g_iloadN X74 hx hby at_34 rfl (pc' := 35) rfl ?_
  refine g_i2l X74 hx hby at_35 (pc' := 36) rfl ?_
  refine g_ldc2_w X74 hx hby hZ hown (hw _ (List.mem_of_getElem? (i := 18) rfl)) at_36 (pc' := 39) rfl ?_
  refine g_land X74 hx hby at_39 (pc' := 40) rfl ?_
  refine g_iload X74 hx hby at_40 rfl (pc' := 42) rfl ?_
  refine g_i2l X74 hx hby at_42 (pc' := 43) rfl ?_
  refine g_lcmp_ge X74 hx hby at_43 (pc1 := 44) rfl at_44 (by decide) (pc' := 51) (by decide) (pc2 := 47) rfl (fun c43_79 => ?_) (fun c43_79 => ?_)
  · refine g_iconst (v := 0) X74 hx hby at_51 rfl (pc' := 52) rfl ?_
    refine g_istore (L' := #[.val (.int y0), .val (.int y1), .val (.int y2), .val (.int y3), .val (.int z52), .val (.int z53), .val (.ref b54), .val (.int (0 : Int32)), .unset, .unset]) X74 hx hby at_52 rfl (pc' := 54) rfl ?_
    refine g_iloadN X74 hx hby at_54 rfl (pc' := 55) rfl ?_
    refine g_i2l X74 hx hby at_55 (pc' := 56) rfl ?_
    refine g_ldc2_w X74 hx hby hZ hown (hw _ (List.mem_of_getElem? (i := 18) rfl)) at_56 (pc' := 59) rfl ?_
    refine g_land X74 hx hby at_59 (pc' := 60) rfl ?_
    refine g_iload X74 hx hby at_60 rfl (pc' := 62) rfl ?_
    refine g_i2l X74 hx hby at_62 (pc' := 63) rfl ?_
    refine g_lcmp_ge X74 hx hby at_63 (pc1 := 64) rfl at_64 (by decide) (pc' := 71) (by decide) (pc2 := 67) rfl (fun c63_80 => ?_) (fun c63_80 => ?_)
    · refine g_iconst (v := 0) X74 hx hby at_71 rfl (pc' := 72) rfl ?_
      refine g_istore (L' := #[.val (.int y0), .val (.int y1), .val (.int y2), .val (.int y3), .val (.int z52), .val (.int z53), .val (.ref b54), .val (.int (0 : Int32)), .val (.int (0 : Int32)), .unset]) X74 hx hby at_72 rfl (pc' := 74) rfl ?_
      refine g_iload X74 hx hby at_74 rfl (pc' := 76) rfl ?_
      refine g_if_eq X74 hx hby at_76 (by decide) (pc' := 88) (by decide) (pc2 := 79) rfl (fun c76_81 => ?_) (fun q => absurd (by decide) q)
      refine g_iconst (v := 0) X74 hx hby at_88 rfl (pc' := 89) rfl ?_
      refine g_istore (L' := #[.val (.int y0), .val (.int y1), .val (.int y2), .val (.int y3), .val (.int z52), .val (.int z53), .val (.ref b54), .val (.int (0 : Int32)), .val (.int (0 : Int32)), .val (.int (0 : Int32))]) X74 hx hby at_89 rfl (pc' := 91) rfl ?_
      refine g_aload X74 hx hby at_91 rfl rfl (pc' := 93) rfl ?_
      refine g_iloadN X74 hx hby at_93 rfl (pc' := 94) rfl ?_
      refine g_iloadN X74 hx hby at_94 rfl (pc' := 95) rfl ?_
      refine g_callV (argsL := [(.int y2), (.int y3)]) (S := []) (a := b54) X74 hx hby hZ (y := (⟨"com/example/hazardsweep/hazardsweep/GridMap", "contains", "(II)Z"⟩ : MethodName)) (y' := (⟨"com/example/hazardsweep/hazardsweep/GridMap", "contains", "(II)Z"⟩ : MethodName)) hown (hw _ (List.mem_of_getElem? (i := 19) rfl)) (hw _ (List.mem_of_getElem? (i := 20) rfl)) (notFace_of_selects (args := #[]) (mvT hZ (hw _ (List.mem_of_getElem? (i := 22) rfl)))) (hw _ (List.mem_of_getElem? (i := 22) rfl)) (hw _ (List.mem_of_getElem? (i := 21) rfl)) (hw _ (List.mem_of_getElem? (i := 2) rfl)) (hw _ (List.mem_of_getElem? (i := 23) rfl)) (by decide) q75 (own_rm2 l Z a0 hw b54 y2 y3 z52 z53 T74.heap n0 f1_74 f2_74) (by rw [hml]; rfl) (lenOf own_pd1 rfl) rfl at_95 (by decide) (W := 0) (by exact Nat.le_of_eq rfl) (by decide) (by decide) (by decide) (pc' := 98) rfl (fun T82 v82 X82 hQ82 => ?_)
      obtain ⟨rfl, e82⟩ := hQ82
      rw [e82] at X82
      show Gl p e below n0 _ _ (T82.setTop (mkF m 98 #[.val (.int y0), .val (.int y1), .val (.int y2), .val (.int y3), .val (.int z52), .val (.int z53), .val (.ref b54), .val (.int (0 : Int32)), .val (.int (0 : Int32)), .val (.int (0 : Int32))] [(.int (own_ct y2 y3 z52 z53))]))
      refine g_iload X82 hx hby at_98 rfl (pc' := 100) rfl ?_
      refine g_icmp_ne X82 hx hby at_100 (by decide) (pc' := 107) (by decide) (pc2 := 103) rfl (fun q => absurd (own_ct_f1 (by omega) c43_79) q) (fun c100_83 => ?_)
      refine g_iconst (v := 1) X82 hx hby at_103 rfl (pc' := 104) rfl ?_
      refine g_goto X82 hx hby at_104 (by decide) (pc' := 108) (by decide) ?_
      exact g_retN X82 hx hby hret hlk (by simp) at_108 rfl (by decide) (by decide)
    · refine g_iconst (v := 1) X74 hx hby at_67 rfl (pc' := 68) rfl ?_
      refine g_goto X74 hx hby at_68 (by decide) (pc' := 72) (by decide) ?_
      refine g_istore (L' := #[.val (.int y0), .val (.int y1), .val (.int y2), .val (.int y3), .val (.int z52), .val (.int z53), .val (.ref b54), .val (.int (0 : Int32)), .val (.int (1 : Int32)), .unset]) X74 hx hby at_72 rfl (pc' := 74) rfl ?_
      refine g_iload X74 hx hby at_74 rfl (pc' := 76) rfl ?_
      refine g_if_eq X74 hx hby at_76 (by decide) (pc' := 88) (by decide) (pc2 := 79) rfl (fun c76_84 => ?_) (fun q => absurd (by decide) q)
      refine g_iconst (v := 0) X74 hx hby at_88 rfl (pc' := 89) rfl ?_
      refine g_istore (L' := #[.val (.int y0), .val (.int y1), .val (.int y2), .val (.int y3), .val (.int z52), .val (.int z53), .val (.ref b54), .val (.int (0 : Int32)), .val (.int (1 : Int32)), .val (.int (0 : Int32))]) X74 hx hby at_89 rfl (pc' := 91) rfl ?_
      refine g_aload X74 hx hby at_91 rfl rfl (pc' := 93) rfl ?_
      refine g_iloadN X74 hx hby at_93 rfl (pc' := 94) rfl ?_
      refine g_iloadN X74 hx hby at_94 rfl (pc' := 95) rfl ?_
      refine g_callV (argsL := [(.int y2), (.int y3)]) (S := []) (a := b54) X74 hx hby hZ (y := (⟨"com/example/hazardsweep/hazardsweep/GridMap", "contains", "(II)Z"⟩ : MethodName)) (y' := (⟨"com/example/hazardsweep/hazardsweep/GridMap", "contains", "(II)Z"⟩ : MethodName)) hown (hw _ (List.mem_of_getElem? (i := 19) rfl)) (hw _ (List.mem_of_getElem? (i := 20) rfl)) (notFace_of_selects (args := #[]) (mvT hZ (hw _ (List.mem_of_getElem? (i := 22) rfl)))) (hw _ (List.mem_of_getElem? (i := 22) rfl)) (hw _ (List.mem_of_getElem? (i := 21) rfl)) (hw _ (List.mem_of_getElem? (i := 2) rfl)) (hw _ (List.mem_of_getElem? (i := 23) rfl)) (by decide) q75 (own_rm2 l Z a0 hw b54 y2 y3 z52 z53 T74.heap n0 f1_74 f2_74) (by rw [hml]; rfl) (lenOf own_pd1 rfl) rfl at_95 (by decide) (W := 0) (by exact Nat.le_of_eq rfl) (by decide) (by decide) (by decide) (pc' := 98) rfl (fun T85 v85 X85 hQ85 => ?_)
      obtain ⟨rfl, e85⟩ := hQ85
      rw [e85] at X85
      show Gl p e below n0 _ _ (T85.setTop (mkF m 98 #[.val (.int y0), .val (.int y1), .val (.int y2), .val (.int y3), .val (.int z52), .val (.int z53), .val (.ref b54), .val (.int (0 : Int32)), .val (.int (1 : Int32)), .val (.int (0 : Int32))] [(.int (own_ct y2 y3 z52 z53))]))
      refine g_iload X85 hx hby at_98 rfl (pc' := 100) rfl ?_
      refine g_icmp_ne X85 hx hby at_100 (by decide) (pc' := 107) (by decide) (pc2 := 103) rfl (fun q => absurd (own_ct_f1 (by omega) c43_79) q) (fun c100_86 => ?_)
      refine g_iconst (v := 1) X85 hx hby at_103 rfl (pc' := 104) rfl ?_
      refine g_goto X85 hx hby at_104 (by decide) (pc' := 108) (by decide) ?_
      exact g_retN X85 hx hby hret hlk (by simp) at_108 rfl (by decide) (by decide)
  · refine g_iconst (v := 1) X74 hx hby at_47 rfl (pc' := 48) rfl ?_
    refine g_goto X74 hx hby at_48 (by decide) (pc' := 52) (by decide) ?_
    refine g_istore (L' := #[.val (.int y0), .val (.int y1), .val (.int y2), .val (.int y3), .val (.int z52), .val (.int z53), .val (.ref b54), .val (.int (1 : Int32)), .unset, .unset]) X74 hx hby at_52 rfl (pc' := 54) rfl ?_
    refine g_iloadN X74 hx hby at_54 rfl (pc' := 55) rfl ?_
    refine g_i2l X74 hx hby at_55 (pc' := 56) rfl ?_
    refine g_ldc2_w X74 hx hby hZ hown (hw _ (List.mem_of_getElem? (i := 18) rfl)) at_56 (pc' := 59) rfl ?_
    refine g_land X74 hx hby at_59 (pc' := 60) rfl ?_
    refine g_iload X74 hx hby at_60 rfl (pc' := 62) rfl ?_
    refine g_i2l X74 hx hby at_62 (pc' := 63) rfl ?_
    refine g_lcmp_ge X74 hx hby at_63 (pc1 := 64) rfl at_64 (by decide) (pc' := 71) (by decide) (pc2 := 67) rfl (fun c63_87 => ?_) (fun c63_87 => ?_)
    · refine g_iconst (v := 0) X74 hx hby at_71 rfl (pc' := 72) rfl ?_
      refine g_istore (L' := #[.val (.int y0), .val (.int y1), .val (.int y2), .val (.int y3), .val (.int z52), .val (.int z53), .val (.ref b54), .val (.int (1 : Int32)), .val (.int (0 : Int32)), .unset]) X74 hx hby at_72 rfl (pc' := 74) rfl ?_
      refine g_iload X74 hx hby at_74 rfl (pc' := 76) rfl ?_
      refine g_if_eq X74 hx hby at_76 (by decide) (pc' := 88) (by decide) (pc2 := 79) rfl (fun q => absurd q (by decide)) (fun c76_88 => ?_)
      refine g_iload X74 hx hby at_79 rfl (pc' := 81) rfl ?_
      refine g_if_eq X74 hx hby at_81 (by decide) (pc' := 88) (by decide) (pc2 := 84) rfl (fun c81_89 => ?_) (fun q => absurd (by decide) q)
      refine g_iconst (v := 0) X74 hx hby at_88 rfl (pc' := 89) rfl ?_
      refine g_istore (L' := #[.val (.int y0), .val (.int y1), .val (.int y2), .val (.int y3), .val (.int z52), .val (.int z53), .val (.ref b54), .val (.int (1 : Int32)), .val (.int (0 : Int32)), .val (.int (0 : Int32))]) X74 hx hby at_89 rfl (pc' := 91) rfl ?_
      refine g_aload X74 hx hby at_91 rfl rfl (pc' := 93) rfl ?_
      refine g_iloadN X74 hx hby at_93 rfl (pc' := 94) rfl ?_
      refine g_iloadN X74 hx hby at_94 rfl (pc' := 95) rfl ?_
      refine g_callV (argsL := [(.int y2), (.int y3)]) (S := []) (a := b54) X74 hx hby hZ (y := (⟨"com/example/hazardsweep/hazardsweep/GridMap", "contains", "(II)Z"⟩ : MethodName)) (y' := (⟨"com/example/hazardsweep/hazardsweep/GridMap", "contains", "(II)Z"⟩ : MethodName)) hown (hw _ (List.mem_of_getElem? (i := 19) rfl)) (hw _ (List.mem_of_getElem? (i := 20) rfl)) (notFace_of_selects (args := #[]) (mvT hZ (hw _ (List.mem_of_getElem? (i := 22) rfl)))) (hw _ (List.mem_of_getElem? (i := 22) rfl)) (hw _ (List.mem_of_getElem? (i := 21) rfl)) (hw _ (List.mem_of_getElem? (i := 2) rfl)) (hw _ (List.mem_of_getElem? (i := 23) rfl)) (by decide) q75 (own_rm2 l Z a0 hw b54 y2 y3 z52 z53 T74.heap n0 f1_74 f2_74) (by rw [hml]; rfl) (lenOf own_pd1 rfl) rfl at_95 (by decide) (W := 0) (by exact Nat.le_of_eq rfl) (by decide) (by decide) (by decide) (pc' := 98) rfl (fun T90 v90 X90 hQ90 => ?_)
      obtain ⟨rfl, e90⟩ := hQ90
      rw [e90] at X90
      show Gl p e below n0 _ _ (T90.setTop (mkF m 98 #[.val (.int y0), .val (.int y1), .val (.int y2), .val (.int y3), .val (.int z52), .val (.int z53), .val (.ref b54), .val (.int (1 : Int32)), .val (.int (0 : Int32)), .val (.int (0 : Int32))] [(.int (own_ct y2 y3 z52 z53))]))
      refine g_iload X90 hx hby at_98 rfl (pc' := 100) rfl ?_
      refine g_icmp_ne X90 hx hby at_100 (by decide) (pc' := 107) (by decide) (pc2 := 103) rfl (fun q => absurd (own_ct_f2 (by omega) c63_87) q) (fun c100_91 => ?_)
      refine g_iconst (v := 1) X90 hx hby at_103 rfl (pc' := 104) rfl ?_
      refine g_goto X90 hx hby at_104 (by decide) (pc' := 108) (by decide) ?_
      exact g_retN X90 hx hby hret hlk (by simp) at_108 rfl (by decide) (by decide)
    · refine g_iconst (v := 1) X74 hx hby at_67 rfl (pc' := 68) rfl ?_
      refine g_goto X74 hx hby at_68 (by decide) (pc' := 72) (by decide) ?_
      refine g_istore (L' := #[.val (.int y0), .val (.int y1), .val (.int y2), .val (.int y3), .val (.int z52), .val (.int z53), .val (.ref b54), .val (.int (1 : Int32)), .val (.int (1 : Int32)), .unset]) X74 hx hby at_72 rfl (pc' := 74) rfl ?_
      refine g_iload X74 hx hby at_74 rfl (pc' := 76) rfl ?_
      refine g_if_eq X74 hx hby at_76 (by decide) (pc' := 88) (by decide) (pc2 := 79) rfl (fun q => absurd q (by decide)) (fun c76_92 => ?_)
      refine g_iload X74 hx hby at_79 rfl (pc' := 81) rfl ?_
      refine g_if_eq X74 hx hby at_81 (by decide) (pc' := 88) (by decide) (pc2 := 84) rfl (fun q => absurd q (by decide)) (fun c81_93 => ?_)
      refine g_iconst (v := 1) X74 hx hby at_84 rfl (pc' := 85) rfl ?_
      refine g_goto X74 hx hby at_85 (by decide) (pc' := 89) (by decide) ?_
      refine g_istore (L' := #[.val (.int y0), .val (.int y1), .val (.int y2), .val (.int y3), .val (.int z52), .val (.int z53), .val (.ref b54), .val (.int (1 : Int32)), .val (.int (1 : Int32)), .val (.int (1 : Int32))]) X74 hx hby at_89 rfl (pc' := 91) rfl ?_
      refine g_aload X74 hx hby at_91 rfl rfl (pc' := 93) rfl ?_
      refine g_iloadN X74 hx hby at_93 rfl (pc' := 94) rfl ?_
      refine g_iloadN X74 hx hby at_94 rfl (pc' := 95) rfl ?_
      refine g_callV (argsL := [(.int y2), (.int y3)]) (S := []) (a := b54) X74 hx hby hZ (y := (⟨"com/example/hazardsweep/hazardsweep/GridMap", "contains", "(II)Z"⟩ : MethodName)) (y' := (⟨"com/example/hazardsweep/hazardsweep/GridMap", "contains", "(II)Z"⟩ : MethodName)) hown (hw _ (List.mem_of_getElem? (i := 19) rfl)) (hw _ (List.mem_of_getElem? (i := 20) rfl)) (notFace_of_selects (args := #[]) (mvT hZ (hw _ (List.mem_of_getElem? (i := 22) rfl)))) (hw _ (List.mem_of_getElem? (i := 22) rfl)) (hw _ (List.mem_of_getElem? (i := 21) rfl)) (hw _ (List.mem_of_getElem? (i := 2) rfl)) (hw _ (List.mem_of_getElem? (i := 23) rfl)) (by decide) q75 (own_rm2 l Z a0 hw b54 y2 y3 z52 z53 T74.heap n0 f1_74 f2_74) (by rw [hml]; rfl) (lenOf own_pd1 rfl) rfl at_95 (by decide) (W := 0) (by exact Nat.le_of_eq rfl) (by decide) (by decide) (by decide) (pc' := 98) rfl (fun T94 v94 X94 hQ94 => ?_)
      obtain ⟨rfl, e94⟩ := hQ94
      rw [e94] at X94
      show Gl p e below n0 _ _ (T94.setTop (mkF m 98 #[.val (.int y0), .val (.int y1), .val (.int y2), .val (.int y3), .val (.int z52), .val (.int z53), .val (.ref b54), .val (.int (1 : Int32)), .val (.int (1 : Int32)), .val (.int (1 : Int32))] [(.int (own_ct y2 y3 z52 z53))]))
      refine g_iload X94 hx hby at_98 rfl (pc' := 100) rfl ?_
      refine g_icmp_ne X94 hx hby at_100 (by decide) (pc' := 107) (by decide) (pc2 := 103) rfl (fun q => absurd (own_ct_t (by omega) (by omega) c43_79 c63_87) q) (fun c100_95 => ?_)
      refine g_iconst (v := 1) X94 hx hby at_103 rfl (pc' := 104) rfl ?_
      refine g_goto X94 hx hby at_104 (by decide) (pc' := 108) (by decide) ?_
      exact g_retN X94 hx hby hret hlk (by simp) at_108 rfl (by decide) (by decide)
set_option maxRecDepth 65536 in
set_option maxHeartbeats 40000000 in
theorem comes_1 {Post : Tables → Env → Array Value → State → Outcome → State → Prop} (hpost : ∀ tb e args s v u, (limb_1_1.after args s (.returned v) u = true ∧ limb_1_2.after args s (.returned v) u = true ∧ True) → FrameEnd s (.returned v) u (Jvm.fieldLocs frame_1_writes args s ++ Jvm.arrayLocs frame_1_arrays args s ++ Jvm.staticLocs frame_1_statics s) 16 128 → Post tb e args s (.returned v) u) :
    ArmFor flags0 classFile x code maxLocals ret World_1 tables_1 room_1 Calls_1 rest_1 Pre_1 Post := by
  intro l hfl _ _ p e ha hc hk s m args below hf hA hF happ hP
  obtain ⟨hcalls, hrest, hpre⟩ := hP
  obtain ⟨-, -, -, hnamed, -, -, -, hat⟩ := (Spec.applies_iff hf).mp happ
  obtain ⟨hg, hn⟩ := and_e (Cond.before_iff.mp (show (Jvm.Cond.and given_1 narrow_1).before args s = true from hpre))
  obtain ⟨hcount, hg0⟩ := and_e hg
  obtain ⟨w0, w1, w2, w3, rfl⟩ : ∃ w0 w1 w2 w3 : Value, args = #[w0, w1, w2, w3] := by
    have hs : args.size = 4 := by simpa [Cond.value, given_1] using hcount
    obtain ⟨L⟩ := args
    match L, hs with
    | [w0, w1, w2, w3], _ => exact ⟨w0, w1, w2, w3, rfl⟩
  have hw := fun d (hd : d ∈ tables_1) => atoms_spec (ws := Jvm.Cond.code x code maxLocals ret :: tables_1) hat d (List.mem_cons_of_mem _ hd)
  have hfit : Fit s := fun {y c} hc i hi => by
    obtain ⟨ha, rfl⟩ := Array.getElem?_eq_some_iff.mp hc
    have q := List.all_eq_true.mp ((Array.all_eq_true_iff_forall_mem.mp hF) _ (Array.getElem_mem ha)) i (List.mem_range.mpr hi)
    simpa [Array.getElem?_eq_getElem hi] using q
  obtain ⟨hk0, hg1⟩ := and_e hg0
  obtain ⟨i0, e0⟩ := is_v hk0
  obtain rfl : w0 = (.int i0) := Option.some.inj e0
  obtain ⟨hk1, hg2⟩ := and_e hg1
  obtain ⟨i1, e1⟩ := is_v hk1
  obtain rfl : w1 = (.int i1) := Option.some.inj e1
  obtain ⟨hk2, hg3⟩ := and_e hg2
  obtain ⟨i2, e2⟩ := is_v hk2
  obtain rfl : w2 = (.int i2) := Option.some.inj e2
  obtain ⟨i3, e3⟩ := is_v hg3
  obtain rfl : w3 = (.int i3) := Option.some.inj e3
  obtain ⟨n, o, h1, h2, h3, _, L, rfl, ⟨rfl, N⟩, hq⟩ := own_rm0 l s _ hw i0 i1 i2 i3 s.heap s.heap.size (Nat.le_refl _) p e ha hc hk s m _ below hf ((Spec.applies_iff_loose hf).mp happ).1 ⟨rfl, State.Warmed39.refl s, rfl⟩ trivial
  exact ⟨n, _, h1, h2, h3, hpost _ _ _ _ _ _ ⟨Cond.after_iff.mpr rfl, Cond.after_iff.mpr (eq_i res_at (Term.int_eval (1)) rfl), trivial⟩ ⟨hq.1, hq.2.1, (hq.2.2.sift fun y hy => Or.inr (N y hy)).mono (by decide) (by decide)⟩⟩
theorem main_1_1 : Claimed_1_1 := comes_1 fun _ _ _ _ _ _ h hF => ⟨h.1, hF⟩
theorem main_1_2 : Claimed_1_2 := comes_1 fun _ _ _ _ _ _ h hF => ⟨h.2.1, hF⟩
end Jvm.Pilot.@@N@@
namespace Jvm.Pilot.@@N@@
open Jvm Jvm.ClassFile Sem Op Lib Jvm.Free Jvm.Stand Jvm.Pilot.@@N@@.Jvm.D
/-! MADE BY PROGRAM (witnessworld.py) out of the Statement's table words and the real class files: 11 classes; the members and pool entries that the words name. The judged class is class 1, her method 1. -/
namespace start1
open Jvm.ClassFile
def u (s : String) : CpInfo := .utf8 (stringToUtf16 s)
/-- a pool by its gaps: so many unusable entries, then the entry; so many at the end -/
def gap : Nat → List CpInfo → List CpInfo
  | 0, r => r
  | n + 1, r => .unusable :: gap n r
def poolList (es : List (Nat × CpInfo)) (last : Nat) : List CpInfo := es.foldr (fun e r => gap e.1 (e.2 :: r)) (gap last [])
def pool (es : List (Nat × CpInfo)) (last : Nat) : Array CpInfo := ⟨poolList es last⟩
def fileOf (pool : Array CpInfo) (this : Nat) (attrs : Array Attribute := #[]) (ms : Array MethodInfo := #[]) (fl : Nat := 33) (sup : Nat := 0) (ifs : Array Nat := #[]) (fds : Array FieldInfo := #[]) : ClassFile where
  minorVersion := 0
  majorVersion := 65
  constantPool := pool
  accessFlags := fl
  thisClass := this
  superClass := sup
  interfaces := ifs
  fields := fds
  methods := ms
  attributes := attrs
def plain (name : String) (sup : Option ClassId) : Class where
  name := name
  kind := .ordinary
  loader := none
  accessFlags := 33
  super := sup
  interfaces := #[]
  cf := none
  fields := #[]
  methods := #[]
  instanceTypes := #[]
  staticTypes := #[]
  resolved := #[]
  callSites := []
  init := .initialized
  statics := none
  mirror := none

def pool0 : Array CpInfo := pool [(5, u "<init>"), (0, u "()V"), (1, .class_ 10), (1, u "java/lang/Object")] 113

def k0c0 : Code := { maxStack := 0, maxLocals := 1, code := object_method_1_code, exceptionTable := #[], attributes := #[] }
def k0m0 : Method := { name := "<init>", desc := "()V", sig := { parameters := [], returnType := none }, accessFlags := 1, code := some k0c0 }
/-- java/lang/Object -/
def k0 : Class := { plain "java/lang/Object" none with
  accessFlags := 33
  interfaces := #[]
  cf := some (fileOf pool0 8 #[] #[{ accessFlags := 1, nameIndex := 5, descriptorIndex := 6, attributes := #[] }] 33 0 #[] #[])
  fields := #[]
  methods := #[k0m0]
  instanceTypes := #[]
  staticTypes := #[]
  resolved := Array.replicate 124 none
  statics := none }

def pool1 : Array CpInfo := pool [(2, .class_ 4), (1, u "java/lang/Object"), (0, u "<init>"), (0, u "()V"), (0, .class_ 8), (0, u "com/example/hazardsweep/hazardsweep/GridMap"), (0, .methodref 7 10), (0, .nameAndType 5 11), (0, u "(II[Z)V"), (0, .long 4294967295), (1, .methodref 7 15), (0, .nameAndType 16 17), (0, u "contains"), (0, u "(II)Z"), (0, .class_ 19), (0, u "com/example/hazardsweep/hazardsweep/GridMapContainsPinLaw"), (2, u "law"), (0, u "(IIII)Z")] 3

def k1m0 : Method := { name := "<init>", desc := "()V", sig := { parameters := [], returnType := none }, accessFlags := 1, code := none }
def k1c1 : Code := { maxStack := 6, maxLocals := 10, code := code, exceptionTable := #[], attributes := #[] }
def k1m1 : Method := { name := "law", desc := "(IIII)Z", sig := { parameters := [.int, .int, .int, .int], returnType := some .boolean }, accessFlags := 9, code := some k1c1 }
/-- com/example/hazardsweep/hazardsweep/GridMapContainsPinLaw -/
def k1 : Class := { plain "com/example/hazardsweep/hazardsweep/GridMapContainsPinLaw" (some 0) with
  accessFlags := 49
  interfaces := #[]
  cf := some (fileOf pool1 18 #[] #[{ accessFlags := 1, nameIndex := 5, descriptorIndex := 6, attributes := #[] }, { accessFlags := 9, nameIndex := 22, descriptorIndex := 23, attributes := #[] }] 49 2 #[] #[])
  fields := #[]
  methods := #[k1m0, k1m1]
  instanceTypes := #[]
  staticTypes := #[]
  resolved := Array.replicate 27 none
  statics := none }

def pool2 : Array CpInfo := pool [(1, .class_ 2), (0, u "com/example/hazardsweep/hazardsweep/GridMap"), (0, .methodref 4 5), (0, .class_ 6), (0, .nameAndType 7 8), (0, u "java/lang/Object"), (0, u "<init>"), (0, u "()V"), (0, .fieldref 1 10), (0, .nameAndType 11 12), (0, u "width"), (0, u "I"), (0, .fieldref 1 14), (0, .nameAndType 15 12), (0, u "height"), (0, .fieldref 1 17), (0, .nameAndType 18 19), (0, u "passable"), (0, u "[Z"), (0, .fieldref 1 21), (0, .nameAndType 22 12), (0, u "passableCells"), (64, u "(II[Z)V"), (39, u "contains"), (0, u "(II)Z"), (93, u "MAX_SIDE"), (2, u "MAX_LINE_LENGTH")] 53

def k2c0 : Code := { maxStack := 2, maxLocals := 9, code := prog_4_method_1_code, exceptionTable := #[], attributes := #[] }
def k2m0 : Method := { name := "<init>", desc := "(II[Z)V", sig := { parameters := [.int, .int, (.array .boolean)], returnType := none }, accessFlags := 0, code := some k2c0 }
def k2c1 : Code := { maxStack := 2, maxLocals := 3, code := prog_4_method_9_code, exceptionTable := #[], attributes := #[] }
def k2m1 : Method := { name := "contains", desc := "(II)Z", sig := { parameters := [.int, .int], returnType := some .boolean }, accessFlags := 1, code := some k2c1 }
/-- com/example/hazardsweep/hazardsweep/GridMap -/
def k2 : Class := { plain "com/example/hazardsweep/hazardsweep/GridMap" (some 0) with
  accessFlags := 33
  interfaces := #[]
  cf := some (fileOf pool2 1 #[] #[{ accessFlags := 0, nameIndex := 7, descriptorIndex := 87, attributes := #[] }, { accessFlags := 1, nameIndex := 127, descriptorIndex := 128, attributes := #[] }] 33 4 #[] #[{ accessFlags := 25, nameIndex := 222, descriptorIndex := 12, attributes := #[] }, { accessFlags := 24, nameIndex := 225, descriptorIndex := 12, attributes := #[] }, { accessFlags := 18, nameIndex := 11, descriptorIndex := 12, attributes := #[] }, { accessFlags := 18, nameIndex := 15, descriptorIndex := 12, attributes := #[] }, { accessFlags := 18, nameIndex := 18, descriptorIndex := 19, attributes := #[] }, { accessFlags := 18, nameIndex := 22, descriptorIndex := 12, attributes := #[] }])
  fields := #[{ name := "MAX_SIDE", type := .int, accessFlags := 25, slot := 0, constantValue := 0 }, { name := "MAX_LINE_LENGTH", type := .int, accessFlags := 24, slot := 1, constantValue := 0 }, { name := "width", type := .int, accessFlags := 18, slot := 0, constantValue := 0 }, { name := "height", type := .int, accessFlags := 18, slot := 1, constantValue := 0 }, { name := "passable", type := (.array .boolean), accessFlags := 18, slot := 2, constantValue := 0 }, { name := "passableCells", type := .int, accessFlags := 18, slot := 3, constantValue := 0 }]
  methods := #[k2m0, k2m1]
  instanceTypes := #[.int, .int, (.array .boolean), .int]
  staticTypes := #[.int, .int]
  resolved := Array.replicate 279 none
  statics := none }

def pool3 : Array CpInfo := pool [(1, u "java/lang/Cloneable"), (0, .class_ 1), (0, u "java/lang/Object"), (0, .class_ 3)] 3

/-- java/lang/Cloneable -/
def k3 : Class := { plain "java/lang/Cloneable" (some 0) with
  accessFlags := 1537
  interfaces := #[]
  cf := some (fileOf pool3 2 #[] #[] 1537 4 #[] #[])
  fields := #[]
  methods := #[]
  instanceTypes := #[]
  staticTypes := #[]
  resolved := Array.replicate 8 none
  statics := none }

def pool4 : Array CpInfo := pool [(1, u "java/io/Serializable"), (0, .class_ 1), (0, u "java/lang/Object"), (0, .class_ 3)] 3

/-- java/io/Serializable -/
def k4 : Class := { plain "java/io/Serializable" (some 0) with
  accessFlags := 1537
  interfaces := #[]
  cf := some (fileOf pool4 2 #[] #[] 1537 4 #[] #[])
  fields := #[]
  methods := #[]
  instanceTypes := #[]
  staticTypes := #[]
  resolved := Array.replicate 8 none
  statics := none }

/-- the primitive boolean -/
def k5 : Class := { plain "boolean" none with kind := .primitive 'Z', accessFlags := 0x411 }
/-- [Z -/
def k6 : Class := { plain "[Z" (some 0) with kind := .array 5 .boolean, interfaces := #[3, 4], accessFlags := 1041 }

/-- the primitive byte -/
def k7 : Class := { plain "byte" none with kind := .primitive 'B', accessFlags := 0x411 }
/-- [B -/
def k8 : Class := { plain "[B" (some 0) with kind := .array 7 .byte, interfaces := #[3, 4], accessFlags := 1041 }

/-- the primitive int -/
def k9 : Class := { plain "int" none with kind := .primitive 'I', accessFlags := 0x411 }
/-- [I -/
def k10 : Class := { plain "[I" (some 0) with kind := .array 9 .int, interfaces := #[3, 4], accessFlags := 1041 }

def heap : Heap := #[]
def classes : Array Class := #[k0, k1, k2, k3, k4, k5, k6, k7, k8, k9, k10]
def interned : List (Array UInt16 × Addr) := []
def slotsUsed : Nat := 0
def theMethod : MethodId := ⟨1, 1⟩
def args0 : Array Value := #[.int 5, .int 3, .int 1, .int 1]
def aboutOver (below : List Frame) : State where
  vm := { classes := classes, interned := interned.toArray }
  heap := heap
  slotsUsed := slotsUsed
  threads := #[{ frames := .invoking theMethod args0 :: below }]
def below0 : List Frame := [.native { method := ⟨0, 0⟩, args := #[] }]
def about1 : State := aboutOver below0
def p0 : Program := .bare "" "" ""
def e0 : Env := launch0.env 0 0 0
theorem w_frames : about1.frames = Frame.invoking theMethod args0 :: below0 := rfl
set_option maxRecDepth 65536 in
theorem w_args : argsFit about1.vm theMethod args0 = true := by decide +kernel
set_option maxRecDepth 65536 in
theorem w_heap : heapFits about1 = true := by decide +kernel
set_option maxRecDepth 65536 in
theorem w_runnable : about1.curStatus? = some .runnable := by decide +kernel
set_option maxRecDepth 65536 in
theorem w_alone : about1.alone = true := by decide +kernel
set_option maxRecDepth 65536 in
theorem w_named : about1.methodNamed? x = some theMethod := by decide +kernel
set_option maxRecDepth 65536 in
theorem w_hears : about1.hears theMethod below0 = true := by decide +kernel
set_option maxRecDepth 65536 in
theorem w_ripe : about1.ripe theMethod args0 below0 = true := by decide +kernel
theorem w_running : about1.status = .running := rfl
set_option maxRecDepth 65536 in
theorem w_room : about1.hasRoom e0.platform room_1 = true :=
  launch0.hasRoom_least _ room_1 (by decide +kernel) (by decide +kernel) (by decide +kernel) (by decide +kernel) (by decide +kernel) (by decide +kernel)
theorem allAtoms_all (ts : List Jvm.Cond) (a : Array Jvm.Value) (st : Jvm.State) : (allAtoms ts).before a st = ts.all (fun c => c.before a st) := by
  induction ts with
  | nil => rfl
  | cons c t ih =>
    show (Jvm.Cond.and c (allAtoms t)).before a st = _
    rw [Jvm.Cond.before_and, ih, List.all_cons]
def words1 : List Jvm.Cond := Jvm.Cond.code x code maxLocals ret :: tables_1
/-- a 'code' word, met by the world's own term for the bytes: nothing is compared byte by byte -/
theorem code_word {y : MethodName} {bytes : ByteArray} {mx : Nat} {rt : Option FieldType} {a : Array Value} {s : State} {m : MethodId} {meth : Method} {c : Code} (h1 : s.methodNamed? y = some m) (h2 : s.vm.method? m = some meth) (h3 : meth.code = some c) (h4 : c.code = bytes)
    (h5 : (c.maxLocals == mx && c.exceptionTable.isEmpty && decide (c.maxStack ≤ mostOperands) && decide (meth.sig.returnType = rt) && !meth.locks && decide (parseMethodDescriptor y.desc = some meth.sig)) = true) : (Jvm.Cond.code y bytes mx rt).before a s = true := by
  simp only [Bool.and_eq_true, beq_iff_eq, Bool.not_eq_true', decide_eq_true_eq] at h5
  obtain ⟨⟨⟨⟨⟨g1, g2⟩, g3⟩, g4⟩, g5⟩, g6⟩ := h5
  simp [Cond.before, Cond.holds, Cond.value, h1, h2, h3, h4, g1, g2, g3, g4, g5, g6]
def isCode : Jvm.Cond → Bool
  | .code _ _ _ _ => true
  | _ => false
theorem all_split {L : List Jvm.Cond} {P : Jvm.Cond → Bool} (h1 : L.all (fun c => isCode c || P c) = true) (h2 : ∀ c ∈ L.filter isCode, P c = true) : L.all P = true := by
  refine List.all_eq_true.mpr fun c hc => ?_
  have h := List.all_eq_true.mp h1 c hc
  rcases Bool.eq_false_or_eq_true (isCode c) with hi | hi
  · exact h2 c (List.mem_filter.mpr ⟨hc, hi⟩)
  · simpa [hi] using h
set_option maxRecDepth 65536 in
theorem w_c0 : (Jvm.Cond.code x code maxLocals ret).before args0 about1 = true := code_word (m := ⟨1, 1⟩) (meth := k1m1) (c := k1c1) (by decide +kernel) rfl rfl rfl (by decide +kernel)
set_option maxRecDepth 65536 in
theorem w_c1 : (Jvm.Cond.code ({ cls := "com/example/hazardsweep/hazardsweep/GridMap", name := "<init>", desc := "(II[Z)V" } : Jvm.MethodName) prog_4_method_1_code (9 : Nat) (Option.none : Option Jvm.ClassFile.FieldType)).before args0 about1 = true := code_word (m := ⟨2, 0⟩) (meth := k2m0) (c := k2c0) (by decide +kernel) rfl rfl rfl (by decide +kernel)
set_option maxRecDepth 65536 in
theorem w_c2 : (Jvm.Cond.code ({ cls := "java/lang/Object", name := "<init>", desc := "()V" } : Jvm.MethodName) object_method_1_code (1 : Nat) (Option.none : Option Jvm.ClassFile.FieldType)).before args0 about1 = true := code_word (m := ⟨0, 0⟩) (meth := k0m0) (c := k0c0) (by decide +kernel) rfl rfl rfl (by decide +kernel)
set_option maxRecDepth 65536 in
theorem w_c3 : (Jvm.Cond.code ({ cls := "com/example/hazardsweep/hazardsweep/GridMap", name := "contains", desc := "(II)Z" } : Jvm.MethodName) prog_4_method_9_code (3 : Nat) (Option.some Jvm.ClassFile.FieldType.boolean)).before args0 about1 = true := code_word (m := ⟨2, 1⟩) (meth := k2m1) (c := k2c1) (by decide +kernel) rfl rfl rfl (by decide +kernel)
def codes1 : List Jvm.Cond := [Jvm.Cond.code x code maxLocals ret, Jvm.Cond.code ({ cls := "com/example/hazardsweep/hazardsweep/GridMap", name := "<init>", desc := "(II[Z)V" } : Jvm.MethodName) prog_4_method_1_code (9 : Nat) (Option.none : Option Jvm.ClassFile.FieldType), Jvm.Cond.code ({ cls := "java/lang/Object", name := "<init>", desc := "()V" } : Jvm.MethodName) object_method_1_code (1 : Nat) (Option.none : Option Jvm.ClassFile.FieldType), Jvm.Cond.code ({ cls := "com/example/hazardsweep/hazardsweep/GridMap", name := "contains", desc := "(II)Z" } : Jvm.MethodName) prog_4_method_9_code (3 : Nat) (Option.some Jvm.ClassFile.FieldType.boolean)]
set_option maxRecDepth 65536 in
theorem codes_eq : words1.filter isCode = codes1 := rfl
theorem w_codes : ∀ c ∈ words1.filter isCode, c.before args0 about1 = true := by
  rw [codes_eq]
  intro c hc
  simp only [codes1, List.mem_cons, List.not_mem_nil, or_false] at hc
  rcases hc with rfl | rfl | rfl | rfl
  · exact w_c0
  · exact w_c1
  · exact w_c2
  · exact w_c3
set_option maxRecDepth 65536 in
theorem w_t1 : (words1.take 24).all (fun c => isCode c || c.before args0 about1) = true := by decide +kernel
set_option maxRecDepth 65536 in
theorem w_t2 : (words1.drop 24).all (fun c => isCode c || c.before args0 about1) = true := by decide +kernel
theorem w_tables : (allAtoms (Jvm.Cond.code x code maxLocals ret :: tables_1)).before args0 about1 = true := by
  rw [allAtoms_all]
  show words1.all (fun c => c.before args0 about1) = true
  refine all_split ?_ w_codes
  rw [← List.take_append_drop 24 words1, List.all_append, w_t1, w_t2]
  rfl
set_option maxRecDepth 65536 in
theorem w_case : (Jvm.Cond.and given_1 narrow_1).before args0 about1 = true := by decide +kernel
theorem w_applies : (headSpec (Jvm.Cond.code x code maxLocals ret :: tables_1) room_1).applies x e0.platform about1 = true :=
  (Spec.applies_iff w_frames).mpr ⟨w_running, w_runnable, w_alone, w_named, w_hears, w_ripe, w_room, w_tables⟩
theorem atStart : AtStart classFile x code maxLocals ret World_1 tables_1 room_1 Calls_1 rest_1 Pre_1 launch0 p0 e0 about1 theMethod args0 below0 :=
  ⟨lists_1, trivial, launch0.admits_env _ _ _, launch0.least_env, fairChoices_fair.cas, fairChoices_fair.clock, w_frames, w_args, w_heap, w_applies, trivial, trivial, w_case⟩
end start1
theorem witness_1 : WitnessClaimed_1 := ⟨start1.p0, start1.e0, start1.about1, start1.theMethod, start1.args0, start1.below0, start1.atStart⟩
end Jvm.Pilot.@@N@@
