import JvmDerived
import JvmDerived.Pilot.@@N@@Statement
import JvmDerived.Pilot.@@N@@Code
set_option linter.unusedVariables false
set_option linter.unusedSimpArgs false
namespace Jvm.Pilot.@@N@@
open Jvm Jvm.ClassFile Sem Op Lib Jvm.Free Jvm.Stand Jvm.LawKit Jvm.RoadKit Bundle Jvm.Pilot.@@N@@.Jvm.D
/-! ## The frame of my walks: Gl: what is left to run ends well; St: where the run stands; Ctr: a body's contract; Ary: an array by its length and its values -/
def Gl (p : Program) (e : Env) (below : List Frame) (n0 : Nat) (Φ : Outcome → State → List Loc → Prop) (Q : Option Value → Heap → Prop) (U : State) : Prop :=
  ∃ s₂ o, Steps p.tables e below U s₂ ∧ s₂.status = .running ∧ Ended s₂ below o ∧ ∃ v L, o = .returned v ∧ (Q v s₂.heap ∧ Fr n0 L) ∧ Φ o s₂ L
abbrev Fn (s : State) (cs sl : Nat) : Outcome → State → List Loc → Prop := fun o t L => FrameEnd s o t L cs sl
abbrev Fw (s : State) (cs sl : Nat) : Outcome → State → List Loc → Prop := fun o t L => ReturnedEndW s o t L cs sl
def St (p : Program) (l : Launch) (e : Env) (R : Room) (s : State) (m : MethodId) (args : Array Value) (below : List Frame) (meth : Method) (c : Code) (n0 : Nat) (T : State) (h : Heap) (cells slots : Nat) : Prop :=
  ∃ locs, Stand p l e R s m args below meth c T locs cells slots ∧ T.heap = h ∧ Fr n0 locs
abbrev Ctr (l : Launch) (Z : State) (y : MethodName) (bytes : ByteArray) (maxL : Nat) (ret : Option FieldType) (ws : List Jvm.Cond) (rm : Room) (as' : Array Value) (h0 : Heap) (n0 cs sl : Nat) (Q : Option Value → Heap → Prop) : Prop :=
  MetFree l y (head1 (Jvm.Cond.code y bytes maxL ret :: ws) rm) (fun a U => a = as' ∧ Z.Warmed39 U.vm ∧ U.heap = h0) (fun _ _ _ _ _ => True) (fun _ U o U' => ∃ v L, o = .returned v ∧ (Q v U'.heap ∧ Fr n0 L) ∧ FrameEnd U o U' L cs sl)
theorem Ctr.of {l : Launch} {Z : State} {y : MethodName} {bytes : ByteArray} {maxL : Nat} {ret : Option FieldType} {ws : List Jvm.Cond} {rm : Room} {as' : Array Value} {h0 : Heap} {n0 cs sl : Nat} {Q : Option Value → Heap → Prop} (hn : plainFor y = true)
    (body : ∀ (p : Program) (e : Env) (s : State) (m : MethodId) (below : List Frame) (meth : Method) (c : Code) (T : State), p.tables.exec = Jvm.exec → c.code = bytes → c.maxLocals = maxL → meth.sig.returnType = ret → meth.locks = false → meth.name = y.name → s.vm.findClass y.cls = some m.cls → Z.Warmed39 s.vm →
      St p l e rm s m as' below meth c n0 T h0 0 0 → Gl p e below n0 (Fn s cs sl) Q (T.setTop (entryFrame m as' maxL))) : Ctr l Z y bytes maxL ret ws rm as' h0 n0 cs sl Q := by
  refine MetFree.of_bodySF hn hisR ?_
  intro p e s m args below meth c s₁ Bd hml0 hP hK
  obtain ⟨rfl, hZ, hh⟩ := hP
  exact body p e s m below meth c s₁ Bd.exec Bd.bytes hml0 Bd.returns Bd.notSynchronized (name_of_methodNamed Bd.named Bd.method).1 (findClass_of_methodNamed Bd.named) hZ ⟨[], Stand.of_body Bd, by rw [← hh, Bd.state]; rfl, Fr.nil n0⟩
theorem own_since (s : State) (n : Nat) : s.Since s.vm n := (State.WarmedH.refl s).since n
abbrev CtrW (l : Launch) (Z : State) (y : MethodName) (bytes : ByteArray) (maxL : Nat) (ret : Option FieldType) (ws : List Jvm.Cond) (rm : Room) (as' : Array Value) (h0 : Heap) (n0 cs sl : Nat) (Q : Option Value → Heap → Prop) : Prop :=
  MetFree l y (head1 (Jvm.Cond.code y bytes maxL ret :: ws) rm) (fun a U => a = as' ∧ Z.Warmed39 U.vm ∧ U.heap = h0) (fun _ _ _ _ _ => True) (fun _ U o U' => ∃ v L, o = .returned v ∧ (Q v U'.heap ∧ Fr n0 L) ∧ ReturnedEndW U o U' L cs sl)
theorem CtrW.of {l : Launch} {Z : State} {y : MethodName} {bytes : ByteArray} {maxL : Nat} {ret : Option FieldType} {ws : List Jvm.Cond} {rm : Room} {as' : Array Value} {h0 : Heap} {n0 cs sl : Nat} {Q : Option Value → Heap → Prop} (hn : plainFor y = true)
    (body : ∀ (p : Program) (e : Env) (s : State) (m : MethodId) (below : List Frame) (meth : Method) (c : Code) (T : State), p.tables.exec = Jvm.exec → c.code = bytes → c.maxLocals = maxL → meth.sig.returnType = ret → meth.locks = false → meth.name = y.name → (s.setVm s.vm).vm.findClass y.cls = some m.cls → Z.Warmed39 (s.setVm s.vm).vm →
      St p l e rm (s.setVm s.vm) m as' below meth c n0 T h0 0 0 → s.Since s.vm h0.size → Gl p e below n0 (Fw s cs sl) Q (T.setTop (entryFrame m as' maxL))) : CtrW l Z y bytes maxL ret ws rm as' h0 n0 cs sl Q := by
  refine MetFree.of_bodySF hn hisR ?_
  intro p e s m args below meth c s₁ Bd hml0 hP hK
  obtain ⟨rfl, hZ, hh⟩ := hP
  exact body p e s m below meth c s₁ Bd.exec Bd.bytes hml0 Bd.returns Bd.notSynchronized (name_of_methodNamed Bd.named Bd.method).1 (findClass_of_methodNamed Bd.named) hZ ⟨[], Stand.of_body Bd, by rw [← hh, Bd.state]; rfl, Fr.nil n0⟩ (own_since s h0.size)
def Ary (Z : State) (h : Heap) (a : Addr) (ty : FieldType) (n : Nat) (f : Nat → Value) : Prop := ∃ c : Cell, Arr Z h a c ty ∧ c.slots.size = n ∧ ∀ i, i < n → c.slots[i]? = some (f i)
def own_upd (f : Nat → Value) (i : Nat) (v : Value) : Nat → Value := fun j => if j = i then v else f j
theorem own_upd_same (f : Nat → Value) (i : Nat) (v : Value) : own_upd f i v i = v := by simp [own_upd]
theorem own_upd_ne (f : Nat → Value) {i j : Nat} (v : Value) (q : ¬ j = i) : own_upd f i v j = f j := by simp [own_upd, q]
theorem own_in {j : Int32} {i k : Nat} (hj : j.toInt = (i : Int)) (hi : i < k) : ¬ (j < 0 ∨ k ≤ j.toNatClampNeg) ∧ j.toNatClampNeg = i := by
  have e : j.toNatClampNeg = i := by simp only [Int32.toNatClampNeg]; omega
  refine ⟨?_, e⟩
  rw [e, Int32.lt_iff_toInt_lt]; have : (0 : Int32).toInt = 0 := rfl
  omega
section OwnFacts
variable {Z : State} {h h' : Heap} {a b : Addr} {ty : FieldType} {n sl : Nat} {f : Nat → Value} {v : Value} {ws : List Addr}
theorem Ary.lt (F : Ary Z h a ty n f) : a < h.size := by obtain ⟨c, A, -⟩ := F; exact A.lt
theorem Ary.ext (F : Ary Z h a ty n f) (E : Ext h h') : Ary Z h' a ty n f := by obtain ⟨c, A, r⟩ := F; exact ⟨c, A.ext E, r⟩
theorem Ary.other (F : Ary Z h b ty n f) (W : Wr h h' a sl v) (q : b ≠ a) : Ary Z h' b ty n f := by obtain ⟨c, A, r⟩ := F; exact ⟨c, A.other W q, r⟩
theorem Ary.keep (F : Ary Z h a ty n f) (K : Keep h h' ws) (q : a ∉ ws) : Ary Z h' a ty n f := by obtain ⟨c, A, r⟩ := F; exact ⟨c, ⟨K.2.1 a c A.1 q, A.2⟩, r⟩
theorem Ary.same {cl : Cell} (A : Arr Z h a cl ty) (sz : cl.slots.size = n) (H : ∀ i, i < n → cl.slots[i]? = some (f i)) {i : Nat} (W : Wr h h' a i v) : Ary Z h' a ty n (own_upd f i v) := by
  refine ⟨_, A.same W, by rw [sz_set]; exact sz, fun j hj => ?_⟩
  by_cases q : j = i
  · subst q; simp [Cell.setSlot, own_upd, sz, hj]
  · rw [own_upd_ne f v q]; exact (Array.getElem?_setIfInBounds_ne (Ne.symm q)).trans (H j hj)
theorem Ary.congr (F : Ary Z h a ty n f) {g : Nat → Value} (q : ∀ i, i < n → f i = g i) : Ary Z h a ty n g := by obtain ⟨c, A, sz, H⟩ := F; exact ⟨c, A, sz, fun i hi => by rw [← q i hi]; exact H i hi⟩
/-- what may lie in an array of C -/
def Ov (Z : State) (h : Heap) (a : Addr) (C : String) : Prop := ∃ c : Cell, h[a]? = some c ∧ Ovr Z c.cls C
theorem Ov.ext {C : String} (F : Ov Z h a C) (E : Ext h h') : Ov Z h' a C := by obtain ⟨c, h1, O⟩ := F; exact ⟨c, E.2 _ _ h1, O⟩
theorem Ov.wr {C : String} (F : Ov Z h a C) (W : Wr h h' b sl v) : Ov Z h' a C := by
  obtain ⟨c, h1, O⟩ := F
  obtain ⟨c', e1, e2, -⟩ := wr_at W h1
  exact ⟨c', e1, by rw [e2]; exact O⟩
theorem Ov.keep {C : String} (F : Ov Z h a C) (K : Keep h h' ws) : Ov Z h' a C := by
  obtain ⟨c, h1, O⟩ := F
  obtain ⟨c', e1, e2, -⟩ := K.2.2 a c h1
  exact ⟨c', e1, by rw [e2]; exact O⟩
theorem Ov.sto {C : String} {y : Addr} (F : Ov Z h a C) (A : Ary Z h a ty n f) (I : Ins Z h y C true) : Sto Z h a (.ref y) := by
  obtain ⟨c, h1, O⟩ := F
  obtain ⟨cl, A, -⟩ := A
  cases h1.symm.trans A.1
  exact Sto.of A O I
theorem own_plain {C : String} (F : Exa Z h a C) : ∃ c : Cell, h[a]? = some c ∧ c.vm.isStatics = false := by obtain ⟨c, k, h1, -, -, h4, -⟩ := F; exact ⟨c, h1, h4⟩
theorem own_plainA (F : Ary Z h a ty n f) : ∃ c : Cell, h[a]? = some c ∧ c.vm.isStatics = false := by obtain ⟨c, A, -⟩ := F; exact ⟨c, A.1, A.plain⟩
theorem own_sta_keep {C nm d : String} (F : Sta Z h C nm d v) (K : Keep h h' ws) (q : ∀ x ∈ ws, ∃ c : Cell, h[x]? = some c ∧ c.vm.isStatics = false) : Sta Z h' C nm d v := by
  obtain ⟨cf, i, k, fd, st, cell, h1, h2, h3, h4, h5, h6, h7⟩ := F
  refine ⟨cf, i, k, fd, st, cell, h1, h2, h3, h4, K.2.1 _ _ h5 fun z => ?_, h6, h7⟩
  obtain ⟨c, e1, e2⟩ := q _ z
  cases h5.symm.trans e1
  rw [e2] at h6; cases h6
theorem own_fld_of {a0 : Array Value} {C O nm d O' nm' d' : String} {k : Nat} (E : Exa Z h a C) (F : Fld Z h a O' nm' d' v) (wi : (Cond.instantiable C k).before a0 Z = true) (L : Laid Z a0 C O nm d) : ∃ v', Fld Z h a O nm d v' := by
  obtain ⟨c, _, _, _, _, h1, -, -, h4, -⟩ := F
  exact fld_laid E ⟨c, h1, h4⟩ wi L
theorem own_ne_ty {ty' : FieldType} {n' : Nat} {f' : Nat → Value} (F : Ary Z h a ty n f) (G : Ary Z h b ty' n' f') (q : ty ≠ ty') : a ≠ b := fun e => by
  subst e
  obtain ⟨c1, A1, -⟩ := F
  obtain ⟨c2, A2, -⟩ := G
  cases A1.1.symm.trans A2.1
  obtain ⟨-, k1, i1, p1, j1⟩ := A1.2.1
  obtain ⟨-, k2, i2, p2, j2⟩ := A2.2.1
  cases i1.symm.trans i2
  rw [j1] at j2; cases j2; exact q rfl
theorem own_ne_exa {a0 : Array Value} {C : String} {k : Nat} (E : Exa Z h a C) (wi : (Cond.instantiable C k).before a0 Z = true) (G : Ary Z h b ty n f) : a ≠ b := by
  obtain ⟨c, A, -⟩ := G; exact ne_arr E wi A
theorem own_fld_inj {C nm d : String} {w : Value} (F : Fld Z h a C nm d v) (G : Fld Z h a C nm d w) : v = w := by
  obtain ⟨c1, cf1, k1, i1, f1, a1, a2, -, -, -, -, a7⟩ := F
  obtain ⟨c2, cf2, k2, i2, f2, b1, b2, -, -, -, -, b7⟩ := G
  cases a1.symm.trans b1
  cases a2.symm.trans b2
  exact Option.some.inj (a7.symm.trans b7)
end OwnFacts
section OwnSteps
variable {p : Program} {l : Launch} {e : Env} {R : Room} {s : State} {m : MethodId} {args : Array Value} {below : List Frame} {meth : Method} {c : Code} {T : State} {n0 : Nat} {h : Heap} {cells slots : Nat} {cs sl : Nat} {Φ : Outcome → State → List Loc → Prop} {Q : Option Value → Heap → Prop} {pc pc' : Nat} {L L' : Array Slot} {S : List Value} {bs : ByteArray} {Z : State} {a0 : Array Value}
theorem Gl.st {U V : State} (q : ∀ t, Steps p.tables e below V t → Steps p.tables e below U t) (k : Gl p e below n0 Φ Q V) : Gl p e below n0 Φ Q U := by
  obtain ⟨t, o, h1, h2⟩ := k; exact ⟨t, o, q _ h1, h2⟩
theorem Gl.mono {U : State} {Q' : Option Value → Heap → Prop} (q : ∀ v h, Q v h → Q' v h) (k : Gl p e below n0 Φ Q U) : Gl p e below n0 Φ Q' U := by
  obtain ⟨t, o, h1, h2, h3, v, L, h4, ⟨h5, h6⟩, h7⟩ := k; exact ⟨t, o, h1, h2, h3, v, L, h4, ⟨q _ _ h5, h6⟩, h7⟩
theorem g_iload (X : St p l e R s m args below meth c n0 T h cells slots) (hx : p.tables.exec = Jvm.exec) (hby : c.code = bs) {k : Nat} {v : Int32} (hd : decode bs pc = .ok (.iload k, 2)) (hl : L[k]? = some (.val (.int v))) (hp : pc + 2 = pc') (K : Gl p e below n0 Φ Q (T.setTop (mkF m pc' L (.int v :: S)))) : Gl p e below n0 Φ Q (T.setTop (mkF m pc L S)) := by
  obtain ⟨locs, Y, -, -⟩ := X; subst hp; exact Gl.st (fun t k => XS.iload Y.here hx rfl (hb hby hd) hl k) K
theorem g_iloadN (X : St p l e R s m args below meth c n0 T h cells slots) (hx : p.tables.exec = Jvm.exec) (hby : c.code = bs) {k : Fin 4} {v : Int32} (hd : decode bs pc = .ok (.iload_n k, 1)) (hl : L[k.val]? = some (.val (.int v))) (hp : pc + 1 = pc') (K : Gl p e below n0 Φ Q (T.setTop (mkF m pc' L (.int v :: S)))) : Gl p e below n0 Φ Q (T.setTop (mkF m pc L S)) := by
  obtain ⟨locs, Y, -, -⟩ := X; subst hp; exact Gl.st (fun t k => XS.iloadN Y.here hx rfl (hb hby hd) hl k) K
theorem g_lload (X : St p l e R s m args below meth c n0 T h cells slots) (hx : p.tables.exec = Jvm.exec) (hby : c.code = bs) {k : Nat} {v : Int64} (hd : decode bs pc = .ok (.lload k, 2)) (hl : L[k]? = some (.val (.long v))) (hp : pc + 2 = pc') (K : Gl p e below n0 Φ Q (T.setTop (mkF m pc' L (.long v :: S)))) : Gl p e below n0 Φ Q (T.setTop (mkF m pc L S)) := by
  obtain ⟨locs, Y, -, -⟩ := X; subst hp; exact Gl.st (fun t k => XS.lload Y.here hx rfl (hb hby hd) hl k) K
theorem g_lloadN (X : St p l e R s m args below meth c n0 T h cells slots) (hx : p.tables.exec = Jvm.exec) (hby : c.code = bs) {k : Fin 4} {v : Int64} (hd : decode bs pc = .ok (.lload_n k, 1)) (hl : L[k.val]? = some (.val (.long v))) (hp : pc + 1 = pc') (K : Gl p e below n0 Φ Q (T.setTop (mkF m pc' L (.long v :: S)))) : Gl p e below n0 Φ Q (T.setTop (mkF m pc L S)) := by
  obtain ⟨locs, Y, -, -⟩ := X; subst hp; exact Gl.st (fun t k => XS.lloadN Y.here hx rfl (hb hby hd) hl k) K
theorem g_aload (X : St p l e R s m args below meth c n0 T h cells slots) (hx : p.tables.exec = Jvm.exec) (hby : c.code = bs) {k : Nat} {v : Value} (hd : decode bs pc = .ok (.aload k, 2)) (hl : L[k]? = some (.val v)) (hv : v.isRef = true) (hp : pc + 2 = pc') (K : Gl p e below n0 Φ Q (T.setTop (mkF m pc' L (v :: S)))) : Gl p e below n0 Φ Q (T.setTop (mkF m pc L S)) := by
  obtain ⟨locs, Y, -, -⟩ := X; subst hp; exact Gl.st (fun t k => XS.aload Y.here hx rfl (hb hby hd) hl hv k) K
theorem g_aloadN (X : St p l e R s m args below meth c n0 T h cells slots) (hx : p.tables.exec = Jvm.exec) (hby : c.code = bs) {k : Fin 4} {v : Value} (hd : decode bs pc = .ok (.aload_n k, 1)) (hl : L[k.val]? = some (.val v)) (hv : v.isRef = true) (hp : pc + 1 = pc') (K : Gl p e below n0 Φ Q (T.setTop (mkF m pc' L (v :: S)))) : Gl p e below n0 Φ Q (T.setTop (mkF m pc L S)) := by
  obtain ⟨locs, Y, -, -⟩ := X; subst hp; exact Gl.st (fun t k => XS.aloadN Y.here hx rfl (hb hby hd) hl hv k) K
theorem g_istore (X : St p l e R s m args below meth c n0 T h cells slots) (hx : p.tables.exec = Jvm.exec) (hby : c.code = bs) {k : Nat} {v : Int32} (hd : decode bs pc = .ok (.istore k, 2)) (hl : storeLocals L k (.int v) = some L') (hp : pc + 2 = pc') (K : Gl p e below n0 Φ Q (T.setTop (mkF m pc' L' S))) : Gl p e below n0 Φ Q (T.setTop (mkF m pc L (.int v :: S))) := by
  obtain ⟨locs, Y, -, -⟩ := X; subst hp; exact Gl.st (fun t k => XS.istore Y.here hx rfl (hb hby hd) rfl hl k) K
theorem g_istoreN (X : St p l e R s m args below meth c n0 T h cells slots) (hx : p.tables.exec = Jvm.exec) (hby : c.code = bs) {k : Fin 4} {v : Int32} (hd : decode bs pc = .ok (.istore_n k, 1)) (hl : storeLocals L k.val (.int v) = some L') (hp : pc + 1 = pc') (K : Gl p e below n0 Φ Q (T.setTop (mkF m pc' L' S))) : Gl p e below n0 Φ Q (T.setTop (mkF m pc L (.int v :: S))) := by
  obtain ⟨locs, Y, -, -⟩ := X; subst hp; exact Gl.st (fun t k => XS.istoreN Y.here hx rfl (hb hby hd) rfl hl k) K
theorem g_lstore (X : St p l e R s m args below meth c n0 T h cells slots) (hx : p.tables.exec = Jvm.exec) (hby : c.code = bs) {k : Nat} {v : Int64} (hd : decode bs pc = .ok (.lstore k, 2)) (hl : storeLocals L k (.long v) = some L') (hp : pc + 2 = pc') (K : Gl p e below n0 Φ Q (T.setTop (mkF m pc' L' S))) : Gl p e below n0 Φ Q (T.setTop (mkF m pc L (.long v :: S))) := by
  obtain ⟨locs, Y, -, -⟩ := X; subst hp; exact Gl.st (fun t k => XS.lstore Y.here hx rfl (hb hby hd) rfl hl k) K
theorem g_lstoreN (X : St p l e R s m args below meth c n0 T h cells slots) (hx : p.tables.exec = Jvm.exec) (hby : c.code = bs) {k : Fin 4} {v : Int64} (hd : decode bs pc = .ok (.lstore_n k, 1)) (hl : storeLocals L k.val (.long v) = some L') (hp : pc + 1 = pc') (K : Gl p e below n0 Φ Q (T.setTop (mkF m pc' L' S))) : Gl p e below n0 Φ Q (T.setTop (mkF m pc L (.long v :: S))) := by
  obtain ⟨locs, Y, -, -⟩ := X; subst hp; exact Gl.st (fun t k => XS.lstoreN Y.here hx rfl (hb hby hd) rfl hl k) K
theorem g_astore (X : St p l e R s m args below meth c n0 T h cells slots) (hx : p.tables.exec = Jvm.exec) (hby : c.code = bs) {k : Nat} {v : Value} (hd : decode bs pc = .ok (.astore k, 2)) (hv : v.isRef = true) (hl : storeLocals L k v = some L') (hp : pc + 2 = pc') (K : Gl p e below n0 Φ Q (T.setTop (mkF m pc' L' S))) : Gl p e below n0 Φ Q (T.setTop (mkF m pc L (v :: S))) := by
  obtain ⟨locs, Y, -, -⟩ := X; subst hp; exact Gl.st (fun t k => XS.astore Y.here hx rfl (hb hby hd) rfl hv hl k) K
theorem g_astoreN (X : St p l e R s m args below meth c n0 T h cells slots) (hx : p.tables.exec = Jvm.exec) (hby : c.code = bs) {k : Fin 4} {v : Value} (hd : decode bs pc = .ok (.astore_n k, 1)) (hv : v.isRef = true) (hl : storeLocals L k.val v = some L') (hp : pc + 1 = pc') (K : Gl p e below n0 Φ Q (T.setTop (mkF m pc' L' S))) : Gl p e below n0 Φ Q (T.setTop (mkF m pc L (v :: S))) := by
  obtain ⟨locs, Y, -, -⟩ := X; subst hp; exact Gl.st (fun t k => XS.astoreN Y.here hx rfl (hb hby hd) rfl hv hl k) K
theorem g_iconst (X : St p l e R s m args below meth c n0 T h cells slots) (hx : p.tables.exec = Jvm.exec) (hby : c.code = bs) {i : Int} {v : Int32} (hd : decode bs pc = .ok (.iconst i, 1)) (hv : Int32.ofInt i = v) (hp : pc + 1 = pc') (K : Gl p e below n0 Φ Q (T.setTop (mkF m pc' L (.int v :: S)))) : Gl p e below n0 Φ Q (T.setTop (mkF m pc L S)) := by
  obtain ⟨locs, Y, -, -⟩ := X; subst hp hv; exact Gl.st (fun t k => XS.iconst Y.here hx rfl (hb hby hd) k) K
theorem g_bipush (X : St p l e R s m args below meth c n0 T h cells slots) (hx : p.tables.exec = Jvm.exec) (hby : c.code = bs) {i : Int} {v : Int32} (hd : decode bs pc = .ok (.bipush i, 2)) (hv : (Int8.ofInt i).toInt32 = v) (hp : pc + 2 = pc') (K : Gl p e below n0 Φ Q (T.setTop (mkF m pc' L (.int v :: S)))) : Gl p e below n0 Φ Q (T.setTop (mkF m pc L S)) := by
  obtain ⟨locs, Y, -, -⟩ := X; subst hp hv; exact Gl.st (fun t k => XS.bipush Y.here hx rfl (hb hby hd) k) K
theorem g_sipush (X : St p l e R s m args below meth c n0 T h cells slots) (hx : p.tables.exec = Jvm.exec) (hby : c.code = bs) {i : Int} {v : Int32} (hd : decode bs pc = .ok (.sipush i, 3)) (hv : (Int16.ofInt i).toInt32 = v) (hp : pc + 3 = pc') (K : Gl p e below n0 Φ Q (T.setTop (mkF m pc' L (.int v :: S)))) : Gl p e below n0 Φ Q (T.setTop (mkF m pc L S)) := by
  obtain ⟨locs, Y, -, -⟩ := X; subst hp hv; exact Gl.st (fun t k => XS.sipush Y.here hx rfl (hb hby hd) k) K
theorem g_lconst (X : St p l e R s m args below meth c n0 T h cells slots) (hx : p.tables.exec = Jvm.exec) (hby : c.code = bs) {i : Fin 2} {v : Int64} (hd : decode bs pc = .ok (.lconst i, 1)) (hv : Int64.ofNat i = v) (hp : pc + 1 = pc') (K : Gl p e below n0 Φ Q (T.setTop (mkF m pc' L (.long v :: S)))) : Gl p e below n0 Φ Q (T.setTop (mkF m pc L S)) := by
  obtain ⟨locs, Y, -, -⟩ := X; subst hp hv; exact Gl.st (fun t k => XS.lconst Y.here hx rfl (hb hby hd) k) K
theorem g_aconst_null (X : St p l e R s m args below meth c n0 T h cells slots) (hx : p.tables.exec = Jvm.exec) (hby : c.code = bs) (hd : decode bs pc = .ok (.aconst_null, 1)) (hp : pc + 1 = pc') (K : Gl p e below n0 Φ Q (T.setTop (mkF m pc' L (.null :: S)))) : Gl p e below n0 Φ Q (T.setTop (mkF m pc L S)) := by
  obtain ⟨locs, Y, -, -⟩ := X; subst hp; exact Gl.st (fun t k => XS.aconstNull Y.here hx rfl (hb hby hd) k) K
theorem g_ldc (X : St p l e R s m args below meth c n0 T h cells slots) (hx : p.tables.exec = Jvm.exec) (hby : c.code = bs) (hZ : Z.Warmed39 s.vm) {own : String} {index : Nat} {v : Int32} (hown : s.vm.findClass own = some m.cls) (w : (Cond.constant own index v).before a0 Z = true) (hd : decode bs pc = .ok (.ldc index, 2)) (hp : pc + 2 = pc') (K : Gl p e below n0 Φ Q (T.setTop (mkF m pc' L (.int v :: S)))) : Gl p e below n0 Φ Q (T.setTop (mkF m pc L S)) := by
  obtain ⟨locs, Y, -, -⟩ := X; subst hp; exact Gl.st (Y.ldcInt hx hown (mvT hZ w) (g := mkF m pc L S) rfl (hb hby hd)) K
theorem g_ldc2_w (X : St p l e R s m args below meth c n0 T h cells slots) (hx : p.tables.exec = Jvm.exec) (hby : c.code = bs) (hZ : Z.Warmed39 s.vm) {own : String} {index : Nat} {v : Int64} (hown : s.vm.findClass own = some m.cls) (w : (Cond.constantLong own index v).before a0 Z = true) (hd : decode bs pc = .ok (.ldc2_w index, 3)) (hp : pc + 3 = pc') (K : Gl p e below n0 Φ Q (T.setTop (mkF m pc' L (.long v :: S)))) : Gl p e below n0 Φ Q (T.setTop (mkF m pc L S)) := by
  obtain ⟨locs, Y, -, -⟩ := X; subst hp; exact Gl.st (Y.ldc2Long hx hown (mvT hZ w) (g := mkF m pc L S) rfl (hb hby hd)) K
theorem g_iadd (X : St p l e R s m args below meth c n0 T h cells slots) (hx : p.tables.exec = Jvm.exec) (hby : c.code = bs) {x y : Int32} (hd : decode bs pc = .ok (.iadd, 1))  (hp : pc + 1 = pc') (K : Gl p e below n0 Φ Q (T.setTop (mkF m pc' L (.int (x + y) :: S)))) : Gl p e below n0 Φ Q (T.setTop (mkF m pc L (.int y :: .int x :: S))) := by
  obtain ⟨locs, Y, -, -⟩ := X; subst hp; exact Gl.st (fun t k => XS.iadd Y.here hx rfl (hb hby hd) rfl k) K
theorem g_isub (X : St p l e R s m args below meth c n0 T h cells slots) (hx : p.tables.exec = Jvm.exec) (hby : c.code = bs) {x y : Int32} (hd : decode bs pc = .ok (.isub, 1))  (hp : pc + 1 = pc') (K : Gl p e below n0 Φ Q (T.setTop (mkF m pc' L (.int (x - y) :: S)))) : Gl p e below n0 Φ Q (T.setTop (mkF m pc L (.int y :: .int x :: S))) := by
  obtain ⟨locs, Y, -, -⟩ := X; subst hp; exact Gl.st (fun t k => XS.isub Y.here hx rfl (hb hby hd) rfl k) K
theorem g_imul (X : St p l e R s m args below meth c n0 T h cells slots) (hx : p.tables.exec = Jvm.exec) (hby : c.code = bs) {x y : Int32} (hd : decode bs pc = .ok (.imul, 1))  (hp : pc + 1 = pc') (K : Gl p e below n0 Φ Q (T.setTop (mkF m pc' L (.int (x * y) :: S)))) : Gl p e below n0 Φ Q (T.setTop (mkF m pc L (.int y :: .int x :: S))) := by
  obtain ⟨locs, Y, -, -⟩ := X; subst hp; exact Gl.st (fun t k => XS.imul Y.here hx rfl (hb hby hd) rfl k) K
theorem g_iand (X : St p l e R s m args below meth c n0 T h cells slots) (hx : p.tables.exec = Jvm.exec) (hby : c.code = bs) {x y : Int32} (hd : decode bs pc = .ok (.iand, 1))  (hp : pc + 1 = pc') (K : Gl p e below n0 Φ Q (T.setTop (mkF m pc' L (.int (x &&& y) :: S)))) : Gl p e below n0 Φ Q (T.setTop (mkF m pc L (.int y :: .int x :: S))) := by
  obtain ⟨locs, Y, -, -⟩ := X; subst hp; exact Gl.st (fun t k => XS.iand Y.here hx rfl (hb hby hd) rfl k) K
theorem g_ior (X : St p l e R s m args below meth c n0 T h cells slots) (hx : p.tables.exec = Jvm.exec) (hby : c.code = bs) {x y : Int32} (hd : decode bs pc = .ok (.ior, 1))  (hp : pc + 1 = pc') (K : Gl p e below n0 Φ Q (T.setTop (mkF m pc' L (.int (x ||| y) :: S)))) : Gl p e below n0 Φ Q (T.setTop (mkF m pc L (.int y :: .int x :: S))) := by
  obtain ⟨locs, Y, -, -⟩ := X; subst hp; exact Gl.st (fun t k => XS.ior Y.here hx rfl (hb hby hd) rfl k) K
theorem g_ixor (X : St p l e R s m args below meth c n0 T h cells slots) (hx : p.tables.exec = Jvm.exec) (hby : c.code = bs) {x y : Int32} (hd : decode bs pc = .ok (.ixor, 1))  (hp : pc + 1 = pc') (K : Gl p e below n0 Φ Q (T.setTop (mkF m pc' L (.int (x ^^^ y) :: S)))) : Gl p e below n0 Φ Q (T.setTop (mkF m pc L (.int y :: .int x :: S))) := by
  obtain ⟨locs, Y, -, -⟩ := X; subst hp; exact Gl.st (fun t k => XS.ixor Y.here hx rfl (hb hby hd) rfl k) K
theorem g_ishl (X : St p l e R s m args below meth c n0 T h cells slots) (hx : p.tables.exec = Jvm.exec) (hby : c.code = bs) {x y : Int32} (hd : decode bs pc = .ok (.ishl, 1))  (hp : pc + 1 = pc') (K : Gl p e below n0 Φ Q (T.setTop (mkF m pc' L (.int (x <<< (y &&& 31)) :: S)))) : Gl p e below n0 Φ Q (T.setTop (mkF m pc L (.int y :: .int x :: S))) := by
  obtain ⟨locs, Y, -, -⟩ := X; subst hp; exact Gl.st (fun t k => XS.ishl Y.here hx rfl (hb hby hd) rfl k) K
theorem g_ishr (X : St p l e R s m args below meth c n0 T h cells slots) (hx : p.tables.exec = Jvm.exec) (hby : c.code = bs) {x y : Int32} (hd : decode bs pc = .ok (.ishr, 1))  (hp : pc + 1 = pc') (K : Gl p e below n0 Φ Q (T.setTop (mkF m pc' L (.int (x >>> (y &&& 31)) :: S)))) : Gl p e below n0 Φ Q (T.setTop (mkF m pc L (.int y :: .int x :: S))) := by
  obtain ⟨locs, Y, -, -⟩ := X; subst hp; exact Gl.st (fun t k => XS.ishr Y.here hx rfl (hb hby hd) rfl k) K
theorem g_iushr (X : St p l e R s m args below meth c n0 T h cells slots) (hx : p.tables.exec = Jvm.exec) (hby : c.code = bs) {x y : Int32} (hd : decode bs pc = .ok (.iushr, 1))  (hp : pc + 1 = pc') (K : Gl p e below n0 Φ Q (T.setTop (mkF m pc' L (.int ((x.toUInt32 >>> (y &&& 31).toUInt32).toInt32) :: S)))) : Gl p e below n0 Φ Q (T.setTop (mkF m pc L (.int y :: .int x :: S))) := by
  obtain ⟨locs, Y, -, -⟩ := X; subst hp; exact Gl.st (fun t k => XS.iushr Y.here hx rfl (hb hby hd) rfl k) K
theorem g_ladd (X : St p l e R s m args below meth c n0 T h cells slots) (hx : p.tables.exec = Jvm.exec) (hby : c.code = bs) {x y : Int64} (hd : decode bs pc = .ok (.ladd, 1))  (hp : pc + 1 = pc') (K : Gl p e below n0 Φ Q (T.setTop (mkF m pc' L (.long (x + y) :: S)))) : Gl p e below n0 Φ Q (T.setTop (mkF m pc L (.long y :: .long x :: S))) := by
  obtain ⟨locs, Y, -, -⟩ := X; subst hp; exact Gl.st (fun t k => XS.ladd Y.here hx rfl (hb hby hd) rfl k) K
theorem g_lsub (X : St p l e R s m args below meth c n0 T h cells slots) (hx : p.tables.exec = Jvm.exec) (hby : c.code = bs) {x y : Int64} (hd : decode bs pc = .ok (.lsub, 1))  (hp : pc + 1 = pc') (K : Gl p e below n0 Φ Q (T.setTop (mkF m pc' L (.long (x - y) :: S)))) : Gl p e below n0 Φ Q (T.setTop (mkF m pc L (.long y :: .long x :: S))) := by
  obtain ⟨locs, Y, -, -⟩ := X; subst hp; exact Gl.st (fun t k => XS.lsub Y.here hx rfl (hb hby hd) rfl k) K
theorem g_lmul (X : St p l e R s m args below meth c n0 T h cells slots) (hx : p.tables.exec = Jvm.exec) (hby : c.code = bs) {x y : Int64} (hd : decode bs pc = .ok (.lmul, 1))  (hp : pc + 1 = pc') (K : Gl p e below n0 Φ Q (T.setTop (mkF m pc' L (.long (x * y) :: S)))) : Gl p e below n0 Φ Q (T.setTop (mkF m pc L (.long y :: .long x :: S))) := by
  obtain ⟨locs, Y, -, -⟩ := X; subst hp; exact Gl.st (fun t k => XS.lmul Y.here hx rfl (hb hby hd) rfl k) K
theorem g_land (X : St p l e R s m args below meth c n0 T h cells slots) (hx : p.tables.exec = Jvm.exec) (hby : c.code = bs) {x y : Int64} (hd : decode bs pc = .ok (.land, 1))  (hp : pc + 1 = pc') (K : Gl p e below n0 Φ Q (T.setTop (mkF m pc' L (.long (x &&& y) :: S)))) : Gl p e below n0 Φ Q (T.setTop (mkF m pc L (.long y :: .long x :: S))) := by
  obtain ⟨locs, Y, -, -⟩ := X; subst hp; exact Gl.st (fun t k => XS.land Y.here hx rfl (hb hby hd) rfl k) K
theorem g_lor (X : St p l e R s m args below meth c n0 T h cells slots) (hx : p.tables.exec = Jvm.exec) (hby : c.code = bs) {x y : Int64} (hd : decode bs pc = .ok (.lor, 1))  (hp : pc + 1 = pc') (K : Gl p e below n0 Φ Q (T.setTop (mkF m pc' L (.long (x ||| y) :: S)))) : Gl p e below n0 Φ Q (T.setTop (mkF m pc L (.long y :: .long x :: S))) := by
  obtain ⟨locs, Y, -, -⟩ := X; subst hp; exact Gl.st (fun t k => XS.lor Y.here hx rfl (hb hby hd) rfl k) K
theorem g_lxor (X : St p l e R s m args below meth c n0 T h cells slots) (hx : p.tables.exec = Jvm.exec) (hby : c.code = bs) {x y : Int64} (hd : decode bs pc = .ok (.lxor, 1))  (hp : pc + 1 = pc') (K : Gl p e below n0 Φ Q (T.setTop (mkF m pc' L (.long (x ^^^ y) :: S)))) : Gl p e below n0 Φ Q (T.setTop (mkF m pc L (.long y :: .long x :: S))) := by
  obtain ⟨locs, Y, -, -⟩ := X; subst hp; exact Gl.st (fun t k => XS.lxor Y.here hx rfl (hb hby hd) rfl k) K
theorem g_lushr (X : St p l e R s m args below meth c n0 T h cells slots) (hx : p.tables.exec = Jvm.exec) (hby : c.code = bs) {x : Int64} {y : Int32} (hd : decode bs pc = .ok (.lushr, 1))  (hp : pc + 1 = pc') (K : Gl p e below n0 Φ Q (T.setTop (mkF m pc' L (.long ((x.toUInt64 >>> (y &&& 0x3f).toInt64.toUInt64).toInt64) :: S)))) : Gl p e below n0 Φ Q (T.setTop (mkF m pc L (.int y :: .long x :: S))) := by
  obtain ⟨locs, Y, -, -⟩ := X; subst hp; exact Gl.st (fun t k => XS.lushr Y.here hx rfl (hb hby hd) rfl k) K
theorem g_irem (X : St p l e R s m args below meth c n0 T h cells slots) (hx : p.tables.exec = Jvm.exec) (hby : c.code = bs) {x y : Int32} (hd : decode bs pc = .ok (.irem, 1)) (hy : y ≠ 0) (hp : pc + 1 = pc') (K : Gl p e below n0 Φ Q (T.setTop (mkF m pc' L (.int (x % y) :: S)))) : Gl p e below n0 Φ Q (T.setTop (mkF m pc L (.int y :: .int x :: S))) := by
  obtain ⟨locs, Y, -, -⟩ := X; subst hp; exact Gl.st (fun t k => iremM Y hx rfl (hb hby hd) rfl hy k) K
theorem g_lrem (X : St p l e R s m args below meth c n0 T h cells slots) (hx : p.tables.exec = Jvm.exec) (hby : c.code = bs) {x y : Int64} (hd : decode bs pc = .ok (.lrem, 1)) (hy : y ≠ 0) (hp : pc + 1 = pc') (K : Gl p e below n0 Φ Q (T.setTop (mkF m pc' L (.long (x - (x / y) * y) :: S)))) : Gl p e below n0 Φ Q (T.setTop (mkF m pc L (.long y :: .long x :: S))) := by
  obtain ⟨locs, Y, -, -⟩ := X; subst hp; exact Gl.st (fun t k => XS.lrem Y.here hx rfl (hb hby hd) rfl hy k) K
theorem g_i2l (X : St p l e R s m args below meth c n0 T h cells slots) (hx : p.tables.exec = Jvm.exec) (hby : c.code = bs) {x : Int32} (hd : decode bs pc = .ok (.i2l, 1))  (hp : pc + 1 = pc') (K : Gl p e below n0 Φ Q (T.setTop (mkF m pc' L (.long (x.toInt64) :: S)))) : Gl p e below n0 Φ Q (T.setTop (mkF m pc L (.int x :: S))) := by
  obtain ⟨locs, Y, -, -⟩ := X; subst hp; exact Gl.st (fun t k => XS.i2l Y.here hx rfl (hb hby hd) rfl k) K
theorem g_l2i (X : St p l e R s m args below meth c n0 T h cells slots) (hx : p.tables.exec = Jvm.exec) (hby : c.code = bs) {x : Int64} (hd : decode bs pc = .ok (.l2i, 1))  (hp : pc + 1 = pc') (K : Gl p e below n0 Φ Q (T.setTop (mkF m pc' L (.int (x.toInt32) :: S)))) : Gl p e below n0 Φ Q (T.setTop (mkF m pc L (.long x :: S))) := by
  obtain ⟨locs, Y, -, -⟩ := X; subst hp; exact Gl.st (fun t k => XS.l2i Y.here hx rfl (hb hby hd) rfl k) K
theorem g_i2b (X : St p l e R s m args below meth c n0 T h cells slots) (hx : p.tables.exec = Jvm.exec) (hby : c.code = bs) {x : Int32} (hd : decode bs pc = .ok (.i2b, 1))  (hp : pc + 1 = pc') (K : Gl p e below n0 Φ Q (T.setTop (mkF m pc' L (.int (x.toInt8.toInt32) :: S)))) : Gl p e below n0 Φ Q (T.setTop (mkF m pc L (.int x :: S))) := by
  obtain ⟨locs, Y, -, -⟩ := X; subst hp; exact Gl.st (fun t k => XS.i2b Y.here hx rfl (hb hby hd) rfl k) K
theorem g_i2c (X : St p l e R s m args below meth c n0 T h cells slots) (hx : p.tables.exec = Jvm.exec) (hby : c.code = bs) {x : Int32} (hd : decode bs pc = .ok (.i2c, 1))  (hp : pc + 1 = pc') (K : Gl p e below n0 Φ Q (T.setTop (mkF m pc' L (.int (x.toUInt32.toUInt16.toUInt32.toInt32) :: S)))) : Gl p e below n0 Φ Q (T.setTop (mkF m pc L (.int x :: S))) := by
  obtain ⟨locs, Y, -, -⟩ := X; subst hp; exact Gl.st (fun t k => XS.i2c Y.here hx rfl (hb hby hd) rfl k) K
theorem g_ineg (X : St p l e R s m args below meth c n0 T h cells slots) (hx : p.tables.exec = Jvm.exec) (hby : c.code = bs) {x : Int32} (hd : decode bs pc = .ok (.ineg, 1))  (hp : pc + 1 = pc') (K : Gl p e below n0 Φ Q (T.setTop (mkF m pc' L (.int (-x) :: S)))) : Gl p e below n0 Φ Q (T.setTop (mkF m pc L (.int x :: S))) := by
  obtain ⟨locs, Y, -, -⟩ := X; subst hp; exact Gl.st (fun t k => XS.ineg Y.here hx rfl (hb hby hd) rfl k) K
theorem g_dload (X : St p l e R s m args below meth c n0 T h cells slots) (hx : p.tables.exec = Jvm.exec) (hby : c.code = bs) {k : Nat} {v : UInt64} (hd : decode bs pc = .ok (.dload k, 2)) (hl : L[k]? = some (.val (.double v))) (hp : pc + 2 = pc') (K : Gl p e below n0 Φ Q (T.setTop (mkF m pc' L (.double v :: S)))) : Gl p e below n0 Φ Q (T.setTop (mkF m pc L S)) := by
  obtain ⟨locs, Y, -, -⟩ := X; subst hp; exact Gl.st (fun t k => XS.dload Y.here hx rfl (hb hby hd) hl k) K
theorem g_dloadN (X : St p l e R s m args below meth c n0 T h cells slots) (hx : p.tables.exec = Jvm.exec) (hby : c.code = bs) {k : Fin 4} {v : UInt64} (hd : decode bs pc = .ok (.dload_n k, 1)) (hl : L[k.val]? = some (.val (.double v))) (hp : pc + 1 = pc') (K : Gl p e below n0 Φ Q (T.setTop (mkF m pc' L (.double v :: S)))) : Gl p e below n0 Φ Q (T.setTop (mkF m pc L S)) := by
  obtain ⟨locs, Y, -, -⟩ := X; subst hp; exact Gl.st (fun t k => XS.dloadN Y.here hx rfl (hb hby hd) hl k) K
theorem g_dstore (X : St p l e R s m args below meth c n0 T h cells slots) (hx : p.tables.exec = Jvm.exec) (hby : c.code = bs) {k : Nat} {v : UInt64} (hd : decode bs pc = .ok (.dstore k, 2)) (hl : storeLocals L k (.double v) = some L') (hp : pc + 2 = pc') (K : Gl p e below n0 Φ Q (T.setTop (mkF m pc' L' S))) : Gl p e below n0 Φ Q (T.setTop (mkF m pc L (.double v :: S))) := by
  obtain ⟨locs, Y, -, -⟩ := X; subst hp; exact Gl.st (fun t k => XS.dstore Y.here hx rfl (hb hby hd) rfl hl k) K
theorem g_dstoreN (X : St p l e R s m args below meth c n0 T h cells slots) (hx : p.tables.exec = Jvm.exec) (hby : c.code = bs) {k : Fin 4} {v : UInt64} (hd : decode bs pc = .ok (.dstore_n k, 1)) (hl : storeLocals L k.val (.double v) = some L') (hp : pc + 1 = pc') (K : Gl p e below n0 Φ Q (T.setTop (mkF m pc' L' S))) : Gl p e below n0 Φ Q (T.setTop (mkF m pc L (.double v :: S))) := by
  obtain ⟨locs, Y, -, -⟩ := X; subst hp; exact Gl.st (fun t k => XS.dstoreN Y.here hx rfl (hb hby hd) rfl hl k) K
theorem g_i2d (X : St p l e R s m args below meth c n0 T h cells slots) (hx : p.tables.exec = Jvm.exec) (hby : c.code = bs) {x : Int32} (hd : decode bs pc = .ok (.i2d, 1))  (hp : pc + 1 = pc') (K : Gl p e below n0 Φ Q (T.setTop (mkF m pc' L (.double (FP.i2d x) :: S)))) : Gl p e below n0 Φ Q (T.setTop (mkF m pc L (.int x :: S))) := by
  obtain ⟨locs, Y, -, -⟩ := X; subst hp; exact Gl.st (fun t k => XS.i2dS Y.here hx rfl (hb hby hd) rfl rfl k) K
theorem g_dconst0 (X : St p l e R s m args below meth c n0 T h cells slots) (hx : p.tables.exec = Jvm.exec) (hby : c.code = bs) (hd : decode bs pc = .ok (.dconst 0, 1)) (hp : pc + 1 = pc') (K : Gl p e below n0 Φ Q (T.setTop (mkF m pc' L (.double FP.dconst0 :: S)))) : Gl p e below n0 Φ Q (T.setTop (mkF m pc L S)) := by
  obtain ⟨locs, Y, -, -⟩ := X; subst hp; exact Gl.st (fun t k => XS.dconst0 Y.here hx rfl (hb hby hd) rfl k) K
theorem g_dconst1 (X : St p l e R s m args below meth c n0 T h cells slots) (hx : p.tables.exec = Jvm.exec) (hby : c.code = bs) (hd : decode bs pc = .ok (.dconst 1, 1)) (hp : pc + 1 = pc') (K : Gl p e below n0 Φ Q (T.setTop (mkF m pc' L (.double FP.dconst1 :: S)))) : Gl p e below n0 Φ Q (T.setTop (mkF m pc L S)) := by
  obtain ⟨locs, Y, -, -⟩ := X; subst hp; exact Gl.st (fun t k => XS.dconst1 Y.here hx rfl (hb hby hd) rfl k) K
theorem g_ddiv (X : St p l e R s m args below meth c n0 T h cells slots) (hx : p.tables.exec = Jvm.exec) (hby : c.code = bs) {x y : UInt64} (hd : decode bs pc = .ok (.ddiv, 1)) (hn : Jvm.Free.Fl.NoNaN64 (FP.ddiv x y)) (hp : pc + 1 = pc') (K : Gl p e below n0 Φ Q (T.setTop (mkF m pc' L (.double (FP.ddiv x y) :: S)))) : Gl p e below n0 Φ Q (T.setTop (mkF m pc L (.double y :: .double x :: S))) := by
  obtain ⟨locs, Y, -, -⟩ := X; subst hp; exact Gl.st (fun t k => XS.ddivS Y.here hx rfl (hb hby hd) rfl hn rfl k) K
theorem g_dcmp (X : St p l e R s m args below meth c n0 T h cells slots) (hx : p.tables.exec = Jvm.exec) (hby : c.code = bs) {x y : UInt64} {o : CmpOp} {v : Int32} (hd : decode bs pc = .ok (.dcmp o, 1)) (hv : cmpValue (FP.dcmp x y) o = v) (hp : pc + 1 = pc') (K : Gl p e below n0 Φ Q (T.setTop (mkF m pc' L (.int v :: S)))) : Gl p e below n0 Φ Q (T.setTop (mkF m pc L (.double y :: .double x :: S))) := by
  obtain ⟨locs, Y, -, -⟩ := X; subst hp; exact Gl.st (fun t k => XS.dcmpS Y.here hx rfl (hb hby hd) rfl hv k) K
theorem g_dup (X : St p l e R s m args below meth c n0 T h cells slots) (hx : p.tables.exec = Jvm.exec) (hby : c.code = bs) {v : Value} (hd : decode bs pc = .ok (.dup, 1)) (hc : v.category = 1) (hp : pc + 1 = pc') (K : Gl p e below n0 Φ Q (T.setTop (mkF m pc' L (v :: v :: S)))) : Gl p e below n0 Φ Q (T.setTop (mkF m pc L (v :: S))) := by
  obtain ⟨locs, Y, -, -⟩ := X; subst hp; exact Gl.st (fun t k => XS.dup Y.here hx rfl (hb hby hd) rfl hc k) K
theorem g_pop (X : St p l e R s m args below meth c n0 T h cells slots) (hx : p.tables.exec = Jvm.exec) (hby : c.code = bs) {v : Value} (hd : decode bs pc = .ok (.pop, 1)) (hc : v.category = 1) (hp : pc + 1 = pc') (K : Gl p e below n0 Φ Q (T.setTop (mkF m pc' L S))) : Gl p e below n0 Φ Q (T.setTop (mkF m pc L (v :: S))) := by
  obtain ⟨locs, Y, -, -⟩ := X; subst hp; exact Gl.st (fun t k => XS.pop Y.here hx rfl (hb hby hd) rfl hc k) K
theorem g_dup2 (X : St p l e R s m args below meth c n0 T h cells slots) (hx : p.tables.exec = Jvm.exec) (hby : c.code = bs) {v w : Value} (hd : decode bs pc = .ok (.dup2, 1)) (hc : v.category = 1) (hc' : w.category = 1) (hp : pc + 1 = pc') (K : Gl p e below n0 Φ Q (T.setTop (mkF m pc' L (v :: w :: v :: w :: S)))) : Gl p e below n0 Φ Q (T.setTop (mkF m pc L (v :: w :: S))) := by
  obtain ⟨locs, Y, -, -⟩ := X; subst hp; exact Gl.st (fun t k => XT.dup2 Y.here hx rfl (hb hby hd) rfl hc hc' k) K
theorem g_iinc (X : St p l e R s m args below meth c n0 T h cells slots) (hx : p.tables.exec = Jvm.exec) (hby : c.code = bs) {k : Nat} {i : Int} {x y : Int32} (hd : decode bs pc = .ok (.iinc k i, 3)) (hl : L[k]? = some (.val (.int x))) (hy : Int32.ofInt i = y) (hl' : storeLocals L k (.int (x + y)) = some L') (hp : pc + 3 = pc') (K : Gl p e below n0 Φ Q (T.setTop (mkF m pc' L' S))) : Gl p e below n0 Φ Q (T.setTop (mkF m pc L S)) := by
  obtain ⟨locs, Y, -, -⟩ := X; subst hp hy; exact Gl.st (fun t k => XS.iinc Y.here hx rfl (hb hby hd) hl hl' k) K
theorem g_goto (X : St p l e R s m args below meth c n0 T h cells slots) (hx : p.tables.exec = Jvm.exec) (hby : c.code = bs) {o : Int} (hd : decode bs pc = .ok (.goto o, 3)) (ho : 0 ≤ (pc : Int) + o) (hp : ((pc : Int) + o).toNat = pc') (K : Gl p e below n0 Φ Q (T.setTop (mkF m pc' L S))) : Gl p e below n0 Φ Q (T.setTop (mkF m pc L S)) := by
  obtain ⟨locs, Y, -, -⟩ := X; exact Gl.st (fun t k => XS.goto Y.here hx rfl (pc0 := pc) rfl (hb hby hd) ho hp k) K
theorem g_icmp (X : St p l e R s m args below meth c n0 T h cells slots) (hx : p.tables.exec = Jvm.exec) (hby : c.code = bs) {cd : ClassFile.Cond} {o : Int} {x y : Int32} {pc2 : Nat} (hd : decode bs pc = .ok (.if_icmp cd o, 3)) (ho : 0 ≤ (pc : Int) + o) (hp : ((pc : Int) + o).toNat = pc') (hq : pc + 3 = pc2) (K1 : if_icmp.holds cd x y = true → Gl p e below n0 Φ Q (T.setTop (mkF m pc' L S))) (K2 : if_icmp.holds cd x y = false → Gl p e below n0 Φ Q (T.setTop (mkF m pc2 L S))) : Gl p e below n0 Φ Q (T.setTop (mkF m pc L (.int y :: .int x :: S))) := by
  obtain ⟨locs, Y, -, -⟩ := X; subst hq
  cases hc : if_icmp.holds cd x y with
  | true => exact Gl.st (fun t k => XS.icmpYes Y.here hx rfl (pc0 := pc) rfl (hb hby hd) rfl hc ho hp k) (K1 hc)
  | false => exact Gl.st (fun t k => XS.icmpNo Y.here hx rfl (hb hby hd) rfl hc k) (K2 hc)
theorem g_if (X : St p l e R s m args below meth c n0 T h cells slots) (hx : p.tables.exec = Jvm.exec) (hby : c.code = bs) {cd : ClassFile.Cond} {o : Int} {x : Int32} {pc2 : Nat} (hd : decode bs pc = .ok (.ifCond cd o, 3)) (ho : 0 ≤ (pc : Int) + o) (hp : ((pc : Int) + o).toNat = pc') (hq : pc + 3 = pc2) (K1 : if_icmp.holds cd x 0 = true → Gl p e below n0 Φ Q (T.setTop (mkF m pc' L S))) (K2 : if_icmp.holds cd x 0 = false → Gl p e below n0 Φ Q (T.setTop (mkF m pc2 L S))) : Gl p e below n0 Φ Q (T.setTop (mkF m pc L (.int x :: S))) := by
  obtain ⟨locs, Y, -, -⟩ := X; subst hq
  cases hc : if_icmp.holds cd x 0 with
  | true => exact Gl.st (fun t k => XS.ifYes Y.here hx rfl (pc0 := pc) rfl (hb hby hd) rfl ((if0 _ _).trans hc) ho hp k) (K1 hc)
  | false => exact Gl.st (fun t k => XS.ifNo Y.here hx rfl (hb hby hd) rfl ((if0 _ _).trans hc) k) (K2 hc)
theorem g_icmp_eq (X : St p l e R s m args below meth c n0 T h cells slots) (hx : p.tables.exec = Jvm.exec) (hby : c.code = bs) {o : Int} {x y : Int32} {pc2 : Nat} (hd : decode bs pc = .ok (.if_icmp .eq o, 3)) (ho : 0 ≤ (pc : Int) + o) (hp : ((pc : Int) + o).toNat = pc') (hq : pc + 3 = pc2) (K1 : x = y → Gl p e below n0 Φ Q (T.setTop (mkF m pc' L S))) (K2 : ¬ (x = y) → Gl p e below n0 Φ Q (T.setTop (mkF m pc2 L S))) : Gl p e below n0 Φ Q (T.setTop (mkF m pc L (.int y :: .int x :: S))) :=
  g_icmp X hx hby hd ho hp hq (fun q => K1 (by simpa [if_icmp.holds] using q)) (fun q => K2 (by simpa [if_icmp.holds] using q))
theorem g_if_eq (X : St p l e R s m args below meth c n0 T h cells slots) (hx : p.tables.exec = Jvm.exec) (hby : c.code = bs) {o : Int} {x : Int32} {pc2 : Nat} (hd : decode bs pc = .ok (.ifCond .eq o, 3)) (ho : 0 ≤ (pc : Int) + o) (hp : ((pc : Int) + o).toNat = pc') (hq : pc + 3 = pc2) (K1 : x = 0 → Gl p e below n0 Φ Q (T.setTop (mkF m pc' L S))) (K2 : ¬ (x = 0) → Gl p e below n0 Φ Q (T.setTop (mkF m pc2 L S))) : Gl p e below n0 Φ Q (T.setTop (mkF m pc L (.int x :: S))) :=
  g_if X hx hby hd ho hp hq (fun q => K1 (by simpa [if_icmp.holds] using q)) (fun q => K2 (by simpa [if_icmp.holds] using q))
theorem g_lcmp_eq (X : St p l e R s m args below meth c n0 T h cells slots) (hx : p.tables.exec = Jvm.exec) (hby : c.code = bs) {o : Int} {x y : Int64} {pc1 pc2 : Nat} (hd1 : decode bs pc = .ok (.lcmp, 1)) (hp1 : pc + 1 = pc1) (hd : decode bs pc1 = .ok (.ifCond .eq o, 3)) (ho : 0 ≤ (pc1 : Int) + o) (hp : ((pc1 : Int) + o).toNat = pc') (hq : pc1 + 3 = pc2) (K1 : x = y → Gl p e below n0 Φ Q (T.setTop (mkF m pc' L S))) (K2 : ¬ (x = y) → Gl p e below n0 Φ Q (T.setTop (mkF m pc2 L S))) : Gl p e below n0 Φ Q (T.setTop (mkF m pc L (.long y :: .long x :: S))) := by
  obtain ⟨locs, Y, b1, b2⟩ := X; subst hp1
  refine Gl.st (V := T.setTop (mkF m (pc + 1) L (.int (lcmpW x y) :: S))) (fun t k => XS.lcmp Y.here hx rfl (hb hby hd1) rfl k) ?_
  exact g_if_eq ⟨locs, Y, b1, b2⟩ hx hby hd ho hp hq (fun q => K1 (by simpa [lw_lt, lw_gt, lw_eq] using q)) (fun q => K2 (by simpa [lw_lt, lw_gt, lw_eq] using q))
theorem g_icmp_ne (X : St p l e R s m args below meth c n0 T h cells slots) (hx : p.tables.exec = Jvm.exec) (hby : c.code = bs) {o : Int} {x y : Int32} {pc2 : Nat} (hd : decode bs pc = .ok (.if_icmp .ne o, 3)) (ho : 0 ≤ (pc : Int) + o) (hp : ((pc : Int) + o).toNat = pc') (hq : pc + 3 = pc2) (K1 : ¬ (x = y) → Gl p e below n0 Φ Q (T.setTop (mkF m pc' L S))) (K2 : x = y → Gl p e below n0 Φ Q (T.setTop (mkF m pc2 L S))) : Gl p e below n0 Φ Q (T.setTop (mkF m pc L (.int y :: .int x :: S))) :=
  g_icmp X hx hby hd ho hp hq (fun q => K1 (by simpa [if_icmp.holds] using q)) (fun q => K2 (by simpa [if_icmp.holds] using q))
theorem g_if_ne (X : St p l e R s m args below meth c n0 T h cells slots) (hx : p.tables.exec = Jvm.exec) (hby : c.code = bs) {o : Int} {x : Int32} {pc2 : Nat} (hd : decode bs pc = .ok (.ifCond .ne o, 3)) (ho : 0 ≤ (pc : Int) + o) (hp : ((pc : Int) + o).toNat = pc') (hq : pc + 3 = pc2) (K1 : ¬ (x = 0) → Gl p e below n0 Φ Q (T.setTop (mkF m pc' L S))) (K2 : x = 0 → Gl p e below n0 Φ Q (T.setTop (mkF m pc2 L S))) : Gl p e below n0 Φ Q (T.setTop (mkF m pc L (.int x :: S))) :=
  g_if X hx hby hd ho hp hq (fun q => K1 (by simpa [if_icmp.holds] using q)) (fun q => K2 (by simpa [if_icmp.holds] using q))
theorem g_lcmp_ne (X : St p l e R s m args below meth c n0 T h cells slots) (hx : p.tables.exec = Jvm.exec) (hby : c.code = bs) {o : Int} {x y : Int64} {pc1 pc2 : Nat} (hd1 : decode bs pc = .ok (.lcmp, 1)) (hp1 : pc + 1 = pc1) (hd : decode bs pc1 = .ok (.ifCond .ne o, 3)) (ho : 0 ≤ (pc1 : Int) + o) (hp : ((pc1 : Int) + o).toNat = pc') (hq : pc1 + 3 = pc2) (K1 : ¬ (x = y) → Gl p e below n0 Φ Q (T.setTop (mkF m pc' L S))) (K2 : x = y → Gl p e below n0 Φ Q (T.setTop (mkF m pc2 L S))) : Gl p e below n0 Φ Q (T.setTop (mkF m pc L (.long y :: .long x :: S))) := by
  obtain ⟨locs, Y, b1, b2⟩ := X; subst hp1
  refine Gl.st (V := T.setTop (mkF m (pc + 1) L (.int (lcmpW x y) :: S))) (fun t k => XS.lcmp Y.here hx rfl (hb hby hd1) rfl k) ?_
  exact g_if_ne ⟨locs, Y, b1, b2⟩ hx hby hd ho hp hq (fun q => K1 (by simpa [lw_lt, lw_gt, lw_eq] using q)) (fun q => K2 (by simpa [lw_lt, lw_gt, lw_eq] using q))
theorem g_icmp_lt (X : St p l e R s m args below meth c n0 T h cells slots) (hx : p.tables.exec = Jvm.exec) (hby : c.code = bs) {o : Int} {x y : Int32} {pc2 : Nat} (hd : decode bs pc = .ok (.if_icmp .lt o, 3)) (ho : 0 ≤ (pc : Int) + o) (hp : ((pc : Int) + o).toNat = pc') (hq : pc + 3 = pc2) (K1 : x < y → Gl p e below n0 Φ Q (T.setTop (mkF m pc' L S))) (K2 : ¬ (x < y) → Gl p e below n0 Φ Q (T.setTop (mkF m pc2 L S))) : Gl p e below n0 Φ Q (T.setTop (mkF m pc L (.int y :: .int x :: S))) :=
  g_icmp X hx hby hd ho hp hq (fun q => K1 (by simpa [if_icmp.holds] using q)) (fun q => K2 (by simpa [if_icmp.holds] using q))
theorem g_if_lt (X : St p l e R s m args below meth c n0 T h cells slots) (hx : p.tables.exec = Jvm.exec) (hby : c.code = bs) {o : Int} {x : Int32} {pc2 : Nat} (hd : decode bs pc = .ok (.ifCond .lt o, 3)) (ho : 0 ≤ (pc : Int) + o) (hp : ((pc : Int) + o).toNat = pc') (hq : pc + 3 = pc2) (K1 : x < 0 → Gl p e below n0 Φ Q (T.setTop (mkF m pc' L S))) (K2 : ¬ (x < 0) → Gl p e below n0 Φ Q (T.setTop (mkF m pc2 L S))) : Gl p e below n0 Φ Q (T.setTop (mkF m pc L (.int x :: S))) :=
  g_if X hx hby hd ho hp hq (fun q => K1 (by simpa [if_icmp.holds] using q)) (fun q => K2 (by simpa [if_icmp.holds] using q))
theorem g_lcmp_lt (X : St p l e R s m args below meth c n0 T h cells slots) (hx : p.tables.exec = Jvm.exec) (hby : c.code = bs) {o : Int} {x y : Int64} {pc1 pc2 : Nat} (hd1 : decode bs pc = .ok (.lcmp, 1)) (hp1 : pc + 1 = pc1) (hd : decode bs pc1 = .ok (.ifCond .lt o, 3)) (ho : 0 ≤ (pc1 : Int) + o) (hp : ((pc1 : Int) + o).toNat = pc') (hq : pc1 + 3 = pc2) (K1 : x < y → Gl p e below n0 Φ Q (T.setTop (mkF m pc' L S))) (K2 : ¬ (x < y) → Gl p e below n0 Φ Q (T.setTop (mkF m pc2 L S))) : Gl p e below n0 Φ Q (T.setTop (mkF m pc L (.long y :: .long x :: S))) := by
  obtain ⟨locs, Y, b1, b2⟩ := X; subst hp1
  refine Gl.st (V := T.setTop (mkF m (pc + 1) L (.int (lcmpW x y) :: S))) (fun t k => XS.lcmp Y.here hx rfl (hb hby hd1) rfl k) ?_
  exact g_if_lt ⟨locs, Y, b1, b2⟩ hx hby hd ho hp hq (fun q => K1 (by simpa [lw_lt, lw_gt, lw_eq] using q)) (fun q => K2 (by simpa [lw_lt, lw_gt, lw_eq] using q))
theorem g_icmp_ge (X : St p l e R s m args below meth c n0 T h cells slots) (hx : p.tables.exec = Jvm.exec) (hby : c.code = bs) {o : Int} {x y : Int32} {pc2 : Nat} (hd : decode bs pc = .ok (.if_icmp .ge o, 3)) (ho : 0 ≤ (pc : Int) + o) (hp : ((pc : Int) + o).toNat = pc') (hq : pc + 3 = pc2) (K1 : ¬ (x < y) → Gl p e below n0 Φ Q (T.setTop (mkF m pc' L S))) (K2 : x < y → Gl p e below n0 Φ Q (T.setTop (mkF m pc2 L S))) : Gl p e below n0 Φ Q (T.setTop (mkF m pc L (.int y :: .int x :: S))) :=
  g_icmp X hx hby hd ho hp hq (fun q => K1 (by simpa [if_icmp.holds] using q)) (fun q => K2 (by simpa [if_icmp.holds] using q))
theorem g_if_ge (X : St p l e R s m args below meth c n0 T h cells slots) (hx : p.tables.exec = Jvm.exec) (hby : c.code = bs) {o : Int} {x : Int32} {pc2 : Nat} (hd : decode bs pc = .ok (.ifCond .ge o, 3)) (ho : 0 ≤ (pc : Int) + o) (hp : ((pc : Int) + o).toNat = pc') (hq : pc + 3 = pc2) (K1 : ¬ (x < 0) → Gl p e below n0 Φ Q (T.setTop (mkF m pc' L S))) (K2 : x < 0 → Gl p e below n0 Φ Q (T.setTop (mkF m pc2 L S))) : Gl p e below n0 Φ Q (T.setTop (mkF m pc L (.int x :: S))) :=
  g_if X hx hby hd ho hp hq (fun q => K1 (by simpa [if_icmp.holds] using q)) (fun q => K2 (by simpa [if_icmp.holds] using q))
theorem g_lcmp_ge (X : St p l e R s m args below meth c n0 T h cells slots) (hx : p.tables.exec = Jvm.exec) (hby : c.code = bs) {o : Int} {x y : Int64} {pc1 pc2 : Nat} (hd1 : decode bs pc = .ok (.lcmp, 1)) (hp1 : pc + 1 = pc1) (hd : decode bs pc1 = .ok (.ifCond .ge o, 3)) (ho : 0 ≤ (pc1 : Int) + o) (hp : ((pc1 : Int) + o).toNat = pc') (hq : pc1 + 3 = pc2) (K1 : ¬ (x < y) → Gl p e below n0 Φ Q (T.setTop (mkF m pc' L S))) (K2 : x < y → Gl p e below n0 Φ Q (T.setTop (mkF m pc2 L S))) : Gl p e below n0 Φ Q (T.setTop (mkF m pc L (.long y :: .long x :: S))) := by
  obtain ⟨locs, Y, b1, b2⟩ := X; subst hp1
  refine Gl.st (V := T.setTop (mkF m (pc + 1) L (.int (lcmpW x y) :: S))) (fun t k => XS.lcmp Y.here hx rfl (hb hby hd1) rfl k) ?_
  exact g_if_ge ⟨locs, Y, b1, b2⟩ hx hby hd ho hp hq (fun q => K1 (by simpa [lw_lt, lw_gt, lw_eq] using q)) (fun q => K2 (by simpa [lw_lt, lw_gt, lw_eq] using q))
theorem g_icmp_gt (X : St p l e R s m args below meth c n0 T h cells slots) (hx : p.tables.exec = Jvm.exec) (hby : c.code = bs) {o : Int} {x y : Int32} {pc2 : Nat} (hd : decode bs pc = .ok (.if_icmp .gt o, 3)) (ho : 0 ≤ (pc : Int) + o) (hp : ((pc : Int) + o).toNat = pc') (hq : pc + 3 = pc2) (K1 : y < x → Gl p e below n0 Φ Q (T.setTop (mkF m pc' L S))) (K2 : ¬ (y < x) → Gl p e below n0 Φ Q (T.setTop (mkF m pc2 L S))) : Gl p e below n0 Φ Q (T.setTop (mkF m pc L (.int y :: .int x :: S))) :=
  g_icmp X hx hby hd ho hp hq (fun q => K1 (by simpa [if_icmp.holds] using q)) (fun q => K2 (by simpa [if_icmp.holds] using q))
theorem g_if_gt (X : St p l e R s m args below meth c n0 T h cells slots) (hx : p.tables.exec = Jvm.exec) (hby : c.code = bs) {o : Int} {x : Int32} {pc2 : Nat} (hd : decode bs pc = .ok (.ifCond .gt o, 3)) (ho : 0 ≤ (pc : Int) + o) (hp : ((pc : Int) + o).toNat = pc') (hq : pc + 3 = pc2) (K1 : 0 < x → Gl p e below n0 Φ Q (T.setTop (mkF m pc' L S))) (K2 : ¬ (0 < x) → Gl p e below n0 Φ Q (T.setTop (mkF m pc2 L S))) : Gl p e below n0 Φ Q (T.setTop (mkF m pc L (.int x :: S))) :=
  g_if X hx hby hd ho hp hq (fun q => K1 (by simpa [if_icmp.holds] using q)) (fun q => K2 (by simpa [if_icmp.holds] using q))
theorem g_lcmp_gt (X : St p l e R s m args below meth c n0 T h cells slots) (hx : p.tables.exec = Jvm.exec) (hby : c.code = bs) {o : Int} {x y : Int64} {pc1 pc2 : Nat} (hd1 : decode bs pc = .ok (.lcmp, 1)) (hp1 : pc + 1 = pc1) (hd : decode bs pc1 = .ok (.ifCond .gt o, 3)) (ho : 0 ≤ (pc1 : Int) + o) (hp : ((pc1 : Int) + o).toNat = pc') (hq : pc1 + 3 = pc2) (K1 : y < x → Gl p e below n0 Φ Q (T.setTop (mkF m pc' L S))) (K2 : ¬ (y < x) → Gl p e below n0 Φ Q (T.setTop (mkF m pc2 L S))) : Gl p e below n0 Φ Q (T.setTop (mkF m pc L (.long y :: .long x :: S))) := by
  obtain ⟨locs, Y, b1, b2⟩ := X; subst hp1
  refine Gl.st (V := T.setTop (mkF m (pc + 1) L (.int (lcmpW x y) :: S))) (fun t k => XS.lcmp Y.here hx rfl (hb hby hd1) rfl k) ?_
  exact g_if_gt ⟨locs, Y, b1, b2⟩ hx hby hd ho hp hq (fun q => K1 (by simpa [lw_lt, lw_gt, lw_eq] using q)) (fun q => K2 (by simpa [lw_lt, lw_gt, lw_eq] using q))
theorem g_icmp_le (X : St p l e R s m args below meth c n0 T h cells slots) (hx : p.tables.exec = Jvm.exec) (hby : c.code = bs) {o : Int} {x y : Int32} {pc2 : Nat} (hd : decode bs pc = .ok (.if_icmp .le o, 3)) (ho : 0 ≤ (pc : Int) + o) (hp : ((pc : Int) + o).toNat = pc') (hq : pc + 3 = pc2) (K1 : ¬ (y < x) → Gl p e below n0 Φ Q (T.setTop (mkF m pc' L S))) (K2 : y < x → Gl p e below n0 Φ Q (T.setTop (mkF m pc2 L S))) : Gl p e below n0 Φ Q (T.setTop (mkF m pc L (.int y :: .int x :: S))) :=
  g_icmp X hx hby hd ho hp hq (fun q => K1 (by simpa [if_icmp.holds] using q)) (fun q => K2 (by simpa [if_icmp.holds] using q))
theorem g_if_le (X : St p l e R s m args below meth c n0 T h cells slots) (hx : p.tables.exec = Jvm.exec) (hby : c.code = bs) {o : Int} {x : Int32} {pc2 : Nat} (hd : decode bs pc = .ok (.ifCond .le o, 3)) (ho : 0 ≤ (pc : Int) + o) (hp : ((pc : Int) + o).toNat = pc') (hq : pc + 3 = pc2) (K1 : ¬ (0 < x) → Gl p e below n0 Φ Q (T.setTop (mkF m pc' L S))) (K2 : 0 < x → Gl p e below n0 Φ Q (T.setTop (mkF m pc2 L S))) : Gl p e below n0 Φ Q (T.setTop (mkF m pc L (.int x :: S))) :=
  g_if X hx hby hd ho hp hq (fun q => K1 (by simpa [if_icmp.holds] using q)) (fun q => K2 (by simpa [if_icmp.holds] using q))
theorem g_lcmp_le (X : St p l e R s m args below meth c n0 T h cells slots) (hx : p.tables.exec = Jvm.exec) (hby : c.code = bs) {o : Int} {x y : Int64} {pc1 pc2 : Nat} (hd1 : decode bs pc = .ok (.lcmp, 1)) (hp1 : pc + 1 = pc1) (hd : decode bs pc1 = .ok (.ifCond .le o, 3)) (ho : 0 ≤ (pc1 : Int) + o) (hp : ((pc1 : Int) + o).toNat = pc') (hq : pc1 + 3 = pc2) (K1 : ¬ (y < x) → Gl p e below n0 Φ Q (T.setTop (mkF m pc' L S))) (K2 : y < x → Gl p e below n0 Φ Q (T.setTop (mkF m pc2 L S))) : Gl p e below n0 Φ Q (T.setTop (mkF m pc L (.long y :: .long x :: S))) := by
  obtain ⟨locs, Y, b1, b2⟩ := X; subst hp1
  refine Gl.st (V := T.setTop (mkF m (pc + 1) L (.int (lcmpW x y) :: S))) (fun t k => XS.lcmp Y.here hx rfl (hb hby hd1) rfl k) ?_
  exact g_if_le ⟨locs, Y, b1, b2⟩ hx hby hd ho hp hq (fun q => K1 (by simpa [lw_lt, lw_gt, lw_eq] using q)) (fun q => K2 (by simpa [lw_lt, lw_gt, lw_eq] using q))
theorem g_ifnull_y (X : St p l e R s m args below meth c n0 T h cells slots) (hx : p.tables.exec = Jvm.exec) (hby : c.code = bs) {o : Int} (hd : decode bs pc = .ok (.ifnull o, 3)) (ho : 0 ≤ (pc : Int) + o) (hp : ((pc : Int) + o).toNat = pc') (K : Gl p e below n0 Φ Q (T.setTop (mkF m pc' L S))) : Gl p e below n0 Φ Q (T.setTop (mkF m pc L (.null :: S))) := by
  obtain ⟨locs, Y, -, -⟩ := X; exact Gl.st (fun t k => XS.ifnullYes Y.here hx rfl (pc0 := pc) rfl (hb hby hd) rfl ho hp k) K
theorem g_ifnull_n (X : St p l e R s m args below meth c n0 T h cells slots) (hx : p.tables.exec = Jvm.exec) (hby : c.code = bs) {o : Int} {a : Addr} (hd : decode bs pc = .ok (.ifnull o, 3)) (hp : pc + 3 = pc') (K : Gl p e below n0 Φ Q (T.setTop (mkF m pc' L S))) : Gl p e below n0 Φ Q (T.setTop (mkF m pc L ((.ref a) :: S))) := by
  obtain ⟨locs, Y, -, -⟩ := X; subst hp; exact Gl.st (fun t k => XS.ifnullNo Y.here hx rfl (hb hby hd) rfl k) K
theorem g_ifnonnull_y (X : St p l e R s m args below meth c n0 T h cells slots) (hx : p.tables.exec = Jvm.exec) (hby : c.code = bs) {o : Int} {a : Addr} (hd : decode bs pc = .ok (.ifnonnull o, 3)) (ho : 0 ≤ (pc : Int) + o) (hp : ((pc : Int) + o).toNat = pc') (K : Gl p e below n0 Φ Q (T.setTop (mkF m pc' L S))) : Gl p e below n0 Φ Q (T.setTop (mkF m pc L ((.ref a) :: S))) := by
  obtain ⟨locs, Y, -, -⟩ := X; exact Gl.st (fun t k => XS.ifnonnullYes Y.here hx rfl (pc0 := pc) rfl (hb hby hd) rfl ho hp k) K
theorem g_ifnonnull_n (X : St p l e R s m args below meth c n0 T h cells slots) (hx : p.tables.exec = Jvm.exec) (hby : c.code = bs) {o : Int} (hd : decode bs pc = .ok (.ifnonnull o, 3)) (hp : pc + 3 = pc') (K : Gl p e below n0 Φ Q (T.setTop (mkF m pc' L S))) : Gl p e below n0 Φ Q (T.setTop (mkF m pc L (.null :: S))) := by
  obtain ⟨locs, Y, -, -⟩ := X; subst hp; exact Gl.st (fun t k => XS.ifnonnullNo Y.here hx rfl (hb hby hd) rfl k) K
theorem g_acmp_y (X : St p l e R s m args below meth c n0 T h cells slots) (hx : p.tables.exec = Jvm.exec) (hby : c.code = bs) {cd : ACond} {o : Int} {x y : Value} {same : Bool} (hd : decode bs pc = .ok (.if_acmp cd o, 3)) (h1 : x.isRef = true) (h2 : y.isRef = true) (hq : decide (x = y) = same) (ho : 0 ≤ (pc : Int) + o) (hp : pc' = if acV cd same = true then ((pc : Int) + o).toNat else pc + 3) (K : Gl p e below n0 Φ Q (T.setTop (mkF m pc' L S))) : Gl p e below n0 Φ Q (T.setTop (mkF m pc L (y :: x :: S))) := by
  obtain ⟨locs, Y, -, -⟩ := X; exact Gl.st (fun t k => Jvm.RoadKit.acmp Y hx rfl h1 h2 (pc0 := pc) rfl (hb hby hd) rfl hq ho hp k) K
theorem g_retN (X : St p l e R s m args below meth c n0 T h cells slots) (hx : p.tables.exec = Jvm.exec) (hby : c.code = bs) {t : FieldType} {z : Int32} (hret : meth.sig.returnType = some t) (hlk : meth.locks = false) (ht : t = .boolean ∨ t = .byte ∨ t = .char ∨ t = .short) (hd : decode bs pc = .ok (.ireturn, 1)) (hq : Q (some (.int (nar t z))) h) (hc : cells ≤ cs) (hs : slots ≤ sl) : Gl p e below n0 (Fn s cs sl) Q (T.setTop (mkF m pc L (.int z :: S))) := by
  obtain ⟨locs, Y, eT, N⟩ := X
  obtain ⟨fs, hr, hrun, hended, hW, hsame⟩ := Y.leave (v := some (.int (nar t z))) (fun q => by rw [hret] at q; cases q) hlk
  exact ⟨_, _, retN Y hx hret ht (hb hby hd) hr, hrun, hended, _, locs, rfl, ⟨(show Q _ T.heap by rw [eT]; exact hq), N⟩, ⟨_, rfl⟩, hW, hsame.mono hc hs⟩
theorem g_retV (X : St p l e R s m args below meth c n0 T h cells slots) (hx : p.tables.exec = Jvm.exec) (hby : c.code = bs) {t : FieldType} {w : Value} {i : Instr} (hret : meth.sig.returnType = some t) (hlk : meth.locks = false) (hn : narrow t w = w) (hi : (i = .ireturn ∧ (t = .int ∨ t = .boolean ∨ t = .byte ∨ t = .char ∨ t = .short) ∧ ∃ z, w = .int z) ∨ (i = .lreturn ∧ t = .long ∧ ∃ z, w = .long z) ∨ (i = .dreturn ∧ t = .double ∧ ∃ z, w = .double z) ∨ (i = .freturn ∧ t = .float ∧ ∃ z, w = .float z) ∨ (i = .areturn ∧ t.isReference = true ∧ w.isRef = true)) (hd : decode bs pc = .ok (i, 1)) (hq : Q (some w) h) (hc : cells ≤ cs) (hs : slots ≤ sl) : Gl p e below n0 (Fn s cs sl) Q (T.setTop (mkF m pc L (w :: S))) := by
  obtain ⟨locs, Y, eT, N⟩ := X
  obtain ⟨fs, hr, hrun, hended, hW, hsame⟩ := Y.leave (v := some w) (fun q => by rw [hret] at q; cases q) hlk
  exact ⟨_, _, retOut Y hx hret hn hi (hb hby hd) hr, hrun, hended, _, locs, rfl, ⟨(show Q _ T.heap by rw [eT]; exact hq), N⟩, ⟨_, rfl⟩, hW, hsame.mono hc hs⟩
theorem g_retI (X : St p l e R s m args below meth c n0 T h cells slots) (hx : p.tables.exec = Jvm.exec) (hby : c.code = bs) {z : Int32} (hret : meth.sig.returnType = some .int) (hlk : meth.locks = false) (hd : decode bs pc = .ok (.ireturn, 1)) (hq : Q (some (.int z)) h) (hc : cells ≤ cs) (hs : slots ≤ sl) : Gl p e below n0 (Fn s cs sl) Q (T.setTop (mkF m pc L (.int z :: S))) := g_retV X hx hby hret hlk rfl (Or.inl ⟨rfl, Or.inl rfl, z, rfl⟩) hd hq hc hs
theorem g_retL (X : St p l e R s m args below meth c n0 T h cells slots) (hx : p.tables.exec = Jvm.exec) (hby : c.code = bs) {z : Int64} (hret : meth.sig.returnType = some .long) (hlk : meth.locks = false) (hd : decode bs pc = .ok (.lreturn, 1)) (hq : Q (some (.long z)) h) (hc : cells ≤ cs) (hs : slots ≤ sl) : Gl p e below n0 (Fn s cs sl) Q (T.setTop (mkF m pc L (.long z :: S))) := g_retV X hx hby hret hlk rfl (Or.inr (Or.inl ⟨rfl, rfl, z, rfl⟩)) hd hq hc hs
theorem g_retD (X : St p l e R s m args below meth c n0 T h cells slots) (hx : p.tables.exec = Jvm.exec) (hby : c.code = bs) {z : UInt64} (hret : meth.sig.returnType = some .double) (hlk : meth.locks = false) (hd : decode bs pc = .ok (.dreturn, 1)) (hq : Q (some (.double z)) h) (hc : cells ≤ cs) (hs : slots ≤ sl) : Gl p e below n0 (Fn s cs sl) Q (T.setTop (mkF m pc L (.double z :: S))) := g_retV X hx hby hret hlk rfl (Or.inr (Or.inr (Or.inl ⟨rfl, rfl, z, rfl⟩))) hd hq hc hs
theorem g_retA (X : St p l e R s m args below meth c n0 T h cells slots) (hx : p.tables.exec = Jvm.exec) (hby : c.code = bs) {t : FieldType} {w : Value} (hret : meth.sig.returnType = some t) (hlk : meth.locks = false) (ht : t.isReference = true) (hw : w.isRef = true) (hd : decode bs pc = .ok (.areturn, 1)) (hq : Q (some w) h) (hc : cells ≤ cs) (hs : slots ≤ sl) : Gl p e below n0 (Fn s cs sl) Q (T.setTop (mkF m pc L (w :: S))) := g_retV X hx hby hret hlk (by rcases ref_cases hw with rfl | ⟨a, rfl⟩ <;> cases t <;> first | rfl | (cases ht; done)) (Or.inr (Or.inr (Or.inr (Or.inr ⟨rfl, ht, hw⟩)))) hd hq hc hs
theorem g_ret (X : St p l e R s m args below meth c n0 T h cells slots) (hx : p.tables.exec = Jvm.exec) (hby : c.code = bs) (hret : meth.sig.returnType = none) (hlk : meth.locks = false) (hd : decode bs pc = .ok (.return_, 1)) (hq : Q none h) (hc : cells ≤ cs) (hs : slots ≤ sl) : Gl p e below n0 (Fn s cs sl) Q (T.setTop (mkF m pc L [])) := by
  obtain ⟨locs, Y, eT, N⟩ := X
  obtain ⟨fs, hr, hrun, hended, hW, hsame⟩ := Y.leave (v := none) (fun _ => rfl) hlk
  exact ⟨_, _, Y.returnOut hx hret (hb hby hd) hr, hrun, hended, _, locs, rfl, ⟨(show Q _ T.heap by rw [eT]; exact hq), N⟩, ⟨_, rfl⟩, hW, hsame.mono hc hs⟩
theorem gw_retN {vm0 : Vm} {k0 : Nat} (X : St p l e R (s.setVm vm0) m args below meth c n0 T h cells slots) (hx : p.tables.exec = Jvm.exec) (hby : c.code = bs) (hS : s.Since vm0 k0) (hk : k0 ≤ h.size) {t : FieldType} {z : Int32} (hret : meth.sig.returnType = some t) (hlk : meth.locks = false) (ht : t = .boolean ∨ t = .byte ∨ t = .char ∨ t = .short) (hd : decode bs pc = .ok (.ireturn, 1)) (hq : Q (some (.int (nar t z))) h) (hc : cells ≤ cs) (hs : slots ≤ sl) : Gl p e below n0 (Fw s cs sl) Q (T.setTop (mkF m pc L (.int z :: S))) := by
  obtain ⟨locs, Y, eT, N⟩ := X
  obtain ⟨fs, hr, hrun, hended, r1, r2, r3, r4⟩ := Y.leaveW hS (by rw [eT]; exact hk) (v := some (.int (nar t z))) (fun q => by rw [hret] at q; cases q) hlk
  exact ⟨_, _, retN Y hx hret ht (hb hby hd) hr, hrun, hended, _, locs, rfl, ⟨(show Q _ T.heap by rw [eT]; exact hq), N⟩, r1, r2, r3, r4.mono hc hs⟩
theorem g_ldcS {vm0 : Vm} {k0 : Nat} (X : St p l e R (s.setVm vm0) m args below meth c n0 T h cells slots) (hx : p.tables.exec = Jvm.exec) (hby : c.code = bs) (hZ : Z.Warmed39 (s.setVm vm0).vm) {own text : String} {index n : Nat} (hown : (s.setVm vm0).vm.findClass own = some m.cls) (w : (Cond.stringLink own index text).before a0 Z = true) (wS : ∀ a ∈ Bundle.stringAtoms, a.before a0 Z = true) (hS : s.Since vm0 k0) (hk : k0 ≤ h.size) (hd : decode bs pc = .ok (.ldc index, 2)) (hn : 4 * text.toList.length ≤ n) (hbig : n ≤ 536870912) (hc : cells + 2 ≤ R.cells) (hl : slots + (n + 4) ≤ R.slots) (hp : pc + 2 = pc') (K : ∀ (a : Addr) T' h' k1, St p l e R (s.setVm T'.vm) m args below meth c n0 T' h' (cells + 2) (slots + (n + 4)) → Ext h h' → s.Since T'.vm k1 → k1 ≤ h'.size → Z.Warmed39 (s.setVm T'.vm).vm → (s.setVm T'.vm).vm.findClass own = some m.cls → Gl p e below n0 Φ Q (T'.setTop (mkF m pc' L (.ref a :: S)))) : Gl p e below n0 Φ Q (T.setTop (mkF m pc L S)) := by
  obtain ⟨locs, Y, eT, N⟩ := X; subst hp
  obtain ⟨a, T', h', k1, Y', e', E, S1, hk1, hZ1, hown1, st⟩ := ldcS Y hx hZ hown w wS eT hS hk (g := mkF m pc L S) rfl (hb hby hd) hn hbig hc hl
  exact Gl.st st (K a T' h' k1 ⟨locs, Y', e', N⟩ E S1 hk1 hZ1 hown1)
theorem g_getF (X : St p l e R s m args below meth c n0 T h cells slots) (hx : p.tables.exec = Jvm.exec) (hby : c.code = bs) (hZ : Z.Warmed39 s.vm) {own R0 O n d : String} {index : Nat} (hown : s.vm.findClass own = some m.cls) (w : (Cond.fieldLink own index R0 n d).before a0 Z = true) (via : Via Z R0 O n d) {a : Addr} {v : Value} (F : Fld Z h a O n d v) (hd : decode bs pc = .ok (.getfield index, 3)) (hp : pc + 3 = pc') (K : ∀ T', St p l e R s m args below meth c n0 T' h cells slots → Gl p e below n0 Φ Q (T'.setTop (mkF m pc' L (v :: S)))) : Gl p e below n0 Φ Q (T.setTop (mkF m pc L (.ref a :: S))) := by
  obtain ⟨locs, Y, eT, N⟩ := X; subst hp
  obtain ⟨T', Y', e', st⟩ := getF Y hx hZ hown (host := "") (Or.inl w) via eT F (g := mkF m pc L (.ref a :: S)) rfl rfl (hb hby hd)
  exact Gl.st st (K T' ⟨locs, Y', e', N⟩)
theorem g_putF (X : St p l e R s m args below meth c n0 T h cells slots) (hx : p.tables.exec = Jvm.exec) (hby : c.code = bs) (hZ : Z.Warmed39 s.vm) {own R0 O n d C : String} {index kk : Nat} {ty : FieldType} (hown : s.vm.findClass own = some m.cls) (w : (Cond.fieldLink own index R0 n d).before a0 Z = true) (via : Via Z R0 O n d) {a : Addr} {v old : Value} (F : Fld Z h a O n d old) (E : Exa Z h a C) (lay : (Cond.lays C O n d).before a0 Z = true ∨ ((Cond.laysFinal C O n d).before a0 Z = true ∧ own = O ∧ meth.name = "<init>")) (wi : (Cond.instantiable C kk).before a0 Z = true) (hty : parseFieldDescriptor d = some ty) (hn : narrow ty v = v) (hf : fits ty v = true) (hn0 : n0 ≤ a) (hd : decode bs pc = .ok (.putfield index, 3)) (hp : pc + 3 = pc') (K : ∀ T' h', St p l e R s m args below meth c n0 T' h' cells slots → Wr h h' a (Jvm.RoadKit.slotOf Z O n d) v → Gl p e below n0 Φ Q (T'.setTop (mkF m pc' L S))) : Gl p e below n0 Φ Q (T.setTop (mkF m pc L (v :: .ref a :: S))) := by
  obtain ⟨locs, Y, eT, N⟩ := X; subst hp
  obtain ⟨T', h', Y', e', W, st⟩ := putF Y hx hZ hown (host := "") (Or.inl w) via eT F E lay wi hty hn hf (g := mkF m pc L (v :: .ref a :: S)) rfl rfl (hb hby hd)
  exact Gl.st st (K T' h' ⟨_, Y', e', Fr.snoc Y' N hn0⟩ W)
theorem g_putFN (X : St p l e R s m args below meth c n0 T h cells slots) (hx : p.tables.exec = Jvm.exec) (hby : c.code = bs) (hZ : Z.Warmed39 s.vm) {own R0 O n d C : String} {index kk : Nat} {ty : FieldType} (hown : s.vm.findClass own = some m.cls) (w : (Cond.fieldLink own index R0 n d).before a0 Z = true) (via : Via Z R0 O n d) {a : Addr} {v v' old : Value} (F : Fld Z h a O n d old) (E : Exa Z h a C) (lay : (Cond.lays C O n d).before a0 Z = true ∨ ((Cond.laysFinal C O n d).before a0 Z = true ∧ own = O ∧ meth.name = "<init>")) (wi : (Cond.instantiable C kk).before a0 Z = true) (hty : parseFieldDescriptor d = some ty) (hn : narrow ty v = v') (hf : fits ty v' = true) (hn0 : n0 ≤ a) (hd : decode bs pc = .ok (.putfield index, 3)) (hp : pc + 3 = pc') (K : ∀ T' h', St p l e R s m args below meth c n0 T' h' cells slots → Wr h h' a (Jvm.RoadKit.slotOf Z O n d) v' → Gl p e below n0 Φ Q (T'.setTop (mkF m pc' L S))) : Gl p e below n0 Φ Q (T.setTop (mkF m pc L (v :: .ref a :: S))) := by
  obtain ⟨locs, Y, eT, N⟩ := X; subst hp
  obtain ⟨T', h', Y', e', W, st⟩ := putFN Y hx hZ hown w via eT F E lay wi hty hn hf (g := mkF m pc L (v :: .ref a :: S)) rfl rfl (hb hby hd)
  exact Gl.st st (K T' h' ⟨_, Y', e', Fr.snoc Y' N hn0⟩ W)
theorem g_getS (X : St p l e R s m args below meth c n0 T h cells slots) (hx : p.tables.exec = Jvm.exec) (hby : c.code = bs) (hZ : Z.Warmed39 s.vm) {own R0 O n d : String} {index : Nat} (hown : s.vm.findClass own = some m.cls) (w : (Cond.fieldLink own index R0 n d).before a0 Z = true) (via : Via Z R0 O n d) {v : Value} (F : Sta Z h O n d v) (hd : decode bs pc = .ok (.getstatic index, 3)) (hp : pc + 3 = pc') (K : ∀ T', St p l e R s m args below meth c n0 T' h cells slots → Gl p e below n0 Φ Q (T'.setTop (mkF m pc' L (v :: S)))) : Gl p e below n0 Φ Q (T.setTop (mkF m pc L S)) := by
  obtain ⟨locs, Y, eT, N⟩ := X; subst hp
  obtain ⟨T', Y', e', st⟩ := getS Y hx hZ hown (host := "") w via eT F (g := mkF m pc L S) rfl (hb hby hd)
  exact Gl.st st (K T' ⟨locs, Y', e', N⟩)
theorem g_new (X : St p l e R s m args below meth c n0 T h cells slots) (hx : p.tables.exec = Jvm.exec) (hby : c.code = bs) (hZ : Z.Warmed39 s.vm) {own C : String} {index n : Nat} (hown : s.vm.findClass own = some m.cls) (w : (Cond.classLink own index C).before a0 Z = true) (wi : (Cond.instantiable C n).before a0 Z = true) (wz : (Cond.initialized C).before a0 Z = true) (hd : decode bs pc = .ok (.new index, 3)) (hc : cells + 1 ≤ R.cells) (hs : slots + n ≤ R.slots) (hp : pc + 3 = pc') (K : ∀ T' h' (b : Addr), b = h.size → St p l e R s m args below meth c n0 T' h' (cells + 1) (slots + n) → Ext h h' → Exa Z h' b C → (∀ {O nm d : String} {ty : FieldType}, Laid Z a0 C O nm d → parseFieldDescriptor d = some ty → Fld Z h' b O nm d (defaultValue ty)) → Gl p e below n0 Φ Q (T'.setTop (mkF m pc' L (.ref b :: S)))) : Gl p e below n0 Φ Q (T.setTop (mkF m pc L S)) := by
  obtain ⟨locs, Y, eT, N⟩ := X; subst hp
  obtain ⟨T', h', Y', e', E, A, D, -, st⟩ := newO Y hx hZ hown w wi wz eT (g := mkF m pc L S) rfl (hb hby hd) hc hs
  exact Gl.st st (K T' h' _ rfl ⟨locs, Y', e', N⟩ E A D)
theorem g_newarray (X : St p l e R s m args below meth c n0 T h cells slots) (hx : p.tables.exec = Jvm.exec) (hby : c.code = bs) (hZ : Z.Warmed39 s.vm) {aty : ArrayType} (w : (Cond.arrayClass (newarray.typeOf aty)).before a0 Z = true) {n : Int32} {k cap : Nat} (hd : decode bs pc = .ok (.newarray aty, 2)) (hn : n.toInt = (k : Int)) (hcap : k ≤ cap) (hb8 : cap * 8 ≤ 536870912) (hc : cells + 1 ≤ R.cells) (hs : slots + cap ≤ R.slots) (hp : pc + 2 = pc') (K : ∀ T' h' (b : Addr), b = h.size → St p l e R s m args below meth c n0 T' h' (cells + 1) (slots + cap) → Ext h h' → Ary Z h' b (newarray.typeOf aty) k (fun _ => defaultValue (newarray.typeOf aty)) → Gl p e below n0 Φ Q (T'.setTop (mkF m pc' L (.ref b :: S)))) : Gl p e below n0 Φ Q (T.setTop (mkF m pc L (.int n :: S))) := by
  obtain ⟨locs, Y, eT, N⟩ := X; subst hp
  have e1 : n.toNatClampNeg = k := by simp only [Int32.toNatClampNeg]; omega
  obtain ⟨T', h', cA, Y', e', E, A, st⟩ := newP Y hx hZ w eT (g := mkF m pc L (.int n :: S)) rfl (hb hby hd) rfl (by rw [Int32.lt_iff_toInt_lt]; have : (0 : Int32).toInt = 0 := rfl; omega) (cap := cap) (by omega) hb8 hc hs
  exact Gl.st st (K T' h' _ rfl ⟨locs, Y', e', N⟩ E ⟨_, A, by rw [sz_new]; exact e1, fun i hi => by simp [newA, e1, hi]⟩)
theorem g_anewarray (X : St p l e R s m args below meth c n0 T h cells slots) (hx : p.tables.exec = Jvm.exec) (hby : c.code = bs) (hZ : Z.Warmed39 s.vm) {own C : String} {index : Nat} (hown : s.vm.findClass own = some m.cls) (w1 : (Cond.classLink own index C).before a0 Z = true) (w2 : (Cond.arrayOver (.object C)).before a0 Z = true) {n : Int32} {k cap : Nat} (hd : decode bs pc = .ok (.anewarray index, 3)) (hn : n.toInt = (k : Int)) (hcap : k ≤ cap) (hb8 : cap * 8 ≤ 536870912) (hc : cells + 1 ≤ R.cells) (hs : slots + cap ≤ R.slots) (hp : pc + 3 = pc') (K : ∀ T' h' (b : Addr), b = h.size → St p l e R s m args below meth c n0 T' h' (cells + 1) (slots + cap) → Ext h h' → Ary Z h' b (.object C) k (fun _ => .null) → Ov Z h' b C → Gl p e below n0 Φ Q (T'.setTop (mkF m pc' L (.ref b :: S)))) : Gl p e below n0 Φ Q (T.setTop (mkF m pc L (.int n :: S))) := by
  obtain ⟨locs, Y, eT, N⟩ := X; subst hp
  have e1 : n.toNatClampNeg = k := by simp only [Int32.toNatClampNeg]; omega
  obtain ⟨T', h', cA, Y', e', E, A, O, st⟩ := newR Y hx hZ hown w1 w2 eT (g := mkF m pc L (.int n :: S)) rfl (hb hby hd) rfl (by rw [Int32.lt_iff_toInt_lt]; have : (0 : Int32).toInt = 0 := rfl; omega) (cap := cap) (by omega) hb8 hc hs
  exact Gl.st st (K T' h' _ rfl ⟨locs, Y', e', N⟩ E ⟨_, A, by rw [sz_new]; exact e1, fun i hi => by simp [newA, e1, hi, defaultValue]⟩ ⟨_, A.1, O⟩)
theorem g_arraylength (X : St p l e R s m args below meth c n0 T h cells slots) (hx : p.tables.exec = Jvm.exec) (hby : c.code = bs) (hZ : Z.Warmed39 s.vm) {a : Addr} {ty : FieldType} {k : Nat} {f : Nat → Value} {n : Int32} (A : Ary Z h a ty k f) (hn : n.toInt = (k : Int)) (hd : decode bs pc = .ok (.arraylength, 1)) (hp : pc + 1 = pc') (K : Gl p e below n0 Φ Q (T.setTop (mkF m pc' L (.int n :: S)))) : Gl p e below n0 Φ Q (T.setTop (mkF m pc L (.ref a :: S))) := by
  obtain ⟨locs, Y, eT, -⟩ := X; subst hp
  obtain ⟨cl, Ar, sz, -⟩ := A
  have e1 : cl.slots.size.toInt32 = n := by
    have q := rng32 n
    rw [← Int32.toInt_inj, len_toInt (by omega), sz, hn]
  refine Gl.st (fun t k => Y.arraylength hx (by rw [eT]; exact Ar.1) (State.isArrayOf_alike hZ.alike Ar.2.1) (g := mkF m pc L (.ref a :: S)) rfl rfl (hb hby hd) t k) ?_
  rw [e1]; exact K
theorem g_iaload (X : St p l e R s m args below meth c n0 T h cells slots) (hx : p.tables.exec = Jvm.exec) (hby : c.code = bs) (hZ : Z.Warmed39 s.vm) {a : Addr} {k i : Nat} {f : Nat → Value} {j : Int32} {v : Value} (A : Ary Z h a .int k f) (hj : j.toInt = (i : Int)) (hi : i < k) (hv : f i = v) (hd : decode bs pc = .ok (.iaload, 1)) (hp : pc + 1 = pc') (K : Gl p e below n0 Φ Q (T.setTop (mkF m pc' L (v :: S)))) : Gl p e below n0 Φ Q (T.setTop (mkF m pc L (.int j :: .ref a :: S))) := by
  obtain ⟨locs, Y, eT, -⟩ := X; subst hp hv
  obtain ⟨cl, Ar, sz, H⟩ := A
  obtain ⟨q1, q2⟩ := own_in (k := k) hj hi
  exact Gl.st (fun t k => Y.iaload hx (by rw [eT]; exact Ar.1) (State.isArrayOf_alike hZ.alike Ar.2.1) Ar.2.2 (by rw [sz]; exact q1) (by rw [q2]; exact H i hi) (g := mkF m pc L (.int j :: .ref a :: S)) rfl rfl (hb hby hd) t k) K
theorem g_laload (X : St p l e R s m args below meth c n0 T h cells slots) (hx : p.tables.exec = Jvm.exec) (hby : c.code = bs) (hZ : Z.Warmed39 s.vm) {a : Addr} {k i : Nat} {f : Nat → Value} {j : Int32} {v : Value} (A : Ary Z h a .long k f) (hj : j.toInt = (i : Int)) (hi : i < k) (hv : f i = v) (hd : decode bs pc = .ok (.laload, 1)) (hp : pc + 1 = pc') (K : Gl p e below n0 Φ Q (T.setTop (mkF m pc' L (v :: S)))) : Gl p e below n0 Φ Q (T.setTop (mkF m pc L (.int j :: .ref a :: S))) := by
  obtain ⟨locs, Y, eT, -⟩ := X; subst hp hv
  obtain ⟨cl, Ar, sz, H⟩ := A
  obtain ⟨q1, q2⟩ := own_in (k := k) hj hi
  exact Gl.st (fun t k => Y.laload hx (by rw [eT]; exact Ar.1) (State.isArrayOf_alike hZ.alike Ar.2.1) Ar.2.2 (by rw [sz]; exact q1) (by rw [q2]; exact H i hi) (g := mkF m pc L (.int j :: .ref a :: S)) rfl rfl (hb hby hd) t k) K
theorem g_caload (X : St p l e R s m args below meth c n0 T h cells slots) (hx : p.tables.exec = Jvm.exec) (hby : c.code = bs) (hZ : Z.Warmed39 s.vm) {a : Addr} {k i : Nat} {f : Nat → Value} {j : Int32} {v : Value} (A : Ary Z h a .char k f) (hj : j.toInt = (i : Int)) (hi : i < k) (hv : f i = v) (hd : decode bs pc = .ok (.caload, 1)) (hp : pc + 1 = pc') (K : Gl p e below n0 Φ Q (T.setTop (mkF m pc' L (v :: S)))) : Gl p e below n0 Φ Q (T.setTop (mkF m pc L (.int j :: .ref a :: S))) := by
  obtain ⟨locs, Y, eT, -⟩ := X; subst hp hv
  obtain ⟨cl, Ar, sz, H⟩ := A
  obtain ⟨q1, q2⟩ := own_in (k := k) hj hi
  exact Gl.st (fun t k => Y.caload hx (by rw [eT]; exact Ar.1) (State.isArrayOf_alike hZ.alike Ar.2.1) Ar.2.2 (by rw [sz]; exact q1) (by rw [q2]; exact H i hi) (g := mkF m pc L (.int j :: .ref a :: S)) rfl rfl (hb hby hd) t k) K
theorem g_baload (X : St p l e R s m args below meth c n0 T h cells slots) (hx : p.tables.exec = Jvm.exec) (hby : c.code = bs) (hZ : Z.Warmed39 s.vm) {a : Addr} {k i : Nat} {f : Nat → Value} {j : Int32} {v : Value} (A : Ary Z h a .byte k f) (hj : j.toInt = (i : Int)) (hi : i < k) (hv : f i = v) (hd : decode bs pc = .ok (.baload, 1)) (hp : pc + 1 = pc') (K : Gl p e below n0 Φ Q (T.setTop (mkF m pc' L (v :: S)))) : Gl p e below n0 Φ Q (T.setTop (mkF m pc L (.int j :: .ref a :: S))) := by
  obtain ⟨locs, Y, eT, -⟩ := X; subst hp hv
  obtain ⟨cl, Ar, sz, H⟩ := A
  obtain ⟨q1, q2⟩ := own_in (k := k) hj hi
  exact Gl.st (fun t k => Y.baloadBytes hx (by rw [eT]; exact Ar.1) (State.isArrayOf_alike hZ.alike Ar.2.1) Ar.2.2 (by rw [sz]; exact q1) (by rw [q2]; exact H i hi) (g := mkF m pc L (.int j :: .ref a :: S)) rfl rfl (hb hby hd) t k) K
theorem g_zaload (X : St p l e R s m args below meth c n0 T h cells slots) (hx : p.tables.exec = Jvm.exec) (hby : c.code = bs) (hZ : Z.Warmed39 s.vm) {a : Addr} {k i : Nat} {f : Nat → Value} {j : Int32} {v : Value} (A : Ary Z h a .boolean k f) (hj : j.toInt = (i : Int)) (hi : i < k) (hv : f i = v) (hd : decode bs pc = .ok (.baload, 1)) (hp : pc + 1 = pc') (K : Gl p e below n0 Φ Q (T.setTop (mkF m pc' L (v :: S)))) : Gl p e below n0 Φ Q (T.setTop (mkF m pc L (.int j :: .ref a :: S))) := by
  obtain ⟨locs, Y, eT, -⟩ := X; subst hp hv
  obtain ⟨cl, Ar, sz, H⟩ := A
  obtain ⟨q1, q2⟩ := own_in (k := k) hj hi
  exact Gl.st (fun t k => Y.baloadBooleans hx (by rw [eT]; exact Ar.1) (State.isArrayOf_alike hZ.alike Ar.2.1) Ar.2.2 (by rw [sz]; exact q1) (by rw [q2]; exact H i hi) (g := mkF m pc L (.int j :: .ref a :: S)) rfl rfl (hb hby hd) t k) K
theorem g_aaload (X : St p l e R s m args below meth c n0 T h cells slots) (hx : p.tables.exec = Jvm.exec) (hby : c.code = bs) (hZ : Z.Warmed39 s.vm) {a : Addr} {k i : Nat} {f : Nat → Value} {j : Int32} {v : Value} {ty : FieldType} (A : Ary Z h a ty k f) (hty : ty.isReference = true) (hj : j.toInt = (i : Int)) (hi : i < k) (hv : f i = v) (hd : decode bs pc = .ok (.aaload, 1)) (hp : pc + 1 = pc') (K : Gl p e below n0 Φ Q (T.setTop (mkF m pc' L (v :: S)))) : Gl p e below n0 Φ Q (T.setTop (mkF m pc L (.int j :: .ref a :: S))) := by
  obtain ⟨locs, Y, eT, -⟩ := X; subst hp hv
  obtain ⟨cl, Ar, sz, H⟩ := A
  obtain ⟨q1, q2⟩ := own_in (k := k) hj hi
  exact Gl.st (fun t k => Y.aaload hx (by rw [eT]; exact Ar.1) (State.isArrayOf_alike hZ.alike Ar.2.1) hty Ar.2.2 (by rw [sz]; exact q1) (by rw [q2]; exact H i hi) (g := mkF m pc L (.int j :: .ref a :: S)) rfl rfl (hb hby hd) t k) K
theorem g_iastore (X : St p l e R s m args below meth c n0 T h cells slots) (hx : p.tables.exec = Jvm.exec) (hby : c.code = bs) (hZ : Z.Warmed39 s.vm) {a : Addr} {k i : Nat} {f : Nat → Value} {j : Int32} {x : Int32} (A : Ary Z h a .int k f) (hj : j.toInt = (i : Int)) (hi : i < k) (hn0 : n0 ≤ a) (hd : decode bs pc = .ok (.iastore, 1)) (hp : pc + 1 = pc') (K : ∀ T' h' sl0, St p l e R s m args below meth c n0 T' h' cells slots → Wr h h' a sl0 (.int x) → Ary Z h' a .int k (own_upd f i (.int x)) → Gl p e below n0 Φ Q (T'.setTop (mkF m pc' L S))) : Gl p e below n0 Φ Q (T.setTop (mkF m pc L (.int x :: .int j :: .ref a :: S))) := by
  obtain ⟨locs, Y, eT, N⟩ := X; subst hp
  obtain ⟨cl, Ar, sz, H⟩ := A
  obtain ⟨q1, q2⟩ := own_in (k := k) hj hi
  obtain ⟨T', h', Y', e', W, st⟩ := stI Y hx hZ eT Ar (j := j) (by rw [sz]; exact q1) (g := mkF m pc L (.int x :: .int j :: .ref a :: S)) rfl rfl (hb hby hd)
  exact Gl.st st (K T' h' _ ⟨_, Y', e', Fr.snoc Y' N hn0⟩ W (Ary.same Ar sz H (q2 ▸ W)))
theorem g_lastore (X : St p l e R s m args below meth c n0 T h cells slots) (hx : p.tables.exec = Jvm.exec) (hby : c.code = bs) (hZ : Z.Warmed39 s.vm) {a : Addr} {k i : Nat} {f : Nat → Value} {j : Int32} {x : Int64} (A : Ary Z h a .long k f) (hj : j.toInt = (i : Int)) (hi : i < k) (hn0 : n0 ≤ a) (hd : decode bs pc = .ok (.lastore, 1)) (hp : pc + 1 = pc') (K : ∀ T' h' sl0, St p l e R s m args below meth c n0 T' h' cells slots → Wr h h' a sl0 (.long x) → Ary Z h' a .long k (own_upd f i (.long x)) → Gl p e below n0 Φ Q (T'.setTop (mkF m pc' L S))) : Gl p e below n0 Φ Q (T.setTop (mkF m pc L (.long x :: .int j :: .ref a :: S))) := by
  obtain ⟨locs, Y, eT, N⟩ := X; subst hp
  obtain ⟨cl, Ar, sz, H⟩ := A
  obtain ⟨q1, q2⟩ := own_in (k := k) hj hi
  obtain ⟨T', h', Y', e', W, st⟩ := stJ Y hx hZ eT Ar (j := j) (by rw [sz]; exact q1) (g := mkF m pc L (.long x :: .int j :: .ref a :: S)) rfl rfl (hb hby hd)
  exact Gl.st st (K T' h' _ ⟨_, Y', e', Fr.snoc Y' N hn0⟩ W (Ary.same Ar sz H (q2 ▸ W)))
theorem g_bastore (X : St p l e R s m args below meth c n0 T h cells slots) (hx : p.tables.exec = Jvm.exec) (hby : c.code = bs) (hZ : Z.Warmed39 s.vm) {a : Addr} {k i : Nat} {f : Nat → Value} {j : Int32} {x : Int32} (A : Ary Z h a .byte k f) (hj : j.toInt = (i : Int)) (hi : i < k) (hn0 : n0 ≤ a) (hd : decode bs pc = .ok (.bastore, 1)) (hp : pc + 1 = pc') (K : ∀ T' h' sl0, St p l e R s m args below meth c n0 T' h' cells slots → Wr h h' a sl0 (.int (nar .byte x)) → Ary Z h' a .byte k (own_upd f i (.int (nar .byte x))) → Gl p e below n0 Φ Q (T'.setTop (mkF m pc' L S))) : Gl p e below n0 Φ Q (T.setTop (mkF m pc L (.int x :: .int j :: .ref a :: S))) := by
  obtain ⟨locs, Y, eT, N⟩ := X; subst hp
  obtain ⟨cl, Ar, sz, H⟩ := A
  obtain ⟨q1, q2⟩ := own_in (k := k) hj hi
  obtain ⟨T', h', Y', e', W, st⟩ := stB Y hx hZ eT Ar (j := j) (by rw [sz]; exact q1) (g := mkF m pc L (.int x :: .int j :: .ref a :: S)) rfl rfl (hb hby hd)
  exact Gl.st st (K T' h' _ ⟨_, Y', e', Fr.snoc Y' N hn0⟩ W (Ary.same Ar sz H (q2 ▸ W)))
theorem g_zastore (X : St p l e R s m args below meth c n0 T h cells slots) (hx : p.tables.exec = Jvm.exec) (hby : c.code = bs) (hZ : Z.Warmed39 s.vm) {a : Addr} {k i : Nat} {f : Nat → Value} {j : Int32} {x : Int32} (A : Ary Z h a .boolean k f) (hj : j.toInt = (i : Int)) (hi : i < k) (hn0 : n0 ≤ a) (hd : decode bs pc = .ok (.bastore, 1)) (hp : pc + 1 = pc') (K : ∀ T' h' sl0, St p l e R s m args below meth c n0 T' h' cells slots → Wr h h' a sl0 (.int (nar .boolean x)) → Ary Z h' a .boolean k (own_upd f i (.int (nar .boolean x))) → Gl p e below n0 Φ Q (T'.setTop (mkF m pc' L S))) : Gl p e below n0 Φ Q (T.setTop (mkF m pc L (.int x :: .int j :: .ref a :: S))) := by
  obtain ⟨locs, Y, eT, N⟩ := X; subst hp
  obtain ⟨cl, Ar, sz, H⟩ := A
  obtain ⟨q1, q2⟩ := own_in (k := k) hj hi
  obtain ⟨T', h', Y', e', W, st⟩ := stZ Y hx hZ eT Ar (j := j) (by rw [sz]; exact q1) (g := mkF m pc L (.int x :: .int j :: .ref a :: S)) rfl rfl (hb hby hd)
  exact Gl.st st (K T' h' _ ⟨_, Y', e', Fr.snoc Y' N hn0⟩ W (Ary.same Ar sz H (q2 ▸ W)))
theorem g_castore (X : St p l e R s m args below meth c n0 T h cells slots) (hx : p.tables.exec = Jvm.exec) (hby : c.code = bs) (hZ : Z.Warmed39 s.vm) {a : Addr} {k i : Nat} {f : Nat → Value} {j : Int32} {x : Int32} (A : Ary Z h a .char k f) (hj : j.toInt = (i : Int)) (hi : i < k) (hn0 : n0 ≤ a) (hd : decode bs pc = .ok (.castore, 1)) (hp : pc + 1 = pc') (K : ∀ T' h' sl0, St p l e R s m args below meth c n0 T' h' cells slots → Wr h h' a sl0 (.int (nar .char x)) → Ary Z h' a .char k (own_upd f i (.int (nar .char x))) → Gl p e below n0 Φ Q (T'.setTop (mkF m pc' L S))) : Gl p e below n0 Φ Q (T.setTop (mkF m pc L (.int x :: .int j :: .ref a :: S))) := by
  obtain ⟨locs, Y, eT, N⟩ := X; subst hp
  obtain ⟨cl, Ar, sz, H⟩ := A
  obtain ⟨q1, q2⟩ := own_in (k := k) hj hi
  obtain ⟨T', h', Y', e', W, st⟩ := stC Y hx hZ eT Ar (j := j) (by rw [sz]; exact q1) (g := mkF m pc L (.int x :: .int j :: .ref a :: S)) rfl rfl (hb hby hd)
  exact Gl.st st (K T' h' _ ⟨_, Y', e', Fr.snoc Y' N hn0⟩ W (Ary.same Ar sz H (q2 ▸ W)))
theorem g_aastore (X : St p l e R s m args below meth c n0 T h cells slots) (hx : p.tables.exec = Jvm.exec) (hby : c.code = bs) (hZ : Z.Warmed39 s.vm) {a : Addr} {k i : Nat} {f : Nat → Value} {j : Int32} {v : Value} {ty : FieldType} (A : Ary Z h a ty k f) (hty : ty.isReference = true) (St0 : Sto Z h a v) (hj : j.toInt = (i : Int)) (hi : i < k) (hn0 : n0 ≤ a) (hd : decode bs pc = .ok (.aastore, 1)) (hp : pc + 1 = pc') (K : ∀ T' h' sl0, St p l e R s m args below meth c n0 T' h' cells slots → Wr h h' a sl0 v → Ary Z h' a ty k (own_upd f i v) → Gl p e below n0 Φ Q (T'.setTop (mkF m pc' L S))) : Gl p e below n0 Φ Q (T.setTop (mkF m pc L (v :: .int j :: .ref a :: S))) := by
  obtain ⟨locs, Y, eT, N⟩ := X; subst hp
  obtain ⟨cl, Ar, sz, H⟩ := A
  obtain ⟨q1, q2⟩ := own_in (k := k) hj hi
  obtain ⟨T', h', Y', e', W, st⟩ := stR Y hx hZ eT Ar (j := j) (by rw [sz]; exact q1) hty St0 (g := mkF m pc L (v :: .int j :: .ref a :: S)) rfl rfl (hb hby hd)
  exact Gl.st st (K T' h' _ ⟨_, Y', e', Fr.snoc Y' N hn0⟩ W (Ary.same Ar sz H (q2 ▸ W)))
theorem g_instY (X : St p l e R s m args below meth c n0 T h cells slots) (hx : p.tables.exec = Jvm.exec) (hby : c.code = bs) (hZ : Z.Warmed39 s.vm) {own K : String} {index : Nat} {a : Addr} (hown : s.vm.findClass own = some m.cls) (w : (Cond.classLink own index K).before a0 Z = true) (I : Ins Z h a K true) (hd : decode bs pc = .ok (.instanceof index, 3)) (hp : pc + 3 = pc') (K1 : ∀ T', St p l e R s m args below meth c n0 T' h cells slots → Gl p e below n0 Φ Q (T'.setTop (mkF m pc' L (.int 1 :: S)))) : Gl p e below n0 Φ Q (T.setTop (mkF m pc L (.ref a :: S))) := by
  obtain ⟨locs, Y, eT, N⟩ := X; subst hp
  obtain ⟨T', Y', e', st⟩ := instY Y hx hZ hown w eT I (g := mkF m pc L (.ref a :: S)) rfl rfl (hb hby hd)
  exact Gl.st st (K1 T' ⟨locs, Y', e', N⟩)
theorem g_castY (X : St p l e R s m args below meth c n0 T h cells slots) (hx : p.tables.exec = Jvm.exec) (hby : c.code = bs) (hZ : Z.Warmed39 s.vm) {own K : String} {index : Nat} {a : Addr} (hown : s.vm.findClass own = some m.cls) (w : (Cond.classLink own index K).before a0 Z = true) (I : Ins Z h a K true) (hd : decode bs pc = .ok (.checkcast index, 3)) (hp : pc + 3 = pc') (K1 : ∀ T', St p l e R s m args below meth c n0 T' h cells slots → Gl p e below n0 Φ Q (T'.setTop (mkF m pc' L (.ref a :: S)))) : Gl p e below n0 Φ Q (T.setTop (mkF m pc L (.ref a :: S))) := by
  obtain ⟨locs, Y, eT, N⟩ := X; subst hp
  obtain ⟨T', Y', e', st⟩ := castY Y hx hZ hown w eT I (g := mkF m pc L (.ref a :: S)) rfl rfl (hb hby hd)
  exact Gl.st st (K1 T' ⟨locs, Y', e', N⟩)
theorem g_instNo (X : St p l e R s m args below meth c n0 T h cells slots) (hx : p.tables.exec = Jvm.exec) (hby : c.code = bs) (hZ : Z.Warmed39 s.vm) {own K C : String} {index : Nat} {a : Addr} (hown : s.vm.findClass own = some m.cls) (w : (Cond.classLink own index K).before a0 Z = true) (E : Exa Z h a C) (I : ∃ c t, Z.vm.findClass C = some c ∧ Z.vm.findClass K = some t ∧ Z.vm.assignable c t = false) (hd : decode bs pc = .ok (.instanceof index, 3)) (hp : pc + 3 = pc') (K1 : ∀ T', St p l e R s m args below meth c n0 T' h cells slots → Gl p e below n0 Φ Q (T'.setTop (mkF m pc' L (.int 0 :: S)))) : Gl p e below n0 Φ Q (T.setTop (mkF m pc L (.ref a :: S))) := by
  obtain ⟨locs, Y, eT, N⟩ := X; subst hp
  obtain ⟨T', Y', e', st⟩ := instNo Y hx hZ hown w eT E I (g := mkF m pc L (.ref a :: S)) rfl rfl (hb hby hd)
  exact Gl.st st (K1 T' ⟨locs, Y', e', N⟩)
theorem g_instNull (X : St p l e R s m args below meth c n0 T h cells slots) (hx : p.tables.exec = Jvm.exec) (hby : c.code = bs) {index : Nat} (hd : decode bs pc = .ok (.instanceof index, 3)) (hp : pc + 3 = pc') (K1 : Gl p e below n0 Φ Q (T.setTop (mkF m pc' L (.int 0 :: S)))) : Gl p e below n0 Φ Q (T.setTop (mkF m pc L (.null :: S))) := by
  obtain ⟨locs, Y, eT, N⟩ := X; subst hp
  exact Gl.st (fun t k => Y.instanceofNull hx (g := mkF m pc L (.null :: S)) rfl rfl (hb hby hd) t k) K1
theorem g_initO (X : St p l e R s m args below meth c n0 T h cells slots) (hx : p.tables.exec = Jvm.exec) (hby : c.code = bs) (hZ : Z.Warmed39 s.vm) {own : String} {idx W : Nat} {a : Addr} (hown : s.vm.findClass own = some m.cls) (w1 : (Cond.methodLink own idx Lib.objectInit).before a0 Z = true) (w2 : (Cond.instanceMethod Lib.objectInit).before a0 Z = true) (w3 : (Cond.code Lib.objectInit ⟨#[0xb1]⟩ 1 none).before a0 Z = true) (hsz : L.size = c.maxLocals) (hd : decode bs pc = .ok (.invokespecial idx, 3)) (hf : 1 ≤ R.frames) (hW : 2 * 0 + (S.map fun v => v.category).sum ≤ W) (hlo : W + 12 ≤ R.locals) (hp : pc + 3 = pc') (K : ∀ T', St p l e R s m args below meth c n0 T' h cells slots → Gl p e below n0 Φ Q (T'.setTop (mkF m pc' L S))) : Gl p e below n0 Φ Q (T.setTop (mkF m pc L (.ref a :: S))) := by
  obtain ⟨locs, Y, eT, N⟩ := X; subst hp
  obtain ⟨T', Y', e', st⟩ := initO Y hx hZ hown w1 w2 w3 eT (g := mkF m pc L (.ref a :: S)) rfl hsz rfl (hb hby hd) hf (W := W) hW hlo
  exact Gl.st st (K T' ⟨locs, Y', e', N⟩)
theorem g_callS (X : St p l e R s m args below meth c n0 T h cells slots) (hx : p.tables.exec = Jvm.exec) (hby : c.code = bs) (hZ : Z.Warmed39 s.vm) {rm : Room} {y : MethodName} {bytes : ByteArray} {maxL : Nat} {ret : Option FieldType} {Qc : Option Value → Heap → Prop} {own : String} {idx : Nat} {argsL S0 : List Value} (hown : s.vm.findClass own = some m.cls) (w1 : (Cond.methodLink own idx y).before a0 Z = true) (w2 : (Cond.static y).before a0 Z = true) (w3 : (Cond.initialized y.cls).before a0 Z = true) (w4 : (Cond.code y bytes maxL ret).before a0 Z = true) (hy : y.cls ≠ "java/lang/invoke/MethodHandle" ∧ y.cls ≠ "java/lang/invoke/VarHandle") (hM : Ctr l Z y bytes maxL ret [] rm argsL.toArray h n0 rm.cells rm.slots Qc) (hsz : L.size = c.maxLocals) (hlen : ∀ sig, parseMethodDescriptor y.desc = some sig → argsL.length = sig.parameters.length) (hst : S0 = argsL.reverse ++ S) (hd : decode bs pc = .ok (.invokestatic idx, 3)) (hf : rm.frames + 1 ≤ R.frames) {W : Nat} (hW : 2 * 0 + (S.map fun v => v.category).sum ≤ W) (hlo : W + (maxL + 11) + rm.locals ≤ R.locals) (hc : cells + rm.cells ≤ R.cells) (hs : slots + rm.slots ≤ R.slots) (hp : pc + 3 = pc') (K : ∀ T' v, St p l e R s m args below meth c n0 T' T'.heap (cells + rm.cells) (slots + rm.slots) → Qc v T'.heap → Gl p e below n0 Φ Q (T'.setTop (mkF m pc' L (v.toList ++ S)))) : Gl p e below n0 Φ Q (T.setTop (mkF m pc L S0)) := by
  obtain ⟨locs, Y, eT, N⟩ := X; subst hp
  obtain ⟨v, _, ⟨T', L1, k1, n1⟩, -, Y', ⟨Lc, hQ, l1, y1, z1⟩, st⟩ := Jvm.LawKit.callS Y hx (y := y) hown (mvT hZ w1) (mvT hZ w2) (mvT hZ w3) (mvT hZ w4) hy (backOf (W := W) (Q := fun v h L => Qc v h ∧ Fr n0 L) hM hZ w4 w3 hf hlo) (g := mkF m pc L S0) rfl hsz (argsL := argsL) (rest := S) hlen hst hW (hb hby hd) (fun _ _ => ⟨rfl, eT, hc, hs⟩)
  dsimp only [Pt.U, Pt.locs, Pt.cells, Pt.slots] at Y' l1 y1 z1 st hQ
  subst l1 y1 z1
  exact Gl.st (st) (K T' v ⟨_, Y', rfl, Fr.app N hQ.2⟩ hQ.1)
theorem g_callC (X : St p l e R s m args below meth c n0 T h cells slots) (hx : p.tables.exec = Jvm.exec) (hby : c.code = bs) (hZ : Z.Warmed39 s.vm) {rm : Room} {y : MethodName} {bytes : ByteArray} {maxL : Nat} {Qc : Option Value → Heap → Prop} {own : String} {idx : Nat} {a : Addr} {argsL S0 : List Value} (hy1 : y.name = "<init>") (hown : s.vm.findClass own = some m.cls) (w1 : (Cond.methodLink own idx y).before a0 Z = true) (w2 : (Cond.instanceMethod y).before a0 Z = true) (w3 : (Cond.initialized y.cls).before a0 Z = true) (w4 : (Cond.code y bytes maxL none).before a0 Z = true) (hy : y.cls ≠ "java/lang/invoke/MethodHandle" ∧ y.cls ≠ "java/lang/invoke/VarHandle") (hM : Ctr l Z y bytes maxL none [] rm (.ref a :: argsL).toArray h n0 rm.cells rm.slots Qc) (hsz : L.size = c.maxLocals) (hlen : ∀ sig, parseMethodDescriptor y.desc = some sig → argsL.length = sig.parameters.length) (hst : S0 = argsL.reverse ++ .ref a :: S) (hd : decode bs pc = .ok (.invokespecial idx, 3)) (hf : rm.frames + 1 ≤ R.frames) {W : Nat} (hW : 2 * 0 + (S.map fun v => v.category).sum ≤ W) (hlo : W + (maxL + 11) + rm.locals ≤ R.locals) (hc : cells + rm.cells ≤ R.cells) (hs : slots + rm.slots ≤ R.slots) (hp : pc + 3 = pc') (K : ∀ T' v, St p l e R s m args below meth c n0 T' T'.heap (cells + rm.cells) (slots + rm.slots) → Qc v T'.heap → Gl p e below n0 Φ Q (T'.setTop (mkF m pc' L (v.toList ++ S)))) : Gl p e below n0 Φ Q (T.setTop (mkF m pc L S0)) := by
  obtain ⟨locs, Y, eT, N⟩ := X; subst hp
  obtain ⟨v, _, ⟨T', L1, k1, n1⟩, -, Y', ⟨Lc, hQ, l1, y1, z1⟩, st⟩ := Y.specialBack hx (y := y) hy1 hown (mvT hZ w1) (mvT hZ w2) (mvT hZ w4) hy (backOf (W := W) (Q := fun v h L => Qc v h ∧ Fr n0 L) hM hZ w4 w3 hf hlo) (g := mkF m pc L S0) rfl hsz (Steps.refl _) (a := a) (argsL := argsL) (rest := S) hlen hst hW (hb hby hd) (fun _ _ => ⟨rfl, eT, hc, hs⟩)
  dsimp only [Pt.U, Pt.locs, Pt.cells, Pt.slots] at Y' l1 y1 z1 st hQ
  subst l1 y1 z1
  exact Gl.st (fun t k => st.trans k) (K T' v ⟨_, Y', rfl, Fr.app N hQ.2⟩ hQ.1)
theorem g_callV (X : St p l e R s m args below meth c n0 T h cells slots) (hx : p.tables.exec = Jvm.exec) (hby : c.code = bs) (hZ : Z.Warmed39 s.vm) {rm : Room} {y : MethodName} {bytes : ByteArray} {maxL : Nat} {ret : Option FieldType} {Qc : Option Value → Heap → Prop} {own C : String} {idx : Nat} {a : Addr} {y' : MethodName} {argsL S0 : List Value} (hown : s.vm.findClass own = some m.cls) (w1 : (Cond.methodLink own idx y').before a0 Z = true) (w2 : (Cond.declares y').before a0 Z = true) (w5 : NotFace s y') (w6 : (Cond.selects C y' y).before a0 Z = true) (w7 : (Cond.instanceMethod y).before a0 Z = true) (w3 : (Cond.initialized y.cls).before a0 Z = true) (w4 : (Cond.code y bytes maxL ret).before a0 Z = true) (hy : y'.cls ≠ "java/lang/invoke/MethodHandle" ∧ y'.cls ≠ "java/lang/invoke/VarHandle") (E : Exa Z h a C) (hM : Ctr l Z y bytes maxL ret [] rm (.ref a :: argsL).toArray h n0 rm.cells rm.slots Qc) (hsz : L.size = c.maxLocals) (hlen : ∀ sig, parseMethodDescriptor y'.desc = some sig → argsL.length = sig.parameters.length) (hst : S0 = argsL.reverse ++ .ref a :: S) (hd : decode bs pc = .ok (.invokevirtual idx, 3)) (hf : rm.frames + 1 ≤ R.frames) {W : Nat} (hW : 2 * 0 + (S.map fun v => v.category).sum ≤ W) (hlo : W + (maxL + 11) + rm.locals ≤ R.locals) (hc : cells + rm.cells ≤ R.cells) (hs : slots + rm.slots ≤ R.slots) (hp : pc + 3 = pc') (K : ∀ T' v, St p l e R s m args below meth c n0 T' T'.heap (cells + rm.cells) (slots + rm.slots) → Qc v T'.heap → Gl p e below n0 Φ Q (T'.setTop (mkF m pc' L (v.toList ++ S)))) : Gl p e below n0 Φ Q (T.setTop (mkF m pc L S0)) := by
  obtain ⟨locs, Y, eT, N⟩ := X; subst hp
  obtain ⟨cB, kB, qa, qb, qc⟩ := isOf hZ eT E
  obtain ⟨v, _, ⟨T', L1, k1, n1⟩, -, Y', ⟨Lc, hQ, l1, y1, z1⟩, st⟩ := Y.virtualBack hx (y := y') (z := y) hown (mvT hZ w1) (mvT hZ w2) w5 (mvT hZ w6) (mvT hZ w7) hy (backOf (W := W) (Q := fun v h L => Qc v h ∧ Fr n0 L) hM hZ w4 w3 hf hlo) qa qc (g := mkF m pc L S0) rfl hsz (Steps.refl _) (argsL := argsL) (rest := S) hlen hst hW (hb hby hd) (fun _ _ => ⟨rfl, eT, hc, hs⟩)
  dsimp only [Pt.U, Pt.locs, Pt.cells, Pt.slots] at Y' l1 y1 z1 st hQ
  subst l1 y1 z1
  exact Gl.st (fun t k => st.trans k) (K T' v ⟨_, Y', rfl, Fr.app N hQ.2⟩ hQ.1)
end OwnSteps
abbrev own_room (f c s l : Nat) : Room := { frames := f, cells := c, slots := s, locals := l }
def Str (Z : State) (h : Heap) (b : Addr) (x : Int32) : Prop := ∃ a' : Addr, Exa Z h b "java/lang/String" ∧ Fld Z h b "java/lang/String" "value" "[B" (.ref a') ∧ Fld Z h b "java/lang/String" "coder" "B" (.int 0) ∧ Ary Z h a' .byte 1 (fun _ => .int x)
section OwnStr
variable {Z : State} {h h' : Heap} {a b : Addr} {x x' : Int32} {ws : List Addr} {a0 : Array Value}
theorem Str.exa (F : Str Z h b x) : Exa Z h b "java/lang/String" := by obtain ⟨_, E, -⟩ := F; exact E
theorem Str.ext (F : Str Z h b x) (E : Ext h h') : Str Z h' b x := by obtain ⟨a, f1, f2, f3, f4⟩ := F; exact ⟨a, f1.ext E, f2.ext E, f3.ext E, f4.ext E⟩
theorem Str.keep0 (F : Str Z h b x) (K : Keep h h' []) : Str Z h' b x := by obtain ⟨a, f1, f2, f3, f4⟩ := F; exact ⟨a, f1.keep K, f2.keep K nin0, f3.keep K nin0, f4.keep K nin0⟩
theorem Str.keep1 {C : String} {k : Nat} (F : Str Z h b x) (K : Keep h h' [a]) (E : Exa Z h a C) (wi : (Cond.instantiable C k).before a0 Z = true) (hC : "java/lang/String" ≠ C) : Str Z h' b x := by
  obtain ⟨a', f1, f2, f3, f4⟩ := F
  have q := ninS (ne_exa f1 E hC) (nin0 (x := b))
  obtain ⟨cl, A, r⟩ := f4
  have q' := ninS (Ne.symm (ne_arr E wi A)) (nin0 (x := a'))
  exact ⟨a', f1.keep K, f2.keep K q, f3.keep K q, Ary.keep ⟨cl, A, r⟩ K q'⟩
theorem Ary.inj {ty : FieldType} {n : Nat} {f g : Nat → Value} (F : Ary Z h a ty n f) (G : Ary Z h a ty n g) : ∀ i, i < n → f i = g i := fun i hi => by
  obtain ⟨c1, A1, s1, H1⟩ := F
  obtain ⟨c2, A2, s2, H2⟩ := G
  cases A1.1.symm.trans A2.1
  exact Option.some.inj ((H1 i hi).symm.trans (H2 i hi))
theorem Str.inj (F : Str Z h b x) (G : Str Z h b x') : x = x' := by
  obtain ⟨a1, -, f2, -, f4⟩ := F
  obtain ⟨a2, -, g2, -, g4⟩ := G
  cases own_fld_inj f2 g2
  cases Ary.inj f4 g4 0 (by decide)
  rfl
end OwnStr
theorem own_ary1 {Z : State} {h : Heap} {a : Addr} {ty : FieldType} {f : Nat → Value} {v : Value} (F : Ary Z h a ty 1 f) (e : f 0 = v) : Ary Z h a ty 1 (fun _ => v) := F.congr fun i hi => by
  have : i = 0 := by omega
  subst this; exact e
def own_y (c : Int32) : Int32 := nar .byte c.toInt8.toInt32
def own_e (x y : Int32) : Int32 := if x = y then 1 else 0
theorem own_e1 {x y : Int32} (q : ¬ own_e x y = 0) : own_e x y = 1 := by unfold own_e at *; split at q <;> simp_all
theorem own_b8 (x : Int32) : nar .byte (nar .byte x) = nar .byte x := by show x.toInt8.toInt32.toInt8.toInt32 = x.toInt8.toInt32; rw [Int8.toInt8_toInt32]
theorem own_y_inj {c d : Int32} (hc : 0 ≤ c.toInt ∧ c.toInt ≤ 255) (hd : 0 ≤ d.toInt ∧ d.toInt ≤ 255) (q : own_y c = own_y d) : c = d := by
  have e1 : own_y c = c.toInt8.toInt32 := own_b8 c
  have e2 : own_y d = d.toInt8.toInt32 := own_b8 d
  rw [e1, e2] at q
  have f1 := c_i2b c; have f2 := c_i2b d
  rw [q] at f1
  exact Int32.toInt_inj.mp (by omega)
set_option maxRecDepth 65536 in
set_option maxHeartbeats 40000000 in
theorem own_ef1 (m : MethodId) (y0 : Int32)  : entryFrame m #[(.int y0)] 1 = mkF m 0 #[.val (.int y0)] [] := by first | (simp [entryFrame, mkF, argsToLocals, Value.category, maxLocals]; done) | rfl
theorem own_pn0 : plainName "java/lang/StringLatin1" = true := by first | (simp [plainName, overriddenIn]; done) | decide +kernel
theorem own_d0_0 : decode jdk_43_method_3_code 0 = .ok (.iload_n 0, 1) := by decide +kernel
theorem own_d0_1 : decode jdk_43_method_3_code 1 = .ok (.sipush 255, 3) := by decide +kernel
theorem own_d0_4 : decode jdk_43_method_3_code 4 = .ok (.if_icmp .gt 7, 3) := by decide +kernel
theorem own_d0_7 : decode jdk_43_method_3_code 7 = .ok (.iconst 1, 1) := by decide +kernel
theorem own_d0_8 : decode jdk_43_method_3_code 8 = .ok (.goto 4, 3) := by decide +kernel
theorem own_d0_12 : decode jdk_43_method_3_code 12 = .ok (.ireturn, 1) := by decide +kernel
set_option maxRecDepth 65536 in
set_option maxHeartbeats 40000000 in
theorem own_ce (l : Launch) (Z : State) (a0 : Array Value) (hw : ∀ d ∈ tables_1, d.before a0 Z = true) (y0 : Int32) (h0 : Heap) (n0 : Nat) (hc : ¬ (255 : Int32) < y0) :
    Ctr l Z (⟨"java/lang/StringLatin1", "canEncode", "(C)Z"⟩ : MethodName) jdk_43_method_3_code 1 (some .boolean) [] (own_room 0 0 0 0) #[(.int y0)] h0 n0 0 0 (fun v h => v = some (.int 1) ∧ h = h0) := by
  refine Ctr.of (plainFor_of_name own_pn0) ?_
  intro p e s m below meth c T0 hx hby hml hret hlk hnm hown hZ X0
  rw [own_ef1 m (y0)]
  refine g_iloadN X0 hx hby own_d0_0 rfl (pc' := 1) rfl ?_
  refine g_sipush (v := 255) X0 hx hby own_d0_1 rfl (pc' := 4) rfl ?_
  refine g_icmp_gt X0 hx hby own_d0_4 (by decide) (pc' := 11) (by decide) (pc2 := 7) rfl (fun q => absurd q hc) (fun c4_2 => ?_)
  refine g_iconst (v := 1) X0 hx hby own_d0_7 rfl (pc' := 8) rfl ?_
  refine g_goto X0 hx hby own_d0_8 (by decide) (pc' := 12) (by decide) ?_
  exact g_retN X0 hx hby hret hlk (by simp) own_d0_12 ⟨rfl, rfl⟩ (by decide) (by decide)
set_option maxRecDepth 65536 in
set_option maxHeartbeats 40000000 in
theorem own_ef3 (m : MethodId) (y0 : Int32)  : entryFrame m #[(.int y0)] 1 = mkF m 0 #[.val (.int y0)] [] := by first | (simp [entryFrame, mkF, argsToLocals, Value.category, maxLocals]; done) | rfl
theorem own_d1_0 : decode jdk_43_method_46_code 0 = .ok (.iconst 1, 1) := by decide +kernel
theorem own_d1_1 : decode jdk_43_method_46_code 1 = .ok (.newarray .byte, 2) := by decide +kernel
theorem own_d1_3 : decode jdk_43_method_46_code 3 = .ok (.dup, 1) := by decide +kernel
theorem own_d1_4 : decode jdk_43_method_46_code 4 = .ok (.iconst 0, 1) := by decide +kernel
theorem own_d1_5 : decode jdk_43_method_46_code 5 = .ok (.iload_n 0, 1) := by decide +kernel
theorem own_d1_6 : decode jdk_43_method_46_code 6 = .ok (.i2b, 1) := by decide +kernel
theorem own_d1_7 : decode jdk_43_method_46_code 7 = .ok (.bastore, 1) := by decide +kernel
theorem own_d1_8 : decode jdk_43_method_46_code 8 = .ok (.areturn, 1) := by decide +kernel
set_option maxRecDepth 65536 in
set_option maxHeartbeats 40000000 in
theorem own_tb (l : Launch) (Z : State) (a0 : Array Value) (hw : ∀ d ∈ tables_1, d.before a0 Z = true) (y0 : Int32) (h0 : Heap) (n0 : Nat) (Z0 : n0 ≤ h0.size) :
    Ctr l Z (⟨"java/lang/StringLatin1", "toBytes", "(C)[B"⟩ : MethodName) jdk_43_method_46_code 1 (some (.array .byte)) [] (own_room 0 1 1 0) #[(.int y0)] h0 n0 1 1 (fun v h => ∃ b, v = some (.ref b) ∧ Keep h0 h [] ∧ h0.size ≤ b ∧ Ary Z h b .byte 1 (fun _ => .int (own_y y0)) ∧ n0 ≤ b) := by
  refine Ctr.of (plainFor_of_name own_pn0) ?_
  intro p e s m below meth c T0 hx hby hml hret hlk hnm hown hZ X0
  rw [own_ef3 m (y0)]
  refine g_iconst (v := 1) X0 hx hby own_d1_0 rfl (pc' := 1) rfl ?_
  refine g_newarray (k := 1) (cap := 1) X0 hx hby hZ (hw _ (List.mem_of_getElem? (i := 17) rfl)) own_d1_1 rfl (by decide) (by decide) (by decide) (by decide) (pc' := 3) rfl (fun T4 h4 b4 g4 X4 E4 A4 => ?_)
  have nn5 : n0 ≤ b4 := by rw [g4]; exact Z0
  have hh6 : h0.size ≤ b4 := by rw [g4]; exact (Keep.refl h0 []).1
  have zz7 := Nat.le_trans Z0 E4.1
  have kk8 : Keep h0 h4 [] := (Keep.refl h0 []).ext E4
  refine g_dup X4 hx hby own_d1_3 rfl (pc' := 4) rfl ?_
  refine g_iconst (v := 0) X4 hx hby own_d1_4 rfl (pc' := 5) rfl ?_
  refine g_iloadN X4 hx hby own_d1_5 rfl (pc' := 6) rfl ?_
  refine g_i2b X4 hx hby own_d1_6 (pc' := 7) rfl ?_
  refine g_bastore (i := 0) X4 hx hby hZ A4 rfl (by decide) nn5 own_d1_7 (pc' := 8) rfl (fun T9 h9 sl9 X9 W9 A9 => ?_)
  have zz10 := Nat.le_trans zz7 (Nat.le_of_eq W9.size.symm)
  have kk11 : Keep h0 h9 [] := kk8.wr W9 (Or.inr hh6)
  exact g_retA X9 hx hby hret hlk rfl rfl own_d1_8 ⟨b4, rfl, kk11, hh6, own_ary1 A9 rfl, nn5⟩ (by decide) (by decide)
set_option maxRecDepth 65536 in
set_option maxHeartbeats 40000000 in
theorem own_ef12 (m : MethodId) (y0 : Addr) (y1 : Addr) (y2 : Int32)  : entryFrame m #[(.ref y0), (.ref y1), (.int y2)] 3 = mkF m 0 #[.val (.ref y0), .val (.ref y1), .val (.int y2)] [] := by first | (simp [entryFrame, mkF, argsToLocals, Value.category, maxLocals]; done) | rfl
theorem own_pn1 : plainName "java/lang/String" = true := by first | (simp [plainName, overriddenIn]; done) | decide +kernel
theorem own_d2_0 : decode jdk_42_method_151_code 0 = .ok (.aload_n 0, 1) := by decide +kernel
theorem own_d2_1 : decode jdk_42_method_151_code 1 = .ok (.invokespecial 1, 3) := by decide +kernel
theorem own_d2_4 : decode jdk_42_method_151_code 4 = .ok (.aload_n 0, 1) := by decide +kernel
theorem own_d2_5 : decode jdk_42_method_151_code 5 = .ok (.aload_n 1, 1) := by decide +kernel
theorem own_d2_6 : decode jdk_42_method_151_code 6 = .ok (.putfield 9, 3) := by decide +kernel
theorem own_d2_9 : decode jdk_42_method_151_code 9 = .ok (.aload_n 0, 1) := by decide +kernel
theorem own_d2_10 : decode jdk_42_method_151_code 10 = .ok (.iload_n 2, 1) := by decide +kernel
theorem own_d2_11 : decode jdk_42_method_151_code 11 = .ok (.putfield 15, 3) := by decide +kernel
theorem own_d2_14 : decode jdk_42_method_151_code 14 = .ok (.return_, 1) := by decide +kernel
set_option maxRecDepth 65536 in
set_option maxHeartbeats 40000000 in
theorem own_si (l : Launch) (Z : State) (a0 : Array Value) (hw : ∀ d ∈ tables_1, d.before a0 Z = true) (y0 y1 : Addr) (h0 : Heap) (n0 : Nat) (Z0 : n0 ≤ h0.size) (Ex : Exa Z h0 y0 "java/lang/String") (F1 : Fld Z h0 y0 "java/lang/String" "value" "[B" .null) (F2 : Fld Z h0 y0 "java/lang/String" "coder" "B" (.int 0)) (gn : n0 ≤ y0) :
    Ctr l Z (⟨"java/lang/String", "<init>", "([BB)V"⟩ : MethodName) jdk_42_method_151_code 3 none [] (own_room 1 0 0 13) #[(.ref y0), (.ref y1), (.int (0 : Int32))] h0 n0 0 0 (fun v h => v = none ∧ Keep h0 h [y0] ∧ Fld Z h y0 "java/lang/String" "value" "[B" (.ref y1) ∧ Fld Z h y0 "java/lang/String" "coder" "B" (.int 0)) := by
  refine Ctr.of (plainFor_of_name own_pn1) ?_
  intro p e s m below meth c T0 hx hby hml hret hlk hnm hown hZ X0
  rw [own_ef12 m (y0) (y1) ((0 : Int32))]
  refine g_aloadN X0 hx hby own_d2_0 rfl rfl (pc' := 1) rfl ?_
  refine g_initO X0 hx hby hZ (W := 0) hown (hw _ (List.mem_of_getElem? (i := 22) rfl)) (hw _ (List.mem_of_getElem? (i := 23) rfl)) (hw _ (List.mem_of_getElem? (i := 24) rfl)) (by rw [hml]; rfl) own_d2_1 (by decide) (by exact Nat.le_of_eq rfl) (by decide) (pc' := 4) rfl (fun T13 X13 => ?_)
  refine g_aloadN X13 hx hby own_d2_4 rfl rfl (pc' := 5) rfl ?_
  refine g_aloadN X13 hx hby own_d2_5 rfl rfl (pc' := 6) rfl ?_
  refine g_putF X13 hx hby hZ hown (hw _ (List.mem_of_getElem? (i := 25) rfl)) Via.refl F1 Ex (Or.inr ⟨(hw _ (List.mem_of_getElem? (i := 26) rfl)), rfl, hnm⟩) (hw _ (List.mem_of_getElem? (i := 13) rfl)) (ty := (.array .byte)) (by decide) rfl rfl gn own_d2_6 (pc' := 9) rfl (fun T14 h14 X14 W14 => ?_)
  have q15 := Ex.wr W14
  have q16 := F1.same W14
  have q17 := F2.other W14 (Or.inr (slot_ne (Or.inr (hw _ (List.mem_of_getElem? (i := 28) rfl))) (Or.inr (hw _ (List.mem_of_getElem? (i := 26) rfl))) (by decide) (t := .byte) (t' := (.array .byte)) (by decide) (by decide)))
  have zz18 := Nat.le_trans Z0 (Nat.le_of_eq W14.size.symm)
  have kk19 : Keep h0 h14 [y0] := (Keep.refl h0 [y0]).wr W14 (Or.inl (by simp))
  refine g_aloadN X14 hx hby own_d2_9 rfl rfl (pc' := 10) rfl ?_
  refine g_iloadN X14 hx hby own_d2_10 rfl (pc' := 11) rfl ?_
  refine g_putF X14 hx hby hZ hown (hw _ (List.mem_of_getElem? (i := 27) rfl)) Via.refl q17 q15 (Or.inr ⟨(hw _ (List.mem_of_getElem? (i := 28) rfl)), rfl, hnm⟩) (hw _ (List.mem_of_getElem? (i := 13) rfl)) (ty := .byte) (by decide) rfl rfl gn own_d2_11 (pc' := 14) rfl (fun T20 h20 X20 W20 => ?_)
  have q21 := q15.wr W20
  have q22 := q16.other W20 (Or.inr (slot_ne (Or.inr (hw _ (List.mem_of_getElem? (i := 26) rfl))) (Or.inr (hw _ (List.mem_of_getElem? (i := 28) rfl))) (by decide) (t := (.array .byte)) (t' := .byte) (by decide) (by decide)))
  have q23 := q17.same W20
  have zz24 := Nat.le_trans zz18 (Nat.le_of_eq W20.size.symm)
  have kk25 : Keep h0 h20 [y0] := kk19.wr W20 (Or.inl (by simp))
  exact g_ret X20 hx hby hret hlk own_d2_14 ⟨rfl, kk25, q22, q23⟩ (by decide) (by decide)
set_option maxRecDepth 65536 in
set_option maxHeartbeats 40000000 in
theorem own_ef26 (m : MethodId) (y0 : Int32)  : entryFrame m #[(.int y0)] 1 = mkF m 0 #[.val (.int y0)] [] := by first | (simp [entryFrame, mkF, argsToLocals, Value.category, maxLocals]; done) | rfl
theorem own_d3_0 : decode jdk_42_method_139_code 0 = .ok (.getstatic 38, 3) := by decide +kernel
theorem own_d3_3 : decode jdk_42_method_139_code 3 = .ok (.ifCond .eq 23, 3) := by decide +kernel
theorem own_d3_6 : decode jdk_42_method_139_code 6 = .ok (.iload_n 0, 1) := by decide +kernel
theorem own_d3_7 : decode jdk_42_method_139_code 7 = .ok (.invokestatic 1015, 3) := by decide +kernel
theorem own_pd0 : parseMethodDescriptor "(C)Z" = some ⟨[.char], (some .boolean)⟩ := by decide +kernel
theorem own_d3_10 : decode jdk_42_method_139_code 10 = .ok (.ifCond .eq 16, 3) := by decide +kernel
theorem own_d3_13 : decode jdk_42_method_139_code 13 = .ok (.new 10, 3) := by decide +kernel
theorem own_d3_16 : decode jdk_42_method_139_code 16 = .ok (.dup, 1) := by decide +kernel
theorem own_d3_17 : decode jdk_42_method_139_code 17 = .ok (.iload_n 0, 1) := by decide +kernel
theorem own_d3_18 : decode jdk_42_method_139_code 18 = .ok (.invokestatic 1018, 3) := by decide +kernel
theorem own_pd1 : parseMethodDescriptor "(C)[B" = some ⟨[.char], (some (.array .byte))⟩ := by decide +kernel
theorem own_d3_21 : decode jdk_42_method_139_code 21 = .ok (.iconst 0, 1) := by decide +kernel
theorem own_d3_22 : decode jdk_42_method_139_code 22 = .ok (.invokespecial 209, 3) := by decide +kernel
theorem own_pd2 : parseMethodDescriptor "([BB)V" = some ⟨[(.array .byte), .byte], none⟩ := by decide +kernel
theorem own_d3_25 : decode jdk_42_method_139_code 25 = .ok (.areturn, 1) := by decide +kernel
set_option maxRecDepth 65536 in
set_option maxHeartbeats 40000000 in
theorem own_vo (l : Launch) (Z : State) (a0 : Array Value) (hw : ∀ d ∈ tables_1, d.before a0 Z = true) (y0 : Int32) (h0 : Heap) (n0 : Nat) (Z0 : n0 ≤ h0.size) (hc : ¬ (255 : Int32) < y0) (cs : Int32) (Sc : Sta Z h0 "java/lang/String" "COMPACT_STRINGS" "Z" (.int cs)) (hcs : ¬ cs = 0) :
    Ctr l Z (⟨"java/lang/String", "valueOf", "(C)Ljava/lang/String;"⟩ : MethodName) jdk_42_method_139_code 1 (some (.object "java/lang/String")) [] (own_room 2 2 5 40) #[(.int y0)] h0 n0 2 5 (fun v h => ∃ b, v = some (.ref b) ∧ Keep h0 h [] ∧ Str Z h b (own_y y0)) := by
  refine Ctr.of (plainFor_of_name own_pn1) ?_
  intro p e s m below meth c T0 hx hby hml hret hlk hnm hown hZ X0
  rw [own_ef26 m (y0)]
  refine g_getS X0 hx hby hZ hown (hw _ (List.mem_of_getElem? (i := 7) rfl)) Via.refl Sc own_d3_0 (pc' := 3) rfl (fun T27 X27 => ?_)
  refine g_if_eq X27 hx hby own_d3_3 (by decide) (pc' := 26) (by decide) (pc2 := 6) rfl (fun q => absurd q hcs) (fun c3_28 => ?_)
  refine g_iloadN X27 hx hby own_d3_6 rfl (pc' := 7) rfl ?_
  refine g_callS (argsL := [(.int y0)]) (S := []) X27 hx hby hZ (y := (⟨"java/lang/StringLatin1", "canEncode", "(C)Z"⟩ : MethodName)) hown (hw _ (List.mem_of_getElem? (i := 8) rfl)) (hw _ (List.mem_of_getElem? (i := 9) rfl)) (hw _ (List.mem_of_getElem? (i := 10) rfl)) (hw _ (List.mem_of_getElem? (i := 11) rfl)) (by decide) (own_ce l Z a0 hw y0 h0 n0 hc) (by rw [hml]; rfl) (lenOf own_pd0 rfl) rfl own_d3_7 (by decide) (W := 0) (by exact Nat.le_of_eq rfl) (by decide) (by decide) (by decide) (pc' := 10) rfl (fun T29 v29 X29 hQ29 => ?_)
  obtain ⟨rfl, e29⟩ := hQ29
  rw [e29] at X29
  show Gl p e below n0 _ _ (T29.setTop (mkF m 10 #[.val (.int y0)] [(.int (1 : Int32))]))
  refine g_if_eq X29 hx hby own_d3_10 (by decide) (pc' := 26) (by decide) (pc2 := 13) rfl (fun q => absurd q (by decide)) (fun c10_30 => ?_)
  refine g_new X29 hx hby hZ hown (hw _ (List.mem_of_getElem? (i := 12) rfl)) (hw _ (List.mem_of_getElem? (i := 13) rfl)) (hw _ (List.mem_of_getElem? (i := 5) rfl)) own_d3_13 (by decide) (by decide) (pc' := 16) rfl (fun T31 h31 b31 g31 X31 E31 A31 D31 => ?_)
  have nn32 : n0 ≤ b31 := by rw [g31]; exact Z0
  have hh33 : h0.size ≤ b31 := by rw [g31]; exact (Keep.refl h0 []).1
  have q34 := Sc.ext E31
  have zz35 := Nat.le_trans Z0 E31.1
  have kk36 : Keep h0 h31 [] := (Keep.refl h0 []).ext E31
  have q37 : Fld Z h31 b31 "java/lang/String" "value" "[B" .null := D31 (Or.inr (hw _ (List.mem_of_getElem? (i := 26) rfl))) (ty := (.array .byte)) (by decide)
  have q38 : Fld Z h31 b31 "java/lang/String" "coder" "B" (.int (0 : Int32)) := D31 (Or.inr (hw _ (List.mem_of_getElem? (i := 28) rfl))) (ty := .byte) (by decide)
  refine g_dup X31 hx hby own_d3_16 rfl (pc' := 17) rfl ?_
  refine g_iloadN X31 hx hby own_d3_17 rfl (pc' := 18) rfl ?_
  refine g_callS (argsL := [(.int y0)]) (S := [(.ref b31), (.ref b31)]) X31 hx hby hZ (y := (⟨"java/lang/StringLatin1", "toBytes", "(C)[B"⟩ : MethodName)) hown (hw _ (List.mem_of_getElem? (i := 14) rfl)) (hw _ (List.mem_of_getElem? (i := 15) rfl)) (hw _ (List.mem_of_getElem? (i := 10) rfl)) (hw _ (List.mem_of_getElem? (i := 16) rfl)) (by decide) (own_tb l Z a0 hw y0 h31 n0 zz35) (by rw [hml]; rfl) (lenOf own_pd1 rfl) rfl own_d3_18 (by decide) (W := 2) (by exact Nat.le_of_eq rfl) (by decide) (by decide) (by decide) (pc' := 21) rfl (fun T39 v39 X39 hQ39 => ?_)
  obtain ⟨b39, rfl, ka39, hb39, aa39, nb39⟩ := hQ39
  have ne39_b31 : b31 ≠ b39 := Nat.ne_of_lt (Nat.lt_of_lt_of_le A31.lt hb39)
  have q40 := own_sta_keep q34 ka39 all0
  have q41 := A31.keep ka39
  have q42 := q37.keep ka39 nin0
  have q43 := q38.keep ka39 nin0
  have zz44 := Nat.le_trans zz35 ka39.1
  have kk45 : Keep h0 T39.heap [] := kk36.trans ka39 all0
  show Gl p e below n0 _ _ (T39.setTop (mkF m 21 #[.val (.int y0)] [(.ref b39), (.ref b31), (.ref b31)]))
  refine g_iconst (v := 0) X39 hx hby own_d3_21 rfl (pc' := 22) rfl ?_
  refine g_callC (argsL := [(.ref b39), (.int (0 : Int32))]) (S := [(.ref b31)]) (a := b31) X39 hx hby hZ (y := (⟨"java/lang/String", "<init>", "([BB)V"⟩ : MethodName)) rfl hown (hw _ (List.mem_of_getElem? (i := 18) rfl)) (hw _ (List.mem_of_getElem? (i := 19) rfl)) (hw _ (List.mem_of_getElem? (i := 5) rfl)) (hw _ (List.mem_of_getElem? (i := 21) rfl)) (by decide) (own_si l Z a0 hw b31 b39 T39.heap n0 zz44 q41 q42 q43 nn32) (by rw [hml]; rfl) (lenOf own_pd2 rfl) rfl own_d3_22 (by decide) (W := 1) (by exact Nat.le_of_eq rfl) (by decide) (by decide) (by decide) (pc' := 25) rfl (fun T46 v46 X46 hQ46 => ?_)
  obtain ⟨rfl, ka46, fa46, fb46⟩ := hQ46
  have q47 := own_sta_keep q40 ka46 (allS (own_plain q41) all0)
  have q48 := q41.keep ka46
  have q49 := aa39.keep ka46 (ninS (Ne.symm ne39_b31) nin0)
  have zz50 := Nat.le_trans zz44 ka46.1
  have kk51 : Keep h0 T46.heap [] := kk45.trans ka46 (allS (Or.inr hh33) all0)
  show Gl p e below n0 _ _ (T46.setTop (mkF m 25 #[.val (.int y0)] [(.ref b31)]))
  exact g_retA X46 hx hby hret hlk rfl rfl own_d3_25 ⟨b31, rfl, kk51, ⟨b39, q48, fa46, fb46, q49⟩⟩ (by decide) (by decide)
set_option maxRecDepth 65536 in
set_option maxHeartbeats 40000000 in
theorem own_ef52 (m : MethodId) (y0 : Addr) (y1 : Addr)  : entryFrame m #[(.ref y0), (.ref y1)] 3 = mkF m 0 #[.val (.ref y0), .val (.ref y1), .unset] [] := by first | (simp [entryFrame, mkF, argsToLocals, Value.category, maxLocals]; done) | rfl
theorem own_d4_0 : decode jdk_43_method_13_code 0 = .ok (.aload_n 0, 1) := by decide +kernel
theorem own_d4_1 : decode jdk_43_method_13_code 1 = .ok (.arraylength, 1) := by decide +kernel
theorem own_d4_2 : decode jdk_43_method_13_code 2 = .ok (.aload_n 1, 1) := by decide +kernel
theorem own_d4_3 : decode jdk_43_method_13_code 3 = .ok (.arraylength, 1) := by decide +kernel
theorem own_d4_4 : decode jdk_43_method_13_code 4 = .ok (.if_icmp .ne 30, 3) := by decide +kernel
theorem own_d4_7 : decode jdk_43_method_13_code 7 = .ok (.iconst 0, 1) := by decide +kernel
theorem own_d4_8 : decode jdk_43_method_13_code 8 = .ok (.istore_n 2, 1) := by decide +kernel
theorem own_d4_9 : decode jdk_43_method_13_code 9 = .ok (.iload_n 2, 1) := by decide +kernel
theorem own_d4_10 : decode jdk_43_method_13_code 10 = .ok (.aload_n 0, 1) := by decide +kernel
theorem own_d4_11 : decode jdk_43_method_13_code 11 = .ok (.arraylength, 1) := by decide +kernel
theorem own_d4_12 : decode jdk_43_method_13_code 12 = .ok (.if_icmp .ge 20, 3) := by decide +kernel
theorem own_d4_15 : decode jdk_43_method_13_code 15 = .ok (.aload_n 0, 1) := by decide +kernel
theorem own_d4_16 : decode jdk_43_method_13_code 16 = .ok (.iload_n 2, 1) := by decide +kernel
theorem own_d4_17 : decode jdk_43_method_13_code 17 = .ok (.baload, 1) := by decide +kernel
theorem own_d4_18 : decode jdk_43_method_13_code 18 = .ok (.aload_n 1, 1) := by decide +kernel
theorem own_d4_19 : decode jdk_43_method_13_code 19 = .ok (.iload_n 2, 1) := by decide +kernel
theorem own_d4_20 : decode jdk_43_method_13_code 20 = .ok (.baload, 1) := by decide +kernel
theorem own_d4_21 : decode jdk_43_method_13_code 21 = .ok (.if_icmp .eq 5, 3) := by decide +kernel
theorem own_d4_26 : decode jdk_43_method_13_code 26 = .ok (.iinc 2 1, 3) := by decide +kernel
theorem own_d4_29 : decode jdk_43_method_13_code 29 = .ok (.goto (-20), 3) := by decide +kernel
theorem own_d4_32 : decode jdk_43_method_13_code 32 = .ok (.iconst 1, 1) := by decide +kernel
theorem own_d4_33 : decode jdk_43_method_13_code 33 = .ok (.ireturn, 1) := by decide +kernel
theorem own_d4_24 : decode jdk_43_method_13_code 24 = .ok (.iconst 0, 1) := by decide +kernel
theorem own_d4_25 : decode jdk_43_method_13_code 25 = .ok (.ireturn, 1) := by decide +kernel
set_option maxRecDepth 65536 in
set_option maxHeartbeats 40000000 in
theorem own_le (l : Launch) (Z : State) (a0 : Array Value) (hw : ∀ d ∈ tables_1, d.before a0 Z = true) (y0 y1 : Addr) (x0 x1 : Int32) (h0 : Heap) (n0 : Nat) (A0 : Ary Z h0 y0 .byte 1 (fun _ => .int x0)) (A1 : Ary Z h0 y1 .byte 1 (fun _ => .int x1)) :
    Ctr l Z (⟨"java/lang/StringLatin1", "equals", "([B[B)Z"⟩ : MethodName) jdk_43_method_13_code 3 (some .boolean) [] (own_room 0 0 0 0) #[(.ref y0), (.ref y1)] h0 n0 0 0 (fun v h => v = some (.int (own_e x0 x1)) ∧ h = h0) := by
  refine Ctr.of (plainFor_of_name own_pn0) ?_
  intro p e s m below meth c T0 hx hby hml hret hlk hnm hown hZ X0
  rw [own_ef52 m (y0) (y1)]
  refine g_aloadN X0 hx hby own_d4_0 rfl rfl (pc' := 1) rfl ?_
  refine g_arraylength (n := (1 : Int32)) X0 hx hby hZ A0 rfl own_d4_1 (pc' := 2) rfl ?_
  refine g_aloadN X0 hx hby own_d4_2 rfl rfl (pc' := 3) rfl ?_
  refine g_arraylength (n := (1 : Int32)) X0 hx hby hZ A1 rfl own_d4_3 (pc' := 4) rfl ?_
  refine g_icmp_ne X0 hx hby own_d4_4 (by decide) (pc' := 34) (by decide) (pc2 := 7) rfl (fun q => absurd (by decide) q) (fun c4_53 => ?_)
  refine g_iconst (v := 0) X0 hx hby own_d4_7 rfl (pc' := 8) rfl ?_
  refine g_istoreN (L' := #[.val (.ref y0), .val (.ref y1), .val (.int (0 : Int32))]) X0 hx hby own_d4_8 rfl (pc' := 9) rfl ?_
  refine g_iloadN X0 hx hby own_d4_9 rfl (pc' := 10) rfl ?_
  refine g_aloadN X0 hx hby own_d4_10 rfl rfl (pc' := 11) rfl ?_
  refine g_arraylength (n := (1 : Int32)) X0 hx hby hZ A0 rfl own_d4_11 (pc' := 12) rfl ?_
  refine g_icmp_ge X0 hx hby own_d4_12 (by decide) (pc' := 32) (by decide) (pc2 := 15) rfl (fun q => absurd (by decide) q) (fun c12_54 => ?_)
  refine g_aloadN X0 hx hby own_d4_15 rfl rfl (pc' := 16) rfl ?_
  refine g_iloadN X0 hx hby own_d4_16 rfl (pc' := 17) rfl ?_
  refine g_baload (i := 0) (v := (.int x0)) X0 hx hby hZ A0 rfl (by decide) rfl own_d4_17 (pc' := 18) rfl ?_
  refine g_aloadN X0 hx hby own_d4_18 rfl rfl (pc' := 19) rfl ?_
  refine g_iloadN X0 hx hby own_d4_19 rfl (pc' := 20) rfl ?_
  refine g_baload (i := 0) (v := (.int x1)) X0 hx hby hZ A1 rfl (by decide) rfl own_d4_20 (pc' := 21) rfl ?_
  refine g_icmp_eq X0 hx hby own_d4_21 (by decide) (pc' := 26) (by decide) (pc2 := 24) rfl (fun c21_55 => ?_) (fun c21_55 => ?_)
  · refine g_iinc (y := 1) (L' := #[.val (.ref y0), .val (.ref y1), .val (.int (1 : Int32))]) X0 hx hby own_d4_26 rfl rfl rfl (pc' := 29) rfl ?_
    refine g_goto X0 hx hby own_d4_29 (by decide) (pc' := 9) (by decide) ?_
    refine g_iloadN X0 hx hby own_d4_9 rfl (pc' := 10) rfl ?_
    refine g_aloadN X0 hx hby own_d4_10 rfl rfl (pc' := 11) rfl ?_
    refine g_arraylength (n := (1 : Int32)) X0 hx hby hZ A0 rfl own_d4_11 (pc' := 12) rfl ?_
    refine g_icmp_ge X0 hx hby own_d4_12 (by decide) (pc' := 32) (by decide) (pc2 := 15) rfl (fun c12_56 => ?_) (fun q => absurd q (by decide))
    refine g_iconst (v := 1) X0 hx hby own_d4_32 rfl (pc' := 33) rfl ?_
    exact g_retN X0 hx hby hret hlk (by simp) own_d4_33 ⟨congrArg (fun z => some (Value.int z)) (show (1 : Int32) = own_e x0 x1 from (if_pos c21_55).symm), rfl⟩ (by decide) (by decide)
  · refine g_iconst (v := 0) X0 hx hby own_d4_24 rfl (pc' := 25) rfl ?_
    exact g_retN X0 hx hby hret hlk (by simp) own_d4_25 ⟨congrArg (fun z => some (Value.int z)) (show (0 : Int32) = own_e x0 x1 from (if_neg c21_55).symm), rfl⟩ (by decide) (by decide)
set_option maxRecDepth 65536 in
set_option maxHeartbeats 40000000 in
theorem own_ef57 (m : MethodId) (y0 : Addr) (y1 : Addr)  : entryFrame m #[(.ref y0), (.ref y1)] 3 = mkF m 0 #[.val (.ref y0), .val (.ref y1), .unset] [] := by first | (simp [entryFrame, mkF, argsToLocals, Value.category, maxLocals]; done) | rfl
theorem own_d5_0 : decode jdk_42_method_66_code 0 = .ok (.aload_n 0, 1) := by decide +kernel
theorem own_d5_1 : decode jdk_42_method_66_code 1 = .ok (.aload_n 1, 1) := by decide +kernel
theorem own_d5_2 : decode jdk_42_method_66_code 2 = .ok (.if_acmp .ne 5, 3) := by decide +kernel
theorem own_d5_5 : decode jdk_42_method_66_code 5 = .ok (.iconst 1, 1) := by decide +kernel
theorem own_d5_6 : decode jdk_42_method_66_code 6 = .ok (.ireturn, 1) := by decide +kernel
theorem own_d5_7 : decode jdk_42_method_66_code 7 = .ok (.aload_n 1, 1) := by decide +kernel
theorem own_d5_8 : decode jdk_42_method_66_code 8 = .ok (.instanceof 10, 3) := by decide +kernel
theorem own_d5_11 : decode jdk_42_method_66_code 11 = .ok (.ifCond .eq 43, 3) := by decide +kernel
theorem own_d5_14 : decode jdk_42_method_66_code 14 = .ok (.aload_n 1, 1) := by decide +kernel
theorem own_d5_15 : decode jdk_42_method_66_code 15 = .ok (.checkcast 10, 3) := by decide +kernel
theorem own_d5_18 : decode jdk_42_method_66_code 18 = .ok (.astore_n 2, 1) := by decide +kernel
theorem own_d5_19 : decode jdk_42_method_66_code 19 = .ok (.getstatic 38, 3) := by decide +kernel
theorem own_d5_22 : decode jdk_42_method_66_code 22 = .ok (.ifCond .eq 14, 3) := by decide +kernel
theorem own_d5_25 : decode jdk_42_method_66_code 25 = .ok (.aload_n 0, 1) := by decide +kernel
theorem own_d5_26 : decode jdk_42_method_66_code 26 = .ok (.getfield 15, 3) := by decide +kernel
theorem own_d5_29 : decode jdk_42_method_66_code 29 = .ok (.aload_n 2, 1) := by decide +kernel
theorem own_d5_30 : decode jdk_42_method_66_code 30 = .ok (.getfield 15, 3) := by decide +kernel
theorem own_d5_33 : decode jdk_42_method_66_code 33 = .ok (.if_icmp .ne 21, 3) := by decide +kernel
theorem own_d5_36 : decode jdk_42_method_66_code 36 = .ok (.aload_n 0, 1) := by decide +kernel
theorem own_d5_37 : decode jdk_42_method_66_code 37 = .ok (.getfield 9, 3) := by decide +kernel
theorem own_d5_40 : decode jdk_42_method_66_code 40 = .ok (.aload_n 2, 1) := by decide +kernel
theorem own_d5_41 : decode jdk_42_method_66_code 41 = .ok (.getfield 9, 3) := by decide +kernel
theorem own_d5_44 : decode jdk_42_method_66_code 44 = .ok (.invokestatic 541, 3) := by decide +kernel
theorem own_pd3 : parseMethodDescriptor "([B[B)Z" = some ⟨[(.array .byte), (.array .byte)], (some .boolean)⟩ := by decide +kernel
theorem own_d5_47 : decode jdk_42_method_66_code 47 = .ok (.ifCond .eq 7, 3) := by decide +kernel
theorem own_d5_54 : decode jdk_42_method_66_code 54 = .ok (.iconst 0, 1) := by decide +kernel
theorem own_d5_55 : decode jdk_42_method_66_code 55 = .ok (.ireturn, 1) := by decide +kernel
theorem own_d5_50 : decode jdk_42_method_66_code 50 = .ok (.iconst 1, 1) := by decide +kernel
theorem own_d5_51 : decode jdk_42_method_66_code 51 = .ok (.goto 4, 3) := by decide +kernel
set_option maxRecDepth 65536 in
set_option maxHeartbeats 40000000 in
theorem own_seq (l : Launch) (Z : State) (a0 : Array Value) (hw : ∀ d ∈ tables_1, d.before a0 Z = true) (y0 y1 : Addr) (x0 x1 : Int32) (h0 : Heap) (n0 : Nat) (P0 : Str Z h0 y0 x0) (P1 : Str Z h0 y1 x1) (cs : Int32) (Sc : Sta Z h0 "java/lang/String" "COMPACT_STRINGS" "Z" (.int cs)) (hcs : ¬ cs = 0) :
    Ctr l Z (⟨"java/lang/String", "equals", "(Ljava/lang/Object;)Z"⟩ : MethodName) jdk_42_method_66_code 3 (some .boolean) [] (own_room 1 0 0 16) #[(.ref y0), (.ref y1)] h0 n0 0 0 (fun v h => v = some (.int (own_e x0 x1)) ∧ h = h0) := by
  refine Ctr.of (plainFor_of_name own_pn1) ?_
  intro p e s m below meth c T0 hx hby hml hret hlk hnm hown hZ X0
  rw [own_ef57 m (y0) (y1)]
  have PP0 := P0
  have PP1 := P1
  obtain ⟨v0, E0, V0, C0, A0⟩ := P0
  obtain ⟨v1, E1, V1, C1, A1⟩ := P1
  refine g_aloadN X0 hx hby own_d5_0 rfl rfl (pc' := 1) rfl ?_
  refine g_aloadN X0 hx hby own_d5_1 rfl rfl (pc' := 2) rfl ?_
  by_cases c2_58 : ((.ref y0) : Value) = (.ref y1)
  · refine g_acmp_y X0 hx hby own_d5_2 rfl rfl (same := true) (decide_eq_true c2_58) (by decide) (pc' := 5) (by decide) ?_
    refine g_iconst (v := 1) X0 hx hby own_d5_5 rfl (pc' := 6) rfl ?_
    exact g_retN X0 hx hby hret hlk (by simp) own_d5_6 ⟨congrArg (fun z => some (Value.int z)) (show (1 : Int32) = own_e x0 x1 from (if_pos (Str.inj PP0 (Value.ref.inj c2_58 ▸ PP1))).symm), rfl⟩ (by decide) (by decide)
  · refine g_acmp_y X0 hx hby own_d5_2 rfl rfl (same := false) (decide_eq_false c2_58) (by decide) (pc' := 7) (by decide) ?_
    refine g_aloadN X0 hx hby own_d5_7 rfl rfl (pc' := 8) rfl ?_
    refine g_instY X0 hx hby hZ hown (hw _ (List.mem_of_getElem? (i := 12) rfl)) (Ins.self E1) own_d5_8 (pc' := 11) rfl (fun T59 X59 => ?_)
    refine g_if_eq X59 hx hby own_d5_11 (by decide) (pc' := 54) (by decide) (pc2 := 14) rfl (fun q => absurd q (by decide)) (fun c11_60 => ?_)
    refine g_aloadN X59 hx hby own_d5_14 rfl rfl (pc' := 15) rfl ?_
    refine g_castY X59 hx hby hZ hown (hw _ (List.mem_of_getElem? (i := 12) rfl)) (Ins.self E1) own_d5_15 (pc' := 18) rfl (fun T61 X61 => ?_)
    refine g_astoreN (L' := #[.val (.ref y0), .val (.ref y1), .val (.ref y1)]) X61 hx hby own_d5_18 rfl rfl (pc' := 19) rfl ?_
    refine g_getS X61 hx hby hZ hown (hw _ (List.mem_of_getElem? (i := 7) rfl)) Via.refl Sc own_d5_19 (pc' := 22) rfl (fun T62 X62 => ?_)
    refine g_if_eq X62 hx hby own_d5_22 (by decide) (pc' := 36) (by decide) (pc2 := 25) rfl (fun q => absurd q hcs) (fun c22_63 => ?_)
    refine g_aloadN X62 hx hby own_d5_25 rfl rfl (pc' := 26) rfl ?_
    refine g_getF X62 hx hby hZ hown (hw _ (List.mem_of_getElem? (i := 27) rfl)) Via.refl C0 own_d5_26 (pc' := 29) rfl (fun T64 X64 => ?_)
    refine g_aloadN X64 hx hby own_d5_29 rfl rfl (pc' := 30) rfl ?_
    refine g_getF X64 hx hby hZ hown (hw _ (List.mem_of_getElem? (i := 27) rfl)) Via.refl C1 own_d5_30 (pc' := 33) rfl (fun T65 X65 => ?_)
    refine g_icmp_ne X65 hx hby own_d5_33 (by decide) (pc' := 54) (by decide) (pc2 := 36) rfl (fun q => absurd (by decide) q) (fun c33_66 => ?_)
    refine g_aloadN X65 hx hby own_d5_36 rfl rfl (pc' := 37) rfl ?_
    refine g_getF X65 hx hby hZ hown (hw _ (List.mem_of_getElem? (i := 25) rfl)) Via.refl V0 own_d5_37 (pc' := 40) rfl (fun T67 X67 => ?_)
    refine g_aloadN X67 hx hby own_d5_40 rfl rfl (pc' := 41) rfl ?_
    refine g_getF X67 hx hby hZ hown (hw _ (List.mem_of_getElem? (i := 25) rfl)) Via.refl V1 own_d5_41 (pc' := 44) rfl (fun T68 X68 => ?_)
    refine g_callS (argsL := [(.ref v0), (.ref v1)]) (S := []) X68 hx hby hZ (y := (⟨"java/lang/StringLatin1", "equals", "([B[B)Z"⟩ : MethodName)) hown (hw _ (List.mem_of_getElem? (i := 59) rfl)) (hw _ (List.mem_of_getElem? (i := 60) rfl)) (hw _ (List.mem_of_getElem? (i := 10) rfl)) (hw _ (List.mem_of_getElem? (i := 61) rfl)) (by decide) (own_le l Z a0 hw v0 v1 x0 x1 h0 n0 A0 A1) (by rw [hml]; rfl) (lenOf own_pd3 rfl) rfl own_d5_44 (by decide) (W := 0) (by exact Nat.le_of_eq rfl) (by decide) (by decide) (by decide) (pc' := 47) rfl (fun T69 v69 X69 hQ69 => ?_)
    obtain ⟨rfl, e69⟩ := hQ69
    rw [e69] at X69
    show Gl p e below n0 _ _ (T69.setTop (mkF m 47 #[.val (.ref y0), .val (.ref y1), .val (.ref y1)] [(.int (own_e x0 x1))]))
    refine g_if_eq X69 hx hby own_d5_47 (by decide) (pc' := 54) (by decide) (pc2 := 50) rfl (fun c47_70 => ?_) (fun c47_70 => ?_)
    · refine g_iconst (v := 0) X69 hx hby own_d5_54 rfl (pc' := 55) rfl ?_
      exact g_retN X69 hx hby hret hlk (by simp) own_d5_55 ⟨congrArg (fun z => some (Value.int z)) (show (0 : Int32) = own_e x0 x1 from c47_70.symm), rfl⟩ (by decide) (by decide)
    · refine g_iconst (v := 1) X69 hx hby own_d5_50 rfl (pc' := 51) rfl ?_
      refine g_goto X69 hx hby own_d5_51 (by decide) (pc' := 55) (by decide) ?_
      exact g_retN X69 hx hby hret hlk (by simp) own_d5_55 ⟨congrArg (fun z => some (Value.int z)) (show (1 : Int32) = own_e x0 x1 from (own_e1 c47_70).symm), rfl⟩ (by decide) (by decide)
theorem own_notmap {Z : State} {a0 : Array Value} {K : String} {n : Nat} (w : (Jvm.Cond.superclass "java/lang/String" "java/lang/Object").before a0 Z = true) (wo : (Jvm.Cond.noSuperclass "java/lang/Object").before a0 Z = true) (wi : (Jvm.Cond.instantiable K n).before a0 Z = true) (h1 : "java/lang/Object" ≠ K) (h2 : "java/lang/String" ≠ K) :
    ∃ c t, Z.vm.findClass "java/lang/String" = some c ∧ Z.vm.findClass K = some t ∧ Z.vm.assignable c t = false := by
  obtain ⟨co, ko, a1, a2, a3, -, -⟩ := Cond.noSuperclass_spec wo
  obtain ⟨t, kt, b1, b2, b3, b4, -⟩ := Cond.instantiable_spec wi
  have r : NS Z "java/lang/Object" K := by
    refine ⟨co, t, a1, b1, fun fuel => ?_⟩
    have ne := ids_ne a1 b1 h1
    cases fuel with
    | zero => rfl
    | succ f => simp [Vm.isSubclassAux, ne, a2, a3]
  obtain ⟨c, t', h0, g0, n3⟩ := NS.step w r h2
  cases b1.symm.trans g0
  obtain ⟨p, k, kp, c1, c2, c3, c4, c5, -, c7⟩ := Cond.superclass_spec h0 w
  have ne := ids_ne h0 g0 h2
  have b5 : kt.isInterface = false := by cases q : kt.isInterface with | false => rfl | true => simp [q] at b4
  refine ⟨c, t, h0, g0, ?_⟩
  show Z.vm.assignableAux (255 + 1) c t = false
  simp [Vm.assignableAux, ne, c2, b2, c5, b3, b5, Vm.isSubclass, n3]
def own_all (x1 x2 x3 x4 z1 z2 z3 z4 i j i' j' : Int32) : Int32 := if own_e x1 z1 = 0 then 0 else if own_e x2 z2 = 0 then 0 else if own_e x3 z3 = 0 then 0 else if own_e x4 z4 = 0 then 0 else if i = i' then (if j = j' then 1 else 0) else 0
theorem own_ch (x : Int32) : 0 ≤ ((x &&& (255 : Int32)).toUInt32.toUInt16.toUInt32.toInt32).toInt ∧ ((x &&& (255 : Int32)).toUInt32.toUInt16.toUInt32.toInt32).toInt ≤ 255 := by
  rw [i2c_mask]
  have h1 := c_mask x 255 8 (by decide) (by decide); have h5 : ((2 ^ 8 : Nat) : Int) = 256 := rfl
  omega
theorem own_n255 {c : Int32} (h : 0 ≤ c.toInt ∧ c.toInt ≤ 255) : ¬ (255 : Int32) < c := fun q => by
  have := Int32.lt_iff_toInt_lt.mp q; have z : (255 : Int32).toInt = 255 := rfl; omega
theorem own_ey {c d : Int32} (hc : 0 ≤ c.toInt ∧ c.toInt ≤ 255) (hd : 0 ≤ d.toInt ∧ d.toInt ≤ 255) : own_e (own_y c) (own_y d) = if c = d then 1 else 0 := by
  unfold own_e
  by_cases q : c = d
  · rw [if_pos q, if_pos (by rw [q])]
  · rw [if_neg q, if_neg fun z => q (own_y_inj hc hd z)]
theorem own_ee (x : Int32) : own_e x x = 1 := if_pos rfl
set_option maxRecDepth 65536 in
set_option maxHeartbeats 40000000 in
theorem own_ef71 (m : MethodId) (y0 : Addr) (y1 : Addr) (y2 : Addr) (y3 : Addr) (y4 : Addr) (y5 : Int32) (y6 : Int32)  : entryFrame m #[(.ref y0), (.ref y1), (.ref y2), (.ref y3), (.ref y4), (.int y5), (.int y6)] 7 = mkF m 0 #[.val (.ref y0), .val (.ref y1), .val (.ref y2), .val (.ref y3), .val (.ref y4), .val (.int y5), .val (.int y6)] [] := by first | (simp [entryFrame, mkF, argsToLocals, Value.category, maxLocals]; done) | rfl
theorem own_pn2 : plainName "com/example/hifadhi/hifadhi/mapping/TableGeneratorMapping" = true := by first | (simp [plainName, overriddenIn]; done) | decide +kernel
theorem own_d6_0 : decode prog_7_method_1_code 0 = .ok (.aload_n 0, 1) := by decide +kernel
theorem own_d6_1 : decode prog_7_method_1_code 1 = .ok (.invokespecial 1, 3) := by decide +kernel
theorem own_d6_4 : decode prog_7_method_1_code 4 = .ok (.aload_n 0, 1) := by decide +kernel
theorem own_d6_5 : decode prog_7_method_1_code 5 = .ok (.aload_n 1, 1) := by decide +kernel
theorem own_d6_6 : decode prog_7_method_1_code 6 = .ok (.putfield 7, 3) := by decide +kernel
theorem own_d6_9 : decode prog_7_method_1_code 9 = .ok (.aload_n 0, 1) := by decide +kernel
theorem own_d6_10 : decode prog_7_method_1_code 10 = .ok (.aload_n 2, 1) := by decide +kernel
theorem own_d6_11 : decode prog_7_method_1_code 11 = .ok (.putfield 13, 3) := by decide +kernel
theorem own_d6_14 : decode prog_7_method_1_code 14 = .ok (.aload_n 0, 1) := by decide +kernel
theorem own_d6_15 : decode prog_7_method_1_code 15 = .ok (.aload_n 3, 1) := by decide +kernel
theorem own_d6_16 : decode prog_7_method_1_code 16 = .ok (.putfield 16, 3) := by decide +kernel
theorem own_d6_19 : decode prog_7_method_1_code 19 = .ok (.aload_n 0, 1) := by decide +kernel
theorem own_d6_20 : decode prog_7_method_1_code 20 = .ok (.aload 4, 2) := by decide +kernel
theorem own_d6_22 : decode prog_7_method_1_code 22 = .ok (.putfield 19, 3) := by decide +kernel
theorem own_d6_25 : decode prog_7_method_1_code 25 = .ok (.aload_n 0, 1) := by decide +kernel
theorem own_d6_26 : decode prog_7_method_1_code 26 = .ok (.iload 5, 2) := by decide +kernel
theorem own_d6_28 : decode prog_7_method_1_code 28 = .ok (.putfield 22, 3) := by decide +kernel
theorem own_d6_31 : decode prog_7_method_1_code 31 = .ok (.aload_n 0, 1) := by decide +kernel
theorem own_d6_32 : decode prog_7_method_1_code 32 = .ok (.iload 6, 2) := by decide +kernel
theorem own_d6_34 : decode prog_7_method_1_code 34 = .ok (.putfield 26, 3) := by decide +kernel
theorem own_d6_37 : decode prog_7_method_1_code 37 = .ok (.return_, 1) := by decide +kernel
set_option maxRecDepth 65536 in
set_option maxHeartbeats 40000000 in
theorem own_rm1 (l : Launch) (Z : State) (a0 : Array Value) (hw : ∀ d ∈ tables_1, d.before a0 Z = true) (y0 y1 y2 y3 y4 : Addr) (y5 y6 : Int32) (h0 : Heap) (n0 : Nat) (Z0 : n0 ≤ h0.size) (Ex : Exa Z h0 y0 "com/example/hifadhi/hifadhi/mapping/TableGeneratorMapping") (F_table : Fld Z h0 y0 "com/example/hifadhi/hifadhi/mapping/TableGeneratorMapping" "table" "Ljava/lang/String;" .null) (F_keyColumn : Fld Z h0 y0 "com/example/hifadhi/hifadhi/mapping/TableGeneratorMapping" "keyColumn" "Ljava/lang/String;" .null) (F_valueColumn : Fld Z h0 y0 "com/example/hifadhi/hifadhi/mapping/TableGeneratorMapping" "valueColumn" "Ljava/lang/String;" .null) (F_keyValue : Fld Z h0 y0 "com/example/hifadhi/hifadhi/mapping/TableGeneratorMapping" "keyValue" "Ljava/lang/String;" .null) (F_initialValue : Fld Z h0 y0 "com/example/hifadhi/hifadhi/mapping/TableGeneratorMapping" "initialValue" "I" (.int (0 : Int32))) (F_allocationSize : Fld Z h0 y0 "com/example/hifadhi/hifadhi/mapping/TableGeneratorMapping" "allocationSize" "I" (.int (0 : Int32))) (gn : n0 ≤ y0) :
    Ctr l Z (⟨"com/example/hifadhi/hifadhi/mapping/TableGeneratorMapping", "<init>", "(Ljava/lang/String;Ljava/lang/String;Ljava/lang/String;Ljava/lang/String;II)V"⟩ : MethodName) prog_7_method_1_code 7 none [] (own_room 1 0 0 13) #[(.ref y0), (.ref y1), (.ref y2), (.ref y3), (.ref y4), (.int y5), (.int y6)] h0 n0 0 0 (fun v h => v = none ∧ Keep h0 h [y0] ∧ Fld Z h y0 "com/example/hifadhi/hifadhi/mapping/TableGeneratorMapping" "table" "Ljava/lang/String;" (.ref y1) ∧ Fld Z h y0 "com/example/hifadhi/hifadhi/mapping/TableGeneratorMapping" "keyColumn" "Ljava/lang/String;" (.ref y2) ∧ Fld Z h y0 "com/example/hifadhi/hifadhi/mapping/TableGeneratorMapping" "valueColumn" "Ljava/lang/String;" (.ref y3) ∧ Fld Z h y0 "com/example/hifadhi/hifadhi/mapping/TableGeneratorMapping" "keyValue" "Ljava/lang/String;" (.ref y4) ∧ Fld Z h y0 "com/example/hifadhi/hifadhi/mapping/TableGeneratorMapping" "initialValue" "I" (.int y5) ∧ Fld Z h y0 "com/example/hifadhi/hifadhi/mapping/TableGeneratorMapping" "allocationSize" "I" (.int y6)) := by
  refine Ctr.of (plainFor_of_name own_pn2) ?_
  intro p e s m below meth c T0 hx hby hml hret hlk hnm hown hZ X0
  rw [own_ef71 m (y0) (y1) (y2) (y3) (y4) (y5) (y6)]
  refine g_aloadN X0 hx hby own_d6_0 rfl rfl (pc' := 1) rfl ?_
  refine g_initO X0 hx hby hZ (W := 0) hown (hw _ (List.mem_of_getElem? (i := 32) rfl)) (hw _ (List.mem_of_getElem? (i := 23) rfl)) (hw _ (List.mem_of_getElem? (i := 24) rfl)) (by rw [hml]; rfl) own_d6_1 (by decide) (by exact Nat.le_of_eq rfl) (by decide) (pc' := 4) rfl (fun T72 X72 => ?_)
  refine g_aloadN X72 hx hby own_d6_4 rfl rfl (pc' := 5) rfl ?_
  refine g_aloadN X72 hx hby own_d6_5 rfl rfl (pc' := 6) rfl ?_
  refine g_putF X72 hx hby hZ hown (hw _ (List.mem_of_getElem? (i := 33) rfl)) Via.refl F_table Ex (Or.inr ⟨(hw _ (List.mem_of_getElem? (i := 34) rfl)), rfl, hnm⟩) (hw _ (List.mem_of_getElem? (i := 1) rfl)) (ty := (.object "java/lang/String")) (by decide) rfl rfl gn own_d6_6 (pc' := 9) rfl (fun T73 h73 X73 W73 => ?_)
  have q74 := Ex.wr W73
  have q75 := F_table.same W73
  have q76 := F_keyColumn.other W73 (Or.inr (slot_ne (Or.inr (hw _ (List.mem_of_getElem? (i := 36) rfl))) (Or.inr (hw _ (List.mem_of_getElem? (i := 34) rfl))) (by decide) (t := (.object "java/lang/String")) (t' := (.object "java/lang/String")) (by decide) (by decide)))
  have q77 := F_valueColumn.other W73 (Or.inr (slot_ne (Or.inr (hw _ (List.mem_of_getElem? (i := 38) rfl))) (Or.inr (hw _ (List.mem_of_getElem? (i := 34) rfl))) (by decide) (t := (.object "java/lang/String")) (t' := (.object "java/lang/String")) (by decide) (by decide)))
  have q78 := F_keyValue.other W73 (Or.inr (slot_ne (Or.inr (hw _ (List.mem_of_getElem? (i := 40) rfl))) (Or.inr (hw _ (List.mem_of_getElem? (i := 34) rfl))) (by decide) (t := (.object "java/lang/String")) (t' := (.object "java/lang/String")) (by decide) (by decide)))
  have q79 := F_initialValue.other W73 (Or.inr (slot_ne (Or.inr (hw _ (List.mem_of_getElem? (i := 42) rfl))) (Or.inr (hw _ (List.mem_of_getElem? (i := 34) rfl))) (by decide) (t := .int) (t' := (.object "java/lang/String")) (by decide) (by decide)))
  have q80 := F_allocationSize.other W73 (Or.inr (slot_ne (Or.inr (hw _ (List.mem_of_getElem? (i := 44) rfl))) (Or.inr (hw _ (List.mem_of_getElem? (i := 34) rfl))) (by decide) (t := .int) (t' := (.object "java/lang/String")) (by decide) (by decide)))
  have zz81 := Nat.le_trans Z0 (Nat.le_of_eq W73.size.symm)
  have kk82 : Keep h0 h73 [y0] := (Keep.refl h0 [y0]).wr W73 (Or.inl (by simp))
  refine g_aloadN X73 hx hby own_d6_9 rfl rfl (pc' := 10) rfl ?_
  refine g_aloadN X73 hx hby own_d6_10 rfl rfl (pc' := 11) rfl ?_
  refine g_putF X73 hx hby hZ hown (hw _ (List.mem_of_getElem? (i := 35) rfl)) Via.refl q76 q74 (Or.inr ⟨(hw _ (List.mem_of_getElem? (i := 36) rfl)), rfl, hnm⟩) (hw _ (List.mem_of_getElem? (i := 1) rfl)) (ty := (.object "java/lang/String")) (by decide) rfl rfl gn own_d6_11 (pc' := 14) rfl (fun T83 h83 X83 W83 => ?_)
  have q84 := q74.wr W83
  have q85 := q75.other W83 (Or.inr (slot_ne (Or.inr (hw _ (List.mem_of_getElem? (i := 34) rfl))) (Or.inr (hw _ (List.mem_of_getElem? (i := 36) rfl))) (by decide) (t := (.object "java/lang/String")) (t' := (.object "java/lang/String")) (by decide) (by decide)))
  have q86 := q76.same W83
  have q87 := q77.other W83 (Or.inr (slot_ne (Or.inr (hw _ (List.mem_of_getElem? (i := 38) rfl))) (Or.inr (hw _ (List.mem_of_getElem? (i := 36) rfl))) (by decide) (t := (.object "java/lang/String")) (t' := (.object "java/lang/String")) (by decide) (by decide)))
  have q88 := q78.other W83 (Or.inr (slot_ne (Or.inr (hw _ (List.mem_of_getElem? (i := 40) rfl))) (Or.inr (hw _ (List.mem_of_getElem? (i := 36) rfl))) (by decide) (t := (.object "java/lang/String")) (t' := (.object "java/lang/String")) (by decide) (by decide)))
  have q89 := q79.other W83 (Or.inr (slot_ne (Or.inr (hw _ (List.mem_of_getElem? (i := 42) rfl))) (Or.inr (hw _ (List.mem_of_getElem? (i := 36) rfl))) (by decide) (t := .int) (t' := (.object "java/lang/String")) (by decide) (by decide)))
  have q90 := q80.other W83 (Or.inr (slot_ne (Or.inr (hw _ (List.mem_of_getElem? (i := 44) rfl))) (Or.inr (hw _ (List.mem_of_getElem? (i := 36) rfl))) (by decide) (t := .int) (t' := (.object "java/lang/String")) (by decide) (by decide)))
  have zz91 := Nat.le_trans zz81 (Nat.le_of_eq W83.size.symm)
  have kk92 : Keep h0 h83 [y0] := kk82.wr W83 (Or.inl (by simp))
  refine g_aloadN X83 hx hby own_d6_14 rfl rfl (pc' := 15) rfl ?_
  refine g_aloadN X83 hx hby own_d6_15 rfl rfl (pc' := 16) rfl ?_
  refine g_putF X83 hx hby hZ hown (hw _ (List.mem_of_getElem? (i := 37) rfl)) Via.refl q87 q84 (Or.inr ⟨(hw _ (List.mem_of_getElem? (i := 38) rfl)), rfl, hnm⟩) (hw _ (List.mem_of_getElem? (i := 1) rfl)) (ty := (.object "java/lang/String")) (by decide) rfl rfl gn own_d6_16 (pc' := 19) rfl (fun T93 h93 X93 W93 => ?_)
  have q94 := q84.wr W93
  have q95 := q85.other W93 (Or.inr (slot_ne (Or.inr (hw _ (List.mem_of_getElem? (i := 34) rfl))) (Or.inr (hw _ (List.mem_of_getElem? (i := 38) rfl))) (by decide) (t := (.object "java/lang/String")) (t' := (.object "java/lang/String")) (by decide) (by decide)))
  have q96 := q86.other W93 (Or.inr (slot_ne (Or.inr (hw _ (List.mem_of_getElem? (i := 36) rfl))) (Or.inr (hw _ (List.mem_of_getElem? (i := 38) rfl))) (by decide) (t := (.object "java/lang/String")) (t' := (.object "java/lang/String")) (by decide) (by decide)))
  have q97 := q87.same W93
  have q98 := q88.other W93 (Or.inr (slot_ne (Or.inr (hw _ (List.mem_of_getElem? (i := 40) rfl))) (Or.inr (hw _ (List.mem_of_getElem? (i := 38) rfl))) (by decide) (t := (.object "java/lang/String")) (t' := (.object "java/lang/String")) (by decide) (by decide)))
  have q99 := q89.other W93 (Or.inr (slot_ne (Or.inr (hw _ (List.mem_of_getElem? (i := 42) rfl))) (Or.inr (hw _ (List.mem_of_getElem? (i := 38) rfl))) (by decide) (t := .int) (t' := (.object "java/lang/String")) (by decide) (by decide)))
  have q100 := q90.other W93 (Or.inr (slot_ne (Or.inr (hw _ (List.mem_of_getElem? (i := 44) rfl))) (Or.inr (hw _ (List.mem_of_getElem? (i := 38) rfl))) (by decide) (t := .int) (t' := (.object "java/lang/String")) (by decide) (by decide)))
  have zz101 := Nat.le_trans zz91 (Nat.le_of_eq W93.size.symm)
  have kk102 : Keep h0 h93 [y0] := kk92.wr W93 (Or.inl (by simp))
  refine g_aloadN X93 hx hby own_d6_19 rfl rfl (pc' := 20) rfl ?_
  refine g_aload X93 hx hby own_d6_20 rfl rfl (pc' := 22) rfl ?_
  refine g_putF X93 hx hby hZ hown (hw _ (List.mem_of_getElem? (i := 39) rfl)) Via.refl q98 q94 (Or.inr ⟨(hw _ (List.mem_of_getElem? (i := 40) rfl)), rfl, hnm⟩) (hw _ (List.mem_of_getElem? (i := 1) rfl)) (ty := (.object "java/lang/String")) (by decide) rfl rfl gn own_d6_22 (pc' := 25) rfl (fun T103 h103 X103 W103 => ?_)
  have q104 := q94.wr W103
  have q105 := q95.other W103 (Or.inr (slot_ne (Or.inr (hw _ (List.mem_of_getElem? (i := 34) rfl))) (Or.inr (hw _ (List.mem_of_getElem? (i := 40) rfl))) (by decide) (t := (.object "java/lang/String")) (t' := (.object "java/lang/String")) (by decide) (by decide)))
  have q106 := q96.other W103 (Or.inr (slot_ne (Or.inr (hw _ (List.mem_of_getElem? (i := 36) rfl))) (Or.inr (hw _ (List.mem_of_getElem? (i := 40) rfl))) (by decide) (t := (.object "java/lang/String")) (t' := (.object "java/lang/String")) (by decide) (by decide)))
  have q107 := q97.other W103 (Or.inr (slot_ne (Or.inr (hw _ (List.mem_of_getElem? (i := 38) rfl))) (Or.inr (hw _ (List.mem_of_getElem? (i := 40) rfl))) (by decide) (t := (.object "java/lang/String")) (t' := (.object "java/lang/String")) (by decide) (by decide)))
  have q108 := q98.same W103
  have q109 := q99.other W103 (Or.inr (slot_ne (Or.inr (hw _ (List.mem_of_getElem? (i := 42) rfl))) (Or.inr (hw _ (List.mem_of_getElem? (i := 40) rfl))) (by decide) (t := .int) (t' := (.object "java/lang/String")) (by decide) (by decide)))
  have q110 := q100.other W103 (Or.inr (slot_ne (Or.inr (hw _ (List.mem_of_getElem? (i := 44) rfl))) (Or.inr (hw _ (List.mem_of_getElem? (i := 40) rfl))) (by decide) (t := .int) (t' := (.object "java/lang/String")) (by decide) (by decide)))
  have zz111 := Nat.le_trans zz101 (Nat.le_of_eq W103.size.symm)
  have kk112 : Keep h0 h103 [y0] := kk102.wr W103 (Or.inl (by simp))
  refine g_aloadN X103 hx hby own_d6_25 rfl rfl (pc' := 26) rfl ?_
  refine g_iload X103 hx hby own_d6_26 rfl (pc' := 28) rfl ?_
  refine g_putF X103 hx hby hZ hown (hw _ (List.mem_of_getElem? (i := 41) rfl)) Via.refl q109 q104 (Or.inr ⟨(hw _ (List.mem_of_getElem? (i := 42) rfl)), rfl, hnm⟩) (hw _ (List.mem_of_getElem? (i := 1) rfl)) (ty := .int) (by decide) rfl rfl gn own_d6_28 (pc' := 31) rfl (fun T113 h113 X113 W113 => ?_)
  have q114 := q104.wr W113
  have q115 := q105.other W113 (Or.inr (slot_ne (Or.inr (hw _ (List.mem_of_getElem? (i := 34) rfl))) (Or.inr (hw _ (List.mem_of_getElem? (i := 42) rfl))) (by decide) (t := (.object "java/lang/String")) (t' := .int) (by decide) (by decide)))
  have q116 := q106.other W113 (Or.inr (slot_ne (Or.inr (hw _ (List.mem_of_getElem? (i := 36) rfl))) (Or.inr (hw _ (List.mem_of_getElem? (i := 42) rfl))) (by decide) (t := (.object "java/lang/String")) (t' := .int) (by decide) (by decide)))
  have q117 := q107.other W113 (Or.inr (slot_ne (Or.inr (hw _ (List.mem_of_getElem? (i := 38) rfl))) (Or.inr (hw _ (List.mem_of_getElem? (i := 42) rfl))) (by decide) (t := (.object "java/lang/String")) (t' := .int) (by decide) (by decide)))
  have q118 := q108.other W113 (Or.inr (slot_ne (Or.inr (hw _ (List.mem_of_getElem? (i := 40) rfl))) (Or.inr (hw _ (List.mem_of_getElem? (i := 42) rfl))) (by decide) (t := (.object "java/lang/String")) (t' := .int) (by decide) (by decide)))
  have q119 := q109.same W113
  have q120 := q110.other W113 (Or.inr (slot_ne (Or.inr (hw _ (List.mem_of_getElem? (i := 44) rfl))) (Or.inr (hw _ (List.mem_of_getElem? (i := 42) rfl))) (by decide) (t := .int) (t' := .int) (by decide) (by decide)))
  have zz121 := Nat.le_trans zz111 (Nat.le_of_eq W113.size.symm)
  have kk122 : Keep h0 h113 [y0] := kk112.wr W113 (Or.inl (by simp))
  refine g_aloadN X113 hx hby own_d6_31 rfl rfl (pc' := 32) rfl ?_
  refine g_iload X113 hx hby own_d6_32 rfl (pc' := 34) rfl ?_
  refine g_putF X113 hx hby hZ hown (hw _ (List.mem_of_getElem? (i := 43) rfl)) Via.refl q120 q114 (Or.inr ⟨(hw _ (List.mem_of_getElem? (i := 44) rfl)), rfl, hnm⟩) (hw _ (List.mem_of_getElem? (i := 1) rfl)) (ty := .int) (by decide) rfl rfl gn own_d6_34 (pc' := 37) rfl (fun T123 h123 X123 W123 => ?_)
  have q124 := q114.wr W123
  have q125 := q115.other W123 (Or.inr (slot_ne (Or.inr (hw _ (List.mem_of_getElem? (i := 34) rfl))) (Or.inr (hw _ (List.mem_of_getElem? (i := 44) rfl))) (by decide) (t := (.object "java/lang/String")) (t' := .int) (by decide) (by decide)))
  have q126 := q116.other W123 (Or.inr (slot_ne (Or.inr (hw _ (List.mem_of_getElem? (i := 36) rfl))) (Or.inr (hw _ (List.mem_of_getElem? (i := 44) rfl))) (by decide) (t := (.object "java/lang/String")) (t' := .int) (by decide) (by decide)))
  have q127 := q117.other W123 (Or.inr (slot_ne (Or.inr (hw _ (List.mem_of_getElem? (i := 38) rfl))) (Or.inr (hw _ (List.mem_of_getElem? (i := 44) rfl))) (by decide) (t := (.object "java/lang/String")) (t' := .int) (by decide) (by decide)))
  have q128 := q118.other W123 (Or.inr (slot_ne (Or.inr (hw _ (List.mem_of_getElem? (i := 40) rfl))) (Or.inr (hw _ (List.mem_of_getElem? (i := 44) rfl))) (by decide) (t := (.object "java/lang/String")) (t' := .int) (by decide) (by decide)))
  have q129 := q119.other W123 (Or.inr (slot_ne (Or.inr (hw _ (List.mem_of_getElem? (i := 42) rfl))) (Or.inr (hw _ (List.mem_of_getElem? (i := 44) rfl))) (by decide) (t := .int) (t' := .int) (by decide) (by decide)))
  have q130 := q120.same W123
  have zz131 := Nat.le_trans zz121 (Nat.le_of_eq W123.size.symm)
  have kk132 : Keep h0 h123 [y0] := kk122.wr W123 (Or.inl (by simp))
  exact g_ret X123 hx hby hret hlk own_d6_37 ⟨rfl, kk132, q125, q126, q127, q128, q129, q130⟩ (by decide) (by decide)
set_option maxRecDepth 65536 in
set_option maxHeartbeats 40000000 in
theorem own_ef133 (m : MethodId) (y0 : Addr)  : entryFrame m #[(.ref y0), .null] 3 = mkF m 0 #[.val (.ref y0), .val .null, .unset] [] := by first | (simp [entryFrame, mkF, argsToLocals, Value.category, maxLocals]; done) | rfl
theorem own_d7_0 : decode prog_7_method_8_code 0 = .ok (.aload_n 1, 1) := by decide +kernel
theorem own_d7_1 : decode prog_7_method_8_code 1 = .ok (.instanceof 8, 3) := by decide +kernel
theorem own_d7_4 : decode prog_7_method_8_code 4 = .ok (.ifCond .ne 5, 3) := by decide +kernel
theorem own_d7_7 : decode prog_7_method_8_code 7 = .ok (.iconst 0, 1) := by decide +kernel
theorem own_d7_8 : decode prog_7_method_8_code 8 = .ok (.ireturn, 1) := by decide +kernel
set_option maxRecDepth 65536 in
set_option maxHeartbeats 40000000 in
theorem own_eqN (l : Launch) (Z : State) (a0 : Array Value) (hw : ∀ d ∈ tables_1, d.before a0 Z = true) (y0 : Addr) (h0 : Heap) (n0 : Nat)  :
    Ctr l Z (⟨"com/example/hifadhi/hifadhi/mapping/TableGeneratorMapping", "equals", "(Ljava/lang/Object;)Z"⟩ : MethodName) prog_7_method_8_code 3 (some .boolean) [] (own_room 2 0 0 60) #[(.ref y0), .null] h0 n0 0 0 (fun v h => v = some (.int 0) ∧ h = h0) := by
  refine Ctr.of (plainFor_of_name own_pn2) ?_
  intro p e s m below meth c T0 hx hby hml hret hlk hnm hown hZ X0
  rw [own_ef133 m (y0)]
  refine g_aloadN X0 hx hby own_d7_0 rfl rfl (pc' := 1) rfl ?_
  refine g_instNull X0 hx hby own_d7_1 (pc' := 4) rfl ?_
  refine g_if_ne X0 hx hby own_d7_4 (by decide) (pc' := 9) (by decide) (pc2 := 7) rfl (fun q => absurd (by decide) q) (fun c4_135 => ?_)
  refine g_iconst (v := 0) X0 hx hby own_d7_7 rfl (pc' := 8) rfl ?_
  exact g_retN X0 hx hby hret hlk (by simp) own_d7_8 ⟨rfl, rfl⟩ (by decide) (by decide)
set_option maxRecDepth 65536 in
set_option maxHeartbeats 40000000 in
theorem own_ef136 (m : MethodId) (y0 : Addr) (y1 : Addr)  : entryFrame m #[(.ref y0), (.ref y1)] 3 = mkF m 0 #[.val (.ref y0), .val (.ref y1), .unset] [] := by first | (simp [entryFrame, mkF, argsToLocals, Value.category, maxLocals]; done) | rfl
set_option maxRecDepth 65536 in
set_option maxHeartbeats 40000000 in
theorem own_eqS (l : Launch) (Z : State) (a0 : Array Value) (hw : ∀ d ∈ tables_1, d.before a0 Z = true) (y0 y1 : Addr) (h0 : Heap) (n0 : Nat) (Ex : Exa Z h0 y1 "java/lang/String") :
    Ctr l Z (⟨"com/example/hifadhi/hifadhi/mapping/TableGeneratorMapping", "equals", "(Ljava/lang/Object;)Z"⟩ : MethodName) prog_7_method_8_code 3 (some .boolean) [] (own_room 2 0 0 60) #[(.ref y0), (.ref y1)] h0 n0 0 0 (fun v h => v = some (.int 0) ∧ h = h0) := by
  refine Ctr.of (plainFor_of_name own_pn2) ?_
  intro p e s m below meth c T0 hx hby hml hret hlk hnm hown hZ X0
  rw [own_ef136 m (y0) (y1)]
  refine g_aloadN X0 hx hby own_d7_0 rfl rfl (pc' := 1) rfl ?_
  refine g_instNo X0 hx hby hZ hown (hw _ (List.mem_of_getElem? (i := 50) rfl)) Ex (own_notmap (hw _ (List.mem_of_getElem? (i := 51) rfl)) (hw _ (List.mem_of_getElem? (i := 52) rfl)) (hw _ (List.mem_of_getElem? (i := 1) rfl)) (by decide) (by decide)) own_d7_1 (pc' := 4) rfl (fun T137 X137 => ?_)
  refine g_if_ne X137 hx hby own_d7_4 (by decide) (pc' := 9) (by decide) (pc2 := 7) rfl (fun q => absurd (by decide) q) (fun c4_138 => ?_)
  refine g_iconst (v := 0) X137 hx hby own_d7_7 rfl (pc' := 8) rfl ?_
  exact g_retN X137 hx hby hret hlk (by simp) own_d7_8 ⟨rfl, rfl⟩ (by decide) (by decide)
set_option maxRecDepth 65536 in
set_option maxHeartbeats 40000000 in
theorem own_ef139 (m : MethodId) (y0 : Addr) (y1 : Addr)  : entryFrame m #[(.ref y0), (.ref y1)] 3 = mkF m 0 #[.val (.ref y0), .val (.ref y1), .unset] [] := by first | (simp [entryFrame, mkF, argsToLocals, Value.category, maxLocals]; done) | rfl
theorem own_d7_9 : decode prog_7_method_8_code 9 = .ok (.aload_n 1, 1) := by decide +kernel
theorem own_d7_10 : decode prog_7_method_8_code 10 = .ok (.checkcast 8, 3) := by decide +kernel
theorem own_d7_13 : decode prog_7_method_8_code 13 = .ok (.astore_n 2, 1) := by decide +kernel
theorem own_d7_14 : decode prog_7_method_8_code 14 = .ok (.aload_n 0, 1) := by decide +kernel
theorem own_d7_15 : decode prog_7_method_8_code 15 = .ok (.getfield 7, 3) := by decide +kernel
theorem own_d7_18 : decode prog_7_method_8_code 18 = .ok (.aload_n 2, 1) := by decide +kernel
theorem own_d7_19 : decode prog_7_method_8_code 19 = .ok (.getfield 7, 3) := by decide +kernel
theorem own_d7_22 : decode prog_7_method_8_code 22 = .ok (.invokevirtual 35, 3) := by decide +kernel
theorem own_pd4 : parseMethodDescriptor "(Ljava/lang/Object;)Z" = some ⟨[(.object "java/lang/Object")], (some .boolean)⟩ := by decide +kernel
theorem own_d7_25 : decode prog_7_method_8_code 25 = .ok (.ifCond .eq 71, 3) := by decide +kernel
theorem own_d7_96 : decode prog_7_method_8_code 96 = .ok (.iconst 0, 1) := by decide +kernel
theorem own_d7_97 : decode prog_7_method_8_code 97 = .ok (.ireturn, 1) := by decide +kernel
theorem own_d7_28 : decode prog_7_method_8_code 28 = .ok (.aload_n 0, 1) := by decide +kernel
theorem own_d7_29 : decode prog_7_method_8_code 29 = .ok (.getfield 13, 3) := by decide +kernel
theorem own_d7_32 : decode prog_7_method_8_code 32 = .ok (.aload_n 2, 1) := by decide +kernel
theorem own_d7_33 : decode prog_7_method_8_code 33 = .ok (.getfield 13, 3) := by decide +kernel
theorem own_d7_36 : decode prog_7_method_8_code 36 = .ok (.invokevirtual 35, 3) := by decide +kernel
theorem own_d7_39 : decode prog_7_method_8_code 39 = .ok (.ifCond .eq 57, 3) := by decide +kernel
theorem own_d7_42 : decode prog_7_method_8_code 42 = .ok (.aload_n 0, 1) := by decide +kernel
theorem own_d7_43 : decode prog_7_method_8_code 43 = .ok (.getfield 16, 3) := by decide +kernel
theorem own_d7_46 : decode prog_7_method_8_code 46 = .ok (.aload_n 2, 1) := by decide +kernel
theorem own_d7_47 : decode prog_7_method_8_code 47 = .ok (.getfield 16, 3) := by decide +kernel
theorem own_d7_50 : decode prog_7_method_8_code 50 = .ok (.invokevirtual 35, 3) := by decide +kernel
theorem own_d7_53 : decode prog_7_method_8_code 53 = .ok (.ifCond .eq 43, 3) := by decide +kernel
theorem own_d7_56 : decode prog_7_method_8_code 56 = .ok (.aload_n 0, 1) := by decide +kernel
theorem own_d7_57 : decode prog_7_method_8_code 57 = .ok (.getfield 19, 3) := by decide +kernel
theorem own_d7_60 : decode prog_7_method_8_code 60 = .ok (.aload_n 2, 1) := by decide +kernel
theorem own_d7_61 : decode prog_7_method_8_code 61 = .ok (.getfield 19, 3) := by decide +kernel
theorem own_d7_64 : decode prog_7_method_8_code 64 = .ok (.invokevirtual 35, 3) := by decide +kernel
theorem own_d7_67 : decode prog_7_method_8_code 67 = .ok (.ifCond .eq 29, 3) := by decide +kernel
theorem own_d7_70 : decode prog_7_method_8_code 70 = .ok (.aload_n 0, 1) := by decide +kernel
theorem own_d7_71 : decode prog_7_method_8_code 71 = .ok (.getfield 22, 3) := by decide +kernel
theorem own_d7_74 : decode prog_7_method_8_code 74 = .ok (.aload_n 2, 1) := by decide +kernel
theorem own_d7_75 : decode prog_7_method_8_code 75 = .ok (.getfield 22, 3) := by decide +kernel
theorem own_d7_78 : decode prog_7_method_8_code 78 = .ok (.if_icmp .ne 18, 3) := by decide +kernel
theorem own_d7_81 : decode prog_7_method_8_code 81 = .ok (.aload_n 0, 1) := by decide +kernel
theorem own_d7_82 : decode prog_7_method_8_code 82 = .ok (.getfield 26, 3) := by decide +kernel
theorem own_d7_85 : decode prog_7_method_8_code 85 = .ok (.aload_n 2, 1) := by decide +kernel
theorem own_d7_86 : decode prog_7_method_8_code 86 = .ok (.getfield 26, 3) := by decide +kernel
theorem own_d7_89 : decode prog_7_method_8_code 89 = .ok (.if_icmp .ne 7, 3) := by decide +kernel
theorem own_d7_92 : decode prog_7_method_8_code 92 = .ok (.iconst 1, 1) := by decide +kernel
theorem own_d7_93 : decode prog_7_method_8_code 93 = .ok (.goto 4, 3) := by decide +kernel
set_option maxRecDepth 65536 in
set_option maxHeartbeats 40000000 in
theorem own_eqM (l : Launch) (Z : State) (a0 : Array Value) (hw : ∀ d ∈ tables_1, d.before a0 Z = true) (y0 y1 : Addr) (h0 : Heap) (n0 : Nat) (r1 r2 r3 r4 t1 t2 t3 t4 : Addr) (x1 x2 x3 x4 z1 z2 z3 z4 i j i' j' : Int32) (Ex : Exa Z h0 y1 "com/example/hifadhi/hifadhi/mapping/TableGeneratorMapping") (F1 : Fld Z h0 y0 "com/example/hifadhi/hifadhi/mapping/TableGeneratorMapping" "table" "Ljava/lang/String;" (.ref r1)) (F2 : Fld Z h0 y0 "com/example/hifadhi/hifadhi/mapping/TableGeneratorMapping" "keyColumn" "Ljava/lang/String;" (.ref r2)) (F3 : Fld Z h0 y0 "com/example/hifadhi/hifadhi/mapping/TableGeneratorMapping" "valueColumn" "Ljava/lang/String;" (.ref r3)) (F4 : Fld Z h0 y0 "com/example/hifadhi/hifadhi/mapping/TableGeneratorMapping" "keyValue" "Ljava/lang/String;" (.ref r4)) (F5 : Fld Z h0 y0 "com/example/hifadhi/hifadhi/mapping/TableGeneratorMapping" "initialValue" "I" (.int i)) (F6 : Fld Z h0 y0 "com/example/hifadhi/hifadhi/mapping/TableGeneratorMapping" "allocationSize" "I" (.int j)) (G1 : Fld Z h0 y1 "com/example/hifadhi/hifadhi/mapping/TableGeneratorMapping" "table" "Ljava/lang/String;" (.ref t1)) (G2 : Fld Z h0 y1 "com/example/hifadhi/hifadhi/mapping/TableGeneratorMapping" "keyColumn" "Ljava/lang/String;" (.ref t2)) (G3 : Fld Z h0 y1 "com/example/hifadhi/hifadhi/mapping/TableGeneratorMapping" "valueColumn" "Ljava/lang/String;" (.ref t3)) (G4 : Fld Z h0 y1 "com/example/hifadhi/hifadhi/mapping/TableGeneratorMapping" "keyValue" "Ljava/lang/String;" (.ref t4)) (G5 : Fld Z h0 y1 "com/example/hifadhi/hifadhi/mapping/TableGeneratorMapping" "initialValue" "I" (.int i')) (G6 : Fld Z h0 y1 "com/example/hifadhi/hifadhi/mapping/TableGeneratorMapping" "allocationSize" "I" (.int j')) (P1 : Str Z h0 r1 x1) (P2 : Str Z h0 r2 x2) (P3 : Str Z h0 r3 x3) (P4 : Str Z h0 r4 x4) (Q1 : Str Z h0 t1 z1) (Q2 : Str Z h0 t2 z2) (Q3 : Str Z h0 t3 z3) (Q4 : Str Z h0 t4 z4) (cs : Int32) (Sc : Sta Z h0 "java/lang/String" "COMPACT_STRINGS" "Z" (.int cs)) (hcs : ¬ cs = 0) :
    Ctr l Z (⟨"com/example/hifadhi/hifadhi/mapping/TableGeneratorMapping", "equals", "(Ljava/lang/Object;)Z"⟩ : MethodName) prog_7_method_8_code 3 (some .boolean) [] (own_room 2 0 0 60) #[(.ref y0), (.ref y1)] h0 n0 0 0 (fun v h => v = some (.int (own_all x1 x2 x3 x4 z1 z2 z3 z4 i j i' j')) ∧ h = h0) := by
  refine Ctr.of (plainFor_of_name own_pn2) ?_
  intro p e s m below meth c T0 hx hby hml hret hlk hnm hown hZ X0
  rw [own_ef139 m (y0) (y1)]
  refine g_aloadN X0 hx hby own_d7_0 rfl rfl (pc' := 1) rfl ?_
  refine g_instY X0 hx hby hZ hown (hw _ (List.mem_of_getElem? (i := 50) rfl)) (Ins.self Ex) own_d7_1 (pc' := 4) rfl (fun T140 X140 => ?_)
  refine g_if_ne X140 hx hby own_d7_4 (by decide) (pc' := 9) (by decide) (pc2 := 7) rfl (fun c4_141 => ?_) (fun q => absurd q (by decide))
  refine g_aloadN X140 hx hby own_d7_9 rfl rfl (pc' := 10) rfl ?_
  refine g_castY X140 hx hby hZ hown (hw _ (List.mem_of_getElem? (i := 50) rfl)) (Ins.self Ex) own_d7_10 (pc' := 13) rfl (fun T142 X142 => ?_)
  refine g_astoreN (L' := #[.val (.ref y0), .val (.ref y1), .val (.ref y1)]) X142 hx hby own_d7_13 rfl rfl (pc' := 14) rfl ?_
  refine g_aloadN X142 hx hby own_d7_14 rfl rfl (pc' := 15) rfl ?_
  refine g_getF X142 hx hby hZ hown (hw _ (List.mem_of_getElem? (i := 33) rfl)) Via.refl F1 own_d7_15 (pc' := 18) rfl (fun T143 X143 => ?_)
  refine g_aloadN X143 hx hby own_d7_18 rfl rfl (pc' := 19) rfl ?_
  refine g_getF X143 hx hby hZ hown (hw _ (List.mem_of_getElem? (i := 33) rfl)) Via.refl G1 own_d7_19 (pc' := 22) rfl (fun T144 X144 => ?_)
  refine g_callV (argsL := [(.ref t1)]) (S := []) (a := r1) X144 hx hby hZ (y := (⟨"java/lang/String", "equals", "(Ljava/lang/Object;)Z"⟩ : MethodName)) (y' := (⟨"java/lang/String", "equals", "(Ljava/lang/Object;)Z"⟩ : MethodName)) hown (hw _ (List.mem_of_getElem? (i := 54) rfl)) (hw _ (List.mem_of_getElem? (i := 55) rfl)) (notFace_of_selects (args := #[]) (mvT hZ (hw _ (List.mem_of_getElem? (i := 57) rfl)))) (hw _ (List.mem_of_getElem? (i := 57) rfl)) (hw _ (List.mem_of_getElem? (i := 56) rfl)) (hw _ (List.mem_of_getElem? (i := 5) rfl)) (hw _ (List.mem_of_getElem? (i := 58) rfl)) (by decide) P1.exa (own_seq l Z a0 hw r1 t1 x1 z1 h0 n0 P1 Q1 cs Sc hcs) (by rw [hml]; rfl) (lenOf own_pd4 rfl) rfl own_d7_22 (by decide) (W := 0) (by exact Nat.le_of_eq rfl) (by decide) (by decide) (by decide) (pc' := 25) rfl (fun T145 v145 X145 hQ145 => ?_)
  obtain ⟨rfl, e145⟩ := hQ145
  rw [e145] at X145
  show Gl p e below n0 _ _ (T145.setTop (mkF m 25 #[.val (.ref y0), .val (.ref y1), .val (.ref y1)] [(.int (own_e x1 z1))]))
  refine g_if_eq X145 hx hby own_d7_25 (by decide) (pc' := 96) (by decide) (pc2 := 28) rfl (fun c25_146 => ?_) (fun c25_146 => ?_)
  · refine g_iconst (v := 0) X145 hx hby own_d7_96 rfl (pc' := 97) rfl ?_
    exact g_retN X145 hx hby hret hlk (by simp) own_d7_97 ⟨congrArg (fun z => some (Value.int z)) (show (0 : Int32) = own_all x1 x2 x3 x4 z1 z2 z3 z4 i j i' j' by simp only [own_all, c25_146, if_true, if_false]), rfl⟩ (by decide) (by decide)
  · refine g_aloadN X145 hx hby own_d7_28 rfl rfl (pc' := 29) rfl ?_
    refine g_getF X145 hx hby hZ hown (hw _ (List.mem_of_getElem? (i := 35) rfl)) Via.refl F2 own_d7_29 (pc' := 32) rfl (fun T147 X147 => ?_)
    refine g_aloadN X147 hx hby own_d7_32 rfl rfl (pc' := 33) rfl ?_
    refine g_getF X147 hx hby hZ hown (hw _ (List.mem_of_getElem? (i := 35) rfl)) Via.refl G2 own_d7_33 (pc' := 36) rfl (fun T148 X148 => ?_)
    refine g_callV (argsL := [(.ref t2)]) (S := []) (a := r2) X148 hx hby hZ (y := (⟨"java/lang/String", "equals", "(Ljava/lang/Object;)Z"⟩ : MethodName)) (y' := (⟨"java/lang/String", "equals", "(Ljava/lang/Object;)Z"⟩ : MethodName)) hown (hw _ (List.mem_of_getElem? (i := 54) rfl)) (hw _ (List.mem_of_getElem? (i := 55) rfl)) (notFace_of_selects (args := #[]) (mvT hZ (hw _ (List.mem_of_getElem? (i := 57) rfl)))) (hw _ (List.mem_of_getElem? (i := 57) rfl)) (hw _ (List.mem_of_getElem? (i := 56) rfl)) (hw _ (List.mem_of_getElem? (i := 5) rfl)) (hw _ (List.mem_of_getElem? (i := 58) rfl)) (by decide) P2.exa (own_seq l Z a0 hw r2 t2 x2 z2 h0 n0 P2 Q2 cs Sc hcs) (by rw [hml]; rfl) (lenOf own_pd4 rfl) rfl own_d7_36 (by decide) (W := 0) (by exact Nat.le_of_eq rfl) (by decide) (by decide) (by decide) (pc' := 39) rfl (fun T149 v149 X149 hQ149 => ?_)
    obtain ⟨rfl, e149⟩ := hQ149
    rw [e149] at X149
    show Gl p e below n0 _ _ (T149.setTop (mkF m 39 #[.val (.ref y0), .val (.ref y1), .val (.ref y1)] [(.int (own_e x2 z2))]))
    refine g_if_eq X149 hx hby own_d7_39 (by decide) (pc' := 96) (by decide) (pc2 := 42) rfl (fun c39_150 => ?_) (fun c39_150 => ?_)
    · refine g_iconst (v := 0) X149 hx hby own_d7_96 rfl (pc' := 97) rfl ?_
      exact g_retN X149 hx hby hret hlk (by simp) own_d7_97 ⟨congrArg (fun z => some (Value.int z)) (show (0 : Int32) = own_all x1 x2 x3 x4 z1 z2 z3 z4 i j i' j' by simp only [own_all, c25_146, c39_150, if_true, if_false]), rfl⟩ (by decide) (by decide)
    · refine g_aloadN X149 hx hby own_d7_42 rfl rfl (pc' := 43) rfl ?_
      refine g_getF X149 hx hby hZ hown (hw _ (List.mem_of_getElem? (i := 37) rfl)) Via.refl F3 own_d7_43 (pc' := 46) rfl (fun T151 X151 => ?_)
      refine g_aloadN X151 hx hby own_d7_46 rfl rfl (pc' := 47) rfl ?_
      refine g_getF X151 hx hby hZ hown (hw _ (List.mem_of_getElem? (i := 37) rfl)) Via.refl G3 own_d7_47 (pc' := 50) rfl (fun T152 X152 => ?_)
      refine g_callV (argsL := [(.ref t3)]) (S := []) (a := r3) X152 hx hby hZ (y := (⟨"java/lang/String", "equals", "(Ljava/lang/Object;)Z"⟩ : MethodName)) (y' := (⟨"java/lang/String", "equals", "(Ljava/lang/Object;)Z"⟩ : MethodName)) hown (hw _ (List.mem_of_getElem? (i := 54) rfl)) (hw _ (List.mem_of_getElem? (i := 55) rfl)) (notFace_of_selects (args := #[]) (mvT hZ (hw _ (List.mem_of_getElem? (i := 57) rfl)))) (hw _ (List.mem_of_getElem? (i := 57) rfl)) (hw _ (List.mem_of_getElem? (i := 56) rfl)) (hw _ (List.mem_of_getElem? (i := 5) rfl)) (hw _ (List.mem_of_getElem? (i := 58) rfl)) (by decide) P3.exa (own_seq l Z a0 hw r3 t3 x3 z3 h0 n0 P3 Q3 cs Sc hcs) (by rw [hml]; rfl) (lenOf own_pd4 rfl) rfl own_d7_50 (by decide) (W := 0) (by exact Nat.le_of_eq rfl) (by decide) (by decide) (by decide) (pc' := 53) rfl (fun T153 v153 X153 hQ153 => ?_)
      obtain ⟨rfl, e153⟩ := hQ153
      rw [e153] at X153
      show Gl p e below n0 _ _ (T153.setTop (mkF m 53 #[.val (.ref y0), .val (.ref y1), .val (.ref y1)] [(.int (own_e x3 z3))]))
      refine g_if_eq X153 hx hby own_d7_53 (by decide) (pc' := 96) (by decide) (pc2 := 56) rfl (fun c53_154 => ?_) (fun c53_154 => ?_)
      · refine g_iconst (v := 0) X153 hx hby own_d7_96 rfl (pc' := 97) rfl ?_
        exact g_retN X153 hx hby hret hlk (by simp) own_d7_97 ⟨congrArg (fun z => some (Value.int z)) (show (0 : Int32) = own_all x1 x2 x3 x4 z1 z2 z3 z4 i j i' j' by simp only [own_all, c25_146, c39_150, c53_154, if_true, if_false]), rfl⟩ (by decide) (by decide)
      · refine g_aloadN X153 hx hby own_d7_56 rfl rfl (pc' := 57) rfl ?_
        refine g_getF X153 hx hby hZ hown (hw _ (List.mem_of_getElem? (i := 39) rfl)) Via.refl F4 own_d7_57 (pc' := 60) rfl (fun T155 X155 => ?_)
        refine g_aloadN X155 hx hby own_d7_60 rfl rfl (pc' := 61) rfl ?_
        refine g_getF X155 hx hby hZ hown (hw _ (List.mem_of_getElem? (i := 39) rfl)) Via.refl G4 own_d7_61 (pc' := 64) rfl (fun T156 X156 => ?_)
        refine g_callV (argsL := [(.ref t4)]) (S := []) (a := r4) X156 hx hby hZ (y := (⟨"java/lang/String", "equals", "(Ljava/lang/Object;)Z"⟩ : MethodName)) (y' := (⟨"java/lang/String", "equals", "(Ljava/lang/Object;)Z"⟩ : MethodName)) hown (hw _ (List.mem_of_getElem? (i := 54) rfl)) (hw _ (List.mem_of_getElem? (i := 55) rfl)) (notFace_of_selects (args := #[]) (mvT hZ (hw _ (List.mem_of_getElem? (i := 57) rfl)))) (hw _ (List.mem_of_getElem? (i := 57) rfl)) (hw _ (List.mem_of_getElem? (i := 56) rfl)) (hw _ (List.mem_of_getElem? (i := 5) rfl)) (hw _ (List.mem_of_getElem? (i := 58) rfl)) (by decide) P4.exa (own_seq l Z a0 hw r4 t4 x4 z4 h0 n0 P4 Q4 cs Sc hcs) (by rw [hml]; rfl) (lenOf own_pd4 rfl) rfl own_d7_64 (by decide) (W := 0) (by exact Nat.le_of_eq rfl) (by decide) (by decide) (by decide) (pc' := 67) rfl (fun T157 v157 X157 hQ157 => ?_)
        obtain ⟨rfl, e157⟩ := hQ157
        rw [e157] at X157
        show Gl p e below n0 _ _ (T157.setTop (mkF m 67 #[.val (.ref y0), .val (.ref y1), .val (.ref y1)] [(.int (own_e x4 z4))]))
        refine g_if_eq X157 hx hby own_d7_67 (by decide) (pc' := 96) (by decide) (pc2 := 70) rfl (fun c67_158 => ?_) (fun c67_158 => ?_)
        · refine g_iconst (v := 0) X157 hx hby own_d7_96 rfl (pc' := 97) rfl ?_
          exact g_retN X157 hx hby hret hlk (by simp) own_d7_97 ⟨congrArg (fun z => some (Value.int z)) (show (0 : Int32) = own_all x1 x2 x3 x4 z1 z2 z3 z4 i j i' j' by simp only [own_all, c25_146, c39_150, c53_154, c67_158, if_true, if_false]), rfl⟩ (by decide) (by decide)
        · refine g_aloadN X157 hx hby own_d7_70 rfl rfl (pc' := 71) rfl ?_
          refine g_getF X157 hx hby hZ hown (hw _ (List.mem_of_getElem? (i := 41) rfl)) Via.refl F5 own_d7_71 (pc' := 74) rfl (fun T159 X159 => ?_)
          refine g_aloadN X159 hx hby own_d7_74 rfl rfl (pc' := 75) rfl ?_
          refine g_getF X159 hx hby hZ hown (hw _ (List.mem_of_getElem? (i := 41) rfl)) Via.refl G5 own_d7_75 (pc' := 78) rfl (fun T160 X160 => ?_)
          refine g_icmp_ne X160 hx hby own_d7_78 (by decide) (pc' := 96) (by decide) (pc2 := 81) rfl (fun c78_161 => ?_) (fun c78_161 => ?_)
          · refine g_iconst (v := 0) X160 hx hby own_d7_96 rfl (pc' := 97) rfl ?_
            exact g_retN X160 hx hby hret hlk (by simp) own_d7_97 ⟨congrArg (fun z => some (Value.int z)) (show (0 : Int32) = own_all x1 x2 x3 x4 z1 z2 z3 z4 i j i' j' by simp only [own_all, c25_146, c39_150, c53_154, c67_158, c78_161, if_true, if_false]), rfl⟩ (by decide) (by decide)
          · refine g_aloadN X160 hx hby own_d7_81 rfl rfl (pc' := 82) rfl ?_
            refine g_getF X160 hx hby hZ hown (hw _ (List.mem_of_getElem? (i := 43) rfl)) Via.refl F6 own_d7_82 (pc' := 85) rfl (fun T162 X162 => ?_)
            refine g_aloadN X162 hx hby own_d7_85 rfl rfl (pc' := 86) rfl ?_
            refine g_getF X162 hx hby hZ hown (hw _ (List.mem_of_getElem? (i := 43) rfl)) Via.refl G6 own_d7_86 (pc' := 89) rfl (fun T163 X163 => ?_)
            refine g_icmp_ne X163 hx hby own_d7_89 (by decide) (pc' := 96) (by decide) (pc2 := 92) rfl (fun c89_164 => ?_) (fun c89_164 => ?_)
            · refine g_iconst (v := 0) X163 hx hby own_d7_96 rfl (pc' := 97) rfl ?_
              exact g_retN X163 hx hby hret hlk (by simp) own_d7_97 ⟨congrArg (fun z => some (Value.int z)) (show (0 : Int32) = own_all x1 x2 x3 x4 z1 z2 z3 z4 i j i' j' by simp only [own_all, c25_146, c39_150, c53_154, c67_158, c78_161, c89_164, if_true, if_false]), rfl⟩ (by decide) (by decide)
            · refine g_iconst (v := 1) X163 hx hby own_d7_92 rfl (pc' := 93) rfl ?_
              refine g_goto X163 hx hby own_d7_93 (by decide) (pc' := 97) (by decide) ?_
              exact g_retN X163 hx hby hret hlk (by simp) own_d7_97 ⟨congrArg (fun z => some (Value.int z)) (show (1 : Int32) = own_all x1 x2 x3 x4 z1 z2 z3 z4 i j i' j' by simp only [own_all, c25_146, c39_150, c53_154, c67_158, c78_161, c89_164, if_true, if_false]), rfl⟩ (by decide) (by decide)
set_option maxRecDepth 65536 in
set_option maxHeartbeats 40000000 in
theorem own_ef165 (m : MethodId) (y0 : Int32) (y1 : Int32) (y2 : Int32) (y3 : Int32) (y4 : Int32) (y5 : Int64)  : entryFrame m #[(.int y0), (.int y1), (.int y2), (.int y3), (.int y4), (.long y5)] maxLocals = mkF m 0 #[.val (.int y0), .val (.int y1), .val (.int y2), .val (.int y3), .val (.int y4), .val (.long y5), .second, .unset, .unset, .unset, .unset, .unset, .unset, .unset, .unset, .unset, .unset, .unset, .unset, .unset, .unset, .unset, .unset, .unset, .unset, .unset, .unset] [] := by first | (simp [entryFrame, mkF, argsToLocals, Value.category, maxLocals]; done) | rfl
theorem own_pn3 : plainName "com/example/hifadhi/hifadhi/mapping/TableGeneratorMappingEqualsPinLaw" = true := by first | (simp [plainName, overriddenIn]; done) | decide +kernel
theorem own_pd5 : parseMethodDescriptor "(C)Ljava/lang/String;" = some ⟨[.char], (some (.object "java/lang/String"))⟩ := by decide +kernel
theorem own_pd6 : parseMethodDescriptor "(Ljava/lang/String;Ljava/lang/String;Ljava/lang/String;Ljava/lang/String;II)V" = some ⟨[(.object "java/lang/String"), (.object "java/lang/String"), (.object "java/lang/String"), (.object "java/lang/String"), .int, .int], none⟩ := by decide +kernel
set_option maxRecDepth 65536 in
set_option maxHeartbeats 40000000 in
theorem own_rm0 (l : Launch) (Z : State) (a0 : Array Value) (hw : ∀ d ∈ tables_1, d.before a0 Z = true) (y0 y1 y2 y3 y4 : Int32) (y5 : Int64) (h0 : Heap) (n0 : Nat) (Z0 : n0 ≤ h0.size) (cs : Int32) (Sc : Sta Z h0 "java/lang/String" "COMPACT_STRINGS" "Z" (.int cs)) (hcs : ¬ cs = 0) :
    Ctr l Z x code maxLocals ret tables_1 room_1 #[(.int y0), (.int y1), (.int y2), (.int y3), (.int y4), (.long y5)] h0 n0 18 52 (fun v h => v = some (.int 1)) := by
  refine Ctr.of (plainFor_of_name own_pn3) ?_
  intro p e s m below meth c T0 hx hby hml hret hlk hnm hown hZ X0
  rw [own_ef165 m (y0) (y1) (y2) (y3) (y4) (y5)]
  refine g_lload X0 hx hby at_0 rfl (pc' := 2) rfl ?_
  refine g_l2i X0 hx hby at_2 (pc' := 3) rfl ?_
  refine g_istore (L' := #[.val (.int y0), .val (.int y1), .val (.int y2), .val (.int y3), .val (.int y4), .val (.long y5), .second, .val (.int (y5.toInt32)), .unset, .unset, .unset, .unset, .unset, .unset, .unset, .unset, .unset, .unset, .unset, .unset, .unset, .unset, .unset, .unset, .unset, .unset, .unset]) X0 hx hby at_3 rfl (pc' := 5) rfl ?_
  refine g_lload X0 hx hby at_5 rfl (pc' := 7) rfl ?_
  refine g_bipush (v := 32) X0 hx hby at_7 rfl (pc' := 9) rfl ?_
  refine g_lushr X0 hx hby at_9 (pc' := 10) rfl ?_
  refine g_l2i X0 hx hby at_10 (pc' := 11) rfl ?_
  refine g_istore (L' := #[.val (.int y0), .val (.int y1), .val (.int y2), .val (.int y3), .val (.int y4), .val (.long y5), .second, .val (.int (y5.toInt32)), .val (.int (((y5.toUInt64 >>> ((32 : Int32) &&& 0x3f).toInt64.toUInt64).toInt64).toInt32)), .unset, .unset, .unset, .unset, .unset, .unset, .unset, .unset, .unset, .unset, .unset, .unset, .unset, .unset, .unset, .unset, .unset, .unset]) X0 hx hby at_11 rfl (pc' := 13) rfl ?_
  refine g_iloadN X0 hx hby at_13 rfl (pc' := 14) rfl ?_
  refine g_sipush (v := 255) X0 hx hby at_14 rfl (pc' := 17) rfl ?_
  refine g_iand X0 hx hby at_17 (pc' := 18) rfl ?_
  refine g_i2c X0 hx hby at_18 (pc' := 19) rfl ?_
  refine g_istore (L' := #[.val (.int y0), .val (.int y1), .val (.int y2), .val (.int y3), .val (.int y4), .val (.long y5), .second, .val (.int (y5.toInt32)), .val (.int (((y5.toUInt64 >>> ((32 : Int32) &&& 0x3f).toInt64.toUInt64).toInt64).toInt32)), .val (.int ((y0 &&& (255 : Int32)).toUInt32.toUInt16.toUInt32.toInt32)), .unset, .unset, .unset, .unset, .unset, .unset, .unset, .unset, .unset, .unset, .unset, .unset, .unset, .unset, .unset, .unset, .unset]) X0 hx hby at_19 rfl (pc' := 21) rfl ?_
  obtain ⟨z166, hz166⟩ : ∃ z, z = ((y0 &&& (255 : Int32)).toUInt32.toUInt16.toUInt32.toInt32) := ⟨_, rfl⟩
  rw [← hz166]
  have rg167 : 0 ≤ z166.toInt ∧ z166.toInt ≤ 255 := by rw [hz166]; exact own_ch _
  refine g_iloadN X0 hx hby at_21 rfl (pc' := 22) rfl ?_
  refine g_bipush (v := 8) X0 hx hby at_22 rfl (pc' := 24) rfl ?_
  refine g_iushr X0 hx hby at_24 (pc' := 25) rfl ?_
  refine g_sipush (v := 255) X0 hx hby at_25 rfl (pc' := 28) rfl ?_
  refine g_iand X0 hx hby at_28 (pc' := 29) rfl ?_
  refine g_i2c X0 hx hby at_29 (pc' := 30) rfl ?_
  refine g_istore (L' := #[.val (.int y0), .val (.int y1), .val (.int y2), .val (.int y3), .val (.int y4), .val (.long y5), .second, .val (.int (y5.toInt32)), .val (.int (((y5.toUInt64 >>> ((32 : Int32) &&& 0x3f).toInt64.toUInt64).toInt64).toInt32)), .val (.int z166), .val (.int ((((y0.toUInt32 >>> ((8 : Int32) &&& 31).toUInt32).toInt32) &&& (255 : Int32)).toUInt32.toUInt16.toUInt32.toInt32)), .unset, .unset, .unset, .unset, .unset, .unset, .unset, .unset, .unset, .unset, .unset, .unset, .unset, .unset, .unset, .unset]) X0 hx hby at_30 rfl (pc' := 32) rfl ?_
  obtain ⟨z168, hz168⟩ : ∃ z, z = ((((y0.toUInt32 >>> ((8 : Int32) &&& 31).toUInt32).toInt32) &&& (255 : Int32)).toUInt32.toUInt16.toUInt32.toInt32) := ⟨_, rfl⟩
  rw [← hz168]
  have rg169 : 0 ≤ z168.toInt ∧ z168.toInt ≤ 255 := by rw [hz168]; exact own_ch _
  refine g_iloadN X0 hx hby at_32 rfl (pc' := 33) rfl ?_
  refine g_bipush (v := 16) X0 hx hby at_33 rfl (pc' := 35) rfl ?_
  refine g_iushr X0 hx hby at_35 (pc' := 36) rfl ?_
  refine g_sipush (v := 255) X0 hx hby at_36 rfl (pc' := 39) rfl ?_
  refine g_iand X0 hx hby at_39 (pc' := 40) rfl ?_
  refine g_i2c X0 hx hby at_40 (pc' := 41) rfl ?_
  refine g_istore (L' := #[.val (.int y0), .val (.int y1), .val (.int y2), .val (.int y3), .val (.int y4), .val (.long y5), .second, .val (.int (y5.toInt32)), .val (.int (((y5.toUInt64 >>> ((32 : Int32) &&& 0x3f).toInt64.toUInt64).toInt64).toInt32)), .val (.int z166), .val (.int z168), .val (.int ((((y0.toUInt32 >>> ((16 : Int32) &&& 31).toUInt32).toInt32) &&& (255 : Int32)).toUInt32.toUInt16.toUInt32.toInt32)), .unset, .unset, .unset, .unset, .unset, .unset, .unset, .unset, .unset, .unset, .unset, .unset, .unset, .unset, .unset]) X0 hx hby at_41 rfl (pc' := 43) rfl ?_
  obtain ⟨z170, hz170⟩ : ∃ z, z = ((((y0.toUInt32 >>> ((16 : Int32) &&& 31).toUInt32).toInt32) &&& (255 : Int32)).toUInt32.toUInt16.toUInt32.toInt32) := ⟨_, rfl⟩
  rw [← hz170]
  have rg171 : 0 ≤ z170.toInt ∧ z170.toInt ≤ 255 := by rw [hz170]; exact own_ch _
  refine g_iloadN X0 hx hby at_43 rfl (pc' := 44) rfl ?_
  refine g_bipush (v := 24) X0 hx hby at_44 rfl (pc' := 46) rfl ?_
  refine g_iushr X0 hx hby at_46 (pc' := 47) rfl ?_
  refine g_sipush (v := 255) X0 hx hby at_47 rfl (pc' := 50) rfl ?_
  refine g_iand X0 hx hby at_50 (pc' := 51) rfl ?_
  refine g_i2c X0 hx hby at_51 (pc' := 52) rfl ?_
  refine g_istore (L' := #[.val (.int y0), .val (.int y1), .val (.int y2), .val (.int y3), .val (.int y4), .val (.long y5), .second, .val (.int (y5.toInt32)), .val (.int (((y5.toUInt64 >>> ((32 : Int32) &&& 0x3f).toInt64.toUInt64).toInt64).toInt32)), .val (.int z166), .val (.int z168), .val (.int z170), .val (.int ((((y0.toUInt32 >>> ((24 : Int32) &&& 31).toUInt32).toInt32) &&& (255 : Int32)).toUInt32.toUInt16.toUInt32.toInt32)), .unset, .unset, .unset, .unset, .unset, .unset, .unset, .unset, .unset, .unset, .unset, .unset, .unset, .unset]) X0 hx hby at_52 rfl (pc' := 54) rfl ?_
  obtain ⟨z172, hz172⟩ : ∃ z, z = ((((y0.toUInt32 >>> ((24 : Int32) &&& 31).toUInt32).toInt32) &&& (255 : Int32)).toUInt32.toUInt16.toUInt32.toInt32) := ⟨_, rfl⟩
  rw [← hz172]
  have rg173 : 0 ≤ z172.toInt ∧ z172.toInt ≤ 255 := by rw [hz172]; exact own_ch _
  refine g_iloadN X0 hx hby at_54 rfl (pc' := 55) rfl ?_
  refine g_sipush (v := 255) X0 hx hby at_55 rfl (pc' := 58) rfl ?_
  refine g_iand X0 hx hby at_58 (pc' := 59) rfl ?_
  refine g_i2c X0 hx hby at_59 (pc' := 60) rfl ?_
  refine g_istore (L' := #[.val (.int y0), .val (.int y1), .val (.int y2), .val (.int y3), .val (.int y4), .val (.long y5), .second, .val (.int (y5.toInt32)), .val (.int (((y5.toUInt64 >>> ((32 : Int32) &&& 0x3f).toInt64.toUInt64).toInt64).toInt32)), .val (.int z166), .val (.int z168), .val (.int z170), .val (.int z172), .val (.int ((y1 &&& (255 : Int32)).toUInt32.toUInt16.toUInt32.toInt32)), .unset, .unset, .unset, .unset, .unset, .unset, .unset, .unset, .unset, .unset, .unset, .unset, .unset]) X0 hx hby at_60 rfl (pc' := 62) rfl ?_
  obtain ⟨z174, hz174⟩ : ∃ z, z = ((y1 &&& (255 : Int32)).toUInt32.toUInt16.toUInt32.toInt32) := ⟨_, rfl⟩
  rw [← hz174]
  have rg175 : 0 ≤ z174.toInt ∧ z174.toInt ≤ 255 := by rw [hz174]; exact own_ch _
  refine g_iloadN X0 hx hby at_62 rfl (pc' := 63) rfl ?_
  refine g_bipush (v := 8) X0 hx hby at_63 rfl (pc' := 65) rfl ?_
  refine g_iushr X0 hx hby at_65 (pc' := 66) rfl ?_
  refine g_sipush (v := 255) X0 hx hby at_66 rfl (pc' := 69) rfl ?_
  refine g_iand X0 hx hby at_69 (pc' := 70) rfl ?_
  refine g_i2c X0 hx hby at_70 (pc' := 71) rfl ?_
  refine g_istore (L' := #[.val (.int y0), .val (.int y1), .val (.int y2), .val (.int y3), .val (.int y4), .val (.long y5), .second, .val (.int (y5.toInt32)), .val (.int (((y5.toUInt64 >>> ((32 : Int32) &&& 0x3f).toInt64.toUInt64).toInt64).toInt32)), .val (.int z166), .val (.int z168), .val (.int z170), .val (.int z172), .val (.int z174), .val (.int ((((y1.toUInt32 >>> ((8 : Int32) &&& 31).toUInt32).toInt32) &&& (255 : Int32)).toUInt32.toUInt16.toUInt32.toInt32)), .unset, .unset, .unset, .unset, .unset, .unset, .unset, .unset, .unset, .unset, .unset, .unset]) X0 hx hby at_71 rfl (pc' := 73) rfl ?_
  obtain ⟨z176, hz176⟩ : ∃ z, z = ((((y1.toUInt32 >>> ((8 : Int32) &&& 31).toUInt32).toInt32) &&& (255 : Int32)).toUInt32.toUInt16.toUInt32.toInt32) := ⟨_, rfl⟩
  rw [← hz176]
  have rg177 : 0 ≤ z176.toInt ∧ z176.toInt ≤ 255 := by rw [hz176]; exact own_ch _
  refine g_iloadN X0 hx hby at_73 rfl (pc' := 74) rfl ?_
  refine g_bipush (v := 16) X0 hx hby at_74 rfl (pc' := 76) rfl ?_
  refine g_iushr X0 hx hby at_76 (pc' := 77) rfl ?_
  refine g_sipush (v := 255) X0 hx hby at_77 rfl (pc' := 80) rfl ?_
  refine g_iand X0 hx hby at_80 (pc' := 81) rfl ?_
  refine g_i2c X0 hx hby at_81 (pc' := 82) rfl ?_
  refine g_istore (L' := #[.val (.int y0), .val (.int y1), .val (.int y2), .val (.int y3), .val (.int y4), .val (.long y5), .second, .val (.int (y5.toInt32)), .val (.int (((y5.toUInt64 >>> ((32 : Int32) &&& 0x3f).toInt64.toUInt64).toInt64).toInt32)), .val (.int z166), .val (.int z168), .val (.int z170), .val (.int z172), .val (.int z174), .val (.int z176), .val (.int ((((y1.toUInt32 >>> ((16 : Int32) &&& 31).toUInt32).toInt32) &&& (255 : Int32)).toUInt32.toUInt16.toUInt32.toInt32)), .unset, .unset, .unset, .unset, .unset, .unset, .unset, .unset, .unset, .unset, .unset]) X0 hx hby at_82 rfl (pc' := 84) rfl ?_
  obtain ⟨z178, hz178⟩ : ∃ z, z = ((((y1.toUInt32 >>> ((16 : Int32) &&& 31).toUInt32).toInt32) &&& (255 : Int32)).toUInt32.toUInt16.toUInt32.toInt32) := ⟨_, rfl⟩
  rw [← hz178]
  have rg179 : 0 ≤ z178.toInt ∧ z178.toInt ≤ 255 := by rw [hz178]; exact own_ch _
  refine g_iloadN X0 hx hby at_84 rfl (pc' := 85) rfl ?_
  refine g_bipush (v := 24) X0 hx hby at_85 rfl (pc' := 87) rfl ?_
  refine g_iushr X0 hx hby at_87 (pc' := 88) rfl ?_
  refine g_sipush (v := 255) X0 hx hby at_88 rfl (pc' := 91) rfl ?_
  refine g_iand X0 hx hby at_91 (pc' := 92) rfl ?_
  refine g_i2c X0 hx hby at_92 (pc' := 93) rfl ?_
  refine g_istore (L' := #[.val (.int y0), .val (.int y1), .val (.int y2), .val (.int y3), .val (.int y4), .val (.long y5), .second, .val (.int (y5.toInt32)), .val (.int (((y5.toUInt64 >>> ((32 : Int32) &&& 0x3f).toInt64.toUInt64).toInt64).toInt32)), .val (.int z166), .val (.int z168), .val (.int z170), .val (.int z172), .val (.int z174), .val (.int z176), .val (.int z178), .val (.int ((((y1.toUInt32 >>> ((24 : Int32) &&& 31).toUInt32).toInt32) &&& (255 : Int32)).toUInt32.toUInt16.toUInt32.toInt32)), .unset, .unset, .unset, .unset, .unset, .unset, .unset, .unset, .unset, .unset]) X0 hx hby at_93 rfl (pc' := 95) rfl ?_
  obtain ⟨z180, hz180⟩ : ∃ z, z = ((((y1.toUInt32 >>> ((24 : Int32) &&& 31).toUInt32).toInt32) &&& (255 : Int32)).toUInt32.toUInt16.toUInt32.toInt32) := ⟨_, rfl⟩
  rw [← hz180]
  have rg181 : 0 ≤ z180.toInt ∧ z180.toInt ≤ 255 := by rw [hz180]; exact own_ch _
  refine g_iloadN X0 hx hby at_95 rfl (pc' := 96) rfl ?_
  refine g_iconst (v := 1) X0 hx hby at_96 rfl (pc' := 97) rfl ?_
  refine g_iand X0 hx hby at_97 (pc' := 98) rfl ?_
  have J108 : ∀ vA : Int32, 0 ≤ vA.toInt ∧ vA.toInt ≤ 255 → Gl p e below n0 (Fn s 18 52) (fun v h => v = some (.int 1)) (T0.setTop (mkF m 108 #[.val (.int y0), .val (.int y1), .val (.int y2), .val (.int y3), .val (.int y4), .val (.long y5), .second, .val (.int (y5.toInt32)), .val (.int (((y5.toUInt64 >>> ((32 : Int32) &&& 0x3f).toInt64.toUInt64).toInt64).toInt32)), .val (.int z166), .val (.int z168), .val (.int z170), .val (.int z172), .val (.int z174), .val (.int z176), .val (.int z178), .val (.int z180), .unset, .unset, .unset, .unset, .unset, .unset, .unset, .unset, .unset, .unset] [(.int vA)])) := by
    intro vA rg_vA
    refine g_istore (L' := #[.val (.int y0), .val (.int y1), .val (.int y2), .val (.int y3), .val (.int y4), .val (.long y5), .second, .val (.int (y5.toInt32)), .val (.int (((y5.toUInt64 >>> ((32 : Int32) &&& 0x3f).toInt64.toUInt64).toInt64).toInt32)), .val (.int z166), .val (.int z168), .val (.int z170), .val (.int z172), .val (.int z174), .val (.int z176), .val (.int z178), .val (.int z180), .val (.int vA), .unset, .unset, .unset, .unset, .unset, .unset, .unset, .unset, .unset]) X0 hx hby at_108 rfl (pc' := 110) rfl ?_
    refine g_iloadN X0 hx hby at_110 rfl (pc' := 111) rfl ?_
    refine g_iconst (v := 2) X0 hx hby at_111 rfl (pc' := 112) rfl ?_
    refine g_iand X0 hx hby at_112 (pc' := 113) rfl ?_
    have J123 : ∀ vB : Int32, 0 ≤ vB.toInt ∧ vB.toInt ≤ 255 → Gl p e below n0 (Fn s 18 52) (fun v h => v = some (.int 1)) (T0.setTop (mkF m 123 #[.val (.int y0), .val (.int y1), .val (.int y2), .val (.int y3), .val (.int y4), .val (.long y5), .second, .val (.int (y5.toInt32)), .val (.int (((y5.toUInt64 >>> ((32 : Int32) &&& 0x3f).toInt64.toUInt64).toInt64).toInt32)), .val (.int z166), .val (.int z168), .val (.int z170), .val (.int z172), .val (.int z174), .val (.int z176), .val (.int z178), .val (.int z180), .val (.int vA), .unset, .unset, .unset, .unset, .unset, .unset, .unset, .unset, .unset] [(.int vB)])) := by
      intro vB rg_vB
      refine g_istore (L' := #[.val (.int y0), .val (.int y1), .val (.int y2), .val (.int y3), .val (.int y4), .val (.long y5), .second, .val (.int (y5.toInt32)), .val (.int (((y5.toUInt64 >>> ((32 : Int32) &&& 0x3f).toInt64.toUInt64).toInt64).toInt32)), .val (.int z166), .val (.int z168), .val (.int z170), .val (.int z172), .val (.int z174), .val (.int z176), .val (.int z178), .val (.int z180), .val (.int vA), .val (.int vB), .unset, .unset, .unset, .unset, .unset, .unset, .unset, .unset]) X0 hx hby at_123 rfl (pc' := 125) rfl ?_
      refine g_iloadN X0 hx hby at_125 rfl (pc' := 126) rfl ?_
      refine g_iconst (v := 4) X0 hx hby at_126 rfl (pc' := 127) rfl ?_
      refine g_iand X0 hx hby at_127 (pc' := 128) rfl ?_
      have J138 : ∀ vC : Int32, 0 ≤ vC.toInt ∧ vC.toInt ≤ 255 → Gl p e below n0 (Fn s 18 52) (fun v h => v = some (.int 1)) (T0.setTop (mkF m 138 #[.val (.int y0), .val (.int y1), .val (.int y2), .val (.int y3), .val (.int y4), .val (.long y5), .second, .val (.int (y5.toInt32)), .val (.int (((y5.toUInt64 >>> ((32 : Int32) &&& 0x3f).toInt64.toUInt64).toInt64).toInt32)), .val (.int z166), .val (.int z168), .val (.int z170), .val (.int z172), .val (.int z174), .val (.int z176), .val (.int z178), .val (.int z180), .val (.int vA), .val (.int vB), .unset, .unset, .unset, .unset, .unset, .unset, .unset, .unset] [(.int vC)])) := by
        intro vC rg_vC
        refine g_istore (L' := #[.val (.int y0), .val (.int y1), .val (.int y2), .val (.int y3), .val (.int y4), .val (.long y5), .second, .val (.int (y5.toInt32)), .val (.int (((y5.toUInt64 >>> ((32 : Int32) &&& 0x3f).toInt64.toUInt64).toInt64).toInt32)), .val (.int z166), .val (.int z168), .val (.int z170), .val (.int z172), .val (.int z174), .val (.int z176), .val (.int z178), .val (.int z180), .val (.int vA), .val (.int vB), .val (.int vC), .unset, .unset, .unset, .unset, .unset, .unset, .unset]) X0 hx hby at_138 rfl (pc' := 140) rfl ?_
        refine g_iloadN X0 hx hby at_140 rfl (pc' := 141) rfl ?_
        refine g_bipush (v := 8) X0 hx hby at_141 rfl (pc' := 143) rfl ?_
        refine g_iand X0 hx hby at_143 (pc' := 144) rfl ?_
        have J154 : ∀ vD : Int32, 0 ≤ vD.toInt ∧ vD.toInt ≤ 255 → Gl p e below n0 (Fn s 18 52) (fun v h => v = some (.int 1)) (T0.setTop (mkF m 154 #[.val (.int y0), .val (.int y1), .val (.int y2), .val (.int y3), .val (.int y4), .val (.long y5), .second, .val (.int (y5.toInt32)), .val (.int (((y5.toUInt64 >>> ((32 : Int32) &&& 0x3f).toInt64.toUInt64).toInt64).toInt32)), .val (.int z166), .val (.int z168), .val (.int z170), .val (.int z172), .val (.int z174), .val (.int z176), .val (.int z178), .val (.int z180), .val (.int vA), .val (.int vB), .val (.int vC), .unset, .unset, .unset, .unset, .unset, .unset, .unset] [(.int vD)])) := by
          intro vD rg_vD
          refine g_istore (L' := #[.val (.int y0), .val (.int y1), .val (.int y2), .val (.int y3), .val (.int y4), .val (.long y5), .second, .val (.int (y5.toInt32)), .val (.int (((y5.toUInt64 >>> ((32 : Int32) &&& 0x3f).toInt64.toUInt64).toInt64).toInt32)), .val (.int z166), .val (.int z168), .val (.int z170), .val (.int z172), .val (.int z174), .val (.int z176), .val (.int z178), .val (.int z180), .val (.int vA), .val (.int vB), .val (.int vC), .val (.int vD), .unset, .unset, .unset, .unset, .unset, .unset]) X0 hx hby at_154 rfl (pc' := 156) rfl ?_
          refine g_iloadN X0 hx hby at_156 rfl (pc' := 157) rfl ?_
          refine g_bipush (v := 16) X0 hx hby at_157 rfl (pc' := 159) rfl ?_
          refine g_iand X0 hx hby at_159 (pc' := 160) rfl ?_
          have J169 : ∀ vE : Int32, Gl p e below n0 (Fn s 18 52) (fun v h => v = some (.int 1)) (T0.setTop (mkF m 169 #[.val (.int y0), .val (.int y1), .val (.int y2), .val (.int y3), .val (.int y4), .val (.long y5), .second, .val (.int (y5.toInt32)), .val (.int (((y5.toUInt64 >>> ((32 : Int32) &&& 0x3f).toInt64.toUInt64).toInt64).toInt32)), .val (.int z166), .val (.int z168), .val (.int z170), .val (.int z172), .val (.int z174), .val (.int z176), .val (.int z178), .val (.int z180), .val (.int vA), .val (.int vB), .val (.int vC), .val (.int vD), .unset, .unset, .unset, .unset, .unset, .unset] [(.int vE)])) := by
            intro vE
            refine g_istore (L' := #[.val (.int y0), .val (.int y1), .val (.int y2), .val (.int y3), .val (.int y4), .val (.long y5), .second, .val (.int (y5.toInt32)), .val (.int (((y5.toUInt64 >>> ((32 : Int32) &&& 0x3f).toInt64.toUInt64).toInt64).toInt32)), .val (.int z166), .val (.int z168), .val (.int z170), .val (.int z172), .val (.int z174), .val (.int z176), .val (.int z178), .val (.int z180), .val (.int vA), .val (.int vB), .val (.int vC), .val (.int vD), .val (.int vE), .unset, .unset, .unset, .unset, .unset]) X0 hx hby at_169 rfl (pc' := 171) rfl ?_
            refine g_iloadN X0 hx hby at_171 rfl (pc' := 172) rfl ?_
            refine g_bipush (v := 32) X0 hx hby at_172 rfl (pc' := 174) rfl ?_
            refine g_iand X0 hx hby at_174 (pc' := 175) rfl ?_
            have J185 : ∀ vF : Int32, Gl p e below n0 (Fn s 18 52) (fun v h => v = some (.int 1)) (T0.setTop (mkF m 185 #[.val (.int y0), .val (.int y1), .val (.int y2), .val (.int y3), .val (.int y4), .val (.long y5), .second, .val (.int (y5.toInt32)), .val (.int (((y5.toUInt64 >>> ((32 : Int32) &&& 0x3f).toInt64.toUInt64).toInt64).toInt32)), .val (.int z166), .val (.int z168), .val (.int z170), .val (.int z172), .val (.int z174), .val (.int z176), .val (.int z178), .val (.int z180), .val (.int vA), .val (.int vB), .val (.int vC), .val (.int vD), .val (.int vE), .unset, .unset, .unset, .unset, .unset] [(.int vF)])) := by
              intro vF
              refine g_istore (L' := #[.val (.int y0), .val (.int y1), .val (.int y2), .val (.int y3), .val (.int y4), .val (.long y5), .second, .val (.int (y5.toInt32)), .val (.int (((y5.toUInt64 >>> ((32 : Int32) &&& 0x3f).toInt64.toUInt64).toInt64).toInt32)), .val (.int z166), .val (.int z168), .val (.int z170), .val (.int z172), .val (.int z174), .val (.int z176), .val (.int z178), .val (.int z180), .val (.int vA), .val (.int vB), .val (.int vC), .val (.int vD), .val (.int vE), .val (.int vF), .unset, .unset, .unset, .unset]) X0 hx hby at_185 rfl (pc' := 187) rfl ?_
              refine g_new X0 hx hby hZ hown (hw _ (List.mem_of_getElem? (i := 0) rfl)) (hw _ (List.mem_of_getElem? (i := 1) rfl)) (hw _ (List.mem_of_getElem? (i := 2) rfl)) at_187 (by decide) (by decide) (pc' := 190) rfl (fun T182 h182 b182 g182 X182 E182 A182 D182 => ?_)
              have nn183 : n0 ≤ b182 := by rw [g182]; exact Z0
              have hh184 : h0.size ≤ b182 := by rw [g182]; exact (Keep.refl h0 []).1
              have q185 := Sc.ext E182
              have zz186 := Nat.le_trans Z0 E182.1
              have kk187 : Keep h0 h182 [] := (Keep.refl h0 []).ext E182
              have q188 : Fld Z h182 b182 "com/example/hifadhi/hifadhi/mapping/TableGeneratorMapping" "table" "Ljava/lang/String;" .null := D182 (Or.inr (hw _ (List.mem_of_getElem? (i := 34) rfl))) (ty := (.object "java/lang/String")) (by decide)
              have q189 : Fld Z h182 b182 "com/example/hifadhi/hifadhi/mapping/TableGeneratorMapping" "keyColumn" "Ljava/lang/String;" .null := D182 (Or.inr (hw _ (List.mem_of_getElem? (i := 36) rfl))) (ty := (.object "java/lang/String")) (by decide)
              have q190 : Fld Z h182 b182 "com/example/hifadhi/hifadhi/mapping/TableGeneratorMapping" "valueColumn" "Ljava/lang/String;" .null := D182 (Or.inr (hw _ (List.mem_of_getElem? (i := 38) rfl))) (ty := (.object "java/lang/String")) (by decide)
              have q191 : Fld Z h182 b182 "com/example/hifadhi/hifadhi/mapping/TableGeneratorMapping" "keyValue" "Ljava/lang/String;" .null := D182 (Or.inr (hw _ (List.mem_of_getElem? (i := 40) rfl))) (ty := (.object "java/lang/String")) (by decide)
              have q192 : Fld Z h182 b182 "com/example/hifadhi/hifadhi/mapping/TableGeneratorMapping" "initialValue" "I" (.int (0 : Int32)) := D182 (Or.inr (hw _ (List.mem_of_getElem? (i := 42) rfl))) (ty := .int) (by decide)
              have q193 : Fld Z h182 b182 "com/example/hifadhi/hifadhi/mapping/TableGeneratorMapping" "allocationSize" "I" (.int (0 : Int32)) := D182 (Or.inr (hw _ (List.mem_of_getElem? (i := 44) rfl))) (ty := .int) (by decide)
              refine g_dup X182 hx hby at_190 rfl (pc' := 191) rfl ?_
              refine g_iload X182 hx hby at_191 rfl (pc' := 193) rfl ?_
              refine g_callS (argsL := [(.int z166)]) (S := [(.ref b182), (.ref b182)]) X182 hx hby hZ (y := (⟨"java/lang/String", "valueOf", "(C)Ljava/lang/String;"⟩ : MethodName)) hown (hw _ (List.mem_of_getElem? (i := 3) rfl)) (hw _ (List.mem_of_getElem? (i := 4) rfl)) (hw _ (List.mem_of_getElem? (i := 5) rfl)) (hw _ (List.mem_of_getElem? (i := 6) rfl)) (by decide) (own_vo l Z a0 hw z166 h182 n0 zz186 (own_n255 rg167) cs q185 hcs) (by rw [hml]; rfl) (lenOf own_pd5 rfl) rfl at_193 (by decide) (W := 2) (by exact Nat.le_of_eq rfl) (by decide) (by decide) (by decide) (pc' := 196) rfl (fun T194 v194 X194 hQ194 => ?_)
              obtain ⟨b194, rfl, ka194, p194⟩ := hQ194
              have q195 := own_sta_keep q185 ka194 all0
              have q196 := A182.keep ka194
              have q197 := q188.keep ka194 nin0
              have q198 := q189.keep ka194 nin0
              have q199 := q190.keep ka194 nin0
              have q200 := q191.keep ka194 nin0
              have q201 := q192.keep ka194 nin0
              have q202 := q193.keep ka194 nin0
              have zz203 := Nat.le_trans zz186 ka194.1
              have kk204 : Keep h0 T194.heap [] := kk187.trans ka194 all0
              show Gl p e below n0 _ _ (T194.setTop (mkF m 196 #[.val (.int y0), .val (.int y1), .val (.int y2), .val (.int y3), .val (.int y4), .val (.long y5), .second, .val (.int (y5.toInt32)), .val (.int (((y5.toUInt64 >>> ((32 : Int32) &&& 0x3f).toInt64.toUInt64).toInt64).toInt32)), .val (.int z166), .val (.int z168), .val (.int z170), .val (.int z172), .val (.int z174), .val (.int z176), .val (.int z178), .val (.int z180), .val (.int vA), .val (.int vB), .val (.int vC), .val (.int vD), .val (.int vE), .val (.int vF), .unset, .unset, .unset, .unset] [(.ref b194), (.ref b182), (.ref b182)]))
              refine g_iload X194 hx hby at_196 rfl (pc' := 198) rfl ?_
              refine g_callS (argsL := [(.int z168)]) (S := [(.ref b194), (.ref b182), (.ref b182)]) X194 hx hby hZ (y := (⟨"java/lang/String", "valueOf", "(C)Ljava/lang/String;"⟩ : MethodName)) hown (hw _ (List.mem_of_getElem? (i := 3) rfl)) (hw _ (List.mem_of_getElem? (i := 4) rfl)) (hw _ (List.mem_of_getElem? (i := 5) rfl)) (hw _ (List.mem_of_getElem? (i := 6) rfl)) (by decide) (own_vo l Z a0 hw z168 T194.heap n0 zz203 (own_n255 rg169) cs q195 hcs) (by rw [hml]; rfl) (lenOf own_pd5 rfl) rfl at_198 (by decide) (W := 3) (by exact Nat.le_of_eq rfl) (by decide) (by decide) (by decide) (pc' := 201) rfl (fun T205 v205 X205 hQ205 => ?_)
              obtain ⟨b205, rfl, ka205, p205⟩ := hQ205
              have q206 := own_sta_keep q195 ka205 all0
              have q207 := q196.keep ka205
              have q208 := q197.keep ka205 nin0
              have q209 := q198.keep ka205 nin0
              have q210 := q199.keep ka205 nin0
              have q211 := q200.keep ka205 nin0
              have q212 := q201.keep ka205 nin0
              have q213 := q202.keep ka205 nin0
              have zz214 := Nat.le_trans zz203 ka205.1
              have kk215 : Keep h0 T205.heap [] := kk204.trans ka205 all0
              have ps216 := p194.keep0 ka205
              show Gl p e below n0 _ _ (T205.setTop (mkF m 201 #[.val (.int y0), .val (.int y1), .val (.int y2), .val (.int y3), .val (.int y4), .val (.long y5), .second, .val (.int (y5.toInt32)), .val (.int (((y5.toUInt64 >>> ((32 : Int32) &&& 0x3f).toInt64.toUInt64).toInt64).toInt32)), .val (.int z166), .val (.int z168), .val (.int z170), .val (.int z172), .val (.int z174), .val (.int z176), .val (.int z178), .val (.int z180), .val (.int vA), .val (.int vB), .val (.int vC), .val (.int vD), .val (.int vE), .val (.int vF), .unset, .unset, .unset, .unset] [(.ref b205), (.ref b194), (.ref b182), (.ref b182)]))
              refine g_iload X205 hx hby at_201 rfl (pc' := 203) rfl ?_
              refine g_callS (argsL := [(.int z170)]) (S := [(.ref b205), (.ref b194), (.ref b182), (.ref b182)]) X205 hx hby hZ (y := (⟨"java/lang/String", "valueOf", "(C)Ljava/lang/String;"⟩ : MethodName)) hown (hw _ (List.mem_of_getElem? (i := 3) rfl)) (hw _ (List.mem_of_getElem? (i := 4) rfl)) (hw _ (List.mem_of_getElem? (i := 5) rfl)) (hw _ (List.mem_of_getElem? (i := 6) rfl)) (by decide) (own_vo l Z a0 hw z170 T205.heap n0 zz214 (own_n255 rg171) cs q206 hcs) (by rw [hml]; rfl) (lenOf own_pd5 rfl) rfl at_203 (by decide) (W := 4) (by exact Nat.le_of_eq rfl) (by decide) (by decide) (by decide) (pc' := 206) rfl (fun T217 v217 X217 hQ217 => ?_)
              obtain ⟨b217, rfl, ka217, p217⟩ := hQ217
              have q218 := own_sta_keep q206 ka217 all0
              have q219 := q207.keep ka217
              have q220 := q208.keep ka217 nin0
              have q221 := q209.keep ka217 nin0
              have q222 := q210.keep ka217 nin0
              have q223 := q211.keep ka217 nin0
              have q224 := q212.keep ka217 nin0
              have q225 := q213.keep ka217 nin0
              have zz226 := Nat.le_trans zz214 ka217.1
              have kk227 : Keep h0 T217.heap [] := kk215.trans ka217 all0
              have ps228 := ps216.keep0 ka217
              have ps229 := p205.keep0 ka217
              show Gl p e below n0 _ _ (T217.setTop (mkF m 206 #[.val (.int y0), .val (.int y1), .val (.int y2), .val (.int y3), .val (.int y4), .val (.long y5), .second, .val (.int (y5.toInt32)), .val (.int (((y5.toUInt64 >>> ((32 : Int32) &&& 0x3f).toInt64.toUInt64).toInt64).toInt32)), .val (.int z166), .val (.int z168), .val (.int z170), .val (.int z172), .val (.int z174), .val (.int z176), .val (.int z178), .val (.int z180), .val (.int vA), .val (.int vB), .val (.int vC), .val (.int vD), .val (.int vE), .val (.int vF), .unset, .unset, .unset, .unset] [(.ref b217), (.ref b205), (.ref b194), (.ref b182), (.ref b182)]))
              refine g_iload X217 hx hby at_206 rfl (pc' := 208) rfl ?_
              refine g_callS (argsL := [(.int z172)]) (S := [(.ref b217), (.ref b205), (.ref b194), (.ref b182), (.ref b182)]) X217 hx hby hZ (y := (⟨"java/lang/String", "valueOf", "(C)Ljava/lang/String;"⟩ : MethodName)) hown (hw _ (List.mem_of_getElem? (i := 3) rfl)) (hw _ (List.mem_of_getElem? (i := 4) rfl)) (hw _ (List.mem_of_getElem? (i := 5) rfl)) (hw _ (List.mem_of_getElem? (i := 6) rfl)) (by decide) (own_vo l Z a0 hw z172 T217.heap n0 zz226 (own_n255 rg173) cs q218 hcs) (by rw [hml]; rfl) (lenOf own_pd5 rfl) rfl at_208 (by decide) (W := 5) (by exact Nat.le_of_eq rfl) (by decide) (by decide) (by decide) (pc' := 211) rfl (fun T230 v230 X230 hQ230 => ?_)
              obtain ⟨b230, rfl, ka230, p230⟩ := hQ230
              have q231 := own_sta_keep q218 ka230 all0
              have q232 := q219.keep ka230
              have q233 := q220.keep ka230 nin0
              have q234 := q221.keep ka230 nin0
              have q235 := q222.keep ka230 nin0
              have q236 := q223.keep ka230 nin0
              have q237 := q224.keep ka230 nin0
              have q238 := q225.keep ka230 nin0
              have zz239 := Nat.le_trans zz226 ka230.1
              have kk240 : Keep h0 T230.heap [] := kk227.trans ka230 all0
              have ps241 := ps228.keep0 ka230
              have ps242 := ps229.keep0 ka230
              have ps243 := p217.keep0 ka230
              show Gl p e below n0 _ _ (T230.setTop (mkF m 211 #[.val (.int y0), .val (.int y1), .val (.int y2), .val (.int y3), .val (.int y4), .val (.long y5), .second, .val (.int (y5.toInt32)), .val (.int (((y5.toUInt64 >>> ((32 : Int32) &&& 0x3f).toInt64.toUInt64).toInt64).toInt32)), .val (.int z166), .val (.int z168), .val (.int z170), .val (.int z172), .val (.int z174), .val (.int z176), .val (.int z178), .val (.int z180), .val (.int vA), .val (.int vB), .val (.int vC), .val (.int vD), .val (.int vE), .val (.int vF), .unset, .unset, .unset, .unset] [(.ref b230), (.ref b217), (.ref b205), (.ref b194), (.ref b182), (.ref b182)]))
              refine g_iloadN X230 hx hby at_211 rfl (pc' := 212) rfl ?_
              refine g_iload X230 hx hby at_212 rfl (pc' := 214) rfl ?_
              refine g_callC (argsL := [(.ref b194), (.ref b205), (.ref b217), (.ref b230), (.int y3), (.int y4)]) (S := [(.ref b182)]) (a := b182) X230 hx hby hZ (y := (⟨"com/example/hifadhi/hifadhi/mapping/TableGeneratorMapping", "<init>", "(Ljava/lang/String;Ljava/lang/String;Ljava/lang/String;Ljava/lang/String;II)V"⟩ : MethodName)) rfl hown (hw _ (List.mem_of_getElem? (i := 29) rfl)) (hw _ (List.mem_of_getElem? (i := 30) rfl)) (hw _ (List.mem_of_getElem? (i := 2) rfl)) (hw _ (List.mem_of_getElem? (i := 31) rfl)) (by decide) (own_rm1 l Z a0 hw b182 b194 b205 b217 b230 y3 y4 T230.heap n0 zz239 q232 q233 q234 q235 q236 q237 q238 nn183) (by rw [hml]; rfl) (lenOf own_pd6 rfl) rfl at_214 (by decide) (W := 1) (by exact Nat.le_of_eq rfl) (by decide) (by decide) (by decide) (pc' := 217) rfl (fun T244 v244 X244 hQ244 => ?_)
              obtain ⟨rfl, ka244, f0_244, f1_244, f2_244, f3_244, f4_244, f5_244⟩ := hQ244
              have ps245 := ps241.keep1 ka244 q232 (hw _ (List.mem_of_getElem? (i := 1) rfl)) (by decide)
              have ps246 := ps242.keep1 ka244 q232 (hw _ (List.mem_of_getElem? (i := 1) rfl)) (by decide)
              have ps247 := ps243.keep1 ka244 q232 (hw _ (List.mem_of_getElem? (i := 1) rfl)) (by decide)
              have ps248 := p230.keep1 ka244 q232 (hw _ (List.mem_of_getElem? (i := 1) rfl)) (by decide)
              have q249 := own_sta_keep q231 ka244 (allS (own_plain q232) all0)
              have q250 := q232.keep ka244
              have zz251 := Nat.le_trans zz239 ka244.1
              have kk252 : Keep h0 T244.heap [] := kk240.trans ka244 (allS (Or.inr hh184) all0)
              show Gl p e below n0 _ _ (T244.setTop (mkF m 217 #[.val (.int y0), .val (.int y1), .val (.int y2), .val (.int y3), .val (.int y4), .val (.long y5), .second, .val (.int (y5.toInt32)), .val (.int (((y5.toUInt64 >>> ((32 : Int32) &&& 0x3f).toInt64.toUInt64).toInt64).toInt32)), .val (.int z166), .val (.int z168), .val (.int z170), .val (.int z172), .val (.int z174), .val (.int z176), .val (.int z178), .val (.int z180), .val (.int vA), .val (.int vB), .val (.int vC), .val (.int vD), .val (.int vE), .val (.int vF), .unset, .unset, .unset, .unset] [(.ref b182)]))
              refine g_astore (L' := #[.val (.int y0), .val (.int y1), .val (.int y2), .val (.int y3), .val (.int y4), .val (.long y5), .second, .val (.int (y5.toInt32)), .val (.int (((y5.toUInt64 >>> ((32 : Int32) &&& 0x3f).toInt64.toUInt64).toInt64).toInt32)), .val (.int z166), .val (.int z168), .val (.int z170), .val (.int z172), .val (.int z174), .val (.int z176), .val (.int z178), .val (.int z180), .val (.int vA), .val (.int vB), .val (.int vC), .val (.int vD), .val (.int vE), .val (.int vF), .val (.ref b182), .unset, .unset, .unset]) X244 hx hby at_217 rfl rfl (pc' := 219) rfl ?_
              refine g_iloadN X244 hx hby at_219 rfl (pc' := 220) rfl ?_
              refine g_bipush (v := 6) X244 hx hby at_220 rfl (pc' := 222) rfl ?_
              refine g_iushr X244 hx hby at_222 (pc' := 223) rfl ?_
              refine g_iconst (v := 3) X244 hx hby at_223 rfl (pc' := 224) rfl ?_
              refine g_iand X244 hx hby at_224 (pc' := 225) rfl ?_
              refine g_istore (L' := #[.val (.int y0), .val (.int y1), .val (.int y2), .val (.int y3), .val (.int y4), .val (.long y5), .second, .val (.int (y5.toInt32)), .val (.int (((y5.toUInt64 >>> ((32 : Int32) &&& 0x3f).toInt64.toUInt64).toInt64).toInt32)), .val (.int z166), .val (.int z168), .val (.int z170), .val (.int z172), .val (.int z174), .val (.int z176), .val (.int z178), .val (.int z180), .val (.int vA), .val (.int vB), .val (.int vC), .val (.int vD), .val (.int vE), .val (.int vF), .val (.ref b182), .val (.int (((y2.toUInt32 >>> ((6 : Int32) &&& 31).toUInt32).toInt32) &&& (3 : Int32))), .unset, .unset]) X244 hx hby at_225 rfl (pc' := 227) rfl ?_
              refine g_iload X244 hx hby at_227 rfl (pc' := 229) rfl ?_
              refine g_if_ne X244 hx hby at_229 (by decide) (pc' := 241) (by decide) (pc2 := 232) rfl (fun c229_253 => ?_) (fun c229_253 => ?_)
              · refine g_iload X244 hx hby at_241 rfl (pc' := 243) rfl ?_
                refine g_iconst (v := 1) X244 hx hby at_243 rfl (pc' := 244) rfl ?_
                refine g_icmp_ne X244 hx hby at_244 (by decide) (pc' := 260) (by decide) (pc2 := 247) rfl (fun c244_254 => ?_) (fun c244_254 => ?_)
                · refine g_iload X244 hx hby at_260 rfl (pc' := 262) rfl ?_
                  refine g_iconst (v := 2) X244 hx hby at_262 rfl (pc' := 263) rfl ?_
                  refine g_icmp_ne X244 hx hby at_263 (by decide) (pc' := 276) (by decide) (pc2 := 266) rfl (fun c263_255 => ?_) (fun c263_255 => ?_)
                  · refine g_new X244 hx hby hZ hown (hw _ (List.mem_of_getElem? (i := 0) rfl)) (hw _ (List.mem_of_getElem? (i := 1) rfl)) (hw _ (List.mem_of_getElem? (i := 2) rfl)) at_276 (by decide) (by decide) (pc' := 279) rfl (fun T256 h256 b256 g256 X256 E256 A256 D256 => ?_)
                    have ne257 : b182 ≠ b256 := by rw [g256]; exact Nat.ne_of_lt q250.lt
                    have nn258 : n0 ≤ b256 := by rw [g256]; exact zz251
                    have hh259 : h0.size ≤ b256 := by rw [g256]; exact kk252.1
                    have q260 := q249.ext E256
                    have q261 := q250.ext E256
                    have q262 := f0_244.ext E256
                    have q263 := f1_244.ext E256
                    have q264 := f2_244.ext E256
                    have q265 := f3_244.ext E256
                    have q266 := f4_244.ext E256
                    have q267 := f5_244.ext E256
                    have zz268 := Nat.le_trans zz251 E256.1
                    have kk269 : Keep h0 h256 [] := kk252.ext E256
                    have q270 : Fld Z h256 b256 "com/example/hifadhi/hifadhi/mapping/TableGeneratorMapping" "table" "Ljava/lang/String;" .null := D256 (Or.inr (hw _ (List.mem_of_getElem? (i := 34) rfl))) (ty := (.object "java/lang/String")) (by decide)
                    have q271 : Fld Z h256 b256 "com/example/hifadhi/hifadhi/mapping/TableGeneratorMapping" "keyColumn" "Ljava/lang/String;" .null := D256 (Or.inr (hw _ (List.mem_of_getElem? (i := 36) rfl))) (ty := (.object "java/lang/String")) (by decide)
                    have q272 : Fld Z h256 b256 "com/example/hifadhi/hifadhi/mapping/TableGeneratorMapping" "valueColumn" "Ljava/lang/String;" .null := D256 (Or.inr (hw _ (List.mem_of_getElem? (i := 38) rfl))) (ty := (.object "java/lang/String")) (by decide)
                    have q273 : Fld Z h256 b256 "com/example/hifadhi/hifadhi/mapping/TableGeneratorMapping" "keyValue" "Ljava/lang/String;" .null := D256 (Or.inr (hw _ (List.mem_of_getElem? (i := 40) rfl))) (ty := (.object "java/lang/String")) (by decide)
                    have q274 : Fld Z h256 b256 "com/example/hifadhi/hifadhi/mapping/TableGeneratorMapping" "initialValue" "I" (.int (0 : Int32)) := D256 (Or.inr (hw _ (List.mem_of_getElem? (i := 42) rfl))) (ty := .int) (by decide)
                    have q275 : Fld Z h256 b256 "com/example/hifadhi/hifadhi/mapping/TableGeneratorMapping" "allocationSize" "I" (.int (0 : Int32)) := D256 (Or.inr (hw _ (List.mem_of_getElem? (i := 44) rfl))) (ty := .int) (by decide)
                    have ps276 := ps245.ext E256
                    have ps277 := ps246.ext E256
                    have ps278 := ps247.ext E256
                    have ps279 := ps248.ext E256
                    refine g_dup X256 hx hby at_279 rfl (pc' := 280) rfl ?_
                    refine g_iload X256 hx hby at_280 rfl (pc' := 282) rfl ?_
                    refine g_callS (argsL := [(.int vA)]) (S := [(.ref b256), (.ref b256)]) X256 hx hby hZ (y := (⟨"java/lang/String", "valueOf", "(C)Ljava/lang/String;"⟩ : MethodName)) hown (hw _ (List.mem_of_getElem? (i := 3) rfl)) (hw _ (List.mem_of_getElem? (i := 4) rfl)) (hw _ (List.mem_of_getElem? (i := 5) rfl)) (hw _ (List.mem_of_getElem? (i := 6) rfl)) (by decide) (own_vo l Z a0 hw vA h256 n0 zz268 (own_n255 rg_vA) cs q260 hcs) (by rw [hml]; rfl) (lenOf own_pd5 rfl) rfl at_282 (by decide) (W := 2) (by exact Nat.le_of_eq rfl) (by decide) (by decide) (by decide) (pc' := 285) rfl (fun T280 v280 X280 hQ280 => ?_)
                    obtain ⟨b280, rfl, ka280, p280⟩ := hQ280
                    have q281 := own_sta_keep q260 ka280 all0
                    have q282 := q261.keep ka280
                    have q283 := q262.keep ka280 nin0
                    have q284 := q263.keep ka280 nin0
                    have q285 := q264.keep ka280 nin0
                    have q286 := q265.keep ka280 nin0
                    have q287 := q266.keep ka280 nin0
                    have q288 := q267.keep ka280 nin0
                    have q289 := A256.keep ka280
                    have q290 := q270.keep ka280 nin0
                    have q291 := q271.keep ka280 nin0
                    have q292 := q272.keep ka280 nin0
                    have q293 := q273.keep ka280 nin0
                    have q294 := q274.keep ka280 nin0
                    have q295 := q275.keep ka280 nin0
                    have zz296 := Nat.le_trans zz268 ka280.1
                    have kk297 : Keep h0 T280.heap [] := kk269.trans ka280 all0
                    have ps298 := ps276.keep0 ka280
                    have ps299 := ps277.keep0 ka280
                    have ps300 := ps278.keep0 ka280
                    have ps301 := ps279.keep0 ka280
                    show Gl p e below n0 _ _ (T280.setTop (mkF m 285 #[.val (.int y0), .val (.int y1), .val (.int y2), .val (.int y3), .val (.int y4), .val (.long y5), .second, .val (.int (y5.toInt32)), .val (.int (((y5.toUInt64 >>> ((32 : Int32) &&& 0x3f).toInt64.toUInt64).toInt64).toInt32)), .val (.int z166), .val (.int z168), .val (.int z170), .val (.int z172), .val (.int z174), .val (.int z176), .val (.int z178), .val (.int z180), .val (.int vA), .val (.int vB), .val (.int vC), .val (.int vD), .val (.int vE), .val (.int vF), .val (.ref b182), .val (.int (((y2.toUInt32 >>> ((6 : Int32) &&& 31).toUInt32).toInt32) &&& (3 : Int32))), .unset, .unset] [(.ref b280), (.ref b256), (.ref b256)]))
                    refine g_iload X280 hx hby at_285 rfl (pc' := 287) rfl ?_
                    refine g_callS (argsL := [(.int vB)]) (S := [(.ref b280), (.ref b256), (.ref b256)]) X280 hx hby hZ (y := (⟨"java/lang/String", "valueOf", "(C)Ljava/lang/String;"⟩ : MethodName)) hown (hw _ (List.mem_of_getElem? (i := 3) rfl)) (hw _ (List.mem_of_getElem? (i := 4) rfl)) (hw _ (List.mem_of_getElem? (i := 5) rfl)) (hw _ (List.mem_of_getElem? (i := 6) rfl)) (by decide) (own_vo l Z a0 hw vB T280.heap n0 zz296 (own_n255 rg_vB) cs q281 hcs) (by rw [hml]; rfl) (lenOf own_pd5 rfl) rfl at_287 (by decide) (W := 3) (by exact Nat.le_of_eq rfl) (by decide) (by decide) (by decide) (pc' := 290) rfl (fun T302 v302 X302 hQ302 => ?_)
                    obtain ⟨b302, rfl, ka302, p302⟩ := hQ302
                    have q303 := own_sta_keep q281 ka302 all0
                    have q304 := q282.keep ka302
                    have q305 := q283.keep ka302 nin0
                    have q306 := q284.keep ka302 nin0
                    have q307 := q285.keep ka302 nin0
                    have q308 := q286.keep ka302 nin0
                    have q309 := q287.keep ka302 nin0
                    have q310 := q288.keep ka302 nin0
                    have q311 := q289.keep ka302
                    have q312 := q290.keep ka302 nin0
                    have q313 := q291.keep ka302 nin0
                    have q314 := q292.keep ka302 nin0
                    have q315 := q293.keep ka302 nin0
                    have q316 := q294.keep ka302 nin0
                    have q317 := q295.keep ka302 nin0
                    have zz318 := Nat.le_trans zz296 ka302.1
                    have kk319 : Keep h0 T302.heap [] := kk297.trans ka302 all0
                    have ps320 := ps298.keep0 ka302
                    have ps321 := ps299.keep0 ka302
                    have ps322 := ps300.keep0 ka302
                    have ps323 := ps301.keep0 ka302
                    have ps324 := p280.keep0 ka302
                    show Gl p e below n0 _ _ (T302.setTop (mkF m 290 #[.val (.int y0), .val (.int y1), .val (.int y2), .val (.int y3), .val (.int y4), .val (.long y5), .second, .val (.int (y5.toInt32)), .val (.int (((y5.toUInt64 >>> ((32 : Int32) &&& 0x3f).toInt64.toUInt64).toInt64).toInt32)), .val (.int z166), .val (.int z168), .val (.int z170), .val (.int z172), .val (.int z174), .val (.int z176), .val (.int z178), .val (.int z180), .val (.int vA), .val (.int vB), .val (.int vC), .val (.int vD), .val (.int vE), .val (.int vF), .val (.ref b182), .val (.int (((y2.toUInt32 >>> ((6 : Int32) &&& 31).toUInt32).toInt32) &&& (3 : Int32))), .unset, .unset] [(.ref b302), (.ref b280), (.ref b256), (.ref b256)]))
                    refine g_iload X302 hx hby at_290 rfl (pc' := 292) rfl ?_
                    refine g_callS (argsL := [(.int vC)]) (S := [(.ref b302), (.ref b280), (.ref b256), (.ref b256)]) X302 hx hby hZ (y := (⟨"java/lang/String", "valueOf", "(C)Ljava/lang/String;"⟩ : MethodName)) hown (hw _ (List.mem_of_getElem? (i := 3) rfl)) (hw _ (List.mem_of_getElem? (i := 4) rfl)) (hw _ (List.mem_of_getElem? (i := 5) rfl)) (hw _ (List.mem_of_getElem? (i := 6) rfl)) (by decide) (own_vo l Z a0 hw vC T302.heap n0 zz318 (own_n255 rg_vC) cs q303 hcs) (by rw [hml]; rfl) (lenOf own_pd5 rfl) rfl at_292 (by decide) (W := 4) (by exact Nat.le_of_eq rfl) (by decide) (by decide) (by decide) (pc' := 295) rfl (fun T325 v325 X325 hQ325 => ?_)
                    obtain ⟨b325, rfl, ka325, p325⟩ := hQ325
                    have q326 := own_sta_keep q303 ka325 all0
                    have q327 := q304.keep ka325
                    have q328 := q305.keep ka325 nin0
                    have q329 := q306.keep ka325 nin0
                    have q330 := q307.keep ka325 nin0
                    have q331 := q308.keep ka325 nin0
                    have q332 := q309.keep ka325 nin0
                    have q333 := q310.keep ka325 nin0
                    have q334 := q311.keep ka325
                    have q335 := q312.keep ka325 nin0
                    have q336 := q313.keep ka325 nin0
                    have q337 := q314.keep ka325 nin0
                    have q338 := q315.keep ka325 nin0
                    have q339 := q316.keep ka325 nin0
                    have q340 := q317.keep ka325 nin0
                    have zz341 := Nat.le_trans zz318 ka325.1
                    have kk342 : Keep h0 T325.heap [] := kk319.trans ka325 all0
                    have ps343 := ps320.keep0 ka325
                    have ps344 := ps321.keep0 ka325
                    have ps345 := ps322.keep0 ka325
                    have ps346 := ps323.keep0 ka325
                    have ps347 := ps324.keep0 ka325
                    have ps348 := p302.keep0 ka325
                    show Gl p e below n0 _ _ (T325.setTop (mkF m 295 #[.val (.int y0), .val (.int y1), .val (.int y2), .val (.int y3), .val (.int y4), .val (.long y5), .second, .val (.int (y5.toInt32)), .val (.int (((y5.toUInt64 >>> ((32 : Int32) &&& 0x3f).toInt64.toUInt64).toInt64).toInt32)), .val (.int z166), .val (.int z168), .val (.int z170), .val (.int z172), .val (.int z174), .val (.int z176), .val (.int z178), .val (.int z180), .val (.int vA), .val (.int vB), .val (.int vC), .val (.int vD), .val (.int vE), .val (.int vF), .val (.ref b182), .val (.int (((y2.toUInt32 >>> ((6 : Int32) &&& 31).toUInt32).toInt32) &&& (3 : Int32))), .unset, .unset] [(.ref b325), (.ref b302), (.ref b280), (.ref b256), (.ref b256)]))
                    refine g_iload X325 hx hby at_295 rfl (pc' := 297) rfl ?_
                    refine g_callS (argsL := [(.int vD)]) (S := [(.ref b325), (.ref b302), (.ref b280), (.ref b256), (.ref b256)]) X325 hx hby hZ (y := (⟨"java/lang/String", "valueOf", "(C)Ljava/lang/String;"⟩ : MethodName)) hown (hw _ (List.mem_of_getElem? (i := 3) rfl)) (hw _ (List.mem_of_getElem? (i := 4) rfl)) (hw _ (List.mem_of_getElem? (i := 5) rfl)) (hw _ (List.mem_of_getElem? (i := 6) rfl)) (by decide) (own_vo l Z a0 hw vD T325.heap n0 zz341 (own_n255 rg_vD) cs q326 hcs) (by rw [hml]; rfl) (lenOf own_pd5 rfl) rfl at_297 (by decide) (W := 5) (by exact Nat.le_of_eq rfl) (by decide) (by decide) (by decide) (pc' := 300) rfl (fun T349 v349 X349 hQ349 => ?_)
                    obtain ⟨b349, rfl, ka349, p349⟩ := hQ349
                    have q350 := own_sta_keep q326 ka349 all0
                    have q351 := q327.keep ka349
                    have q352 := q328.keep ka349 nin0
                    have q353 := q329.keep ka349 nin0
                    have q354 := q330.keep ka349 nin0
                    have q355 := q331.keep ka349 nin0
                    have q356 := q332.keep ka349 nin0
                    have q357 := q333.keep ka349 nin0
                    have q358 := q334.keep ka349
                    have q359 := q335.keep ka349 nin0
                    have q360 := q336.keep ka349 nin0
                    have q361 := q337.keep ka349 nin0
                    have q362 := q338.keep ka349 nin0
                    have q363 := q339.keep ka349 nin0
                    have q364 := q340.keep ka349 nin0
                    have zz365 := Nat.le_trans zz341 ka349.1
                    have kk366 : Keep h0 T349.heap [] := kk342.trans ka349 all0
                    have ps367 := ps343.keep0 ka349
                    have ps368 := ps344.keep0 ka349
                    have ps369 := ps345.keep0 ka349
                    have ps370 := ps346.keep0 ka349
                    have ps371 := ps347.keep0 ka349
                    have ps372 := ps348.keep0 ka349
                    have ps373 := p325.keep0 ka349
                    show Gl p e below n0 _ _ (T349.setTop (mkF m 300 #[.val (.int y0), .val (.int y1), .val (.int y2), .val (.int y3), .val (.int y4), .val (.long y5), .second, .val (.int (y5.toInt32)), .val (.int (((y5.toUInt64 >>> ((32 : Int32) &&& 0x3f).toInt64.toUInt64).toInt64).toInt32)), .val (.int z166), .val (.int z168), .val (.int z170), .val (.int z172), .val (.int z174), .val (.int z176), .val (.int z178), .val (.int z180), .val (.int vA), .val (.int vB), .val (.int vC), .val (.int vD), .val (.int vE), .val (.int vF), .val (.ref b182), .val (.int (((y2.toUInt32 >>> ((6 : Int32) &&& 31).toUInt32).toInt32) &&& (3 : Int32))), .unset, .unset] [(.ref b349), (.ref b325), (.ref b302), (.ref b280), (.ref b256), (.ref b256)]))
                    refine g_iload X349 hx hby at_300 rfl (pc' := 302) rfl ?_
                    refine g_iload X349 hx hby at_302 rfl (pc' := 304) rfl ?_
                    refine g_callC (argsL := [(.ref b280), (.ref b302), (.ref b325), (.ref b349), (.int vE), (.int vF)]) (S := [(.ref b256)]) (a := b256) X349 hx hby hZ (y := (⟨"com/example/hifadhi/hifadhi/mapping/TableGeneratorMapping", "<init>", "(Ljava/lang/String;Ljava/lang/String;Ljava/lang/String;Ljava/lang/String;II)V"⟩ : MethodName)) rfl hown (hw _ (List.mem_of_getElem? (i := 29) rfl)) (hw _ (List.mem_of_getElem? (i := 30) rfl)) (hw _ (List.mem_of_getElem? (i := 2) rfl)) (hw _ (List.mem_of_getElem? (i := 31) rfl)) (by decide) (own_rm1 l Z a0 hw b256 b280 b302 b325 b349 vE vF T349.heap n0 zz365 q358 q359 q360 q361 q362 q363 q364 nn258) (by rw [hml]; rfl) (lenOf own_pd6 rfl) rfl at_304 (by decide) (W := 1) (by exact Nat.le_of_eq rfl) (by decide) (by decide) (by decide) (pc' := 307) rfl (fun T374 v374 X374 hQ374 => ?_)
                    obtain ⟨rfl, ka374, f0_374, f1_374, f2_374, f3_374, f4_374, f5_374⟩ := hQ374
                    have ps375 := ps367.keep1 ka374 q358 (hw _ (List.mem_of_getElem? (i := 1) rfl)) (by decide)
                    have ps376 := ps368.keep1 ka374 q358 (hw _ (List.mem_of_getElem? (i := 1) rfl)) (by decide)
                    have ps377 := ps369.keep1 ka374 q358 (hw _ (List.mem_of_getElem? (i := 1) rfl)) (by decide)
                    have ps378 := ps370.keep1 ka374 q358 (hw _ (List.mem_of_getElem? (i := 1) rfl)) (by decide)
                    have ps379 := ps371.keep1 ka374 q358 (hw _ (List.mem_of_getElem? (i := 1) rfl)) (by decide)
                    have ps380 := ps372.keep1 ka374 q358 (hw _ (List.mem_of_getElem? (i := 1) rfl)) (by decide)
                    have ps381 := ps373.keep1 ka374 q358 (hw _ (List.mem_of_getElem? (i := 1) rfl)) (by decide)
                    have ps382 := p349.keep1 ka374 q358 (hw _ (List.mem_of_getElem? (i := 1) rfl)) (by decide)
                    have q383 := own_sta_keep q350 ka374 (allS (own_plain q358) all0)
                    have q384 := q351.keep ka374
                    have q385 := q352.keep ka374 (ninS ne257 nin0)
                    have q386 := q353.keep ka374 (ninS ne257 nin0)
                    have q387 := q354.keep ka374 (ninS ne257 nin0)
                    have q388 := q355.keep ka374 (ninS ne257 nin0)
                    have q389 := q356.keep ka374 (ninS ne257 nin0)
                    have q390 := q357.keep ka374 (ninS ne257 nin0)
                    have q391 := q358.keep ka374
                    have zz392 := Nat.le_trans zz365 ka374.1
                    have kk393 : Keep h0 T374.heap [] := kk366.trans ka374 (allS (Or.inr hh259) all0)
                    show Gl p e below n0 _ _ (T374.setTop (mkF m 307 #[.val (.int y0), .val (.int y1), .val (.int y2), .val (.int y3), .val (.int y4), .val (.long y5), .second, .val (.int (y5.toInt32)), .val (.int (((y5.toUInt64 >>> ((32 : Int32) &&& 0x3f).toInt64.toUInt64).toInt64).toInt32)), .val (.int z166), .val (.int z168), .val (.int z170), .val (.int z172), .val (.int z174), .val (.int z176), .val (.int z178), .val (.int z180), .val (.int vA), .val (.int vB), .val (.int vC), .val (.int vD), .val (.int vE), .val (.int vF), .val (.ref b182), .val (.int (((y2.toUInt32 >>> ((6 : Int32) &&& 31).toUInt32).toInt32) &&& (3 : Int32))), .unset, .unset] [(.ref b256)]))
                    refine g_astore (L' := #[.val (.int y0), .val (.int y1), .val (.int y2), .val (.int y3), .val (.int y4), .val (.long y5), .second, .val (.int (y5.toInt32)), .val (.int (((y5.toUInt64 >>> ((32 : Int32) &&& 0x3f).toInt64.toUInt64).toInt64).toInt32)), .val (.int z166), .val (.int z168), .val (.int z170), .val (.int z172), .val (.int z174), .val (.int z176), .val (.int z178), .val (.int z180), .val (.int vA), .val (.int vB), .val (.int vC), .val (.int vD), .val (.int vE), .val (.int vF), .val (.ref b182), .val (.int (((y2.toUInt32 >>> ((6 : Int32) &&& 31).toUInt32).toInt32) &&& (3 : Int32))), .val (.ref b256), .unset]) X374 hx hby at_307 rfl rfl (pc' := 309) rfl ?_
                    have J355 : ∀ ex : Int32, own_all (own_y z166) (own_y z168) (own_y z170) (own_y z172) (own_y vA) (own_y vB) (own_y vC) (own_y vD) y3 y4 vE vF = ex → Gl p e below n0 (Fn s 18 52) (fun v h => v = some (.int 1)) (T374.setTop (mkF m 355 #[.val (.int y0), .val (.int y1), .val (.int y2), .val (.int y3), .val (.int y4), .val (.long y5), .second, .val (.int (y5.toInt32)), .val (.int (((y5.toUInt64 >>> ((32 : Int32) &&& 0x3f).toInt64.toUInt64).toInt64).toInt32)), .val (.int z166), .val (.int z168), .val (.int z170), .val (.int z172), .val (.int z174), .val (.int z176), .val (.int z178), .val (.int z180), .val (.int vA), .val (.int vB), .val (.int vC), .val (.int vD), .val (.int vE), .val (.int vF), .val (.ref b182), .val (.int (((y2.toUInt32 >>> ((6 : Int32) &&& 31).toUInt32).toInt32) &&& (3 : Int32))), .val (.ref b256), .unset] [(.int ex)])) := by
                      intro ex hex
                      refine g_istore (L' := #[.val (.int y0), .val (.int y1), .val (.int y2), .val (.int y3), .val (.int y4), .val (.long y5), .second, .val (.int (y5.toInt32)), .val (.int (((y5.toUInt64 >>> ((32 : Int32) &&& 0x3f).toInt64.toUInt64).toInt64).toInt32)), .val (.int z166), .val (.int z168), .val (.int z170), .val (.int z172), .val (.int z174), .val (.int z176), .val (.int z178), .val (.int z180), .val (.int vA), .val (.int vB), .val (.int vC), .val (.int vD), .val (.int vE), .val (.int vF), .val (.ref b182), .val (.int (((y2.toUInt32 >>> ((6 : Int32) &&& 31).toUInt32).toInt32) &&& (3 : Int32))), .val (.ref b256), .val (.int ex)]) X374 hx hby at_355 rfl (pc' := 357) rfl ?_
                      refine g_aload X374 hx hby at_357 rfl rfl (pc' := 359) rfl ?_
                      refine g_aload X374 hx hby at_359 rfl rfl (pc' := 361) rfl ?_
                      refine g_callV (argsL := [(.ref b256)]) (S := []) (a := b182) X374 hx hby hZ (y := (⟨"com/example/hifadhi/hifadhi/mapping/TableGeneratorMapping", "equals", "(Ljava/lang/Object;)Z"⟩ : MethodName)) (y' := (⟨"com/example/hifadhi/hifadhi/mapping/TableGeneratorMapping", "equals", "(Ljava/lang/Object;)Z"⟩ : MethodName)) hown (hw _ (List.mem_of_getElem? (i := 45) rfl)) (hw _ (List.mem_of_getElem? (i := 46) rfl)) (notFace_of_selects (args := #[]) (mvT hZ (hw _ (List.mem_of_getElem? (i := 48) rfl)))) (hw _ (List.mem_of_getElem? (i := 48) rfl)) (hw _ (List.mem_of_getElem? (i := 47) rfl)) (hw _ (List.mem_of_getElem? (i := 2) rfl)) (hw _ (List.mem_of_getElem? (i := 49) rfl)) (by decide) q384 (own_eqM l Z a0 hw b182 b256 T374.heap n0 b194 b205 b217 b230 b280 b302 b325 b349 (own_y z166) (own_y z168) (own_y z170) (own_y z172) (own_y vA) (own_y vB) (own_y vC) (own_y vD) y3 y4 vE vF q391 q385 q386 q387 q388 q389 q390 f0_374 f1_374 f2_374 f3_374 f4_374 f5_374 ps375 ps376 ps377 ps378 ps379 ps380 ps381 ps382 cs q383 hcs) (by rw [hml]; rfl) (lenOf own_pd4 rfl) rfl at_361 (by decide) (W := 0) (by exact Nat.le_of_eq rfl) (by decide) (by decide) (by decide) (pc' := 364) rfl (fun T394 v394 X394 hQ394 => ?_)
                      obtain ⟨rfl, e394⟩ := hQ394
                      rw [e394] at X394
                      show Gl p e below n0 _ _ (T394.setTop (mkF m 364 #[.val (.int y0), .val (.int y1), .val (.int y2), .val (.int y3), .val (.int y4), .val (.long y5), .second, .val (.int (y5.toInt32)), .val (.int (((y5.toUInt64 >>> ((32 : Int32) &&& 0x3f).toInt64.toUInt64).toInt64).toInt32)), .val (.int z166), .val (.int z168), .val (.int z170), .val (.int z172), .val (.int z174), .val (.int z176), .val (.int z178), .val (.int z180), .val (.int vA), .val (.int vB), .val (.int vC), .val (.int vD), .val (.int vE), .val (.int vF), .val (.ref b182), .val (.int (((y2.toUInt32 >>> ((6 : Int32) &&& 31).toUInt32).toInt32) &&& (3 : Int32))), .val (.ref b256), .val (.int ex)] [(.int (own_all (own_y z166) (own_y z168) (own_y z170) (own_y z172) (own_y vA) (own_y vB) (own_y vC) (own_y vD) y3 y4 vE vF))]))
                      refine g_iload X394 hx hby at_364 rfl (pc' := 366) rfl ?_
                      refine g_icmp_ne X394 hx hby at_366 (by decide) (pc' := 373) (by decide) (pc2 := 369) rfl (fun q => absurd hex q) (fun c366_395 => ?_)
                      refine g_iconst (v := 1) X394 hx hby at_369 rfl (pc' := 370) rfl ?_
                      refine g_goto X394 hx hby at_370 (by decide) (pc' := 374) (by decide) ?_
                      exact g_retN X394 hx hby hret hlk (by simp) at_374 rfl (by decide) (by decide)
                    refine g_iload X374 hx hby at_309 rfl (pc' := 311) rfl ?_
                    refine g_iload X374 hx hby at_311 rfl (pc' := 313) rfl ?_
                    refine g_icmp_ne X374 hx hby at_313 (by decide) (pc' := 354) (by decide) (pc2 := 316) rfl (fun c313_396 => ?_) (fun c313_396 => ?_)
                    · refine g_iconst (v := 0) X374 hx hby at_354 rfl (pc' := 355) rfl ?_
                      exact J355 _ (by unfold own_all; rw [own_ey rg167 rg_vA, own_ey rg169 rg_vB, own_ey rg171 rg_vC, own_ey rg173 rg_vD]; simp [if_neg c313_396])
                    · refine g_iload X374 hx hby at_316 rfl (pc' := 318) rfl ?_
                      refine g_iload X374 hx hby at_318 rfl (pc' := 320) rfl ?_
                      refine g_icmp_ne X374 hx hby at_320 (by decide) (pc' := 354) (by decide) (pc2 := 323) rfl (fun c320_397 => ?_) (fun c320_397 => ?_)
                      · refine g_iconst (v := 0) X374 hx hby at_354 rfl (pc' := 355) rfl ?_
                        exact J355 _ (by unfold own_all; rw [own_ey rg167 rg_vA, own_ey rg169 rg_vB, own_ey rg171 rg_vC, own_ey rg173 rg_vD]; simp [if_pos c313_396, if_neg c320_397])
                      · refine g_iload X374 hx hby at_323 rfl (pc' := 325) rfl ?_
                        refine g_iload X374 hx hby at_325 rfl (pc' := 327) rfl ?_
                        refine g_icmp_ne X374 hx hby at_327 (by decide) (pc' := 354) (by decide) (pc2 := 330) rfl (fun c327_398 => ?_) (fun c327_398 => ?_)
                        · refine g_iconst (v := 0) X374 hx hby at_354 rfl (pc' := 355) rfl ?_
                          exact J355 _ (by unfold own_all; rw [own_ey rg167 rg_vA, own_ey rg169 rg_vB, own_ey rg171 rg_vC, own_ey rg173 rg_vD]; simp [if_pos c313_396, if_pos c320_397, if_neg c327_398])
                        · refine g_iload X374 hx hby at_330 rfl (pc' := 332) rfl ?_
                          refine g_iload X374 hx hby at_332 rfl (pc' := 334) rfl ?_
                          refine g_icmp_ne X374 hx hby at_334 (by decide) (pc' := 354) (by decide) (pc2 := 337) rfl (fun c334_399 => ?_) (fun c334_399 => ?_)
                          · refine g_iconst (v := 0) X374 hx hby at_354 rfl (pc' := 355) rfl ?_
                            exact J355 _ (by unfold own_all; rw [own_ey rg167 rg_vA, own_ey rg169 rg_vB, own_ey rg171 rg_vC, own_ey rg173 rg_vD]; simp [if_pos c313_396, if_pos c320_397, if_pos c327_398, if_neg c334_399])
                          · refine g_iloadN X374 hx hby at_337 rfl (pc' := 338) rfl ?_
                            refine g_iload X374 hx hby at_338 rfl (pc' := 340) rfl ?_
                            refine g_icmp_ne X374 hx hby at_340 (by decide) (pc' := 354) (by decide) (pc2 := 343) rfl (fun c340_400 => ?_) (fun c340_400 => ?_)
                            · refine g_iconst (v := 0) X374 hx hby at_354 rfl (pc' := 355) rfl ?_
                              exact J355 _ (by unfold own_all; rw [own_ey rg167 rg_vA, own_ey rg169 rg_vB, own_ey rg171 rg_vC, own_ey rg173 rg_vD]; simp [if_pos c313_396, if_pos c320_397, if_pos c327_398, if_pos c334_399, if_neg c340_400])
                            · refine g_iload X374 hx hby at_343 rfl (pc' := 345) rfl ?_
                              refine g_iload X374 hx hby at_345 rfl (pc' := 347) rfl ?_
                              refine g_icmp_ne X374 hx hby at_347 (by decide) (pc' := 354) (by decide) (pc2 := 350) rfl (fun c347_401 => ?_) (fun c347_401 => ?_)
                              · refine g_iconst (v := 0) X374 hx hby at_354 rfl (pc' := 355) rfl ?_
                                exact J355 _ (by unfold own_all; rw [own_ey rg167 rg_vA, own_ey rg169 rg_vB, own_ey rg171 rg_vC, own_ey rg173 rg_vD]; simp [if_pos c313_396, if_pos c320_397, if_pos c327_398, if_pos c334_399, if_pos c340_400, if_neg c347_401])
                              · refine g_iconst (v := 1) X374 hx hby at_350 rfl (pc' := 351) rfl ?_
                                refine g_goto X374 hx hby at_351 (by decide) (pc' := 355) (by decide) ?_
                                exact J355 _ (by unfold own_all; rw [own_ey rg167 rg_vA, own_ey rg169 rg_vB, own_ey rg171 rg_vC, own_ey rg173 rg_vD]; simp [if_pos c313_396, if_pos c320_397, if_pos c327_398, if_pos c334_399, if_pos c340_400, if_pos c347_401])
                  · refine g_aload X244 hx hby at_266 rfl rfl (pc' := 268) rfl ?_
                    refine g_astore (L' := #[.val (.int y0), .val (.int y1), .val (.int y2), .val (.int y3), .val (.int y4), .val (.long y5), .second, .val (.int (y5.toInt32)), .val (.int (((y5.toUInt64 >>> ((32 : Int32) &&& 0x3f).toInt64.toUInt64).toInt64).toInt32)), .val (.int z166), .val (.int z168), .val (.int z170), .val (.int z172), .val (.int z174), .val (.int z176), .val (.int z178), .val (.int z180), .val (.int vA), .val (.int vB), .val (.int vC), .val (.int vD), .val (.int vE), .val (.int vF), .val (.ref b182), .val (.int (((y2.toUInt32 >>> ((6 : Int32) &&& 31).toUInt32).toInt32) &&& (3 : Int32))), .val (.ref b182), .unset]) X244 hx hby at_268 rfl rfl (pc' := 270) rfl ?_
                    refine g_iconst (v := 1) X244 hx hby at_270 rfl (pc' := 271) rfl ?_
                    refine g_istore (L' := #[.val (.int y0), .val (.int y1), .val (.int y2), .val (.int y3), .val (.int y4), .val (.long y5), .second, .val (.int (y5.toInt32)), .val (.int (((y5.toUInt64 >>> ((32 : Int32) &&& 0x3f).toInt64.toUInt64).toInt64).toInt32)), .val (.int z166), .val (.int z168), .val (.int z170), .val (.int z172), .val (.int z174), .val (.int z176), .val (.int z178), .val (.int z180), .val (.int vA), .val (.int vB), .val (.int vC), .val (.int vD), .val (.int vE), .val (.int vF), .val (.ref b182), .val (.int (((y2.toUInt32 >>> ((6 : Int32) &&& 31).toUInt32).toInt32) &&& (3 : Int32))), .val (.ref b182), .val (.int (1 : Int32))]) X244 hx hby at_271 rfl (pc' := 273) rfl ?_
                    refine g_goto X244 hx hby at_273 (by decide) (pc' := 357) (by decide) ?_
                    refine g_aload X244 hx hby at_357 rfl rfl (pc' := 359) rfl ?_
                    refine g_aload X244 hx hby at_359 rfl rfl (pc' := 361) rfl ?_
                    refine g_callV (argsL := [(.ref b182)]) (S := []) (a := b182) X244 hx hby hZ (y := (⟨"com/example/hifadhi/hifadhi/mapping/TableGeneratorMapping", "equals", "(Ljava/lang/Object;)Z"⟩ : MethodName)) (y' := (⟨"com/example/hifadhi/hifadhi/mapping/TableGeneratorMapping", "equals", "(Ljava/lang/Object;)Z"⟩ : MethodName)) hown (hw _ (List.mem_of_getElem? (i := 45) rfl)) (hw _ (List.mem_of_getElem? (i := 46) rfl)) (notFace_of_selects (args := #[]) (mvT hZ (hw _ (List.mem_of_getElem? (i := 48) rfl)))) (hw _ (List.mem_of_getElem? (i := 48) rfl)) (hw _ (List.mem_of_getElem? (i := 47) rfl)) (hw _ (List.mem_of_getElem? (i := 2) rfl)) (hw _ (List.mem_of_getElem? (i := 49) rfl)) (by decide) q250 (own_eqM l Z a0 hw b182 b182 T244.heap n0 b194 b205 b217 b230 b194 b205 b217 b230 (own_y z166) (own_y z168) (own_y z170) (own_y z172) (own_y z166) (own_y z168) (own_y z170) (own_y z172) y3 y4 y3 y4 q250 f0_244 f1_244 f2_244 f3_244 f4_244 f5_244 f0_244 f1_244 f2_244 f3_244 f4_244 f5_244 ps245 ps246 ps247 ps248 ps245 ps246 ps247 ps248 cs q249 hcs) (by rw [hml]; rfl) (lenOf own_pd4 rfl) rfl at_361 (by decide) (W := 0) (by exact Nat.le_of_eq rfl) (by decide) (by decide) (by decide) (pc' := 364) rfl (fun T402 v402 X402 hQ402 => ?_)
                    obtain ⟨rfl, e402⟩ := hQ402
                    rw [e402] at X402
                    show Gl p e below n0 _ _ (T402.setTop (mkF m 364 #[.val (.int y0), .val (.int y1), .val (.int y2), .val (.int y3), .val (.int y4), .val (.long y5), .second, .val (.int (y5.toInt32)), .val (.int (((y5.toUInt64 >>> ((32 : Int32) &&& 0x3f).toInt64.toUInt64).toInt64).toInt32)), .val (.int z166), .val (.int z168), .val (.int z170), .val (.int z172), .val (.int z174), .val (.int z176), .val (.int z178), .val (.int z180), .val (.int vA), .val (.int vB), .val (.int vC), .val (.int vD), .val (.int vE), .val (.int vF), .val (.ref b182), .val (.int (((y2.toUInt32 >>> ((6 : Int32) &&& 31).toUInt32).toInt32) &&& (3 : Int32))), .val (.ref b182), .val (.int (1 : Int32))] [(.int (own_all (own_y z166) (own_y z168) (own_y z170) (own_y z172) (own_y z166) (own_y z168) (own_y z170) (own_y z172) y3 y4 y3 y4))]))
                    refine g_iload X402 hx hby at_364 rfl (pc' := 366) rfl ?_
                    refine g_icmp_ne X402 hx hby at_366 (by decide) (pc' := 373) (by decide) (pc2 := 369) rfl (fun q => absurd (show (own_all (own_y z166) (own_y z168) (own_y z170) (own_y z172) (own_y z166) (own_y z168) (own_y z170) (own_y z172) y3 y4 y3 y4) = (1 : Int32) by simp [own_all, own_ee]) q) (fun c366_403 => ?_)
                    refine g_iconst (v := 1) X402 hx hby at_369 rfl (pc' := 370) rfl ?_
                    refine g_goto X402 hx hby at_370 (by decide) (pc' := 374) (by decide) ?_
                    exact g_retN X402 hx hby hret hlk (by simp) at_374 rfl (by decide) (by decide)
                · refine g_iload X244 hx hby at_247 rfl (pc' := 249) rfl ?_
                  refine g_callS (argsL := [(.int z166)]) (S := []) X244 hx hby hZ (y := (⟨"java/lang/String", "valueOf", "(C)Ljava/lang/String;"⟩ : MethodName)) hown (hw _ (List.mem_of_getElem? (i := 3) rfl)) (hw _ (List.mem_of_getElem? (i := 4) rfl)) (hw _ (List.mem_of_getElem? (i := 5) rfl)) (hw _ (List.mem_of_getElem? (i := 6) rfl)) (by decide) (own_vo l Z a0 hw z166 T244.heap n0 zz251 (own_n255 rg167) cs q249 hcs) (by rw [hml]; rfl) (lenOf own_pd5 rfl) rfl at_249 (by decide) (W := 0) (by exact Nat.le_of_eq rfl) (by decide) (by decide) (by decide) (pc' := 252) rfl (fun T404 v404 X404 hQ404 => ?_)
                  obtain ⟨b404, rfl, ka404, p404⟩ := hQ404
                  have q405 := own_sta_keep q249 ka404 all0
                  have q406 := q250.keep ka404
                  have q407 := f0_244.keep ka404 nin0
                  have q408 := f1_244.keep ka404 nin0
                  have q409 := f2_244.keep ka404 nin0
                  have q410 := f3_244.keep ka404 nin0
                  have q411 := f4_244.keep ka404 nin0
                  have q412 := f5_244.keep ka404 nin0
                  have zz413 := Nat.le_trans zz251 ka404.1
                  have kk414 : Keep h0 T404.heap [] := kk252.trans ka404 all0
                  have ps415 := ps245.keep0 ka404
                  have ps416 := ps246.keep0 ka404
                  have ps417 := ps247.keep0 ka404
                  have ps418 := ps248.keep0 ka404
                  show Gl p e below n0 _ _ (T404.setTop (mkF m 252 #[.val (.int y0), .val (.int y1), .val (.int y2), .val (.int y3), .val (.int y4), .val (.long y5), .second, .val (.int (y5.toInt32)), .val (.int (((y5.toUInt64 >>> ((32 : Int32) &&& 0x3f).toInt64.toUInt64).toInt64).toInt32)), .val (.int z166), .val (.int z168), .val (.int z170), .val (.int z172), .val (.int z174), .val (.int z176), .val (.int z178), .val (.int z180), .val (.int vA), .val (.int vB), .val (.int vC), .val (.int vD), .val (.int vE), .val (.int vF), .val (.ref b182), .val (.int (((y2.toUInt32 >>> ((6 : Int32) &&& 31).toUInt32).toInt32) &&& (3 : Int32))), .unset, .unset] [(.ref b404)]))
                  refine g_astore (L' := #[.val (.int y0), .val (.int y1), .val (.int y2), .val (.int y3), .val (.int y4), .val (.long y5), .second, .val (.int (y5.toInt32)), .val (.int (((y5.toUInt64 >>> ((32 : Int32) &&& 0x3f).toInt64.toUInt64).toInt64).toInt32)), .val (.int z166), .val (.int z168), .val (.int z170), .val (.int z172), .val (.int z174), .val (.int z176), .val (.int z178), .val (.int z180), .val (.int vA), .val (.int vB), .val (.int vC), .val (.int vD), .val (.int vE), .val (.int vF), .val (.ref b182), .val (.int (((y2.toUInt32 >>> ((6 : Int32) &&& 31).toUInt32).toInt32) &&& (3 : Int32))), .val (.ref b404), .unset]) X404 hx hby at_252 rfl rfl (pc' := 254) rfl ?_
                  refine g_iconst (v := 0) X404 hx hby at_254 rfl (pc' := 255) rfl ?_
                  refine g_istore (L' := #[.val (.int y0), .val (.int y1), .val (.int y2), .val (.int y3), .val (.int y4), .val (.long y5), .second, .val (.int (y5.toInt32)), .val (.int (((y5.toUInt64 >>> ((32 : Int32) &&& 0x3f).toInt64.toUInt64).toInt64).toInt32)), .val (.int z166), .val (.int z168), .val (.int z170), .val (.int z172), .val (.int z174), .val (.int z176), .val (.int z178), .val (.int z180), .val (.int vA), .val (.int vB), .val (.int vC), .val (.int vD), .val (.int vE), .val (.int vF), .val (.ref b182), .val (.int (((y2.toUInt32 >>> ((6 : Int32) &&& 31).toUInt32).toInt32) &&& (3 : Int32))), .val (.ref b404), .val (.int (0 : Int32))]) X404 hx hby at_255 rfl (pc' := 257) rfl ?_
                  refine g_goto X404 hx hby at_257 (by decide) (pc' := 357) (by decide) ?_
                  refine g_aload X404 hx hby at_357 rfl rfl (pc' := 359) rfl ?_
                  refine g_aload X404 hx hby at_359 rfl rfl (pc' := 361) rfl ?_
                  refine g_callV (argsL := [(.ref b404)]) (S := []) (a := b182) X404 hx hby hZ (y := (⟨"com/example/hifadhi/hifadhi/mapping/TableGeneratorMapping", "equals", "(Ljava/lang/Object;)Z"⟩ : MethodName)) (y' := (⟨"com/example/hifadhi/hifadhi/mapping/TableGeneratorMapping", "equals", "(Ljava/lang/Object;)Z"⟩ : MethodName)) hown (hw _ (List.mem_of_getElem? (i := 45) rfl)) (hw _ (List.mem_of_getElem? (i := 46) rfl)) (notFace_of_selects (args := #[]) (mvT hZ (hw _ (List.mem_of_getElem? (i := 48) rfl)))) (hw _ (List.mem_of_getElem? (i := 48) rfl)) (hw _ (List.mem_of_getElem? (i := 47) rfl)) (hw _ (List.mem_of_getElem? (i := 2) rfl)) (hw _ (List.mem_of_getElem? (i := 49) rfl)) (by decide) q406 (own_eqS l Z a0 hw b182 b404 T404.heap n0 p404.exa) (by rw [hml]; rfl) (lenOf own_pd4 rfl) rfl at_361 (by decide) (W := 0) (by exact Nat.le_of_eq rfl) (by decide) (by decide) (by decide) (pc' := 364) rfl (fun T419 v419 X419 hQ419 => ?_)
                  obtain ⟨rfl, e419⟩ := hQ419
                  rw [e419] at X419
                  show Gl p e below n0 _ _ (T419.setTop (mkF m 364 #[.val (.int y0), .val (.int y1), .val (.int y2), .val (.int y3), .val (.int y4), .val (.long y5), .second, .val (.int (y5.toInt32)), .val (.int (((y5.toUInt64 >>> ((32 : Int32) &&& 0x3f).toInt64.toUInt64).toInt64).toInt32)), .val (.int z166), .val (.int z168), .val (.int z170), .val (.int z172), .val (.int z174), .val (.int z176), .val (.int z178), .val (.int z180), .val (.int vA), .val (.int vB), .val (.int vC), .val (.int vD), .val (.int vE), .val (.int vF), .val (.ref b182), .val (.int (((y2.toUInt32 >>> ((6 : Int32) &&& 31).toUInt32).toInt32) &&& (3 : Int32))), .val (.ref b404), .val (.int (0 : Int32))] [(.int (0 : Int32))]))
                  refine g_iload X419 hx hby at_364 rfl (pc' := 366) rfl ?_
                  refine g_icmp_ne X419 hx hby at_366 (by decide) (pc' := 373) (by decide) (pc2 := 369) rfl (fun q => absurd (by decide) q) (fun c366_420 => ?_)
                  refine g_iconst (v := 1) X419 hx hby at_369 rfl (pc' := 370) rfl ?_
                  refine g_goto X419 hx hby at_370 (by decide) (pc' := 374) (by decide) ?_
                  exact g_retN X419 hx hby hret hlk (by simp) at_374 rfl (by decide) (by decide)
              · refine g_aconst_null X244 hx hby at_232 (pc' := 233) rfl ?_
                refine g_astore (L' := #[.val (.int y0), .val (.int y1), .val (.int y2), .val (.int y3), .val (.int y4), .val (.long y5), .second, .val (.int (y5.toInt32)), .val (.int (((y5.toUInt64 >>> ((32 : Int32) &&& 0x3f).toInt64.toUInt64).toInt64).toInt32)), .val (.int z166), .val (.int z168), .val (.int z170), .val (.int z172), .val (.int z174), .val (.int z176), .val (.int z178), .val (.int z180), .val (.int vA), .val (.int vB), .val (.int vC), .val (.int vD), .val (.int vE), .val (.int vF), .val (.ref b182), .val (.int (((y2.toUInt32 >>> ((6 : Int32) &&& 31).toUInt32).toInt32) &&& (3 : Int32))), .val .null, .unset]) X244 hx hby at_233 rfl rfl (pc' := 235) rfl ?_
                refine g_iconst (v := 0) X244 hx hby at_235 rfl (pc' := 236) rfl ?_
                refine g_istore (L' := #[.val (.int y0), .val (.int y1), .val (.int y2), .val (.int y3), .val (.int y4), .val (.long y5), .second, .val (.int (y5.toInt32)), .val (.int (((y5.toUInt64 >>> ((32 : Int32) &&& 0x3f).toInt64.toUInt64).toInt64).toInt32)), .val (.int z166), .val (.int z168), .val (.int z170), .val (.int z172), .val (.int z174), .val (.int z176), .val (.int z178), .val (.int z180), .val (.int vA), .val (.int vB), .val (.int vC), .val (.int vD), .val (.int vE), .val (.int vF), .val (.ref b182), .val (.int (((y2.toUInt32 >>> ((6 : Int32) &&& 31).toUInt32).toInt32) &&& (3 : Int32))), .val .null, .val (.int (0 : Int32))]) X244 hx hby at_236 rfl (pc' := 238) rfl ?_
                refine g_goto X244 hx hby at_238 (by decide) (pc' := 357) (by decide) ?_
                refine g_aload X244 hx hby at_357 rfl rfl (pc' := 359) rfl ?_
                refine g_aload X244 hx hby at_359 rfl rfl (pc' := 361) rfl ?_
                refine g_callV (argsL := [.null]) (S := []) (a := b182) X244 hx hby hZ (y := (⟨"com/example/hifadhi/hifadhi/mapping/TableGeneratorMapping", "equals", "(Ljava/lang/Object;)Z"⟩ : MethodName)) (y' := (⟨"com/example/hifadhi/hifadhi/mapping/TableGeneratorMapping", "equals", "(Ljava/lang/Object;)Z"⟩ : MethodName)) hown (hw _ (List.mem_of_getElem? (i := 45) rfl)) (hw _ (List.mem_of_getElem? (i := 46) rfl)) (notFace_of_selects (args := #[]) (mvT hZ (hw _ (List.mem_of_getElem? (i := 48) rfl)))) (hw _ (List.mem_of_getElem? (i := 48) rfl)) (hw _ (List.mem_of_getElem? (i := 47) rfl)) (hw _ (List.mem_of_getElem? (i := 2) rfl)) (hw _ (List.mem_of_getElem? (i := 49) rfl)) (by decide) q250 (own_eqN l Z a0 hw b182 T244.heap n0) (by rw [hml]; rfl) (lenOf own_pd4 rfl) rfl at_361 (by decide) (W := 0) (by exact Nat.le_of_eq rfl) (by decide) (by decide) (by decide) (pc' := 364) rfl (fun T421 v421 X421 hQ421 => ?_)
                obtain ⟨rfl, e421⟩ := hQ421
                rw [e421] at X421
                show Gl p e below n0 _ _ (T421.setTop (mkF m 364 #[.val (.int y0), .val (.int y1), .val (.int y2), .val (.int y3), .val (.int y4), .val (.long y5), .second, .val (.int (y5.toInt32)), .val (.int (((y5.toUInt64 >>> ((32 : Int32) &&& 0x3f).toInt64.toUInt64).toInt64).toInt32)), .val (.int z166), .val (.int z168), .val (.int z170), .val (.int z172), .val (.int z174), .val (.int z176), .val (.int z178), .val (.int z180), .val (.int vA), .val (.int vB), .val (.int vC), .val (.int vD), .val (.int vE), .val (.int vF), .val (.ref b182), .val (.int (((y2.toUInt32 >>> ((6 : Int32) &&& 31).toUInt32).toInt32) &&& (3 : Int32))), .val .null, .val (.int (0 : Int32))] [(.int (0 : Int32))]))
                refine g_iload X421 hx hby at_364 rfl (pc' := 366) rfl ?_
                refine g_icmp_ne X421 hx hby at_366 (by decide) (pc' := 373) (by decide) (pc2 := 369) rfl (fun q => absurd (by decide) q) (fun c366_422 => ?_)
                refine g_iconst (v := 1) X421 hx hby at_369 rfl (pc' := 370) rfl ?_
                refine g_goto X421 hx hby at_370 (by decide) (pc' := 374) (by decide) ?_
                exact g_retN X421 hx hby hret hlk (by simp) at_374 rfl (by decide) (by decide)
            refine g_if_eq X0 hx hby at_175 (by decide) (pc' := 183) (by decide) (pc2 := 178) rfl (fun c175_423 => ?_) (fun c175_423 => ?_)
            · refine g_iload X0 hx hby at_183 rfl (pc' := 185) rfl ?_
              exact J185 _ 
            · refine g_iload X0 hx hby at_178 rfl (pc' := 180) rfl ?_
              refine g_goto X0 hx hby at_180 (by decide) (pc' := 185) (by decide) ?_
              exact J185 _ 
          refine g_if_eq X0 hx hby at_160 (by decide) (pc' := 168) (by decide) (pc2 := 163) rfl (fun c160_424 => ?_) (fun c160_424 => ?_)
          · refine g_iloadN X0 hx hby at_168 rfl (pc' := 169) rfl ?_
            exact J169 _ 
          · refine g_iload X0 hx hby at_163 rfl (pc' := 165) rfl ?_
            refine g_goto X0 hx hby at_165 (by decide) (pc' := 169) (by decide) ?_
            exact J169 _ 
        refine g_if_eq X0 hx hby at_144 (by decide) (pc' := 152) (by decide) (pc2 := 147) rfl (fun c144_425 => ?_) (fun c144_425 => ?_)
        · refine g_iload X0 hx hby at_152 rfl (pc' := 154) rfl ?_
          exact J154 _ rg173
        · refine g_iload X0 hx hby at_147 rfl (pc' := 149) rfl ?_
          refine g_goto X0 hx hby at_149 (by decide) (pc' := 154) (by decide) ?_
          exact J154 _ rg181
      refine g_if_eq X0 hx hby at_128 (by decide) (pc' := 136) (by decide) (pc2 := 131) rfl (fun c128_426 => ?_) (fun c128_426 => ?_)
      · refine g_iload X0 hx hby at_136 rfl (pc' := 138) rfl ?_
        exact J138 _ rg171
      · refine g_iload X0 hx hby at_131 rfl (pc' := 133) rfl ?_
        refine g_goto X0 hx hby at_133 (by decide) (pc' := 138) (by decide) ?_
        exact J138 _ rg179
    refine g_if_eq X0 hx hby at_113 (by decide) (pc' := 121) (by decide) (pc2 := 116) rfl (fun c113_427 => ?_) (fun c113_427 => ?_)
    · refine g_iload X0 hx hby at_121 rfl (pc' := 123) rfl ?_
      exact J123 _ rg169
    · refine g_iload X0 hx hby at_116 rfl (pc' := 118) rfl ?_
      refine g_goto X0 hx hby at_118 (by decide) (pc' := 123) (by decide) ?_
      exact J123 _ rg177
  refine g_if_eq X0 hx hby at_98 (by decide) (pc' := 106) (by decide) (pc2 := 101) rfl (fun c98_428 => ?_) (fun c98_428 => ?_)
  · refine g_iload X0 hx hby at_106 rfl (pc' := 108) rfl ?_
    exact J108 _ rg167
  · refine g_iload X0 hx hby at_101 rfl (pc' := 103) rfl ?_
    refine g_goto X0 hx hby at_103 (by decide) (pc' := 108) (by decide) ?_
    exact J108 _ rg175
set_option maxRecDepth 65536 in
set_option maxHeartbeats 40000000 in
theorem comes_1 {Post : Tables → Env → Array Value → State → Outcome → State → Prop} (hpost : ∀ tb e args s v u, (limb_1_1.after args s (.returned v) u = true ∧ limb_1_2.after args s (.returned v) u = true ∧ True) → FrameEnd s (.returned v) u (Jvm.fieldLocs frame_1_writes args s ++ Jvm.arrayLocs frame_1_arrays args s ++ Jvm.staticLocs frame_1_statics s) 48 192 → Post tb e args s (.returned v) u) :
    ArmFor flags0 classFile x code maxLocals ret World_1 tables_1 room_1 Calls_1 rest_1 Pre_1 Post := by
  intro l hfl _ _ p e ha hc hk s m args below hf hA hF happ hP
  obtain ⟨hcalls, hrest, hpre⟩ := hP
  obtain ⟨-, -, -, hnamed, -, -, -, hat⟩ := (Spec.applies_iff hf).mp happ
  obtain ⟨hg, hn⟩ := and_e (Cond.before_iff.mp (show (Jvm.Cond.and given_1 narrow_1).before args s = true from hpre))
  obtain ⟨hcount, hg0⟩ := and_e hg
  obtain ⟨w0, w1, w2, w3, w4, w5, rfl⟩ : ∃ w0 w1 w2 w3 w4 w5 : Value, args = #[w0, w1, w2, w3, w4, w5] := by
    have hs : args.size = 6 := by simpa [Cond.value, given_1] using hcount
    obtain ⟨L⟩ := args
    match L, hs with
    | [w0, w1, w2, w3, w4, w5], _ => exact ⟨w0, w1, w2, w3, w4, w5, rfl⟩
  have hw := fun d (hd : d ∈ tables_1) => atoms_spec (ws := Jvm.Cond.code x code maxLocals ret :: tables_1) hat d (List.mem_cons_of_mem _ hd)
  have hfit : Fit s := fun {y c} hc i hi => by
    obtain ⟨ha, rfl⟩ := Array.getElem?_eq_some_iff.mp hc
    have q := List.all_eq_true.mp ((Array.all_eq_true_iff_forall_mem.mp hF) _ (Array.getElem_mem ha)) i (List.mem_range.mpr hi)
    simpa [Array.getElem?_eq_getElem hi] using q
  obtain ⟨hk0, hg1⟩ := and_e hg0
  obtain ⟨i0, e0⟩ := is_v hk0
  obtain rfl : w0 = (.int i0) := Option.some.inj e0
  obtain ⟨hk1, hg2⟩ := and_e hg1
  obtain ⟨i1, e1⟩ := is_v hk1
  obtain rfl : w1 = (.int i1) := Option.some.inj e1
  obtain ⟨hk2, hg3⟩ := and_e hg2
  obtain ⟨i2, e2⟩ := is_v hk2
  obtain rfl : w2 = (.int i2) := Option.some.inj e2
  obtain ⟨hk3, hg4⟩ := and_e hg3
  obtain ⟨i3, e3⟩ := is_v hk3
  obtain rfl : w3 = (.int i3) := Option.some.inj e3
  obtain ⟨hk4, hg5⟩ := and_e hg4
  obtain ⟨i4, e4⟩ := is_v hk4
  obtain rfl : w4 = (.int i4) := Option.some.inj e4
  obtain ⟨i5, e5⟩ := isL_v hg5
  obtain rfl : w5 = (.long i5) := Option.some.inj e5
  have hr := (atoms_of _ (show (jdkStatics_1.foldr Jvm.Cond.and restOwn_1).before _ s = true from (rest_1_c_eq ▸ (show rest_1_c.before _ s = true from hrest)))).1
  obtain ⟨cs, ecs⟩ := is_v (Cond.before_iff.mp (hr _ (List.mem_of_getElem? (i := 1) rfl)))
  have Sc := Sta.start ecs (Or.inl (hr _ (List.mem_of_getElem? (i := 0) rfl)))
  have hcs : ¬ cs = 0 := gotF (Cond.eq_ints ecs (by rfl)) (not_v (Cond.before_iff.mp (hr _ (List.mem_of_getElem? (i := 2) rfl))))
  obtain ⟨n, o, h1, h2, h3, _, L, rfl, ⟨rfl, N⟩, hq⟩ := own_rm0 l s _ hw i0 i1 i2 i3 i4 i5 s.heap s.heap.size (Nat.le_refl _) cs Sc hcs p e ha hc hk s m _ below hf ((Spec.applies_iff_loose hf).mp happ).1 ⟨rfl, State.Warmed39.refl s, rfl⟩ trivial
  exact ⟨n, _, h1, h2, h3, hpost _ _ _ _ _ _ ⟨Cond.after_iff.mpr rfl, Cond.after_iff.mpr (eq_i res_at (Term.int_eval (1)) rfl), trivial⟩ ⟨hq.1, hq.2.1, (hq.2.2.sift fun y hy => Or.inr (N y hy)).mono (by decide) (by decide)⟩⟩
theorem main_1_1 : Claimed_1_1 := comes_1 fun _ _ _ _ _ _ h hF => ⟨h.1, hF⟩
theorem main_1_2 : Claimed_1_2 := comes_1 fun _ _ _ _ _ _ h hF => ⟨h.2.1, hF⟩
end Jvm.Pilot.@@N@@
namespace Jvm.Pilot.@@N@@
open Jvm Jvm.ClassFile Sem Op Lib Jvm.Free Jvm.Stand Jvm.Pilot.@@N@@.Jvm.D
/-! MADE BY PROGRAM (witnessworld.py) out of the Statement's table words and the real class files: 17 classes; the members and pool entries that the words name. The judged class is class 1, her method 1. -/
namespace start1
open Jvm.ClassFile
def u (s : String) : CpInfo := .utf8 (stringToUtf16 s)
/-- a pool by its gaps: so many unusable entries, then the entry; so many at the end -/
def gap : Nat → List CpInfo → List CpInfo
  | 0, r => r
  | n + 1, r => .unusable :: gap n r
def poolList (es : List (Nat × CpInfo)) (last : Nat) : List CpInfo := es.foldr (fun e r => gap e.1 (e.2 :: r)) (gap last [])
def pool (es : List (Nat × CpInfo)) (last : Nat) : Array CpInfo := ⟨poolList es last⟩
def fileOf (pool : Array CpInfo) (this : Nat) (attrs : Array Attribute := #[]) (ms : Array MethodInfo := #[]) (fl : Nat := 33) (sup : Nat := 0) (ifs : Array Nat := #[]) (fds : Array FieldInfo := #[]) : ClassFile where
  minorVersion := 0
  majorVersion := 65
  constantPool := pool
  accessFlags := fl
  thisClass := this
  superClass := sup
  interfaces := ifs
  fields := fds
  methods := ms
  attributes := attrs
def plain (name : String) (sup : Option ClassId) : Class where
  name := name
  kind := .ordinary
  loader := none
  accessFlags := 33
  super := sup
  interfaces := #[]
  cf := none
  fields := #[]
  methods := #[]
  instanceTypes := #[]
  staticTypes := #[]
  resolved := #[]
  callSites := []
  init := .initialized
  statics := none
  mirror := none

def pool0 : Array CpInfo := pool [(5, u "<init>"), (0, u "()V"), (1, .class_ 10), (1, u "java/lang/Object")] 113

def k0c0 : Code := { maxStack := 0, maxLocals := 1, code := object_method_1_code, exceptionTable := #[], attributes := #[] }
def k0m0 : Method := { name := "<init>", desc := "()V", sig := { parameters := [], returnType := none }, accessFlags := 1, code := some k0c0 }
/-- java/lang/Object -/
def k0 : Class := { plain "java/lang/Object" none with
  accessFlags := 33
  interfaces := #[]
  cf := some (fileOf pool0 8 #[] #[{ accessFlags := 1, nameIndex := 5, descriptorIndex := 6, attributes := #[] }] 33 0 #[] #[])
  fields := #[]
  methods := #[k0m0]
  instanceTypes := #[]
  staticTypes := #[]
  resolved := Array.replicate 124 none
  statics := none }

def pool1 : Array CpInfo := pool [(2, .class_ 4), (1, u "java/lang/Object"), (0, u "<init>"), (0, u "()V"), (0, .class_ 8), (0, u "com/example/hifadhi/hifadhi/mapping/TableGeneratorMapping"), (0, .methodref 10 11), (0, .class_ 12), (0, .nameAndType 13 14), (0, u "java/lang/String"), (0, u "valueOf"), (0, u "(C)Ljava/lang/String;"), (0, .methodref 7 16), (0, .nameAndType 5 17), (0, u "(Ljava/lang/String;Ljava/lang/String;Ljava/lang/String;Ljava/lang/String;II)V"), (0, .methodref 7 19), (0, .nameAndType 20 21), (0, u "equals"), (0, u "(Ljava/lang/Object;)Z"), (0, .class_ 23), (0, u "com/example/hifadhi/hifadhi/mapping/TableGeneratorMappingEqualsPinLaw"), (2, u "law"), (0, u "(IIIIIJ)Z")] 3

def k1m0 : Method := { name := "<init>", desc := "()V", sig := { parameters := [], returnType := none }, accessFlags := 1, code := none }
def k1c1 : Code := { maxStack := 8, maxLocals := 27, code := code, exceptionTable := #[], attributes := #[] }
def k1m1 : Method := { name := "law", desc := "(IIIIIJ)Z", sig := { parameters := [.int, .int, .int, .int, .int, .long], returnType := some .boolean }, accessFlags := 9, code := some k1c1 }
/-- com/example/hifadhi/hifadhi/mapping/TableGeneratorMappingEqualsPinLaw -/
def k1 : Class := { plain "com/example/hifadhi/hifadhi/mapping/TableGeneratorMappingEqualsPinLaw" (some 0) with
  accessFlags := 49
  interfaces := #[]
  cf := some (fileOf pool1 22 #[] #[{ accessFlags := 1, nameIndex := 5, descriptorIndex := 6, attributes := #[] }, { accessFlags := 9, nameIndex := 26, descriptorIndex := 27, attributes := #[] }] 49 2 #[] #[])
  fields := #[]
  methods := #[k1m0, k1m1]
  instanceTypes := #[]
  staticTypes := #[]
  resolved := Array.replicate 31 none
  statics := none }

def pool2 : Array CpInfo := pool [(1, .methodref 2 3), (0, .class_ 4), (0, .nameAndType 5 6), (0, u "java/lang/Object"), (0, u "<init>"), (0, u "()V"), (0, .fieldref 8 9), (0, .class_ 10), (0, .nameAndType 11 12), (0, u "com/example/hifadhi/hifadhi/mapping/TableGeneratorMapping"), (0, u "table"), (0, u "Ljava/lang/String;"), (0, .fieldref 8 14), (0, .nameAndType 15 12), (0, u "keyColumn"), (0, .fieldref 8 17), (0, .nameAndType 18 12), (0, u "valueColumn"), (0, .fieldref 8 20), (0, .nameAndType 21 12), (0, u "keyValue"), (0, .fieldref 8 23), (0, .nameAndType 24 25), (0, u "initialValue"), (0, u "I"), (0, .fieldref 8 27), (0, .nameAndType 28 25), (0, u "allocationSize"), (6, .methodref 36 37), (0, .class_ 38), (0, .nameAndType 39 40), (0, u "java/lang/String"), (0, u "equals"), (0, u "(Ljava/lang/Object;)Z"), (15, u "(Ljava/lang/String;Ljava/lang/String;Ljava/lang/String;Ljava/lang/String;II)V")] 33

def k2c0 : Code := { maxStack := 2, maxLocals := 7, code := prog_7_method_1_code, exceptionTable := #[], attributes := #[] }
def k2m0 : Method := { name := "<init>", desc := "(Ljava/lang/String;Ljava/lang/String;Ljava/lang/String;Ljava/lang/String;II)V", sig := { parameters := [(.object "java/lang/String"), (.object "java/lang/String"), (.object "java/lang/String"), (.object "java/lang/String"), .int, .int], returnType := none }, accessFlags := 0, code := some k2c0 }
def k2c1 : Code := { maxStack := 2, maxLocals := 3, code := prog_7_method_8_code, exceptionTable := #[], attributes := #[] }
def k2m1 : Method := { name := "equals", desc := "(Ljava/lang/Object;)Z", sig := { parameters := [(.object "java/lang/Object")], returnType := some .boolean }, accessFlags := 1, code := some k2c1 }
/-- com/example/hifadhi/hifadhi/mapping/TableGeneratorMapping -/
def k2 : Class := { plain "com/example/hifadhi/hifadhi/mapping/TableGeneratorMapping" (some 0) with
  accessFlags := 49
  interfaces := #[]
  cf := some (fileOf pool2 8 #[] #[{ accessFlags := 0, nameIndex := 5, descriptorIndex := 56, attributes := #[] }, { accessFlags := 1, nameIndex := 39, descriptorIndex := 40, attributes := #[] }] 49 2 #[] #[{ accessFlags := 18, nameIndex := 11, descriptorIndex := 12, attributes := #[] }, { accessFlags := 18, nameIndex := 15, descriptorIndex := 12, attributes := #[] }, { accessFlags := 18, nameIndex := 18, descriptorIndex := 12, attributes := #[] }, { accessFlags := 18, nameIndex := 21, descriptorIndex := 12, attributes := #[] }, { accessFlags := 18, nameIndex := 24, descriptorIndex := 25, attributes := #[] }, { accessFlags := 18, nameIndex := 28, descriptorIndex := 25, attributes := #[] }])
  fields := #[{ name := "table", type := (.object "java/lang/String"), accessFlags := 18, slot := 0, constantValue := 0 }, { name := "keyColumn", type := (.object "java/lang/String"), accessFlags := 18, slot := 1, constantValue := 0 }, { name := "valueColumn", type := (.object "java/lang/String"), accessFlags := 18, slot := 2, constantValue := 0 }, { name := "keyValue", type := (.object "java/lang/String"), accessFlags := 18, slot := 3, constantValue := 0 }, { name := "initialValue", type := .int, accessFlags := 18, slot := 4, constantValue := 0 }, { name := "allocationSize", type := .int, accessFlags := 18, slot := 5, constantValue := 0 }]
  methods := #[k2m0, k2m1]
  instanceTypes := #[(.object "java/lang/String"), (.object "java/lang/String"), (.object "java/lang/String"), (.object "java/lang/String"), .int, .int]
  staticTypes := #[]
  resolved := Array.replicate 90 none
  statics := none }

def pool3 : Array CpInfo := pool [(1, .class_ 2), (0, u "java/io/Serializable"), (0, .class_ 4), (0, u "java/lang/Object")] 2

/-- java/io/Serializable -/
def k3 : Class := { plain "java/io/Serializable" (some 0) with
  accessFlags := 1537
  interfaces := #[]
  cf := some (fileOf pool3 1 #[] #[] 1537 3 #[] #[])
  fields := #[]
  methods := #[]
  instanceTypes := #[]
  staticTypes := #[]
  resolved := Array.replicate 7 none
  statics := none }

def pool4 : Array CpInfo := pool [(1, .class_ 2), (0, u "java/lang/Comparable"), (0, .class_ 4), (0, u "java/lang/Object")] 7

/-- java/lang/Comparable -/
def k4 : Class := { plain "java/lang/Comparable" (some 0) with
  accessFlags := 1537
  interfaces := #[]
  cf := some (fileOf pool4 1 #[] #[] 1537 3 #[] #[])
  fields := #[]
  methods := #[]
  instanceTypes := #[]
  staticTypes := #[]
  resolved := Array.replicate 12 none
  statics := none }

def pool5 : Array CpInfo := pool [(2, .class_ 4), (1, u "java/lang/CharSequence"), (42, .class_ 48), (0, u "java/lang/CharSequence$1CodePointIterator"), (10, .class_ 60), (0, u "java/lang/CharSequence$1CharIterator"), (5, .class_ 67), (0, u "java/lang/Object")] 63

/-- java/lang/CharSequence -/
def k5 : Class := { plain "java/lang/CharSequence" (some 0) with
  accessFlags := 1537
  interfaces := #[]
  cf := some (fileOf pool5 2 #[.nestMembers #[47, 59]] #[] 1537 66 #[] #[])
  fields := #[]
  methods := #[]
  instanceTypes := #[]
  staticTypes := #[]
  resolved := Array.replicate 131 none
  statics := none }

def pool6 : Array CpInfo := pool [(1, .class_ 2), (0, u "java/lang/constant/Constable"), (0, .class_ 4), (0, u "java/lang/Object")] 6

/-- java/lang/constant/Constable -/
def k6 : Class := { plain "java/lang/constant/Constable" (some 0) with
  accessFlags := 1537
  interfaces := #[]
  cf := some (fileOf pool6 1 #[] #[] 1537 3 #[] #[])
  fields := #[]
  methods := #[]
  instanceTypes := #[]
  staticTypes := #[]
  resolved := Array.replicate 11 none
  statics := none }

def pool7 : Array CpInfo := pool [(1, .class_ 2), (0, u "java/lang/constant/ConstantDesc"), (0, .class_ 4), (0, u "java/lang/Object")] 32

/-- java/lang/constant/ConstantDesc -/
def k7 : Class := { plain "java/lang/constant/ConstantDesc" (some 0) with
  accessFlags := 1537
  interfaces := #[]
  cf := some (fileOf pool7 1 #[] #[] 1537 3 #[] #[])
  fields := #[]
  methods := #[]
  instanceTypes := #[]
  staticTypes := #[]
  resolved := Array.replicate 37 none
  statics := none }

def pool8 : Array CpInfo := pool [(1, .methodref 2 3), (0, .class_ 4), (0, .nameAndType 5 6), (0, u "java/lang/Object"), (0, u "<init>"), (0, u "()V"), (2, .fieldref 10 11), (0, .class_ 12), (0, .nameAndType 13 14), (0, u "java/lang/String"), (0, u "value"), (0, u "[B"), (0, .fieldref 10 16), (0, .nameAndType 17 18), (0, u "coder"), (0, u "B"), (2, u "hash"), (0, u "I"), (2, u "hashIsZero"), (0, u "Z"), (11, .fieldref 10 39), (0, .nameAndType 40 26), (0, u "COMPACT_STRINGS"), (12, u "toBytes"), (53, .class_ 109), (1, u "java/lang/StringLatin1"), (99, .methodref 10 210), (0, .nameAndType 5 211), (0, u "([BB)V"), (157, u "(C)Z"), (171, .methodref 107 542), (0, .nameAndType 543 544), (0, u "equals"), (0, u "([B[B)Z"), (28, u "(Ljava/lang/Object;)Z"), (1, .class_ 576), (0, u "java/lang/CharSequence"), (22, u "CASE_INSENSITIVE_ORDER"), (0, u "Ljava/util/Comparator;"), (181, u "valueOf"), (0, u "(C)Ljava/lang/String;"), (231, .methodref 107 1016), (0, .nameAndType 1017 369), (0, u "canEncode"), (0, .methodref 107 1019), (0, .nameAndType 53 1020), (0, u "(C)[B"), (80, u "serialPersistentFields"), (0, u "[Ljava/io/ObjectStreamField;"), (0, .class_ 1104), (0, u "java/lang/String$CaseInsensitiveComparator"), (1, .class_ 1107), (0, u "java/io/Serializable"), (0, .class_ 1109), (0, u "java/lang/Comparable"), (0, .class_ 1111), (0, u "java/lang/constant/Constable"), (0, .class_ 1113), (0, u "java/lang/constant/ConstantDesc"), (2, u "serialVersionUID"), (0, u "J"), (3, u "REPL"), (0, u "C"), (2, u "LATIN1"), (1, u "UTF16")] 323

def k8m0 : Method := { name := "<init>", desc := "()V", sig := { parameters := [], returnType := none }, accessFlags := 1, code := none }
def k8c1 : Code := { maxStack := 2, maxLocals := 3, code := jdk_42_method_66_code, exceptionTable := #[], attributes := #[] }
def k8m1 : Method := { name := "equals", desc := "(Ljava/lang/Object;)Z", sig := { parameters := [(.object "java/lang/Object")], returnType := some .boolean }, accessFlags := 1, code := some k8c1 }
def k8c2 : Code := { maxStack := 4, maxLocals := 1, code := jdk_42_method_139_code, exceptionTable := #[], attributes := #[] }
def k8m2 : Method := { name := "valueOf", desc := "(C)Ljava/lang/String;", sig := { parameters := [.char], returnType := some (.object "java/lang/String") }, accessFlags := 9, code := some k8c2 }
def k8c3 : Code := { maxStack := 2, maxLocals := 3, code := jdk_42_method_151_code, exceptionTable := #[], attributes := #[] }
def k8m3 : Method := { name := "<init>", desc := "([BB)V", sig := { parameters := [(.array .byte), .byte], returnType := none }, accessFlags := 0, code := some k8c3 }
/-- java/lang/String -/
def k8 : Class := { plain "java/lang/String" (some 0) with
  accessFlags := 49
  interfaces := #[3, 4, 5, 6, 7]
  cf := some (fileOf pool8 10 #[.nestMembers #[1103]] #[{ accessFlags := 1, nameIndex := 5, descriptorIndex := 6, attributes := #[] }, { accessFlags := 1, nameIndex := 543, descriptorIndex := 573, attributes := #[] }, { accessFlags := 9, nameIndex := 782, descriptorIndex := 783, attributes := #[] }, { accessFlags := 0, nameIndex := 5, descriptorIndex := 211, attributes := #[] }] 49 2 #[1106, 1108, 575, 1110, 1112] #[{ accessFlags := 18, nameIndex := 13, descriptorIndex := 14, attributes := #[] }, { accessFlags := 18, nameIndex := 17, descriptorIndex := 18, attributes := #[] }, { accessFlags := 2, nameIndex := 21, descriptorIndex := 22, attributes := #[] }, { accessFlags := 2, nameIndex := 25, descriptorIndex := 26, attributes := #[] }, { accessFlags := 26, nameIndex := 1116, descriptorIndex := 1117, attributes := #[] }, { accessFlags := 24, nameIndex := 40, descriptorIndex := 26, attributes := #[] }, { accessFlags := 26, nameIndex := 1101, descriptorIndex := 1102, attributes := #[] }, { accessFlags := 26, nameIndex := 1121, descriptorIndex := 1122, attributes := #[] }, { accessFlags := 25, nameIndex := 599, descriptorIndex := 600, attributes := #[] }, { accessFlags := 24, nameIndex := 1125, descriptorIndex := 18, attributes := #[] }, { accessFlags := 24, nameIndex := 1127, descriptorIndex := 18, attributes := #[] }])
  fields := #[{ name := "value", type := (.array .byte), accessFlags := 18, slot := 0, constantValue := 0 }, { name := "coder", type := .byte, accessFlags := 18, slot := 1, constantValue := 0 }, { name := "hash", type := .int, accessFlags := 2, slot := 2, constantValue := 0 }, { name := "hashIsZero", type := .boolean, accessFlags := 2, slot := 3, constantValue := 0 }, { name := "serialVersionUID", type := .long, accessFlags := 26, slot := 0, constantValue := 0 }, { name := "COMPACT_STRINGS", type := .boolean, accessFlags := 24, slot := 1, constantValue := 0 }, { name := "serialPersistentFields", type := (.array (.object "java/io/ObjectStreamField")), accessFlags := 26, slot := 2, constantValue := 0 }, { name := "REPL", type := .char, accessFlags := 26, slot := 3, constantValue := 0 }, { name := "CASE_INSENSITIVE_ORDER", type := (.object "java/util/Comparator"), accessFlags := 25, slot := 4, constantValue := 0 }, { name := "LATIN1", type := .byte, accessFlags := 24, slot := 5, constantValue := 0 }, { name := "UTF16", type := .byte, accessFlags := 24, slot := 6, constantValue := 0 }]
  methods := #[k8m0, k8m1, k8m2, k8m3]
  instanceTypes := #[(.array .byte), .byte, .int, .boolean]
  staticTypes := #[.long, .boolean, (.array (.object "java/io/ObjectStreamField")), .char, (.object "java/util/Comparator"), .byte, .byte]
  resolved := Array.replicate 1451 none
  statics := some 0 }

def pool9 : Array CpInfo := pool [(4, .class_ 6), (1, u "java/lang/Object"), (0, u "<init>"), (0, u "()V"), (5, .class_ 16), (1, u "java/lang/StringLatin1"), (73, u "canEncode"), (14, u "(C)Z"), (15, u "$assertionsDisabled"), (0, u "Z"), (98, .class_ 223), (1, u "java/lang/StringLatin1$LinesSpliterator"), (57, u "equals"), (0, u "([B[B)Z"), (97, u "toBytes"), (1, u "(C)[B"), (7, .class_ 391), (0, u "java/lang/StringLatin1$CharsSpliterator")] 3

def k9m0 : Method := { name := "<init>", desc := "()V", sig := { parameters := [], returnType := none }, accessFlags := 0, code := none }
def k9c1 : Code := { maxStack := 2, maxLocals := 1, code := jdk_43_method_3_code, exceptionTable := #[], attributes := #[] }
def k9m1 : Method := { name := "canEncode", desc := "(C)Z", sig := { parameters := [.char], returnType := some .boolean }, accessFlags := 9, code := some k9c1 }
def k9c2 : Code := { maxStack := 3, maxLocals := 3, code := jdk_43_method_13_code, exceptionTable := #[], attributes := #[] }
def k9m2 : Method := { name := "equals", desc := "([B[B)Z", sig := { parameters := [(.array .byte), (.array .byte)], returnType := some .boolean }, accessFlags := 9, code := some k9c2 }
def k9c3 : Code := { maxStack := 4, maxLocals := 1, code := jdk_43_method_46_code, exceptionTable := #[], attributes := #[] }
def k9m3 : Method := { name := "toBytes", desc := "(C)[B", sig := { parameters := [.char], returnType := some (.array .byte) }, accessFlags := 9, code := some k9c3 }
/-- java/lang/StringLatin1 -/
def k9 : Class := { plain "java/lang/StringLatin1" (some 0) with
  accessFlags := 48
  interfaces := #[]
  cf := some (fileOf pool9 14 #[.nestMembers #[390, 221]] #[{ accessFlags := 0, nameIndex := 7, descriptorIndex := 8, attributes := #[] }, { accessFlags := 9, nameIndex := 90, descriptorIndex := 105, attributes := #[] }, { accessFlags := 9, nameIndex := 281, descriptorIndex := 282, attributes := #[] }, { accessFlags := 9, nameIndex := 380, descriptorIndex := 382, attributes := #[] }] 48 4 #[] #[{ accessFlags := 4120, nameIndex := 121, descriptorIndex := 122, attributes := #[] }])
  fields := #[{ name := "$assertionsDisabled", type := .boolean, accessFlags := 4120, slot := 0, constantValue := 0 }]
  methods := #[k9m0, k9m1, k9m2, k9m3]
  instanceTypes := #[]
  staticTypes := #[.boolean]
  resolved := Array.replicate 395 none
  statics := none }

def pool10 : Array CpInfo := pool [(2, .class_ 4), (1, u "java/lang/Object"), (0, u "<init>"), (0, u "()V"), (17, .class_ 26), (1, u "jdk/internal/util/Preconditions"), (28, .class_ 56), (0, u "jdk/internal/util/Preconditions$4"), (57, .class_ 115), (0, u "jdk/internal/util/Preconditions$1"), (7, u "SIOOBE_FORMATTER"), (0, u "Ljava/util/function/BiFunction;"), (0, .class_ 126), (0, u "jdk/internal/util/Preconditions$2"), (3, u "AIOOBE_FORMATTER"), (0, .class_ 132), (0, u "jdk/internal/util/Preconditions$3"), (3, u "IOOBE_FORMATTER")] 57

def k10m0 : Method := { name := "<init>", desc := "()V", sig := { parameters := [], returnType := none }, accessFlags := 1, code := none }
/-- jdk/internal/util/Preconditions -/
def k10 : Class := { plain "jdk/internal/util/Preconditions" (some 0) with
  accessFlags := 33
  interfaces := #[]
  cf := some (fileOf pool10 24 #[.nestMembers #[55, 131, 125, 114]] #[{ accessFlags := 1, nameIndex := 5, descriptorIndex := 6, attributes := #[] }] 33 2 #[] #[{ accessFlags := 25, nameIndex := 123, descriptorIndex := 124, attributes := #[] }, { accessFlags := 25, nameIndex := 130, descriptorIndex := 124, attributes := #[] }, { accessFlags := 25, nameIndex := 136, descriptorIndex := 124, attributes := #[] }])
  fields := #[{ name := "SIOOBE_FORMATTER", type := (.object "java/util/function/BiFunction"), accessFlags := 25, slot := 0, constantValue := 0 }, { name := "AIOOBE_FORMATTER", type := (.object "java/util/function/BiFunction"), accessFlags := 25, slot := 1, constantValue := 0 }, { name := "IOOBE_FORMATTER", type := (.object "java/util/function/BiFunction"), accessFlags := 25, slot := 2, constantValue := 0 }]
  methods := #[k10m0]
  instanceTypes := #[]
  staticTypes := #[(.object "java/util/function/BiFunction"), (.object "java/util/function/BiFunction"), (.object "java/util/function/BiFunction")]
  resolved := Array.replicate 194 none
  statics := some 1 }

def pool11 : Array CpInfo := pool [(9, u "<init>"), (6, .class_ 18), (1, u "java/lang/Object"), (0, u "()V"), (1, .class_ 23), (1, u "jdk/internal/util/ArraysSupport"), (0, u "LOG2_ARRAY_LONG_INDEX_SCALE"), (0, u "I"), (2, u "U"), (0, u "Ljdk/internal/misc/Unsafe;"), (8, u "BIG_ENDIAN"), (0, u "Z"), (8, u "LOG2_BYTE_BIT_SIZE"), (4, u "LOG2_ARRAY_INT_INDEX_SCALE"), (54, u "JLA"), (0, u "Ljdk/internal/access/JavaLangAccess;"), (11, u "LOG2_ARRAY_BOOLEAN_INDEX_SCALE"), (9, u "LOG2_ARRAY_BYTE_INDEX_SCALE"), (5, u "LOG2_ARRAY_CHAR_INDEX_SCALE"), (5, u "LOG2_ARRAY_SHORT_INDEX_SCALE"), (18, u "LOG2_ARRAY_FLOAT_INDEX_SCALE"), (24, u "LOG2_ARRAY_DOUBLE_INDEX_SCALE"), (89, u "T_BOOLEAN"), (2, u "T_CHAR"), (1, u "T_FLOAT"), (1, u "T_DOUBLE"), (1, u "T_BYTE"), (1, u "T_SHORT"), (1, u "T_INT"), (1, u "T_LONG"), (1, u "SOFT_MAX_ARRAY_LENGTH")] 83

def k11m0 : Method := { name := "<init>", desc := "()V", sig := { parameters := [], returnType := none }, accessFlags := 2, code := none }
/-- jdk/internal/util/ArraysSupport -/
def k11 : Class := { plain "jdk/internal/util/ArraysSupport" (some 0) with
  accessFlags := 33
  interfaces := #[]
  cf := some (fileOf pool11 21 #[] #[{ accessFlags := 2, nameIndex := 9, descriptorIndex := 19, attributes := #[] }] 33 16 #[] #[{ accessFlags := 24, nameIndex := 28, descriptorIndex := 29, attributes := #[] }, { accessFlags := 26, nameIndex := 38, descriptorIndex := 39, attributes := #[] }, { accessFlags := 25, nameIndex := 121, descriptorIndex := 25, attributes := #[] }, { accessFlags := 25, nameIndex := 131, descriptorIndex := 25, attributes := #[] }, { accessFlags := 25, nameIndex := 137, descriptorIndex := 25, attributes := #[] }, { accessFlags := 25, nameIndex := 143, descriptorIndex := 25, attributes := #[] }, { accessFlags := 25, nameIndex := 53, descriptorIndex := 25, attributes := #[] }, { accessFlags := 25, nameIndex := 24, descriptorIndex := 25, attributes := #[] }, { accessFlags := 25, nameIndex := 162, descriptorIndex := 25, attributes := #[] }, { accessFlags := 25, nameIndex := 187, descriptorIndex := 25, attributes := #[] }, { accessFlags := 26, nameIndex := 48, descriptorIndex := 25, attributes := #[] }, { accessFlags := 25, nameIndex := 277, descriptorIndex := 25, attributes := #[] }, { accessFlags := 25, nameIndex := 280, descriptorIndex := 25, attributes := #[] }, { accessFlags := 25, nameIndex := 282, descriptorIndex := 25, attributes := #[] }, { accessFlags := 25, nameIndex := 284, descriptorIndex := 25, attributes := #[] }, { accessFlags := 25, nameIndex := 286, descriptorIndex := 25, attributes := #[] }, { accessFlags := 25, nameIndex := 288, descriptorIndex := 25, attributes := #[] }, { accessFlags := 25, nameIndex := 290, descriptorIndex := 25, attributes := #[] }, { accessFlags := 25, nameIndex := 292, descriptorIndex := 25, attributes := #[] }, { accessFlags := 26, nameIndex := 108, descriptorIndex := 109, attributes := #[] }, { accessFlags := 25, nameIndex := 294, descriptorIndex := 25, attributes := #[] }])
  fields := #[{ name := "U", type := (.object "jdk/internal/misc/Unsafe"), accessFlags := 24, slot := 0, constantValue := 0 }, { name := "BIG_ENDIAN", type := .boolean, accessFlags := 26, slot := 1, constantValue := 0 }, { name := "LOG2_ARRAY_BOOLEAN_INDEX_SCALE", type := .int, accessFlags := 25, slot := 2, constantValue := 0 }, { name := "LOG2_ARRAY_BYTE_INDEX_SCALE", type := .int, accessFlags := 25, slot := 3, constantValue := 0 }, { name := "LOG2_ARRAY_CHAR_INDEX_SCALE", type := .int, accessFlags := 25, slot := 4, constantValue := 0 }, { name := "LOG2_ARRAY_SHORT_INDEX_SCALE", type := .int, accessFlags := 25, slot := 5, constantValue := 0 }, { name := "LOG2_ARRAY_INT_INDEX_SCALE", type := .int, accessFlags := 25, slot := 6, constantValue := 0 }, { name := "LOG2_ARRAY_LONG_INDEX_SCALE", type := .int, accessFlags := 25, slot := 7, constantValue := 0 }, { name := "LOG2_ARRAY_FLOAT_INDEX_SCALE", type := .int, accessFlags := 25, slot := 8, constantValue := 0 }, { name := "LOG2_ARRAY_DOUBLE_INDEX_SCALE", type := .int, accessFlags := 25, slot := 9, constantValue := 0 }, { name := "LOG2_BYTE_BIT_SIZE", type := .int, accessFlags := 26, slot := 10, constantValue := 0 }, { name := "T_BOOLEAN", type := .int, accessFlags := 25, slot := 11, constantValue := 0 }, { name := "T_CHAR", type := .int, accessFlags := 25, slot := 12, constantValue := 0 }, { name := "T_FLOAT", type := .int, accessFlags := 25, slot := 13, constantValue := 0 }, { name := "T_DOUBLE", type := .int, accessFlags := 25, slot := 14, constantValue := 0 }, { name := "T_BYTE", type := .int, accessFlags := 25, slot := 15, constantValue := 0 }, { name := "T_SHORT", type := .int, accessFlags := 25, slot := 16, constantValue := 0 }, { name := "T_INT", type := .int, accessFlags := 25, slot := 17, constantValue := 0 }, { name := "T_LONG", type := .int, accessFlags := 25, slot := 18, constantValue := 0 }, { name := "JLA", type := (.object "jdk/internal/access/JavaLangAccess"), accessFlags := 26, slot := 19, constantValue := 0 }, { name := "SOFT_MAX_ARRAY_LENGTH", type := .int, accessFlags := 25, slot := 20, constantValue := 0 }]
  methods := #[k11m0]
  instanceTypes := #[]
  staticTypes := #[(.object "jdk/internal/misc/Unsafe"), .boolean, .int, .int, .int, .int, .int, .int, .int, .int, .int, .int, .int, .int, .int, .int, .int, .int, .int, (.object "jdk/internal/access/JavaLangAccess"), .int]
  resolved := Array.replicate 378 none
  statics := none }

def pool12 : Array CpInfo := pool [(1, u "java/lang/Cloneable"), (0, .class_ 1), (0, u "java/lang/Object"), (0, .class_ 3)] 3

/-- java/lang/Cloneable -/
def k12 : Class := { plain "java/lang/Cloneable" (some 0) with
  accessFlags := 1537
  interfaces := #[]
  cf := some (fileOf pool12 2 #[] #[] 1537 4 #[] #[])
  fields := #[]
  methods := #[]
  instanceTypes := #[]
  staticTypes := #[]
  resolved := Array.replicate 8 none
  statics := none }

/-- the primitive byte -/
def k13 : Class := { plain "byte" none with kind := .primitive 'B', accessFlags := 0x411 }
/-- [B -/
def k14 : Class := { plain "[B" (some 0) with kind := .array 13 .byte, interfaces := #[12, 3], accessFlags := 1041 }

/-- the primitive int -/
def k15 : Class := { plain "int" none with kind := .primitive 'I', accessFlags := 0x411 }
/-- [I -/
def k16 : Class := { plain "[I" (some 0) with kind := .array 15 .int, interfaces := #[12, 3], accessFlags := 1041 }

def heap : Heap := #[{ cls := 8, slots := #[.long 0, .int 1, .null, .int 0, .null, .int 0, .int 0], vm := .statics 8 },
  { cls := 10, slots := #[.null, .null, .null], vm := .statics 10 }]
def classes : Array Class := #[k0, k1, k2, k3, k4, k5, k6, k7, k8, k9, k10, k11, k12, k13, k14, k15, k16]
def interned : List (Array UInt16 × Addr) := []
def slotsUsed : Nat := 10
def theMethod : MethodId := ⟨1, 1⟩
def args0 : Array Value := #[.int 5, .int 7, .int 3, .int 1, .int 1, .long 3]
def aboutOver (below : List Frame) : State where
  vm := { classes := classes, interned := interned.toArray }
  heap := heap
  slotsUsed := slotsUsed
  threads := #[{ frames := .invoking theMethod args0 :: below }]
def below0 : List Frame := [.native { method := ⟨0, 0⟩, args := #[] }]
def about1 : State := aboutOver below0
def p0 : Program := .bare "" "" ""
def e0 : Env := launch0.env 0 0 0
theorem w_frames : about1.frames = Frame.invoking theMethod args0 :: below0 := rfl
set_option maxRecDepth 65536 in
theorem w_args : argsFit about1.vm theMethod args0 = true := by decide +kernel
set_option maxRecDepth 65536 in
theorem w_heap : heapFits about1 = true := by decide +kernel
set_option maxRecDepth 65536 in
theorem w_runnable : about1.curStatus? = some .runnable := by decide +kernel
set_option maxRecDepth 65536 in
theorem w_alone : about1.alone = true := by decide +kernel
set_option maxRecDepth 65536 in
theorem w_named : about1.methodNamed? x = some theMethod := by decide +kernel
set_option maxRecDepth 65536 in
theorem w_hears : about1.hears theMethod below0 = true := by decide +kernel
set_option maxRecDepth 65536 in
theorem w_ripe : about1.ripe theMethod args0 below0 = true := by decide +kernel
theorem w_running : about1.status = .running := rfl
set_option maxRecDepth 65536 in
theorem w_room : about1.hasRoom e0.platform room_1 = true :=
  launch0.hasRoom_least _ room_1 (by decide +kernel) (by decide +kernel) (by decide +kernel) (by decide +kernel) (by decide +kernel) (by decide +kernel)
theorem allAtoms_all (ts : List Jvm.Cond) (a : Array Jvm.Value) (st : Jvm.State) : (allAtoms ts).before a st = ts.all (fun c => c.before a st) := by
  induction ts with
  | nil => rfl
  | cons c t ih =>
    show (Jvm.Cond.and c (allAtoms t)).before a st = _
    rw [Jvm.Cond.before_and, ih, List.all_cons]
def words1 : List Jvm.Cond := Jvm.Cond.code x code maxLocals ret :: tables_1
/-- a 'code' word, met by the world's own term for the bytes: nothing is compared byte by byte -/
theorem code_word {y : MethodName} {bytes : ByteArray} {mx : Nat} {rt : Option FieldType} {a : Array Value} {s : State} {m : MethodId} {meth : Method} {c : Code} (h1 : s.methodNamed? y = some m) (h2 : s.vm.method? m = some meth) (h3 : meth.code = some c) (h4 : c.code = bytes)
    (h5 : (c.maxLocals == mx && c.exceptionTable.isEmpty && decide (c.maxStack ≤ mostOperands) && decide (meth.sig.returnType = rt) && !meth.locks && decide (parseMethodDescriptor y.desc = some meth.sig)) = true) : (Jvm.Cond.code y bytes mx rt).before a s = true := by
  simp only [Bool.and_eq_true, beq_iff_eq, Bool.not_eq_true', decide_eq_true_eq] at h5
  obtain ⟨⟨⟨⟨⟨g1, g2⟩, g3⟩, g4⟩, g5⟩, g6⟩ := h5
  simp [Cond.before, Cond.holds, Cond.value, h1, h2, h3, h4, g1, g2, g3, g4, g5, g6]
def isCode : Jvm.Cond → Bool
  | .code _ _ _ _ => true
  | _ => false
theorem all_split {L : List Jvm.Cond} {P : Jvm.Cond → Bool} (h1 : L.all (fun c => isCode c || P c) = true) (h2 : ∀ c ∈ L.filter isCode, P c = true) : L.all P = true := by
  refine List.all_eq_true.mpr fun c hc => ?_
  have h := List.all_eq_true.mp h1 c hc
  rcases Bool.eq_false_or_eq_true (isCode c) with hi | hi
  · exact h2 c (List.mem_filter.mpr ⟨hc, hi⟩)
  · simpa [hi] using h
set_option maxRecDepth 65536 in
theorem w_c0 : (Jvm.Cond.code x code maxLocals ret).before args0 about1 = true := code_word (m := ⟨1, 1⟩) (meth := k1m1) (c := k1c1) (by decide +kernel) rfl rfl rfl (by decide +kernel)
set_option maxRecDepth 65536 in
theorem w_c1 : (Jvm.Cond.code ({ cls := "java/lang/String", name := "valueOf", desc := "(C)Ljava/lang/String;" } : Jvm.MethodName) jdk_42_method_139_code (1 : Nat) (Option.some (Jvm.ClassFile.FieldType.object "java/lang/String"))).before args0 about1 = true := code_word (m := ⟨8, 2⟩) (meth := k8m2) (c := k8c2) (by decide +kernel) rfl rfl rfl (by decide +kernel)
set_option maxRecDepth 65536 in
theorem w_c2 : (Jvm.Cond.code ({ cls := "java/lang/StringLatin1", name := "canEncode", desc := "(C)Z" } : Jvm.MethodName) jdk_43_method_3_code (1 : Nat) (Option.some Jvm.ClassFile.FieldType.boolean)).before args0 about1 = true := code_word (m := ⟨9, 1⟩) (meth := k9m1) (c := k9c1) (by decide +kernel) rfl rfl rfl (by decide +kernel)
set_option maxRecDepth 65536 in
theorem w_c3 : (Jvm.Cond.code ({ cls := "java/lang/StringLatin1", name := "toBytes", desc := "(C)[B" } : Jvm.MethodName) jdk_43_method_46_code (1 : Nat) (Option.some (Jvm.ClassFile.FieldType.array Jvm.ClassFile.FieldType.byte))).before args0 about1 = true := code_word (m := ⟨9, 3⟩) (meth := k9m3) (c := k9c3) (by decide +kernel) rfl rfl rfl (by decide +kernel)
set_option maxRecDepth 65536 in
theorem w_c4 : (Jvm.Cond.code ({ cls := "java/lang/String", name := "<init>", desc := "([BB)V" } : Jvm.MethodName) jdk_42_method_151_code (3 : Nat) (Option.none : Option Jvm.ClassFile.FieldType)).before args0 about1 = true := code_word (m := ⟨8, 3⟩) (meth := k8m3) (c := k8c3) (by decide +kernel) rfl rfl rfl (by decide +kernel)
set_option maxRecDepth 65536 in
theorem w_c5 : (Jvm.Cond.code ({ cls := "java/lang/Object", name := "<init>", desc := "()V" } : Jvm.MethodName) object_method_1_code (1 : Nat) (Option.none : Option Jvm.ClassFile.FieldType)).before args0 about1 = true := code_word (m := ⟨0, 0⟩) (meth := k0m0) (c := k0c0) (by decide +kernel) rfl rfl rfl (by decide +kernel)
set_option maxRecDepth 65536 in
theorem w_c6 : (Jvm.Cond.code ({ cls := "com/example/hifadhi/hifadhi/mapping/TableGeneratorMapping", name := "<init>", desc := "(Ljava/lang/String;Ljava/lang/String;Ljava/lang/String;Ljava/lang/String;II)V" } : Jvm.MethodName) prog_7_method_1_code (7 : Nat) (Option.none : Option Jvm.ClassFile.FieldType)).before args0 about1 = true := code_word (m := ⟨2, 0⟩) (meth := k2m0) (c := k2c0) (by decide +kernel) rfl rfl rfl (by decide +kernel)
set_option maxRecDepth 65536 in
theorem w_c7 : (Jvm.Cond.code ({ cls := "com/example/hifadhi/hifadhi/mapping/TableGeneratorMapping", name := "equals", desc := "(Ljava/lang/Object;)Z" } : Jvm.MethodName) prog_7_method_8_code (3 : Nat) (Option.some Jvm.ClassFile.FieldType.boolean)).before args0 about1 = true := code_word (m := ⟨2, 1⟩) (meth := k2m1) (c := k2c1) (by decide +kernel) rfl rfl rfl (by decide +kernel)
set_option maxRecDepth 65536 in
theorem w_c8 : (Jvm.Cond.code ({ cls := "java/lang/String", name := "equals", desc := "(Ljava/lang/Object;)Z" } : Jvm.MethodName) jdk_42_method_66_code (3 : Nat) (Option.some Jvm.ClassFile.FieldType.boolean)).before args0 about1 = true := code_word (m := ⟨8, 1⟩) (meth := k8m1) (c := k8c1) (by decide +kernel) rfl rfl rfl (by decide +kernel)
set_option maxRecDepth 65536 in
theorem w_c9 : (Jvm.Cond.code ({ cls := "java/lang/StringLatin1", name := "equals", desc := "([B[B)Z" } : Jvm.MethodName) jdk_43_method_13_code (3 : Nat) (Option.some Jvm.ClassFile.FieldType.boolean)).before args0 about1 = true := code_word (m := ⟨9, 2⟩) (meth := k9m2) (c := k9c2) (by decide +kernel) rfl rfl rfl (by decide +kernel)
def codes1 : List Jvm.Cond := [Jvm.Cond.code x code maxLocals ret, Jvm.Cond.code ({ cls := "java/lang/String", name := "valueOf", desc := "(C)Ljava/lang/String;" } : Jvm.MethodName) jdk_42_method_139_code (1 : Nat) (Option.some (Jvm.ClassFile.FieldType.object "java/lang/String")), Jvm.Cond.code ({ cls := "java/lang/StringLatin1", name := "canEncode", desc := "(C)Z" } : Jvm.MethodName) jdk_43_method_3_code (1 : Nat) (Option.some Jvm.ClassFile.FieldType.boolean), Jvm.Cond.code ({ cls := "java/lang/StringLatin1", name := "toBytes", desc := "(C)[B" } : Jvm.MethodName) jdk_43_method_46_code (1 : Nat) (Option.some (Jvm.ClassFile.FieldType.array Jvm.ClassFile.FieldType.byte)), Jvm.Cond.code ({ cls := "java/lang/String", name := "<init>", desc := "([BB)V" } : Jvm.MethodName) jdk_42_method_151_code (3 : Nat) (Option.none : Option Jvm.ClassFile.FieldType), Jvm.Cond.code ({ cls := "java/lang/Object", name := "<init>", desc := "()V" } : Jvm.MethodName) object_method_1_code (1 : Nat) (Option.none : Option Jvm.ClassFile.FieldType), Jvm.Cond.code ({ cls := "com/example/hifadhi/hifadhi/mapping/TableGeneratorMapping", name := "<init>", desc := "(Ljava/lang/String;Ljava/lang/String;Ljava/lang/String;Ljava/lang/String;II)V" } : Jvm.MethodName) prog_7_method_1_code (7 : Nat) (Option.none : Option Jvm.ClassFile.FieldType), Jvm.Cond.code ({ cls := "com/example/hifadhi/hifadhi/mapping/TableGeneratorMapping", name := "equals", desc := "(Ljava/lang/Object;)Z" } : Jvm.MethodName) prog_7_method_8_code (3 : Nat) (Option.some Jvm.ClassFile.FieldType.boolean), Jvm.Cond.code ({ cls := "java/lang/String", name := "equals", desc := "(Ljava/lang/Object;)Z" } : Jvm.MethodName) jdk_42_method_66_code (3 : Nat) (Option.some Jvm.ClassFile.FieldType.boolean), Jvm.Cond.code ({ cls := "java/lang/StringLatin1", name := "equals", desc := "([B[B)Z" } : Jvm.MethodName) jdk_43_method_13_code (3 : Nat) (Option.some Jvm.ClassFile.FieldType.boolean)]
set_option maxRecDepth 65536 in
theorem codes_eq : words1.filter isCode = codes1 := rfl
theorem w_codes : ∀ c ∈ words1.filter isCode, c.before args0 about1 = true := by
  rw [codes_eq]
  intro c hc
  simp only [codes1, List.mem_cons, List.not_mem_nil, or_false] at hc
  rcases hc with rfl | rfl | rfl | rfl | rfl | rfl | rfl | rfl | rfl | rfl
  · exact w_c0
  · exact w_c1
  · exact w_c2
  · exact w_c3
  · exact w_c4
  · exact w_c5
  · exact w_c6
  · exact w_c7
  · exact w_c8
  · exact w_c9
set_option maxRecDepth 65536 in
theorem w_t1 : (words1.take 24).all (fun c => isCode c || c.before args0 about1) = true := by decide +kernel
set_option maxRecDepth 65536 in
theorem w_t2 : ((words1.drop 24).take 24).all (fun c => isCode c || c.before args0 about1) = true := by decide +kernel
set_option maxRecDepth 65536 in
theorem w_t3 : ((words1.drop 24).drop 24).all (fun c => isCode c || c.before args0 about1) = true := by decide +kernel
theorem w_tables : (allAtoms (Jvm.Cond.code x code maxLocals ret :: tables_1)).before args0 about1 = true := by
  rw [allAtoms_all]
  show words1.all (fun c => c.before args0 about1) = true
  refine all_split ?_ w_codes
  rw [← List.take_append_drop 24 words1, List.all_append, w_t1, ← List.take_append_drop 24 (words1.drop 24), List.all_append, w_t2, w_t3]
  rfl
set_option maxRecDepth 65536 in
theorem w_rest : rest_1_c.before args0 about1 = true := by decide +kernel
set_option maxRecDepth 65536 in
theorem w_case : (Jvm.Cond.and given_1 narrow_1).before args0 about1 = true := by decide +kernel
theorem w_applies : (headSpec (Jvm.Cond.code x code maxLocals ret :: tables_1) room_1).applies x e0.platform about1 = true :=
  (Spec.applies_iff w_frames).mpr ⟨w_running, w_runnable, w_alone, w_named, w_hears, w_ripe, w_room, w_tables⟩
theorem atStart : AtStart classFile x code maxLocals ret World_1 tables_1 room_1 Calls_1 rest_1 Pre_1 launch0 p0 e0 about1 theMethod args0 below0 :=
  ⟨lists_1, trivial, launch0.admits_env _ _ _, launch0.least_env, fairChoices_fair.cas, fairChoices_fair.clock, w_frames, w_args, w_heap, w_applies, trivial, w_rest, w_case⟩
end start1
theorem witness_1 : WitnessClaimed_1 := ⟨start1.p0, start1.e0, start1.about1, start1.theMethod, start1.args0, start1.below0, start1.atStart⟩
end Jvm.Pilot.@@N@@
