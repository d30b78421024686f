import JvmDerived
import JvmDerived.Pilot.@@N@@Statement
import JvmDerived.Pilot.@@N@@Code
set_option linter.unusedVariables false
set_option linter.unusedSimpArgs false
namespace Jvm.Pilot.@@N@@
open Jvm Jvm.ClassFile Sem Op Lib Jvm.Free Jvm.Stand Jvm.LawKit Jvm.RoadKit Bundle Jvm.Pilot.@@N@@.Jvm.D
/-! ## The frame of my walks: Gl: what is left to run ends well; St: where the run stands; Ctr: a body's contract; Ary: an array by its length and its values -/
def Gl (p : Program) (e : Env) (below : List Frame) (n0 : Nat) (Φ : Outcome → State → List Loc → Prop) (Q : Option Value → Heap → Prop) (U : State) : Prop :=
  ∃ s₂ o, Steps p.tables e below U s₂ ∧ s₂.status = .running ∧ Ended s₂ below o ∧ ∃ v L, o = .returned v ∧ (Q v s₂.heap ∧ Fr n0 L) ∧ Φ o s₂ L
abbrev Fn (s : State) (cs sl : Nat) : Outcome → State → List Loc → Prop := fun o t L => FrameEnd s o t L cs sl
abbrev Fw (s : State) (cs sl : Nat) : Outcome → State → List Loc → Prop := fun o t L => ReturnedEndW s o t L cs sl
def St (p : Program) (l : Launch) (e : Env) (R : Room) (s : State) (m : MethodId) (args : Array Value) (below : List Frame) (meth : Method) (c : Code) (n0 : Nat) (T : State) (h : Heap) (cells slots : Nat) : Prop :=
  ∃ locs, Stand p l e R s m args below meth c T locs cells slots ∧ T.heap = h ∧ Fr n0 locs
abbrev Ctr (l : Launch) (Z : State) (y : MethodName) (bytes : ByteArray) (maxL : Nat) (ret : Option FieldType) (ws : List Jvm.Cond) (rm : Room) (as' : Array Value) (h0 : Heap) (n0 cs sl : Nat) (Q : Option Value → Heap → Prop) : Prop :=
  MetFree l y (head1 (Jvm.Cond.code y bytes maxL ret :: ws) rm) (fun a U => a = as' ∧ Z.Warmed39 U.vm ∧ U.heap = h0) (fun _ _ _ _ _ => True) (fun _ U o U' => ∃ v L, o = .returned v ∧ (Q v U'.heap ∧ Fr n0 L) ∧ FrameEnd U o U' L cs sl)
theorem Ctr.of {l : Launch} {Z : State} {y : MethodName} {bytes : ByteArray} {maxL : Nat} {ret : Option FieldType} {ws : List Jvm.Cond} {rm : Room} {as' : Array Value} {h0 : Heap} {n0 cs sl : Nat} {Q : Option Value → Heap → Prop} (hn : plainFor y = true)
    (body : ∀ (p : Program) (e : Env) (s : State) (m : MethodId) (below : List Frame) (meth : Method) (c : Code) (T : State), p.tables.exec = Jvm.exec → c.code = bytes → c.maxLocals = maxL → meth.sig.returnType = ret → meth.locks = false → meth.name = y.name → s.vm.findClass y.cls = some m.cls → Z.Warmed39 s.vm →
      St p l e rm s m as' below meth c n0 T h0 0 0 → Gl p e below n0 (Fn s cs sl) Q (T.setTop (entryFrame m as' maxL))) : Ctr l Z y bytes maxL ret ws rm as' h0 n0 cs sl Q := by
  refine MetFree.of_bodySF hn hisR ?_
  intro p e s m args below meth c s₁ Bd hml0 hP hK
  obtain ⟨rfl, hZ, hh⟩ := hP
  exact body p e s m below meth c s₁ Bd.exec Bd.bytes hml0 Bd.returns Bd.notSynchronized (name_of_methodNamed Bd.named Bd.method).1 (findClass_of_methodNamed Bd.named) hZ ⟨[], Stand.of_body Bd, by rw [← hh, Bd.state]; rfl, Fr.nil n0⟩
theorem own_since (s : State) (n : Nat) : s.Since s.vm n := (State.WarmedH.refl s).since n
abbrev CtrW (l : Launch) (Z : State) (y : MethodName) (bytes : ByteArray) (maxL : Nat) (ret : Option FieldType) (ws : List Jvm.Cond) (rm : Room) (as' : Array Value) (h0 : Heap) (n0 cs sl : Nat) (Q : Option Value → Heap → Prop) : Prop :=
  MetFree l y (head1 (Jvm.Cond.code y bytes maxL ret :: ws) rm) (fun a U => a = as' ∧ Z.Warmed39 U.vm ∧ U.heap = h0) (fun _ _ _ _ _ => True) (fun _ U o U' => ∃ v L, o = .returned v ∧ (Q v U'.heap ∧ Fr n0 L) ∧ ReturnedEndW U o U' L cs sl)
theorem CtrW.of {l : Launch} {Z : State} {y : MethodName} {bytes : ByteArray} {maxL : Nat} {ret : Option FieldType} {ws : List Jvm.Cond} {rm : Room} {as' : Array Value} {h0 : Heap} {n0 cs sl : Nat} {Q : Option Value → Heap → Prop} (hn : plainFor y = true)
    (body : ∀ (p : Program) (e : Env) (s : State) (m : MethodId) (below : List Frame) (meth : Method) (c : Code) (T : State), p.tables.exec = Jvm.exec → c.code = bytes → c.maxLocals = maxL → meth.sig.returnType = ret → meth.locks = false → meth.name = y.name → (s.setVm s.vm).vm.findClass y.cls = some m.cls → Z.Warmed39 (s.setVm s.vm).vm →
      St p l e rm (s.setVm s.vm) m as' below meth c n0 T h0 0 0 → s.Since s.vm h0.size → Gl p e below n0 (Fw s cs sl) Q (T.setTop (entryFrame m as' maxL))) : CtrW l Z y bytes maxL ret ws rm as' h0 n0 cs sl Q := by
  refine MetFree.of_bodySF hn hisR ?_
  intro p e s m args below meth c s₁ Bd hml0 hP hK
  obtain ⟨rfl, hZ, hh⟩ := hP
  exact body p e s m below meth c s₁ Bd.exec Bd.bytes hml0 Bd.returns Bd.notSynchronized (name_of_methodNamed Bd.named Bd.method).1 (findClass_of_methodNamed Bd.named) hZ ⟨[], Stand.of_body Bd, by rw [← hh, Bd.state]; rfl, Fr.nil n0⟩ (own_since s h0.size)
def Ary (Z : State) (h : Heap) (a : Addr) (ty : FieldType) (n : Nat) (f : Nat → Value) : Prop := ∃ c : Cell, Arr Z h a c ty ∧ c.slots.size = n ∧ ∀ i, i < n → c.slots[i]? = some (f i)
def own_upd (f : Nat → Value) (i : Nat) (v : Value) : Nat → Value := fun j => if j = i then v else f j
theorem own_upd_same (f : Nat → Value) (i : Nat) (v : Value) : own_upd f i v i = v := by simp [own_upd]
theorem own_upd_ne (f : Nat → Value) {i j : Nat} (v : Value) (q : ¬ j = i) : own_upd f i v j = f j := by simp [own_upd, q]
theorem own_in {j : Int32} {i k : Nat} (hj : j.toInt = (i : Int)) (hi : i < k) : ¬ (j < 0 ∨ k ≤ j.toNatClampNeg) ∧ j.toNatClampNeg = i := by
  have e : j.toNatClampNeg = i := by simp only [Int32.toNatClampNeg]; omega
  refine ⟨?_, e⟩
  rw [e, Int32.lt_iff_toInt_lt]; have : (0 : Int32).toInt = 0 := rfl
  omega
section OwnFacts
variable {Z : State} {h h' : Heap} {a b : Addr} {ty : FieldType} {n sl : Nat} {f : Nat → Value} {v : Value} {ws : List Addr}
theorem Ary.lt (F : Ary Z h a ty n f) : a < h.size := by obtain ⟨c, A, -⟩ := F; exact A.lt
theorem Ary.ext (F : Ary Z h a ty n f) (E : Ext h h') : Ary Z h' a ty n f := by obtain ⟨c, A, r⟩ := F; exact ⟨c, A.ext E, r⟩
theorem Ary.other (F : Ary Z h b ty n f) (W : Wr h h' a sl v) (q : b ≠ a) : Ary Z h' b ty n f := by obtain ⟨c, A, r⟩ := F; exact ⟨c, A.other W q, r⟩
theorem Ary.keep (F : Ary Z h a ty n f) (K : Keep h h' ws) (q : a ∉ ws) : Ary Z h' a ty n f := by obtain ⟨c, A, r⟩ := F; exact ⟨c, ⟨K.2.1 a c A.1 q, A.2⟩, r⟩
theorem Ary.same {cl : Cell} (A : Arr Z h a cl ty) (sz : cl.slots.size = n) (H : ∀ i, i < n → cl.slots[i]? = some (f i)) {i : Nat} (W : Wr h h' a i v) : Ary Z h' a ty n (own_upd f i v) := by
  refine ⟨_, A.same W, by rw [sz_set]; exact sz, fun j hj => ?_⟩
  by_cases q : j = i
  · subst q; simp [Cell.setSlot, own_upd, sz, hj]
  · rw [own_upd_ne f v q]; exact (Array.getElem?_setIfInBounds_ne (Ne.symm q)).trans (H j hj)
theorem Ary.congr (F : Ary Z h a ty n f) {g : Nat → Value} (q : ∀ i, i < n → f i = g i) : Ary Z h a ty n g := by obtain ⟨c, A, sz, H⟩ := F; exact ⟨c, A, sz, fun i hi => by rw [← q i hi]; exact H i hi⟩
/-- what may lie in an array of C -/
def Ov (Z : State) (h : Heap) (a : Addr) (C : String) : Prop := ∃ c : Cell, h[a]? = some c ∧ Ovr Z c.cls C
theorem Ov.ext {C : String} (F : Ov Z h a C) (E : Ext h h') : Ov Z h' a C := by obtain ⟨c, h1, O⟩ := F; exact ⟨c, E.2 _ _ h1, O⟩
theorem Ov.wr {C : String} (F : Ov Z h a C) (W : Wr h h' b sl v) : Ov Z h' a C := by
  obtain ⟨c, h1, O⟩ := F
  obtain ⟨c', e1, e2, -⟩ := wr_at W h1
  exact ⟨c', e1, by rw [e2]; exact O⟩
theorem Ov.keep {C : String} (F : Ov Z h a C) (K : Keep h h' ws) : Ov Z h' a C := by
  obtain ⟨c, h1, O⟩ := F
  obtain ⟨c', e1, e2, -⟩ := K.2.2 a c h1
  exact ⟨c', e1, by rw [e2]; exact O⟩
theorem Ov.sto {C : String} {y : Addr} (F : Ov Z h a C) (A : Ary Z h a ty n f) (I : Ins Z h y C true) : Sto Z h a (.ref y) := by
  obtain ⟨c, h1, O⟩ := F
  obtain ⟨cl, A, -⟩ := A
  cases h1.symm.trans A.1
  exact Sto.of A O I
theorem own_plain {C : String} (F : Exa Z h a C) : ∃ c : Cell, h[a]? = some c ∧ c.vm.isStatics = false := by obtain ⟨c, k, h1, -, -, h4, -⟩ := F; exact ⟨c, h1, h4⟩
theorem own_plainA (F : Ary Z h a ty n f) : ∃ c : Cell, h[a]? = some c ∧ c.vm.isStatics = false := by obtain ⟨c, A, -⟩ := F; exact ⟨c, A.1, A.plain⟩
theorem own_sta_keep {C nm d : String} (F : Sta Z h C nm d v) (K : Keep h h' ws) (q : ∀ x ∈ ws, ∃ c : Cell, h[x]? = some c ∧ c.vm.isStatics = false) : Sta Z h' C nm d v := by
  obtain ⟨cf, i, k, fd, st, cell, h1, h2, h3, h4, h5, h6, h7⟩ := F
  refine ⟨cf, i, k, fd, st, cell, h1, h2, h3, h4, K.2.1 _ _ h5 fun z => ?_, h6, h7⟩
  obtain ⟨c, e1, e2⟩ := q _ z
  cases h5.symm.trans e1
  rw [e2] at h6; cases h6
theorem own_fld_of {a0 : Array Value} {C O nm d O' nm' d' : String} {k : Nat} (E : Exa Z h a C) (F : Fld Z h a O' nm' d' v) (wi : (Cond.instantiable C k).before a0 Z = true) (L : Laid Z a0 C O nm d) : ∃ v', Fld Z h a O nm d v' := by
  obtain ⟨c, _, _, _, _, h1, -, -, h4, -⟩ := F
  exact fld_laid E ⟨c, h1, h4⟩ wi L
theorem own_ne_ty {ty' : FieldType} {n' : Nat} {f' : Nat → Value} (F : Ary Z h a ty n f) (G : Ary Z h b ty' n' f') (q : ty ≠ ty') : a ≠ b := fun e => by
  subst e
  obtain ⟨c1, A1, -⟩ := F
  obtain ⟨c2, A2, -⟩ := G
  cases A1.1.symm.trans A2.1
  obtain ⟨-, k1, i1, p1, j1⟩ := A1.2.1
  obtain ⟨-, k2, i2, p2, j2⟩ := A2.2.1
  cases i1.symm.trans i2
  rw [j1] at j2; cases j2; exact q rfl
theorem own_ne_exa {a0 : Array Value} {C : String} {k : Nat} (E : Exa Z h a C) (wi : (Cond.instantiable C k).before a0 Z = true) (G : Ary Z h b ty n f) : a ≠ b := by
  obtain ⟨c, A, -⟩ := G; exact ne_arr E wi A
theorem own_fld_inj {C nm d : String} {w : Value} (F : Fld Z h a C nm d v) (G : Fld Z h a C nm d w) : v = w := by
  obtain ⟨c1, cf1, k1, i1, f1, a1, a2, -, -, -, -, a7⟩ := F
  obtain ⟨c2, cf2, k2, i2, f2, b1, b2, -, -, -, -, b7⟩ := G
  cases a1.symm.trans b1
  cases a2.symm.trans b2
  exact Option.some.inj (a7.symm.trans b7)
end OwnFacts
section OwnSteps
variable {p : Program} {l : Launch} {e : Env} {R : Room} {s : State} {m : MethodId} {args : Array Value} {below : List Frame} {meth : Method} {c : Code} {T : State} {n0 : Nat} {h : Heap} {cells slots : Nat} {cs sl : Nat} {Φ : Outcome → State → List Loc → Prop} {Q : Option Value → Heap → Prop} {pc pc' : Nat} {L L' : Array Slot} {S : List Value} {bs : ByteArray} {Z : State} {a0 : Array Value}
theorem Gl.st {U V : State} (q : ∀ t, Steps p.tables e below V t → Steps p.tables e below U t) (k : Gl p e below n0 Φ Q V) : Gl p e below n0 Φ Q U := by
  obtain ⟨t, o, h1, h2⟩ := k; exact ⟨t, o, q _ h1, h2⟩
theorem Gl.mono {U : State} {Q' : Option Value → Heap → Prop} (q : ∀ v h, Q v h → Q' v h) (k : Gl p e below n0 Φ Q U) : Gl p e below n0 Φ Q' U := by
  obtain ⟨t, o, h1, h2, h3, v, L, h4, ⟨h5, h6⟩, h7⟩ := k; exact ⟨t, o, h1, h2, h3, v, L, h4, ⟨q _ _ h5, h6⟩, h7⟩
theorem g_iload (X : St p l e R s m args below meth c n0 T h cells slots) (hx : p.tables.exec = Jvm.exec) (hby : c.code = bs) {k : Nat} {v : Int32} (hd : decode bs pc = .ok (.iload k, 2)) (hl : L[k]? = some (.val (.int v))) (hp : pc + 2 = pc') (K : Gl p e below n0 Φ Q (T.setTop (mkF m pc' L (.int v :: S)))) : Gl p e below n0 Φ Q (T.setTop (mkF m pc L S)) := by
  obtain ⟨locs, Y, -, -⟩ := X; subst hp; exact Gl.st (fun t k => XS.iload Y.here hx rfl (hb hby hd) hl k) K
theorem g_iloadN (X : St p l e R s m args below meth c n0 T h cells slots) (hx : p.tables.exec = Jvm.exec) (hby : c.code = bs) {k : Fin 4} {v : Int32} (hd : decode bs pc = .ok (.iload_n k, 1)) (hl : L[k.val]? = some (.val (.int v))) (hp : pc + 1 = pc') (K : Gl p e below n0 Φ Q (T.setTop (mkF m pc' L (.int v :: S)))) : Gl p e below n0 Φ Q (T.setTop (mkF m pc L S)) := by
  obtain ⟨locs, Y, -, -⟩ := X; subst hp; exact Gl.st (fun t k => XS.iloadN Y.here hx rfl (hb hby hd) hl k) K
theorem g_lload (X : St p l e R s m args below meth c n0 T h cells slots) (hx : p.tables.exec = Jvm.exec) (hby : c.code = bs) {k : Nat} {v : Int64} (hd : decode bs pc = .ok (.lload k, 2)) (hl : L[k]? = some (.val (.long v))) (hp : pc + 2 = pc') (K : Gl p e below n0 Φ Q (T.setTop (mkF m pc' L (.long v :: S)))) : Gl p e below n0 Φ Q (T.setTop (mkF m pc L S)) := by
  obtain ⟨locs, Y, -, -⟩ := X; subst hp; exact Gl.st (fun t k => XS.lload Y.here hx rfl (hb hby hd) hl k) K
theorem g_lloadN (X : St p l e R s m args below meth c n0 T h cells slots) (hx : p.tables.exec = Jvm.exec) (hby : c.code = bs) {k : Fin 4} {v : Int64} (hd : decode bs pc = .ok (.lload_n k, 1)) (hl : L[k.val]? = some (.val (.long v))) (hp : pc + 1 = pc') (K : Gl p e below n0 Φ Q (T.setTop (mkF m pc' L (.long v :: S)))) : Gl p e below n0 Φ Q (T.setTop (mkF m pc L S)) := by
  obtain ⟨locs, Y, -, -⟩ := X; subst hp; exact Gl.st (fun t k => XS.lloadN Y.here hx rfl (hb hby hd) hl k) K
theorem g_aload (X : St p l e R s m args below meth c n0 T h cells slots) (hx : p.tables.exec = Jvm.exec) (hby : c.code = bs) {k : Nat} {v : Value} (hd : decode bs pc = .ok (.aload k, 2)) (hl : L[k]? = some (.val v)) (hv : v.isRef = true) (hp : pc + 2 = pc') (K : Gl p e below n0 Φ Q (T.setTop (mkF m pc' L (v :: S)))) : Gl p e below n0 Φ Q (T.setTop (mkF m pc L S)) := by
  obtain ⟨locs, Y, -, -⟩ := X; subst hp; exact Gl.st (fun t k => XS.aload Y.here hx rfl (hb hby hd) hl hv k) K
theorem g_aloadN (X : St p l e R s m args below meth c n0 T h cells slots) (hx : p.tables.exec = Jvm.exec) (hby : c.code = bs) {k : Fin 4} {v : Value} (hd : decode bs pc = .ok (.aload_n k, 1)) (hl : L[k.val]? = some (.val v)) (hv : v.isRef = true) (hp : pc + 1 = pc') (K : Gl p e below n0 Φ Q (T.setTop (mkF m pc' L (v :: S)))) : Gl p e below n0 Φ Q (T.setTop (mkF m pc L S)) := by
  obtain ⟨locs, Y, -, -⟩ := X; subst hp; exact Gl.st (fun t k => XS.aloadN Y.here hx rfl (hb hby hd) hl hv k) K
theorem g_istore (X : St p l e R s m args below meth c n0 T h cells slots) (hx : p.tables.exec = Jvm.exec) (hby : c.code = bs) {k : Nat} {v : Int32} (hd : decode bs pc = .ok (.istore k, 2)) (hl : storeLocals L k (.int v) = some L') (hp : pc + 2 = pc') (K : Gl p e below n0 Φ Q (T.setTop (mkF m pc' L' S))) : Gl p e below n0 Φ Q (T.setTop (mkF m pc L (.int v :: S))) := by
  obtain ⟨locs, Y, -, -⟩ := X; subst hp; exact Gl.st (fun t k => XS.istore Y.here hx rfl (hb hby hd) rfl hl k) K
theorem g_istoreN (X : St p l e R s m args below meth c n0 T h cells slots) (hx : p.tables.exec = Jvm.exec) (hby : c.code = bs) {k : Fin 4} {v : Int32} (hd : decode bs pc = .ok (.istore_n k, 1)) (hl : storeLocals L k.val (.int v) = some L') (hp : pc + 1 = pc') (K : Gl p e below n0 Φ Q (T.setTop (mkF m pc' L' S))) : Gl p e below n0 Φ Q (T.setTop (mkF m pc L (.int v :: S))) := by
  obtain ⟨locs, Y, -, -⟩ := X; subst hp; exact Gl.st (fun t k => XS.istoreN Y.here hx rfl (hb hby hd) rfl hl k) K
theorem g_lstore (X : St p l e R s m args below meth c n0 T h cells slots) (hx : p.tables.exec = Jvm.exec) (hby : c.code = bs) {k : Nat} {v : Int64} (hd : decode bs pc = .ok (.lstore k, 2)) (hl : storeLocals L k (.long v) = some L') (hp : pc + 2 = pc') (K : Gl p e below n0 Φ Q (T.setTop (mkF m pc' L' S))) : Gl p e below n0 Φ Q (T.setTop (mkF m pc L (.long v :: S))) := by
  obtain ⟨locs, Y, -, -⟩ := X; subst hp; exact Gl.st (fun t k => XS.lstore Y.here hx rfl (hb hby hd) rfl hl k) K
theorem g_lstoreN (X : St p l e R s m args below meth c n0 T h cells slots) (hx : p.tables.exec = Jvm.exec) (hby : c.code = bs) {k : Fin 4} {v : Int64} (hd : decode bs pc = .ok (.lstore_n k, 1)) (hl : storeLocals L k.val (.long v) = some L') (hp : pc + 1 = pc') (K : Gl p e below n0 Φ Q (T.setTop (mkF m pc' L' S))) : Gl p e below n0 Φ Q (T.setTop (mkF m pc L (.long v :: S))) := by
  obtain ⟨locs, Y, -, -⟩ := X; subst hp; exact Gl.st (fun t k => XS.lstoreN Y.here hx rfl (hb hby hd) rfl hl k) K
theorem g_astore (X : St p l e R s m args below meth c n0 T h cells slots) (hx : p.tables.exec = Jvm.exec) (hby : c.code = bs) {k : Nat} {v : Value} (hd : decode bs pc = .ok (.astore k, 2)) (hv : v.isRef = true) (hl : storeLocals L k v = some L') (hp : pc + 2 = pc') (K : Gl p e below n0 Φ Q (T.setTop (mkF m pc' L' S))) : Gl p e below n0 Φ Q (T.setTop (mkF m pc L (v :: S))) := by
  obtain ⟨locs, Y, -, -⟩ := X; subst hp; exact Gl.st (fun t k => XS.astore Y.here hx rfl (hb hby hd) rfl hv hl k) K
theorem g_astoreN (X : St p l e R s m args below meth c n0 T h cells slots) (hx : p.tables.exec = Jvm.exec) (hby : c.code = bs) {k : Fin 4} {v : Value} (hd : decode bs pc = .ok (.astore_n k, 1)) (hv : v.isRef = true) (hl : storeLocals L k.val v = some L') (hp : pc + 1 = pc') (K : Gl p e below n0 Φ Q (T.setTop (mkF m pc' L' S))) : Gl p e below n0 Φ Q (T.setTop (mkF m pc L (v :: S))) := by
  obtain ⟨locs, Y, -, -⟩ := X; subst hp; exact Gl.st (fun t k => XS.astoreN Y.here hx rfl (hb hby hd) rfl hv hl k) K
theorem g_iconst (X : St p l e R s m args below meth c n0 T h cells slots) (hx : p.tables.exec = Jvm.exec) (hby : c.code = bs) {i : Int} {v : Int32} (hd : decode bs pc = .ok (.iconst i, 1)) (hv : Int32.ofInt i = v) (hp : pc + 1 = pc') (K : Gl p e below n0 Φ Q (T.setTop (mkF m pc' L (.int v :: S)))) : Gl p e below n0 Φ Q (T.setTop (mkF m pc L S)) := by
  obtain ⟨locs, Y, -, -⟩ := X; subst hp hv; exact Gl.st (fun t k => XS.iconst Y.here hx rfl (hb hby hd) k) K
theorem g_bipush (X : St p l e R s m args below meth c n0 T h cells slots) (hx : p.tables.exec = Jvm.exec) (hby : c.code = bs) {i : Int} {v : Int32} (hd : decode bs pc = .ok (.bipush i, 2)) (hv : (Int8.ofInt i).toInt32 = v) (hp : pc + 2 = pc') (K : Gl p e below n0 Φ Q (T.setTop (mkF m pc' L (.int v :: S)))) : Gl p e below n0 Φ Q (T.setTop (mkF m pc L S)) := by
  obtain ⟨locs, Y, -, -⟩ := X; subst hp hv; exact Gl.st (fun t k => XS.bipush Y.here hx rfl (hb hby hd) k) K
theorem g_sipush (X : St p l e R s m args below meth c n0 T h cells slots) (hx : p.tables.exec = Jvm.exec) (hby : c.code = bs) {i : Int} {v : Int32} (hd : decode bs pc = .ok (.sipush i, 3)) (hv : (Int16.ofInt i).toInt32 = v) (hp : pc + 3 = pc') (K : Gl p e below n0 Φ Q (T.setTop (mkF m pc' L (.int v :: S)))) : Gl p e below n0 Φ Q (T.setTop (mkF m pc L S)) := by
  obtain ⟨locs, Y, -, -⟩ := X; subst hp hv; exact Gl.st (fun t k => XS.sipush Y.here hx rfl (hb hby hd) k) K
theorem g_lconst (X : St p l e R s m args below meth c n0 T h cells slots) (hx : p.tables.exec = Jvm.exec) (hby : c.code = bs) {i : Fin 2} {v : Int64} (hd : decode bs pc = .ok (.lconst i, 1)) (hv : Int64.ofNat i = v) (hp : pc + 1 = pc') (K : Gl p e below n0 Φ Q (T.setTop (mkF m pc' L (.long v :: S)))) : Gl p e below n0 Φ Q (T.setTop (mkF m pc L S)) := by
  obtain ⟨locs, Y, -, -⟩ := X; subst hp hv; exact Gl.st (fun t k => XS.lconst Y.here hx rfl (hb hby hd) k) K
theorem g_aconst_null (X : St p l e R s m args below meth c n0 T h cells slots) (hx : p.tables.exec = Jvm.exec) (hby : c.code = bs) (hd : decode bs pc = .ok (.aconst_null, 1)) (hp : pc + 1 = pc') (K : Gl p e below n0 Φ Q (T.setTop (mkF m pc' L (.null :: S)))) : Gl p e below n0 Φ Q (T.setTop (mkF m pc L S)) := by
  obtain ⟨locs, Y, -, -⟩ := X; subst hp; exact Gl.st (fun t k => XS.aconstNull Y.here hx rfl (hb hby hd) k) K
theorem g_ldc (X : St p l e R s m args below meth c n0 T h cells slots) (hx : p.tables.exec = Jvm.exec) (hby : c.code = bs) (hZ : Z.Warmed39 s.vm) {own : String} {index : Nat} {v : Int32} (hown : s.vm.findClass own = some m.cls) (w : (Cond.constant own index v).before a0 Z = true) (hd : decode bs pc = .ok (.ldc index, 2)) (hp : pc + 2 = pc') (K : Gl p e below n0 Φ Q (T.setTop (mkF m pc' L (.int v :: S)))) : Gl p e below n0 Φ Q (T.setTop (mkF m pc L S)) := by
  obtain ⟨locs, Y, -, -⟩ := X; subst hp; exact Gl.st (Y.ldcInt hx hown (mvT hZ w) (g := mkF m pc L S) rfl (hb hby hd)) K
theorem g_ldc2_w (X : St p l e R s m args below meth c n0 T h cells slots) (hx : p.tables.exec = Jvm.exec) (hby : c.code = bs) (hZ : Z.Warmed39 s.vm) {own : String} {index : Nat} {v : Int64} (hown : s.vm.findClass own = some m.cls) (w : (Cond.constantLong own index v).before a0 Z = true) (hd : decode bs pc = .ok (.ldc2_w index, 3)) (hp : pc + 3 = pc') (K : Gl p e below n0 Φ Q (T.setTop (mkF m pc' L (.long v :: S)))) : Gl p e below n0 Φ Q (T.setTop (mkF m pc L S)) := by
  obtain ⟨locs, Y, -, -⟩ := X; subst hp; exact Gl.st (Y.ldc2Long hx hown (mvT hZ w) (g := mkF m pc L S) rfl (hb hby hd)) K
theorem g_iadd (X : St p l e R s m args below meth c n0 T h cells slots) (hx : p.tables.exec = Jvm.exec) (hby : c.code = bs) {x y : Int32} (hd : decode bs pc = .ok (.iadd, 1))  (hp : pc + 1 = pc') (K : Gl p e below n0 Φ Q (T.setTop (mkF m pc' L (.int (x + y) :: S)))) : Gl p e below n0 Φ Q (T.setTop (mkF m pc L (.int y :: .int x :: S))) := by
  obtain ⟨locs, Y, -, -⟩ := X; subst hp; exact Gl.st (fun t k => XS.iadd Y.here hx rfl (hb hby hd) rfl k) K
theorem g_isub (X : St p l e R s m args below meth c n0 T h cells slots) (hx : p.tables.exec = Jvm.exec) (hby : c.code = bs) {x y : Int32} (hd : decode bs pc = .ok (.isub, 1))  (hp : pc + 1 = pc') (K : Gl p e below n0 Φ Q (T.setTop (mkF m pc' L (.int (x - y) :: S)))) : Gl p e below n0 Φ Q (T.setTop (mkF m pc L (.int y :: .int x :: S))) := by
  obtain ⟨locs, Y, -, -⟩ := X; subst hp; exact Gl.st (fun t k => XS.isub Y.here hx rfl (hb hby hd) rfl k) K
theorem g_imul (X : St p l e R s m args below meth c n0 T h cells slots) (hx : p.tables.exec = Jvm.exec) (hby : c.code = bs) {x y : Int32} (hd : decode bs pc = .ok (.imul, 1))  (hp : pc + 1 = pc') (K : Gl p e below n0 Φ Q (T.setTop (mkF m pc' L (.int (x * y) :: S)))) : Gl p e below n0 Φ Q (T.setTop (mkF m pc L (.int y :: .int x :: S))) := by
  obtain ⟨locs, Y, -, -⟩ := X; subst hp; exact Gl.st (fun t k => XS.imul Y.here hx rfl (hb hby hd) rfl k) K
theorem g_iand (X : St p l e R s m args below meth c n0 T h cells slots) (hx : p.tables.exec = Jvm.exec) (hby : c.code = bs) {x y : Int32} (hd : decode bs pc = .ok (.iand, 1))  (hp : pc + 1 = pc') (K : Gl p e below n0 Φ Q (T.setTop (mkF m pc' L (.int (x &&& y) :: S)))) : Gl p e below n0 Φ Q (T.setTop (mkF m pc L (.int y :: .int x :: S))) := by
  obtain ⟨locs, Y, -, -⟩ := X; subst hp; exact Gl.st (fun t k => XS.iand Y.here hx rfl (hb hby hd) rfl k) K
theorem g_ior (X : St p l e R s m args below meth c n0 T h cells slots) (hx : p.tables.exec = Jvm.exec) (hby : c.code = bs) {x y : Int32} (hd : decode bs pc = .ok (.ior, 1))  (hp : pc + 1 = pc') (K : Gl p e below n0 Φ Q (T.setTop (mkF m pc' L (.int (x ||| y) :: S)))) : Gl p e below n0 Φ Q (T.setTop (mkF m pc L (.int y :: .int x :: S))) := by
  obtain ⟨locs, Y, -, -⟩ := X; subst hp; exact Gl.st (fun t k => XS.ior Y.here hx rfl (hb hby hd) rfl k) K
theorem g_ixor (X : St p l e R s m args below meth c n0 T h cells slots) (hx : p.tables.exec = Jvm.exec) (hby : c.code = bs) {x y : Int32} (hd : decode bs pc = .ok (.ixor, 1))  (hp : pc + 1 = pc') (K : Gl p e below n0 Φ Q (T.setTop (mkF m pc' L (.int (x ^^^ y) :: S)))) : Gl p e below n0 Φ Q (T.setTop (mkF m pc L (.int y :: .int x :: S))) := by
  obtain ⟨locs, Y, -, -⟩ := X; subst hp; exact Gl.st (fun t k => XS.ixor Y.here hx rfl (hb hby hd) rfl k) K
theorem g_ishl (X : St p l e R s m args below meth c n0 T h cells slots) (hx : p.tables.exec = Jvm.exec) (hby : c.code = bs) {x y : Int32} (hd : decode bs pc = .ok (.ishl, 1))  (hp : pc + 1 = pc') (K : Gl p e below n0 Φ Q (T.setTop (mkF m pc' L (.int (x <<< (y &&& 31)) :: S)))) : Gl p e below n0 Φ Q (T.setTop (mkF m pc L (.int y :: .int x :: S))) := by
  obtain ⟨locs, Y, -, -⟩ := X; subst hp; exact Gl.st (fun t k => XS.ishl Y.here hx rfl (hb hby hd) rfl k) K
theorem g_ishr (X : St p l e R s m args below meth c n0 T h cells slots) (hx : p.tables.exec = Jvm.exec) (hby : c.code = bs) {x y : Int32} (hd : decode bs pc = .ok (.ishr, 1))  (hp : pc + 1 = pc') (K : Gl p e below n0 Φ Q (T.setTop (mkF m pc' L (.int (x >>> (y &&& 31)) :: S)))) : Gl p e below n0 Φ Q (T.setTop (mkF m pc L (.int y :: .int x :: S))) := by
  obtain ⟨locs, Y, -, -⟩ := X; subst hp; exact Gl.st (fun t k => XS.ishr Y.here hx rfl (hb hby hd) rfl k) K
theorem g_iushr (X : St p l e R s m args below meth c n0 T h cells slots) (hx : p.tables.exec = Jvm.exec) (hby : c.code = bs) {x y : Int32} (hd : decode bs pc = .ok (.iushr, 1))  (hp : pc + 1 = pc') (K : Gl p e below n0 Φ Q (T.setTop (mkF m pc' L (.int ((x.toUInt32 >>> (y &&& 31).toUInt32).toInt32) :: S)))) : Gl p e below n0 Φ Q (T.setTop (mkF m pc L (.int y :: .int x :: S))) := by
  obtain ⟨locs, Y, -, -⟩ := X; subst hp; exact Gl.st (fun t k => XS.iushr Y.here hx rfl (hb hby hd) rfl k) K
theorem g_ladd (X : St p l e R s m args below meth c n0 T h cells slots) (hx : p.tables.exec = Jvm.exec) (hby : c.code = bs) {x y : Int64} (hd : decode bs pc = .ok (.ladd, 1))  (hp : pc + 1 = pc') (K : Gl p e below n0 Φ Q (T.setTop (mkF m pc' L (.long (x + y) :: S)))) : Gl p e below n0 Φ Q (T.setTop (mkF m pc L (.long y :: .long x :: S))) := by
  obtain ⟨locs, Y, -, -⟩ := X; subst hp; exact Gl.st (fun t k => XS.ladd Y.here hx rfl (hb hby hd) rfl k) K
theorem g_lsub (X : St p l e R s m args below meth c n0 T h cells slots) (hx : p.tables.exec = Jvm.exec) (hby : c.code = bs) {x y : Int64} (hd : decode bs pc = .ok (.lsub, 1))  (hp : pc + 1 = pc') (K : Gl p e below n0 Φ Q (T.setTop (mkF m pc' L (.long (x - y) :: S)))) : Gl p e below n0 Φ Q (T.setTop (mkF m pc L (.long y :: .long x :: S))) := by
  obtain ⟨locs, Y, -, -⟩ := X; subst hp; exact Gl.st (fun t k => XS.lsub Y.here hx rfl (hb hby hd) rfl k) K
theorem g_lmul (X : St p l e R s m args below meth c n0 T h cells slots) (hx : p.tables.exec = Jvm.exec) (hby : c.code = bs) {x y : Int64} (hd : decode bs pc = .ok (.lmul, 1))  (hp : pc + 1 = pc') (K : Gl p e below n0 Φ Q (T.setTop (mkF m pc' L (.long (x * y) :: S)))) : Gl p e below n0 Φ Q (T.setTop (mkF m pc L (.long y :: .long x :: S))) := by
  obtain ⟨locs, Y, -, -⟩ := X; subst hp; exact Gl.st (fun t k => XS.lmul Y.here hx rfl (hb hby hd) rfl k) K
theorem g_land (X : St p l e R s m args below meth c n0 T h cells slots) (hx : p.tables.exec = Jvm.exec) (hby : c.code = bs) {x y : Int64} (hd : decode bs pc = .ok (.land, 1))  (hp : pc + 1 = pc') (K : Gl p e below n0 Φ Q (T.setTop (mkF m pc' L (.long (x &&& y) :: S)))) : Gl p e below n0 Φ Q (T.setTop (mkF m pc L (.long y :: .long x :: S))) := by
  obtain ⟨locs, Y, -, -⟩ := X; subst hp; exact Gl.st (fun t k => XS.land Y.here hx rfl (hb hby hd) rfl k) K
theorem g_lor (X : St p l e R s m args below meth c n0 T h cells slots) (hx : p.tables.exec = Jvm.exec) (hby : c.code = bs) {x y : Int64} (hd : decode bs pc = .ok (.lor, 1))  (hp : pc + 1 = pc') (K : Gl p e below n0 Φ Q (T.setTop (mkF m pc' L (.long (x ||| y) :: S)))) : Gl p e below n0 Φ Q (T.setTop (mkF m pc L (.long y :: .long x :: S))) := by
  obtain ⟨locs, Y, -, -⟩ := X; subst hp; exact Gl.st (fun t k => XS.lor Y.here hx rfl (hb hby hd) rfl k) K
theorem g_lxor (X : St p l e R s m args below meth c n0 T h cells slots) (hx : p.tables.exec = Jvm.exec) (hby : c.code = bs) {x y : Int64} (hd : decode bs pc = .ok (.lxor, 1))  (hp : pc + 1 = pc') (K : Gl p e below n0 Φ Q (T.setTop (mkF m pc' L (.long (x ^^^ y) :: S)))) : Gl p e below n0 Φ Q (T.setTop (mkF m pc L (.long y :: .long x :: S))) := by
  obtain ⟨locs, Y, -, -⟩ := X; subst hp; exact Gl.st (fun t k => XS.lxor Y.here hx rfl (hb hby hd) rfl k) K
theorem g_lushr (X : St p l e R s m args below meth c n0 T h cells slots) (hx : p.tables.exec = Jvm.exec) (hby : c.code = bs) {x : Int64} {y : Int32} (hd : decode bs pc = .ok (.lushr, 1))  (hp : pc + 1 = pc') (K : Gl p e below n0 Φ Q (T.setTop (mkF m pc' L (.long ((x.toUInt64 >>> (y &&& 0x3f).toInt64.toUInt64).toInt64) :: S)))) : Gl p e below n0 Φ Q (T.setTop (mkF m pc L (.int y :: .long x :: S))) := by
  obtain ⟨locs, Y, -, -⟩ := X; subst hp; exact Gl.st (fun t k => XS.lushr Y.here hx rfl (hb hby hd) rfl k) K
theorem g_irem (X : St p l e R s m args below meth c n0 T h cells slots) (hx : p.tables.exec = Jvm.exec) (hby : c.code = bs) {x y : Int32} (hd : decode bs pc = .ok (.irem, 1)) (hy : y ≠ 0) (hp : pc + 1 = pc') (K : Gl p e below n0 Φ Q (T.setTop (mkF m pc' L (.int (x % y) :: S)))) : Gl p e below n0 Φ Q (T.setTop (mkF m pc L (.int y :: .int x :: S))) := by
  obtain ⟨locs, Y, -, -⟩ := X; subst hp; exact Gl.st (fun t k => iremM Y hx rfl (hb hby hd) rfl hy k) K
theorem g_lrem (X : St p l e R s m args below meth c n0 T h cells slots) (hx : p.tables.exec = Jvm.exec) (hby : c.code = bs) {x y : Int64} (hd : decode bs pc = .ok (.lrem, 1)) (hy : y ≠ 0) (hp : pc + 1 = pc') (K : Gl p e below n0 Φ Q (T.setTop (mkF m pc' L (.long (x - (x / y) * y) :: S)))) : Gl p e below n0 Φ Q (T.setTop (mkF m pc L (.long y :: .long x :: S))) := by
  obtain ⟨locs, Y, -, -⟩ := X; subst hp; exact Gl.st (fun t k => XS.lrem Y.here hx rfl (hb hby hd) rfl hy k) K
theorem g_i2l (X : St p l e R s m args below meth c n0 T h cells slots) (hx : p.tables.exec = Jvm.exec) (hby : c.code = bs) {x : Int32} (hd : decode bs pc = .ok (.i2l, 1))  (hp : pc + 1 = pc') (K : Gl p e below n0 Φ Q (T.setTop (mkF m pc' L (.long (x.toInt64) :: S)))) : Gl p e below n0 Φ Q (T.setTop (mkF m pc L (.int x :: S))) := by
  obtain ⟨locs, Y, -, -⟩ := X; subst hp; exact Gl.st (fun t k => XS.i2l Y.here hx rfl (hb hby hd) rfl k) K
theorem g_l2i (X : St p l e R s m args below meth c n0 T h cells slots) (hx : p.tables.exec = Jvm.exec) (hby : c.code = bs) {x : Int64} (hd : decode bs pc = .ok (.l2i, 1))  (hp : pc + 1 = pc') (K : Gl p e below n0 Φ Q (T.setTop (mkF m pc' L (.int (x.toInt32) :: S)))) : Gl p e below n0 Φ Q (T.setTop (mkF m pc L (.long x :: S))) := by
  obtain ⟨locs, Y, -, -⟩ := X; subst hp; exact Gl.st (fun t k => XS.l2i Y.here hx rfl (hb hby hd) rfl k) K
theorem g_i2b (X : St p l e R s m args below meth c n0 T h cells slots) (hx : p.tables.exec = Jvm.exec) (hby : c.code = bs) {x : Int32} (hd : decode bs pc = .ok (.i2b, 1))  (hp : pc + 1 = pc') (K : Gl p e below n0 Φ Q (T.setTop (mkF m pc' L (.int (x.toInt8.toInt32) :: S)))) : Gl p e below n0 Φ Q (T.setTop (mkF m pc L (.int x :: S))) := by
  obtain ⟨locs, Y, -, -⟩ := X; subst hp; exact Gl.st (fun t k => XS.i2b Y.here hx rfl (hb hby hd) rfl k) K
theorem g_i2c (X : St p l e R s m args below meth c n0 T h cells slots) (hx : p.tables.exec = Jvm.exec) (hby : c.code = bs) {x : Int32} (hd : decode bs pc = .ok (.i2c, 1))  (hp : pc + 1 = pc') (K : Gl p e below n0 Φ Q (T.setTop (mkF m pc' L (.int (x.toUInt32.toUInt16.toUInt32.toInt32) :: S)))) : Gl p e below n0 Φ Q (T.setTop (mkF m pc L (.int x :: S))) := by
  obtain ⟨locs, Y, -, -⟩ := X; subst hp; exact Gl.st (fun t k => XS.i2c Y.here hx rfl (hb hby hd) rfl k) K
theorem g_ineg (X : St p l e R s m args below meth c n0 T h cells slots) (hx : p.tables.exec = Jvm.exec) (hby : c.code = bs) {x : Int32} (hd : decode bs pc = .ok (.ineg, 1))  (hp : pc + 1 = pc') (K : Gl p e below n0 Φ Q (T.setTop (mkF m pc' L (.int (-x) :: S)))) : Gl p e below n0 Φ Q (T.setTop (mkF m pc L (.int x :: S))) := by
  obtain ⟨locs, Y, -, -⟩ := X; subst hp; exact Gl.st (fun t k => XS.ineg Y.here hx rfl (hb hby hd) rfl k) K
theorem g_dload (X : St p l e R s m args below meth c n0 T h cells slots) (hx : p.tables.exec = Jvm.exec) (hby : c.code = bs) {k : Nat} {v : UInt64} (hd : decode bs pc = .ok (.dload k, 2)) (hl : L[k]? = some (.val (.double v))) (hp : pc + 2 = pc') (K : Gl p e below n0 Φ Q (T.setTop (mkF m pc' L (.double v :: S)))) : Gl p e below n0 Φ Q (T.setTop (mkF m pc L S)) := by
  obtain ⟨locs, Y, -, -⟩ := X; subst hp; exact Gl.st (fun t k => XS.dload Y.here hx rfl (hb hby hd) hl k) K
theorem g_dloadN (X : St p l e R s m args below meth c n0 T h cells slots) (hx : p.tables.exec = Jvm.exec) (hby : c.code = bs) {k : Fin 4} {v : UInt64} (hd : decode bs pc = .ok (.dload_n k, 1)) (hl : L[k.val]? = some (.val (.double v))) (hp : pc + 1 = pc') (K : Gl p e below n0 Φ Q (T.setTop (mkF m pc' L (.double v :: S)))) : Gl p e below n0 Φ Q (T.setTop (mkF m pc L S)) := by
  obtain ⟨locs, Y, -, -⟩ := X; subst hp; exact Gl.st (fun t k => XS.dloadN Y.here hx rfl (hb hby hd) hl k) K
theorem g_dstore (X : St p l e R s m args below meth c n0 T h cells slots) (hx : p.tables.exec = Jvm.exec) (hby : c.code = bs) {k : Nat} {v : UInt64} (hd : decode bs pc = .ok (.dstore k, 2)) (hl : storeLocals L k (.double v) = some L') (hp : pc + 2 = pc') (K : Gl p e below n0 Φ Q (T.setTop (mkF m pc' L' S))) : Gl p e below n0 Φ Q (T.setTop (mkF m pc L (.double v :: S))) := by
  obtain ⟨locs, Y, -, -⟩ := X; subst hp; exact Gl.st (fun t k => XS.dstore Y.here hx rfl (hb hby hd) rfl hl k) K
theorem g_dstoreN (X : St p l e R s m args below meth c n0 T h cells slots) (hx : p.tables.exec = Jvm.exec) (hby : c.code = bs) {k : Fin 4} {v : UInt64} (hd : decode bs pc = .ok (.dstore_n k, 1)) (hl : storeLocals L k.val (.double v) = some L') (hp : pc + 1 = pc') (K : Gl p e below n0 Φ Q (T.setTop (mkF m pc' L' S))) : Gl p e below n0 Φ Q (T.setTop (mkF m pc L (.double v :: S))) := by
  obtain ⟨locs, Y, -, -⟩ := X; subst hp; exact Gl.st (fun t k => XS.dstoreN Y.here hx rfl (hb hby hd) rfl hl k) K
theorem g_i2d (X : St p l e R s m args below meth c n0 T h cells slots) (hx : p.tables.exec = Jvm.exec) (hby : c.code = bs) {x : Int32} (hd : decode bs pc = .ok (.i2d, 1))  (hp : pc + 1 = pc') (K : Gl p e below n0 Φ Q (T.setTop (mkF m pc' L (.double (FP.i2d x) :: S)))) : Gl p e below n0 Φ Q (T.setTop (mkF m pc L (.int x :: S))) := by
  obtain ⟨locs, Y, -, -⟩ := X; subst hp; exact Gl.st (fun t k => XS.i2dS Y.here hx rfl (hb hby hd) rfl rfl k) K
theorem g_dconst0 (X : St p l e R s m args below meth c n0 T h cells slots) (hx : p.tables.exec = Jvm.exec) (hby : c.code = bs) (hd : decode bs pc = .ok (.dconst 0, 1)) (hp : pc + 1 = pc') (K : Gl p e below n0 Φ Q (T.setTop (mkF m pc' L (.double FP.dconst0 :: S)))) : Gl p e below n0 Φ Q (T.setTop (mkF m pc L S)) := by
  obtain ⟨locs, Y, -, -⟩ := X; subst hp; exact Gl.st (fun t k => XS.dconst0 Y.here hx rfl (hb hby hd) rfl k) K
theorem g_dconst1 (X : St p l e R s m args below meth c n0 T h cells slots) (hx : p.tables.exec = Jvm.exec) (hby : c.code = bs) (hd : decode bs pc = .ok (.dconst 1, 1)) (hp : pc + 1 = pc') (K : Gl p e below n0 Φ Q (T.setTop (mkF m pc' L (.double FP.dconst1 :: S)))) : Gl p e below n0 Φ Q (T.setTop (mkF m pc L S)) := by
  obtain ⟨locs, Y, -, -⟩ := X; subst hp; exact Gl.st (fun t k => XS.dconst1 Y.here hx rfl (hb hby hd) rfl k) K
theorem g_ddiv (X : St p l e R s m args below meth c n0 T h cells slots) (hx : p.tables.exec = Jvm.exec) (hby : c.code = bs) {x y : UInt64} (hd : decode bs pc = .ok (.ddiv, 1)) (hn : Jvm.Free.Fl.NoNaN64 (FP.ddiv x y)) (hp : pc + 1 = pc') (K : Gl p e below n0 Φ Q (T.setTop (mkF m pc' L (.double (FP.ddiv x y) :: S)))) : Gl p e below n0 Φ Q (T.setTop (mkF m pc L (.double y :: .double x :: S))) := by
  obtain ⟨locs, Y, -, -⟩ := X; subst hp; exact Gl.st (fun t k => XS.ddivS Y.here hx rfl (hb hby hd) rfl hn rfl k) K
theorem g_dcmp (X : St p l e R s m args below meth c n0 T h cells slots) (hx : p.tables.exec = Jvm.exec) (hby : c.code = bs) {x y : UInt64} {o : CmpOp} {v : Int32} (hd : decode bs pc = .ok (.dcmp o, 1)) (hv : cmpValue (FP.dcmp x y) o = v) (hp : pc + 1 = pc') (K : Gl p e below n0 Φ Q (T.setTop (mkF m pc' L (.int v :: S)))) : Gl p e below n0 Φ Q (T.setTop (mkF m pc L (.double y :: .double x :: S))) := by
  obtain ⟨locs, Y, -, -⟩ := X; subst hp; exact Gl.st (fun t k => XS.dcmpS Y.here hx rfl (hb hby hd) rfl hv k) K
theorem g_dup (X : St p l e R s m args below meth c n0 T h cells slots) (hx : p.tables.exec = Jvm.exec) (hby : c.code = bs) {v : Value} (hd : decode bs pc = .ok (.dup, 1)) (hc : v.category = 1) (hp : pc + 1 = pc') (K : Gl p e below n0 Φ Q (T.setTop (mkF m pc' L (v :: v :: S)))) : Gl p e below n0 Φ Q (T.setTop (mkF m pc L (v :: S))) := by
  obtain ⟨locs, Y, -, -⟩ := X; subst hp; exact Gl.st (fun t k => XS.dup Y.here hx rfl (hb hby hd) rfl hc k) K
theorem g_pop (X : St p l e R s m args below meth c n0 T h cells slots) (hx : p.tables.exec = Jvm.exec) (hby : c.code = bs) {v : Value} (hd : decode bs pc = .ok (.pop, 1)) (hc : v.category = 1) (hp : pc + 1 = pc') (K : Gl p e below n0 Φ Q (T.setTop (mkF m pc' L S))) : Gl p e below n0 Φ Q (T.setTop (mkF m pc L (v :: S))) := by
  obtain ⟨locs, Y, -, -⟩ := X; subst hp; exact Gl.st (fun t k => XS.pop Y.here hx rfl (hb hby hd) rfl hc k) K
theorem g_dup2 (X : St p l e R s m args below meth c n0 T h cells slots) (hx : p.tables.exec = Jvm.exec) (hby : c.code = bs) {v w : Value} (hd : decode bs pc = .ok (.dup2, 1)) (hc : v.category = 1) (hc' : w.category = 1) (hp : pc + 1 = pc') (K : Gl p e below n0 Φ Q (T.setTop (mkF m pc' L (v :: w :: v :: w :: S)))) : Gl p e below n0 Φ Q (T.setTop (mkF m pc L (v :: w :: S))) := by
  obtain ⟨locs, Y, -, -⟩ := X; subst hp; exact Gl.st (fun t k => XT.dup2 Y.here hx rfl (hb hby hd) rfl hc hc' k) K
theorem g_iinc (X : St p l e R s m args below meth c n0 T h cells slots) (hx : p.tables.exec = Jvm.exec) (hby : c.code = bs) {k : Nat} {i : Int} {x y : Int32} (hd : decode bs pc = .ok (.iinc k i, 3)) (hl : L[k]? = some (.val (.int x))) (hy : Int32.ofInt i = y) (hl' : storeLocals L k (.int (x + y)) = some L') (hp : pc + 3 = pc') (K : Gl p e below n0 Φ Q (T.setTop (mkF m pc' L' S))) : Gl p e below n0 Φ Q (T.setTop (mkF m pc L S)) := by
  obtain ⟨locs, Y, -, -⟩ := X; subst hp hy; exact Gl.st (fun t k => XS.iinc Y.here hx rfl (hb hby hd) hl hl' k) K
theorem g_goto (X : St p l e R s m args below meth c n0 T h cells slots) (hx : p.tables.exec = Jvm.exec) (hby : c.code = bs) {o : Int} (hd : decode bs pc = .ok (.goto o, 3)) (ho : 0 ≤ (pc : Int) + o) (hp : ((pc : Int) + o).toNat = pc') (K : Gl p e below n0 Φ Q (T.setTop (mkF m pc' L S))) : Gl p e below n0 Φ Q (T.setTop (mkF m pc L S)) := by
  obtain ⟨locs, Y, -, -⟩ := X; exact Gl.st (fun t k => XS.goto Y.here hx rfl (pc0 := pc) rfl (hb hby hd) ho hp k) K
theorem g_icmp (X : St p l e R s m args below meth c n0 T h cells slots) (hx : p.tables.exec = Jvm.exec) (hby : c.code = bs) {cd : ClassFile.Cond} {o : Int} {x y : Int32} {pc2 : Nat} (hd : decode bs pc = .ok (.if_icmp cd o, 3)) (ho : 0 ≤ (pc : Int) + o) (hp : ((pc : Int) + o).toNat = pc') (hq : pc + 3 = pc2) (K1 : if_icmp.holds cd x y = true → Gl p e below n0 Φ Q (T.setTop (mkF m pc' L S))) (K2 : if_icmp.holds cd x y = false → Gl p e below n0 Φ Q (T.setTop (mkF m pc2 L S))) : Gl p e below n0 Φ Q (T.setTop (mkF m pc L (.int y :: .int x :: S))) := by
  obtain ⟨locs, Y, -, -⟩ := X; subst hq
  cases hc : if_icmp.holds cd x y with
  | true => exact Gl.st (fun t k => XS.icmpYes Y.here hx rfl (pc0 := pc) rfl (hb hby hd) rfl hc ho hp k) (K1 hc)
  | false => exact Gl.st (fun t k => XS.icmpNo Y.here hx rfl (hb hby hd) rfl hc k) (K2 hc)
theorem g_if (X : St p l e R s m args below meth c n0 T h cells slots) (hx : p.tables.exec = Jvm.exec) (hby : c.code = bs) {cd : ClassFile.Cond} {o : Int} {x : Int32} {pc2 : Nat} (hd : decode bs pc = .ok (.ifCond cd o, 3)) (ho : 0 ≤ (pc : Int) + o) (hp : ((pc : Int) + o).toNat = pc') (hq : pc + 3 = pc2) (K1 : if_icmp.holds cd x 0 = true → Gl p e below n0 Φ Q (T.setTop (mkF m pc' L S))) (K2 : if_icmp.holds cd x 0 = false → Gl p e below n0 Φ Q (T.setTop (mkF m pc2 L S))) : Gl p e below n0 Φ Q (T.setTop (mkF m pc L (.int x :: S))) := by
  obtain ⟨locs, Y, -, -⟩ := X; subst hq
  cases hc : if_icmp.holds cd x 0 with
  | true => exact Gl.st (fun t k => XS.ifYes Y.here hx rfl (pc0 := pc) rfl (hb hby hd) rfl ((if0 _ _).trans hc) ho hp k) (K1 hc)
  | false => exact Gl.st (fun t k => XS.ifNo Y.here hx rfl (hb hby hd) rfl ((if0 _ _).trans hc) k) (K2 hc)
theorem g_icmp_eq (X : St p l e R s m args below meth c n0 T h cells slots) (hx : p.tables.exec = Jvm.exec) (hby : c.code = bs) {o : Int} {x y : Int32} {pc2 : Nat} (hd : decode bs pc = .ok (.if_icmp .eq o, 3)) (ho : 0 ≤ (pc : Int) + o) (hp : ((pc : Int) + o).toNat = pc') (hq : pc + 3 = pc2) (K1 : x = y → Gl p e below n0 Φ Q (T.setTop (mkF m pc' L S))) (K2 : ¬ (x = y) → Gl p e below n0 Φ Q (T.setTop (mkF m pc2 L S))) : Gl p e below n0 Φ Q (T.setTop (mkF m pc L (.int y :: .int x :: S))) :=
  g_icmp X hx hby hd ho hp hq (fun q => K1 (by simpa [if_icmp.holds] using q)) (fun q => K2 (by simpa [if_icmp.holds] using q))
theorem g_if_eq (X : St p l e R s m args below meth c n0 T h cells slots) (hx : p.tables.exec = Jvm.exec) (hby : c.code = bs) {o : Int} {x : Int32} {pc2 : Nat} (hd : decode bs pc = .ok (.ifCond .eq o, 3)) (ho : 0 ≤ (pc : Int) + o) (hp : ((pc : Int) + o).toNat = pc') (hq : pc + 3 = pc2) (K1 : x = 0 → Gl p e below n0 Φ Q (T.setTop (mkF m pc' L S))) (K2 : ¬ (x = 0) → Gl p e below n0 Φ Q (T.setTop (mkF m pc2 L S))) : Gl p e below n0 Φ Q (T.setTop (mkF m pc L (.int x :: S))) :=
  g_if X hx hby hd ho hp hq (fun q => K1 (by simpa [if_icmp.holds] using q)) (fun q => K2 (by simpa [if_icmp.holds] using q))
theorem g_lcmp_eq (X : St p l e R s m args below meth c n0 T h cells slots) (hx : p.tables.exec = Jvm.exec) (hby : c.code = bs) {o : Int} {x y : Int64} {pc1 pc2 : Nat} (hd1 : decode bs pc = .ok (.lcmp, 1)) (hp1 : pc + 1 = pc1) (hd : decode bs pc1 = .ok (.ifCond .eq o, 3)) (ho : 0 ≤ (pc1 : Int) + o) (hp : ((pc1 : Int) + o).toNat = pc') (hq : pc1 + 3 = pc2) (K1 : x = y → Gl p e below n0 Φ Q (T.setTop (mkF m pc' L S))) (K2 : ¬ (x = y) → Gl p e below n0 Φ Q (T.setTop (mkF m pc2 L S))) : Gl p e below n0 Φ Q (T.setTop (mkF m pc L (.long y :: .long x :: S))) := by
  obtain ⟨locs, Y, b1, b2⟩ := X; subst hp1
  refine Gl.st (V := T.setTop (mkF m (pc + 1) L (.int (lcmpW x y) :: S))) (fun t k => XS.lcmp Y.here hx rfl (hb hby hd1) rfl k) ?_
  exact g_if_eq ⟨locs, Y, b1, b2⟩ hx hby hd ho hp hq (fun q => K1 (by simpa [lw_lt, lw_gt, lw_eq] using q)) (fun q => K2 (by simpa [lw_lt, lw_gt, lw_eq] using q))
theorem g_icmp_ne (X : St p l e R s m args below meth c n0 T h cells slots) (hx : p.tables.exec = Jvm.exec) (hby : c.code = bs) {o : Int} {x y : Int32} {pc2 : Nat} (hd : decode bs pc = .ok (.if_icmp .ne o, 3)) (ho : 0 ≤ (pc : Int) + o) (hp : ((pc : Int) + o).toNat = pc') (hq : pc + 3 = pc2) (K1 : ¬ (x = y) → Gl p e below n0 Φ Q (T.setTop (mkF m pc' L S))) (K2 : x = y → Gl p e below n0 Φ Q (T.setTop (mkF m pc2 L S))) : Gl p e below n0 Φ Q (T.setTop (mkF m pc L (.int y :: .int x :: S))) :=
  g_icmp X hx hby hd ho hp hq (fun q => K1 (by simpa [if_icmp.holds] using q)) (fun q => K2 (by simpa [if_icmp.holds] using q))
theorem g_if_ne (X : St p l e R s m args below meth c n0 T h cells slots) (hx : p.tables.exec = Jvm.exec) (hby : c.code = bs) {o : Int} {x : Int32} {pc2 : Nat} (hd : decode bs pc = .ok (.ifCond .ne o, 3)) (ho : 0 ≤ (pc : Int) + o) (hp : ((pc : Int) + o).toNat = pc') (hq : pc + 3 = pc2) (K1 : ¬ (x = 0) → Gl p e below n0 Φ Q (T.setTop (mkF m pc' L S))) (K2 : x = 0 → Gl p e below n0 Φ Q (T.setTop (mkF m pc2 L S))) : Gl p e below n0 Φ Q (T.setTop (mkF m pc L (.int x :: S))) :=
  g_if X hx hby hd ho hp hq (fun q => K1 (by simpa [if_icmp.holds] using q)) (fun q => K2 (by simpa [if_icmp.holds] using q))
theorem g_lcmp_ne (X : St p l e R s m args below meth c n0 T h cells slots) (hx : p.tables.exec = Jvm.exec) (hby : c.code = bs) {o : Int} {x y : Int64} {pc1 pc2 : Nat} (hd1 : decode bs pc = .ok (.lcmp, 1)) (hp1 : pc + 1 = pc1) (hd : decode bs pc1 = .ok (.ifCond .ne o, 3)) (ho : 0 ≤ (pc1 : Int) + o) (hp : ((pc1 : Int) + o).toNat = pc') (hq : pc1 + 3 = pc2) (K1 : ¬ (x = y) → Gl p e below n0 Φ Q (T.setTop (mkF m pc' L S))) (K2 : x = y → Gl p e below n0 Φ Q (T.setTop (mkF m pc2 L S))) : Gl p e below n0 Φ Q (T.setTop (mkF m pc L (.long y :: .long x :: S))) := by
  obtain ⟨locs, Y, b1, b2⟩ := X; subst hp1
  refine Gl.st (V := T.setTop (mkF m (pc + 1) L (.int (lcmpW x y) :: S))) (fun t k => XS.lcmp Y.here hx rfl (hb hby hd1) rfl k) ?_
  exact g_if_ne ⟨locs, Y, b1, b2⟩ hx hby hd ho hp hq (fun q => K1 (by simpa [lw_lt, lw_gt, lw_eq] using q)) (fun q => K2 (by simpa [lw_lt, lw_gt, lw_eq] using q))
theorem g_icmp_lt (X : St p l e R s m args below meth c n0 T h cells slots) (hx : p.tables.exec = Jvm.exec) (hby : c.code = bs) {o : Int} {x y : Int32} {pc2 : Nat} (hd : decode bs pc = .ok (.if_icmp .lt o, 3)) (ho : 0 ≤ (pc : Int) + o) (hp : ((pc : Int) + o).toNat = pc') (hq : pc + 3 = pc2) (K1 : x < y → Gl p e below n0 Φ Q (T.setTop (mkF m pc' L S))) (K2 : ¬ (x < y) → Gl p e below n0 Φ Q (T.setTop (mkF m pc2 L S))) : Gl p e below n0 Φ Q (T.setTop (mkF m pc L (.int y :: .int x :: S))) :=
  g_icmp X hx hby hd ho hp hq (fun q => K1 (by simpa [if_icmp.holds] using q)) (fun q => K2 (by simpa [if_icmp.holds] using q))
theorem g_if_lt (X : St p l e R s m args below meth c n0 T h cells slots) (hx : p.tables.exec = Jvm.exec) (hby : c.code = bs) {o : Int} {x : Int32} {pc2 : Nat} (hd : decode bs pc = .ok (.ifCond .lt o, 3)) (ho : 0 ≤ (pc : Int) + o) (hp : ((pc : Int) + o).toNat = pc') (hq : pc + 3 = pc2) (K1 : x < 0 → Gl p e below n0 Φ Q (T.setTop (mkF m pc' L S))) (K2 : ¬ (x < 0) → Gl p e below n0 Φ Q (T.setTop (mkF m pc2 L S))) : Gl p e below n0 Φ Q (T.setTop (mkF m pc L (.int x :: S))) :=
  g_if X hx hby hd ho hp hq (fun q => K1 (by simpa [if_icmp.holds] using q)) (fun q => K2 (by simpa [if_icmp.holds] using q))
theorem g_lcmp_lt (X : St p l e R s m args below meth c n0 T h cells slots) (hx : p.tables.exec = Jvm.exec) (hby : c.code = bs) {o : Int} {x y : Int64} {pc1 pc2 : Nat} (hd1 : decode bs pc = .ok (.lcmp, 1)) (hp1 : pc + 1 = pc1) (hd : decode bs pc1 = .ok (.ifCond .lt o, 3)) (ho : 0 ≤ (pc1 : Int) + o) (hp : ((pc1 : Int) + o).toNat = pc') (hq : pc1 + 3 = pc2) (K1 : x < y → Gl p e below n0 Φ Q (T.setTop (mkF m pc' L S))) (K2 : ¬ (x < y) → Gl p e below n0 Φ Q (T.setTop (mkF m pc2 L S))) : Gl p e below n0 Φ Q (T.setTop (mkF m pc L (.long y :: .long x :: S))) := by
  obtain ⟨locs, Y, b1, b2⟩ := X; subst hp1
  refine Gl.st (V := T.setTop (mkF m (pc + 1) L (.int (lcmpW x y) :: S))) (fun t k => XS.lcmp Y.here hx rfl (hb hby hd1) rfl k) ?_
  exact g_if_lt ⟨locs, Y, b1, b2⟩ hx hby hd ho hp hq (fun q => K1 (by simpa [lw_lt, lw_gt, lw_eq] using q)) (fun q => K2 (by simpa [lw_lt, lw_gt, lw_eq] using q))
theorem g_icmp_ge (X : St p l e R s m args below meth c n0 T h cells slots) (hx : p.tables.exec = Jvm.exec) (hby : c.code = bs) {o : Int} {x y : Int32} {pc2 : Nat} (hd : decode bs pc = .ok (.if_icmp .ge o, 3)) (ho : 0 ≤ (pc : Int) + o) (hp : ((pc : Int) + o).toNat = pc') (hq : pc + 3 = pc2) (K1 : ¬ (x < y) → Gl p e below n0 Φ Q (T.setTop (mkF m pc' L S))) (K2 : x < y → Gl p e below n0 Φ Q (T.setTop (mkF m pc2 L S))) : Gl p e below n0 Φ Q (T.setTop (mkF m pc L (.int y :: .int x :: S))) :=
  g_icmp X hx hby hd ho hp hq (fun q => K1 (by simpa [if_icmp.holds] using q)) (fun q => K2 (by simpa [if_icmp.holds] using q))
theorem g_if_ge (X : St p l e R s m args below meth c n0 T h cells slots) (hx : p.tables.exec = Jvm.exec) (hby : c.code = bs) {o : Int} {x : Int32} {pc2 : Nat} (hd : decode bs pc = .ok (.ifCond .ge o, 3)) (ho : 0 ≤ (pc : Int) + o) (hp : ((pc : Int) + o).toNat = pc') (hq : pc + 3 = pc2) (K1 : ¬ (x < 0) → Gl p e below n0 Φ Q (T.setTop (mkF m pc' L S))) (K2 : x < 0 → Gl p e below n0 Φ Q (T.setTop (mkF m pc2 L S))) : Gl p e below n0 Φ Q (T.setTop (mkF m pc L (.int x :: S))) :=
  g_if X hx hby hd ho hp hq (fun q => K1 (by simpa [if_icmp.holds] using q)) (fun q => K2 (by simpa [if_icmp.holds] using q))
theorem g_lcmp_ge (X : St p l e R s m args below meth c n0 T h cells slots) (hx : p.tables.exec = Jvm.exec) (hby : c.code = bs) {o : Int} {x y : Int64} {pc1 pc2 : Nat} (hd1 : decode bs pc = .ok (.lcmp, 1)) (hp1 : pc + 1 = pc1) (hd : decode bs pc1 = .ok (.ifCond .ge o, 3)) (ho : 0 ≤ (pc1 : Int) + o) (hp : ((pc1 : Int) + o).toNat = pc') (hq : pc1 + 3 = pc2) (K1 : ¬ (x < y) → Gl p e below n0 Φ Q (T.setTop (mkF m pc' L S))) (K2 : x < y → Gl p e below n0 Φ Q (T.setTop (mkF m pc2 L S))) : Gl p e below n0 Φ Q (T.setTop (mkF m pc L (.long y :: .long x :: S))) := by
  obtain ⟨locs, Y, b1, b2⟩ := X; subst hp1
  refine Gl.st (V := T.setTop (mkF m (pc + 1) L (.int (lcmpW x y) :: S))) (fun t k => XS.lcmp Y.here hx rfl (hb hby hd1) rfl k) ?_
  exact g_if_ge ⟨locs, Y, b1, b2⟩ hx hby hd ho hp hq (fun q => K1 (by simpa [lw_lt, lw_gt, lw_eq] using q)) (fun q => K2 (by simpa [lw_lt, lw_gt, lw_eq] using q))
theorem g_icmp_gt (X : St p l e R s m args below meth c n0 T h cells slots) (hx : p.tables.exec = Jvm.exec) (hby : c.code = bs) {o : Int} {x y : Int32} {pc2 : Nat} (hd : decode bs pc = .ok (.if_icmp .gt o, 3)) (ho : 0 ≤ (pc : Int) + o) (hp : ((pc : Int) + o).toNat = pc') (hq : pc + 3 = pc2) (K1 : y < x → Gl p e below n0 Φ Q (T.setTop (mkF m pc' L S))) (K2 : ¬ (y < x) → Gl p e below n0 Φ Q (T.setTop (mkF m pc2 L S))) : Gl p e below n0 Φ Q (T.setTop (mkF m pc L (.int y :: .int x :: S))) :=
  g_icmp X hx hby hd ho hp hq (fun q => K1 (by simpa [if_icmp.holds] using q)) (fun q => K2 (by simpa [if_icmp.holds] using q))
theorem g_if_gt (X : St p l e R s m args below meth c n0 T h cells slots) (hx : p.tables.exec = Jvm.exec) (hby : c.code = bs) {o : Int} {x : Int32} {pc2 : Nat} (hd : decode bs pc = .ok (.ifCond .gt o, 3)) (ho : 0 ≤ (pc : Int) + o) (hp : ((pc : Int) + o).toNat = pc') (hq : pc + 3 = pc2) (K1 : 0 < x → Gl p e below n0 Φ Q (T.setTop (mkF m pc' L S))) (K2 : ¬ (0 < x) → Gl p e below n0 Φ Q (T.setTop (mkF m pc2 L S))) : Gl p e below n0 Φ Q (T.setTop (mkF m pc L (.int x :: S))) :=
  g_if X hx hby hd ho hp hq (fun q => K1 (by simpa [if_icmp.holds] using q)) (fun q => K2 (by simpa [if_icmp.holds] using q))
theorem g_lcmp_gt (X : St p l e R s m args below meth c n0 T h cells slots) (hx : p.tables.exec = Jvm.exec) (hby : c.code = bs) {o : Int} {x y : Int64} {pc1 pc2 : Nat} (hd1 : decode bs pc = .ok (.lcmp, 1)) (hp1 : pc + 1 = pc1) (hd : decode bs pc1 = .ok (.ifCond .gt o, 3)) (ho : 0 ≤ (pc1 : Int) + o) (hp : ((pc1 : Int) + o).toNat = pc') (hq : pc1 + 3 = pc2) (K1 : y < x → Gl p e below n0 Φ Q (T.setTop (mkF m pc' L S))) (K2 : ¬ (y < x) → Gl p e below n0 Φ Q (T.setTop (mkF m pc2 L S))) : Gl p e below n0 Φ Q (T.setTop (mkF m pc L (.long y :: .long x :: S))) := by
  obtain ⟨locs, Y, b1, b2⟩ := X; subst hp1
  refine Gl.st (V := T.setTop (mkF m (pc + 1) L (.int (lcmpW x y) :: S))) (fun t k => XS.lcmp Y.here hx rfl (hb hby hd1) rfl k) ?_
  exact g_if_gt ⟨locs, Y, b1, b2⟩ hx hby hd ho hp hq (fun q => K1 (by simpa [lw_lt, lw_gt, lw_eq] using q)) (fun q => K2 (by simpa [lw_lt, lw_gt, lw_eq] using q))
theorem g_icmp_le (X : St p l e R s m args below meth c n0 T h cells slots) (hx : p.tables.exec = Jvm.exec) (hby : c.code = bs) {o : Int} {x y : Int32} {pc2 : Nat} (hd : decode bs pc = .ok (.if_icmp .le o, 3)) (ho : 0 ≤ (pc : Int) + o) (hp : ((pc : Int) + o).toNat = pc') (hq : pc + 3 = pc2) (K1 : ¬ (y < x) → Gl p e below n0 Φ Q (T.setTop (mkF m pc' L S))) (K2 : y < x → Gl p e below n0 Φ Q (T.setTop (mkF m pc2 L S))) : Gl p e below n0 Φ Q (T.setTop (mkF m pc L (.int y :: .int x :: S))) :=
  g_icmp X hx hby hd ho hp hq (fun q => K1 (by simpa [if_icmp.holds] using q)) (fun q => K2 (by simpa [if_icmp.holds] using q))
theorem g_if_le (X : St p l e R s m args below meth c n0 T h cells slots) (hx : p.tables.exec = Jvm.exec) (hby : c.code = bs) {o : Int} {x : Int32} {pc2 : Nat} (hd : decode bs pc = .ok (.ifCond .le o, 3)) (ho : 0 ≤ (pc : Int) + o) (hp : ((pc : Int) + o).toNat = pc') (hq : pc + 3 = pc2) (K1 : ¬ (0 < x) → Gl p e below n0 Φ Q (T.setTop (mkF m pc' L S))) (K2 : 0 < x → Gl p e below n0 Φ Q (T.setTop (mkF m pc2 L S))) : Gl p e below n0 Φ Q (T.setTop (mkF m pc L (.int x :: S))) :=
  g_if X hx hby hd ho hp hq (fun q => K1 (by simpa [if_icmp.holds] using q)) (fun q => K2 (by simpa [if_icmp.holds] using q))
theorem g_lcmp_le (X : St p l e R s m args below meth c n0 T h cells slots) (hx : p.tables.exec = Jvm.exec) (hby : c.code = bs) {o : Int} {x y : Int64} {pc1 pc2 : Nat} (hd1 : decode bs pc = .ok (.lcmp, 1)) (hp1 : pc + 1 = pc1) (hd : decode bs pc1 = .ok (.ifCond .le o, 3)) (ho : 0 ≤ (pc1 : Int) + o) (hp : ((pc1 : Int) + o).toNat = pc') (hq : pc1 + 3 = pc2) (K1 : ¬ (y < x) → Gl p e below n0 Φ Q (T.setTop (mkF m pc' L S))) (K2 : y < x → Gl p e below n0 Φ Q (T.setTop (mkF m pc2 L S))) : Gl p e below n0 Φ Q (T.setTop (mkF m pc L (.long y :: .long x :: S))) := by
  obtain ⟨locs, Y, b1, b2⟩ := X; subst hp1
  refine Gl.st (V := T.setTop (mkF m (pc + 1) L (.int (lcmpW x y) :: S))) (fun t k => XS.lcmp Y.here hx rfl (hb hby hd1) rfl k) ?_
  exact g_if_le ⟨locs, Y, b1, b2⟩ hx hby hd ho hp hq (fun q => K1 (by simpa [lw_lt, lw_gt, lw_eq] using q)) (fun q => K2 (by simpa [lw_lt, lw_gt, lw_eq] using q))
theorem g_ifnull_y (X : St p l e R s m args below meth c n0 T h cells slots) (hx : p.tables.exec = Jvm.exec) (hby : c.code = bs) {o : Int} (hd : decode bs pc = .ok (.ifnull o, 3)) (ho : 0 ≤ (pc : Int) + o) (hp : ((pc : Int) + o).toNat = pc') (K : Gl p e below n0 Φ Q (T.setTop (mkF m pc' L S))) : Gl p e below n0 Φ Q (T.setTop (mkF m pc L (.null :: S))) := by
  obtain ⟨locs, Y, -, -⟩ := X; exact Gl.st (fun t k => XS.ifnullYes Y.here hx rfl (pc0 := pc) rfl (hb hby hd) rfl ho hp k) K
theorem g_ifnull_n (X : St p l e R s m args below meth c n0 T h cells slots) (hx : p.tables.exec = Jvm.exec) (hby : c.code = bs) {o : Int} {a : Addr} (hd : decode bs pc = .ok (.ifnull o, 3)) (hp : pc + 3 = pc') (K : Gl p e below n0 Φ Q (T.setTop (mkF m pc' L S))) : Gl p e below n0 Φ Q (T.setTop (mkF m pc L ((.ref a) :: S))) := by
  obtain ⟨locs, Y, -, -⟩ := X; subst hp; exact Gl.st (fun t k => XS.ifnullNo Y.here hx rfl (hb hby hd) rfl k) K
theorem g_ifnonnull_y (X : St p l e R s m args below meth c n0 T h cells slots) (hx : p.tables.exec = Jvm.exec) (hby : c.code = bs) {o : Int} {a : Addr} (hd : decode bs pc = .ok (.ifnonnull o, 3)) (ho : 0 ≤ (pc : Int) + o) (hp : ((pc : Int) + o).toNat = pc') (K : Gl p e below n0 Φ Q (T.setTop (mkF m pc' L S))) : Gl p e below n0 Φ Q (T.setTop (mkF m pc L ((.ref a) :: S))) := by
  obtain ⟨locs, Y, -, -⟩ := X; exact Gl.st (fun t k => XS.ifnonnullYes Y.here hx rfl (pc0 := pc) rfl (hb hby hd) rfl ho hp k) K
theorem g_ifnonnull_n (X : St p l e R s m args below meth c n0 T h cells slots) (hx : p.tables.exec = Jvm.exec) (hby : c.code = bs) {o : Int} (hd : decode bs pc = .ok (.ifnonnull o, 3)) (hp : pc + 3 = pc') (K : Gl p e below n0 Φ Q (T.setTop (mkF m pc' L S))) : Gl p e below n0 Φ Q (T.setTop (mkF m pc L (.null :: S))) := by
  obtain ⟨locs, Y, -, -⟩ := X; subst hp; exact Gl.st (fun t k => XS.ifnonnullNo Y.here hx rfl (hb hby hd) rfl k) K
theorem g_acmp_y (X : St p l e R s m args below meth c n0 T h cells slots) (hx : p.tables.exec = Jvm.exec) (hby : c.code = bs) {cd : ACond} {o : Int} {x y : Value} {same : Bool} (hd : decode bs pc = .ok (.if_acmp cd o, 3)) (h1 : x.isRef = true) (h2 : y.isRef = true) (hq : decide (x = y) = same) (ho : 0 ≤ (pc : Int) + o) (hp : pc' = if acV cd same = true then ((pc : Int) + o).toNat else pc + 3) (K : Gl p e below n0 Φ Q (T.setTop (mkF m pc' L S))) : Gl p e below n0 Φ Q (T.setTop (mkF m pc L (y :: x :: S))) := by
  obtain ⟨locs, Y, -, -⟩ := X; exact Gl.st (fun t k => Jvm.RoadKit.acmp Y hx rfl h1 h2 (pc0 := pc) rfl (hb hby hd) rfl hq ho hp k) K
theorem g_retN (X : St p l e R s m args below meth c n0 T h cells slots) (hx : p.tables.exec = Jvm.exec) (hby : c.code = bs) {t : FieldType} {z : Int32} (hret : meth.sig.returnType = some t) (hlk : meth.locks = false) (ht : t = .boolean ∨ t = .byte ∨ t = .char ∨ t = .short) (hd : decode bs pc = .ok (.ireturn, 1)) (hq : Q (some (.int (nar t z))) h) (hc : cells ≤ cs) (hs : slots ≤ sl) : Gl p e below n0 (Fn s cs sl) Q (T.setTop (mkF m pc L (.int z :: S))) := by
  obtain ⟨locs, Y, eT, N⟩ := X
  obtain ⟨fs, hr, hrun, hended, hW, hsame⟩ := Y.leave (v := some (.int (nar t z))) (fun q => by rw [hret] at q; cases q) hlk
  exact ⟨_, _, retN Y hx hret ht (hb hby hd) hr, hrun, hended, _, locs, rfl, ⟨(show Q _ T.heap by rw [eT]; exact hq), N⟩, ⟨_, rfl⟩, hW, hsame.mono hc hs⟩
theorem g_retV (X : St p l e R s m args below meth c n0 T h cells slots) (hx : p.tables.exec = Jvm.exec) (hby : c.code = bs) {t : FieldType} {w : Value} {i : Instr} (hret : meth.sig.returnType = some t) (hlk : meth.locks = false) (hn : narrow t w = w) (hi : (i = .ireturn ∧ (t = .int ∨ t = .boolean ∨ t = .byte ∨ t = .char ∨ t = .short) ∧ ∃ z, w = .int z) ∨ (i = .lreturn ∧ t = .long ∧ ∃ z, w = .long z) ∨ (i = .dreturn ∧ t = .double ∧ ∃ z, w = .double z) ∨ (i = .freturn ∧ t = .float ∧ ∃ z, w = .float z) ∨ (i = .areturn ∧ t.isReference = true ∧ w.isRef = true)) (hd : decode bs pc = .ok (i, 1)) (hq : Q (some w) h) (hc : cells ≤ cs) (hs : slots ≤ sl) : Gl p e below n0 (Fn s cs sl) Q (T.setTop (mkF m pc L (w :: S))) := by
  obtain ⟨locs, Y, eT, N⟩ := X
  obtain ⟨fs, hr, hrun, hended, hW, hsame⟩ := Y.leave (v := some w) (fun q => by rw [hret] at q; cases q) hlk
  exact ⟨_, _, retOut Y hx hret hn hi (hb hby hd) hr, hrun, hended, _, locs, rfl, ⟨(show Q _ T.heap by rw [eT]; exact hq), N⟩, ⟨_, rfl⟩, hW, hsame.mono hc hs⟩
theorem g_retI (X : St p l e R s m args below meth c n0 T h cells slots) (hx : p.tables.exec = Jvm.exec) (hby : c.code = bs) {z : Int32} (hret : meth.sig.returnType = some .int) (hlk : meth.locks = false) (hd : decode bs pc = .ok (.ireturn, 1)) (hq : Q (some (.int z)) h) (hc : cells ≤ cs) (hs : slots ≤ sl) : Gl p e below n0 (Fn s cs sl) Q (T.setTop (mkF m pc L (.int z :: S))) := g_retV X hx hby hret hlk rfl (Or.inl ⟨rfl, Or.inl rfl, z, rfl⟩) hd hq hc hs
theorem g_retL (X : St p l e R s m args below meth c n0 T h cells slots) (hx : p.tables.exec = Jvm.exec) (hby : c.code = bs) {z : Int64} (hret : meth.sig.returnType = some .long) (hlk : meth.locks = false) (hd : decode bs pc = .ok (.lreturn, 1)) (hq : Q (some (.long z)) h) (hc : cells ≤ cs) (hs : slots ≤ sl) : Gl p e below n0 (Fn s cs sl) Q (T.setTop (mkF m pc L (.long z :: S))) := g_retV X hx hby hret hlk rfl (Or.inr (Or.inl ⟨rfl, rfl, z, rfl⟩)) hd hq hc hs
theorem g_retD (X : St p l e R s m args below meth c n0 T h cells slots) (hx : p.tables.exec = Jvm.exec) (hby : c.code = bs) {z : UInt64} (hret : meth.sig.returnType = some .double) (hlk : meth.locks = false) (hd : decode bs pc = .ok (.dreturn, 1)) (hq : Q (some (.double z)) h) (hc : cells ≤ cs) (hs : slots ≤ sl) : Gl p e below n0 (Fn s cs sl) Q (T.setTop (mkF m pc L (.double z :: S))) := g_retV X hx hby hret hlk rfl (Or.inr (Or.inr (Or.inl ⟨rfl, rfl, z, rfl⟩))) hd hq hc hs
theorem g_retA (X : St p l e R s m args below meth c n0 T h cells slots) (hx : p.tables.exec = Jvm.exec) (hby : c.code = bs) {t : FieldType} {w : Value} (hret : meth.sig.returnType = some t) (hlk : meth.locks = false) (ht : t.isReference = true) (hw : w.isRef = true) (hd : decode bs pc = .ok (.areturn, 1)) (hq : Q (some w) h) (hc : cells ≤ cs) (hs : slots ≤ sl) : Gl p e below n0 (Fn s cs sl) Q (T.setTop (mkF m pc L (w :: S))) := g_retV X hx hby hret hlk (by rcases ref_cases hw with rfl | ⟨a, rfl⟩ <;> cases t <;> first | rfl | (cases ht; done)) (Or.inr (Or.inr (Or.inr (Or.inr ⟨rfl, ht, hw⟩)))) hd hq hc hs
theorem g_ret (X : St p l e R s m args below meth c n0 T h cells slots) (hx : p.tables.exec = Jvm.exec) (hby : c.code = bs) (hret : meth.sig.returnType = none) (hlk : meth.locks = false) (hd : decode bs pc = .ok (.return_, 1)) (hq : Q none h) (hc : cells ≤ cs) (hs : slots ≤ sl) : Gl p e below n0 (Fn s cs sl) Q (T.setTop (mkF m pc L [])) := by
  obtain ⟨locs, Y, eT, N⟩ := X
  obtain ⟨fs, hr, hrun, hended, hW, hsame⟩ := Y.leave (v := none) (fun _ => rfl) hlk
  exact ⟨_, _, Y.returnOut hx hret (hb hby hd) hr, hrun, hended, _, locs, rfl, ⟨(show Q _ T.heap by rw [eT]; exact hq), N⟩, ⟨_, rfl⟩, hW, hsame.mono hc hs⟩
theorem gw_retN {vm0 : Vm} {k0 : Nat} (X : St p l e R (s.setVm vm0) m args below meth c n0 T h cells slots) (hx : p.tables.exec = Jvm.exec) (hby : c.code = bs) (hS : s.Since vm0 k0) (hk : k0 ≤ h.size) {t : FieldType} {z : Int32} (hret : meth.sig.returnType = some t) (hlk : meth.locks = false) (ht : t = .boolean ∨ t = .byte ∨ t = .char ∨ t = .short) (hd : decode bs pc = .ok (.ireturn, 1)) (hq : Q (some (.int (nar t z))) h) (hc : cells ≤ cs) (hs : slots ≤ sl) : Gl p e below n0 (Fw s cs sl) Q (T.setTop (mkF m pc L (.int z :: S))) := by
  obtain ⟨locs, Y, eT, N⟩ := X
  obtain ⟨fs, hr, hrun, hended, r1, r2, r3, r4⟩ := Y.leaveW hS (by rw [eT]; exact hk) (v := some (.int (nar t z))) (fun q => by rw [hret] at q; cases q) hlk
  exact ⟨_, _, retN Y hx hret ht (hb hby hd) hr, hrun, hended, _, locs, rfl, ⟨(show Q _ T.heap by rw [eT]; exact hq), N⟩, r1, r2, r3, r4.mono hc hs⟩
theorem g_ldcS {vm0 : Vm} {k0 : Nat} (X : St p l e R (s.setVm vm0) m args below meth c n0 T h cells slots) (hx : p.tables.exec = Jvm.exec) (hby : c.code = bs) (hZ : Z.Warmed39 (s.setVm vm0).vm) {own text : String} {index n : Nat} (hown : (s.setVm vm0).vm.findClass own = some m.cls) (w : (Cond.stringLink own index text).before a0 Z = true) (wS : ∀ a ∈ Bundle.stringAtoms, a.before a0 Z = true) (hS : s.Since vm0 k0) (hk : k0 ≤ h.size) (hd : decode bs pc = .ok (.ldc index, 2)) (hn : 4 * text.toList.length ≤ n) (hbig : n ≤ 536870912) (hc : cells + 2 ≤ R.cells) (hl : slots + (n + 4) ≤ R.slots) (hp : pc + 2 = pc') (K : ∀ (a : Addr) T' h' k1, St p l e R (s.setVm T'.vm) m args below meth c n0 T' h' (cells + 2) (slots + (n + 4)) → Ext h h' → s.Since T'.vm k1 → k1 ≤ h'.size → Z.Warmed39 (s.setVm T'.vm).vm → (s.setVm T'.vm).vm.findClass own = some m.cls → Gl p e below n0 Φ Q (T'.setTop (mkF m pc' L (.ref a :: S)))) : Gl p e below n0 Φ Q (T.setTop (mkF m pc L S)) := by
  obtain ⟨locs, Y, eT, N⟩ := X; subst hp
  obtain ⟨a, T', h', k1, Y', e', E, S1, hk1, hZ1, hown1, st⟩ := ldcS Y hx hZ hown w wS eT hS hk (g := mkF m pc L S) rfl (hb hby hd) hn hbig hc hl
  exact Gl.st st (K a T' h' k1 ⟨locs, Y', e', N⟩ E S1 hk1 hZ1 hown1)
theorem g_getF (X : St p l e R s m args below meth c n0 T h cells slots) (hx : p.tables.exec = Jvm.exec) (hby : c.code = bs) (hZ : Z.Warmed39 s.vm) {own R0 O n d : String} {index : Nat} (hown : s.vm.findClass own = some m.cls) (w : (Cond.fieldLink own index R0 n d).before a0 Z = true) (via : Via Z R0 O n d) {a : Addr} {v : Value} (F : Fld Z h a O n d v) (hd : decode bs pc = .ok (.getfield index, 3)) (hp : pc + 3 = pc') (K : ∀ T', St p l e R s m args below meth c n0 T' h cells slots → Gl p e below n0 Φ Q (T'.setTop (mkF m pc' L (v :: S)))) : Gl p e below n0 Φ Q (T.setTop (mkF m pc L (.ref a :: S))) := by
  obtain ⟨locs, Y, eT, N⟩ := X; subst hp
  obtain ⟨T', Y', e', st⟩ := getF Y hx hZ hown (host := "") (Or.inl w) via eT F (g := mkF m pc L (.ref a :: S)) rfl rfl (hb hby hd)
  exact Gl.st st (K T' ⟨locs, Y', e', N⟩)
theorem g_putF (X : St p l e R s m args below meth c n0 T h cells slots) (hx : p.tables.exec = Jvm.exec) (hby : c.code = bs) (hZ : Z.Warmed39 s.vm) {own R0 O n d C : String} {index kk : Nat} {ty : FieldType} (hown : s.vm.findClass own = some m.cls) (w : (Cond.fieldLink own index R0 n d).before a0 Z = true) (via : Via Z R0 O n d) {a : Addr} {v old : Value} (F : Fld Z h a O n d old) (E : Exa Z h a C) (lay : (Cond.lays C O n d).before a0 Z = true ∨ ((Cond.laysFinal C O n d).before a0 Z = true ∧ own = O ∧ meth.name = "<init>")) (wi : (Cond.instantiable C kk).before a0 Z = true) (hty : parseFieldDescriptor d = some ty) (hn : narrow ty v = v) (hf : fits ty v = true) (hn0 : n0 ≤ a) (hd : decode bs pc = .ok (.putfield index, 3)) (hp : pc + 3 = pc') (K : ∀ T' h', St p l e R s m args below meth c n0 T' h' cells slots → Wr h h' a (Jvm.RoadKit.slotOf Z O n d) v → Gl p e below n0 Φ Q (T'.setTop (mkF m pc' L S))) : Gl p e below n0 Φ Q (T.setTop (mkF m pc L (v :: .ref a :: S))) := by
  obtain ⟨locs, Y, eT, N⟩ := X; subst hp
  obtain ⟨T', h', Y', e', W, st⟩ := putF Y hx hZ hown (host := "") (Or.inl w) via eT F E lay wi hty hn hf (g := mkF m pc L (v :: .ref a :: S)) rfl rfl (hb hby hd)
  exact Gl.st st (K T' h' ⟨_, Y', e', Fr.snoc Y' N hn0⟩ W)
theorem g_putFN (X : St p l e R s m args below meth c n0 T h cells slots) (hx : p.tables.exec = Jvm.exec) (hby : c.code = bs) (hZ : Z.Warmed39 s.vm) {own R0 O n d C : String} {index kk : Nat} {ty : FieldType} (hown : s.vm.findClass own = some m.cls) (w : (Cond.fieldLink own index R0 n d).before a0 Z = true) (via : Via Z R0 O n d) {a : Addr} {v v' old : Value} (F : Fld Z h a O n d old) (E : Exa Z h a C) (lay : (Cond.lays C O n d).before a0 Z = true ∨ ((Cond.laysFinal C O n d).before a0 Z = true ∧ own = O ∧ meth.name = "<init>")) (wi : (Cond.instantiable C kk).before a0 Z = true) (hty : parseFieldDescriptor d = some ty) (hn : narrow ty v = v') (hf : fits ty v' = true) (hn0 : n0 ≤ a) (hd : decode bs pc = .ok (.putfield index, 3)) (hp : pc + 3 = pc') (K : ∀ T' h', St p l e R s m args below meth c n0 T' h' cells slots → Wr h h' a (Jvm.RoadKit.slotOf Z O n d) v' → Gl p e below n0 Φ Q (T'.setTop (mkF m pc' L S))) : Gl p e below n0 Φ Q (T.setTop (mkF m pc L (v :: .ref a :: S))) := by
  obtain ⟨locs, Y, eT, N⟩ := X; subst hp
  obtain ⟨T', h', Y', e', W, st⟩ := putFN Y hx hZ hown w via eT F E lay wi hty hn hf (g := mkF m pc L (v :: .ref a :: S)) rfl rfl (hb hby hd)
  exact Gl.st st (K T' h' ⟨_, Y', e', Fr.snoc Y' N hn0⟩ W)
theorem g_getS (X : St p l e R s m args below meth c n0 T h cells slots) (hx : p.tables.exec = Jvm.exec) (hby : c.code = bs) (hZ : Z.Warmed39 s.vm) {own R0 O n d : String} {index : Nat} (hown : s.vm.findClass own = some m.cls) (w : (Cond.fieldLink own index R0 n d).before a0 Z = true) (via : Via Z R0 O n d) {v : Value} (F : Sta Z h O n d v) (hd : decode bs pc = .ok (.getstatic index, 3)) (hp : pc + 3 = pc') (K : ∀ T', St p l e R s m args below meth c n0 T' h cells slots → Gl p e below n0 Φ Q (T'.setTop (mkF m pc' L (v :: S)))) : Gl p e below n0 Φ Q (T.setTop (mkF m pc L S)) := by
  obtain ⟨locs, Y, eT, N⟩ := X; subst hp
  obtain ⟨T', Y', e', st⟩ := getS Y hx hZ hown (host := "") w via eT F (g := mkF m pc L S) rfl (hb hby hd)
  exact Gl.st st (K T' ⟨locs, Y', e', N⟩)
theorem g_new (X : St p l e R s m args below meth c n0 T h cells slots) (hx : p.tables.exec = Jvm.exec) (hby : c.code = bs) (hZ : Z.Warmed39 s.vm) {own C : String} {index n : Nat} (hown : s.vm.findClass own = some m.cls) (w : (Cond.classLink own index C).before a0 Z = true) (wi : (Cond.instantiable C n).before a0 Z = true) (wz : (Cond.initialized C).before a0 Z = true) (hd : decode bs pc = .ok (.new index, 3)) (hc : cells + 1 ≤ R.cells) (hs : slots + n ≤ R.slots) (hp : pc + 3 = pc') (K : ∀ T' h' (b : Addr), b = h.size → St p l e R s m args below meth c n0 T' h' (cells + 1) (slots + n) → Ext h h' → Exa Z h' b C → (∀ {O nm d : String} {ty : FieldType}, Laid Z a0 C O nm d → parseFieldDescriptor d = some ty → Fld Z h' b O nm d (defaultValue ty)) → Gl p e below n0 Φ Q (T'.setTop (mkF m pc' L (.ref b :: S)))) : Gl p e below n0 Φ Q (T.setTop (mkF m pc L S)) := by
  obtain ⟨locs, Y, eT, N⟩ := X; subst hp
  obtain ⟨T', h', Y', e', E, A, D, -, st⟩ := newO Y hx hZ hown w wi wz eT (g := mkF m pc L S) rfl (hb hby hd) hc hs
  exact Gl.st st (K T' h' _ rfl ⟨locs, Y', e', N⟩ E A D)
theorem g_newarray (X : St p l e R s m args below meth c n0 T h cells slots) (hx : p.tables.exec = Jvm.exec) (hby : c.code = bs) (hZ : Z.Warmed39 s.vm) {aty : ArrayType} (w : (Cond.arrayClass (newarray.typeOf aty)).before a0 Z = true) {n : Int32} {k cap : Nat} (hd : decode bs pc = .ok (.newarray aty, 2)) (hn : n.toInt = (k : Int)) (hcap : k ≤ cap) (hb8 : cap * 8 ≤ 536870912) (hc : cells + 1 ≤ R.cells) (hs : slots + cap ≤ R.slots) (hp : pc + 2 = pc') (K : ∀ T' h' (b : Addr), b = h.size → St p l e R s m args below meth c n0 T' h' (cells + 1) (slots + cap) → Ext h h' → Ary Z h' b (newarray.typeOf aty) k (fun _ => defaultValue (newarray.typeOf aty)) → Gl p e below n0 Φ Q (T'.setTop (mkF m pc' L (.ref b :: S)))) : Gl p e below n0 Φ Q (T.setTop (mkF m pc L (.int n :: S))) := by
  obtain ⟨locs, Y, eT, N⟩ := X; subst hp
  have e1 : n.toNatClampNeg = k := by simp only [Int32.toNatClampNeg]; omega
  obtain ⟨T', h', cA, Y', e', E, A, st⟩ := newP Y hx hZ w eT (g := mkF m pc L (.int n :: S)) rfl (hb hby hd) rfl (by rw [Int32.lt_iff_toInt_lt]; have : (0 : Int32).toInt = 0 := rfl; omega) (cap := cap) (by omega) hb8 hc hs
  exact Gl.st st (K T' h' _ rfl ⟨locs, Y', e', N⟩ E ⟨_, A, by rw [sz_new]; exact e1, fun i hi => by simp [newA, e1, hi]⟩)
theorem g_anewarray (X : St p l e R s m args below meth c n0 T h cells slots) (hx : p.tables.exec = Jvm.exec) (hby : c.code = bs) (hZ : Z.Warmed39 s.vm) {own C : String} {index : Nat} (hown : s.vm.findClass own = some m.cls) (w1 : (Cond.classLink own index C).before a0 Z = true) (w2 : (Cond.arrayOver (.object C)).before a0 Z = true) {n : Int32} {k cap : Nat} (hd : decode bs pc = .ok (.anewarray index, 3)) (hn : n.toInt = (k : Int)) (hcap : k ≤ cap) (hb8 : cap * 8 ≤ 536870912) (hc : cells + 1 ≤ R.cells) (hs : slots + cap ≤ R.slots) (hp : pc + 3 = pc') (K : ∀ T' h' (b : Addr), b = h.size → St p l e R s m args below meth c n0 T' h' (cells + 1) (slots + cap) → Ext h h' → Ary Z h' b (.object C) k (fun _ => .null) → Ov Z h' b C → Gl p e below n0 Φ Q (T'.setTop (mkF m pc' L (.ref b :: S)))) : Gl p e below n0 Φ Q (T.setTop (mkF m pc L (.int n :: S))) := by
  obtain ⟨locs, Y, eT, N⟩ := X; subst hp
  have e1 : n.toNatClampNeg = k := by simp only [Int32.toNatClampNeg]; omega
  obtain ⟨T', h', cA, Y', e', E, A, O, st⟩ := newR Y hx hZ hown w1 w2 eT (g := mkF m pc L (.int n :: S)) rfl (hb hby hd) rfl (by rw [Int32.lt_iff_toInt_lt]; have : (0 : Int32).toInt = 0 := rfl; omega) (cap := cap) (by omega) hb8 hc hs
  exact Gl.st st (K T' h' _ rfl ⟨locs, Y', e', N⟩ E ⟨_, A, by rw [sz_new]; exact e1, fun i hi => by simp [newA, e1, hi, defaultValue]⟩ ⟨_, A.1, O⟩)
theorem g_arraylength (X : St p l e R s m args below meth c n0 T h cells slots) (hx : p.tables.exec = Jvm.exec) (hby : c.code = bs) (hZ : Z.Warmed39 s.vm) {a : Addr} {ty : FieldType} {k : Nat} {f : Nat → Value} {n : Int32} (A : Ary Z h a ty k f) (hn : n.toInt = (k : Int)) (hd : decode bs pc = .ok (.arraylength, 1)) (hp : pc + 1 = pc') (K : Gl p e below n0 Φ Q (T.setTop (mkF m pc' L (.int n :: S)))) : Gl p e below n0 Φ Q (T.setTop (mkF m pc L (.ref a :: S))) := by
  obtain ⟨locs, Y, eT, -⟩ := X; subst hp
  obtain ⟨cl, Ar, sz, -⟩ := A
  have e1 : cl.slots.size.toInt32 = n := by
    have q := rng32 n
    rw [← Int32.toInt_inj, len_toInt (by omega), sz, hn]
  refine Gl.st (fun t k => Y.arraylength hx (by rw [eT]; exact Ar.1) (State.isArrayOf_alike hZ.alike Ar.2.1) (g := mkF m pc L (.ref a :: S)) rfl rfl (hb hby hd) t k) ?_
  rw [e1]; exact K
theorem g_iaload (X : St p l e R s m args below meth c n0 T h cells slots) (hx : p.tables.exec = Jvm.exec) (hby : c.code = bs) (hZ : Z.Warmed39 s.vm) {a : Addr} {k i : Nat} {f : Nat → Value} {j : Int32} {v : Value} (A : Ary Z h a .int k f) (hj : j.toInt = (i : Int)) (hi : i < k) (hv : f i = v) (hd : decode bs pc = .ok (.iaload, 1)) (hp : pc + 1 = pc') (K : Gl p e below n0 Φ Q (T.setTop (mkF m pc' L (v :: S)))) : Gl p e below n0 Φ Q (T.setTop (mkF m pc L (.int j :: .ref a :: S))) := by
  obtain ⟨locs, Y, eT, -⟩ := X; subst hp hv
  obtain ⟨cl, Ar, sz, H⟩ := A
  obtain ⟨q1, q2⟩ := own_in (k := k) hj hi
  exact Gl.st (fun t k => Y.iaload hx (by rw [eT]; exact Ar.1) (State.isArrayOf_alike hZ.alike Ar.2.1) Ar.2.2 (by rw [sz]; exact q1) (by rw [q2]; exact H i hi) (g := mkF m pc L (.int j :: .ref a :: S)) rfl rfl (hb hby hd) t k) K
theorem g_laload (X : St p l e R s m args below meth c n0 T h cells slots) (hx : p.tables.exec = Jvm.exec) (hby : c.code = bs) (hZ : Z.Warmed39 s.vm) {a : Addr} {k i : Nat} {f : Nat → Value} {j : Int32} {v : Value} (A : Ary Z h a .long k f) (hj : j.toInt = (i : Int)) (hi : i < k) (hv : f i = v) (hd : decode bs pc = .ok (.laload, 1)) (hp : pc + 1 = pc') (K : Gl p e below n0 Φ Q (T.setTop (mkF m pc' L (v :: S)))) : Gl p e below n0 Φ Q (T.setTop (mkF m pc L (.int j :: .ref a :: S))) := by
  obtain ⟨locs, Y, eT, -⟩ := X; subst hp hv
  obtain ⟨cl, Ar, sz, H⟩ := A
  obtain ⟨q1, q2⟩ := own_in (k := k) hj hi
  exact Gl.st (fun t k => Y.laload hx (by rw [eT]; exact Ar.1) (State.isArrayOf_alike hZ.alike Ar.2.1) Ar.2.2 (by rw [sz]; exact q1) (by rw [q2]; exact H i hi) (g := mkF m pc L (.int j :: .ref a :: S)) rfl rfl (hb hby hd) t k) K
theorem g_caload (X : St p l e R s m args below meth c n0 T h cells slots) (hx : p.tables.exec = Jvm.exec) (hby : c.code = bs) (hZ : Z.Warmed39 s.vm) {a : Addr} {k i : Nat} {f : Nat → Value} {j : Int32} {v : Value} (A : Ary Z h a .char k f) (hj : j.toInt = (i : Int)) (hi : i < k) (hv : f i = v) (hd : decode bs pc = .ok (.caload, 1)) (hp : pc + 1 = pc') (K : Gl p e below n0 Φ Q (T.setTop (mkF m pc' L (v :: S)))) : Gl p e below n0 Φ Q (T.setTop (mkF m pc L (.int j :: .ref a :: S))) := by
  obtain ⟨locs, Y, eT, -⟩ := X; subst hp hv
  obtain ⟨cl, Ar, sz, H⟩ := A
  obtain ⟨q1, q2⟩ := own_in (k := k) hj hi
  exact Gl.st (fun t k => Y.caload hx (by rw [eT]; exact Ar.1) (State.isArrayOf_alike hZ.alike Ar.2.1) Ar.2.2 (by rw [sz]; exact q1) (by rw [q2]; exact H i hi) (g := mkF m pc L (.int j :: .ref a :: S)) rfl rfl (hb hby hd) t k) K
theorem g_baload (X : St p l e R s m args below meth c n0 T h cells slots) (hx : p.tables.exec = Jvm.exec) (hby : c.code = bs) (hZ : Z.Warmed39 s.vm) {a : Addr} {k i : Nat} {f : Nat → Value} {j : Int32} {v : Value} (A : Ary Z h a .byte k f) (hj : j.toInt = (i : Int)) (hi : i < k) (hv : f i = v) (hd : decode bs pc = .ok (.baload, 1)) (hp : pc + 1 = pc') (K : Gl p e below n0 Φ Q (T.setTop (mkF m pc' L (v :: S)))) : Gl p e below n0 Φ Q (T.setTop (mkF m pc L (.int j :: .ref a :: S))) := by
  obtain ⟨locs, Y, eT, -⟩ := X; subst hp hv
  obtain ⟨cl, Ar, sz, H⟩ := A
  obtain ⟨q1, q2⟩ := own_in (k := k) hj hi
  exact Gl.st (fun t k => Y.baloadBytes hx (by rw [eT]; exact Ar.1) (State.isArrayOf_alike hZ.alike Ar.2.1) Ar.2.2 (by rw [sz]; exact q1) (by rw [q2]; exact H i hi) (g := mkF m pc L (.int j :: .ref a :: S)) rfl rfl (hb hby hd) t k) K
theorem g_zaload (X : St p l e R s m args below meth c n0 T h cells slots) (hx : p.tables.exec = Jvm.exec) (hby : c.code = bs) (hZ : Z.Warmed39 s.vm) {a : Addr} {k i : Nat} {f : Nat → Value} {j : Int32} {v : Value} (A : Ary Z h a .boolean k f) (hj : j.toInt = (i : Int)) (hi : i < k) (hv : f i = v) (hd : decode bs pc = .ok (.baload, 1)) (hp : pc + 1 = pc') (K : Gl p e below n0 Φ Q (T.setTop (mkF m pc' L (v :: S)))) : Gl p e below n0 Φ Q (T.setTop (mkF m pc L (.int j :: .ref a :: S))) := by
  obtain ⟨locs, Y, eT, -⟩ := X; subst hp hv
  obtain ⟨cl, Ar, sz, H⟩ := A
  obtain ⟨q1, q2⟩ := own_in (k := k) hj hi
  exact Gl.st (fun t k => Y.baloadBooleans hx (by rw [eT]; exact Ar.1) (State.isArrayOf_alike hZ.alike Ar.2.1) Ar.2.2 (by rw [sz]; exact q1) (by rw [q2]; exact H i hi) (g := mkF m pc L (.int j :: .ref a :: S)) rfl rfl (hb hby hd) t k) K
theorem g_aaload (X : St p l e R s m args below meth c n0 T h cells slots) (hx : p.tables.exec = Jvm.exec) (hby : c.code = bs) (hZ : Z.Warmed39 s.vm) {a : Addr} {k i : Nat} {f : Nat → Value} {j : Int32} {v : Value} {ty : FieldType} (A : Ary Z h a ty k f) (hty : ty.isReference = true) (hj : j.toInt = (i : Int)) (hi : i < k) (hv : f i = v) (hd : decode bs pc = .ok (.aaload, 1)) (hp : pc + 1 = pc') (K : Gl p e below n0 Φ Q (T.setTop (mkF m pc' L (v :: S)))) : Gl p e below n0 Φ Q (T.setTop (mkF m pc L (.int j :: .ref a :: S))) := by
  obtain ⟨locs, Y, eT, -⟩ := X; subst hp hv
  obtain ⟨cl, Ar, sz, H⟩ := A
  obtain ⟨q1, q2⟩ := own_in (k := k) hj hi
  exact Gl.st (fun t k => Y.aaload hx (by rw [eT]; exact Ar.1) (State.isArrayOf_alike hZ.alike Ar.2.1) hty Ar.2.2 (by rw [sz]; exact q1) (by rw [q2]; exact H i hi) (g := mkF m pc L (.int j :: .ref a :: S)) rfl rfl (hb hby hd) t k) K
theorem g_iastore (X : St p l e R s m args below meth c n0 T h cells slots) (hx : p.tables.exec = Jvm.exec) (hby : c.code = bs) (hZ : Z.Warmed39 s.vm) {a : Addr} {k i : Nat} {f : Nat → Value} {j : Int32} {x : Int32} (A : Ary Z h a .int k f) (hj : j.toInt = (i : Int)) (hi : i < k) (hn0 : n0 ≤ a) (hd : decode bs pc = .ok (.iastore, 1)) (hp : pc + 1 = pc') (K : ∀ T' h' sl0, St p l e R s m args below meth c n0 T' h' cells slots → Wr h h' a sl0 (.int x) → Ary Z h' a .int k (own_upd f i (.int x)) → Gl p e below n0 Φ Q (T'.setTop (mkF m pc' L S))) : Gl p e below n0 Φ Q (T.setTop (mkF m pc L (.int x :: .int j :: .ref a :: S))) := by
  obtain ⟨locs, Y, eT, N⟩ := X; subst hp
  obtain ⟨cl, Ar, sz, H⟩ := A
  obtain ⟨q1, q2⟩ := own_in (k := k) hj hi
  obtain ⟨T', h', Y', e', W, st⟩ := stI Y hx hZ eT Ar (j := j) (by rw [sz]; exact q1) (g := mkF m pc L (.int x :: .int j :: .ref a :: S)) rfl rfl (hb hby hd)
  exact Gl.st st (K T' h' _ ⟨_, Y', e', Fr.snoc Y' N hn0⟩ W (Ary.same Ar sz H (q2 ▸ W)))
theorem g_lastore (X : St p l e R s m args below meth c n0 T h cells slots) (hx : p.tables.exec = Jvm.exec) (hby : c.code = bs) (hZ : Z.Warmed39 s.vm) {a : Addr} {k i : Nat} {f : Nat → Value} {j : Int32} {x : Int64} (A : Ary Z h a .long k f) (hj : j.toInt = (i : Int)) (hi : i < k) (hn0 : n0 ≤ a) (hd : decode bs pc = .ok (.lastore, 1)) (hp : pc + 1 = pc') (K : ∀ T' h' sl0, St p l e R s m args below meth c n0 T' h' cells slots → Wr h h' a sl0 (.long x) → Ary Z h' a .long k (own_upd f i (.long x)) → Gl p e below n0 Φ Q (T'.setTop (mkF m pc' L S))) : Gl p e below n0 Φ Q (T.setTop (mkF m pc L (.long x :: .int j :: .ref a :: S))) := by
  obtain ⟨locs, Y, eT, N⟩ := X; subst hp
  obtain ⟨cl, Ar, sz, H⟩ := A
  obtain ⟨q1, q2⟩ := own_in (k := k) hj hi
  obtain ⟨T', h', Y', e', W, st⟩ := stJ Y hx hZ eT Ar (j := j) (by rw [sz]; exact q1) (g := mkF m pc L (.long x :: .int j :: .ref a :: S)) rfl rfl (hb hby hd)
  exact Gl.st st (K T' h' _ ⟨_, Y', e', Fr.snoc Y' N hn0⟩ W (Ary.same Ar sz H (q2 ▸ W)))
theorem g_bastore (X : St p l e R s m args below meth c n0 T h cells slots) (hx : p.tables.exec = Jvm.exec) (hby : c.code = bs) (hZ : Z.Warmed39 s.vm) {a : Addr} {k i : Nat} {f : Nat → Value} {j : Int32} {x : Int32} (A : Ary Z h a .byte k f) (hj : j.toInt = (i : Int)) (hi : i < k) (hn0 : n0 ≤ a) (hd : decode bs pc = .ok (.bastore, 1)) (hp : pc + 1 = pc') (K : ∀ T' h' sl0, St p l e R s m args below meth c n0 T' h' cells slots → Wr h h' a sl0 (.int (nar .byte x)) → Ary Z h' a .byte k (own_upd f i (.int (nar .byte x))) → Gl p e below n0 Φ Q (T'.setTop (mkF m pc' L S))) : Gl p e below n0 Φ Q (T.setTop (mkF m pc L (.int x :: .int j :: .ref a :: S))) := by
  obtain ⟨locs, Y, eT, N⟩ := X; subst hp
  obtain ⟨cl, Ar, sz, H⟩ := A
  obtain ⟨q1, q2⟩ := own_in (k := k) hj hi
  obtain ⟨T', h', Y', e', W, st⟩ := stB Y hx hZ eT Ar (j := j) (by rw [sz]; exact q1) (g := mkF m pc L (.int x :: .int j :: .ref a :: S)) rfl rfl (hb hby hd)
  exact Gl.st st (K T' h' _ ⟨_, Y', e', Fr.snoc Y' N hn0⟩ W (Ary.same Ar sz H (q2 ▸ W)))
theorem g_zastore (X : St p l e R s m args below meth c n0 T h cells slots) (hx : p.tables.exec = Jvm.exec) (hby : c.code = bs) (hZ : Z.Warmed39 s.vm) {a : Addr} {k i : Nat} {f : Nat → Value} {j : Int32} {x : Int32} (A : Ary Z h a .boolean k f) (hj : j.toInt = (i : Int)) (hi : i < k) (hn0 : n0 ≤ a) (hd : decode bs pc = .ok (.bastore, 1)) (hp : pc + 1 = pc') (K : ∀ T' h' sl0, St p l e R s m args below meth c n0 T' h' cells slots → Wr h h' a sl0 (.int (nar .boolean x)) → Ary Z h' a .boolean k (own_upd f i (.int (nar .boolean x))) → Gl p e below n0 Φ Q (T'.setTop (mkF m pc' L S))) : Gl p e below n0 Φ Q (T.setTop (mkF m pc L (.int x :: .int j :: .ref a :: S))) := by
  obtain ⟨locs, Y, eT, N⟩ := X; subst hp
  obtain ⟨cl, Ar, sz, H⟩ := A
  obtain ⟨q1, q2⟩ := own_in (k := k) hj hi
  obtain ⟨T', h', Y', e', W, st⟩ := stZ Y hx hZ eT Ar (j := j) (by rw [sz]; exact q1) (g := mkF m pc L (.int x :: .int j :: .ref a :: S)) rfl rfl (hb hby hd)
  exact Gl.st st (K T' h' _ ⟨_, Y', e', Fr.snoc Y' N hn0⟩ W (Ary.same Ar sz H (q2 ▸ W)))
theorem g_castore (X : St p l e R s m args below meth c n0 T h cells slots) (hx : p.tables.exec = Jvm.exec) (hby : c.code = bs) (hZ : Z.Warmed39 s.vm) {a : Addr} {k i : Nat} {f : Nat → Value} {j : Int32} {x : Int32} (A : Ary Z h a .char k f) (hj : j.toInt = (i : Int)) (hi : i < k) (hn0 : n0 ≤ a) (hd : decode bs pc = .ok (.castore, 1)) (hp : pc + 1 = pc') (K : ∀ T' h' sl0, St p l e R s m args below meth c n0 T' h' cells slots → Wr h h' a sl0 (.int (nar .char x)) → Ary Z h' a .char k (own_upd f i (.int (nar .char x))) → Gl p e below n0 Φ Q (T'.setTop (mkF m pc' L S))) : Gl p e below n0 Φ Q (T.setTop (mkF m pc L (.int x :: .int j :: .ref a :: S))) := by
  obtain ⟨locs, Y, eT, N⟩ := X; subst hp
  obtain ⟨cl, Ar, sz, H⟩ := A
  obtain ⟨q1, q2⟩ := own_in (k := k) hj hi
  obtain ⟨T', h', Y', e', W, st⟩ := stC Y hx hZ eT Ar (j := j) (by rw [sz]; exact q1) (g := mkF m pc L (.int x :: .int j :: .ref a :: S)) rfl rfl (hb hby hd)
  exact Gl.st st (K T' h' _ ⟨_, Y', e', Fr.snoc Y' N hn0⟩ W (Ary.same Ar sz H (q2 ▸ W)))
theorem g_aastore (X : St p l e R s m args below meth c n0 T h cells slots) (hx : p.tables.exec = Jvm.exec) (hby : c.code = bs) (hZ : Z.Warmed39 s.vm) {a : Addr} {k i : Nat} {f : Nat → Value} {j : Int32} {v : Value} {ty : FieldType} (A : Ary Z h a ty k f) (hty : ty.isReference = true) (St0 : Sto Z h a v) (hj : j.toInt = (i : Int)) (hi : i < k) (hn0 : n0 ≤ a) (hd : decode bs pc = .ok (.aastore, 1)) (hp : pc + 1 = pc') (K : ∀ T' h' sl0, St p l e R s m args below meth c n0 T' h' cells slots → Wr h h' a sl0 v → Ary Z h' a ty k (own_upd f i v) → Gl p e below n0 Φ Q (T'.setTop (mkF m pc' L S))) : Gl p e below n0 Φ Q (T.setTop (mkF m pc L (v :: .int j :: .ref a :: S))) := by
  obtain ⟨locs, Y, eT, N⟩ := X; subst hp
  obtain ⟨cl, Ar, sz, H⟩ := A
  obtain ⟨q1, q2⟩ := own_in (k := k) hj hi
  obtain ⟨T', h', Y', e', W, st⟩ := stR Y hx hZ eT Ar (j := j) (by rw [sz]; exact q1) hty St0 (g := mkF m pc L (v :: .int j :: .ref a :: S)) rfl rfl (hb hby hd)
  exact Gl.st st (K T' h' _ ⟨_, Y', e', Fr.snoc Y' N hn0⟩ W (Ary.same Ar sz H (q2 ▸ W)))
theorem g_instY (X : St p l e R s m args below meth c n0 T h cells slots) (hx : p.tables.exec = Jvm.exec) (hby : c.code = bs) (hZ : Z.Warmed39 s.vm) {own K : String} {index : Nat} {a : Addr} (hown : s.vm.findClass own = some m.cls) (w : (Cond.classLink own index K).before a0 Z = true) (I : Ins Z h a K true) (hd : decode bs pc = .ok (.instanceof index, 3)) (hp : pc + 3 = pc') (K1 : ∀ T', St p l e R s m args below meth c n0 T' h cells slots → Gl p e below n0 Φ Q (T'.setTop (mkF m pc' L (.int 1 :: S)))) : Gl p e below n0 Φ Q (T.setTop (mkF m pc L (.ref a :: S))) := by
  obtain ⟨locs, Y, eT, N⟩ := X; subst hp
  obtain ⟨T', Y', e', st⟩ := instY Y hx hZ hown w eT I (g := mkF m pc L (.ref a :: S)) rfl rfl (hb hby hd)
  exact Gl.st st (K1 T' ⟨locs, Y', e', N⟩)
theorem g_castY (X : St p l e R s m args below meth c n0 T h cells slots) (hx : p.tables.exec = Jvm.exec) (hby : c.code = bs) (hZ : Z.Warmed39 s.vm) {own K : String} {index : Nat} {a : Addr} (hown : s.vm.findClass own = some m.cls) (w : (Cond.classLink own index K).before a0 Z = true) (I : Ins Z h a K true) (hd : decode bs pc = .ok (.checkcast index, 3)) (hp : pc + 3 = pc') (K1 : ∀ T', St p l e R s m args below meth c n0 T' h cells slots → Gl p e below n0 Φ Q (T'.setTop (mkF m pc' L (.ref a :: S)))) : Gl p e below n0 Φ Q (T.setTop (mkF m pc L (.ref a :: S))) := by
  obtain ⟨locs, Y, eT, N⟩ := X; subst hp
  obtain ⟨T', Y', e', st⟩ := castY Y hx hZ hown w eT I (g := mkF m pc L (.ref a :: S)) rfl rfl (hb hby hd)
  exact Gl.st st (K1 T' ⟨locs, Y', e', N⟩)
theorem g_instNo (X : St p l e R s m args below meth c n0 T h cells slots) (hx : p.tables.exec = Jvm.exec) (hby : c.code = bs) (hZ : Z.Warmed39 s.vm) {own K C : String} {index : Nat} {a : Addr} (hown : s.vm.findClass own = some m.cls) (w : (Cond.classLink own index K).before a0 Z = true) (E : Exa Z h a C) (I : ∃ c t, Z.vm.findClass C = some c ∧ Z.vm.findClass K = some t ∧ Z.vm.assignable c t = false) (hd : decode bs pc = .ok (.instanceof index, 3)) (hp : pc + 3 = pc') (K1 : ∀ T', St p l e R s m args below meth c n0 T' h cells slots → Gl p e below n0 Φ Q (T'.setTop (mkF m pc' L (.int 0 :: S)))) : Gl p e below n0 Φ Q (T.setTop (mkF m pc L (.ref a :: S))) := by
  obtain ⟨locs, Y, eT, N⟩ := X; subst hp
  obtain ⟨T', Y', e', st⟩ := instNo Y hx hZ hown w eT E I (g := mkF m pc L (.ref a :: S)) rfl rfl (hb hby hd)
  exact Gl.st st (K1 T' ⟨locs, Y', e', N⟩)
theorem g_instNull (X : St p l e R s m args below meth c n0 T h cells slots) (hx : p.tables.exec = Jvm.exec) (hby : c.code = bs) {index : Nat} (hd : decode bs pc = .ok (.instanceof index, 3)) (hp : pc + 3 = pc') (K1 : Gl p e below n0 Φ Q (T.setTop (mkF m pc' L (.int 0 :: S)))) : Gl p e below n0 Φ Q (T.setTop (mkF m pc L (.null :: S))) := by
  obtain ⟨locs, Y, eT, N⟩ := X; subst hp
  exact Gl.st (fun t k => Y.instanceofNull hx (g := mkF m pc L (.null :: S)) rfl rfl (hb hby hd) t k) K1
theorem g_initO (X : St p l e R s m args below meth c n0 T h cells slots) (hx : p.tables.exec = Jvm.exec) (hby : c.code = bs) (hZ : Z.Warmed39 s.vm) {own : String} {idx W : Nat} {a : Addr} (hown : s.vm.findClass own = some m.cls) (w1 : (Cond.methodLink own idx Lib.objectInit).before a0 Z = true) (w2 : (Cond.instanceMethod Lib.objectInit).before a0 Z = true) (w3 : (Cond.code Lib.objectInit ⟨#[0xb1]⟩ 1 none).before a0 Z = true) (hsz : L.size = c.maxLocals) (hd : decode bs pc = .ok (.invokespecial idx, 3)) (hf : 1 ≤ R.frames) (hW : 2 * 0 + (S.map fun v => v.category).sum ≤ W) (hlo : W + 12 ≤ R.locals) (hp : pc + 3 = pc') (K : ∀ T', St p l e R s m args below meth c n0 T' h cells slots → Gl p e below n0 Φ Q (T'.setTop (mkF m pc' L S))) : Gl p e below n0 Φ Q (T.setTop (mkF m pc L (.ref a :: S))) := by
  obtain ⟨locs, Y, eT, N⟩ := X; subst hp
  obtain ⟨T', Y', e', st⟩ := initO Y hx hZ hown w1 w2 w3 eT (g := mkF m pc L (.ref a :: S)) rfl hsz rfl (hb hby hd) hf (W := W) hW hlo
  exact Gl.st st (K T' ⟨locs, Y', e', N⟩)
theorem g_callS (X : St p l e R s m args below meth c n0 T h cells slots) (hx : p.tables.exec = Jvm.exec) (hby : c.code = bs) (hZ : Z.Warmed39 s.vm) {rm : Room} {y : MethodName} {bytes : ByteArray} {maxL : Nat} {ret : Option FieldType} {Qc : Option Value → Heap → Prop} {own : String} {idx : Nat} {argsL S0 : List Value} (hown : s.vm.findClass own = some m.cls) (w1 : (Cond.methodLink own idx y).before a0 Z = true) (w2 : (Cond.static y).before a0 Z = true) (w3 : (Cond.initialized y.cls).before a0 Z = true) (w4 : (Cond.code y bytes maxL ret).before a0 Z = true) (hy : y.cls ≠ "java/lang/invoke/MethodHandle" ∧ y.cls ≠ "java/lang/invoke/VarHandle") (hM : Ctr l Z y bytes maxL ret [] rm argsL.toArray h n0 rm.cells rm.slots Qc) (hsz : L.size = c.maxLocals) (hlen : ∀ sig, parseMethodDescriptor y.desc = some sig → argsL.length = sig.parameters.length) (hst : S0 = argsL.reverse ++ S) (hd : decode bs pc = .ok (.invokestatic idx, 3)) (hf : rm.frames + 1 ≤ R.frames) {W : Nat} (hW : 2 * 0 + (S.map fun v => v.category).sum ≤ W) (hlo : W + (maxL + 11) + rm.locals ≤ R.locals) (hc : cells + rm.cells ≤ R.cells) (hs : slots + rm.slots ≤ R.slots) (hp : pc + 3 = pc') (K : ∀ T' v, St p l e R s m args below meth c n0 T' T'.heap (cells + rm.cells) (slots + rm.slots) → Qc v T'.heap → Gl p e below n0 Φ Q (T'.setTop (mkF m pc' L (v.toList ++ S)))) : Gl p e below n0 Φ Q (T.setTop (mkF m pc L S0)) := by
  obtain ⟨locs, Y, eT, N⟩ := X; subst hp
  obtain ⟨v, _, ⟨T', L1, k1, n1⟩, -, Y', ⟨Lc, hQ, l1, y1, z1⟩, st⟩ := Jvm.LawKit.callS Y hx (y := y) hown (mvT hZ w1) (mvT hZ w2) (mvT hZ w3) (mvT hZ w4) hy (backOf (W := W) (Q := fun v h L => Qc v h ∧ Fr n0 L) hM hZ w4 w3 hf hlo) (g := mkF m pc L S0) rfl hsz (argsL := argsL) (rest := S) hlen hst hW (hb hby hd) (fun _ _ => ⟨rfl, eT, hc, hs⟩)
  dsimp only [Pt.U, Pt.locs, Pt.cells, Pt.slots] at Y' l1 y1 z1 st hQ
  subst l1 y1 z1
  exact Gl.st (st) (K T' v ⟨_, Y', rfl, Fr.app N hQ.2⟩ hQ.1)
theorem g_callC (X : St p l e R s m args below meth c n0 T h cells slots) (hx : p.tables.exec = Jvm.exec) (hby : c.code = bs) (hZ : Z.Warmed39 s.vm) {rm : Room} {y : MethodName} {bytes : ByteArray} {maxL : Nat} {Qc : Option Value → Heap → Prop} {own : String} {idx : Nat} {a : Addr} {argsL S0 : List Value} (hy1 : y.name = "<init>") (hown : s.vm.findClass own = some m.cls) (w1 : (Cond.methodLink own idx y).before a0 Z = true) (w2 : (Cond.instanceMethod y).before a0 Z = true) (w3 : (Cond.initialized y.cls).before a0 Z = true) (w4 : (Cond.code y bytes maxL none).before a0 Z = true) (hy : y.cls ≠ "java/lang/invoke/MethodHandle" ∧ y.cls ≠ "java/lang/invoke/VarHandle") (hM : Ctr l Z y bytes maxL none [] rm (.ref a :: argsL).toArray h n0 rm.cells rm.slots Qc) (hsz : L.size = c.maxLocals) (hlen : ∀ sig, parseMethodDescriptor y.desc = some sig → argsL.length = sig.parameters.length) (hst : S0 = argsL.reverse ++ .ref a :: S) (hd : decode bs pc = .ok (.invokespecial idx, 3)) (hf : rm.frames + 1 ≤ R.frames) {W : Nat} (hW : 2 * 0 + (S.map fun v => v.category).sum ≤ W) (hlo : W + (maxL + 11) + rm.locals ≤ R.locals) (hc : cells + rm.cells ≤ R.cells) (hs : slots + rm.slots ≤ R.slots) (hp : pc + 3 = pc') (K : ∀ T' v, St p l e R s m args below meth c n0 T' T'.heap (cells + rm.cells) (slots + rm.slots) → Qc v T'.heap → Gl p e below n0 Φ Q (T'.setTop (mkF m pc' L (v.toList ++ S)))) : Gl p e below n0 Φ Q (T.setTop (mkF m pc L S0)) := by
  obtain ⟨locs, Y, eT, N⟩ := X; subst hp
  obtain ⟨v, _, ⟨T', L1, k1, n1⟩, -, Y', ⟨Lc, hQ, l1, y1, z1⟩, st⟩ := Y.specialBack hx (y := y) hy1 hown (mvT hZ w1) (mvT hZ w2) (mvT hZ w4) hy (backOf (W := W) (Q := fun v h L => Qc v h ∧ Fr n0 L) hM hZ w4 w3 hf hlo) (g := mkF m pc L S0) rfl hsz (Steps.refl _) (a := a) (argsL := argsL) (rest := S) hlen hst hW (hb hby hd) (fun _ _ => ⟨rfl, eT, hc, hs⟩)
  dsimp only [Pt.U, Pt.locs, Pt.cells, Pt.slots] at Y' l1 y1 z1 st hQ
  subst l1 y1 z1
  exact Gl.st (fun t k => st.trans k) (K T' v ⟨_, Y', rfl, Fr.app N hQ.2⟩ hQ.1)
theorem g_callV (X : St p l e R s m args below meth c n0 T h cells slots) (hx : p.tables.exec = Jvm.exec) (hby : c.code = bs) (hZ : Z.Warmed39 s.vm) {rm : Room} {y : MethodName} {bytes : ByteArray} {maxL : Nat} {ret : Option FieldType} {Qc : Option Value → Heap → Prop} {own C : String} {idx : Nat} {a : Addr} {y' : MethodName} {argsL S0 : List Value} (hown : s.vm.findClass own = some m.cls) (w1 : (Cond.methodLink own idx y').before a0 Z = true) (w2 : (Cond.declares y').before a0 Z = true) (w5 : NotFace s y') (w6 : (Cond.selects C y' y).before a0 Z = true) (w7 : (Cond.instanceMethod y).before a0 Z = true) (w3 : (Cond.initialized y.cls).before a0 Z = true) (w4 : (Cond.code y bytes maxL ret).before a0 Z = true) (hy : y'.cls ≠ "java/lang/invoke/MethodHandle" ∧ y'.cls ≠ "java/lang/invoke/VarHandle") (E : Exa Z h a C) (hM : Ctr l Z y bytes maxL ret [] rm (.ref a :: argsL).toArray h n0 rm.cells rm.slots Qc) (hsz : L.size = c.maxLocals) (hlen : ∀ sig, parseMethodDescriptor y'.desc = some sig → argsL.length = sig.parameters.length) (hst : S0 = argsL.reverse ++ .ref a :: S) (hd : decode bs pc = .ok (.invokevirtual idx, 3)) (hf : rm.frames + 1 ≤ R.frames) {W : Nat} (hW : 2 * 0 + (S.map fun v => v.category).sum ≤ W) (hlo : W + (maxL + 11) + rm.locals ≤ R.locals) (hc : cells + rm.cells ≤ R.cells) (hs : slots + rm.slots ≤ R.slots) (hp : pc + 3 = pc') (K : ∀ T' v, St p l e R s m args below meth c n0 T' T'.heap (cells + rm.cells) (slots + rm.slots) → Qc v T'.heap → Gl p e below n0 Φ Q (T'.setTop (mkF m pc' L (v.toList ++ S)))) : Gl p e below n0 Φ Q (T.setTop (mkF m pc L S0)) := by
  obtain ⟨locs, Y, eT, N⟩ := X; subst hp
  obtain ⟨cB, kB, qa, qb, qc⟩ := isOf hZ eT E
  obtain ⟨v, _, ⟨T', L1, k1, n1⟩, -, Y', ⟨Lc, hQ, l1, y1, z1⟩, st⟩ := Y.virtualBack hx (y := y') (z := y) hown (mvT hZ w1) (mvT hZ w2) w5 (mvT hZ w6) (mvT hZ w7) hy (backOf (W := W) (Q := fun v h L => Qc v h ∧ Fr n0 L) hM hZ w4 w3 hf hlo) qa qc (g := mkF m pc L S0) rfl hsz (Steps.refl _) (argsL := argsL) (rest := S) hlen hst hW (hb hby hd) (fun _ _ => ⟨rfl, eT, hc, hs⟩)
  dsimp only [Pt.U, Pt.locs, Pt.cells, Pt.slots] at Y' l1 y1 z1 st hQ
  subst l1 y1 z1
  exact Gl.st (fun t k => st.trans k) (K T' v ⟨_, Y', rfl, Fr.app N hQ.2⟩ hQ.1)
end OwnSteps
abbrev own_room (f c s l : Nat) : Room := { frames := f, cells := c, slots := s, locals := l }
def own_set (f : Nat → Nat → Int32) (t s : Nat) (l : Int32) : Nat → Nat → Int32 := fun i j => if i = t ∧ j = s then l else f i j
def own_give (f : Nat → Nat → Int32) (t s : Nat) (l : Int32) : Nat → Nat → Int32 := if f t s = 0 then own_set f t s l else f
def SmC (Z : State) (n0 : Nat) (h : Heap) (a : Addr) (N : Nat) (f : Nat → Nat → Int32) (L G : Addr) (xs gs : Nat → Addr) (q : Int32) : Prop :=
  n0 ≤ a ∧ n0 ≤ h.size ∧ Exa Z h a "com/example/basisbook/basisbook/HourlyPrices$Sums" ∧ Fld Z h a "com/example/basisbook/basisbook/HourlyPrices$Sums" "lines" "[[I" (.ref L) ∧ Fld Z h a "com/example/basisbook/basisbook/HourlyPrices$Sums" "given" "[[B" (.ref G) ∧ Fld Z h a "com/example/basisbook/basisbook/HourlyPrices$Sums" "quarterHourly" "Z" (.int q) ∧ Ary Z h L (.array .int) N (fun i => .ref (xs i)) ∧ Ary Z h G (.array .byte) N (fun i => .ref (gs i)) ∧
  (∀ i, i < N → n0 ≤ xs i ∧ Ary Z h (xs i) .int 256 (fun j => .int (f i j))) ∧ (∀ i, i < N → n0 ≤ gs i ∧ ∃ g : Nat → Int32, Ary Z h (gs i) .byte 64 (fun j => .int (g j))) ∧ (∀ i j, i < N → j < N → xs i = xs j → i = j)
def Sm (Z : State) (n0 : Nat) (h : Heap) (a : Addr) (N : Nat) (f : Nat → Nat → Int32) : Prop := ∃ L G xs gs q, SmC Z n0 h a N f L G xs gs q
section OwnSm
variable {Z : State} {n0 : Nat} {h h' : Heap} {a L G : Addr} {N t : Nat} {f : Nat → Nat → Int32} {xs gs : Nat → Addr} {q : Int32} {a0 : Array Value} {k sl : Nat} {v : Value}
theorem SmC.line (wi : (Cond.instantiable "com/example/basisbook/basisbook/HourlyPrices$Sums" k).before a0 Z = true) (S : SmC Z n0 h a N f L G xs gs q) (ht : t < N) {s : Nat} {l : Int32} (W : Wr h h' (xs t) sl v) (A : Ary Z h' (xs t) .int 256 (own_upd (fun j => .int (f t j)) s (.int l))) : SmC Z n0 h' a N (own_set f t s l) L G xs gs q := by
  obtain ⟨g1, g2, E, F1, F2, F3, AL, AG, X, Y, inj⟩ := S
  have At := (X t ht).2
  have n1 : a ≠ xs t := own_ne_exa E wi At
  have n2 : L ≠ xs t := own_ne_ty AL At (by decide)
  have n3 : G ≠ xs t := own_ne_ty AG At (by decide)
  refine ⟨g1, by rw [W.size]; exact g2, E.wr W, F1.other W (Or.inl n1), F2.other W (Or.inl n1), F3.other W (Or.inl n1), AL.other W n2, AG.other W n3, fun i hi => ⟨(X i hi).1, ?_⟩, fun i hi => ⟨(Y i hi).1, ?_⟩, inj⟩
  · by_cases e : i = t
    · subst e
      refine A.congr fun j hj => ?_
      by_cases e2 : j = s
      · subst e2; simp [own_upd, own_set]
      · simp [own_upd, own_set, e2]
    · refine ((X i hi).2.other W fun z => e (inj i t hi ht z)).congr fun j hj => ?_
      simp [own_set, e]
  · obtain ⟨g, Ag⟩ := (Y i hi).2
    exact ⟨g, Ag.other W (own_ne_ty Ag At (by decide))⟩
theorem SmC.byte (wi : (Cond.instantiable "com/example/basisbook/basisbook/HourlyPrices$Sums" k).before a0 Z = true) (S : SmC Z n0 h a N f L G xs gs q) (ht : t < N) {p : Nat} {x : Int32} {g : Nat → Int32} (At : Ary Z h (gs t) .byte 64 (fun j => .int (g j))) (W : Wr h h' (gs t) sl v) (A : Ary Z h' (gs t) .byte 64 (own_upd (fun j => .int (g j)) p (.int x))) : SmC Z n0 h' a N f L G xs gs q := by
  obtain ⟨g1, g2, E, F1, F2, F3, AL, AG, X, Y, inj⟩ := S
  have n1 : a ≠ gs t := own_ne_exa E wi At
  have n2 : L ≠ gs t := own_ne_ty AL At (by decide)
  have n3 : G ≠ gs t := own_ne_ty AG At (by decide)
  refine ⟨g1, by rw [W.size]; exact g2, E.wr W, F1.other W (Or.inl n1), F2.other W (Or.inl n1), F3.other W (Or.inl n1), AL.other W n2, AG.other W n3, fun i hi => ⟨(X i hi).1, (X i hi).2.other W (own_ne_ty (X i hi).2 At (by decide))⟩, fun i hi => ⟨(Y i hi).1, ?_⟩, inj⟩
  by_cases e : gs i = gs t
  · rw [e]
    exact ⟨fun j => if j = p then x else g j, A.congr fun j hj => by simp only [own_upd]; split <;> rfl⟩
  · obtain ⟨g', Ag⟩ := (Y i hi).2
    exact ⟨g', Ag.other W e⟩
theorem SmC.quarter (wi : (Cond.instantiable "com/example/basisbook/basisbook/HourlyPrices$Sums" k).before a0 Z = true) (l1 : Laid Z a0 "com/example/basisbook/basisbook/HourlyPrices$Sums" "com/example/basisbook/basisbook/HourlyPrices$Sums" "lines" "[[I") (l2 : Laid Z a0 "com/example/basisbook/basisbook/HourlyPrices$Sums" "com/example/basisbook/basisbook/HourlyPrices$Sums" "given" "[[B") (l3 : Laid Z a0 "com/example/basisbook/basisbook/HourlyPrices$Sums" "com/example/basisbook/basisbook/HourlyPrices$Sums" "quarterHourly" "Z") (S : SmC Z n0 h a N f L G xs gs q) {q' : Int32} (W : Wr h h' a (Jvm.RoadKit.slotOf Z "com/example/basisbook/basisbook/HourlyPrices$Sums" "quarterHourly" "Z") (.int q')) : SmC Z n0 h' a N f L G xs gs q' := by
  obtain ⟨g1, g2, E, F1, F2, F3, AL, AG, X, Y, inj⟩ := S
  refine ⟨g1, by rw [W.size]; exact g2, E.wr W, F1.other W (Or.inr (slot_ne l1 l3 (by decide) (t := .array (.array .int)) (t' := .boolean) (by decide) (by decide))), F2.other W (Or.inr (slot_ne l2 l3 (by decide) (t := .array (.array .byte)) (t' := .boolean) (by decide) (by decide))), F3.same W, AL.other W (Ne.symm (own_ne_exa E wi AL)), AG.other W (Ne.symm (own_ne_exa E wi AG)), fun i hi => ⟨(X i hi).1, (X i hi).2.other W (Ne.symm (own_ne_exa E wi (X i hi).2))⟩, fun i hi => ⟨(Y i hi).1, ?_⟩, inj⟩
  obtain ⟨g', Ag⟩ := (Y i hi).2
  exact ⟨g', Ag.other W (Ne.symm (own_ne_exa E wi Ag))⟩
end OwnSm
theorem own_fam1 {P : Nat → Prop} (h : P 0) : ∀ i, i < 1 → P i := fun i hi => by
  have : i = 0 := by omega
  subst this; exact h
theorem own_fam2 {P : Nat → Prop} (h : P 0) (h' : P 1) : ∀ i, i < 2 → P i := fun i hi => by
  rcases (show i = 0 ∨ i = 1 by omega) with rfl | rfl
  · exact h
  · exact h'
theorem own_nb {a b n : Nat} (h : a < n) (g : b = n) : a ≠ b := by omega
theorem own_nbj {a b n : Nat} (j : Nat) (h : a < n) (g : b = n) : a ≠ b + 1 + j := by omega
theorem own_bbj (b j : Nat) : b ≠ b + 1 + j := by omega
theorem own_bij {b i j : Nat} (h : i ≠ j) : b + 1 + i ≠ b + 1 + j := by omega
theorem own_le {n0 b n : Nat} (h : n0 ≤ n) (g : b = n) : n0 ≤ b := by omega
theorem own_lej {n0 b n : Nat} (j : Nat) (h : n0 ≤ n) (g : b = n) : n0 ≤ b + 1 + j := by omega
section OwnGrid
variable {p : Program} {l : Launch} {e : Env} {R : Room} {s : State} {m : MethodId} {args : Array Value} {below : List Frame} {meth : Method} {c : Code} {T : State} {n0 : Nat} {h : Heap} {cells slots : Nat} {Φ : Outcome → State → List Loc → Prop} {Q : Option Value → Heap → Prop} {pc pc' : Nat} {L : Array Slot} {S : List Value} {bs : ByteArray} {Z : State} {a0 : Array Value}
theorem own_grid (X : St p l e R s m args below meth c n0 T h cells slots) (hx : p.tables.exec = Jvm.exec) (hby : c.code = bs) (hZ : Z.Warmed39 s.vm) {own C ad : String} {ty : FieldType} {index : Nat} (hown : s.vm.findClass own = some m.cls) (hC : (FieldType.array ty).toString = C) (had : "[" ++ C = ad)
    (w1 : (Cond.classLink own index ad).before a0 Z = true) (w2 : (Cond.arrayOver (.array ty)).before a0 Z = true) (w3 : (Cond.arrayClass ty).before a0 Z = true) (hd : decode bs pc = .ok (.multianewarray index 2, 4)) {n k : Int32} {N kk : Nat} (hn : n.toInt = (N : Int)) (hk : k.toInt = (kk : Int)) (hb8 : kk * 8 ≤ 536870912) (hb1 : N ≤ 1000) (hdf : fits ty (defaultValue ty) = true) (hdd : (defaultValue ty).isDefault = true) (hc : cells + (1 + N) ≤ R.cells) (hl : slots + (N + N * kk) ≤ R.slots) (hp : pc + 4 = pc')
    (K : ∀ T' h' (b : Addr), b = h.size → St p l e R s m args below meth c n0 T' h' (cells + (1 + N)) (slots + (N + N * kk)) → Ext h h' → Ary Z h' b (.array ty) N (fun j => .ref (b + 1 + j)) → (∀ j, j < N → Ary Z h' (b + 1 + j) ty kk (fun _ => defaultValue ty)) → Gl p e below n0 Φ Q (T'.setTop (mkF m pc' L (.ref b :: S)))) :
    Gl p e below n0 Φ Q (T.setTop (mkF m pc L (.int k :: .int n :: S))) := by
  obtain ⟨locs, Y, eT, Nf⟩ := X; subst hp
  have z : (0 : Int32).toInt = 0 := rfl
  have q1 : n.toNatClampNeg = N := by simp only [Int32.toNatClampNeg]; omega
  have q2 : k.toNatClampNeg = kk := by simp only [Int32.toNatClampNeg]; omega
  obtain ⟨T', h', cA, comp, Y', e', E, A, -, -, I, st⟩ := gridM Y hx hZ hown hC had w1 w2 w3 eT (g := mkF m pc L (.int k :: .int n :: S)) rfl (hb hby hd) rfl (by rw [Int32.lt_iff_toInt_lt]; omega) (by rw [Int32.lt_iff_toInt_lt]; omega) q1 (xs := (List.range N).map fun j => h.size + 1 + j) rfl (cap := kk) (by omega) hb8 hb1 hdf hdd hc hl
  refine Gl.st st (K T' h' _ rfl ⟨locs, Y', e', Nf⟩ E ?_ fun j hj => ?_)
  · obtain ⟨cl, Ar, -, sz, -, H, -⟩ := A
    rw [q1] at sz
    refine ⟨cl, Ar, sz, fun i hi => ?_⟩
    rw [H i (by omega)]
    simp [List.getD_eq_getElem?_getD, hi]
  · obtain ⟨Ar, -⟩ := I j _ (by rw [List.getElem?_map, List.getElem?_range hj]; rfl)
    exact ⟨_, Ar, by rw [sz_new]; exact q2, fun i hi => by simp [newA, q2, hi]⟩
end OwnGrid
set_option maxRecDepth 65536 in
set_option maxHeartbeats 40000000 in
theorem own_ef1 (m : MethodId) (y0 : Addr)  : entryFrame m #[(.ref y0)] 1 = mkF m 0 #[.val (.ref y0)] [] := by first | (simp [entryFrame, mkF, argsToLocals, Value.category, maxLocals]; done) | rfl
theorem own_pn0 : plainName "com/example/basisbook/basisbook/LongIndex" = true := by first | (simp [plainName, overriddenIn]; done) | decide +kernel
theorem own_d0_0 : decode prog_33_method_1_code 0 = .ok (.aload_n 0, 1) := by decide +kernel
theorem own_d0_1 : decode prog_33_method_1_code 1 = .ok (.invokespecial 1, 3) := by decide +kernel
theorem own_d0_4 : decode prog_33_method_1_code 4 = .ok (.aload_n 0, 1) := by decide +kernel
theorem own_d0_5 : decode prog_33_method_1_code 5 = .ok (.bipush 64, 2) := by decide +kernel
theorem own_d0_7 : decode prog_33_method_1_code 7 = .ok (.newarray .long, 2) := by decide +kernel
theorem own_d0_9 : decode prog_33_method_1_code 9 = .ok (.putfield 7, 3) := by decide +kernel
theorem own_d0_12 : decode prog_33_method_1_code 12 = .ok (.aload_n 0, 1) := by decide +kernel
theorem own_d0_13 : decode prog_33_method_1_code 13 = .ok (.sipush 128, 3) := by decide +kernel
theorem own_d0_16 : decode prog_33_method_1_code 16 = .ok (.newarray .int, 2) := by decide +kernel
theorem own_d0_18 : decode prog_33_method_1_code 18 = .ok (.putfield 13, 3) := by decide +kernel
theorem own_d0_21 : decode prog_33_method_1_code 21 = .ok (.aload_n 0, 1) := by decide +kernel
theorem own_d0_22 : decode prog_33_method_1_code 22 = .ok (.bipush 57, 2) := by decide +kernel
theorem own_d0_24 : decode prog_33_method_1_code 24 = .ok (.putfield 19, 3) := by decide +kernel
theorem own_d0_27 : decode prog_33_method_1_code 27 = .ok (.return_, 1) := by decide +kernel
set_option maxRecDepth 65536 in
set_option maxHeartbeats 40000000 in
theorem own_li (l : Launch) (Z : State) (a0 : Array Value) (hw : ∀ d ∈ tables_1, d.before a0 Z = true) (y0 : Addr) (h0 : Heap) (n0 : Nat) (Z0 : n0 ≤ h0.size) (Ex : Exa Z h0 y0 "com/example/basisbook/basisbook/LongIndex") (F0 : Fld Z h0 y0 "com/example/basisbook/basisbook/LongIndex" "keys" "[J" .null) (gn : n0 ≤ y0) :
    Ctr l Z (⟨"com/example/basisbook/basisbook/LongIndex", "<init>", "()V"⟩ : MethodName) prog_33_method_1_code 1 none [] (own_room 1 2 192 13) #[(.ref y0)] h0 n0 2 192 (fun v h => v = none ∧ Keep h0 h [y0]) := by
  refine Ctr.of (plainFor_of_name own_pn0) ?_
  intro p e s m below meth c T0 hx hby hml hret hlk hnm hown hZ X0
  rw [own_ef1 m (y0)]
  refine g_aloadN X0 hx hby own_d0_0 rfl rfl (pc' := 1) rfl ?_
  refine g_initO X0 hx hby hZ (W := 0) hown (hw _ (List.mem_of_getElem? (i := 15) rfl)) (hw _ (List.mem_of_getElem? (i := 7) rfl)) (hw _ (List.mem_of_getElem? (i := 8) rfl)) (by rw [hml]; rfl) own_d0_1 (by decide) (by exact Nat.le_of_eq rfl) (by decide) (pc' := 4) rfl (fun T2 X2 => ?_)
  refine g_aloadN X2 hx hby own_d0_4 rfl rfl (pc' := 5) rfl ?_
  refine g_bipush (v := 64) X2 hx hby own_d0_5 rfl (pc' := 7) rfl ?_
  refine g_newarray (k := 64) (cap := 64) X2 hx hby hZ (hw _ (List.mem_of_getElem? (i := 16) rfl)) own_d0_7 rfl (by decide) (by decide) (by decide) (by decide) (pc' := 9) rfl (fun T3 h3 b3 g3 X3 E3 A3 => ?_)
  have ne4 : y0 ≠ b3 := by rw [g3]; exact Nat.ne_of_lt Ex.lt
  have nn5 : n0 ≤ b3 := by rw [g3]; exact Z0
  have hh6 : h0.size ≤ b3 := by rw [g3]; exact (Keep.refl h0 [y0]).1
  have q7 := Ex.ext E3
  have q8 := F0.ext E3
  have zz9 := Nat.le_trans Z0 E3.1
  have kk10 : Keep h0 h3 [y0] := (Keep.refl h0 [y0]).ext E3
  refine g_putF X3 hx hby hZ hown (hw _ (List.mem_of_getElem? (i := 17) rfl)) Via.refl q8 q7 (Or.inl (hw _ (List.mem_of_getElem? (i := 18) rfl))) (hw _ (List.mem_of_getElem? (i := 10) rfl)) (ty := (.array .long)) (by decide) rfl rfl gn own_d0_9 (pc' := 12) rfl (fun T11 h11 X11 W11 => ?_)
  have q12 := q7.wr W11
  have q13 := q8.same W11
  have zz14 := Nat.le_trans zz9 (Nat.le_of_eq W11.size.symm)
  have kk15 : Keep h0 h11 [y0] := kk10.wr W11 (Or.inl (by simp))
  refine g_aloadN X11 hx hby own_d0_12 rfl rfl (pc' := 13) rfl ?_
  refine g_sipush (v := 128) X11 hx hby own_d0_13 rfl (pc' := 16) rfl ?_
  refine g_newarray (k := 128) (cap := 128) X11 hx hby hZ (hw _ (List.mem_of_getElem? (i := 19) rfl)) own_d0_16 rfl (by decide) (by decide) (by decide) (by decide) (pc' := 18) rfl (fun T16 h16 b16 g16 X16 E16 A16 => ?_)
  have ne17 : y0 ≠ b16 := by rw [g16]; exact Nat.ne_of_lt q12.lt
  have nn18 : n0 ≤ b16 := by rw [g16]; exact zz14
  have hh19 : h0.size ≤ b16 := by rw [g16]; exact kk15.1
  have q20 := q12.ext E16
  have q21 := q13.ext E16
  have zz22 := Nat.le_trans zz14 E16.1
  have kk23 : Keep h0 h16 [y0] := kk15.ext E16
  obtain ⟨u25, fu25⟩ := own_fld_of q20 q21 (hw _ (List.mem_of_getElem? (i := 10) rfl)) (Or.inl (hw _ (List.mem_of_getElem? (i := 21) rfl)))
  refine g_putF X16 hx hby hZ hown (hw _ (List.mem_of_getElem? (i := 20) rfl)) Via.refl fu25 q20 (Or.inl (hw _ (List.mem_of_getElem? (i := 21) rfl))) (hw _ (List.mem_of_getElem? (i := 10) rfl)) (ty := (.array .int)) (by decide) rfl rfl gn own_d0_18 (pc' := 21) rfl (fun T24 h24 X24 W24 => ?_)
  have q26 := q20.wr W24
  have q27 := q21.other W24 (Or.inr (slot_ne (Or.inl (hw _ (List.mem_of_getElem? (i := 18) rfl))) (Or.inl (hw _ (List.mem_of_getElem? (i := 21) rfl))) (by decide) (t := (.array .long)) (t' := (.array .int)) (by decide) (by decide)))
  have zz28 := Nat.le_trans zz22 (Nat.le_of_eq W24.size.symm)
  have kk29 : Keep h0 h24 [y0] := kk23.wr W24 (Or.inl (by simp))
  refine g_aloadN X24 hx hby own_d0_21 rfl rfl (pc' := 22) rfl ?_
  refine g_bipush (v := 57) X24 hx hby own_d0_22 rfl (pc' := 24) rfl ?_
  obtain ⟨u31, fu31⟩ := own_fld_of q26 q27 (hw _ (List.mem_of_getElem? (i := 10) rfl)) (Or.inl (hw _ (List.mem_of_getElem? (i := 23) rfl)))
  refine g_putF X24 hx hby hZ hown (hw _ (List.mem_of_getElem? (i := 22) rfl)) Via.refl fu31 q26 (Or.inl (hw _ (List.mem_of_getElem? (i := 23) rfl))) (hw _ (List.mem_of_getElem? (i := 10) rfl)) (ty := .int) (by decide) rfl rfl gn own_d0_24 (pc' := 27) rfl (fun T30 h30 X30 W30 => ?_)
  have q32 := q26.wr W30
  have q33 := q27.other W30 (Or.inr (slot_ne (Or.inl (hw _ (List.mem_of_getElem? (i := 18) rfl))) (Or.inl (hw _ (List.mem_of_getElem? (i := 23) rfl))) (by decide) (t := (.array .long)) (t' := .int) (by decide) (by decide)))
  have zz34 := Nat.le_trans zz28 (Nat.le_of_eq W30.size.symm)
  have kk35 : Keep h0 h30 [y0] := kk29.wr W30 (Or.inl (by simp))
  exact g_ret X30 hx hby hret hlk own_d0_27 ⟨rfl, kk35⟩ (by decide) (by decide)
set_option maxRecDepth 65536 in
set_option maxHeartbeats 40000000 in
theorem own_ef36 (m : MethodId) (y0 : Addr)  : entryFrame m #[(.ref y0)] 1 = mkF m 0 #[.val (.ref y0)] [] := by first | (simp [entryFrame, mkF, argsToLocals, Value.category, maxLocals]; done) | rfl
theorem own_pn1 : plainName "com/example/basisbook/basisbook/Decimals" = true := by first | (simp [plainName, overriddenIn]; done) | decide +kernel
theorem own_d1_0 : decode prog_12_method_1_code 0 = .ok (.aload_n 0, 1) := by decide +kernel
theorem own_d1_1 : decode prog_12_method_1_code 1 = .ok (.invokespecial 1, 3) := by decide +kernel
theorem own_d1_4 : decode prog_12_method_1_code 4 = .ok (.aload_n 0, 1) := by decide +kernel
theorem own_d1_5 : decode prog_12_method_1_code 5 = .ok (.bipush 16, 2) := by decide +kernel
theorem own_d1_7 : decode prog_12_method_1_code 7 = .ok (.newarray .long, 2) := by decide +kernel
theorem own_d1_9 : decode prog_12_method_1_code 9 = .ok (.putfield 7, 3) := by decide +kernel
theorem own_d1_12 : decode prog_12_method_1_code 12 = .ok (.return_, 1) := by decide +kernel
set_option maxRecDepth 65536 in
set_option maxHeartbeats 40000000 in
theorem own_de (l : Launch) (Z : State) (a0 : Array Value) (hw : ∀ d ∈ tables_1, d.before a0 Z = true) (y0 : Addr) (h0 : Heap) (n0 : Nat) (Z0 : n0 ≤ h0.size) (Ex : Exa Z h0 y0 "com/example/basisbook/basisbook/Decimals") (F0 : Fld Z h0 y0 "com/example/basisbook/basisbook/Decimals" "units" "[J" .null) (gn : n0 ≤ y0) :
    Ctr l Z (⟨"com/example/basisbook/basisbook/Decimals", "<init>", "()V"⟩ : MethodName) prog_12_method_1_code 1 none [] (own_room 1 1 16 13) #[(.ref y0)] h0 n0 1 16 (fun v h => v = none ∧ Keep h0 h [y0]) := by
  refine Ctr.of (plainFor_of_name own_pn1) ?_
  intro p e s m below meth c T0 hx hby hml hret hlk hnm hown hZ X0
  rw [own_ef36 m (y0)]
  refine g_aloadN X0 hx hby own_d1_0 rfl rfl (pc' := 1) rfl ?_
  refine g_initO X0 hx hby hZ (W := 0) hown (hw _ (List.mem_of_getElem? (i := 42) rfl)) (hw _ (List.mem_of_getElem? (i := 7) rfl)) (hw _ (List.mem_of_getElem? (i := 8) rfl)) (by rw [hml]; rfl) own_d1_1 (by decide) (by exact Nat.le_of_eq rfl) (by decide) (pc' := 4) rfl (fun T37 X37 => ?_)
  refine g_aloadN X37 hx hby own_d1_4 rfl rfl (pc' := 5) rfl ?_
  refine g_bipush (v := 16) X37 hx hby own_d1_5 rfl (pc' := 7) rfl ?_
  refine g_newarray (k := 16) (cap := 16) X37 hx hby hZ (hw _ (List.mem_of_getElem? (i := 16) rfl)) own_d1_7 rfl (by decide) (by decide) (by decide) (by decide) (pc' := 9) rfl (fun T38 h38 b38 g38 X38 E38 A38 => ?_)
  have ne39 : y0 ≠ b38 := by rw [g38]; exact Nat.ne_of_lt Ex.lt
  have nn40 : n0 ≤ b38 := by rw [g38]; exact Z0
  have hh41 : h0.size ≤ b38 := by rw [g38]; exact (Keep.refl h0 [y0]).1
  have q42 := Ex.ext E38
  have q43 := F0.ext E38
  have zz44 := Nat.le_trans Z0 E38.1
  have kk45 : Keep h0 h38 [y0] := (Keep.refl h0 [y0]).ext E38
  refine g_putF X38 hx hby hZ hown (hw _ (List.mem_of_getElem? (i := 43) rfl)) Via.refl q43 q42 (Or.inl (hw _ (List.mem_of_getElem? (i := 44) rfl))) (hw _ (List.mem_of_getElem? (i := 37) rfl)) (ty := (.array .long)) (by decide) rfl rfl gn own_d1_9 (pc' := 12) rfl (fun T46 h46 X46 W46 => ?_)
  have q47 := q42.wr W46
  have q48 := q43.same W46
  have zz49 := Nat.le_trans zz44 (Nat.le_of_eq W46.size.symm)
  have kk50 : Keep h0 h46 [y0] := kk45.wr W46 (Or.inl (by simp))
  exact g_ret X46 hx hby hret hlk own_d1_12 ⟨rfl, kk50⟩ (by decide) (by decide)
set_option maxRecDepth 65536 in
set_option maxHeartbeats 40000000 in
theorem own_ef51 (m : MethodId) (y0 : Addr) (y1 : Int32) (y2 : Int32)  : entryFrame m #[(.ref y0), (.int y1), (.int y2)] 4 = mkF m 0 #[.val (.ref y0), .val (.int y1), .val (.int y2), .unset] [] := by first | (simp [entryFrame, mkF, argsToLocals, Value.category, maxLocals]; done) | rfl
theorem own_pn2 : plainName "com/example/basisbook/basisbook/HourlyPrices$Sums" = true := by first | (simp [plainName, overriddenIn]; done) | decide +kernel
theorem own_d2_0 : decode prog_28_method_1_code 0 = .ok (.aload_n 0, 1) := by decide +kernel
theorem own_d2_1 : decode prog_28_method_1_code 1 = .ok (.invokespecial 3, 3) := by decide +kernel
theorem own_d2_4 : decode prog_28_method_1_code 4 = .ok (.aload_n 0, 1) := by decide +kernel
theorem own_d2_5 : decode prog_28_method_1_code 5 = .ok (.new 9, 3) := by decide +kernel
theorem own_d2_8 : decode prog_28_method_1_code 8 = .ok (.dup, 1) := by decide +kernel
theorem own_d2_9 : decode prog_28_method_1_code 9 = .ok (.invokespecial 11, 3) := by decide +kernel
theorem own_pd0 : parseMethodDescriptor "()V" = some ⟨[], none⟩ := by decide +kernel
theorem own_d2_12 : decode prog_28_method_1_code 12 = .ok (.putfield 12, 3) := by decide +kernel
theorem own_d2_15 : decode prog_28_method_1_code 15 = .ok (.aload_n 0, 1) := by decide +kernel
theorem own_d2_16 : decode prog_28_method_1_code 16 = .ok (.bipush 64, 2) := by decide +kernel
theorem own_d2_18 : decode prog_28_method_1_code 18 = .ok (.putfield 18, 3) := by decide +kernel
theorem own_d2_21 : decode prog_28_method_1_code 21 = .ok (.aload_n 0, 1) := by decide +kernel
theorem own_d2_22 : decode prog_28_method_1_code 22 = .ok (.ldc2_w 24, 3) := by decide +kernel
theorem own_d2_25 : decode prog_28_method_1_code 25 = .ok (.putfield 26, 3) := by decide +kernel
theorem own_d2_28 : decode prog_28_method_1_code 28 = .ok (.aload_n 0, 1) := by decide +kernel
theorem own_d2_29 : decode prog_28_method_1_code 29 = .ok (.iload_n 1, 1) := by decide +kernel
theorem own_d2_30 : decode prog_28_method_1_code 30 = .ok (.newarray .int, 2) := by decide +kernel
theorem own_d2_32 : decode prog_28_method_1_code 32 = .ok (.putfield 30, 3) := by decide +kernel
theorem own_d2_35 : decode prog_28_method_1_code 35 = .ok (.aload_n 0, 1) := by decide +kernel
theorem own_d2_36 : decode prog_28_method_1_code 36 = .ok (.iload_n 1, 1) := by decide +kernel
theorem own_d2_37 : decode prog_28_method_1_code 37 = .ok (.anewarray 34, 3) := by decide +kernel
theorem own_d2_40 : decode prog_28_method_1_code 40 = .ok (.putfield 36, 3) := by decide +kernel
theorem own_d2_43 : decode prog_28_method_1_code 43 = .ok (.iconst 0, 1) := by decide +kernel
theorem own_d2_44 : decode prog_28_method_1_code 44 = .ok (.istore_n 3, 1) := by decide +kernel
theorem own_d2_45 : decode prog_28_method_1_code 45 = .ok (.iload_n 3, 1) := by decide +kernel
theorem own_d2_46 : decode prog_28_method_1_code 46 = .ok (.iload_n 1, 1) := by decide +kernel
theorem own_d2_47 : decode prog_28_method_1_code 47 = .ok (.if_icmp .ge 37, 3) := by decide +kernel
theorem own_d2_50 : decode prog_28_method_1_code 50 = .ok (.aload_n 0, 1) := by decide +kernel
theorem own_d2_51 : decode prog_28_method_1_code 51 = .ok (.getfield 30, 3) := by decide +kernel
theorem own_d2_54 : decode prog_28_method_1_code 54 = .ok (.iload_n 3, 1) := by decide +kernel
theorem own_d2_55 : decode prog_28_method_1_code 55 = .ok (.iload_n 2, 1) := by decide +kernel
theorem own_d2_56 : decode prog_28_method_1_code 56 = .ok (.ifCond .eq 7, 3) := by decide +kernel
theorem own_d2_63 : decode prog_28_method_1_code 63 = .ok (.iconst 0, 1) := by decide +kernel
theorem own_d2_64 : decode prog_28_method_1_code 64 = .ok (.iastore, 1) := by decide +kernel
theorem own_d2_65 : decode prog_28_method_1_code 65 = .ok (.aload_n 0, 1) := by decide +kernel
theorem own_d2_66 : decode prog_28_method_1_code 66 = .ok (.getfield 36, 3) := by decide +kernel
theorem own_d2_69 : decode prog_28_method_1_code 69 = .ok (.iload_n 3, 1) := by decide +kernel
theorem own_d2_70 : decode prog_28_method_1_code 70 = .ok (.new 34, 3) := by decide +kernel
theorem own_d2_73 : decode prog_28_method_1_code 73 = .ok (.dup, 1) := by decide +kernel
theorem own_d2_74 : decode prog_28_method_1_code 74 = .ok (.invokespecial 40, 3) := by decide +kernel
theorem own_d2_77 : decode prog_28_method_1_code 77 = .ok (.aastore, 1) := by decide +kernel
theorem own_d2_78 : decode prog_28_method_1_code 78 = .ok (.iinc 3 1, 3) := by decide +kernel
theorem own_d2_81 : decode prog_28_method_1_code 81 = .ok (.goto (-36), 3) := by decide +kernel
theorem own_d2_84 : decode prog_28_method_1_code 84 = .ok (.iload_n 2, 1) := by decide +kernel
theorem own_d2_85 : decode prog_28_method_1_code 85 = .ok (.ifCond .eq 7, 3) := by decide +kernel
theorem own_d2_92 : decode prog_28_method_1_code 92 = .ok (.iconst 1, 1) := by decide +kernel
theorem own_d2_93 : decode prog_28_method_1_code 93 = .ok (.istore_n 3, 1) := by decide +kernel
theorem own_d2_94 : decode prog_28_method_1_code 94 = .ok (.aload_n 0, 1) := by decide +kernel
theorem own_d2_95 : decode prog_28_method_1_code 95 = .ok (.iload_n 3, 1) := by decide +kernel
theorem own_d2_96 : decode prog_28_method_1_code 96 = .ok (.aload_n 0, 1) := by decide +kernel
theorem own_d2_97 : decode prog_28_method_1_code 97 = .ok (.getfield 18, 3) := by decide +kernel
theorem own_d2_100 : decode prog_28_method_1_code 100 = .ok (.iconst 4, 1) := by decide +kernel
theorem own_d2_101 : decode prog_28_method_1_code 101 = .ok (.imul, 1) := by decide +kernel
theorem own_d2_102 : decode prog_28_method_1_code 102 = .ok (.multianewarray 41 2, 4) := by decide +kernel
theorem own_d2_106 : decode prog_28_method_1_code 106 = .ok (.putfield 43, 3) := by decide +kernel
theorem own_d2_109 : decode prog_28_method_1_code 109 = .ok (.aload_n 0, 1) := by decide +kernel
theorem own_d2_110 : decode prog_28_method_1_code 110 = .ok (.iload_n 3, 1) := by decide +kernel
theorem own_d2_111 : decode prog_28_method_1_code 111 = .ok (.aload_n 0, 1) := by decide +kernel
theorem own_d2_112 : decode prog_28_method_1_code 112 = .ok (.getfield 18, 3) := by decide +kernel
theorem own_d2_115 : decode prog_28_method_1_code 115 = .ok (.multianewarray 46 2, 4) := by decide +kernel
theorem own_d2_119 : decode prog_28_method_1_code 119 = .ok (.putfield 48, 3) := by decide +kernel
theorem own_d2_122 : decode prog_28_method_1_code 122 = .ok (.aload_n 0, 1) := by decide +kernel
theorem own_d2_123 : decode prog_28_method_1_code 123 = .ok (.iload_n 1, 1) := by decide +kernel
theorem own_d2_124 : decode prog_28_method_1_code 124 = .ok (.newarray .long, 2) := by decide +kernel
theorem own_d2_126 : decode prog_28_method_1_code 126 = .ok (.putfield 51, 3) := by decide +kernel
theorem own_d2_129 : decode prog_28_method_1_code 129 = .ok (.aload_n 0, 1) := by decide +kernel
theorem own_d2_130 : decode prog_28_method_1_code 130 = .ok (.iload_n 1, 1) := by decide +kernel
theorem own_d2_131 : decode prog_28_method_1_code 131 = .ok (.newarray .int, 2) := by decide +kernel
theorem own_d2_133 : decode prog_28_method_1_code 133 = .ok (.putfield 55, 3) := by decide +kernel
theorem own_d2_136 : decode prog_28_method_1_code 136 = .ok (.aload_n 0, 1) := by decide +kernel
theorem own_d2_137 : decode prog_28_method_1_code 137 = .ok (.iload_n 1, 1) := by decide +kernel
theorem own_d2_138 : decode prog_28_method_1_code 138 = .ok (.anewarray 58, 3) := by decide +kernel
theorem own_d2_141 : decode prog_28_method_1_code 141 = .ok (.putfield 60, 3) := by decide +kernel
theorem own_d2_144 : decode prog_28_method_1_code 144 = .ok (.return_, 1) := by decide +kernel
set_option maxRecDepth 65536 in
set_option maxHeartbeats 40000000 in
theorem own_su10 (l : Launch) (Z : State) (a0 : Array Value) (hw : ∀ d ∈ tables_1, d.before a0 Z = true) (y0 : Addr) (h0 : Heap) (n0 : Nat) (Z0 : n0 ≤ h0.size) (Ex : Exa Z h0 y0 "com/example/basisbook/basisbook/HourlyPrices$Sums") (F0 : Fld Z h0 y0 "com/example/basisbook/basisbook/HourlyPrices$Sums" "quarterHourly" "Z" (.int 0)) (gn : n0 ≤ y0) :
    Ctr l Z (⟨"com/example/basisbook/basisbook/HourlyPrices$Sums", "<init>", "(IZ)V"⟩ : MethodName) prog_28_method_1_code 4 none [] (own_room 2 25 1100 40) #[(.ref y0), (.int (1 : Int32)), (.int (0 : Int32))] h0 n0 25 1100 (fun v h => v = none ∧ Keep h0 h [y0] ∧ Sm Z n0 h y0 1 (fun _ _ => 0)) := by
  refine Ctr.of (plainFor_of_name own_pn2) ?_
  intro p e s m below meth c T0 hx hby hml hret hlk hnm hown hZ X0
  rw [own_ef51 m (y0) ((1 : Int32)) ((0 : Int32))]
  refine g_aloadN X0 hx hby own_d2_0 rfl rfl (pc' := 1) rfl ?_
  refine g_initO X0 hx hby hZ (W := 0) hown (hw _ (List.mem_of_getElem? (i := 6) rfl)) (hw _ (List.mem_of_getElem? (i := 7) rfl)) (hw _ (List.mem_of_getElem? (i := 8) rfl)) (by rw [hml]; rfl) own_d2_1 (by decide) (by exact Nat.le_of_eq rfl) (by decide) (pc' := 4) rfl (fun T52 X52 => ?_)
  refine g_aloadN X52 hx hby own_d2_4 rfl rfl (pc' := 5) rfl ?_
  refine g_new X52 hx hby hZ hown (hw _ (List.mem_of_getElem? (i := 9) rfl)) (hw _ (List.mem_of_getElem? (i := 10) rfl)) (hw _ (List.mem_of_getElem? (i := 11) rfl)) own_d2_5 (by decide) (by decide) (pc' := 8) rfl (fun T53 h53 b53 g53 X53 E53 A53 D53 => ?_)
  have ne54 : y0 ≠ b53 := by rw [g53]; exact Nat.ne_of_lt Ex.lt
  have nn55 : n0 ≤ b53 := by rw [g53]; exact Z0
  have hh56 : h0.size ≤ b53 := by rw [g53]; exact (Keep.refl h0 [y0]).1
  have q57 := Ex.ext E53
  have q58 := F0.ext E53
  have zz59 := Nat.le_trans Z0 E53.1
  have kk60 : Keep h0 h53 [y0] := (Keep.refl h0 [y0]).ext E53
  have q61 : Fld Z h53 b53 "com/example/basisbook/basisbook/LongIndex" "keys" "[J" .null := D53 (Or.inl (hw _ (List.mem_of_getElem? (i := 18) rfl))) (ty := (.array .long)) (by decide)
  have q62 : Fld Z h53 b53 "com/example/basisbook/basisbook/LongIndex" "table" "[I" .null := D53 (Or.inl (hw _ (List.mem_of_getElem? (i := 21) rfl))) (ty := (.array .int)) (by decide)
  have q63 : Fld Z h53 b53 "com/example/basisbook/basisbook/LongIndex" "shift" "I" (.int (0 : Int32)) := D53 (Or.inl (hw _ (List.mem_of_getElem? (i := 23) rfl))) (ty := .int) (by decide)
  refine g_dup X53 hx hby own_d2_8 rfl (pc' := 9) rfl ?_
  refine g_callC (argsL := []) (S := [(.ref b53), (.ref y0)]) (a := b53) X53 hx hby hZ (y := (⟨"com/example/basisbook/basisbook/LongIndex", "<init>", "()V"⟩ : MethodName)) rfl hown (hw _ (List.mem_of_getElem? (i := 12) rfl)) (hw _ (List.mem_of_getElem? (i := 13) rfl)) (hw _ (List.mem_of_getElem? (i := 11) rfl)) (hw _ (List.mem_of_getElem? (i := 14) rfl)) (by decide) (own_li l Z a0 hw b53 h53 n0 zz59 A53 q61 nn55) (by rw [hml]; rfl) (lenOf own_pd0 rfl) rfl own_d2_9 (by decide) (W := 2) (by exact Nat.le_of_eq rfl) (by decide) (by decide) (by decide) (pc' := 12) rfl (fun T64 v64 X64 hQ64 => ?_)
  obtain ⟨rfl, ka64⟩ := hQ64
  have q65 := q57.keep ka64
  have q66 := q58.keep ka64 (ninS ne54 nin0)
  have q67 := A53.keep ka64
  have zz68 := Nat.le_trans zz59 ka64.1
  have kk69 : Keep h0 T64.heap [y0] := kk60.trans ka64 (allS (Or.inr hh56) all0)
  show Gl p e below n0 _ _ (T64.setTop (mkF m 12 #[.val (.ref y0), .val (.int (1 : Int32)), .val (.int (0 : Int32)), .unset] [(.ref b53), (.ref y0)]))
  obtain ⟨u71, fu71⟩ := own_fld_of q65 q66 (hw _ (List.mem_of_getElem? (i := 1) rfl)) (Or.inr (hw _ (List.mem_of_getElem? (i := 25) rfl)))
  refine g_putF X64 hx hby hZ hown (hw _ (List.mem_of_getElem? (i := 24) rfl)) Via.refl fu71 q65 (Or.inr ⟨(hw _ (List.mem_of_getElem? (i := 25) rfl)), rfl, hnm⟩) (hw _ (List.mem_of_getElem? (i := 1) rfl)) (ty := (.object "com/example/basisbook/basisbook/LongIndex")) (by decide) rfl rfl gn own_d2_12 (pc' := 15) rfl (fun T70 h70 X70 W70 => ?_)
  have q72 := q65.wr W70
  have q73 := q66.other W70 (Or.inr (slot_ne (Or.inl (hw _ (List.mem_of_getElem? (i := 69) rfl))) (Or.inr (hw _ (List.mem_of_getElem? (i := 25) rfl))) (by decide) (t := .boolean) (t' := (.object "com/example/basisbook/basisbook/LongIndex")) (by decide) (by decide)))
  have zz74 := Nat.le_trans zz68 (Nat.le_of_eq W70.size.symm)
  have kk75 : Keep h0 h70 [y0] := kk69.wr W70 (Or.inl (by simp))
  refine g_aloadN X70 hx hby own_d2_15 rfl rfl (pc' := 16) rfl ?_
  refine g_bipush (v := 64) X70 hx hby own_d2_16 rfl (pc' := 18) rfl ?_
  obtain ⟨u77, fu77⟩ := own_fld_of q72 q73 (hw _ (List.mem_of_getElem? (i := 1) rfl)) (Or.inl (hw _ (List.mem_of_getElem? (i := 27) rfl)))
  refine g_putF X70 hx hby hZ hown (hw _ (List.mem_of_getElem? (i := 26) rfl)) Via.refl fu77 q72 (Or.inl (hw _ (List.mem_of_getElem? (i := 27) rfl))) (hw _ (List.mem_of_getElem? (i := 1) rfl)) (ty := .int) (by decide) rfl rfl gn own_d2_18 (pc' := 21) rfl (fun T76 h76 X76 W76 => ?_)
  have q78 := q72.wr W76
  have q79 := q73.other W76 (Or.inr (slot_ne (Or.inl (hw _ (List.mem_of_getElem? (i := 69) rfl))) (Or.inl (hw _ (List.mem_of_getElem? (i := 27) rfl))) (by decide) (t := .boolean) (t' := .int) (by decide) (by decide)))
  have q80 := fu77.same W76
  have zz81 := Nat.le_trans zz74 (Nat.le_of_eq W76.size.symm)
  have kk82 : Keep h0 h76 [y0] := kk75.wr W76 (Or.inl (by simp))
  refine g_aloadN X76 hx hby own_d2_21 rfl rfl (pc' := 22) rfl ?_
  refine g_ldc2_w X76 hx hby hZ hown (hw _ (List.mem_of_getElem? (i := 28) rfl)) own_d2_22 (pc' := 25) rfl ?_
  obtain ⟨u84, fu84⟩ := own_fld_of q78 q79 (hw _ (List.mem_of_getElem? (i := 1) rfl)) (Or.inl (hw _ (List.mem_of_getElem? (i := 30) rfl)))
  refine g_putF X76 hx hby hZ hown (hw _ (List.mem_of_getElem? (i := 29) rfl)) Via.refl fu84 q78 (Or.inl (hw _ (List.mem_of_getElem? (i := 30) rfl))) (hw _ (List.mem_of_getElem? (i := 1) rfl)) (ty := .long) (by decide) rfl rfl gn own_d2_25 (pc' := 28) rfl (fun T83 h83 X83 W83 => ?_)
  have q85 := q78.wr W83
  have q86 := q79.other W83 (Or.inr (slot_ne (Or.inl (hw _ (List.mem_of_getElem? (i := 69) rfl))) (Or.inl (hw _ (List.mem_of_getElem? (i := 30) rfl))) (by decide) (t := .boolean) (t' := .long) (by decide) (by decide)))
  have q87 := q80.other W83 (Or.inr (slot_ne (Or.inl (hw _ (List.mem_of_getElem? (i := 27) rfl))) (Or.inl (hw _ (List.mem_of_getElem? (i := 30) rfl))) (by decide) (t := .int) (t' := .long) (by decide) (by decide)))
  have zz88 := Nat.le_trans zz81 (Nat.le_of_eq W83.size.symm)
  have kk89 : Keep h0 h83 [y0] := kk82.wr W83 (Or.inl (by simp))
  refine g_aloadN X83 hx hby own_d2_28 rfl rfl (pc' := 29) rfl ?_
  refine g_iloadN X83 hx hby own_d2_29 rfl (pc' := 30) rfl ?_
  refine g_newarray (k := 1) (cap := 1) X83 hx hby hZ (hw _ (List.mem_of_getElem? (i := 19) rfl)) own_d2_30 rfl (by decide) (by decide) (by decide) (by decide) (pc' := 32) rfl (fun T90 h90 b90 g90 X90 E90 A90 => ?_)
  have ne91 : y0 ≠ b90 := by rw [g90]; exact Nat.ne_of_lt q85.lt
  have nn92 : n0 ≤ b90 := by rw [g90]; exact zz88
  have hh93 : h0.size ≤ b90 := by rw [g90]; exact kk89.1
  have q94 := q85.ext E90
  have q95 := q86.ext E90
  have q96 := q87.ext E90
  have zz97 := Nat.le_trans zz88 E90.1
  have kk98 : Keep h0 h90 [y0] := kk89.ext E90
  obtain ⟨u100, fu100⟩ := own_fld_of q94 q95 (hw _ (List.mem_of_getElem? (i := 1) rfl)) (Or.inr (hw _ (List.mem_of_getElem? (i := 32) rfl)))
  refine g_putF X90 hx hby hZ hown (hw _ (List.mem_of_getElem? (i := 31) rfl)) Via.refl fu100 q94 (Or.inr ⟨(hw _ (List.mem_of_getElem? (i := 32) rfl)), rfl, hnm⟩) (hw _ (List.mem_of_getElem? (i := 1) rfl)) (ty := (.array .int)) (by decide) rfl rfl gn own_d2_32 (pc' := 35) rfl (fun T99 h99 X99 W99 => ?_)
  have q101 := q94.wr W99
  have q102 := q95.other W99 (Or.inr (slot_ne (Or.inl (hw _ (List.mem_of_getElem? (i := 69) rfl))) (Or.inr (hw _ (List.mem_of_getElem? (i := 32) rfl))) (by decide) (t := .boolean) (t' := (.array .int)) (by decide) (by decide)))
  have q103 := q96.other W99 (Or.inr (slot_ne (Or.inl (hw _ (List.mem_of_getElem? (i := 27) rfl))) (Or.inr (hw _ (List.mem_of_getElem? (i := 32) rfl))) (by decide) (t := .int) (t' := (.array .int)) (by decide) (by decide)))
  have q104 := A90.other W99 (Ne.symm ne91)
  have q105 := fu100.same W99
  have zz106 := Nat.le_trans zz97 (Nat.le_of_eq W99.size.symm)
  have kk107 : Keep h0 h99 [y0] := kk98.wr W99 (Or.inl (by simp))
  refine g_aloadN X99 hx hby own_d2_35 rfl rfl (pc' := 36) rfl ?_
  refine g_iloadN X99 hx hby own_d2_36 rfl (pc' := 37) rfl ?_
  refine g_anewarray (k := 1) (cap := 1) X99 hx hby hZ hown (hw _ (List.mem_of_getElem? (i := 33) rfl)) (hw _ (List.mem_of_getElem? (i := 34) rfl)) own_d2_37 rfl (by decide) (by decide) (by decide) (by decide) (pc' := 40) rfl (fun T108 h108 b108 g108 X108 E108 A108 O108 => ?_)
  have ne109 : y0 ≠ b108 := by rw [g108]; exact Nat.ne_of_lt q101.lt
  have ne110 : b90 ≠ b108 := by rw [g108]; exact Nat.ne_of_lt q104.lt
  have nn111 : n0 ≤ b108 := by rw [g108]; exact zz106
  have hh112 : h0.size ≤ b108 := by rw [g108]; exact kk107.1
  have q113 := q101.ext E108
  have q114 := q102.ext E108
  have q115 := q103.ext E108
  have q116 := q104.ext E108
  have q117 := q105.ext E108
  have zz118 := Nat.le_trans zz106 E108.1
  have kk119 : Keep h0 h108 [y0] := kk107.ext E108
  obtain ⟨u121, fu121⟩ := own_fld_of q113 q114 (hw _ (List.mem_of_getElem? (i := 1) rfl)) (Or.inr (hw _ (List.mem_of_getElem? (i := 36) rfl)))
  refine g_putF X108 hx hby hZ hown (hw _ (List.mem_of_getElem? (i := 35) rfl)) Via.refl fu121 q113 (Or.inr ⟨(hw _ (List.mem_of_getElem? (i := 36) rfl)), rfl, hnm⟩) (hw _ (List.mem_of_getElem? (i := 1) rfl)) (ty := (.array (.object "com/example/basisbook/basisbook/Decimals"))) (by decide) rfl rfl gn own_d2_40 (pc' := 43) rfl (fun T120 h120 X120 W120 => ?_)
  have q122 := q113.wr W120
  have q123 := q114.other W120 (Or.inr (slot_ne (Or.inl (hw _ (List.mem_of_getElem? (i := 69) rfl))) (Or.inr (hw _ (List.mem_of_getElem? (i := 36) rfl))) (by decide) (t := .boolean) (t' := (.array (.object "com/example/basisbook/basisbook/Decimals"))) (by decide) (by decide)))
  have q124 := q115.other W120 (Or.inr (slot_ne (Or.inl (hw _ (List.mem_of_getElem? (i := 27) rfl))) (Or.inr (hw _ (List.mem_of_getElem? (i := 36) rfl))) (by decide) (t := .int) (t' := (.array (.object "com/example/basisbook/basisbook/Decimals"))) (by decide) (by decide)))
  have q125 := q116.other W120 (Ne.symm ne91)
  have q126 := q117.other W120 (Or.inr (slot_ne (Or.inr (hw _ (List.mem_of_getElem? (i := 32) rfl))) (Or.inr (hw _ (List.mem_of_getElem? (i := 36) rfl))) (by decide) (t := (.array .int)) (t' := (.array (.object "com/example/basisbook/basisbook/Decimals"))) (by decide) (by decide)))
  have q127 := A108.other W120 (Ne.symm ne109)
  have q128 := O108.wr W120
  have q129 := fu121.same W120
  have zz130 := Nat.le_trans zz118 (Nat.le_of_eq W120.size.symm)
  have kk131 : Keep h0 h120 [y0] := kk119.wr W120 (Or.inl (by simp))
  refine g_iconst (v := 0) X120 hx hby own_d2_43 rfl (pc' := 44) rfl ?_
  refine g_istoreN (L' := #[.val (.ref y0), .val (.int (1 : Int32)), .val (.int (0 : Int32)), .val (.int (0 : Int32))]) X120 hx hby own_d2_44 rfl (pc' := 45) rfl ?_
  refine g_iloadN X120 hx hby own_d2_45 rfl (pc' := 46) rfl ?_
  refine g_iloadN X120 hx hby own_d2_46 rfl (pc' := 47) rfl ?_
  refine g_icmp_ge X120 hx hby own_d2_47 (by decide) (pc' := 84) (by decide) (pc2 := 50) rfl (fun q => absurd (by decide) q) (fun c47_132 => ?_)
  refine g_aloadN X120 hx hby own_d2_50 rfl rfl (pc' := 51) rfl ?_
  refine g_getF X120 hx hby hZ hown (hw _ (List.mem_of_getElem? (i := 31) rfl)) Via.refl q126 own_d2_51 (pc' := 54) rfl (fun T133 X133 => ?_)
  refine g_iloadN X133 hx hby own_d2_54 rfl (pc' := 55) rfl ?_
  refine g_iloadN X133 hx hby own_d2_55 rfl (pc' := 56) rfl ?_
  refine g_if_eq X133 hx hby own_d2_56 (by decide) (pc' := 63) (by decide) (pc2 := 59) rfl (fun c56_134 => ?_) (fun q => absurd (by decide) q)
  refine g_iconst (v := 0) X133 hx hby own_d2_63 rfl (pc' := 64) rfl ?_
  refine g_iastore (i := 0) X133 hx hby hZ q125 rfl (by decide) nn92 own_d2_64 (pc' := 65) rfl (fun T135 h135 sl135 X135 W135 A135 => ?_)
  have q136 := q122.wr W135
  have q137 := q123.other W135 (Or.inl ne91)
  have q138 := q124.other W135 (Or.inl ne91)
  have q139 := q126.other W135 (Or.inl ne91)
  have q140 := q127.other W135 (Ne.symm ne110)
  have q141 := q128.wr W135
  have q142 := q129.other W135 (Or.inl ne91)
  have zz143 := Nat.le_trans zz130 (Nat.le_of_eq W135.size.symm)
  have kk144 : Keep h0 h135 [y0] := kk131.wr W135 (Or.inr hh93)
  refine g_aloadN X135 hx hby own_d2_65 rfl rfl (pc' := 66) rfl ?_
  refine g_getF X135 hx hby hZ hown (hw _ (List.mem_of_getElem? (i := 35) rfl)) Via.refl q142 own_d2_66 (pc' := 69) rfl (fun T145 X145 => ?_)
  refine g_iloadN X145 hx hby own_d2_69 rfl (pc' := 70) rfl ?_
  refine g_new X145 hx hby hZ hown (hw _ (List.mem_of_getElem? (i := 33) rfl)) (hw _ (List.mem_of_getElem? (i := 37) rfl)) (hw _ (List.mem_of_getElem? (i := 38) rfl)) own_d2_70 (by decide) (by decide) (pc' := 73) rfl (fun T146 h146 b146 g146 X146 E146 A146 D146 => ?_)
  have ne147 : y0 ≠ b146 := by rw [g146]; exact Nat.ne_of_lt q136.lt
  have ne148 : b90 ≠ b146 := by rw [g146]; exact Nat.ne_of_lt A135.lt
  have ne149 : b108 ≠ b146 := by rw [g146]; exact Nat.ne_of_lt q140.lt
  have nn150 : n0 ≤ b146 := by rw [g146]; exact zz143
  have hh151 : h0.size ≤ b146 := by rw [g146]; exact kk144.1
  have q152 := q136.ext E146
  have q153 := q137.ext E146
  have q154 := q138.ext E146
  have q155 := A135.ext E146
  have q156 := q139.ext E146
  have q157 := q140.ext E146
  have q158 := q141.ext E146
  have q159 := q142.ext E146
  have zz160 := Nat.le_trans zz143 E146.1
  have kk161 : Keep h0 h146 [y0] := kk144.ext E146
  have q162 : Fld Z h146 b146 "com/example/basisbook/basisbook/Decimals" "units" "[J" .null := D146 (Or.inl (hw _ (List.mem_of_getElem? (i := 44) rfl))) (ty := (.array .long)) (by decide)
  refine g_dup X146 hx hby own_d2_73 rfl (pc' := 74) rfl ?_
  refine g_callC (argsL := []) (S := [(.ref b146), (.int (0 : Int32)), (.ref b108)]) (a := b146) X146 hx hby hZ (y := (⟨"com/example/basisbook/basisbook/Decimals", "<init>", "()V"⟩ : MethodName)) rfl hown (hw _ (List.mem_of_getElem? (i := 39) rfl)) (hw _ (List.mem_of_getElem? (i := 40) rfl)) (hw _ (List.mem_of_getElem? (i := 38) rfl)) (hw _ (List.mem_of_getElem? (i := 41) rfl)) (by decide) (own_de l Z a0 hw b146 h146 n0 zz160 A146 q162 nn150) (by rw [hml]; rfl) (lenOf own_pd0 rfl) rfl own_d2_74 (by decide) (W := 3) (by exact Nat.le_of_eq rfl) (by decide) (by decide) (by decide) (pc' := 77) rfl (fun T163 v163 X163 hQ163 => ?_)
  obtain ⟨rfl, ka163⟩ := hQ163
  have q164 := q152.keep ka163
  have q165 := q153.keep ka163 (ninS ne147 nin0)
  have q166 := q154.keep ka163 (ninS ne147 nin0)
  have q167 := q155.keep ka163 (ninS ne148 nin0)
  have q168 := q156.keep ka163 (ninS ne147 nin0)
  have q169 := q157.keep ka163 (ninS ne149 nin0)
  have q170 := q158.keep ka163
  have q171 := q159.keep ka163 (ninS ne147 nin0)
  have q172 := A146.keep ka163
  have zz173 := Nat.le_trans zz160 ka163.1
  have kk174 : Keep h0 T163.heap [y0] := kk161.trans ka163 (allS (Or.inr hh151) all0)
  show Gl p e below n0 _ _ (T163.setTop (mkF m 77 #[.val (.ref y0), .val (.int (1 : Int32)), .val (.int (0 : Int32)), .val (.int (0 : Int32))] [(.ref b146), (.int (0 : Int32)), (.ref b108)]))
  refine g_aastore (i := 0) X163 hx hby hZ q169 rfl (Ov.sto q170 q169 (Ins.self q172)) rfl (by decide) nn111 own_d2_77 (pc' := 78) rfl (fun T175 h175 sl175 X175 W175 A175 => ?_)
  have q176 := q164.wr W175
  have q177 := q165.other W175 (Or.inl ne109)
  have q178 := q166.other W175 (Or.inl ne109)
  have q179 := q167.other W175 ne110
  have q180 := q168.other W175 (Or.inl ne109)
  have q181 := q170.wr W175
  have q182 := q171.other W175 (Or.inl ne109)
  have zz183 := Nat.le_trans zz173 (Nat.le_of_eq W175.size.symm)
  have kk184 : Keep h0 h175 [y0] := kk174.wr W175 (Or.inr hh112)
  refine g_iinc (y := 1) (L' := #[.val (.ref y0), .val (.int (1 : Int32)), .val (.int (0 : Int32)), .val (.int (1 : Int32))]) X175 hx hby own_d2_78 rfl rfl rfl (pc' := 81) rfl ?_
  refine g_goto X175 hx hby own_d2_81 (by decide) (pc' := 45) (by decide) ?_
  refine g_iloadN X175 hx hby own_d2_45 rfl (pc' := 46) rfl ?_
  refine g_iloadN X175 hx hby own_d2_46 rfl (pc' := 47) rfl ?_
  refine g_icmp_ge X175 hx hby own_d2_47 (by decide) (pc' := 84) (by decide) (pc2 := 50) rfl (fun c47_185 => ?_) (fun q => absurd q (by decide))
  refine g_iloadN X175 hx hby own_d2_84 rfl (pc' := 85) rfl ?_
  refine g_if_eq X175 hx hby own_d2_85 (by decide) (pc' := 92) (by decide) (pc2 := 88) rfl (fun c85_186 => ?_) (fun q => absurd (by decide) q)
  refine g_iconst (v := 1) X175 hx hby own_d2_92 rfl (pc' := 93) rfl ?_
  refine g_istoreN (L' := #[.val (.ref y0), .val (.int (1 : Int32)), .val (.int (0 : Int32)), .val (.int (1 : Int32))]) X175 hx hby own_d2_93 rfl (pc' := 94) rfl ?_
  refine g_aloadN X175 hx hby own_d2_94 rfl rfl (pc' := 95) rfl ?_
  refine g_iloadN X175 hx hby own_d2_95 rfl (pc' := 96) rfl ?_
  refine g_aloadN X175 hx hby own_d2_96 rfl rfl (pc' := 97) rfl ?_
  refine g_getF X175 hx hby hZ hown (hw _ (List.mem_of_getElem? (i := 26) rfl)) Via.refl q178 own_d2_97 (pc' := 100) rfl (fun T187 X187 => ?_)
  refine g_iconst (v := 4) X187 hx hby own_d2_100 rfl (pc' := 101) rfl ?_
  refine g_imul X187 hx hby own_d2_101 (pc' := 102) rfl ?_
  show Gl p e below n0 _ _ (T187.setTop (mkF m 102 #[.val (.ref y0), .val (.int (1 : Int32)), .val (.int (0 : Int32)), .val (.int (1 : Int32))] [(.int (256 : Int32)), (.int (1 : Int32)), (.ref y0)]))
  refine own_grid (N := 1) (kk := 256) X187 hx hby hZ hown (C := "[I") (ad := "[[I") (ty := .int) (by decide) (by decide) (hw _ (List.mem_of_getElem? (i := 46) rfl)) (hw _ (List.mem_of_getElem? (i := 47) rfl)) (hw _ (List.mem_of_getElem? (i := 19) rfl)) own_d2_102 rfl rfl (by decide) (by decide) rfl rfl (by decide) (by decide) (pc' := 106) rfl (fun T188 h188 b188 g188 X188 E188 A188 I188 => ?_)
  have ne189 : y0 ≠ b188 := own_nb q176.lt g188
  have ne190 : y0 ≠ (b188 + 1 + 0) := own_nbj 0 q176.lt g188
  have ne191 : b90 ≠ b188 := own_nb q179.lt g188
  have ne192 : b90 ≠ (b188 + 1 + 0) := own_nbj 0 q179.lt g188
  have ne193 : b108 ≠ b188 := own_nb A175.lt g188
  have ne194 : b108 ≠ (b188 + 1 + 0) := own_nbj 0 A175.lt g188
  have ne195 : b188 ≠ (b188 + 1 + 0) := own_bbj _ _
  have nn196 : n0 ≤ b188 := own_le zz183 g188
  have hh197 : h0.size ≤ b188 := own_le kk184.1 g188
  have nn198 : n0 ≤ (b188 + 1 + 0) := own_lej _ zz183 g188
  have hh199 : h0.size ≤ (b188 + 1 + 0) := own_lej _ kk184.1 g188
  have q200 := q176.ext E188
  have q201 := q177.ext E188
  have q202 := q178.ext E188
  have q203 := q179.ext E188
  have q204 := q180.ext E188
  have q205 := A175.ext E188
  have q206 := q181.ext E188
  have q207 := q182.ext E188
  have zz208 := Nat.le_trans zz183 E188.1
  have kk209 : Keep h0 h188 [y0] := kk184.ext E188
  have ai210 := I188 0 (by decide)
  obtain ⟨u212, fu212⟩ := own_fld_of q200 q201 (hw _ (List.mem_of_getElem? (i := 1) rfl)) (Or.inr (hw _ (List.mem_of_getElem? (i := 49) rfl)))
  refine g_putF X188 hx hby hZ hown (hw _ (List.mem_of_getElem? (i := 48) rfl)) Via.refl fu212 q200 (Or.inr ⟨(hw _ (List.mem_of_getElem? (i := 49) rfl)), rfl, hnm⟩) (hw _ (List.mem_of_getElem? (i := 1) rfl)) (ty := (.array (.array .int))) (by decide) rfl rfl gn own_d2_106 (pc' := 109) rfl (fun T211 h211 X211 W211 => ?_)
  have q213 := q200.wr W211
  have q214 := q201.other W211 (Or.inr (slot_ne (Or.inl (hw _ (List.mem_of_getElem? (i := 69) rfl))) (Or.inr (hw _ (List.mem_of_getElem? (i := 49) rfl))) (by decide) (t := .boolean) (t' := (.array (.array .int))) (by decide) (by decide)))
  have q215 := q202.other W211 (Or.inr (slot_ne (Or.inl (hw _ (List.mem_of_getElem? (i := 27) rfl))) (Or.inr (hw _ (List.mem_of_getElem? (i := 49) rfl))) (by decide) (t := .int) (t' := (.array (.array .int))) (by decide) (by decide)))
  have q216 := q203.other W211 (Ne.symm ne91)
  have q217 := q204.other W211 (Or.inr (slot_ne (Or.inr (hw _ (List.mem_of_getElem? (i := 32) rfl))) (Or.inr (hw _ (List.mem_of_getElem? (i := 49) rfl))) (by decide) (t := (.array .int)) (t' := (.array (.array .int))) (by decide) (by decide)))
  have q218 := q205.other W211 (Ne.symm ne109)
  have q219 := q206.wr W211
  have q220 := q207.other W211 (Or.inr (slot_ne (Or.inr (hw _ (List.mem_of_getElem? (i := 36) rfl))) (Or.inr (hw _ (List.mem_of_getElem? (i := 49) rfl))) (by decide) (t := (.array (.object "com/example/basisbook/basisbook/Decimals"))) (t' := (.array (.array .int))) (by decide) (by decide)))
  have q221 := A188.other W211 (Ne.symm ne189)
  have q222 := ai210.other W211 (Ne.symm ne190)
  have q223 := fu212.same W211
  have zz224 := Nat.le_trans zz208 (Nat.le_of_eq W211.size.symm)
  have kk225 : Keep h0 h211 [y0] := kk209.wr W211 (Or.inl (by simp))
  refine g_aloadN X211 hx hby own_d2_109 rfl rfl (pc' := 110) rfl ?_
  refine g_iloadN X211 hx hby own_d2_110 rfl (pc' := 111) rfl ?_
  refine g_aloadN X211 hx hby own_d2_111 rfl rfl (pc' := 112) rfl ?_
  refine g_getF X211 hx hby hZ hown (hw _ (List.mem_of_getElem? (i := 26) rfl)) Via.refl q215 own_d2_112 (pc' := 115) rfl (fun T226 X226 => ?_)
  refine own_grid (N := 1) (kk := 64) X226 hx hby hZ hown (C := "[B") (ad := "[[B") (ty := .byte) (by decide) (by decide) (hw _ (List.mem_of_getElem? (i := 50) rfl)) (hw _ (List.mem_of_getElem? (i := 51) rfl)) (hw _ (List.mem_of_getElem? (i := 52) rfl)) own_d2_115 rfl rfl (by decide) (by decide) rfl rfl (by decide) (by decide) (pc' := 119) rfl (fun T227 h227 b227 g227 X227 E227 A227 I227 => ?_)
  have ne228 : y0 ≠ b227 := own_nb q213.lt g227
  have ne229 : y0 ≠ (b227 + 1 + 0) := own_nbj 0 q213.lt g227
  have ne230 : b90 ≠ b227 := own_nb q216.lt g227
  have ne231 : b90 ≠ (b227 + 1 + 0) := own_nbj 0 q216.lt g227
  have ne232 : b108 ≠ b227 := own_nb q218.lt g227
  have ne233 : b108 ≠ (b227 + 1 + 0) := own_nbj 0 q218.lt g227
  have ne234 : b188 ≠ b227 := own_nb q221.lt g227
  have ne235 : b188 ≠ (b227 + 1 + 0) := own_nbj 0 q221.lt g227
  have ne236 : (b188 + 1 + 0) ≠ b227 := own_nb q222.lt g227
  have ne237 : (b188 + 1 + 0) ≠ (b227 + 1 + 0) := own_nbj 0 q222.lt g227
  have ne238 : b227 ≠ (b227 + 1 + 0) := own_bbj _ _
  have nn239 : n0 ≤ b227 := own_le zz224 g227
  have hh240 : h0.size ≤ b227 := own_le kk225.1 g227
  have nn241 : n0 ≤ (b227 + 1 + 0) := own_lej _ zz224 g227
  have hh242 : h0.size ≤ (b227 + 1 + 0) := own_lej _ kk225.1 g227
  have q243 := q213.ext E227
  have q244 := q214.ext E227
  have q245 := q215.ext E227
  have q246 := q216.ext E227
  have q247 := q217.ext E227
  have q248 := q218.ext E227
  have q249 := q219.ext E227
  have q250 := q220.ext E227
  have q251 := q221.ext E227
  have q252 := q222.ext E227
  have q253 := q223.ext E227
  have zz254 := Nat.le_trans zz224 E227.1
  have kk255 : Keep h0 h227 [y0] := kk225.ext E227
  have ai256 := I227 0 (by decide)
  obtain ⟨u258, fu258⟩ := own_fld_of q243 q244 (hw _ (List.mem_of_getElem? (i := 1) rfl)) (Or.inr (hw _ (List.mem_of_getElem? (i := 54) rfl)))
  refine g_putF X227 hx hby hZ hown (hw _ (List.mem_of_getElem? (i := 53) rfl)) Via.refl fu258 q243 (Or.inr ⟨(hw _ (List.mem_of_getElem? (i := 54) rfl)), rfl, hnm⟩) (hw _ (List.mem_of_getElem? (i := 1) rfl)) (ty := (.array (.array .byte))) (by decide) rfl rfl gn own_d2_119 (pc' := 122) rfl (fun T257 h257 X257 W257 => ?_)
  have q259 := q243.wr W257
  have q260 := q244.other W257 (Or.inr (slot_ne (Or.inl (hw _ (List.mem_of_getElem? (i := 69) rfl))) (Or.inr (hw _ (List.mem_of_getElem? (i := 54) rfl))) (by decide) (t := .boolean) (t' := (.array (.array .byte))) (by decide) (by decide)))
  have q261 := q245.other W257 (Or.inr (slot_ne (Or.inl (hw _ (List.mem_of_getElem? (i := 27) rfl))) (Or.inr (hw _ (List.mem_of_getElem? (i := 54) rfl))) (by decide) (t := .int) (t' := (.array (.array .byte))) (by decide) (by decide)))
  have q262 := q246.other W257 (Ne.symm ne91)
  have q263 := q247.other W257 (Or.inr (slot_ne (Or.inr (hw _ (List.mem_of_getElem? (i := 32) rfl))) (Or.inr (hw _ (List.mem_of_getElem? (i := 54) rfl))) (by decide) (t := (.array .int)) (t' := (.array (.array .byte))) (by decide) (by decide)))
  have q264 := q248.other W257 (Ne.symm ne109)
  have q265 := q249.wr W257
  have q266 := q250.other W257 (Or.inr (slot_ne (Or.inr (hw _ (List.mem_of_getElem? (i := 36) rfl))) (Or.inr (hw _ (List.mem_of_getElem? (i := 54) rfl))) (by decide) (t := (.array (.object "com/example/basisbook/basisbook/Decimals"))) (t' := (.array (.array .byte))) (by decide) (by decide)))
  have q267 := q251.other W257 (Ne.symm ne189)
  have q268 := q252.other W257 (Ne.symm ne190)
  have q269 := q253.other W257 (Or.inr (slot_ne (Or.inr (hw _ (List.mem_of_getElem? (i := 49) rfl))) (Or.inr (hw _ (List.mem_of_getElem? (i := 54) rfl))) (by decide) (t := (.array (.array .int))) (t' := (.array (.array .byte))) (by decide) (by decide)))
  have q270 := A227.other W257 (Ne.symm ne228)
  have q271 := ai256.other W257 (Ne.symm ne229)
  have q272 := fu258.same W257
  have zz273 := Nat.le_trans zz254 (Nat.le_of_eq W257.size.symm)
  have kk274 : Keep h0 h257 [y0] := kk255.wr W257 (Or.inl (by simp))
  refine g_aloadN X257 hx hby own_d2_122 rfl rfl (pc' := 123) rfl ?_
  refine g_iloadN X257 hx hby own_d2_123 rfl (pc' := 124) rfl ?_
  refine g_newarray (k := 1) (cap := 1) X257 hx hby hZ (hw _ (List.mem_of_getElem? (i := 16) rfl)) own_d2_124 rfl (by decide) (by decide) (by decide) (by decide) (pc' := 126) rfl (fun T275 h275 b275 g275 X275 E275 A275 => ?_)
  have ne276 : y0 ≠ b275 := by rw [g275]; exact Nat.ne_of_lt q259.lt
  have ne277 : b90 ≠ b275 := by rw [g275]; exact Nat.ne_of_lt q262.lt
  have ne278 : b108 ≠ b275 := by rw [g275]; exact Nat.ne_of_lt q264.lt
  have ne279 : b188 ≠ b275 := by rw [g275]; exact Nat.ne_of_lt q267.lt
  have ne280 : (b188 + 1 + 0) ≠ b275 := by rw [g275]; exact Nat.ne_of_lt q268.lt
  have ne281 : b227 ≠ b275 := by rw [g275]; exact Nat.ne_of_lt q270.lt
  have ne282 : (b227 + 1 + 0) ≠ b275 := by rw [g275]; exact Nat.ne_of_lt q271.lt
  have nn283 : n0 ≤ b275 := by rw [g275]; exact zz273
  have hh284 : h0.size ≤ b275 := by rw [g275]; exact kk274.1
  have q285 := q259.ext E275
  have q286 := q260.ext E275
  have q287 := q261.ext E275
  have q288 := q262.ext E275
  have q289 := q263.ext E275
  have q290 := q264.ext E275
  have q291 := q265.ext E275
  have q292 := q266.ext E275
  have q293 := q267.ext E275
  have q294 := q268.ext E275
  have q295 := q269.ext E275
  have q296 := q270.ext E275
  have q297 := q271.ext E275
  have q298 := q272.ext E275
  have zz299 := Nat.le_trans zz273 E275.1
  have kk300 : Keep h0 h275 [y0] := kk274.ext E275
  obtain ⟨u302, fu302⟩ := own_fld_of q285 q286 (hw _ (List.mem_of_getElem? (i := 1) rfl)) (Or.inr (hw _ (List.mem_of_getElem? (i := 56) rfl)))
  refine g_putF X275 hx hby hZ hown (hw _ (List.mem_of_getElem? (i := 55) rfl)) Via.refl fu302 q285 (Or.inr ⟨(hw _ (List.mem_of_getElem? (i := 56) rfl)), rfl, hnm⟩) (hw _ (List.mem_of_getElem? (i := 1) rfl)) (ty := (.array .long)) (by decide) rfl rfl gn own_d2_126 (pc' := 129) rfl (fun T301 h301 X301 W301 => ?_)
  have q303 := q285.wr W301
  have q304 := q286.other W301 (Or.inr (slot_ne (Or.inl (hw _ (List.mem_of_getElem? (i := 69) rfl))) (Or.inr (hw _ (List.mem_of_getElem? (i := 56) rfl))) (by decide) (t := .boolean) (t' := (.array .long)) (by decide) (by decide)))
  have q305 := q287.other W301 (Or.inr (slot_ne (Or.inl (hw _ (List.mem_of_getElem? (i := 27) rfl))) (Or.inr (hw _ (List.mem_of_getElem? (i := 56) rfl))) (by decide) (t := .int) (t' := (.array .long)) (by decide) (by decide)))
  have q306 := q288.other W301 (Ne.symm ne91)
  have q307 := q289.other W301 (Or.inr (slot_ne (Or.inr (hw _ (List.mem_of_getElem? (i := 32) rfl))) (Or.inr (hw _ (List.mem_of_getElem? (i := 56) rfl))) (by decide) (t := (.array .int)) (t' := (.array .long)) (by decide) (by decide)))
  have q308 := q290.other W301 (Ne.symm ne109)
  have q309 := q291.wr W301
  have q310 := q292.other W301 (Or.inr (slot_ne (Or.inr (hw _ (List.mem_of_getElem? (i := 36) rfl))) (Or.inr (hw _ (List.mem_of_getElem? (i := 56) rfl))) (by decide) (t := (.array (.object "com/example/basisbook/basisbook/Decimals"))) (t' := (.array .long)) (by decide) (by decide)))
  have q311 := q293.other W301 (Ne.symm ne189)
  have q312 := q294.other W301 (Ne.symm ne190)
  have q313 := q295.other W301 (Or.inr (slot_ne (Or.inr (hw _ (List.mem_of_getElem? (i := 49) rfl))) (Or.inr (hw _ (List.mem_of_getElem? (i := 56) rfl))) (by decide) (t := (.array (.array .int))) (t' := (.array .long)) (by decide) (by decide)))
  have q314 := q296.other W301 (Ne.symm ne228)
  have q315 := q297.other W301 (Ne.symm ne229)
  have q316 := q298.other W301 (Or.inr (slot_ne (Or.inr (hw _ (List.mem_of_getElem? (i := 54) rfl))) (Or.inr (hw _ (List.mem_of_getElem? (i := 56) rfl))) (by decide) (t := (.array (.array .byte))) (t' := (.array .long)) (by decide) (by decide)))
  have zz317 := Nat.le_trans zz299 (Nat.le_of_eq W301.size.symm)
  have kk318 : Keep h0 h301 [y0] := kk300.wr W301 (Or.inl (by simp))
  refine g_aloadN X301 hx hby own_d2_129 rfl rfl (pc' := 130) rfl ?_
  refine g_iloadN X301 hx hby own_d2_130 rfl (pc' := 131) rfl ?_
  refine g_newarray (k := 1) (cap := 1) X301 hx hby hZ (hw _ (List.mem_of_getElem? (i := 19) rfl)) own_d2_131 rfl (by decide) (by decide) (by decide) (by decide) (pc' := 133) rfl (fun T319 h319 b319 g319 X319 E319 A319 => ?_)
  have ne320 : y0 ≠ b319 := by rw [g319]; exact Nat.ne_of_lt q303.lt
  have ne321 : b90 ≠ b319 := by rw [g319]; exact Nat.ne_of_lt q306.lt
  have ne322 : b108 ≠ b319 := by rw [g319]; exact Nat.ne_of_lt q308.lt
  have ne323 : b188 ≠ b319 := by rw [g319]; exact Nat.ne_of_lt q311.lt
  have ne324 : (b188 + 1 + 0) ≠ b319 := by rw [g319]; exact Nat.ne_of_lt q312.lt
  have ne325 : b227 ≠ b319 := by rw [g319]; exact Nat.ne_of_lt q314.lt
  have ne326 : (b227 + 1 + 0) ≠ b319 := by rw [g319]; exact Nat.ne_of_lt q315.lt
  have nn327 : n0 ≤ b319 := by rw [g319]; exact zz317
  have hh328 : h0.size ≤ b319 := by rw [g319]; exact kk318.1
  have q329 := q303.ext E319
  have q330 := q304.ext E319
  have q331 := q305.ext E319
  have q332 := q306.ext E319
  have q333 := q307.ext E319
  have q334 := q308.ext E319
  have q335 := q309.ext E319
  have q336 := q310.ext E319
  have q337 := q311.ext E319
  have q338 := q312.ext E319
  have q339 := q313.ext E319
  have q340 := q314.ext E319
  have q341 := q315.ext E319
  have q342 := q316.ext E319
  have zz343 := Nat.le_trans zz317 E319.1
  have kk344 : Keep h0 h319 [y0] := kk318.ext E319
  obtain ⟨u346, fu346⟩ := own_fld_of q329 q330 (hw _ (List.mem_of_getElem? (i := 1) rfl)) (Or.inr (hw _ (List.mem_of_getElem? (i := 58) rfl)))
  refine g_putF X319 hx hby hZ hown (hw _ (List.mem_of_getElem? (i := 57) rfl)) Via.refl fu346 q329 (Or.inr ⟨(hw _ (List.mem_of_getElem? (i := 58) rfl)), rfl, hnm⟩) (hw _ (List.mem_of_getElem? (i := 1) rfl)) (ty := (.array .int)) (by decide) rfl rfl gn own_d2_133 (pc' := 136) rfl (fun T345 h345 X345 W345 => ?_)
  have q347 := q329.wr W345
  have q348 := q330.other W345 (Or.inr (slot_ne (Or.inl (hw _ (List.mem_of_getElem? (i := 69) rfl))) (Or.inr (hw _ (List.mem_of_getElem? (i := 58) rfl))) (by decide) (t := .boolean) (t' := (.array .int)) (by decide) (by decide)))
  have q349 := q331.other W345 (Or.inr (slot_ne (Or.inl (hw _ (List.mem_of_getElem? (i := 27) rfl))) (Or.inr (hw _ (List.mem_of_getElem? (i := 58) rfl))) (by decide) (t := .int) (t' := (.array .int)) (by decide) (by decide)))
  have q350 := q332.other W345 (Ne.symm ne91)
  have q351 := q333.other W345 (Or.inr (slot_ne (Or.inr (hw _ (List.mem_of_getElem? (i := 32) rfl))) (Or.inr (hw _ (List.mem_of_getElem? (i := 58) rfl))) (by decide) (t := (.array .int)) (t' := (.array .int)) (by decide) (by decide)))
  have q352 := q334.other W345 (Ne.symm ne109)
  have q353 := q335.wr W345
  have q354 := q336.other W345 (Or.inr (slot_ne (Or.inr (hw _ (List.mem_of_getElem? (i := 36) rfl))) (Or.inr (hw _ (List.mem_of_getElem? (i := 58) rfl))) (by decide) (t := (.array (.object "com/example/basisbook/basisbook/Decimals"))) (t' := (.array .int)) (by decide) (by decide)))
  have q355 := q337.other W345 (Ne.symm ne189)
  have q356 := q338.other W345 (Ne.symm ne190)
  have q357 := q339.other W345 (Or.inr (slot_ne (Or.inr (hw _ (List.mem_of_getElem? (i := 49) rfl))) (Or.inr (hw _ (List.mem_of_getElem? (i := 58) rfl))) (by decide) (t := (.array (.array .int))) (t' := (.array .int)) (by decide) (by decide)))
  have q358 := q340.other W345 (Ne.symm ne228)
  have q359 := q341.other W345 (Ne.symm ne229)
  have q360 := q342.other W345 (Or.inr (slot_ne (Or.inr (hw _ (List.mem_of_getElem? (i := 54) rfl))) (Or.inr (hw _ (List.mem_of_getElem? (i := 58) rfl))) (by decide) (t := (.array (.array .byte))) (t' := (.array .int)) (by decide) (by decide)))
  have zz361 := Nat.le_trans zz343 (Nat.le_of_eq W345.size.symm)
  have kk362 : Keep h0 h345 [y0] := kk344.wr W345 (Or.inl (by simp))
  refine g_aloadN X345 hx hby own_d2_136 rfl rfl (pc' := 137) rfl ?_
  refine g_iloadN X345 hx hby own_d2_137 rfl (pc' := 138) rfl ?_
  refine g_anewarray (k := 1) (cap := 1) X345 hx hby hZ hown (hw _ (List.mem_of_getElem? (i := 59) rfl)) (hw _ (List.mem_of_getElem? (i := 60) rfl)) own_d2_138 rfl (by decide) (by decide) (by decide) (by decide) (pc' := 141) rfl (fun T363 h363 b363 g363 X363 E363 A363 O363 => ?_)
  have ne364 : y0 ≠ b363 := by rw [g363]; exact Nat.ne_of_lt q347.lt
  have ne365 : b90 ≠ b363 := by rw [g363]; exact Nat.ne_of_lt q350.lt
  have ne366 : b108 ≠ b363 := by rw [g363]; exact Nat.ne_of_lt q352.lt
  have ne367 : b188 ≠ b363 := by rw [g363]; exact Nat.ne_of_lt q355.lt
  have ne368 : (b188 + 1 + 0) ≠ b363 := by rw [g363]; exact Nat.ne_of_lt q356.lt
  have ne369 : b227 ≠ b363 := by rw [g363]; exact Nat.ne_of_lt q358.lt
  have ne370 : (b227 + 1 + 0) ≠ b363 := by rw [g363]; exact Nat.ne_of_lt q359.lt
  have nn371 : n0 ≤ b363 := by rw [g363]; exact zz361
  have hh372 : h0.size ≤ b363 := by rw [g363]; exact kk362.1
  have q373 := q347.ext E363
  have q374 := q348.ext E363
  have q375 := q349.ext E363
  have q376 := q350.ext E363
  have q377 := q351.ext E363
  have q378 := q352.ext E363
  have q379 := q353.ext E363
  have q380 := q354.ext E363
  have q381 := q355.ext E363
  have q382 := q356.ext E363
  have q383 := q357.ext E363
  have q384 := q358.ext E363
  have q385 := q359.ext E363
  have q386 := q360.ext E363
  have zz387 := Nat.le_trans zz361 E363.1
  have kk388 : Keep h0 h363 [y0] := kk362.ext E363
  obtain ⟨u390, fu390⟩ := own_fld_of q373 q374 (hw _ (List.mem_of_getElem? (i := 1) rfl)) (Or.inr (hw _ (List.mem_of_getElem? (i := 62) rfl)))
  refine g_putF X363 hx hby hZ hown (hw _ (List.mem_of_getElem? (i := 61) rfl)) Via.refl fu390 q373 (Or.inr ⟨(hw _ (List.mem_of_getElem? (i := 62) rfl)), rfl, hnm⟩) (hw _ (List.mem_of_getElem? (i := 1) rfl)) (ty := (.array (.object "java/math/BigDecimal"))) (by decide) rfl rfl gn own_d2_141 (pc' := 144) rfl (fun T389 h389 X389 W389 => ?_)
  have q391 := q373.wr W389
  have q392 := q374.other W389 (Or.inr (slot_ne (Or.inl (hw _ (List.mem_of_getElem? (i := 69) rfl))) (Or.inr (hw _ (List.mem_of_getElem? (i := 62) rfl))) (by decide) (t := .boolean) (t' := (.array (.object "java/math/BigDecimal"))) (by decide) (by decide)))
  have q393 := q375.other W389 (Or.inr (slot_ne (Or.inl (hw _ (List.mem_of_getElem? (i := 27) rfl))) (Or.inr (hw _ (List.mem_of_getElem? (i := 62) rfl))) (by decide) (t := .int) (t' := (.array (.object "java/math/BigDecimal"))) (by decide) (by decide)))
  have q394 := q376.other W389 (Ne.symm ne91)
  have q395 := q377.other W389 (Or.inr (slot_ne (Or.inr (hw _ (List.mem_of_getElem? (i := 32) rfl))) (Or.inr (hw _ (List.mem_of_getElem? (i := 62) rfl))) (by decide) (t := (.array .int)) (t' := (.array (.object "java/math/BigDecimal"))) (by decide) (by decide)))
  have q396 := q378.other W389 (Ne.symm ne109)
  have q397 := q379.wr W389
  have q398 := q380.other W389 (Or.inr (slot_ne (Or.inr (hw _ (List.mem_of_getElem? (i := 36) rfl))) (Or.inr (hw _ (List.mem_of_getElem? (i := 62) rfl))) (by decide) (t := (.array (.object "com/example/basisbook/basisbook/Decimals"))) (t' := (.array (.object "java/math/BigDecimal"))) (by decide) (by decide)))
  have q399 := q381.other W389 (Ne.symm ne189)
  have q400 := q382.other W389 (Ne.symm ne190)
  have q401 := q383.other W389 (Or.inr (slot_ne (Or.inr (hw _ (List.mem_of_getElem? (i := 49) rfl))) (Or.inr (hw _ (List.mem_of_getElem? (i := 62) rfl))) (by decide) (t := (.array (.array .int))) (t' := (.array (.object "java/math/BigDecimal"))) (by decide) (by decide)))
  have q402 := q384.other W389 (Ne.symm ne228)
  have q403 := q385.other W389 (Ne.symm ne229)
  have q404 := q386.other W389 (Or.inr (slot_ne (Or.inr (hw _ (List.mem_of_getElem? (i := 54) rfl))) (Or.inr (hw _ (List.mem_of_getElem? (i := 62) rfl))) (by decide) (t := (.array (.array .byte))) (t' := (.array (.object "java/math/BigDecimal"))) (by decide) (by decide)))
  have zz405 := Nat.le_trans zz387 (Nat.le_of_eq W389.size.symm)
  have kk406 : Keep h0 h389 [y0] := kk388.wr W389 (Or.inl (by simp))
  exact g_ret X389 hx hby hret hlk own_d2_144 ⟨rfl, kk406, b188, b227, fun i => b188 + 1 + i, fun i => b227 + 1 + i, _, gn, zz405, q391, q401, q404, q392, q399, q402, (own_fam1 ⟨nn198, q400⟩), (own_fam1 ⟨nn241, fun _ => 0, q403⟩), fun i j _ _ q => Nat.add_left_cancel q⟩ (by decide) (by decide)
set_option maxRecDepth 65536 in
set_option maxHeartbeats 40000000 in
theorem own_ef407 (m : MethodId) (y0 : Addr) (y1 : Int32) (y2 : Int32)  : entryFrame m #[(.ref y0), (.int y1), (.int y2)] 4 = mkF m 0 #[.val (.ref y0), .val (.int y1), .val (.int y2), .unset] [] := by first | (simp [entryFrame, mkF, argsToLocals, Value.category, maxLocals]; done) | rfl
theorem own_d2_59 : decode prog_28_method_1_code 59 = .ok (.iload_n 3, 1) := by decide +kernel
theorem own_d2_60 : decode prog_28_method_1_code 60 = .ok (.goto 4, 3) := by decide +kernel
theorem own_d2_88 : decode prog_28_method_1_code 88 = .ok (.iload_n 1, 1) := by decide +kernel
theorem own_d2_89 : decode prog_28_method_1_code 89 = .ok (.goto 4, 3) := by decide +kernel
set_option maxRecDepth 65536 in
set_option maxHeartbeats 40000000 in
theorem own_su11 (l : Launch) (Z : State) (a0 : Array Value) (hw : ∀ d ∈ tables_1, d.before a0 Z = true) (y0 : Addr) (h0 : Heap) (n0 : Nat) (Z0 : n0 ≤ h0.size) (Ex : Exa Z h0 y0 "com/example/basisbook/basisbook/HourlyPrices$Sums") (F0 : Fld Z h0 y0 "com/example/basisbook/basisbook/HourlyPrices$Sums" "quarterHourly" "Z" (.int 0)) (gn : n0 ≤ y0) :
    Ctr l Z (⟨"com/example/basisbook/basisbook/HourlyPrices$Sums", "<init>", "(IZ)V"⟩ : MethodName) prog_28_method_1_code 4 none [] (own_room 2 25 1100 40) #[(.ref y0), (.int (1 : Int32)), (.int (1 : Int32))] h0 n0 25 1100 (fun v h => v = none ∧ Keep h0 h [y0] ∧ Sm Z n0 h y0 1 (fun _ _ => 0)) := by
  refine Ctr.of (plainFor_of_name own_pn2) ?_
  intro p e s m below meth c T0 hx hby hml hret hlk hnm hown hZ X0
  rw [own_ef407 m (y0) ((1 : Int32)) ((1 : Int32))]
  refine g_aloadN X0 hx hby own_d2_0 rfl rfl (pc' := 1) rfl ?_
  refine g_initO X0 hx hby hZ (W := 0) hown (hw _ (List.mem_of_getElem? (i := 6) rfl)) (hw _ (List.mem_of_getElem? (i := 7) rfl)) (hw _ (List.mem_of_getElem? (i := 8) rfl)) (by rw [hml]; rfl) own_d2_1 (by decide) (by exact Nat.le_of_eq rfl) (by decide) (pc' := 4) rfl (fun T408 X408 => ?_)
  refine g_aloadN X408 hx hby own_d2_4 rfl rfl (pc' := 5) rfl ?_
  refine g_new X408 hx hby hZ hown (hw _ (List.mem_of_getElem? (i := 9) rfl)) (hw _ (List.mem_of_getElem? (i := 10) rfl)) (hw _ (List.mem_of_getElem? (i := 11) rfl)) own_d2_5 (by decide) (by decide) (pc' := 8) rfl (fun T409 h409 b409 g409 X409 E409 A409 D409 => ?_)
  have ne410 : y0 ≠ b409 := by rw [g409]; exact Nat.ne_of_lt Ex.lt
  have nn411 : n0 ≤ b409 := by rw [g409]; exact Z0
  have hh412 : h0.size ≤ b409 := by rw [g409]; exact (Keep.refl h0 [y0]).1
  have q413 := Ex.ext E409
  have q414 := F0.ext E409
  have zz415 := Nat.le_trans Z0 E409.1
  have kk416 : Keep h0 h409 [y0] := (Keep.refl h0 [y0]).ext E409
  have q417 : Fld Z h409 b409 "com/example/basisbook/basisbook/LongIndex" "keys" "[J" .null := D409 (Or.inl (hw _ (List.mem_of_getElem? (i := 18) rfl))) (ty := (.array .long)) (by decide)
  have q418 : Fld Z h409 b409 "com/example/basisbook/basisbook/LongIndex" "table" "[I" .null := D409 (Or.inl (hw _ (List.mem_of_getElem? (i := 21) rfl))) (ty := (.array .int)) (by decide)
  have q419 : Fld Z h409 b409 "com/example/basisbook/basisbook/LongIndex" "shift" "I" (.int (0 : Int32)) := D409 (Or.inl (hw _ (List.mem_of_getElem? (i := 23) rfl))) (ty := .int) (by decide)
  refine g_dup X409 hx hby own_d2_8 rfl (pc' := 9) rfl ?_
  refine g_callC (argsL := []) (S := [(.ref b409), (.ref y0)]) (a := b409) X409 hx hby hZ (y := (⟨"com/example/basisbook/basisbook/LongIndex", "<init>", "()V"⟩ : MethodName)) rfl hown (hw _ (List.mem_of_getElem? (i := 12) rfl)) (hw _ (List.mem_of_getElem? (i := 13) rfl)) (hw _ (List.mem_of_getElem? (i := 11) rfl)) (hw _ (List.mem_of_getElem? (i := 14) rfl)) (by decide) (own_li l Z a0 hw b409 h409 n0 zz415 A409 q417 nn411) (by rw [hml]; rfl) (lenOf own_pd0 rfl) rfl own_d2_9 (by decide) (W := 2) (by exact Nat.le_of_eq rfl) (by decide) (by decide) (by decide) (pc' := 12) rfl (fun T420 v420 X420 hQ420 => ?_)
  obtain ⟨rfl, ka420⟩ := hQ420
  have q421 := q413.keep ka420
  have q422 := q414.keep ka420 (ninS ne410 nin0)
  have q423 := A409.keep ka420
  have zz424 := Nat.le_trans zz415 ka420.1
  have kk425 : Keep h0 T420.heap [y0] := kk416.trans ka420 (allS (Or.inr hh412) all0)
  show Gl p e below n0 _ _ (T420.setTop (mkF m 12 #[.val (.ref y0), .val (.int (1 : Int32)), .val (.int (1 : Int32)), .unset] [(.ref b409), (.ref y0)]))
  obtain ⟨u427, fu427⟩ := own_fld_of q421 q422 (hw _ (List.mem_of_getElem? (i := 1) rfl)) (Or.inr (hw _ (List.mem_of_getElem? (i := 25) rfl)))
  refine g_putF X420 hx hby hZ hown (hw _ (List.mem_of_getElem? (i := 24) rfl)) Via.refl fu427 q421 (Or.inr ⟨(hw _ (List.mem_of_getElem? (i := 25) rfl)), rfl, hnm⟩) (hw _ (List.mem_of_getElem? (i := 1) rfl)) (ty := (.object "com/example/basisbook/basisbook/LongIndex")) (by decide) rfl rfl gn own_d2_12 (pc' := 15) rfl (fun T426 h426 X426 W426 => ?_)
  have q428 := q421.wr W426
  have q429 := q422.other W426 (Or.inr (slot_ne (Or.inl (hw _ (List.mem_of_getElem? (i := 69) rfl))) (Or.inr (hw _ (List.mem_of_getElem? (i := 25) rfl))) (by decide) (t := .boolean) (t' := (.object "com/example/basisbook/basisbook/LongIndex")) (by decide) (by decide)))
  have zz430 := Nat.le_trans zz424 (Nat.le_of_eq W426.size.symm)
  have kk431 : Keep h0 h426 [y0] := kk425.wr W426 (Or.inl (by simp))
  refine g_aloadN X426 hx hby own_d2_15 rfl rfl (pc' := 16) rfl ?_
  refine g_bipush (v := 64) X426 hx hby own_d2_16 rfl (pc' := 18) rfl ?_
  obtain ⟨u433, fu433⟩ := own_fld_of q428 q429 (hw _ (List.mem_of_getElem? (i := 1) rfl)) (Or.inl (hw _ (List.mem_of_getElem? (i := 27) rfl)))
  refine g_putF X426 hx hby hZ hown (hw _ (List.mem_of_getElem? (i := 26) rfl)) Via.refl fu433 q428 (Or.inl (hw _ (List.mem_of_getElem? (i := 27) rfl))) (hw _ (List.mem_of_getElem? (i := 1) rfl)) (ty := .int) (by decide) rfl rfl gn own_d2_18 (pc' := 21) rfl (fun T432 h432 X432 W432 => ?_)
  have q434 := q428.wr W432
  have q435 := q429.other W432 (Or.inr (slot_ne (Or.inl (hw _ (List.mem_of_getElem? (i := 69) rfl))) (Or.inl (hw _ (List.mem_of_getElem? (i := 27) rfl))) (by decide) (t := .boolean) (t' := .int) (by decide) (by decide)))
  have q436 := fu433.same W432
  have zz437 := Nat.le_trans zz430 (Nat.le_of_eq W432.size.symm)
  have kk438 : Keep h0 h432 [y0] := kk431.wr W432 (Or.inl (by simp))
  refine g_aloadN X432 hx hby own_d2_21 rfl rfl (pc' := 22) rfl ?_
  refine g_ldc2_w X432 hx hby hZ hown (hw _ (List.mem_of_getElem? (i := 28) rfl)) own_d2_22 (pc' := 25) rfl ?_
  obtain ⟨u440, fu440⟩ := own_fld_of q434 q435 (hw _ (List.mem_of_getElem? (i := 1) rfl)) (Or.inl (hw _ (List.mem_of_getElem? (i := 30) rfl)))
  refine g_putF X432 hx hby hZ hown (hw _ (List.mem_of_getElem? (i := 29) rfl)) Via.refl fu440 q434 (Or.inl (hw _ (List.mem_of_getElem? (i := 30) rfl))) (hw _ (List.mem_of_getElem? (i := 1) rfl)) (ty := .long) (by decide) rfl rfl gn own_d2_25 (pc' := 28) rfl (fun T439 h439 X439 W439 => ?_)
  have q441 := q434.wr W439
  have q442 := q435.other W439 (Or.inr (slot_ne (Or.inl (hw _ (List.mem_of_getElem? (i := 69) rfl))) (Or.inl (hw _ (List.mem_of_getElem? (i := 30) rfl))) (by decide) (t := .boolean) (t' := .long) (by decide) (by decide)))
  have q443 := q436.other W439 (Or.inr (slot_ne (Or.inl (hw _ (List.mem_of_getElem? (i := 27) rfl))) (Or.inl (hw _ (List.mem_of_getElem? (i := 30) rfl))) (by decide) (t := .int) (t' := .long) (by decide) (by decide)))
  have zz444 := Nat.le_trans zz437 (Nat.le_of_eq W439.size.symm)
  have kk445 : Keep h0 h439 [y0] := kk438.wr W439 (Or.inl (by simp))
  refine g_aloadN X439 hx hby own_d2_28 rfl rfl (pc' := 29) rfl ?_
  refine g_iloadN X439 hx hby own_d2_29 rfl (pc' := 30) rfl ?_
  refine g_newarray (k := 1) (cap := 1) X439 hx hby hZ (hw _ (List.mem_of_getElem? (i := 19) rfl)) own_d2_30 rfl (by decide) (by decide) (by decide) (by decide) (pc' := 32) rfl (fun T446 h446 b446 g446 X446 E446 A446 => ?_)
  have ne447 : y0 ≠ b446 := by rw [g446]; exact Nat.ne_of_lt q441.lt
  have nn448 : n0 ≤ b446 := by rw [g446]; exact zz444
  have hh449 : h0.size ≤ b446 := by rw [g446]; exact kk445.1
  have q450 := q441.ext E446
  have q451 := q442.ext E446
  have q452 := q443.ext E446
  have zz453 := Nat.le_trans zz444 E446.1
  have kk454 : Keep h0 h446 [y0] := kk445.ext E446
  obtain ⟨u456, fu456⟩ := own_fld_of q450 q451 (hw _ (List.mem_of_getElem? (i := 1) rfl)) (Or.inr (hw _ (List.mem_of_getElem? (i := 32) rfl)))
  refine g_putF X446 hx hby hZ hown (hw _ (List.mem_of_getElem? (i := 31) rfl)) Via.refl fu456 q450 (Or.inr ⟨(hw _ (List.mem_of_getElem? (i := 32) rfl)), rfl, hnm⟩) (hw _ (List.mem_of_getElem? (i := 1) rfl)) (ty := (.array .int)) (by decide) rfl rfl gn own_d2_32 (pc' := 35) rfl (fun T455 h455 X455 W455 => ?_)
  have q457 := q450.wr W455
  have q458 := q451.other W455 (Or.inr (slot_ne (Or.inl (hw _ (List.mem_of_getElem? (i := 69) rfl))) (Or.inr (hw _ (List.mem_of_getElem? (i := 32) rfl))) (by decide) (t := .boolean) (t' := (.array .int)) (by decide) (by decide)))
  have q459 := q452.other W455 (Or.inr (slot_ne (Or.inl (hw _ (List.mem_of_getElem? (i := 27) rfl))) (Or.inr (hw _ (List.mem_of_getElem? (i := 32) rfl))) (by decide) (t := .int) (t' := (.array .int)) (by decide) (by decide)))
  have q460 := A446.other W455 (Ne.symm ne447)
  have q461 := fu456.same W455
  have zz462 := Nat.le_trans zz453 (Nat.le_of_eq W455.size.symm)
  have kk463 : Keep h0 h455 [y0] := kk454.wr W455 (Or.inl (by simp))
  refine g_aloadN X455 hx hby own_d2_35 rfl rfl (pc' := 36) rfl ?_
  refine g_iloadN X455 hx hby own_d2_36 rfl (pc' := 37) rfl ?_
  refine g_anewarray (k := 1) (cap := 1) X455 hx hby hZ hown (hw _ (List.mem_of_getElem? (i := 33) rfl)) (hw _ (List.mem_of_getElem? (i := 34) rfl)) own_d2_37 rfl (by decide) (by decide) (by decide) (by decide) (pc' := 40) rfl (fun T464 h464 b464 g464 X464 E464 A464 O464 => ?_)
  have ne465 : y0 ≠ b464 := by rw [g464]; exact Nat.ne_of_lt q457.lt
  have ne466 : b446 ≠ b464 := by rw [g464]; exact Nat.ne_of_lt q460.lt
  have nn467 : n0 ≤ b464 := by rw [g464]; exact zz462
  have hh468 : h0.size ≤ b464 := by rw [g464]; exact kk463.1
  have q469 := q457.ext E464
  have q470 := q458.ext E464
  have q471 := q459.ext E464
  have q472 := q460.ext E464
  have q473 := q461.ext E464
  have zz474 := Nat.le_trans zz462 E464.1
  have kk475 : Keep h0 h464 [y0] := kk463.ext E464
  obtain ⟨u477, fu477⟩ := own_fld_of q469 q470 (hw _ (List.mem_of_getElem? (i := 1) rfl)) (Or.inr (hw _ (List.mem_of_getElem? (i := 36) rfl)))
  refine g_putF X464 hx hby hZ hown (hw _ (List.mem_of_getElem? (i := 35) rfl)) Via.refl fu477 q469 (Or.inr ⟨(hw _ (List.mem_of_getElem? (i := 36) rfl)), rfl, hnm⟩) (hw _ (List.mem_of_getElem? (i := 1) rfl)) (ty := (.array (.object "com/example/basisbook/basisbook/Decimals"))) (by decide) rfl rfl gn own_d2_40 (pc' := 43) rfl (fun T476 h476 X476 W476 => ?_)
  have q478 := q469.wr W476
  have q479 := q470.other W476 (Or.inr (slot_ne (Or.inl (hw _ (List.mem_of_getElem? (i := 69) rfl))) (Or.inr (hw _ (List.mem_of_getElem? (i := 36) rfl))) (by decide) (t := .boolean) (t' := (.array (.object "com/example/basisbook/basisbook/Decimals"))) (by decide) (by decide)))
  have q480 := q471.other W476 (Or.inr (slot_ne (Or.inl (hw _ (List.mem_of_getElem? (i := 27) rfl))) (Or.inr (hw _ (List.mem_of_getElem? (i := 36) rfl))) (by decide) (t := .int) (t' := (.array (.object "com/example/basisbook/basisbook/Decimals"))) (by decide) (by decide)))
  have q481 := q472.other W476 (Ne.symm ne447)
  have q482 := q473.other W476 (Or.inr (slot_ne (Or.inr (hw _ (List.mem_of_getElem? (i := 32) rfl))) (Or.inr (hw _ (List.mem_of_getElem? (i := 36) rfl))) (by decide) (t := (.array .int)) (t' := (.array (.object "com/example/basisbook/basisbook/Decimals"))) (by decide) (by decide)))
  have q483 := A464.other W476 (Ne.symm ne465)
  have q484 := O464.wr W476
  have q485 := fu477.same W476
  have zz486 := Nat.le_trans zz474 (Nat.le_of_eq W476.size.symm)
  have kk487 : Keep h0 h476 [y0] := kk475.wr W476 (Or.inl (by simp))
  refine g_iconst (v := 0) X476 hx hby own_d2_43 rfl (pc' := 44) rfl ?_
  refine g_istoreN (L' := #[.val (.ref y0), .val (.int (1 : Int32)), .val (.int (1 : Int32)), .val (.int (0 : Int32))]) X476 hx hby own_d2_44 rfl (pc' := 45) rfl ?_
  refine g_iloadN X476 hx hby own_d2_45 rfl (pc' := 46) rfl ?_
  refine g_iloadN X476 hx hby own_d2_46 rfl (pc' := 47) rfl ?_
  refine g_icmp_ge X476 hx hby own_d2_47 (by decide) (pc' := 84) (by decide) (pc2 := 50) rfl (fun q => absurd (by decide) q) (fun c47_488 => ?_)
  refine g_aloadN X476 hx hby own_d2_50 rfl rfl (pc' := 51) rfl ?_
  refine g_getF X476 hx hby hZ hown (hw _ (List.mem_of_getElem? (i := 31) rfl)) Via.refl q482 own_d2_51 (pc' := 54) rfl (fun T489 X489 => ?_)
  refine g_iloadN X489 hx hby own_d2_54 rfl (pc' := 55) rfl ?_
  refine g_iloadN X489 hx hby own_d2_55 rfl (pc' := 56) rfl ?_
  refine g_if_eq X489 hx hby own_d2_56 (by decide) (pc' := 63) (by decide) (pc2 := 59) rfl (fun q => absurd q (by decide)) (fun c56_490 => ?_)
  refine g_iloadN X489 hx hby own_d2_59 rfl (pc' := 60) rfl ?_
  refine g_goto X489 hx hby own_d2_60 (by decide) (pc' := 64) (by decide) ?_
  refine g_iastore (i := 0) X489 hx hby hZ q481 rfl (by decide) nn448 own_d2_64 (pc' := 65) rfl (fun T491 h491 sl491 X491 W491 A491 => ?_)
  have q492 := q478.wr W491
  have q493 := q479.other W491 (Or.inl ne447)
  have q494 := q480.other W491 (Or.inl ne447)
  have q495 := q482.other W491 (Or.inl ne447)
  have q496 := q483.other W491 (Ne.symm ne466)
  have q497 := q484.wr W491
  have q498 := q485.other W491 (Or.inl ne447)
  have zz499 := Nat.le_trans zz486 (Nat.le_of_eq W491.size.symm)
  have kk500 : Keep h0 h491 [y0] := kk487.wr W491 (Or.inr hh449)
  refine g_aloadN X491 hx hby own_d2_65 rfl rfl (pc' := 66) rfl ?_
  refine g_getF X491 hx hby hZ hown (hw _ (List.mem_of_getElem? (i := 35) rfl)) Via.refl q498 own_d2_66 (pc' := 69) rfl (fun T501 X501 => ?_)
  refine g_iloadN X501 hx hby own_d2_69 rfl (pc' := 70) rfl ?_
  refine g_new X501 hx hby hZ hown (hw _ (List.mem_of_getElem? (i := 33) rfl)) (hw _ (List.mem_of_getElem? (i := 37) rfl)) (hw _ (List.mem_of_getElem? (i := 38) rfl)) own_d2_70 (by decide) (by decide) (pc' := 73) rfl (fun T502 h502 b502 g502 X502 E502 A502 D502 => ?_)
  have ne503 : y0 ≠ b502 := by rw [g502]; exact Nat.ne_of_lt q492.lt
  have ne504 : b446 ≠ b502 := by rw [g502]; exact Nat.ne_of_lt A491.lt
  have ne505 : b464 ≠ b502 := by rw [g502]; exact Nat.ne_of_lt q496.lt
  have nn506 : n0 ≤ b502 := by rw [g502]; exact zz499
  have hh507 : h0.size ≤ b502 := by rw [g502]; exact kk500.1
  have q508 := q492.ext E502
  have q509 := q493.ext E502
  have q510 := q494.ext E502
  have q511 := A491.ext E502
  have q512 := q495.ext E502
  have q513 := q496.ext E502
  have q514 := q497.ext E502
  have q515 := q498.ext E502
  have zz516 := Nat.le_trans zz499 E502.1
  have kk517 : Keep h0 h502 [y0] := kk500.ext E502
  have q518 : Fld Z h502 b502 "com/example/basisbook/basisbook/Decimals" "units" "[J" .null := D502 (Or.inl (hw _ (List.mem_of_getElem? (i := 44) rfl))) (ty := (.array .long)) (by decide)
  refine g_dup X502 hx hby own_d2_73 rfl (pc' := 74) rfl ?_
  refine g_callC (argsL := []) (S := [(.ref b502), (.int (0 : Int32)), (.ref b464)]) (a := b502) X502 hx hby hZ (y := (⟨"com/example/basisbook/basisbook/Decimals", "<init>", "()V"⟩ : MethodName)) rfl hown (hw _ (List.mem_of_getElem? (i := 39) rfl)) (hw _ (List.mem_of_getElem? (i := 40) rfl)) (hw _ (List.mem_of_getElem? (i := 38) rfl)) (hw _ (List.mem_of_getElem? (i := 41) rfl)) (by decide) (own_de l Z a0 hw b502 h502 n0 zz516 A502 q518 nn506) (by rw [hml]; rfl) (lenOf own_pd0 rfl) rfl own_d2_74 (by decide) (W := 3) (by exact Nat.le_of_eq rfl) (by decide) (by decide) (by decide) (pc' := 77) rfl (fun T519 v519 X519 hQ519 => ?_)
  obtain ⟨rfl, ka519⟩ := hQ519
  have q520 := q508.keep ka519
  have q521 := q509.keep ka519 (ninS ne503 nin0)
  have q522 := q510.keep ka519 (ninS ne503 nin0)
  have q523 := q511.keep ka519 (ninS ne504 nin0)
  have q524 := q512.keep ka519 (ninS ne503 nin0)
  have q525 := q513.keep ka519 (ninS ne505 nin0)
  have q526 := q514.keep ka519
  have q527 := q515.keep ka519 (ninS ne503 nin0)
  have q528 := A502.keep ka519
  have zz529 := Nat.le_trans zz516 ka519.1
  have kk530 : Keep h0 T519.heap [y0] := kk517.trans ka519 (allS (Or.inr hh507) all0)
  show Gl p e below n0 _ _ (T519.setTop (mkF m 77 #[.val (.ref y0), .val (.int (1 : Int32)), .val (.int (1 : Int32)), .val (.int (0 : Int32))] [(.ref b502), (.int (0 : Int32)), (.ref b464)]))
  refine g_aastore (i := 0) X519 hx hby hZ q525 rfl (Ov.sto q526 q525 (Ins.self q528)) rfl (by decide) nn467 own_d2_77 (pc' := 78) rfl (fun T531 h531 sl531 X531 W531 A531 => ?_)
  have q532 := q520.wr W531
  have q533 := q521.other W531 (Or.inl ne465)
  have q534 := q522.other W531 (Or.inl ne465)
  have q535 := q523.other W531 ne466
  have q536 := q524.other W531 (Or.inl ne465)
  have q537 := q526.wr W531
  have q538 := q527.other W531 (Or.inl ne465)
  have zz539 := Nat.le_trans zz529 (Nat.le_of_eq W531.size.symm)
  have kk540 : Keep h0 h531 [y0] := kk530.wr W531 (Or.inr hh468)
  refine g_iinc (y := 1) (L' := #[.val (.ref y0), .val (.int (1 : Int32)), .val (.int (1 : Int32)), .val (.int (1 : Int32))]) X531 hx hby own_d2_78 rfl rfl rfl (pc' := 81) rfl ?_
  refine g_goto X531 hx hby own_d2_81 (by decide) (pc' := 45) (by decide) ?_
  refine g_iloadN X531 hx hby own_d2_45 rfl (pc' := 46) rfl ?_
  refine g_iloadN X531 hx hby own_d2_46 rfl (pc' := 47) rfl ?_
  refine g_icmp_ge X531 hx hby own_d2_47 (by decide) (pc' := 84) (by decide) (pc2 := 50) rfl (fun c47_541 => ?_) (fun q => absurd q (by decide))
  refine g_iloadN X531 hx hby own_d2_84 rfl (pc' := 85) rfl ?_
  refine g_if_eq X531 hx hby own_d2_85 (by decide) (pc' := 92) (by decide) (pc2 := 88) rfl (fun q => absurd q (by decide)) (fun c85_542 => ?_)
  refine g_iloadN X531 hx hby own_d2_88 rfl (pc' := 89) rfl ?_
  refine g_goto X531 hx hby own_d2_89 (by decide) (pc' := 93) (by decide) ?_
  refine g_istoreN (L' := #[.val (.ref y0), .val (.int (1 : Int32)), .val (.int (1 : Int32)), .val (.int (1 : Int32))]) X531 hx hby own_d2_93 rfl (pc' := 94) rfl ?_
  refine g_aloadN X531 hx hby own_d2_94 rfl rfl (pc' := 95) rfl ?_
  refine g_iloadN X531 hx hby own_d2_95 rfl (pc' := 96) rfl ?_
  refine g_aloadN X531 hx hby own_d2_96 rfl rfl (pc' := 97) rfl ?_
  refine g_getF X531 hx hby hZ hown (hw _ (List.mem_of_getElem? (i := 26) rfl)) Via.refl q534 own_d2_97 (pc' := 100) rfl (fun T543 X543 => ?_)
  refine g_iconst (v := 4) X543 hx hby own_d2_100 rfl (pc' := 101) rfl ?_
  refine g_imul X543 hx hby own_d2_101 (pc' := 102) rfl ?_
  show Gl p e below n0 _ _ (T543.setTop (mkF m 102 #[.val (.ref y0), .val (.int (1 : Int32)), .val (.int (1 : Int32)), .val (.int (1 : Int32))] [(.int (256 : Int32)), (.int (1 : Int32)), (.ref y0)]))
  refine own_grid (N := 1) (kk := 256) X543 hx hby hZ hown (C := "[I") (ad := "[[I") (ty := .int) (by decide) (by decide) (hw _ (List.mem_of_getElem? (i := 46) rfl)) (hw _ (List.mem_of_getElem? (i := 47) rfl)) (hw _ (List.mem_of_getElem? (i := 19) rfl)) own_d2_102 rfl rfl (by decide) (by decide) rfl rfl (by decide) (by decide) (pc' := 106) rfl (fun T544 h544 b544 g544 X544 E544 A544 I544 => ?_)
  have ne545 : y0 ≠ b544 := own_nb q532.lt g544
  have ne546 : y0 ≠ (b544 + 1 + 0) := own_nbj 0 q532.lt g544
  have ne547 : b446 ≠ b544 := own_nb q535.lt g544
  have ne548 : b446 ≠ (b544 + 1 + 0) := own_nbj 0 q535.lt g544
  have ne549 : b464 ≠ b544 := own_nb A531.lt g544
  have ne550 : b464 ≠ (b544 + 1 + 0) := own_nbj 0 A531.lt g544
  have ne551 : b544 ≠ (b544 + 1 + 0) := own_bbj _ _
  have nn552 : n0 ≤ b544 := own_le zz539 g544
  have hh553 : h0.size ≤ b544 := own_le kk540.1 g544
  have nn554 : n0 ≤ (b544 + 1 + 0) := own_lej _ zz539 g544
  have hh555 : h0.size ≤ (b544 + 1 + 0) := own_lej _ kk540.1 g544
  have q556 := q532.ext E544
  have q557 := q533.ext E544
  have q558 := q534.ext E544
  have q559 := q535.ext E544
  have q560 := q536.ext E544
  have q561 := A531.ext E544
  have q562 := q537.ext E544
  have q563 := q538.ext E544
  have zz564 := Nat.le_trans zz539 E544.1
  have kk565 : Keep h0 h544 [y0] := kk540.ext E544
  have ai566 := I544 0 (by decide)
  obtain ⟨u568, fu568⟩ := own_fld_of q556 q557 (hw _ (List.mem_of_getElem? (i := 1) rfl)) (Or.inr (hw _ (List.mem_of_getElem? (i := 49) rfl)))
  refine g_putF X544 hx hby hZ hown (hw _ (List.mem_of_getElem? (i := 48) rfl)) Via.refl fu568 q556 (Or.inr ⟨(hw _ (List.mem_of_getElem? (i := 49) rfl)), rfl, hnm⟩) (hw _ (List.mem_of_getElem? (i := 1) rfl)) (ty := (.array (.array .int))) (by decide) rfl rfl gn own_d2_106 (pc' := 109) rfl (fun T567 h567 X567 W567 => ?_)
  have q569 := q556.wr W567
  have q570 := q557.other W567 (Or.inr (slot_ne (Or.inl (hw _ (List.mem_of_getElem? (i := 69) rfl))) (Or.inr (hw _ (List.mem_of_getElem? (i := 49) rfl))) (by decide) (t := .boolean) (t' := (.array (.array .int))) (by decide) (by decide)))
  have q571 := q558.other W567 (Or.inr (slot_ne (Or.inl (hw _ (List.mem_of_getElem? (i := 27) rfl))) (Or.inr (hw _ (List.mem_of_getElem? (i := 49) rfl))) (by decide) (t := .int) (t' := (.array (.array .int))) (by decide) (by decide)))
  have q572 := q559.other W567 (Ne.symm ne447)
  have q573 := q560.other W567 (Or.inr (slot_ne (Or.inr (hw _ (List.mem_of_getElem? (i := 32) rfl))) (Or.inr (hw _ (List.mem_of_getElem? (i := 49) rfl))) (by decide) (t := (.array .int)) (t' := (.array (.array .int))) (by decide) (by decide)))
  have q574 := q561.other W567 (Ne.symm ne465)
  have q575 := q562.wr W567
  have q576 := q563.other W567 (Or.inr (slot_ne (Or.inr (hw _ (List.mem_of_getElem? (i := 36) rfl))) (Or.inr (hw _ (List.mem_of_getElem? (i := 49) rfl))) (by decide) (t := (.array (.object "com/example/basisbook/basisbook/Decimals"))) (t' := (.array (.array .int))) (by decide) (by decide)))
  have q577 := A544.other W567 (Ne.symm ne545)
  have q578 := ai566.other W567 (Ne.symm ne546)
  have q579 := fu568.same W567
  have zz580 := Nat.le_trans zz564 (Nat.le_of_eq W567.size.symm)
  have kk581 : Keep h0 h567 [y0] := kk565.wr W567 (Or.inl (by simp))
  refine g_aloadN X567 hx hby own_d2_109 rfl rfl (pc' := 110) rfl ?_
  refine g_iloadN X567 hx hby own_d2_110 rfl (pc' := 111) rfl ?_
  refine g_aloadN X567 hx hby own_d2_111 rfl rfl (pc' := 112) rfl ?_
  refine g_getF X567 hx hby hZ hown (hw _ (List.mem_of_getElem? (i := 26) rfl)) Via.refl q571 own_d2_112 (pc' := 115) rfl (fun T582 X582 => ?_)
  refine own_grid (N := 1) (kk := 64) X582 hx hby hZ hown (C := "[B") (ad := "[[B") (ty := .byte) (by decide) (by decide) (hw _ (List.mem_of_getElem? (i := 50) rfl)) (hw _ (List.mem_of_getElem? (i := 51) rfl)) (hw _ (List.mem_of_getElem? (i := 52) rfl)) own_d2_115 rfl rfl (by decide) (by decide) rfl rfl (by decide) (by decide) (pc' := 119) rfl (fun T583 h583 b583 g583 X583 E583 A583 I583 => ?_)
  have ne584 : y0 ≠ b583 := own_nb q569.lt g583
  have ne585 : y0 ≠ (b583 + 1 + 0) := own_nbj 0 q569.lt g583
  have ne586 : b446 ≠ b583 := own_nb q572.lt g583
  have ne587 : b446 ≠ (b583 + 1 + 0) := own_nbj 0 q572.lt g583
  have ne588 : b464 ≠ b583 := own_nb q574.lt g583
  have ne589 : b464 ≠ (b583 + 1 + 0) := own_nbj 0 q574.lt g583
  have ne590 : b544 ≠ b583 := own_nb q577.lt g583
  have ne591 : b544 ≠ (b583 + 1 + 0) := own_nbj 0 q577.lt g583
  have ne592 : (b544 + 1 + 0) ≠ b583 := own_nb q578.lt g583
  have ne593 : (b544 + 1 + 0) ≠ (b583 + 1 + 0) := own_nbj 0 q578.lt g583
  have ne594 : b583 ≠ (b583 + 1 + 0) := own_bbj _ _
  have nn595 : n0 ≤ b583 := own_le zz580 g583
  have hh596 : h0.size ≤ b583 := own_le kk581.1 g583
  have nn597 : n0 ≤ (b583 + 1 + 0) := own_lej _ zz580 g583
  have hh598 : h0.size ≤ (b583 + 1 + 0) := own_lej _ kk581.1 g583
  have q599 := q569.ext E583
  have q600 := q570.ext E583
  have q601 := q571.ext E583
  have q602 := q572.ext E583
  have q603 := q573.ext E583
  have q604 := q574.ext E583
  have q605 := q575.ext E583
  have q606 := q576.ext E583
  have q607 := q577.ext E583
  have q608 := q578.ext E583
  have q609 := q579.ext E583
  have zz610 := Nat.le_trans zz580 E583.1
  have kk611 : Keep h0 h583 [y0] := kk581.ext E583
  have ai612 := I583 0 (by decide)
  obtain ⟨u614, fu614⟩ := own_fld_of q599 q600 (hw _ (List.mem_of_getElem? (i := 1) rfl)) (Or.inr (hw _ (List.mem_of_getElem? (i := 54) rfl)))
  refine g_putF X583 hx hby hZ hown (hw _ (List.mem_of_getElem? (i := 53) rfl)) Via.refl fu614 q599 (Or.inr ⟨(hw _ (List.mem_of_getElem? (i := 54) rfl)), rfl, hnm⟩) (hw _ (List.mem_of_getElem? (i := 1) rfl)) (ty := (.array (.array .byte))) (by decide) rfl rfl gn own_d2_119 (pc' := 122) rfl (fun T613 h613 X613 W613 => ?_)
  have q615 := q599.wr W613
  have q616 := q600.other W613 (Or.inr (slot_ne (Or.inl (hw _ (List.mem_of_getElem? (i := 69) rfl))) (Or.inr (hw _ (List.mem_of_getElem? (i := 54) rfl))) (by decide) (t := .boolean) (t' := (.array (.array .byte))) (by decide) (by decide)))
  have q617 := q601.other W613 (Or.inr (slot_ne (Or.inl (hw _ (List.mem_of_getElem? (i := 27) rfl))) (Or.inr (hw _ (List.mem_of_getElem? (i := 54) rfl))) (by decide) (t := .int) (t' := (.array (.array .byte))) (by decide) (by decide)))
  have q618 := q602.other W613 (Ne.symm ne447)
  have q619 := q603.other W613 (Or.inr (slot_ne (Or.inr (hw _ (List.mem_of_getElem? (i := 32) rfl))) (Or.inr (hw _ (List.mem_of_getElem? (i := 54) rfl))) (by decide) (t := (.array .int)) (t' := (.array (.array .byte))) (by decide) (by decide)))
  have q620 := q604.other W613 (Ne.symm ne465)
  have q621 := q605.wr W613
  have q622 := q606.other W613 (Or.inr (slot_ne (Or.inr (hw _ (List.mem_of_getElem? (i := 36) rfl))) (Or.inr (hw _ (List.mem_of_getElem? (i := 54) rfl))) (by decide) (t := (.array (.object "com/example/basisbook/basisbook/Decimals"))) (t' := (.array (.array .byte))) (by decide) (by decide)))
  have q623 := q607.other W613 (Ne.symm ne545)
  have q624 := q608.other W613 (Ne.symm ne546)
  have q625 := q609.other W613 (Or.inr (slot_ne (Or.inr (hw _ (List.mem_of_getElem? (i := 49) rfl))) (Or.inr (hw _ (List.mem_of_getElem? (i := 54) rfl))) (by decide) (t := (.array (.array .int))) (t' := (.array (.array .byte))) (by decide) (by decide)))
  have q626 := A583.other W613 (Ne.symm ne584)
  have q627 := ai612.other W613 (Ne.symm ne585)
  have q628 := fu614.same W613
  have zz629 := Nat.le_trans zz610 (Nat.le_of_eq W613.size.symm)
  have kk630 : Keep h0 h613 [y0] := kk611.wr W613 (Or.inl (by simp))
  refine g_aloadN X613 hx hby own_d2_122 rfl rfl (pc' := 123) rfl ?_
  refine g_iloadN X613 hx hby own_d2_123 rfl (pc' := 124) rfl ?_
  refine g_newarray (k := 1) (cap := 1) X613 hx hby hZ (hw _ (List.mem_of_getElem? (i := 16) rfl)) own_d2_124 rfl (by decide) (by decide) (by decide) (by decide) (pc' := 126) rfl (fun T631 h631 b631 g631 X631 E631 A631 => ?_)
  have ne632 : y0 ≠ b631 := by rw [g631]; exact Nat.ne_of_lt q615.lt
  have ne633 : b446 ≠ b631 := by rw [g631]; exact Nat.ne_of_lt q618.lt
  have ne634 : b464 ≠ b631 := by rw [g631]; exact Nat.ne_of_lt q620.lt
  have ne635 : b544 ≠ b631 := by rw [g631]; exact Nat.ne_of_lt q623.lt
  have ne636 : (b544 + 1 + 0) ≠ b631 := by rw [g631]; exact Nat.ne_of_lt q624.lt
  have ne637 : b583 ≠ b631 := by rw [g631]; exact Nat.ne_of_lt q626.lt
  have ne638 : (b583 + 1 + 0) ≠ b631 := by rw [g631]; exact Nat.ne_of_lt q627.lt
  have nn639 : n0 ≤ b631 := by rw [g631]; exact zz629
  have hh640 : h0.size ≤ b631 := by rw [g631]; exact kk630.1
  have q641 := q615.ext E631
  have q642 := q616.ext E631
  have q643 := q617.ext E631
  have q644 := q618.ext E631
  have q645 := q619.ext E631
  have q646 := q620.ext E631
  have q647 := q621.ext E631
  have q648 := q622.ext E631
  have q649 := q623.ext E631
  have q650 := q624.ext E631
  have q651 := q625.ext E631
  have q652 := q626.ext E631
  have q653 := q627.ext E631
  have q654 := q628.ext E631
  have zz655 := Nat.le_trans zz629 E631.1
  have kk656 : Keep h0 h631 [y0] := kk630.ext E631
  obtain ⟨u658, fu658⟩ := own_fld_of q641 q642 (hw _ (List.mem_of_getElem? (i := 1) rfl)) (Or.inr (hw _ (List.mem_of_getElem? (i := 56) rfl)))
  refine g_putF X631 hx hby hZ hown (hw _ (List.mem_of_getElem? (i := 55) rfl)) Via.refl fu658 q641 (Or.inr ⟨(hw _ (List.mem_of_getElem? (i := 56) rfl)), rfl, hnm⟩) (hw _ (List.mem_of_getElem? (i := 1) rfl)) (ty := (.array .long)) (by decide) rfl rfl gn own_d2_126 (pc' := 129) rfl (fun T657 h657 X657 W657 => ?_)
  have q659 := q641.wr W657
  have q660 := q642.other W657 (Or.inr (slot_ne (Or.inl (hw _ (List.mem_of_getElem? (i := 69) rfl))) (Or.inr (hw _ (List.mem_of_getElem? (i := 56) rfl))) (by decide) (t := .boolean) (t' := (.array .long)) (by decide) (by decide)))
  have q661 := q643.other W657 (Or.inr (slot_ne (Or.inl (hw _ (List.mem_of_getElem? (i := 27) rfl))) (Or.inr (hw _ (List.mem_of_getElem? (i := 56) rfl))) (by decide) (t := .int) (t' := (.array .long)) (by decide) (by decide)))
  have q662 := q644.other W657 (Ne.symm ne447)
  have q663 := q645.other W657 (Or.inr (slot_ne (Or.inr (hw _ (List.mem_of_getElem? (i := 32) rfl))) (Or.inr (hw _ (List.mem_of_getElem? (i := 56) rfl))) (by decide) (t := (.array .int)) (t' := (.array .long)) (by decide) (by decide)))
  have q664 := q646.other W657 (Ne.symm ne465)
  have q665 := q647.wr W657
  have q666 := q648.other W657 (Or.inr (slot_ne (Or.inr (hw _ (List.mem_of_getElem? (i := 36) rfl))) (Or.inr (hw _ (List.mem_of_getElem? (i := 56) rfl))) (by decide) (t := (.array (.object "com/example/basisbook/basisbook/Decimals"))) (t' := (.array .long)) (by decide) (by decide)))
  have q667 := q649.other W657 (Ne.symm ne545)
  have q668 := q650.other W657 (Ne.symm ne546)
  have q669 := q651.other W657 (Or.inr (slot_ne (Or.inr (hw _ (List.mem_of_getElem? (i := 49) rfl))) (Or.inr (hw _ (List.mem_of_getElem? (i := 56) rfl))) (by decide) (t := (.array (.array .int))) (t' := (.array .long)) (by decide) (by decide)))
  have q670 := q652.other W657 (Ne.symm ne584)
  have q671 := q653.other W657 (Ne.symm ne585)
  have q672 := q654.other W657 (Or.inr (slot_ne (Or.inr (hw _ (List.mem_of_getElem? (i := 54) rfl))) (Or.inr (hw _ (List.mem_of_getElem? (i := 56) rfl))) (by decide) (t := (.array (.array .byte))) (t' := (.array .long)) (by decide) (by decide)))
  have zz673 := Nat.le_trans zz655 (Nat.le_of_eq W657.size.symm)
  have kk674 : Keep h0 h657 [y0] := kk656.wr W657 (Or.inl (by simp))
  refine g_aloadN X657 hx hby own_d2_129 rfl rfl (pc' := 130) rfl ?_
  refine g_iloadN X657 hx hby own_d2_130 rfl (pc' := 131) rfl ?_
  refine g_newarray (k := 1) (cap := 1) X657 hx hby hZ (hw _ (List.mem_of_getElem? (i := 19) rfl)) own_d2_131 rfl (by decide) (by decide) (by decide) (by decide) (pc' := 133) rfl (fun T675 h675 b675 g675 X675 E675 A675 => ?_)
  have ne676 : y0 ≠ b675 := by rw [g675]; exact Nat.ne_of_lt q659.lt
  have ne677 : b446 ≠ b675 := by rw [g675]; exact Nat.ne_of_lt q662.lt
  have ne678 : b464 ≠ b675 := by rw [g675]; exact Nat.ne_of_lt q664.lt
  have ne679 : b544 ≠ b675 := by rw [g675]; exact Nat.ne_of_lt q667.lt
  have ne680 : (b544 + 1 + 0) ≠ b675 := by rw [g675]; exact Nat.ne_of_lt q668.lt
  have ne681 : b583 ≠ b675 := by rw [g675]; exact Nat.ne_of_lt q670.lt
  have ne682 : (b583 + 1 + 0) ≠ b675 := by rw [g675]; exact Nat.ne_of_lt q671.lt
  have nn683 : n0 ≤ b675 := by rw [g675]; exact zz673
  have hh684 : h0.size ≤ b675 := by rw [g675]; exact kk674.1
  have q685 := q659.ext E675
  have q686 := q660.ext E675
  have q687 := q661.ext E675
  have q688 := q662.ext E675
  have q689 := q663.ext E675
  have q690 := q664.ext E675
  have q691 := q665.ext E675
  have q692 := q666.ext E675
  have q693 := q667.ext E675
  have q694 := q668.ext E675
  have q695 := q669.ext E675
  have q696 := q670.ext E675
  have q697 := q671.ext E675
  have q698 := q672.ext E675
  have zz699 := Nat.le_trans zz673 E675.1
  have kk700 : Keep h0 h675 [y0] := kk674.ext E675
  obtain ⟨u702, fu702⟩ := own_fld_of q685 q686 (hw _ (List.mem_of_getElem? (i := 1) rfl)) (Or.inr (hw _ (List.mem_of_getElem? (i := 58) rfl)))
  refine g_putF X675 hx hby hZ hown (hw _ (List.mem_of_getElem? (i := 57) rfl)) Via.refl fu702 q685 (Or.inr ⟨(hw _ (List.mem_of_getElem? (i := 58) rfl)), rfl, hnm⟩) (hw _ (List.mem_of_getElem? (i := 1) rfl)) (ty := (.array .int)) (by decide) rfl rfl gn own_d2_133 (pc' := 136) rfl (fun T701 h701 X701 W701 => ?_)
  have q703 := q685.wr W701
  have q704 := q686.other W701 (Or.inr (slot_ne (Or.inl (hw _ (List.mem_of_getElem? (i := 69) rfl))) (Or.inr (hw _ (List.mem_of_getElem? (i := 58) rfl))) (by decide) (t := .boolean) (t' := (.array .int)) (by decide) (by decide)))
  have q705 := q687.other W701 (Or.inr (slot_ne (Or.inl (hw _ (List.mem_of_getElem? (i := 27) rfl))) (Or.inr (hw _ (List.mem_of_getElem? (i := 58) rfl))) (by decide) (t := .int) (t' := (.array .int)) (by decide) (by decide)))
  have q706 := q688.other W701 (Ne.symm ne447)
  have q707 := q689.other W701 (Or.inr (slot_ne (Or.inr (hw _ (List.mem_of_getElem? (i := 32) rfl))) (Or.inr (hw _ (List.mem_of_getElem? (i := 58) rfl))) (by decide) (t := (.array .int)) (t' := (.array .int)) (by decide) (by decide)))
  have q708 := q690.other W701 (Ne.symm ne465)
  have q709 := q691.wr W701
  have q710 := q692.other W701 (Or.inr (slot_ne (Or.inr (hw _ (List.mem_of_getElem? (i := 36) rfl))) (Or.inr (hw _ (List.mem_of_getElem? (i := 58) rfl))) (by decide) (t := (.array (.object "com/example/basisbook/basisbook/Decimals"))) (t' := (.array .int)) (by decide) (by decide)))
  have q711 := q693.other W701 (Ne.symm ne545)
  have q712 := q694.other W701 (Ne.symm ne546)
  have q713 := q695.other W701 (Or.inr (slot_ne (Or.inr (hw _ (List.mem_of_getElem? (i := 49) rfl))) (Or.inr (hw _ (List.mem_of_getElem? (i := 58) rfl))) (by decide) (t := (.array (.array .int))) (t' := (.array .int)) (by decide) (by decide)))
  have q714 := q696.other W701 (Ne.symm ne584)
  have q715 := q697.other W701 (Ne.symm ne585)
  have q716 := q698.other W701 (Or.inr (slot_ne (Or.inr (hw _ (List.mem_of_getElem? (i := 54) rfl))) (Or.inr (hw _ (List.mem_of_getElem? (i := 58) rfl))) (by decide) (t := (.array (.array .byte))) (t' := (.array .int)) (by decide) (by decide)))
  have zz717 := Nat.le_trans zz699 (Nat.le_of_eq W701.size.symm)
  have kk718 : Keep h0 h701 [y0] := kk700.wr W701 (Or.inl (by simp))
  refine g_aloadN X701 hx hby own_d2_136 rfl rfl (pc' := 137) rfl ?_
  refine g_iloadN X701 hx hby own_d2_137 rfl (pc' := 138) rfl ?_
  refine g_anewarray (k := 1) (cap := 1) X701 hx hby hZ hown (hw _ (List.mem_of_getElem? (i := 59) rfl)) (hw _ (List.mem_of_getElem? (i := 60) rfl)) own_d2_138 rfl (by decide) (by decide) (by decide) (by decide) (pc' := 141) rfl (fun T719 h719 b719 g719 X719 E719 A719 O719 => ?_)
  have ne720 : y0 ≠ b719 := by rw [g719]; exact Nat.ne_of_lt q703.lt
  have ne721 : b446 ≠ b719 := by rw [g719]; exact Nat.ne_of_lt q706.lt
  have ne722 : b464 ≠ b719 := by rw [g719]; exact Nat.ne_of_lt q708.lt
  have ne723 : b544 ≠ b719 := by rw [g719]; exact Nat.ne_of_lt q711.lt
  have ne724 : (b544 + 1 + 0) ≠ b719 := by rw [g719]; exact Nat.ne_of_lt q712.lt
  have ne725 : b583 ≠ b719 := by rw [g719]; exact Nat.ne_of_lt q714.lt
  have ne726 : (b583 + 1 + 0) ≠ b719 := by rw [g719]; exact Nat.ne_of_lt q715.lt
  have nn727 : n0 ≤ b719 := by rw [g719]; exact zz717
  have hh728 : h0.size ≤ b719 := by rw [g719]; exact kk718.1
  have q729 := q703.ext E719
  have q730 := q704.ext E719
  have q731 := q705.ext E719
  have q732 := q706.ext E719
  have q733 := q707.ext E719
  have q734 := q708.ext E719
  have q735 := q709.ext E719
  have q736 := q710.ext E719
  have q737 := q711.ext E719
  have q738 := q712.ext E719
  have q739 := q713.ext E719
  have q740 := q714.ext E719
  have q741 := q715.ext E719
  have q742 := q716.ext E719
  have zz743 := Nat.le_trans zz717 E719.1
  have kk744 : Keep h0 h719 [y0] := kk718.ext E719
  obtain ⟨u746, fu746⟩ := own_fld_of q729 q730 (hw _ (List.mem_of_getElem? (i := 1) rfl)) (Or.inr (hw _ (List.mem_of_getElem? (i := 62) rfl)))
  refine g_putF X719 hx hby hZ hown (hw _ (List.mem_of_getElem? (i := 61) rfl)) Via.refl fu746 q729 (Or.inr ⟨(hw _ (List.mem_of_getElem? (i := 62) rfl)), rfl, hnm⟩) (hw _ (List.mem_of_getElem? (i := 1) rfl)) (ty := (.array (.object "java/math/BigDecimal"))) (by decide) rfl rfl gn own_d2_141 (pc' := 144) rfl (fun T745 h745 X745 W745 => ?_)
  have q747 := q729.wr W745
  have q748 := q730.other W745 (Or.inr (slot_ne (Or.inl (hw _ (List.mem_of_getElem? (i := 69) rfl))) (Or.inr (hw _ (List.mem_of_getElem? (i := 62) rfl))) (by decide) (t := .boolean) (t' := (.array (.object "java/math/BigDecimal"))) (by decide) (by decide)))
  have q749 := q731.other W745 (Or.inr (slot_ne (Or.inl (hw _ (List.mem_of_getElem? (i := 27) rfl))) (Or.inr (hw _ (List.mem_of_getElem? (i := 62) rfl))) (by decide) (t := .int) (t' := (.array (.object "java/math/BigDecimal"))) (by decide) (by decide)))
  have q750 := q732.other W745 (Ne.symm ne447)
  have q751 := q733.other W745 (Or.inr (slot_ne (Or.inr (hw _ (List.mem_of_getElem? (i := 32) rfl))) (Or.inr (hw _ (List.mem_of_getElem? (i := 62) rfl))) (by decide) (t := (.array .int)) (t' := (.array (.object "java/math/BigDecimal"))) (by decide) (by decide)))
  have q752 := q734.other W745 (Ne.symm ne465)
  have q753 := q735.wr W745
  have q754 := q736.other W745 (Or.inr (slot_ne (Or.inr (hw _ (List.mem_of_getElem? (i := 36) rfl))) (Or.inr (hw _ (List.mem_of_getElem? (i := 62) rfl))) (by decide) (t := (.array (.object "com/example/basisbook/basisbook/Decimals"))) (t' := (.array (.object "java/math/BigDecimal"))) (by decide) (by decide)))
  have q755 := q737.other W745 (Ne.symm ne545)
  have q756 := q738.other W745 (Ne.symm ne546)
  have q757 := q739.other W745 (Or.inr (slot_ne (Or.inr (hw _ (List.mem_of_getElem? (i := 49) rfl))) (Or.inr (hw _ (List.mem_of_getElem? (i := 62) rfl))) (by decide) (t := (.array (.array .int))) (t' := (.array (.object "java/math/BigDecimal"))) (by decide) (by decide)))
  have q758 := q740.other W745 (Ne.symm ne584)
  have q759 := q741.other W745 (Ne.symm ne585)
  have q760 := q742.other W745 (Or.inr (slot_ne (Or.inr (hw _ (List.mem_of_getElem? (i := 54) rfl))) (Or.inr (hw _ (List.mem_of_getElem? (i := 62) rfl))) (by decide) (t := (.array (.array .byte))) (t' := (.array (.object "java/math/BigDecimal"))) (by decide) (by decide)))
  have zz761 := Nat.le_trans zz743 (Nat.le_of_eq W745.size.symm)
  have kk762 : Keep h0 h745 [y0] := kk744.wr W745 (Or.inl (by simp))
  exact g_ret X745 hx hby hret hlk own_d2_144 ⟨rfl, kk762, b544, b583, fun i => b544 + 1 + i, fun i => b583 + 1 + i, _, gn, zz761, q747, q757, q760, q748, q755, q758, (own_fam1 ⟨nn554, q756⟩), (own_fam1 ⟨nn597, fun _ => 0, q759⟩), fun i j _ _ q => Nat.add_left_cancel q⟩ (by decide) (by decide)
set_option maxRecDepth 65536 in
set_option maxHeartbeats 40000000 in
theorem own_ef763 (m : MethodId) (y0 : Addr) (y1 : Int32) (y2 : Int32)  : entryFrame m #[(.ref y0), (.int y1), (.int y2)] 4 = mkF m 0 #[.val (.ref y0), .val (.int y1), .val (.int y2), .unset] [] := by first | (simp [entryFrame, mkF, argsToLocals, Value.category, maxLocals]; done) | rfl
set_option maxRecDepth 65536 in
set_option maxHeartbeats 40000000 in
theorem own_su20 (l : Launch) (Z : State) (a0 : Array Value) (hw : ∀ d ∈ tables_1, d.before a0 Z = true) (y0 : Addr) (h0 : Heap) (n0 : Nat) (Z0 : n0 ≤ h0.size) (Ex : Exa Z h0 y0 "com/example/basisbook/basisbook/HourlyPrices$Sums") (F0 : Fld Z h0 y0 "com/example/basisbook/basisbook/HourlyPrices$Sums" "quarterHourly" "Z" (.int 0)) (gn : n0 ≤ y0) :
    Ctr l Z (⟨"com/example/basisbook/basisbook/HourlyPrices$Sums", "<init>", "(IZ)V"⟩ : MethodName) prog_28_method_1_code 4 none [] (own_room 2 25 1100 40) #[(.ref y0), (.int (2 : Int32)), (.int (0 : Int32))] h0 n0 25 1100 (fun v h => v = none ∧ Keep h0 h [y0] ∧ Sm Z n0 h y0 1 (fun _ _ => 0)) := by
  refine Ctr.of (plainFor_of_name own_pn2) ?_
  intro p e s m below meth c T0 hx hby hml hret hlk hnm hown hZ X0
  rw [own_ef763 m (y0) ((2 : Int32)) ((0 : Int32))]
  refine g_aloadN X0 hx hby own_d2_0 rfl rfl (pc' := 1) rfl ?_
  refine g_initO X0 hx hby hZ (W := 0) hown (hw _ (List.mem_of_getElem? (i := 6) rfl)) (hw _ (List.mem_of_getElem? (i := 7) rfl)) (hw _ (List.mem_of_getElem? (i := 8) rfl)) (by rw [hml]; rfl) own_d2_1 (by decide) (by exact Nat.le_of_eq rfl) (by decide) (pc' := 4) rfl (fun T764 X764 => ?_)
  refine g_aloadN X764 hx hby own_d2_4 rfl rfl (pc' := 5) rfl ?_
  refine g_new X764 hx hby hZ hown (hw _ (List.mem_of_getElem? (i := 9) rfl)) (hw _ (List.mem_of_getElem? (i := 10) rfl)) (hw _ (List.mem_of_getElem? (i := 11) rfl)) own_d2_5 (by decide) (by decide) (pc' := 8) rfl (fun T765 h765 b765 g765 X765 E765 A765 D765 => ?_)
  have ne766 : y0 ≠ b765 := by rw [g765]; exact Nat.ne_of_lt Ex.lt
  have nn767 : n0 ≤ b765 := by rw [g765]; exact Z0
  have hh768 : h0.size ≤ b765 := by rw [g765]; exact (Keep.refl h0 [y0]).1
  have q769 := Ex.ext E765
  have q770 := F0.ext E765
  have zz771 := Nat.le_trans Z0 E765.1
  have kk772 : Keep h0 h765 [y0] := (Keep.refl h0 [y0]).ext E765
  have q773 : Fld Z h765 b765 "com/example/basisbook/basisbook/LongIndex" "keys" "[J" .null := D765 (Or.inl (hw _ (List.mem_of_getElem? (i := 18) rfl))) (ty := (.array .long)) (by decide)
  have q774 : Fld Z h765 b765 "com/example/basisbook/basisbook/LongIndex" "table" "[I" .null := D765 (Or.inl (hw _ (List.mem_of_getElem? (i := 21) rfl))) (ty := (.array .int)) (by decide)
  have q775 : Fld Z h765 b765 "com/example/basisbook/basisbook/LongIndex" "shift" "I" (.int (0 : Int32)) := D765 (Or.inl (hw _ (List.mem_of_getElem? (i := 23) rfl))) (ty := .int) (by decide)
  refine g_dup X765 hx hby own_d2_8 rfl (pc' := 9) rfl ?_
  refine g_callC (argsL := []) (S := [(.ref b765), (.ref y0)]) (a := b765) X765 hx hby hZ (y := (⟨"com/example/basisbook/basisbook/LongIndex", "<init>", "()V"⟩ : MethodName)) rfl hown (hw _ (List.mem_of_getElem? (i := 12) rfl)) (hw _ (List.mem_of_getElem? (i := 13) rfl)) (hw _ (List.mem_of_getElem? (i := 11) rfl)) (hw _ (List.mem_of_getElem? (i := 14) rfl)) (by decide) (own_li l Z a0 hw b765 h765 n0 zz771 A765 q773 nn767) (by rw [hml]; rfl) (lenOf own_pd0 rfl) rfl own_d2_9 (by decide) (W := 2) (by exact Nat.le_of_eq rfl) (by decide) (by decide) (by decide) (pc' := 12) rfl (fun T776 v776 X776 hQ776 => ?_)
  obtain ⟨rfl, ka776⟩ := hQ776
  have q777 := q769.keep ka776
  have q778 := q770.keep ka776 (ninS ne766 nin0)
  have q779 := A765.keep ka776
  have zz780 := Nat.le_trans zz771 ka776.1
  have kk781 : Keep h0 T776.heap [y0] := kk772.trans ka776 (allS (Or.inr hh768) all0)
  show Gl p e below n0 _ _ (T776.setTop (mkF m 12 #[.val (.ref y0), .val (.int (2 : Int32)), .val (.int (0 : Int32)), .unset] [(.ref b765), (.ref y0)]))
  obtain ⟨u783, fu783⟩ := own_fld_of q777 q778 (hw _ (List.mem_of_getElem? (i := 1) rfl)) (Or.inr (hw _ (List.mem_of_getElem? (i := 25) rfl)))
  refine g_putF X776 hx hby hZ hown (hw _ (List.mem_of_getElem? (i := 24) rfl)) Via.refl fu783 q777 (Or.inr ⟨(hw _ (List.mem_of_getElem? (i := 25) rfl)), rfl, hnm⟩) (hw _ (List.mem_of_getElem? (i := 1) rfl)) (ty := (.object "com/example/basisbook/basisbook/LongIndex")) (by decide) rfl rfl gn own_d2_12 (pc' := 15) rfl (fun T782 h782 X782 W782 => ?_)
  have q784 := q777.wr W782
  have q785 := q778.other W782 (Or.inr (slot_ne (Or.inl (hw _ (List.mem_of_getElem? (i := 69) rfl))) (Or.inr (hw _ (List.mem_of_getElem? (i := 25) rfl))) (by decide) (t := .boolean) (t' := (.object "com/example/basisbook/basisbook/LongIndex")) (by decide) (by decide)))
  have zz786 := Nat.le_trans zz780 (Nat.le_of_eq W782.size.symm)
  have kk787 : Keep h0 h782 [y0] := kk781.wr W782 (Or.inl (by simp))
  refine g_aloadN X782 hx hby own_d2_15 rfl rfl (pc' := 16) rfl ?_
  refine g_bipush (v := 64) X782 hx hby own_d2_16 rfl (pc' := 18) rfl ?_
  obtain ⟨u789, fu789⟩ := own_fld_of q784 q785 (hw _ (List.mem_of_getElem? (i := 1) rfl)) (Or.inl (hw _ (List.mem_of_getElem? (i := 27) rfl)))
  refine g_putF X782 hx hby hZ hown (hw _ (List.mem_of_getElem? (i := 26) rfl)) Via.refl fu789 q784 (Or.inl (hw _ (List.mem_of_getElem? (i := 27) rfl))) (hw _ (List.mem_of_getElem? (i := 1) rfl)) (ty := .int) (by decide) rfl rfl gn own_d2_18 (pc' := 21) rfl (fun T788 h788 X788 W788 => ?_)
  have q790 := q784.wr W788
  have q791 := q785.other W788 (Or.inr (slot_ne (Or.inl (hw _ (List.mem_of_getElem? (i := 69) rfl))) (Or.inl (hw _ (List.mem_of_getElem? (i := 27) rfl))) (by decide) (t := .boolean) (t' := .int) (by decide) (by decide)))
  have q792 := fu789.same W788
  have zz793 := Nat.le_trans zz786 (Nat.le_of_eq W788.size.symm)
  have kk794 : Keep h0 h788 [y0] := kk787.wr W788 (Or.inl (by simp))
  refine g_aloadN X788 hx hby own_d2_21 rfl rfl (pc' := 22) rfl ?_
  refine g_ldc2_w X788 hx hby hZ hown (hw _ (List.mem_of_getElem? (i := 28) rfl)) own_d2_22 (pc' := 25) rfl ?_
  obtain ⟨u796, fu796⟩ := own_fld_of q790 q791 (hw _ (List.mem_of_getElem? (i := 1) rfl)) (Or.inl (hw _ (List.mem_of_getElem? (i := 30) rfl)))
  refine g_putF X788 hx hby hZ hown (hw _ (List.mem_of_getElem? (i := 29) rfl)) Via.refl fu796 q790 (Or.inl (hw _ (List.mem_of_getElem? (i := 30) rfl))) (hw _ (List.mem_of_getElem? (i := 1) rfl)) (ty := .long) (by decide) rfl rfl gn own_d2_25 (pc' := 28) rfl (fun T795 h795 X795 W795 => ?_)
  have q797 := q790.wr W795
  have q798 := q791.other W795 (Or.inr (slot_ne (Or.inl (hw _ (List.mem_of_getElem? (i := 69) rfl))) (Or.inl (hw _ (List.mem_of_getElem? (i := 30) rfl))) (by decide) (t := .boolean) (t' := .long) (by decide) (by decide)))
  have q799 := q792.other W795 (Or.inr (slot_ne (Or.inl (hw _ (List.mem_of_getElem? (i := 27) rfl))) (Or.inl (hw _ (List.mem_of_getElem? (i := 30) rfl))) (by decide) (t := .int) (t' := .long) (by decide) (by decide)))
  have zz800 := Nat.le_trans zz793 (Nat.le_of_eq W795.size.symm)
  have kk801 : Keep h0 h795 [y0] := kk794.wr W795 (Or.inl (by simp))
  refine g_aloadN X795 hx hby own_d2_28 rfl rfl (pc' := 29) rfl ?_
  refine g_iloadN X795 hx hby own_d2_29 rfl (pc' := 30) rfl ?_
  refine g_newarray (k := 2) (cap := 2) X795 hx hby hZ (hw _ (List.mem_of_getElem? (i := 19) rfl)) own_d2_30 rfl (by decide) (by decide) (by decide) (by decide) (pc' := 32) rfl (fun T802 h802 b802 g802 X802 E802 A802 => ?_)
  have ne803 : y0 ≠ b802 := by rw [g802]; exact Nat.ne_of_lt q797.lt
  have nn804 : n0 ≤ b802 := by rw [g802]; exact zz800
  have hh805 : h0.size ≤ b802 := by rw [g802]; exact kk801.1
  have q806 := q797.ext E802
  have q807 := q798.ext E802
  have q808 := q799.ext E802
  have zz809 := Nat.le_trans zz800 E802.1
  have kk810 : Keep h0 h802 [y0] := kk801.ext E802
  obtain ⟨u812, fu812⟩ := own_fld_of q806 q807 (hw _ (List.mem_of_getElem? (i := 1) rfl)) (Or.inr (hw _ (List.mem_of_getElem? (i := 32) rfl)))
  refine g_putF X802 hx hby hZ hown (hw _ (List.mem_of_getElem? (i := 31) rfl)) Via.refl fu812 q806 (Or.inr ⟨(hw _ (List.mem_of_getElem? (i := 32) rfl)), rfl, hnm⟩) (hw _ (List.mem_of_getElem? (i := 1) rfl)) (ty := (.array .int)) (by decide) rfl rfl gn own_d2_32 (pc' := 35) rfl (fun T811 h811 X811 W811 => ?_)
  have q813 := q806.wr W811
  have q814 := q807.other W811 (Or.inr (slot_ne (Or.inl (hw _ (List.mem_of_getElem? (i := 69) rfl))) (Or.inr (hw _ (List.mem_of_getElem? (i := 32) rfl))) (by decide) (t := .boolean) (t' := (.array .int)) (by decide) (by decide)))
  have q815 := q808.other W811 (Or.inr (slot_ne (Or.inl (hw _ (List.mem_of_getElem? (i := 27) rfl))) (Or.inr (hw _ (List.mem_of_getElem? (i := 32) rfl))) (by decide) (t := .int) (t' := (.array .int)) (by decide) (by decide)))
  have q816 := A802.other W811 (Ne.symm ne803)
  have q817 := fu812.same W811
  have zz818 := Nat.le_trans zz809 (Nat.le_of_eq W811.size.symm)
  have kk819 : Keep h0 h811 [y0] := kk810.wr W811 (Or.inl (by simp))
  refine g_aloadN X811 hx hby own_d2_35 rfl rfl (pc' := 36) rfl ?_
  refine g_iloadN X811 hx hby own_d2_36 rfl (pc' := 37) rfl ?_
  refine g_anewarray (k := 2) (cap := 2) X811 hx hby hZ hown (hw _ (List.mem_of_getElem? (i := 33) rfl)) (hw _ (List.mem_of_getElem? (i := 34) rfl)) own_d2_37 rfl (by decide) (by decide) (by decide) (by decide) (pc' := 40) rfl (fun T820 h820 b820 g820 X820 E820 A820 O820 => ?_)
  have ne821 : y0 ≠ b820 := by rw [g820]; exact Nat.ne_of_lt q813.lt
  have ne822 : b802 ≠ b820 := by rw [g820]; exact Nat.ne_of_lt q816.lt
  have nn823 : n0 ≤ b820 := by rw [g820]; exact zz818
  have hh824 : h0.size ≤ b820 := by rw [g820]; exact kk819.1
  have q825 := q813.ext E820
  have q826 := q814.ext E820
  have q827 := q815.ext E820
  have q828 := q816.ext E820
  have q829 := q817.ext E820
  have zz830 := Nat.le_trans zz818 E820.1
  have kk831 : Keep h0 h820 [y0] := kk819.ext E820
  obtain ⟨u833, fu833⟩ := own_fld_of q825 q826 (hw _ (List.mem_of_getElem? (i := 1) rfl)) (Or.inr (hw _ (List.mem_of_getElem? (i := 36) rfl)))
  refine g_putF X820 hx hby hZ hown (hw _ (List.mem_of_getElem? (i := 35) rfl)) Via.refl fu833 q825 (Or.inr ⟨(hw _ (List.mem_of_getElem? (i := 36) rfl)), rfl, hnm⟩) (hw _ (List.mem_of_getElem? (i := 1) rfl)) (ty := (.array (.object "com/example/basisbook/basisbook/Decimals"))) (by decide) rfl rfl gn own_d2_40 (pc' := 43) rfl (fun T832 h832 X832 W832 => ?_)
  have q834 := q825.wr W832
  have q835 := q826.other W832 (Or.inr (slot_ne (Or.inl (hw _ (List.mem_of_getElem? (i := 69) rfl))) (Or.inr (hw _ (List.mem_of_getElem? (i := 36) rfl))) (by decide) (t := .boolean) (t' := (.array (.object "com/example/basisbook/basisbook/Decimals"))) (by decide) (by decide)))
  have q836 := q827.other W832 (Or.inr (slot_ne (Or.inl (hw _ (List.mem_of_getElem? (i := 27) rfl))) (Or.inr (hw _ (List.mem_of_getElem? (i := 36) rfl))) (by decide) (t := .int) (t' := (.array (.object "com/example/basisbook/basisbook/Decimals"))) (by decide) (by decide)))
  have q837 := q828.other W832 (Ne.symm ne803)
  have q838 := q829.other W832 (Or.inr (slot_ne (Or.inr (hw _ (List.mem_of_getElem? (i := 32) rfl))) (Or.inr (hw _ (List.mem_of_getElem? (i := 36) rfl))) (by decide) (t := (.array .int)) (t' := (.array (.object "com/example/basisbook/basisbook/Decimals"))) (by decide) (by decide)))
  have q839 := A820.other W832 (Ne.symm ne821)
  have q840 := O820.wr W832
  have q841 := fu833.same W832
  have zz842 := Nat.le_trans zz830 (Nat.le_of_eq W832.size.symm)
  have kk843 : Keep h0 h832 [y0] := kk831.wr W832 (Or.inl (by simp))
  refine g_iconst (v := 0) X832 hx hby own_d2_43 rfl (pc' := 44) rfl ?_
  refine g_istoreN (L' := #[.val (.ref y0), .val (.int (2 : Int32)), .val (.int (0 : Int32)), .val (.int (0 : Int32))]) X832 hx hby own_d2_44 rfl (pc' := 45) rfl ?_
  refine g_iloadN X832 hx hby own_d2_45 rfl (pc' := 46) rfl ?_
  refine g_iloadN X832 hx hby own_d2_46 rfl (pc' := 47) rfl ?_
  refine g_icmp_ge X832 hx hby own_d2_47 (by decide) (pc' := 84) (by decide) (pc2 := 50) rfl (fun q => absurd (by decide) q) (fun c47_844 => ?_)
  refine g_aloadN X832 hx hby own_d2_50 rfl rfl (pc' := 51) rfl ?_
  refine g_getF X832 hx hby hZ hown (hw _ (List.mem_of_getElem? (i := 31) rfl)) Via.refl q838 own_d2_51 (pc' := 54) rfl (fun T845 X845 => ?_)
  refine g_iloadN X845 hx hby own_d2_54 rfl (pc' := 55) rfl ?_
  refine g_iloadN X845 hx hby own_d2_55 rfl (pc' := 56) rfl ?_
  refine g_if_eq X845 hx hby own_d2_56 (by decide) (pc' := 63) (by decide) (pc2 := 59) rfl (fun c56_846 => ?_) (fun q => absurd (by decide) q)
  refine g_iconst (v := 0) X845 hx hby own_d2_63 rfl (pc' := 64) rfl ?_
  refine g_iastore (i := 0) X845 hx hby hZ q837 rfl (by decide) nn804 own_d2_64 (pc' := 65) rfl (fun T847 h847 sl847 X847 W847 A847 => ?_)
  have q848 := q834.wr W847
  have q849 := q835.other W847 (Or.inl ne803)
  have q850 := q836.other W847 (Or.inl ne803)
  have q851 := q838.other W847 (Or.inl ne803)
  have q852 := q839.other W847 (Ne.symm ne822)
  have q853 := q840.wr W847
  have q854 := q841.other W847 (Or.inl ne803)
  have zz855 := Nat.le_trans zz842 (Nat.le_of_eq W847.size.symm)
  have kk856 : Keep h0 h847 [y0] := kk843.wr W847 (Or.inr hh805)
  refine g_aloadN X847 hx hby own_d2_65 rfl rfl (pc' := 66) rfl ?_
  refine g_getF X847 hx hby hZ hown (hw _ (List.mem_of_getElem? (i := 35) rfl)) Via.refl q854 own_d2_66 (pc' := 69) rfl (fun T857 X857 => ?_)
  refine g_iloadN X857 hx hby own_d2_69 rfl (pc' := 70) rfl ?_
  refine g_new X857 hx hby hZ hown (hw _ (List.mem_of_getElem? (i := 33) rfl)) (hw _ (List.mem_of_getElem? (i := 37) rfl)) (hw _ (List.mem_of_getElem? (i := 38) rfl)) own_d2_70 (by decide) (by decide) (pc' := 73) rfl (fun T858 h858 b858 g858 X858 E858 A858 D858 => ?_)
  have ne859 : y0 ≠ b858 := by rw [g858]; exact Nat.ne_of_lt q848.lt
  have ne860 : b802 ≠ b858 := by rw [g858]; exact Nat.ne_of_lt A847.lt
  have ne861 : b820 ≠ b858 := by rw [g858]; exact Nat.ne_of_lt q852.lt
  have nn862 : n0 ≤ b858 := by rw [g858]; exact zz855
  have hh863 : h0.size ≤ b858 := by rw [g858]; exact kk856.1
  have q864 := q848.ext E858
  have q865 := q849.ext E858
  have q866 := q850.ext E858
  have q867 := A847.ext E858
  have q868 := q851.ext E858
  have q869 := q852.ext E858
  have q870 := q853.ext E858
  have q871 := q854.ext E858
  have zz872 := Nat.le_trans zz855 E858.1
  have kk873 : Keep h0 h858 [y0] := kk856.ext E858
  have q874 : Fld Z h858 b858 "com/example/basisbook/basisbook/Decimals" "units" "[J" .null := D858 (Or.inl (hw _ (List.mem_of_getElem? (i := 44) rfl))) (ty := (.array .long)) (by decide)
  refine g_dup X858 hx hby own_d2_73 rfl (pc' := 74) rfl ?_
  refine g_callC (argsL := []) (S := [(.ref b858), (.int (0 : Int32)), (.ref b820)]) (a := b858) X858 hx hby hZ (y := (⟨"com/example/basisbook/basisbook/Decimals", "<init>", "()V"⟩ : MethodName)) rfl hown (hw _ (List.mem_of_getElem? (i := 39) rfl)) (hw _ (List.mem_of_getElem? (i := 40) rfl)) (hw _ (List.mem_of_getElem? (i := 38) rfl)) (hw _ (List.mem_of_getElem? (i := 41) rfl)) (by decide) (own_de l Z a0 hw b858 h858 n0 zz872 A858 q874 nn862) (by rw [hml]; rfl) (lenOf own_pd0 rfl) rfl own_d2_74 (by decide) (W := 3) (by exact Nat.le_of_eq rfl) (by decide) (by decide) (by decide) (pc' := 77) rfl (fun T875 v875 X875 hQ875 => ?_)
  obtain ⟨rfl, ka875⟩ := hQ875
  have q876 := q864.keep ka875
  have q877 := q865.keep ka875 (ninS ne859 nin0)
  have q878 := q866.keep ka875 (ninS ne859 nin0)
  have q879 := q867.keep ka875 (ninS ne860 nin0)
  have q880 := q868.keep ka875 (ninS ne859 nin0)
  have q881 := q869.keep ka875 (ninS ne861 nin0)
  have q882 := q870.keep ka875
  have q883 := q871.keep ka875 (ninS ne859 nin0)
  have q884 := A858.keep ka875
  have zz885 := Nat.le_trans zz872 ka875.1
  have kk886 : Keep h0 T875.heap [y0] := kk873.trans ka875 (allS (Or.inr hh863) all0)
  show Gl p e below n0 _ _ (T875.setTop (mkF m 77 #[.val (.ref y0), .val (.int (2 : Int32)), .val (.int (0 : Int32)), .val (.int (0 : Int32))] [(.ref b858), (.int (0 : Int32)), (.ref b820)]))
  refine g_aastore (i := 0) X875 hx hby hZ q881 rfl (Ov.sto q882 q881 (Ins.self q884)) rfl (by decide) nn823 own_d2_77 (pc' := 78) rfl (fun T887 h887 sl887 X887 W887 A887 => ?_)
  have q888 := q876.wr W887
  have q889 := q877.other W887 (Or.inl ne821)
  have q890 := q878.other W887 (Or.inl ne821)
  have q891 := q879.other W887 ne822
  have q892 := q880.other W887 (Or.inl ne821)
  have q893 := q882.wr W887
  have q894 := q883.other W887 (Or.inl ne821)
  have zz895 := Nat.le_trans zz885 (Nat.le_of_eq W887.size.symm)
  have kk896 : Keep h0 h887 [y0] := kk886.wr W887 (Or.inr hh824)
  refine g_iinc (y := 1) (L' := #[.val (.ref y0), .val (.int (2 : Int32)), .val (.int (0 : Int32)), .val (.int (1 : Int32))]) X887 hx hby own_d2_78 rfl rfl rfl (pc' := 81) rfl ?_
  refine g_goto X887 hx hby own_d2_81 (by decide) (pc' := 45) (by decide) ?_
  refine g_iloadN X887 hx hby own_d2_45 rfl (pc' := 46) rfl ?_
  refine g_iloadN X887 hx hby own_d2_46 rfl (pc' := 47) rfl ?_
  refine g_icmp_ge X887 hx hby own_d2_47 (by decide) (pc' := 84) (by decide) (pc2 := 50) rfl (fun q => absurd (by decide) q) (fun c47_897 => ?_)
  refine g_aloadN X887 hx hby own_d2_50 rfl rfl (pc' := 51) rfl ?_
  refine g_getF X887 hx hby hZ hown (hw _ (List.mem_of_getElem? (i := 31) rfl)) Via.refl q892 own_d2_51 (pc' := 54) rfl (fun T898 X898 => ?_)
  refine g_iloadN X898 hx hby own_d2_54 rfl (pc' := 55) rfl ?_
  refine g_iloadN X898 hx hby own_d2_55 rfl (pc' := 56) rfl ?_
  refine g_if_eq X898 hx hby own_d2_56 (by decide) (pc' := 63) (by decide) (pc2 := 59) rfl (fun c56_899 => ?_) (fun q => absurd (by decide) q)
  refine g_iconst (v := 0) X898 hx hby own_d2_63 rfl (pc' := 64) rfl ?_
  refine g_iastore (i := 1) X898 hx hby hZ q891 rfl (by decide) nn804 own_d2_64 (pc' := 65) rfl (fun T900 h900 sl900 X900 W900 A900 => ?_)
  have q901 := q888.wr W900
  have q902 := q889.other W900 (Or.inl ne803)
  have q903 := q890.other W900 (Or.inl ne803)
  have q904 := q892.other W900 (Or.inl ne803)
  have q905 := A887.other W900 (Ne.symm ne822)
  have q906 := q893.wr W900
  have q907 := q894.other W900 (Or.inl ne803)
  have zz908 := Nat.le_trans zz895 (Nat.le_of_eq W900.size.symm)
  have kk909 : Keep h0 h900 [y0] := kk896.wr W900 (Or.inr hh805)
  refine g_aloadN X900 hx hby own_d2_65 rfl rfl (pc' := 66) rfl ?_
  refine g_getF X900 hx hby hZ hown (hw _ (List.mem_of_getElem? (i := 35) rfl)) Via.refl q907 own_d2_66 (pc' := 69) rfl (fun T910 X910 => ?_)
  refine g_iloadN X910 hx hby own_d2_69 rfl (pc' := 70) rfl ?_
  refine g_new X910 hx hby hZ hown (hw _ (List.mem_of_getElem? (i := 33) rfl)) (hw _ (List.mem_of_getElem? (i := 37) rfl)) (hw _ (List.mem_of_getElem? (i := 38) rfl)) own_d2_70 (by decide) (by decide) (pc' := 73) rfl (fun T911 h911 b911 g911 X911 E911 A911 D911 => ?_)
  have ne912 : y0 ≠ b911 := by rw [g911]; exact Nat.ne_of_lt q901.lt
  have ne913 : b802 ≠ b911 := by rw [g911]; exact Nat.ne_of_lt A900.lt
  have ne914 : b820 ≠ b911 := by rw [g911]; exact Nat.ne_of_lt q905.lt
  have nn915 : n0 ≤ b911 := by rw [g911]; exact zz908
  have hh916 : h0.size ≤ b911 := by rw [g911]; exact kk909.1
  have q917 := q901.ext E911
  have q918 := q902.ext E911
  have q919 := q903.ext E911
  have q920 := A900.ext E911
  have q921 := q904.ext E911
  have q922 := q905.ext E911
  have q923 := q906.ext E911
  have q924 := q907.ext E911
  have zz925 := Nat.le_trans zz908 E911.1
  have kk926 : Keep h0 h911 [y0] := kk909.ext E911
  have q927 : Fld Z h911 b911 "com/example/basisbook/basisbook/Decimals" "units" "[J" .null := D911 (Or.inl (hw _ (List.mem_of_getElem? (i := 44) rfl))) (ty := (.array .long)) (by decide)
  refine g_dup X911 hx hby own_d2_73 rfl (pc' := 74) rfl ?_
  refine g_callC (argsL := []) (S := [(.ref b911), (.int (1 : Int32)), (.ref b820)]) (a := b911) X911 hx hby hZ (y := (⟨"com/example/basisbook/basisbook/Decimals", "<init>", "()V"⟩ : MethodName)) rfl hown (hw _ (List.mem_of_getElem? (i := 39) rfl)) (hw _ (List.mem_of_getElem? (i := 40) rfl)) (hw _ (List.mem_of_getElem? (i := 38) rfl)) (hw _ (List.mem_of_getElem? (i := 41) rfl)) (by decide) (own_de l Z a0 hw b911 h911 n0 zz925 A911 q927 nn915) (by rw [hml]; rfl) (lenOf own_pd0 rfl) rfl own_d2_74 (by decide) (W := 3) (by exact Nat.le_of_eq rfl) (by decide) (by decide) (by decide) (pc' := 77) rfl (fun T928 v928 X928 hQ928 => ?_)
  obtain ⟨rfl, ka928⟩ := hQ928
  have q929 := q917.keep ka928
  have q930 := q918.keep ka928 (ninS ne912 nin0)
  have q931 := q919.keep ka928 (ninS ne912 nin0)
  have q932 := q920.keep ka928 (ninS ne913 nin0)
  have q933 := q921.keep ka928 (ninS ne912 nin0)
  have q934 := q922.keep ka928 (ninS ne914 nin0)
  have q935 := q923.keep ka928
  have q936 := q924.keep ka928 (ninS ne912 nin0)
  have q937 := A911.keep ka928
  have zz938 := Nat.le_trans zz925 ka928.1
  have kk939 : Keep h0 T928.heap [y0] := kk926.trans ka928 (allS (Or.inr hh916) all0)
  show Gl p e below n0 _ _ (T928.setTop (mkF m 77 #[.val (.ref y0), .val (.int (2 : Int32)), .val (.int (0 : Int32)), .val (.int (1 : Int32))] [(.ref b911), (.int (1 : Int32)), (.ref b820)]))
  refine g_aastore (i := 1) X928 hx hby hZ q934 rfl (Ov.sto q935 q934 (Ins.self q937)) rfl (by decide) nn823 own_d2_77 (pc' := 78) rfl (fun T940 h940 sl940 X940 W940 A940 => ?_)
  have q941 := q929.wr W940
  have q942 := q930.other W940 (Or.inl ne821)
  have q943 := q931.other W940 (Or.inl ne821)
  have q944 := q932.other W940 ne822
  have q945 := q933.other W940 (Or.inl ne821)
  have q946 := q935.wr W940
  have q947 := q936.other W940 (Or.inl ne821)
  have zz948 := Nat.le_trans zz938 (Nat.le_of_eq W940.size.symm)
  have kk949 : Keep h0 h940 [y0] := kk939.wr W940 (Or.inr hh824)
  refine g_iinc (y := 1) (L' := #[.val (.ref y0), .val (.int (2 : Int32)), .val (.int (0 : Int32)), .val (.int (2 : Int32))]) X940 hx hby own_d2_78 rfl rfl rfl (pc' := 81) rfl ?_
  refine g_goto X940 hx hby own_d2_81 (by decide) (pc' := 45) (by decide) ?_
  refine g_iloadN X940 hx hby own_d2_45 rfl (pc' := 46) rfl ?_
  refine g_iloadN X940 hx hby own_d2_46 rfl (pc' := 47) rfl ?_
  refine g_icmp_ge X940 hx hby own_d2_47 (by decide) (pc' := 84) (by decide) (pc2 := 50) rfl (fun c47_950 => ?_) (fun q => absurd q (by decide))
  refine g_iloadN X940 hx hby own_d2_84 rfl (pc' := 85) rfl ?_
  refine g_if_eq X940 hx hby own_d2_85 (by decide) (pc' := 92) (by decide) (pc2 := 88) rfl (fun c85_951 => ?_) (fun q => absurd (by decide) q)
  refine g_iconst (v := 1) X940 hx hby own_d2_92 rfl (pc' := 93) rfl ?_
  refine g_istoreN (L' := #[.val (.ref y0), .val (.int (2 : Int32)), .val (.int (0 : Int32)), .val (.int (1 : Int32))]) X940 hx hby own_d2_93 rfl (pc' := 94) rfl ?_
  refine g_aloadN X940 hx hby own_d2_94 rfl rfl (pc' := 95) rfl ?_
  refine g_iloadN X940 hx hby own_d2_95 rfl (pc' := 96) rfl ?_
  refine g_aloadN X940 hx hby own_d2_96 rfl rfl (pc' := 97) rfl ?_
  refine g_getF X940 hx hby hZ hown (hw _ (List.mem_of_getElem? (i := 26) rfl)) Via.refl q943 own_d2_97 (pc' := 100) rfl (fun T952 X952 => ?_)
  refine g_iconst (v := 4) X952 hx hby own_d2_100 rfl (pc' := 101) rfl ?_
  refine g_imul X952 hx hby own_d2_101 (pc' := 102) rfl ?_
  show Gl p e below n0 _ _ (T952.setTop (mkF m 102 #[.val (.ref y0), .val (.int (2 : Int32)), .val (.int (0 : Int32)), .val (.int (1 : Int32))] [(.int (256 : Int32)), (.int (1 : Int32)), (.ref y0)]))
  refine own_grid (N := 1) (kk := 256) X952 hx hby hZ hown (C := "[I") (ad := "[[I") (ty := .int) (by decide) (by decide) (hw _ (List.mem_of_getElem? (i := 46) rfl)) (hw _ (List.mem_of_getElem? (i := 47) rfl)) (hw _ (List.mem_of_getElem? (i := 19) rfl)) own_d2_102 rfl rfl (by decide) (by decide) rfl rfl (by decide) (by decide) (pc' := 106) rfl (fun T953 h953 b953 g953 X953 E953 A953 I953 => ?_)
  have ne954 : y0 ≠ b953 := own_nb q941.lt g953
  have ne955 : y0 ≠ (b953 + 1 + 0) := own_nbj 0 q941.lt g953
  have ne956 : b802 ≠ b953 := own_nb q944.lt g953
  have ne957 : b802 ≠ (b953 + 1 + 0) := own_nbj 0 q944.lt g953
  have ne958 : b820 ≠ b953 := own_nb A940.lt g953
  have ne959 : b820 ≠ (b953 + 1 + 0) := own_nbj 0 A940.lt g953
  have ne960 : b953 ≠ (b953 + 1 + 0) := own_bbj _ _
  have nn961 : n0 ≤ b953 := own_le zz948 g953
  have hh962 : h0.size ≤ b953 := own_le kk949.1 g953
  have nn963 : n0 ≤ (b953 + 1 + 0) := own_lej _ zz948 g953
  have hh964 : h0.size ≤ (b953 + 1 + 0) := own_lej _ kk949.1 g953
  have q965 := q941.ext E953
  have q966 := q942.ext E953
  have q967 := q943.ext E953
  have q968 := q944.ext E953
  have q969 := q945.ext E953
  have q970 := A940.ext E953
  have q971 := q946.ext E953
  have q972 := q947.ext E953
  have zz973 := Nat.le_trans zz948 E953.1
  have kk974 : Keep h0 h953 [y0] := kk949.ext E953
  have ai975 := I953 0 (by decide)
  obtain ⟨u977, fu977⟩ := own_fld_of q965 q966 (hw _ (List.mem_of_getElem? (i := 1) rfl)) (Or.inr (hw _ (List.mem_of_getElem? (i := 49) rfl)))
  refine g_putF X953 hx hby hZ hown (hw _ (List.mem_of_getElem? (i := 48) rfl)) Via.refl fu977 q965 (Or.inr ⟨(hw _ (List.mem_of_getElem? (i := 49) rfl)), rfl, hnm⟩) (hw _ (List.mem_of_getElem? (i := 1) rfl)) (ty := (.array (.array .int))) (by decide) rfl rfl gn own_d2_106 (pc' := 109) rfl (fun T976 h976 X976 W976 => ?_)
  have q978 := q965.wr W976
  have q979 := q966.other W976 (Or.inr (slot_ne (Or.inl (hw _ (List.mem_of_getElem? (i := 69) rfl))) (Or.inr (hw _ (List.mem_of_getElem? (i := 49) rfl))) (by decide) (t := .boolean) (t' := (.array (.array .int))) (by decide) (by decide)))
  have q980 := q967.other W976 (Or.inr (slot_ne (Or.inl (hw _ (List.mem_of_getElem? (i := 27) rfl))) (Or.inr (hw _ (List.mem_of_getElem? (i := 49) rfl))) (by decide) (t := .int) (t' := (.array (.array .int))) (by decide) (by decide)))
  have q981 := q968.other W976 (Ne.symm ne803)
  have q982 := q969.other W976 (Or.inr (slot_ne (Or.inr (hw _ (List.mem_of_getElem? (i := 32) rfl))) (Or.inr (hw _ (List.mem_of_getElem? (i := 49) rfl))) (by decide) (t := (.array .int)) (t' := (.array (.array .int))) (by decide) (by decide)))
  have q983 := q970.other W976 (Ne.symm ne821)
  have q984 := q971.wr W976
  have q985 := q972.other W976 (Or.inr (slot_ne (Or.inr (hw _ (List.mem_of_getElem? (i := 36) rfl))) (Or.inr (hw _ (List.mem_of_getElem? (i := 49) rfl))) (by decide) (t := (.array (.object "com/example/basisbook/basisbook/Decimals"))) (t' := (.array (.array .int))) (by decide) (by decide)))
  have q986 := A953.other W976 (Ne.symm ne954)
  have q987 := ai975.other W976 (Ne.symm ne955)
  have q988 := fu977.same W976
  have zz989 := Nat.le_trans zz973 (Nat.le_of_eq W976.size.symm)
  have kk990 : Keep h0 h976 [y0] := kk974.wr W976 (Or.inl (by simp))
  refine g_aloadN X976 hx hby own_d2_109 rfl rfl (pc' := 110) rfl ?_
  refine g_iloadN X976 hx hby own_d2_110 rfl (pc' := 111) rfl ?_
  refine g_aloadN X976 hx hby own_d2_111 rfl rfl (pc' := 112) rfl ?_
  refine g_getF X976 hx hby hZ hown (hw _ (List.mem_of_getElem? (i := 26) rfl)) Via.refl q980 own_d2_112 (pc' := 115) rfl (fun T991 X991 => ?_)
  refine own_grid (N := 1) (kk := 64) X991 hx hby hZ hown (C := "[B") (ad := "[[B") (ty := .byte) (by decide) (by decide) (hw _ (List.mem_of_getElem? (i := 50) rfl)) (hw _ (List.mem_of_getElem? (i := 51) rfl)) (hw _ (List.mem_of_getElem? (i := 52) rfl)) own_d2_115 rfl rfl (by decide) (by decide) rfl rfl (by decide) (by decide) (pc' := 119) rfl (fun T992 h992 b992 g992 X992 E992 A992 I992 => ?_)
  have ne993 : y0 ≠ b992 := own_nb q978.lt g992
  have ne994 : y0 ≠ (b992 + 1 + 0) := own_nbj 0 q978.lt g992
  have ne995 : b802 ≠ b992 := own_nb q981.lt g992
  have ne996 : b802 ≠ (b992 + 1 + 0) := own_nbj 0 q981.lt g992
  have ne997 : b820 ≠ b992 := own_nb q983.lt g992
  have ne998 : b820 ≠ (b992 + 1 + 0) := own_nbj 0 q983.lt g992
  have ne999 : b953 ≠ b992 := own_nb q986.lt g992
  have ne1000 : b953 ≠ (b992 + 1 + 0) := own_nbj 0 q986.lt g992
  have ne1001 : (b953 + 1 + 0) ≠ b992 := own_nb q987.lt g992
  have ne1002 : (b953 + 1 + 0) ≠ (b992 + 1 + 0) := own_nbj 0 q987.lt g992
  have ne1003 : b992 ≠ (b992 + 1 + 0) := own_bbj _ _
  have nn1004 : n0 ≤ b992 := own_le zz989 g992
  have hh1005 : h0.size ≤ b992 := own_le kk990.1 g992
  have nn1006 : n0 ≤ (b992 + 1 + 0) := own_lej _ zz989 g992
  have hh1007 : h0.size ≤ (b992 + 1 + 0) := own_lej _ kk990.1 g992
  have q1008 := q978.ext E992
  have q1009 := q979.ext E992
  have q1010 := q980.ext E992
  have q1011 := q981.ext E992
  have q1012 := q982.ext E992
  have q1013 := q983.ext E992
  have q1014 := q984.ext E992
  have q1015 := q985.ext E992
  have q1016 := q986.ext E992
  have q1017 := q987.ext E992
  have q1018 := q988.ext E992
  have zz1019 := Nat.le_trans zz989 E992.1
  have kk1020 : Keep h0 h992 [y0] := kk990.ext E992
  have ai1021 := I992 0 (by decide)
  obtain ⟨u1023, fu1023⟩ := own_fld_of q1008 q1009 (hw _ (List.mem_of_getElem? (i := 1) rfl)) (Or.inr (hw _ (List.mem_of_getElem? (i := 54) rfl)))
  refine g_putF X992 hx hby hZ hown (hw _ (List.mem_of_getElem? (i := 53) rfl)) Via.refl fu1023 q1008 (Or.inr ⟨(hw _ (List.mem_of_getElem? (i := 54) rfl)), rfl, hnm⟩) (hw _ (List.mem_of_getElem? (i := 1) rfl)) (ty := (.array (.array .byte))) (by decide) rfl rfl gn own_d2_119 (pc' := 122) rfl (fun T1022 h1022 X1022 W1022 => ?_)
  have q1024 := q1008.wr W1022
  have q1025 := q1009.other W1022 (Or.inr (slot_ne (Or.inl (hw _ (List.mem_of_getElem? (i := 69) rfl))) (Or.inr (hw _ (List.mem_of_getElem? (i := 54) rfl))) (by decide) (t := .boolean) (t' := (.array (.array .byte))) (by decide) (by decide)))
  have q1026 := q1010.other W1022 (Or.inr (slot_ne (Or.inl (hw _ (List.mem_of_getElem? (i := 27) rfl))) (Or.inr (hw _ (List.mem_of_getElem? (i := 54) rfl))) (by decide) (t := .int) (t' := (.array (.array .byte))) (by decide) (by decide)))
  have q1027 := q1011.other W1022 (Ne.symm ne803)
  have q1028 := q1012.other W1022 (Or.inr (slot_ne (Or.inr (hw _ (List.mem_of_getElem? (i := 32) rfl))) (Or.inr (hw _ (List.mem_of_getElem? (i := 54) rfl))) (by decide) (t := (.array .int)) (t' := (.array (.array .byte))) (by decide) (by decide)))
  have q1029 := q1013.other W1022 (Ne.symm ne821)
  have q1030 := q1014.wr W1022
  have q1031 := q1015.other W1022 (Or.inr (slot_ne (Or.inr (hw _ (List.mem_of_getElem? (i := 36) rfl))) (Or.inr (hw _ (List.mem_of_getElem? (i := 54) rfl))) (by decide) (t := (.array (.object "com/example/basisbook/basisbook/Decimals"))) (t' := (.array (.array .byte))) (by decide) (by decide)))
  have q1032 := q1016.other W1022 (Ne.symm ne954)
  have q1033 := q1017.other W1022 (Ne.symm ne955)
  have q1034 := q1018.other W1022 (Or.inr (slot_ne (Or.inr (hw _ (List.mem_of_getElem? (i := 49) rfl))) (Or.inr (hw _ (List.mem_of_getElem? (i := 54) rfl))) (by decide) (t := (.array (.array .int))) (t' := (.array (.array .byte))) (by decide) (by decide)))
  have q1035 := A992.other W1022 (Ne.symm ne993)
  have q1036 := ai1021.other W1022 (Ne.symm ne994)
  have q1037 := fu1023.same W1022
  have zz1038 := Nat.le_trans zz1019 (Nat.le_of_eq W1022.size.symm)
  have kk1039 : Keep h0 h1022 [y0] := kk1020.wr W1022 (Or.inl (by simp))
  refine g_aloadN X1022 hx hby own_d2_122 rfl rfl (pc' := 123) rfl ?_
  refine g_iloadN X1022 hx hby own_d2_123 rfl (pc' := 124) rfl ?_
  refine g_newarray (k := 2) (cap := 2) X1022 hx hby hZ (hw _ (List.mem_of_getElem? (i := 16) rfl)) own_d2_124 rfl (by decide) (by decide) (by decide) (by decide) (pc' := 126) rfl (fun T1040 h1040 b1040 g1040 X1040 E1040 A1040 => ?_)
  have ne1041 : y0 ≠ b1040 := by rw [g1040]; exact Nat.ne_of_lt q1024.lt
  have ne1042 : b802 ≠ b1040 := by rw [g1040]; exact Nat.ne_of_lt q1027.lt
  have ne1043 : b820 ≠ b1040 := by rw [g1040]; exact Nat.ne_of_lt q1029.lt
  have ne1044 : b953 ≠ b1040 := by rw [g1040]; exact Nat.ne_of_lt q1032.lt
  have ne1045 : (b953 + 1 + 0) ≠ b1040 := by rw [g1040]; exact Nat.ne_of_lt q1033.lt
  have ne1046 : b992 ≠ b1040 := by rw [g1040]; exact Nat.ne_of_lt q1035.lt
  have ne1047 : (b992 + 1 + 0) ≠ b1040 := by rw [g1040]; exact Nat.ne_of_lt q1036.lt
  have nn1048 : n0 ≤ b1040 := by rw [g1040]; exact zz1038
  have hh1049 : h0.size ≤ b1040 := by rw [g1040]; exact kk1039.1
  have q1050 := q1024.ext E1040
  have q1051 := q1025.ext E1040
  have q1052 := q1026.ext E1040
  have q1053 := q1027.ext E1040
  have q1054 := q1028.ext E1040
  have q1055 := q1029.ext E1040
  have q1056 := q1030.ext E1040
  have q1057 := q1031.ext E1040
  have q1058 := q1032.ext E1040
  have q1059 := q1033.ext E1040
  have q1060 := q1034.ext E1040
  have q1061 := q1035.ext E1040
  have q1062 := q1036.ext E1040
  have q1063 := q1037.ext E1040
  have zz1064 := Nat.le_trans zz1038 E1040.1
  have kk1065 : Keep h0 h1040 [y0] := kk1039.ext E1040
  obtain ⟨u1067, fu1067⟩ := own_fld_of q1050 q1051 (hw _ (List.mem_of_getElem? (i := 1) rfl)) (Or.inr (hw _ (List.mem_of_getElem? (i := 56) rfl)))
  refine g_putF X1040 hx hby hZ hown (hw _ (List.mem_of_getElem? (i := 55) rfl)) Via.refl fu1067 q1050 (Or.inr ⟨(hw _ (List.mem_of_getElem? (i := 56) rfl)), rfl, hnm⟩) (hw _ (List.mem_of_getElem? (i := 1) rfl)) (ty := (.array .long)) (by decide) rfl rfl gn own_d2_126 (pc' := 129) rfl (fun T1066 h1066 X1066 W1066 => ?_)
  have q1068 := q1050.wr W1066
  have q1069 := q1051.other W1066 (Or.inr (slot_ne (Or.inl (hw _ (List.mem_of_getElem? (i := 69) rfl))) (Or.inr (hw _ (List.mem_of_getElem? (i := 56) rfl))) (by decide) (t := .boolean) (t' := (.array .long)) (by decide) (by decide)))
  have q1070 := q1052.other W1066 (Or.inr (slot_ne (Or.inl (hw _ (List.mem_of_getElem? (i := 27) rfl))) (Or.inr (hw _ (List.mem_of_getElem? (i := 56) rfl))) (by decide) (t := .int) (t' := (.array .long)) (by decide) (by decide)))
  have q1071 := q1053.other W1066 (Ne.symm ne803)
  have q1072 := q1054.other W1066 (Or.inr (slot_ne (Or.inr (hw _ (List.mem_of_getElem? (i := 32) rfl))) (Or.inr (hw _ (List.mem_of_getElem? (i := 56) rfl))) (by decide) (t := (.array .int)) (t' := (.array .long)) (by decide) (by decide)))
  have q1073 := q1055.other W1066 (Ne.symm ne821)
  have q1074 := q1056.wr W1066
  have q1075 := q1057.other W1066 (Or.inr (slot_ne (Or.inr (hw _ (List.mem_of_getElem? (i := 36) rfl))) (Or.inr (hw _ (List.mem_of_getElem? (i := 56) rfl))) (by decide) (t := (.array (.object "com/example/basisbook/basisbook/Decimals"))) (t' := (.array .long)) (by decide) (by decide)))
  have q1076 := q1058.other W1066 (Ne.symm ne954)
  have q1077 := q1059.other W1066 (Ne.symm ne955)
  have q1078 := q1060.other W1066 (Or.inr (slot_ne (Or.inr (hw _ (List.mem_of_getElem? (i := 49) rfl))) (Or.inr (hw _ (List.mem_of_getElem? (i := 56) rfl))) (by decide) (t := (.array (.array .int))) (t' := (.array .long)) (by decide) (by decide)))
  have q1079 := q1061.other W1066 (Ne.symm ne993)
  have q1080 := q1062.other W1066 (Ne.symm ne994)
  have q1081 := q1063.other W1066 (Or.inr (slot_ne (Or.inr (hw _ (List.mem_of_getElem? (i := 54) rfl))) (Or.inr (hw _ (List.mem_of_getElem? (i := 56) rfl))) (by decide) (t := (.array (.array .byte))) (t' := (.array .long)) (by decide) (by decide)))
  have zz1082 := Nat.le_trans zz1064 (Nat.le_of_eq W1066.size.symm)
  have kk1083 : Keep h0 h1066 [y0] := kk1065.wr W1066 (Or.inl (by simp))
  refine g_aloadN X1066 hx hby own_d2_129 rfl rfl (pc' := 130) rfl ?_
  refine g_iloadN X1066 hx hby own_d2_130 rfl (pc' := 131) rfl ?_
  refine g_newarray (k := 2) (cap := 2) X1066 hx hby hZ (hw _ (List.mem_of_getElem? (i := 19) rfl)) own_d2_131 rfl (by decide) (by decide) (by decide) (by decide) (pc' := 133) rfl (fun T1084 h1084 b1084 g1084 X1084 E1084 A1084 => ?_)
  have ne1085 : y0 ≠ b1084 := by rw [g1084]; exact Nat.ne_of_lt q1068.lt
  have ne1086 : b802 ≠ b1084 := by rw [g1084]; exact Nat.ne_of_lt q1071.lt
  have ne1087 : b820 ≠ b1084 := by rw [g1084]; exact Nat.ne_of_lt q1073.lt
  have ne1088 : b953 ≠ b1084 := by rw [g1084]; exact Nat.ne_of_lt q1076.lt
  have ne1089 : (b953 + 1 + 0) ≠ b1084 := by rw [g1084]; exact Nat.ne_of_lt q1077.lt
  have ne1090 : b992 ≠ b1084 := by rw [g1084]; exact Nat.ne_of_lt q1079.lt
  have ne1091 : (b992 + 1 + 0) ≠ b1084 := by rw [g1084]; exact Nat.ne_of_lt q1080.lt
  have nn1092 : n0 ≤ b1084 := by rw [g1084]; exact zz1082
  have hh1093 : h0.size ≤ b1084 := by rw [g1084]; exact kk1083.1
  have q1094 := q1068.ext E1084
  have q1095 := q1069.ext E1084
  have q1096 := q1070.ext E1084
  have q1097 := q1071.ext E1084
  have q1098 := q1072.ext E1084
  have q1099 := q1073.ext E1084
  have q1100 := q1074.ext E1084
  have q1101 := q1075.ext E1084
  have q1102 := q1076.ext E1084
  have q1103 := q1077.ext E1084
  have q1104 := q1078.ext E1084
  have q1105 := q1079.ext E1084
  have q1106 := q1080.ext E1084
  have q1107 := q1081.ext E1084
  have zz1108 := Nat.le_trans zz1082 E1084.1
  have kk1109 : Keep h0 h1084 [y0] := kk1083.ext E1084
  obtain ⟨u1111, fu1111⟩ := own_fld_of q1094 q1095 (hw _ (List.mem_of_getElem? (i := 1) rfl)) (Or.inr (hw _ (List.mem_of_getElem? (i := 58) rfl)))
  refine g_putF X1084 hx hby hZ hown (hw _ (List.mem_of_getElem? (i := 57) rfl)) Via.refl fu1111 q1094 (Or.inr ⟨(hw _ (List.mem_of_getElem? (i := 58) rfl)), rfl, hnm⟩) (hw _ (List.mem_of_getElem? (i := 1) rfl)) (ty := (.array .int)) (by decide) rfl rfl gn own_d2_133 (pc' := 136) rfl (fun T1110 h1110 X1110 W1110 => ?_)
  have q1112 := q1094.wr W1110
  have q1113 := q1095.other W1110 (Or.inr (slot_ne (Or.inl (hw _ (List.mem_of_getElem? (i := 69) rfl))) (Or.inr (hw _ (List.mem_of_getElem? (i := 58) rfl))) (by decide) (t := .boolean) (t' := (.array .int)) (by decide) (by decide)))
  have q1114 := q1096.other W1110 (Or.inr (slot_ne (Or.inl (hw _ (List.mem_of_getElem? (i := 27) rfl))) (Or.inr (hw _ (List.mem_of_getElem? (i := 58) rfl))) (by decide) (t := .int) (t' := (.array .int)) (by decide) (by decide)))
  have q1115 := q1097.other W1110 (Ne.symm ne803)
  have q1116 := q1098.other W1110 (Or.inr (slot_ne (Or.inr (hw _ (List.mem_of_getElem? (i := 32) rfl))) (Or.inr (hw _ (List.mem_of_getElem? (i := 58) rfl))) (by decide) (t := (.array .int)) (t' := (.array .int)) (by decide) (by decide)))
  have q1117 := q1099.other W1110 (Ne.symm ne821)
  have q1118 := q1100.wr W1110
  have q1119 := q1101.other W1110 (Or.inr (slot_ne (Or.inr (hw _ (List.mem_of_getElem? (i := 36) rfl))) (Or.inr (hw _ (List.mem_of_getElem? (i := 58) rfl))) (by decide) (t := (.array (.object "com/example/basisbook/basisbook/Decimals"))) (t' := (.array .int)) (by decide) (by decide)))
  have q1120 := q1102.other W1110 (Ne.symm ne954)
  have q1121 := q1103.other W1110 (Ne.symm ne955)
  have q1122 := q1104.other W1110 (Or.inr (slot_ne (Or.inr (hw _ (List.mem_of_getElem? (i := 49) rfl))) (Or.inr (hw _ (List.mem_of_getElem? (i := 58) rfl))) (by decide) (t := (.array (.array .int))) (t' := (.array .int)) (by decide) (by decide)))
  have q1123 := q1105.other W1110 (Ne.symm ne993)
  have q1124 := q1106.other W1110 (Ne.symm ne994)
  have q1125 := q1107.other W1110 (Or.inr (slot_ne (Or.inr (hw _ (List.mem_of_getElem? (i := 54) rfl))) (Or.inr (hw _ (List.mem_of_getElem? (i := 58) rfl))) (by decide) (t := (.array (.array .byte))) (t' := (.array .int)) (by decide) (by decide)))
  have zz1126 := Nat.le_trans zz1108 (Nat.le_of_eq W1110.size.symm)
  have kk1127 : Keep h0 h1110 [y0] := kk1109.wr W1110 (Or.inl (by simp))
  refine g_aloadN X1110 hx hby own_d2_136 rfl rfl (pc' := 137) rfl ?_
  refine g_iloadN X1110 hx hby own_d2_137 rfl (pc' := 138) rfl ?_
  refine g_anewarray (k := 2) (cap := 2) X1110 hx hby hZ hown (hw _ (List.mem_of_getElem? (i := 59) rfl)) (hw _ (List.mem_of_getElem? (i := 60) rfl)) own_d2_138 rfl (by decide) (by decide) (by decide) (by decide) (pc' := 141) rfl (fun T1128 h1128 b1128 g1128 X1128 E1128 A1128 O1128 => ?_)
  have ne1129 : y0 ≠ b1128 := by rw [g1128]; exact Nat.ne_of_lt q1112.lt
  have ne1130 : b802 ≠ b1128 := by rw [g1128]; exact Nat.ne_of_lt q1115.lt
  have ne1131 : b820 ≠ b1128 := by rw [g1128]; exact Nat.ne_of_lt q1117.lt
  have ne1132 : b953 ≠ b1128 := by rw [g1128]; exact Nat.ne_of_lt q1120.lt
  have ne1133 : (b953 + 1 + 0) ≠ b1128 := by rw [g1128]; exact Nat.ne_of_lt q1121.lt
  have ne1134 : b992 ≠ b1128 := by rw [g1128]; exact Nat.ne_of_lt q1123.lt
  have ne1135 : (b992 + 1 + 0) ≠ b1128 := by rw [g1128]; exact Nat.ne_of_lt q1124.lt
  have nn1136 : n0 ≤ b1128 := by rw [g1128]; exact zz1126
  have hh1137 : h0.size ≤ b1128 := by rw [g1128]; exact kk1127.1
  have q1138 := q1112.ext E1128
  have q1139 := q1113.ext E1128
  have q1140 := q1114.ext E1128
  have q1141 := q1115.ext E1128
  have q1142 := q1116.ext E1128
  have q1143 := q1117.ext E1128
  have q1144 := q1118.ext E1128
  have q1145 := q1119.ext E1128
  have q1146 := q1120.ext E1128
  have q1147 := q1121.ext E1128
  have q1148 := q1122.ext E1128
  have q1149 := q1123.ext E1128
  have q1150 := q1124.ext E1128
  have q1151 := q1125.ext E1128
  have zz1152 := Nat.le_trans zz1126 E1128.1
  have kk1153 : Keep h0 h1128 [y0] := kk1127.ext E1128
  obtain ⟨u1155, fu1155⟩ := own_fld_of q1138 q1139 (hw _ (List.mem_of_getElem? (i := 1) rfl)) (Or.inr (hw _ (List.mem_of_getElem? (i := 62) rfl)))
  refine g_putF X1128 hx hby hZ hown (hw _ (List.mem_of_getElem? (i := 61) rfl)) Via.refl fu1155 q1138 (Or.inr ⟨(hw _ (List.mem_of_getElem? (i := 62) rfl)), rfl, hnm⟩) (hw _ (List.mem_of_getElem? (i := 1) rfl)) (ty := (.array (.object "java/math/BigDecimal"))) (by decide) rfl rfl gn own_d2_141 (pc' := 144) rfl (fun T1154 h1154 X1154 W1154 => ?_)
  have q1156 := q1138.wr W1154
  have q1157 := q1139.other W1154 (Or.inr (slot_ne (Or.inl (hw _ (List.mem_of_getElem? (i := 69) rfl))) (Or.inr (hw _ (List.mem_of_getElem? (i := 62) rfl))) (by decide) (t := .boolean) (t' := (.array (.object "java/math/BigDecimal"))) (by decide) (by decide)))
  have q1158 := q1140.other W1154 (Or.inr (slot_ne (Or.inl (hw _ (List.mem_of_getElem? (i := 27) rfl))) (Or.inr (hw _ (List.mem_of_getElem? (i := 62) rfl))) (by decide) (t := .int) (t' := (.array (.object "java/math/BigDecimal"))) (by decide) (by decide)))
  have q1159 := q1141.other W1154 (Ne.symm ne803)
  have q1160 := q1142.other W1154 (Or.inr (slot_ne (Or.inr (hw _ (List.mem_of_getElem? (i := 32) rfl))) (Or.inr (hw _ (List.mem_of_getElem? (i := 62) rfl))) (by decide) (t := (.array .int)) (t' := (.array (.object "java/math/BigDecimal"))) (by decide) (by decide)))
  have q1161 := q1143.other W1154 (Ne.symm ne821)
  have q1162 := q1144.wr W1154
  have q1163 := q1145.other W1154 (Or.inr (slot_ne (Or.inr (hw _ (List.mem_of_getElem? (i := 36) rfl))) (Or.inr (hw _ (List.mem_of_getElem? (i := 62) rfl))) (by decide) (t := (.array (.object "com/example/basisbook/basisbook/Decimals"))) (t' := (.array (.object "java/math/BigDecimal"))) (by decide) (by decide)))
  have q1164 := q1146.other W1154 (Ne.symm ne954)
  have q1165 := q1147.other W1154 (Ne.symm ne955)
  have q1166 := q1148.other W1154 (Or.inr (slot_ne (Or.inr (hw _ (List.mem_of_getElem? (i := 49) rfl))) (Or.inr (hw _ (List.mem_of_getElem? (i := 62) rfl))) (by decide) (t := (.array (.array .int))) (t' := (.array (.object "java/math/BigDecimal"))) (by decide) (by decide)))
  have q1167 := q1149.other W1154 (Ne.symm ne993)
  have q1168 := q1150.other W1154 (Ne.symm ne994)
  have q1169 := q1151.other W1154 (Or.inr (slot_ne (Or.inr (hw _ (List.mem_of_getElem? (i := 54) rfl))) (Or.inr (hw _ (List.mem_of_getElem? (i := 62) rfl))) (by decide) (t := (.array (.array .byte))) (t' := (.array (.object "java/math/BigDecimal"))) (by decide) (by decide)))
  have zz1170 := Nat.le_trans zz1152 (Nat.le_of_eq W1154.size.symm)
  have kk1171 : Keep h0 h1154 [y0] := kk1153.wr W1154 (Or.inl (by simp))
  exact g_ret X1154 hx hby hret hlk own_d2_144 ⟨rfl, kk1171, b953, b992, fun i => b953 + 1 + i, fun i => b992 + 1 + i, _, gn, zz1170, q1156, q1166, q1169, q1157, q1164, q1167, (own_fam1 ⟨nn963, q1165⟩), (own_fam1 ⟨nn1006, fun _ => 0, q1168⟩), fun i j _ _ q => Nat.add_left_cancel q⟩ (by decide) (by decide)
set_option maxRecDepth 65536 in
set_option maxHeartbeats 40000000 in
theorem own_ef1172 (m : MethodId) (y0 : Addr) (y1 : Int32) (y2 : Int32)  : entryFrame m #[(.ref y0), (.int y1), (.int y2)] 4 = mkF m 0 #[.val (.ref y0), .val (.int y1), .val (.int y2), .unset] [] := by first | (simp [entryFrame, mkF, argsToLocals, Value.category, maxLocals]; done) | rfl
set_option maxRecDepth 65536 in
set_option maxHeartbeats 40000000 in
theorem own_su21 (l : Launch) (Z : State) (a0 : Array Value) (hw : ∀ d ∈ tables_1, d.before a0 Z = true) (y0 : Addr) (h0 : Heap) (n0 : Nat) (Z0 : n0 ≤ h0.size) (Ex : Exa Z h0 y0 "com/example/basisbook/basisbook/HourlyPrices$Sums") (F0 : Fld Z h0 y0 "com/example/basisbook/basisbook/HourlyPrices$Sums" "quarterHourly" "Z" (.int 0)) (gn : n0 ≤ y0) :
    Ctr l Z (⟨"com/example/basisbook/basisbook/HourlyPrices$Sums", "<init>", "(IZ)V"⟩ : MethodName) prog_28_method_1_code 4 none [] (own_room 2 25 1100 40) #[(.ref y0), (.int (2 : Int32)), (.int (1 : Int32))] h0 n0 25 1100 (fun v h => v = none ∧ Keep h0 h [y0] ∧ Sm Z n0 h y0 2 (fun _ _ => 0)) := by
  refine Ctr.of (plainFor_of_name own_pn2) ?_
  intro p e s m below meth c T0 hx hby hml hret hlk hnm hown hZ X0
  rw [own_ef1172 m (y0) ((2 : Int32)) ((1 : Int32))]
  refine g_aloadN X0 hx hby own_d2_0 rfl rfl (pc' := 1) rfl ?_
  refine g_initO X0 hx hby hZ (W := 0) hown (hw _ (List.mem_of_getElem? (i := 6) rfl)) (hw _ (List.mem_of_getElem? (i := 7) rfl)) (hw _ (List.mem_of_getElem? (i := 8) rfl)) (by rw [hml]; rfl) own_d2_1 (by decide) (by exact Nat.le_of_eq rfl) (by decide) (pc' := 4) rfl (fun T1173 X1173 => ?_)
  refine g_aloadN X1173 hx hby own_d2_4 rfl rfl (pc' := 5) rfl ?_
  refine g_new X1173 hx hby hZ hown (hw _ (List.mem_of_getElem? (i := 9) rfl)) (hw _ (List.mem_of_getElem? (i := 10) rfl)) (hw _ (List.mem_of_getElem? (i := 11) rfl)) own_d2_5 (by decide) (by decide) (pc' := 8) rfl (fun T1174 h1174 b1174 g1174 X1174 E1174 A1174 D1174 => ?_)
  have ne1175 : y0 ≠ b1174 := by rw [g1174]; exact Nat.ne_of_lt Ex.lt
  have nn1176 : n0 ≤ b1174 := by rw [g1174]; exact Z0
  have hh1177 : h0.size ≤ b1174 := by rw [g1174]; exact (Keep.refl h0 [y0]).1
  have q1178 := Ex.ext E1174
  have q1179 := F0.ext E1174
  have zz1180 := Nat.le_trans Z0 E1174.1
  have kk1181 : Keep h0 h1174 [y0] := (Keep.refl h0 [y0]).ext E1174
  have q1182 : Fld Z h1174 b1174 "com/example/basisbook/basisbook/LongIndex" "keys" "[J" .null := D1174 (Or.inl (hw _ (List.mem_of_getElem? (i := 18) rfl))) (ty := (.array .long)) (by decide)
  have q1183 : Fld Z h1174 b1174 "com/example/basisbook/basisbook/LongIndex" "table" "[I" .null := D1174 (Or.inl (hw _ (List.mem_of_getElem? (i := 21) rfl))) (ty := (.array .int)) (by decide)
  have q1184 : Fld Z h1174 b1174 "com/example/basisbook/basisbook/LongIndex" "shift" "I" (.int (0 : Int32)) := D1174 (Or.inl (hw _ (List.mem_of_getElem? (i := 23) rfl))) (ty := .int) (by decide)
  refine g_dup X1174 hx hby own_d2_8 rfl (pc' := 9) rfl ?_
  refine g_callC (argsL := []) (S := [(.ref b1174), (.ref y0)]) (a := b1174) X1174 hx hby hZ (y := (⟨"com/example/basisbook/basisbook/LongIndex", "<init>", "()V"⟩ : MethodName)) rfl hown (hw _ (List.mem_of_getElem? (i := 12) rfl)) (hw _ (List.mem_of_getElem? (i := 13) rfl)) (hw _ (List.mem_of_getElem? (i := 11) rfl)) (hw _ (List.mem_of_getElem? (i := 14) rfl)) (by decide) (own_li l Z a0 hw b1174 h1174 n0 zz1180 A1174 q1182 nn1176) (by rw [hml]; rfl) (lenOf own_pd0 rfl) rfl own_d2_9 (by decide) (W := 2) (by exact Nat.le_of_eq rfl) (by decide) (by decide) (by decide) (pc' := 12) rfl (fun T1185 v1185 X1185 hQ1185 => ?_)
  obtain ⟨rfl, ka1185⟩ := hQ1185
  have q1186 := q1178.keep ka1185
  have q1187 := q1179.keep ka1185 (ninS ne1175 nin0)
  have q1188 := A1174.keep ka1185
  have zz1189 := Nat.le_trans zz1180 ka1185.1
  have kk1190 : Keep h0 T1185.heap [y0] := kk1181.trans ka1185 (allS (Or.inr hh1177) all0)
  show Gl p e below n0 _ _ (T1185.setTop (mkF m 12 #[.val (.ref y0), .val (.int (2 : Int32)), .val (.int (1 : Int32)), .unset] [(.ref b1174), (.ref y0)]))
  obtain ⟨u1192, fu1192⟩ := own_fld_of q1186 q1187 (hw _ (List.mem_of_getElem? (i := 1) rfl)) (Or.inr (hw _ (List.mem_of_getElem? (i := 25) rfl)))
  refine g_putF X1185 hx hby hZ hown (hw _ (List.mem_of_getElem? (i := 24) rfl)) Via.refl fu1192 q1186 (Or.inr ⟨(hw _ (List.mem_of_getElem? (i := 25) rfl)), rfl, hnm⟩) (hw _ (List.mem_of_getElem? (i := 1) rfl)) (ty := (.object "com/example/basisbook/basisbook/LongIndex")) (by decide) rfl rfl gn own_d2_12 (pc' := 15) rfl (fun T1191 h1191 X1191 W1191 => ?_)
  have q1193 := q1186.wr W1191
  have q1194 := q1187.other W1191 (Or.inr (slot_ne (Or.inl (hw _ (List.mem_of_getElem? (i := 69) rfl))) (Or.inr (hw _ (List.mem_of_getElem? (i := 25) rfl))) (by decide) (t := .boolean) (t' := (.object "com/example/basisbook/basisbook/LongIndex")) (by decide) (by decide)))
  have zz1195 := Nat.le_trans zz1189 (Nat.le_of_eq W1191.size.symm)
  have kk1196 : Keep h0 h1191 [y0] := kk1190.wr W1191 (Or.inl (by simp))
  refine g_aloadN X1191 hx hby own_d2_15 rfl rfl (pc' := 16) rfl ?_
  refine g_bipush (v := 64) X1191 hx hby own_d2_16 rfl (pc' := 18) rfl ?_
  obtain ⟨u1198, fu1198⟩ := own_fld_of q1193 q1194 (hw _ (List.mem_of_getElem? (i := 1) rfl)) (Or.inl (hw _ (List.mem_of_getElem? (i := 27) rfl)))
  refine g_putF X1191 hx hby hZ hown (hw _ (List.mem_of_getElem? (i := 26) rfl)) Via.refl fu1198 q1193 (Or.inl (hw _ (List.mem_of_getElem? (i := 27) rfl))) (hw _ (List.mem_of_getElem? (i := 1) rfl)) (ty := .int) (by decide) rfl rfl gn own_d2_18 (pc' := 21) rfl (fun T1197 h1197 X1197 W1197 => ?_)
  have q1199 := q1193.wr W1197
  have q1200 := q1194.other W1197 (Or.inr (slot_ne (Or.inl (hw _ (List.mem_of_getElem? (i := 69) rfl))) (Or.inl (hw _ (List.mem_of_getElem? (i := 27) rfl))) (by decide) (t := .boolean) (t' := .int) (by decide) (by decide)))
  have q1201 := fu1198.same W1197
  have zz1202 := Nat.le_trans zz1195 (Nat.le_of_eq W1197.size.symm)
  have kk1203 : Keep h0 h1197 [y0] := kk1196.wr W1197 (Or.inl (by simp))
  refine g_aloadN X1197 hx hby own_d2_21 rfl rfl (pc' := 22) rfl ?_
  refine g_ldc2_w X1197 hx hby hZ hown (hw _ (List.mem_of_getElem? (i := 28) rfl)) own_d2_22 (pc' := 25) rfl ?_
  obtain ⟨u1205, fu1205⟩ := own_fld_of q1199 q1200 (hw _ (List.mem_of_getElem? (i := 1) rfl)) (Or.inl (hw _ (List.mem_of_getElem? (i := 30) rfl)))
  refine g_putF X1197 hx hby hZ hown (hw _ (List.mem_of_getElem? (i := 29) rfl)) Via.refl fu1205 q1199 (Or.inl (hw _ (List.mem_of_getElem? (i := 30) rfl))) (hw _ (List.mem_of_getElem? (i := 1) rfl)) (ty := .long) (by decide) rfl rfl gn own_d2_25 (pc' := 28) rfl (fun T1204 h1204 X1204 W1204 => ?_)
  have q1206 := q1199.wr W1204
  have q1207 := q1200.other W1204 (Or.inr (slot_ne (Or.inl (hw _ (List.mem_of_getElem? (i := 69) rfl))) (Or.inl (hw _ (List.mem_of_getElem? (i := 30) rfl))) (by decide) (t := .boolean) (t' := .long) (by decide) (by decide)))
  have q1208 := q1201.other W1204 (Or.inr (slot_ne (Or.inl (hw _ (List.mem_of_getElem? (i := 27) rfl))) (Or.inl (hw _ (List.mem_of_getElem? (i := 30) rfl))) (by decide) (t := .int) (t' := .long) (by decide) (by decide)))
  have zz1209 := Nat.le_trans zz1202 (Nat.le_of_eq W1204.size.symm)
  have kk1210 : Keep h0 h1204 [y0] := kk1203.wr W1204 (Or.inl (by simp))
  refine g_aloadN X1204 hx hby own_d2_28 rfl rfl (pc' := 29) rfl ?_
  refine g_iloadN X1204 hx hby own_d2_29 rfl (pc' := 30) rfl ?_
  refine g_newarray (k := 2) (cap := 2) X1204 hx hby hZ (hw _ (List.mem_of_getElem? (i := 19) rfl)) own_d2_30 rfl (by decide) (by decide) (by decide) (by decide) (pc' := 32) rfl (fun T1211 h1211 b1211 g1211 X1211 E1211 A1211 => ?_)
  have ne1212 : y0 ≠ b1211 := by rw [g1211]; exact Nat.ne_of_lt q1206.lt
  have nn1213 : n0 ≤ b1211 := by rw [g1211]; exact zz1209
  have hh1214 : h0.size ≤ b1211 := by rw [g1211]; exact kk1210.1
  have q1215 := q1206.ext E1211
  have q1216 := q1207.ext E1211
  have q1217 := q1208.ext E1211
  have zz1218 := Nat.le_trans zz1209 E1211.1
  have kk1219 : Keep h0 h1211 [y0] := kk1210.ext E1211
  obtain ⟨u1221, fu1221⟩ := own_fld_of q1215 q1216 (hw _ (List.mem_of_getElem? (i := 1) rfl)) (Or.inr (hw _ (List.mem_of_getElem? (i := 32) rfl)))
  refine g_putF X1211 hx hby hZ hown (hw _ (List.mem_of_getElem? (i := 31) rfl)) Via.refl fu1221 q1215 (Or.inr ⟨(hw _ (List.mem_of_getElem? (i := 32) rfl)), rfl, hnm⟩) (hw _ (List.mem_of_getElem? (i := 1) rfl)) (ty := (.array .int)) (by decide) rfl rfl gn own_d2_32 (pc' := 35) rfl (fun T1220 h1220 X1220 W1220 => ?_)
  have q1222 := q1215.wr W1220
  have q1223 := q1216.other W1220 (Or.inr (slot_ne (Or.inl (hw _ (List.mem_of_getElem? (i := 69) rfl))) (Or.inr (hw _ (List.mem_of_getElem? (i := 32) rfl))) (by decide) (t := .boolean) (t' := (.array .int)) (by decide) (by decide)))
  have q1224 := q1217.other W1220 (Or.inr (slot_ne (Or.inl (hw _ (List.mem_of_getElem? (i := 27) rfl))) (Or.inr (hw _ (List.mem_of_getElem? (i := 32) rfl))) (by decide) (t := .int) (t' := (.array .int)) (by decide) (by decide)))
  have q1225 := A1211.other W1220 (Ne.symm ne1212)
  have q1226 := fu1221.same W1220
  have zz1227 := Nat.le_trans zz1218 (Nat.le_of_eq W1220.size.symm)
  have kk1228 : Keep h0 h1220 [y0] := kk1219.wr W1220 (Or.inl (by simp))
  refine g_aloadN X1220 hx hby own_d2_35 rfl rfl (pc' := 36) rfl ?_
  refine g_iloadN X1220 hx hby own_d2_36 rfl (pc' := 37) rfl ?_
  refine g_anewarray (k := 2) (cap := 2) X1220 hx hby hZ hown (hw _ (List.mem_of_getElem? (i := 33) rfl)) (hw _ (List.mem_of_getElem? (i := 34) rfl)) own_d2_37 rfl (by decide) (by decide) (by decide) (by decide) (pc' := 40) rfl (fun T1229 h1229 b1229 g1229 X1229 E1229 A1229 O1229 => ?_)
  have ne1230 : y0 ≠ b1229 := by rw [g1229]; exact Nat.ne_of_lt q1222.lt
  have ne1231 : b1211 ≠ b1229 := by rw [g1229]; exact Nat.ne_of_lt q1225.lt
  have nn1232 : n0 ≤ b1229 := by rw [g1229]; exact zz1227
  have hh1233 : h0.size ≤ b1229 := by rw [g1229]; exact kk1228.1
  have q1234 := q1222.ext E1229
  have q1235 := q1223.ext E1229
  have q1236 := q1224.ext E1229
  have q1237 := q1225.ext E1229
  have q1238 := q1226.ext E1229
  have zz1239 := Nat.le_trans zz1227 E1229.1
  have kk1240 : Keep h0 h1229 [y0] := kk1228.ext E1229
  obtain ⟨u1242, fu1242⟩ := own_fld_of q1234 q1235 (hw _ (List.mem_of_getElem? (i := 1) rfl)) (Or.inr (hw _ (List.mem_of_getElem? (i := 36) rfl)))
  refine g_putF X1229 hx hby hZ hown (hw _ (List.mem_of_getElem? (i := 35) rfl)) Via.refl fu1242 q1234 (Or.inr ⟨(hw _ (List.mem_of_getElem? (i := 36) rfl)), rfl, hnm⟩) (hw _ (List.mem_of_getElem? (i := 1) rfl)) (ty := (.array (.object "com/example/basisbook/basisbook/Decimals"))) (by decide) rfl rfl gn own_d2_40 (pc' := 43) rfl (fun T1241 h1241 X1241 W1241 => ?_)
  have q1243 := q1234.wr W1241
  have q1244 := q1235.other W1241 (Or.inr (slot_ne (Or.inl (hw _ (List.mem_of_getElem? (i := 69) rfl))) (Or.inr (hw _ (List.mem_of_getElem? (i := 36) rfl))) (by decide) (t := .boolean) (t' := (.array (.object "com/example/basisbook/basisbook/Decimals"))) (by decide) (by decide)))
  have q1245 := q1236.other W1241 (Or.inr (slot_ne (Or.inl (hw _ (List.mem_of_getElem? (i := 27) rfl))) (Or.inr (hw _ (List.mem_of_getElem? (i := 36) rfl))) (by decide) (t := .int) (t' := (.array (.object "com/example/basisbook/basisbook/Decimals"))) (by decide) (by decide)))
  have q1246 := q1237.other W1241 (Ne.symm ne1212)
  have q1247 := q1238.other W1241 (Or.inr (slot_ne (Or.inr (hw _ (List.mem_of_getElem? (i := 32) rfl))) (Or.inr (hw _ (List.mem_of_getElem? (i := 36) rfl))) (by decide) (t := (.array .int)) (t' := (.array (.object "com/example/basisbook/basisbook/Decimals"))) (by decide) (by decide)))
  have q1248 := A1229.other W1241 (Ne.symm ne1230)
  have q1249 := O1229.wr W1241
  have q1250 := fu1242.same W1241
  have zz1251 := Nat.le_trans zz1239 (Nat.le_of_eq W1241.size.symm)
  have kk1252 : Keep h0 h1241 [y0] := kk1240.wr W1241 (Or.inl (by simp))
  refine g_iconst (v := 0) X1241 hx hby own_d2_43 rfl (pc' := 44) rfl ?_
  refine g_istoreN (L' := #[.val (.ref y0), .val (.int (2 : Int32)), .val (.int (1 : Int32)), .val (.int (0 : Int32))]) X1241 hx hby own_d2_44 rfl (pc' := 45) rfl ?_
  refine g_iloadN X1241 hx hby own_d2_45 rfl (pc' := 46) rfl ?_
  refine g_iloadN X1241 hx hby own_d2_46 rfl (pc' := 47) rfl ?_
  refine g_icmp_ge X1241 hx hby own_d2_47 (by decide) (pc' := 84) (by decide) (pc2 := 50) rfl (fun q => absurd (by decide) q) (fun c47_1253 => ?_)
  refine g_aloadN X1241 hx hby own_d2_50 rfl rfl (pc' := 51) rfl ?_
  refine g_getF X1241 hx hby hZ hown (hw _ (List.mem_of_getElem? (i := 31) rfl)) Via.refl q1247 own_d2_51 (pc' := 54) rfl (fun T1254 X1254 => ?_)
  refine g_iloadN X1254 hx hby own_d2_54 rfl (pc' := 55) rfl ?_
  refine g_iloadN X1254 hx hby own_d2_55 rfl (pc' := 56) rfl ?_
  refine g_if_eq X1254 hx hby own_d2_56 (by decide) (pc' := 63) (by decide) (pc2 := 59) rfl (fun q => absurd q (by decide)) (fun c56_1255 => ?_)
  refine g_iloadN X1254 hx hby own_d2_59 rfl (pc' := 60) rfl ?_
  refine g_goto X1254 hx hby own_d2_60 (by decide) (pc' := 64) (by decide) ?_
  refine g_iastore (i := 0) X1254 hx hby hZ q1246 rfl (by decide) nn1213 own_d2_64 (pc' := 65) rfl (fun T1256 h1256 sl1256 X1256 W1256 A1256 => ?_)
  have q1257 := q1243.wr W1256
  have q1258 := q1244.other W1256 (Or.inl ne1212)
  have q1259 := q1245.other W1256 (Or.inl ne1212)
  have q1260 := q1247.other W1256 (Or.inl ne1212)
  have q1261 := q1248.other W1256 (Ne.symm ne1231)
  have q1262 := q1249.wr W1256
  have q1263 := q1250.other W1256 (Or.inl ne1212)
  have zz1264 := Nat.le_trans zz1251 (Nat.le_of_eq W1256.size.symm)
  have kk1265 : Keep h0 h1256 [y0] := kk1252.wr W1256 (Or.inr hh1214)
  refine g_aloadN X1256 hx hby own_d2_65 rfl rfl (pc' := 66) rfl ?_
  refine g_getF X1256 hx hby hZ hown (hw _ (List.mem_of_getElem? (i := 35) rfl)) Via.refl q1263 own_d2_66 (pc' := 69) rfl (fun T1266 X1266 => ?_)
  refine g_iloadN X1266 hx hby own_d2_69 rfl (pc' := 70) rfl ?_
  refine g_new X1266 hx hby hZ hown (hw _ (List.mem_of_getElem? (i := 33) rfl)) (hw _ (List.mem_of_getElem? (i := 37) rfl)) (hw _ (List.mem_of_getElem? (i := 38) rfl)) own_d2_70 (by decide) (by decide) (pc' := 73) rfl (fun T1267 h1267 b1267 g1267 X1267 E1267 A1267 D1267 => ?_)
  have ne1268 : y0 ≠ b1267 := by rw [g1267]; exact Nat.ne_of_lt q1257.lt
  have ne1269 : b1211 ≠ b1267 := by rw [g1267]; exact Nat.ne_of_lt A1256.lt
  have ne1270 : b1229 ≠ b1267 := by rw [g1267]; exact Nat.ne_of_lt q1261.lt
  have nn1271 : n0 ≤ b1267 := by rw [g1267]; exact zz1264
  have hh1272 : h0.size ≤ b1267 := by rw [g1267]; exact kk1265.1
  have q1273 := q1257.ext E1267
  have q1274 := q1258.ext E1267
  have q1275 := q1259.ext E1267
  have q1276 := A1256.ext E1267
  have q1277 := q1260.ext E1267
  have q1278 := q1261.ext E1267
  have q1279 := q1262.ext E1267
  have q1280 := q1263.ext E1267
  have zz1281 := Nat.le_trans zz1264 E1267.1
  have kk1282 : Keep h0 h1267 [y0] := kk1265.ext E1267
  have q1283 : Fld Z h1267 b1267 "com/example/basisbook/basisbook/Decimals" "units" "[J" .null := D1267 (Or.inl (hw _ (List.mem_of_getElem? (i := 44) rfl))) (ty := (.array .long)) (by decide)
  refine g_dup X1267 hx hby own_d2_73 rfl (pc' := 74) rfl ?_
  refine g_callC (argsL := []) (S := [(.ref b1267), (.int (0 : Int32)), (.ref b1229)]) (a := b1267) X1267 hx hby hZ (y := (⟨"com/example/basisbook/basisbook/Decimals", "<init>", "()V"⟩ : MethodName)) rfl hown (hw _ (List.mem_of_getElem? (i := 39) rfl)) (hw _ (List.mem_of_getElem? (i := 40) rfl)) (hw _ (List.mem_of_getElem? (i := 38) rfl)) (hw _ (List.mem_of_getElem? (i := 41) rfl)) (by decide) (own_de l Z a0 hw b1267 h1267 n0 zz1281 A1267 q1283 nn1271) (by rw [hml]; rfl) (lenOf own_pd0 rfl) rfl own_d2_74 (by decide) (W := 3) (by exact Nat.le_of_eq rfl) (by decide) (by decide) (by decide) (pc' := 77) rfl (fun T1284 v1284 X1284 hQ1284 => ?_)
  obtain ⟨rfl, ka1284⟩ := hQ1284
  have q1285 := q1273.keep ka1284
  have q1286 := q1274.keep ka1284 (ninS ne1268 nin0)
  have q1287 := q1275.keep ka1284 (ninS ne1268 nin0)
  have q1288 := q1276.keep ka1284 (ninS ne1269 nin0)
  have q1289 := q1277.keep ka1284 (ninS ne1268 nin0)
  have q1290 := q1278.keep ka1284 (ninS ne1270 nin0)
  have q1291 := q1279.keep ka1284
  have q1292 := q1280.keep ka1284 (ninS ne1268 nin0)
  have q1293 := A1267.keep ka1284
  have zz1294 := Nat.le_trans zz1281 ka1284.1
  have kk1295 : Keep h0 T1284.heap [y0] := kk1282.trans ka1284 (allS (Or.inr hh1272) all0)
  show Gl p e below n0 _ _ (T1284.setTop (mkF m 77 #[.val (.ref y0), .val (.int (2 : Int32)), .val (.int (1 : Int32)), .val (.int (0 : Int32))] [(.ref b1267), (.int (0 : Int32)), (.ref b1229)]))
  refine g_aastore (i := 0) X1284 hx hby hZ q1290 rfl (Ov.sto q1291 q1290 (Ins.self q1293)) rfl (by decide) nn1232 own_d2_77 (pc' := 78) rfl (fun T1296 h1296 sl1296 X1296 W1296 A1296 => ?_)
  have q1297 := q1285.wr W1296
  have q1298 := q1286.other W1296 (Or.inl ne1230)
  have q1299 := q1287.other W1296 (Or.inl ne1230)
  have q1300 := q1288.other W1296 ne1231
  have q1301 := q1289.other W1296 (Or.inl ne1230)
  have q1302 := q1291.wr W1296
  have q1303 := q1292.other W1296 (Or.inl ne1230)
  have zz1304 := Nat.le_trans zz1294 (Nat.le_of_eq W1296.size.symm)
  have kk1305 : Keep h0 h1296 [y0] := kk1295.wr W1296 (Or.inr hh1233)
  refine g_iinc (y := 1) (L' := #[.val (.ref y0), .val (.int (2 : Int32)), .val (.int (1 : Int32)), .val (.int (1 : Int32))]) X1296 hx hby own_d2_78 rfl rfl rfl (pc' := 81) rfl ?_
  refine g_goto X1296 hx hby own_d2_81 (by decide) (pc' := 45) (by decide) ?_
  refine g_iloadN X1296 hx hby own_d2_45 rfl (pc' := 46) rfl ?_
  refine g_iloadN X1296 hx hby own_d2_46 rfl (pc' := 47) rfl ?_
  refine g_icmp_ge X1296 hx hby own_d2_47 (by decide) (pc' := 84) (by decide) (pc2 := 50) rfl (fun q => absurd (by decide) q) (fun c47_1306 => ?_)
  refine g_aloadN X1296 hx hby own_d2_50 rfl rfl (pc' := 51) rfl ?_
  refine g_getF X1296 hx hby hZ hown (hw _ (List.mem_of_getElem? (i := 31) rfl)) Via.refl q1301 own_d2_51 (pc' := 54) rfl (fun T1307 X1307 => ?_)
  refine g_iloadN X1307 hx hby own_d2_54 rfl (pc' := 55) rfl ?_
  refine g_iloadN X1307 hx hby own_d2_55 rfl (pc' := 56) rfl ?_
  refine g_if_eq X1307 hx hby own_d2_56 (by decide) (pc' := 63) (by decide) (pc2 := 59) rfl (fun q => absurd q (by decide)) (fun c56_1308 => ?_)
  refine g_iloadN X1307 hx hby own_d2_59 rfl (pc' := 60) rfl ?_
  refine g_goto X1307 hx hby own_d2_60 (by decide) (pc' := 64) (by decide) ?_
  refine g_iastore (i := 1) X1307 hx hby hZ q1300 rfl (by decide) nn1213 own_d2_64 (pc' := 65) rfl (fun T1309 h1309 sl1309 X1309 W1309 A1309 => ?_)
  have q1310 := q1297.wr W1309
  have q1311 := q1298.other W1309 (Or.inl ne1212)
  have q1312 := q1299.other W1309 (Or.inl ne1212)
  have q1313 := q1301.other W1309 (Or.inl ne1212)
  have q1314 := A1296.other W1309 (Ne.symm ne1231)
  have q1315 := q1302.wr W1309
  have q1316 := q1303.other W1309 (Or.inl ne1212)
  have zz1317 := Nat.le_trans zz1304 (Nat.le_of_eq W1309.size.symm)
  have kk1318 : Keep h0 h1309 [y0] := kk1305.wr W1309 (Or.inr hh1214)
  refine g_aloadN X1309 hx hby own_d2_65 rfl rfl (pc' := 66) rfl ?_
  refine g_getF X1309 hx hby hZ hown (hw _ (List.mem_of_getElem? (i := 35) rfl)) Via.refl q1316 own_d2_66 (pc' := 69) rfl (fun T1319 X1319 => ?_)
  refine g_iloadN X1319 hx hby own_d2_69 rfl (pc' := 70) rfl ?_
  refine g_new X1319 hx hby hZ hown (hw _ (List.mem_of_getElem? (i := 33) rfl)) (hw _ (List.mem_of_getElem? (i := 37) rfl)) (hw _ (List.mem_of_getElem? (i := 38) rfl)) own_d2_70 (by decide) (by decide) (pc' := 73) rfl (fun T1320 h1320 b1320 g1320 X1320 E1320 A1320 D1320 => ?_)
  have ne1321 : y0 ≠ b1320 := by rw [g1320]; exact Nat.ne_of_lt q1310.lt
  have ne1322 : b1211 ≠ b1320 := by rw [g1320]; exact Nat.ne_of_lt A1309.lt
  have ne1323 : b1229 ≠ b1320 := by rw [g1320]; exact Nat.ne_of_lt q1314.lt
  have nn1324 : n0 ≤ b1320 := by rw [g1320]; exact zz1317
  have hh1325 : h0.size ≤ b1320 := by rw [g1320]; exact kk1318.1
  have q1326 := q1310.ext E1320
  have q1327 := q1311.ext E1320
  have q1328 := q1312.ext E1320
  have q1329 := A1309.ext E1320
  have q1330 := q1313.ext E1320
  have q1331 := q1314.ext E1320
  have q1332 := q1315.ext E1320
  have q1333 := q1316.ext E1320
  have zz1334 := Nat.le_trans zz1317 E1320.1
  have kk1335 : Keep h0 h1320 [y0] := kk1318.ext E1320
  have q1336 : Fld Z h1320 b1320 "com/example/basisbook/basisbook/Decimals" "units" "[J" .null := D1320 (Or.inl (hw _ (List.mem_of_getElem? (i := 44) rfl))) (ty := (.array .long)) (by decide)
  refine g_dup X1320 hx hby own_d2_73 rfl (pc' := 74) rfl ?_
  refine g_callC (argsL := []) (S := [(.ref b1320), (.int (1 : Int32)), (.ref b1229)]) (a := b1320) X1320 hx hby hZ (y := (⟨"com/example/basisbook/basisbook/Decimals", "<init>", "()V"⟩ : MethodName)) rfl hown (hw _ (List.mem_of_getElem? (i := 39) rfl)) (hw _ (List.mem_of_getElem? (i := 40) rfl)) (hw _ (List.mem_of_getElem? (i := 38) rfl)) (hw _ (List.mem_of_getElem? (i := 41) rfl)) (by decide) (own_de l Z a0 hw b1320 h1320 n0 zz1334 A1320 q1336 nn1324) (by rw [hml]; rfl) (lenOf own_pd0 rfl) rfl own_d2_74 (by decide) (W := 3) (by exact Nat.le_of_eq rfl) (by decide) (by decide) (by decide) (pc' := 77) rfl (fun T1337 v1337 X1337 hQ1337 => ?_)
  obtain ⟨rfl, ka1337⟩ := hQ1337
  have q1338 := q1326.keep ka1337
  have q1339 := q1327.keep ka1337 (ninS ne1321 nin0)
  have q1340 := q1328.keep ka1337 (ninS ne1321 nin0)
  have q1341 := q1329.keep ka1337 (ninS ne1322 nin0)
  have q1342 := q1330.keep ka1337 (ninS ne1321 nin0)
  have q1343 := q1331.keep ka1337 (ninS ne1323 nin0)
  have q1344 := q1332.keep ka1337
  have q1345 := q1333.keep ka1337 (ninS ne1321 nin0)
  have q1346 := A1320.keep ka1337
  have zz1347 := Nat.le_trans zz1334 ka1337.1
  have kk1348 : Keep h0 T1337.heap [y0] := kk1335.trans ka1337 (allS (Or.inr hh1325) all0)
  show Gl p e below n0 _ _ (T1337.setTop (mkF m 77 #[.val (.ref y0), .val (.int (2 : Int32)), .val (.int (1 : Int32)), .val (.int (1 : Int32))] [(.ref b1320), (.int (1 : Int32)), (.ref b1229)]))
  refine g_aastore (i := 1) X1337 hx hby hZ q1343 rfl (Ov.sto q1344 q1343 (Ins.self q1346)) rfl (by decide) nn1232 own_d2_77 (pc' := 78) rfl (fun T1349 h1349 sl1349 X1349 W1349 A1349 => ?_)
  have q1350 := q1338.wr W1349
  have q1351 := q1339.other W1349 (Or.inl ne1230)
  have q1352 := q1340.other W1349 (Or.inl ne1230)
  have q1353 := q1341.other W1349 ne1231
  have q1354 := q1342.other W1349 (Or.inl ne1230)
  have q1355 := q1344.wr W1349
  have q1356 := q1345.other W1349 (Or.inl ne1230)
  have zz1357 := Nat.le_trans zz1347 (Nat.le_of_eq W1349.size.symm)
  have kk1358 : Keep h0 h1349 [y0] := kk1348.wr W1349 (Or.inr hh1233)
  refine g_iinc (y := 1) (L' := #[.val (.ref y0), .val (.int (2 : Int32)), .val (.int (1 : Int32)), .val (.int (2 : Int32))]) X1349 hx hby own_d2_78 rfl rfl rfl (pc' := 81) rfl ?_
  refine g_goto X1349 hx hby own_d2_81 (by decide) (pc' := 45) (by decide) ?_
  refine g_iloadN X1349 hx hby own_d2_45 rfl (pc' := 46) rfl ?_
  refine g_iloadN X1349 hx hby own_d2_46 rfl (pc' := 47) rfl ?_
  refine g_icmp_ge X1349 hx hby own_d2_47 (by decide) (pc' := 84) (by decide) (pc2 := 50) rfl (fun c47_1359 => ?_) (fun q => absurd q (by decide))
  refine g_iloadN X1349 hx hby own_d2_84 rfl (pc' := 85) rfl ?_
  refine g_if_eq X1349 hx hby own_d2_85 (by decide) (pc' := 92) (by decide) (pc2 := 88) rfl (fun q => absurd q (by decide)) (fun c85_1360 => ?_)
  refine g_iloadN X1349 hx hby own_d2_88 rfl (pc' := 89) rfl ?_
  refine g_goto X1349 hx hby own_d2_89 (by decide) (pc' := 93) (by decide) ?_
  refine g_istoreN (L' := #[.val (.ref y0), .val (.int (2 : Int32)), .val (.int (1 : Int32)), .val (.int (2 : Int32))]) X1349 hx hby own_d2_93 rfl (pc' := 94) rfl ?_
  refine g_aloadN X1349 hx hby own_d2_94 rfl rfl (pc' := 95) rfl ?_
  refine g_iloadN X1349 hx hby own_d2_95 rfl (pc' := 96) rfl ?_
  refine g_aloadN X1349 hx hby own_d2_96 rfl rfl (pc' := 97) rfl ?_
  refine g_getF X1349 hx hby hZ hown (hw _ (List.mem_of_getElem? (i := 26) rfl)) Via.refl q1352 own_d2_97 (pc' := 100) rfl (fun T1361 X1361 => ?_)
  refine g_iconst (v := 4) X1361 hx hby own_d2_100 rfl (pc' := 101) rfl ?_
  refine g_imul X1361 hx hby own_d2_101 (pc' := 102) rfl ?_
  show Gl p e below n0 _ _ (T1361.setTop (mkF m 102 #[.val (.ref y0), .val (.int (2 : Int32)), .val (.int (1 : Int32)), .val (.int (2 : Int32))] [(.int (256 : Int32)), (.int (2 : Int32)), (.ref y0)]))
  refine own_grid (N := 2) (kk := 256) X1361 hx hby hZ hown (C := "[I") (ad := "[[I") (ty := .int) (by decide) (by decide) (hw _ (List.mem_of_getElem? (i := 46) rfl)) (hw _ (List.mem_of_getElem? (i := 47) rfl)) (hw _ (List.mem_of_getElem? (i := 19) rfl)) own_d2_102 rfl rfl (by decide) (by decide) rfl rfl (by decide) (by decide) (pc' := 106) rfl (fun T1362 h1362 b1362 g1362 X1362 E1362 A1362 I1362 => ?_)
  have ne1363 : y0 ≠ b1362 := own_nb q1350.lt g1362
  have ne1364 : y0 ≠ (b1362 + 1 + 0) := own_nbj 0 q1350.lt g1362
  have ne1365 : y0 ≠ (b1362 + 1 + 1) := own_nbj 1 q1350.lt g1362
  have ne1366 : b1211 ≠ b1362 := own_nb q1353.lt g1362
  have ne1367 : b1211 ≠ (b1362 + 1 + 0) := own_nbj 0 q1353.lt g1362
  have ne1368 : b1211 ≠ (b1362 + 1 + 1) := own_nbj 1 q1353.lt g1362
  have ne1369 : b1229 ≠ b1362 := own_nb A1349.lt g1362
  have ne1370 : b1229 ≠ (b1362 + 1 + 0) := own_nbj 0 A1349.lt g1362
  have ne1371 : b1229 ≠ (b1362 + 1 + 1) := own_nbj 1 A1349.lt g1362
  have ne1372 : b1362 ≠ (b1362 + 1 + 0) := own_bbj _ _
  have ne1373 : b1362 ≠ (b1362 + 1 + 1) := own_bbj _ _
  have ne1374 : (b1362 + 1 + 0) ≠ (b1362 + 1 + 1) := own_bij (by decide)
  have nn1375 : n0 ≤ b1362 := own_le zz1357 g1362
  have hh1376 : h0.size ≤ b1362 := own_le kk1358.1 g1362
  have nn1377 : n0 ≤ (b1362 + 1 + 0) := own_lej _ zz1357 g1362
  have hh1378 : h0.size ≤ (b1362 + 1 + 0) := own_lej _ kk1358.1 g1362
  have nn1379 : n0 ≤ (b1362 + 1 + 1) := own_lej _ zz1357 g1362
  have hh1380 : h0.size ≤ (b1362 + 1 + 1) := own_lej _ kk1358.1 g1362
  have q1381 := q1350.ext E1362
  have q1382 := q1351.ext E1362
  have q1383 := q1352.ext E1362
  have q1384 := q1353.ext E1362
  have q1385 := q1354.ext E1362
  have q1386 := A1349.ext E1362
  have q1387 := q1355.ext E1362
  have q1388 := q1356.ext E1362
  have zz1389 := Nat.le_trans zz1357 E1362.1
  have kk1390 : Keep h0 h1362 [y0] := kk1358.ext E1362
  have ai1391 := I1362 0 (by decide)
  have ai1392 := I1362 1 (by decide)
  obtain ⟨u1394, fu1394⟩ := own_fld_of q1381 q1382 (hw _ (List.mem_of_getElem? (i := 1) rfl)) (Or.inr (hw _ (List.mem_of_getElem? (i := 49) rfl)))
  refine g_putF X1362 hx hby hZ hown (hw _ (List.mem_of_getElem? (i := 48) rfl)) Via.refl fu1394 q1381 (Or.inr ⟨(hw _ (List.mem_of_getElem? (i := 49) rfl)), rfl, hnm⟩) (hw _ (List.mem_of_getElem? (i := 1) rfl)) (ty := (.array (.array .int))) (by decide) rfl rfl gn own_d2_106 (pc' := 109) rfl (fun T1393 h1393 X1393 W1393 => ?_)
  have q1395 := q1381.wr W1393
  have q1396 := q1382.other W1393 (Or.inr (slot_ne (Or.inl (hw _ (List.mem_of_getElem? (i := 69) rfl))) (Or.inr (hw _ (List.mem_of_getElem? (i := 49) rfl))) (by decide) (t := .boolean) (t' := (.array (.array .int))) (by decide) (by decide)))
  have q1397 := q1383.other W1393 (Or.inr (slot_ne (Or.inl (hw _ (List.mem_of_getElem? (i := 27) rfl))) (Or.inr (hw _ (List.mem_of_getElem? (i := 49) rfl))) (by decide) (t := .int) (t' := (.array (.array .int))) (by decide) (by decide)))
  have q1398 := q1384.other W1393 (Ne.symm ne1212)
  have q1399 := q1385.other W1393 (Or.inr (slot_ne (Or.inr (hw _ (List.mem_of_getElem? (i := 32) rfl))) (Or.inr (hw _ (List.mem_of_getElem? (i := 49) rfl))) (by decide) (t := (.array .int)) (t' := (.array (.array .int))) (by decide) (by decide)))
  have q1400 := q1386.other W1393 (Ne.symm ne1230)
  have q1401 := q1387.wr W1393
  have q1402 := q1388.other W1393 (Or.inr (slot_ne (Or.inr (hw _ (List.mem_of_getElem? (i := 36) rfl))) (Or.inr (hw _ (List.mem_of_getElem? (i := 49) rfl))) (by decide) (t := (.array (.object "com/example/basisbook/basisbook/Decimals"))) (t' := (.array (.array .int))) (by decide) (by decide)))
  have q1403 := A1362.other W1393 (Ne.symm ne1363)
  have q1404 := ai1391.other W1393 (Ne.symm ne1364)
  have q1405 := ai1392.other W1393 (Ne.symm ne1365)
  have q1406 := fu1394.same W1393
  have zz1407 := Nat.le_trans zz1389 (Nat.le_of_eq W1393.size.symm)
  have kk1408 : Keep h0 h1393 [y0] := kk1390.wr W1393 (Or.inl (by simp))
  refine g_aloadN X1393 hx hby own_d2_109 rfl rfl (pc' := 110) rfl ?_
  refine g_iloadN X1393 hx hby own_d2_110 rfl (pc' := 111) rfl ?_
  refine g_aloadN X1393 hx hby own_d2_111 rfl rfl (pc' := 112) rfl ?_
  refine g_getF X1393 hx hby hZ hown (hw _ (List.mem_of_getElem? (i := 26) rfl)) Via.refl q1397 own_d2_112 (pc' := 115) rfl (fun T1409 X1409 => ?_)
  refine own_grid (N := 2) (kk := 64) X1409 hx hby hZ hown (C := "[B") (ad := "[[B") (ty := .byte) (by decide) (by decide) (hw _ (List.mem_of_getElem? (i := 50) rfl)) (hw _ (List.mem_of_getElem? (i := 51) rfl)) (hw _ (List.mem_of_getElem? (i := 52) rfl)) own_d2_115 rfl rfl (by decide) (by decide) rfl rfl (by decide) (by decide) (pc' := 119) rfl (fun T1410 h1410 b1410 g1410 X1410 E1410 A1410 I1410 => ?_)
  have ne1411 : y0 ≠ b1410 := own_nb q1395.lt g1410
  have ne1412 : y0 ≠ (b1410 + 1 + 0) := own_nbj 0 q1395.lt g1410
  have ne1413 : y0 ≠ (b1410 + 1 + 1) := own_nbj 1 q1395.lt g1410
  have ne1414 : b1211 ≠ b1410 := own_nb q1398.lt g1410
  have ne1415 : b1211 ≠ (b1410 + 1 + 0) := own_nbj 0 q1398.lt g1410
  have ne1416 : b1211 ≠ (b1410 + 1 + 1) := own_nbj 1 q1398.lt g1410
  have ne1417 : b1229 ≠ b1410 := own_nb q1400.lt g1410
  have ne1418 : b1229 ≠ (b1410 + 1 + 0) := own_nbj 0 q1400.lt g1410
  have ne1419 : b1229 ≠ (b1410 + 1 + 1) := own_nbj 1 q1400.lt g1410
  have ne1420 : b1362 ≠ b1410 := own_nb q1403.lt g1410
  have ne1421 : b1362 ≠ (b1410 + 1 + 0) := own_nbj 0 q1403.lt g1410
  have ne1422 : b1362 ≠ (b1410 + 1 + 1) := own_nbj 1 q1403.lt g1410
  have ne1423 : (b1362 + 1 + 0) ≠ b1410 := own_nb q1404.lt g1410
  have ne1424 : (b1362 + 1 + 0) ≠ (b1410 + 1 + 0) := own_nbj 0 q1404.lt g1410
  have ne1425 : (b1362 + 1 + 0) ≠ (b1410 + 1 + 1) := own_nbj 1 q1404.lt g1410
  have ne1426 : (b1362 + 1 + 1) ≠ b1410 := own_nb q1405.lt g1410
  have ne1427 : (b1362 + 1 + 1) ≠ (b1410 + 1 + 0) := own_nbj 0 q1405.lt g1410
  have ne1428 : (b1362 + 1 + 1) ≠ (b1410 + 1 + 1) := own_nbj 1 q1405.lt g1410
  have ne1429 : b1410 ≠ (b1410 + 1 + 0) := own_bbj _ _
  have ne1430 : b1410 ≠ (b1410 + 1 + 1) := own_bbj _ _
  have ne1431 : (b1410 + 1 + 0) ≠ (b1410 + 1 + 1) := own_bij (by decide)
  have nn1432 : n0 ≤ b1410 := own_le zz1407 g1410
  have hh1433 : h0.size ≤ b1410 := own_le kk1408.1 g1410
  have nn1434 : n0 ≤ (b1410 + 1 + 0) := own_lej _ zz1407 g1410
  have hh1435 : h0.size ≤ (b1410 + 1 + 0) := own_lej _ kk1408.1 g1410
  have nn1436 : n0 ≤ (b1410 + 1 + 1) := own_lej _ zz1407 g1410
  have hh1437 : h0.size ≤ (b1410 + 1 + 1) := own_lej _ kk1408.1 g1410
  have q1438 := q1395.ext E1410
  have q1439 := q1396.ext E1410
  have q1440 := q1397.ext E1410
  have q1441 := q1398.ext E1410
  have q1442 := q1399.ext E1410
  have q1443 := q1400.ext E1410
  have q1444 := q1401.ext E1410
  have q1445 := q1402.ext E1410
  have q1446 := q1403.ext E1410
  have q1447 := q1404.ext E1410
  have q1448 := q1405.ext E1410
  have q1449 := q1406.ext E1410
  have zz1450 := Nat.le_trans zz1407 E1410.1
  have kk1451 : Keep h0 h1410 [y0] := kk1408.ext E1410
  have ai1452 := I1410 0 (by decide)
  have ai1453 := I1410 1 (by decide)
  obtain ⟨u1455, fu1455⟩ := own_fld_of q1438 q1439 (hw _ (List.mem_of_getElem? (i := 1) rfl)) (Or.inr (hw _ (List.mem_of_getElem? (i := 54) rfl)))
  refine g_putF X1410 hx hby hZ hown (hw _ (List.mem_of_getElem? (i := 53) rfl)) Via.refl fu1455 q1438 (Or.inr ⟨(hw _ (List.mem_of_getElem? (i := 54) rfl)), rfl, hnm⟩) (hw _ (List.mem_of_getElem? (i := 1) rfl)) (ty := (.array (.array .byte))) (by decide) rfl rfl gn own_d2_119 (pc' := 122) rfl (fun T1454 h1454 X1454 W1454 => ?_)
  have q1456 := q1438.wr W1454
  have q1457 := q1439.other W1454 (Or.inr (slot_ne (Or.inl (hw _ (List.mem_of_getElem? (i := 69) rfl))) (Or.inr (hw _ (List.mem_of_getElem? (i := 54) rfl))) (by decide) (t := .boolean) (t' := (.array (.array .byte))) (by decide) (by decide)))
  have q1458 := q1440.other W1454 (Or.inr (slot_ne (Or.inl (hw _ (List.mem_of_getElem? (i := 27) rfl))) (Or.inr (hw _ (List.mem_of_getElem? (i := 54) rfl))) (by decide) (t := .int) (t' := (.array (.array .byte))) (by decide) (by decide)))
  have q1459 := q1441.other W1454 (Ne.symm ne1212)
  have q1460 := q1442.other W1454 (Or.inr (slot_ne (Or.inr (hw _ (List.mem_of_getElem? (i := 32) rfl))) (Or.inr (hw _ (List.mem_of_getElem? (i := 54) rfl))) (by decide) (t := (.array .int)) (t' := (.array (.array .byte))) (by decide) (by decide)))
  have q1461 := q1443.other W1454 (Ne.symm ne1230)
  have q1462 := q1444.wr W1454
  have q1463 := q1445.other W1454 (Or.inr (slot_ne (Or.inr (hw _ (List.mem_of_getElem? (i := 36) rfl))) (Or.inr (hw _ (List.mem_of_getElem? (i := 54) rfl))) (by decide) (t := (.array (.object "com/example/basisbook/basisbook/Decimals"))) (t' := (.array (.array .byte))) (by decide) (by decide)))
  have q1464 := q1446.other W1454 (Ne.symm ne1363)
  have q1465 := q1447.other W1454 (Ne.symm ne1364)
  have q1466 := q1448.other W1454 (Ne.symm ne1365)
  have q1467 := q1449.other W1454 (Or.inr (slot_ne (Or.inr (hw _ (List.mem_of_getElem? (i := 49) rfl))) (Or.inr (hw _ (List.mem_of_getElem? (i := 54) rfl))) (by decide) (t := (.array (.array .int))) (t' := (.array (.array .byte))) (by decide) (by decide)))
  have q1468 := A1410.other W1454 (Ne.symm ne1411)
  have q1469 := ai1452.other W1454 (Ne.symm ne1412)
  have q1470 := ai1453.other W1454 (Ne.symm ne1413)
  have q1471 := fu1455.same W1454
  have zz1472 := Nat.le_trans zz1450 (Nat.le_of_eq W1454.size.symm)
  have kk1473 : Keep h0 h1454 [y0] := kk1451.wr W1454 (Or.inl (by simp))
  refine g_aloadN X1454 hx hby own_d2_122 rfl rfl (pc' := 123) rfl ?_
  refine g_iloadN X1454 hx hby own_d2_123 rfl (pc' := 124) rfl ?_
  refine g_newarray (k := 2) (cap := 2) X1454 hx hby hZ (hw _ (List.mem_of_getElem? (i := 16) rfl)) own_d2_124 rfl (by decide) (by decide) (by decide) (by decide) (pc' := 126) rfl (fun T1474 h1474 b1474 g1474 X1474 E1474 A1474 => ?_)
  have ne1475 : y0 ≠ b1474 := by rw [g1474]; exact Nat.ne_of_lt q1456.lt
  have ne1476 : b1211 ≠ b1474 := by rw [g1474]; exact Nat.ne_of_lt q1459.lt
  have ne1477 : b1229 ≠ b1474 := by rw [g1474]; exact Nat.ne_of_lt q1461.lt
  have ne1478 : b1362 ≠ b1474 := by rw [g1474]; exact Nat.ne_of_lt q1464.lt
  have ne1479 : (b1362 + 1 + 0) ≠ b1474 := by rw [g1474]; exact Nat.ne_of_lt q1465.lt
  have ne1480 : (b1362 + 1 + 1) ≠ b1474 := by rw [g1474]; exact Nat.ne_of_lt q1466.lt
  have ne1481 : b1410 ≠ b1474 := by rw [g1474]; exact Nat.ne_of_lt q1468.lt
  have ne1482 : (b1410 + 1 + 0) ≠ b1474 := by rw [g1474]; exact Nat.ne_of_lt q1469.lt
  have ne1483 : (b1410 + 1 + 1) ≠ b1474 := by rw [g1474]; exact Nat.ne_of_lt q1470.lt
  have nn1484 : n0 ≤ b1474 := by rw [g1474]; exact zz1472
  have hh1485 : h0.size ≤ b1474 := by rw [g1474]; exact kk1473.1
  have q1486 := q1456.ext E1474
  have q1487 := q1457.ext E1474
  have q1488 := q1458.ext E1474
  have q1489 := q1459.ext E1474
  have q1490 := q1460.ext E1474
  have q1491 := q1461.ext E1474
  have q1492 := q1462.ext E1474
  have q1493 := q1463.ext E1474
  have q1494 := q1464.ext E1474
  have q1495 := q1465.ext E1474
  have q1496 := q1466.ext E1474
  have q1497 := q1467.ext E1474
  have q1498 := q1468.ext E1474
  have q1499 := q1469.ext E1474
  have q1500 := q1470.ext E1474
  have q1501 := q1471.ext E1474
  have zz1502 := Nat.le_trans zz1472 E1474.1
  have kk1503 : Keep h0 h1474 [y0] := kk1473.ext E1474
  obtain ⟨u1505, fu1505⟩ := own_fld_of q1486 q1487 (hw _ (List.mem_of_getElem? (i := 1) rfl)) (Or.inr (hw _ (List.mem_of_getElem? (i := 56) rfl)))
  refine g_putF X1474 hx hby hZ hown (hw _ (List.mem_of_getElem? (i := 55) rfl)) Via.refl fu1505 q1486 (Or.inr ⟨(hw _ (List.mem_of_getElem? (i := 56) rfl)), rfl, hnm⟩) (hw _ (List.mem_of_getElem? (i := 1) rfl)) (ty := (.array .long)) (by decide) rfl rfl gn own_d2_126 (pc' := 129) rfl (fun T1504 h1504 X1504 W1504 => ?_)
  have q1506 := q1486.wr W1504
  have q1507 := q1487.other W1504 (Or.inr (slot_ne (Or.inl (hw _ (List.mem_of_getElem? (i := 69) rfl))) (Or.inr (hw _ (List.mem_of_getElem? (i := 56) rfl))) (by decide) (t := .boolean) (t' := (.array .long)) (by decide) (by decide)))
  have q1508 := q1488.other W1504 (Or.inr (slot_ne (Or.inl (hw _ (List.mem_of_getElem? (i := 27) rfl))) (Or.inr (hw _ (List.mem_of_getElem? (i := 56) rfl))) (by decide) (t := .int) (t' := (.array .long)) (by decide) (by decide)))
  have q1509 := q1489.other W1504 (Ne.symm ne1212)
  have q1510 := q1490.other W1504 (Or.inr (slot_ne (Or.inr (hw _ (List.mem_of_getElem? (i := 32) rfl))) (Or.inr (hw _ (List.mem_of_getElem? (i := 56) rfl))) (by decide) (t := (.array .int)) (t' := (.array .long)) (by decide) (by decide)))
  have q1511 := q1491.other W1504 (Ne.symm ne1230)
  have q1512 := q1492.wr W1504
  have q1513 := q1493.other W1504 (Or.inr (slot_ne (Or.inr (hw _ (List.mem_of_getElem? (i := 36) rfl))) (Or.inr (hw _ (List.mem_of_getElem? (i := 56) rfl))) (by decide) (t := (.array (.object "com/example/basisbook/basisbook/Decimals"))) (t' := (.array .long)) (by decide) (by decide)))
  have q1514 := q1494.other W1504 (Ne.symm ne1363)
  have q1515 := q1495.other W1504 (Ne.symm ne1364)
  have q1516 := q1496.other W1504 (Ne.symm ne1365)
  have q1517 := q1497.other W1504 (Or.inr (slot_ne (Or.inr (hw _ (List.mem_of_getElem? (i := 49) rfl))) (Or.inr (hw _ (List.mem_of_getElem? (i := 56) rfl))) (by decide) (t := (.array (.array .int))) (t' := (.array .long)) (by decide) (by decide)))
  have q1518 := q1498.other W1504 (Ne.symm ne1411)
  have q1519 := q1499.other W1504 (Ne.symm ne1412)
  have q1520 := q1500.other W1504 (Ne.symm ne1413)
  have q1521 := q1501.other W1504 (Or.inr (slot_ne (Or.inr (hw _ (List.mem_of_getElem? (i := 54) rfl))) (Or.inr (hw _ (List.mem_of_getElem? (i := 56) rfl))) (by decide) (t := (.array (.array .byte))) (t' := (.array .long)) (by decide) (by decide)))
  have zz1522 := Nat.le_trans zz1502 (Nat.le_of_eq W1504.size.symm)
  have kk1523 : Keep h0 h1504 [y0] := kk1503.wr W1504 (Or.inl (by simp))
  refine g_aloadN X1504 hx hby own_d2_129 rfl rfl (pc' := 130) rfl ?_
  refine g_iloadN X1504 hx hby own_d2_130 rfl (pc' := 131) rfl ?_
  refine g_newarray (k := 2) (cap := 2) X1504 hx hby hZ (hw _ (List.mem_of_getElem? (i := 19) rfl)) own_d2_131 rfl (by decide) (by decide) (by decide) (by decide) (pc' := 133) rfl (fun T1524 h1524 b1524 g1524 X1524 E1524 A1524 => ?_)
  have ne1525 : y0 ≠ b1524 := by rw [g1524]; exact Nat.ne_of_lt q1506.lt
  have ne1526 : b1211 ≠ b1524 := by rw [g1524]; exact Nat.ne_of_lt q1509.lt
  have ne1527 : b1229 ≠ b1524 := by rw [g1524]; exact Nat.ne_of_lt q1511.lt
  have ne1528 : b1362 ≠ b1524 := by rw [g1524]; exact Nat.ne_of_lt q1514.lt
  have ne1529 : (b1362 + 1 + 0) ≠ b1524 := by rw [g1524]; exact Nat.ne_of_lt q1515.lt
  have ne1530 : (b1362 + 1 + 1) ≠ b1524 := by rw [g1524]; exact Nat.ne_of_lt q1516.lt
  have ne1531 : b1410 ≠ b1524 := by rw [g1524]; exact Nat.ne_of_lt q1518.lt
  have ne1532 : (b1410 + 1 + 0) ≠ b1524 := by rw [g1524]; exact Nat.ne_of_lt q1519.lt
  have ne1533 : (b1410 + 1 + 1) ≠ b1524 := by rw [g1524]; exact Nat.ne_of_lt q1520.lt
  have nn1534 : n0 ≤ b1524 := by rw [g1524]; exact zz1522
  have hh1535 : h0.size ≤ b1524 := by rw [g1524]; exact kk1523.1
  have q1536 := q1506.ext E1524
  have q1537 := q1507.ext E1524
  have q1538 := q1508.ext E1524
  have q1539 := q1509.ext E1524
  have q1540 := q1510.ext E1524
  have q1541 := q1511.ext E1524
  have q1542 := q1512.ext E1524
  have q1543 := q1513.ext E1524
  have q1544 := q1514.ext E1524
  have q1545 := q1515.ext E1524
  have q1546 := q1516.ext E1524
  have q1547 := q1517.ext E1524
  have q1548 := q1518.ext E1524
  have q1549 := q1519.ext E1524
  have q1550 := q1520.ext E1524
  have q1551 := q1521.ext E1524
  have zz1552 := Nat.le_trans zz1522 E1524.1
  have kk1553 : Keep h0 h1524 [y0] := kk1523.ext E1524
  obtain ⟨u1555, fu1555⟩ := own_fld_of q1536 q1537 (hw _ (List.mem_of_getElem? (i := 1) rfl)) (Or.inr (hw _ (List.mem_of_getElem? (i := 58) rfl)))
  refine g_putF X1524 hx hby hZ hown (hw _ (List.mem_of_getElem? (i := 57) rfl)) Via.refl fu1555 q1536 (Or.inr ⟨(hw _ (List.mem_of_getElem? (i := 58) rfl)), rfl, hnm⟩) (hw _ (List.mem_of_getElem? (i := 1) rfl)) (ty := (.array .int)) (by decide) rfl rfl gn own_d2_133 (pc' := 136) rfl (fun T1554 h1554 X1554 W1554 => ?_)
  have q1556 := q1536.wr W1554
  have q1557 := q1537.other W1554 (Or.inr (slot_ne (Or.inl (hw _ (List.mem_of_getElem? (i := 69) rfl))) (Or.inr (hw _ (List.mem_of_getElem? (i := 58) rfl))) (by decide) (t := .boolean) (t' := (.array .int)) (by decide) (by decide)))
  have q1558 := q1538.other W1554 (Or.inr (slot_ne (Or.inl (hw _ (List.mem_of_getElem? (i := 27) rfl))) (Or.inr (hw _ (List.mem_of_getElem? (i := 58) rfl))) (by decide) (t := .int) (t' := (.array .int)) (by decide) (by decide)))
  have q1559 := q1539.other W1554 (Ne.symm ne1212)
  have q1560 := q1540.other W1554 (Or.inr (slot_ne (Or.inr (hw _ (List.mem_of_getElem? (i := 32) rfl))) (Or.inr (hw _ (List.mem_of_getElem? (i := 58) rfl))) (by decide) (t := (.array .int)) (t' := (.array .int)) (by decide) (by decide)))
  have q1561 := q1541.other W1554 (Ne.symm ne1230)
  have q1562 := q1542.wr W1554
  have q1563 := q1543.other W1554 (Or.inr (slot_ne (Or.inr (hw _ (List.mem_of_getElem? (i := 36) rfl))) (Or.inr (hw _ (List.mem_of_getElem? (i := 58) rfl))) (by decide) (t := (.array (.object "com/example/basisbook/basisbook/Decimals"))) (t' := (.array .int)) (by decide) (by decide)))
  have q1564 := q1544.other W1554 (Ne.symm ne1363)
  have q1565 := q1545.other W1554 (Ne.symm ne1364)
  have q1566 := q1546.other W1554 (Ne.symm ne1365)
  have q1567 := q1547.other W1554 (Or.inr (slot_ne (Or.inr (hw _ (List.mem_of_getElem? (i := 49) rfl))) (Or.inr (hw _ (List.mem_of_getElem? (i := 58) rfl))) (by decide) (t := (.array (.array .int))) (t' := (.array .int)) (by decide) (by decide)))
  have q1568 := q1548.other W1554 (Ne.symm ne1411)
  have q1569 := q1549.other W1554 (Ne.symm ne1412)
  have q1570 := q1550.other W1554 (Ne.symm ne1413)
  have q1571 := q1551.other W1554 (Or.inr (slot_ne (Or.inr (hw _ (List.mem_of_getElem? (i := 54) rfl))) (Or.inr (hw _ (List.mem_of_getElem? (i := 58) rfl))) (by decide) (t := (.array (.array .byte))) (t' := (.array .int)) (by decide) (by decide)))
  have zz1572 := Nat.le_trans zz1552 (Nat.le_of_eq W1554.size.symm)
  have kk1573 : Keep h0 h1554 [y0] := kk1553.wr W1554 (Or.inl (by simp))
  refine g_aloadN X1554 hx hby own_d2_136 rfl rfl (pc' := 137) rfl ?_
  refine g_iloadN X1554 hx hby own_d2_137 rfl (pc' := 138) rfl ?_
  refine g_anewarray (k := 2) (cap := 2) X1554 hx hby hZ hown (hw _ (List.mem_of_getElem? (i := 59) rfl)) (hw _ (List.mem_of_getElem? (i := 60) rfl)) own_d2_138 rfl (by decide) (by decide) (by decide) (by decide) (pc' := 141) rfl (fun T1574 h1574 b1574 g1574 X1574 E1574 A1574 O1574 => ?_)
  have ne1575 : y0 ≠ b1574 := by rw [g1574]; exact Nat.ne_of_lt q1556.lt
  have ne1576 : b1211 ≠ b1574 := by rw [g1574]; exact Nat.ne_of_lt q1559.lt
  have ne1577 : b1229 ≠ b1574 := by rw [g1574]; exact Nat.ne_of_lt q1561.lt
  have ne1578 : b1362 ≠ b1574 := by rw [g1574]; exact Nat.ne_of_lt q1564.lt
  have ne1579 : (b1362 + 1 + 0) ≠ b1574 := by rw [g1574]; exact Nat.ne_of_lt q1565.lt
  have ne1580 : (b1362 + 1 + 1) ≠ b1574 := by rw [g1574]; exact Nat.ne_of_lt q1566.lt
  have ne1581 : b1410 ≠ b1574 := by rw [g1574]; exact Nat.ne_of_lt q1568.lt
  have ne1582 : (b1410 + 1 + 0) ≠ b1574 := by rw [g1574]; exact Nat.ne_of_lt q1569.lt
  have ne1583 : (b1410 + 1 + 1) ≠ b1574 := by rw [g1574]; exact Nat.ne_of_lt q1570.lt
  have nn1584 : n0 ≤ b1574 := by rw [g1574]; exact zz1572
  have hh1585 : h0.size ≤ b1574 := by rw [g1574]; exact kk1573.1
  have q1586 := q1556.ext E1574
  have q1587 := q1557.ext E1574
  have q1588 := q1558.ext E1574
  have q1589 := q1559.ext E1574
  have q1590 := q1560.ext E1574
  have q1591 := q1561.ext E1574
  have q1592 := q1562.ext E1574
  have q1593 := q1563.ext E1574
  have q1594 := q1564.ext E1574
  have q1595 := q1565.ext E1574
  have q1596 := q1566.ext E1574
  have q1597 := q1567.ext E1574
  have q1598 := q1568.ext E1574
  have q1599 := q1569.ext E1574
  have q1600 := q1570.ext E1574
  have q1601 := q1571.ext E1574
  have zz1602 := Nat.le_trans zz1572 E1574.1
  have kk1603 : Keep h0 h1574 [y0] := kk1573.ext E1574
  obtain ⟨u1605, fu1605⟩ := own_fld_of q1586 q1587 (hw _ (List.mem_of_getElem? (i := 1) rfl)) (Or.inr (hw _ (List.mem_of_getElem? (i := 62) rfl)))
  refine g_putF X1574 hx hby hZ hown (hw _ (List.mem_of_getElem? (i := 61) rfl)) Via.refl fu1605 q1586 (Or.inr ⟨(hw _ (List.mem_of_getElem? (i := 62) rfl)), rfl, hnm⟩) (hw _ (List.mem_of_getElem? (i := 1) rfl)) (ty := (.array (.object "java/math/BigDecimal"))) (by decide) rfl rfl gn own_d2_141 (pc' := 144) rfl (fun T1604 h1604 X1604 W1604 => ?_)
  have q1606 := q1586.wr W1604
  have q1607 := q1587.other W1604 (Or.inr (slot_ne (Or.inl (hw _ (List.mem_of_getElem? (i := 69) rfl))) (Or.inr (hw _ (List.mem_of_getElem? (i := 62) rfl))) (by decide) (t := .boolean) (t' := (.array (.object "java/math/BigDecimal"))) (by decide) (by decide)))
  have q1608 := q1588.other W1604 (Or.inr (slot_ne (Or.inl (hw _ (List.mem_of_getElem? (i := 27) rfl))) (Or.inr (hw _ (List.mem_of_getElem? (i := 62) rfl))) (by decide) (t := .int) (t' := (.array (.object "java/math/BigDecimal"))) (by decide) (by decide)))
  have q1609 := q1589.other W1604 (Ne.symm ne1212)
  have q1610 := q1590.other W1604 (Or.inr (slot_ne (Or.inr (hw _ (List.mem_of_getElem? (i := 32) rfl))) (Or.inr (hw _ (List.mem_of_getElem? (i := 62) rfl))) (by decide) (t := (.array .int)) (t' := (.array (.object "java/math/BigDecimal"))) (by decide) (by decide)))
  have q1611 := q1591.other W1604 (Ne.symm ne1230)
  have q1612 := q1592.wr W1604
  have q1613 := q1593.other W1604 (Or.inr (slot_ne (Or.inr (hw _ (List.mem_of_getElem? (i := 36) rfl))) (Or.inr (hw _ (List.mem_of_getElem? (i := 62) rfl))) (by decide) (t := (.array (.object "com/example/basisbook/basisbook/Decimals"))) (t' := (.array (.object "java/math/BigDecimal"))) (by decide) (by decide)))
  have q1614 := q1594.other W1604 (Ne.symm ne1363)
  have q1615 := q1595.other W1604 (Ne.symm ne1364)
  have q1616 := q1596.other W1604 (Ne.symm ne1365)
  have q1617 := q1597.other W1604 (Or.inr (slot_ne (Or.inr (hw _ (List.mem_of_getElem? (i := 49) rfl))) (Or.inr (hw _ (List.mem_of_getElem? (i := 62) rfl))) (by decide) (t := (.array (.array .int))) (t' := (.array (.object "java/math/BigDecimal"))) (by decide) (by decide)))
  have q1618 := q1598.other W1604 (Ne.symm ne1411)
  have q1619 := q1599.other W1604 (Ne.symm ne1412)
  have q1620 := q1600.other W1604 (Ne.symm ne1413)
  have q1621 := q1601.other W1604 (Or.inr (slot_ne (Or.inr (hw _ (List.mem_of_getElem? (i := 54) rfl))) (Or.inr (hw _ (List.mem_of_getElem? (i := 62) rfl))) (by decide) (t := (.array (.array .byte))) (t' := (.array (.object "java/math/BigDecimal"))) (by decide) (by decide)))
  have zz1622 := Nat.le_trans zz1602 (Nat.le_of_eq W1604.size.symm)
  have kk1623 : Keep h0 h1604 [y0] := kk1603.wr W1604 (Or.inl (by simp))
  exact g_ret X1604 hx hby hret hlk own_d2_144 ⟨rfl, kk1623, b1362, b1410, fun i => b1362 + 1 + i, fun i => b1410 + 1 + i, _, gn, zz1622, q1606, q1617, q1621, q1607, q1614, q1618, (own_fam2 ⟨nn1377, q1615⟩ ⟨nn1379, q1616⟩), (own_fam2 ⟨nn1434, fun _ => 0, q1619⟩ ⟨nn1436, fun _ => 0, q1620⟩), fun i j _ _ q => Nat.add_left_cancel q⟩ (by decide) (by decide)
theorem own_slot {p q : Int32} {ip iq : Nat} (hp : p.toInt = (ip : Int)) (hq : q.toInt = (iq : Int)) (h1 : ip < 64) (h2 : iq < 4) : (p * (4 : Int32) + q).toInt = ((ip * 4 + iq : Nat) : Int) := by
  have e1 := c_imul p 4; have e2 := rng32 (p * 4); have e3 := c_iadd (p * 4) q; have e4 := rng32 (p * 4 + q); have e5 : (4 : Int32).toInt = 4 := rfl
  rw [e5] at e1
  omega
set_option maxRecDepth 65536 in
set_option maxHeartbeats 40000000 in
theorem own_ef1624 (m : MethodId) (y0 : Addr) (y1 : Int32) (y2 : Int32) (y3 : Int32) (y4 : Int32)  : entryFrame m #[(.ref y0), (.int y1), (.int y2), (.int y3), (.int y4)] 7 = mkF m 0 #[.val (.ref y0), .val (.int y1), .val (.int y2), .val (.int y3), .val (.int y4), .unset, .unset] [] := by first | (simp [entryFrame, mkF, argsToLocals, Value.category, maxLocals]; done) | rfl
theorem own_d3_0 : decode prog_28_method_4_code 0 = .ok (.iload_n 2, 1) := by decide +kernel
theorem own_d3_1 : decode prog_28_method_4_code 1 = .ok (.iconst 4, 1) := by decide +kernel
theorem own_d3_2 : decode prog_28_method_4_code 2 = .ok (.imul, 1) := by decide +kernel
theorem own_d3_3 : decode prog_28_method_4_code 3 = .ok (.iload_n 3, 1) := by decide +kernel
theorem own_d3_4 : decode prog_28_method_4_code 4 = .ok (.iadd, 1) := by decide +kernel
theorem own_d3_5 : decode prog_28_method_4_code 5 = .ok (.istore 5, 2) := by decide +kernel
theorem own_d3_7 : decode prog_28_method_4_code 7 = .ok (.aload_n 0, 1) := by decide +kernel
theorem own_d3_8 : decode prog_28_method_4_code 8 = .ok (.getfield 43, 3) := by decide +kernel
theorem own_d3_11 : decode prog_28_method_4_code 11 = .ok (.iload_n 1, 1) := by decide +kernel
theorem own_d3_12 : decode prog_28_method_4_code 12 = .ok (.aaload, 1) := by decide +kernel
theorem own_d3_13 : decode prog_28_method_4_code 13 = .ok (.iload 5, 2) := by decide +kernel
theorem own_d3_15 : decode prog_28_method_4_code 15 = .ok (.iaload, 1) := by decide +kernel
theorem own_d3_16 : decode prog_28_method_4_code 16 = .ok (.istore 6, 2) := by decide +kernel
theorem own_d3_18 : decode prog_28_method_4_code 18 = .ok (.iload 6, 2) := by decide +kernel
theorem own_d3_20 : decode prog_28_method_4_code 20 = .ok (.ifCond .ne 46, 3) := by decide +kernel
theorem own_d3_66 : decode prog_28_method_4_code 66 = .ok (.iload 6, 2) := by decide +kernel
theorem own_d3_68 : decode prog_28_method_4_code 68 = .ok (.ireturn, 1) := by decide +kernel
theorem own_d3_23 : decode prog_28_method_4_code 23 = .ok (.aload_n 0, 1) := by decide +kernel
theorem own_d3_24 : decode prog_28_method_4_code 24 = .ok (.getfield 43, 3) := by decide +kernel
theorem own_d3_27 : decode prog_28_method_4_code 27 = .ok (.iload_n 1, 1) := by decide +kernel
theorem own_d3_28 : decode prog_28_method_4_code 28 = .ok (.aaload, 1) := by decide +kernel
theorem own_d3_29 : decode prog_28_method_4_code 29 = .ok (.iload 5, 2) := by decide +kernel
theorem own_d3_31 : decode prog_28_method_4_code 31 = .ok (.iload 4, 2) := by decide +kernel
theorem own_d3_33 : decode prog_28_method_4_code 33 = .ok (.iastore, 1) := by decide +kernel
theorem own_d3_34 : decode prog_28_method_4_code 34 = .ok (.aload_n 0, 1) := by decide +kernel
theorem own_d3_35 : decode prog_28_method_4_code 35 = .ok (.getfield 48, 3) := by decide +kernel
theorem own_d3_38 : decode prog_28_method_4_code 38 = .ok (.iload_n 1, 1) := by decide +kernel
theorem own_d3_39 : decode prog_28_method_4_code 39 = .ok (.aaload, 1) := by decide +kernel
theorem own_d3_40 : decode prog_28_method_4_code 40 = .ok (.iload_n 2, 1) := by decide +kernel
theorem own_d3_41 : decode prog_28_method_4_code 41 = .ok (.dup2, 1) := by decide +kernel
theorem own_d3_42 : decode prog_28_method_4_code 42 = .ok (.baload, 1) := by decide +kernel
theorem own_d3_43 : decode prog_28_method_4_code 43 = .ok (.iconst 1, 1) := by decide +kernel
theorem own_d3_44 : decode prog_28_method_4_code 44 = .ok (.iadd, 1) := by decide +kernel
theorem own_d3_45 : decode prog_28_method_4_code 45 = .ok (.i2b, 1) := by decide +kernel
theorem own_d3_46 : decode prog_28_method_4_code 46 = .ok (.bastore, 1) := by decide +kernel
theorem own_d3_47 : decode prog_28_method_4_code 47 = .ok (.aload_n 0, 1) := by decide +kernel
theorem own_d3_48 : decode prog_28_method_4_code 48 = .ok (.dup, 1) := by decide +kernel
theorem own_d3_49 : decode prog_28_method_4_code 49 = .ok (.getfield 99, 3) := by decide +kernel
theorem own_d3_52 : decode prog_28_method_4_code 52 = .ok (.iload_n 3, 1) := by decide +kernel
theorem own_d3_53 : decode prog_28_method_4_code 53 = .ok (.iconst 3, 1) := by decide +kernel
theorem own_d3_54 : decode prog_28_method_4_code 54 = .ok (.if_icmp .eq 7, 3) := by decide +kernel
theorem own_d3_61 : decode prog_28_method_4_code 61 = .ok (.iconst 0, 1) := by decide +kernel
theorem own_d3_62 : decode prog_28_method_4_code 62 = .ok (.ior, 1) := by decide +kernel
theorem own_d3_63 : decode prog_28_method_4_code 63 = .ok (.putfield 99, 3) := by decide +kernel
theorem own_d3_57 : decode prog_28_method_4_code 57 = .ok (.iconst 1, 1) := by decide +kernel
theorem own_d3_58 : decode prog_28_method_4_code 58 = .ok (.goto 4, 3) := by decide +kernel
set_option maxRecDepth 65536 in
set_option maxHeartbeats 40000000 in
theorem own_gv (l : Launch) (Z : State) (a0 : Array Value) (hw : ∀ d ∈ tables_1, d.before a0 Z = true) (y0 : Addr) (y1 y2 y3 y4 : Int32) (h0 : Heap) (n0 : Nat) (N t ip iq : Nat) (f : Nat → Nat → Int32) (SM0 : Sm Z n0 h0 y0 N f) (ht : y1.toInt = (t : Int)) (hp : y2.toInt = (ip : Int)) (hq : y3.toInt = (iq : Int)) (tN : t < N) (p64 : ip < 64) (q4 : iq < 4) :
    Ctr l Z (⟨"com/example/basisbook/basisbook/HourlyPrices$Sums", "give", "(IIII)I"⟩ : MethodName) prog_28_method_4_code 7 (some .int) [] (own_room 0 0 0 0) #[(.ref y0), (.int y1), (.int y2), (.int y3), (.int y4)] h0 n0 0 0 (fun v h => v = some (.int (f t (ip * 4 + iq))) ∧ Sm Z n0 h y0 N (own_give f t (ip * 4 + iq) y4)) := by
  refine Ctr.of (plainFor_of_name own_pn2) ?_
  intro p e s m below meth c T0 hx hby hml hret hlk hnm hown hZ X0
  rw [own_ef1624 m (y0) (y1) (y2) (y3) (y4)]
  obtain ⟨Ln, Gn, xs, gs, qq, SM⟩ := SM0
  have hsl := own_slot hp hq p64 q4
  obtain ⟨g1_1625, g2_1625, Ee1625, Fl1625, Fg1625, Fq1625, Al1625, Ag1625, Xx1625, Yy1625, inj1625⟩ := id SM
  refine g_iloadN X0 hx hby own_d3_0 rfl (pc' := 1) rfl ?_
  refine g_iconst (v := 4) X0 hx hby own_d3_1 rfl (pc' := 2) rfl ?_
  refine g_imul X0 hx hby own_d3_2 (pc' := 3) rfl ?_
  refine g_iloadN X0 hx hby own_d3_3 rfl (pc' := 4) rfl ?_
  refine g_iadd X0 hx hby own_d3_4 (pc' := 5) rfl ?_
  refine g_istore (L' := #[.val (.ref y0), .val (.int y1), .val (.int y2), .val (.int y3), .val (.int y4), .val (.int ((y2 * (4 : Int32)) + y3)), .unset]) X0 hx hby own_d3_5 rfl (pc' := 7) rfl ?_
  refine g_aloadN X0 hx hby own_d3_7 rfl rfl (pc' := 8) rfl ?_
  refine g_getF X0 hx hby hZ hown (hw _ (List.mem_of_getElem? (i := 48) rfl)) Via.refl Fl1625 own_d3_8 (pc' := 11) rfl (fun T1626 X1626 => ?_)
  refine g_iloadN X1626 hx hby own_d3_11 rfl (pc' := 12) rfl ?_
  refine g_aaload (i := t) (v := (.ref (xs t))) X1626 hx hby hZ Al1625 rfl ht tN rfl own_d3_12 (pc' := 13) rfl ?_
  refine g_iload X1626 hx hby own_d3_13 rfl (pc' := 15) rfl ?_
  refine g_iaload (i := (ip * 4 + iq)) (v := (.int (f t (ip * 4 + iq)))) X1626 hx hby hZ (Xx1625 t tN).2 hsl (by omega) rfl own_d3_15 (pc' := 16) rfl ?_
  refine g_istore (L' := #[.val (.ref y0), .val (.int y1), .val (.int y2), .val (.int y3), .val (.int y4), .val (.int ((y2 * (4 : Int32)) + y3)), .val (.int (f t (ip * 4 + iq)))]) X1626 hx hby own_d3_16 rfl (pc' := 18) rfl ?_
  refine g_iload X1626 hx hby own_d3_18 rfl (pc' := 20) rfl ?_
  refine g_if_ne X1626 hx hby own_d3_20 (by decide) (pc' := 66) (by decide) (pc2 := 23) rfl (fun c20_1627 => ?_) (fun c20_1627 => ?_)
  · refine g_iload X1626 hx hby own_d3_66 rfl (pc' := 68) rfl ?_
    exact g_retI X1626 hx hby hret hlk own_d3_68 ⟨rfl, by rw [own_give, if_neg c20_1627]; exact ⟨_, _, _, _, _, SM⟩⟩ (by decide) (by decide)
  · refine g_aloadN X1626 hx hby own_d3_23 rfl rfl (pc' := 24) rfl ?_
    refine g_getF X1626 hx hby hZ hown (hw _ (List.mem_of_getElem? (i := 48) rfl)) Via.refl Fl1625 own_d3_24 (pc' := 27) rfl (fun T1628 X1628 => ?_)
    refine g_iloadN X1628 hx hby own_d3_27 rfl (pc' := 28) rfl ?_
    refine g_aaload (i := t) (v := (.ref (xs t))) X1628 hx hby hZ Al1625 rfl ht tN rfl own_d3_28 (pc' := 29) rfl ?_
    refine g_iload X1628 hx hby own_d3_29 rfl (pc' := 31) rfl ?_
    refine g_iload X1628 hx hby own_d3_31 rfl (pc' := 33) rfl ?_
    refine g_iastore (i := (ip * 4 + iq)) X1628 hx hby hZ (Xx1625 t tN).2 hsl (by omega) (Xx1625 t tN).1 own_d3_33 (pc' := 34) rfl (fun T1629 h1629 sl1629 X1629 W1629 A1629 => ?_)
    have S1630 := SmC.line (hw _ (List.mem_of_getElem? (i := 1) rfl)) SM tN W1629 A1629
    obtain ⟨g1_1631, g2_1631, Ee1631, Fl1631, Fg1631, Fq1631, Al1631, Ag1631, Xx1631, Yy1631, inj1631⟩ := id S1630
    refine g_aloadN X1629 hx hby own_d3_34 rfl rfl (pc' := 35) rfl ?_
    refine g_getF X1629 hx hby hZ hown (hw _ (List.mem_of_getElem? (i := 53) rfl)) Via.refl Fg1631 own_d3_35 (pc' := 38) rfl (fun T1632 X1632 => ?_)
    refine g_iloadN X1632 hx hby own_d3_38 rfl (pc' := 39) rfl ?_
    refine g_aaload (i := t) (v := (.ref (gs t))) X1632 hx hby hZ Ag1631 rfl ht tN rfl own_d3_39 (pc' := 40) rfl ?_
    obtain ⟨gg, gA⟩ := (Yy1631 t tN).2
    refine g_iloadN X1632 hx hby own_d3_40 rfl (pc' := 41) rfl ?_
    refine g_dup2 X1632 hx hby own_d3_41 rfl rfl (pc' := 42) rfl ?_
    refine g_baload (i := ip) (v := (.int (gg ip))) X1632 hx hby hZ gA hp p64 rfl own_d3_42 (pc' := 43) rfl ?_
    refine g_iconst (v := 1) X1632 hx hby own_d3_43 rfl (pc' := 44) rfl ?_
    refine g_iadd X1632 hx hby own_d3_44 (pc' := 45) rfl ?_
    refine g_i2b X1632 hx hby own_d3_45 (pc' := 46) rfl ?_
    refine g_bastore (i := ip) X1632 hx hby hZ gA hp p64 (Yy1631 t tN).1 own_d3_46 (pc' := 47) rfl (fun T1633 h1633 sl1633 X1633 W1633 A1633 => ?_)
    have S1634 := SmC.byte (hw _ (List.mem_of_getElem? (i := 1) rfl)) S1630 tN gA W1633 A1633
    obtain ⟨g1_1635, g2_1635, Ee1635, Fl1635, Fg1635, Fq1635, Al1635, Ag1635, Xx1635, Yy1635, inj1635⟩ := id S1634
    refine g_aloadN X1633 hx hby own_d3_47 rfl rfl (pc' := 48) rfl ?_
    refine g_dup X1633 hx hby own_d3_48 rfl (pc' := 49) rfl ?_
    refine g_getF X1633 hx hby hZ hown (hw _ (List.mem_of_getElem? (i := 68) rfl)) Via.refl Fq1635 own_d3_49 (pc' := 52) rfl (fun T1636 X1636 => ?_)
    refine g_iloadN X1636 hx hby own_d3_52 rfl (pc' := 53) rfl ?_
    refine g_iconst (v := 3) X1636 hx hby own_d3_53 rfl (pc' := 54) rfl ?_
    refine g_icmp_eq X1636 hx hby own_d3_54 (by decide) (pc' := 61) (by decide) (pc2 := 57) rfl (fun c54_1637 => ?_) (fun c54_1637 => ?_)
    · refine g_iconst (v := 0) X1636 hx hby own_d3_61 rfl (pc' := 62) rfl ?_
      refine g_ior X1636 hx hby own_d3_62 (pc' := 63) rfl ?_
      refine g_putFN (v' := .int (nar .boolean (qq ||| (0 : Int32)))) X1636 hx hby hZ hown (hw _ (List.mem_of_getElem? (i := 68) rfl)) Via.refl Fq1635 Ee1635 (Or.inl (hw _ (List.mem_of_getElem? (i := 69) rfl))) (hw _ (List.mem_of_getElem? (i := 1) rfl)) (ty := .boolean) (by decide) rfl (fits_nar_bool _) g1_1635 own_d3_63 (pc' := 66) rfl (fun T1638 h1638 X1638 W1638 => ?_)
      have S1638 := SmC.quarter (hw _ (List.mem_of_getElem? (i := 1) rfl)) (Or.inr (hw _ (List.mem_of_getElem? (i := 49) rfl))) (Or.inr (hw _ (List.mem_of_getElem? (i := 54) rfl))) (Or.inl (hw _ (List.mem_of_getElem? (i := 69) rfl))) S1634 W1638
      refine g_iload X1638 hx hby own_d3_66 rfl (pc' := 68) rfl ?_
      exact g_retI X1638 hx hby hret hlk own_d3_68 ⟨rfl, by rw [own_give, if_pos c20_1627]; exact ⟨_, _, _, _, _, S1638⟩⟩ (by decide) (by decide)
    · refine g_iconst (v := 1) X1636 hx hby own_d3_57 rfl (pc' := 58) rfl ?_
      refine g_goto X1636 hx hby own_d3_58 (by decide) (pc' := 62) (by decide) ?_
      refine g_ior X1636 hx hby own_d3_62 (pc' := 63) rfl ?_
      refine g_putFN (v' := .int (nar .boolean (qq ||| (1 : Int32)))) X1636 hx hby hZ hown (hw _ (List.mem_of_getElem? (i := 68) rfl)) Via.refl Fq1635 Ee1635 (Or.inl (hw _ (List.mem_of_getElem? (i := 69) rfl))) (hw _ (List.mem_of_getElem? (i := 1) rfl)) (ty := .boolean) (by decide) rfl (fits_nar_bool _) g1_1635 own_d3_63 (pc' := 66) rfl (fun T1639 h1639 X1639 W1639 => ?_)
      have S1639 := SmC.quarter (hw _ (List.mem_of_getElem? (i := 1) rfl)) (Or.inr (hw _ (List.mem_of_getElem? (i := 49) rfl))) (Or.inr (hw _ (List.mem_of_getElem? (i := 54) rfl))) (Or.inl (hw _ (List.mem_of_getElem? (i := 69) rfl))) S1634 W1639
      refine g_iload X1639 hx hby own_d3_66 rfl (pc' := 68) rfl ?_
      exact g_retI X1639 hx hby hret hlk own_d3_68 ⟨rfl, by rw [own_give, if_pos c20_1627]; exact ⟨_, _, _, _, _, S1639⟩⟩ (by decide) (by decide)
theorem own_bit (x : Int32) : (x &&& (1 : Int32)) = 0 ∨ (x &&& (1 : Int32)) = 1 := and_one x
theorem own_tr1 (x : Int32) : 0 ≤ ((x &&& (1 : Int32)) % (1 : Int32)).toInt ∧ ((x &&& (1 : Int32)) % (1 : Int32)).toInt < 1 := by
  rcases and_one x with h | h <;> rw [h] <;> decide
theorem own_tr2 (x : Int32) : 0 ≤ ((x &&& (1 : Int32)) % (2 : Int32)).toInt ∧ ((x &&& (1 : Int32)) % (2 : Int32)).toInt < 2 := by
  rcases and_one x with h | h <;> rw [h] <;> decide
theorem own_m63 (x : Int32) : 0 ≤ (x &&& (63 : Int32)).toInt ∧ (x &&& (63 : Int32)).toInt < 64 := by
  have h1 := c_mask x 63 6 (by decide) (by decide); have h5 : ((2 ^ 6 : Nat) : Int) = 64 := rfl
  omega
theorem own_m3 (x : Int32) : 0 ≤ (x &&& (3 : Int32)).toInt ∧ (x &&& (3 : Int32)).toInt < 4 := by
  have h1 := c_mask x 3 2 (by decide) (by decide); have h5 : ((2 ^ 2 : Nat) : Int) = 4 := rfl
  omega
def own_r2 (t1 s1 t2 s2 : Nat) (l1 : Int32) : Int32 := own_give (fun _ _ => 0) t1 s1 l1 t2 s2
def own_r3 (t1 s1 t2 s2 : Nat) (l1 l2 : Int32) : Int32 := own_give (own_give (fun _ _ => 0) t1 s1 l1) t2 s2 l2 t1 s1
def own_r4 (t1 s1 t2 s2 : Nat) (l1 l2 l3 : Int32) : Int32 := own_give (own_give (own_give (fun _ _ => 0) t1 s1 l1) t2 s2 l2) t1 s1 l3 t2 s2
theorem own_g1 (t1 s1 : Nat) (l1 : Int32) : own_give (fun _ _ => 0) t1 s1 l1 = own_set (fun _ _ => 0) t1 s1 l1 := if_pos rfl
theorem own_same {t1 s1 t2 s2 : Nat} (l1 l2 l3 : Int32) (ht : t1 = t2) (hs : s1 = s2) : own_r2 t1 s1 t2 s2 l1 = l1 ∧ own_r3 t1 s1 t2 s2 l1 l2 = (if l1 = 0 then l2 else l1) ∧ own_r4 t1 s1 t2 s2 l1 l2 l3 = (if l1 = 0 then (if l2 = 0 then l3 else l2) else l1) := by
  subst ht hs
  unfold own_r2 own_r3 own_r4
  rw [own_g1]
  by_cases h1 : l1 = 0 <;> by_cases h2 : l2 = 0 <;> simp [own_give, own_set, h1, h2]
theorem own_diff {t1 s1 t2 s2 : Nat} (l1 l2 l3 : Int32) (hd : ¬ (t2 = t1 ∧ s2 = s1)) : own_r2 t1 s1 t2 s2 l1 = 0 ∧ own_r3 t1 s1 t2 s2 l1 l2 = l1 ∧ own_r4 t1 s1 t2 s2 l1 l2 l3 = l2 := by
  have hd' : ¬ (t1 = t2 ∧ s1 = s2) := fun q => hd ⟨q.1.symm, q.2.symm⟩
  unfold own_r2 own_r3 own_r4
  rw [own_g1]
  by_cases h1 : l1 = 0 <;> by_cases h2 : l2 = 0 <;> simp [own_give, own_set, h1, h2, hd, hd']
theorem own_i32 {x y : Int32} (q : x = y) : x.toInt = y.toInt := congrArg Int32.toInt q
theorem own_n32 {x y : Int32} (q : ¬ x = y) : ¬ x.toInt = y.toInt := fun z => q (Int32.toInt_inj.mp z)
set_option maxRecDepth 65536 in
set_option maxHeartbeats 40000000 in
theorem own_ef1640 (m : MethodId) (y0 : Int32) (y1 : Int32) (y2 : Int32) (y3 : Int32) (y4 : Int32)  : entryFrame m #[(.int y0), (.int y1), (.int y2), (.int y3), (.int y4)] maxLocals = mkF m 0 #[.val (.int y0), .val (.int y1), .val (.int y2), .val (.int y3), .val (.int y4), .unset, .unset, .unset, .unset, .unset, .unset, .unset, .unset, .unset, .unset, .unset, .unset, .unset, .unset, .unset, .unset, .unset, .unset] [] := by first | (simp [entryFrame, mkF, argsToLocals, Value.category, maxLocals]; done) | rfl
theorem own_pn3 : plainName "com/example/basisbook/basisbook/SumsGivePinLaw" = true := by first | (simp [plainName, overriddenIn]; done) | decide +kernel
theorem own_pd1 : parseMethodDescriptor "(IZ)V" = some ⟨[.int, .boolean], none⟩ := by decide +kernel
theorem own_pd2 : parseMethodDescriptor "(IIII)I" = some ⟨[.int, .int, .int, .int], (some .int)⟩ := by decide +kernel
set_option maxRecDepth 65536 in
set_option maxHeartbeats 40000000 in
theorem own_rm0 (l : Launch) (Z : State) (a0 : Array Value) (hw : ∀ d ∈ tables_1, d.before a0 Z = true) (y0 y1 y2 y3 y4 : Int32) (h0 : Heap) (n0 : Nat) (Z0 : n0 ≤ h0.size) :
    Ctr l Z x code maxLocals ret tables_1 room_1 #[(.int y0), (.int y1), (.int y2), (.int y3), (.int y4)] h0 n0 26 1112 (fun v h => v = some (.int 1)) := by
  refine Ctr.of (plainFor_of_name own_pn3) ?_
  intro p e s m below meth c T0 hx hby hml hret hlk hnm hown hZ X0
  rw [own_ef1640 m (y0) (y1) (y2) (y3) (y4)]
  refine g_iloadN X0 hx hby at_0 rfl (pc' := 1) rfl ?_
  refine g_iconst (v := 1) X0 hx hby at_1 rfl (pc' := 2) rfl ?_
  refine g_iand X0 hx hby at_2 (pc' := 3) rfl ?_
  refine g_if_eq X0 hx hby at_3 (by decide) (pc' := 10) (by decide) (pc2 := 6) rfl (fun c3_1641 => ?_) (fun c3_1641 => ?_)
  · refine g_iconst (v := 0) X0 hx hby at_10 rfl (pc' := 11) rfl ?_
    refine g_istore (L' := #[.val (.int y0), .val (.int y1), .val (.int y2), .val (.int y3), .val (.int y4), .val (.int (0 : Int32)), .unset, .unset, .unset, .unset, .unset, .unset, .unset, .unset, .unset, .unset, .unset, .unset, .unset, .unset, .unset, .unset, .unset]) X0 hx hby at_11 rfl (pc' := 13) rfl ?_
    refine g_iconst (v := 1) X0 hx hby at_13 rfl (pc' := 14) rfl ?_
    refine g_iloadN X0 hx hby at_14 rfl (pc' := 15) rfl ?_
    refine g_iconst (v := 1) X0 hx hby at_15 rfl (pc' := 16) rfl ?_
    refine g_iushr X0 hx hby at_16 (pc' := 17) rfl ?_
    refine g_iconst (v := 1) X0 hx hby at_17 rfl (pc' := 18) rfl ?_
    refine g_iand X0 hx hby at_18 (pc' := 19) rfl ?_
    refine g_iadd X0 hx hby at_19 (pc' := 20) rfl ?_
    rcases own_bit ((y0.toUInt32 >>> ((1 : Int32) &&& 31).toUInt32).toInt32) with hb1 | hb1 <;> rw [hb1]
    · show Gl p e below n0 _ _ (T0.setTop (mkF m 20 #[.val (.int y0), .val (.int y1), .val (.int y2), .val (.int y3), .val (.int y4), .val (.int (0 : Int32)), .unset, .unset, .unset, .unset, .unset, .unset, .unset, .unset, .unset, .unset, .unset, .unset, .unset, .unset, .unset, .unset, .unset] [(.int (1 : Int32))]))
      refine g_istore (L' := #[.val (.int y0), .val (.int y1), .val (.int y2), .val (.int y3), .val (.int y4), .val (.int (0 : Int32)), .val (.int (1 : Int32)), .unset, .unset, .unset, .unset, .unset, .unset, .unset, .unset, .unset, .unset, .unset, .unset, .unset, .unset, .unset, .unset]) X0 hx hby at_20 rfl (pc' := 22) rfl ?_
      refine g_iload X0 hx hby at_22 rfl (pc' := 24) rfl ?_
      refine g_if_eq X0 hx hby at_24 (by decide) (pc' := 32) (by decide) (pc2 := 27) rfl (fun c24_1642 => ?_) (fun q => absurd (by decide) q)
      refine g_iconst (v := 1) X0 hx hby at_32 rfl (pc' := 33) rfl ?_
      refine g_istore (L' := #[.val (.int y0), .val (.int y1), .val (.int y2), .val (.int y3), .val (.int y4), .val (.int (0 : Int32)), .val (.int (1 : Int32)), .val (.int (1 : Int32)), .unset, .unset, .unset, .unset, .unset, .unset, .unset, .unset, .unset, .unset, .unset, .unset, .unset, .unset, .unset]) X0 hx hby at_33 rfl (pc' := 35) rfl ?_
      refine g_iloadN X0 hx hby at_35 rfl (pc' := 36) rfl ?_
      refine g_iconst (v := 2) X0 hx hby at_36 rfl (pc' := 37) rfl ?_
      refine g_iushr X0 hx hby at_37 (pc' := 38) rfl ?_
      refine g_iconst (v := 1) X0 hx hby at_38 rfl (pc' := 39) rfl ?_
      refine g_iand X0 hx hby at_39 (pc' := 40) rfl ?_
      refine g_iload X0 hx hby at_40 rfl (pc' := 42) rfl ?_
      refine g_irem X0 hx hby at_42 (by decide) (pc' := 43) rfl ?_
      refine g_istore (L' := #[.val (.int y0), .val (.int y1), .val (.int y2), .val (.int y3), .val (.int y4), .val (.int (0 : Int32)), .val (.int (1 : Int32)), .val (.int (1 : Int32)), .val (.int ((((y0.toUInt32 >>> ((2 : Int32) &&& 31).toUInt32).toInt32) &&& (1 : Int32)) % (1 : Int32))), .unset, .unset, .unset, .unset, .unset, .unset, .unset, .unset, .unset, .unset, .unset, .unset, .unset, .unset]) X0 hx hby at_43 rfl (pc' := 45) rfl ?_
      obtain ⟨z1643, hz1643⟩ : ∃ z, z = ((((y0.toUInt32 >>> ((2 : Int32) &&& 31).toUInt32).toInt32) &&& (1 : Int32)) % (1 : Int32)) := ⟨_, rfl⟩
      rw [← hz1643]
      have bn1644 : 0 ≤ z1643.toInt ∧ z1643.toInt < 1 := by rw [hz1643]; exact own_tr1 _
      refine g_iloadN X0 hx hby at_45 rfl (pc' := 46) rfl ?_
      refine g_iconst (v := 3) X0 hx hby at_46 rfl (pc' := 47) rfl ?_
      refine g_iushr X0 hx hby at_47 (pc' := 48) rfl ?_
      refine g_bipush (v := 63) X0 hx hby at_48 rfl (pc' := 50) rfl ?_
      refine g_iand X0 hx hby at_50 (pc' := 51) rfl ?_
      refine g_istore (L' := #[.val (.int y0), .val (.int y1), .val (.int y2), .val (.int y3), .val (.int y4), .val (.int (0 : Int32)), .val (.int (1 : Int32)), .val (.int (1 : Int32)), .val (.int z1643), .val (.int (((y0.toUInt32 >>> ((3 : Int32) &&& 31).toUInt32).toInt32) &&& (63 : Int32))), .unset, .unset, .unset, .unset, .unset, .unset, .unset, .unset, .unset, .unset, .unset, .unset, .unset]) X0 hx hby at_51 rfl (pc' := 53) rfl ?_
      obtain ⟨z1645, hz1645⟩ : ∃ z, z = (((y0.toUInt32 >>> ((3 : Int32) &&& 31).toUInt32).toInt32) &&& (63 : Int32)) := ⟨_, rfl⟩
      rw [← hz1645]
      have bn1646 : 0 ≤ z1645.toInt ∧ z1645.toInt < 64 := by rw [hz1645]; exact own_m63 _
      refine g_iloadN X0 hx hby at_53 rfl (pc' := 54) rfl ?_
      refine g_bipush (v := 9) X0 hx hby at_54 rfl (pc' := 56) rfl ?_
      refine g_iushr X0 hx hby at_56 (pc' := 57) rfl ?_
      refine g_iconst (v := 3) X0 hx hby at_57 rfl (pc' := 58) rfl ?_
      refine g_iand X0 hx hby at_58 (pc' := 59) rfl ?_
      refine g_istore (L' := #[.val (.int y0), .val (.int y1), .val (.int y2), .val (.int y3), .val (.int y4), .val (.int (0 : Int32)), .val (.int (1 : Int32)), .val (.int (1 : Int32)), .val (.int z1643), .val (.int z1645), .val (.int (((y0.toUInt32 >>> ((9 : Int32) &&& 31).toUInt32).toInt32) &&& (3 : Int32))), .unset, .unset, .unset, .unset, .unset, .unset, .unset, .unset, .unset, .unset, .unset, .unset]) X0 hx hby at_59 rfl (pc' := 61) rfl ?_
      obtain ⟨z1647, hz1647⟩ : ∃ z, z = (((y0.toUInt32 >>> ((9 : Int32) &&& 31).toUInt32).toInt32) &&& (3 : Int32)) := ⟨_, rfl⟩
      rw [← hz1647]
      have bn1648 : 0 ≤ z1647.toInt ∧ z1647.toInt < 4 := by rw [hz1647]; exact own_m3 _
      refine g_iloadN X0 hx hby at_61 rfl (pc' := 62) rfl ?_
      refine g_iconst (v := 1) X0 hx hby at_62 rfl (pc' := 63) rfl ?_
      refine g_iand X0 hx hby at_63 (pc' := 64) rfl ?_
      refine g_iload X0 hx hby at_64 rfl (pc' := 66) rfl ?_
      refine g_irem X0 hx hby at_66 (by decide) (pc' := 67) rfl ?_
      refine g_istore (L' := #[.val (.int y0), .val (.int y1), .val (.int y2), .val (.int y3), .val (.int y4), .val (.int (0 : Int32)), .val (.int (1 : Int32)), .val (.int (1 : Int32)), .val (.int z1643), .val (.int z1645), .val (.int z1647), .val (.int ((y1 &&& (1 : Int32)) % (1 : Int32))), .unset, .unset, .unset, .unset, .unset, .unset, .unset, .unset, .unset, .unset, .unset]) X0 hx hby at_67 rfl (pc' := 69) rfl ?_
      obtain ⟨z1649, hz1649⟩ : ∃ z, z = ((y1 &&& (1 : Int32)) % (1 : Int32)) := ⟨_, rfl⟩
      rw [← hz1649]
      have bn1650 : 0 ≤ z1649.toInt ∧ z1649.toInt < 1 := by rw [hz1649]; exact own_tr1 _
      refine g_iloadN X0 hx hby at_69 rfl (pc' := 70) rfl ?_
      refine g_iconst (v := 1) X0 hx hby at_70 rfl (pc' := 71) rfl ?_
      refine g_iushr X0 hx hby at_71 (pc' := 72) rfl ?_
      refine g_bipush (v := 63) X0 hx hby at_72 rfl (pc' := 74) rfl ?_
      refine g_iand X0 hx hby at_74 (pc' := 75) rfl ?_
      refine g_istore (L' := #[.val (.int y0), .val (.int y1), .val (.int y2), .val (.int y3), .val (.int y4), .val (.int (0 : Int32)), .val (.int (1 : Int32)), .val (.int (1 : Int32)), .val (.int z1643), .val (.int z1645), .val (.int z1647), .val (.int z1649), .val (.int (((y1.toUInt32 >>> ((1 : Int32) &&& 31).toUInt32).toInt32) &&& (63 : Int32))), .unset, .unset, .unset, .unset, .unset, .unset, .unset, .unset, .unset, .unset]) X0 hx hby at_75 rfl (pc' := 77) rfl ?_
      obtain ⟨z1651, hz1651⟩ : ∃ z, z = (((y1.toUInt32 >>> ((1 : Int32) &&& 31).toUInt32).toInt32) &&& (63 : Int32)) := ⟨_, rfl⟩
      rw [← hz1651]
      have bn1652 : 0 ≤ z1651.toInt ∧ z1651.toInt < 64 := by rw [hz1651]; exact own_m63 _
      refine g_iloadN X0 hx hby at_77 rfl (pc' := 78) rfl ?_
      refine g_bipush (v := 7) X0 hx hby at_78 rfl (pc' := 80) rfl ?_
      refine g_iushr X0 hx hby at_80 (pc' := 81) rfl ?_
      refine g_iconst (v := 3) X0 hx hby at_81 rfl (pc' := 82) rfl ?_
      refine g_iand X0 hx hby at_82 (pc' := 83) rfl ?_
      refine g_istore (L' := #[.val (.int y0), .val (.int y1), .val (.int y2), .val (.int y3), .val (.int y4), .val (.int (0 : Int32)), .val (.int (1 : Int32)), .val (.int (1 : Int32)), .val (.int z1643), .val (.int z1645), .val (.int z1647), .val (.int z1649), .val (.int z1651), .val (.int (((y1.toUInt32 >>> ((7 : Int32) &&& 31).toUInt32).toInt32) &&& (3 : Int32))), .unset, .unset, .unset, .unset, .unset, .unset, .unset, .unset, .unset]) X0 hx hby at_83 rfl (pc' := 85) rfl ?_
      obtain ⟨z1653, hz1653⟩ : ∃ z, z = (((y1.toUInt32 >>> ((7 : Int32) &&& 31).toUInt32).toInt32) &&& (3 : Int32)) := ⟨_, rfl⟩
      rw [← hz1653]
      have bn1654 : 0 ≤ z1653.toInt ∧ z1653.toInt < 4 := by rw [hz1653]; exact own_m3 _
      refine g_new X0 hx hby hZ hown (hw _ (List.mem_of_getElem? (i := 0) rfl)) (hw _ (List.mem_of_getElem? (i := 1) rfl)) (hw _ (List.mem_of_getElem? (i := 2) rfl)) at_85 (by decide) (by decide) (pc' := 88) rfl (fun T1655 h1655 b1655 g1655 X1655 E1655 A1655 D1655 => ?_)
      have nn1656 : n0 ≤ b1655 := by rw [g1655]; exact Z0
      have hh1657 : h0.size ≤ b1655 := by rw [g1655]; exact (Keep.refl h0 []).1
      have zz1658 := Nat.le_trans Z0 E1655.1
      have kk1659 : Keep h0 h1655 [] := (Keep.refl h0 []).ext E1655
      have q1660 : Fld Z h1655 b1655 "com/example/basisbook/basisbook/HourlyPrices$Sums" "hours" "Lcom/example/basisbook/basisbook/LongIndex;" .null := D1655 (Or.inr (hw _ (List.mem_of_getElem? (i := 25) rfl))) (ty := (.object "com/example/basisbook/basisbook/LongIndex")) (by decide)
      have q1661 : Fld Z h1655 b1655 "com/example/basisbook/basisbook/HourlyPrices$Sums" "capacity" "I" (.int (0 : Int32)) := D1655 (Or.inl (hw _ (List.mem_of_getElem? (i := 27) rfl))) (ty := .int) (by decide)
      have q1662 : Fld Z h1655 b1655 "com/example/basisbook/basisbook/HourlyPrices$Sums" "lastHour" "J" (.long (0 : Int64)) := D1655 (Or.inl (hw _ (List.mem_of_getElem? (i := 30) rfl))) (ty := .long) (by decide)
      have q1663 : Fld Z h1655 b1655 "com/example/basisbook/basisbook/HourlyPrices$Sums" "tracks" "[I" .null := D1655 (Or.inr (hw _ (List.mem_of_getElem? (i := 32) rfl))) (ty := (.array .int)) (by decide)
      have q1664 : Fld Z h1655 b1655 "com/example/basisbook/basisbook/HourlyPrices$Sums" "prices" "[Lcom/example/basisbook/basisbook/Decimals;" .null := D1655 (Or.inr (hw _ (List.mem_of_getElem? (i := 36) rfl))) (ty := (.array (.object "com/example/basisbook/basisbook/Decimals"))) (by decide)
      have q1665 : Fld Z h1655 b1655 "com/example/basisbook/basisbook/HourlyPrices$Sums" "lines" "[[I" .null := D1655 (Or.inr (hw _ (List.mem_of_getElem? (i := 49) rfl))) (ty := (.array (.array .int))) (by decide)
      have q1666 : Fld Z h1655 b1655 "com/example/basisbook/basisbook/HourlyPrices$Sums" "given" "[[B" .null := D1655 (Or.inr (hw _ (List.mem_of_getElem? (i := 54) rfl))) (ty := (.array (.array .byte))) (by decide)
      have q1667 : Fld Z h1655 b1655 "com/example/basisbook/basisbook/HourlyPrices$Sums" "digits" "[J" .null := D1655 (Or.inr (hw _ (List.mem_of_getElem? (i := 56) rfl))) (ty := (.array .long)) (by decide)
      have q1668 : Fld Z h1655 b1655 "com/example/basisbook/basisbook/HourlyPrices$Sums" "decimals" "[I" .null := D1655 (Or.inr (hw _ (List.mem_of_getElem? (i := 58) rfl))) (ty := (.array .int)) (by decide)
      have q1669 : Fld Z h1655 b1655 "com/example/basisbook/basisbook/HourlyPrices$Sums" "beyondLong" "[Ljava/math/BigDecimal;" .null := D1655 (Or.inr (hw _ (List.mem_of_getElem? (i := 62) rfl))) (ty := (.array (.object "java/math/BigDecimal"))) (by decide)
      have q1670 : Fld Z h1655 b1655 "com/example/basisbook/basisbook/HourlyPrices$Sums" "quarterHourly" "Z" (.int (0 : Int32)) := D1655 (Or.inl (hw _ (List.mem_of_getElem? (i := 69) rfl))) (ty := .boolean) (by decide)
      refine g_dup X1655 hx hby at_88 rfl (pc' := 89) rfl ?_
      refine g_iload X1655 hx hby at_89 rfl (pc' := 91) rfl ?_
      refine g_iload X1655 hx hby at_91 rfl (pc' := 93) rfl ?_
      refine g_callC (argsL := [(.int (1 : Int32)), (.int (0 : Int32))]) (S := [(.ref b1655)]) (a := b1655) X1655 hx hby hZ (y := (⟨"com/example/basisbook/basisbook/HourlyPrices$Sums", "<init>", "(IZ)V"⟩ : MethodName)) rfl hown (hw _ (List.mem_of_getElem? (i := 3) rfl)) (hw _ (List.mem_of_getElem? (i := 4) rfl)) (hw _ (List.mem_of_getElem? (i := 2) rfl)) (hw _ (List.mem_of_getElem? (i := 5) rfl)) (by decide) (own_su10 l Z a0 hw b1655 h1655 n0 zz1658 A1655 q1670 nn1656) (by rw [hml]; rfl) (lenOf own_pd1 rfl) rfl at_93 (by decide) (W := 1) (by exact Nat.le_of_eq rfl) (by decide) (by decide) (by decide) (pc' := 96) rfl (fun T1671 v1671 X1671 hQ1671 => ?_)
      obtain ⟨rfl, ka1671, sm1671⟩ := hQ1671
      have q1672 := A1655.keep ka1671
      have zz1673 := Nat.le_trans zz1658 ka1671.1
      have kk1674 : Keep h0 T1671.heap [] := kk1659.trans ka1671 (allS (Or.inr hh1657) all0)
      show Gl p e below n0 _ _ (T1671.setTop (mkF m 96 #[.val (.int y0), .val (.int y1), .val (.int y2), .val (.int y3), .val (.int y4), .val (.int (0 : Int32)), .val (.int (1 : Int32)), .val (.int (1 : Int32)), .val (.int z1643), .val (.int z1645), .val (.int z1647), .val (.int z1649), .val (.int z1651), .val (.int z1653), .unset, .unset, .unset, .unset, .unset, .unset, .unset, .unset, .unset] [(.ref b1655)]))
      refine g_astore (L' := #[.val (.int y0), .val (.int y1), .val (.int y2), .val (.int y3), .val (.int y4), .val (.int (0 : Int32)), .val (.int (1 : Int32)), .val (.int (1 : Int32)), .val (.int z1643), .val (.int z1645), .val (.int z1647), .val (.int z1649), .val (.int z1651), .val (.int z1653), .val (.ref b1655), .unset, .unset, .unset, .unset, .unset, .unset, .unset, .unset]) X1671 hx hby at_96 rfl rfl (pc' := 98) rfl ?_
      refine g_aload X1671 hx hby at_98 rfl rfl (pc' := 100) rfl ?_
      refine g_iload X1671 hx hby at_100 rfl (pc' := 102) rfl ?_
      refine g_iload X1671 hx hby at_102 rfl (pc' := 104) rfl ?_
      refine g_iload X1671 hx hby at_104 rfl (pc' := 106) rfl ?_
      refine g_iloadN X1671 hx hby at_106 rfl (pc' := 107) rfl ?_
      have ex1676 : Exa Z T1671.heap b1655 "com/example/basisbook/basisbook/HourlyPrices$Sums" := by obtain ⟨_, _, _, _, _, _, _, E, -⟩ := sm1671; exact E
      refine g_callV (argsL := [(.int z1643), (.int z1645), (.int z1647), (.int y2)]) (S := []) (a := b1655) X1671 hx hby hZ (y := (⟨"com/example/basisbook/basisbook/HourlyPrices$Sums", "give", "(IIII)I"⟩ : MethodName)) (y' := (⟨"com/example/basisbook/basisbook/HourlyPrices$Sums", "give", "(IIII)I"⟩ : MethodName)) hown (hw _ (List.mem_of_getElem? (i := 63) rfl)) (hw _ (List.mem_of_getElem? (i := 64) rfl)) (notFace_of_selects (args := #[]) (mvT hZ (hw _ (List.mem_of_getElem? (i := 66) rfl)))) (hw _ (List.mem_of_getElem? (i := 66) rfl)) (hw _ (List.mem_of_getElem? (i := 65) rfl)) (hw _ (List.mem_of_getElem? (i := 2) rfl)) (hw _ (List.mem_of_getElem? (i := 67) rfl)) (by decide) ex1676 (own_gv l Z a0 hw b1655 z1643 z1645 z1647 y2 T1671.heap n0 1 z1643.toInt.toNat z1645.toInt.toNat z1647.toInt.toNat (fun _ _ => 0) sm1671 (by omega) (by omega) (by omega) (by omega) (by omega) (by omega)) (by rw [hml]; rfl) (lenOf own_pd2 rfl) rfl at_107 (by decide) (W := 0) (by exact Nat.le_of_eq rfl) (by decide) (by decide) (by decide) (pc' := 110) rfl (fun T1675 v1675 X1675 hQ1675 => ?_)
      obtain ⟨rfl, sm1675⟩ := hQ1675
      show Gl p e below n0 _ _ (T1675.setTop (mkF m 110 #[.val (.int y0), .val (.int y1), .val (.int y2), .val (.int y3), .val (.int y4), .val (.int (0 : Int32)), .val (.int (1 : Int32)), .val (.int (1 : Int32)), .val (.int z1643), .val (.int z1645), .val (.int z1647), .val (.int z1649), .val (.int z1651), .val (.int z1653), .val (.ref b1655), .unset, .unset, .unset, .unset, .unset, .unset, .unset, .unset] [(.int ((fun _ _ => 0) z1643.toInt.toNat (z1645.toInt.toNat * 4 + z1647.toInt.toNat)))]))
      refine g_istore (L' := #[.val (.int y0), .val (.int y1), .val (.int y2), .val (.int y3), .val (.int y4), .val (.int (0 : Int32)), .val (.int (1 : Int32)), .val (.int (1 : Int32)), .val (.int z1643), .val (.int z1645), .val (.int z1647), .val (.int z1649), .val (.int z1651), .val (.int z1653), .val (.ref b1655), .val (.int ((fun _ _ => 0) z1643.toInt.toNat (z1645.toInt.toNat * 4 + z1647.toInt.toNat))), .unset, .unset, .unset, .unset, .unset, .unset, .unset]) X1675 hx hby at_110 rfl (pc' := 112) rfl ?_
      refine g_aload X1675 hx hby at_112 rfl rfl (pc' := 114) rfl ?_
      refine g_iload X1675 hx hby at_114 rfl (pc' := 116) rfl ?_
      refine g_iload X1675 hx hby at_116 rfl (pc' := 118) rfl ?_
      refine g_iload X1675 hx hby at_118 rfl (pc' := 120) rfl ?_
      refine g_iloadN X1675 hx hby at_120 rfl (pc' := 121) rfl ?_
      have ex1678 : Exa Z T1675.heap b1655 "com/example/basisbook/basisbook/HourlyPrices$Sums" := by obtain ⟨_, _, _, _, _, _, _, E, -⟩ := sm1675; exact E
      refine g_callV (argsL := [(.int z1649), (.int z1651), (.int z1653), (.int y3)]) (S := []) (a := b1655) X1675 hx hby hZ (y := (⟨"com/example/basisbook/basisbook/HourlyPrices$Sums", "give", "(IIII)I"⟩ : MethodName)) (y' := (⟨"com/example/basisbook/basisbook/HourlyPrices$Sums", "give", "(IIII)I"⟩ : MethodName)) hown (hw _ (List.mem_of_getElem? (i := 63) rfl)) (hw _ (List.mem_of_getElem? (i := 64) rfl)) (notFace_of_selects (args := #[]) (mvT hZ (hw _ (List.mem_of_getElem? (i := 66) rfl)))) (hw _ (List.mem_of_getElem? (i := 66) rfl)) (hw _ (List.mem_of_getElem? (i := 65) rfl)) (hw _ (List.mem_of_getElem? (i := 2) rfl)) (hw _ (List.mem_of_getElem? (i := 67) rfl)) (by decide) ex1678 (own_gv l Z a0 hw b1655 z1649 z1651 z1653 y3 T1675.heap n0 1 z1649.toInt.toNat z1651.toInt.toNat z1653.toInt.toNat (own_give (fun _ _ => 0) z1643.toInt.toNat (z1645.toInt.toNat * 4 + z1647.toInt.toNat) y2) sm1675 (by omega) (by omega) (by omega) (by omega) (by omega) (by omega)) (by rw [hml]; rfl) (lenOf own_pd2 rfl) rfl at_121 (by decide) (W := 0) (by exact Nat.le_of_eq rfl) (by decide) (by decide) (by decide) (pc' := 124) rfl (fun T1677 v1677 X1677 hQ1677 => ?_)
      obtain ⟨rfl, sm1677⟩ := hQ1677
      show Gl p e below n0 _ _ (T1677.setTop (mkF m 124 #[.val (.int y0), .val (.int y1), .val (.int y2), .val (.int y3), .val (.int y4), .val (.int (0 : Int32)), .val (.int (1 : Int32)), .val (.int (1 : Int32)), .val (.int z1643), .val (.int z1645), .val (.int z1647), .val (.int z1649), .val (.int z1651), .val (.int z1653), .val (.ref b1655), .val (.int ((fun _ _ => 0) z1643.toInt.toNat (z1645.toInt.toNat * 4 + z1647.toInt.toNat))), .unset, .unset, .unset, .unset, .unset, .unset, .unset] [(.int ((own_give (fun _ _ => 0) z1643.toInt.toNat (z1645.toInt.toNat * 4 + z1647.toInt.toNat) y2) z1649.toInt.toNat (z1651.toInt.toNat * 4 + z1653.toInt.toNat)))]))
      refine g_istore (L' := #[.val (.int y0), .val (.int y1), .val (.int y2), .val (.int y3), .val (.int y4), .val (.int (0 : Int32)), .val (.int (1 : Int32)), .val (.int (1 : Int32)), .val (.int z1643), .val (.int z1645), .val (.int z1647), .val (.int z1649), .val (.int z1651), .val (.int z1653), .val (.ref b1655), .val (.int ((fun _ _ => 0) z1643.toInt.toNat (z1645.toInt.toNat * 4 + z1647.toInt.toNat))), .val (.int ((own_give (fun _ _ => 0) z1643.toInt.toNat (z1645.toInt.toNat * 4 + z1647.toInt.toNat) y2) z1649.toInt.toNat (z1651.toInt.toNat * 4 + z1653.toInt.toNat))), .unset, .unset, .unset, .unset, .unset, .unset]) X1677 hx hby at_124 rfl (pc' := 126) rfl ?_
      refine g_aload X1677 hx hby at_126 rfl rfl (pc' := 128) rfl ?_
      refine g_iload X1677 hx hby at_128 rfl (pc' := 130) rfl ?_
      refine g_iload X1677 hx hby at_130 rfl (pc' := 132) rfl ?_
      refine g_iload X1677 hx hby at_132 rfl (pc' := 134) rfl ?_
      refine g_iload X1677 hx hby at_134 rfl (pc' := 136) rfl ?_
      have ex1680 : Exa Z T1677.heap b1655 "com/example/basisbook/basisbook/HourlyPrices$Sums" := by obtain ⟨_, _, _, _, _, _, _, E, -⟩ := sm1677; exact E
      refine g_callV (argsL := [(.int z1643), (.int z1645), (.int z1647), (.int y4)]) (S := []) (a := b1655) X1677 hx hby hZ (y := (⟨"com/example/basisbook/basisbook/HourlyPrices$Sums", "give", "(IIII)I"⟩ : MethodName)) (y' := (⟨"com/example/basisbook/basisbook/HourlyPrices$Sums", "give", "(IIII)I"⟩ : MethodName)) hown (hw _ (List.mem_of_getElem? (i := 63) rfl)) (hw _ (List.mem_of_getElem? (i := 64) rfl)) (notFace_of_selects (args := #[]) (mvT hZ (hw _ (List.mem_of_getElem? (i := 66) rfl)))) (hw _ (List.mem_of_getElem? (i := 66) rfl)) (hw _ (List.mem_of_getElem? (i := 65) rfl)) (hw _ (List.mem_of_getElem? (i := 2) rfl)) (hw _ (List.mem_of_getElem? (i := 67) rfl)) (by decide) ex1680 (own_gv l Z a0 hw b1655 z1643 z1645 z1647 y4 T1677.heap n0 1 z1643.toInt.toNat z1645.toInt.toNat z1647.toInt.toNat (own_give (own_give (fun _ _ => 0) z1643.toInt.toNat (z1645.toInt.toNat * 4 + z1647.toInt.toNat) y2) z1649.toInt.toNat (z1651.toInt.toNat * 4 + z1653.toInt.toNat) y3) sm1677 (by omega) (by omega) (by omega) (by omega) (by omega) (by omega)) (by rw [hml]; rfl) (lenOf own_pd2 rfl) rfl at_136 (by decide) (W := 0) (by exact Nat.le_of_eq rfl) (by decide) (by decide) (by decide) (pc' := 139) rfl (fun T1679 v1679 X1679 hQ1679 => ?_)
      obtain ⟨rfl, sm1679⟩ := hQ1679
      show Gl p e below n0 _ _ (T1679.setTop (mkF m 139 #[.val (.int y0), .val (.int y1), .val (.int y2), .val (.int y3), .val (.int y4), .val (.int (0 : Int32)), .val (.int (1 : Int32)), .val (.int (1 : Int32)), .val (.int z1643), .val (.int z1645), .val (.int z1647), .val (.int z1649), .val (.int z1651), .val (.int z1653), .val (.ref b1655), .val (.int ((fun _ _ => 0) z1643.toInt.toNat (z1645.toInt.toNat * 4 + z1647.toInt.toNat))), .val (.int ((own_give (fun _ _ => 0) z1643.toInt.toNat (z1645.toInt.toNat * 4 + z1647.toInt.toNat) y2) z1649.toInt.toNat (z1651.toInt.toNat * 4 + z1653.toInt.toNat))), .unset, .unset, .unset, .unset, .unset, .unset] [(.int ((own_give (own_give (fun _ _ => 0) z1643.toInt.toNat (z1645.toInt.toNat * 4 + z1647.toInt.toNat) y2) z1649.toInt.toNat (z1651.toInt.toNat * 4 + z1653.toInt.toNat) y3) z1643.toInt.toNat (z1645.toInt.toNat * 4 + z1647.toInt.toNat)))]))
      refine g_istore (L' := #[.val (.int y0), .val (.int y1), .val (.int y2), .val (.int y3), .val (.int y4), .val (.int (0 : Int32)), .val (.int (1 : Int32)), .val (.int (1 : Int32)), .val (.int z1643), .val (.int z1645), .val (.int z1647), .val (.int z1649), .val (.int z1651), .val (.int z1653), .val (.ref b1655), .val (.int ((fun _ _ => 0) z1643.toInt.toNat (z1645.toInt.toNat * 4 + z1647.toInt.toNat))), .val (.int ((own_give (fun _ _ => 0) z1643.toInt.toNat (z1645.toInt.toNat * 4 + z1647.toInt.toNat) y2) z1649.toInt.toNat (z1651.toInt.toNat * 4 + z1653.toInt.toNat))), .val (.int ((own_give (own_give (fun _ _ => 0) z1643.toInt.toNat (z1645.toInt.toNat * 4 + z1647.toInt.toNat) y2) z1649.toInt.toNat (z1651.toInt.toNat * 4 + z1653.toInt.toNat) y3) z1643.toInt.toNat (z1645.toInt.toNat * 4 + z1647.toInt.toNat))), .unset, .unset, .unset, .unset, .unset]) X1679 hx hby at_139 rfl (pc' := 141) rfl ?_
      refine g_aload X1679 hx hby at_141 rfl rfl (pc' := 143) rfl ?_
      refine g_iload X1679 hx hby at_143 rfl (pc' := 145) rfl ?_
      refine g_iload X1679 hx hby at_145 rfl (pc' := 147) rfl ?_
      refine g_iload X1679 hx hby at_147 rfl (pc' := 149) rfl ?_
      refine g_iloadN X1679 hx hby at_149 rfl (pc' := 150) rfl ?_
      have ex1682 : Exa Z T1679.heap b1655 "com/example/basisbook/basisbook/HourlyPrices$Sums" := by obtain ⟨_, _, _, _, _, _, _, E, -⟩ := sm1679; exact E
      refine g_callV (argsL := [(.int z1649), (.int z1651), (.int z1653), (.int y2)]) (S := []) (a := b1655) X1679 hx hby hZ (y := (⟨"com/example/basisbook/basisbook/HourlyPrices$Sums", "give", "(IIII)I"⟩ : MethodName)) (y' := (⟨"com/example/basisbook/basisbook/HourlyPrices$Sums", "give", "(IIII)I"⟩ : MethodName)) hown (hw _ (List.mem_of_getElem? (i := 63) rfl)) (hw _ (List.mem_of_getElem? (i := 64) rfl)) (notFace_of_selects (args := #[]) (mvT hZ (hw _ (List.mem_of_getElem? (i := 66) rfl)))) (hw _ (List.mem_of_getElem? (i := 66) rfl)) (hw _ (List.mem_of_getElem? (i := 65) rfl)) (hw _ (List.mem_of_getElem? (i := 2) rfl)) (hw _ (List.mem_of_getElem? (i := 67) rfl)) (by decide) ex1682 (own_gv l Z a0 hw b1655 z1649 z1651 z1653 y2 T1679.heap n0 1 z1649.toInt.toNat z1651.toInt.toNat z1653.toInt.toNat (own_give (own_give (own_give (fun _ _ => 0) z1643.toInt.toNat (z1645.toInt.toNat * 4 + z1647.toInt.toNat) y2) z1649.toInt.toNat (z1651.toInt.toNat * 4 + z1653.toInt.toNat) y3) z1643.toInt.toNat (z1645.toInt.toNat * 4 + z1647.toInt.toNat) y4) sm1679 (by omega) (by omega) (by omega) (by omega) (by omega) (by omega)) (by rw [hml]; rfl) (lenOf own_pd2 rfl) rfl at_150 (by decide) (W := 0) (by exact Nat.le_of_eq rfl) (by decide) (by decide) (by decide) (pc' := 153) rfl (fun T1681 v1681 X1681 hQ1681 => ?_)
      obtain ⟨rfl, sm1681⟩ := hQ1681
      show Gl p e below n0 _ _ (T1681.setTop (mkF m 153 #[.val (.int y0), .val (.int y1), .val (.int y2), .val (.int y3), .val (.int y4), .val (.int (0 : Int32)), .val (.int (1 : Int32)), .val (.int (1 : Int32)), .val (.int z1643), .val (.int z1645), .val (.int z1647), .val (.int z1649), .val (.int z1651), .val (.int z1653), .val (.ref b1655), .val (.int ((fun _ _ => 0) z1643.toInt.toNat (z1645.toInt.toNat * 4 + z1647.toInt.toNat))), .val (.int ((own_give (fun _ _ => 0) z1643.toInt.toNat (z1645.toInt.toNat * 4 + z1647.toInt.toNat) y2) z1649.toInt.toNat (z1651.toInt.toNat * 4 + z1653.toInt.toNat))), .val (.int ((own_give (own_give (fun _ _ => 0) z1643.toInt.toNat (z1645.toInt.toNat * 4 + z1647.toInt.toNat) y2) z1649.toInt.toNat (z1651.toInt.toNat * 4 + z1653.toInt.toNat) y3) z1643.toInt.toNat (z1645.toInt.toNat * 4 + z1647.toInt.toNat))), .unset, .unset, .unset, .unset, .unset] [(.int ((own_give (own_give (own_give (fun _ _ => 0) z1643.toInt.toNat (z1645.toInt.toNat * 4 + z1647.toInt.toNat) y2) z1649.toInt.toNat (z1651.toInt.toNat * 4 + z1653.toInt.toNat) y3) z1643.toInt.toNat (z1645.toInt.toNat * 4 + z1647.toInt.toNat) y4) z1649.toInt.toNat (z1651.toInt.toNat * 4 + z1653.toInt.toNat)))]))
      refine g_istore (L' := #[.val (.int y0), .val (.int y1), .val (.int y2), .val (.int y3), .val (.int y4), .val (.int (0 : Int32)), .val (.int (1 : Int32)), .val (.int (1 : Int32)), .val (.int z1643), .val (.int z1645), .val (.int z1647), .val (.int z1649), .val (.int z1651), .val (.int z1653), .val (.ref b1655), .val (.int ((fun _ _ => 0) z1643.toInt.toNat (z1645.toInt.toNat * 4 + z1647.toInt.toNat))), .val (.int ((own_give (fun _ _ => 0) z1643.toInt.toNat (z1645.toInt.toNat * 4 + z1647.toInt.toNat) y2) z1649.toInt.toNat (z1651.toInt.toNat * 4 + z1653.toInt.toNat))), .val (.int ((own_give (own_give (fun _ _ => 0) z1643.toInt.toNat (z1645.toInt.toNat * 4 + z1647.toInt.toNat) y2) z1649.toInt.toNat (z1651.toInt.toNat * 4 + z1653.toInt.toNat) y3) z1643.toInt.toNat (z1645.toInt.toNat * 4 + z1647.toInt.toNat))), .val (.int ((own_give (own_give (own_give (fun _ _ => 0) z1643.toInt.toNat (z1645.toInt.toNat * 4 + z1647.toInt.toNat) y2) z1649.toInt.toNat (z1651.toInt.toNat * 4 + z1653.toInt.toNat) y3) z1643.toInt.toNat (z1645.toInt.toNat * 4 + z1647.toInt.toNat) y4) z1649.toInt.toNat (z1651.toInt.toNat * 4 + z1653.toInt.toNat))), .unset, .unset, .unset, .unset]) X1681 hx hby at_153 rfl (pc' := 155) rfl ?_
      change Gl p e below n0 _ _ (T1681.setTop (mkF m 155 #[.val (.int y0), .val (.int y1), .val (.int y2), .val (.int y3), .val (.int y4), .val (.int (0 : Int32)), .val (.int (1 : Int32)), .val (.int (1 : Int32)), .val (.int z1643), .val (.int z1645), .val (.int z1647), .val (.int z1649), .val (.int z1651), .val (.int z1653), .val (.ref b1655), .val (.int (0 : Int32)), .val (.int (own_r2 z1643.toInt.toNat (z1645.toInt.toNat * 4 + z1647.toInt.toNat) z1649.toInt.toNat (z1651.toInt.toNat * 4 + z1653.toInt.toNat) y2)), .val (.int (own_r3 z1643.toInt.toNat (z1645.toInt.toNat * 4 + z1647.toInt.toNat) z1649.toInt.toNat (z1651.toInt.toNat * 4 + z1653.toInt.toNat) y2 y3)), .val (.int (own_r4 z1643.toInt.toNat (z1645.toInt.toNat * 4 + z1647.toInt.toNat) z1649.toInt.toNat (z1651.toInt.toNat * 4 + z1653.toInt.toNat) y2 y3 y4)), .unset, .unset, .unset, .unset] []))
      refine g_iload X1681 hx hby at_155 rfl (pc' := 157) rfl ?_
      refine g_iload X1681 hx hby at_157 rfl (pc' := 159) rfl ?_
      refine g_icmp_ne X1681 hx hby at_159 (by decide) (pc' := 180) (by decide) (pc2 := 162) rfl (fun c159_1683 => ?_) (fun c159_1683 => ?_)
      · refine g_iconst (v := 0) X1681 hx hby at_180 rfl (pc' := 181) rfl ?_
        refine g_istore (L' := #[.val (.int y0), .val (.int y1), .val (.int y2), .val (.int y3), .val (.int y4), .val (.int (0 : Int32)), .val (.int (1 : Int32)), .val (.int (1 : Int32)), .val (.int z1643), .val (.int z1645), .val (.int z1647), .val (.int z1649), .val (.int z1651), .val (.int z1653), .val (.ref b1655), .val (.int (0 : Int32)), .val (.int (own_r2 z1643.toInt.toNat (z1645.toInt.toNat * 4 + z1647.toInt.toNat) z1649.toInt.toNat (z1651.toInt.toNat * 4 + z1653.toInt.toNat) y2)), .val (.int (own_r3 z1643.toInt.toNat (z1645.toInt.toNat * 4 + z1647.toInt.toNat) z1649.toInt.toNat (z1651.toInt.toNat * 4 + z1653.toInt.toNat) y2 y3)), .val (.int (own_r4 z1643.toInt.toNat (z1645.toInt.toNat * 4 + z1647.toInt.toNat) z1649.toInt.toNat (z1651.toInt.toNat * 4 + z1653.toInt.toNat) y2 y3 y4)), .val (.int (0 : Int32)), .unset, .unset, .unset]) X1681 hx hby at_181 rfl (pc' := 183) rfl ?_
        refine g_iload X1681 hx hby at_183 rfl (pc' := 185) rfl ?_
        refine g_if_eq X1681 hx hby at_185 (by decide) (pc' := 192) (by decide) (pc2 := 188) rfl (fun c185_1684 => ?_) (fun q => absurd (by decide) q)
        refine g_iconst (v := 0) X1681 hx hby at_192 rfl (pc' := 193) rfl ?_
        refine g_istore (L' := #[.val (.int y0), .val (.int y1), .val (.int y2), .val (.int y3), .val (.int y4), .val (.int (0 : Int32)), .val (.int (1 : Int32)), .val (.int (1 : Int32)), .val (.int z1643), .val (.int z1645), .val (.int z1647), .val (.int z1649), .val (.int z1651), .val (.int z1653), .val (.ref b1655), .val (.int (0 : Int32)), .val (.int (own_r2 z1643.toInt.toNat (z1645.toInt.toNat * 4 + z1647.toInt.toNat) z1649.toInt.toNat (z1651.toInt.toNat * 4 + z1653.toInt.toNat) y2)), .val (.int (own_r3 z1643.toInt.toNat (z1645.toInt.toNat * 4 + z1647.toInt.toNat) z1649.toInt.toNat (z1651.toInt.toNat * 4 + z1653.toInt.toNat) y2 y3)), .val (.int (own_r4 z1643.toInt.toNat (z1645.toInt.toNat * 4 + z1647.toInt.toNat) z1649.toInt.toNat (z1651.toInt.toNat * 4 + z1653.toInt.toNat) y2 y3 y4)), .val (.int (0 : Int32)), .val (.int (0 : Int32)), .unset, .unset]) X1681 hx hby at_193 rfl (pc' := 195) rfl ?_
        refine g_iload X1681 hx hby at_195 rfl (pc' := 197) rfl ?_
        refine g_if_eq X1681 hx hby at_197 (by decide) (pc' := 212) (by decide) (pc2 := 200) rfl (fun c197_1685 => ?_) (fun q => absurd (by decide) q)
        refine g_iloadN X1681 hx hby at_212 rfl (pc' := 213) rfl ?_
        refine g_istore (L' := #[.val (.int y0), .val (.int y1), .val (.int y2), .val (.int y3), .val (.int y4), .val (.int (0 : Int32)), .val (.int (1 : Int32)), .val (.int (1 : Int32)), .val (.int z1643), .val (.int z1645), .val (.int z1647), .val (.int z1649), .val (.int z1651), .val (.int z1653), .val (.ref b1655), .val (.int (0 : Int32)), .val (.int (own_r2 z1643.toInt.toNat (z1645.toInt.toNat * 4 + z1647.toInt.toNat) z1649.toInt.toNat (z1651.toInt.toNat * 4 + z1653.toInt.toNat) y2)), .val (.int (own_r3 z1643.toInt.toNat (z1645.toInt.toNat * 4 + z1647.toInt.toNat) z1649.toInt.toNat (z1651.toInt.toNat * 4 + z1653.toInt.toNat) y2 y3)), .val (.int (own_r4 z1643.toInt.toNat (z1645.toInt.toNat * 4 + z1647.toInt.toNat) z1649.toInt.toNat (z1651.toInt.toNat * 4 + z1653.toInt.toNat) y2 y3 y4)), .val (.int (0 : Int32)), .val (.int (0 : Int32)), .val (.int y2), .unset]) X1681 hx hby at_213 rfl (pc' := 215) rfl ?_
        refine g_iload X1681 hx hby at_215 rfl (pc' := 217) rfl ?_
        refine g_if_eq X1681 hx hby at_217 (by decide) (pc' := 241) (by decide) (pc2 := 220) rfl (fun c217_1686 => ?_) (fun q => absurd (by decide) q)
        refine g_iloadN X1681 hx hby at_241 rfl (pc' := 242) rfl ?_
        refine g_istore (L' := #[.val (.int y0), .val (.int y1), .val (.int y2), .val (.int y3), .val (.int y4), .val (.int (0 : Int32)), .val (.int (1 : Int32)), .val (.int (1 : Int32)), .val (.int z1643), .val (.int z1645), .val (.int z1647), .val (.int z1649), .val (.int z1651), .val (.int z1653), .val (.ref b1655), .val (.int (0 : Int32)), .val (.int (own_r2 z1643.toInt.toNat (z1645.toInt.toNat * 4 + z1647.toInt.toNat) z1649.toInt.toNat (z1651.toInt.toNat * 4 + z1653.toInt.toNat) y2)), .val (.int (own_r3 z1643.toInt.toNat (z1645.toInt.toNat * 4 + z1647.toInt.toNat) z1649.toInt.toNat (z1651.toInt.toNat * 4 + z1653.toInt.toNat) y2 y3)), .val (.int (own_r4 z1643.toInt.toNat (z1645.toInt.toNat * 4 + z1647.toInt.toNat) z1649.toInt.toNat (z1651.toInt.toNat * 4 + z1653.toInt.toNat) y2 y3 y4)), .val (.int (0 : Int32)), .val (.int (0 : Int32)), .val (.int y2), .val (.int y3)]) X1681 hx hby at_242 rfl (pc' := 244) rfl ?_
        refine g_iload X1681 hx hby at_244 rfl (pc' := 246) rfl ?_
        refine g_if_ne X1681 hx hby at_246 (by decide) (pc' := 274) (by decide) (pc2 := 249) rfl (fun q => absurd (by decide) q) (fun c246_1687 => ?_)
        refine g_iload X1681 hx hby at_249 rfl (pc' := 251) rfl ?_
        refine g_iload X1681 hx hby at_251 rfl (pc' := 253) rfl ?_
        refine g_icmp_ne X1681 hx hby at_253 (by decide) (pc' := 274) (by decide) (pc2 := 256) rfl (fun q => absurd (show (own_r2 z1643.toInt.toNat (z1645.toInt.toNat * 4 + z1647.toInt.toNat) z1649.toInt.toNat (z1651.toInt.toNat * 4 + z1653.toInt.toNat) y2) = (0 : Int32) by rw [(own_diff y2 y3 y4 (by have hh0 := (own_n32 c159_1683); omega)).1]) q) (fun c253_1688 => ?_)
        refine g_iload X1681 hx hby at_256 rfl (pc' := 258) rfl ?_
        refine g_iload X1681 hx hby at_258 rfl (pc' := 260) rfl ?_
        refine g_icmp_ne X1681 hx hby at_260 (by decide) (pc' := 274) (by decide) (pc2 := 263) rfl (fun q => absurd (show (own_r3 z1643.toInt.toNat (z1645.toInt.toNat * 4 + z1647.toInt.toNat) z1649.toInt.toNat (z1651.toInt.toNat * 4 + z1653.toInt.toNat) y2 y3) = y2 by rw [(own_diff y2 y3 y4 (by have hh0 := (own_n32 c159_1683); omega)).2.1]) q) (fun c260_1689 => ?_)
        refine g_iload X1681 hx hby at_263 rfl (pc' := 265) rfl ?_
        refine g_iload X1681 hx hby at_265 rfl (pc' := 267) rfl ?_
        refine g_icmp_ne X1681 hx hby at_267 (by decide) (pc' := 274) (by decide) (pc2 := 270) rfl (fun q => absurd (show (own_r4 z1643.toInt.toNat (z1645.toInt.toNat * 4 + z1647.toInt.toNat) z1649.toInt.toNat (z1651.toInt.toNat * 4 + z1653.toInt.toNat) y2 y3 y4) = y3 by rw [(own_diff y2 y3 y4 (by have hh0 := (own_n32 c159_1683); omega)).2.2]) q) (fun c267_1690 => ?_)
        refine g_iconst (v := 1) X1681 hx hby at_270 rfl (pc' := 271) rfl ?_
        refine g_goto X1681 hx hby at_271 (by decide) (pc' := 275) (by decide) ?_
        exact g_retN X1681 hx hby hret hlk (by simp) at_275 rfl (by decide) (by decide)
      · refine g_iload X1681 hx hby at_162 rfl (pc' := 164) rfl ?_
        refine g_iload X1681 hx hby at_164 rfl (pc' := 166) rfl ?_
        refine g_icmp_ne X1681 hx hby at_166 (by decide) (pc' := 180) (by decide) (pc2 := 169) rfl (fun c166_1691 => ?_) (fun c166_1691 => ?_)
        · refine g_iconst (v := 0) X1681 hx hby at_180 rfl (pc' := 181) rfl ?_
          refine g_istore (L' := #[.val (.int y0), .val (.int y1), .val (.int y2), .val (.int y3), .val (.int y4), .val (.int (0 : Int32)), .val (.int (1 : Int32)), .val (.int (1 : Int32)), .val (.int z1643), .val (.int z1645), .val (.int z1647), .val (.int z1649), .val (.int z1651), .val (.int z1653), .val (.ref b1655), .val (.int (0 : Int32)), .val (.int (own_r2 z1643.toInt.toNat (z1645.toInt.toNat * 4 + z1647.toInt.toNat) z1649.toInt.toNat (z1651.toInt.toNat * 4 + z1653.toInt.toNat) y2)), .val (.int (own_r3 z1643.toInt.toNat (z1645.toInt.toNat * 4 + z1647.toInt.toNat) z1649.toInt.toNat (z1651.toInt.toNat * 4 + z1653.toInt.toNat) y2 y3)), .val (.int (own_r4 z1643.toInt.toNat (z1645.toInt.toNat * 4 + z1647.toInt.toNat) z1649.toInt.toNat (z1651.toInt.toNat * 4 + z1653.toInt.toNat) y2 y3 y4)), .val (.int (0 : Int32)), .unset, .unset, .unset]) X1681 hx hby at_181 rfl (pc' := 183) rfl ?_
          refine g_iload X1681 hx hby at_183 rfl (pc' := 185) rfl ?_
          refine g_if_eq X1681 hx hby at_185 (by decide) (pc' := 192) (by decide) (pc2 := 188) rfl (fun c185_1692 => ?_) (fun q => absurd (by decide) q)
          refine g_iconst (v := 0) X1681 hx hby at_192 rfl (pc' := 193) rfl ?_
          refine g_istore (L' := #[.val (.int y0), .val (.int y1), .val (.int y2), .val (.int y3), .val (.int y4), .val (.int (0 : Int32)), .val (.int (1 : Int32)), .val (.int (1 : Int32)), .val (.int z1643), .val (.int z1645), .val (.int z1647), .val (.int z1649), .val (.int z1651), .val (.int z1653), .val (.ref b1655), .val (.int (0 : Int32)), .val (.int (own_r2 z1643.toInt.toNat (z1645.toInt.toNat * 4 + z1647.toInt.toNat) z1649.toInt.toNat (z1651.toInt.toNat * 4 + z1653.toInt.toNat) y2)), .val (.int (own_r3 z1643.toInt.toNat (z1645.toInt.toNat * 4 + z1647.toInt.toNat) z1649.toInt.toNat (z1651.toInt.toNat * 4 + z1653.toInt.toNat) y2 y3)), .val (.int (own_r4 z1643.toInt.toNat (z1645.toInt.toNat * 4 + z1647.toInt.toNat) z1649.toInt.toNat (z1651.toInt.toNat * 4 + z1653.toInt.toNat) y2 y3 y4)), .val (.int (0 : Int32)), .val (.int (0 : Int32)), .unset, .unset]) X1681 hx hby at_193 rfl (pc' := 195) rfl ?_
          refine g_iload X1681 hx hby at_195 rfl (pc' := 197) rfl ?_
          refine g_if_eq X1681 hx hby at_197 (by decide) (pc' := 212) (by decide) (pc2 := 200) rfl (fun c197_1693 => ?_) (fun q => absurd (by decide) q)
          refine g_iloadN X1681 hx hby at_212 rfl (pc' := 213) rfl ?_
          refine g_istore (L' := #[.val (.int y0), .val (.int y1), .val (.int y2), .val (.int y3), .val (.int y4), .val (.int (0 : Int32)), .val (.int (1 : Int32)), .val (.int (1 : Int32)), .val (.int z1643), .val (.int z1645), .val (.int z1647), .val (.int z1649), .val (.int z1651), .val (.int z1653), .val (.ref b1655), .val (.int (0 : Int32)), .val (.int (own_r2 z1643.toInt.toNat (z1645.toInt.toNat * 4 + z1647.toInt.toNat) z1649.toInt.toNat (z1651.toInt.toNat * 4 + z1653.toInt.toNat) y2)), .val (.int (own_r3 z1643.toInt.toNat (z1645.toInt.toNat * 4 + z1647.toInt.toNat) z1649.toInt.toNat (z1651.toInt.toNat * 4 + z1653.toInt.toNat) y2 y3)), .val (.int (own_r4 z1643.toInt.toNat (z1645.toInt.toNat * 4 + z1647.toInt.toNat) z1649.toInt.toNat (z1651.toInt.toNat * 4 + z1653.toInt.toNat) y2 y3 y4)), .val (.int (0 : Int32)), .val (.int (0 : Int32)), .val (.int y2), .unset]) X1681 hx hby at_213 rfl (pc' := 215) rfl ?_
          refine g_iload X1681 hx hby at_215 rfl (pc' := 217) rfl ?_
          refine g_if_eq X1681 hx hby at_217 (by decide) (pc' := 241) (by decide) (pc2 := 220) rfl (fun c217_1694 => ?_) (fun q => absurd (by decide) q)
          refine g_iloadN X1681 hx hby at_241 rfl (pc' := 242) rfl ?_
          refine g_istore (L' := #[.val (.int y0), .val (.int y1), .val (.int y2), .val (.int y3), .val (.int y4), .val (.int (0 : Int32)), .val (.int (1 : Int32)), .val (.int (1 : Int32)), .val (.int z1643), .val (.int z1645), .val (.int z1647), .val (.int z1649), .val (.int z1651), .val (.int z1653), .val (.ref b1655), .val (.int (0 : Int32)), .val (.int (own_r2 z1643.toInt.toNat (z1645.toInt.toNat * 4 + z1647.toInt.toNat) z1649.toInt.toNat (z1651.toInt.toNat * 4 + z1653.toInt.toNat) y2)), .val (.int (own_r3 z1643.toInt.toNat (z1645.toInt.toNat * 4 + z1647.toInt.toNat) z1649.toInt.toNat (z1651.toInt.toNat * 4 + z1653.toInt.toNat) y2 y3)), .val (.int (own_r4 z1643.toInt.toNat (z1645.toInt.toNat * 4 + z1647.toInt.toNat) z1649.toInt.toNat (z1651.toInt.toNat * 4 + z1653.toInt.toNat) y2 y3 y4)), .val (.int (0 : Int32)), .val (.int (0 : Int32)), .val (.int y2), .val (.int y3)]) X1681 hx hby at_242 rfl (pc' := 244) rfl ?_
          refine g_iload X1681 hx hby at_244 rfl (pc' := 246) rfl ?_
          refine g_if_ne X1681 hx hby at_246 (by decide) (pc' := 274) (by decide) (pc2 := 249) rfl (fun q => absurd (by decide) q) (fun c246_1695 => ?_)
          refine g_iload X1681 hx hby at_249 rfl (pc' := 251) rfl ?_
          refine g_iload X1681 hx hby at_251 rfl (pc' := 253) rfl ?_
          refine g_icmp_ne X1681 hx hby at_253 (by decide) (pc' := 274) (by decide) (pc2 := 256) rfl (fun q => absurd (show (own_r2 z1643.toInt.toNat (z1645.toInt.toNat * 4 + z1647.toInt.toNat) z1649.toInt.toNat (z1651.toInt.toNat * 4 + z1653.toInt.toNat) y2) = (0 : Int32) by rw [(own_diff y2 y3 y4 (by have hh0 := (own_i32 c159_1683); have hh1 := (own_n32 c166_1691); omega)).1]) q) (fun c253_1696 => ?_)
          refine g_iload X1681 hx hby at_256 rfl (pc' := 258) rfl ?_
          refine g_iload X1681 hx hby at_258 rfl (pc' := 260) rfl ?_
          refine g_icmp_ne X1681 hx hby at_260 (by decide) (pc' := 274) (by decide) (pc2 := 263) rfl (fun q => absurd (show (own_r3 z1643.toInt.toNat (z1645.toInt.toNat * 4 + z1647.toInt.toNat) z1649.toInt.toNat (z1651.toInt.toNat * 4 + z1653.toInt.toNat) y2 y3) = y2 by rw [(own_diff y2 y3 y4 (by have hh0 := (own_i32 c159_1683); have hh1 := (own_n32 c166_1691); omega)).2.1]) q) (fun c260_1697 => ?_)
          refine g_iload X1681 hx hby at_263 rfl (pc' := 265) rfl ?_
          refine g_iload X1681 hx hby at_265 rfl (pc' := 267) rfl ?_
          refine g_icmp_ne X1681 hx hby at_267 (by decide) (pc' := 274) (by decide) (pc2 := 270) rfl (fun q => absurd (show (own_r4 z1643.toInt.toNat (z1645.toInt.toNat * 4 + z1647.toInt.toNat) z1649.toInt.toNat (z1651.toInt.toNat * 4 + z1653.toInt.toNat) y2 y3 y4) = y3 by rw [(own_diff y2 y3 y4 (by have hh0 := (own_i32 c159_1683); have hh1 := (own_n32 c166_1691); omega)).2.2]) q) (fun c267_1698 => ?_)
          refine g_iconst (v := 1) X1681 hx hby at_270 rfl (pc' := 271) rfl ?_
          refine g_goto X1681 hx hby at_271 (by decide) (pc' := 275) (by decide) ?_
          exact g_retN X1681 hx hby hret hlk (by simp) at_275 rfl (by decide) (by decide)
        · refine g_iload X1681 hx hby at_169 rfl (pc' := 171) rfl ?_
          refine g_iload X1681 hx hby at_171 rfl (pc' := 173) rfl ?_
          refine g_icmp_ne X1681 hx hby at_173 (by decide) (pc' := 180) (by decide) (pc2 := 176) rfl (fun c173_1699 => ?_) (fun c173_1699 => ?_)
          · refine g_iconst (v := 0) X1681 hx hby at_180 rfl (pc' := 181) rfl ?_
            refine g_istore (L' := #[.val (.int y0), .val (.int y1), .val (.int y2), .val (.int y3), .val (.int y4), .val (.int (0 : Int32)), .val (.int (1 : Int32)), .val (.int (1 : Int32)), .val (.int z1643), .val (.int z1645), .val (.int z1647), .val (.int z1649), .val (.int z1651), .val (.int z1653), .val (.ref b1655), .val (.int (0 : Int32)), .val (.int (own_r2 z1643.toInt.toNat (z1645.toInt.toNat * 4 + z1647.toInt.toNat) z1649.toInt.toNat (z1651.toInt.toNat * 4 + z1653.toInt.toNat) y2)), .val (.int (own_r3 z1643.toInt.toNat (z1645.toInt.toNat * 4 + z1647.toInt.toNat) z1649.toInt.toNat (z1651.toInt.toNat * 4 + z1653.toInt.toNat) y2 y3)), .val (.int (own_r4 z1643.toInt.toNat (z1645.toInt.toNat * 4 + z1647.toInt.toNat) z1649.toInt.toNat (z1651.toInt.toNat * 4 + z1653.toInt.toNat) y2 y3 y4)), .val (.int (0 : Int32)), .unset, .unset, .unset]) X1681 hx hby at_181 rfl (pc' := 183) rfl ?_
            refine g_iload X1681 hx hby at_183 rfl (pc' := 185) rfl ?_
            refine g_if_eq X1681 hx hby at_185 (by decide) (pc' := 192) (by decide) (pc2 := 188) rfl (fun c185_1700 => ?_) (fun q => absurd (by decide) q)
            refine g_iconst (v := 0) X1681 hx hby at_192 rfl (pc' := 193) rfl ?_
            refine g_istore (L' := #[.val (.int y0), .val (.int y1), .val (.int y2), .val (.int y3), .val (.int y4), .val (.int (0 : Int32)), .val (.int (1 : Int32)), .val (.int (1 : Int32)), .val (.int z1643), .val (.int z1645), .val (.int z1647), .val (.int z1649), .val (.int z1651), .val (.int z1653), .val (.ref b1655), .val (.int (0 : Int32)), .val (.int (own_r2 z1643.toInt.toNat (z1645.toInt.toNat * 4 + z1647.toInt.toNat) z1649.toInt.toNat (z1651.toInt.toNat * 4 + z1653.toInt.toNat) y2)), .val (.int (own_r3 z1643.toInt.toNat (z1645.toInt.toNat * 4 + z1647.toInt.toNat) z1649.toInt.toNat (z1651.toInt.toNat * 4 + z1653.toInt.toNat) y2 y3)), .val (.int (own_r4 z1643.toInt.toNat (z1645.toInt.toNat * 4 + z1647.toInt.toNat) z1649.toInt.toNat (z1651.toInt.toNat * 4 + z1653.toInt.toNat) y2 y3 y4)), .val (.int (0 : Int32)), .val (.int (0 : Int32)), .unset, .unset]) X1681 hx hby at_193 rfl (pc' := 195) rfl ?_
            refine g_iload X1681 hx hby at_195 rfl (pc' := 197) rfl ?_
            refine g_if_eq X1681 hx hby at_197 (by decide) (pc' := 212) (by decide) (pc2 := 200) rfl (fun c197_1701 => ?_) (fun q => absurd (by decide) q)
            refine g_iloadN X1681 hx hby at_212 rfl (pc' := 213) rfl ?_
            refine g_istore (L' := #[.val (.int y0), .val (.int y1), .val (.int y2), .val (.int y3), .val (.int y4), .val (.int (0 : Int32)), .val (.int (1 : Int32)), .val (.int (1 : Int32)), .val (.int z1643), .val (.int z1645), .val (.int z1647), .val (.int z1649), .val (.int z1651), .val (.int z1653), .val (.ref b1655), .val (.int (0 : Int32)), .val (.int (own_r2 z1643.toInt.toNat (z1645.toInt.toNat * 4 + z1647.toInt.toNat) z1649.toInt.toNat (z1651.toInt.toNat * 4 + z1653.toInt.toNat) y2)), .val (.int (own_r3 z1643.toInt.toNat (z1645.toInt.toNat * 4 + z1647.toInt.toNat) z1649.toInt.toNat (z1651.toInt.toNat * 4 + z1653.toInt.toNat) y2 y3)), .val (.int (own_r4 z1643.toInt.toNat (z1645.toInt.toNat * 4 + z1647.toInt.toNat) z1649.toInt.toNat (z1651.toInt.toNat * 4 + z1653.toInt.toNat) y2 y3 y4)), .val (.int (0 : Int32)), .val (.int (0 : Int32)), .val (.int y2), .unset]) X1681 hx hby at_213 rfl (pc' := 215) rfl ?_
            refine g_iload X1681 hx hby at_215 rfl (pc' := 217) rfl ?_
            refine g_if_eq X1681 hx hby at_217 (by decide) (pc' := 241) (by decide) (pc2 := 220) rfl (fun c217_1702 => ?_) (fun q => absurd (by decide) q)
            refine g_iloadN X1681 hx hby at_241 rfl (pc' := 242) rfl ?_
            refine g_istore (L' := #[.val (.int y0), .val (.int y1), .val (.int y2), .val (.int y3), .val (.int y4), .val (.int (0 : Int32)), .val (.int (1 : Int32)), .val (.int (1 : Int32)), .val (.int z1643), .val (.int z1645), .val (.int z1647), .val (.int z1649), .val (.int z1651), .val (.int z1653), .val (.ref b1655), .val (.int (0 : Int32)), .val (.int (own_r2 z1643.toInt.toNat (z1645.toInt.toNat * 4 + z1647.toInt.toNat) z1649.toInt.toNat (z1651.toInt.toNat * 4 + z1653.toInt.toNat) y2)), .val (.int (own_r3 z1643.toInt.toNat (z1645.toInt.toNat * 4 + z1647.toInt.toNat) z1649.toInt.toNat (z1651.toInt.toNat * 4 + z1653.toInt.toNat) y2 y3)), .val (.int (own_r4 z1643.toInt.toNat (z1645.toInt.toNat * 4 + z1647.toInt.toNat) z1649.toInt.toNat (z1651.toInt.toNat * 4 + z1653.toInt.toNat) y2 y3 y4)), .val (.int (0 : Int32)), .val (.int (0 : Int32)), .val (.int y2), .val (.int y3)]) X1681 hx hby at_242 rfl (pc' := 244) rfl ?_
            refine g_iload X1681 hx hby at_244 rfl (pc' := 246) rfl ?_
            refine g_if_ne X1681 hx hby at_246 (by decide) (pc' := 274) (by decide) (pc2 := 249) rfl (fun q => absurd (by decide) q) (fun c246_1703 => ?_)
            refine g_iload X1681 hx hby at_249 rfl (pc' := 251) rfl ?_
            refine g_iload X1681 hx hby at_251 rfl (pc' := 253) rfl ?_
            refine g_icmp_ne X1681 hx hby at_253 (by decide) (pc' := 274) (by decide) (pc2 := 256) rfl (fun q => absurd (show (own_r2 z1643.toInt.toNat (z1645.toInt.toNat * 4 + z1647.toInt.toNat) z1649.toInt.toNat (z1651.toInt.toNat * 4 + z1653.toInt.toNat) y2) = (0 : Int32) by rw [(own_diff y2 y3 y4 (by have hh0 := (own_i32 c159_1683); have hh1 := (own_i32 c166_1691); have hh2 := (own_n32 c173_1699); omega)).1]) q) (fun c253_1704 => ?_)
            refine g_iload X1681 hx hby at_256 rfl (pc' := 258) rfl ?_
            refine g_iload X1681 hx hby at_258 rfl (pc' := 260) rfl ?_
            refine g_icmp_ne X1681 hx hby at_260 (by decide) (pc' := 274) (by decide) (pc2 := 263) rfl (fun q => absurd (show (own_r3 z1643.toInt.toNat (z1645.toInt.toNat * 4 + z1647.toInt.toNat) z1649.toInt.toNat (z1651.toInt.toNat * 4 + z1653.toInt.toNat) y2 y3) = y2 by rw [(own_diff y2 y3 y4 (by have hh0 := (own_i32 c159_1683); have hh1 := (own_i32 c166_1691); have hh2 := (own_n32 c173_1699); omega)).2.1]) q) (fun c260_1705 => ?_)
            refine g_iload X1681 hx hby at_263 rfl (pc' := 265) rfl ?_
            refine g_iload X1681 hx hby at_265 rfl (pc' := 267) rfl ?_
            refine g_icmp_ne X1681 hx hby at_267 (by decide) (pc' := 274) (by decide) (pc2 := 270) rfl (fun q => absurd (show (own_r4 z1643.toInt.toNat (z1645.toInt.toNat * 4 + z1647.toInt.toNat) z1649.toInt.toNat (z1651.toInt.toNat * 4 + z1653.toInt.toNat) y2 y3 y4) = y3 by rw [(own_diff y2 y3 y4 (by have hh0 := (own_i32 c159_1683); have hh1 := (own_i32 c166_1691); have hh2 := (own_n32 c173_1699); omega)).2.2]) q) (fun c267_1706 => ?_)
            refine g_iconst (v := 1) X1681 hx hby at_270 rfl (pc' := 271) rfl ?_
            refine g_goto X1681 hx hby at_271 (by decide) (pc' := 275) (by decide) ?_
            exact g_retN X1681 hx hby hret hlk (by simp) at_275 rfl (by decide) (by decide)
          · refine g_iconst (v := 1) X1681 hx hby at_176 rfl (pc' := 177) rfl ?_
            refine g_goto X1681 hx hby at_177 (by decide) (pc' := 181) (by decide) ?_
            refine g_istore (L' := #[.val (.int y0), .val (.int y1), .val (.int y2), .val (.int y3), .val (.int y4), .val (.int (0 : Int32)), .val (.int (1 : Int32)), .val (.int (1 : Int32)), .val (.int z1643), .val (.int z1645), .val (.int z1647), .val (.int z1649), .val (.int z1651), .val (.int z1653), .val (.ref b1655), .val (.int (0 : Int32)), .val (.int (own_r2 z1643.toInt.toNat (z1645.toInt.toNat * 4 + z1647.toInt.toNat) z1649.toInt.toNat (z1651.toInt.toNat * 4 + z1653.toInt.toNat) y2)), .val (.int (own_r3 z1643.toInt.toNat (z1645.toInt.toNat * 4 + z1647.toInt.toNat) z1649.toInt.toNat (z1651.toInt.toNat * 4 + z1653.toInt.toNat) y2 y3)), .val (.int (own_r4 z1643.toInt.toNat (z1645.toInt.toNat * 4 + z1647.toInt.toNat) z1649.toInt.toNat (z1651.toInt.toNat * 4 + z1653.toInt.toNat) y2 y3 y4)), .val (.int (1 : Int32)), .unset, .unset, .unset]) X1681 hx hby at_181 rfl (pc' := 183) rfl ?_
            refine g_iload X1681 hx hby at_183 rfl (pc' := 185) rfl ?_
            refine g_if_eq X1681 hx hby at_185 (by decide) (pc' := 192) (by decide) (pc2 := 188) rfl (fun q => absurd q (by decide)) (fun c185_1707 => ?_)
            refine g_iloadN X1681 hx hby at_188 rfl (pc' := 189) rfl ?_
            refine g_goto X1681 hx hby at_189 (by decide) (pc' := 193) (by decide) ?_
            refine g_istore (L' := #[.val (.int y0), .val (.int y1), .val (.int y2), .val (.int y3), .val (.int y4), .val (.int (0 : Int32)), .val (.int (1 : Int32)), .val (.int (1 : Int32)), .val (.int z1643), .val (.int z1645), .val (.int z1647), .val (.int z1649), .val (.int z1651), .val (.int z1653), .val (.ref b1655), .val (.int (0 : Int32)), .val (.int (own_r2 z1643.toInt.toNat (z1645.toInt.toNat * 4 + z1647.toInt.toNat) z1649.toInt.toNat (z1651.toInt.toNat * 4 + z1653.toInt.toNat) y2)), .val (.int (own_r3 z1643.toInt.toNat (z1645.toInt.toNat * 4 + z1647.toInt.toNat) z1649.toInt.toNat (z1651.toInt.toNat * 4 + z1653.toInt.toNat) y2 y3)), .val (.int (own_r4 z1643.toInt.toNat (z1645.toInt.toNat * 4 + z1647.toInt.toNat) z1649.toInt.toNat (z1651.toInt.toNat * 4 + z1653.toInt.toNat) y2 y3 y4)), .val (.int (1 : Int32)), .val (.int y2), .unset, .unset]) X1681 hx hby at_193 rfl (pc' := 195) rfl ?_
            refine g_iload X1681 hx hby at_195 rfl (pc' := 197) rfl ?_
            refine g_if_eq X1681 hx hby at_197 (by decide) (pc' := 212) (by decide) (pc2 := 200) rfl (fun q => absurd q (by decide)) (fun c197_1708 => ?_)
            refine g_iloadN X1681 hx hby at_200 rfl (pc' := 201) rfl ?_
            refine g_if_eq X1681 hx hby at_201 (by decide) (pc' := 208) (by decide) (pc2 := 204) rfl (fun c201_1709 => ?_) (fun c201_1709 => ?_)
            · refine g_iloadN X1681 hx hby at_208 rfl (pc' := 209) rfl ?_
              refine g_goto X1681 hx hby at_209 (by decide) (pc' := 213) (by decide) ?_
              refine g_istore (L' := #[.val (.int y0), .val (.int y1), .val (.int y2), .val (.int y3), .val (.int y4), .val (.int (0 : Int32)), .val (.int (1 : Int32)), .val (.int (1 : Int32)), .val (.int z1643), .val (.int z1645), .val (.int z1647), .val (.int z1649), .val (.int z1651), .val (.int z1653), .val (.ref b1655), .val (.int (0 : Int32)), .val (.int (own_r2 z1643.toInt.toNat (z1645.toInt.toNat * 4 + z1647.toInt.toNat) z1649.toInt.toNat (z1651.toInt.toNat * 4 + z1653.toInt.toNat) y2)), .val (.int (own_r3 z1643.toInt.toNat (z1645.toInt.toNat * 4 + z1647.toInt.toNat) z1649.toInt.toNat (z1651.toInt.toNat * 4 + z1653.toInt.toNat) y2 y3)), .val (.int (own_r4 z1643.toInt.toNat (z1645.toInt.toNat * 4 + z1647.toInt.toNat) z1649.toInt.toNat (z1651.toInt.toNat * 4 + z1653.toInt.toNat) y2 y3 y4)), .val (.int (1 : Int32)), .val (.int y2), .val (.int y3), .unset]) X1681 hx hby at_213 rfl (pc' := 215) rfl ?_
              refine g_iload X1681 hx hby at_215 rfl (pc' := 217) rfl ?_
              refine g_if_eq X1681 hx hby at_217 (by decide) (pc' := 241) (by decide) (pc2 := 220) rfl (fun q => absurd q (by decide)) (fun c217_1710 => ?_)
              refine g_iloadN X1681 hx hby at_220 rfl (pc' := 221) rfl ?_
              refine g_if_eq X1681 hx hby at_221 (by decide) (pc' := 228) (by decide) (pc2 := 224) rfl (fun c221_1711 => ?_) (fun q => absurd c201_1709 q)
              refine g_iloadN X1681 hx hby at_228 rfl (pc' := 229) rfl ?_
              refine g_if_eq X1681 hx hby at_229 (by decide) (pc' := 236) (by decide) (pc2 := 232) rfl (fun c229_1712 => ?_) (fun c229_1712 => ?_)
              · refine g_iload X1681 hx hby at_236 rfl (pc' := 238) rfl ?_
                refine g_goto X1681 hx hby at_238 (by decide) (pc' := 242) (by decide) ?_
                refine g_istore (L' := #[.val (.int y0), .val (.int y1), .val (.int y2), .val (.int y3), .val (.int y4), .val (.int (0 : Int32)), .val (.int (1 : Int32)), .val (.int (1 : Int32)), .val (.int z1643), .val (.int z1645), .val (.int z1647), .val (.int z1649), .val (.int z1651), .val (.int z1653), .val (.ref b1655), .val (.int (0 : Int32)), .val (.int (own_r2 z1643.toInt.toNat (z1645.toInt.toNat * 4 + z1647.toInt.toNat) z1649.toInt.toNat (z1651.toInt.toNat * 4 + z1653.toInt.toNat) y2)), .val (.int (own_r3 z1643.toInt.toNat (z1645.toInt.toNat * 4 + z1647.toInt.toNat) z1649.toInt.toNat (z1651.toInt.toNat * 4 + z1653.toInt.toNat) y2 y3)), .val (.int (own_r4 z1643.toInt.toNat (z1645.toInt.toNat * 4 + z1647.toInt.toNat) z1649.toInt.toNat (z1651.toInt.toNat * 4 + z1653.toInt.toNat) y2 y3 y4)), .val (.int (1 : Int32)), .val (.int y2), .val (.int y3), .val (.int y4)]) X1681 hx hby at_242 rfl (pc' := 244) rfl ?_
                refine g_iload X1681 hx hby at_244 rfl (pc' := 246) rfl ?_
                refine g_if_ne X1681 hx hby at_246 (by decide) (pc' := 274) (by decide) (pc2 := 249) rfl (fun q => absurd (by decide) q) (fun c246_1713 => ?_)
                refine g_iload X1681 hx hby at_249 rfl (pc' := 251) rfl ?_
                refine g_iload X1681 hx hby at_251 rfl (pc' := 253) rfl ?_
                refine g_icmp_ne X1681 hx hby at_253 (by decide) (pc' := 274) (by decide) (pc2 := 256) rfl (fun q => absurd (show (own_r2 z1643.toInt.toNat (z1645.toInt.toNat * 4 + z1647.toInt.toNat) z1649.toInt.toNat (z1651.toInt.toNat * 4 + z1653.toInt.toNat) y2) = y2 by rw [(own_same y2 y3 y4 (by rw [c159_1683]) (by rw [c166_1691, c173_1699])).1] <;> simp [c201_1709, c221_1711, c229_1712]) q) (fun c253_1714 => ?_)
                refine g_iload X1681 hx hby at_256 rfl (pc' := 258) rfl ?_
                refine g_iload X1681 hx hby at_258 rfl (pc' := 260) rfl ?_
                refine g_icmp_ne X1681 hx hby at_260 (by decide) (pc' := 274) (by decide) (pc2 := 263) rfl (fun q => absurd (show (own_r3 z1643.toInt.toNat (z1645.toInt.toNat * 4 + z1647.toInt.toNat) z1649.toInt.toNat (z1651.toInt.toNat * 4 + z1653.toInt.toNat) y2 y3) = y3 by rw [(own_same y2 y3 y4 (by rw [c159_1683]) (by rw [c166_1691, c173_1699])).2.1] <;> simp [c201_1709, c221_1711, c229_1712]) q) (fun c260_1715 => ?_)
                refine g_iload X1681 hx hby at_263 rfl (pc' := 265) rfl ?_
                refine g_iload X1681 hx hby at_265 rfl (pc' := 267) rfl ?_
                refine g_icmp_ne X1681 hx hby at_267 (by decide) (pc' := 274) (by decide) (pc2 := 270) rfl (fun q => absurd (show (own_r4 z1643.toInt.toNat (z1645.toInt.toNat * 4 + z1647.toInt.toNat) z1649.toInt.toNat (z1651.toInt.toNat * 4 + z1653.toInt.toNat) y2 y3 y4) = y4 by rw [(own_same y2 y3 y4 (by rw [c159_1683]) (by rw [c166_1691, c173_1699])).2.2] <;> simp [c201_1709, c221_1711, c229_1712]) q) (fun c267_1716 => ?_)
                refine g_iconst (v := 1) X1681 hx hby at_270 rfl (pc' := 271) rfl ?_
                refine g_goto X1681 hx hby at_271 (by decide) (pc' := 275) (by decide) ?_
                exact g_retN X1681 hx hby hret hlk (by simp) at_275 rfl (by decide) (by decide)
              · refine g_iloadN X1681 hx hby at_232 rfl (pc' := 233) rfl ?_
                refine g_goto X1681 hx hby at_233 (by decide) (pc' := 242) (by decide) ?_
                refine g_istore (L' := #[.val (.int y0), .val (.int y1), .val (.int y2), .val (.int y3), .val (.int y4), .val (.int (0 : Int32)), .val (.int (1 : Int32)), .val (.int (1 : Int32)), .val (.int z1643), .val (.int z1645), .val (.int z1647), .val (.int z1649), .val (.int z1651), .val (.int z1653), .val (.ref b1655), .val (.int (0 : Int32)), .val (.int (own_r2 z1643.toInt.toNat (z1645.toInt.toNat * 4 + z1647.toInt.toNat) z1649.toInt.toNat (z1651.toInt.toNat * 4 + z1653.toInt.toNat) y2)), .val (.int (own_r3 z1643.toInt.toNat (z1645.toInt.toNat * 4 + z1647.toInt.toNat) z1649.toInt.toNat (z1651.toInt.toNat * 4 + z1653.toInt.toNat) y2 y3)), .val (.int (own_r4 z1643.toInt.toNat (z1645.toInt.toNat * 4 + z1647.toInt.toNat) z1649.toInt.toNat (z1651.toInt.toNat * 4 + z1653.toInt.toNat) y2 y3 y4)), .val (.int (1 : Int32)), .val (.int y2), .val (.int y3), .val (.int y3)]) X1681 hx hby at_242 rfl (pc' := 244) rfl ?_
                refine g_iload X1681 hx hby at_244 rfl (pc' := 246) rfl ?_
                refine g_if_ne X1681 hx hby at_246 (by decide) (pc' := 274) (by decide) (pc2 := 249) rfl (fun q => absurd (by decide) q) (fun c246_1717 => ?_)
                refine g_iload X1681 hx hby at_249 rfl (pc' := 251) rfl ?_
                refine g_iload X1681 hx hby at_251 rfl (pc' := 253) rfl ?_
                refine g_icmp_ne X1681 hx hby at_253 (by decide) (pc' := 274) (by decide) (pc2 := 256) rfl (fun q => absurd (show (own_r2 z1643.toInt.toNat (z1645.toInt.toNat * 4 + z1647.toInt.toNat) z1649.toInt.toNat (z1651.toInt.toNat * 4 + z1653.toInt.toNat) y2) = y2 by rw [(own_same y2 y3 y4 (by rw [c159_1683]) (by rw [c166_1691, c173_1699])).1] <;> simp [c201_1709, c221_1711, c229_1712]) q) (fun c253_1718 => ?_)
                refine g_iload X1681 hx hby at_256 rfl (pc' := 258) rfl ?_
                refine g_iload X1681 hx hby at_258 rfl (pc' := 260) rfl ?_
                refine g_icmp_ne X1681 hx hby at_260 (by decide) (pc' := 274) (by decide) (pc2 := 263) rfl (fun q => absurd (show (own_r3 z1643.toInt.toNat (z1645.toInt.toNat * 4 + z1647.toInt.toNat) z1649.toInt.toNat (z1651.toInt.toNat * 4 + z1653.toInt.toNat) y2 y3) = y3 by rw [(own_same y2 y3 y4 (by rw [c159_1683]) (by rw [c166_1691, c173_1699])).2.1] <;> simp [c201_1709, c221_1711, c229_1712]) q) (fun c260_1719 => ?_)
                refine g_iload X1681 hx hby at_263 rfl (pc' := 265) rfl ?_
                refine g_iload X1681 hx hby at_265 rfl (pc' := 267) rfl ?_
                refine g_icmp_ne X1681 hx hby at_267 (by decide) (pc' := 274) (by decide) (pc2 := 270) rfl (fun q => absurd (show (own_r4 z1643.toInt.toNat (z1645.toInt.toNat * 4 + z1647.toInt.toNat) z1649.toInt.toNat (z1651.toInt.toNat * 4 + z1653.toInt.toNat) y2 y3 y4) = y3 by rw [(own_same y2 y3 y4 (by rw [c159_1683]) (by rw [c166_1691, c173_1699])).2.2] <;> simp [c201_1709, c221_1711, c229_1712]) q) (fun c267_1720 => ?_)
                refine g_iconst (v := 1) X1681 hx hby at_270 rfl (pc' := 271) rfl ?_
                refine g_goto X1681 hx hby at_271 (by decide) (pc' := 275) (by decide) ?_
                exact g_retN X1681 hx hby hret hlk (by simp) at_275 rfl (by decide) (by decide)
            · refine g_iloadN X1681 hx hby at_204 rfl (pc' := 205) rfl ?_
              refine g_goto X1681 hx hby at_205 (by decide) (pc' := 213) (by decide) ?_
              refine g_istore (L' := #[.val (.int y0), .val (.int y1), .val (.int y2), .val (.int y3), .val (.int y4), .val (.int (0 : Int32)), .val (.int (1 : Int32)), .val (.int (1 : Int32)), .val (.int z1643), .val (.int z1645), .val (.int z1647), .val (.int z1649), .val (.int z1651), .val (.int z1653), .val (.ref b1655), .val (.int (0 : Int32)), .val (.int (own_r2 z1643.toInt.toNat (z1645.toInt.toNat * 4 + z1647.toInt.toNat) z1649.toInt.toNat (z1651.toInt.toNat * 4 + z1653.toInt.toNat) y2)), .val (.int (own_r3 z1643.toInt.toNat (z1645.toInt.toNat * 4 + z1647.toInt.toNat) z1649.toInt.toNat (z1651.toInt.toNat * 4 + z1653.toInt.toNat) y2 y3)), .val (.int (own_r4 z1643.toInt.toNat (z1645.toInt.toNat * 4 + z1647.toInt.toNat) z1649.toInt.toNat (z1651.toInt.toNat * 4 + z1653.toInt.toNat) y2 y3 y4)), .val (.int (1 : Int32)), .val (.int y2), .val (.int y2), .unset]) X1681 hx hby at_213 rfl (pc' := 215) rfl ?_
              refine g_iload X1681 hx hby at_215 rfl (pc' := 217) rfl ?_
              refine g_if_eq X1681 hx hby at_217 (by decide) (pc' := 241) (by decide) (pc2 := 220) rfl (fun q => absurd q (by decide)) (fun c217_1721 => ?_)
              refine g_iloadN X1681 hx hby at_220 rfl (pc' := 221) rfl ?_
              refine g_if_eq X1681 hx hby at_221 (by decide) (pc' := 228) (by decide) (pc2 := 224) rfl (fun q => absurd q c201_1709) (fun c221_1722 => ?_)
              refine g_iloadN X1681 hx hby at_224 rfl (pc' := 225) rfl ?_
              refine g_goto X1681 hx hby at_225 (by decide) (pc' := 242) (by decide) ?_
              refine g_istore (L' := #[.val (.int y0), .val (.int y1), .val (.int y2), .val (.int y3), .val (.int y4), .val (.int (0 : Int32)), .val (.int (1 : Int32)), .val (.int (1 : Int32)), .val (.int z1643), .val (.int z1645), .val (.int z1647), .val (.int z1649), .val (.int z1651), .val (.int z1653), .val (.ref b1655), .val (.int (0 : Int32)), .val (.int (own_r2 z1643.toInt.toNat (z1645.toInt.toNat * 4 + z1647.toInt.toNat) z1649.toInt.toNat (z1651.toInt.toNat * 4 + z1653.toInt.toNat) y2)), .val (.int (own_r3 z1643.toInt.toNat (z1645.toInt.toNat * 4 + z1647.toInt.toNat) z1649.toInt.toNat (z1651.toInt.toNat * 4 + z1653.toInt.toNat) y2 y3)), .val (.int (own_r4 z1643.toInt.toNat (z1645.toInt.toNat * 4 + z1647.toInt.toNat) z1649.toInt.toNat (z1651.toInt.toNat * 4 + z1653.toInt.toNat) y2 y3 y4)), .val (.int (1 : Int32)), .val (.int y2), .val (.int y2), .val (.int y2)]) X1681 hx hby at_242 rfl (pc' := 244) rfl ?_
              refine g_iload X1681 hx hby at_244 rfl (pc' := 246) rfl ?_
              refine g_if_ne X1681 hx hby at_246 (by decide) (pc' := 274) (by decide) (pc2 := 249) rfl (fun q => absurd (by decide) q) (fun c246_1723 => ?_)
              refine g_iload X1681 hx hby at_249 rfl (pc' := 251) rfl ?_
              refine g_iload X1681 hx hby at_251 rfl (pc' := 253) rfl ?_
              refine g_icmp_ne X1681 hx hby at_253 (by decide) (pc' := 274) (by decide) (pc2 := 256) rfl (fun q => absurd (show (own_r2 z1643.toInt.toNat (z1645.toInt.toNat * 4 + z1647.toInt.toNat) z1649.toInt.toNat (z1651.toInt.toNat * 4 + z1653.toInt.toNat) y2) = y2 by rw [(own_same y2 y3 y4 (by rw [c159_1683]) (by rw [c166_1691, c173_1699])).1] <;> simp [c201_1709, c221_1722]) q) (fun c253_1724 => ?_)
              refine g_iload X1681 hx hby at_256 rfl (pc' := 258) rfl ?_
              refine g_iload X1681 hx hby at_258 rfl (pc' := 260) rfl ?_
              refine g_icmp_ne X1681 hx hby at_260 (by decide) (pc' := 274) (by decide) (pc2 := 263) rfl (fun q => absurd (show (own_r3 z1643.toInt.toNat (z1645.toInt.toNat * 4 + z1647.toInt.toNat) z1649.toInt.toNat (z1651.toInt.toNat * 4 + z1653.toInt.toNat) y2 y3) = y2 by rw [(own_same y2 y3 y4 (by rw [c159_1683]) (by rw [c166_1691, c173_1699])).2.1] <;> simp [c201_1709, c221_1722]) q) (fun c260_1725 => ?_)
              refine g_iload X1681 hx hby at_263 rfl (pc' := 265) rfl ?_
              refine g_iload X1681 hx hby at_265 rfl (pc' := 267) rfl ?_
              refine g_icmp_ne X1681 hx hby at_267 (by decide) (pc' := 274) (by decide) (pc2 := 270) rfl (fun q => absurd (show (own_r4 z1643.toInt.toNat (z1645.toInt.toNat * 4 + z1647.toInt.toNat) z1649.toInt.toNat (z1651.toInt.toNat * 4 + z1653.toInt.toNat) y2 y3 y4) = y2 by rw [(own_same y2 y3 y4 (by rw [c159_1683]) (by rw [c166_1691, c173_1699])).2.2] <;> simp [c201_1709, c221_1722]) q) (fun c267_1726 => ?_)
              refine g_iconst (v := 1) X1681 hx hby at_270 rfl (pc' := 271) rfl ?_
              refine g_goto X1681 hx hby at_271 (by decide) (pc' := 275) (by decide) ?_
              exact g_retN X1681 hx hby hret hlk (by simp) at_275 rfl (by decide) (by decide)
    · show Gl p e below n0 _ _ (T0.setTop (mkF m 20 #[.val (.int y0), .val (.int y1), .val (.int y2), .val (.int y3), .val (.int y4), .val (.int (0 : Int32)), .unset, .unset, .unset, .unset, .unset, .unset, .unset, .unset, .unset, .unset, .unset, .unset, .unset, .unset, .unset, .unset, .unset] [(.int (2 : Int32))]))
      refine g_istore (L' := #[.val (.int y0), .val (.int y1), .val (.int y2), .val (.int y3), .val (.int y4), .val (.int (0 : Int32)), .val (.int (2 : Int32)), .unset, .unset, .unset, .unset, .unset, .unset, .unset, .unset, .unset, .unset, .unset, .unset, .unset, .unset, .unset, .unset]) X0 hx hby at_20 rfl (pc' := 22) rfl ?_
      refine g_iload X0 hx hby at_22 rfl (pc' := 24) rfl ?_
      refine g_if_eq X0 hx hby at_24 (by decide) (pc' := 32) (by decide) (pc2 := 27) rfl (fun c24_1727 => ?_) (fun q => absurd (by decide) q)
      refine g_iconst (v := 1) X0 hx hby at_32 rfl (pc' := 33) rfl ?_
      refine g_istore (L' := #[.val (.int y0), .val (.int y1), .val (.int y2), .val (.int y3), .val (.int y4), .val (.int (0 : Int32)), .val (.int (2 : Int32)), .val (.int (1 : Int32)), .unset, .unset, .unset, .unset, .unset, .unset, .unset, .unset, .unset, .unset, .unset, .unset, .unset, .unset, .unset]) X0 hx hby at_33 rfl (pc' := 35) rfl ?_
      refine g_iloadN X0 hx hby at_35 rfl (pc' := 36) rfl ?_
      refine g_iconst (v := 2) X0 hx hby at_36 rfl (pc' := 37) rfl ?_
      refine g_iushr X0 hx hby at_37 (pc' := 38) rfl ?_
      refine g_iconst (v := 1) X0 hx hby at_38 rfl (pc' := 39) rfl ?_
      refine g_iand X0 hx hby at_39 (pc' := 40) rfl ?_
      refine g_iload X0 hx hby at_40 rfl (pc' := 42) rfl ?_
      refine g_irem X0 hx hby at_42 (by decide) (pc' := 43) rfl ?_
      refine g_istore (L' := #[.val (.int y0), .val (.int y1), .val (.int y2), .val (.int y3), .val (.int y4), .val (.int (0 : Int32)), .val (.int (2 : Int32)), .val (.int (1 : Int32)), .val (.int ((((y0.toUInt32 >>> ((2 : Int32) &&& 31).toUInt32).toInt32) &&& (1 : Int32)) % (1 : Int32))), .unset, .unset, .unset, .unset, .unset, .unset, .unset, .unset, .unset, .unset, .unset, .unset, .unset, .unset]) X0 hx hby at_43 rfl (pc' := 45) rfl ?_
      obtain ⟨z1728, hz1728⟩ : ∃ z, z = ((((y0.toUInt32 >>> ((2 : Int32) &&& 31).toUInt32).toInt32) &&& (1 : Int32)) % (1 : Int32)) := ⟨_, rfl⟩
      rw [← hz1728]
      have bn1729 : 0 ≤ z1728.toInt ∧ z1728.toInt < 1 := by rw [hz1728]; exact own_tr1 _
      refine g_iloadN X0 hx hby at_45 rfl (pc' := 46) rfl ?_
      refine g_iconst (v := 3) X0 hx hby at_46 rfl (pc' := 47) rfl ?_
      refine g_iushr X0 hx hby at_47 (pc' := 48) rfl ?_
      refine g_bipush (v := 63) X0 hx hby at_48 rfl (pc' := 50) rfl ?_
      refine g_iand X0 hx hby at_50 (pc' := 51) rfl ?_
      refine g_istore (L' := #[.val (.int y0), .val (.int y1), .val (.int y2), .val (.int y3), .val (.int y4), .val (.int (0 : Int32)), .val (.int (2 : Int32)), .val (.int (1 : Int32)), .val (.int z1728), .val (.int (((y0.toUInt32 >>> ((3 : Int32) &&& 31).toUInt32).toInt32) &&& (63 : Int32))), .unset, .unset, .unset, .unset, .unset, .unset, .unset, .unset, .unset, .unset, .unset, .unset, .unset]) X0 hx hby at_51 rfl (pc' := 53) rfl ?_
      obtain ⟨z1730, hz1730⟩ : ∃ z, z = (((y0.toUInt32 >>> ((3 : Int32) &&& 31).toUInt32).toInt32) &&& (63 : Int32)) := ⟨_, rfl⟩
      rw [← hz1730]
      have bn1731 : 0 ≤ z1730.toInt ∧ z1730.toInt < 64 := by rw [hz1730]; exact own_m63 _
      refine g_iloadN X0 hx hby at_53 rfl (pc' := 54) rfl ?_
      refine g_bipush (v := 9) X0 hx hby at_54 rfl (pc' := 56) rfl ?_
      refine g_iushr X0 hx hby at_56 (pc' := 57) rfl ?_
      refine g_iconst (v := 3) X0 hx hby at_57 rfl (pc' := 58) rfl ?_
      refine g_iand X0 hx hby at_58 (pc' := 59) rfl ?_
      refine g_istore (L' := #[.val (.int y0), .val (.int y1), .val (.int y2), .val (.int y3), .val (.int y4), .val (.int (0 : Int32)), .val (.int (2 : Int32)), .val (.int (1 : Int32)), .val (.int z1728), .val (.int z1730), .val (.int (((y0.toUInt32 >>> ((9 : Int32) &&& 31).toUInt32).toInt32) &&& (3 : Int32))), .unset, .unset, .unset, .unset, .unset, .unset, .unset, .unset, .unset, .unset, .unset, .unset]) X0 hx hby at_59 rfl (pc' := 61) rfl ?_
      obtain ⟨z1732, hz1732⟩ : ∃ z, z = (((y0.toUInt32 >>> ((9 : Int32) &&& 31).toUInt32).toInt32) &&& (3 : Int32)) := ⟨_, rfl⟩
      rw [← hz1732]
      have bn1733 : 0 ≤ z1732.toInt ∧ z1732.toInt < 4 := by rw [hz1732]; exact own_m3 _
      refine g_iloadN X0 hx hby at_61 rfl (pc' := 62) rfl ?_
      refine g_iconst (v := 1) X0 hx hby at_62 rfl (pc' := 63) rfl ?_
      refine g_iand X0 hx hby at_63 (pc' := 64) rfl ?_
      refine g_iload X0 hx hby at_64 rfl (pc' := 66) rfl ?_
      refine g_irem X0 hx hby at_66 (by decide) (pc' := 67) rfl ?_
      refine g_istore (L' := #[.val (.int y0), .val (.int y1), .val (.int y2), .val (.int y3), .val (.int y4), .val (.int (0 : Int32)), .val (.int (2 : Int32)), .val (.int (1 : Int32)), .val (.int z1728), .val (.int z1730), .val (.int z1732), .val (.int ((y1 &&& (1 : Int32)) % (1 : Int32))), .unset, .unset, .unset, .unset, .unset, .unset, .unset, .unset, .unset, .unset, .unset]) X0 hx hby at_67 rfl (pc' := 69) rfl ?_
      obtain ⟨z1734, hz1734⟩ : ∃ z, z = ((y1 &&& (1 : Int32)) % (1 : Int32)) := ⟨_, rfl⟩
      rw [← hz1734]
      have bn1735 : 0 ≤ z1734.toInt ∧ z1734.toInt < 1 := by rw [hz1734]; exact own_tr1 _
      refine g_iloadN X0 hx hby at_69 rfl (pc' := 70) rfl ?_
      refine g_iconst (v := 1) X0 hx hby at_70 rfl (pc' := 71) rfl ?_
      refine g_iushr X0 hx hby at_71 (pc' := 72) rfl ?_
      refine g_bipush (v := 63) X0 hx hby at_72 rfl (pc' := 74) rfl ?_
      refine g_iand X0 hx hby at_74 (pc' := 75) rfl ?_
      refine g_istore (L' := #[.val (.int y0), .val (.int y1), .val (.int y2), .val (.int y3), .val (.int y4), .val (.int (0 : Int32)), .val (.int (2 : Int32)), .val (.int (1 : Int32)), .val (.int z1728), .val (.int z1730), .val (.int z1732), .val (.int z1734), .val (.int (((y1.toUInt32 >>> ((1 : Int32) &&& 31).toUInt32).toInt32) &&& (63 : Int32))), .unset, .unset, .unset, .unset, .unset, .unset, .unset, .unset, .unset, .unset]) X0 hx hby at_75 rfl (pc' := 77) rfl ?_
      obtain ⟨z1736, hz1736⟩ : ∃ z, z = (((y1.toUInt32 >>> ((1 : Int32) &&& 31).toUInt32).toInt32) &&& (63 : Int32)) := ⟨_, rfl⟩
      rw [← hz1736]
      have bn1737 : 0 ≤ z1736.toInt ∧ z1736.toInt < 64 := by rw [hz1736]; exact own_m63 _
      refine g_iloadN X0 hx hby at_77 rfl (pc' := 78) rfl ?_
      refine g_bipush (v := 7) X0 hx hby at_78 rfl (pc' := 80) rfl ?_
      refine g_iushr X0 hx hby at_80 (pc' := 81) rfl ?_
      refine g_iconst (v := 3) X0 hx hby at_81 rfl (pc' := 82) rfl ?_
      refine g_iand X0 hx hby at_82 (pc' := 83) rfl ?_
      refine g_istore (L' := #[.val (.int y0), .val (.int y1), .val (.int y2), .val (.int y3), .val (.int y4), .val (.int (0 : Int32)), .val (.int (2 : Int32)), .val (.int (1 : Int32)), .val (.int z1728), .val (.int z1730), .val (.int z1732), .val (.int z1734), .val (.int z1736), .val (.int (((y1.toUInt32 >>> ((7 : Int32) &&& 31).toUInt32).toInt32) &&& (3 : Int32))), .unset, .unset, .unset, .unset, .unset, .unset, .unset, .unset, .unset]) X0 hx hby at_83 rfl (pc' := 85) rfl ?_
      obtain ⟨z1738, hz1738⟩ : ∃ z, z = (((y1.toUInt32 >>> ((7 : Int32) &&& 31).toUInt32).toInt32) &&& (3 : Int32)) := ⟨_, rfl⟩
      rw [← hz1738]
      have bn1739 : 0 ≤ z1738.toInt ∧ z1738.toInt < 4 := by rw [hz1738]; exact own_m3 _
      refine g_new X0 hx hby hZ hown (hw _ (List.mem_of_getElem? (i := 0) rfl)) (hw _ (List.mem_of_getElem? (i := 1) rfl)) (hw _ (List.mem_of_getElem? (i := 2) rfl)) at_85 (by decide) (by decide) (pc' := 88) rfl (fun T1740 h1740 b1740 g1740 X1740 E1740 A1740 D1740 => ?_)
      have nn1741 : n0 ≤ b1740 := by rw [g1740]; exact Z0
      have hh1742 : h0.size ≤ b1740 := by rw [g1740]; exact (Keep.refl h0 []).1
      have zz1743 := Nat.le_trans Z0 E1740.1
      have kk1744 : Keep h0 h1740 [] := (Keep.refl h0 []).ext E1740
      have q1745 : Fld Z h1740 b1740 "com/example/basisbook/basisbook/HourlyPrices$Sums" "hours" "Lcom/example/basisbook/basisbook/LongIndex;" .null := D1740 (Or.inr (hw _ (List.mem_of_getElem? (i := 25) rfl))) (ty := (.object "com/example/basisbook/basisbook/LongIndex")) (by decide)
      have q1746 : Fld Z h1740 b1740 "com/example/basisbook/basisbook/HourlyPrices$Sums" "capacity" "I" (.int (0 : Int32)) := D1740 (Or.inl (hw _ (List.mem_of_getElem? (i := 27) rfl))) (ty := .int) (by decide)
      have q1747 : Fld Z h1740 b1740 "com/example/basisbook/basisbook/HourlyPrices$Sums" "lastHour" "J" (.long (0 : Int64)) := D1740 (Or.inl (hw _ (List.mem_of_getElem? (i := 30) rfl))) (ty := .long) (by decide)
      have q1748 : Fld Z h1740 b1740 "com/example/basisbook/basisbook/HourlyPrices$Sums" "tracks" "[I" .null := D1740 (Or.inr (hw _ (List.mem_of_getElem? (i := 32) rfl))) (ty := (.array .int)) (by decide)
      have q1749 : Fld Z h1740 b1740 "com/example/basisbook/basisbook/HourlyPrices$Sums" "prices" "[Lcom/example/basisbook/basisbook/Decimals;" .null := D1740 (Or.inr (hw _ (List.mem_of_getElem? (i := 36) rfl))) (ty := (.array (.object "com/example/basisbook/basisbook/Decimals"))) (by decide)
      have q1750 : Fld Z h1740 b1740 "com/example/basisbook/basisbook/HourlyPrices$Sums" "lines" "[[I" .null := D1740 (Or.inr (hw _ (List.mem_of_getElem? (i := 49) rfl))) (ty := (.array (.array .int))) (by decide)
      have q1751 : Fld Z h1740 b1740 "com/example/basisbook/basisbook/HourlyPrices$Sums" "given" "[[B" .null := D1740 (Or.inr (hw _ (List.mem_of_getElem? (i := 54) rfl))) (ty := (.array (.array .byte))) (by decide)
      have q1752 : Fld Z h1740 b1740 "com/example/basisbook/basisbook/HourlyPrices$Sums" "digits" "[J" .null := D1740 (Or.inr (hw _ (List.mem_of_getElem? (i := 56) rfl))) (ty := (.array .long)) (by decide)
      have q1753 : Fld Z h1740 b1740 "com/example/basisbook/basisbook/HourlyPrices$Sums" "decimals" "[I" .null := D1740 (Or.inr (hw _ (List.mem_of_getElem? (i := 58) rfl))) (ty := (.array .int)) (by decide)
      have q1754 : Fld Z h1740 b1740 "com/example/basisbook/basisbook/HourlyPrices$Sums" "beyondLong" "[Ljava/math/BigDecimal;" .null := D1740 (Or.inr (hw _ (List.mem_of_getElem? (i := 62) rfl))) (ty := (.array (.object "java/math/BigDecimal"))) (by decide)
      have q1755 : Fld Z h1740 b1740 "com/example/basisbook/basisbook/HourlyPrices$Sums" "quarterHourly" "Z" (.int (0 : Int32)) := D1740 (Or.inl (hw _ (List.mem_of_getElem? (i := 69) rfl))) (ty := .boolean) (by decide)
      refine g_dup X1740 hx hby at_88 rfl (pc' := 89) rfl ?_
      refine g_iload X1740 hx hby at_89 rfl (pc' := 91) rfl ?_
      refine g_iload X1740 hx hby at_91 rfl (pc' := 93) rfl ?_
      refine g_callC (argsL := [(.int (2 : Int32)), (.int (0 : Int32))]) (S := [(.ref b1740)]) (a := b1740) X1740 hx hby hZ (y := (⟨"com/example/basisbook/basisbook/HourlyPrices$Sums", "<init>", "(IZ)V"⟩ : MethodName)) rfl hown (hw _ (List.mem_of_getElem? (i := 3) rfl)) (hw _ (List.mem_of_getElem? (i := 4) rfl)) (hw _ (List.mem_of_getElem? (i := 2) rfl)) (hw _ (List.mem_of_getElem? (i := 5) rfl)) (by decide) (own_su20 l Z a0 hw b1740 h1740 n0 zz1743 A1740 q1755 nn1741) (by rw [hml]; rfl) (lenOf own_pd1 rfl) rfl at_93 (by decide) (W := 1) (by exact Nat.le_of_eq rfl) (by decide) (by decide) (by decide) (pc' := 96) rfl (fun T1756 v1756 X1756 hQ1756 => ?_)
      obtain ⟨rfl, ka1756, sm1756⟩ := hQ1756
      have q1757 := A1740.keep ka1756
      have zz1758 := Nat.le_trans zz1743 ka1756.1
      have kk1759 : Keep h0 T1756.heap [] := kk1744.trans ka1756 (allS (Or.inr hh1742) all0)
      show Gl p e below n0 _ _ (T1756.setTop (mkF m 96 #[.val (.int y0), .val (.int y1), .val (.int y2), .val (.int y3), .val (.int y4), .val (.int (0 : Int32)), .val (.int (2 : Int32)), .val (.int (1 : Int32)), .val (.int z1728), .val (.int z1730), .val (.int z1732), .val (.int z1734), .val (.int z1736), .val (.int z1738), .unset, .unset, .unset, .unset, .unset, .unset, .unset, .unset, .unset] [(.ref b1740)]))
      refine g_astore (L' := #[.val (.int y0), .val (.int y1), .val (.int y2), .val (.int y3), .val (.int y4), .val (.int (0 : Int32)), .val (.int (2 : Int32)), .val (.int (1 : Int32)), .val (.int z1728), .val (.int z1730), .val (.int z1732), .val (.int z1734), .val (.int z1736), .val (.int z1738), .val (.ref b1740), .unset, .unset, .unset, .unset, .unset, .unset, .unset, .unset]) X1756 hx hby at_96 rfl rfl (pc' := 98) rfl ?_
      refine g_aload X1756 hx hby at_98 rfl rfl (pc' := 100) rfl ?_
      refine g_iload X1756 hx hby at_100 rfl (pc' := 102) rfl ?_
      refine g_iload X1756 hx hby at_102 rfl (pc' := 104) rfl ?_
      refine g_iload X1756 hx hby at_104 rfl (pc' := 106) rfl ?_
      refine g_iloadN X1756 hx hby at_106 rfl (pc' := 107) rfl ?_
      have ex1761 : Exa Z T1756.heap b1740 "com/example/basisbook/basisbook/HourlyPrices$Sums" := by obtain ⟨_, _, _, _, _, _, _, E, -⟩ := sm1756; exact E
      refine g_callV (argsL := [(.int z1728), (.int z1730), (.int z1732), (.int y2)]) (S := []) (a := b1740) X1756 hx hby hZ (y := (⟨"com/example/basisbook/basisbook/HourlyPrices$Sums", "give", "(IIII)I"⟩ : MethodName)) (y' := (⟨"com/example/basisbook/basisbook/HourlyPrices$Sums", "give", "(IIII)I"⟩ : MethodName)) hown (hw _ (List.mem_of_getElem? (i := 63) rfl)) (hw _ (List.mem_of_getElem? (i := 64) rfl)) (notFace_of_selects (args := #[]) (mvT hZ (hw _ (List.mem_of_getElem? (i := 66) rfl)))) (hw _ (List.mem_of_getElem? (i := 66) rfl)) (hw _ (List.mem_of_getElem? (i := 65) rfl)) (hw _ (List.mem_of_getElem? (i := 2) rfl)) (hw _ (List.mem_of_getElem? (i := 67) rfl)) (by decide) ex1761 (own_gv l Z a0 hw b1740 z1728 z1730 z1732 y2 T1756.heap n0 1 z1728.toInt.toNat z1730.toInt.toNat z1732.toInt.toNat (fun _ _ => 0) sm1756 (by omega) (by omega) (by omega) (by omega) (by omega) (by omega)) (by rw [hml]; rfl) (lenOf own_pd2 rfl) rfl at_107 (by decide) (W := 0) (by exact Nat.le_of_eq rfl) (by decide) (by decide) (by decide) (pc' := 110) rfl (fun T1760 v1760 X1760 hQ1760 => ?_)
      obtain ⟨rfl, sm1760⟩ := hQ1760
      show Gl p e below n0 _ _ (T1760.setTop (mkF m 110 #[.val (.int y0), .val (.int y1), .val (.int y2), .val (.int y3), .val (.int y4), .val (.int (0 : Int32)), .val (.int (2 : Int32)), .val (.int (1 : Int32)), .val (.int z1728), .val (.int z1730), .val (.int z1732), .val (.int z1734), .val (.int z1736), .val (.int z1738), .val (.ref b1740), .unset, .unset, .unset, .unset, .unset, .unset, .unset, .unset] [(.int ((fun _ _ => 0) z1728.toInt.toNat (z1730.toInt.toNat * 4 + z1732.toInt.toNat)))]))
      refine g_istore (L' := #[.val (.int y0), .val (.int y1), .val (.int y2), .val (.int y3), .val (.int y4), .val (.int (0 : Int32)), .val (.int (2 : Int32)), .val (.int (1 : Int32)), .val (.int z1728), .val (.int z1730), .val (.int z1732), .val (.int z1734), .val (.int z1736), .val (.int z1738), .val (.ref b1740), .val (.int ((fun _ _ => 0) z1728.toInt.toNat (z1730.toInt.toNat * 4 + z1732.toInt.toNat))), .unset, .unset, .unset, .unset, .unset, .unset, .unset]) X1760 hx hby at_110 rfl (pc' := 112) rfl ?_
      refine g_aload X1760 hx hby at_112 rfl rfl (pc' := 114) rfl ?_
      refine g_iload X1760 hx hby at_114 rfl (pc' := 116) rfl ?_
      refine g_iload X1760 hx hby at_116 rfl (pc' := 118) rfl ?_
      refine g_iload X1760 hx hby at_118 rfl (pc' := 120) rfl ?_
      refine g_iloadN X1760 hx hby at_120 rfl (pc' := 121) rfl ?_
      have ex1763 : Exa Z T1760.heap b1740 "com/example/basisbook/basisbook/HourlyPrices$Sums" := by obtain ⟨_, _, _, _, _, _, _, E, -⟩ := sm1760; exact E
      refine g_callV (argsL := [(.int z1734), (.int z1736), (.int z1738), (.int y3)]) (S := []) (a := b1740) X1760 hx hby hZ (y := (⟨"com/example/basisbook/basisbook/HourlyPrices$Sums", "give", "(IIII)I"⟩ : MethodName)) (y' := (⟨"com/example/basisbook/basisbook/HourlyPrices$Sums", "give", "(IIII)I"⟩ : MethodName)) hown (hw _ (List.mem_of_getElem? (i := 63) rfl)) (hw _ (List.mem_of_getElem? (i := 64) rfl)) (notFace_of_selects (args := #[]) (mvT hZ (hw _ (List.mem_of_getElem? (i := 66) rfl)))) (hw _ (List.mem_of_getElem? (i := 66) rfl)) (hw _ (List.mem_of_getElem? (i := 65) rfl)) (hw _ (List.mem_of_getElem? (i := 2) rfl)) (hw _ (List.mem_of_getElem? (i := 67) rfl)) (by decide) ex1763 (own_gv l Z a0 hw b1740 z1734 z1736 z1738 y3 T1760.heap n0 1 z1734.toInt.toNat z1736.toInt.toNat z1738.toInt.toNat (own_give (fun _ _ => 0) z1728.toInt.toNat (z1730.toInt.toNat * 4 + z1732.toInt.toNat) y2) sm1760 (by omega) (by omega) (by omega) (by omega) (by omega) (by omega)) (by rw [hml]; rfl) (lenOf own_pd2 rfl) rfl at_121 (by decide) (W := 0) (by exact Nat.le_of_eq rfl) (by decide) (by decide) (by decide) (pc' := 124) rfl (fun T1762 v1762 X1762 hQ1762 => ?_)
      obtain ⟨rfl, sm1762⟩ := hQ1762
      show Gl p e below n0 _ _ (T1762.setTop (mkF m 124 #[.val (.int y0), .val (.int y1), .val (.int y2), .val (.int y3), .val (.int y4), .val (.int (0 : Int32)), .val (.int (2 : Int32)), .val (.int (1 : Int32)), .val (.int z1728), .val (.int z1730), .val (.int z1732), .val (.int z1734), .val (.int z1736), .val (.int z1738), .val (.ref b1740), .val (.int ((fun _ _ => 0) z1728.toInt.toNat (z1730.toInt.toNat * 4 + z1732.toInt.toNat))), .unset, .unset, .unset, .unset, .unset, .unset, .unset] [(.int ((own_give (fun _ _ => 0) z1728.toInt.toNat (z1730.toInt.toNat * 4 + z1732.toInt.toNat) y2) z1734.toInt.toNat (z1736.toInt.toNat * 4 + z1738.toInt.toNat)))]))
      refine g_istore (L' := #[.val (.int y0), .val (.int y1), .val (.int y2), .val (.int y3), .val (.int y4), .val (.int (0 : Int32)), .val (.int (2 : Int32)), .val (.int (1 : Int32)), .val (.int z1728), .val (.int z1730), .val (.int z1732), .val (.int z1734), .val (.int z1736), .val (.int z1738), .val (.ref b1740), .val (.int ((fun _ _ => 0) z1728.toInt.toNat (z1730.toInt.toNat * 4 + z1732.toInt.toNat))), .val (.int ((own_give (fun _ _ => 0) z1728.toInt.toNat (z1730.toInt.toNat * 4 + z1732.toInt.toNat) y2) z1734.toInt.toNat (z1736.toInt.toNat * 4 + z1738.toInt.toNat))), .unset, .unset, .unset, .unset, .unset, .unset]) X1762 hx hby at_124 rfl (pc' := 126) rfl ?_
      refine g_aload X1762 hx hby at_126 rfl rfl (pc' := 128) rfl ?_
      refine g_iload X1762 hx hby at_128 rfl (pc' := 130) rfl ?_
      refine g_iload X1762 hx hby at_130 rfl (pc' := 132) rfl ?_
      refine g_iload X1762 hx hby at_132 rfl (pc' := 134) rfl ?_
      refine g_iload X1762 hx hby at_134 rfl (pc' := 136) rfl ?_
      have ex1765 : Exa Z T1762.heap b1740 "com/example/basisbook/basisbook/HourlyPrices$Sums" := by obtain ⟨_, _, _, _, _, _, _, E, -⟩ := sm1762; exact E
      refine g_callV (argsL := [(.int z1728), (.int z1730), (.int z1732), (.int y4)]) (S := []) (a := b1740) X1762 hx hby hZ (y := (⟨"com/example/basisbook/basisbook/HourlyPrices$Sums", "give", "(IIII)I"⟩ : MethodName)) (y' := (⟨"com/example/basisbook/basisbook/HourlyPrices$Sums", "give", "(IIII)I"⟩ : MethodName)) hown (hw _ (List.mem_of_getElem? (i := 63) rfl)) (hw _ (List.mem_of_getElem? (i := 64) rfl)) (notFace_of_selects (args := #[]) (mvT hZ (hw _ (List.mem_of_getElem? (i := 66) rfl)))) (hw _ (List.mem_of_getElem? (i := 66) rfl)) (hw _ (List.mem_of_getElem? (i := 65) rfl)) (hw _ (List.mem_of_getElem? (i := 2) rfl)) (hw _ (List.mem_of_getElem? (i := 67) rfl)) (by decide) ex1765 (own_gv l Z a0 hw b1740 z1728 z1730 z1732 y4 T1762.heap n0 1 z1728.toInt.toNat z1730.toInt.toNat z1732.toInt.toNat (own_give (own_give (fun _ _ => 0) z1728.toInt.toNat (z1730.toInt.toNat * 4 + z1732.toInt.toNat) y2) z1734.toInt.toNat (z1736.toInt.toNat * 4 + z1738.toInt.toNat) y3) sm1762 (by omega) (by omega) (by omega) (by omega) (by omega) (by omega)) (by rw [hml]; rfl) (lenOf own_pd2 rfl) rfl at_136 (by decide) (W := 0) (by exact Nat.le_of_eq rfl) (by decide) (by decide) (by decide) (pc' := 139) rfl (fun T1764 v1764 X1764 hQ1764 => ?_)
      obtain ⟨rfl, sm1764⟩ := hQ1764
      show Gl p e below n0 _ _ (T1764.setTop (mkF m 139 #[.val (.int y0), .val (.int y1), .val (.int y2), .val (.int y3), .val (.int y4), .val (.int (0 : Int32)), .val (.int (2 : Int32)), .val (.int (1 : Int32)), .val (.int z1728), .val (.int z1730), .val (.int z1732), .val (.int z1734), .val (.int z1736), .val (.int z1738), .val (.ref b1740), .val (.int ((fun _ _ => 0) z1728.toInt.toNat (z1730.toInt.toNat * 4 + z1732.toInt.toNat))), .val (.int ((own_give (fun _ _ => 0) z1728.toInt.toNat (z1730.toInt.toNat * 4 + z1732.toInt.toNat) y2) z1734.toInt.toNat (z1736.toInt.toNat * 4 + z1738.toInt.toNat))), .unset, .unset, .unset, .unset, .unset, .unset] [(.int ((own_give (own_give (fun _ _ => 0) z1728.toInt.toNat (z1730.toInt.toNat * 4 + z1732.toInt.toNat) y2) z1734.toInt.toNat (z1736.toInt.toNat * 4 + z1738.toInt.toNat) y3) z1728.toInt.toNat (z1730.toInt.toNat * 4 + z1732.toInt.toNat)))]))
      refine g_istore (L' := #[.val (.int y0), .val (.int y1), .val (.int y2), .val (.int y3), .val (.int y4), .val (.int (0 : Int32)), .val (.int (2 : Int32)), .val (.int (1 : Int32)), .val (.int z1728), .val (.int z1730), .val (.int z1732), .val (.int z1734), .val (.int z1736), .val (.int z1738), .val (.ref b1740), .val (.int ((fun _ _ => 0) z1728.toInt.toNat (z1730.toInt.toNat * 4 + z1732.toInt.toNat))), .val (.int ((own_give (fun _ _ => 0) z1728.toInt.toNat (z1730.toInt.toNat * 4 + z1732.toInt.toNat) y2) z1734.toInt.toNat (z1736.toInt.toNat * 4 + z1738.toInt.toNat))), .val (.int ((own_give (own_give (fun _ _ => 0) z1728.toInt.toNat (z1730.toInt.toNat * 4 + z1732.toInt.toNat) y2) z1734.toInt.toNat (z1736.toInt.toNat * 4 + z1738.toInt.toNat) y3) z1728.toInt.toNat (z1730.toInt.toNat * 4 + z1732.toInt.toNat))), .unset, .unset, .unset, .unset, .unset]) X1764 hx hby at_139 rfl (pc' := 141) rfl ?_
      refine g_aload X1764 hx hby at_141 rfl rfl (pc' := 143) rfl ?_
      refine g_iload X1764 hx hby at_143 rfl (pc' := 145) rfl ?_
      refine g_iload X1764 hx hby at_145 rfl (pc' := 147) rfl ?_
      refine g_iload X1764 hx hby at_147 rfl (pc' := 149) rfl ?_
      refine g_iloadN X1764 hx hby at_149 rfl (pc' := 150) rfl ?_
      have ex1767 : Exa Z T1764.heap b1740 "com/example/basisbook/basisbook/HourlyPrices$Sums" := by obtain ⟨_, _, _, _, _, _, _, E, -⟩ := sm1764; exact E
      refine g_callV (argsL := [(.int z1734), (.int z1736), (.int z1738), (.int y2)]) (S := []) (a := b1740) X1764 hx hby hZ (y := (⟨"com/example/basisbook/basisbook/HourlyPrices$Sums", "give", "(IIII)I"⟩ : MethodName)) (y' := (⟨"com/example/basisbook/basisbook/HourlyPrices$Sums", "give", "(IIII)I"⟩ : MethodName)) hown (hw _ (List.mem_of_getElem? (i := 63) rfl)) (hw _ (List.mem_of_getElem? (i := 64) rfl)) (notFace_of_selects (args := #[]) (mvT hZ (hw _ (List.mem_of_getElem? (i := 66) rfl)))) (hw _ (List.mem_of_getElem? (i := 66) rfl)) (hw _ (List.mem_of_getElem? (i := 65) rfl)) (hw _ (List.mem_of_getElem? (i := 2) rfl)) (hw _ (List.mem_of_getElem? (i := 67) rfl)) (by decide) ex1767 (own_gv l Z a0 hw b1740 z1734 z1736 z1738 y2 T1764.heap n0 1 z1734.toInt.toNat z1736.toInt.toNat z1738.toInt.toNat (own_give (own_give (own_give (fun _ _ => 0) z1728.toInt.toNat (z1730.toInt.toNat * 4 + z1732.toInt.toNat) y2) z1734.toInt.toNat (z1736.toInt.toNat * 4 + z1738.toInt.toNat) y3) z1728.toInt.toNat (z1730.toInt.toNat * 4 + z1732.toInt.toNat) y4) sm1764 (by omega) (by omega) (by omega) (by omega) (by omega) (by omega)) (by rw [hml]; rfl) (lenOf own_pd2 rfl) rfl at_150 (by decide) (W := 0) (by exact Nat.le_of_eq rfl) (by decide) (by decide) (by decide) (pc' := 153) rfl (fun T1766 v1766 X1766 hQ1766 => ?_)
      obtain ⟨rfl, sm1766⟩ := hQ1766
      show Gl p e below n0 _ _ (T1766.setTop (mkF m 153 #[.val (.int y0), .val (.int y1), .val (.int y2), .val (.int y3), .val (.int y4), .val (.int (0 : Int32)), .val (.int (2 : Int32)), .val (.int (1 : Int32)), .val (.int z1728), .val (.int z1730), .val (.int z1732), .val (.int z1734), .val (.int z1736), .val (.int z1738), .val (.ref b1740), .val (.int ((fun _ _ => 0) z1728.toInt.toNat (z1730.toInt.toNat * 4 + z1732.toInt.toNat))), .val (.int ((own_give (fun _ _ => 0) z1728.toInt.toNat (z1730.toInt.toNat * 4 + z1732.toInt.toNat) y2) z1734.toInt.toNat (z1736.toInt.toNat * 4 + z1738.toInt.toNat))), .val (.int ((own_give (own_give (fun _ _ => 0) z1728.toInt.toNat (z1730.toInt.toNat * 4 + z1732.toInt.toNat) y2) z1734.toInt.toNat (z1736.toInt.toNat * 4 + z1738.toInt.toNat) y3) z1728.toInt.toNat (z1730.toInt.toNat * 4 + z1732.toInt.toNat))), .unset, .unset, .unset, .unset, .unset] [(.int ((own_give (own_give (own_give (fun _ _ => 0) z1728.toInt.toNat (z1730.toInt.toNat * 4 + z1732.toInt.toNat) y2) z1734.toInt.toNat (z1736.toInt.toNat * 4 + z1738.toInt.toNat) y3) z1728.toInt.toNat (z1730.toInt.toNat * 4 + z1732.toInt.toNat) y4) z1734.toInt.toNat (z1736.toInt.toNat * 4 + z1738.toInt.toNat)))]))
      refine g_istore (L' := #[.val (.int y0), .val (.int y1), .val (.int y2), .val (.int y3), .val (.int y4), .val (.int (0 : Int32)), .val (.int (2 : Int32)), .val (.int (1 : Int32)), .val (.int z1728), .val (.int z1730), .val (.int z1732), .val (.int z1734), .val (.int z1736), .val (.int z1738), .val (.ref b1740), .val (.int ((fun _ _ => 0) z1728.toInt.toNat (z1730.toInt.toNat * 4 + z1732.toInt.toNat))), .val (.int ((own_give (fun _ _ => 0) z1728.toInt.toNat (z1730.toInt.toNat * 4 + z1732.toInt.toNat) y2) z1734.toInt.toNat (z1736.toInt.toNat * 4 + z1738.toInt.toNat))), .val (.int ((own_give (own_give (fun _ _ => 0) z1728.toInt.toNat (z1730.toInt.toNat * 4 + z1732.toInt.toNat) y2) z1734.toInt.toNat (z1736.toInt.toNat * 4 + z1738.toInt.toNat) y3) z1728.toInt.toNat (z1730.toInt.toNat * 4 + z1732.toInt.toNat))), .val (.int ((own_give (own_give (own_give (fun _ _ => 0) z1728.toInt.toNat (z1730.toInt.toNat * 4 + z1732.toInt.toNat) y2) z1734.toInt.toNat (z1736.toInt.toNat * 4 + z1738.toInt.toNat) y3) z1728.toInt.toNat (z1730.toInt.toNat * 4 + z1732.toInt.toNat) y4) z1734.toInt.toNat (z1736.toInt.toNat * 4 + z1738.toInt.toNat))), .unset, .unset, .unset, .unset]) X1766 hx hby at_153 rfl (pc' := 155) rfl ?_
      change Gl p e below n0 _ _ (T1766.setTop (mkF m 155 #[.val (.int y0), .val (.int y1), .val (.int y2), .val (.int y3), .val (.int y4), .val (.int (0 : Int32)), .val (.int (2 : Int32)), .val (.int (1 : Int32)), .val (.int z1728), .val (.int z1730), .val (.int z1732), .val (.int z1734), .val (.int z1736), .val (.int z1738), .val (.ref b1740), .val (.int (0 : Int32)), .val (.int (own_r2 z1728.toInt.toNat (z1730.toInt.toNat * 4 + z1732.toInt.toNat) z1734.toInt.toNat (z1736.toInt.toNat * 4 + z1738.toInt.toNat) y2)), .val (.int (own_r3 z1728.toInt.toNat (z1730.toInt.toNat * 4 + z1732.toInt.toNat) z1734.toInt.toNat (z1736.toInt.toNat * 4 + z1738.toInt.toNat) y2 y3)), .val (.int (own_r4 z1728.toInt.toNat (z1730.toInt.toNat * 4 + z1732.toInt.toNat) z1734.toInt.toNat (z1736.toInt.toNat * 4 + z1738.toInt.toNat) y2 y3 y4)), .unset, .unset, .unset, .unset] []))
      refine g_iload X1766 hx hby at_155 rfl (pc' := 157) rfl ?_
      refine g_iload X1766 hx hby at_157 rfl (pc' := 159) rfl ?_
      refine g_icmp_ne X1766 hx hby at_159 (by decide) (pc' := 180) (by decide) (pc2 := 162) rfl (fun c159_1768 => ?_) (fun c159_1768 => ?_)
      · refine g_iconst (v := 0) X1766 hx hby at_180 rfl (pc' := 181) rfl ?_
        refine g_istore (L' := #[.val (.int y0), .val (.int y1), .val (.int y2), .val (.int y3), .val (.int y4), .val (.int (0 : Int32)), .val (.int (2 : Int32)), .val (.int (1 : Int32)), .val (.int z1728), .val (.int z1730), .val (.int z1732), .val (.int z1734), .val (.int z1736), .val (.int z1738), .val (.ref b1740), .val (.int (0 : Int32)), .val (.int (own_r2 z1728.toInt.toNat (z1730.toInt.toNat * 4 + z1732.toInt.toNat) z1734.toInt.toNat (z1736.toInt.toNat * 4 + z1738.toInt.toNat) y2)), .val (.int (own_r3 z1728.toInt.toNat (z1730.toInt.toNat * 4 + z1732.toInt.toNat) z1734.toInt.toNat (z1736.toInt.toNat * 4 + z1738.toInt.toNat) y2 y3)), .val (.int (own_r4 z1728.toInt.toNat (z1730.toInt.toNat * 4 + z1732.toInt.toNat) z1734.toInt.toNat (z1736.toInt.toNat * 4 + z1738.toInt.toNat) y2 y3 y4)), .val (.int (0 : Int32)), .unset, .unset, .unset]) X1766 hx hby at_181 rfl (pc' := 183) rfl ?_
        refine g_iload X1766 hx hby at_183 rfl (pc' := 185) rfl ?_
        refine g_if_eq X1766 hx hby at_185 (by decide) (pc' := 192) (by decide) (pc2 := 188) rfl (fun c185_1769 => ?_) (fun q => absurd (by decide) q)
        refine g_iconst (v := 0) X1766 hx hby at_192 rfl (pc' := 193) rfl ?_
        refine g_istore (L' := #[.val (.int y0), .val (.int y1), .val (.int y2), .val (.int y3), .val (.int y4), .val (.int (0 : Int32)), .val (.int (2 : Int32)), .val (.int (1 : Int32)), .val (.int z1728), .val (.int z1730), .val (.int z1732), .val (.int z1734), .val (.int z1736), .val (.int z1738), .val (.ref b1740), .val (.int (0 : Int32)), .val (.int (own_r2 z1728.toInt.toNat (z1730.toInt.toNat * 4 + z1732.toInt.toNat) z1734.toInt.toNat (z1736.toInt.toNat * 4 + z1738.toInt.toNat) y2)), .val (.int (own_r3 z1728.toInt.toNat (z1730.toInt.toNat * 4 + z1732.toInt.toNat) z1734.toInt.toNat (z1736.toInt.toNat * 4 + z1738.toInt.toNat) y2 y3)), .val (.int (own_r4 z1728.toInt.toNat (z1730.toInt.toNat * 4 + z1732.toInt.toNat) z1734.toInt.toNat (z1736.toInt.toNat * 4 + z1738.toInt.toNat) y2 y3 y4)), .val (.int (0 : Int32)), .val (.int (0 : Int32)), .unset, .unset]) X1766 hx hby at_193 rfl (pc' := 195) rfl ?_
        refine g_iload X1766 hx hby at_195 rfl (pc' := 197) rfl ?_
        refine g_if_eq X1766 hx hby at_197 (by decide) (pc' := 212) (by decide) (pc2 := 200) rfl (fun c197_1770 => ?_) (fun q => absurd (by decide) q)
        refine g_iloadN X1766 hx hby at_212 rfl (pc' := 213) rfl ?_
        refine g_istore (L' := #[.val (.int y0), .val (.int y1), .val (.int y2), .val (.int y3), .val (.int y4), .val (.int (0 : Int32)), .val (.int (2 : Int32)), .val (.int (1 : Int32)), .val (.int z1728), .val (.int z1730), .val (.int z1732), .val (.int z1734), .val (.int z1736), .val (.int z1738), .val (.ref b1740), .val (.int (0 : Int32)), .val (.int (own_r2 z1728.toInt.toNat (z1730.toInt.toNat * 4 + z1732.toInt.toNat) z1734.toInt.toNat (z1736.toInt.toNat * 4 + z1738.toInt.toNat) y2)), .val (.int (own_r3 z1728.toInt.toNat (z1730.toInt.toNat * 4 + z1732.toInt.toNat) z1734.toInt.toNat (z1736.toInt.toNat * 4 + z1738.toInt.toNat) y2 y3)), .val (.int (own_r4 z1728.toInt.toNat (z1730.toInt.toNat * 4 + z1732.toInt.toNat) z1734.toInt.toNat (z1736.toInt.toNat * 4 + z1738.toInt.toNat) y2 y3 y4)), .val (.int (0 : Int32)), .val (.int (0 : Int32)), .val (.int y2), .unset]) X1766 hx hby at_213 rfl (pc' := 215) rfl ?_
        refine g_iload X1766 hx hby at_215 rfl (pc' := 217) rfl ?_
        refine g_if_eq X1766 hx hby at_217 (by decide) (pc' := 241) (by decide) (pc2 := 220) rfl (fun c217_1771 => ?_) (fun q => absurd (by decide) q)
        refine g_iloadN X1766 hx hby at_241 rfl (pc' := 242) rfl ?_
        refine g_istore (L' := #[.val (.int y0), .val (.int y1), .val (.int y2), .val (.int y3), .val (.int y4), .val (.int (0 : Int32)), .val (.int (2 : Int32)), .val (.int (1 : Int32)), .val (.int z1728), .val (.int z1730), .val (.int z1732), .val (.int z1734), .val (.int z1736), .val (.int z1738), .val (.ref b1740), .val (.int (0 : Int32)), .val (.int (own_r2 z1728.toInt.toNat (z1730.toInt.toNat * 4 + z1732.toInt.toNat) z1734.toInt.toNat (z1736.toInt.toNat * 4 + z1738.toInt.toNat) y2)), .val (.int (own_r3 z1728.toInt.toNat (z1730.toInt.toNat * 4 + z1732.toInt.toNat) z1734.toInt.toNat (z1736.toInt.toNat * 4 + z1738.toInt.toNat) y2 y3)), .val (.int (own_r4 z1728.toInt.toNat (z1730.toInt.toNat * 4 + z1732.toInt.toNat) z1734.toInt.toNat (z1736.toInt.toNat * 4 + z1738.toInt.toNat) y2 y3 y4)), .val (.int (0 : Int32)), .val (.int (0 : Int32)), .val (.int y2), .val (.int y3)]) X1766 hx hby at_242 rfl (pc' := 244) rfl ?_
        refine g_iload X1766 hx hby at_244 rfl (pc' := 246) rfl ?_
        refine g_if_ne X1766 hx hby at_246 (by decide) (pc' := 274) (by decide) (pc2 := 249) rfl (fun q => absurd (by decide) q) (fun c246_1772 => ?_)
        refine g_iload X1766 hx hby at_249 rfl (pc' := 251) rfl ?_
        refine g_iload X1766 hx hby at_251 rfl (pc' := 253) rfl ?_
        refine g_icmp_ne X1766 hx hby at_253 (by decide) (pc' := 274) (by decide) (pc2 := 256) rfl (fun q => absurd (show (own_r2 z1728.toInt.toNat (z1730.toInt.toNat * 4 + z1732.toInt.toNat) z1734.toInt.toNat (z1736.toInt.toNat * 4 + z1738.toInt.toNat) y2) = (0 : Int32) by rw [(own_diff y2 y3 y4 (by have hh0 := (own_n32 c159_1768); omega)).1]) q) (fun c253_1773 => ?_)
        refine g_iload X1766 hx hby at_256 rfl (pc' := 258) rfl ?_
        refine g_iload X1766 hx hby at_258 rfl (pc' := 260) rfl ?_
        refine g_icmp_ne X1766 hx hby at_260 (by decide) (pc' := 274) (by decide) (pc2 := 263) rfl (fun q => absurd (show (own_r3 z1728.toInt.toNat (z1730.toInt.toNat * 4 + z1732.toInt.toNat) z1734.toInt.toNat (z1736.toInt.toNat * 4 + z1738.toInt.toNat) y2 y3) = y2 by rw [(own_diff y2 y3 y4 (by have hh0 := (own_n32 c159_1768); omega)).2.1]) q) (fun c260_1774 => ?_)
        refine g_iload X1766 hx hby at_263 rfl (pc' := 265) rfl ?_
        refine g_iload X1766 hx hby at_265 rfl (pc' := 267) rfl ?_
        refine g_icmp_ne X1766 hx hby at_267 (by decide) (pc' := 274) (by decide) (pc2 := 270) rfl (fun q => absurd (show (own_r4 z1728.toInt.toNat (z1730.toInt.toNat * 4 + z1732.toInt.toNat) z1734.toInt.toNat (z1736.toInt.toNat * 4 + z1738.toInt.toNat) y2 y3 y4) = y3 by rw [(own_diff y2 y3 y4 (by have hh0 := (own_n32 c159_1768); omega)).2.2]) q) (fun c267_1775 => ?_)
        refine g_iconst (v := 1) X1766 hx hby at_270 rfl (pc' := 271) rfl ?_
        refine g_goto X1766 hx hby at_271 (by decide) (pc' := 275) (by decide) ?_
        exact g_retN X1766 hx hby hret hlk (by simp) at_275 rfl (by decide) (by decide)
      · refine g_iload X1766 hx hby at_162 rfl (pc' := 164) rfl ?_
        refine g_iload X1766 hx hby at_164 rfl (pc' := 166) rfl ?_
        refine g_icmp_ne X1766 hx hby at_166 (by decide) (pc' := 180) (by decide) (pc2 := 169) rfl (fun c166_1776 => ?_) (fun c166_1776 => ?_)
        · refine g_iconst (v := 0) X1766 hx hby at_180 rfl (pc' := 181) rfl ?_
          refine g_istore (L' := #[.val (.int y0), .val (.int y1), .val (.int y2), .val (.int y3), .val (.int y4), .val (.int (0 : Int32)), .val (.int (2 : Int32)), .val (.int (1 : Int32)), .val (.int z1728), .val (.int z1730), .val (.int z1732), .val (.int z1734), .val (.int z1736), .val (.int z1738), .val (.ref b1740), .val (.int (0 : Int32)), .val (.int (own_r2 z1728.toInt.toNat (z1730.toInt.toNat * 4 + z1732.toInt.toNat) z1734.toInt.toNat (z1736.toInt.toNat * 4 + z1738.toInt.toNat) y2)), .val (.int (own_r3 z1728.toInt.toNat (z1730.toInt.toNat * 4 + z1732.toInt.toNat) z1734.toInt.toNat (z1736.toInt.toNat * 4 + z1738.toInt.toNat) y2 y3)), .val (.int (own_r4 z1728.toInt.toNat (z1730.toInt.toNat * 4 + z1732.toInt.toNat) z1734.toInt.toNat (z1736.toInt.toNat * 4 + z1738.toInt.toNat) y2 y3 y4)), .val (.int (0 : Int32)), .unset, .unset, .unset]) X1766 hx hby at_181 rfl (pc' := 183) rfl ?_
          refine g_iload X1766 hx hby at_183 rfl (pc' := 185) rfl ?_
          refine g_if_eq X1766 hx hby at_185 (by decide) (pc' := 192) (by decide) (pc2 := 188) rfl (fun c185_1777 => ?_) (fun q => absurd (by decide) q)
          refine g_iconst (v := 0) X1766 hx hby at_192 rfl (pc' := 193) rfl ?_
          refine g_istore (L' := #[.val (.int y0), .val (.int y1), .val (.int y2), .val (.int y3), .val (.int y4), .val (.int (0 : Int32)), .val (.int (2 : Int32)), .val (.int (1 : Int32)), .val (.int z1728), .val (.int z1730), .val (.int z1732), .val (.int z1734), .val (.int z1736), .val (.int z1738), .val (.ref b1740), .val (.int (0 : Int32)), .val (.int (own_r2 z1728.toInt.toNat (z1730.toInt.toNat * 4 + z1732.toInt.toNat) z1734.toInt.toNat (z1736.toInt.toNat * 4 + z1738.toInt.toNat) y2)), .val (.int (own_r3 z1728.toInt.toNat (z1730.toInt.toNat * 4 + z1732.toInt.toNat) z1734.toInt.toNat (z1736.toInt.toNat * 4 + z1738.toInt.toNat) y2 y3)), .val (.int (own_r4 z1728.toInt.toNat (z1730.toInt.toNat * 4 + z1732.toInt.toNat) z1734.toInt.toNat (z1736.toInt.toNat * 4 + z1738.toInt.toNat) y2 y3 y4)), .val (.int (0 : Int32)), .val (.int (0 : Int32)), .unset, .unset]) X1766 hx hby at_193 rfl (pc' := 195) rfl ?_
          refine g_iload X1766 hx hby at_195 rfl (pc' := 197) rfl ?_
          refine g_if_eq X1766 hx hby at_197 (by decide) (pc' := 212) (by decide) (pc2 := 200) rfl (fun c197_1778 => ?_) (fun q => absurd (by decide) q)
          refine g_iloadN X1766 hx hby at_212 rfl (pc' := 213) rfl ?_
          refine g_istore (L' := #[.val (.int y0), .val (.int y1), .val (.int y2), .val (.int y3), .val (.int y4), .val (.int (0 : Int32)), .val (.int (2 : Int32)), .val (.int (1 : Int32)), .val (.int z1728), .val (.int z1730), .val (.int z1732), .val (.int z1734), .val (.int z1736), .val (.int z1738), .val (.ref b1740), .val (.int (0 : Int32)), .val (.int (own_r2 z1728.toInt.toNat (z1730.toInt.toNat * 4 + z1732.toInt.toNat) z1734.toInt.toNat (z1736.toInt.toNat * 4 + z1738.toInt.toNat) y2)), .val (.int (own_r3 z1728.toInt.toNat (z1730.toInt.toNat * 4 + z1732.toInt.toNat) z1734.toInt.toNat (z1736.toInt.toNat * 4 + z1738.toInt.toNat) y2 y3)), .val (.int (own_r4 z1728.toInt.toNat (z1730.toInt.toNat * 4 + z1732.toInt.toNat) z1734.toInt.toNat (z1736.toInt.toNat * 4 + z1738.toInt.toNat) y2 y3 y4)), .val (.int (0 : Int32)), .val (.int (0 : Int32)), .val (.int y2), .unset]) X1766 hx hby at_213 rfl (pc' := 215) rfl ?_
          refine g_iload X1766 hx hby at_215 rfl (pc' := 217) rfl ?_
          refine g_if_eq X1766 hx hby at_217 (by decide) (pc' := 241) (by decide) (pc2 := 220) rfl (fun c217_1779 => ?_) (fun q => absurd (by decide) q)
          refine g_iloadN X1766 hx hby at_241 rfl (pc' := 242) rfl ?_
          refine g_istore (L' := #[.val (.int y0), .val (.int y1), .val (.int y2), .val (.int y3), .val (.int y4), .val (.int (0 : Int32)), .val (.int (2 : Int32)), .val (.int (1 : Int32)), .val (.int z1728), .val (.int z1730), .val (.int z1732), .val (.int z1734), .val (.int z1736), .val (.int z1738), .val (.ref b1740), .val (.int (0 : Int32)), .val (.int (own_r2 z1728.toInt.toNat (z1730.toInt.toNat * 4 + z1732.toInt.toNat) z1734.toInt.toNat (z1736.toInt.toNat * 4 + z1738.toInt.toNat) y2)), .val (.int (own_r3 z1728.toInt.toNat (z1730.toInt.toNat * 4 + z1732.toInt.toNat) z1734.toInt.toNat (z1736.toInt.toNat * 4 + z1738.toInt.toNat) y2 y3)), .val (.int (own_r4 z1728.toInt.toNat (z1730.toInt.toNat * 4 + z1732.toInt.toNat) z1734.toInt.toNat (z1736.toInt.toNat * 4 + z1738.toInt.toNat) y2 y3 y4)), .val (.int (0 : Int32)), .val (.int (0 : Int32)), .val (.int y2), .val (.int y3)]) X1766 hx hby at_242 rfl (pc' := 244) rfl ?_
          refine g_iload X1766 hx hby at_244 rfl (pc' := 246) rfl ?_
          refine g_if_ne X1766 hx hby at_246 (by decide) (pc' := 274) (by decide) (pc2 := 249) rfl (fun q => absurd (by decide) q) (fun c246_1780 => ?_)
          refine g_iload X1766 hx hby at_249 rfl (pc' := 251) rfl ?_
          refine g_iload X1766 hx hby at_251 rfl (pc' := 253) rfl ?_
          refine g_icmp_ne X1766 hx hby at_253 (by decide) (pc' := 274) (by decide) (pc2 := 256) rfl (fun q => absurd (show (own_r2 z1728.toInt.toNat (z1730.toInt.toNat * 4 + z1732.toInt.toNat) z1734.toInt.toNat (z1736.toInt.toNat * 4 + z1738.toInt.toNat) y2) = (0 : Int32) by rw [(own_diff y2 y3 y4 (by have hh0 := (own_i32 c159_1768); have hh1 := (own_n32 c166_1776); omega)).1]) q) (fun c253_1781 => ?_)
          refine g_iload X1766 hx hby at_256 rfl (pc' := 258) rfl ?_
          refine g_iload X1766 hx hby at_258 rfl (pc' := 260) rfl ?_
          refine g_icmp_ne X1766 hx hby at_260 (by decide) (pc' := 274) (by decide) (pc2 := 263) rfl (fun q => absurd (show (own_r3 z1728.toInt.toNat (z1730.toInt.toNat * 4 + z1732.toInt.toNat) z1734.toInt.toNat (z1736.toInt.toNat * 4 + z1738.toInt.toNat) y2 y3) = y2 by rw [(own_diff y2 y3 y4 (by have hh0 := (own_i32 c159_1768); have hh1 := (own_n32 c166_1776); omega)).2.1]) q) (fun c260_1782 => ?_)
          refine g_iload X1766 hx hby at_263 rfl (pc' := 265) rfl ?_
          refine g_iload X1766 hx hby at_265 rfl (pc' := 267) rfl ?_
          refine g_icmp_ne X1766 hx hby at_267 (by decide) (pc' := 274) (by decide) (pc2 := 270) rfl (fun q => absurd (show (own_r4 z1728.toInt.toNat (z1730.toInt.toNat * 4 + z1732.toInt.toNat) z1734.toInt.toNat (z1736.toInt.toNat * 4 + z1738.toInt.toNat) y2 y3 y4) = y3 by rw [(own_diff y2 y3 y4 (by have hh0 := (own_i32 c159_1768); have hh1 := (own_n32 c166_1776); omega)).2.2]) q) (fun c267_1783 => ?_)
          refine g_iconst (v := 1) X1766 hx hby at_270 rfl (pc' := 271) rfl ?_
          refine g_goto X1766 hx hby at_271 (by decide) (pc' := 275) (by decide) ?_
          exact g_retN X1766 hx hby hret hlk (by simp) at_275 rfl (by decide) (by decide)
        · refine g_iload X1766 hx hby at_169 rfl (pc' := 171) rfl ?_
          refine g_iload X1766 hx hby at_171 rfl (pc' := 173) rfl ?_
          refine g_icmp_ne X1766 hx hby at_173 (by decide) (pc' := 180) (by decide) (pc2 := 176) rfl (fun c173_1784 => ?_) (fun c173_1784 => ?_)
          · refine g_iconst (v := 0) X1766 hx hby at_180 rfl (pc' := 181) rfl ?_
            refine g_istore (L' := #[.val (.int y0), .val (.int y1), .val (.int y2), .val (.int y3), .val (.int y4), .val (.int (0 : Int32)), .val (.int (2 : Int32)), .val (.int (1 : Int32)), .val (.int z1728), .val (.int z1730), .val (.int z1732), .val (.int z1734), .val (.int z1736), .val (.int z1738), .val (.ref b1740), .val (.int (0 : Int32)), .val (.int (own_r2 z1728.toInt.toNat (z1730.toInt.toNat * 4 + z1732.toInt.toNat) z1734.toInt.toNat (z1736.toInt.toNat * 4 + z1738.toInt.toNat) y2)), .val (.int (own_r3 z1728.toInt.toNat (z1730.toInt.toNat * 4 + z1732.toInt.toNat) z1734.toInt.toNat (z1736.toInt.toNat * 4 + z1738.toInt.toNat) y2 y3)), .val (.int (own_r4 z1728.toInt.toNat (z1730.toInt.toNat * 4 + z1732.toInt.toNat) z1734.toInt.toNat (z1736.toInt.toNat * 4 + z1738.toInt.toNat) y2 y3 y4)), .val (.int (0 : Int32)), .unset, .unset, .unset]) X1766 hx hby at_181 rfl (pc' := 183) rfl ?_
            refine g_iload X1766 hx hby at_183 rfl (pc' := 185) rfl ?_
            refine g_if_eq X1766 hx hby at_185 (by decide) (pc' := 192) (by decide) (pc2 := 188) rfl (fun c185_1785 => ?_) (fun q => absurd (by decide) q)
            refine g_iconst (v := 0) X1766 hx hby at_192 rfl (pc' := 193) rfl ?_
            refine g_istore (L' := #[.val (.int y0), .val (.int y1), .val (.int y2), .val (.int y3), .val (.int y4), .val (.int (0 : Int32)), .val (.int (2 : Int32)), .val (.int (1 : Int32)), .val (.int z1728), .val (.int z1730), .val (.int z1732), .val (.int z1734), .val (.int z1736), .val (.int z1738), .val (.ref b1740), .val (.int (0 : Int32)), .val (.int (own_r2 z1728.toInt.toNat (z1730.toInt.toNat * 4 + z1732.toInt.toNat) z1734.toInt.toNat (z1736.toInt.toNat * 4 + z1738.toInt.toNat) y2)), .val (.int (own_r3 z1728.toInt.toNat (z1730.toInt.toNat * 4 + z1732.toInt.toNat) z1734.toInt.toNat (z1736.toInt.toNat * 4 + z1738.toInt.toNat) y2 y3)), .val (.int (own_r4 z1728.toInt.toNat (z1730.toInt.toNat * 4 + z1732.toInt.toNat) z1734.toInt.toNat (z1736.toInt.toNat * 4 + z1738.toInt.toNat) y2 y3 y4)), .val (.int (0 : Int32)), .val (.int (0 : Int32)), .unset, .unset]) X1766 hx hby at_193 rfl (pc' := 195) rfl ?_
            refine g_iload X1766 hx hby at_195 rfl (pc' := 197) rfl ?_
            refine g_if_eq X1766 hx hby at_197 (by decide) (pc' := 212) (by decide) (pc2 := 200) rfl (fun c197_1786 => ?_) (fun q => absurd (by decide) q)
            refine g_iloadN X1766 hx hby at_212 rfl (pc' := 213) rfl ?_
            refine g_istore (L' := #[.val (.int y0), .val (.int y1), .val (.int y2), .val (.int y3), .val (.int y4), .val (.int (0 : Int32)), .val (.int (2 : Int32)), .val (.int (1 : Int32)), .val (.int z1728), .val (.int z1730), .val (.int z1732), .val (.int z1734), .val (.int z1736), .val (.int z1738), .val (.ref b1740), .val (.int (0 : Int32)), .val (.int (own_r2 z1728.toInt.toNat (z1730.toInt.toNat * 4 + z1732.toInt.toNat) z1734.toInt.toNat (z1736.toInt.toNat * 4 + z1738.toInt.toNat) y2)), .val (.int (own_r3 z1728.toInt.toNat (z1730.toInt.toNat * 4 + z1732.toInt.toNat) z1734.toInt.toNat (z1736.toInt.toNat * 4 + z1738.toInt.toNat) y2 y3)), .val (.int (own_r4 z1728.toInt.toNat (z1730.toInt.toNat * 4 + z1732.toInt.toNat) z1734.toInt.toNat (z1736.toInt.toNat * 4 + z1738.toInt.toNat) y2 y3 y4)), .val (.int (0 : Int32)), .val (.int (0 : Int32)), .val (.int y2), .unset]) X1766 hx hby at_213 rfl (pc' := 215) rfl ?_
            refine g_iload X1766 hx hby at_215 rfl (pc' := 217) rfl ?_
            refine g_if_eq X1766 hx hby at_217 (by decide) (pc' := 241) (by decide) (pc2 := 220) rfl (fun c217_1787 => ?_) (fun q => absurd (by decide) q)
            refine g_iloadN X1766 hx hby at_241 rfl (pc' := 242) rfl ?_
            refine g_istore (L' := #[.val (.int y0), .val (.int y1), .val (.int y2), .val (.int y3), .val (.int y4), .val (.int (0 : Int32)), .val (.int (2 : Int32)), .val (.int (1 : Int32)), .val (.int z1728), .val (.int z1730), .val (.int z1732), .val (.int z1734), .val (.int z1736), .val (.int z1738), .val (.ref b1740), .val (.int (0 : Int32)), .val (.int (own_r2 z1728.toInt.toNat (z1730.toInt.toNat * 4 + z1732.toInt.toNat) z1734.toInt.toNat (z1736.toInt.toNat * 4 + z1738.toInt.toNat) y2)), .val (.int (own_r3 z1728.toInt.toNat (z1730.toInt.toNat * 4 + z1732.toInt.toNat) z1734.toInt.toNat (z1736.toInt.toNat * 4 + z1738.toInt.toNat) y2 y3)), .val (.int (own_r4 z1728.toInt.toNat (z1730.toInt.toNat * 4 + z1732.toInt.toNat) z1734.toInt.toNat (z1736.toInt.toNat * 4 + z1738.toInt.toNat) y2 y3 y4)), .val (.int (0 : Int32)), .val (.int (0 : Int32)), .val (.int y2), .val (.int y3)]) X1766 hx hby at_242 rfl (pc' := 244) rfl ?_
            refine g_iload X1766 hx hby at_244 rfl (pc' := 246) rfl ?_
            refine g_if_ne X1766 hx hby at_246 (by decide) (pc' := 274) (by decide) (pc2 := 249) rfl (fun q => absurd (by decide) q) (fun c246_1788 => ?_)
            refine g_iload X1766 hx hby at_249 rfl (pc' := 251) rfl ?_
            refine g_iload X1766 hx hby at_251 rfl (pc' := 253) rfl ?_
            refine g_icmp_ne X1766 hx hby at_253 (by decide) (pc' := 274) (by decide) (pc2 := 256) rfl (fun q => absurd (show (own_r2 z1728.toInt.toNat (z1730.toInt.toNat * 4 + z1732.toInt.toNat) z1734.toInt.toNat (z1736.toInt.toNat * 4 + z1738.toInt.toNat) y2) = (0 : Int32) by rw [(own_diff y2 y3 y4 (by have hh0 := (own_i32 c159_1768); have hh1 := (own_i32 c166_1776); have hh2 := (own_n32 c173_1784); omega)).1]) q) (fun c253_1789 => ?_)
            refine g_iload X1766 hx hby at_256 rfl (pc' := 258) rfl ?_
            refine g_iload X1766 hx hby at_258 rfl (pc' := 260) rfl ?_
            refine g_icmp_ne X1766 hx hby at_260 (by decide) (pc' := 274) (by decide) (pc2 := 263) rfl (fun q => absurd (show (own_r3 z1728.toInt.toNat (z1730.toInt.toNat * 4 + z1732.toInt.toNat) z1734.toInt.toNat (z1736.toInt.toNat * 4 + z1738.toInt.toNat) y2 y3) = y2 by rw [(own_diff y2 y3 y4 (by have hh0 := (own_i32 c159_1768); have hh1 := (own_i32 c166_1776); have hh2 := (own_n32 c173_1784); omega)).2.1]) q) (fun c260_1790 => ?_)
            refine g_iload X1766 hx hby at_263 rfl (pc' := 265) rfl ?_
            refine g_iload X1766 hx hby at_265 rfl (pc' := 267) rfl ?_
            refine g_icmp_ne X1766 hx hby at_267 (by decide) (pc' := 274) (by decide) (pc2 := 270) rfl (fun q => absurd (show (own_r4 z1728.toInt.toNat (z1730.toInt.toNat * 4 + z1732.toInt.toNat) z1734.toInt.toNat (z1736.toInt.toNat * 4 + z1738.toInt.toNat) y2 y3 y4) = y3 by rw [(own_diff y2 y3 y4 (by have hh0 := (own_i32 c159_1768); have hh1 := (own_i32 c166_1776); have hh2 := (own_n32 c173_1784); omega)).2.2]) q) (fun c267_1791 => ?_)
            refine g_iconst (v := 1) X1766 hx hby at_270 rfl (pc' := 271) rfl ?_
            refine g_goto X1766 hx hby at_271 (by decide) (pc' := 275) (by decide) ?_
            exact g_retN X1766 hx hby hret hlk (by simp) at_275 rfl (by decide) (by decide)
          · refine g_iconst (v := 1) X1766 hx hby at_176 rfl (pc' := 177) rfl ?_
            refine g_goto X1766 hx hby at_177 (by decide) (pc' := 181) (by decide) ?_
            refine g_istore (L' := #[.val (.int y0), .val (.int y1), .val (.int y2), .val (.int y3), .val (.int y4), .val (.int (0 : Int32)), .val (.int (2 : Int32)), .val (.int (1 : Int32)), .val (.int z1728), .val (.int z1730), .val (.int z1732), .val (.int z1734), .val (.int z1736), .val (.int z1738), .val (.ref b1740), .val (.int (0 : Int32)), .val (.int (own_r2 z1728.toInt.toNat (z1730.toInt.toNat * 4 + z1732.toInt.toNat) z1734.toInt.toNat (z1736.toInt.toNat * 4 + z1738.toInt.toNat) y2)), .val (.int (own_r3 z1728.toInt.toNat (z1730.toInt.toNat * 4 + z1732.toInt.toNat) z1734.toInt.toNat (z1736.toInt.toNat * 4 + z1738.toInt.toNat) y2 y3)), .val (.int (own_r4 z1728.toInt.toNat (z1730.toInt.toNat * 4 + z1732.toInt.toNat) z1734.toInt.toNat (z1736.toInt.toNat * 4 + z1738.toInt.toNat) y2 y3 y4)), .val (.int (1 : Int32)), .unset, .unset, .unset]) X1766 hx hby at_181 rfl (pc' := 183) rfl ?_
            refine g_iload X1766 hx hby at_183 rfl (pc' := 185) rfl ?_
            refine g_if_eq X1766 hx hby at_185 (by decide) (pc' := 192) (by decide) (pc2 := 188) rfl (fun q => absurd q (by decide)) (fun c185_1792 => ?_)
            refine g_iloadN X1766 hx hby at_188 rfl (pc' := 189) rfl ?_
            refine g_goto X1766 hx hby at_189 (by decide) (pc' := 193) (by decide) ?_
            refine g_istore (L' := #[.val (.int y0), .val (.int y1), .val (.int y2), .val (.int y3), .val (.int y4), .val (.int (0 : Int32)), .val (.int (2 : Int32)), .val (.int (1 : Int32)), .val (.int z1728), .val (.int z1730), .val (.int z1732), .val (.int z1734), .val (.int z1736), .val (.int z1738), .val (.ref b1740), .val (.int (0 : Int32)), .val (.int (own_r2 z1728.toInt.toNat (z1730.toInt.toNat * 4 + z1732.toInt.toNat) z1734.toInt.toNat (z1736.toInt.toNat * 4 + z1738.toInt.toNat) y2)), .val (.int (own_r3 z1728.toInt.toNat (z1730.toInt.toNat * 4 + z1732.toInt.toNat) z1734.toInt.toNat (z1736.toInt.toNat * 4 + z1738.toInt.toNat) y2 y3)), .val (.int (own_r4 z1728.toInt.toNat (z1730.toInt.toNat * 4 + z1732.toInt.toNat) z1734.toInt.toNat (z1736.toInt.toNat * 4 + z1738.toInt.toNat) y2 y3 y4)), .val (.int (1 : Int32)), .val (.int y2), .unset, .unset]) X1766 hx hby at_193 rfl (pc' := 195) rfl ?_
            refine g_iload X1766 hx hby at_195 rfl (pc' := 197) rfl ?_
            refine g_if_eq X1766 hx hby at_197 (by decide) (pc' := 212) (by decide) (pc2 := 200) rfl (fun q => absurd q (by decide)) (fun c197_1793 => ?_)
            refine g_iloadN X1766 hx hby at_200 rfl (pc' := 201) rfl ?_
            refine g_if_eq X1766 hx hby at_201 (by decide) (pc' := 208) (by decide) (pc2 := 204) rfl (fun c201_1794 => ?_) (fun c201_1794 => ?_)
            · refine g_iloadN X1766 hx hby at_208 rfl (pc' := 209) rfl ?_
              refine g_goto X1766 hx hby at_209 (by decide) (pc' := 213) (by decide) ?_
              refine g_istore (L' := #[.val (.int y0), .val (.int y1), .val (.int y2), .val (.int y3), .val (.int y4), .val (.int (0 : Int32)), .val (.int (2 : Int32)), .val (.int (1 : Int32)), .val (.int z1728), .val (.int z1730), .val (.int z1732), .val (.int z1734), .val (.int z1736), .val (.int z1738), .val (.ref b1740), .val (.int (0 : Int32)), .val (.int (own_r2 z1728.toInt.toNat (z1730.toInt.toNat * 4 + z1732.toInt.toNat) z1734.toInt.toNat (z1736.toInt.toNat * 4 + z1738.toInt.toNat) y2)), .val (.int (own_r3 z1728.toInt.toNat (z1730.toInt.toNat * 4 + z1732.toInt.toNat) z1734.toInt.toNat (z1736.toInt.toNat * 4 + z1738.toInt.toNat) y2 y3)), .val (.int (own_r4 z1728.toInt.toNat (z1730.toInt.toNat * 4 + z1732.toInt.toNat) z1734.toInt.toNat (z1736.toInt.toNat * 4 + z1738.toInt.toNat) y2 y3 y4)), .val (.int (1 : Int32)), .val (.int y2), .val (.int y3), .unset]) X1766 hx hby at_213 rfl (pc' := 215) rfl ?_
              refine g_iload X1766 hx hby at_215 rfl (pc' := 217) rfl ?_
              refine g_if_eq X1766 hx hby at_217 (by decide) (pc' := 241) (by decide) (pc2 := 220) rfl (fun q => absurd q (by decide)) (fun c217_1795 => ?_)
              refine g_iloadN X1766 hx hby at_220 rfl (pc' := 221) rfl ?_
              refine g_if_eq X1766 hx hby at_221 (by decide) (pc' := 228) (by decide) (pc2 := 224) rfl (fun c221_1796 => ?_) (fun q => absurd c201_1794 q)
              refine g_iloadN X1766 hx hby at_228 rfl (pc' := 229) rfl ?_
              refine g_if_eq X1766 hx hby at_229 (by decide) (pc' := 236) (by decide) (pc2 := 232) rfl (fun c229_1797 => ?_) (fun c229_1797 => ?_)
              · refine g_iload X1766 hx hby at_236 rfl (pc' := 238) rfl ?_
                refine g_goto X1766 hx hby at_238 (by decide) (pc' := 242) (by decide) ?_
                refine g_istore (L' := #[.val (.int y0), .val (.int y1), .val (.int y2), .val (.int y3), .val (.int y4), .val (.int (0 : Int32)), .val (.int (2 : Int32)), .val (.int (1 : Int32)), .val (.int z1728), .val (.int z1730), .val (.int z1732), .val (.int z1734), .val (.int z1736), .val (.int z1738), .val (.ref b1740), .val (.int (0 : Int32)), .val (.int (own_r2 z1728.toInt.toNat (z1730.toInt.toNat * 4 + z1732.toInt.toNat) z1734.toInt.toNat (z1736.toInt.toNat * 4 + z1738.toInt.toNat) y2)), .val (.int (own_r3 z1728.toInt.toNat (z1730.toInt.toNat * 4 + z1732.toInt.toNat) z1734.toInt.toNat (z1736.toInt.toNat * 4 + z1738.toInt.toNat) y2 y3)), .val (.int (own_r4 z1728.toInt.toNat (z1730.toInt.toNat * 4 + z1732.toInt.toNat) z1734.toInt.toNat (z1736.toInt.toNat * 4 + z1738.toInt.toNat) y2 y3 y4)), .val (.int (1 : Int32)), .val (.int y2), .val (.int y3), .val (.int y4)]) X1766 hx hby at_242 rfl (pc' := 244) rfl ?_
                refine g_iload X1766 hx hby at_244 rfl (pc' := 246) rfl ?_
                refine g_if_ne X1766 hx hby at_246 (by decide) (pc' := 274) (by decide) (pc2 := 249) rfl (fun q => absurd (by decide) q) (fun c246_1798 => ?_)
                refine g_iload X1766 hx hby at_249 rfl (pc' := 251) rfl ?_
                refine g_iload X1766 hx hby at_251 rfl (pc' := 253) rfl ?_
                refine g_icmp_ne X1766 hx hby at_253 (by decide) (pc' := 274) (by decide) (pc2 := 256) rfl (fun q => absurd (show (own_r2 z1728.toInt.toNat (z1730.toInt.toNat * 4 + z1732.toInt.toNat) z1734.toInt.toNat (z1736.toInt.toNat * 4 + z1738.toInt.toNat) y2) = y2 by rw [(own_same y2 y3 y4 (by rw [c159_1768]) (by rw [c166_1776, c173_1784])).1] <;> simp [c201_1794, c221_1796, c229_1797]) q) (fun c253_1799 => ?_)
                refine g_iload X1766 hx hby at_256 rfl (pc' := 258) rfl ?_
                refine g_iload X1766 hx hby at_258 rfl (pc' := 260) rfl ?_
                refine g_icmp_ne X1766 hx hby at_260 (by decide) (pc' := 274) (by decide) (pc2 := 263) rfl (fun q => absurd (show (own_r3 z1728.toInt.toNat (z1730.toInt.toNat * 4 + z1732.toInt.toNat) z1734.toInt.toNat (z1736.toInt.toNat * 4 + z1738.toInt.toNat) y2 y3) = y3 by rw [(own_same y2 y3 y4 (by rw [c159_1768]) (by rw [c166_1776, c173_1784])).2.1] <;> simp [c201_1794, c221_1796, c229_1797]) q) (fun c260_1800 => ?_)
                refine g_iload X1766 hx hby at_263 rfl (pc' := 265) rfl ?_
                refine g_iload X1766 hx hby at_265 rfl (pc' := 267) rfl ?_
                refine g_icmp_ne X1766 hx hby at_267 (by decide) (pc' := 274) (by decide) (pc2 := 270) rfl (fun q => absurd (show (own_r4 z1728.toInt.toNat (z1730.toInt.toNat * 4 + z1732.toInt.toNat) z1734.toInt.toNat (z1736.toInt.toNat * 4 + z1738.toInt.toNat) y2 y3 y4) = y4 by rw [(own_same y2 y3 y4 (by rw [c159_1768]) (by rw [c166_1776, c173_1784])).2.2] <;> simp [c201_1794, c221_1796, c229_1797]) q) (fun c267_1801 => ?_)
                refine g_iconst (v := 1) X1766 hx hby at_270 rfl (pc' := 271) rfl ?_
                refine g_goto X1766 hx hby at_271 (by decide) (pc' := 275) (by decide) ?_
                exact g_retN X1766 hx hby hret hlk (by simp) at_275 rfl (by decide) (by decide)
              · refine g_iloadN X1766 hx hby at_232 rfl (pc' := 233) rfl ?_
                refine g_goto X1766 hx hby at_233 (by decide) (pc' := 242) (by decide) ?_
                refine g_istore (L' := #[.val (.int y0), .val (.int y1), .val (.int y2), .val (.int y3), .val (.int y4), .val (.int (0 : Int32)), .val (.int (2 : Int32)), .val (.int (1 : Int32)), .val (.int z1728), .val (.int z1730), .val (.int z1732), .val (.int z1734), .val (.int z1736), .val (.int z1738), .val (.ref b1740), .val (.int (0 : Int32)), .val (.int (own_r2 z1728.toInt.toNat (z1730.toInt.toNat * 4 + z1732.toInt.toNat) z1734.toInt.toNat (z1736.toInt.toNat * 4 + z1738.toInt.toNat) y2)), .val (.int (own_r3 z1728.toInt.toNat (z1730.toInt.toNat * 4 + z1732.toInt.toNat) z1734.toInt.toNat (z1736.toInt.toNat * 4 + z1738.toInt.toNat) y2 y3)), .val (.int (own_r4 z1728.toInt.toNat (z1730.toInt.toNat * 4 + z1732.toInt.toNat) z1734.toInt.toNat (z1736.toInt.toNat * 4 + z1738.toInt.toNat) y2 y3 y4)), .val (.int (1 : Int32)), .val (.int y2), .val (.int y3), .val (.int y3)]) X1766 hx hby at_242 rfl (pc' := 244) rfl ?_
                refine g_iload X1766 hx hby at_244 rfl (pc' := 246) rfl ?_
                refine g_if_ne X1766 hx hby at_246 (by decide) (pc' := 274) (by decide) (pc2 := 249) rfl (fun q => absurd (by decide) q) (fun c246_1802 => ?_)
                refine g_iload X1766 hx hby at_249 rfl (pc' := 251) rfl ?_
                refine g_iload X1766 hx hby at_251 rfl (pc' := 253) rfl ?_
                refine g_icmp_ne X1766 hx hby at_253 (by decide) (pc' := 274) (by decide) (pc2 := 256) rfl (fun q => absurd (show (own_r2 z1728.toInt.toNat (z1730.toInt.toNat * 4 + z1732.toInt.toNat) z1734.toInt.toNat (z1736.toInt.toNat * 4 + z1738.toInt.toNat) y2) = y2 by rw [(own_same y2 y3 y4 (by rw [c159_1768]) (by rw [c166_1776, c173_1784])).1] <;> simp [c201_1794, c221_1796, c229_1797]) q) (fun c253_1803 => ?_)
                refine g_iload X1766 hx hby at_256 rfl (pc' := 258) rfl ?_
                refine g_iload X1766 hx hby at_258 rfl (pc' := 260) rfl ?_
                refine g_icmp_ne X1766 hx hby at_260 (by decide) (pc' := 274) (by decide) (pc2 := 263) rfl (fun q => absurd (show (own_r3 z1728.toInt.toNat (z1730.toInt.toNat * 4 + z1732.toInt.toNat) z1734.toInt.toNat (z1736.toInt.toNat * 4 + z1738.toInt.toNat) y2 y3) = y3 by rw [(own_same y2 y3 y4 (by rw [c159_1768]) (by rw [c166_1776, c173_1784])).2.1] <;> simp [c201_1794, c221_1796, c229_1797]) q) (fun c260_1804 => ?_)
                refine g_iload X1766 hx hby at_263 rfl (pc' := 265) rfl ?_
                refine g_iload X1766 hx hby at_265 rfl (pc' := 267) rfl ?_
                refine g_icmp_ne X1766 hx hby at_267 (by decide) (pc' := 274) (by decide) (pc2 := 270) rfl (fun q => absurd (show (own_r4 z1728.toInt.toNat (z1730.toInt.toNat * 4 + z1732.toInt.toNat) z1734.toInt.toNat (z1736.toInt.toNat * 4 + z1738.toInt.toNat) y2 y3 y4) = y3 by rw [(own_same y2 y3 y4 (by rw [c159_1768]) (by rw [c166_1776, c173_1784])).2.2] <;> simp [c201_1794, c221_1796, c229_1797]) q) (fun c267_1805 => ?_)
                refine g_iconst (v := 1) X1766 hx hby at_270 rfl (pc' := 271) rfl ?_
                refine g_goto X1766 hx hby at_271 (by decide) (pc' := 275) (by decide) ?_
                exact g_retN X1766 hx hby hret hlk (by simp) at_275 rfl (by decide) (by decide)
            · refine g_iloadN X1766 hx hby at_204 rfl (pc' := 205) rfl ?_
              refine g_goto X1766 hx hby at_205 (by decide) (pc' := 213) (by decide) ?_
              refine g_istore (L' := #[.val (.int y0), .val (.int y1), .val (.int y2), .val (.int y3), .val (.int y4), .val (.int (0 : Int32)), .val (.int (2 : Int32)), .val (.int (1 : Int32)), .val (.int z1728), .val (.int z1730), .val (.int z1732), .val (.int z1734), .val (.int z1736), .val (.int z1738), .val (.ref b1740), .val (.int (0 : Int32)), .val (.int (own_r2 z1728.toInt.toNat (z1730.toInt.toNat * 4 + z1732.toInt.toNat) z1734.toInt.toNat (z1736.toInt.toNat * 4 + z1738.toInt.toNat) y2)), .val (.int (own_r3 z1728.toInt.toNat (z1730.toInt.toNat * 4 + z1732.toInt.toNat) z1734.toInt.toNat (z1736.toInt.toNat * 4 + z1738.toInt.toNat) y2 y3)), .val (.int (own_r4 z1728.toInt.toNat (z1730.toInt.toNat * 4 + z1732.toInt.toNat) z1734.toInt.toNat (z1736.toInt.toNat * 4 + z1738.toInt.toNat) y2 y3 y4)), .val (.int (1 : Int32)), .val (.int y2), .val (.int y2), .unset]) X1766 hx hby at_213 rfl (pc' := 215) rfl ?_
              refine g_iload X1766 hx hby at_215 rfl (pc' := 217) rfl ?_
              refine g_if_eq X1766 hx hby at_217 (by decide) (pc' := 241) (by decide) (pc2 := 220) rfl (fun q => absurd q (by decide)) (fun c217_1806 => ?_)
              refine g_iloadN X1766 hx hby at_220 rfl (pc' := 221) rfl ?_
              refine g_if_eq X1766 hx hby at_221 (by decide) (pc' := 228) (by decide) (pc2 := 224) rfl (fun q => absurd q c201_1794) (fun c221_1807 => ?_)
              refine g_iloadN X1766 hx hby at_224 rfl (pc' := 225) rfl ?_
              refine g_goto X1766 hx hby at_225 (by decide) (pc' := 242) (by decide) ?_
              refine g_istore (L' := #[.val (.int y0), .val (.int y1), .val (.int y2), .val (.int y3), .val (.int y4), .val (.int (0 : Int32)), .val (.int (2 : Int32)), .val (.int (1 : Int32)), .val (.int z1728), .val (.int z1730), .val (.int z1732), .val (.int z1734), .val (.int z1736), .val (.int z1738), .val (.ref b1740), .val (.int (0 : Int32)), .val (.int (own_r2 z1728.toInt.toNat (z1730.toInt.toNat * 4 + z1732.toInt.toNat) z1734.toInt.toNat (z1736.toInt.toNat * 4 + z1738.toInt.toNat) y2)), .val (.int (own_r3 z1728.toInt.toNat (z1730.toInt.toNat * 4 + z1732.toInt.toNat) z1734.toInt.toNat (z1736.toInt.toNat * 4 + z1738.toInt.toNat) y2 y3)), .val (.int (own_r4 z1728.toInt.toNat (z1730.toInt.toNat * 4 + z1732.toInt.toNat) z1734.toInt.toNat (z1736.toInt.toNat * 4 + z1738.toInt.toNat) y2 y3 y4)), .val (.int (1 : Int32)), .val (.int y2), .val (.int y2), .val (.int y2)]) X1766 hx hby at_242 rfl (pc' := 244) rfl ?_
              refine g_iload X1766 hx hby at_244 rfl (pc' := 246) rfl ?_
              refine g_if_ne X1766 hx hby at_246 (by decide) (pc' := 274) (by decide) (pc2 := 249) rfl (fun q => absurd (by decide) q) (fun c246_1808 => ?_)
              refine g_iload X1766 hx hby at_249 rfl (pc' := 251) rfl ?_
              refine g_iload X1766 hx hby at_251 rfl (pc' := 253) rfl ?_
              refine g_icmp_ne X1766 hx hby at_253 (by decide) (pc' := 274) (by decide) (pc2 := 256) rfl (fun q => absurd (show (own_r2 z1728.toInt.toNat (z1730.toInt.toNat * 4 + z1732.toInt.toNat) z1734.toInt.toNat (z1736.toInt.toNat * 4 + z1738.toInt.toNat) y2) = y2 by rw [(own_same y2 y3 y4 (by rw [c159_1768]) (by rw [c166_1776, c173_1784])).1] <;> simp [c201_1794, c221_1807]) q) (fun c253_1809 => ?_)
              refine g_iload X1766 hx hby at_256 rfl (pc' := 258) rfl ?_
              refine g_iload X1766 hx hby at_258 rfl (pc' := 260) rfl ?_
              refine g_icmp_ne X1766 hx hby at_260 (by decide) (pc' := 274) (by decide) (pc2 := 263) rfl (fun q => absurd (show (own_r3 z1728.toInt.toNat (z1730.toInt.toNat * 4 + z1732.toInt.toNat) z1734.toInt.toNat (z1736.toInt.toNat * 4 + z1738.toInt.toNat) y2 y3) = y2 by rw [(own_same y2 y3 y4 (by rw [c159_1768]) (by rw [c166_1776, c173_1784])).2.1] <;> simp [c201_1794, c221_1807]) q) (fun c260_1810 => ?_)
              refine g_iload X1766 hx hby at_263 rfl (pc' := 265) rfl ?_
              refine g_iload X1766 hx hby at_265 rfl (pc' := 267) rfl ?_
              refine g_icmp_ne X1766 hx hby at_267 (by decide) (pc' := 274) (by decide) (pc2 := 270) rfl (fun q => absurd (show (own_r4 z1728.toInt.toNat (z1730.toInt.toNat * 4 + z1732.toInt.toNat) z1734.toInt.toNat (z1736.toInt.toNat * 4 + z1738.toInt.toNat) y2 y3 y4) = y2 by rw [(own_same y2 y3 y4 (by rw [c159_1768]) (by rw [c166_1776, c173_1784])).2.2] <;> simp [c201_1794, c221_1807]) q) (fun c267_1811 => ?_)
              refine g_iconst (v := 1) X1766 hx hby at_270 rfl (pc' := 271) rfl ?_
              refine g_goto X1766 hx hby at_271 (by decide) (pc' := 275) (by decide) ?_
              exact g_retN X1766 hx hby hret hlk (by simp) at_275 rfl (by decide) (by decide)
  · refine g_iconst (v := 1) X0 hx hby at_6 rfl (pc' := 7) rfl ?_
    refine g_goto X0 hx hby at_7 (by decide) (pc' := 11) (by decide) ?_
    refine g_istore (L' := #[.val (.int y0), .val (.int y1), .val (.int y2), .val (.int y3), .val (.int y4), .val (.int (1 : Int32)), .unset, .unset, .unset, .unset, .unset, .unset, .unset, .unset, .unset, .unset, .unset, .unset, .unset, .unset, .unset, .unset, .unset]) X0 hx hby at_11 rfl (pc' := 13) rfl ?_
    refine g_iconst (v := 1) X0 hx hby at_13 rfl (pc' := 14) rfl ?_
    refine g_iloadN X0 hx hby at_14 rfl (pc' := 15) rfl ?_
    refine g_iconst (v := 1) X0 hx hby at_15 rfl (pc' := 16) rfl ?_
    refine g_iushr X0 hx hby at_16 (pc' := 17) rfl ?_
    refine g_iconst (v := 1) X0 hx hby at_17 rfl (pc' := 18) rfl ?_
    refine g_iand X0 hx hby at_18 (pc' := 19) rfl ?_
    refine g_iadd X0 hx hby at_19 (pc' := 20) rfl ?_
    rcases own_bit ((y0.toUInt32 >>> ((1 : Int32) &&& 31).toUInt32).toInt32) with hb1 | hb1 <;> rw [hb1]
    · show Gl p e below n0 _ _ (T0.setTop (mkF m 20 #[.val (.int y0), .val (.int y1), .val (.int y2), .val (.int y3), .val (.int y4), .val (.int (1 : Int32)), .unset, .unset, .unset, .unset, .unset, .unset, .unset, .unset, .unset, .unset, .unset, .unset, .unset, .unset, .unset, .unset, .unset] [(.int (1 : Int32))]))
      refine g_istore (L' := #[.val (.int y0), .val (.int y1), .val (.int y2), .val (.int y3), .val (.int y4), .val (.int (1 : Int32)), .val (.int (1 : Int32)), .unset, .unset, .unset, .unset, .unset, .unset, .unset, .unset, .unset, .unset, .unset, .unset, .unset, .unset, .unset, .unset]) X0 hx hby at_20 rfl (pc' := 22) rfl ?_
      refine g_iload X0 hx hby at_22 rfl (pc' := 24) rfl ?_
      refine g_if_eq X0 hx hby at_24 (by decide) (pc' := 32) (by decide) (pc2 := 27) rfl (fun q => absurd q (by decide)) (fun c24_1812 => ?_)
      refine g_iload X0 hx hby at_27 rfl (pc' := 29) rfl ?_
      refine g_goto X0 hx hby at_29 (by decide) (pc' := 33) (by decide) ?_
      refine g_istore (L' := #[.val (.int y0), .val (.int y1), .val (.int y2), .val (.int y3), .val (.int y4), .val (.int (1 : Int32)), .val (.int (1 : Int32)), .val (.int (1 : Int32)), .unset, .unset, .unset, .unset, .unset, .unset, .unset, .unset, .unset, .unset, .unset, .unset, .unset, .unset, .unset]) X0 hx hby at_33 rfl (pc' := 35) rfl ?_
      refine g_iloadN X0 hx hby at_35 rfl (pc' := 36) rfl ?_
      refine g_iconst (v := 2) X0 hx hby at_36 rfl (pc' := 37) rfl ?_
      refine g_iushr X0 hx hby at_37 (pc' := 38) rfl ?_
      refine g_iconst (v := 1) X0 hx hby at_38 rfl (pc' := 39) rfl ?_
      refine g_iand X0 hx hby at_39 (pc' := 40) rfl ?_
      refine g_iload X0 hx hby at_40 rfl (pc' := 42) rfl ?_
      refine g_irem X0 hx hby at_42 (by decide) (pc' := 43) rfl ?_
      refine g_istore (L' := #[.val (.int y0), .val (.int y1), .val (.int y2), .val (.int y3), .val (.int y4), .val (.int (1 : Int32)), .val (.int (1 : Int32)), .val (.int (1 : Int32)), .val (.int ((((y0.toUInt32 >>> ((2 : Int32) &&& 31).toUInt32).toInt32) &&& (1 : Int32)) % (1 : Int32))), .unset, .unset, .unset, .unset, .unset, .unset, .unset, .unset, .unset, .unset, .unset, .unset, .unset, .unset]) X0 hx hby at_43 rfl (pc' := 45) rfl ?_
      obtain ⟨z1813, hz1813⟩ : ∃ z, z = ((((y0.toUInt32 >>> ((2 : Int32) &&& 31).toUInt32).toInt32) &&& (1 : Int32)) % (1 : Int32)) := ⟨_, rfl⟩
      rw [← hz1813]
      have bn1814 : 0 ≤ z1813.toInt ∧ z1813.toInt < 1 := by rw [hz1813]; exact own_tr1 _
      refine g_iloadN X0 hx hby at_45 rfl (pc' := 46) rfl ?_
      refine g_iconst (v := 3) X0 hx hby at_46 rfl (pc' := 47) rfl ?_
      refine g_iushr X0 hx hby at_47 (pc' := 48) rfl ?_
      refine g_bipush (v := 63) X0 hx hby at_48 rfl (pc' := 50) rfl ?_
      refine g_iand X0 hx hby at_50 (pc' := 51) rfl ?_
      refine g_istore (L' := #[.val (.int y0), .val (.int y1), .val (.int y2), .val (.int y3), .val (.int y4), .val (.int (1 : Int32)), .val (.int (1 : Int32)), .val (.int (1 : Int32)), .val (.int z1813), .val (.int (((y0.toUInt32 >>> ((3 : Int32) &&& 31).toUInt32).toInt32) &&& (63 : Int32))), .unset, .unset, .unset, .unset, .unset, .unset, .unset, .unset, .unset, .unset, .unset, .unset, .unset]) X0 hx hby at_51 rfl (pc' := 53) rfl ?_
      obtain ⟨z1815, hz1815⟩ : ∃ z, z = (((y0.toUInt32 >>> ((3 : Int32) &&& 31).toUInt32).toInt32) &&& (63 : Int32)) := ⟨_, rfl⟩
      rw [← hz1815]
      have bn1816 : 0 ≤ z1815.toInt ∧ z1815.toInt < 64 := by rw [hz1815]; exact own_m63 _
      refine g_iloadN X0 hx hby at_53 rfl (pc' := 54) rfl ?_
      refine g_bipush (v := 9) X0 hx hby at_54 rfl (pc' := 56) rfl ?_
      refine g_iushr X0 hx hby at_56 (pc' := 57) rfl ?_
      refine g_iconst (v := 3) X0 hx hby at_57 rfl (pc' := 58) rfl ?_
      refine g_iand X0 hx hby at_58 (pc' := 59) rfl ?_
      refine g_istore (L' := #[.val (.int y0), .val (.int y1), .val (.int y2), .val (.int y3), .val (.int y4), .val (.int (1 : Int32)), .val (.int (1 : Int32)), .val (.int (1 : Int32)), .val (.int z1813), .val (.int z1815), .val (.int (((y0.toUInt32 >>> ((9 : Int32) &&& 31).toUInt32).toInt32) &&& (3 : Int32))), .unset, .unset, .unset, .unset, .unset, .unset, .unset, .unset, .unset, .unset, .unset, .unset]) X0 hx hby at_59 rfl (pc' := 61) rfl ?_
      obtain ⟨z1817, hz1817⟩ : ∃ z, z = (((y0.toUInt32 >>> ((9 : Int32) &&& 31).toUInt32).toInt32) &&& (3 : Int32)) := ⟨_, rfl⟩
      rw [← hz1817]
      have bn1818 : 0 ≤ z1817.toInt ∧ z1817.toInt < 4 := by rw [hz1817]; exact own_m3 _
      refine g_iloadN X0 hx hby at_61 rfl (pc' := 62) rfl ?_
      refine g_iconst (v := 1) X0 hx hby at_62 rfl (pc' := 63) rfl ?_
      refine g_iand X0 hx hby at_63 (pc' := 64) rfl ?_
      refine g_iload X0 hx hby at_64 rfl (pc' := 66) rfl ?_
      refine g_irem X0 hx hby at_66 (by decide) (pc' := 67) rfl ?_
      refine g_istore (L' := #[.val (.int y0), .val (.int y1), .val (.int y2), .val (.int y3), .val (.int y4), .val (.int (1 : Int32)), .val (.int (1 : Int32)), .val (.int (1 : Int32)), .val (.int z1813), .val (.int z1815), .val (.int z1817), .val (.int ((y1 &&& (1 : Int32)) % (1 : Int32))), .unset, .unset, .unset, .unset, .unset, .unset, .unset, .unset, .unset, .unset, .unset]) X0 hx hby at_67 rfl (pc' := 69) rfl ?_
      obtain ⟨z1819, hz1819⟩ : ∃ z, z = ((y1 &&& (1 : Int32)) % (1 : Int32)) := ⟨_, rfl⟩
      rw [← hz1819]
      have bn1820 : 0 ≤ z1819.toInt ∧ z1819.toInt < 1 := by rw [hz1819]; exact own_tr1 _
      refine g_iloadN X0 hx hby at_69 rfl (pc' := 70) rfl ?_
      refine g_iconst (v := 1) X0 hx hby at_70 rfl (pc' := 71) rfl ?_
      refine g_iushr X0 hx hby at_71 (pc' := 72) rfl ?_
      refine g_bipush (v := 63) X0 hx hby at_72 rfl (pc' := 74) rfl ?_
      refine g_iand X0 hx hby at_74 (pc' := 75) rfl ?_
      refine g_istore (L' := #[.val (.int y0), .val (.int y1), .val (.int y2), .val (.int y3), .val (.int y4), .val (.int (1 : Int32)), .val (.int (1 : Int32)), .val (.int (1 : Int32)), .val (.int z1813), .val (.int z1815), .val (.int z1817), .val (.int z1819), .val (.int (((y1.toUInt32 >>> ((1 : Int32) &&& 31).toUInt32).toInt32) &&& (63 : Int32))), .unset, .unset, .unset, .unset, .unset, .unset, .unset, .unset, .unset, .unset]) X0 hx hby at_75 rfl (pc' := 77) rfl ?_
      obtain ⟨z1821, hz1821⟩ : ∃ z, z = (((y1.toUInt32 >>> ((1 : Int32) &&& 31).toUInt32).toInt32) &&& (63 : Int32)) := ⟨_, rfl⟩
      rw [← hz1821]
      have bn1822 : 0 ≤ z1821.toInt ∧ z1821.toInt < 64 := by rw [hz1821]; exact own_m63 _
      refine g_iloadN X0 hx hby at_77 rfl (pc' := 78) rfl ?_
      refine g_bipush (v := 7) X0 hx hby at_78 rfl (pc' := 80) rfl ?_
      refine g_iushr X0 hx hby at_80 (pc' := 81) rfl ?_
      refine g_iconst (v := 3) X0 hx hby at_81 rfl (pc' := 82) rfl ?_
      refine g_iand X0 hx hby at_82 (pc' := 83) rfl ?_
      refine g_istore (L' := #[.val (.int y0), .val (.int y1), .val (.int y2), .val (.int y3), .val (.int y4), .val (.int (1 : Int32)), .val (.int (1 : Int32)), .val (.int (1 : Int32)), .val (.int z1813), .val (.int z1815), .val (.int z1817), .val (.int z1819), .val (.int z1821), .val (.int (((y1.toUInt32 >>> ((7 : Int32) &&& 31).toUInt32).toInt32) &&& (3 : Int32))), .unset, .unset, .unset, .unset, .unset, .unset, .unset, .unset, .unset]) X0 hx hby at_83 rfl (pc' := 85) rfl ?_
      obtain ⟨z1823, hz1823⟩ : ∃ z, z = (((y1.toUInt32 >>> ((7 : Int32) &&& 31).toUInt32).toInt32) &&& (3 : Int32)) := ⟨_, rfl⟩
      rw [← hz1823]
      have bn1824 : 0 ≤ z1823.toInt ∧ z1823.toInt < 4 := by rw [hz1823]; exact own_m3 _
      refine g_new X0 hx hby hZ hown (hw _ (List.mem_of_getElem? (i := 0) rfl)) (hw _ (List.mem_of_getElem? (i := 1) rfl)) (hw _ (List.mem_of_getElem? (i := 2) rfl)) at_85 (by decide) (by decide) (pc' := 88) rfl (fun T1825 h1825 b1825 g1825 X1825 E1825 A1825 D1825 => ?_)
      have nn1826 : n0 ≤ b1825 := by rw [g1825]; exact Z0
      have hh1827 : h0.size ≤ b1825 := by rw [g1825]; exact (Keep.refl h0 []).1
      have zz1828 := Nat.le_trans Z0 E1825.1
      have kk1829 : Keep h0 h1825 [] := (Keep.refl h0 []).ext E1825
      have q1830 : Fld Z h1825 b1825 "com/example/basisbook/basisbook/HourlyPrices$Sums" "hours" "Lcom/example/basisbook/basisbook/LongIndex;" .null := D1825 (Or.inr (hw _ (List.mem_of_getElem? (i := 25) rfl))) (ty := (.object "com/example/basisbook/basisbook/LongIndex")) (by decide)
      have q1831 : Fld Z h1825 b1825 "com/example/basisbook/basisbook/HourlyPrices$Sums" "capacity" "I" (.int (0 : Int32)) := D1825 (Or.inl (hw _ (List.mem_of_getElem? (i := 27) rfl))) (ty := .int) (by decide)
      have q1832 : Fld Z h1825 b1825 "com/example/basisbook/basisbook/HourlyPrices$Sums" "lastHour" "J" (.long (0 : Int64)) := D1825 (Or.inl (hw _ (List.mem_of_getElem? (i := 30) rfl))) (ty := .long) (by decide)
      have q1833 : Fld Z h1825 b1825 "com/example/basisbook/basisbook/HourlyPrices$Sums" "tracks" "[I" .null := D1825 (Or.inr (hw _ (List.mem_of_getElem? (i := 32) rfl))) (ty := (.array .int)) (by decide)
      have q1834 : Fld Z h1825 b1825 "com/example/basisbook/basisbook/HourlyPrices$Sums" "prices" "[Lcom/example/basisbook/basisbook/Decimals;" .null := D1825 (Or.inr (hw _ (List.mem_of_getElem? (i := 36) rfl))) (ty := (.array (.object "com/example/basisbook/basisbook/Decimals"))) (by decide)
      have q1835 : Fld Z h1825 b1825 "com/example/basisbook/basisbook/HourlyPrices$Sums" "lines" "[[I" .null := D1825 (Or.inr (hw _ (List.mem_of_getElem? (i := 49) rfl))) (ty := (.array (.array .int))) (by decide)
      have q1836 : Fld Z h1825 b1825 "com/example/basisbook/basisbook/HourlyPrices$Sums" "given" "[[B" .null := D1825 (Or.inr (hw _ (List.mem_of_getElem? (i := 54) rfl))) (ty := (.array (.array .byte))) (by decide)
      have q1837 : Fld Z h1825 b1825 "com/example/basisbook/basisbook/HourlyPrices$Sums" "digits" "[J" .null := D1825 (Or.inr (hw _ (List.mem_of_getElem? (i := 56) rfl))) (ty := (.array .long)) (by decide)
      have q1838 : Fld Z h1825 b1825 "com/example/basisbook/basisbook/HourlyPrices$Sums" "decimals" "[I" .null := D1825 (Or.inr (hw _ (List.mem_of_getElem? (i := 58) rfl))) (ty := (.array .int)) (by decide)
      have q1839 : Fld Z h1825 b1825 "com/example/basisbook/basisbook/HourlyPrices$Sums" "beyondLong" "[Ljava/math/BigDecimal;" .null := D1825 (Or.inr (hw _ (List.mem_of_getElem? (i := 62) rfl))) (ty := (.array (.object "java/math/BigDecimal"))) (by decide)
      have q1840 : Fld Z h1825 b1825 "com/example/basisbook/basisbook/HourlyPrices$Sums" "quarterHourly" "Z" (.int (0 : Int32)) := D1825 (Or.inl (hw _ (List.mem_of_getElem? (i := 69) rfl))) (ty := .boolean) (by decide)
      refine g_dup X1825 hx hby at_88 rfl (pc' := 89) rfl ?_
      refine g_iload X1825 hx hby at_89 rfl (pc' := 91) rfl ?_
      refine g_iload X1825 hx hby at_91 rfl (pc' := 93) rfl ?_
      refine g_callC (argsL := [(.int (1 : Int32)), (.int (1 : Int32))]) (S := [(.ref b1825)]) (a := b1825) X1825 hx hby hZ (y := (⟨"com/example/basisbook/basisbook/HourlyPrices$Sums", "<init>", "(IZ)V"⟩ : MethodName)) rfl hown (hw _ (List.mem_of_getElem? (i := 3) rfl)) (hw _ (List.mem_of_getElem? (i := 4) rfl)) (hw _ (List.mem_of_getElem? (i := 2) rfl)) (hw _ (List.mem_of_getElem? (i := 5) rfl)) (by decide) (own_su11 l Z a0 hw b1825 h1825 n0 zz1828 A1825 q1840 nn1826) (by rw [hml]; rfl) (lenOf own_pd1 rfl) rfl at_93 (by decide) (W := 1) (by exact Nat.le_of_eq rfl) (by decide) (by decide) (by decide) (pc' := 96) rfl (fun T1841 v1841 X1841 hQ1841 => ?_)
      obtain ⟨rfl, ka1841, sm1841⟩ := hQ1841
      have q1842 := A1825.keep ka1841
      have zz1843 := Nat.le_trans zz1828 ka1841.1
      have kk1844 : Keep h0 T1841.heap [] := kk1829.trans ka1841 (allS (Or.inr hh1827) all0)
      show Gl p e below n0 _ _ (T1841.setTop (mkF m 96 #[.val (.int y0), .val (.int y1), .val (.int y2), .val (.int y3), .val (.int y4), .val (.int (1 : Int32)), .val (.int (1 : Int32)), .val (.int (1 : Int32)), .val (.int z1813), .val (.int z1815), .val (.int z1817), .val (.int z1819), .val (.int z1821), .val (.int z1823), .unset, .unset, .unset, .unset, .unset, .unset, .unset, .unset, .unset] [(.ref b1825)]))
      refine g_astore (L' := #[.val (.int y0), .val (.int y1), .val (.int y2), .val (.int y3), .val (.int y4), .val (.int (1 : Int32)), .val (.int (1 : Int32)), .val (.int (1 : Int32)), .val (.int z1813), .val (.int z1815), .val (.int z1817), .val (.int z1819), .val (.int z1821), .val (.int z1823), .val (.ref b1825), .unset, .unset, .unset, .unset, .unset, .unset, .unset, .unset]) X1841 hx hby at_96 rfl rfl (pc' := 98) rfl ?_
      refine g_aload X1841 hx hby at_98 rfl rfl (pc' := 100) rfl ?_
      refine g_iload X1841 hx hby at_100 rfl (pc' := 102) rfl ?_
      refine g_iload X1841 hx hby at_102 rfl (pc' := 104) rfl ?_
      refine g_iload X1841 hx hby at_104 rfl (pc' := 106) rfl ?_
      refine g_iloadN X1841 hx hby at_106 rfl (pc' := 107) rfl ?_
      have ex1846 : Exa Z T1841.heap b1825 "com/example/basisbook/basisbook/HourlyPrices$Sums" := by obtain ⟨_, _, _, _, _, _, _, E, -⟩ := sm1841; exact E
      refine g_callV (argsL := [(.int z1813), (.int z1815), (.int z1817), (.int y2)]) (S := []) (a := b1825) X1841 hx hby hZ (y := (⟨"com/example/basisbook/basisbook/HourlyPrices$Sums", "give", "(IIII)I"⟩ : MethodName)) (y' := (⟨"com/example/basisbook/basisbook/HourlyPrices$Sums", "give", "(IIII)I"⟩ : MethodName)) hown (hw _ (List.mem_of_getElem? (i := 63) rfl)) (hw _ (List.mem_of_getElem? (i := 64) rfl)) (notFace_of_selects (args := #[]) (mvT hZ (hw _ (List.mem_of_getElem? (i := 66) rfl)))) (hw _ (List.mem_of_getElem? (i := 66) rfl)) (hw _ (List.mem_of_getElem? (i := 65) rfl)) (hw _ (List.mem_of_getElem? (i := 2) rfl)) (hw _ (List.mem_of_getElem? (i := 67) rfl)) (by decide) ex1846 (own_gv l Z a0 hw b1825 z1813 z1815 z1817 y2 T1841.heap n0 1 z1813.toInt.toNat z1815.toInt.toNat z1817.toInt.toNat (fun _ _ => 0) sm1841 (by omega) (by omega) (by omega) (by omega) (by omega) (by omega)) (by rw [hml]; rfl) (lenOf own_pd2 rfl) rfl at_107 (by decide) (W := 0) (by exact Nat.le_of_eq rfl) (by decide) (by decide) (by decide) (pc' := 110) rfl (fun T1845 v1845 X1845 hQ1845 => ?_)
      obtain ⟨rfl, sm1845⟩ := hQ1845
      show Gl p e below n0 _ _ (T1845.setTop (mkF m 110 #[.val (.int y0), .val (.int y1), .val (.int y2), .val (.int y3), .val (.int y4), .val (.int (1 : Int32)), .val (.int (1 : Int32)), .val (.int (1 : Int32)), .val (.int z1813), .val (.int z1815), .val (.int z1817), .val (.int z1819), .val (.int z1821), .val (.int z1823), .val (.ref b1825), .unset, .unset, .unset, .unset, .unset, .unset, .unset, .unset] [(.int ((fun _ _ => 0) z1813.toInt.toNat (z1815.toInt.toNat * 4 + z1817.toInt.toNat)))]))
      refine g_istore (L' := #[.val (.int y0), .val (.int y1), .val (.int y2), .val (.int y3), .val (.int y4), .val (.int (1 : Int32)), .val (.int (1 : Int32)), .val (.int (1 : Int32)), .val (.int z1813), .val (.int z1815), .val (.int z1817), .val (.int z1819), .val (.int z1821), .val (.int z1823), .val (.ref b1825), .val (.int ((fun _ _ => 0) z1813.toInt.toNat (z1815.toInt.toNat * 4 + z1817.toInt.toNat))), .unset, .unset, .unset, .unset, .unset, .unset, .unset]) X1845 hx hby at_110 rfl (pc' := 112) rfl ?_
      refine g_aload X1845 hx hby at_112 rfl rfl (pc' := 114) rfl ?_
      refine g_iload X1845 hx hby at_114 rfl (pc' := 116) rfl ?_
      refine g_iload X1845 hx hby at_116 rfl (pc' := 118) rfl ?_
      refine g_iload X1845 hx hby at_118 rfl (pc' := 120) rfl ?_
      refine g_iloadN X1845 hx hby at_120 rfl (pc' := 121) rfl ?_
      have ex1848 : Exa Z T1845.heap b1825 "com/example/basisbook/basisbook/HourlyPrices$Sums" := by obtain ⟨_, _, _, _, _, _, _, E, -⟩ := sm1845; exact E
      refine g_callV (argsL := [(.int z1819), (.int z1821), (.int z1823), (.int y3)]) (S := []) (a := b1825) X1845 hx hby hZ (y := (⟨"com/example/basisbook/basisbook/HourlyPrices$Sums", "give", "(IIII)I"⟩ : MethodName)) (y' := (⟨"com/example/basisbook/basisbook/HourlyPrices$Sums", "give", "(IIII)I"⟩ : MethodName)) hown (hw _ (List.mem_of_getElem? (i := 63) rfl)) (hw _ (List.mem_of_getElem? (i := 64) rfl)) (notFace_of_selects (args := #[]) (mvT hZ (hw _ (List.mem_of_getElem? (i := 66) rfl)))) (hw _ (List.mem_of_getElem? (i := 66) rfl)) (hw _ (List.mem_of_getElem? (i := 65) rfl)) (hw _ (List.mem_of_getElem? (i := 2) rfl)) (hw _ (List.mem_of_getElem? (i := 67) rfl)) (by decide) ex1848 (own_gv l Z a0 hw b1825 z1819 z1821 z1823 y3 T1845.heap n0 1 z1819.toInt.toNat z1821.toInt.toNat z1823.toInt.toNat (own_give (fun _ _ => 0) z1813.toInt.toNat (z1815.toInt.toNat * 4 + z1817.toInt.toNat) y2) sm1845 (by omega) (by omega) (by omega) (by omega) (by omega) (by omega)) (by rw [hml]; rfl) (lenOf own_pd2 rfl) rfl at_121 (by decide) (W := 0) (by exact Nat.le_of_eq rfl) (by decide) (by decide) (by decide) (pc' := 124) rfl (fun T1847 v1847 X1847 hQ1847 => ?_)
      obtain ⟨rfl, sm1847⟩ := hQ1847
      show Gl p e below n0 _ _ (T1847.setTop (mkF m 124 #[.val (.int y0), .val (.int y1), .val (.int y2), .val (.int y3), .val (.int y4), .val (.int (1 : Int32)), .val (.int (1 : Int32)), .val (.int (1 : Int32)), .val (.int z1813), .val (.int z1815), .val (.int z1817), .val (.int z1819), .val (.int z1821), .val (.int z1823), .val (.ref b1825), .val (.int ((fun _ _ => 0) z1813.toInt.toNat (z1815.toInt.toNat * 4 + z1817.toInt.toNat))), .unset, .unset, .unset, .unset, .unset, .unset, .unset] [(.int ((own_give (fun _ _ => 0) z1813.toInt.toNat (z1815.toInt.toNat * 4 + z1817.toInt.toNat) y2) z1819.toInt.toNat (z1821.toInt.toNat * 4 + z1823.toInt.toNat)))]))
      refine g_istore (L' := #[.val (.int y0), .val (.int y1), .val (.int y2), .val (.int y3), .val (.int y4), .val (.int (1 : Int32)), .val (.int (1 : Int32)), .val (.int (1 : Int32)), .val (.int z1813), .val (.int z1815), .val (.int z1817), .val (.int z1819), .val (.int z1821), .val (.int z1823), .val (.ref b1825), .val (.int ((fun _ _ => 0) z1813.toInt.toNat (z1815.toInt.toNat * 4 + z1817.toInt.toNat))), .val (.int ((own_give (fun _ _ => 0) z1813.toInt.toNat (z1815.toInt.toNat * 4 + z1817.toInt.toNat) y2) z1819.toInt.toNat (z1821.toInt.toNat * 4 + z1823.toInt.toNat))), .unset, .unset, .unset, .unset, .unset, .unset]) X1847 hx hby at_124 rfl (pc' := 126) rfl ?_
      refine g_aload X1847 hx hby at_126 rfl rfl (pc' := 128) rfl ?_
      refine g_iload X1847 hx hby at_128 rfl (pc' := 130) rfl ?_
      refine g_iload X1847 hx hby at_130 rfl (pc' := 132) rfl ?_
      refine g_iload X1847 hx hby at_132 rfl (pc' := 134) rfl ?_
      refine g_iload X1847 hx hby at_134 rfl (pc' := 136) rfl ?_
      have ex1850 : Exa Z T1847.heap b1825 "com/example/basisbook/basisbook/HourlyPrices$Sums" := by obtain ⟨_, _, _, _, _, _, _, E, -⟩ := sm1847; exact E
      refine g_callV (argsL := [(.int z1813), (.int z1815), (.int z1817), (.int y4)]) (S := []) (a := b1825) X1847 hx hby hZ (y := (⟨"com/example/basisbook/basisbook/HourlyPrices$Sums", "give", "(IIII)I"⟩ : MethodName)) (y' := (⟨"com/example/basisbook/basisbook/HourlyPrices$Sums", "give", "(IIII)I"⟩ : MethodName)) hown (hw _ (List.mem_of_getElem? (i := 63) rfl)) (hw _ (List.mem_of_getElem? (i := 64) rfl)) (notFace_of_selects (args := #[]) (mvT hZ (hw _ (List.mem_of_getElem? (i := 66) rfl)))) (hw _ (List.mem_of_getElem? (i := 66) rfl)) (hw _ (List.mem_of_getElem? (i := 65) rfl)) (hw _ (List.mem_of_getElem? (i := 2) rfl)) (hw _ (List.mem_of_getElem? (i := 67) rfl)) (by decide) ex1850 (own_gv l Z a0 hw b1825 z1813 z1815 z1817 y4 T1847.heap n0 1 z1813.toInt.toNat z1815.toInt.toNat z1817.toInt.toNat (own_give (own_give (fun _ _ => 0) z1813.toInt.toNat (z1815.toInt.toNat * 4 + z1817.toInt.toNat) y2) z1819.toInt.toNat (z1821.toInt.toNat * 4 + z1823.toInt.toNat) y3) sm1847 (by omega) (by omega) (by omega) (by omega) (by omega) (by omega)) (by rw [hml]; rfl) (lenOf own_pd2 rfl) rfl at_136 (by decide) (W := 0) (by exact Nat.le_of_eq rfl) (by decide) (by decide) (by decide) (pc' := 139) rfl (fun T1849 v1849 X1849 hQ1849 => ?_)
      obtain ⟨rfl, sm1849⟩ := hQ1849
      show Gl p e below n0 _ _ (T1849.setTop (mkF m 139 #[.val (.int y0), .val (.int y1), .val (.int y2), .val (.int y3), .val (.int y4), .val (.int (1 : Int32)), .val (.int (1 : Int32)), .val (.int (1 : Int32)), .val (.int z1813), .val (.int z1815), .val (.int z1817), .val (.int z1819), .val (.int z1821), .val (.int z1823), .val (.ref b1825), .val (.int ((fun _ _ => 0) z1813.toInt.toNat (z1815.toInt.toNat * 4 + z1817.toInt.toNat))), .val (.int ((own_give (fun _ _ => 0) z1813.toInt.toNat (z1815.toInt.toNat * 4 + z1817.toInt.toNat) y2) z1819.toInt.toNat (z1821.toInt.toNat * 4 + z1823.toInt.toNat))), .unset, .unset, .unset, .unset, .unset, .unset] [(.int ((own_give (own_give (fun _ _ => 0) z1813.toInt.toNat (z1815.toInt.toNat * 4 + z1817.toInt.toNat) y2) z1819.toInt.toNat (z1821.toInt.toNat * 4 + z1823.toInt.toNat) y3) z1813.toInt.toNat (z1815.toInt.toNat * 4 + z1817.toInt.toNat)))]))
      refine g_istore (L' := #[.val (.int y0), .val (.int y1), .val (.int y2), .val (.int y3), .val (.int y4), .val (.int (1 : Int32)), .val (.int (1 : Int32)), .val (.int (1 : Int32)), .val (.int z1813), .val (.int z1815), .val (.int z1817), .val (.int z1819), .val (.int z1821), .val (.int z1823), .val (.ref b1825), .val (.int ((fun _ _ => 0) z1813.toInt.toNat (z1815.toInt.toNat * 4 + z1817.toInt.toNat))), .val (.int ((own_give (fun _ _ => 0) z1813.toInt.toNat (z1815.toInt.toNat * 4 + z1817.toInt.toNat) y2) z1819.toInt.toNat (z1821.toInt.toNat * 4 + z1823.toInt.toNat))), .val (.int ((own_give (own_give (fun _ _ => 0) z1813.toInt.toNat (z1815.toInt.toNat * 4 + z1817.toInt.toNat) y2) z1819.toInt.toNat (z1821.toInt.toNat * 4 + z1823.toInt.toNat) y3) z1813.toInt.toNat (z1815.toInt.toNat * 4 + z1817.toInt.toNat))), .unset, .unset, .unset, .unset, .unset]) X1849 hx hby at_139 rfl (pc' := 141) rfl ?_
      refine g_aload X1849 hx hby at_141 rfl rfl (pc' := 143) rfl ?_
      refine g_iload X1849 hx hby at_143 rfl (pc' := 145) rfl ?_
      refine g_iload X1849 hx hby at_145 rfl (pc' := 147) rfl ?_
      refine g_iload X1849 hx hby at_147 rfl (pc' := 149) rfl ?_
      refine g_iloadN X1849 hx hby at_149 rfl (pc' := 150) rfl ?_
      have ex1852 : Exa Z T1849.heap b1825 "com/example/basisbook/basisbook/HourlyPrices$Sums" := by obtain ⟨_, _, _, _, _, _, _, E, -⟩ := sm1849; exact E
      refine g_callV (argsL := [(.int z1819), (.int z1821), (.int z1823), (.int y2)]) (S := []) (a := b1825) X1849 hx hby hZ (y := (⟨"com/example/basisbook/basisbook/HourlyPrices$Sums", "give", "(IIII)I"⟩ : MethodName)) (y' := (⟨"com/example/basisbook/basisbook/HourlyPrices$Sums", "give", "(IIII)I"⟩ : MethodName)) hown (hw _ (List.mem_of_getElem? (i := 63) rfl)) (hw _ (List.mem_of_getElem? (i := 64) rfl)) (notFace_of_selects (args := #[]) (mvT hZ (hw _ (List.mem_of_getElem? (i := 66) rfl)))) (hw _ (List.mem_of_getElem? (i := 66) rfl)) (hw _ (List.mem_of_getElem? (i := 65) rfl)) (hw _ (List.mem_of_getElem? (i := 2) rfl)) (hw _ (List.mem_of_getElem? (i := 67) rfl)) (by decide) ex1852 (own_gv l Z a0 hw b1825 z1819 z1821 z1823 y2 T1849.heap n0 1 z1819.toInt.toNat z1821.toInt.toNat z1823.toInt.toNat (own_give (own_give (own_give (fun _ _ => 0) z1813.toInt.toNat (z1815.toInt.toNat * 4 + z1817.toInt.toNat) y2) z1819.toInt.toNat (z1821.toInt.toNat * 4 + z1823.toInt.toNat) y3) z1813.toInt.toNat (z1815.toInt.toNat * 4 + z1817.toInt.toNat) y4) sm1849 (by omega) (by omega) (by omega) (by omega) (by omega) (by omega)) (by rw [hml]; rfl) (lenOf own_pd2 rfl) rfl at_150 (by decide) (W := 0) (by exact Nat.le_of_eq rfl) (by decide) (by decide) (by decide) (pc' := 153) rfl (fun T1851 v1851 X1851 hQ1851 => ?_)
      obtain ⟨rfl, sm1851⟩ := hQ1851
      show Gl p e below n0 _ _ (T1851.setTop (mkF m 153 #[.val (.int y0), .val (.int y1), .val (.int y2), .val (.int y3), .val (.int y4), .val (.int (1 : Int32)), .val (.int (1 : Int32)), .val (.int (1 : Int32)), .val (.int z1813), .val (.int z1815), .val (.int z1817), .val (.int z1819), .val (.int z1821), .val (.int z1823), .val (.ref b1825), .val (.int ((fun _ _ => 0) z1813.toInt.toNat (z1815.toInt.toNat * 4 + z1817.toInt.toNat))), .val (.int ((own_give (fun _ _ => 0) z1813.toInt.toNat (z1815.toInt.toNat * 4 + z1817.toInt.toNat) y2) z1819.toInt.toNat (z1821.toInt.toNat * 4 + z1823.toInt.toNat))), .val (.int ((own_give (own_give (fun _ _ => 0) z1813.toInt.toNat (z1815.toInt.toNat * 4 + z1817.toInt.toNat) y2) z1819.toInt.toNat (z1821.toInt.toNat * 4 + z1823.toInt.toNat) y3) z1813.toInt.toNat (z1815.toInt.toNat * 4 + z1817.toInt.toNat))), .unset, .unset, .unset, .unset, .unset] [(.int ((own_give (own_give (own_give (fun _ _ => 0) z1813.toInt.toNat (z1815.toInt.toNat * 4 + z1817.toInt.toNat) y2) z1819.toInt.toNat (z1821.toInt.toNat * 4 + z1823.toInt.toNat) y3) z1813.toInt.toNat (z1815.toInt.toNat * 4 + z1817.toInt.toNat) y4) z1819.toInt.toNat (z1821.toInt.toNat * 4 + z1823.toInt.toNat)))]))
      refine g_istore (L' := #[.val (.int y0), .val (.int y1), .val (.int y2), .val (.int y3), .val (.int y4), .val (.int (1 : Int32)), .val (.int (1 : Int32)), .val (.int (1 : Int32)), .val (.int z1813), .val (.int z1815), .val (.int z1817), .val (.int z1819), .val (.int z1821), .val (.int z1823), .val (.ref b1825), .val (.int ((fun _ _ => 0) z1813.toInt.toNat (z1815.toInt.toNat * 4 + z1817.toInt.toNat))), .val (.int ((own_give (fun _ _ => 0) z1813.toInt.toNat (z1815.toInt.toNat * 4 + z1817.toInt.toNat) y2) z1819.toInt.toNat (z1821.toInt.toNat * 4 + z1823.toInt.toNat))), .val (.int ((own_give (own_give (fun _ _ => 0) z1813.toInt.toNat (z1815.toInt.toNat * 4 + z1817.toInt.toNat) y2) z1819.toInt.toNat (z1821.toInt.toNat * 4 + z1823.toInt.toNat) y3) z1813.toInt.toNat (z1815.toInt.toNat * 4 + z1817.toInt.toNat))), .val (.int ((own_give (own_give (own_give (fun _ _ => 0) z1813.toInt.toNat (z1815.toInt.toNat * 4 + z1817.toInt.toNat) y2) z1819.toInt.toNat (z1821.toInt.toNat * 4 + z1823.toInt.toNat) y3) z1813.toInt.toNat (z1815.toInt.toNat * 4 + z1817.toInt.toNat) y4) z1819.toInt.toNat (z1821.toInt.toNat * 4 + z1823.toInt.toNat))), .unset, .unset, .unset, .unset]) X1851 hx hby at_153 rfl (pc' := 155) rfl ?_
      change Gl p e below n0 _ _ (T1851.setTop (mkF m 155 #[.val (.int y0), .val (.int y1), .val (.int y2), .val (.int y3), .val (.int y4), .val (.int (1 : Int32)), .val (.int (1 : Int32)), .val (.int (1 : Int32)), .val (.int z1813), .val (.int z1815), .val (.int z1817), .val (.int z1819), .val (.int z1821), .val (.int z1823), .val (.ref b1825), .val (.int (0 : Int32)), .val (.int (own_r2 z1813.toInt.toNat (z1815.toInt.toNat * 4 + z1817.toInt.toNat) z1819.toInt.toNat (z1821.toInt.toNat * 4 + z1823.toInt.toNat) y2)), .val (.int (own_r3 z1813.toInt.toNat (z1815.toInt.toNat * 4 + z1817.toInt.toNat) z1819.toInt.toNat (z1821.toInt.toNat * 4 + z1823.toInt.toNat) y2 y3)), .val (.int (own_r4 z1813.toInt.toNat (z1815.toInt.toNat * 4 + z1817.toInt.toNat) z1819.toInt.toNat (z1821.toInt.toNat * 4 + z1823.toInt.toNat) y2 y3 y4)), .unset, .unset, .unset, .unset] []))
      refine g_iload X1851 hx hby at_155 rfl (pc' := 157) rfl ?_
      refine g_iload X1851 hx hby at_157 rfl (pc' := 159) rfl ?_
      refine g_icmp_ne X1851 hx hby at_159 (by decide) (pc' := 180) (by decide) (pc2 := 162) rfl (fun c159_1853 => ?_) (fun c159_1853 => ?_)
      · refine g_iconst (v := 0) X1851 hx hby at_180 rfl (pc' := 181) rfl ?_
        refine g_istore (L' := #[.val (.int y0), .val (.int y1), .val (.int y2), .val (.int y3), .val (.int y4), .val (.int (1 : Int32)), .val (.int (1 : Int32)), .val (.int (1 : Int32)), .val (.int z1813), .val (.int z1815), .val (.int z1817), .val (.int z1819), .val (.int z1821), .val (.int z1823), .val (.ref b1825), .val (.int (0 : Int32)), .val (.int (own_r2 z1813.toInt.toNat (z1815.toInt.toNat * 4 + z1817.toInt.toNat) z1819.toInt.toNat (z1821.toInt.toNat * 4 + z1823.toInt.toNat) y2)), .val (.int (own_r3 z1813.toInt.toNat (z1815.toInt.toNat * 4 + z1817.toInt.toNat) z1819.toInt.toNat (z1821.toInt.toNat * 4 + z1823.toInt.toNat) y2 y3)), .val (.int (own_r4 z1813.toInt.toNat (z1815.toInt.toNat * 4 + z1817.toInt.toNat) z1819.toInt.toNat (z1821.toInt.toNat * 4 + z1823.toInt.toNat) y2 y3 y4)), .val (.int (0 : Int32)), .unset, .unset, .unset]) X1851 hx hby at_181 rfl (pc' := 183) rfl ?_
        refine g_iload X1851 hx hby at_183 rfl (pc' := 185) rfl ?_
        refine g_if_eq X1851 hx hby at_185 (by decide) (pc' := 192) (by decide) (pc2 := 188) rfl (fun c185_1854 => ?_) (fun q => absurd (by decide) q)
        refine g_iconst (v := 0) X1851 hx hby at_192 rfl (pc' := 193) rfl ?_
        refine g_istore (L' := #[.val (.int y0), .val (.int y1), .val (.int y2), .val (.int y3), .val (.int y4), .val (.int (1 : Int32)), .val (.int (1 : Int32)), .val (.int (1 : Int32)), .val (.int z1813), .val (.int z1815), .val (.int z1817), .val (.int z1819), .val (.int z1821), .val (.int z1823), .val (.ref b1825), .val (.int (0 : Int32)), .val (.int (own_r2 z1813.toInt.toNat (z1815.toInt.toNat * 4 + z1817.toInt.toNat) z1819.toInt.toNat (z1821.toInt.toNat * 4 + z1823.toInt.toNat) y2)), .val (.int (own_r3 z1813.toInt.toNat (z1815.toInt.toNat * 4 + z1817.toInt.toNat) z1819.toInt.toNat (z1821.toInt.toNat * 4 + z1823.toInt.toNat) y2 y3)), .val (.int (own_r4 z1813.toInt.toNat (z1815.toInt.toNat * 4 + z1817.toInt.toNat) z1819.toInt.toNat (z1821.toInt.toNat * 4 + z1823.toInt.toNat) y2 y3 y4)), .val (.int (0 : Int32)), .val (.int (0 : Int32)), .unset, .unset]) X1851 hx hby at_193 rfl (pc' := 195) rfl ?_
        refine g_iload X1851 hx hby at_195 rfl (pc' := 197) rfl ?_
        refine g_if_eq X1851 hx hby at_197 (by decide) (pc' := 212) (by decide) (pc2 := 200) rfl (fun c197_1855 => ?_) (fun q => absurd (by decide) q)
        refine g_iloadN X1851 hx hby at_212 rfl (pc' := 213) rfl ?_
        refine g_istore (L' := #[.val (.int y0), .val (.int y1), .val (.int y2), .val (.int y3), .val (.int y4), .val (.int (1 : Int32)), .val (.int (1 : Int32)), .val (.int (1 : Int32)), .val (.int z1813), .val (.int z1815), .val (.int z1817), .val (.int z1819), .val (.int z1821), .val (.int z1823), .val (.ref b1825), .val (.int (0 : Int32)), .val (.int (own_r2 z1813.toInt.toNat (z1815.toInt.toNat * 4 + z1817.toInt.toNat) z1819.toInt.toNat (z1821.toInt.toNat * 4 + z1823.toInt.toNat) y2)), .val (.int (own_r3 z1813.toInt.toNat (z1815.toInt.toNat * 4 + z1817.toInt.toNat) z1819.toInt.toNat (z1821.toInt.toNat * 4 + z1823.toInt.toNat) y2 y3)), .val (.int (own_r4 z1813.toInt.toNat (z1815.toInt.toNat * 4 + z1817.toInt.toNat) z1819.toInt.toNat (z1821.toInt.toNat * 4 + z1823.toInt.toNat) y2 y3 y4)), .val (.int (0 : Int32)), .val (.int (0 : Int32)), .val (.int y2), .unset]) X1851 hx hby at_213 rfl (pc' := 215) rfl ?_
        refine g_iload X1851 hx hby at_215 rfl (pc' := 217) rfl ?_
        refine g_if_eq X1851 hx hby at_217 (by decide) (pc' := 241) (by decide) (pc2 := 220) rfl (fun c217_1856 => ?_) (fun q => absurd (by decide) q)
        refine g_iloadN X1851 hx hby at_241 rfl (pc' := 242) rfl ?_
        refine g_istore (L' := #[.val (.int y0), .val (.int y1), .val (.int y2), .val (.int y3), .val (.int y4), .val (.int (1 : Int32)), .val (.int (1 : Int32)), .val (.int (1 : Int32)), .val (.int z1813), .val (.int z1815), .val (.int z1817), .val (.int z1819), .val (.int z1821), .val (.int z1823), .val (.ref b1825), .val (.int (0 : Int32)), .val (.int (own_r2 z1813.toInt.toNat (z1815.toInt.toNat * 4 + z1817.toInt.toNat) z1819.toInt.toNat (z1821.toInt.toNat * 4 + z1823.toInt.toNat) y2)), .val (.int (own_r3 z1813.toInt.toNat (z1815.toInt.toNat * 4 + z1817.toInt.toNat) z1819.toInt.toNat (z1821.toInt.toNat * 4 + z1823.toInt.toNat) y2 y3)), .val (.int (own_r4 z1813.toInt.toNat (z1815.toInt.toNat * 4 + z1817.toInt.toNat) z1819.toInt.toNat (z1821.toInt.toNat * 4 + z1823.toInt.toNat) y2 y3 y4)), .val (.int (0 : Int32)), .val (.int (0 : Int32)), .val (.int y2), .val (.int y3)]) X1851 hx hby at_242 rfl (pc' := 244) rfl ?_
        refine g_iload X1851 hx hby at_244 rfl (pc' := 246) rfl ?_
        refine g_if_ne X1851 hx hby at_246 (by decide) (pc' := 274) (by decide) (pc2 := 249) rfl (fun q => absurd (by decide) q) (fun c246_1857 => ?_)
        refine g_iload X1851 hx hby at_249 rfl (pc' := 251) rfl ?_
        refine g_iload X1851 hx hby at_251 rfl (pc' := 253) rfl ?_
        refine g_icmp_ne X1851 hx hby at_253 (by decide) (pc' := 274) (by decide) (pc2 := 256) rfl (fun q => absurd (show (own_r2 z1813.toInt.toNat (z1815.toInt.toNat * 4 + z1817.toInt.toNat) z1819.toInt.toNat (z1821.toInt.toNat * 4 + z1823.toInt.toNat) y2) = (0 : Int32) by rw [(own_diff y2 y3 y4 (by have hh0 := (own_n32 c159_1853); omega)).1]) q) (fun c253_1858 => ?_)
        refine g_iload X1851 hx hby at_256 rfl (pc' := 258) rfl ?_
        refine g_iload X1851 hx hby at_258 rfl (pc' := 260) rfl ?_
        refine g_icmp_ne X1851 hx hby at_260 (by decide) (pc' := 274) (by decide) (pc2 := 263) rfl (fun q => absurd (show (own_r3 z1813.toInt.toNat (z1815.toInt.toNat * 4 + z1817.toInt.toNat) z1819.toInt.toNat (z1821.toInt.toNat * 4 + z1823.toInt.toNat) y2 y3) = y2 by rw [(own_diff y2 y3 y4 (by have hh0 := (own_n32 c159_1853); omega)).2.1]) q) (fun c260_1859 => ?_)
        refine g_iload X1851 hx hby at_263 rfl (pc' := 265) rfl ?_
        refine g_iload X1851 hx hby at_265 rfl (pc' := 267) rfl ?_
        refine g_icmp_ne X1851 hx hby at_267 (by decide) (pc' := 274) (by decide) (pc2 := 270) rfl (fun q => absurd (show (own_r4 z1813.toInt.toNat (z1815.toInt.toNat * 4 + z1817.toInt.toNat) z1819.toInt.toNat (z1821.toInt.toNat * 4 + z1823.toInt.toNat) y2 y3 y4) = y3 by rw [(own_diff y2 y3 y4 (by have hh0 := (own_n32 c159_1853); omega)).2.2]) q) (fun c267_1860 => ?_)
        refine g_iconst (v := 1) X1851 hx hby at_270 rfl (pc' := 271) rfl ?_
        refine g_goto X1851 hx hby at_271 (by decide) (pc' := 275) (by decide) ?_
        exact g_retN X1851 hx hby hret hlk (by simp) at_275 rfl (by decide) (by decide)
      · refine g_iload X1851 hx hby at_162 rfl (pc' := 164) rfl ?_
        refine g_iload X1851 hx hby at_164 rfl (pc' := 166) rfl ?_
        refine g_icmp_ne X1851 hx hby at_166 (by decide) (pc' := 180) (by decide) (pc2 := 169) rfl (fun c166_1861 => ?_) (fun c166_1861 => ?_)
        · refine g_iconst (v := 0) X1851 hx hby at_180 rfl (pc' := 181) rfl ?_
          refine g_istore (L' := #[.val (.int y0), .val (.int y1), .val (.int y2), .val (.int y3), .val (.int y4), .val (.int (1 : Int32)), .val (.int (1 : Int32)), .val (.int (1 : Int32)), .val (.int z1813), .val (.int z1815), .val (.int z1817), .val (.int z1819), .val (.int z1821), .val (.int z1823), .val (.ref b1825), .val (.int (0 : Int32)), .val (.int (own_r2 z1813.toInt.toNat (z1815.toInt.toNat * 4 + z1817.toInt.toNat) z1819.toInt.toNat (z1821.toInt.toNat * 4 + z1823.toInt.toNat) y2)), .val (.int (own_r3 z1813.toInt.toNat (z1815.toInt.toNat * 4 + z1817.toInt.toNat) z1819.toInt.toNat (z1821.toInt.toNat * 4 + z1823.toInt.toNat) y2 y3)), .val (.int (own_r4 z1813.toInt.toNat (z1815.toInt.toNat * 4 + z1817.toInt.toNat) z1819.toInt.toNat (z1821.toInt.toNat * 4 + z1823.toInt.toNat) y2 y3 y4)), .val (.int (0 : Int32)), .unset, .unset, .unset]) X1851 hx hby at_181 rfl (pc' := 183) rfl ?_
          refine g_iload X1851 hx hby at_183 rfl (pc' := 185) rfl ?_
          refine g_if_eq X1851 hx hby at_185 (by decide) (pc' := 192) (by decide) (pc2 := 188) rfl (fun c185_1862 => ?_) (fun q => absurd (by decide) q)
          refine g_iconst (v := 0) X1851 hx hby at_192 rfl (pc' := 193) rfl ?_
          refine g_istore (L' := #[.val (.int y0), .val (.int y1), .val (.int y2), .val (.int y3), .val (.int y4), .val (.int (1 : Int32)), .val (.int (1 : Int32)), .val (.int (1 : Int32)), .val (.int z1813), .val (.int z1815), .val (.int z1817), .val (.int z1819), .val (.int z1821), .val (.int z1823), .val (.ref b1825), .val (.int (0 : Int32)), .val (.int (own_r2 z1813.toInt.toNat (z1815.toInt.toNat * 4 + z1817.toInt.toNat) z1819.toInt.toNat (z1821.toInt.toNat * 4 + z1823.toInt.toNat) y2)), .val (.int (own_r3 z1813.toInt.toNat (z1815.toInt.toNat * 4 + z1817.toInt.toNat) z1819.toInt.toNat (z1821.toInt.toNat * 4 + z1823.toInt.toNat) y2 y3)), .val (.int (own_r4 z1813.toInt.toNat (z1815.toInt.toNat * 4 + z1817.toInt.toNat) z1819.toInt.toNat (z1821.toInt.toNat * 4 + z1823.toInt.toNat) y2 y3 y4)), .val (.int (0 : Int32)), .val (.int (0 : Int32)), .unset, .unset]) X1851 hx hby at_193 rfl (pc' := 195) rfl ?_
          refine g_iload X1851 hx hby at_195 rfl (pc' := 197) rfl ?_
          refine g_if_eq X1851 hx hby at_197 (by decide) (pc' := 212) (by decide) (pc2 := 200) rfl (fun c197_1863 => ?_) (fun q => absurd (by decide) q)
          refine g_iloadN X1851 hx hby at_212 rfl (pc' := 213) rfl ?_
          refine g_istore (L' := #[.val (.int y0), .val (.int y1), .val (.int y2), .val (.int y3), .val (.int y4), .val (.int (1 : Int32)), .val (.int (1 : Int32)), .val (.int (1 : Int32)), .val (.int z1813), .val (.int z1815), .val (.int z1817), .val (.int z1819), .val (.int z1821), .val (.int z1823), .val (.ref b1825), .val (.int (0 : Int32)), .val (.int (own_r2 z1813.toInt.toNat (z1815.toInt.toNat * 4 + z1817.toInt.toNat) z1819.toInt.toNat (z1821.toInt.toNat * 4 + z1823.toInt.toNat) y2)), .val (.int (own_r3 z1813.toInt.toNat (z1815.toInt.toNat * 4 + z1817.toInt.toNat) z1819.toInt.toNat (z1821.toInt.toNat * 4 + z1823.toInt.toNat) y2 y3)), .val (.int (own_r4 z1813.toInt.toNat (z1815.toInt.toNat * 4 + z1817.toInt.toNat) z1819.toInt.toNat (z1821.toInt.toNat * 4 + z1823.toInt.toNat) y2 y3 y4)), .val (.int (0 : Int32)), .val (.int (0 : Int32)), .val (.int y2), .unset]) X1851 hx hby at_213 rfl (pc' := 215) rfl ?_
          refine g_iload X1851 hx hby at_215 rfl (pc' := 217) rfl ?_
          refine g_if_eq X1851 hx hby at_217 (by decide) (pc' := 241) (by decide) (pc2 := 220) rfl (fun c217_1864 => ?_) (fun q => absurd (by decide) q)
          refine g_iloadN X1851 hx hby at_241 rfl (pc' := 242) rfl ?_
          refine g_istore (L' := #[.val (.int y0), .val (.int y1), .val (.int y2), .val (.int y3), .val (.int y4), .val (.int (1 : Int32)), .val (.int (1 : Int32)), .val (.int (1 : Int32)), .val (.int z1813), .val (.int z1815), .val (.int z1817), .val (.int z1819), .val (.int z1821), .val (.int z1823), .val (.ref b1825), .val (.int (0 : Int32)), .val (.int (own_r2 z1813.toInt.toNat (z1815.toInt.toNat * 4 + z1817.toInt.toNat) z1819.toInt.toNat (z1821.toInt.toNat * 4 + z1823.toInt.toNat) y2)), .val (.int (own_r3 z1813.toInt.toNat (z1815.toInt.toNat * 4 + z1817.toInt.toNat) z1819.toInt.toNat (z1821.toInt.toNat * 4 + z1823.toInt.toNat) y2 y3)), .val (.int (own_r4 z1813.toInt.toNat (z1815.toInt.toNat * 4 + z1817.toInt.toNat) z1819.toInt.toNat (z1821.toInt.toNat * 4 + z1823.toInt.toNat) y2 y3 y4)), .val (.int (0 : Int32)), .val (.int (0 : Int32)), .val (.int y2), .val (.int y3)]) X1851 hx hby at_242 rfl (pc' := 244) rfl ?_
          refine g_iload X1851 hx hby at_244 rfl (pc' := 246) rfl ?_
          refine g_if_ne X1851 hx hby at_246 (by decide) (pc' := 274) (by decide) (pc2 := 249) rfl (fun q => absurd (by decide) q) (fun c246_1865 => ?_)
          refine g_iload X1851 hx hby at_249 rfl (pc' := 251) rfl ?_
          refine g_iload X1851 hx hby at_251 rfl (pc' := 253) rfl ?_
          refine g_icmp_ne X1851 hx hby at_253 (by decide) (pc' := 274) (by decide) (pc2 := 256) rfl (fun q => absurd (show (own_r2 z1813.toInt.toNat (z1815.toInt.toNat * 4 + z1817.toInt.toNat) z1819.toInt.toNat (z1821.toInt.toNat * 4 + z1823.toInt.toNat) y2) = (0 : Int32) by rw [(own_diff y2 y3 y4 (by have hh0 := (own_i32 c159_1853); have hh1 := (own_n32 c166_1861); omega)).1]) q) (fun c253_1866 => ?_)
          refine g_iload X1851 hx hby at_256 rfl (pc' := 258) rfl ?_
          refine g_iload X1851 hx hby at_258 rfl (pc' := 260) rfl ?_
          refine g_icmp_ne X1851 hx hby at_260 (by decide) (pc' := 274) (by decide) (pc2 := 263) rfl (fun q => absurd (show (own_r3 z1813.toInt.toNat (z1815.toInt.toNat * 4 + z1817.toInt.toNat) z1819.toInt.toNat (z1821.toInt.toNat * 4 + z1823.toInt.toNat) y2 y3) = y2 by rw [(own_diff y2 y3 y4 (by have hh0 := (own_i32 c159_1853); have hh1 := (own_n32 c166_1861); omega)).2.1]) q) (fun c260_1867 => ?_)
          refine g_iload X1851 hx hby at_263 rfl (pc' := 265) rfl ?_
          refine g_iload X1851 hx hby at_265 rfl (pc' := 267) rfl ?_
          refine g_icmp_ne X1851 hx hby at_267 (by decide) (pc' := 274) (by decide) (pc2 := 270) rfl (fun q => absurd (show (own_r4 z1813.toInt.toNat (z1815.toInt.toNat * 4 + z1817.toInt.toNat) z1819.toInt.toNat (z1821.toInt.toNat * 4 + z1823.toInt.toNat) y2 y3 y4) = y3 by rw [(own_diff y2 y3 y4 (by have hh0 := (own_i32 c159_1853); have hh1 := (own_n32 c166_1861); omega)).2.2]) q) (fun c267_1868 => ?_)
          refine g_iconst (v := 1) X1851 hx hby at_270 rfl (pc' := 271) rfl ?_
          refine g_goto X1851 hx hby at_271 (by decide) (pc' := 275) (by decide) ?_
          exact g_retN X1851 hx hby hret hlk (by simp) at_275 rfl (by decide) (by decide)
        · refine g_iload X1851 hx hby at_169 rfl (pc' := 171) rfl ?_
          refine g_iload X1851 hx hby at_171 rfl (pc' := 173) rfl ?_
          refine g_icmp_ne X1851 hx hby at_173 (by decide) (pc' := 180) (by decide) (pc2 := 176) rfl (fun c173_1869 => ?_) (fun c173_1869 => ?_)
          · refine g_iconst (v := 0) X1851 hx hby at_180 rfl (pc' := 181) rfl ?_
            refine g_istore (L' := #[.val (.int y0), .val (.int y1), .val (.int y2), .val (.int y3), .val (.int y4), .val (.int (1 : Int32)), .val (.int (1 : Int32)), .val (.int (1 : Int32)), .val (.int z1813), .val (.int z1815), .val (.int z1817), .val (.int z1819), .val (.int z1821), .val (.int z1823), .val (.ref b1825), .val (.int (0 : Int32)), .val (.int (own_r2 z1813.toInt.toNat (z1815.toInt.toNat * 4 + z1817.toInt.toNat) z1819.toInt.toNat (z1821.toInt.toNat * 4 + z1823.toInt.toNat) y2)), .val (.int (own_r3 z1813.toInt.toNat (z1815.toInt.toNat * 4 + z1817.toInt.toNat) z1819.toInt.toNat (z1821.toInt.toNat * 4 + z1823.toInt.toNat) y2 y3)), .val (.int (own_r4 z1813.toInt.toNat (z1815.toInt.toNat * 4 + z1817.toInt.toNat) z1819.toInt.toNat (z1821.toInt.toNat * 4 + z1823.toInt.toNat) y2 y3 y4)), .val (.int (0 : Int32)), .unset, .unset, .unset]) X1851 hx hby at_181 rfl (pc' := 183) rfl ?_
            refine g_iload X1851 hx hby at_183 rfl (pc' := 185) rfl ?_
            refine g_if_eq X1851 hx hby at_185 (by decide) (pc' := 192) (by decide) (pc2 := 188) rfl (fun c185_1870 => ?_) (fun q => absurd (by decide) q)
            refine g_iconst (v := 0) X1851 hx hby at_192 rfl (pc' := 193) rfl ?_
            refine g_istore (L' := #[.val (.int y0), .val (.int y1), .val (.int y2), .val (.int y3), .val (.int y4), .val (.int (1 : Int32)), .val (.int (1 : Int32)), .val (.int (1 : Int32)), .val (.int z1813), .val (.int z1815), .val (.int z1817), .val (.int z1819), .val (.int z1821), .val (.int z1823), .val (.ref b1825), .val (.int (0 : Int32)), .val (.int (own_r2 z1813.toInt.toNat (z1815.toInt.toNat * 4 + z1817.toInt.toNat) z1819.toInt.toNat (z1821.toInt.toNat * 4 + z1823.toInt.toNat) y2)), .val (.int (own_r3 z1813.toInt.toNat (z1815.toInt.toNat * 4 + z1817.toInt.toNat) z1819.toInt.toNat (z1821.toInt.toNat * 4 + z1823.toInt.toNat) y2 y3)), .val (.int (own_r4 z1813.toInt.toNat (z1815.toInt.toNat * 4 + z1817.toInt.toNat) z1819.toInt.toNat (z1821.toInt.toNat * 4 + z1823.toInt.toNat) y2 y3 y4)), .val (.int (0 : Int32)), .val (.int (0 : Int32)), .unset, .unset]) X1851 hx hby at_193 rfl (pc' := 195) rfl ?_
            refine g_iload X1851 hx hby at_195 rfl (pc' := 197) rfl ?_
            refine g_if_eq X1851 hx hby at_197 (by decide) (pc' := 212) (by decide) (pc2 := 200) rfl (fun c197_1871 => ?_) (fun q => absurd (by decide) q)
            refine g_iloadN X1851 hx hby at_212 rfl (pc' := 213) rfl ?_
            refine g_istore (L' := #[.val (.int y0), .val (.int y1), .val (.int y2), .val (.int y3), .val (.int y4), .val (.int (1 : Int32)), .val (.int (1 : Int32)), .val (.int (1 : Int32)), .val (.int z1813), .val (.int z1815), .val (.int z1817), .val (.int z1819), .val (.int z1821), .val (.int z1823), .val (.ref b1825), .val (.int (0 : Int32)), .val (.int (own_r2 z1813.toInt.toNat (z1815.toInt.toNat * 4 + z1817.toInt.toNat) z1819.toInt.toNat (z1821.toInt.toNat * 4 + z1823.toInt.toNat) y2)), .val (.int (own_r3 z1813.toInt.toNat (z1815.toInt.toNat * 4 + z1817.toInt.toNat) z1819.toInt.toNat (z1821.toInt.toNat * 4 + z1823.toInt.toNat) y2 y3)), .val (.int (own_r4 z1813.toInt.toNat (z1815.toInt.toNat * 4 + z1817.toInt.toNat) z1819.toInt.toNat (z1821.toInt.toNat * 4 + z1823.toInt.toNat) y2 y3 y4)), .val (.int (0 : Int32)), .val (.int (0 : Int32)), .val (.int y2), .unset]) X1851 hx hby at_213 rfl (pc' := 215) rfl ?_
            refine g_iload X1851 hx hby at_215 rfl (pc' := 217) rfl ?_
            refine g_if_eq X1851 hx hby at_217 (by decide) (pc' := 241) (by decide) (pc2 := 220) rfl (fun c217_1872 => ?_) (fun q => absurd (by decide) q)
            refine g_iloadN X1851 hx hby at_241 rfl (pc' := 242) rfl ?_
            refine g_istore (L' := #[.val (.int y0), .val (.int y1), .val (.int y2), .val (.int y3), .val (.int y4), .val (.int (1 : Int32)), .val (.int (1 : Int32)), .val (.int (1 : Int32)), .val (.int z1813), .val (.int z1815), .val (.int z1817), .val (.int z1819), .val (.int z1821), .val (.int z1823), .val (.ref b1825), .val (.int (0 : Int32)), .val (.int (own_r2 z1813.toInt.toNat (z1815.toInt.toNat * 4 + z1817.toInt.toNat) z1819.toInt.toNat (z1821.toInt.toNat * 4 + z1823.toInt.toNat) y2)), .val (.int (own_r3 z1813.toInt.toNat (z1815.toInt.toNat * 4 + z1817.toInt.toNat) z1819.toInt.toNat (z1821.toInt.toNat * 4 + z1823.toInt.toNat) y2 y3)), .val (.int (own_r4 z1813.toInt.toNat (z1815.toInt.toNat * 4 + z1817.toInt.toNat) z1819.toInt.toNat (z1821.toInt.toNat * 4 + z1823.toInt.toNat) y2 y3 y4)), .val (.int (0 : Int32)), .val (.int (0 : Int32)), .val (.int y2), .val (.int y3)]) X1851 hx hby at_242 rfl (pc' := 244) rfl ?_
            refine g_iload X1851 hx hby at_244 rfl (pc' := 246) rfl ?_
            refine g_if_ne X1851 hx hby at_246 (by decide) (pc' := 274) (by decide) (pc2 := 249) rfl (fun q => absurd (by decide) q) (fun c246_1873 => ?_)
            refine g_iload X1851 hx hby at_249 rfl (pc' := 251) rfl ?_
            refine g_iload X1851 hx hby at_251 rfl (pc' := 253) rfl ?_
            refine g_icmp_ne X1851 hx hby at_253 (by decide) (pc' := 274) (by decide) (pc2 := 256) rfl (fun q => absurd (show (own_r2 z1813.toInt.toNat (z1815.toInt.toNat * 4 + z1817.toInt.toNat) z1819.toInt.toNat (z1821.toInt.toNat * 4 + z1823.toInt.toNat) y2) = (0 : Int32) by rw [(own_diff y2 y3 y4 (by have hh0 := (own_i32 c159_1853); have hh1 := (own_i32 c166_1861); have hh2 := (own_n32 c173_1869); omega)).1]) q) (fun c253_1874 => ?_)
            refine g_iload X1851 hx hby at_256 rfl (pc' := 258) rfl ?_
            refine g_iload X1851 hx hby at_258 rfl (pc' := 260) rfl ?_
            refine g_icmp_ne X1851 hx hby at_260 (by decide) (pc' := 274) (by decide) (pc2 := 263) rfl (fun q => absurd (show (own_r3 z1813.toInt.toNat (z1815.toInt.toNat * 4 + z1817.toInt.toNat) z1819.toInt.toNat (z1821.toInt.toNat * 4 + z1823.toInt.toNat) y2 y3) = y2 by rw [(own_diff y2 y3 y4 (by have hh0 := (own_i32 c159_1853); have hh1 := (own_i32 c166_1861); have hh2 := (own_n32 c173_1869); omega)).2.1]) q) (fun c260_1875 => ?_)
            refine g_iload X1851 hx hby at_263 rfl (pc' := 265) rfl ?_
            refine g_iload X1851 hx hby at_265 rfl (pc' := 267) rfl ?_
            refine g_icmp_ne X1851 hx hby at_267 (by decide) (pc' := 274) (by decide) (pc2 := 270) rfl (fun q => absurd (show (own_r4 z1813.toInt.toNat (z1815.toInt.toNat * 4 + z1817.toInt.toNat) z1819.toInt.toNat (z1821.toInt.toNat * 4 + z1823.toInt.toNat) y2 y3 y4) = y3 by rw [(own_diff y2 y3 y4 (by have hh0 := (own_i32 c159_1853); have hh1 := (own_i32 c166_1861); have hh2 := (own_n32 c173_1869); omega)).2.2]) q) (fun c267_1876 => ?_)
            refine g_iconst (v := 1) X1851 hx hby at_270 rfl (pc' := 271) rfl ?_
            refine g_goto X1851 hx hby at_271 (by decide) (pc' := 275) (by decide) ?_
            exact g_retN X1851 hx hby hret hlk (by simp) at_275 rfl (by decide) (by decide)
          · refine g_iconst (v := 1) X1851 hx hby at_176 rfl (pc' := 177) rfl ?_
            refine g_goto X1851 hx hby at_177 (by decide) (pc' := 181) (by decide) ?_
            refine g_istore (L' := #[.val (.int y0), .val (.int y1), .val (.int y2), .val (.int y3), .val (.int y4), .val (.int (1 : Int32)), .val (.int (1 : Int32)), .val (.int (1 : Int32)), .val (.int z1813), .val (.int z1815), .val (.int z1817), .val (.int z1819), .val (.int z1821), .val (.int z1823), .val (.ref b1825), .val (.int (0 : Int32)), .val (.int (own_r2 z1813.toInt.toNat (z1815.toInt.toNat * 4 + z1817.toInt.toNat) z1819.toInt.toNat (z1821.toInt.toNat * 4 + z1823.toInt.toNat) y2)), .val (.int (own_r3 z1813.toInt.toNat (z1815.toInt.toNat * 4 + z1817.toInt.toNat) z1819.toInt.toNat (z1821.toInt.toNat * 4 + z1823.toInt.toNat) y2 y3)), .val (.int (own_r4 z1813.toInt.toNat (z1815.toInt.toNat * 4 + z1817.toInt.toNat) z1819.toInt.toNat (z1821.toInt.toNat * 4 + z1823.toInt.toNat) y2 y3 y4)), .val (.int (1 : Int32)), .unset, .unset, .unset]) X1851 hx hby at_181 rfl (pc' := 183) rfl ?_
            refine g_iload X1851 hx hby at_183 rfl (pc' := 185) rfl ?_
            refine g_if_eq X1851 hx hby at_185 (by decide) (pc' := 192) (by decide) (pc2 := 188) rfl (fun q => absurd q (by decide)) (fun c185_1877 => ?_)
            refine g_iloadN X1851 hx hby at_188 rfl (pc' := 189) rfl ?_
            refine g_goto X1851 hx hby at_189 (by decide) (pc' := 193) (by decide) ?_
            refine g_istore (L' := #[.val (.int y0), .val (.int y1), .val (.int y2), .val (.int y3), .val (.int y4), .val (.int (1 : Int32)), .val (.int (1 : Int32)), .val (.int (1 : Int32)), .val (.int z1813), .val (.int z1815), .val (.int z1817), .val (.int z1819), .val (.int z1821), .val (.int z1823), .val (.ref b1825), .val (.int (0 : Int32)), .val (.int (own_r2 z1813.toInt.toNat (z1815.toInt.toNat * 4 + z1817.toInt.toNat) z1819.toInt.toNat (z1821.toInt.toNat * 4 + z1823.toInt.toNat) y2)), .val (.int (own_r3 z1813.toInt.toNat (z1815.toInt.toNat * 4 + z1817.toInt.toNat) z1819.toInt.toNat (z1821.toInt.toNat * 4 + z1823.toInt.toNat) y2 y3)), .val (.int (own_r4 z1813.toInt.toNat (z1815.toInt.toNat * 4 + z1817.toInt.toNat) z1819.toInt.toNat (z1821.toInt.toNat * 4 + z1823.toInt.toNat) y2 y3 y4)), .val (.int (1 : Int32)), .val (.int y2), .unset, .unset]) X1851 hx hby at_193 rfl (pc' := 195) rfl ?_
            refine g_iload X1851 hx hby at_195 rfl (pc' := 197) rfl ?_
            refine g_if_eq X1851 hx hby at_197 (by decide) (pc' := 212) (by decide) (pc2 := 200) rfl (fun q => absurd q (by decide)) (fun c197_1878 => ?_)
            refine g_iloadN X1851 hx hby at_200 rfl (pc' := 201) rfl ?_
            refine g_if_eq X1851 hx hby at_201 (by decide) (pc' := 208) (by decide) (pc2 := 204) rfl (fun c201_1879 => ?_) (fun c201_1879 => ?_)
            · refine g_iloadN X1851 hx hby at_208 rfl (pc' := 209) rfl ?_
              refine g_goto X1851 hx hby at_209 (by decide) (pc' := 213) (by decide) ?_
              refine g_istore (L' := #[.val (.int y0), .val (.int y1), .val (.int y2), .val (.int y3), .val (.int y4), .val (.int (1 : Int32)), .val (.int (1 : Int32)), .val (.int (1 : Int32)), .val (.int z1813), .val (.int z1815), .val (.int z1817), .val (.int z1819), .val (.int z1821), .val (.int z1823), .val (.ref b1825), .val (.int (0 : Int32)), .val (.int (own_r2 z1813.toInt.toNat (z1815.toInt.toNat * 4 + z1817.toInt.toNat) z1819.toInt.toNat (z1821.toInt.toNat * 4 + z1823.toInt.toNat) y2)), .val (.int (own_r3 z1813.toInt.toNat (z1815.toInt.toNat * 4 + z1817.toInt.toNat) z1819.toInt.toNat (z1821.toInt.toNat * 4 + z1823.toInt.toNat) y2 y3)), .val (.int (own_r4 z1813.toInt.toNat (z1815.toInt.toNat * 4 + z1817.toInt.toNat) z1819.toInt.toNat (z1821.toInt.toNat * 4 + z1823.toInt.toNat) y2 y3 y4)), .val (.int (1 : Int32)), .val (.int y2), .val (.int y3), .unset]) X1851 hx hby at_213 rfl (pc' := 215) rfl ?_
              refine g_iload X1851 hx hby at_215 rfl (pc' := 217) rfl ?_
              refine g_if_eq X1851 hx hby at_217 (by decide) (pc' := 241) (by decide) (pc2 := 220) rfl (fun q => absurd q (by decide)) (fun c217_1880 => ?_)
              refine g_iloadN X1851 hx hby at_220 rfl (pc' := 221) rfl ?_
              refine g_if_eq X1851 hx hby at_221 (by decide) (pc' := 228) (by decide) (pc2 := 224) rfl (fun c221_1881 => ?_) (fun q => absurd c201_1879 q)
              refine g_iloadN X1851 hx hby at_228 rfl (pc' := 229) rfl ?_
              refine g_if_eq X1851 hx hby at_229 (by decide) (pc' := 236) (by decide) (pc2 := 232) rfl (fun c229_1882 => ?_) (fun c229_1882 => ?_)
              · refine g_iload X1851 hx hby at_236 rfl (pc' := 238) rfl ?_
                refine g_goto X1851 hx hby at_238 (by decide) (pc' := 242) (by decide) ?_
                refine g_istore (L' := #[.val (.int y0), .val (.int y1), .val (.int y2), .val (.int y3), .val (.int y4), .val (.int (1 : Int32)), .val (.int (1 : Int32)), .val (.int (1 : Int32)), .val (.int z1813), .val (.int z1815), .val (.int z1817), .val (.int z1819), .val (.int z1821), .val (.int z1823), .val (.ref b1825), .val (.int (0 : Int32)), .val (.int (own_r2 z1813.toInt.toNat (z1815.toInt.toNat * 4 + z1817.toInt.toNat) z1819.toInt.toNat (z1821.toInt.toNat * 4 + z1823.toInt.toNat) y2)), .val (.int (own_r3 z1813.toInt.toNat (z1815.toInt.toNat * 4 + z1817.toInt.toNat) z1819.toInt.toNat (z1821.toInt.toNat * 4 + z1823.toInt.toNat) y2 y3)), .val (.int (own_r4 z1813.toInt.toNat (z1815.toInt.toNat * 4 + z1817.toInt.toNat) z1819.toInt.toNat (z1821.toInt.toNat * 4 + z1823.toInt.toNat) y2 y3 y4)), .val (.int (1 : Int32)), .val (.int y2), .val (.int y3), .val (.int y4)]) X1851 hx hby at_242 rfl (pc' := 244) rfl ?_
                refine g_iload X1851 hx hby at_244 rfl (pc' := 246) rfl ?_
                refine g_if_ne X1851 hx hby at_246 (by decide) (pc' := 274) (by decide) (pc2 := 249) rfl (fun q => absurd (by decide) q) (fun c246_1883 => ?_)
                refine g_iload X1851 hx hby at_249 rfl (pc' := 251) rfl ?_
                refine g_iload X1851 hx hby at_251 rfl (pc' := 253) rfl ?_
                refine g_icmp_ne X1851 hx hby at_253 (by decide) (pc' := 274) (by decide) (pc2 := 256) rfl (fun q => absurd (show (own_r2 z1813.toInt.toNat (z1815.toInt.toNat * 4 + z1817.toInt.toNat) z1819.toInt.toNat (z1821.toInt.toNat * 4 + z1823.toInt.toNat) y2) = y2 by rw [(own_same y2 y3 y4 (by rw [c159_1853]) (by rw [c166_1861, c173_1869])).1] <;> simp [c201_1879, c221_1881, c229_1882]) q) (fun c253_1884 => ?_)
                refine g_iload X1851 hx hby at_256 rfl (pc' := 258) rfl ?_
                refine g_iload X1851 hx hby at_258 rfl (pc' := 260) rfl ?_
                refine g_icmp_ne X1851 hx hby at_260 (by decide) (pc' := 274) (by decide) (pc2 := 263) rfl (fun q => absurd (show (own_r3 z1813.toInt.toNat (z1815.toInt.toNat * 4 + z1817.toInt.toNat) z1819.toInt.toNat (z1821.toInt.toNat * 4 + z1823.toInt.toNat) y2 y3) = y3 by rw [(own_same y2 y3 y4 (by rw [c159_1853]) (by rw [c166_1861, c173_1869])).2.1] <;> simp [c201_1879, c221_1881, c229_1882]) q) (fun c260_1885 => ?_)
                refine g_iload X1851 hx hby at_263 rfl (pc' := 265) rfl ?_
                refine g_iload X1851 hx hby at_265 rfl (pc' := 267) rfl ?_
                refine g_icmp_ne X1851 hx hby at_267 (by decide) (pc' := 274) (by decide) (pc2 := 270) rfl (fun q => absurd (show (own_r4 z1813.toInt.toNat (z1815.toInt.toNat * 4 + z1817.toInt.toNat) z1819.toInt.toNat (z1821.toInt.toNat * 4 + z1823.toInt.toNat) y2 y3 y4) = y4 by rw [(own_same y2 y3 y4 (by rw [c159_1853]) (by rw [c166_1861, c173_1869])).2.2] <;> simp [c201_1879, c221_1881, c229_1882]) q) (fun c267_1886 => ?_)
                refine g_iconst (v := 1) X1851 hx hby at_270 rfl (pc' := 271) rfl ?_
                refine g_goto X1851 hx hby at_271 (by decide) (pc' := 275) (by decide) ?_
                exact g_retN X1851 hx hby hret hlk (by simp) at_275 rfl (by decide) (by decide)
              · refine g_iloadN X1851 hx hby at_232 rfl (pc' := 233) rfl ?_
                refine g_goto X1851 hx hby at_233 (by decide) (pc' := 242) (by decide) ?_
                refine g_istore (L' := #[.val (.int y0), .val (.int y1), .val (.int y2), .val (.int y3), .val (.int y4), .val (.int (1 : Int32)), .val (.int (1 : Int32)), .val (.int (1 : Int32)), .val (.int z1813), .val (.int z1815), .val (.int z1817), .val (.int z1819), .val (.int z1821), .val (.int z1823), .val (.ref b1825), .val (.int (0 : Int32)), .val (.int (own_r2 z1813.toInt.toNat (z1815.toInt.toNat * 4 + z1817.toInt.toNat) z1819.toInt.toNat (z1821.toInt.toNat * 4 + z1823.toInt.toNat) y2)), .val (.int (own_r3 z1813.toInt.toNat (z1815.toInt.toNat * 4 + z1817.toInt.toNat) z1819.toInt.toNat (z1821.toInt.toNat * 4 + z1823.toInt.toNat) y2 y3)), .val (.int (own_r4 z1813.toInt.toNat (z1815.toInt.toNat * 4 + z1817.toInt.toNat) z1819.toInt.toNat (z1821.toInt.toNat * 4 + z1823.toInt.toNat) y2 y3 y4)), .val (.int (1 : Int32)), .val (.int y2), .val (.int y3), .val (.int y3)]) X1851 hx hby at_242 rfl (pc' := 244) rfl ?_
                refine g_iload X1851 hx hby at_244 rfl (pc' := 246) rfl ?_
                refine g_if_ne X1851 hx hby at_246 (by decide) (pc' := 274) (by decide) (pc2 := 249) rfl (fun q => absurd (by decide) q) (fun c246_1887 => ?_)
                refine g_iload X1851 hx hby at_249 rfl (pc' := 251) rfl ?_
                refine g_iload X1851 hx hby at_251 rfl (pc' := 253) rfl ?_
                refine g_icmp_ne X1851 hx hby at_253 (by decide) (pc' := 274) (by decide) (pc2 := 256) rfl (fun q => absurd (show (own_r2 z1813.toInt.toNat (z1815.toInt.toNat * 4 + z1817.toInt.toNat) z1819.toInt.toNat (z1821.toInt.toNat * 4 + z1823.toInt.toNat) y2) = y2 by rw [(own_same y2 y3 y4 (by rw [c159_1853]) (by rw [c166_1861, c173_1869])).1] <;> simp [c201_1879, c221_1881, c229_1882]) q) (fun c253_1888 => ?_)
                refine g_iload X1851 hx hby at_256 rfl (pc' := 258) rfl ?_
                refine g_iload X1851 hx hby at_258 rfl (pc' := 260) rfl ?_
                refine g_icmp_ne X1851 hx hby at_260 (by decide) (pc' := 274) (by decide) (pc2 := 263) rfl (fun q => absurd (show (own_r3 z1813.toInt.toNat (z1815.toInt.toNat * 4 + z1817.toInt.toNat) z1819.toInt.toNat (z1821.toInt.toNat * 4 + z1823.toInt.toNat) y2 y3) = y3 by rw [(own_same y2 y3 y4 (by rw [c159_1853]) (by rw [c166_1861, c173_1869])).2.1] <;> simp [c201_1879, c221_1881, c229_1882]) q) (fun c260_1889 => ?_)
                refine g_iload X1851 hx hby at_263 rfl (pc' := 265) rfl ?_
                refine g_iload X1851 hx hby at_265 rfl (pc' := 267) rfl ?_
                refine g_icmp_ne X1851 hx hby at_267 (by decide) (pc' := 274) (by decide) (pc2 := 270) rfl (fun q => absurd (show (own_r4 z1813.toInt.toNat (z1815.toInt.toNat * 4 + z1817.toInt.toNat) z1819.toInt.toNat (z1821.toInt.toNat * 4 + z1823.toInt.toNat) y2 y3 y4) = y3 by rw [(own_same y2 y3 y4 (by rw [c159_1853]) (by rw [c166_1861, c173_1869])).2.2] <;> simp [c201_1879, c221_1881, c229_1882]) q) (fun c267_1890 => ?_)
                refine g_iconst (v := 1) X1851 hx hby at_270 rfl (pc' := 271) rfl ?_
                refine g_goto X1851 hx hby at_271 (by decide) (pc' := 275) (by decide) ?_
                exact g_retN X1851 hx hby hret hlk (by simp) at_275 rfl (by decide) (by decide)
            · refine g_iloadN X1851 hx hby at_204 rfl (pc' := 205) rfl ?_
              refine g_goto X1851 hx hby at_205 (by decide) (pc' := 213) (by decide) ?_
              refine g_istore (L' := #[.val (.int y0), .val (.int y1), .val (.int y2), .val (.int y3), .val (.int y4), .val (.int (1 : Int32)), .val (.int (1 : Int32)), .val (.int (1 : Int32)), .val (.int z1813), .val (.int z1815), .val (.int z1817), .val (.int z1819), .val (.int z1821), .val (.int z1823), .val (.ref b1825), .val (.int (0 : Int32)), .val (.int (own_r2 z1813.toInt.toNat (z1815.toInt.toNat * 4 + z1817.toInt.toNat) z1819.toInt.toNat (z1821.toInt.toNat * 4 + z1823.toInt.toNat) y2)), .val (.int (own_r3 z1813.toInt.toNat (z1815.toInt.toNat * 4 + z1817.toInt.toNat) z1819.toInt.toNat (z1821.toInt.toNat * 4 + z1823.toInt.toNat) y2 y3)), .val (.int (own_r4 z1813.toInt.toNat (z1815.toInt.toNat * 4 + z1817.toInt.toNat) z1819.toInt.toNat (z1821.toInt.toNat * 4 + z1823.toInt.toNat) y2 y3 y4)), .val (.int (1 : Int32)), .val (.int y2), .val (.int y2), .unset]) X1851 hx hby at_213 rfl (pc' := 215) rfl ?_
              refine g_iload X1851 hx hby at_215 rfl (pc' := 217) rfl ?_
              refine g_if_eq X1851 hx hby at_217 (by decide) (pc' := 241) (by decide) (pc2 := 220) rfl (fun q => absurd q (by decide)) (fun c217_1891 => ?_)
              refine g_iloadN X1851 hx hby at_220 rfl (pc' := 221) rfl ?_
              refine g_if_eq X1851 hx hby at_221 (by decide) (pc' := 228) (by decide) (pc2 := 224) rfl (fun q => absurd q c201_1879) (fun c221_1892 => ?_)
              refine g_iloadN X1851 hx hby at_224 rfl (pc' := 225) rfl ?_
              refine g_goto X1851 hx hby at_225 (by decide) (pc' := 242) (by decide) ?_
              refine g_istore (L' := #[.val (.int y0), .val (.int y1), .val (.int y2), .val (.int y3), .val (.int y4), .val (.int (1 : Int32)), .val (.int (1 : Int32)), .val (.int (1 : Int32)), .val (.int z1813), .val (.int z1815), .val (.int z1817), .val (.int z1819), .val (.int z1821), .val (.int z1823), .val (.ref b1825), .val (.int (0 : Int32)), .val (.int (own_r2 z1813.toInt.toNat (z1815.toInt.toNat * 4 + z1817.toInt.toNat) z1819.toInt.toNat (z1821.toInt.toNat * 4 + z1823.toInt.toNat) y2)), .val (.int (own_r3 z1813.toInt.toNat (z1815.toInt.toNat * 4 + z1817.toInt.toNat) z1819.toInt.toNat (z1821.toInt.toNat * 4 + z1823.toInt.toNat) y2 y3)), .val (.int (own_r4 z1813.toInt.toNat (z1815.toInt.toNat * 4 + z1817.toInt.toNat) z1819.toInt.toNat (z1821.toInt.toNat * 4 + z1823.toInt.toNat) y2 y3 y4)), .val (.int (1 : Int32)), .val (.int y2), .val (.int y2), .val (.int y2)]) X1851 hx hby at_242 rfl (pc' := 244) rfl ?_
              refine g_iload X1851 hx hby at_244 rfl (pc' := 246) rfl ?_
              refine g_if_ne X1851 hx hby at_246 (by decide) (pc' := 274) (by decide) (pc2 := 249) rfl (fun q => absurd (by decide) q) (fun c246_1893 => ?_)
              refine g_iload X1851 hx hby at_249 rfl (pc' := 251) rfl ?_
              refine g_iload X1851 hx hby at_251 rfl (pc' := 253) rfl ?_
              refine g_icmp_ne X1851 hx hby at_253 (by decide) (pc' := 274) (by decide) (pc2 := 256) rfl (fun q => absurd (show (own_r2 z1813.toInt.toNat (z1815.toInt.toNat * 4 + z1817.toInt.toNat) z1819.toInt.toNat (z1821.toInt.toNat * 4 + z1823.toInt.toNat) y2) = y2 by rw [(own_same y2 y3 y4 (by rw [c159_1853]) (by rw [c166_1861, c173_1869])).1] <;> simp [c201_1879, c221_1892]) q) (fun c253_1894 => ?_)
              refine g_iload X1851 hx hby at_256 rfl (pc' := 258) rfl ?_
              refine g_iload X1851 hx hby at_258 rfl (pc' := 260) rfl ?_
              refine g_icmp_ne X1851 hx hby at_260 (by decide) (pc' := 274) (by decide) (pc2 := 263) rfl (fun q => absurd (show (own_r3 z1813.toInt.toNat (z1815.toInt.toNat * 4 + z1817.toInt.toNat) z1819.toInt.toNat (z1821.toInt.toNat * 4 + z1823.toInt.toNat) y2 y3) = y2 by rw [(own_same y2 y3 y4 (by rw [c159_1853]) (by rw [c166_1861, c173_1869])).2.1] <;> simp [c201_1879, c221_1892]) q) (fun c260_1895 => ?_)
              refine g_iload X1851 hx hby at_263 rfl (pc' := 265) rfl ?_
              refine g_iload X1851 hx hby at_265 rfl (pc' := 267) rfl ?_
              refine g_icmp_ne X1851 hx hby at_267 (by decide) (pc' := 274) (by decide) (pc2 := 270) rfl (fun q => absurd (show (own_r4 z1813.toInt.toNat (z1815.toInt.toNat * 4 + z1817.toInt.toNat) z1819.toInt.toNat (z1821.toInt.toNat * 4 + z1823.toInt.toNat) y2 y3 y4) = y2 by rw [(own_same y2 y3 y4 (by rw [c159_1853]) (by rw [c166_1861, c173_1869])).2.2] <;> simp [c201_1879, c221_1892]) q) (fun c267_1896 => ?_)
              refine g_iconst (v := 1) X1851 hx hby at_270 rfl (pc' := 271) rfl ?_
              refine g_goto X1851 hx hby at_271 (by decide) (pc' := 275) (by decide) ?_
              exact g_retN X1851 hx hby hret hlk (by simp) at_275 rfl (by decide) (by decide)
    · show Gl p e below n0 _ _ (T0.setTop (mkF m 20 #[.val (.int y0), .val (.int y1), .val (.int y2), .val (.int y3), .val (.int y4), .val (.int (1 : Int32)), .unset, .unset, .unset, .unset, .unset, .unset, .unset, .unset, .unset, .unset, .unset, .unset, .unset, .unset, .unset, .unset, .unset] [(.int (2 : Int32))]))
      refine g_istore (L' := #[.val (.int y0), .val (.int y1), .val (.int y2), .val (.int y3), .val (.int y4), .val (.int (1 : Int32)), .val (.int (2 : Int32)), .unset, .unset, .unset, .unset, .unset, .unset, .unset, .unset, .unset, .unset, .unset, .unset, .unset, .unset, .unset, .unset]) X0 hx hby at_20 rfl (pc' := 22) rfl ?_
      refine g_iload X0 hx hby at_22 rfl (pc' := 24) rfl ?_
      refine g_if_eq X0 hx hby at_24 (by decide) (pc' := 32) (by decide) (pc2 := 27) rfl (fun q => absurd q (by decide)) (fun c24_1897 => ?_)
      refine g_iload X0 hx hby at_27 rfl (pc' := 29) rfl ?_
      refine g_goto X0 hx hby at_29 (by decide) (pc' := 33) (by decide) ?_
      refine g_istore (L' := #[.val (.int y0), .val (.int y1), .val (.int y2), .val (.int y3), .val (.int y4), .val (.int (1 : Int32)), .val (.int (2 : Int32)), .val (.int (2 : Int32)), .unset, .unset, .unset, .unset, .unset, .unset, .unset, .unset, .unset, .unset, .unset, .unset, .unset, .unset, .unset]) X0 hx hby at_33 rfl (pc' := 35) rfl ?_
      refine g_iloadN X0 hx hby at_35 rfl (pc' := 36) rfl ?_
      refine g_iconst (v := 2) X0 hx hby at_36 rfl (pc' := 37) rfl ?_
      refine g_iushr X0 hx hby at_37 (pc' := 38) rfl ?_
      refine g_iconst (v := 1) X0 hx hby at_38 rfl (pc' := 39) rfl ?_
      refine g_iand X0 hx hby at_39 (pc' := 40) rfl ?_
      refine g_iload X0 hx hby at_40 rfl (pc' := 42) rfl ?_
      refine g_irem X0 hx hby at_42 (by decide) (pc' := 43) rfl ?_
      refine g_istore (L' := #[.val (.int y0), .val (.int y1), .val (.int y2), .val (.int y3), .val (.int y4), .val (.int (1 : Int32)), .val (.int (2 : Int32)), .val (.int (2 : Int32)), .val (.int ((((y0.toUInt32 >>> ((2 : Int32) &&& 31).toUInt32).toInt32) &&& (1 : Int32)) % (2 : Int32))), .unset, .unset, .unset, .unset, .unset, .unset, .unset, .unset, .unset, .unset, .unset, .unset, .unset, .unset]) X0 hx hby at_43 rfl (pc' := 45) rfl ?_
      obtain ⟨z1898, hz1898⟩ : ∃ z, z = ((((y0.toUInt32 >>> ((2 : Int32) &&& 31).toUInt32).toInt32) &&& (1 : Int32)) % (2 : Int32)) := ⟨_, rfl⟩
      rw [← hz1898]
      have bn1899 : 0 ≤ z1898.toInt ∧ z1898.toInt < 2 := by rw [hz1898]; exact own_tr2 _
      refine g_iloadN X0 hx hby at_45 rfl (pc' := 46) rfl ?_
      refine g_iconst (v := 3) X0 hx hby at_46 rfl (pc' := 47) rfl ?_
      refine g_iushr X0 hx hby at_47 (pc' := 48) rfl ?_
      refine g_bipush (v := 63) X0 hx hby at_48 rfl (pc' := 50) rfl ?_
      refine g_iand X0 hx hby at_50 (pc' := 51) rfl ?_
      refine g_istore (L' := #[.val (.int y0), .val (.int y1), .val (.int y2), .val (.int y3), .val (.int y4), .val (.int (1 : Int32)), .val (.int (2 : Int32)), .val (.int (2 : Int32)), .val (.int z1898), .val (.int (((y0.toUInt32 >>> ((3 : Int32) &&& 31).toUInt32).toInt32) &&& (63 : Int32))), .unset, .unset, .unset, .unset, .unset, .unset, .unset, .unset, .unset, .unset, .unset, .unset, .unset]) X0 hx hby at_51 rfl (pc' := 53) rfl ?_
      obtain ⟨z1900, hz1900⟩ : ∃ z, z = (((y0.toUInt32 >>> ((3 : Int32) &&& 31).toUInt32).toInt32) &&& (63 : Int32)) := ⟨_, rfl⟩
      rw [← hz1900]
      have bn1901 : 0 ≤ z1900.toInt ∧ z1900.toInt < 64 := by rw [hz1900]; exact own_m63 _
      refine g_iloadN X0 hx hby at_53 rfl (pc' := 54) rfl ?_
      refine g_bipush (v := 9) X0 hx hby at_54 rfl (pc' := 56) rfl ?_
      refine g_iushr X0 hx hby at_56 (pc' := 57) rfl ?_
      refine g_iconst (v := 3) X0 hx hby at_57 rfl (pc' := 58) rfl ?_
      refine g_iand X0 hx hby at_58 (pc' := 59) rfl ?_
      refine g_istore (L' := #[.val (.int y0), .val (.int y1), .val (.int y2), .val (.int y3), .val (.int y4), .val (.int (1 : Int32)), .val (.int (2 : Int32)), .val (.int (2 : Int32)), .val (.int z1898), .val (.int z1900), .val (.int (((y0.toUInt32 >>> ((9 : Int32) &&& 31).toUInt32).toInt32) &&& (3 : Int32))), .unset, .unset, .unset, .unset, .unset, .unset, .unset, .unset, .unset, .unset, .unset, .unset]) X0 hx hby at_59 rfl (pc' := 61) rfl ?_
      obtain ⟨z1902, hz1902⟩ : ∃ z, z = (((y0.toUInt32 >>> ((9 : Int32) &&& 31).toUInt32).toInt32) &&& (3 : Int32)) := ⟨_, rfl⟩
      rw [← hz1902]
      have bn1903 : 0 ≤ z1902.toInt ∧ z1902.toInt < 4 := by rw [hz1902]; exact own_m3 _
      refine g_iloadN X0 hx hby at_61 rfl (pc' := 62) rfl ?_
      refine g_iconst (v := 1) X0 hx hby at_62 rfl (pc' := 63) rfl ?_
      refine g_iand X0 hx hby at_63 (pc' := 64) rfl ?_
      refine g_iload X0 hx hby at_64 rfl (pc' := 66) rfl ?_
      refine g_irem X0 hx hby at_66 (by decide) (pc' := 67) rfl ?_
      refine g_istore (L' := #[.val (.int y0), .val (.int y1), .val (.int y2), .val (.int y3), .val (.int y4), .val (.int (1 : Int32)), .val (.int (2 : Int32)), .val (.int (2 : Int32)), .val (.int z1898), .val (.int z1900), .val (.int z1902), .val (.int ((y1 &&& (1 : Int32)) % (2 : Int32))), .unset, .unset, .unset, .unset, .unset, .unset, .unset, .unset, .unset, .unset, .unset]) X0 hx hby at_67 rfl (pc' := 69) rfl ?_
      obtain ⟨z1904, hz1904⟩ : ∃ z, z = ((y1 &&& (1 : Int32)) % (2 : Int32)) := ⟨_, rfl⟩
      rw [← hz1904]
      have bn1905 : 0 ≤ z1904.toInt ∧ z1904.toInt < 2 := by rw [hz1904]; exact own_tr2 _
      refine g_iloadN X0 hx hby at_69 rfl (pc' := 70) rfl ?_
      refine g_iconst (v := 1) X0 hx hby at_70 rfl (pc' := 71) rfl ?_
      refine g_iushr X0 hx hby at_71 (pc' := 72) rfl ?_
      refine g_bipush (v := 63) X0 hx hby at_72 rfl (pc' := 74) rfl ?_
      refine g_iand X0 hx hby at_74 (pc' := 75) rfl ?_
      refine g_istore (L' := #[.val (.int y0), .val (.int y1), .val (.int y2), .val (.int y3), .val (.int y4), .val (.int (1 : Int32)), .val (.int (2 : Int32)), .val (.int (2 : Int32)), .val (.int z1898), .val (.int z1900), .val (.int z1902), .val (.int z1904), .val (.int (((y1.toUInt32 >>> ((1 : Int32) &&& 31).toUInt32).toInt32) &&& (63 : Int32))), .unset, .unset, .unset, .unset, .unset, .unset, .unset, .unset, .unset, .unset]) X0 hx hby at_75 rfl (pc' := 77) rfl ?_
      obtain ⟨z1906, hz1906⟩ : ∃ z, z = (((y1.toUInt32 >>> ((1 : Int32) &&& 31).toUInt32).toInt32) &&& (63 : Int32)) := ⟨_, rfl⟩
      rw [← hz1906]
      have bn1907 : 0 ≤ z1906.toInt ∧ z1906.toInt < 64 := by rw [hz1906]; exact own_m63 _
      refine g_iloadN X0 hx hby at_77 rfl (pc' := 78) rfl ?_
      refine g_bipush (v := 7) X0 hx hby at_78 rfl (pc' := 80) rfl ?_
      refine g_iushr X0 hx hby at_80 (pc' := 81) rfl ?_
      refine g_iconst (v := 3) X0 hx hby at_81 rfl (pc' := 82) rfl ?_
      refine g_iand X0 hx hby at_82 (pc' := 83) rfl ?_
      refine g_istore (L' := #[.val (.int y0), .val (.int y1), .val (.int y2), .val (.int y3), .val (.int y4), .val (.int (1 : Int32)), .val (.int (2 : Int32)), .val (.int (2 : Int32)), .val (.int z1898), .val (.int z1900), .val (.int z1902), .val (.int z1904), .val (.int z1906), .val (.int (((y1.toUInt32 >>> ((7 : Int32) &&& 31).toUInt32).toInt32) &&& (3 : Int32))), .unset, .unset, .unset, .unset, .unset, .unset, .unset, .unset, .unset]) X0 hx hby at_83 rfl (pc' := 85) rfl ?_
      obtain ⟨z1908, hz1908⟩ : ∃ z, z = (((y1.toUInt32 >>> ((7 : Int32) &&& 31).toUInt32).toInt32) &&& (3 : Int32)) := ⟨_, rfl⟩
      rw [← hz1908]
      have bn1909 : 0 ≤ z1908.toInt ∧ z1908.toInt < 4 := by rw [hz1908]; exact own_m3 _
      refine g_new X0 hx hby hZ hown (hw _ (List.mem_of_getElem? (i := 0) rfl)) (hw _ (List.mem_of_getElem? (i := 1) rfl)) (hw _ (List.mem_of_getElem? (i := 2) rfl)) at_85 (by decide) (by decide) (pc' := 88) rfl (fun T1910 h1910 b1910 g1910 X1910 E1910 A1910 D1910 => ?_)
      have nn1911 : n0 ≤ b1910 := by rw [g1910]; exact Z0
      have hh1912 : h0.size ≤ b1910 := by rw [g1910]; exact (Keep.refl h0 []).1
      have zz1913 := Nat.le_trans Z0 E1910.1
      have kk1914 : Keep h0 h1910 [] := (Keep.refl h0 []).ext E1910
      have q1915 : Fld Z h1910 b1910 "com/example/basisbook/basisbook/HourlyPrices$Sums" "hours" "Lcom/example/basisbook/basisbook/LongIndex;" .null := D1910 (Or.inr (hw _ (List.mem_of_getElem? (i := 25) rfl))) (ty := (.object "com/example/basisbook/basisbook/LongIndex")) (by decide)
      have q1916 : Fld Z h1910 b1910 "com/example/basisbook/basisbook/HourlyPrices$Sums" "capacity" "I" (.int (0 : Int32)) := D1910 (Or.inl (hw _ (List.mem_of_getElem? (i := 27) rfl))) (ty := .int) (by decide)
      have q1917 : Fld Z h1910 b1910 "com/example/basisbook/basisbook/HourlyPrices$Sums" "lastHour" "J" (.long (0 : Int64)) := D1910 (Or.inl (hw _ (List.mem_of_getElem? (i := 30) rfl))) (ty := .long) (by decide)
      have q1918 : Fld Z h1910 b1910 "com/example/basisbook/basisbook/HourlyPrices$Sums" "tracks" "[I" .null := D1910 (Or.inr (hw _ (List.mem_of_getElem? (i := 32) rfl))) (ty := (.array .int)) (by decide)
      have q1919 : Fld Z h1910 b1910 "com/example/basisbook/basisbook/HourlyPrices$Sums" "prices" "[Lcom/example/basisbook/basisbook/Decimals;" .null := D1910 (Or.inr (hw _ (List.mem_of_getElem? (i := 36) rfl))) (ty := (.array (.object "com/example/basisbook/basisbook/Decimals"))) (by decide)
      have q1920 : Fld Z h1910 b1910 "com/example/basisbook/basisbook/HourlyPrices$Sums" "lines" "[[I" .null := D1910 (Or.inr (hw _ (List.mem_of_getElem? (i := 49) rfl))) (ty := (.array (.array .int))) (by decide)
      have q1921 : Fld Z h1910 b1910 "com/example/basisbook/basisbook/HourlyPrices$Sums" "given" "[[B" .null := D1910 (Or.inr (hw _ (List.mem_of_getElem? (i := 54) rfl))) (ty := (.array (.array .byte))) (by decide)
      have q1922 : Fld Z h1910 b1910 "com/example/basisbook/basisbook/HourlyPrices$Sums" "digits" "[J" .null := D1910 (Or.inr (hw _ (List.mem_of_getElem? (i := 56) rfl))) (ty := (.array .long)) (by decide)
      have q1923 : Fld Z h1910 b1910 "com/example/basisbook/basisbook/HourlyPrices$Sums" "decimals" "[I" .null := D1910 (Or.inr (hw _ (List.mem_of_getElem? (i := 58) rfl))) (ty := (.array .int)) (by decide)
      have q1924 : Fld Z h1910 b1910 "com/example/basisbook/basisbook/HourlyPrices$Sums" "beyondLong" "[Ljava/math/BigDecimal;" .null := D1910 (Or.inr (hw _ (List.mem_of_getElem? (i := 62) rfl))) (ty := (.array (.object "java/math/BigDecimal"))) (by decide)
      have q1925 : Fld Z h1910 b1910 "com/example/basisbook/basisbook/HourlyPrices$Sums" "quarterHourly" "Z" (.int (0 : Int32)) := D1910 (Or.inl (hw _ (List.mem_of_getElem? (i := 69) rfl))) (ty := .boolean) (by decide)
      refine g_dup X1910 hx hby at_88 rfl (pc' := 89) rfl ?_
      refine g_iload X1910 hx hby at_89 rfl (pc' := 91) rfl ?_
      refine g_iload X1910 hx hby at_91 rfl (pc' := 93) rfl ?_
      refine g_callC (argsL := [(.int (2 : Int32)), (.int (1 : Int32))]) (S := [(.ref b1910)]) (a := b1910) X1910 hx hby hZ (y := (⟨"com/example/basisbook/basisbook/HourlyPrices$Sums", "<init>", "(IZ)V"⟩ : MethodName)) rfl hown (hw _ (List.mem_of_getElem? (i := 3) rfl)) (hw _ (List.mem_of_getElem? (i := 4) rfl)) (hw _ (List.mem_of_getElem? (i := 2) rfl)) (hw _ (List.mem_of_getElem? (i := 5) rfl)) (by decide) (own_su21 l Z a0 hw b1910 h1910 n0 zz1913 A1910 q1925 nn1911) (by rw [hml]; rfl) (lenOf own_pd1 rfl) rfl at_93 (by decide) (W := 1) (by exact Nat.le_of_eq rfl) (by decide) (by decide) (by decide) (pc' := 96) rfl (fun T1926 v1926 X1926 hQ1926 => ?_)
      obtain ⟨rfl, ka1926, sm1926⟩ := hQ1926
      have q1927 := A1910.keep ka1926
      have zz1928 := Nat.le_trans zz1913 ka1926.1
      have kk1929 : Keep h0 T1926.heap [] := kk1914.trans ka1926 (allS (Or.inr hh1912) all0)
      show Gl p e below n0 _ _ (T1926.setTop (mkF m 96 #[.val (.int y0), .val (.int y1), .val (.int y2), .val (.int y3), .val (.int y4), .val (.int (1 : Int32)), .val (.int (2 : Int32)), .val (.int (2 : Int32)), .val (.int z1898), .val (.int z1900), .val (.int z1902), .val (.int z1904), .val (.int z1906), .val (.int z1908), .unset, .unset, .unset, .unset, .unset, .unset, .unset, .unset, .unset] [(.ref b1910)]))
      refine g_astore (L' := #[.val (.int y0), .val (.int y1), .val (.int y2), .val (.int y3), .val (.int y4), .val (.int (1 : Int32)), .val (.int (2 : Int32)), .val (.int (2 : Int32)), .val (.int z1898), .val (.int z1900), .val (.int z1902), .val (.int z1904), .val (.int z1906), .val (.int z1908), .val (.ref b1910), .unset, .unset, .unset, .unset, .unset, .unset, .unset, .unset]) X1926 hx hby at_96 rfl rfl (pc' := 98) rfl ?_
      refine g_aload X1926 hx hby at_98 rfl rfl (pc' := 100) rfl ?_
      refine g_iload X1926 hx hby at_100 rfl (pc' := 102) rfl ?_
      refine g_iload X1926 hx hby at_102 rfl (pc' := 104) rfl ?_
      refine g_iload X1926 hx hby at_104 rfl (pc' := 106) rfl ?_
      refine g_iloadN X1926 hx hby at_106 rfl (pc' := 107) rfl ?_
      have ex1931 : Exa Z T1926.heap b1910 "com/example/basisbook/basisbook/HourlyPrices$Sums" := by obtain ⟨_, _, _, _, _, _, _, E, -⟩ := sm1926; exact E
      refine g_callV (argsL := [(.int z1898), (.int z1900), (.int z1902), (.int y2)]) (S := []) (a := b1910) X1926 hx hby hZ (y := (⟨"com/example/basisbook/basisbook/HourlyPrices$Sums", "give", "(IIII)I"⟩ : MethodName)) (y' := (⟨"com/example/basisbook/basisbook/HourlyPrices$Sums", "give", "(IIII)I"⟩ : MethodName)) hown (hw _ (List.mem_of_getElem? (i := 63) rfl)) (hw _ (List.mem_of_getElem? (i := 64) rfl)) (notFace_of_selects (args := #[]) (mvT hZ (hw _ (List.mem_of_getElem? (i := 66) rfl)))) (hw _ (List.mem_of_getElem? (i := 66) rfl)) (hw _ (List.mem_of_getElem? (i := 65) rfl)) (hw _ (List.mem_of_getElem? (i := 2) rfl)) (hw _ (List.mem_of_getElem? (i := 67) rfl)) (by decide) ex1931 (own_gv l Z a0 hw b1910 z1898 z1900 z1902 y2 T1926.heap n0 2 z1898.toInt.toNat z1900.toInt.toNat z1902.toInt.toNat (fun _ _ => 0) sm1926 (by omega) (by omega) (by omega) (by omega) (by omega) (by omega)) (by rw [hml]; rfl) (lenOf own_pd2 rfl) rfl at_107 (by decide) (W := 0) (by exact Nat.le_of_eq rfl) (by decide) (by decide) (by decide) (pc' := 110) rfl (fun T1930 v1930 X1930 hQ1930 => ?_)
      obtain ⟨rfl, sm1930⟩ := hQ1930
      show Gl p e below n0 _ _ (T1930.setTop (mkF m 110 #[.val (.int y0), .val (.int y1), .val (.int y2), .val (.int y3), .val (.int y4), .val (.int (1 : Int32)), .val (.int (2 : Int32)), .val (.int (2 : Int32)), .val (.int z1898), .val (.int z1900), .val (.int z1902), .val (.int z1904), .val (.int z1906), .val (.int z1908), .val (.ref b1910), .unset, .unset, .unset, .unset, .unset, .unset, .unset, .unset] [(.int ((fun _ _ => 0) z1898.toInt.toNat (z1900.toInt.toNat * 4 + z1902.toInt.toNat)))]))
      refine g_istore (L' := #[.val (.int y0), .val (.int y1), .val (.int y2), .val (.int y3), .val (.int y4), .val (.int (1 : Int32)), .val (.int (2 : Int32)), .val (.int (2 : Int32)), .val (.int z1898), .val (.int z1900), .val (.int z1902), .val (.int z1904), .val (.int z1906), .val (.int z1908), .val (.ref b1910), .val (.int ((fun _ _ => 0) z1898.toInt.toNat (z1900.toInt.toNat * 4 + z1902.toInt.toNat))), .unset, .unset, .unset, .unset, .unset, .unset, .unset]) X1930 hx hby at_110 rfl (pc' := 112) rfl ?_
      refine g_aload X1930 hx hby at_112 rfl rfl (pc' := 114) rfl ?_
      refine g_iload X1930 hx hby at_114 rfl (pc' := 116) rfl ?_
      refine g_iload X1930 hx hby at_116 rfl (pc' := 118) rfl ?_
      refine g_iload X1930 hx hby at_118 rfl (pc' := 120) rfl ?_
      refine g_iloadN X1930 hx hby at_120 rfl (pc' := 121) rfl ?_
      have ex1933 : Exa Z T1930.heap b1910 "com/example/basisbook/basisbook/HourlyPrices$Sums" := by obtain ⟨_, _, _, _, _, _, _, E, -⟩ := sm1930; exact E
      refine g_callV (argsL := [(.int z1904), (.int z1906), (.int z1908), (.int y3)]) (S := []) (a := b1910) X1930 hx hby hZ (y := (⟨"com/example/basisbook/basisbook/HourlyPrices$Sums", "give", "(IIII)I"⟩ : MethodName)) (y' := (⟨"com/example/basisbook/basisbook/HourlyPrices$Sums", "give", "(IIII)I"⟩ : MethodName)) hown (hw _ (List.mem_of_getElem? (i := 63) rfl)) (hw _ (List.mem_of_getElem? (i := 64) rfl)) (notFace_of_selects (args := #[]) (mvT hZ (hw _ (List.mem_of_getElem? (i := 66) rfl)))) (hw _ (List.mem_of_getElem? (i := 66) rfl)) (hw _ (List.mem_of_getElem? (i := 65) rfl)) (hw _ (List.mem_of_getElem? (i := 2) rfl)) (hw _ (List.mem_of_getElem? (i := 67) rfl)) (by decide) ex1933 (own_gv l Z a0 hw b1910 z1904 z1906 z1908 y3 T1930.heap n0 2 z1904.toInt.toNat z1906.toInt.toNat z1908.toInt.toNat (own_give (fun _ _ => 0) z1898.toInt.toNat (z1900.toInt.toNat * 4 + z1902.toInt.toNat) y2) sm1930 (by omega) (by omega) (by omega) (by omega) (by omega) (by omega)) (by rw [hml]; rfl) (lenOf own_pd2 rfl) rfl at_121 (by decide) (W := 0) (by exact Nat.le_of_eq rfl) (by decide) (by decide) (by decide) (pc' := 124) rfl (fun T1932 v1932 X1932 hQ1932 => ?_)
      obtain ⟨rfl, sm1932⟩ := hQ1932
      show Gl p e below n0 _ _ (T1932.setTop (mkF m 124 #[.val (.int y0), .val (.int y1), .val (.int y2), .val (.int y3), .val (.int y4), .val (.int (1 : Int32)), .val (.int (2 : Int32)), .val (.int (2 : Int32)), .val (.int z1898), .val (.int z1900), .val (.int z1902), .val (.int z1904), .val (.int z1906), .val (.int z1908), .val (.ref b1910), .val (.int ((fun _ _ => 0) z1898.toInt.toNat (z1900.toInt.toNat * 4 + z1902.toInt.toNat))), .unset, .unset, .unset, .unset, .unset, .unset, .unset] [(.int ((own_give (fun _ _ => 0) z1898.toInt.toNat (z1900.toInt.toNat * 4 + z1902.toInt.toNat) y2) z1904.toInt.toNat (z1906.toInt.toNat * 4 + z1908.toInt.toNat)))]))
      refine g_istore (L' := #[.val (.int y0), .val (.int y1), .val (.int y2), .val (.int y3), .val (.int y4), .val (.int (1 : Int32)), .val (.int (2 : Int32)), .val (.int (2 : Int32)), .val (.int z1898), .val (.int z1900), .val (.int z1902), .val (.int z1904), .val (.int z1906), .val (.int z1908), .val (.ref b1910), .val (.int ((fun _ _ => 0) z1898.toInt.toNat (z1900.toInt.toNat * 4 + z1902.toInt.toNat))), .val (.int ((own_give (fun _ _ => 0) z1898.toInt.toNat (z1900.toInt.toNat * 4 + z1902.toInt.toNat) y2) z1904.toInt.toNat (z1906.toInt.toNat * 4 + z1908.toInt.toNat))), .unset, .unset, .unset, .unset, .unset, .unset]) X1932 hx hby at_124 rfl (pc' := 126) rfl ?_
      refine g_aload X1932 hx hby at_126 rfl rfl (pc' := 128) rfl ?_
      refine g_iload X1932 hx hby at_128 rfl (pc' := 130) rfl ?_
      refine g_iload X1932 hx hby at_130 rfl (pc' := 132) rfl ?_
      refine g_iload X1932 hx hby at_132 rfl (pc' := 134) rfl ?_
      refine g_iload X1932 hx hby at_134 rfl (pc' := 136) rfl ?_
      have ex1935 : Exa Z T1932.heap b1910 "com/example/basisbook/basisbook/HourlyPrices$Sums" := by obtain ⟨_, _, _, _, _, _, _, E, -⟩ := sm1932; exact E
      refine g_callV (argsL := [(.int z1898), (.int z1900), (.int z1902), (.int y4)]) (S := []) (a := b1910) X1932 hx hby hZ (y := (⟨"com/example/basisbook/basisbook/HourlyPrices$Sums", "give", "(IIII)I"⟩ : MethodName)) (y' := (⟨"com/example/basisbook/basisbook/HourlyPrices$Sums", "give", "(IIII)I"⟩ : MethodName)) hown (hw _ (List.mem_of_getElem? (i := 63) rfl)) (hw _ (List.mem_of_getElem? (i := 64) rfl)) (notFace_of_selects (args := #[]) (mvT hZ (hw _ (List.mem_of_getElem? (i := 66) rfl)))) (hw _ (List.mem_of_getElem? (i := 66) rfl)) (hw _ (List.mem_of_getElem? (i := 65) rfl)) (hw _ (List.mem_of_getElem? (i := 2) rfl)) (hw _ (List.mem_of_getElem? (i := 67) rfl)) (by decide) ex1935 (own_gv l Z a0 hw b1910 z1898 z1900 z1902 y4 T1932.heap n0 2 z1898.toInt.toNat z1900.toInt.toNat z1902.toInt.toNat (own_give (own_give (fun _ _ => 0) z1898.toInt.toNat (z1900.toInt.toNat * 4 + z1902.toInt.toNat) y2) z1904.toInt.toNat (z1906.toInt.toNat * 4 + z1908.toInt.toNat) y3) sm1932 (by omega) (by omega) (by omega) (by omega) (by omega) (by omega)) (by rw [hml]; rfl) (lenOf own_pd2 rfl) rfl at_136 (by decide) (W := 0) (by exact Nat.le_of_eq rfl) (by decide) (by decide) (by decide) (pc' := 139) rfl (fun T1934 v1934 X1934 hQ1934 => ?_)
      obtain ⟨rfl, sm1934⟩ := hQ1934
      show Gl p e below n0 _ _ (T1934.setTop (mkF m 139 #[.val (.int y0), .val (.int y1), .val (.int y2), .val (.int y3), .val (.int y4), .val (.int (1 : Int32)), .val (.int (2 : Int32)), .val (.int (2 : Int32)), .val (.int z1898), .val (.int z1900), .val (.int z1902), .val (.int z1904), .val (.int z1906), .val (.int z1908), .val (.ref b1910), .val (.int ((fun _ _ => 0) z1898.toInt.toNat (z1900.toInt.toNat * 4 + z1902.toInt.toNat))), .val (.int ((own_give (fun _ _ => 0) z1898.toInt.toNat (z1900.toInt.toNat * 4 + z1902.toInt.toNat) y2) z1904.toInt.toNat (z1906.toInt.toNat * 4 + z1908.toInt.toNat))), .unset, .unset, .unset, .unset, .unset, .unset] [(.int ((own_give (own_give (fun _ _ => 0) z1898.toInt.toNat (z1900.toInt.toNat * 4 + z1902.toInt.toNat) y2) z1904.toInt.toNat (z1906.toInt.toNat * 4 + z1908.toInt.toNat) y3) z1898.toInt.toNat (z1900.toInt.toNat * 4 + z1902.toInt.toNat)))]))
      refine g_istore (L' := #[.val (.int y0), .val (.int y1), .val (.int y2), .val (.int y3), .val (.int y4), .val (.int (1 : Int32)), .val (.int (2 : Int32)), .val (.int (2 : Int32)), .val (.int z1898), .val (.int z1900), .val (.int z1902), .val (.int z1904), .val (.int z1906), .val (.int z1908), .val (.ref b1910), .val (.int ((fun _ _ => 0) z1898.toInt.toNat (z1900.toInt.toNat * 4 + z1902.toInt.toNat))), .val (.int ((own_give (fun _ _ => 0) z1898.toInt.toNat (z1900.toInt.toNat * 4 + z1902.toInt.toNat) y2) z1904.toInt.toNat (z1906.toInt.toNat * 4 + z1908.toInt.toNat))), .val (.int ((own_give (own_give (fun _ _ => 0) z1898.toInt.toNat (z1900.toInt.toNat * 4 + z1902.toInt.toNat) y2) z1904.toInt.toNat (z1906.toInt.toNat * 4 + z1908.toInt.toNat) y3) z1898.toInt.toNat (z1900.toInt.toNat * 4 + z1902.toInt.toNat))), .unset, .unset, .unset, .unset, .unset]) X1934 hx hby at_139 rfl (pc' := 141) rfl ?_
      refine g_aload X1934 hx hby at_141 rfl rfl (pc' := 143) rfl ?_
      refine g_iload X1934 hx hby at_143 rfl (pc' := 145) rfl ?_
      refine g_iload X1934 hx hby at_145 rfl (pc' := 147) rfl ?_
      refine g_iload X1934 hx hby at_147 rfl (pc' := 149) rfl ?_
      refine g_iloadN X1934 hx hby at_149 rfl (pc' := 150) rfl ?_
      have ex1937 : Exa Z T1934.heap b1910 "com/example/basisbook/basisbook/HourlyPrices$Sums" := by obtain ⟨_, _, _, _, _, _, _, E, -⟩ := sm1934; exact E
      refine g_callV (argsL := [(.int z1904), (.int z1906), (.int z1908), (.int y2)]) (S := []) (a := b1910) X1934 hx hby hZ (y := (⟨"com/example/basisbook/basisbook/HourlyPrices$Sums", "give", "(IIII)I"⟩ : MethodName)) (y' := (⟨"com/example/basisbook/basisbook/HourlyPrices$Sums", "give", "(IIII)I"⟩ : MethodName)) hown (hw _ (List.mem_of_getElem? (i := 63) rfl)) (hw _ (List.mem_of_getElem? (i := 64) rfl)) (notFace_of_selects (args := #[]) (mvT hZ (hw _ (List.mem_of_getElem? (i := 66) rfl)))) (hw _ (List.mem_of_getElem? (i := 66) rfl)) (hw _ (List.mem_of_getElem? (i := 65) rfl)) (hw _ (List.mem_of_getElem? (i := 2) rfl)) (hw _ (List.mem_of_getElem? (i := 67) rfl)) (by decide) ex1937 (own_gv l Z a0 hw b1910 z1904 z1906 z1908 y2 T1934.heap n0 2 z1904.toInt.toNat z1906.toInt.toNat z1908.toInt.toNat (own_give (own_give (own_give (fun _ _ => 0) z1898.toInt.toNat (z1900.toInt.toNat * 4 + z1902.toInt.toNat) y2) z1904.toInt.toNat (z1906.toInt.toNat * 4 + z1908.toInt.toNat) y3) z1898.toInt.toNat (z1900.toInt.toNat * 4 + z1902.toInt.toNat) y4) sm1934 (by omega) (by omega) (by omega) (by omega) (by omega) (by omega)) (by rw [hml]; rfl) (lenOf own_pd2 rfl) rfl at_150 (by decide) (W := 0) (by exact Nat.le_of_eq rfl) (by decide) (by decide) (by decide) (pc' := 153) rfl (fun T1936 v1936 X1936 hQ1936 => ?_)
      obtain ⟨rfl, sm1936⟩ := hQ1936
      show Gl p e below n0 _ _ (T1936.setTop (mkF m 153 #[.val (.int y0), .val (.int y1), .val (.int y2), .val (.int y3), .val (.int y4), .val (.int (1 : Int32)), .val (.int (2 : Int32)), .val (.int (2 : Int32)), .val (.int z1898), .val (.int z1900), .val (.int z1902), .val (.int z1904), .val (.int z1906), .val (.int z1908), .val (.ref b1910), .val (.int ((fun _ _ => 0) z1898.toInt.toNat (z1900.toInt.toNat * 4 + z1902.toInt.toNat))), .val (.int ((own_give (fun _ _ => 0) z1898.toInt.toNat (z1900.toInt.toNat * 4 + z1902.toInt.toNat) y2) z1904.toInt.toNat (z1906.toInt.toNat * 4 + z1908.toInt.toNat))), .val (.int ((own_give (own_give (fun _ _ => 0) z1898.toInt.toNat (z1900.toInt.toNat * 4 + z1902.toInt.toNat) y2) z1904.toInt.toNat (z1906.toInt.toNat * 4 + z1908.toInt.toNat) y3) z1898.toInt.toNat (z1900.toInt.toNat * 4 + z1902.toInt.toNat))), .unset, .unset, .unset, .unset, .unset] [(.int ((own_give (own_give (own_give (fun _ _ => 0) z1898.toInt.toNat (z1900.toInt.toNat * 4 + z1902.toInt.toNat) y2) z1904.toInt.toNat (z1906.toInt.toNat * 4 + z1908.toInt.toNat) y3) z1898.toInt.toNat (z1900.toInt.toNat * 4 + z1902.toInt.toNat) y4) z1904.toInt.toNat (z1906.toInt.toNat * 4 + z1908.toInt.toNat)))]))
      refine g_istore (L' := #[.val (.int y0), .val (.int y1), .val (.int y2), .val (.int y3), .val (.int y4), .val (.int (1 : Int32)), .val (.int (2 : Int32)), .val (.int (2 : Int32)), .val (.int z1898), .val (.int z1900), .val (.int z1902), .val (.int z1904), .val (.int z1906), .val (.int z1908), .val (.ref b1910), .val (.int ((fun _ _ => 0) z1898.toInt.toNat (z1900.toInt.toNat * 4 + z1902.toInt.toNat))), .val (.int ((own_give (fun _ _ => 0) z1898.toInt.toNat (z1900.toInt.toNat * 4 + z1902.toInt.toNat) y2) z1904.toInt.toNat (z1906.toInt.toNat * 4 + z1908.toInt.toNat))), .val (.int ((own_give (own_give (fun _ _ => 0) z1898.toInt.toNat (z1900.toInt.toNat * 4 + z1902.toInt.toNat) y2) z1904.toInt.toNat (z1906.toInt.toNat * 4 + z1908.toInt.toNat) y3) z1898.toInt.toNat (z1900.toInt.toNat * 4 + z1902.toInt.toNat))), .val (.int ((own_give (own_give (own_give (fun _ _ => 0) z1898.toInt.toNat (z1900.toInt.toNat * 4 + z1902.toInt.toNat) y2) z1904.toInt.toNat (z1906.toInt.toNat * 4 + z1908.toInt.toNat) y3) z1898.toInt.toNat (z1900.toInt.toNat * 4 + z1902.toInt.toNat) y4) z1904.toInt.toNat (z1906.toInt.toNat * 4 + z1908.toInt.toNat))), .unset, .unset, .unset, .unset]) X1936 hx hby at_153 rfl (pc' := 155) rfl ?_
      change Gl p e below n0 _ _ (T1936.setTop (mkF m 155 #[.val (.int y0), .val (.int y1), .val (.int y2), .val (.int y3), .val (.int y4), .val (.int (1 : Int32)), .val (.int (2 : Int32)), .val (.int (2 : Int32)), .val (.int z1898), .val (.int z1900), .val (.int z1902), .val (.int z1904), .val (.int z1906), .val (.int z1908), .val (.ref b1910), .val (.int (0 : Int32)), .val (.int (own_r2 z1898.toInt.toNat (z1900.toInt.toNat * 4 + z1902.toInt.toNat) z1904.toInt.toNat (z1906.toInt.toNat * 4 + z1908.toInt.toNat) y2)), .val (.int (own_r3 z1898.toInt.toNat (z1900.toInt.toNat * 4 + z1902.toInt.toNat) z1904.toInt.toNat (z1906.toInt.toNat * 4 + z1908.toInt.toNat) y2 y3)), .val (.int (own_r4 z1898.toInt.toNat (z1900.toInt.toNat * 4 + z1902.toInt.toNat) z1904.toInt.toNat (z1906.toInt.toNat * 4 + z1908.toInt.toNat) y2 y3 y4)), .unset, .unset, .unset, .unset] []))
      refine g_iload X1936 hx hby at_155 rfl (pc' := 157) rfl ?_
      refine g_iload X1936 hx hby at_157 rfl (pc' := 159) rfl ?_
      refine g_icmp_ne X1936 hx hby at_159 (by decide) (pc' := 180) (by decide) (pc2 := 162) rfl (fun c159_1938 => ?_) (fun c159_1938 => ?_)
      · refine g_iconst (v := 0) X1936 hx hby at_180 rfl (pc' := 181) rfl ?_
        refine g_istore (L' := #[.val (.int y0), .val (.int y1), .val (.int y2), .val (.int y3), .val (.int y4), .val (.int (1 : Int32)), .val (.int (2 : Int32)), .val (.int (2 : Int32)), .val (.int z1898), .val (.int z1900), .val (.int z1902), .val (.int z1904), .val (.int z1906), .val (.int z1908), .val (.ref b1910), .val (.int (0 : Int32)), .val (.int (own_r2 z1898.toInt.toNat (z1900.toInt.toNat * 4 + z1902.toInt.toNat) z1904.toInt.toNat (z1906.toInt.toNat * 4 + z1908.toInt.toNat) y2)), .val (.int (own_r3 z1898.toInt.toNat (z1900.toInt.toNat * 4 + z1902.toInt.toNat) z1904.toInt.toNat (z1906.toInt.toNat * 4 + z1908.toInt.toNat) y2 y3)), .val (.int (own_r4 z1898.toInt.toNat (z1900.toInt.toNat * 4 + z1902.toInt.toNat) z1904.toInt.toNat (z1906.toInt.toNat * 4 + z1908.toInt.toNat) y2 y3 y4)), .val (.int (0 : Int32)), .unset, .unset, .unset]) X1936 hx hby at_181 rfl (pc' := 183) rfl ?_
        refine g_iload X1936 hx hby at_183 rfl (pc' := 185) rfl ?_
        refine g_if_eq X1936 hx hby at_185 (by decide) (pc' := 192) (by decide) (pc2 := 188) rfl (fun c185_1939 => ?_) (fun q => absurd (by decide) q)
        refine g_iconst (v := 0) X1936 hx hby at_192 rfl (pc' := 193) rfl ?_
        refine g_istore (L' := #[.val (.int y0), .val (.int y1), .val (.int y2), .val (.int y3), .val (.int y4), .val (.int (1 : Int32)), .val (.int (2 : Int32)), .val (.int (2 : Int32)), .val (.int z1898), .val (.int z1900), .val (.int z1902), .val (.int z1904), .val (.int z1906), .val (.int z1908), .val (.ref b1910), .val (.int (0 : Int32)), .val (.int (own_r2 z1898.toInt.toNat (z1900.toInt.toNat * 4 + z1902.toInt.toNat) z1904.toInt.toNat (z1906.toInt.toNat * 4 + z1908.toInt.toNat) y2)), .val (.int (own_r3 z1898.toInt.toNat (z1900.toInt.toNat * 4 + z1902.toInt.toNat) z1904.toInt.toNat (z1906.toInt.toNat * 4 + z1908.toInt.toNat) y2 y3)), .val (.int (own_r4 z1898.toInt.toNat (z1900.toInt.toNat * 4 + z1902.toInt.toNat) z1904.toInt.toNat (z1906.toInt.toNat * 4 + z1908.toInt.toNat) y2 y3 y4)), .val (.int (0 : Int32)), .val (.int (0 : Int32)), .unset, .unset]) X1936 hx hby at_193 rfl (pc' := 195) rfl ?_
        refine g_iload X1936 hx hby at_195 rfl (pc' := 197) rfl ?_
        refine g_if_eq X1936 hx hby at_197 (by decide) (pc' := 212) (by decide) (pc2 := 200) rfl (fun c197_1940 => ?_) (fun q => absurd (by decide) q)
        refine g_iloadN X1936 hx hby at_212 rfl (pc' := 213) rfl ?_
        refine g_istore (L' := #[.val (.int y0), .val (.int y1), .val (.int y2), .val (.int y3), .val (.int y4), .val (.int (1 : Int32)), .val (.int (2 : Int32)), .val (.int (2 : Int32)), .val (.int z1898), .val (.int z1900), .val (.int z1902), .val (.int z1904), .val (.int z1906), .val (.int z1908), .val (.ref b1910), .val (.int (0 : Int32)), .val (.int (own_r2 z1898.toInt.toNat (z1900.toInt.toNat * 4 + z1902.toInt.toNat) z1904.toInt.toNat (z1906.toInt.toNat * 4 + z1908.toInt.toNat) y2)), .val (.int (own_r3 z1898.toInt.toNat (z1900.toInt.toNat * 4 + z1902.toInt.toNat) z1904.toInt.toNat (z1906.toInt.toNat * 4 + z1908.toInt.toNat) y2 y3)), .val (.int (own_r4 z1898.toInt.toNat (z1900.toInt.toNat * 4 + z1902.toInt.toNat) z1904.toInt.toNat (z1906.toInt.toNat * 4 + z1908.toInt.toNat) y2 y3 y4)), .val (.int (0 : Int32)), .val (.int (0 : Int32)), .val (.int y2), .unset]) X1936 hx hby at_213 rfl (pc' := 215) rfl ?_
        refine g_iload X1936 hx hby at_215 rfl (pc' := 217) rfl ?_
        refine g_if_eq X1936 hx hby at_217 (by decide) (pc' := 241) (by decide) (pc2 := 220) rfl (fun c217_1941 => ?_) (fun q => absurd (by decide) q)
        refine g_iloadN X1936 hx hby at_241 rfl (pc' := 242) rfl ?_
        refine g_istore (L' := #[.val (.int y0), .val (.int y1), .val (.int y2), .val (.int y3), .val (.int y4), .val (.int (1 : Int32)), .val (.int (2 : Int32)), .val (.int (2 : Int32)), .val (.int z1898), .val (.int z1900), .val (.int z1902), .val (.int z1904), .val (.int z1906), .val (.int z1908), .val (.ref b1910), .val (.int (0 : Int32)), .val (.int (own_r2 z1898.toInt.toNat (z1900.toInt.toNat * 4 + z1902.toInt.toNat) z1904.toInt.toNat (z1906.toInt.toNat * 4 + z1908.toInt.toNat) y2)), .val (.int (own_r3 z1898.toInt.toNat (z1900.toInt.toNat * 4 + z1902.toInt.toNat) z1904.toInt.toNat (z1906.toInt.toNat * 4 + z1908.toInt.toNat) y2 y3)), .val (.int (own_r4 z1898.toInt.toNat (z1900.toInt.toNat * 4 + z1902.toInt.toNat) z1904.toInt.toNat (z1906.toInt.toNat * 4 + z1908.toInt.toNat) y2 y3 y4)), .val (.int (0 : Int32)), .val (.int (0 : Int32)), .val (.int y2), .val (.int y3)]) X1936 hx hby at_242 rfl (pc' := 244) rfl ?_
        refine g_iload X1936 hx hby at_244 rfl (pc' := 246) rfl ?_
        refine g_if_ne X1936 hx hby at_246 (by decide) (pc' := 274) (by decide) (pc2 := 249) rfl (fun q => absurd (by decide) q) (fun c246_1942 => ?_)
        refine g_iload X1936 hx hby at_249 rfl (pc' := 251) rfl ?_
        refine g_iload X1936 hx hby at_251 rfl (pc' := 253) rfl ?_
        refine g_icmp_ne X1936 hx hby at_253 (by decide) (pc' := 274) (by decide) (pc2 := 256) rfl (fun q => absurd (show (own_r2 z1898.toInt.toNat (z1900.toInt.toNat * 4 + z1902.toInt.toNat) z1904.toInt.toNat (z1906.toInt.toNat * 4 + z1908.toInt.toNat) y2) = (0 : Int32) by rw [(own_diff y2 y3 y4 (by have hh0 := (own_n32 c159_1938); omega)).1]) q) (fun c253_1943 => ?_)
        refine g_iload X1936 hx hby at_256 rfl (pc' := 258) rfl ?_
        refine g_iload X1936 hx hby at_258 rfl (pc' := 260) rfl ?_
        refine g_icmp_ne X1936 hx hby at_260 (by decide) (pc' := 274) (by decide) (pc2 := 263) rfl (fun q => absurd (show (own_r3 z1898.toInt.toNat (z1900.toInt.toNat * 4 + z1902.toInt.toNat) z1904.toInt.toNat (z1906.toInt.toNat * 4 + z1908.toInt.toNat) y2 y3) = y2 by rw [(own_diff y2 y3 y4 (by have hh0 := (own_n32 c159_1938); omega)).2.1]) q) (fun c260_1944 => ?_)
        refine g_iload X1936 hx hby at_263 rfl (pc' := 265) rfl ?_
        refine g_iload X1936 hx hby at_265 rfl (pc' := 267) rfl ?_
        refine g_icmp_ne X1936 hx hby at_267 (by decide) (pc' := 274) (by decide) (pc2 := 270) rfl (fun q => absurd (show (own_r4 z1898.toInt.toNat (z1900.toInt.toNat * 4 + z1902.toInt.toNat) z1904.toInt.toNat (z1906.toInt.toNat * 4 + z1908.toInt.toNat) y2 y3 y4) = y3 by rw [(own_diff y2 y3 y4 (by have hh0 := (own_n32 c159_1938); omega)).2.2]) q) (fun c267_1945 => ?_)
        refine g_iconst (v := 1) X1936 hx hby at_270 rfl (pc' := 271) rfl ?_
        refine g_goto X1936 hx hby at_271 (by decide) (pc' := 275) (by decide) ?_
        exact g_retN X1936 hx hby hret hlk (by simp) at_275 rfl (by decide) (by decide)
      · refine g_iload X1936 hx hby at_162 rfl (pc' := 164) rfl ?_
        refine g_iload X1936 hx hby at_164 rfl (pc' := 166) rfl ?_
        refine g_icmp_ne X1936 hx hby at_166 (by decide) (pc' := 180) (by decide) (pc2 := 169) rfl (fun c166_1946 => ?_) (fun c166_1946 => ?_)
        · refine g_iconst (v := 0) X1936 hx hby at_180 rfl (pc' := 181) rfl ?_
          refine g_istore (L' := #[.val (.int y0), .val (.int y1), .val (.int y2), .val (.int y3), .val (.int y4), .val (.int (1 : Int32)), .val (.int (2 : Int32)), .val (.int (2 : Int32)), .val (.int z1898), .val (.int z1900), .val (.int z1902), .val (.int z1904), .val (.int z1906), .val (.int z1908), .val (.ref b1910), .val (.int (0 : Int32)), .val (.int (own_r2 z1898.toInt.toNat (z1900.toInt.toNat * 4 + z1902.toInt.toNat) z1904.toInt.toNat (z1906.toInt.toNat * 4 + z1908.toInt.toNat) y2)), .val (.int (own_r3 z1898.toInt.toNat (z1900.toInt.toNat * 4 + z1902.toInt.toNat) z1904.toInt.toNat (z1906.toInt.toNat * 4 + z1908.toInt.toNat) y2 y3)), .val (.int (own_r4 z1898.toInt.toNat (z1900.toInt.toNat * 4 + z1902.toInt.toNat) z1904.toInt.toNat (z1906.toInt.toNat * 4 + z1908.toInt.toNat) y2 y3 y4)), .val (.int (0 : Int32)), .unset, .unset, .unset]) X1936 hx hby at_181 rfl (pc' := 183) rfl ?_
          refine g_iload X1936 hx hby at_183 rfl (pc' := 185) rfl ?_
          refine g_if_eq X1936 hx hby at_185 (by decide) (pc' := 192) (by decide) (pc2 := 188) rfl (fun c185_1947 => ?_) (fun q => absurd (by decide) q)
          refine g_iconst (v := 0) X1936 hx hby at_192 rfl (pc' := 193) rfl ?_
          refine g_istore (L' := #[.val (.int y0), .val (.int y1), .val (.int y2), .val (.int y3), .val (.int y4), .val (.int (1 : Int32)), .val (.int (2 : Int32)), .val (.int (2 : Int32)), .val (.int z1898), .val (.int z1900), .val (.int z1902), .val (.int z1904), .val (.int z1906), .val (.int z1908), .val (.ref b1910), .val (.int (0 : Int32)), .val (.int (own_r2 z1898.toInt.toNat (z1900.toInt.toNat * 4 + z1902.toInt.toNat) z1904.toInt.toNat (z1906.toInt.toNat * 4 + z1908.toInt.toNat) y2)), .val (.int (own_r3 z1898.toInt.toNat (z1900.toInt.toNat * 4 + z1902.toInt.toNat) z1904.toInt.toNat (z1906.toInt.toNat * 4 + z1908.toInt.toNat) y2 y3)), .val (.int (own_r4 z1898.toInt.toNat (z1900.toInt.toNat * 4 + z1902.toInt.toNat) z1904.toInt.toNat (z1906.toInt.toNat * 4 + z1908.toInt.toNat) y2 y3 y4)), .val (.int (0 : Int32)), .val (.int (0 : Int32)), .unset, .unset]) X1936 hx hby at_193 rfl (pc' := 195) rfl ?_
          refine g_iload X1936 hx hby at_195 rfl (pc' := 197) rfl ?_
          refine g_if_eq X1936 hx hby at_197 (by decide) (pc' := 212) (by decide) (pc2 := 200) rfl (fun c197_1948 => ?_) (fun q => absurd (by decide) q)
          refine g_iloadN X1936 hx hby at_212 rfl (pc' := 213) rfl ?_
          refine g_istore (L' := #[.val (.int y0), .val (.int y1), .val (.int y2), .val (.int y3), .val (.int y4), .val (.int (1 : Int32)), .val (.int (2 : Int32)), .val (.int (2 : Int32)), .val (.int z1898), .val (.int z1900), .val (.int z1902), .val (.int z1904), .val (.int z1906), .val (.int z1908), .val (.ref b1910), .val (.int (0 : Int32)), .val (.int (own_r2 z1898.toInt.toNat (z1900.toInt.toNat * 4 + z1902.toInt.toNat) z1904.toInt.toNat (z1906.toInt.toNat * 4 + z1908.toInt.toNat) y2)), .val (.int (own_r3 z1898.toInt.toNat (z1900.toInt.toNat * 4 + z1902.toInt.toNat) z1904.toInt.toNat (z1906.toInt.toNat * 4 + z1908.toInt.toNat) y2 y3)), .val (.int (own_r4 z1898.toInt.toNat (z1900.toInt.toNat * 4 + z1902.toInt.toNat) z1904.toInt.toNat (z1906.toInt.toNat * 4 + z1908.toInt.toNat) y2 y3 y4)), .val (.int (0 : Int32)), .val (.int (0 : Int32)), .val (.int y2), .unset]) X1936 hx hby at_213 rfl (pc' := 215) rfl ?_
          refine g_iload X1936 hx hby at_215 rfl (pc' := 217) rfl ?_
          refine g_if_eq X1936 hx hby at_217 (by decide) (pc' := 241) (by decide) (pc2 := 220) rfl (fun c217_1949 => ?_) (fun q => absurd (by decide) q)
          refine g_iloadN X1936 hx hby at_241 rfl (pc' := 242) rfl ?_
          refine g_istore (L' := #[.val (.int y0), .val (.int y1), .val (.int y2), .val (.int y3), .val (.int y4), .val (.int (1 : Int32)), .val (.int (2 : Int32)), .val (.int (2 : Int32)), .val (.int z1898), .val (.int z1900), .val (.int z1902), .val (.int z1904), .val (.int z1906), .val (.int z1908), .val (.ref b1910), .val (.int (0 : Int32)), .val (.int (own_r2 z1898.toInt.toNat (z1900.toInt.toNat * 4 + z1902.toInt.toNat) z1904.toInt.toNat (z1906.toInt.toNat * 4 + z1908.toInt.toNat) y2)), .val (.int (own_r3 z1898.toInt.toNat (z1900.toInt.toNat * 4 + z1902.toInt.toNat) z1904.toInt.toNat (z1906.toInt.toNat * 4 + z1908.toInt.toNat) y2 y3)), .val (.int (own_r4 z1898.toInt.toNat (z1900.toInt.toNat * 4 + z1902.toInt.toNat) z1904.toInt.toNat (z1906.toInt.toNat * 4 + z1908.toInt.toNat) y2 y3 y4)), .val (.int (0 : Int32)), .val (.int (0 : Int32)), .val (.int y2), .val (.int y3)]) X1936 hx hby at_242 rfl (pc' := 244) rfl ?_
          refine g_iload X1936 hx hby at_244 rfl (pc' := 246) rfl ?_
          refine g_if_ne X1936 hx hby at_246 (by decide) (pc' := 274) (by decide) (pc2 := 249) rfl (fun q => absurd (by decide) q) (fun c246_1950 => ?_)
          refine g_iload X1936 hx hby at_249 rfl (pc' := 251) rfl ?_
          refine g_iload X1936 hx hby at_251 rfl (pc' := 253) rfl ?_
          refine g_icmp_ne X1936 hx hby at_253 (by decide) (pc' := 274) (by decide) (pc2 := 256) rfl (fun q => absurd (show (own_r2 z1898.toInt.toNat (z1900.toInt.toNat * 4 + z1902.toInt.toNat) z1904.toInt.toNat (z1906.toInt.toNat * 4 + z1908.toInt.toNat) y2) = (0 : Int32) by rw [(own_diff y2 y3 y4 (by have hh0 := (own_i32 c159_1938); have hh1 := (own_n32 c166_1946); omega)).1]) q) (fun c253_1951 => ?_)
          refine g_iload X1936 hx hby at_256 rfl (pc' := 258) rfl ?_
          refine g_iload X1936 hx hby at_258 rfl (pc' := 260) rfl ?_
          refine g_icmp_ne X1936 hx hby at_260 (by decide) (pc' := 274) (by decide) (pc2 := 263) rfl (fun q => absurd (show (own_r3 z1898.toInt.toNat (z1900.toInt.toNat * 4 + z1902.toInt.toNat) z1904.toInt.toNat (z1906.toInt.toNat * 4 + z1908.toInt.toNat) y2 y3) = y2 by rw [(own_diff y2 y3 y4 (by have hh0 := (own_i32 c159_1938); have hh1 := (own_n32 c166_1946); omega)).2.1]) q) (fun c260_1952 => ?_)
          refine g_iload X1936 hx hby at_263 rfl (pc' := 265) rfl ?_
          refine g_iload X1936 hx hby at_265 rfl (pc' := 267) rfl ?_
          refine g_icmp_ne X1936 hx hby at_267 (by decide) (pc' := 274) (by decide) (pc2 := 270) rfl (fun q => absurd (show (own_r4 z1898.toInt.toNat (z1900.toInt.toNat * 4 + z1902.toInt.toNat) z1904.toInt.toNat (z1906.toInt.toNat * 4 + z1908.toInt.toNat) y2 y3 y4) = y3 by rw [(own_diff y2 y3 y4 (by have hh0 := (own_i32 c159_1938); have hh1 := (own_n32 c166_1946); omega)).2.2]) q) (fun c267_1953 => ?_)
          refine g_iconst (v := 1) X1936 hx hby at_270 rfl (pc' := 271) rfl ?_
          refine g_goto X1936 hx hby at_271 (by decide) (pc' := 275) (by decide) ?_
          exact g_retN X1936 hx hby hret hlk (by simp) at_275 rfl (by decide) (by decide)
        · refine g_iload X1936 hx hby at_169 rfl (pc' := 171) rfl ?_
          refine g_iload X1936 hx hby at_171 rfl (pc' := 173) rfl ?_
          refine g_icmp_ne X1936 hx hby at_173 (by decide) (pc' := 180) (by decide) (pc2 := 176) rfl (fun c173_1954 => ?_) (fun c173_1954 => ?_)
          · refine g_iconst (v := 0) X1936 hx hby at_180 rfl (pc' := 181) rfl ?_
            refine g_istore (L' := #[.val (.int y0), .val (.int y1), .val (.int y2), .val (.int y3), .val (.int y4), .val (.int (1 : Int32)), .val (.int (2 : Int32)), .val (.int (2 : Int32)), .val (.int z1898), .val (.int z1900), .val (.int z1902), .val (.int z1904), .val (.int z1906), .val (.int z1908), .val (.ref b1910), .val (.int (0 : Int32)), .val (.int (own_r2 z1898.toInt.toNat (z1900.toInt.toNat * 4 + z1902.toInt.toNat) z1904.toInt.toNat (z1906.toInt.toNat * 4 + z1908.toInt.toNat) y2)), .val (.int (own_r3 z1898.toInt.toNat (z1900.toInt.toNat * 4 + z1902.toInt.toNat) z1904.toInt.toNat (z1906.toInt.toNat * 4 + z1908.toInt.toNat) y2 y3)), .val (.int (own_r4 z1898.toInt.toNat (z1900.toInt.toNat * 4 + z1902.toInt.toNat) z1904.toInt.toNat (z1906.toInt.toNat * 4 + z1908.toInt.toNat) y2 y3 y4)), .val (.int (0 : Int32)), .unset, .unset, .unset]) X1936 hx hby at_181 rfl (pc' := 183) rfl ?_
            refine g_iload X1936 hx hby at_183 rfl (pc' := 185) rfl ?_
            refine g_if_eq X1936 hx hby at_185 (by decide) (pc' := 192) (by decide) (pc2 := 188) rfl (fun c185_1955 => ?_) (fun q => absurd (by decide) q)
            refine g_iconst (v := 0) X1936 hx hby at_192 rfl (pc' := 193) rfl ?_
            refine g_istore (L' := #[.val (.int y0), .val (.int y1), .val (.int y2), .val (.int y3), .val (.int y4), .val (.int (1 : Int32)), .val (.int (2 : Int32)), .val (.int (2 : Int32)), .val (.int z1898), .val (.int z1900), .val (.int z1902), .val (.int z1904), .val (.int z1906), .val (.int z1908), .val (.ref b1910), .val (.int (0 : Int32)), .val (.int (own_r2 z1898.toInt.toNat (z1900.toInt.toNat * 4 + z1902.toInt.toNat) z1904.toInt.toNat (z1906.toInt.toNat * 4 + z1908.toInt.toNat) y2)), .val (.int (own_r3 z1898.toInt.toNat (z1900.toInt.toNat * 4 + z1902.toInt.toNat) z1904.toInt.toNat (z1906.toInt.toNat * 4 + z1908.toInt.toNat) y2 y3)), .val (.int (own_r4 z1898.toInt.toNat (z1900.toInt.toNat * 4 + z1902.toInt.toNat) z1904.toInt.toNat (z1906.toInt.toNat * 4 + z1908.toInt.toNat) y2 y3 y4)), .val (.int (0 : Int32)), .val (.int (0 : Int32)), .unset, .unset]) X1936 hx hby at_193 rfl (pc' := 195) rfl ?_
            refine g_iload X1936 hx hby at_195 rfl (pc' := 197) rfl ?_
            refine g_if_eq X1936 hx hby at_197 (by decide) (pc' := 212) (by decide) (pc2 := 200) rfl (fun c197_1956 => ?_) (fun q => absurd (by decide) q)
            refine g_iloadN X1936 hx hby at_212 rfl (pc' := 213) rfl ?_
            refine g_istore (L' := #[.val (.int y0), .val (.int y1), .val (.int y2), .val (.int y3), .val (.int y4), .val (.int (1 : Int32)), .val (.int (2 : Int32)), .val (.int (2 : Int32)), .val (.int z1898), .val (.int z1900), .val (.int z1902), .val (.int z1904), .val (.int z1906), .val (.int z1908), .val (.ref b1910), .val (.int (0 : Int32)), .val (.int (own_r2 z1898.toInt.toNat (z1900.toInt.toNat * 4 + z1902.toInt.toNat) z1904.toInt.toNat (z1906.toInt.toNat * 4 + z1908.toInt.toNat) y2)), .val (.int (own_r3 z1898.toInt.toNat (z1900.toInt.toNat * 4 + z1902.toInt.toNat) z1904.toInt.toNat (z1906.toInt.toNat * 4 + z1908.toInt.toNat) y2 y3)), .val (.int (own_r4 z1898.toInt.toNat (z1900.toInt.toNat * 4 + z1902.toInt.toNat) z1904.toInt.toNat (z1906.toInt.toNat * 4 + z1908.toInt.toNat) y2 y3 y4)), .val (.int (0 : Int32)), .val (.int (0 : Int32)), .val (.int y2), .unset]) X1936 hx hby at_213 rfl (pc' := 215) rfl ?_
            refine g_iload X1936 hx hby at_215 rfl (pc' := 217) rfl ?_
            refine g_if_eq X1936 hx hby at_217 (by decide) (pc' := 241) (by decide) (pc2 := 220) rfl (fun c217_1957 => ?_) (fun q => absurd (by decide) q)
            refine g_iloadN X1936 hx hby at_241 rfl (pc' := 242) rfl ?_
            refine g_istore (L' := #[.val (.int y0), .val (.int y1), .val (.int y2), .val (.int y3), .val (.int y4), .val (.int (1 : Int32)), .val (.int (2 : Int32)), .val (.int (2 : Int32)), .val (.int z1898), .val (.int z1900), .val (.int z1902), .val (.int z1904), .val (.int z1906), .val (.int z1908), .val (.ref b1910), .val (.int (0 : Int32)), .val (.int (own_r2 z1898.toInt.toNat (z1900.toInt.toNat * 4 + z1902.toInt.toNat) z1904.toInt.toNat (z1906.toInt.toNat * 4 + z1908.toInt.toNat) y2)), .val (.int (own_r3 z1898.toInt.toNat (z1900.toInt.toNat * 4 + z1902.toInt.toNat) z1904.toInt.toNat (z1906.toInt.toNat * 4 + z1908.toInt.toNat) y2 y3)), .val (.int (own_r4 z1898.toInt.toNat (z1900.toInt.toNat * 4 + z1902.toInt.toNat) z1904.toInt.toNat (z1906.toInt.toNat * 4 + z1908.toInt.toNat) y2 y3 y4)), .val (.int (0 : Int32)), .val (.int (0 : Int32)), .val (.int y2), .val (.int y3)]) X1936 hx hby at_242 rfl (pc' := 244) rfl ?_
            refine g_iload X1936 hx hby at_244 rfl (pc' := 246) rfl ?_
            refine g_if_ne X1936 hx hby at_246 (by decide) (pc' := 274) (by decide) (pc2 := 249) rfl (fun q => absurd (by decide) q) (fun c246_1958 => ?_)
            refine g_iload X1936 hx hby at_249 rfl (pc' := 251) rfl ?_
            refine g_iload X1936 hx hby at_251 rfl (pc' := 253) rfl ?_
            refine g_icmp_ne X1936 hx hby at_253 (by decide) (pc' := 274) (by decide) (pc2 := 256) rfl (fun q => absurd (show (own_r2 z1898.toInt.toNat (z1900.toInt.toNat * 4 + z1902.toInt.toNat) z1904.toInt.toNat (z1906.toInt.toNat * 4 + z1908.toInt.toNat) y2) = (0 : Int32) by rw [(own_diff y2 y3 y4 (by have hh0 := (own_i32 c159_1938); have hh1 := (own_i32 c166_1946); have hh2 := (own_n32 c173_1954); omega)).1]) q) (fun c253_1959 => ?_)
            refine g_iload X1936 hx hby at_256 rfl (pc' := 258) rfl ?_
            refine g_iload X1936 hx hby at_258 rfl (pc' := 260) rfl ?_
            refine g_icmp_ne X1936 hx hby at_260 (by decide) (pc' := 274) (by decide) (pc2 := 263) rfl (fun q => absurd (show (own_r3 z1898.toInt.toNat (z1900.toInt.toNat * 4 + z1902.toInt.toNat) z1904.toInt.toNat (z1906.toInt.toNat * 4 + z1908.toInt.toNat) y2 y3) = y2 by rw [(own_diff y2 y3 y4 (by have hh0 := (own_i32 c159_1938); have hh1 := (own_i32 c166_1946); have hh2 := (own_n32 c173_1954); omega)).2.1]) q) (fun c260_1960 => ?_)
            refine g_iload X1936 hx hby at_263 rfl (pc' := 265) rfl ?_
            refine g_iload X1936 hx hby at_265 rfl (pc' := 267) rfl ?_
            refine g_icmp_ne X1936 hx hby at_267 (by decide) (pc' := 274) (by decide) (pc2 := 270) rfl (fun q => absurd (show (own_r4 z1898.toInt.toNat (z1900.toInt.toNat * 4 + z1902.toInt.toNat) z1904.toInt.toNat (z1906.toInt.toNat * 4 + z1908.toInt.toNat) y2 y3 y4) = y3 by rw [(own_diff y2 y3 y4 (by have hh0 := (own_i32 c159_1938); have hh1 := (own_i32 c166_1946); have hh2 := (own_n32 c173_1954); omega)).2.2]) q) (fun c267_1961 => ?_)
            refine g_iconst (v := 1) X1936 hx hby at_270 rfl (pc' := 271) rfl ?_
            refine g_goto X1936 hx hby at_271 (by decide) (pc' := 275) (by decide) ?_
            exact g_retN X1936 hx hby hret hlk (by simp) at_275 rfl (by decide) (by decide)
          · refine g_iconst (v := 1) X1936 hx hby at_176 rfl (pc' := 177) rfl ?_
            refine g_goto X1936 hx hby at_177 (by decide) (pc' := 181) (by decide) ?_
            refine g_istore (L' := #[.val (.int y0), .val (.int y1), .val (.int y2), .val (.int y3), .val (.int y4), .val (.int (1 : Int32)), .val (.int (2 : Int32)), .val (.int (2 : Int32)), .val (.int z1898), .val (.int z1900), .val (.int z1902), .val (.int z1904), .val (.int z1906), .val (.int z1908), .val (.ref b1910), .val (.int (0 : Int32)), .val (.int (own_r2 z1898.toInt.toNat (z1900.toInt.toNat * 4 + z1902.toInt.toNat) z1904.toInt.toNat (z1906.toInt.toNat * 4 + z1908.toInt.toNat) y2)), .val (.int (own_r3 z1898.toInt.toNat (z1900.toInt.toNat * 4 + z1902.toInt.toNat) z1904.toInt.toNat (z1906.toInt.toNat * 4 + z1908.toInt.toNat) y2 y3)), .val (.int (own_r4 z1898.toInt.toNat (z1900.toInt.toNat * 4 + z1902.toInt.toNat) z1904.toInt.toNat (z1906.toInt.toNat * 4 + z1908.toInt.toNat) y2 y3 y4)), .val (.int (1 : Int32)), .unset, .unset, .unset]) X1936 hx hby at_181 rfl (pc' := 183) rfl ?_
            refine g_iload X1936 hx hby at_183 rfl (pc' := 185) rfl ?_
            refine g_if_eq X1936 hx hby at_185 (by decide) (pc' := 192) (by decide) (pc2 := 188) rfl (fun q => absurd q (by decide)) (fun c185_1962 => ?_)
            refine g_iloadN X1936 hx hby at_188 rfl (pc' := 189) rfl ?_
            refine g_goto X1936 hx hby at_189 (by decide) (pc' := 193) (by decide) ?_
            refine g_istore (L' := #[.val (.int y0), .val (.int y1), .val (.int y2), .val (.int y3), .val (.int y4), .val (.int (1 : Int32)), .val (.int (2 : Int32)), .val (.int (2 : Int32)), .val (.int z1898), .val (.int z1900), .val (.int z1902), .val (.int z1904), .val (.int z1906), .val (.int z1908), .val (.ref b1910), .val (.int (0 : Int32)), .val (.int (own_r2 z1898.toInt.toNat (z1900.toInt.toNat * 4 + z1902.toInt.toNat) z1904.toInt.toNat (z1906.toInt.toNat * 4 + z1908.toInt.toNat) y2)), .val (.int (own_r3 z1898.toInt.toNat (z1900.toInt.toNat * 4 + z1902.toInt.toNat) z1904.toInt.toNat (z1906.toInt.toNat * 4 + z1908.toInt.toNat) y2 y3)), .val (.int (own_r4 z1898.toInt.toNat (z1900.toInt.toNat * 4 + z1902.toInt.toNat) z1904.toInt.toNat (z1906.toInt.toNat * 4 + z1908.toInt.toNat) y2 y3 y4)), .val (.int (1 : Int32)), .val (.int y2), .unset, .unset]) X1936 hx hby at_193 rfl (pc' := 195) rfl ?_
            refine g_iload X1936 hx hby at_195 rfl (pc' := 197) rfl ?_
            refine g_if_eq X1936 hx hby at_197 (by decide) (pc' := 212) (by decide) (pc2 := 200) rfl (fun q => absurd q (by decide)) (fun c197_1963 => ?_)
            refine g_iloadN X1936 hx hby at_200 rfl (pc' := 201) rfl ?_
            refine g_if_eq X1936 hx hby at_201 (by decide) (pc' := 208) (by decide) (pc2 := 204) rfl (fun c201_1964 => ?_) (fun c201_1964 => ?_)
            · refine g_iloadN X1936 hx hby at_208 rfl (pc' := 209) rfl ?_
              refine g_goto X1936 hx hby at_209 (by decide) (pc' := 213) (by decide) ?_
              refine g_istore (L' := #[.val (.int y0), .val (.int y1), .val (.int y2), .val (.int y3), .val (.int y4), .val (.int (1 : Int32)), .val (.int (2 : Int32)), .val (.int (2 : Int32)), .val (.int z1898), .val (.int z1900), .val (.int z1902), .val (.int z1904), .val (.int z1906), .val (.int z1908), .val (.ref b1910), .val (.int (0 : Int32)), .val (.int (own_r2 z1898.toInt.toNat (z1900.toInt.toNat * 4 + z1902.toInt.toNat) z1904.toInt.toNat (z1906.toInt.toNat * 4 + z1908.toInt.toNat) y2)), .val (.int (own_r3 z1898.toInt.toNat (z1900.toInt.toNat * 4 + z1902.toInt.toNat) z1904.toInt.toNat (z1906.toInt.toNat * 4 + z1908.toInt.toNat) y2 y3)), .val (.int (own_r4 z1898.toInt.toNat (z1900.toInt.toNat * 4 + z1902.toInt.toNat) z1904.toInt.toNat (z1906.toInt.toNat * 4 + z1908.toInt.toNat) y2 y3 y4)), .val (.int (1 : Int32)), .val (.int y2), .val (.int y3), .unset]) X1936 hx hby at_213 rfl (pc' := 215) rfl ?_
              refine g_iload X1936 hx hby at_215 rfl (pc' := 217) rfl ?_
              refine g_if_eq X1936 hx hby at_217 (by decide) (pc' := 241) (by decide) (pc2 := 220) rfl (fun q => absurd q (by decide)) (fun c217_1965 => ?_)
              refine g_iloadN X1936 hx hby at_220 rfl (pc' := 221) rfl ?_
              refine g_if_eq X1936 hx hby at_221 (by decide) (pc' := 228) (by decide) (pc2 := 224) rfl (fun c221_1966 => ?_) (fun q => absurd c201_1964 q)
              refine g_iloadN X1936 hx hby at_228 rfl (pc' := 229) rfl ?_
              refine g_if_eq X1936 hx hby at_229 (by decide) (pc' := 236) (by decide) (pc2 := 232) rfl (fun c229_1967 => ?_) (fun c229_1967 => ?_)
              · refine g_iload X1936 hx hby at_236 rfl (pc' := 238) rfl ?_
                refine g_goto X1936 hx hby at_238 (by decide) (pc' := 242) (by decide) ?_
                refine g_istore (L' := #[.val (.int y0), .val (.int y1), .val (.int y2), .val (.int y3), .val (.int y4), .val (.int (1 : Int32)), .val (.int (2 : Int32)), .val (.int (2 : Int32)), .val (.int z1898), .val (.int z1900), .val (.int z1902), .val (.int z1904), .val (.int z1906), .val (.int z1908), .val (.ref b1910), .val (.int (0 : Int32)), .val (.int (own_r2 z1898.toInt.toNat (z1900.toInt.toNat * 4 + z1902.toInt.toNat) z1904.toInt.toNat (z1906.toInt.toNat * 4 + z1908.toInt.toNat) y2)), .val (.int (own_r3 z1898.toInt.toNat (z1900.toInt.toNat * 4 + z1902.toInt.toNat) z1904.toInt.toNat (z1906.toInt.toNat * 4 + z1908.toInt.toNat) y2 y3)), .val (.int (own_r4 z1898.toInt.toNat (z1900.toInt.toNat * 4 + z1902.toInt.toNat) z1904.toInt.toNat (z1906.toInt.toNat * 4 + z1908.toInt.toNat) y2 y3 y4)), .val (.int (1 : Int32)), .val (.int y2), .val (.int y3), .val (.int y4)]) X1936 hx hby at_242 rfl (pc' := 244) rfl ?_
                refine g_iload X1936 hx hby at_244 rfl (pc' := 246) rfl ?_
                refine g_if_ne X1936 hx hby at_246 (by decide) (pc' := 274) (by decide) (pc2 := 249) rfl (fun q => absurd (by decide) q) (fun c246_1968 => ?_)
                refine g_iload X1936 hx hby at_249 rfl (pc' := 251) rfl ?_
                refine g_iload X1936 hx hby at_251 rfl (pc' := 253) rfl ?_
                refine g_icmp_ne X1936 hx hby at_253 (by decide) (pc' := 274) (by decide) (pc2 := 256) rfl (fun q => absurd (show (own_r2 z1898.toInt.toNat (z1900.toInt.toNat * 4 + z1902.toInt.toNat) z1904.toInt.toNat (z1906.toInt.toNat * 4 + z1908.toInt.toNat) y2) = y2 by rw [(own_same y2 y3 y4 (by rw [c159_1938]) (by rw [c166_1946, c173_1954])).1] <;> simp [c201_1964, c221_1966, c229_1967]) q) (fun c253_1969 => ?_)
                refine g_iload X1936 hx hby at_256 rfl (pc' := 258) rfl ?_
                refine g_iload X1936 hx hby at_258 rfl (pc' := 260) rfl ?_
                refine g_icmp_ne X1936 hx hby at_260 (by decide) (pc' := 274) (by decide) (pc2 := 263) rfl (fun q => absurd (show (own_r3 z1898.toInt.toNat (z1900.toInt.toNat * 4 + z1902.toInt.toNat) z1904.toInt.toNat (z1906.toInt.toNat * 4 + z1908.toInt.toNat) y2 y3) = y3 by rw [(own_same y2 y3 y4 (by rw [c159_1938]) (by rw [c166_1946, c173_1954])).2.1] <;> simp [c201_1964, c221_1966, c229_1967]) q) (fun c260_1970 => ?_)
                refine g_iload X1936 hx hby at_263 rfl (pc' := 265) rfl ?_
                refine g_iload X1936 hx hby at_265 rfl (pc' := 267) rfl ?_
                refine g_icmp_ne X1936 hx hby at_267 (by decide) (pc' := 274) (by decide) (pc2 := 270) rfl (fun q => absurd (show (own_r4 z1898.toInt.toNat (z1900.toInt.toNat * 4 + z1902.toInt.toNat) z1904.toInt.toNat (z1906.toInt.toNat * 4 + z1908.toInt.toNat) y2 y3 y4) = y4 by rw [(own_same y2 y3 y4 (by rw [c159_1938]) (by rw [c166_1946, c173_1954])).2.2] <;> simp [c201_1964, c221_1966, c229_1967]) q) (fun c267_1971 => ?_)
                refine g_iconst (v := 1) X1936 hx hby at_270 rfl (pc' := 271) rfl ?_
                refine g_goto X1936 hx hby at_271 (by decide) (pc' := 275) (by decide) ?_
                exact g_retN X1936 hx hby hret hlk (by simp) at_275 rfl (by decide) (by decide)
              · refine g_iloadN X1936 hx hby at_232 rfl (pc' := 233) rfl ?_
                refine g_goto X1936 hx hby at_233 (by decide) (pc' := 242) (by decide) ?_
                refine g_istore (L' := #[.val (.int y0), .val (.int y1), .val (.int y2), .val (.int y3), .val (.int y4), .val (.int (1 : Int32)), .val (.int (2 : Int32)), .val (.int (2 : Int32)), .val (.int z1898), .val (.int z1900), .val (.int z1902), .val (.int z1904), .val (.int z1906), .val (.int z1908), .val (.ref b1910), .val (.int (0 : Int32)), .val (.int (own_r2 z1898.toInt.toNat (z1900.toInt.toNat * 4 + z1902.toInt.toNat) z1904.toInt.toNat (z1906.toInt.toNat * 4 + z1908.toInt.toNat) y2)), .val (.int (own_r3 z1898.toInt.toNat (z1900.toInt.toNat * 4 + z1902.toInt.toNat) z1904.toInt.toNat (z1906.toInt.toNat * 4 + z1908.toInt.toNat) y2 y3)), .val (.int (own_r4 z1898.toInt.toNat (z1900.toInt.toNat * 4 + z1902.toInt.toNat) z1904.toInt.toNat (z1906.toInt.toNat * 4 + z1908.toInt.toNat) y2 y3 y4)), .val (.int (1 : Int32)), .val (.int y2), .val (.int y3), .val (.int y3)]) X1936 hx hby at_242 rfl (pc' := 244) rfl ?_
                refine g_iload X1936 hx hby at_244 rfl (pc' := 246) rfl ?_
                refine g_if_ne X1936 hx hby at_246 (by decide) (pc' := 274) (by decide) (pc2 := 249) rfl (fun q => absurd (by decide) q) (fun c246_1972 => ?_)
                refine g_iload X1936 hx hby at_249 rfl (pc' := 251) rfl ?_
                refine g_iload X1936 hx hby at_251 rfl (pc' := 253) rfl ?_
                refine g_icmp_ne X1936 hx hby at_253 (by decide) (pc' := 274) (by decide) (pc2 := 256) rfl (fun q => absurd (show (own_r2 z1898.toInt.toNat (z1900.toInt.toNat * 4 + z1902.toInt.toNat) z1904.toInt.toNat (z1906.toInt.toNat * 4 + z1908.toInt.toNat) y2) = y2 by rw [(own_same y2 y3 y4 (by rw [c159_1938]) (by rw [c166_1946, c173_1954])).1] <;> simp [c201_1964, c221_1966, c229_1967]) q) (fun c253_1973 => ?_)
                refine g_iload X1936 hx hby at_256 rfl (pc' := 258) rfl ?_
                refine g_iload X1936 hx hby at_258 rfl (pc' := 260) rfl ?_
                refine g_icmp_ne X1936 hx hby at_260 (by decide) (pc' := 274) (by decide) (pc2 := 263) rfl (fun q => absurd (show (own_r3 z1898.toInt.toNat (z1900.toInt.toNat * 4 + z1902.toInt.toNat) z1904.toInt.toNat (z1906.toInt.toNat * 4 + z1908.toInt.toNat) y2 y3) = y3 by rw [(own_same y2 y3 y4 (by rw [c159_1938]) (by rw [c166_1946, c173_1954])).2.1] <;> simp [c201_1964, c221_1966, c229_1967]) q) (fun c260_1974 => ?_)
                refine g_iload X1936 hx hby at_263 rfl (pc' := 265) rfl ?_
                refine g_iload X1936 hx hby at_265 rfl (pc' := 267) rfl ?_
                refine g_icmp_ne X1936 hx hby at_267 (by decide) (pc' := 274) (by decide) (pc2 := 270) rfl (fun q => absurd (show (own_r4 z1898.toInt.toNat (z1900.toInt.toNat * 4 + z1902.toInt.toNat) z1904.toInt.toNat (z1906.toInt.toNat * 4 + z1908.toInt.toNat) y2 y3 y4) = y3 by rw [(own_same y2 y3 y4 (by rw [c159_1938]) (by rw [c166_1946, c173_1954])).2.2] <;> simp [c201_1964, c221_1966, c229_1967]) q) (fun c267_1975 => ?_)
                refine g_iconst (v := 1) X1936 hx hby at_270 rfl (pc' := 271) rfl ?_
                refine g_goto X1936 hx hby at_271 (by decide) (pc' := 275) (by decide) ?_
                exact g_retN X1936 hx hby hret hlk (by simp) at_275 rfl (by decide) (by decide)
            · refine g_iloadN X1936 hx hby at_204 rfl (pc' := 205) rfl ?_
              refine g_goto X1936 hx hby at_205 (by decide) (pc' := 213) (by decide) ?_
              refine g_istore (L' := #[.val (.int y0), .val (.int y1), .val (.int y2), .val (.int y3), .val (.int y4), .val (.int (1 : Int32)), .val (.int (2 : Int32)), .val (.int (2 : Int32)), .val (.int z1898), .val (.int z1900), .val (.int z1902), .val (.int z1904), .val (.int z1906), .val (.int z1908), .val (.ref b1910), .val (.int (0 : Int32)), .val (.int (own_r2 z1898.toInt.toNat (z1900.toInt.toNat * 4 + z1902.toInt.toNat) z1904.toInt.toNat (z1906.toInt.toNat * 4 + z1908.toInt.toNat) y2)), .val (.int (own_r3 z1898.toInt.toNat (z1900.toInt.toNat * 4 + z1902.toInt.toNat) z1904.toInt.toNat (z1906.toInt.toNat * 4 + z1908.toInt.toNat) y2 y3)), .val (.int (own_r4 z1898.toInt.toNat (z1900.toInt.toNat * 4 + z1902.toInt.toNat) z1904.toInt.toNat (z1906.toInt.toNat * 4 + z1908.toInt.toNat) y2 y3 y4)), .val (.int (1 : Int32)), .val (.int y2), .val (.int y2), .unset]) X1936 hx hby at_213 rfl (pc' := 215) rfl ?_
              refine g_iload X1936 hx hby at_215 rfl (pc' := 217) rfl ?_
              refine g_if_eq X1936 hx hby at_217 (by decide) (pc' := 241) (by decide) (pc2 := 220) rfl (fun q => absurd q (by decide)) (fun c217_1976 => ?_)
              refine g_iloadN X1936 hx hby at_220 rfl (pc' := 221) rfl ?_
              refine g_if_eq X1936 hx hby at_221 (by decide) (pc' := 228) (by decide) (pc2 := 224) rfl (fun q => absurd q c201_1964) (fun c221_1977 => ?_)
              refine g_iloadN X1936 hx hby at_224 rfl (pc' := 225) rfl ?_
              refine g_goto X1936 hx hby at_225 (by decide) (pc' := 242) (by decide) ?_
              refine g_istore (L' := #[.val (.int y0), .val (.int y1), .val (.int y2), .val (.int y3), .val (.int y4), .val (.int (1 : Int32)), .val (.int (2 : Int32)), .val (.int (2 : Int32)), .val (.int z1898), .val (.int z1900), .val (.int z1902), .val (.int z1904), .val (.int z1906), .val (.int z1908), .val (.ref b1910), .val (.int (0 : Int32)), .val (.int (own_r2 z1898.toInt.toNat (z1900.toInt.toNat * 4 + z1902.toInt.toNat) z1904.toInt.toNat (z1906.toInt.toNat * 4 + z1908.toInt.toNat) y2)), .val (.int (own_r3 z1898.toInt.toNat (z1900.toInt.toNat * 4 + z1902.toInt.toNat) z1904.toInt.toNat (z1906.toInt.toNat * 4 + z1908.toInt.toNat) y2 y3)), .val (.int (own_r4 z1898.toInt.toNat (z1900.toInt.toNat * 4 + z1902.toInt.toNat) z1904.toInt.toNat (z1906.toInt.toNat * 4 + z1908.toInt.toNat) y2 y3 y4)), .val (.int (1 : Int32)), .val (.int y2), .val (.int y2), .val (.int y2)]) X1936 hx hby at_242 rfl (pc' := 244) rfl ?_
              refine g_iload X1936 hx hby at_244 rfl (pc' := 246) rfl ?_
              refine g_if_ne X1936 hx hby at_246 (by decide) (pc' := 274) (by decide) (pc2 := 249) rfl (fun q => absurd (by decide) q) (fun c246_1978 => ?_)
              refine g_iload X1936 hx hby at_249 rfl (pc' := 251) rfl ?_
              refine g_iload X1936 hx hby at_251 rfl (pc' := 253) rfl ?_
              refine g_icmp_ne X1936 hx hby at_253 (by decide) (pc' := 274) (by decide) (pc2 := 256) rfl (fun q => absurd (show (own_r2 z1898.toInt.toNat (z1900.toInt.toNat * 4 + z1902.toInt.toNat) z1904.toInt.toNat (z1906.toInt.toNat * 4 + z1908.toInt.toNat) y2) = y2 by rw [(own_same y2 y3 y4 (by rw [c159_1938]) (by rw [c166_1946, c173_1954])).1] <;> simp [c201_1964, c221_1977]) q) (fun c253_1979 => ?_)
              refine g_iload X1936 hx hby at_256 rfl (pc' := 258) rfl ?_
              refine g_iload X1936 hx hby at_258 rfl (pc' := 260) rfl ?_
              refine g_icmp_ne X1936 hx hby at_260 (by decide) (pc' := 274) (by decide) (pc2 := 263) rfl (fun q => absurd (show (own_r3 z1898.toInt.toNat (z1900.toInt.toNat * 4 + z1902.toInt.toNat) z1904.toInt.toNat (z1906.toInt.toNat * 4 + z1908.toInt.toNat) y2 y3) = y2 by rw [(own_same y2 y3 y4 (by rw [c159_1938]) (by rw [c166_1946, c173_1954])).2.1] <;> simp [c201_1964, c221_1977]) q) (fun c260_1980 => ?_)
              refine g_iload X1936 hx hby at_263 rfl (pc' := 265) rfl ?_
              refine g_iload X1936 hx hby at_265 rfl (pc' := 267) rfl ?_
              refine g_icmp_ne X1936 hx hby at_267 (by decide) (pc' := 274) (by decide) (pc2 := 270) rfl (fun q => absurd (show (own_r4 z1898.toInt.toNat (z1900.toInt.toNat * 4 + z1902.toInt.toNat) z1904.toInt.toNat (z1906.toInt.toNat * 4 + z1908.toInt.toNat) y2 y3 y4) = y2 by rw [(own_same y2 y3 y4 (by rw [c159_1938]) (by rw [c166_1946, c173_1954])).2.2] <;> simp [c201_1964, c221_1977]) q) (fun c267_1981 => ?_)
              refine g_iconst (v := 1) X1936 hx hby at_270 rfl (pc' := 271) rfl ?_
              refine g_goto X1936 hx hby at_271 (by decide) (pc' := 275) (by decide) ?_
              exact g_retN X1936 hx hby hret hlk (by simp) at_275 rfl (by decide) (by decide)
set_option maxRecDepth 65536 in
set_option maxHeartbeats 40000000 in
theorem comes_1 {Post : Tables → Env → Array Value → State → Outcome → State → Prop} (hpost : ∀ tb e args s v u, (limb_1_1.after args s (.returned v) u = true ∧ limb_1_2.after args s (.returned v) u = true ∧ True) → FrameEnd s (.returned v) u (Jvm.fieldLocs frame_1_writes args s ++ Jvm.arrayLocs frame_1_arrays args s ++ Jvm.staticLocs frame_1_statics s) 48 1920 → Post tb e args s (.returned v) u) :
    ArmFor flags0 classFile x code maxLocals ret World_1 tables_1 room_1 Calls_1 rest_1 Pre_1 Post := by
  intro l hfl _ _ p e ha hc hk s m args below hf hA hF happ hP
  obtain ⟨hcalls, hrest, hpre⟩ := hP
  obtain ⟨-, -, -, hnamed, -, -, -, hat⟩ := (Spec.applies_iff hf).mp happ
  obtain ⟨hg, hn⟩ := and_e (Cond.before_iff.mp (show (Jvm.Cond.and given_1 narrow_1).before args s = true from hpre))
  obtain ⟨hcount, hg0⟩ := and_e hg
  obtain ⟨w0, w1, w2, w3, w4, rfl⟩ : ∃ w0 w1 w2 w3 w4 : Value, args = #[w0, w1, w2, w3, w4] := by
    have hs : args.size = 5 := by simpa [Cond.value, given_1] using hcount
    obtain ⟨L⟩ := args
    match L, hs with
    | [w0, w1, w2, w3, w4], _ => exact ⟨w0, w1, w2, w3, w4, rfl⟩
  have hw := fun d (hd : d ∈ tables_1) => atoms_spec (ws := Jvm.Cond.code x code maxLocals ret :: tables_1) hat d (List.mem_cons_of_mem _ hd)
  have hfit : Fit s := fun {y c} hc i hi => by
    obtain ⟨ha, rfl⟩ := Array.getElem?_eq_some_iff.mp hc
    have q := List.all_eq_true.mp ((Array.all_eq_true_iff_forall_mem.mp hF) _ (Array.getElem_mem ha)) i (List.mem_range.mpr hi)
    simpa [Array.getElem?_eq_getElem hi] using q
  obtain ⟨hk0, hg1⟩ := and_e hg0
  obtain ⟨i0, e0⟩ := is_v hk0
  obtain rfl : w0 = (.int i0) := Option.some.inj e0
  obtain ⟨hk1, hg2⟩ := and_e hg1
  obtain ⟨i1, e1⟩ := is_v hk1
  obtain rfl : w1 = (.int i1) := Option.some.inj e1
  obtain ⟨hk2, hg3⟩ := and_e hg2
  obtain ⟨i2, e2⟩ := is_v hk2
  obtain rfl : w2 = (.int i2) := Option.some.inj e2
  obtain ⟨hk3, hg4⟩ := and_e hg3
  obtain ⟨i3, e3⟩ := is_v hk3
  obtain rfl : w3 = (.int i3) := Option.some.inj e3
  obtain ⟨i4, e4⟩ := is_v hg4
  obtain rfl : w4 = (.int i4) := Option.some.inj e4
  obtain ⟨n, o, h1, h2, h3, _, L, rfl, ⟨rfl, N⟩, hq⟩ := own_rm0 l s _ hw i0 i1 i2 i3 i4 s.heap s.heap.size (Nat.le_refl _) p e ha hc hk s m _ below hf ((Spec.applies_iff_loose hf).mp happ).1 ⟨rfl, State.Warmed39.refl s, rfl⟩ trivial
  exact ⟨n, _, h1, h2, h3, hpost _ _ _ _ _ _ ⟨Cond.after_iff.mpr rfl, Cond.after_iff.mpr (eq_i res_at (Term.int_eval (1)) rfl), trivial⟩ ⟨hq.1, hq.2.1, (hq.2.2.sift fun y hy => Or.inr (N y hy)).mono (by decide) (by decide)⟩⟩
theorem main_1_1 : Claimed_1_1 := comes_1 fun _ _ _ _ _ _ h hF => ⟨h.1, hF⟩
theorem main_1_2 : Claimed_1_2 := comes_1 fun _ _ _ _ _ _ h hF => ⟨h.2.1, hF⟩
end Jvm.Pilot.@@N@@
namespace Jvm.Pilot.@@N@@
open Jvm Jvm.ClassFile Sem Op Lib Jvm.Free Jvm.Stand Jvm.Pilot.@@N@@.Jvm.D
/-! MADE BY PROGRAM (witnessworld.py) out of the Statement's table words and the real class files: 20 classes; the members and pool entries that the words name. The judged class is class 1, her method 1. -/
namespace start1
open Jvm.ClassFile
def u (s : String) : CpInfo := .utf8 (stringToUtf16 s)
/-- a pool by its gaps: so many unusable entries, then the entry; so many at the end -/
def gap : Nat → List CpInfo → List CpInfo
  | 0, r => r
  | n + 1, r => .unusable :: gap n r
def poolList (es : List (Nat × CpInfo)) (last : Nat) : List CpInfo := es.foldr (fun e r => gap e.1 (e.2 :: r)) (gap last [])
def pool (es : List (Nat × CpInfo)) (last : Nat) : Array CpInfo := ⟨poolList es last⟩
def fileOf (pool : Array CpInfo) (this : Nat) (attrs : Array Attribute := #[]) (ms : Array MethodInfo := #[]) (fl : Nat := 33) (sup : Nat := 0) (ifs : Array Nat := #[]) (fds : Array FieldInfo := #[]) : ClassFile where
  minorVersion := 0
  majorVersion := 65
  constantPool := pool
  accessFlags := fl
  thisClass := this
  superClass := sup
  interfaces := ifs
  fields := fds
  methods := ms
  attributes := attrs
def plain (name : String) (sup : Option ClassId) : Class where
  name := name
  kind := .ordinary
  loader := none
  accessFlags := 33
  super := sup
  interfaces := #[]
  cf := none
  fields := #[]
  methods := #[]
  instanceTypes := #[]
  staticTypes := #[]
  resolved := #[]
  callSites := []
  init := .initialized
  statics := none
  mirror := none

def pool0 : Array CpInfo := pool [(5, u "<init>"), (0, u "()V"), (1, .class_ 10), (1, u "java/lang/Object")] 113

def k0c0 : Code := { maxStack := 0, maxLocals := 1, code := object_method_1_code, exceptionTable := #[], attributes := #[] }
def k0m0 : Method := { name := "<init>", desc := "()V", sig := { parameters := [], returnType := none }, accessFlags := 1, code := some k0c0 }
/-- java/lang/Object -/
def k0 : Class := { plain "java/lang/Object" none with
  accessFlags := 33
  interfaces := #[]
  cf := some (fileOf pool0 8 #[] #[{ accessFlags := 1, nameIndex := 5, descriptorIndex := 6, attributes := #[] }] 33 0 #[] #[])
  fields := #[]
  methods := #[k0m0]
  instanceTypes := #[]
  staticTypes := #[]
  resolved := Array.replicate 124 none
  statics := none }

def pool1 : Array CpInfo := pool [(2, .class_ 4), (1, u "java/lang/Object"), (0, u "<init>"), (0, u "()V"), (0, .class_ 8), (0, u "com/example/basisbook/basisbook/HourlyPrices$Sums"), (0, .methodref 7 10), (0, .nameAndType 5 11), (0, u "(IZ)V"), (0, .methodref 7 13), (0, .nameAndType 14 15), (0, u "give"), (0, u "(IIII)I"), (0, .class_ 17), (0, u "com/example/basisbook/basisbook/SumsGivePinLaw"), (2, u "law"), (0, u "(IIIII)Z")] 7

def k1m0 : Method := { name := "<init>", desc := "()V", sig := { parameters := [], returnType := none }, accessFlags := 1, code := none }
def k1c1 : Code := { maxStack := 5, maxLocals := 23, code := code, exceptionTable := #[], attributes := #[] }
def k1m1 : Method := { name := "law", desc := "(IIIII)Z", sig := { parameters := [.int, .int, .int, .int, .int], returnType := some .boolean }, accessFlags := 9, code := some k1c1 }
/-- com/example/basisbook/basisbook/SumsGivePinLaw -/
def k1 : Class := { plain "com/example/basisbook/basisbook/SumsGivePinLaw" (some 0) with
  accessFlags := 49
  interfaces := #[]
  cf := some (fileOf pool1 16 #[] #[{ accessFlags := 1, nameIndex := 5, descriptorIndex := 6, attributes := #[] }, { accessFlags := 9, nameIndex := 20, descriptorIndex := 21, attributes := #[] }] 49 2 #[] #[])
  fields := #[]
  methods := #[k1m0, k1m1]
  instanceTypes := #[]
  staticTypes := #[]
  resolved := Array.replicate 29 none
  statics := none }

def pool2 : Array CpInfo := pool [(1, .class_ 2), (0, u "com/example/basisbook/basisbook/HourlyPrices"), (0, .methodref 4 5), (0, .class_ 6), (0, .nameAndType 7 8), (0, u "java/lang/Object"), (0, u "<init>"), (0, u "()V"), (0, .class_ 10), (0, u "com/example/basisbook/basisbook/LongIndex"), (0, .methodref 9 5), (0, .fieldref 13 14), (0, .class_ 15), (0, .nameAndType 16 17), (0, u "com/example/basisbook/basisbook/HourlyPrices$Sums"), (0, u "hours"), (0, u "Lcom/example/basisbook/basisbook/LongIndex;"), (0, .fieldref 13 19), (0, .nameAndType 20 21), (0, u "capacity"), (0, u "I"), (2, .long 9223372036854775808), (1, .fieldref 13 27), (0, .nameAndType 28 29), (0, u "lastHour"), (0, u "J"), (0, .fieldref 13 31), (0, .nameAndType 32 33), (0, u "tracks"), (0, u "[I"), (0, .class_ 35), (0, u "com/example/basisbook/basisbook/Decimals"), (0, .fieldref 13 37), (0, .nameAndType 38 39), (0, u "prices"), (0, u "[Lcom/example/basisbook/basisbook/Decimals;"), (0, .methodref 34 5), (0, .class_ 42), (0, u "[[I"), (0, .fieldref 13 44), (0, .nameAndType 45 42), (0, u "lines"), (0, .class_ 47), (0, u "[[B"), (0, .fieldref 13 49), (0, .nameAndType 50 47), (0, u "given"), (0, .fieldref 13 52), (0, .nameAndType 53 54), (0, u "digits"), (0, u "[J"), (0, .fieldref 13 56), (0, .nameAndType 57 33), (0, u "decimals"), (0, .class_ 59), (0, u "java/math/BigDecimal"), (0, .fieldref 13 61), (0, .nameAndType 62 63), (0, u "beyondLong"), (0, u "[Ljava/math/BigDecimal;"), (25, u "lastPlace"), (9, .fieldref 13 100), (0, .nameAndType 101 102), (0, u "quarterHourly"), (0, u "Z"), (15, u "(IZ)V"), (7, u "give"), (0, u "(IIII)I")] 9

def k2c0 : Code := { maxStack := 4, maxLocals := 4, code := prog_28_method_1_code, exceptionTable := #[], attributes := #[] }
def k2m0 : Method := { name := "<init>", desc := "(IZ)V", sig := { parameters := [.int, .boolean], returnType := none }, accessFlags := 0, code := some k2c0 }
def k2c1 : Code := { maxStack := 4, maxLocals := 7, code := prog_28_method_4_code, exceptionTable := #[], attributes := #[] }
def k2m1 : Method := { name := "give", desc := "(IIII)I", sig := { parameters := [.int, .int, .int, .int], returnType := some .int }, accessFlags := 0, code := some k2c1 }
/-- com/example/basisbook/basisbook/HourlyPrices$Sums -/
def k2 : Class := { plain "com/example/basisbook/basisbook/HourlyPrices$Sums" (some 0) with
  accessFlags := 48
  interfaces := #[]
  cf := some (fileOf pool2 13 #[.nestHost 1] #[{ accessFlags := 0, nameIndex := 7, descriptorIndex := 118, attributes := #[] }, { accessFlags := 0, nameIndex := 126, descriptorIndex := 127, attributes := #[] }] 48 4 #[] #[{ accessFlags := 18, nameIndex := 16, descriptorIndex := 17, attributes := #[] }, { accessFlags := 18, nameIndex := 32, descriptorIndex := 33, attributes := #[] }, { accessFlags := 18, nameIndex := 45, descriptorIndex := 42, attributes := #[] }, { accessFlags := 18, nameIndex := 50, descriptorIndex := 47, attributes := #[] }, { accessFlags := 2, nameIndex := 20, descriptorIndex := 21, attributes := #[] }, { accessFlags := 18, nameIndex := 38, descriptorIndex := 39, attributes := #[] }, { accessFlags := 18, nameIndex := 53, descriptorIndex := 54, attributes := #[] }, { accessFlags := 18, nameIndex := 57, descriptorIndex := 33, attributes := #[] }, { accessFlags := 18, nameIndex := 62, descriptorIndex := 63, attributes := #[] }, { accessFlags := 2, nameIndex := 101, descriptorIndex := 102, attributes := #[] }, { accessFlags := 2, nameIndex := 28, descriptorIndex := 29, attributes := #[] }, { accessFlags := 2, nameIndex := 89, descriptorIndex := 21, attributes := #[] }])
  fields := #[{ name := "hours", type := (.object "com/example/basisbook/basisbook/LongIndex"), accessFlags := 18, slot := 0, constantValue := 0 }, { name := "tracks", type := (.array .int), accessFlags := 18, slot := 1, constantValue := 0 }, { name := "lines", type := (.array (.array .int)), accessFlags := 18, slot := 2, constantValue := 0 }, { name := "given", type := (.array (.array .byte)), accessFlags := 18, slot := 3, constantValue := 0 }, { name := "capacity", type := .int, accessFlags := 2, slot := 4, constantValue := 0 }, { name := "prices", type := (.array (.object "com/example/basisbook/basisbook/Decimals")), accessFlags := 18, slot := 5, constantValue := 0 }, { name := "digits", type := (.array .long), accessFlags := 18, slot := 6, constantValue := 0 }, { name := "decimals", type := (.array .int), accessFlags := 18, slot := 7, constantValue := 0 }, { name := "beyondLong", type := (.array (.object "java/math/BigDecimal")), accessFlags := 18, slot := 8, constantValue := 0 }, { name := "quarterHourly", type := .boolean, accessFlags := 2, slot := 9, constantValue := 0 }, { name := "lastHour", type := .long, accessFlags := 2, slot := 10, constantValue := 0 }, { name := "lastPlace", type := .int, accessFlags := 2, slot := 11, constantValue := 0 }]
  methods := #[k2m0, k2m1]
  instanceTypes := #[(.object "com/example/basisbook/basisbook/LongIndex"), (.array .int), (.array (.array .int)), (.array (.array .byte)), .int, (.array (.object "com/example/basisbook/basisbook/Decimals")), (.array .long), (.array .int), (.array (.object "java/math/BigDecimal")), .boolean, .long, .int]
  staticTypes := #[]
  resolved := Array.replicate 137 none
  statics := none }

def pool3 : Array CpInfo := pool [(1, .methodref 2 3), (0, .class_ 4), (0, .nameAndType 5 6), (0, u "java/lang/Object"), (0, u "<init>"), (0, u "()V"), (0, .fieldref 8 9), (0, .class_ 10), (0, .nameAndType 11 12), (0, u "com/example/basisbook/basisbook/LongIndex"), (0, u "keys"), (0, u "[J"), (0, .fieldref 8 14), (0, .nameAndType 15 16), (0, u "table"), (0, u "[I"), (2, .fieldref 8 20), (0, .nameAndType 21 22), (0, u "shift"), (0, u "I"), (2, u "size"), (24, u "GOLDEN"), (0, u "J")] 11

def k3c0 : Code := { maxStack := 2, maxLocals := 1, code := prog_33_method_1_code, exceptionTable := #[], attributes := #[] }
def k3m0 : Method := { name := "<init>", desc := "()V", sig := { parameters := [], returnType := none }, accessFlags := 0, code := some k3c0 }
/-- com/example/basisbook/basisbook/LongIndex -/
def k3 : Class := { plain "com/example/basisbook/basisbook/LongIndex" (some 0) with
  accessFlags := 48
  interfaces := #[]
  cf := some (fileOf pool3 8 #[] #[{ accessFlags := 0, nameIndex := 5, descriptorIndex := 6, attributes := #[] }] 48 2 #[] #[{ accessFlags := 26, nameIndex := 50, descriptorIndex := 51, attributes := #[] }, { accessFlags := 2, nameIndex := 11, descriptorIndex := 12, attributes := #[] }, { accessFlags := 2, nameIndex := 15, descriptorIndex := 16, attributes := #[] }, { accessFlags := 2, nameIndex := 21, descriptorIndex := 22, attributes := #[] }, { accessFlags := 2, nameIndex := 25, descriptorIndex := 22, attributes := #[] }])
  fields := #[{ name := "GOLDEN", type := .long, accessFlags := 26, slot := 0, constantValue := 0 }, { name := "keys", type := (.array .long), accessFlags := 2, slot := 0, constantValue := 0 }, { name := "table", type := (.array .int), accessFlags := 2, slot := 1, constantValue := 0 }, { name := "shift", type := .int, accessFlags := 2, slot := 2, constantValue := 0 }, { name := "size", type := .int, accessFlags := 2, slot := 3, constantValue := 0 }]
  methods := #[k3m0]
  instanceTypes := #[(.array .long), (.array .int), .int, .int]
  staticTypes := #[.long]
  resolved := Array.replicate 63 none
  statics := none }

def pool4 : Array CpInfo := pool [(1, .methodref 2 3), (0, .class_ 4), (0, .nameAndType 5 6), (0, u "java/lang/Object"), (0, u "<init>"), (0, u "()V"), (0, .fieldref 8 9), (0, .class_ 10), (0, .nameAndType 11 12), (0, u "com/example/basisbook/basisbook/Decimals"), (0, u "units"), (0, u "[J"), (2, u "size"), (0, u "I"), (8, u "exact"), (0, u "[Ljava/math/BigDecimal;"), (2, u "scale"), (113, u "POWERS_OF_TEN")] 50

def k4c0 : Code := { maxStack := 2, maxLocals := 1, code := prog_12_method_1_code, exceptionTable := #[], attributes := #[] }
def k4m0 : Method := { name := "<init>", desc := "()V", sig := { parameters := [], returnType := none }, accessFlags := 0, code := some k4c0 }
/-- com/example/basisbook/basisbook/Decimals -/
def k4 : Class := { plain "com/example/basisbook/basisbook/Decimals" (some 0) with
  accessFlags := 48
  interfaces := #[]
  cf := some (fileOf pool4 8 #[] #[{ accessFlags := 0, nameIndex := 5, descriptorIndex := 6, attributes := #[] }] 48 2 #[] #[{ accessFlags := 26, nameIndex := 143, descriptorIndex := 12, attributes := #[] }, { accessFlags := 2, nameIndex := 11, descriptorIndex := 12, attributes := #[] }, { accessFlags := 2, nameIndex := 29, descriptorIndex := 16, attributes := #[] }, { accessFlags := 2, nameIndex := 25, descriptorIndex := 26, attributes := #[] }, { accessFlags := 2, nameIndex := 15, descriptorIndex := 16, attributes := #[] }])
  fields := #[{ name := "POWERS_OF_TEN", type := (.array .long), accessFlags := 26, slot := 0, constantValue := 0 }, { name := "units", type := (.array .long), accessFlags := 2, slot := 0, constantValue := 0 }, { name := "scale", type := .int, accessFlags := 2, slot := 1, constantValue := 0 }, { name := "exact", type := (.array (.object "java/math/BigDecimal")), accessFlags := 2, slot := 2, constantValue := 0 }, { name := "size", type := .int, accessFlags := 2, slot := 3, constantValue := 0 }]
  methods := #[k4m0]
  instanceTypes := #[(.array .long), .int, (.array (.object "java/math/BigDecimal")), .int]
  staticTypes := #[(.array .long)]
  resolved := Array.replicate 194 none
  statics := none }

def pool5 : Array CpInfo := pool [(1, .class_ 2), (0, u "java/io/Serializable"), (0, .class_ 4), (0, u "java/lang/Object")] 2

/-- java/io/Serializable -/
def k5 : Class := { plain "java/io/Serializable" (some 0) with
  accessFlags := 1537
  interfaces := #[]
  cf := some (fileOf pool5 1 #[] #[] 1537 3 #[] #[])
  fields := #[]
  methods := #[]
  instanceTypes := #[]
  staticTypes := #[]
  resolved := Array.replicate 7 none
  statics := none }

def pool6 : Array CpInfo := pool [(2, .class_ 4), (1, u "java/lang/Object"), (0, u "<init>"), (0, u "()V"), (1, .class_ 10), (1, u "java/lang/Number"), (2, .class_ 14), (0, u "java/io/Serializable"), (0, u "serialVersionUID"), (0, u "J")] 20

def k6m0 : Method := { name := "<init>", desc := "()V", sig := { parameters := [], returnType := none }, accessFlags := 1, code := none }
/-- java/lang/Number -/
def k6 : Class := { plain "java/lang/Number" (some 0) with
  accessFlags := 1057
  interfaces := #[5]
  cf := some (fileOf pool6 8 #[] #[{ accessFlags := 1, nameIndex := 5, descriptorIndex := 6, attributes := #[] }] 1057 2 #[13] #[{ accessFlags := 26, nameIndex := 15, descriptorIndex := 16, attributes := #[] }])
  fields := #[{ name := "serialVersionUID", type := .long, accessFlags := 26, slot := 0, constantValue := 0 }]
  methods := #[k6m0]
  instanceTypes := #[]
  staticTypes := #[.long]
  resolved := Array.replicate 37 none
  statics := none }

def pool7 : Array CpInfo := pool [(1, .class_ 2), (0, u "java/lang/Comparable"), (0, .class_ 4), (0, u "java/lang/Object")] 7

/-- java/lang/Comparable -/
def k7 : Class := { plain "java/lang/Comparable" (some 0) with
  accessFlags := 1537
  interfaces := #[]
  cf := some (fileOf pool7 1 #[] #[] 1537 3 #[] #[])
  fields := #[]
  methods := #[]
  instanceTypes := #[]
  staticTypes := #[]
  resolved := Array.replicate 12 none
  statics := none }

def pool8 : Array CpInfo := pool [(3, .class_ 4), (0, u "java/math/BigDecimal"), (7, .class_ 14), (1, u "java/lang/Number"), (4, u "scale"), (0, u "I"), (2, u "precision"), (2, u "intCompact"), (0, u "J"), (2, u "intVal"), (0, u "Ljava/math/BigInteger;"), (65, u "LONG_TEN_POWERS_TABLE"), (0, u "[J"), (88, u "ZERO"), (2, u "INFLATED_BIGINT"), (15, u "TWO"), (41, u "ZERO_THROUGH_TEN"), (0, u "[Ljava/math/BigDecimal;"), (2, u "ZERO_SCALED_BY"), (60, u "$assertionsDisabled"), (0, u "Z"), (163, u "ONE_TENTH"), (0, u "Ljava/math/BigDecimal;"), (5, u "TEN"), (14, .class_ 502), (1, u "java/math/BigDecimal$1"), (15, u "ONE_HALF"), (16, u "ONE"), (107, u "stringCache"), (0, u "Ljava/lang/String;"), (52, .class_ 699), (1, u "java/math/BigDecimal$LongOverflow"), (8, u "FLOAT_10_POW"), (0, u "[F"), (39, u "DOUBLE_10_POW"), (0, u "[D"), (19, .class_ 772), (1, u "java/math/BigDecimal$StringBuilderHelper"), (35, u "BIG_TEN_POWERS_TABLE_MAX"), (2, u "BIG_TEN_POWERS_TABLE"), (0, u "[Ljava/math/BigInteger;"), (14, u "THRESHOLDS_TABLE"), (23, .class_ 853), (1, u "java/math/BigDecimal$UnsafeHolder"), (214, u "LONGLONG_TEN_POWERS_TABLE"), (0, u "[[J"), (112, u "BIG_TEN_POWERS_TABLE_INITLEN"), (113, .class_ 1297), (0, u "java/lang/Comparable"), (0, u "L"), (0, u "D"), (1, u "P_F"), (1, u "Q_MIN_F"), (1, u "Q_MAX_F"), (1, u "P_D"), (1, u "Q_MIN_D"), (1, u "Q_MAX_D"), (1, u "INFLATED"), (0, u "MAX_COMPACT_DIGITS"), (1, u "serialVersionUID"), (2, u "HALF_LONG_MAX_VALUE"), (0, u "HALF_LONG_MIN_VALUE"), (0, u "ROUND_UP"), (6, u "ROUND_DOWN"), (1, u "ROUND_CEILING"), (1, u "ROUND_FLOOR"), (1, u "ROUND_HALF_UP"), (1, u "ROUND_HALF_DOWN"), (1, u "ROUND_HALF_EVEN"), (1, u "ROUND_UNNECESSARY"), (1, u "DIV_NUM_BASE")] 294

/-- java/math/BigDecimal -/
def k8 : Class := { plain "java/math/BigDecimal" (some 6) with
  accessFlags := 33
  interfaces := #[7]
  cf := some (fileOf pool8 3 #[.nestMembers #[500, 851, 770, 697]] #[] 33 12 #[1296] #[{ accessFlags := 26, nameIndex := 1298, descriptorIndex := 1299, attributes := #[] }, { accessFlags := 26, nameIndex := 1301, descriptorIndex := 20, attributes := #[] }, { accessFlags := 26, nameIndex := 1303, descriptorIndex := 20, attributes := #[] }, { accessFlags := 26, nameIndex := 1305, descriptorIndex := 20, attributes := #[] }, { accessFlags := 26, nameIndex := 1307, descriptorIndex := 20, attributes := #[] }, { accessFlags := 26, nameIndex := 1309, descriptorIndex := 20, attributes := #[] }, { accessFlags := 26, nameIndex := 1311, descriptorIndex := 20, attributes := #[] }, { accessFlags := 18, nameIndex := 30, descriptorIndex := 31, attributes := #[] }, { accessFlags := 18, nameIndex := 19, descriptorIndex := 20, attributes := #[] }, { accessFlags := 130, nameIndex := 23, descriptorIndex := 20, attributes := #[] }, { accessFlags := 130, nameIndex := 643, descriptorIndex := 644, attributes := #[] }, { accessFlags := 24, nameIndex := 1313, descriptorIndex := 27, attributes := #[] }, { accessFlags := 26, nameIndex := 190, descriptorIndex := 31, attributes := #[] }, { accessFlags := 146, nameIndex := 26, descriptorIndex := 27, attributes := #[] }, { accessFlags := 26, nameIndex := 1314, descriptorIndex := 20, attributes := #[] }, { accessFlags := 26, nameIndex := 1316, descriptorIndex := 27, attributes := #[] }, { accessFlags := 26, nameIndex := 248, descriptorIndex := 249, attributes := #[] }, { accessFlags := 26, nameIndex := 252, descriptorIndex := 249, attributes := #[] }, { accessFlags := 26, nameIndex := 1319, descriptorIndex := 27, attributes := #[] }, { accessFlags := 26, nameIndex := 1320, descriptorIndex := 27, attributes := #[] }, { accessFlags := 25, nameIndex := 187, descriptorIndex := 479, attributes := #[] }, { accessFlags := 25, nameIndex := 535, descriptorIndex := 479, attributes := #[] }, { accessFlags := 25, nameIndex := 206, descriptorIndex := 479, attributes := #[] }, { accessFlags := 25, nameIndex := 485, descriptorIndex := 479, attributes := #[] }, { accessFlags := 26, nameIndex := 478, descriptorIndex := 479, attributes := #[] }, { accessFlags := 26, nameIndex := 518, descriptorIndex := 479, attributes := #[] }, { accessFlags := 25, nameIndex := 1321, descriptorIndex := 20, attributes := #[] }, { accessFlags := 25, nameIndex := 1328, descriptorIndex := 20, attributes := #[] }, { accessFlags := 25, nameIndex := 1330, descriptorIndex := 20, attributes := #[] }, { accessFlags := 25, nameIndex := 1332, descriptorIndex := 20, attributes := #[] }, { accessFlags := 25, nameIndex := 1334, descriptorIndex := 20, attributes := #[] }, { accessFlags := 25, nameIndex := 1336, descriptorIndex := 20, attributes := #[] }, { accessFlags := 25, nameIndex := 1338, descriptorIndex := 20, attributes := #[] }, { accessFlags := 25, nameIndex := 1340, descriptorIndex := 20, attributes := #[] }, { accessFlags := 26, nameIndex := 749, descriptorIndex := 750, attributes := #[] }, { accessFlags := 26, nameIndex := 708, descriptorIndex := 709, attributes := #[] }, { accessFlags := 26, nameIndex := 97, descriptorIndex := 98, attributes := #[] }, { accessFlags := 74, nameIndex := 811, descriptorIndex := 812, attributes := #[] }, { accessFlags := 26, nameIndex := 1182, descriptorIndex := 20, attributes := #[] }, { accessFlags := 26, nameIndex := 808, descriptorIndex := 20, attributes := #[] }, { accessFlags := 26, nameIndex := 827, descriptorIndex := 98, attributes := #[] }, { accessFlags := 26, nameIndex := 1342, descriptorIndex := 27, attributes := #[] }, { accessFlags := 26, nameIndex := 1068, descriptorIndex := 1069, attributes := #[] }, { accessFlags := 4120, nameIndex := 313, descriptorIndex := 314, attributes := #[] }])
  fields := #[{ name := "L", type := .double, accessFlags := 26, slot := 0, constantValue := 0 }, { name := "P_F", type := .int, accessFlags := 26, slot := 1, constantValue := 0 }, { name := "Q_MIN_F", type := .int, accessFlags := 26, slot := 2, constantValue := 0 }, { name := "Q_MAX_F", type := .int, accessFlags := 26, slot := 3, constantValue := 0 }, { name := "P_D", type := .int, accessFlags := 26, slot := 4, constantValue := 0 }, { name := "Q_MIN_D", type := .int, accessFlags := 26, slot := 5, constantValue := 0 }, { name := "Q_MAX_D", type := .int, accessFlags := 26, slot := 6, constantValue := 0 }, { name := "intVal", type := (.object "java/math/BigInteger"), accessFlags := 18, slot := 0, constantValue := 0 }, { name := "scale", type := .int, accessFlags := 18, slot := 1, constantValue := 0 }, { name := "precision", type := .int, accessFlags := 130, slot := 2, constantValue := 0 }, { name := "stringCache", type := (.object "java/lang/String"), accessFlags := 130, slot := 3, constantValue := 0 }, { name := "INFLATED", type := .long, accessFlags := 24, slot := 7, constantValue := 0 }, { name := "INFLATED_BIGINT", type := (.object "java/math/BigInteger"), accessFlags := 26, slot := 8, constantValue := 0 }, { name := "intCompact", type := .long, accessFlags := 146, slot := 4, constantValue := 0 }, { name := "MAX_COMPACT_DIGITS", type := .int, accessFlags := 26, slot := 9, constantValue := 0 }, { name := "serialVersionUID", type := .long, accessFlags := 26, slot := 10, constantValue := 0 }, { name := "ZERO_THROUGH_TEN", type := (.array (.object "java/math/BigDecimal")), accessFlags := 26, slot := 11, constantValue := 0 }, { name := "ZERO_SCALED_BY", type := (.array (.object "java/math/BigDecimal")), accessFlags := 26, slot := 12, constantValue := 0 }, { name := "HALF_LONG_MAX_VALUE", type := .long, accessFlags := 26, slot := 13, constantValue := 0 }, { name := "HALF_LONG_MIN_VALUE", type := .long, accessFlags := 26, slot := 14, constantValue := 0 }, { name := "ZERO", type := (.object "java/math/BigDecimal"), accessFlags := 25, slot := 15, constantValue := 0 }, { name := "ONE", type := (.object "java/math/BigDecimal"), accessFlags := 25, slot := 16, constantValue := 0 }, { name := "TWO", type := (.object "java/math/BigDecimal"), accessFlags := 25, slot := 17, constantValue := 0 }, { name := "TEN", type := (.object "java/math/BigDecimal"), accessFlags := 25, slot := 18, constantValue := 0 }, { name := "ONE_TENTH", type := (.object "java/math/BigDecimal"), accessFlags := 26, slot := 19, constantValue := 0 }, { name := "ONE_HALF", type := (.object "java/math/BigDecimal"), accessFlags := 26, slot := 20, constantValue := 0 }, { name := "ROUND_UP", type := .int, accessFlags := 25, slot := 21, constantValue := 0 }, { name := "ROUND_DOWN", type := .int, accessFlags := 25, slot := 22, constantValue := 0 }, { name := "ROUND_CEILING", type := .int, accessFlags := 25, slot := 23, constantValue := 0 }, { name := "ROUND_FLOOR", type := .int, accessFlags := 25, slot := 24, constantValue := 0 }, { name := "ROUND_HALF_UP", type := .int, accessFlags := 25, slot := 25, constantValue := 0 }, { name := "ROUND_HALF_DOWN", type := .int, accessFlags := 25, slot := 26, constantValue := 0 }, { name := "ROUND_HALF_EVEN", type := .int, accessFlags := 25, slot := 27, constantValue := 0 }, { name := "ROUND_UNNECESSARY", type := .int, accessFlags := 25, slot := 28, constantValue := 0 }, { name := "DOUBLE_10_POW", type := (.array .double), accessFlags := 26, slot := 29, constantValue := 0 }, { name := "FLOAT_10_POW", type := (.array .float), accessFlags := 26, slot := 30, constantValue := 0 }, { name := "LONG_TEN_POWERS_TABLE", type := (.array .long), accessFlags := 26, slot := 31, constantValue := 0 }, { name := "BIG_TEN_POWERS_TABLE", type := (.array (.object "java/math/BigInteger")), accessFlags := 74, slot := 32, constantValue := 0 }, { name := "BIG_TEN_POWERS_TABLE_INITLEN", type := .int, accessFlags := 26, slot := 33, constantValue := 0 }, { name := "BIG_TEN_POWERS_TABLE_MAX", type := .int, accessFlags := 26, slot := 34, constantValue := 0 }, { name := "THRESHOLDS_TABLE", type := (.array .long), accessFlags := 26, slot := 35, constantValue := 0 }, { name := "DIV_NUM_BASE", type := .long, accessFlags := 26, slot := 36, constantValue := 0 }, { name := "LONGLONG_TEN_POWERS_TABLE", type := (.array (.array .long)), accessFlags := 26, slot := 37, constantValue := 0 }, { name := "$assertionsDisabled", type := .boolean, accessFlags := 4120, slot := 38, constantValue := 0 }]
  methods := #[]
  instanceTypes := #[(.object "java/math/BigInteger"), .int, .int, (.object "java/lang/String"), .long]
  staticTypes := #[.double, .int, .int, .int, .int, .int, .int, .long, (.object "java/math/BigInteger"), .int, .long, (.array (.object "java/math/BigDecimal")), (.array (.object "java/math/BigDecimal")), .long, .long, (.object "java/math/BigDecimal"), (.object "java/math/BigDecimal"), (.object "java/math/BigDecimal"), (.object "java/math/BigDecimal"), (.object "java/math/BigDecimal"), (.object "java/math/BigDecimal"), .int, .int, .int, .int, .int, .int, .int, .int, (.array .double), (.array .float), (.array .long), (.array (.object "java/math/BigInteger")), .int, .int, (.array .long), .long, (.array (.array .long)), .boolean]
  resolved := Array.replicate 1637 none
  statics := none }

def pool9 : Array CpInfo := pool [(1, u "java/lang/Cloneable"), (0, .class_ 1), (0, u "java/lang/Object"), (0, .class_ 3)] 3

/-- java/lang/Cloneable -/
def k9 : Class := { plain "java/lang/Cloneable" (some 0) with
  accessFlags := 1537
  interfaces := #[]
  cf := some (fileOf pool9 2 #[] #[] 1537 4 #[] #[])
  fields := #[]
  methods := #[]
  instanceTypes := #[]
  staticTypes := #[]
  resolved := Array.replicate 8 none
  statics := none }

/-- the primitive byte -/
def k10 : Class := { plain "byte" none with kind := .primitive 'B', accessFlags := 0x411 }
/-- [B -/
def k11 : Class := { plain "[B" (some 0) with kind := .array 10 .byte, interfaces := #[9, 5], accessFlags := 1041 }

/-- the primitive int -/
def k12 : Class := { plain "int" none with kind := .primitive 'I', accessFlags := 0x411 }
/-- [I -/
def k13 : Class := { plain "[I" (some 0) with kind := .array 12 .int, interfaces := #[9, 5], accessFlags := 1041 }

/-- the primitive long -/
def k14 : Class := { plain "long" none with kind := .primitive 'J', accessFlags := 0x411 }
/-- [J -/
def k15 : Class := { plain "[J" (some 0) with kind := .array 14 .long, interfaces := #[9, 5], accessFlags := 1041 }

/-- [L[B; -/
def k16 : Class := { plain "[[B" (some 0) with kind := .array 11 (.array .byte), interfaces := #[9, 5], accessFlags := 1041 }

/-- [L[I; -/
def k17 : Class := { plain "[[I" (some 0) with kind := .array 13 (.array .int), interfaces := #[9, 5], accessFlags := 1041 }

/-- [Lcom/example/basisbook/basisbook/Decimals; -/
def k18 : Class := { plain "[Lcom/example/basisbook/basisbook/Decimals;" (some 0) with kind := .array 4 (.object "com/example/basisbook/basisbook/Decimals"), interfaces := #[9, 5], accessFlags := 1041 }

/-- [Ljava/math/BigDecimal; -/
def k19 : Class := { plain "[Ljava/math/BigDecimal;" (some 0) with kind := .array 8 (.object "java/math/BigDecimal"), interfaces := #[9, 5], accessFlags := 1041 }

def heap : Heap := #[{ cls := 17, slots := #[.null], vm := .none },
  { cls := 16, slots := #[.null], vm := .none }]
def classes : Array Class := #[k0, k1, k2, k3, k4, k5, k6, k7, k8, k9, k10, k11, k12, k13, k14, k15, k16, k17, k18, k19]
def interned : List (Array UInt16 × Addr) := []
def slotsUsed : Nat := 2
def theMethod : MethodId := ⟨1, 1⟩
def args0 : Array Value := #[.int 5, .int 7, .int 3, .int 1, .int 1]
def aboutOver (below : List Frame) : State where
  vm := { classes := classes, interned := interned.toArray }
  heap := heap
  slotsUsed := slotsUsed
  threads := #[{ frames := .invoking theMethod args0 :: below }]
def below0 : List Frame := [.native { method := ⟨0, 0⟩, args := #[] }]
def about1 : State := aboutOver below0
def p0 : Program := .bare "" "" ""
def e0 : Env := launch0.env 0 0 0
theorem w_frames : about1.frames = Frame.invoking theMethod args0 :: below0 := rfl
set_option maxRecDepth 65536 in
theorem w_args : argsFit about1.vm theMethod args0 = true := by decide +kernel
set_option maxRecDepth 65536 in
theorem w_heap : heapFits about1 = true := by decide +kernel
set_option maxRecDepth 65536 in
theorem w_runnable : about1.curStatus? = some .runnable := by decide +kernel
set_option maxRecDepth 65536 in
theorem w_alone : about1.alone = true := by decide +kernel
set_option maxRecDepth 65536 in
theorem w_named : about1.methodNamed? x = some theMethod := by decide +kernel
set_option maxRecDepth 65536 in
theorem w_hears : about1.hears theMethod below0 = true := by decide +kernel
set_option maxRecDepth 65536 in
theorem w_ripe : about1.ripe theMethod args0 below0 = true := by decide +kernel
theorem w_running : about1.status = .running := rfl
set_option maxRecDepth 65536 in
theorem w_room : about1.hasRoom e0.platform room_1 = true :=
  launch0.hasRoom_least _ room_1 (by decide +kernel) (by decide +kernel) (by decide +kernel) (by decide +kernel) (by decide +kernel) (by decide +kernel)
theorem allAtoms_all (ts : List Jvm.Cond) (a : Array Jvm.Value) (st : Jvm.State) : (allAtoms ts).before a st = ts.all (fun c => c.before a st) := by
  induction ts with
  | nil => rfl
  | cons c t ih =>
    show (Jvm.Cond.and c (allAtoms t)).before a st = _
    rw [Jvm.Cond.before_and, ih, List.all_cons]
def words1 : List Jvm.Cond := Jvm.Cond.code x code maxLocals ret :: tables_1
/-- a 'code' word, met by the world's own term for the bytes: nothing is compared byte by byte -/
theorem code_word {y : MethodName} {bytes : ByteArray} {mx : Nat} {rt : Option FieldType} {a : Array Value} {s : State} {m : MethodId} {meth : Method} {c : Code} (h1 : s.methodNamed? y = some m) (h2 : s.vm.method? m = some meth) (h3 : meth.code = some c) (h4 : c.code = bytes)
    (h5 : (c.maxLocals == mx && c.exceptionTable.isEmpty && decide (c.maxStack ≤ mostOperands) && decide (meth.sig.returnType = rt) && !meth.locks && decide (parseMethodDescriptor y.desc = some meth.sig)) = true) : (Jvm.Cond.code y bytes mx rt).before a s = true := by
  simp only [Bool.and_eq_true, beq_iff_eq, Bool.not_eq_true', decide_eq_true_eq] at h5
  obtain ⟨⟨⟨⟨⟨g1, g2⟩, g3⟩, g4⟩, g5⟩, g6⟩ := h5
  simp [Cond.before, Cond.holds, Cond.value, h1, h2, h3, h4, g1, g2, g3, g4, g5, g6]
def isCode : Jvm.Cond → Bool
  | .code _ _ _ _ => true
  | _ => false
theorem all_split {L : List Jvm.Cond} {P : Jvm.Cond → Bool} (h1 : L.all (fun c => isCode c || P c) = true) (h2 : ∀ c ∈ L.filter isCode, P c = true) : L.all P = true := by
  refine List.all_eq_true.mpr fun c hc => ?_
  have h := List.all_eq_true.mp h1 c hc
  rcases Bool.eq_false_or_eq_true (isCode c) with hi | hi
  · exact h2 c (List.mem_filter.mpr ⟨hc, hi⟩)
  · simpa [hi] using h
set_option maxRecDepth 65536 in
theorem w_c0 : (Jvm.Cond.code x code maxLocals ret).before args0 about1 = true := code_word (m := ⟨1, 1⟩) (meth := k1m1) (c := k1c1) (by decide +kernel) rfl rfl rfl (by decide +kernel)
set_option maxRecDepth 65536 in
theorem w_c1 : (Jvm.Cond.code ({ cls := "com/example/basisbook/basisbook/HourlyPrices$Sums", name := "<init>", desc := "(IZ)V" } : Jvm.MethodName) prog_28_method_1_code (4 : Nat) (Option.none : Option Jvm.ClassFile.FieldType)).before args0 about1 = true := code_word (m := ⟨2, 0⟩) (meth := k2m0) (c := k2c0) (by decide +kernel) rfl rfl rfl (by decide +kernel)
set_option maxRecDepth 65536 in
theorem w_c2 : (Jvm.Cond.code ({ cls := "java/lang/Object", name := "<init>", desc := "()V" } : Jvm.MethodName) object_method_1_code (1 : Nat) (Option.none : Option Jvm.ClassFile.FieldType)).before args0 about1 = true := code_word (m := ⟨0, 0⟩) (meth := k0m0) (c := k0c0) (by decide +kernel) rfl rfl rfl (by decide +kernel)
set_option maxRecDepth 65536 in
theorem w_c3 : (Jvm.Cond.code ({ cls := "com/example/basisbook/basisbook/LongIndex", name := "<init>", desc := "()V" } : Jvm.MethodName) prog_33_method_1_code (1 : Nat) (Option.none : Option Jvm.ClassFile.FieldType)).before args0 about1 = true := code_word (m := ⟨3, 0⟩) (meth := k3m0) (c := k3c0) (by decide +kernel) rfl rfl rfl (by decide +kernel)
set_option maxRecDepth 65536 in
theorem w_c4 : (Jvm.Cond.code ({ cls := "com/example/basisbook/basisbook/Decimals", name := "<init>", desc := "()V" } : Jvm.MethodName) prog_12_method_1_code (1 : Nat) (Option.none : Option Jvm.ClassFile.FieldType)).before args0 about1 = true := code_word (m := ⟨4, 0⟩) (meth := k4m0) (c := k4c0) (by decide +kernel) rfl rfl rfl (by decide +kernel)
set_option maxRecDepth 65536 in
theorem w_c5 : (Jvm.Cond.code ({ cls := "com/example/basisbook/basisbook/HourlyPrices$Sums", name := "give", desc := "(IIII)I" } : Jvm.MethodName) prog_28_method_4_code (7 : Nat) (Option.some Jvm.ClassFile.FieldType.int)).before args0 about1 = true := code_word (m := ⟨2, 1⟩) (meth := k2m1) (c := k2c1) (by decide +kernel) rfl rfl rfl (by decide +kernel)
def codes1 : List Jvm.Cond := [Jvm.Cond.code x code maxLocals ret, Jvm.Cond.code ({ cls := "com/example/basisbook/basisbook/HourlyPrices$Sums", name := "<init>", desc := "(IZ)V" } : Jvm.MethodName) prog_28_method_1_code (4 : Nat) (Option.none : Option Jvm.ClassFile.FieldType), Jvm.Cond.code ({ cls := "java/lang/Object", name := "<init>", desc := "()V" } : Jvm.MethodName) object_method_1_code (1 : Nat) (Option.none : Option Jvm.ClassFile.FieldType), Jvm.Cond.code ({ cls := "com/example/basisbook/basisbook/LongIndex", name := "<init>", desc := "()V" } : Jvm.MethodName) prog_33_method_1_code (1 : Nat) (Option.none : Option Jvm.ClassFile.FieldType), Jvm.Cond.code ({ cls := "com/example/basisbook/basisbook/Decimals", name := "<init>", desc := "()V" } : Jvm.MethodName) prog_12_method_1_code (1 : Nat) (Option.none : Option Jvm.ClassFile.FieldType), Jvm.Cond.code ({ cls := "com/example/basisbook/basisbook/HourlyPrices$Sums", name := "give", desc := "(IIII)I" } : Jvm.MethodName) prog_28_method_4_code (7 : Nat) (Option.some Jvm.ClassFile.FieldType.int)]
set_option maxRecDepth 65536 in
theorem codes_eq : words1.filter isCode = codes1 := rfl
theorem w_codes : ∀ c ∈ words1.filter isCode, c.before args0 about1 = true := by
  rw [codes_eq]
  intro c hc
  simp only [codes1, List.mem_cons, List.not_mem_nil, or_false] at hc
  rcases hc with rfl | rfl | rfl | rfl | rfl | rfl
  · exact w_c0
  · exact w_c1
  · exact w_c2
  · exact w_c3
  · exact w_c4
  · exact w_c5
set_option maxRecDepth 65536 in
theorem w_t1 : (words1.take 24).all (fun c => isCode c || c.before args0 about1) = true := by decide +kernel
set_option maxRecDepth 65536 in
theorem w_t2 : ((words1.drop 24).take 24).all (fun c => isCode c || c.before args0 about1) = true := by decide +kernel
set_option maxRecDepth 65536 in
theorem w_t3 : ((words1.drop 24).drop 24).all (fun c => isCode c || c.before args0 about1) = true := by decide +kernel
theorem w_tables : (allAtoms (Jvm.Cond.code x code maxLocals ret :: tables_1)).before args0 about1 = true := by
  rw [allAtoms_all]
  show words1.all (fun c => c.before args0 about1) = true
  refine all_split ?_ w_codes
  rw [← List.take_append_drop 24 words1, List.all_append, w_t1, ← List.take_append_drop 24 (words1.drop 24), List.all_append, w_t2, w_t3]
  rfl
set_option maxRecDepth 65536 in
theorem w_case : (Jvm.Cond.and given_1 narrow_1).before args0 about1 = true := by decide +kernel
theorem w_applies : (headSpec (Jvm.Cond.code x code maxLocals ret :: tables_1) room_1).applies x e0.platform about1 = true :=
  (Spec.applies_iff w_frames).mpr ⟨w_running, w_runnable, w_alone, w_named, w_hears, w_ripe, w_room, w_tables⟩
theorem atStart : AtStart classFile x code maxLocals ret World_1 tables_1 room_1 Calls_1 rest_1 Pre_1 launch0 p0 e0 about1 theMethod args0 below0 :=
  ⟨lists_1, trivial, launch0.admits_env _ _ _, launch0.least_env, fairChoices_fair.cas, fairChoices_fair.clock, w_frames, w_args, w_heap, w_applies, trivial, trivial, w_case⟩
end start1
theorem witness_1 : WitnessClaimed_1 := ⟨start1.p0, start1.e0, start1.about1, start1.theMethod, start1.args0, start1.below0, start1.atStart⟩
end Jvm.Pilot.@@N@@
