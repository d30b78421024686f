import JvmDerived
import JvmDerived.Pilot.@@N@@Statement
import JvmDerived.Pilot.@@N@@Code
set_option linter.unusedVariables false
set_option linter.unusedSimpArgs false
namespace Jvm.Pilot.@@N@@
open Jvm Jvm.ClassFile Sem Op Lib Jvm.Free Jvm.Stand Jvm.LawKit Jvm.RoadKit Bundle Jvm.Pilot.@@N@@.Jvm.D
/-! ## The frame of my walks: Gl: what is left to run ends well; St: where the run stands; Ctr: a body's contract; Ary: an array by its length and its values -/
def Gl (p : Program) (e : Env) (below : List Frame) (n0 : Nat) (Φ : Outcome → State → List Loc → Prop) (Q : Option Value → Heap → Prop) (U : State) : Prop :=
  ∃ s₂ o, Steps p.tables e below U s₂ ∧ s₂.status = .running ∧ Ended s₂ below o ∧ ∃ v L, o = .returned v ∧ (Q v s₂.heap ∧ Fr n0 L) ∧ Φ o s₂ L
abbrev Fn (s : State) (cs sl : Nat) : Outcome → State → List Loc → Prop := fun o t L => FrameEnd s o t L cs sl
abbrev Fw (s : State) (cs sl : Nat) : Outcome → State → List Loc → Prop := fun o t L => ReturnedEndW s o t L cs sl
def St (p : Program) (l : Launch) (e : Env) (R : Room) (s : State) (m : MethodId) (args : Array Value) (below : List Frame) (meth : Method) (c : Code) (n0 : Nat) (T : State) (h : Heap) (cells slots : Nat) : Prop :=
  ∃ locs, Stand p l e R s m args below meth c T locs cells slots ∧ T.heap = h ∧ Fr n0 locs
abbrev Ctr (l : Launch) (Z : State) (y : MethodName) (bytes : ByteArray) (maxL : Nat) (ret : Option FieldType) (ws : List Jvm.Cond) (rm : Room) (as' : Array Value) (h0 : Heap) (n0 cs sl : Nat) (Q : Option Value → Heap → Prop) : Prop :=
  MetFree l y (head1 (Jvm.Cond.code y bytes maxL ret :: ws) rm) (fun a U => a = as' ∧ Z.Warmed39 U.vm ∧ U.heap = h0) (fun _ _ _ _ _ => True) (fun _ U o U' => ∃ v L, o = .returned v ∧ (Q v U'.heap ∧ Fr n0 L) ∧ FrameEnd U o U' L cs sl)
theorem Ctr.of {l : Launch} {Z : State} {y : MethodName} {bytes : ByteArray} {maxL : Nat} {ret : Option FieldType} {ws : List Jvm.Cond} {rm : Room} {as' : Array Value} {h0 : Heap} {n0 cs sl : Nat} {Q : Option Value → Heap → Prop} (hn : plainFor y = true)
    (body : ∀ (p : Program) (e : Env) (s : State) (m : MethodId) (below : List Frame) (meth : Method) (c : Code) (T : State), p.tables.exec = Jvm.exec → c.code = bytes → c.maxLocals = maxL → meth.sig.returnType = ret → meth.locks = false → meth.name = y.name → s.vm.findClass y.cls = some m.cls → Z.Warmed39 s.vm →
      St p l e rm s m as' below meth c n0 T h0 0 0 → Gl p e below n0 (Fn s cs sl) Q (T.setTop (entryFrame m as' maxL))) : Ctr l Z y bytes maxL ret ws rm as' h0 n0 cs sl Q := by
  refine MetFree.of_bodySF hn hisR ?_
  intro p e s m args below meth c s₁ Bd hml0 hP hK
  obtain ⟨rfl, hZ, hh⟩ := hP
  exact body p e s m below meth c s₁ Bd.exec Bd.bytes hml0 Bd.returns Bd.notSynchronized (name_of_methodNamed Bd.named Bd.method).1 (findClass_of_methodNamed Bd.named) hZ ⟨[], Stand.of_body Bd, by rw [← hh, Bd.state]; rfl, Fr.nil n0⟩
theorem own_since (s : State) (n : Nat) : s.Since s.vm n := (State.WarmedH.refl s).since n
abbrev CtrW (l : Launch) (Z : State) (y : MethodName) (bytes : ByteArray) (maxL : Nat) (ret : Option FieldType) (ws : List Jvm.Cond) (rm : Room) (as' : Array Value) (h0 : Heap) (n0 cs sl : Nat) (Q : Option Value → Heap → Prop) : Prop :=
  MetFree l y (head1 (Jvm.Cond.code y bytes maxL ret :: ws) rm) (fun a U => a = as' ∧ Z.Warmed39 U.vm ∧ U.heap = h0) (fun _ _ _ _ _ => True) (fun _ U o U' => ∃ v L, o = .returned v ∧ (Q v U'.heap ∧ Fr n0 L) ∧ ReturnedEndW U o U' L cs sl)
theorem CtrW.of {l : Launch} {Z : State} {y : MethodName} {bytes : ByteArray} {maxL : Nat} {ret : Option FieldType} {ws : List Jvm.Cond} {rm : Room} {as' : Array Value} {h0 : Heap} {n0 cs sl : Nat} {Q : Option Value → Heap → Prop} (hn : plainFor y = true)
    (body : ∀ (p : Program) (e : Env) (s : State) (m : MethodId) (below : List Frame) (meth : Method) (c : Code) (T : State), p.tables.exec = Jvm.exec → c.code = bytes → c.maxLocals = maxL → meth.sig.returnType = ret → meth.locks = false → meth.name = y.name → (s.setVm s.vm).vm.findClass y.cls = some m.cls → Z.Warmed39 (s.setVm s.vm).vm →
      St p l e rm (s.setVm s.vm) m as' below meth c n0 T h0 0 0 → s.Since s.vm h0.size → Gl p e below n0 (Fw s cs sl) Q (T.setTop (entryFrame m as' maxL))) : CtrW l Z y bytes maxL ret ws rm as' h0 n0 cs sl Q := by
  refine MetFree.of_bodySF hn hisR ?_
  intro p e s m args below meth c s₁ Bd hml0 hP hK
  obtain ⟨rfl, hZ, hh⟩ := hP
  exact body p e s m below meth c s₁ Bd.exec Bd.bytes hml0 Bd.returns Bd.notSynchronized (name_of_methodNamed Bd.named Bd.method).1 (findClass_of_methodNamed Bd.named) hZ ⟨[], Stand.of_body Bd, by rw [← hh, Bd.state]; rfl, Fr.nil n0⟩ (own_since s h0.size)
def Ary (Z : State) (h : Heap) (a : Addr) (ty : FieldType) (n : Nat) (f : Nat → Value) : Prop := ∃ c : Cell, Arr Z h a c ty ∧ c.slots.size = n ∧ ∀ i, i < n → c.slots[i]? = some (f i)
def own_upd (f : Nat → Value) (i : Nat) (v : Value) : Nat → Value := fun j => if j = i then v else f j
theorem own_upd_same (f : Nat → Value) (i : Nat) (v : Value) : own_upd f i v i = v := by simp [own_upd]
theorem own_upd_ne (f : Nat → Value) {i j : Nat} (v : Value) (q : ¬ j = i) : own_upd f i v j = f j := by simp [own_upd, q]
theorem own_in {j : Int32} {i k : Nat} (hj : j.toInt = (i : Int)) (hi : i < k) : ¬ (j < 0 ∨ k ≤ j.toNatClampNeg) ∧ j.toNatClampNeg = i := by
  have e : j.toNatClampNeg = i := by simp only [Int32.toNatClampNeg]; omega
  refine ⟨?_, e⟩
  rw [e, Int32.lt_iff_toInt_lt]; have : (0 : Int32).toInt = 0 := rfl
  omega
section OwnFacts
variable {Z : State} {h h' : Heap} {a b : Addr} {ty : FieldType} {n sl : Nat} {f : Nat → Value} {v : Value} {ws : List Addr}
theorem Ary.lt (F : Ary Z h a ty n f) : a < h.size := by obtain ⟨c, A, -⟩ := F; exact A.lt
theorem Ary.ext (F : Ary Z h a ty n f) (E : Ext h h') : Ary Z h' a ty n f := by obtain ⟨c, A, r⟩ := F; exact ⟨c, A.ext E, r⟩
theorem Ary.other (F : Ary Z h b ty n f) (W : Wr h h' a sl v) (q : b ≠ a) : Ary Z h' b ty n f := by obtain ⟨c, A, r⟩ := F; exact ⟨c, A.other W q, r⟩
theorem Ary.keep (F : Ary Z h a ty n f) (K : Keep h h' ws) (q : a ∉ ws) : Ary Z h' a ty n f := by obtain ⟨c, A, r⟩ := F; exact ⟨c, ⟨K.2.1 a c A.1 q, A.2⟩, r⟩
theorem Ary.same {cl : Cell} (A : Arr Z h a cl ty) (sz : cl.slots.size = n) (H : ∀ i, i < n → cl.slots[i]? = some (f i)) {i : Nat} (W : Wr h h' a i v) : Ary Z h' a ty n (own_upd f i v) := by
  refine ⟨_, A.same W, by rw [sz_set]; exact sz, fun j hj => ?_⟩
  by_cases q : j = i
  · subst q; simp [Cell.setSlot, own_upd, sz, hj]
  · rw [own_upd_ne f v q]; exact (Array.getElem?_setIfInBounds_ne (Ne.symm q)).trans (H j hj)
theorem Ary.congr (F : Ary Z h a ty n f) {g : Nat → Value} (q : ∀ i, i < n → f i = g i) : Ary Z h a ty n g := by obtain ⟨c, A, sz, H⟩ := F; exact ⟨c, A, sz, fun i hi => by rw [← q i hi]; exact H i hi⟩
/-- what may lie in an array of C -/
def Ov (Z : State) (h : Heap) (a : Addr) (C : String) : Prop := ∃ c : Cell, h[a]? = some c ∧ Ovr Z c.cls C
theorem Ov.ext {C : String} (F : Ov Z h a C) (E : Ext h h') : Ov Z h' a C := by obtain ⟨c, h1, O⟩ := F; exact ⟨c, E.2 _ _ h1, O⟩
theorem Ov.wr {C : String} (F : Ov Z h a C) (W : Wr h h' b sl v) : Ov Z h' a C := by
  obtain ⟨c, h1, O⟩ := F
  obtain ⟨c', e1, e2, -⟩ := wr_at W h1
  exact ⟨c', e1, by rw [e2]; exact O⟩
theorem Ov.keep {C : String} (F : Ov Z h a C) (K : Keep h h' ws) : Ov Z h' a C := by
  obtain ⟨c, h1, O⟩ := F
  obtain ⟨c', e1, e2, -⟩ := K.2.2 a c h1
  exact ⟨c', e1, by rw [e2]; exact O⟩
theorem Ov.sto {C : String} {y : Addr} (F : Ov Z h a C) (A : Ary Z h a ty n f) (I : Ins Z h y C true) : Sto Z h a (.ref y) := by
  obtain ⟨c, h1, O⟩ := F
  obtain ⟨cl, A, -⟩ := A
  cases h1.symm.trans A.1
  exact Sto.of A O I
theorem own_plain {C : String} (F : Exa Z h a C) : ∃ c : Cell, h[a]? = some c ∧ c.vm.isStatics = false := by obtain ⟨c, k, h1, -, -, h4, -⟩ := F; exact ⟨c, h1, h4⟩
theorem own_plainA (F : Ary Z h a ty n f) : ∃ c : Cell, h[a]? = some c ∧ c.vm.isStatics = false := by obtain ⟨c, A, -⟩ := F; exact ⟨c, A.1, A.plain⟩
theorem own_sta_keep {C nm d : String} (F : Sta Z h C nm d v) (K : Keep h h' ws) (q : ∀ x ∈ ws, ∃ c : Cell, h[x]? = some c ∧ c.vm.isStatics = false) : Sta Z h' C nm d v := by
  obtain ⟨cf, i, k, fd, st, cell, h1, h2, h3, h4, h5, h6, h7⟩ := F
  refine ⟨cf, i, k, fd, st, cell, h1, h2, h3, h4, K.2.1 _ _ h5 fun z => ?_, h6, h7⟩
  obtain ⟨c, e1, e2⟩ := q _ z
  cases h5.symm.trans e1
  rw [e2] at h6; cases h6
theorem own_fld_of {a0 : Array Value} {C O nm d O' nm' d' : String} {k : Nat} (E : Exa Z h a C) (F : Fld Z h a O' nm' d' v) (wi : (Cond.instantiable C k).before a0 Z = true) (L : Laid Z a0 C O nm d) : ∃ v', Fld Z h a O nm d v' := by
  obtain ⟨c, _, _, _, _, h1, -, -, h4, -⟩ := F
  exact fld_laid E ⟨c, h1, h4⟩ wi L
theorem own_ne_ty {ty' : FieldType} {n' : Nat} {f' : Nat → Value} (F : Ary Z h a ty n f) (G : Ary Z h b ty' n' f') (q : ty ≠ ty') : a ≠ b := fun e => by
  subst e
  obtain ⟨c1, A1, -⟩ := F
  obtain ⟨c2, A2, -⟩ := G
  cases A1.1.symm.trans A2.1
  obtain ⟨-, k1, i1, p1, j1⟩ := A1.2.1
  obtain ⟨-, k2, i2, p2, j2⟩ := A2.2.1
  cases i1.symm.trans i2
  rw [j1] at j2; cases j2; exact q rfl
theorem own_ne_exa {a0 : Array Value} {C : String} {k : Nat} (E : Exa Z h a C) (wi : (Cond.instantiable C k).before a0 Z = true) (G : Ary Z h b ty n f) : a ≠ b := by
  obtain ⟨c, A, -⟩ := G; exact ne_arr E wi A
theorem own_fld_inj {C nm d : String} {w : Value} (F : Fld Z h a C nm d v) (G : Fld Z h a C nm d w) : v = w := by
  obtain ⟨c1, cf1, k1, i1, f1, a1, a2, -, -, -, -, a7⟩ := F
  obtain ⟨c2, cf2, k2, i2, f2, b1, b2, -, -, -, -, b7⟩ := G
  cases a1.symm.trans b1
  cases a2.symm.trans b2
  exact Option.some.inj (a7.symm.trans b7)
end OwnFacts
section OwnSteps
variable {p : Program} {l : Launch} {e : Env} {R : Room} {s : State} {m : MethodId} {args : Array Value} {below : List Frame} {meth : Method} {c : Code} {T : State} {n0 : Nat} {h : Heap} {cells slots : Nat} {cs sl : Nat} {Φ : Outcome → State → List Loc → Prop} {Q : Option Value → Heap → Prop} {pc pc' : Nat} {L L' : Array Slot} {S : List Value} {bs : ByteArray} {Z : State} {a0 : Array Value}
theorem Gl.st {U V : State} (q : ∀ t, Steps p.tables e below V t → Steps p.tables e below U t) (k : Gl p e below n0 Φ Q V) : Gl p e below n0 Φ Q U := by
  obtain ⟨t, o, h1, h2⟩ := k; exact ⟨t, o, q _ h1, h2⟩
theorem Gl.mono {U : State} {Q' : Option Value → Heap → Prop} (q : ∀ v h, Q v h → Q' v h) (k : Gl p e below n0 Φ Q U) : Gl p e below n0 Φ Q' U := by
  obtain ⟨t, o, h1, h2, h3, v, L, h4, ⟨h5, h6⟩, h7⟩ := k; exact ⟨t, o, h1, h2, h3, v, L, h4, ⟨q _ _ h5, h6⟩, h7⟩
theorem g_iload (X : St p l e R s m args below meth c n0 T h cells slots) (hx : p.tables.exec = Jvm.exec) (hby : c.code = bs) {k : Nat} {v : Int32} (hd : decode bs pc = .ok (.iload k, 2)) (hl : L[k]? = some (.val (.int v))) (hp : pc + 2 = pc') (K : Gl p e below n0 Φ Q (T.setTop (mkF m pc' L (.int v :: S)))) : Gl p e below n0 Φ Q (T.setTop (mkF m pc L S)) := by
  obtain ⟨locs, Y, -, -⟩ := X; subst hp; exact Gl.st (fun t k => XS.iload Y.here hx rfl (hb hby hd) hl k) K
theorem g_iloadN (X : St p l e R s m args below meth c n0 T h cells slots) (hx : p.tables.exec = Jvm.exec) (hby : c.code = bs) {k : Fin 4} {v : Int32} (hd : decode bs pc = .ok (.iload_n k, 1)) (hl : L[k.val]? = some (.val (.int v))) (hp : pc + 1 = pc') (K : Gl p e below n0 Φ Q (T.setTop (mkF m pc' L (.int v :: S)))) : Gl p e below n0 Φ Q (T.setTop (mkF m pc L S)) := by
  obtain ⟨locs, Y, -, -⟩ := X; subst hp; exact Gl.st (fun t k => XS.iloadN Y.here hx rfl (hb hby hd) hl k) K
theorem g_lload (X : St p l e R s m args below meth c n0 T h cells slots) (hx : p.tables.exec = Jvm.exec) (hby : c.code = bs) {k : Nat} {v : Int64} (hd : decode bs pc = .ok (.lload k, 2)) (hl : L[k]? = some (.val (.long v))) (hp : pc + 2 = pc') (K : Gl p e below n0 Φ Q (T.setTop (mkF m pc' L (.long v :: S)))) : Gl p e below n0 Φ Q (T.setTop (mkF m pc L S)) := by
  obtain ⟨locs, Y, -, -⟩ := X; subst hp; exact Gl.st (fun t k => XS.lload Y.here hx rfl (hb hby hd) hl k) K
theorem g_lloadN (X : St p l e R s m args below meth c n0 T h cells slots) (hx : p.tables.exec = Jvm.exec) (hby : c.code = bs) {k : Fin 4} {v : Int64} (hd : decode bs pc = .ok (.lload_n k, 1)) (hl : L[k.val]? = some (.val (.long v))) (hp : pc + 1 = pc') (K : Gl p e below n0 Φ Q (T.setTop (mkF m pc' L (.long v :: S)))) : Gl p e below n0 Φ Q (T.setTop (mkF m pc L S)) := by
  obtain ⟨locs, Y, -, -⟩ := X; subst hp; exact Gl.st (fun t k => XS.lloadN Y.here hx rfl (hb hby hd) hl k) K
theorem g_aload (X : St p l e R s m args below meth c n0 T h cells slots) (hx : p.tables.exec = Jvm.exec) (hby : c.code = bs) {k : Nat} {v : Value} (hd : decode bs pc = .ok (.aload k, 2)) (hl : L[k]? = some (.val v)) (hv : v.isRef = true) (hp : pc + 2 = pc') (K : Gl p e below n0 Φ Q (T.setTop (mkF m pc' L (v :: S)))) : Gl p e below n0 Φ Q (T.setTop (mkF m pc L S)) := by
  obtain ⟨locs, Y, -, -⟩ := X; subst hp; exact Gl.st (fun t k => XS.aload Y.here hx rfl (hb hby hd) hl hv k) K
theorem g_aloadN (X : St p l e R s m args below meth c n0 T h cells slots) (hx : p.tables.exec = Jvm.exec) (hby : c.code = bs) {k : Fin 4} {v : Value} (hd : decode bs pc = .ok (.aload_n k, 1)) (hl : L[k.val]? = some (.val v)) (hv : v.isRef = true) (hp : pc + 1 = pc') (K : Gl p e below n0 Φ Q (T.setTop (mkF m pc' L (v :: S)))) : Gl p e below n0 Φ Q (T.setTop (mkF m pc L S)) := by
  obtain ⟨locs, Y, -, -⟩ := X; subst hp; exact Gl.st (fun t k => XS.aloadN Y.here hx rfl (hb hby hd) hl hv k) K
theorem g_istore (X : St p l e R s m args below meth c n0 T h cells slots) (hx : p.tables.exec = Jvm.exec) (hby : c.code = bs) {k : Nat} {v : Int32} (hd : decode bs pc = .ok (.istore k, 2)) (hl : storeLocals L k (.int v) = some L') (hp : pc + 2 = pc') (K : Gl p e below n0 Φ Q (T.setTop (mkF m pc' L' S))) : Gl p e below n0 Φ Q (T.setTop (mkF m pc L (.int v :: S))) := by
  obtain ⟨locs, Y, -, -⟩ := X; subst hp; exact Gl.st (fun t k => XS.istore Y.here hx rfl (hb hby hd) rfl hl k) K
theorem g_istoreN (X : St p l e R s m args below meth c n0 T h cells slots) (hx : p.tables.exec = Jvm.exec) (hby : c.code = bs) {k : Fin 4} {v : Int32} (hd : decode bs pc = .ok (.istore_n k, 1)) (hl : storeLocals L k.val (.int v) = some L') (hp : pc + 1 = pc') (K : Gl p e below n0 Φ Q (T.setTop (mkF m pc' L' S))) : Gl p e below n0 Φ Q (T.setTop (mkF m pc L (.int v :: S))) := by
  obtain ⟨locs, Y, -, -⟩ := X; subst hp; exact Gl.st (fun t k => XS.istoreN Y.here hx rfl (hb hby hd) rfl hl k) K
theorem g_lstore (X : St p l e R s m args below meth c n0 T h cells slots) (hx : p.tables.exec = Jvm.exec) (hby : c.code = bs) {k : Nat} {v : Int64} (hd : decode bs pc = .ok (.lstore k, 2)) (hl : storeLocals L k (.long v) = some L') (hp : pc + 2 = pc') (K : Gl p e below n0 Φ Q (T.setTop (mkF m pc' L' S))) : Gl p e below n0 Φ Q (T.setTop (mkF m pc L (.long v :: S))) := by
  obtain ⟨locs, Y, -, -⟩ := X; subst hp; exact Gl.st (fun t k => XS.lstore Y.here hx rfl (hb hby hd) rfl hl k) K
theorem g_lstoreN (X : St p l e R s m args below meth c n0 T h cells slots) (hx : p.tables.exec = Jvm.exec) (hby : c.code = bs) {k : Fin 4} {v : Int64} (hd : decode bs pc = .ok (.lstore_n k, 1)) (hl : storeLocals L k.val (.long v) = some L') (hp : pc + 1 = pc') (K : Gl p e below n0 Φ Q (T.setTop (mkF m pc' L' S))) : Gl p e below n0 Φ Q (T.setTop (mkF m pc L (.long v :: S))) := by
  obtain ⟨locs, Y, -, -⟩ := X; subst hp; exact Gl.st (fun t k => XS.lstoreN Y.here hx rfl (hb hby hd) rfl hl k) K
theorem g_astore (X : St p l e R s m args below meth c n0 T h cells slots) (hx : p.tables.exec = Jvm.exec) (hby : c.code = bs) {k : Nat} {v : Value} (hd : decode bs pc = .ok (.astore k, 2)) (hv : v.isRef = true) (hl : storeLocals L k v = some L') (hp : pc + 2 = pc') (K : Gl p e below n0 Φ Q (T.setTop (mkF m pc' L' S))) : Gl p e below n0 Φ Q (T.setTop (mkF m pc L (v :: S))) := by
  obtain ⟨locs, Y, -, -⟩ := X; subst hp; exact Gl.st (fun t k => XS.astore Y.here hx rfl (hb hby hd) rfl hv hl k) K
theorem g_astoreN (X : St p l e R s m args below meth c n0 T h cells slots) (hx : p.tables.exec = Jvm.exec) (hby : c.code = bs) {k : Fin 4} {v : Value} (hd : decode bs pc = .ok (.astore_n k, 1)) (hv : v.isRef = true) (hl : storeLocals L k.val v = some L') (hp : pc + 1 = pc') (K : Gl p e below n0 Φ Q (T.setTop (mkF m pc' L' S))) : Gl p e below n0 Φ Q (T.setTop (mkF m pc L (v :: S))) := by
  obtain ⟨locs, Y, -, -⟩ := X; subst hp; exact Gl.st (fun t k => XS.astoreN Y.here hx rfl (hb hby hd) rfl hv hl k) K
theorem g_iconst (X : St p l e R s m args below meth c n0 T h cells slots) (hx : p.tables.exec = Jvm.exec) (hby : c.code = bs) {i : Int} {v : Int32} (hd : decode bs pc = .ok (.iconst i, 1)) (hv : Int32.ofInt i = v) (hp : pc + 1 = pc') (K : Gl p e below n0 Φ Q (T.setTop (mkF m pc' L (.int v :: S)))) : Gl p e below n0 Φ Q (T.setTop (mkF m pc L S)) := by
  obtain ⟨locs, Y, -, -⟩ := X; subst hp hv; exact Gl.st (fun t k => XS.iconst Y.here hx rfl (hb hby hd) k) K
theorem g_bipush (X : St p l e R s m args below meth c n0 T h cells slots) (hx : p.tables.exec = Jvm.exec) (hby : c.code = bs) {i : Int} {v : Int32} (hd : decode bs pc = .ok (.bipush i, 2)) (hv : (Int8.ofInt i).toInt32 = v) (hp : pc + 2 = pc') (K : Gl p e below n0 Φ Q (T.setTop (mkF m pc' L (.int v :: S)))) : Gl p e below n0 Φ Q (T.setTop (mkF m pc L S)) := by
  obtain ⟨locs, Y, -, -⟩ := X; subst hp hv; exact Gl.st (fun t k => XS.bipush Y.here hx rfl (hb hby hd) k) K
theorem g_sipush (X : St p l e R s m args below meth c n0 T h cells slots) (hx : p.tables.exec = Jvm.exec) (hby : c.code = bs) {i : Int} {v : Int32} (hd : decode bs pc = .ok (.sipush i, 3)) (hv : (Int16.ofInt i).toInt32 = v) (hp : pc + 3 = pc') (K : Gl p e below n0 Φ Q (T.setTop (mkF m pc' L (.int v :: S)))) : Gl p e below n0 Φ Q (T.setTop (mkF m pc L S)) := by
  obtain ⟨locs, Y, -, -⟩ := X; subst hp hv; exact Gl.st (fun t k => XS.sipush Y.here hx rfl (hb hby hd) k) K
theorem g_lconst (X : St p l e R s m args below meth c n0 T h cells slots) (hx : p.tables.exec = Jvm.exec) (hby : c.code = bs) {i : Fin 2} {v : Int64} (hd : decode bs pc = .ok (.lconst i, 1)) (hv : Int64.ofNat i = v) (hp : pc + 1 = pc') (K : Gl p e below n0 Φ Q (T.setTop (mkF m pc' L (.long v :: S)))) : Gl p e below n0 Φ Q (T.setTop (mkF m pc L S)) := by
  obtain ⟨locs, Y, -, -⟩ := X; subst hp hv; exact Gl.st (fun t k => XS.lconst Y.here hx rfl (hb hby hd) k) K
theorem g_aconst_null (X : St p l e R s m args below meth c n0 T h cells slots) (hx : p.tables.exec = Jvm.exec) (hby : c.code = bs) (hd : decode bs pc = .ok (.aconst_null, 1)) (hp : pc + 1 = pc') (K : Gl p e below n0 Φ Q (T.setTop (mkF m pc' L (.null :: S)))) : Gl p e below n0 Φ Q (T.setTop (mkF m pc L S)) := by
  obtain ⟨locs, Y, -, -⟩ := X; subst hp; exact Gl.st (fun t k => XS.aconstNull Y.here hx rfl (hb hby hd) k) K
theorem g_ldc (X : St p l e R s m args below meth c n0 T h cells slots) (hx : p.tables.exec = Jvm.exec) (hby : c.code = bs) (hZ : Z.Warmed39 s.vm) {own : String} {index : Nat} {v : Int32} (hown : s.vm.findClass own = some m.cls) (w : (Cond.constant own index v).before a0 Z = true) (hd : decode bs pc = .ok (.ldc index, 2)) (hp : pc + 2 = pc') (K : Gl p e below n0 Φ Q (T.setTop (mkF m pc' L (.int v :: S)))) : Gl p e below n0 Φ Q (T.setTop (mkF m pc L S)) := by
  obtain ⟨locs, Y, -, -⟩ := X; subst hp; exact Gl.st (Y.ldcInt hx hown (mvT hZ w) (g := mkF m pc L S) rfl (hb hby hd)) K
theorem g_ldc2_w (X : St p l e R s m args below meth c n0 T h cells slots) (hx : p.tables.exec = Jvm.exec) (hby : c.code = bs) (hZ : Z.Warmed39 s.vm) {own : String} {index : Nat} {v : Int64} (hown : s.vm.findClass own = some m.cls) (w : (Cond.constantLong own index v).before a0 Z = true) (hd : decode bs pc = .ok (.ldc2_w index, 3)) (hp : pc + 3 = pc') (K : Gl p e below n0 Φ Q (T.setTop (mkF m pc' L (.long v :: S)))) : Gl p e below n0 Φ Q (T.setTop (mkF m pc L S)) := by
  obtain ⟨locs, Y, -, -⟩ := X; subst hp; exact Gl.st (Y.ldc2Long hx hown (mvT hZ w) (g := mkF m pc L S) rfl (hb hby hd)) K
theorem g_iadd (X : St p l e R s m args below meth c n0 T h cells slots) (hx : p.tables.exec = Jvm.exec) (hby : c.code = bs) {x y : Int32} (hd : decode bs pc = .ok (.iadd, 1))  (hp : pc + 1 = pc') (K : Gl p e below n0 Φ Q (T.setTop (mkF m pc' L (.int (x + y) :: S)))) : Gl p e below n0 Φ Q (T.setTop (mkF m pc L (.int y :: .int x :: S))) := by
  obtain ⟨locs, Y, -, -⟩ := X; subst hp; exact Gl.st (fun t k => XS.iadd Y.here hx rfl (hb hby hd) rfl k) K
theorem g_isub (X : St p l e R s m args below meth c n0 T h cells slots) (hx : p.tables.exec = Jvm.exec) (hby : c.code = bs) {x y : Int32} (hd : decode bs pc = .ok (.isub, 1))  (hp : pc + 1 = pc') (K : Gl p e below n0 Φ Q (T.setTop (mkF m pc' L (.int (x - y) :: S)))) : Gl p e below n0 Φ Q (T.setTop (mkF m pc L (.int y :: .int x :: S))) := by
  obtain ⟨locs, Y, -, -⟩ := X; subst hp; exact Gl.st (fun t k => XS.isub Y.here hx rfl (hb hby hd) rfl k) K
theorem g_imul (X : St p l e R s m args below meth c n0 T h cells slots) (hx : p.tables.exec = Jvm.exec) (hby : c.code = bs) {x y : Int32} (hd : decode bs pc = .ok (.imul, 1))  (hp : pc + 1 = pc') (K : Gl p e below n0 Φ Q (T.setTop (mkF m pc' L (.int (x * y) :: S)))) : Gl p e below n0 Φ Q (T.setTop (mkF m pc L (.int y :: .int x :: S))) := by
  obtain ⟨locs, Y, -, -⟩ := X; subst hp; exact Gl.st (fun t k => XS.imul Y.here hx rfl (hb hby hd) rfl k) K
theorem g_iand (X : St p l e R s m args below meth c n0 T h cells slots) (hx : p.tables.exec = Jvm.exec) (hby : c.code = bs) {x y : Int32} (hd : decode bs pc = .ok (.iand, 1))  (hp : pc + 1 = pc') (K : Gl p e below n0 Φ Q (T.setTop (mkF m pc' L (.int (x &&& y) :: S)))) : Gl p e below n0 Φ Q (T.setTop (mkF m pc L (.int y :: .int x :: S))) := by
  obtain ⟨locs, Y, -, -⟩ := X; subst hp; exact Gl.st (fun t k => XS.iand Y.here hx rfl (hb hby hd) rfl k) K
theorem g_ior (X : St p l e R s m args below meth c n0 T h cells slots) (hx : p.tables.exec = Jvm.exec) (hby : c.code = bs) {x y : Int32} (hd : decode bs pc = .ok (.ior, 1))  (hp : pc + 1 = pc') (K : Gl p e below n0 Φ Q (T.setTop (mkF m pc' L (.int (x ||| y) :: S)))) : Gl p e below n0 Φ Q (T.setTop (mkF m pc L (.int y :: .int x :: S))) := by
  obtain ⟨locs, Y, -, -⟩ := X; subst hp; exact Gl.st (fun t k => XS.ior Y.here hx rfl (hb hby hd) rfl k) K
theorem g_ixor (X : St p l e R s m args below meth c n0 T h cells slots) (hx : p.tables.exec = Jvm.exec) (hby : c.code = bs) {x y : Int32} (hd : decode bs pc = .ok (.ixor, 1))  (hp : pc + 1 = pc') (K : Gl p e below n0 Φ Q (T.setTop (mkF m pc' L (.int (x ^^^ y) :: S)))) : Gl p e below n0 Φ Q (T.setTop (mkF m pc L (.int y :: .int x :: S))) := by
  obtain ⟨locs, Y, -, -⟩ := X; subst hp; exact Gl.st (fun t k => XS.ixor Y.here hx rfl (hb hby hd) rfl k) K
theorem g_ishl (X : St p l e R s m args below meth c n0 T h cells slots) (hx : p.tables.exec = Jvm.exec) (hby : c.code = bs) {x y : Int32} (hd : decode bs pc = .ok (.ishl, 1))  (hp : pc + 1 = pc') (K : Gl p e below n0 Φ Q (T.setTop (mkF m pc' L (.int (x <<< (y &&& 31)) :: S)))) : Gl p e below n0 Φ Q (T.setTop (mkF m pc L (.int y :: .int x :: S))) := by
  obtain ⟨locs, Y, -, -⟩ := X; subst hp; exact Gl.st (fun t k => XS.ishl Y.here hx rfl (hb hby hd) rfl k) K
theorem g_ishr (X : St p l e R s m args below meth c n0 T h cells slots) (hx : p.tables.exec = Jvm.exec) (hby : c.code = bs) {x y : Int32} (hd : decode bs pc = .ok (.ishr, 1))  (hp : pc + 1 = pc') (K : Gl p e below n0 Φ Q (T.setTop (mkF m pc' L (.int (x >>> (y &&& 31)) :: S)))) : Gl p e below n0 Φ Q (T.setTop (mkF m pc L (.int y :: .int x :: S))) := by
  obtain ⟨locs, Y, -, -⟩ := X; subst hp; exact Gl.st (fun t k => XS.ishr Y.here hx rfl (hb hby hd) rfl k) K
theorem g_iushr (X : St p l e R s m args below meth c n0 T h cells slots) (hx : p.tables.exec = Jvm.exec) (hby : c.code = bs) {x y : Int32} (hd : decode bs pc = .ok (.iushr, 1))  (hp : pc + 1 = pc') (K : Gl p e below n0 Φ Q (T.setTop (mkF m pc' L (.int ((x.toUInt32 >>> (y &&& 31).toUInt32).toInt32) :: S)))) : Gl p e below n0 Φ Q (T.setTop (mkF m pc L (.int y :: .int x :: S))) := by
  obtain ⟨locs, Y, -, -⟩ := X; subst hp; exact Gl.st (fun t k => XS.iushr Y.here hx rfl (hb hby hd) rfl k) K
theorem g_ladd (X : St p l e R s m args below meth c n0 T h cells slots) (hx : p.tables.exec = Jvm.exec) (hby : c.code = bs) {x y : Int64} (hd : decode bs pc = .ok (.ladd, 1))  (hp : pc + 1 = pc') (K : Gl p e below n0 Φ Q (T.setTop (mkF m pc' L (.long (x + y) :: S)))) : Gl p e below n0 Φ Q (T.setTop (mkF m pc L (.long y :: .long x :: S))) := by
  obtain ⟨locs, Y, -, -⟩ := X; subst hp; exact Gl.st (fun t k => XS.ladd Y.here hx rfl (hb hby hd) rfl k) K
theorem g_lsub (X : St p l e R s m args below meth c n0 T h cells slots) (hx : p.tables.exec = Jvm.exec) (hby : c.code = bs) {x y : Int64} (hd : decode bs pc = .ok (.lsub, 1))  (hp : pc + 1 = pc') (K : Gl p e below n0 Φ Q (T.setTop (mkF m pc' L (.long (x - y) :: S)))) : Gl p e below n0 Φ Q (T.setTop (mkF m pc L (.long y :: .long x :: S))) := by
  obtain ⟨locs, Y, -, -⟩ := X; subst hp; exact Gl.st (fun t k => XS.lsub Y.here hx rfl (hb hby hd) rfl k) K
theorem g_lmul (X : St p l e R s m args below meth c n0 T h cells slots) (hx : p.tables.exec = Jvm.exec) (hby : c.code = bs) {x y : Int64} (hd : decode bs pc = .ok (.lmul, 1))  (hp : pc + 1 = pc') (K : Gl p e below n0 Φ Q (T.setTop (mkF m pc' L (.long (x * y) :: S)))) : Gl p e below n0 Φ Q (T.setTop (mkF m pc L (.long y :: .long x :: S))) := by
  obtain ⟨locs, Y, -, -⟩ := X; subst hp; exact Gl.st (fun t k => XS.lmul Y.here hx rfl (hb hby hd) rfl k) K
theorem g_land (X : St p l e R s m args below meth c n0 T h cells slots) (hx : p.tables.exec = Jvm.exec) (hby : c.code = bs) {x y : Int64} (hd : decode bs pc = .ok (.land, 1))  (hp : pc + 1 = pc') (K : Gl p e below n0 Φ Q (T.setTop (mkF m pc' L (.long (x &&& y) :: S)))) : Gl p e below n0 Φ Q (T.setTop (mkF m pc L (.long y :: .long x :: S))) := by
  obtain ⟨locs, Y, -, -⟩ := X; subst hp; exact Gl.st (fun t k => XS.land Y.here hx rfl (hb hby hd) rfl k) K
theorem g_lor (X : St p l e R s m args below meth c n0 T h cells slots) (hx : p.tables.exec = Jvm.exec) (hby : c.code = bs) {x y : Int64} (hd : decode bs pc = .ok (.lor, 1))  (hp : pc + 1 = pc') (K : Gl p e below n0 Φ Q (T.setTop (mkF m pc' L (.long (x ||| y) :: S)))) : Gl p e below n0 Φ Q (T.setTop (mkF m pc L (.long y :: .long x :: S))) := by
  obtain ⟨locs, Y, -, -⟩ := X; subst hp; exact Gl.st (fun t k => XS.lor Y.here hx rfl (hb hby hd) rfl k) K
theorem g_lxor (X : St p l e R s m args below meth c n0 T h cells slots) (hx : p.tables.exec = Jvm.exec) (hby : c.code = bs) {x y : Int64} (hd : decode bs pc = .ok (.lxor, 1))  (hp : pc + 1 = pc') (K : Gl p e below n0 Φ Q (T.setTop (mkF m pc' L (.long (x ^^^ y) :: S)))) : Gl p e below n0 Φ Q (T.setTop (mkF m pc L (.long y :: .long x :: S))) := by
  obtain ⟨locs, Y, -, -⟩ := X; subst hp; exact Gl.st (fun t k => XS.lxor Y.here hx rfl (hb hby hd) rfl k) K
theorem g_lushr (X : St p l e R s m args below meth c n0 T h cells slots) (hx : p.tables.exec = Jvm.exec) (hby : c.code = bs) {x : Int64} {y : Int32} (hd : decode bs pc = .ok (.lushr, 1))  (hp : pc + 1 = pc') (K : Gl p e below n0 Φ Q (T.setTop (mkF m pc' L (.long ((x.toUInt64 >>> (y &&& 0x3f).toInt64.toUInt64).toInt64) :: S)))) : Gl p e below n0 Φ Q (T.setTop (mkF m pc L (.int y :: .long x :: S))) := by
  obtain ⟨locs, Y, -, -⟩ := X; subst hp; exact Gl.st (fun t k => XS.lushr Y.here hx rfl (hb hby hd) rfl k) K
theorem g_irem (X : St p l e R s m args below meth c n0 T h cells slots) (hx : p.tables.exec = Jvm.exec) (hby : c.code = bs) {x y : Int32} (hd : decode bs pc = .ok (.irem, 1)) (hy : y ≠ 0) (hp : pc + 1 = pc') (K : Gl p e below n0 Φ Q (T.setTop (mkF m pc' L (.int (x % y) :: S)))) : Gl p e below n0 Φ Q (T.setTop (mkF m pc L (.int y :: .int x :: S))) := by
  obtain ⟨locs, Y, -, -⟩ := X; subst hp; exact Gl.st (fun t k => iremM Y hx rfl (hb hby hd) rfl hy k) K
theorem g_lrem (X : St p l e R s m args below meth c n0 T h cells slots) (hx : p.tables.exec = Jvm.exec) (hby : c.code = bs) {x y : Int64} (hd : decode bs pc = .ok (.lrem, 1)) (hy : y ≠ 0) (hp : pc + 1 = pc') (K : Gl p e below n0 Φ Q (T.setTop (mkF m pc' L (.long (x - (x / y) * y) :: S)))) : Gl p e below n0 Φ Q (T.setTop (mkF m pc L (.long y :: .long x :: S))) := by
  obtain ⟨locs, Y, -, -⟩ := X; subst hp; exact Gl.st (fun t k => XS.lrem Y.here hx rfl (hb hby hd) rfl hy k) K
theorem g_i2l (X : St p l e R s m args below meth c n0 T h cells slots) (hx : p.tables.exec = Jvm.exec) (hby : c.code = bs) {x : Int32} (hd : decode bs pc = .ok (.i2l, 1))  (hp : pc + 1 = pc') (K : Gl p e below n0 Φ Q (T.setTop (mkF m pc' L (.long (x.toInt64) :: S)))) : Gl p e below n0 Φ Q (T.setTop (mkF m pc L (.int x :: S))) := by
  obtain ⟨locs, Y, -, -⟩ := X; subst hp; exact Gl.st (fun t k => XS.i2l Y.here hx rfl (hb hby hd) rfl k) K
theorem g_l2i (X : St p l e R s m args below meth c n0 T h cells slots) (hx : p.tables.exec = Jvm.exec) (hby : c.code = bs) {x : Int64} (hd : decode bs pc = .ok (.l2i, 1))  (hp : pc + 1 = pc') (K : Gl p e below n0 Φ Q (T.setTop (mkF m pc' L (.int (x.toInt32) :: S)))) : Gl p e below n0 Φ Q (T.setTop (mkF m pc L (.long x :: S))) := by
  obtain ⟨locs, Y, -, -⟩ := X; subst hp; exact Gl.st (fun t k => XS.l2i Y.here hx rfl (hb hby hd) rfl k) K
theorem g_i2b (X : St p l e R s m args below meth c n0 T h cells slots) (hx : p.tables.exec = Jvm.exec) (hby : c.code = bs) {x : Int32} (hd : decode bs pc = .ok (.i2b, 1))  (hp : pc + 1 = pc') (K : Gl p e below n0 Φ Q (T.setTop (mkF m pc' L (.int (x.toInt8.toInt32) :: S)))) : Gl p e below n0 Φ Q (T.setTop (mkF m pc L (.int x :: S))) := by
  obtain ⟨locs, Y, -, -⟩ := X; subst hp; exact Gl.st (fun t k => XS.i2b Y.here hx rfl (hb hby hd) rfl k) K
theorem g_i2c (X : St p l e R s m args below meth c n0 T h cells slots) (hx : p.tables.exec = Jvm.exec) (hby : c.code = bs) {x : Int32} (hd : decode bs pc = .ok (.i2c, 1))  (hp : pc + 1 = pc') (K : Gl p e below n0 Φ Q (T.setTop (mkF m pc' L (.int (x.toUInt32.toUInt16.toUInt32.toInt32) :: S)))) : Gl p e below n0 Φ Q (T.setTop (mkF m pc L (.int x :: S))) := by
  obtain ⟨locs, Y, -, -⟩ := X; subst hp; exact Gl.st (fun t k => XS.i2c Y.here hx rfl (hb hby hd) rfl k) K
theorem g_ineg (X : St p l e R s m args below meth c n0 T h cells slots) (hx : p.tables.exec = Jvm.exec) (hby : c.code = bs) {x : Int32} (hd : decode bs pc = .ok (.ineg, 1))  (hp : pc + 1 = pc') (K : Gl p e below n0 Φ Q (T.setTop (mkF m pc' L (.int (-x) :: S)))) : Gl p e below n0 Φ Q (T.setTop (mkF m pc L (.int x :: S))) := by
  obtain ⟨locs, Y, -, -⟩ := X; subst hp; exact Gl.st (fun t k => XS.ineg Y.here hx rfl (hb hby hd) rfl k) K
theorem g_dload (X : St p l e R s m args below meth c n0 T h cells slots) (hx : p.tables.exec = Jvm.exec) (hby : c.code = bs) {k : Nat} {v : UInt64} (hd : decode bs pc = .ok (.dload k, 2)) (hl : L[k]? = some (.val (.double v))) (hp : pc + 2 = pc') (K : Gl p e below n0 Φ Q (T.setTop (mkF m pc' L (.double v :: S)))) : Gl p e below n0 Φ Q (T.setTop (mkF m pc L S)) := by
  obtain ⟨locs, Y, -, -⟩ := X; subst hp; exact Gl.st (fun t k => XS.dload Y.here hx rfl (hb hby hd) hl k) K
theorem g_dloadN (X : St p l e R s m args below meth c n0 T h cells slots) (hx : p.tables.exec = Jvm.exec) (hby : c.code = bs) {k : Fin 4} {v : UInt64} (hd : decode bs pc = .ok (.dload_n k, 1)) (hl : L[k.val]? = some (.val (.double v))) (hp : pc + 1 = pc') (K : Gl p e below n0 Φ Q (T.setTop (mkF m pc' L (.double v :: S)))) : Gl p e below n0 Φ Q (T.setTop (mkF m pc L S)) := by
  obtain ⟨locs, Y, -, -⟩ := X; subst hp; exact Gl.st (fun t k => XS.dloadN Y.here hx rfl (hb hby hd) hl k) K
theorem g_dstore (X : St p l e R s m args below meth c n0 T h cells slots) (hx : p.tables.exec = Jvm.exec) (hby : c.code = bs) {k : Nat} {v : UInt64} (hd : decode bs pc = .ok (.dstore k, 2)) (hl : storeLocals L k (.double v) = some L') (hp : pc + 2 = pc') (K : Gl p e below n0 Φ Q (T.setTop (mkF m pc' L' S))) : Gl p e below n0 Φ Q (T.setTop (mkF m pc L (.double v :: S))) := by
  obtain ⟨locs, Y, -, -⟩ := X; subst hp; exact Gl.st (fun t k => XS.dstore Y.here hx rfl (hb hby hd) rfl hl k) K
theorem g_dstoreN (X : St p l e R s m args below meth c n0 T h cells slots) (hx : p.tables.exec = Jvm.exec) (hby : c.code = bs) {k : Fin 4} {v : UInt64} (hd : decode bs pc = .ok (.dstore_n k, 1)) (hl : storeLocals L k.val (.double v) = some L') (hp : pc + 1 = pc') (K : Gl p e below n0 Φ Q (T.setTop (mkF m pc' L' S))) : Gl p e below n0 Φ Q (T.setTop (mkF m pc L (.double v :: S))) := by
  obtain ⟨locs, Y, -, -⟩ := X; subst hp; exact Gl.st (fun t k => XS.dstoreN Y.here hx rfl (hb hby hd) rfl hl k) K
theorem g_i2d (X : St p l e R s m args below meth c n0 T h cells slots) (hx : p.tables.exec = Jvm.exec) (hby : c.code = bs) {x : Int32} (hd : decode bs pc = .ok (.i2d, 1))  (hp : pc + 1 = pc') (K : Gl p e below n0 Φ Q (T.setTop (mkF m pc' L (.double (FP.i2d x) :: S)))) : Gl p e below n0 Φ Q (T.setTop (mkF m pc L (.int x :: S))) := by
  obtain ⟨locs, Y, -, -⟩ := X; subst hp; exact Gl.st (fun t k => XS.i2dS Y.here hx rfl (hb hby hd) rfl rfl k) K
theorem g_dconst0 (X : St p l e R s m args below meth c n0 T h cells slots) (hx : p.tables.exec = Jvm.exec) (hby : c.code = bs) (hd : decode bs pc = .ok (.dconst 0, 1)) (hp : pc + 1 = pc') (K : Gl p e below n0 Φ Q (T.setTop (mkF m pc' L (.double FP.dconst0 :: S)))) : Gl p e below n0 Φ Q (T.setTop (mkF m pc L S)) := by
  obtain ⟨locs, Y, -, -⟩ := X; subst hp; exact Gl.st (fun t k => XS.dconst0 Y.here hx rfl (hb hby hd) rfl k) K
theorem g_dconst1 (X : St p l e R s m args below meth c n0 T h cells slots) (hx : p.tables.exec = Jvm.exec) (hby : c.code = bs) (hd : decode bs pc = .ok (.dconst 1, 1)) (hp : pc + 1 = pc') (K : Gl p e below n0 Φ Q (T.setTop (mkF m pc' L (.double FP.dconst1 :: S)))) : Gl p e below n0 Φ Q (T.setTop (mkF m pc L S)) := by
  obtain ⟨locs, Y, -, -⟩ := X; subst hp; exact Gl.st (fun t k => XS.dconst1 Y.here hx rfl (hb hby hd) rfl k) K
theorem g_ddiv (X : St p l e R s m args below meth c n0 T h cells slots) (hx : p.tables.exec = Jvm.exec) (hby : c.code = bs) {x y : UInt64} (hd : decode bs pc = .ok (.ddiv, 1)) (hn : Jvm.Free.Fl.NoNaN64 (FP.ddiv x y)) (hp : pc + 1 = pc') (K : Gl p e below n0 Φ Q (T.setTop (mkF m pc' L (.double (FP.ddiv x y) :: S)))) : Gl p e below n0 Φ Q (T.setTop (mkF m pc L (.double y :: .double x :: S))) := by
  obtain ⟨locs, Y, -, -⟩ := X; subst hp; exact Gl.st (fun t k => XS.ddivS Y.here hx rfl (hb hby hd) rfl hn rfl k) K
theorem g_dcmp (X : St p l e R s m args below meth c n0 T h cells slots) (hx : p.tables.exec = Jvm.exec) (hby : c.code = bs) {x y : UInt64} {o : CmpOp} {v : Int32} (hd : decode bs pc = .ok (.dcmp o, 1)) (hv : cmpValue (FP.dcmp x y) o = v) (hp : pc + 1 = pc') (K : Gl p e below n0 Φ Q (T.setTop (mkF m pc' L (.int v :: S)))) : Gl p e below n0 Φ Q (T.setTop (mkF m pc L (.double y :: .double x :: S))) := by
  obtain ⟨locs, Y, -, -⟩ := X; subst hp; exact Gl.st (fun t k => XS.dcmpS Y.here hx rfl (hb hby hd) rfl hv k) K
theorem g_dup (X : St p l e R s m args below meth c n0 T h cells slots) (hx : p.tables.exec = Jvm.exec) (hby : c.code = bs) {v : Value} (hd : decode bs pc = .ok (.dup, 1)) (hc : v.category = 1) (hp : pc + 1 = pc') (K : Gl p e below n0 Φ Q (T.setTop (mkF m pc' L (v :: v :: S)))) : Gl p e below n0 Φ Q (T.setTop (mkF m pc L (v :: S))) := by
  obtain ⟨locs, Y, -, -⟩ := X; subst hp; exact Gl.st (fun t k => XS.dup Y.here hx rfl (hb hby hd) rfl hc k) K
theorem g_pop (X : St p l e R s m args below meth c n0 T h cells slots) (hx : p.tables.exec = Jvm.exec) (hby : c.code = bs) {v : Value} (hd : decode bs pc = .ok (.pop, 1)) (hc : v.category = 1) (hp : pc + 1 = pc') (K : Gl p e below n0 Φ Q (T.setTop (mkF m pc' L S))) : Gl p e below n0 Φ Q (T.setTop (mkF m pc L (v :: S))) := by
  obtain ⟨locs, Y, -, -⟩ := X; subst hp; exact Gl.st (fun t k => XS.pop Y.here hx rfl (hb hby hd) rfl hc k) K
theorem g_dup2 (X : St p l e R s m args below meth c n0 T h cells slots) (hx : p.tables.exec = Jvm.exec) (hby : c.code = bs) {v w : Value} (hd : decode bs pc = .ok (.dup2, 1)) (hc : v.category = 1) (hc' : w.category = 1) (hp : pc + 1 = pc') (K : Gl p e below n0 Φ Q (T.setTop (mkF m pc' L (v :: w :: v :: w :: S)))) : Gl p e below n0 Φ Q (T.setTop (mkF m pc L (v :: w :: S))) := by
  obtain ⟨locs, Y, -, -⟩ := X; subst hp; exact Gl.st (fun t k => XT.dup2 Y.here hx rfl (hb hby hd) rfl hc hc' k) K
theorem g_iinc (X : St p l e R s m args below meth c n0 T h cells slots) (hx : p.tables.exec = Jvm.exec) (hby : c.code = bs) {k : Nat} {i : Int} {x y : Int32} (hd : decode bs pc = .ok (.iinc k i, 3)) (hl : L[k]? = some (.val (.int x))) (hy : Int32.ofInt i = y) (hl' : storeLocals L k (.int (x + y)) = some L') (hp : pc + 3 = pc') (K : Gl p e below n0 Φ Q (T.setTop (mkF m pc' L' S))) : Gl p e below n0 Φ Q (T.setTop (mkF m pc L S)) := by
  obtain ⟨locs, Y, -, -⟩ := X; subst hp hy; exact Gl.st (fun t k => XS.iinc Y.here hx rfl (hb hby hd) hl hl' k) K
theorem g_goto (X : St p l e R s m args below meth c n0 T h cells slots) (hx : p.tables.exec = Jvm.exec) (hby : c.code = bs) {o : Int} (hd : decode bs pc = .ok (.goto o, 3)) (ho : 0 ≤ (pc : Int) + o) (hp : ((pc : Int) + o).toNat = pc') (K : Gl p e below n0 Φ Q (T.setTop (mkF m pc' L S))) : Gl p e below n0 Φ Q (T.setTop (mkF m pc L S)) := by
  obtain ⟨locs, Y, -, -⟩ := X; exact Gl.st (fun t k => XS.goto Y.here hx rfl (pc0 := pc) rfl (hb hby hd) ho hp k) K
theorem g_icmp (X : St p l e R s m args below meth c n0 T h cells slots) (hx : p.tables.exec = Jvm.exec) (hby : c.code = bs) {cd : ClassFile.Cond} {o : Int} {x y : Int32} {pc2 : Nat} (hd : decode bs pc = .ok (.if_icmp cd o, 3)) (ho : 0 ≤ (pc : Int) + o) (hp : ((pc : Int) + o).toNat = pc') (hq : pc + 3 = pc2) (K1 : if_icmp.holds cd x y = true → Gl p e below n0 Φ Q (T.setTop (mkF m pc' L S))) (K2 : if_icmp.holds cd x y = false → Gl p e below n0 Φ Q (T.setTop (mkF m pc2 L S))) : Gl p e below n0 Φ Q (T.setTop (mkF m pc L (.int y :: .int x :: S))) := by
  obtain ⟨locs, Y, -, -⟩ := X; subst hq
  cases hc : if_icmp.holds cd x y with
  | true => exact Gl.st (fun t k => XS.icmpYes Y.here hx rfl (pc0 := pc) rfl (hb hby hd) rfl hc ho hp k) (K1 hc)
  | false => exact Gl.st (fun t k => XS.icmpNo Y.here hx rfl (hb hby hd) rfl hc k) (K2 hc)
theorem g_if (X : St p l e R s m args below meth c n0 T h cells slots) (hx : p.tables.exec = Jvm.exec) (hby : c.code = bs) {cd : ClassFile.Cond} {o : Int} {x : Int32} {pc2 : Nat} (hd : decode bs pc = .ok (.ifCond cd o, 3)) (ho : 0 ≤ (pc : Int) + o) (hp : ((pc : Int) + o).toNat = pc') (hq : pc + 3 = pc2) (K1 : if_icmp.holds cd x 0 = true → Gl p e below n0 Φ Q (T.setTop (mkF m pc' L S))) (K2 : if_icmp.holds cd x 0 = false → Gl p e below n0 Φ Q (T.setTop (mkF m pc2 L S))) : Gl p e below n0 Φ Q (T.setTop (mkF m pc L (.int x :: S))) := by
  obtain ⟨locs, Y, -, -⟩ := X; subst hq
  cases hc : if_icmp.holds cd x 0 with
  | true => exact Gl.st (fun t k => XS.ifYes Y.here hx rfl (pc0 := pc) rfl (hb hby hd) rfl ((if0 _ _).trans hc) ho hp k) (K1 hc)
  | false => exact Gl.st (fun t k => XS.ifNo Y.here hx rfl (hb hby hd) rfl ((if0 _ _).trans hc) k) (K2 hc)
theorem g_icmp_eq (X : St p l e R s m args below meth c n0 T h cells slots) (hx : p.tables.exec = Jvm.exec) (hby : c.code = bs) {o : Int} {x y : Int32} {pc2 : Nat} (hd : decode bs pc = .ok (.if_icmp .eq o, 3)) (ho : 0 ≤ (pc : Int) + o) (hp : ((pc : Int) + o).toNat = pc') (hq : pc + 3 = pc2) (K1 : x = y → Gl p e below n0 Φ Q (T.setTop (mkF m pc' L S))) (K2 : ¬ (x = y) → Gl p e below n0 Φ Q (T.setTop (mkF m pc2 L S))) : Gl p e below n0 Φ Q (T.setTop (mkF m pc L (.int y :: .int x :: S))) :=
  g_icmp X hx hby hd ho hp hq (fun q => K1 (by simpa [if_icmp.holds] using q)) (fun q => K2 (by simpa [if_icmp.holds] using q))
theorem g_if_eq (X : St p l e R s m args below meth c n0 T h cells slots) (hx : p.tables.exec = Jvm.exec) (hby : c.code = bs) {o : Int} {x : Int32} {pc2 : Nat} (hd : decode bs pc = .ok (.ifCond .eq o, 3)) (ho : 0 ≤ (pc : Int) + o) (hp : ((pc : Int) + o).toNat = pc') (hq : pc + 3 = pc2) (K1 : x = 0 → Gl p e below n0 Φ Q (T.setTop (mkF m pc' L S))) (K2 : ¬ (x = 0) → Gl p e below n0 Φ Q (T.setTop (mkF m pc2 L S))) : Gl p e below n0 Φ Q (T.setTop (mkF m pc L (.int x :: S))) :=
  g_if X hx hby hd ho hp hq (fun q => K1 (by simpa [if_icmp.holds] using q)) (fun q => K2 (by simpa [if_icmp.holds] using q))
theorem g_lcmp_eq (X : St p l e R s m args below meth c n0 T h cells slots) (hx : p.tables.exec = Jvm.exec) (hby : c.code = bs) {o : Int} {x y : Int64} {pc1 pc2 : Nat} (hd1 : decode bs pc = .ok (.lcmp, 1)) (hp1 : pc + 1 = pc1) (hd : decode bs pc1 = .ok (.ifCond .eq o, 3)) (ho : 0 ≤ (pc1 : Int) + o) (hp : ((pc1 : Int) + o).toNat = pc') (hq : pc1 + 3 = pc2) (K1 : x = y → Gl p e below n0 Φ Q (T.setTop (mkF m pc' L S))) (K2 : ¬ (x = y) → Gl p e below n0 Φ Q (T.setTop (mkF m pc2 L S))) : Gl p e below n0 Φ Q (T.setTop (mkF m pc L (.long y :: .long x :: S))) := by
  obtain ⟨locs, Y, b1, b2⟩ := X; subst hp1
  refine Gl.st (V := T.setTop (mkF m (pc + 1) L (.int (lcmpW x y) :: S))) (fun t k => XS.lcmp Y.here hx rfl (hb hby hd1) rfl k) ?_
  exact g_if_eq ⟨locs, Y, b1, b2⟩ hx hby hd ho hp hq (fun q => K1 (by simpa [lw_lt, lw_gt, lw_eq] using q)) (fun q => K2 (by simpa [lw_lt, lw_gt, lw_eq] using q))
theorem g_icmp_ne (X : St p l e R s m args below meth c n0 T h cells slots) (hx : p.tables.exec = Jvm.exec) (hby : c.code = bs) {o : Int} {x y : Int32} {pc2 : Nat} (hd : decode bs pc = .ok (.if_icmp .ne o, 3)) (ho : 0 ≤ (pc : Int) + o) (hp : ((pc : Int) + o).toNat = pc') (hq : pc + 3 = pc2) (K1 : ¬ (x = y) → Gl p e below n0 Φ Q (T.setTop (mkF m pc' L S))) (K2 : x = y → Gl p e below n0 Φ Q (T.setTop (mkF m pc2 L S))) : Gl p e below n0 Φ Q (T.setTop (mkF m pc L (.int y :: .int x :: S))) :=
  g_icmp X hx hby hd ho hp hq (fun q => K1 (by simpa [if_icmp.holds] using q)) (fun q => K2 (by simpa [if_icmp.holds] using q))
theorem g_if_ne (X : St p l e R s m args below meth c n0 T h cells slots) (hx : p.tables.exec = Jvm.exec) (hby : c.code = bs) {o : Int} {x : Int32} {pc2 : Nat} (hd : decode bs pc = .ok (.ifCond .ne o, 3)) (ho : 0 ≤ (pc : Int) + o) (hp : ((pc : Int) + o).toNat = pc') (hq : pc + 3 = pc2) (K1 : ¬ (x = 0) → Gl p e below n0 Φ Q (T.setTop (mkF m pc' L S))) (K2 : x = 0 → Gl p e below n0 Φ Q (T.setTop (mkF m pc2 L S))) : Gl p e below n0 Φ Q (T.setTop (mkF m pc L (.int x :: S))) :=
  g_if X hx hby hd ho hp hq (fun q => K1 (by simpa [if_icmp.holds] using q)) (fun q => K2 (by simpa [if_icmp.holds] using q))
theorem g_lcmp_ne (X : St p l e R s m args below meth c n0 T h cells slots) (hx : p.tables.exec = Jvm.exec) (hby : c.code = bs) {o : Int} {x y : Int64} {pc1 pc2 : Nat} (hd1 : decode bs pc = .ok (.lcmp, 1)) (hp1 : pc + 1 = pc1) (hd : decode bs pc1 = .ok (.ifCond .ne o, 3)) (ho : 0 ≤ (pc1 : Int) + o) (hp : ((pc1 : Int) + o).toNat = pc') (hq : pc1 + 3 = pc2) (K1 : ¬ (x = y) → Gl p e below n0 Φ Q (T.setTop (mkF m pc' L S))) (K2 : x = y → Gl p e below n0 Φ Q (T.setTop (mkF m pc2 L S))) : Gl p e below n0 Φ Q (T.setTop (mkF m pc L (.long y :: .long x :: S))) := by
  obtain ⟨locs, Y, b1, b2⟩ := X; subst hp1
  refine Gl.st (V := T.setTop (mkF m (pc + 1) L (.int (lcmpW x y) :: S))) (fun t k => XS.lcmp Y.here hx rfl (hb hby hd1) rfl k) ?_
  exact g_if_ne ⟨locs, Y, b1, b2⟩ hx hby hd ho hp hq (fun q => K1 (by simpa [lw_lt, lw_gt, lw_eq] using q)) (fun q => K2 (by simpa [lw_lt, lw_gt, lw_eq] using q))
theorem g_icmp_lt (X : St p l e R s m args below meth c n0 T h cells slots) (hx : p.tables.exec = Jvm.exec) (hby : c.code = bs) {o : Int} {x y : Int32} {pc2 : Nat} (hd : decode bs pc = .ok (.if_icmp .lt o, 3)) (ho : 0 ≤ (pc : Int) + o) (hp : ((pc : Int) + o).toNat = pc') (hq : pc + 3 = pc2) (K1 : x < y → Gl p e below n0 Φ Q (T.setTop (mkF m pc' L S))) (K2 : ¬ (x < y) → Gl p e below n0 Φ Q (T.setTop (mkF m pc2 L S))) : Gl p e below n0 Φ Q (T.setTop (mkF m pc L (.int y :: .int x :: S))) :=
  g_icmp X hx hby hd ho hp hq (fun q => K1 (by simpa [if_icmp.holds] using q)) (fun q => K2 (by simpa [if_icmp.holds] using q))
theorem g_if_lt (X : St p l e R s m args below meth c n0 T h cells slots) (hx : p.tables.exec = Jvm.exec) (hby : c.code = bs) {o : Int} {x : Int32} {pc2 : Nat} (hd : decode bs pc = .ok (.ifCond .lt o, 3)) (ho : 0 ≤ (pc : Int) + o) (hp : ((pc : Int) + o).toNat = pc') (hq : pc + 3 = pc2) (K1 : x < 0 → Gl p e below n0 Φ Q (T.setTop (mkF m pc' L S))) (K2 : ¬ (x < 0) → Gl p e below n0 Φ Q (T.setTop (mkF m pc2 L S))) : Gl p e below n0 Φ Q (T.setTop (mkF m pc L (.int x :: S))) :=
  g_if X hx hby hd ho hp hq (fun q => K1 (by simpa [if_icmp.holds] using q)) (fun q => K2 (by simpa [if_icmp.holds] using q))
theorem g_lcmp_lt (X : St p l e R s m args below meth c n0 T h cells slots) (hx : p.tables.exec = Jvm.exec) (hby : c.code = bs) {o : Int} {x y : Int64} {pc1 pc2 : Nat} (hd1 : decode bs pc = .ok (.lcmp, 1)) (hp1 : pc + 1 = pc1) (hd : decode bs pc1 = .ok (.ifCond .lt o, 3)) (ho : 0 ≤ (pc1 : Int) + o) (hp : ((pc1 : Int) + o).toNat = pc') (hq : pc1 + 3 = pc2) (K1 : x < y → Gl p e below n0 Φ Q (T.setTop (mkF m pc' L S))) (K2 : ¬ (x < y) → Gl p e below n0 Φ Q (T.setTop (mkF m pc2 L S))) : Gl p e below n0 Φ Q (T.setTop (mkF m pc L (.long y :: .long x :: S))) := by
  obtain ⟨locs, Y, b1, b2⟩ := X; subst hp1
  refine Gl.st (V := T.setTop (mkF m (pc + 1) L (.int (lcmpW x y) :: S))) (fun t k => XS.lcmp Y.here hx rfl (hb hby hd1) rfl k) ?_
  exact g_if_lt ⟨locs, Y, b1, b2⟩ hx hby hd ho hp hq (fun q => K1 (by simpa [lw_lt, lw_gt, lw_eq] using q)) (fun q => K2 (by simpa [lw_lt, lw_gt, lw_eq] using q))
theorem g_icmp_ge (X : St p l e R s m args below meth c n0 T h cells slots) (hx : p.tables.exec = Jvm.exec) (hby : c.code = bs) {o : Int} {x y : Int32} {pc2 : Nat} (hd : decode bs pc = .ok (.if_icmp .ge o, 3)) (ho : 0 ≤ (pc : Int) + o) (hp : ((pc : Int) + o).toNat = pc') (hq : pc + 3 = pc2) (K1 : ¬ (x < y) → Gl p e below n0 Φ Q (T.setTop (mkF m pc' L S))) (K2 : x < y → Gl p e below n0 Φ Q (T.setTop (mkF m pc2 L S))) : Gl p e below n0 Φ Q (T.setTop (mkF m pc L (.int y :: .int x :: S))) :=
  g_icmp X hx hby hd ho hp hq (fun q => K1 (by simpa [if_icmp.holds] using q)) (fun q => K2 (by simpa [if_icmp.holds] using q))
theorem g_if_ge (X : St p l e R s m args below meth c n0 T h cells slots) (hx : p.tables.exec = Jvm.exec) (hby : c.code = bs) {o : Int} {x : Int32} {pc2 : Nat} (hd : decode bs pc = .ok (.ifCond .ge o, 3)) (ho : 0 ≤ (pc : Int) + o) (hp : ((pc : Int) + o).toNat = pc') (hq : pc + 3 = pc2) (K1 : ¬ (x < 0) → Gl p e below n0 Φ Q (T.setTop (mkF m pc' L S))) (K2 : x < 0 → Gl p e below n0 Φ Q (T.setTop (mkF m pc2 L S))) : Gl p e below n0 Φ Q (T.setTop (mkF m pc L (.int x :: S))) :=
  g_if X hx hby hd ho hp hq (fun q => K1 (by simpa [if_icmp.holds] using q)) (fun q => K2 (by simpa [if_icmp.holds] using q))
theorem g_lcmp_ge (X : St p l e R s m args below meth c n0 T h cells slots) (hx : p.tables.exec = Jvm.exec) (hby : c.code = bs) {o : Int} {x y : Int64} {pc1 pc2 : Nat} (hd1 : decode bs pc = .ok (.lcmp, 1)) (hp1 : pc + 1 = pc1) (hd : decode bs pc1 = .ok (.ifCond .ge o, 3)) (ho : 0 ≤ (pc1 : Int) + o) (hp : ((pc1 : Int) + o).toNat = pc') (hq : pc1 + 3 = pc2) (K1 : ¬ (x < y) → Gl p e below n0 Φ Q (T.setTop (mkF m pc' L S))) (K2 : x < y → Gl p e below n0 Φ Q (T.setTop (mkF m pc2 L S))) : Gl p e below n0 Φ Q (T.setTop (mkF m pc L (.long y :: .long x :: S))) := by
  obtain ⟨locs, Y, b1, b2⟩ := X; subst hp1
  refine Gl.st (V := T.setTop (mkF m (pc + 1) L (.int (lcmpW x y) :: S))) (fun t k => XS.lcmp Y.here hx rfl (hb hby hd1) rfl k) ?_
  exact g_if_ge ⟨locs, Y, b1, b2⟩ hx hby hd ho hp hq (fun q => K1 (by simpa [lw_lt, lw_gt, lw_eq] using q)) (fun q => K2 (by simpa [lw_lt, lw_gt, lw_eq] using q))
theorem g_icmp_gt (X : St p l e R s m args below meth c n0 T h cells slots) (hx : p.tables.exec = Jvm.exec) (hby : c.code = bs) {o : Int} {x y : Int32} {pc2 : Nat} (hd : decode bs pc = .ok (.if_icmp .gt o, 3)) (ho : 0 ≤ (pc : Int) + o) (hp : ((pc : Int) + o).toNat = pc') (hq : pc + 3 = pc2) (K1 : y < x → Gl p e below n0 Φ Q (T.setTop (mkF m pc' L S))) (K2 : ¬ (y < x) → Gl p e below n0 Φ Q (T.setTop (mkF m pc2 L S))) : Gl p e below n0 Φ Q (T.setTop (mkF m pc L (.int y :: .int x :: S))) :=
  g_icmp X hx hby hd ho hp hq (fun q => K1 (by simpa [if_icmp.holds] using q)) (fun q => K2 (by simpa [if_icmp.holds] using q))
theorem g_if_gt (X : St p l e R s m args below meth c n0 T h cells slots) (hx : p.tables.exec = Jvm.exec) (hby : c.code = bs) {o : Int} {x : Int32} {pc2 : Nat} (hd : decode bs pc = .ok (.ifCond .gt o, 3)) (ho : 0 ≤ (pc : Int) + o) (hp : ((pc : Int) + o).toNat = pc') (hq : pc + 3 = pc2) (K1 : 0 < x → Gl p e below n0 Φ Q (T.setTop (mkF m pc' L S))) (K2 : ¬ (0 < x) → Gl p e below n0 Φ Q (T.setTop (mkF m pc2 L S))) : Gl p e below n0 Φ Q (T.setTop (mkF m pc L (.int x :: S))) :=
  g_if X hx hby hd ho hp hq (fun q => K1 (by simpa [if_icmp.holds] using q)) (fun q => K2 (by simpa [if_icmp.holds] using q))
theorem g_lcmp_gt (X : St p l e R s m args below meth c n0 T h cells slots) (hx : p.tables.exec = Jvm.exec) (hby : c.code = bs) {o : Int} {x y : Int64} {pc1 pc2 : Nat} (hd1 : decode bs pc = .ok (.lcmp, 1)) (hp1 : pc + 1 = pc1) (hd : decode bs pc1 = .ok (.ifCond .gt o, 3)) (ho : 0 ≤ (pc1 : Int) + o) (hp : ((pc1 : Int) + o).toNat = pc') (hq : pc1 + 3 = pc2) (K1 : y < x → Gl p e below n0 Φ Q (T.setTop (mkF m pc' L S))) (K2 : ¬ (y < x) → Gl p e below n0 Φ Q (T.setTop (mkF m pc2 L S))) : Gl p e below n0 Φ Q (T.setTop (mkF m pc L (.long y :: .long x :: S))) := by
  obtain ⟨locs, Y, b1, b2⟩ := X; subst hp1
  refine Gl.st (V := T.setTop (mkF m (pc + 1) L (.int (lcmpW x y) :: S))) (fun t k => XS.lcmp Y.here hx rfl (hb hby hd1) rfl k) ?_
  exact g_if_gt ⟨locs, Y, b1, b2⟩ hx hby hd ho hp hq (fun q => K1 (by simpa [lw_lt, lw_gt, lw_eq] using q)) (fun q => K2 (by simpa [lw_lt, lw_gt, lw_eq] using q))
theorem g_icmp_le (X : St p l e R s m args below meth c n0 T h cells slots) (hx : p.tables.exec = Jvm.exec) (hby : c.code = bs) {o : Int} {x y : Int32} {pc2 : Nat} (hd : decode bs pc = .ok (.if_icmp .le o, 3)) (ho : 0 ≤ (pc : Int) + o) (hp : ((pc : Int) + o).toNat = pc') (hq : pc + 3 = pc2) (K1 : ¬ (y < x) → Gl p e below n0 Φ Q (T.setTop (mkF m pc' L S))) (K2 : y < x → Gl p e below n0 Φ Q (T.setTop (mkF m pc2 L S))) : Gl p e below n0 Φ Q (T.setTop (mkF m pc L (.int y :: .int x :: S))) :=
  g_icmp X hx hby hd ho hp hq (fun q => K1 (by simpa [if_icmp.holds] using q)) (fun q => K2 (by simpa [if_icmp.holds] using q))
theorem g_if_le (X : St p l e R s m args below meth c n0 T h cells slots) (hx : p.tables.exec = Jvm.exec) (hby : c.code = bs) {o : Int} {x : Int32} {pc2 : Nat} (hd : decode bs pc = .ok (.ifCond .le o, 3)) (ho : 0 ≤ (pc : Int) + o) (hp : ((pc : Int) + o).toNat = pc') (hq : pc + 3 = pc2) (K1 : ¬ (0 < x) → Gl p e below n0 Φ Q (T.setTop (mkF m pc' L S))) (K2 : 0 < x → Gl p e below n0 Φ Q (T.setTop (mkF m pc2 L S))) : Gl p e below n0 Φ Q (T.setTop (mkF m pc L (.int x :: S))) :=
  g_if X hx hby hd ho hp hq (fun q => K1 (by simpa [if_icmp.holds] using q)) (fun q => K2 (by simpa [if_icmp.holds] using q))
theorem g_lcmp_le (X : St p l e R s m args below meth c n0 T h cells slots) (hx : p.tables.exec = Jvm.exec) (hby : c.code = bs) {o : Int} {x y : Int64} {pc1 pc2 : Nat} (hd1 : decode bs pc = .ok (.lcmp, 1)) (hp1 : pc + 1 = pc1) (hd : decode bs pc1 = .ok (.ifCond .le o, 3)) (ho : 0 ≤ (pc1 : Int) + o) (hp : ((pc1 : Int) + o).toNat = pc') (hq : pc1 + 3 = pc2) (K1 : ¬ (y < x) → Gl p e below n0 Φ Q (T.setTop (mkF m pc' L S))) (K2 : y < x → Gl p e below n0 Φ Q (T.setTop (mkF m pc2 L S))) : Gl p e below n0 Φ Q (T.setTop (mkF m pc L (.long y :: .long x :: S))) := by
  obtain ⟨locs, Y, b1, b2⟩ := X; subst hp1
  refine Gl.st (V := T.setTop (mkF m (pc + 1) L (.int (lcmpW x y) :: S))) (fun t k => XS.lcmp Y.here hx rfl (hb hby hd1) rfl k) ?_
  exact g_if_le ⟨locs, Y, b1, b2⟩ hx hby hd ho hp hq (fun q => K1 (by simpa [lw_lt, lw_gt, lw_eq] using q)) (fun q => K2 (by simpa [lw_lt, lw_gt, lw_eq] using q))
theorem g_ifnull_y (X : St p l e R s m args below meth c n0 T h cells slots) (hx : p.tables.exec = Jvm.exec) (hby : c.code = bs) {o : Int} (hd : decode bs pc = .ok (.ifnull o, 3)) (ho : 0 ≤ (pc : Int) + o) (hp : ((pc : Int) + o).toNat = pc') (K : Gl p e below n0 Φ Q (T.setTop (mkF m pc' L S))) : Gl p e below n0 Φ Q (T.setTop (mkF m pc L (.null :: S))) := by
  obtain ⟨locs, Y, -, -⟩ := X; exact Gl.st (fun t k => XS.ifnullYes Y.here hx rfl (pc0 := pc) rfl (hb hby hd) rfl ho hp k) K
theorem g_ifnull_n (X : St p l e R s m args below meth c n0 T h cells slots) (hx : p.tables.exec = Jvm.exec) (hby : c.code = bs) {o : Int} {a : Addr} (hd : decode bs pc = .ok (.ifnull o, 3)) (hp : pc + 3 = pc') (K : Gl p e below n0 Φ Q (T.setTop (mkF m pc' L S))) : Gl p e below n0 Φ Q (T.setTop (mkF m pc L ((.ref a) :: S))) := by
  obtain ⟨locs, Y, -, -⟩ := X; subst hp; exact Gl.st (fun t k => XS.ifnullNo Y.here hx rfl (hb hby hd) rfl k) K
theorem g_ifnonnull_y (X : St p l e R s m args below meth c n0 T h cells slots) (hx : p.tables.exec = Jvm.exec) (hby : c.code = bs) {o : Int} {a : Addr} (hd : decode bs pc = .ok (.ifnonnull o, 3)) (ho : 0 ≤ (pc : Int) + o) (hp : ((pc : Int) + o).toNat = pc') (K : Gl p e below n0 Φ Q (T.setTop (mkF m pc' L S))) : Gl p e below n0 Φ Q (T.setTop (mkF m pc L ((.ref a) :: S))) := by
  obtain ⟨locs, Y, -, -⟩ := X; exact Gl.st (fun t k => XS.ifnonnullYes Y.here hx rfl (pc0 := pc) rfl (hb hby hd) rfl ho hp k) K
theorem g_ifnonnull_n (X : St p l e R s m args below meth c n0 T h cells slots) (hx : p.tables.exec = Jvm.exec) (hby : c.code = bs) {o : Int} (hd : decode bs pc = .ok (.ifnonnull o, 3)) (hp : pc + 3 = pc') (K : Gl p e below n0 Φ Q (T.setTop (mkF m pc' L S))) : Gl p e below n0 Φ Q (T.setTop (mkF m pc L (.null :: S))) := by
  obtain ⟨locs, Y, -, -⟩ := X; subst hp; exact Gl.st (fun t k => XS.ifnonnullNo Y.here hx rfl (hb hby hd) rfl k) K
theorem g_acmp_y (X : St p l e R s m args below meth c n0 T h cells slots) (hx : p.tables.exec = Jvm.exec) (hby : c.code = bs) {cd : ACond} {o : Int} {x y : Value} {same : Bool} (hd : decode bs pc = .ok (.if_acmp cd o, 3)) (h1 : x.isRef = true) (h2 : y.isRef = true) (hq : decide (x = y) = same) (ho : 0 ≤ (pc : Int) + o) (hp : pc' = if acV cd same = true then ((pc : Int) + o).toNat else pc + 3) (K : Gl p e below n0 Φ Q (T.setTop (mkF m pc' L S))) : Gl p e below n0 Φ Q (T.setTop (mkF m pc L (y :: x :: S))) := by
  obtain ⟨locs, Y, -, -⟩ := X; exact Gl.st (fun t k => Jvm.RoadKit.acmp Y hx rfl h1 h2 (pc0 := pc) rfl (hb hby hd) rfl hq ho hp k) K
theorem g_retN (X : St p l e R s m args below meth c n0 T h cells slots) (hx : p.tables.exec = Jvm.exec) (hby : c.code = bs) {t : FieldType} {z : Int32} (hret : meth.sig.returnType = some t) (hlk : meth.locks = false) (ht : t = .boolean ∨ t = .byte ∨ t = .char ∨ t = .short) (hd : decode bs pc = .ok (.ireturn, 1)) (hq : Q (some (.int (nar t z))) h) (hc : cells ≤ cs) (hs : slots ≤ sl) : Gl p e below n0 (Fn s cs sl) Q (T.setTop (mkF m pc L (.int z :: S))) := by
  obtain ⟨locs, Y, eT, N⟩ := X
  obtain ⟨fs, hr, hrun, hended, hW, hsame⟩ := Y.leave (v := some (.int (nar t z))) (fun q => by rw [hret] at q; cases q) hlk
  exact ⟨_, _, retN Y hx hret ht (hb hby hd) hr, hrun, hended, _, locs, rfl, ⟨(show Q _ T.heap by rw [eT]; exact hq), N⟩, ⟨_, rfl⟩, hW, hsame.mono hc hs⟩
theorem g_retV (X : St p l e R s m args below meth c n0 T h cells slots) (hx : p.tables.exec = Jvm.exec) (hby : c.code = bs) {t : FieldType} {w : Value} {i : Instr} (hret : meth.sig.returnType = some t) (hlk : meth.locks = false) (hn : narrow t w = w) (hi : (i = .ireturn ∧ (t = .int ∨ t = .boolean ∨ t = .byte ∨ t = .char ∨ t = .short) ∧ ∃ z, w = .int z) ∨ (i = .lreturn ∧ t = .long ∧ ∃ z, w = .long z) ∨ (i = .dreturn ∧ t = .double ∧ ∃ z, w = .double z) ∨ (i = .freturn ∧ t = .float ∧ ∃ z, w = .float z) ∨ (i = .areturn ∧ t.isReference = true ∧ w.isRef = true)) (hd : decode bs pc = .ok (i, 1)) (hq : Q (some w) h) (hc : cells ≤ cs) (hs : slots ≤ sl) : Gl p e below n0 (Fn s cs sl) Q (T.setTop (mkF m pc L (w :: S))) := by
  obtain ⟨locs, Y, eT, N⟩ := X
  obtain ⟨fs, hr, hrun, hended, hW, hsame⟩ := Y.leave (v := some w) (fun q => by rw [hret] at q; cases q) hlk
  exact ⟨_, _, retOut Y hx hret hn hi (hb hby hd) hr, hrun, hended, _, locs, rfl, ⟨(show Q _ T.heap by rw [eT]; exact hq), N⟩, ⟨_, rfl⟩, hW, hsame.mono hc hs⟩
theorem g_retI (X : St p l e R s m args below meth c n0 T h cells slots) (hx : p.tables.exec = Jvm.exec) (hby : c.code = bs) {z : Int32} (hret : meth.sig.returnType = some .int) (hlk : meth.locks = false) (hd : decode bs pc = .ok (.ireturn, 1)) (hq : Q (some (.int z)) h) (hc : cells ≤ cs) (hs : slots ≤ sl) : Gl p e below n0 (Fn s cs sl) Q (T.setTop (mkF m pc L (.int z :: S))) := g_retV X hx hby hret hlk rfl (Or.inl ⟨rfl, Or.inl rfl, z, rfl⟩) hd hq hc hs
theorem g_retL (X : St p l e R s m args below meth c n0 T h cells slots) (hx : p.tables.exec = Jvm.exec) (hby : c.code = bs) {z : Int64} (hret : meth.sig.returnType = some .long) (hlk : meth.locks = false) (hd : decode bs pc = .ok (.lreturn, 1)) (hq : Q (some (.long z)) h) (hc : cells ≤ cs) (hs : slots ≤ sl) : Gl p e below n0 (Fn s cs sl) Q (T.setTop (mkF m pc L (.long z :: S))) := g_retV X hx hby hret hlk rfl (Or.inr (Or.inl ⟨rfl, rfl, z, rfl⟩)) hd hq hc hs
theorem g_retD (X : St p l e R s m args below meth c n0 T h cells slots) (hx : p.tables.exec = Jvm.exec) (hby : c.code = bs) {z : UInt64} (hret : meth.sig.returnType = some .double) (hlk : meth.locks = false) (hd : decode bs pc = .ok (.dreturn, 1)) (hq : Q (some (.double z)) h) (hc : cells ≤ cs) (hs : slots ≤ sl) : Gl p e below n0 (Fn s cs sl) Q (T.setTop (mkF m pc L (.double z :: S))) := g_retV X hx hby hret hlk rfl (Or.inr (Or.inr (Or.inl ⟨rfl, rfl, z, rfl⟩))) hd hq hc hs
theorem g_retA (X : St p l e R s m args below meth c n0 T h cells slots) (hx : p.tables.exec = Jvm.exec) (hby : c.code = bs) {t : FieldType} {w : Value} (hret : meth.sig.returnType = some t) (hlk : meth.locks = false) (ht : t.isReference = true) (hw : w.isRef = true) (hd : decode bs pc = .ok (.areturn, 1)) (hq : Q (some w) h) (hc : cells ≤ cs) (hs : slots ≤ sl) : Gl p e below n0 (Fn s cs sl) Q (T.setTop (mkF m pc L (w :: S))) := g_retV X hx hby hret hlk (by rcases ref_cases hw with rfl | ⟨a, rfl⟩ <;> cases t <;> first | rfl | (cases ht; done)) (Or.inr (Or.inr (Or.inr (Or.inr ⟨rfl, ht, hw⟩)))) hd hq hc hs
theorem g_ret (X : St p l e R s m args below meth c n0 T h cells slots) (hx : p.tables.exec = Jvm.exec) (hby : c.code = bs) (hret : meth.sig.returnType = none) (hlk : meth.locks = false) (hd : decode bs pc = .ok (.return_, 1)) (hq : Q none h) (hc : cells ≤ cs) (hs : slots ≤ sl) : Gl p e below n0 (Fn s cs sl) Q (T.setTop (mkF m pc L [])) := by
  obtain ⟨locs, Y, eT, N⟩ := X
  obtain ⟨fs, hr, hrun, hended, hW, hsame⟩ := Y.leave (v := none) (fun _ => rfl) hlk
  exact ⟨_, _, Y.returnOut hx hret (hb hby hd) hr, hrun, hended, _, locs, rfl, ⟨(show Q _ T.heap by rw [eT]; exact hq), N⟩, ⟨_, rfl⟩, hW, hsame.mono hc hs⟩
theorem gw_retN {vm0 : Vm} {k0 : Nat} (X : St p l e R (s.setVm vm0) m args below meth c n0 T h cells slots) (hx : p.tables.exec = Jvm.exec) (hby : c.code = bs) (hS : s.Since vm0 k0) (hk : k0 ≤ h.size) {t : FieldType} {z : Int32} (hret : meth.sig.returnType = some t) (hlk : meth.locks = false) (ht : t = .boolean ∨ t = .byte ∨ t = .char ∨ t = .short) (hd : decode bs pc = .ok (.ireturn, 1)) (hq : Q (some (.int (nar t z))) h) (hc : cells ≤ cs) (hs : slots ≤ sl) : Gl p e below n0 (Fw s cs sl) Q (T.setTop (mkF m pc L (.int z :: S))) := by
  obtain ⟨locs, Y, eT, N⟩ := X
  obtain ⟨fs, hr, hrun, hended, r1, r2, r3, r4⟩ := Y.leaveW hS (by rw [eT]; exact hk) (v := some (.int (nar t z))) (fun q => by rw [hret] at q; cases q) hlk
  exact ⟨_, _, retN Y hx hret ht (hb hby hd) hr, hrun, hended, _, locs, rfl, ⟨(show Q _ T.heap by rw [eT]; exact hq), N⟩, r1, r2, r3, r4.mono hc hs⟩
theorem g_ldcS {vm0 : Vm} {k0 : Nat} (X : St p l e R (s.setVm vm0) m args below meth c n0 T h cells slots) (hx : p.tables.exec = Jvm.exec) (hby : c.code = bs) (hZ : Z.Warmed39 (s.setVm vm0).vm) {own text : String} {index n : Nat} (hown : (s.setVm vm0).vm.findClass own = some m.cls) (w : (Cond.stringLink own index text).before a0 Z = true) (wS : ∀ a ∈ Bundle.stringAtoms, a.before a0 Z = true) (hS : s.Since vm0 k0) (hk : k0 ≤ h.size) (hd : decode bs pc = .ok (.ldc index, 2)) (hn : 4 * text.toList.length ≤ n) (hbig : n ≤ 536870912) (hc : cells + 2 ≤ R.cells) (hl : slots + (n + 4) ≤ R.slots) (hp : pc + 2 = pc') (K : ∀ (a : Addr) T' h' k1, St p l e R (s.setVm T'.vm) m args below meth c n0 T' h' (cells + 2) (slots + (n + 4)) → Ext h h' → s.Since T'.vm k1 → k1 ≤ h'.size → Z.Warmed39 (s.setVm T'.vm).vm → (s.setVm T'.vm).vm.findClass own = some m.cls → Gl p e below n0 Φ Q (T'.setTop (mkF m pc' L (.ref a :: S)))) : Gl p e below n0 Φ Q (T.setTop (mkF m pc L S)) := by
  obtain ⟨locs, Y, eT, N⟩ := X; subst hp
  obtain ⟨a, T', h', k1, Y', e', E, S1, hk1, hZ1, hown1, st⟩ := ldcS Y hx hZ hown w wS eT hS hk (g := mkF m pc L S) rfl (hb hby hd) hn hbig hc hl
  exact Gl.st st (K a T' h' k1 ⟨locs, Y', e', N⟩ E S1 hk1 hZ1 hown1)
theorem g_getF (X : St p l e R s m args below meth c n0 T h cells slots) (hx : p.tables.exec = Jvm.exec) (hby : c.code = bs) (hZ : Z.Warmed39 s.vm) {own R0 O n d : String} {index : Nat} (hown : s.vm.findClass own = some m.cls) (w : (Cond.fieldLink own index R0 n d).before a0 Z = true) (via : Via Z R0 O n d) {a : Addr} {v : Value} (F : Fld Z h a O n d v) (hd : decode bs pc = .ok (.getfield index, 3)) (hp : pc + 3 = pc') (K : ∀ T', St p l e R s m args below meth c n0 T' h cells slots → Gl p e below n0 Φ Q (T'.setTop (mkF m pc' L (v :: S)))) : Gl p e below n0 Φ Q (T.setTop (mkF m pc L (.ref a :: S))) := by
  obtain ⟨locs, Y, eT, N⟩ := X; subst hp
  obtain ⟨T', Y', e', st⟩ := getF Y hx hZ hown (host := "") (Or.inl w) via eT F (g := mkF m pc L (.ref a :: S)) rfl rfl (hb hby hd)
  exact Gl.st st (K T' ⟨locs, Y', e', N⟩)
theorem g_putF (X : St p l e R s m args below meth c n0 T h cells slots) (hx : p.tables.exec = Jvm.exec) (hby : c.code = bs) (hZ : Z.Warmed39 s.vm) {own R0 O n d C : String} {index kk : Nat} {ty : FieldType} (hown : s.vm.findClass own = some m.cls) (w : (Cond.fieldLink own index R0 n d).before a0 Z = true) (via : Via Z R0 O n d) {a : Addr} {v old : Value} (F : Fld Z h a O n d old) (E : Exa Z h a C) (lay : (Cond.lays C O n d).before a0 Z = true ∨ ((Cond.laysFinal C O n d).before a0 Z = true ∧ own = O ∧ meth.name = "<init>")) (wi : (Cond.instantiable C kk).before a0 Z = true) (hty : parseFieldDescriptor d = some ty) (hn : narrow ty v = v) (hf : fits ty v = true) (hn0 : n0 ≤ a) (hd : decode bs pc = .ok (.putfield index, 3)) (hp : pc + 3 = pc') (K : ∀ T' h', St p l e R s m args below meth c n0 T' h' cells slots → Wr h h' a (Jvm.RoadKit.slotOf Z O n d) v → Gl p e below n0 Φ Q (T'.setTop (mkF m pc' L S))) : Gl p e below n0 Φ Q (T.setTop (mkF m pc L (v :: .ref a :: S))) := by
  obtain ⟨locs, Y, eT, N⟩ := X; subst hp
  obtain ⟨T', h', Y', e', W, st⟩ := putF Y hx hZ hown (host := "") (Or.inl w) via eT F E lay wi hty hn hf (g := mkF m pc L (v :: .ref a :: S)) rfl rfl (hb hby hd)
  exact Gl.st st (K T' h' ⟨_, Y', e', Fr.snoc Y' N hn0⟩ W)
theorem g_putFN (X : St p l e R s m args below meth c n0 T h cells slots) (hx : p.tables.exec = Jvm.exec) (hby : c.code = bs) (hZ : Z.Warmed39 s.vm) {own R0 O n d C : String} {index kk : Nat} {ty : FieldType} (hown : s.vm.findClass own = some m.cls) (w : (Cond.fieldLink own index R0 n d).before a0 Z = true) (via : Via Z R0 O n d) {a : Addr} {v v' old : Value} (F : Fld Z h a O n d old) (E : Exa Z h a C) (lay : (Cond.lays C O n d).before a0 Z = true ∨ ((Cond.laysFinal C O n d).before a0 Z = true ∧ own = O ∧ meth.name = "<init>")) (wi : (Cond.instantiable C kk).before a0 Z = true) (hty : parseFieldDescriptor d = some ty) (hn : narrow ty v = v') (hf : fits ty v' = true) (hn0 : n0 ≤ a) (hd : decode bs pc = .ok (.putfield index, 3)) (hp : pc + 3 = pc') (K : ∀ T' h', St p l e R s m args below meth c n0 T' h' cells slots → Wr h h' a (Jvm.RoadKit.slotOf Z O n d) v' → Gl p e below n0 Φ Q (T'.setTop (mkF m pc' L S))) : Gl p e below n0 Φ Q (T.setTop (mkF m pc L (v :: .ref a :: S))) := by
  obtain ⟨locs, Y, eT, N⟩ := X; subst hp
  obtain ⟨T', h', Y', e', W, st⟩ := putFN Y hx hZ hown w via eT F E lay wi hty hn hf (g := mkF m pc L (v :: .ref a :: S)) rfl rfl (hb hby hd)
  exact Gl.st st (K T' h' ⟨_, Y', e', Fr.snoc Y' N hn0⟩ W)
theorem g_getS (X : St p l e R s m args below meth c n0 T h cells slots) (hx : p.tables.exec = Jvm.exec) (hby : c.code = bs) (hZ : Z.Warmed39 s.vm) {own R0 O n d : String} {index : Nat} (hown : s.vm.findClass own = some m.cls) (w : (Cond.fieldLink own index R0 n d).before a0 Z = true) (via : Via Z R0 O n d) {v : Value} (F : Sta Z h O n d v) (hd : decode bs pc = .ok (.getstatic index, 3)) (hp : pc + 3 = pc') (K : ∀ T', St p l e R s m args below meth c n0 T' h cells slots → Gl p e below n0 Φ Q (T'.setTop (mkF m pc' L (v :: S)))) : Gl p e below n0 Φ Q (T.setTop (mkF m pc L S)) := by
  obtain ⟨locs, Y, eT, N⟩ := X; subst hp
  obtain ⟨T', Y', e', st⟩ := getS Y hx hZ hown (host := "") w via eT F (g := mkF m pc L S) rfl (hb hby hd)
  exact Gl.st st (K T' ⟨locs, Y', e', N⟩)
theorem g_new (X : St p l e R s m args below meth c n0 T h cells slots) (hx : p.tables.exec = Jvm.exec) (hby : c.code = bs) (hZ : Z.Warmed39 s.vm) {own C : String} {index n : Nat} (hown : s.vm.findClass own = some m.cls) (w : (Cond.classLink own index C).before a0 Z = true) (wi : (Cond.instantiable C n).before a0 Z = true) (wz : (Cond.initialized C).before a0 Z = true) (hd : decode bs pc = .ok (.new index, 3)) (hc : cells + 1 ≤ R.cells) (hs : slots + n ≤ R.slots) (hp : pc + 3 = pc') (K : ∀ T' h' (b : Addr), b = h.size → St p l e R s m args below meth c n0 T' h' (cells + 1) (slots + n) → Ext h h' → Exa Z h' b C → (∀ {O nm d : String} {ty : FieldType}, Laid Z a0 C O nm d → parseFieldDescriptor d = some ty → Fld Z h' b O nm d (defaultValue ty)) → Gl p e below n0 Φ Q (T'.setTop (mkF m pc' L (.ref b :: S)))) : Gl p e below n0 Φ Q (T.setTop (mkF m pc L S)) := by
  obtain ⟨locs, Y, eT, N⟩ := X; subst hp
  obtain ⟨T', h', Y', e', E, A, D, -, st⟩ := newO Y hx hZ hown w wi wz eT (g := mkF m pc L S) rfl (hb hby hd) hc hs
  exact Gl.st st (K T' h' _ rfl ⟨locs, Y', e', N⟩ E A D)
theorem g_newarray (X : St p l e R s m args below meth c n0 T h cells slots) (hx : p.tables.exec = Jvm.exec) (hby : c.code = bs) (hZ : Z.Warmed39 s.vm) {aty : ArrayType} (w : (Cond.arrayClass (newarray.typeOf aty)).before a0 Z = true) {n : Int32} {k cap : Nat} (hd : decode bs pc = .ok (.newarray aty, 2)) (hn : n.toInt = (k : Int)) (hcap : k ≤ cap) (hb8 : cap * 8 ≤ 536870912) (hc : cells + 1 ≤ R.cells) (hs : slots + cap ≤ R.slots) (hp : pc + 2 = pc') (K : ∀ T' h' (b : Addr), b = h.size → St p l e R s m args below meth c n0 T' h' (cells + 1) (slots + cap) → Ext h h' → Ary Z h' b (newarray.typeOf aty) k (fun _ => defaultValue (newarray.typeOf aty)) → Gl p e below n0 Φ Q (T'.setTop (mkF m pc' L (.ref b :: S)))) : Gl p e below n0 Φ Q (T.setTop (mkF m pc L (.int n :: S))) := by
  obtain ⟨locs, Y, eT, N⟩ := X; subst hp
  have e1 : n.toNatClampNeg = k := by simp only [Int32.toNatClampNeg]; omega
  obtain ⟨T', h', cA, Y', e', E, A, st⟩ := newP Y hx hZ w eT (g := mkF m pc L (.int n :: S)) rfl (hb hby hd) rfl (by rw [Int32.lt_iff_toInt_lt]; have : (0 : Int32).toInt = 0 := rfl; omega) (cap := cap) (by omega) hb8 hc hs
  exact Gl.st st (K T' h' _ rfl ⟨locs, Y', e', N⟩ E ⟨_, A, by rw [sz_new]; exact e1, fun i hi => by simp [newA, e1, hi]⟩)
theorem g_anewarray (X : St p l e R s m args below meth c n0 T h cells slots) (hx : p.tables.exec = Jvm.exec) (hby : c.code = bs) (hZ : Z.Warmed39 s.vm) {own C : String} {index : Nat} (hown : s.vm.findClass own = some m.cls) (w1 : (Cond.classLink own index C).before a0 Z = true) (w2 : (Cond.arrayOver (.object C)).before a0 Z = true) {n : Int32} {k cap : Nat} (hd : decode bs pc = .ok (.anewarray index, 3)) (hn : n.toInt = (k : Int)) (hcap : k ≤ cap) (hb8 : cap * 8 ≤ 536870912) (hc : cells + 1 ≤ R.cells) (hs : slots + cap ≤ R.slots) (hp : pc + 3 = pc') (K : ∀ T' h' (b : Addr), b = h.size → St p l e R s m args below meth c n0 T' h' (cells + 1) (slots + cap) → Ext h h' → Ary Z h' b (.object C) k (fun _ => .null) → Ov Z h' b C → Gl p e below n0 Φ Q (T'.setTop (mkF m pc' L (.ref b :: S)))) : Gl p e below n0 Φ Q (T.setTop (mkF m pc L (.int n :: S))) := by
  obtain ⟨locs, Y, eT, N⟩ := X; subst hp
  have e1 : n.toNatClampNeg = k := by simp only [Int32.toNatClampNeg]; omega
  obtain ⟨T', h', cA, Y', e', E, A, O, st⟩ := newR Y hx hZ hown w1 w2 eT (g := mkF m pc L (.int n :: S)) rfl (hb hby hd) rfl (by rw [Int32.lt_iff_toInt_lt]; have : (0 : Int32).toInt = 0 := rfl; omega) (cap := cap) (by omega) hb8 hc hs
  exact Gl.st st (K T' h' _ rfl ⟨locs, Y', e', N⟩ E ⟨_, A, by rw [sz_new]; exact e1, fun i hi => by simp [newA, e1, hi, defaultValue]⟩ ⟨_, A.1, O⟩)
theorem g_arraylength (X : St p l e R s m args below meth c n0 T h cells slots) (hx : p.tables.exec = Jvm.exec) (hby : c.code = bs) (hZ : Z.Warmed39 s.vm) {a : Addr} {ty : FieldType} {k : Nat} {f : Nat → Value} {n : Int32} (A : Ary Z h a ty k f) (hn : n.toInt = (k : Int)) (hd : decode bs pc = .ok (.arraylength, 1)) (hp : pc + 1 = pc') (K : Gl p e below n0 Φ Q (T.setTop (mkF m pc' L (.int n :: S)))) : Gl p e below n0 Φ Q (T.setTop (mkF m pc L (.ref a :: S))) := by
  obtain ⟨locs, Y, eT, -⟩ := X; subst hp
  obtain ⟨cl, Ar, sz, -⟩ := A
  have e1 : cl.slots.size.toInt32 = n := by
    have q := rng32 n
    rw [← Int32.toInt_inj, len_toInt (by omega), sz, hn]
  refine Gl.st (fun t k => Y.arraylength hx (by rw [eT]; exact Ar.1) (State.isArrayOf_alike hZ.alike Ar.2.1) (g := mkF m pc L (.ref a :: S)) rfl rfl (hb hby hd) t k) ?_
  rw [e1]; exact K
theorem g_iaload (X : St p l e R s m args below meth c n0 T h cells slots) (hx : p.tables.exec = Jvm.exec) (hby : c.code = bs) (hZ : Z.Warmed39 s.vm) {a : Addr} {k i : Nat} {f : Nat → Value} {j : Int32} {v : Value} (A : Ary Z h a .int k f) (hj : j.toInt = (i : Int)) (hi : i < k) (hv : f i = v) (hd : decode bs pc = .ok (.iaload, 1)) (hp : pc + 1 = pc') (K : Gl p e below n0 Φ Q (T.setTop (mkF m pc' L (v :: S)))) : Gl p e below n0 Φ Q (T.setTop (mkF m pc L (.int j :: .ref a :: S))) := by
  obtain ⟨locs, Y, eT, -⟩ := X; subst hp hv
  obtain ⟨cl, Ar, sz, H⟩ := A
  obtain ⟨q1, q2⟩ := own_in (k := k) hj hi
  exact Gl.st (fun t k => Y.iaload hx (by rw [eT]; exact Ar.1) (State.isArrayOf_alike hZ.alike Ar.2.1) Ar.2.2 (by rw [sz]; exact q1) (by rw [q2]; exact H i hi) (g := mkF m pc L (.int j :: .ref a :: S)) rfl rfl (hb hby hd) t k) K
theorem g_laload (X : St p l e R s m args below meth c n0 T h cells slots) (hx : p.tables.exec = Jvm.exec) (hby : c.code = bs) (hZ : Z.Warmed39 s.vm) {a : Addr} {k i : Nat} {f : Nat → Value} {j : Int32} {v : Value} (A : Ary Z h a .long k f) (hj : j.toInt = (i : Int)) (hi : i < k) (hv : f i = v) (hd : decode bs pc = .ok (.laload, 1)) (hp : pc + 1 = pc') (K : Gl p e below n0 Φ Q (T.setTop (mkF m pc' L (v :: S)))) : Gl p e below n0 Φ Q (T.setTop (mkF m pc L (.int j :: .ref a :: S))) := by
  obtain ⟨locs, Y, eT, -⟩ := X; subst hp hv
  obtain ⟨cl, Ar, sz, H⟩ := A
  obtain ⟨q1, q2⟩ := own_in (k := k) hj hi
  exact Gl.st (fun t k => Y.laload hx (by rw [eT]; exact Ar.1) (State.isArrayOf_alike hZ.alike Ar.2.1) Ar.2.2 (by rw [sz]; exact q1) (by rw [q2]; exact H i hi) (g := mkF m pc L (.int j :: .ref a :: S)) rfl rfl (hb hby hd) t k) K
theorem g_caload (X : St p l e R s m args below meth c n0 T h cells slots) (hx : p.tables.exec = Jvm.exec) (hby : c.code = bs) (hZ : Z.Warmed39 s.vm) {a : Addr} {k i : Nat} {f : Nat → Value} {j : Int32} {v : Value} (A : Ary Z h a .char k f) (hj : j.toInt = (i : Int)) (hi : i < k) (hv : f i = v) (hd : decode bs pc = .ok (.caload, 1)) (hp : pc + 1 = pc') (K : Gl p e below n0 Φ Q (T.setTop (mkF m pc' L (v :: S)))) : Gl p e below n0 Φ Q (T.setTop (mkF m pc L (.int j :: .ref a :: S))) := by
  obtain ⟨locs, Y, eT, -⟩ := X; subst hp hv
  obtain ⟨cl, Ar, sz, H⟩ := A
  obtain ⟨q1, q2⟩ := own_in (k := k) hj hi
  exact Gl.st (fun t k => Y.caload hx (by rw [eT]; exact Ar.1) (State.isArrayOf_alike hZ.alike Ar.2.1) Ar.2.2 (by rw [sz]; exact q1) (by rw [q2]; exact H i hi) (g := mkF m pc L (.int j :: .ref a :: S)) rfl rfl (hb hby hd) t k) K
theorem g_baload (X : St p l e R s m args below meth c n0 T h cells slots) (hx : p.tables.exec = Jvm.exec) (hby : c.code = bs) (hZ : Z.Warmed39 s.vm) {a : Addr} {k i : Nat} {f : Nat → Value} {j : Int32} {v : Value} (A : Ary Z h a .byte k f) (hj : j.toInt = (i : Int)) (hi : i < k) (hv : f i = v) (hd : decode bs pc = .ok (.baload, 1)) (hp : pc + 1 = pc') (K : Gl p e below n0 Φ Q (T.setTop (mkF m pc' L (v :: S)))) : Gl p e below n0 Φ Q (T.setTop (mkF m pc L (.int j :: .ref a :: S))) := by
  obtain ⟨locs, Y, eT, -⟩ := X; subst hp hv
  obtain ⟨cl, Ar, sz, H⟩ := A
  obtain ⟨q1, q2⟩ := own_in (k := k) hj hi
  exact Gl.st (fun t k => Y.baloadBytes hx (by rw [eT]; exact Ar.1) (State.isArrayOf_alike hZ.alike Ar.2.1) Ar.2.2 (by rw [sz]; exact q1) (by rw [q2]; exact H i hi) (g := mkF m pc L (.int j :: .ref a :: S)) rfl rfl (hb hby hd) t k) K
theorem g_zaload (X : St p l e R s m args below meth c n0 T h cells slots) (hx : p.tables.exec = Jvm.exec) (hby : c.code = bs) (hZ : Z.Warmed39 s.vm) {a : Addr} {k i : Nat} {f : Nat → Value} {j : Int32} {v : Value} (A : Ary Z h a .boolean k f) (hj : j.toInt = (i : Int)) (hi : i < k) (hv : f i = v) (hd : decode bs pc = .ok (.baload, 1)) (hp : pc + 1 = pc') (K : Gl p e below n0 Φ Q (T.setTop (mkF m pc' L (v :: S)))) : Gl p e below n0 Φ Q (T.setTop (mkF m pc L (.int j :: .ref a :: S))) := by
  obtain ⟨locs, Y, eT, -⟩ := X; subst hp hv
  obtain ⟨cl, Ar, sz, H⟩ := A
  obtain ⟨q1, q2⟩ := own_in (k := k) hj hi
  exact Gl.st (fun t k => Y.baloadBooleans hx (by rw [eT]; exact Ar.1) (State.isArrayOf_alike hZ.alike Ar.2.1) Ar.2.2 (by rw [sz]; exact q1) (by rw [q2]; exact H i hi) (g := mkF m pc L (.int j :: .ref a :: S)) rfl rfl (hb hby hd) t k) K
theorem g_aaload (X : St p l e R s m args below meth c n0 T h cells slots) (hx : p.tables.exec = Jvm.exec) (hby : c.code = bs) (hZ : Z.Warmed39 s.vm) {a : Addr} {k i : Nat} {f : Nat → Value} {j : Int32} {v : Value} {ty : FieldType} (A : Ary Z h a ty k f) (hty : ty.isReference = true) (hj : j.toInt = (i : Int)) (hi : i < k) (hv : f i = v) (hd : decode bs pc = .ok (.aaload, 1)) (hp : pc + 1 = pc') (K : Gl p e below n0 Φ Q (T.setTop (mkF m pc' L (v :: S)))) : Gl p e below n0 Φ Q (T.setTop (mkF m pc L (.int j :: .ref a :: S))) := by
  obtain ⟨locs, Y, eT, -⟩ := X; subst hp hv
  obtain ⟨cl, Ar, sz, H⟩ := A
  obtain ⟨q1, q2⟩ := own_in (k := k) hj hi
  exact Gl.st (fun t k => Y.aaload hx (by rw [eT]; exact Ar.1) (State.isArrayOf_alike hZ.alike Ar.2.1) hty Ar.2.2 (by rw [sz]; exact q1) (by rw [q2]; exact H i hi) (g := mkF m pc L (.int j :: .ref a :: S)) rfl rfl (hb hby hd) t k) K
theorem g_iastore (X : St p l e R s m args below meth c n0 T h cells slots) (hx : p.tables.exec = Jvm.exec) (hby : c.code = bs) (hZ : Z.Warmed39 s.vm) {a : Addr} {k i : Nat} {f : Nat → Value} {j : Int32} {x : Int32} (A : Ary Z h a .int k f) (hj : j.toInt = (i : Int)) (hi : i < k) (hn0 : n0 ≤ a) (hd : decode bs pc = .ok (.iastore, 1)) (hp : pc + 1 = pc') (K : ∀ T' h' sl0, St p l e R s m args below meth c n0 T' h' cells slots → Wr h h' a sl0 (.int x) → Ary Z h' a .int k (own_upd f i (.int x)) → Gl p e below n0 Φ Q (T'.setTop (mkF m pc' L S))) : Gl p e below n0 Φ Q (T.setTop (mkF m pc L (.int x :: .int j :: .ref a :: S))) := by
  obtain ⟨locs, Y, eT, N⟩ := X; subst hp
  obtain ⟨cl, Ar, sz, H⟩ := A
  obtain ⟨q1, q2⟩ := own_in (k := k) hj hi
  obtain ⟨T', h', Y', e', W, st⟩ := stI Y hx hZ eT Ar (j := j) (by rw [sz]; exact q1) (g := mkF m pc L (.int x :: .int j :: .ref a :: S)) rfl rfl (hb hby hd)
  exact Gl.st st (K T' h' _ ⟨_, Y', e', Fr.snoc Y' N hn0⟩ W (Ary.same Ar sz H (q2 ▸ W)))
theorem g_lastore (X : St p l e R s m args below meth c n0 T h cells slots) (hx : p.tables.exec = Jvm.exec) (hby : c.code = bs) (hZ : Z.Warmed39 s.vm) {a : Addr} {k i : Nat} {f : Nat → Value} {j : Int32} {x : Int64} (A : Ary Z h a .long k f) (hj : j.toInt = (i : Int)) (hi : i < k) (hn0 : n0 ≤ a) (hd : decode bs pc = .ok (.lastore, 1)) (hp : pc + 1 = pc') (K : ∀ T' h' sl0, St p l e R s m args below meth c n0 T' h' cells slots → Wr h h' a sl0 (.long x) → Ary Z h' a .long k (own_upd f i (.long x)) → Gl p e below n0 Φ Q (T'.setTop (mkF m pc' L S))) : Gl p e below n0 Φ Q (T.setTop (mkF m pc L (.long x :: .int j :: .ref a :: S))) := by
  obtain ⟨locs, Y, eT, N⟩ := X; subst hp
  obtain ⟨cl, Ar, sz, H⟩ := A
  obtain ⟨q1, q2⟩ := own_in (k := k) hj hi
  obtain ⟨T', h', Y', e', W, st⟩ := stJ Y hx hZ eT Ar (j := j) (by rw [sz]; exact q1) (g := mkF m pc L (.long x :: .int j :: .ref a :: S)) rfl rfl (hb hby hd)
  exact Gl.st st (K T' h' _ ⟨_, Y', e', Fr.snoc Y' N hn0⟩ W (Ary.same Ar sz H (q2 ▸ W)))
theorem g_bastore (X : St p l e R s m args below meth c n0 T h cells slots) (hx : p.tables.exec = Jvm.exec) (hby : c.code = bs) (hZ : Z.Warmed39 s.vm) {a : Addr} {k i : Nat} {f : Nat → Value} {j : Int32} {x : Int32} (A : Ary Z h a .byte k f) (hj : j.toInt = (i : Int)) (hi : i < k) (hn0 : n0 ≤ a) (hd : decode bs pc = .ok (.bastore, 1)) (hp : pc + 1 = pc') (K : ∀ T' h' sl0, St p l e R s m args below meth c n0 T' h' cells slots → Wr h h' a sl0 (.int (nar .byte x)) → Ary Z h' a .byte k (own_upd f i (.int (nar .byte x))) → Gl p e below n0 Φ Q (T'.setTop (mkF m pc' L S))) : Gl p e below n0 Φ Q (T.setTop (mkF m pc L (.int x :: .int j :: .ref a :: S))) := by
  obtain ⟨locs, Y, eT, N⟩ := X; subst hp
  obtain ⟨cl, Ar, sz, H⟩ := A
  obtain ⟨q1, q2⟩ := own_in (k := k) hj hi
  obtain ⟨T', h', Y', e', W, st⟩ := stB Y hx hZ eT Ar (j := j) (by rw [sz]; exact q1) (g := mkF m pc L (.int x :: .int j :: .ref a :: S)) rfl rfl (hb hby hd)
  exact Gl.st st (K T' h' _ ⟨_, Y', e', Fr.snoc Y' N hn0⟩ W (Ary.same Ar sz H (q2 ▸ W)))
theorem g_zastore (X : St p l e R s m args below meth c n0 T h cells slots) (hx : p.tables.exec = Jvm.exec) (hby : c.code = bs) (hZ : Z.Warmed39 s.vm) {a : Addr} {k i : Nat} {f : Nat → Value} {j : Int32} {x : Int32} (A : Ary Z h a .boolean k f) (hj : j.toInt = (i : Int)) (hi : i < k) (hn0 : n0 ≤ a) (hd : decode bs pc = .ok (.bastore, 1)) (hp : pc + 1 = pc') (K : ∀ T' h' sl0, St p l e R s m args below meth c n0 T' h' cells slots → Wr h h' a sl0 (.int (nar .boolean x)) → Ary Z h' a .boolean k (own_upd f i (.int (nar .boolean x))) → Gl p e below n0 Φ Q (T'.setTop (mkF m pc' L S))) : Gl p e below n0 Φ Q (T.setTop (mkF m pc L (.int x :: .int j :: .ref a :: S))) := by
  obtain ⟨locs, Y, eT, N⟩ := X; subst hp
  obtain ⟨cl, Ar, sz, H⟩ := A
  obtain ⟨q1, q2⟩ := own_in (k := k) hj hi
  obtain ⟨T', h', Y', e', W, st⟩ := stZ Y hx hZ eT Ar (j := j) (by rw [sz]; exact q1) (g := mkF m pc L (.int x :: .int j :: .ref a :: S)) rfl rfl (hb hby hd)
  exact Gl.st st (K T' h' _ ⟨_, Y', e', Fr.snoc Y' N hn0⟩ W (Ary.same Ar sz H (q2 ▸ W)))
theorem g_castore (X : St p l e R s m args below meth c n0 T h cells slots) (hx : p.tables.exec = Jvm.exec) (hby : c.code = bs) (hZ : Z.Warmed39 s.vm) {a : Addr} {k i : Nat} {f : Nat → Value} {j : Int32} {x : Int32} (A : Ary Z h a .char k f) (hj : j.toInt = (i : Int)) (hi : i < k) (hn0 : n0 ≤ a) (hd : decode bs pc = .ok (.castore, 1)) (hp : pc + 1 = pc') (K : ∀ T' h' sl0, St p l e R s m args below meth c n0 T' h' cells slots → Wr h h' a sl0 (.int (nar .char x)) → Ary Z h' a .char k (own_upd f i (.int (nar .char x))) → Gl p e below n0 Φ Q (T'.setTop (mkF m pc' L S))) : Gl p e below n0 Φ Q (T.setTop (mkF m pc L (.int x :: .int j :: .ref a :: S))) := by
  obtain ⟨locs, Y, eT, N⟩ := X; subst hp
  obtain ⟨cl, Ar, sz, H⟩ := A
  obtain ⟨q1, q2⟩ := own_in (k := k) hj hi
  obtain ⟨T', h', Y', e', W, st⟩ := stC Y hx hZ eT Ar (j := j) (by rw [sz]; exact q1) (g := mkF m pc L (.int x :: .int j :: .ref a :: S)) rfl rfl (hb hby hd)
  exact Gl.st st (K T' h' _ ⟨_, Y', e', Fr.snoc Y' N hn0⟩ W (Ary.same Ar sz H (q2 ▸ W)))
theorem g_aastore (X : St p l e R s m args below meth c n0 T h cells slots) (hx : p.tables.exec = Jvm.exec) (hby : c.code = bs) (hZ : Z.Warmed39 s.vm) {a : Addr} {k i : Nat} {f : Nat → Value} {j : Int32} {v : Value} {ty : FieldType} (A : Ary Z h a ty k f) (hty : ty.isReference = true) (St0 : Sto Z h a v) (hj : j.toInt = (i : Int)) (hi : i < k) (hn0 : n0 ≤ a) (hd : decode bs pc = .ok (.aastore, 1)) (hp : pc + 1 = pc') (K : ∀ T' h' sl0, St p l e R s m args below meth c n0 T' h' cells slots → Wr h h' a sl0 v → Ary Z h' a ty k (own_upd f i v) → Gl p e below n0 Φ Q (T'.setTop (mkF m pc' L S))) : Gl p e below n0 Φ Q (T.setTop (mkF m pc L (v :: .int j :: .ref a :: S))) := by
  obtain ⟨locs, Y, eT, N⟩ := X; subst hp
  obtain ⟨cl, Ar, sz, H⟩ := A
  obtain ⟨q1, q2⟩ := own_in (k := k) hj hi
  obtain ⟨T', h', Y', e', W, st⟩ := stR Y hx hZ eT Ar (j := j) (by rw [sz]; exact q1) hty St0 (g := mkF m pc L (v :: .int j :: .ref a :: S)) rfl rfl (hb hby hd)
  exact Gl.st st (K T' h' _ ⟨_, Y', e', Fr.snoc Y' N hn0⟩ W (Ary.same Ar sz H (q2 ▸ W)))
theorem g_instY (X : St p l e R s m args below meth c n0 T h cells slots) (hx : p.tables.exec = Jvm.exec) (hby : c.code = bs) (hZ : Z.Warmed39 s.vm) {own K : String} {index : Nat} {a : Addr} (hown : s.vm.findClass own = some m.cls) (w : (Cond.classLink own index K).before a0 Z = true) (I : Ins Z h a K true) (hd : decode bs pc = .ok (.instanceof index, 3)) (hp : pc + 3 = pc') (K1 : ∀ T', St p l e R s m args below meth c n0 T' h cells slots → Gl p e below n0 Φ Q (T'.setTop (mkF m pc' L (.int 1 :: S)))) : Gl p e below n0 Φ Q (T.setTop (mkF m pc L (.ref a :: S))) := by
  obtain ⟨locs, Y, eT, N⟩ := X; subst hp
  obtain ⟨T', Y', e', st⟩ := instY Y hx hZ hown w eT I (g := mkF m pc L (.ref a :: S)) rfl rfl (hb hby hd)
  exact Gl.st st (K1 T' ⟨locs, Y', e', N⟩)
theorem g_castY (X : St p l e R s m args below meth c n0 T h cells slots) (hx : p.tables.exec = Jvm.exec) (hby : c.code = bs) (hZ : Z.Warmed39 s.vm) {own K : String} {index : Nat} {a : Addr} (hown : s.vm.findClass own = some m.cls) (w : (Cond.classLink own index K).before a0 Z = true) (I : Ins Z h a K true) (hd : decode bs pc = .ok (.checkcast index, 3)) (hp : pc + 3 = pc') (K1 : ∀ T', St p l e R s m args below meth c n0 T' h cells slots → Gl p e below n0 Φ Q (T'.setTop (mkF m pc' L (.ref a :: S)))) : Gl p e below n0 Φ Q (T.setTop (mkF m pc L (.ref a :: S))) := by
  obtain ⟨locs, Y, eT, N⟩ := X; subst hp
  obtain ⟨T', Y', e', st⟩ := castY Y hx hZ hown w eT I (g := mkF m pc L (.ref a :: S)) rfl rfl (hb hby hd)
  exact Gl.st st (K1 T' ⟨locs, Y', e', N⟩)
theorem g_instNo (X : St p l e R s m args below meth c n0 T h cells slots) (hx : p.tables.exec = Jvm.exec) (hby : c.code = bs) (hZ : Z.Warmed39 s.vm) {own K C : String} {index : Nat} {a : Addr} (hown : s.vm.findClass own = some m.cls) (w : (Cond.classLink own index K).before a0 Z = true) (E : Exa Z h a C) (I : ∃ c t, Z.vm.findClass C = some c ∧ Z.vm.findClass K = some t ∧ Z.vm.assignable c t = false) (hd : decode bs pc = .ok (.instanceof index, 3)) (hp : pc + 3 = pc') (K1 : ∀ T', St p l e R s m args below meth c n0 T' h cells slots → Gl p e below n0 Φ Q (T'.setTop (mkF m pc' L (.int 0 :: S)))) : Gl p e below n0 Φ Q (T.setTop (mkF m pc L (.ref a :: S))) := by
  obtain ⟨locs, Y, eT, N⟩ := X; subst hp
  obtain ⟨T', Y', e', st⟩ := instNo Y hx hZ hown w eT E I (g := mkF m pc L (.ref a :: S)) rfl rfl (hb hby hd)
  exact Gl.st st (K1 T' ⟨locs, Y', e', N⟩)
theorem g_instNull (X : St p l e R s m args below meth c n0 T h cells slots) (hx : p.tables.exec = Jvm.exec) (hby : c.code = bs) {index : Nat} (hd : decode bs pc = .ok (.instanceof index, 3)) (hp : pc + 3 = pc') (K1 : Gl p e below n0 Φ Q (T.setTop (mkF m pc' L (.int 0 :: S)))) : Gl p e below n0 Φ Q (T.setTop (mkF m pc L (.null :: S))) := by
  obtain ⟨locs, Y, eT, N⟩ := X; subst hp
  exact Gl.st (fun t k => Y.instanceofNull hx (g := mkF m pc L (.null :: S)) rfl rfl (hb hby hd) t k) K1
theorem g_initO (X : St p l e R s m args below meth c n0 T h cells slots) (hx : p.tables.exec = Jvm.exec) (hby : c.code = bs) (hZ : Z.Warmed39 s.vm) {own : String} {idx W : Nat} {a : Addr} (hown : s.vm.findClass own = some m.cls) (w1 : (Cond.methodLink own idx Lib.objectInit).before a0 Z = true) (w2 : (Cond.instanceMethod Lib.objectInit).before a0 Z = true) (w3 : (Cond.code Lib.objectInit ⟨#[0xb1]⟩ 1 none).before a0 Z = true) (hsz : L.size = c.maxLocals) (hd : decode bs pc = .ok (.invokespecial idx, 3)) (hf : 1 ≤ R.frames) (hW : 2 * 0 + (S.map fun v => v.category).sum ≤ W) (hlo : W + 12 ≤ R.locals) (hp : pc + 3 = pc') (K : ∀ T', St p l e R s m args below meth c n0 T' h cells slots → Gl p e below n0 Φ Q (T'.setTop (mkF m pc' L S))) : Gl p e below n0 Φ Q (T.setTop (mkF m pc L (.ref a :: S))) := by
  obtain ⟨locs, Y, eT, N⟩ := X; subst hp
  obtain ⟨T', Y', e', st⟩ := initO Y hx hZ hown w1 w2 w3 eT (g := mkF m pc L (.ref a :: S)) rfl hsz rfl (hb hby hd) hf (W := W) hW hlo
  exact Gl.st st (K T' ⟨locs, Y', e', N⟩)
theorem g_callS (X : St p l e R s m args below meth c n0 T h cells slots) (hx : p.tables.exec = Jvm.exec) (hby : c.code = bs) (hZ : Z.Warmed39 s.vm) {rm : Room} {y : MethodName} {bytes : ByteArray} {maxL : Nat} {ret : Option FieldType} {Qc : Option Value → Heap → Prop} {own : String} {idx : Nat} {argsL S0 : List Value} (hown : s.vm.findClass own = some m.cls) (w1 : (Cond.methodLink own idx y).before a0 Z = true) (w2 : (Cond.static y).before a0 Z = true) (w3 : (Cond.initialized y.cls).before a0 Z = true) (w4 : (Cond.code y bytes maxL ret).before a0 Z = true) (hy : y.cls ≠ "java/lang/invoke/MethodHandle" ∧ y.cls ≠ "java/lang/invoke/VarHandle") (hM : Ctr l Z y bytes maxL ret [] rm argsL.toArray h n0 rm.cells rm.slots Qc) (hsz : L.size = c.maxLocals) (hlen : ∀ sig, parseMethodDescriptor y.desc = some sig → argsL.length = sig.parameters.length) (hst : S0 = argsL.reverse ++ S) (hd : decode bs pc = .ok (.invokestatic idx, 3)) (hf : rm.frames + 1 ≤ R.frames) {W : Nat} (hW : 2 * 0 + (S.map fun v => v.category).sum ≤ W) (hlo : W + (maxL + 11) + rm.locals ≤ R.locals) (hc : cells + rm.cells ≤ R.cells) (hs : slots + rm.slots ≤ R.slots) (hp : pc + 3 = pc') (K : ∀ T' v, St p l e R s m args below meth c n0 T' T'.heap (cells + rm.cells) (slots + rm.slots) → Qc v T'.heap → Gl p e below n0 Φ Q (T'.setTop (mkF m pc' L (v.toList ++ S)))) : Gl p e below n0 Φ Q (T.setTop (mkF m pc L S0)) := by
  obtain ⟨locs, Y, eT, N⟩ := X; subst hp
  obtain ⟨v, _, ⟨T', L1, k1, n1⟩, -, Y', ⟨Lc, hQ, l1, y1, z1⟩, st⟩ := Jvm.LawKit.callS Y hx (y := y) hown (mvT hZ w1) (mvT hZ w2) (mvT hZ w3) (mvT hZ w4) hy (backOf (W := W) (Q := fun v h L => Qc v h ∧ Fr n0 L) hM hZ w4 w3 hf hlo) (g := mkF m pc L S0) rfl hsz (argsL := argsL) (rest := S) hlen hst hW (hb hby hd) (fun _ _ => ⟨rfl, eT, hc, hs⟩)
  dsimp only [Pt.U, Pt.locs, Pt.cells, Pt.slots] at Y' l1 y1 z1 st hQ
  subst l1 y1 z1
  exact Gl.st (st) (K T' v ⟨_, Y', rfl, Fr.app N hQ.2⟩ hQ.1)
theorem g_callC (X : St p l e R s m args below meth c n0 T h cells slots) (hx : p.tables.exec = Jvm.exec) (hby : c.code = bs) (hZ : Z.Warmed39 s.vm) {rm : Room} {y : MethodName} {bytes : ByteArray} {maxL : Nat} {Qc : Option Value → Heap → Prop} {own : String} {idx : Nat} {a : Addr} {argsL S0 : List Value} (hy1 : y.name = "<init>") (hown : s.vm.findClass own = some m.cls) (w1 : (Cond.methodLink own idx y).before a0 Z = true) (w2 : (Cond.instanceMethod y).before a0 Z = true) (w3 : (Cond.initialized y.cls).before a0 Z = true) (w4 : (Cond.code y bytes maxL none).before a0 Z = true) (hy : y.cls ≠ "java/lang/invoke/MethodHandle" ∧ y.cls ≠ "java/lang/invoke/VarHandle") (hM : Ctr l Z y bytes maxL none [] rm (.ref a :: argsL).toArray h n0 rm.cells rm.slots Qc) (hsz : L.size = c.maxLocals) (hlen : ∀ sig, parseMethodDescriptor y.desc = some sig → argsL.length = sig.parameters.length) (hst : S0 = argsL.reverse ++ .ref a :: S) (hd : decode bs pc = .ok (.invokespecial idx, 3)) (hf : rm.frames + 1 ≤ R.frames) {W : Nat} (hW : 2 * 0 + (S.map fun v => v.category).sum ≤ W) (hlo : W + (maxL + 11) + rm.locals ≤ R.locals) (hc : cells + rm.cells ≤ R.cells) (hs : slots + rm.slots ≤ R.slots) (hp : pc + 3 = pc') (K : ∀ T' v, St p l e R s m args below meth c n0 T' T'.heap (cells + rm.cells) (slots + rm.slots) → Qc v T'.heap → Gl p e below n0 Φ Q (T'.setTop (mkF m pc' L (v.toList ++ S)))) : Gl p e below n0 Φ Q (T.setTop (mkF m pc L S0)) := by
  obtain ⟨locs, Y, eT, N⟩ := X; subst hp
  obtain ⟨v, _, ⟨T', L1, k1, n1⟩, -, Y', ⟨Lc, hQ, l1, y1, z1⟩, st⟩ := Y.specialBack hx (y := y) hy1 hown (mvT hZ w1) (mvT hZ w2) (mvT hZ w4) hy (backOf (W := W) (Q := fun v h L => Qc v h ∧ Fr n0 L) hM hZ w4 w3 hf hlo) (g := mkF m pc L S0) rfl hsz (Steps.refl _) (a := a) (argsL := argsL) (rest := S) hlen hst hW (hb hby hd) (fun _ _ => ⟨rfl, eT, hc, hs⟩)
  dsimp only [Pt.U, Pt.locs, Pt.cells, Pt.slots] at Y' l1 y1 z1 st hQ
  subst l1 y1 z1
  exact Gl.st (fun t k => st.trans k) (K T' v ⟨_, Y', rfl, Fr.app N hQ.2⟩ hQ.1)
theorem g_callV (X : St p l e R s m args below meth c n0 T h cells slots) (hx : p.tables.exec = Jvm.exec) (hby : c.code = bs) (hZ : Z.Warmed39 s.vm) {rm : Room} {y : MethodName} {bytes : ByteArray} {maxL : Nat} {ret : Option FieldType} {Qc : Option Value → Heap → Prop} {own C : String} {idx : Nat} {a : Addr} {y' : MethodName} {argsL S0 : List Value} (hown : s.vm.findClass own = some m.cls) (w1 : (Cond.methodLink own idx y').before a0 Z = true) (w2 : (Cond.declares y').before a0 Z = true) (w5 : NotFace s y') (w6 : (Cond.selects C y' y).before a0 Z = true) (w7 : (Cond.instanceMethod y).before a0 Z = true) (w3 : (Cond.initialized y.cls).before a0 Z = true) (w4 : (Cond.code y bytes maxL ret).before a0 Z = true) (hy : y'.cls ≠ "java/lang/invoke/MethodHandle" ∧ y'.cls ≠ "java/lang/invoke/VarHandle") (E : Exa Z h a C) (hM : Ctr l Z y bytes maxL ret [] rm (.ref a :: argsL).toArray h n0 rm.cells rm.slots Qc) (hsz : L.size = c.maxLocals) (hlen : ∀ sig, parseMethodDescriptor y'.desc = some sig → argsL.length = sig.parameters.length) (hst : S0 = argsL.reverse ++ .ref a :: S) (hd : decode bs pc = .ok (.invokevirtual idx, 3)) (hf : rm.frames + 1 ≤ R.frames) {W : Nat} (hW : 2 * 0 + (S.map fun v => v.category).sum ≤ W) (hlo : W + (maxL + 11) + rm.locals ≤ R.locals) (hc : cells + rm.cells ≤ R.cells) (hs : slots + rm.slots ≤ R.slots) (hp : pc + 3 = pc') (K : ∀ T' v, St p l e R s m args below meth c n0 T' T'.heap (cells + rm.cells) (slots + rm.slots) → Qc v T'.heap → Gl p e below n0 Φ Q (T'.setTop (mkF m pc' L (v.toList ++ S)))) : Gl p e below n0 Φ Q (T.setTop (mkF m pc L S0)) := by
  obtain ⟨locs, Y, eT, N⟩ := X; subst hp
  obtain ⟨cB, kB, qa, qb, qc⟩ := isOf hZ eT E
  obtain ⟨v, _, ⟨T', L1, k1, n1⟩, -, Y', ⟨Lc, hQ, l1, y1, z1⟩, st⟩ := Y.virtualBack hx (y := y') (z := y) hown (mvT hZ w1) (mvT hZ w2) w5 (mvT hZ w6) (mvT hZ w7) hy (backOf (W := W) (Q := fun v h L => Qc v h ∧ Fr n0 L) hM hZ w4 w3 hf hlo) qa qc (g := mkF m pc L S0) rfl hsz (Steps.refl _) (argsL := argsL) (rest := S) hlen hst hW (hb hby hd) (fun _ _ => ⟨rfl, eT, hc, hs⟩)
  dsimp only [Pt.U, Pt.locs, Pt.cells, Pt.slots] at Y' l1 y1 z1 st hQ
  subst l1 y1 z1
  exact Gl.st (fun t k => st.trans k) (K T' v ⟨_, Y', rfl, Fr.app N hQ.2⟩ hQ.1)
end OwnSteps
abbrev own_room (f c s l : Nat) : Room := { frames := f, cells := c, slots := s, locals := l }
theorem own_lt {a b : Int32} (q : a.toInt < b.toInt) : a < b := Int32.lt_iff_toInt_lt.mpr q
theorem own_nlt {a b : Int32} (q : b.toInt ≤ a.toInt) : ¬ a < b := fun z => by have := Int32.lt_iff_toInt_lt.mp z; omega
theorem own_inc {i : Int32} (q : i.toInt < 2147483647) : (i + (1 : Int32)).toInt = i.toInt + 1 := by
  have h1 := c_iadd i 1; have h2 := rng32 (i + 1); have h3 := rng32 i; have h4 : (1 : Int32).toInt = 1 := rfl
  omega
def own_c (r : Int64) (k : Int32) : Int32 := (((r.toUInt64 >>> (((8 : Int32) * k) &&& 0x3f).toInt64.toUInt64).toInt64).toInt32).toInt8.toInt32
def own_tail (r : Int64) (k f t d : Int32) : Int32 := if d = 0 then own_c r k else if k = f - 1 then 46 else if k = t then 46 else own_c r k
def own_tree (r : Int64) (k f t p d : Int32) : Int32 := if k = p then 46 else if k < f then own_tail r k f t d else if k < t then (if own_c r k = 46 then 48 else own_c r k) else own_tail r k f t d
def own_clean (r : Int64) (k f t p d : Int32) : Int32 := nar .byte (own_tree r k f t p d)
theorem own_b8 (x : Int32) : nar .byte (nar .byte x) = nar .byte x := by show x.toInt8.toInt32.toInt8.toInt32 = x.toInt8.toInt32; rw [Int8.toInt8_toInt32]
theorem own_nar (r : Int64) (k f t p d : Int32) : nar .byte (own_clean r k f t p d) = own_clean r k f t p d := own_b8 _
def own_dec (g : Nat → Int32) (t : Int32) : Nat → Int32 → Int32
  | 0, _ => 0
  | k + 1, i => if g i.toInt.toNat = 46 then t - i - 1 else own_dec g t k (i + 1)
theorem own_dec_none {g : Nat → Int32} {t : Int32} : ∀ (k : Nat) (i : Int32), 0 ≤ i.toInt → i.toInt + (k : Int) ≤ 8 → (∀ n : Nat, i.toInt ≤ (n : Int) → (n : Int) < i.toInt + (k : Int) → ¬ g n = 46) → own_dec g t k i = 0
  | 0, _, _, _, _ => rfl
  | k + 1, i, h0, h1, h2 => by
    have a : ¬ g i.toInt.toNat = 46 := h2 _ (by omega) (by omega)
    have e := own_inc (i := i) (by omega)
    simp only [own_dec, a, if_false]
    exact own_dec_none k (i + 1) (by omega) (by omega) fun n p1 p2 => h2 n (by omega) (by omega)
theorem own_dec_hit {g : Nat → Int32} {t P : Int32} (hP : g P.toInt.toNat = 46) : ∀ (k : Nat) (i : Int32), 0 ≤ i.toInt → i.toInt ≤ P.toInt → P.toInt < i.toInt + (k : Int) → i.toInt + (k : Int) ≤ 8 → (∀ n : Nat, i.toInt ≤ (n : Int) → (n : Int) < P.toInt → ¬ g n = 46) → own_dec g t k i = t - P - 1
  | 0, i, h0, h1, h2, _, _ => by omega
  | k + 1, i, h0, h1, h2, h3, h4 => by
    by_cases q : i.toInt = P.toInt
    · have : i = P := Int32.toInt_inj.mp q
      subst this
      simp only [own_dec, hP, if_true]
    · have a : ¬ g i.toInt.toNat = 46 := h4 _ (by omega) (by omega)
      have e := own_inc (i := i) (by omega)
      simp only [own_dec, a, if_false]
      exact own_dec_hit hP k (i + 1) (by omega) (by omega) (by omega) (by omega) fun n p1 p2 => h4 n (by omega) p2
def own_G (r : Int64) (f t p d : Int32) (n : Nat) : Int32 := own_clean r (Int32.ofNat n) f t p d
theorem own_n {n : Nat} (h : n < 8) : (Int32.ofNat n).toInt = (n : Int) := Int32.toInt_ofNat_of_lt (by omega)
theorem own_G_in {r : Int64} {f t p d : Int32} {n : Nat} (h8 : n < 8) (h1 : f.toInt ≤ (n : Int)) (h2 : (n : Int) < t.toInt) (h3 : ¬ (n : Int) = p.toInt) : ¬ own_G r f t p d n = 46 := by
  have e := own_n h8
  have a1 : ¬ Int32.ofNat n = p := fun q => h3 (by rw [← q, e])
  have a2 : ¬ Int32.ofNat n < f := own_nlt (by omega)
  have a3 : Int32.ofNat n < t := own_lt (by omega)
  have e1 : own_tree r (Int32.ofNat n) f t p d = if own_c r (Int32.ofNat n) = 46 then 48 else own_c r (Int32.ofNat n) := by simp only [own_tree, a1, a2, a3, if_true, if_false]
  show ¬ nar .byte (own_tree r (Int32.ofNat n) f t p d) = 46
  rw [e1]
  split
  · decide
  · rename_i q
    show ¬ (own_c r (Int32.ofNat n)).toInt8.toInt32 = 46
    have e2 : (own_c r (Int32.ofNat n)).toInt8.toInt32 = own_c r (Int32.ofNat n) := own_b8 _
    rw [e2]; exact q
theorem own_G_pt {r : Int64} {f t p d : Int32} (h0 : 0 ≤ p.toInt) (h8 : p.toInt < 8) : own_G r f t p d p.toInt.toNat = 46 := by
  have e := own_n (n := p.toInt.toNat) (by omega)
  have a1 : Int32.ofNat p.toInt.toNat = p := by rw [← Int32.toInt_inj, e]; omega
  show nar .byte (own_tree r (Int32.ofNat p.toInt.toNat) f t p d) = 46
  rw [a1]
  simp only [own_tree, if_true]
  decide
theorem own_from (x : Int32) : 0 ≤ (x &&& (7 : Int32)).toInt ∧ (x &&& (7 : Int32)).toInt ≤ 7 := by
  have h1 := c_mask x 7 3 (by decide) (by decide); have h5 : ((2 ^ 3 : Nat) : Int) = 8 := rfl
  omega
theorem own_nine {f : Int32} (h : 0 ≤ f.toInt ∧ f.toInt ≤ 7) : ((9 : Int32) - f).toInt = 9 - f.toInt := by
  have h1 := c_isub 9 f; have h2 := rng32 (9 - f); have h3 : (9 : Int32).toInt = 9 := rfl
  omega
theorem own_nine_nz {f : Int32} (h : 0 ≤ f.toInt ∧ f.toInt ≤ 7) : (9 : Int32) - f ≠ 0 := fun q => by
  have h1 := own_nine h; rw [q] at h1; have : (0 : Int32).toInt = 0 := rfl; omega
theorem own_to {f : Int32} (x : Int32) (h : 0 ≤ f.toInt ∧ f.toInt ≤ 7) : f.toInt ≤ (f + (x &&& (2147483647 : Int32)) % ((9 : Int32) - f)).toInt ∧ (f + (x &&& (2147483647 : Int32)) % ((9 : Int32) - f)).toInt ≤ 8 := by
  have h1 := own_nine h
  have h2 := c_mask x 2147483647 31 (by decide) (by decide +kernel)
  have h3 : ((2 ^ 31 : Nat) : Int) = 2147483648 := rfl
  have h4 := (c_iremV (x &&& 2147483647) (9 - f)).1 (by omega) (by omega)
  have h5 := c_iadd f ((x &&& 2147483647) % (9 - f)); have h6 := rng32 (f + (x &&& 2147483647) % (9 - f))
  omega
theorem own_d {f t : Int32} (h : 0 ≤ f.toInt ∧ f.toInt ≤ 7) (h' : f.toInt ≤ t.toInt ∧ t.toInt ≤ 8) : (t - f).toInt = t.toInt - f.toInt := by
  have h1 := c_isub t f; have h2 := rng32 (t - f)
  omega
theorem own_d_nz {f t : Int32} (h : 0 ≤ f.toInt ∧ f.toInt ≤ 7) (h' : f.toInt ≤ t.toInt ∧ t.toInt ≤ 8) (q : f < t) : t - f ≠ 0 := fun z => by
  have h1 := own_d h h'; rw [z] at h1; have : (0 : Int32).toInt = 0 := rfl; rw [Int32.lt_iff_toInt_lt] at q; omega
theorem own_pt {f t : Int32} (p : Int32) (h : 0 ≤ f.toInt ∧ f.toInt ≤ 7) (h' : f.toInt ≤ t.toInt ∧ t.toInt ≤ 8) (q : f < t) : f.toInt ≤ (f + ((p.toUInt32 >>> ((1 : Int32) &&& 31).toUInt32).toInt32) % (t - f)).toInt ∧ (f + ((p.toUInt32 >>> ((1 : Int32) &&& 31).toUInt32).toInt32) % (t - f)).toInt < t.toInt := by
  have h1 := own_d h h'
  have h2 := c_iushr p 1 1 (by decide) (by decide)
  have h3 : ((2 ^ 1 : Nat) : Int) = 2 := rfl
  rw [Int32.lt_iff_toInt_lt] at q
  generalize ((p.toUInt32 >>> ((1 : Int32) &&& 31).toUInt32).toInt32) = z at *
  have h4 := (c_iremV z (t - f)).1 (by omega) (by omega)
  have h5 := c_iadd f (z % (t - f)); have h6 := rng32 (f + z % (t - f))
  omega
theorem own_end {r : Int64} {f t hp pt d : Int32} (hf : 0 ≤ f.toInt ∧ f.toInt ≤ 7) (ht : f.toInt ≤ t.toInt ∧ t.toInt ≤ 8) (h : (hp = 0 ∧ pt = -1) ∨ (hp = 1 ∧ f.toInt ≤ pt.toInt ∧ pt.toInt < t.toInt)) :
    own_dec (own_G r f t pt d) t (t.toInt - f.toInt).toNat f = if hp = 0 then 0 else t - pt - 1 := by
  rcases h with ⟨rfl, rfl⟩ | ⟨rfl, h1, h2⟩
  · rw [if_pos rfl]
    have e : (-1 : Int32).toInt = -1 := rfl
    exact own_dec_none _ _ (by omega) (by omega) fun n p1 p2 => own_G_in (by omega) (by omega) (by omega) (by rw [e]; omega)
  · rw [if_neg (by decide)]
    exact own_dec_hit (own_G_pt (by omega) (by omega)) _ _ (by omega) h1 (by omega) (by omega) fun n p1 p2 => own_G_in (by omega) (by omega) (by omega) (by omega)
set_option maxRecDepth 65536 in
set_option maxHeartbeats 40000000 in
theorem own_ef1 (m : MethodId) (y0 : Int64) (y1 : Int32) (y2 : Int32) (y3 : Int32) (y4 : Int32) (y5 : Int32)  : entryFrame m #[(.long y0), (.int y1), (.int y2), (.int y3), (.int y4), (.int y5)] 8 = mkF m 0 #[.val (.long y0), .second, .val (.int y1), .val (.int y2), .val (.int y3), .val (.int y4), .val (.int y5), .unset] [] := by first | (simp [entryFrame, mkF, argsToLocals, Value.category, maxLocals]; done) | rfl
theorem own_pn0 : plainName "com/example/basisbook/basisbook/NumbersDecimalsPinLaw" = true := by first | (simp [plainName, overriddenIn]; done) | decide +kernel
theorem own_d0_0 : decode method_3_code 0 = .ok (.lload_n 0, 1) := by decide +kernel
theorem own_d0_1 : decode method_3_code 1 = .ok (.bipush 8, 2) := by decide +kernel
theorem own_d0_3 : decode method_3_code 3 = .ok (.iload_n 2, 1) := by decide +kernel
theorem own_d0_4 : decode method_3_code 4 = .ok (.imul, 1) := by decide +kernel
theorem own_d0_5 : decode method_3_code 5 = .ok (.lushr, 1) := by decide +kernel
theorem own_d0_6 : decode method_3_code 6 = .ok (.l2i, 1) := by decide +kernel
theorem own_d0_7 : decode method_3_code 7 = .ok (.i2b, 1) := by decide +kernel
theorem own_d0_8 : decode method_3_code 8 = .ok (.istore 7, 2) := by decide +kernel
theorem own_d0_10 : decode method_3_code 10 = .ok (.iload_n 2, 1) := by decide +kernel
theorem own_d0_11 : decode method_3_code 11 = .ok (.iload 5, 2) := by decide +kernel
theorem own_d0_13 : decode method_3_code 13 = .ok (.if_icmp .ne 6, 3) := by decide +kernel
theorem own_d0_19 : decode method_3_code 19 = .ok (.iload_n 2, 1) := by decide +kernel
theorem own_d0_20 : decode method_3_code 20 = .ok (.iload_n 3, 1) := by decide +kernel
theorem own_d0_21 : decode method_3_code 21 = .ok (.if_icmp .lt 24, 3) := by decide +kernel
theorem own_d0_45 : decode method_3_code 45 = .ok (.iload 6, 2) := by decide +kernel
theorem own_d0_47 : decode method_3_code 47 = .ok (.ifCond .eq 19, 3) := by decide +kernel
theorem own_d0_66 : decode method_3_code 66 = .ok (.iload 7, 2) := by decide +kernel
theorem own_d0_68 : decode method_3_code 68 = .ok (.ireturn, 1) := by decide +kernel
theorem own_d0_50 : decode method_3_code 50 = .ok (.iload_n 2, 1) := by decide +kernel
theorem own_d0_51 : decode method_3_code 51 = .ok (.iload_n 3, 1) := by decide +kernel
theorem own_d0_52 : decode method_3_code 52 = .ok (.iconst 1, 1) := by decide +kernel
theorem own_d0_53 : decode method_3_code 53 = .ok (.isub, 1) := by decide +kernel
theorem own_d0_54 : decode method_3_code 54 = .ok (.if_icmp .eq 9, 3) := by decide +kernel
theorem own_d0_63 : decode method_3_code 63 = .ok (.bipush 46, 2) := by decide +kernel
theorem own_d0_65 : decode method_3_code 65 = .ok (.ireturn, 1) := by decide +kernel
theorem own_d0_57 : decode method_3_code 57 = .ok (.iload_n 2, 1) := by decide +kernel
theorem own_d0_58 : decode method_3_code 58 = .ok (.iload 4, 2) := by decide +kernel
theorem own_d0_60 : decode method_3_code 60 = .ok (.if_icmp .ne 6, 3) := by decide +kernel
theorem own_d0_24 : decode method_3_code 24 = .ok (.iload_n 2, 1) := by decide +kernel
theorem own_d0_25 : decode method_3_code 25 = .ok (.iload 4, 2) := by decide +kernel
theorem own_d0_27 : decode method_3_code 27 = .ok (.if_icmp .ge 18, 3) := by decide +kernel
theorem own_d0_30 : decode method_3_code 30 = .ok (.iload 7, 2) := by decide +kernel
theorem own_d0_32 : decode method_3_code 32 = .ok (.bipush 46, 2) := by decide +kernel
theorem own_d0_34 : decode method_3_code 34 = .ok (.if_icmp .ne 8, 3) := by decide +kernel
theorem own_d0_42 : decode method_3_code 42 = .ok (.iload 7, 2) := by decide +kernel
theorem own_d0_44 : decode method_3_code 44 = .ok (.ireturn, 1) := by decide +kernel
theorem own_d0_37 : decode method_3_code 37 = .ok (.bipush 48, 2) := by decide +kernel
theorem own_d0_39 : decode method_3_code 39 = .ok (.goto 5, 3) := by decide +kernel
theorem own_d0_16 : decode method_3_code 16 = .ok (.bipush 46, 2) := by decide +kernel
theorem own_d0_18 : decode method_3_code 18 = .ok (.ireturn, 1) := by decide +kernel
set_option maxRecDepth 65536 in
set_option maxHeartbeats 40000000 in
theorem own_rm1 (l : Launch) (Z : State) (a0 : Array Value) (hw : ∀ d ∈ tables_1, d.before a0 Z = true) (y0 : Int64) (y1 y2 y3 y4 y5 : Int32) (h0 : Heap) (n0 : Nat)  :
    Ctr l Z (⟨"com/example/basisbook/basisbook/NumbersDecimalsPinLaw", "clean", "(JIIIIZ)B"⟩ : MethodName) method_3_code 8 (some .byte) [] (own_room 0 0 0 0) #[(.long y0), (.int y1), (.int y2), (.int y3), (.int y4), (.int y5)] h0 n0 0 0 (fun v h => v = some (.int (own_clean y0 y1 y2 y3 y4 y5)) ∧ h = h0) := by
  refine Ctr.of (plainFor_of_name own_pn0) ?_
  intro p e s m below meth c T0 hx hby hml hret hlk hnm hown hZ X0
  rw [own_ef1 m (y0) (y1) (y2) (y3) (y4) (y5)]
  refine g_lloadN X0 hx hby own_d0_0 rfl (pc' := 1) rfl ?_
  refine g_bipush (v := 8) X0 hx hby own_d0_1 rfl (pc' := 3) rfl ?_
  refine g_iloadN X0 hx hby own_d0_3 rfl (pc' := 4) rfl ?_
  refine g_imul X0 hx hby own_d0_4 (pc' := 5) rfl ?_
  refine g_lushr X0 hx hby own_d0_5 (pc' := 6) rfl ?_
  refine g_l2i X0 hx hby own_d0_6 (pc' := 7) rfl ?_
  refine g_i2b X0 hx hby own_d0_7 (pc' := 8) rfl ?_
  change Gl p e below n0 _ _ (T0.setTop (mkF m 8 #[.val (.long y0), .second, .val (.int y1), .val (.int y2), .val (.int y3), .val (.int y4), .val (.int y5), .unset] [(.int (own_c y0 y1))]))
  refine g_istore (L' := #[.val (.long y0), .second, .val (.int y1), .val (.int y2), .val (.int y3), .val (.int y4), .val (.int y5), .val (.int (own_c y0 y1))]) X0 hx hby own_d0_8 rfl (pc' := 10) rfl ?_
  refine g_iloadN X0 hx hby own_d0_10 rfl (pc' := 11) rfl ?_
  refine g_iload X0 hx hby own_d0_11 rfl (pc' := 13) rfl ?_
  refine g_icmp_ne X0 hx hby own_d0_13 (by decide) (pc' := 19) (by decide) (pc2 := 16) rfl (fun c13_2 => ?_) (fun c13_2 => ?_)
  · refine g_iloadN X0 hx hby own_d0_19 rfl (pc' := 20) rfl ?_
    refine g_iloadN X0 hx hby own_d0_20 rfl (pc' := 21) rfl ?_
    refine g_icmp_lt X0 hx hby own_d0_21 (by decide) (pc' := 45) (by decide) (pc2 := 24) rfl (fun c21_3 => ?_) (fun c21_3 => ?_)
    · refine g_iload X0 hx hby own_d0_45 rfl (pc' := 47) rfl ?_
      refine g_if_eq X0 hx hby own_d0_47 (by decide) (pc' := 66) (by decide) (pc2 := 50) rfl (fun c47_4 => ?_) (fun c47_4 => ?_)
      · refine g_iload X0 hx hby own_d0_66 rfl (pc' := 68) rfl ?_
        exact g_retN X0 hx hby hret hlk (by simp) own_d0_68 ⟨congrArg (fun z => some (Value.int z)) (congrArg (nar .byte) (show (own_c y0 y1) = own_tree y0 y1 y2 y3 y4 y5 by simp only [own_tree, own_tail, if_neg c13_2, if_pos c21_3, if_pos c47_4])), rfl⟩ (by decide) (by decide)
      · refine g_iloadN X0 hx hby own_d0_50 rfl (pc' := 51) rfl ?_
        refine g_iloadN X0 hx hby own_d0_51 rfl (pc' := 52) rfl ?_
        refine g_iconst (v := 1) X0 hx hby own_d0_52 rfl (pc' := 53) rfl ?_
        refine g_isub X0 hx hby own_d0_53 (pc' := 54) rfl ?_
        refine g_icmp_eq X0 hx hby own_d0_54 (by decide) (pc' := 63) (by decide) (pc2 := 57) rfl (fun c54_5 => ?_) (fun c54_5 => ?_)
        · refine g_bipush (v := 46) X0 hx hby own_d0_63 rfl (pc' := 65) rfl ?_
          exact g_retN X0 hx hby hret hlk (by simp) own_d0_65 ⟨congrArg (fun z => some (Value.int z)) (congrArg (nar .byte) (show (46 : Int32) = own_tree y0 y1 y2 y3 y4 y5 by simp only [own_tree, own_tail, if_neg c13_2, if_pos c21_3, if_neg c47_4, if_pos c54_5])), rfl⟩ (by decide) (by decide)
        · refine g_iloadN X0 hx hby own_d0_57 rfl (pc' := 58) rfl ?_
          refine g_iload X0 hx hby own_d0_58 rfl (pc' := 60) rfl ?_
          refine g_icmp_ne X0 hx hby own_d0_60 (by decide) (pc' := 66) (by decide) (pc2 := 63) rfl (fun c60_6 => ?_) (fun c60_6 => ?_)
          · refine g_iload X0 hx hby own_d0_66 rfl (pc' := 68) rfl ?_
            exact g_retN X0 hx hby hret hlk (by simp) own_d0_68 ⟨congrArg (fun z => some (Value.int z)) (congrArg (nar .byte) (show (own_c y0 y1) = own_tree y0 y1 y2 y3 y4 y5 by simp only [own_tree, own_tail, if_neg c13_2, if_pos c21_3, if_neg c47_4, if_neg c54_5, if_neg c60_6])), rfl⟩ (by decide) (by decide)
          · refine g_bipush (v := 46) X0 hx hby own_d0_63 rfl (pc' := 65) rfl ?_
            exact g_retN X0 hx hby hret hlk (by simp) own_d0_65 ⟨congrArg (fun z => some (Value.int z)) (congrArg (nar .byte) (show (46 : Int32) = own_tree y0 y1 y2 y3 y4 y5 by simp only [own_tree, own_tail, if_neg c13_2, if_pos c21_3, if_neg c47_4, if_neg c54_5, if_pos c60_6])), rfl⟩ (by decide) (by decide)
    · refine g_iloadN X0 hx hby own_d0_24 rfl (pc' := 25) rfl ?_
      refine g_iload X0 hx hby own_d0_25 rfl (pc' := 27) rfl ?_
      refine g_icmp_ge X0 hx hby own_d0_27 (by decide) (pc' := 45) (by decide) (pc2 := 30) rfl (fun c27_7 => ?_) (fun c27_7 => ?_)
      · refine g_iload X0 hx hby own_d0_45 rfl (pc' := 47) rfl ?_
        refine g_if_eq X0 hx hby own_d0_47 (by decide) (pc' := 66) (by decide) (pc2 := 50) rfl (fun c47_8 => ?_) (fun c47_8 => ?_)
        · refine g_iload X0 hx hby own_d0_66 rfl (pc' := 68) rfl ?_
          exact g_retN X0 hx hby hret hlk (by simp) own_d0_68 ⟨congrArg (fun z => some (Value.int z)) (congrArg (nar .byte) (show (own_c y0 y1) = own_tree y0 y1 y2 y3 y4 y5 by simp only [own_tree, own_tail, if_neg c13_2, if_neg c21_3, if_neg c27_7, if_pos c47_8])), rfl⟩ (by decide) (by decide)
        · refine g_iloadN X0 hx hby own_d0_50 rfl (pc' := 51) rfl ?_
          refine g_iloadN X0 hx hby own_d0_51 rfl (pc' := 52) rfl ?_
          refine g_iconst (v := 1) X0 hx hby own_d0_52 rfl (pc' := 53) rfl ?_
          refine g_isub X0 hx hby own_d0_53 (pc' := 54) rfl ?_
          refine g_icmp_eq X0 hx hby own_d0_54 (by decide) (pc' := 63) (by decide) (pc2 := 57) rfl (fun c54_9 => ?_) (fun c54_9 => ?_)
          · refine g_bipush (v := 46) X0 hx hby own_d0_63 rfl (pc' := 65) rfl ?_
            exact g_retN X0 hx hby hret hlk (by simp) own_d0_65 ⟨congrArg (fun z => some (Value.int z)) (congrArg (nar .byte) (show (46 : Int32) = own_tree y0 y1 y2 y3 y4 y5 by simp only [own_tree, own_tail, if_neg c13_2, if_neg c21_3, if_neg c27_7, if_neg c47_8, if_pos c54_9])), rfl⟩ (by decide) (by decide)
          · refine g_iloadN X0 hx hby own_d0_57 rfl (pc' := 58) rfl ?_
            refine g_iload X0 hx hby own_d0_58 rfl (pc' := 60) rfl ?_
            refine g_icmp_ne X0 hx hby own_d0_60 (by decide) (pc' := 66) (by decide) (pc2 := 63) rfl (fun c60_10 => ?_) (fun c60_10 => ?_)
            · refine g_iload X0 hx hby own_d0_66 rfl (pc' := 68) rfl ?_
              exact g_retN X0 hx hby hret hlk (by simp) own_d0_68 ⟨congrArg (fun z => some (Value.int z)) (congrArg (nar .byte) (show (own_c y0 y1) = own_tree y0 y1 y2 y3 y4 y5 by simp only [own_tree, own_tail, if_neg c13_2, if_neg c21_3, if_neg c27_7, if_neg c47_8, if_neg c54_9, if_neg c60_10])), rfl⟩ (by decide) (by decide)
            · refine g_bipush (v := 46) X0 hx hby own_d0_63 rfl (pc' := 65) rfl ?_
              exact g_retN X0 hx hby hret hlk (by simp) own_d0_65 ⟨congrArg (fun z => some (Value.int z)) (congrArg (nar .byte) (show (46 : Int32) = own_tree y0 y1 y2 y3 y4 y5 by simp only [own_tree, own_tail, if_neg c13_2, if_neg c21_3, if_neg c27_7, if_neg c47_8, if_neg c54_9, if_pos c60_10])), rfl⟩ (by decide) (by decide)
      · refine g_iload X0 hx hby own_d0_30 rfl (pc' := 32) rfl ?_
        refine g_bipush (v := 46) X0 hx hby own_d0_32 rfl (pc' := 34) rfl ?_
        refine g_icmp_ne X0 hx hby own_d0_34 (by decide) (pc' := 42) (by decide) (pc2 := 37) rfl (fun c34_11 => ?_) (fun c34_11 => ?_)
        · refine g_iload X0 hx hby own_d0_42 rfl (pc' := 44) rfl ?_
          exact g_retN X0 hx hby hret hlk (by simp) own_d0_44 ⟨congrArg (fun z => some (Value.int z)) (congrArg (nar .byte) (show (own_c y0 y1) = own_tree y0 y1 y2 y3 y4 y5 by simp only [own_tree, own_tail, if_neg c13_2, if_neg c21_3, if_pos c27_7, if_neg c34_11])), rfl⟩ (by decide) (by decide)
        · refine g_bipush (v := 48) X0 hx hby own_d0_37 rfl (pc' := 39) rfl ?_
          refine g_goto X0 hx hby own_d0_39 (by decide) (pc' := 44) (by decide) ?_
          exact g_retN X0 hx hby hret hlk (by simp) own_d0_44 ⟨congrArg (fun z => some (Value.int z)) (congrArg (nar .byte) (show (48 : Int32) = own_tree y0 y1 y2 y3 y4 y5 by simp only [own_tree, own_tail, if_neg c13_2, if_neg c21_3, if_pos c27_7, if_pos c34_11])), rfl⟩ (by decide) (by decide)
  · refine g_bipush (v := 46) X0 hx hby own_d0_16 rfl (pc' := 18) rfl ?_
    exact g_retN X0 hx hby hret hlk (by simp) own_d0_18 ⟨congrArg (fun z => some (Value.int z)) (congrArg (nar .byte) (show (46 : Int32) = own_tree y0 y1 y2 y3 y4 y5 by simp only [own_tree, own_tail, if_pos c13_2])), rfl⟩ (by decide) (by decide)
set_option maxRecDepth 65536 in
set_option maxHeartbeats 40000000 in
theorem own_ef12 (m : MethodId) (y0 : Addr) (y1 : Int32) (y2 : Int32)  : entryFrame m #[(.ref y0), (.int y1), (.int y2)] 4 = mkF m 0 #[.val (.ref y0), .val (.int y1), .val (.int y2), .unset] [] := by first | (simp [entryFrame, mkF, argsToLocals, Value.category, maxLocals]; done) | rfl
theorem own_pn1 : plainName "com/example/basisbook/basisbook/Numbers" = true := by first | (simp [plainName, overriddenIn]; done) | decide +kernel
theorem own_d1_0 : decode prog_36_method_4_code 0 = .ok (.iload_n 1, 1) := by decide +kernel
theorem own_d1_1 : decode prog_36_method_4_code 1 = .ok (.istore_n 3, 1) := by decide +kernel
theorem own_d1_2 : decode prog_36_method_4_code 2 = .ok (.iload_n 3, 1) := by decide +kernel
theorem own_d1_3 : decode prog_36_method_4_code 3 = .ok (.iload_n 2, 1) := by decide +kernel
theorem own_d1_4 : decode prog_36_method_4_code 4 = .ok (.if_icmp .ge 23, 3) := by decide +kernel
theorem own_d1_27 : decode prog_36_method_4_code 27 = .ok (.iconst 0, 1) := by decide +kernel
theorem own_d1_28 : decode prog_36_method_4_code 28 = .ok (.ireturn, 1) := by decide +kernel
theorem own_d1_7 : decode prog_36_method_4_code 7 = .ok (.aload_n 0, 1) := by decide +kernel
theorem own_d1_8 : decode prog_36_method_4_code 8 = .ok (.iload_n 3, 1) := by decide +kernel
theorem own_d1_9 : decode prog_36_method_4_code 9 = .ok (.baload, 1) := by decide +kernel
theorem own_d1_10 : decode prog_36_method_4_code 10 = .ok (.bipush 46, 2) := by decide +kernel
theorem own_d1_12 : decode prog_36_method_4_code 12 = .ok (.if_icmp .ne 9, 3) := by decide +kernel
theorem own_d1_21 : decode prog_36_method_4_code 21 = .ok (.iinc 3 1, 3) := by decide +kernel
theorem own_d1_24 : decode prog_36_method_4_code 24 = .ok (.goto (-22), 3) := by decide +kernel
theorem own_d1_15 : decode prog_36_method_4_code 15 = .ok (.iload_n 2, 1) := by decide +kernel
theorem own_d1_16 : decode prog_36_method_4_code 16 = .ok (.iload_n 3, 1) := by decide +kernel
theorem own_d1_17 : decode prog_36_method_4_code 17 = .ok (.isub, 1) := by decide +kernel
theorem own_d1_18 : decode prog_36_method_4_code 18 = .ok (.iconst 1, 1) := by decide +kernel
theorem own_d1_19 : decode prog_36_method_4_code 19 = .ok (.isub, 1) := by decide +kernel
theorem own_d1_20 : decode prog_36_method_4_code 20 = .ok (.ireturn, 1) := by decide +kernel
set_option maxRecDepth 65536 in
set_option maxHeartbeats 40000000 in
theorem own_rm2 (l : Launch) (Z : State) (a0 : Array Value) (hw : ∀ d ∈ tables_1, d.before a0 Z = true) (y0 : Addr) (y1 y2 : Int32) (g : Nat → Int32) (h0 : Heap) (n0 : Nat) (A : Ary Z h0 y0 .byte 8 (fun i => .int (g i))) (h1 : 0 ≤ y1.toInt ∧ y1.toInt ≤ 7) (h2 : y1.toInt ≤ y2.toInt ∧ y2.toInt ≤ 8) :
    Ctr l Z (⟨"com/example/basisbook/basisbook/Numbers", "decimals", "([BII)I"⟩ : MethodName) prog_36_method_4_code 4 (some .int) [] (own_room 0 0 0 0) #[(.ref y0), (.int y1), (.int y2)] h0 n0 0 0 (fun v h => v = some (.int (own_dec g y2 (y2.toInt - y1.toInt).toNat y1)) ∧ h = h0) := by
  refine Ctr.of (plainFor_of_name own_pn1) ?_
  intro p e s m below meth c T0 hx hby hml hret hlk hnm hown hZ X0
  rw [own_ef12 m (y0) (y1) (y2)]
  refine g_iloadN X0 hx hby own_d1_0 rfl (pc' := 1) rfl ?_
  refine g_istoreN (L' := #[.val (.ref y0), .val (.int y1), .val (.int y2), .val (.int y1)]) X0 hx hby own_d1_1 rfl (pc' := 2) rfl ?_
  have loop : ∀ (j : Nat) (i : Int32), 0 ≤ i.toInt → i.toInt + (j : Int) = y2.toInt → Gl p e below n0 (Fn s 0 0) (fun v h => v = some (.int (own_dec g y2 j i)) ∧ h = h0) (T0.setTop (mkF m 2 #[.val (.ref y0), .val (.int y1), .val (.int y2), .val (.int i)] [])) := by
    intro j
    induction j with
    | zero =>
      intro i hi hk
      refine g_iloadN X0 hx hby own_d1_2 rfl (pc' := 3) rfl ?_
      refine g_iloadN X0 hx hby own_d1_3 rfl (pc' := 4) rfl ?_
      refine g_icmp_ge X0 hx hby own_d1_4 (by decide) (pc' := 27) (by decide) (pc2 := 7) rfl (fun c4_13 => ?_) (fun q => absurd q (own_nlt (by omega)))
      refine g_iconst (v := 0) X0 hx hby own_d1_27 rfl (pc' := 28) rfl ?_
      exact g_retI X0 hx hby hret hlk own_d1_28 ⟨rfl, rfl⟩ (by decide) (by decide)
    | succ j ih =>
      intro i hi hk
      refine g_iloadN X0 hx hby own_d1_2 rfl (pc' := 3) rfl ?_
      refine g_iloadN X0 hx hby own_d1_3 rfl (pc' := 4) rfl ?_
      refine g_icmp_ge X0 hx hby own_d1_4 (by decide) (pc' := 27) (by decide) (pc2 := 7) rfl (fun q => absurd (own_lt (by omega)) q) (fun c4_14 => ?_)
      refine g_aloadN X0 hx hby own_d1_7 rfl rfl (pc' := 8) rfl ?_
      refine g_iloadN X0 hx hby own_d1_8 rfl (pc' := 9) rfl ?_
      refine g_baload (i := i.toInt.toNat) (v := (.int (g i.toInt.toNat))) X0 hx hby hZ A (by omega) (by omega) rfl own_d1_9 (pc' := 10) rfl ?_
      refine g_bipush (v := 46) X0 hx hby own_d1_10 rfl (pc' := 12) rfl ?_
      refine g_icmp_ne X0 hx hby own_d1_12 (by decide) (pc' := 21) (by decide) (pc2 := 15) rfl (fun c12_15 => ?_) (fun c12_15 => ?_)
      · refine g_iinc (y := 1) (L' := #[.val (.ref y0), .val (.int y1), .val (.int y2), .val (.int (i + (1 : Int32)))]) X0 hx hby own_d1_21 rfl rfl rfl (pc' := 24) rfl ?_
        refine g_goto X0 hx hby own_d1_24 (by decide) (pc' := 2) (by decide) ?_
        have e9 : own_dec g y2 (j + 1) i = own_dec g y2 j (i + 1) := by simp only [own_dec, c12_15, if_false]
        rw [e9]
        exact ih (i + 1) (by rw [own_inc (by omega)]; omega) (by rw [own_inc (by omega)]; omega)
      · refine g_iloadN X0 hx hby own_d1_15 rfl (pc' := 16) rfl ?_
        refine g_iloadN X0 hx hby own_d1_16 rfl (pc' := 17) rfl ?_
        refine g_isub X0 hx hby own_d1_17 (pc' := 18) rfl ?_
        refine g_iconst (v := 1) X0 hx hby own_d1_18 rfl (pc' := 19) rfl ?_
        refine g_isub X0 hx hby own_d1_19 (pc' := 20) rfl ?_
        exact g_retI X0 hx hby hret hlk own_d1_20 ⟨congrArg (fun z => some (Value.int z)) (show ((y2 - i) - (1 : Int32)) = own_dec g y2 (j + 1) i by simp only [own_dec, c12_15, if_true]), rfl⟩ (by decide) (by decide)
  exact loop _ y1 (by omega) (by omega)
set_option maxRecDepth 65536 in
set_option maxHeartbeats 40000000 in
theorem own_ef16 (m : MethodId) (y0 : Int64) (y1 : Int32) (y2 : Int32) (y3 : Int32) (y4 : Int32)  : entryFrame m #[(.long y0), (.int y1), (.int y2), (.int y3), (.int y4)] maxLocals = mkF m 0 #[.val (.long y0), .second, .val (.int y1), .val (.int y2), .val (.int y3), .val (.int y4), .unset, .unset, .unset, .unset, .unset, .unset, .unset] [] := by first | (simp [entryFrame, mkF, argsToLocals, Value.category, maxLocals]; done) | rfl
theorem own_pd0 : parseMethodDescriptor "(JIIIIZ)B" = some ⟨[.long, .int, .int, .int, .int, .boolean], (some .byte)⟩ := by decide +kernel
theorem own_pd1 : parseMethodDescriptor "([BII)I" = some ⟨[(.array .byte), .int, .int], (some .int)⟩ := by decide +kernel
set_option maxRecDepth 65536 in
set_option maxHeartbeats 40000000 in
theorem own_rm0 (l : Launch) (Z : State) (a0 : Array Value) (hw : ∀ d ∈ tables_1, d.before a0 Z = true) (y0 : Int64) (y1 y2 y3 y4 : Int32) (h0 : Heap) (n0 : Nat) (Z0 : n0 ≤ h0.size) :
    Ctr l Z x code maxLocals ret tables_1 room_1 #[(.long y0), (.int y1), (.int y2), (.int y3), (.int y4)] h0 n0 1 8 (fun v h => v = some (.int 1)) := by
  refine Ctr.of (plainFor_of_name own_pn0) ?_
  intro p e s m below meth c T0 hx hby hml hret hlk hnm hown hZ X0
  rw [own_ef16 m (y0) (y1) (y2) (y3) (y4)]
  refine g_iloadN X0 hx hby at_0 rfl (pc' := 1) rfl ?_
  refine g_bipush (v := 7) X0 hx hby at_1 rfl (pc' := 3) rfl ?_
  refine g_iand X0 hx hby at_3 (pc' := 4) rfl ?_
  refine g_istore (L' := #[.val (.long y0), .second, .val (.int y1), .val (.int y2), .val (.int y3), .val (.int y4), .val (.int (y1 &&& (7 : Int32))), .unset, .unset, .unset, .unset, .unset, .unset]) X0 hx hby at_4 rfl (pc' := 6) rfl ?_
  obtain ⟨z17, hz17⟩ : ∃ z, z = (y1 &&& (7 : Int32)) := ⟨_, rfl⟩
  rw [← hz17]
  have hf : 0 ≤ z17.toInt ∧ z17.toInt ≤ 7 := by rw [hz17]; exact own_from y1
  refine g_iload X0 hx hby at_6 rfl (pc' := 8) rfl ?_
  refine g_iloadN X0 hx hby at_8 rfl (pc' := 9) rfl ?_
  refine g_ldc X0 hx hby hZ hown (hw _ (List.mem_of_getElem? (i := 0) rfl)) at_9 (pc' := 11) rfl ?_
  refine g_iand X0 hx hby at_11 (pc' := 12) rfl ?_
  refine g_bipush (v := 9) X0 hx hby at_12 rfl (pc' := 14) rfl ?_
  refine g_iload X0 hx hby at_14 rfl (pc' := 16) rfl ?_
  refine g_isub X0 hx hby at_16 (pc' := 17) rfl ?_
  refine g_irem X0 hx hby at_17 (own_nine_nz hf) (pc' := 18) rfl ?_
  refine g_iadd X0 hx hby at_18 (pc' := 19) rfl ?_
  refine g_istore (L' := #[.val (.long y0), .second, .val (.int y1), .val (.int y2), .val (.int y3), .val (.int y4), .val (.int z17), .val (.int (z17 + ((y2 &&& (2147483647 : Int32)) % ((9 : Int32) - z17)))), .unset, .unset, .unset, .unset, .unset]) X0 hx hby at_19 rfl (pc' := 21) rfl ?_
  obtain ⟨z18, hz18⟩ : ∃ z, z = (z17 + ((y2 &&& (2147483647 : Int32)) % ((9 : Int32) - z17))) := ⟨_, rfl⟩
  rw [← hz18]
  have ht : z17.toInt ≤ z18.toInt ∧ z18.toInt ≤ 8 := by rw [hz18]; exact own_to y2 hf
  have J66 : ∀ hp pt : Int32, ((hp = 0 ∧ pt = -1) ∨ (hp = 1 ∧ z17.toInt ≤ pt.toInt ∧ pt.toInt < z18.toInt)) → Gl p e below n0 (Fn s 1 8) (fun v h => v = some (.int 1)) (T0.setTop (mkF m 66 #[.val (.long y0), .second, .val (.int y1), .val (.int y2), .val (.int y3), .val (.int y4), .val (.int z17), .val (.int z18), .val (.int hp), .val (.int pt), .unset, .unset, .unset] [])) := by
    intro hp pt hpt
    refine g_iload X0 hx hby at_66 rfl (pc' := 68) rfl ?_
    refine g_iconst (v := 1) X0 hx hby at_68 rfl (pc' := 69) rfl ?_
    refine g_iand X0 hx hby at_69 (pc' := 70) rfl ?_
    have J80 : ∀ d : Int32, Gl p e below n0 (Fn s 1 8) (fun v h => v = some (.int 1)) (T0.setTop (mkF m 80 #[.val (.long y0), .second, .val (.int y1), .val (.int y2), .val (.int y3), .val (.int y4), .val (.int z17), .val (.int z18), .val (.int hp), .val (.int pt), .val (.int d), .unset, .unset] [])) := by
      intro d
      refine g_bipush (v := 8) X0 hx hby at_80 rfl (pc' := 82) rfl ?_
      refine g_newarray (k := 8) (cap := 8) X0 hx hby hZ (hw _ (List.mem_of_getElem? (i := 1) rfl)) at_82 rfl (by decide) (by decide) (by decide) (by decide) (pc' := 84) rfl (fun T19 h19 b19 g19 X19 E19 A19 => ?_)
      have nn20 : n0 ≤ b19 := by rw [g19]; exact Z0
      have hh21 : h0.size ≤ b19 := by rw [g19]; exact (Keep.refl h0 []).1
      have zz22 := Nat.le_trans Z0 E19.1
      have kk23 : Keep h0 h19 [] := (Keep.refl h0 []).ext E19
      refine g_astore (L' := #[.val (.long y0), .second, .val (.int y1), .val (.int y2), .val (.int y3), .val (.int y4), .val (.int z17), .val (.int z18), .val (.int hp), .val (.int pt), .val (.int d), .val (.ref b19), .unset]) X19 hx hby at_84 rfl rfl (pc' := 86) rfl ?_
      refine g_aload X19 hx hby at_86 rfl rfl (pc' := 88) rfl ?_
      refine g_iconst (v := 0) X19 hx hby at_88 rfl (pc' := 89) rfl ?_
      refine g_lloadN X19 hx hby at_89 rfl (pc' := 90) rfl ?_
      refine g_iconst (v := 0) X19 hx hby at_90 rfl (pc' := 91) rfl ?_
      refine g_iload X19 hx hby at_91 rfl (pc' := 93) rfl ?_
      refine g_iload X19 hx hby at_93 rfl (pc' := 95) rfl ?_
      refine g_iload X19 hx hby at_95 rfl (pc' := 97) rfl ?_
      refine g_iload X19 hx hby at_97 rfl (pc' := 99) rfl ?_
      refine g_callS (argsL := [(.long y0), (.int (0 : Int32)), (.int z17), (.int z18), (.int pt), (.int d)]) (S := [(.int (0 : Int32)), (.ref b19)]) X19 hx hby hZ (y := (⟨"com/example/basisbook/basisbook/NumbersDecimalsPinLaw", "clean", "(JIIIIZ)B"⟩ : MethodName)) hown (hw _ (List.mem_of_getElem? (i := 2) rfl)) (hw _ (List.mem_of_getElem? (i := 3) rfl)) (hw _ (List.mem_of_getElem? (i := 4) rfl)) (hw _ (List.mem_of_getElem? (i := 5) rfl)) (by decide) (own_rm1 l Z a0 hw (y0) ((0 : Int32)) (z17) (z18) (pt) (d) h19 n0) (by rw [hml]; rfl) (lenOf own_pd0 rfl) rfl at_99 (by decide) (W := 2) (by exact Nat.le_of_eq rfl) (by decide) (by decide) (by decide) (pc' := 102) rfl (fun T24 v24 X24 hQ24 => ?_)
      obtain ⟨rfl, e24⟩ := hQ24
      rw [e24] at X24
      show Gl p e below n0 _ _ (T24.setTop (mkF m 102 #[.val (.long y0), .second, .val (.int y1), .val (.int y2), .val (.int y3), .val (.int y4), .val (.int z17), .val (.int z18), .val (.int hp), .val (.int pt), .val (.int d), .val (.ref b19), .unset] [(.int (own_clean y0 (0 : Int32) z17 z18 pt d)), (.int (0 : Int32)), (.ref b19)]))
      refine g_bastore (i := 0) X24 hx hby hZ A19 rfl (by decide) nn20 at_102 (pc' := 103) rfl (fun T25 h25 sl25 X25 W25 A25 => ?_)
      have zz26 := Nat.le_trans zz22 (Nat.le_of_eq W25.size.symm)
      have kk27 : Keep h0 h25 [] := kk23.wr W25 (Or.inr hh21)
      refine g_aload X25 hx hby at_103 rfl rfl (pc' := 105) rfl ?_
      refine g_iconst (v := 1) X25 hx hby at_105 rfl (pc' := 106) rfl ?_
      refine g_lloadN X25 hx hby at_106 rfl (pc' := 107) rfl ?_
      refine g_iconst (v := 1) X25 hx hby at_107 rfl (pc' := 108) rfl ?_
      refine g_iload X25 hx hby at_108 rfl (pc' := 110) rfl ?_
      refine g_iload X25 hx hby at_110 rfl (pc' := 112) rfl ?_
      refine g_iload X25 hx hby at_112 rfl (pc' := 114) rfl ?_
      refine g_iload X25 hx hby at_114 rfl (pc' := 116) rfl ?_
      refine g_callS (argsL := [(.long y0), (.int (1 : Int32)), (.int z17), (.int z18), (.int pt), (.int d)]) (S := [(.int (1 : Int32)), (.ref b19)]) X25 hx hby hZ (y := (⟨"com/example/basisbook/basisbook/NumbersDecimalsPinLaw", "clean", "(JIIIIZ)B"⟩ : MethodName)) hown (hw _ (List.mem_of_getElem? (i := 2) rfl)) (hw _ (List.mem_of_getElem? (i := 3) rfl)) (hw _ (List.mem_of_getElem? (i := 4) rfl)) (hw _ (List.mem_of_getElem? (i := 5) rfl)) (by decide) (own_rm1 l Z a0 hw (y0) ((1 : Int32)) (z17) (z18) (pt) (d) h25 n0) (by rw [hml]; rfl) (lenOf own_pd0 rfl) rfl at_116 (by decide) (W := 2) (by exact Nat.le_of_eq rfl) (by decide) (by decide) (by decide) (pc' := 119) rfl (fun T28 v28 X28 hQ28 => ?_)
      obtain ⟨rfl, e28⟩ := hQ28
      rw [e28] at X28
      show Gl p e below n0 _ _ (T28.setTop (mkF m 119 #[.val (.long y0), .second, .val (.int y1), .val (.int y2), .val (.int y3), .val (.int y4), .val (.int z17), .val (.int z18), .val (.int hp), .val (.int pt), .val (.int d), .val (.ref b19), .unset] [(.int (own_clean y0 (1 : Int32) z17 z18 pt d)), (.int (1 : Int32)), (.ref b19)]))
      refine g_bastore (i := 1) X28 hx hby hZ A25 rfl (by decide) nn20 at_119 (pc' := 120) rfl (fun T29 h29 sl29 X29 W29 A29 => ?_)
      have zz30 := Nat.le_trans zz26 (Nat.le_of_eq W29.size.symm)
      have kk31 : Keep h0 h29 [] := kk27.wr W29 (Or.inr hh21)
      refine g_aload X29 hx hby at_120 rfl rfl (pc' := 122) rfl ?_
      refine g_iconst (v := 2) X29 hx hby at_122 rfl (pc' := 123) rfl ?_
      refine g_lloadN X29 hx hby at_123 rfl (pc' := 124) rfl ?_
      refine g_iconst (v := 2) X29 hx hby at_124 rfl (pc' := 125) rfl ?_
      refine g_iload X29 hx hby at_125 rfl (pc' := 127) rfl ?_
      refine g_iload X29 hx hby at_127 rfl (pc' := 129) rfl ?_
      refine g_iload X29 hx hby at_129 rfl (pc' := 131) rfl ?_
      refine g_iload X29 hx hby at_131 rfl (pc' := 133) rfl ?_
      refine g_callS (argsL := [(.long y0), (.int (2 : Int32)), (.int z17), (.int z18), (.int pt), (.int d)]) (S := [(.int (2 : Int32)), (.ref b19)]) X29 hx hby hZ (y := (⟨"com/example/basisbook/basisbook/NumbersDecimalsPinLaw", "clean", "(JIIIIZ)B"⟩ : MethodName)) hown (hw _ (List.mem_of_getElem? (i := 2) rfl)) (hw _ (List.mem_of_getElem? (i := 3) rfl)) (hw _ (List.mem_of_getElem? (i := 4) rfl)) (hw _ (List.mem_of_getElem? (i := 5) rfl)) (by decide) (own_rm1 l Z a0 hw (y0) ((2 : Int32)) (z17) (z18) (pt) (d) h29 n0) (by rw [hml]; rfl) (lenOf own_pd0 rfl) rfl at_133 (by decide) (W := 2) (by exact Nat.le_of_eq rfl) (by decide) (by decide) (by decide) (pc' := 136) rfl (fun T32 v32 X32 hQ32 => ?_)
      obtain ⟨rfl, e32⟩ := hQ32
      rw [e32] at X32
      show Gl p e below n0 _ _ (T32.setTop (mkF m 136 #[.val (.long y0), .second, .val (.int y1), .val (.int y2), .val (.int y3), .val (.int y4), .val (.int z17), .val (.int z18), .val (.int hp), .val (.int pt), .val (.int d), .val (.ref b19), .unset] [(.int (own_clean y0 (2 : Int32) z17 z18 pt d)), (.int (2 : Int32)), (.ref b19)]))
      refine g_bastore (i := 2) X32 hx hby hZ A29 rfl (by decide) nn20 at_136 (pc' := 137) rfl (fun T33 h33 sl33 X33 W33 A33 => ?_)
      have zz34 := Nat.le_trans zz30 (Nat.le_of_eq W33.size.symm)
      have kk35 : Keep h0 h33 [] := kk31.wr W33 (Or.inr hh21)
      refine g_aload X33 hx hby at_137 rfl rfl (pc' := 139) rfl ?_
      refine g_iconst (v := 3) X33 hx hby at_139 rfl (pc' := 140) rfl ?_
      refine g_lloadN X33 hx hby at_140 rfl (pc' := 141) rfl ?_
      refine g_iconst (v := 3) X33 hx hby at_141 rfl (pc' := 142) rfl ?_
      refine g_iload X33 hx hby at_142 rfl (pc' := 144) rfl ?_
      refine g_iload X33 hx hby at_144 rfl (pc' := 146) rfl ?_
      refine g_iload X33 hx hby at_146 rfl (pc' := 148) rfl ?_
      refine g_iload X33 hx hby at_148 rfl (pc' := 150) rfl ?_
      refine g_callS (argsL := [(.long y0), (.int (3 : Int32)), (.int z17), (.int z18), (.int pt), (.int d)]) (S := [(.int (3 : Int32)), (.ref b19)]) X33 hx hby hZ (y := (⟨"com/example/basisbook/basisbook/NumbersDecimalsPinLaw", "clean", "(JIIIIZ)B"⟩ : MethodName)) hown (hw _ (List.mem_of_getElem? (i := 2) rfl)) (hw _ (List.mem_of_getElem? (i := 3) rfl)) (hw _ (List.mem_of_getElem? (i := 4) rfl)) (hw _ (List.mem_of_getElem? (i := 5) rfl)) (by decide) (own_rm1 l Z a0 hw (y0) ((3 : Int32)) (z17) (z18) (pt) (d) h33 n0) (by rw [hml]; rfl) (lenOf own_pd0 rfl) rfl at_150 (by decide) (W := 2) (by exact Nat.le_of_eq rfl) (by decide) (by decide) (by decide) (pc' := 153) rfl (fun T36 v36 X36 hQ36 => ?_)
      obtain ⟨rfl, e36⟩ := hQ36
      rw [e36] at X36
      show Gl p e below n0 _ _ (T36.setTop (mkF m 153 #[.val (.long y0), .second, .val (.int y1), .val (.int y2), .val (.int y3), .val (.int y4), .val (.int z17), .val (.int z18), .val (.int hp), .val (.int pt), .val (.int d), .val (.ref b19), .unset] [(.int (own_clean y0 (3 : Int32) z17 z18 pt d)), (.int (3 : Int32)), (.ref b19)]))
      refine g_bastore (i := 3) X36 hx hby hZ A33 rfl (by decide) nn20 at_153 (pc' := 154) rfl (fun T37 h37 sl37 X37 W37 A37 => ?_)
      have zz38 := Nat.le_trans zz34 (Nat.le_of_eq W37.size.symm)
      have kk39 : Keep h0 h37 [] := kk35.wr W37 (Or.inr hh21)
      refine g_aload X37 hx hby at_154 rfl rfl (pc' := 156) rfl ?_
      refine g_iconst (v := 4) X37 hx hby at_156 rfl (pc' := 157) rfl ?_
      refine g_lloadN X37 hx hby at_157 rfl (pc' := 158) rfl ?_
      refine g_iconst (v := 4) X37 hx hby at_158 rfl (pc' := 159) rfl ?_
      refine g_iload X37 hx hby at_159 rfl (pc' := 161) rfl ?_
      refine g_iload X37 hx hby at_161 rfl (pc' := 163) rfl ?_
      refine g_iload X37 hx hby at_163 rfl (pc' := 165) rfl ?_
      refine g_iload X37 hx hby at_165 rfl (pc' := 167) rfl ?_
      refine g_callS (argsL := [(.long y0), (.int (4 : Int32)), (.int z17), (.int z18), (.int pt), (.int d)]) (S := [(.int (4 : Int32)), (.ref b19)]) X37 hx hby hZ (y := (⟨"com/example/basisbook/basisbook/NumbersDecimalsPinLaw", "clean", "(JIIIIZ)B"⟩ : MethodName)) hown (hw _ (List.mem_of_getElem? (i := 2) rfl)) (hw _ (List.mem_of_getElem? (i := 3) rfl)) (hw _ (List.mem_of_getElem? (i := 4) rfl)) (hw _ (List.mem_of_getElem? (i := 5) rfl)) (by decide) (own_rm1 l Z a0 hw (y0) ((4 : Int32)) (z17) (z18) (pt) (d) h37 n0) (by rw [hml]; rfl) (lenOf own_pd0 rfl) rfl at_167 (by decide) (W := 2) (by exact Nat.le_of_eq rfl) (by decide) (by decide) (by decide) (pc' := 170) rfl (fun T40 v40 X40 hQ40 => ?_)
      obtain ⟨rfl, e40⟩ := hQ40
      rw [e40] at X40
      show Gl p e below n0 _ _ (T40.setTop (mkF m 170 #[.val (.long y0), .second, .val (.int y1), .val (.int y2), .val (.int y3), .val (.int y4), .val (.int z17), .val (.int z18), .val (.int hp), .val (.int pt), .val (.int d), .val (.ref b19), .unset] [(.int (own_clean y0 (4 : Int32) z17 z18 pt d)), (.int (4 : Int32)), (.ref b19)]))
      refine g_bastore (i := 4) X40 hx hby hZ A37 rfl (by decide) nn20 at_170 (pc' := 171) rfl (fun T41 h41 sl41 X41 W41 A41 => ?_)
      have zz42 := Nat.le_trans zz38 (Nat.le_of_eq W41.size.symm)
      have kk43 : Keep h0 h41 [] := kk39.wr W41 (Or.inr hh21)
      refine g_aload X41 hx hby at_171 rfl rfl (pc' := 173) rfl ?_
      refine g_iconst (v := 5) X41 hx hby at_173 rfl (pc' := 174) rfl ?_
      refine g_lloadN X41 hx hby at_174 rfl (pc' := 175) rfl ?_
      refine g_iconst (v := 5) X41 hx hby at_175 rfl (pc' := 176) rfl ?_
      refine g_iload X41 hx hby at_176 rfl (pc' := 178) rfl ?_
      refine g_iload X41 hx hby at_178 rfl (pc' := 180) rfl ?_
      refine g_iload X41 hx hby at_180 rfl (pc' := 182) rfl ?_
      refine g_iload X41 hx hby at_182 rfl (pc' := 184) rfl ?_
      refine g_callS (argsL := [(.long y0), (.int (5 : Int32)), (.int z17), (.int z18), (.int pt), (.int d)]) (S := [(.int (5 : Int32)), (.ref b19)]) X41 hx hby hZ (y := (⟨"com/example/basisbook/basisbook/NumbersDecimalsPinLaw", "clean", "(JIIIIZ)B"⟩ : MethodName)) hown (hw _ (List.mem_of_getElem? (i := 2) rfl)) (hw _ (List.mem_of_getElem? (i := 3) rfl)) (hw _ (List.mem_of_getElem? (i := 4) rfl)) (hw _ (List.mem_of_getElem? (i := 5) rfl)) (by decide) (own_rm1 l Z a0 hw (y0) ((5 : Int32)) (z17) (z18) (pt) (d) h41 n0) (by rw [hml]; rfl) (lenOf own_pd0 rfl) rfl at_184 (by decide) (W := 2) (by exact Nat.le_of_eq rfl) (by decide) (by decide) (by decide) (pc' := 187) rfl (fun T44 v44 X44 hQ44 => ?_)
      obtain ⟨rfl, e44⟩ := hQ44
      rw [e44] at X44
      show Gl p e below n0 _ _ (T44.setTop (mkF m 187 #[.val (.long y0), .second, .val (.int y1), .val (.int y2), .val (.int y3), .val (.int y4), .val (.int z17), .val (.int z18), .val (.int hp), .val (.int pt), .val (.int d), .val (.ref b19), .unset] [(.int (own_clean y0 (5 : Int32) z17 z18 pt d)), (.int (5 : Int32)), (.ref b19)]))
      refine g_bastore (i := 5) X44 hx hby hZ A41 rfl (by decide) nn20 at_187 (pc' := 188) rfl (fun T45 h45 sl45 X45 W45 A45 => ?_)
      have zz46 := Nat.le_trans zz42 (Nat.le_of_eq W45.size.symm)
      have kk47 : Keep h0 h45 [] := kk43.wr W45 (Or.inr hh21)
      refine g_aload X45 hx hby at_188 rfl rfl (pc' := 190) rfl ?_
      refine g_bipush (v := 6) X45 hx hby at_190 rfl (pc' := 192) rfl ?_
      refine g_lloadN X45 hx hby at_192 rfl (pc' := 193) rfl ?_
      refine g_bipush (v := 6) X45 hx hby at_193 rfl (pc' := 195) rfl ?_
      refine g_iload X45 hx hby at_195 rfl (pc' := 197) rfl ?_
      refine g_iload X45 hx hby at_197 rfl (pc' := 199) rfl ?_
      refine g_iload X45 hx hby at_199 rfl (pc' := 201) rfl ?_
      refine g_iload X45 hx hby at_201 rfl (pc' := 203) rfl ?_
      refine g_callS (argsL := [(.long y0), (.int (6 : Int32)), (.int z17), (.int z18), (.int pt), (.int d)]) (S := [(.int (6 : Int32)), (.ref b19)]) X45 hx hby hZ (y := (⟨"com/example/basisbook/basisbook/NumbersDecimalsPinLaw", "clean", "(JIIIIZ)B"⟩ : MethodName)) hown (hw _ (List.mem_of_getElem? (i := 2) rfl)) (hw _ (List.mem_of_getElem? (i := 3) rfl)) (hw _ (List.mem_of_getElem? (i := 4) rfl)) (hw _ (List.mem_of_getElem? (i := 5) rfl)) (by decide) (own_rm1 l Z a0 hw (y0) ((6 : Int32)) (z17) (z18) (pt) (d) h45 n0) (by rw [hml]; rfl) (lenOf own_pd0 rfl) rfl at_203 (by decide) (W := 2) (by exact Nat.le_of_eq rfl) (by decide) (by decide) (by decide) (pc' := 206) rfl (fun T48 v48 X48 hQ48 => ?_)
      obtain ⟨rfl, e48⟩ := hQ48
      rw [e48] at X48
      show Gl p e below n0 _ _ (T48.setTop (mkF m 206 #[.val (.long y0), .second, .val (.int y1), .val (.int y2), .val (.int y3), .val (.int y4), .val (.int z17), .val (.int z18), .val (.int hp), .val (.int pt), .val (.int d), .val (.ref b19), .unset] [(.int (own_clean y0 (6 : Int32) z17 z18 pt d)), (.int (6 : Int32)), (.ref b19)]))
      refine g_bastore (i := 6) X48 hx hby hZ A45 rfl (by decide) nn20 at_206 (pc' := 207) rfl (fun T49 h49 sl49 X49 W49 A49 => ?_)
      have zz50 := Nat.le_trans zz46 (Nat.le_of_eq W49.size.symm)
      have kk51 : Keep h0 h49 [] := kk47.wr W49 (Or.inr hh21)
      refine g_aload X49 hx hby at_207 rfl rfl (pc' := 209) rfl ?_
      refine g_bipush (v := 7) X49 hx hby at_209 rfl (pc' := 211) rfl ?_
      refine g_lloadN X49 hx hby at_211 rfl (pc' := 212) rfl ?_
      refine g_bipush (v := 7) X49 hx hby at_212 rfl (pc' := 214) rfl ?_
      refine g_iload X49 hx hby at_214 rfl (pc' := 216) rfl ?_
      refine g_iload X49 hx hby at_216 rfl (pc' := 218) rfl ?_
      refine g_iload X49 hx hby at_218 rfl (pc' := 220) rfl ?_
      refine g_iload X49 hx hby at_220 rfl (pc' := 222) rfl ?_
      refine g_callS (argsL := [(.long y0), (.int (7 : Int32)), (.int z17), (.int z18), (.int pt), (.int d)]) (S := [(.int (7 : Int32)), (.ref b19)]) X49 hx hby hZ (y := (⟨"com/example/basisbook/basisbook/NumbersDecimalsPinLaw", "clean", "(JIIIIZ)B"⟩ : MethodName)) hown (hw _ (List.mem_of_getElem? (i := 2) rfl)) (hw _ (List.mem_of_getElem? (i := 3) rfl)) (hw _ (List.mem_of_getElem? (i := 4) rfl)) (hw _ (List.mem_of_getElem? (i := 5) rfl)) (by decide) (own_rm1 l Z a0 hw (y0) ((7 : Int32)) (z17) (z18) (pt) (d) h49 n0) (by rw [hml]; rfl) (lenOf own_pd0 rfl) rfl at_222 (by decide) (W := 2) (by exact Nat.le_of_eq rfl) (by decide) (by decide) (by decide) (pc' := 225) rfl (fun T52 v52 X52 hQ52 => ?_)
      obtain ⟨rfl, e52⟩ := hQ52
      rw [e52] at X52
      show Gl p e below n0 _ _ (T52.setTop (mkF m 225 #[.val (.long y0), .second, .val (.int y1), .val (.int y2), .val (.int y3), .val (.int y4), .val (.int z17), .val (.int z18), .val (.int hp), .val (.int pt), .val (.int d), .val (.ref b19), .unset] [(.int (own_clean y0 (7 : Int32) z17 z18 pt d)), (.int (7 : Int32)), (.ref b19)]))
      refine g_bastore (i := 7) X52 hx hby hZ A49 rfl (by decide) nn20 at_225 (pc' := 226) rfl (fun T53 h53 sl53 X53 W53 A53 => ?_)
      have zz54 := Nat.le_trans zz50 (Nat.le_of_eq W53.size.symm)
      have kk55 : Keep h0 h53 [] := kk51.wr W53 (Or.inr hh21)
      have AG : Ary Z h53 b19 .byte 8 (fun i => .int (own_G y0 z17 z18 pt d i)) := by
        refine A53.congr fun i hi => ?_
        have h8 : i = 0 ∨ i = 1 ∨ i = 2 ∨ i = 3 ∨ i = 4 ∨ i = 5 ∨ i = 6 ∨ i = 7 := by omega
        rcases h8 with rfl | rfl | rfl | rfl | rfl | rfl | rfl | rfl <;> exact congrArg Value.int (own_nar _ _ _ _ _ _)
      refine g_iload X53 hx hby at_226 rfl (pc' := 228) rfl ?_
      refine g_if_eq X53 hx hby at_228 (by decide) (pc' := 241) (by decide) (pc2 := 231) rfl (fun c228_56 => ?_) (fun c228_56 => ?_)
      · refine g_iconst (v := 0) X53 hx hby at_241 rfl (pc' := 242) rfl ?_
        refine g_istore (L' := #[.val (.long y0), .second, .val (.int y1), .val (.int y2), .val (.int y3), .val (.int y4), .val (.int z17), .val (.int z18), .val (.int hp), .val (.int pt), .val (.int d), .val (.ref b19), .val (.int (0 : Int32))]) X53 hx hby at_242 rfl (pc' := 244) rfl ?_
        refine g_aload X53 hx hby at_244 rfl rfl (pc' := 246) rfl ?_
        refine g_iload X53 hx hby at_246 rfl (pc' := 248) rfl ?_
        refine g_iload X53 hx hby at_248 rfl (pc' := 250) rfl ?_
        refine g_callS (argsL := [(.ref b19), (.int z17), (.int z18)]) (S := []) X53 hx hby hZ (y := (⟨"com/example/basisbook/basisbook/Numbers", "decimals", "([BII)I"⟩ : MethodName)) hown (hw _ (List.mem_of_getElem? (i := 6) rfl)) (hw _ (List.mem_of_getElem? (i := 7) rfl)) (hw _ (List.mem_of_getElem? (i := 8) rfl)) (hw _ (List.mem_of_getElem? (i := 9) rfl)) (by decide) (own_rm2 l Z a0 hw b19 z17 z18 (own_G y0 z17 z18 pt d) h53 n0 AG hf ht) (by rw [hml]; rfl) (lenOf own_pd1 rfl) rfl at_250 (by decide) (W := 0) (by exact Nat.le_of_eq rfl) (by decide) (by decide) (by decide) (pc' := 253) rfl (fun T57 v57 X57 hQ57 => ?_)
        obtain ⟨rfl, e57⟩ := hQ57
        rw [e57] at X57
        rw [own_end hf ht hpt]
        show Gl p e below n0 _ _ (T57.setTop (mkF m 253 #[.val (.long y0), .second, .val (.int y1), .val (.int y2), .val (.int y3), .val (.int y4), .val (.int z17), .val (.int z18), .val (.int hp), .val (.int pt), .val (.int d), .val (.ref b19), .val (.int (0 : Int32))] [(.int (if hp = 0 then 0 else z18 - pt - 1))]))
        refine g_iload X57 hx hby at_253 rfl (pc' := 255) rfl ?_
        refine g_icmp_ne X57 hx hby at_255 (by decide) (pc' := 262) (by decide) (pc2 := 258) rfl (fun q => absurd (show (if hp = 0 then 0 else z18 - pt - 1) = (0 : Int32) by simp only [c228_56, if_true, if_false]) q) (fun c255_58 => ?_)
        refine g_iconst (v := 1) X57 hx hby at_258 rfl (pc' := 259) rfl ?_
        refine g_goto X57 hx hby at_259 (by decide) (pc' := 263) (by decide) ?_
        exact g_retN X57 hx hby hret hlk (by simp) at_263 rfl (by decide) (by decide)
      · refine g_iload X53 hx hby at_231 rfl (pc' := 233) rfl ?_
        refine g_iload X53 hx hby at_233 rfl (pc' := 235) rfl ?_
        refine g_isub X53 hx hby at_235 (pc' := 236) rfl ?_
        refine g_iconst (v := 1) X53 hx hby at_236 rfl (pc' := 237) rfl ?_
        refine g_isub X53 hx hby at_237 (pc' := 238) rfl ?_
        refine g_goto X53 hx hby at_238 (by decide) (pc' := 242) (by decide) ?_
        refine g_istore (L' := #[.val (.long y0), .second, .val (.int y1), .val (.int y2), .val (.int y3), .val (.int y4), .val (.int z17), .val (.int z18), .val (.int hp), .val (.int pt), .val (.int d), .val (.ref b19), .val (.int ((z18 - pt) - (1 : Int32)))]) X53 hx hby at_242 rfl (pc' := 244) rfl ?_
        refine g_aload X53 hx hby at_244 rfl rfl (pc' := 246) rfl ?_
        refine g_iload X53 hx hby at_246 rfl (pc' := 248) rfl ?_
        refine g_iload X53 hx hby at_248 rfl (pc' := 250) rfl ?_
        refine g_callS (argsL := [(.ref b19), (.int z17), (.int z18)]) (S := []) X53 hx hby hZ (y := (⟨"com/example/basisbook/basisbook/Numbers", "decimals", "([BII)I"⟩ : MethodName)) hown (hw _ (List.mem_of_getElem? (i := 6) rfl)) (hw _ (List.mem_of_getElem? (i := 7) rfl)) (hw _ (List.mem_of_getElem? (i := 8) rfl)) (hw _ (List.mem_of_getElem? (i := 9) rfl)) (by decide) (own_rm2 l Z a0 hw b19 z17 z18 (own_G y0 z17 z18 pt d) h53 n0 AG hf ht) (by rw [hml]; rfl) (lenOf own_pd1 rfl) rfl at_250 (by decide) (W := 0) (by exact Nat.le_of_eq rfl) (by decide) (by decide) (by decide) (pc' := 253) rfl (fun T59 v59 X59 hQ59 => ?_)
        obtain ⟨rfl, e59⟩ := hQ59
        rw [e59] at X59
        rw [own_end hf ht hpt]
        show Gl p e below n0 _ _ (T59.setTop (mkF m 253 #[.val (.long y0), .second, .val (.int y1), .val (.int y2), .val (.int y3), .val (.int y4), .val (.int z17), .val (.int z18), .val (.int hp), .val (.int pt), .val (.int d), .val (.ref b19), .val (.int ((z18 - pt) - (1 : Int32)))] [(.int (if hp = 0 then 0 else z18 - pt - 1))]))
        refine g_iload X59 hx hby at_253 rfl (pc' := 255) rfl ?_
        refine g_icmp_ne X59 hx hby at_255 (by decide) (pc' := 262) (by decide) (pc2 := 258) rfl (fun q => absurd (show (if hp = 0 then 0 else z18 - pt - 1) = ((z18 - pt) - (1 : Int32)) by simp only [c228_56, if_true, if_false]) q) (fun c255_60 => ?_)
        refine g_iconst (v := 1) X59 hx hby at_258 rfl (pc' := 259) rfl ?_
        refine g_goto X59 hx hby at_259 (by decide) (pc' := 263) (by decide) ?_
        exact g_retN X59 hx hby hret hlk (by simp) at_263 rfl (by decide) (by decide)
    refine g_if_eq X0 hx hby at_70 (by decide) (pc' := 77) (by decide) (pc2 := 73) rfl (fun c70_61 => ?_) (fun c70_61 => ?_)
    · refine g_iconst (v := 0) X0 hx hby at_77 rfl (pc' := 78) rfl ?_
      refine g_istore (L' := #[.val (.long y0), .second, .val (.int y1), .val (.int y2), .val (.int y3), .val (.int y4), .val (.int z17), .val (.int z18), .val (.int hp), .val (.int pt), .val (.int (0 : Int32)), .unset, .unset]) X0 hx hby at_78 rfl (pc' := 80) rfl ?_
      exact J80 _
    · refine g_iconst (v := 1) X0 hx hby at_73 rfl (pc' := 74) rfl ?_
      refine g_goto X0 hx hby at_74 (by decide) (pc' := 78) (by decide) ?_
      refine g_istore (L' := #[.val (.long y0), .second, .val (.int y1), .val (.int y2), .val (.int y3), .val (.int y4), .val (.int z17), .val (.int z18), .val (.int hp), .val (.int pt), .val (.int (1 : Int32)), .unset, .unset]) X0 hx hby at_78 rfl (pc' := 80) rfl ?_
      exact J80 _
  refine g_iload X0 hx hby at_21 rfl (pc' := 23) rfl ?_
  refine g_iconst (v := 1) X0 hx hby at_23 rfl (pc' := 24) rfl ?_
  refine g_iand X0 hx hby at_24 (pc' := 25) rfl ?_
  refine g_if_eq X0 hx hby at_25 (by decide) (pc' := 39) (by decide) (pc2 := 28) rfl (fun c25_62 => ?_) (fun c25_62 => ?_)
  · refine g_iconst (v := 0) X0 hx hby at_39 rfl (pc' := 40) rfl ?_
    refine g_istore (L' := #[.val (.long y0), .second, .val (.int y1), .val (.int y2), .val (.int y3), .val (.int y4), .val (.int z17), .val (.int z18), .val (.int (0 : Int32)), .unset, .unset, .unset, .unset]) X0 hx hby at_40 rfl (pc' := 42) rfl ?_
    refine g_iload X0 hx hby at_42 rfl (pc' := 44) rfl ?_
    refine g_if_eq X0 hx hby at_44 (by decide) (pc' := 63) (by decide) (pc2 := 47) rfl (fun c44_63 => ?_) (fun q => absurd (by decide) q)
    refine g_iconst (v := (-1)) X0 hx hby at_63 rfl (pc' := 64) rfl ?_
    refine g_istore (L' := #[.val (.long y0), .second, .val (.int y1), .val (.int y2), .val (.int y3), .val (.int y4), .val (.int z17), .val (.int z18), .val (.int (0 : Int32)), .val (.int (-1 : Int32)), .unset, .unset, .unset]) X0 hx hby at_64 rfl (pc' := 66) rfl ?_
    exact J66 _ _ (Or.inl ⟨rfl, rfl⟩)
  · refine g_iload X0 hx hby at_28 rfl (pc' := 30) rfl ?_
    refine g_iload X0 hx hby at_30 rfl (pc' := 32) rfl ?_
    refine g_icmp_le X0 hx hby at_32 (by decide) (pc' := 39) (by decide) (pc2 := 35) rfl (fun c32_64 => ?_) (fun c32_64 => ?_)
    · refine g_iconst (v := 0) X0 hx hby at_39 rfl (pc' := 40) rfl ?_
      refine g_istore (L' := #[.val (.long y0), .second, .val (.int y1), .val (.int y2), .val (.int y3), .val (.int y4), .val (.int z17), .val (.int z18), .val (.int (0 : Int32)), .unset, .unset, .unset, .unset]) X0 hx hby at_40 rfl (pc' := 42) rfl ?_
      refine g_iload X0 hx hby at_42 rfl (pc' := 44) rfl ?_
      refine g_if_eq X0 hx hby at_44 (by decide) (pc' := 63) (by decide) (pc2 := 47) rfl (fun c44_65 => ?_) (fun q => absurd (by decide) q)
      refine g_iconst (v := (-1)) X0 hx hby at_63 rfl (pc' := 64) rfl ?_
      refine g_istore (L' := #[.val (.long y0), .second, .val (.int y1), .val (.int y2), .val (.int y3), .val (.int y4), .val (.int z17), .val (.int z18), .val (.int (0 : Int32)), .val (.int (-1 : Int32)), .unset, .unset, .unset]) X0 hx hby at_64 rfl (pc' := 66) rfl ?_
      exact J66 _ _ (Or.inl ⟨rfl, rfl⟩)
    · refine g_iconst (v := 1) X0 hx hby at_35 rfl (pc' := 36) rfl ?_
      refine g_goto X0 hx hby at_36 (by decide) (pc' := 40) (by decide) ?_
      refine g_istore (L' := #[.val (.long y0), .second, .val (.int y1), .val (.int y2), .val (.int y3), .val (.int y4), .val (.int z17), .val (.int z18), .val (.int (1 : Int32)), .unset, .unset, .unset, .unset]) X0 hx hby at_40 rfl (pc' := 42) rfl ?_
      refine g_iload X0 hx hby at_42 rfl (pc' := 44) rfl ?_
      refine g_if_eq X0 hx hby at_44 (by decide) (pc' := 63) (by decide) (pc2 := 47) rfl (fun q => absurd q (by decide)) (fun c44_66 => ?_)
      refine g_iload X0 hx hby at_47 rfl (pc' := 49) rfl ?_
      refine g_iload X0 hx hby at_49 rfl (pc' := 51) rfl ?_
      refine g_iconst (v := 1) X0 hx hby at_51 rfl (pc' := 52) rfl ?_
      refine g_iushr X0 hx hby at_52 (pc' := 53) rfl ?_
      refine g_iload X0 hx hby at_53 rfl (pc' := 55) rfl ?_
      refine g_iload X0 hx hby at_55 rfl (pc' := 57) rfl ?_
      refine g_isub X0 hx hby at_57 (pc' := 58) rfl ?_
      refine g_irem X0 hx hby at_58 (own_d_nz hf ht c32_64) (pc' := 59) rfl ?_
      refine g_iadd X0 hx hby at_59 (pc' := 60) rfl ?_
      refine g_goto X0 hx hby at_60 (by decide) (pc' := 64) (by decide) ?_
      refine g_istore (L' := #[.val (.long y0), .second, .val (.int y1), .val (.int y2), .val (.int y3), .val (.int y4), .val (.int z17), .val (.int z18), .val (.int (1 : Int32)), .val (.int (z17 + (((y3.toUInt32 >>> ((1 : Int32) &&& 31).toUInt32).toInt32) % (z18 - z17)))), .unset, .unset, .unset]) X0 hx hby at_64 rfl (pc' := 66) rfl ?_
      exact J66 _ _ (Or.inr ⟨rfl, own_pt y3 hf ht c32_64⟩)
set_option maxRecDepth 65536 in
set_option maxHeartbeats 40000000 in
theorem comes_1 {Post : Tables → Env → Array Value → State → Outcome → State → Prop} (hpost : ∀ tb e args s v u, (limb_1_1.after args s (.returned v) u = true ∧ limb_1_2.after args s (.returned v) u = true ∧ True) → FrameEnd s (.returned v) u (Jvm.fieldLocs frame_1_writes args s ++ Jvm.arrayLocs frame_1_arrays args s ++ Jvm.staticLocs frame_1_statics s) 16 128 → Post tb e args s (.returned v) u) :
    ArmFor flags0 classFile x code maxLocals ret World_1 tables_1 room_1 Calls_1 rest_1 Pre_1 Post := by
  intro l hfl _ _ p e ha hc hk s m args below hf hA hF happ hP
  obtain ⟨hcalls, hrest, hpre⟩ := hP
  obtain ⟨-, -, -, hnamed, -, -, -, hat⟩ := (Spec.applies_iff hf).mp happ
  obtain ⟨hg, hn⟩ := and_e (Cond.before_iff.mp (show (Jvm.Cond.and given_1 narrow_1).before args s = true from hpre))
  obtain ⟨hcount, hg0⟩ := and_e hg
  obtain ⟨w0, w1, w2, w3, w4, rfl⟩ : ∃ w0 w1 w2 w3 w4 : Value, args = #[w0, w1, w2, w3, w4] := by
    have hs : args.size = 5 := by simpa [Cond.value, given_1] using hcount
    obtain ⟨L⟩ := args
    match L, hs with
    | [w0, w1, w2, w3, w4], _ => exact ⟨w0, w1, w2, w3, w4, rfl⟩
  have hw := fun d (hd : d ∈ tables_1) => atoms_spec (ws := Jvm.Cond.code x code maxLocals ret :: tables_1) hat d (List.mem_cons_of_mem _ hd)
  have hfit : Fit s := fun {y c} hc i hi => by
    obtain ⟨ha, rfl⟩ := Array.getElem?_eq_some_iff.mp hc
    have q := List.all_eq_true.mp ((Array.all_eq_true_iff_forall_mem.mp hF) _ (Array.getElem_mem ha)) i (List.mem_range.mpr hi)
    simpa [Array.getElem?_eq_getElem hi] using q
  obtain ⟨hk0, hg1⟩ := and_e hg0
  obtain ⟨i0, e0⟩ := isL_v hk0
  obtain rfl : w0 = (.long i0) := Option.some.inj e0
  obtain ⟨hk1, hg2⟩ := and_e hg1
  obtain ⟨i1, e1⟩ := is_v hk1
  obtain rfl : w1 = (.int i1) := Option.some.inj e1
  obtain ⟨hk2, hg3⟩ := and_e hg2
  obtain ⟨i2, e2⟩ := is_v hk2
  obtain rfl : w2 = (.int i2) := Option.some.inj e2
  obtain ⟨hk3, hg4⟩ := and_e hg3
  obtain ⟨i3, e3⟩ := is_v hk3
  obtain rfl : w3 = (.int i3) := Option.some.inj e3
  obtain ⟨i4, e4⟩ := is_v hg4
  obtain rfl : w4 = (.int i4) := Option.some.inj e4
  obtain ⟨n, o, h1, h2, h3, _, L, rfl, ⟨rfl, N⟩, hq⟩ := own_rm0 l s _ hw i0 i1 i2 i3 i4 s.heap s.heap.size (Nat.le_refl _) p e ha hc hk s m _ below hf ((Spec.applies_iff_loose hf).mp happ).1 ⟨rfl, State.Warmed39.refl s, rfl⟩ trivial
  exact ⟨n, _, h1, h2, h3, hpost _ _ _ _ _ _ ⟨Cond.after_iff.mpr rfl, Cond.after_iff.mpr (eq_i res_at (Term.int_eval (1)) rfl), trivial⟩ ⟨hq.1, hq.2.1, (hq.2.2.sift fun y hy => Or.inr (N y hy)).mono (by decide) (by decide)⟩⟩
theorem main_1_1 : Claimed_1_1 := comes_1 fun _ _ _ _ _ _ h hF => ⟨h.1, hF⟩
theorem main_1_2 : Claimed_1_2 := comes_1 fun _ _ _ _ _ _ h hF => ⟨h.2.1, hF⟩
end Jvm.Pilot.@@N@@
namespace Jvm.Pilot.@@N@@
open Jvm Jvm.ClassFile Sem Op Lib Jvm.Free Jvm.Stand Jvm.Pilot.@@N@@.Jvm.D
/-! MADE BY PROGRAM (witnessworld.py) out of the Statement's table words and the real class files: 9 classes; the members and pool entries that the words name. The judged class is class 1, her method 1. -/
namespace start1
open Jvm.ClassFile
def u (s : String) : CpInfo := .utf8 (stringToUtf16 s)
/-- a pool by its gaps: so many unusable entries, then the entry; so many at the end -/
def gap : Nat → List CpInfo → List CpInfo
  | 0, r => r
  | n + 1, r => .unusable :: gap n r
def poolList (es : List (Nat × CpInfo)) (last : Nat) : List CpInfo := es.foldr (fun e r => gap e.1 (e.2 :: r)) (gap last [])
def pool (es : List (Nat × CpInfo)) (last : Nat) : Array CpInfo := ⟨poolList es last⟩
def fileOf (pool : Array CpInfo) (this : Nat) (attrs : Array Attribute := #[]) (ms : Array MethodInfo := #[]) (fl : Nat := 33) (sup : Nat := 0) (ifs : Array Nat := #[]) (fds : Array FieldInfo := #[]) : ClassFile where
  minorVersion := 0
  majorVersion := 65
  constantPool := pool
  accessFlags := fl
  thisClass := this
  superClass := sup
  interfaces := ifs
  fields := fds
  methods := ms
  attributes := attrs
def plain (name : String) (sup : Option ClassId) : Class where
  name := name
  kind := .ordinary
  loader := none
  accessFlags := 33
  super := sup
  interfaces := #[]
  cf := none
  fields := #[]
  methods := #[]
  instanceTypes := #[]
  staticTypes := #[]
  resolved := #[]
  callSites := []
  init := .initialized
  statics := none
  mirror := none

def pool0 : Array CpInfo := pool [(5, u "<init>"), (0, u "()V"), (1, .class_ 10), (1, u "java/lang/Object")] 113

def k0m0 : Method := { name := "<init>", desc := "()V", sig := { parameters := [], returnType := none }, accessFlags := 1, code := none }
/-- java/lang/Object -/
def k0 : Class := { plain "java/lang/Object" none with
  accessFlags := 33
  interfaces := #[]
  cf := some (fileOf pool0 8 #[] #[{ accessFlags := 1, nameIndex := 5, descriptorIndex := 6, attributes := #[] }] 33 0 #[] #[])
  fields := #[]
  methods := #[k0m0]
  instanceTypes := #[]
  staticTypes := #[]
  resolved := Array.replicate 124 none
  statics := none }

def pool1 : Array CpInfo := pool [(2, .class_ 4), (1, u "java/lang/Object"), (0, u "<init>"), (0, u "()V"), (0, .integer 2147483647), (0, .methodref 9 10), (0, .class_ 11), (0, .nameAndType 12 13), (0, u "com/example/basisbook/basisbook/NumbersDecimalsPinLaw"), (0, u "clean"), (0, u "(JIIIIZ)B"), (0, .methodref 15 16), (0, .class_ 17), (0, .nameAndType 18 19), (0, u "com/example/basisbook/basisbook/Numbers"), (0, u "decimals"), (0, u "([BII)I"), (2, u "law"), (0, u "(JIIII)Z")] 5

def k1m0 : Method := { name := "<init>", desc := "()V", sig := { parameters := [], returnType := none }, accessFlags := 1, code := none }
def k1c1 : Code := { maxStack := 9, maxLocals := 13, code := code, exceptionTable := #[], attributes := #[] }
def k1m1 : Method := { name := "law", desc := "(JIIII)Z", sig := { parameters := [.long, .int, .int, .int, .int], returnType := some .boolean }, accessFlags := 9, code := some k1c1 }
def k1c2 : Code := { maxStack := 4, maxLocals := 8, code := method_3_code, exceptionTable := #[], attributes := #[] }
def k1m2 : Method := { name := "clean", desc := "(JIIIIZ)B", sig := { parameters := [.long, .int, .int, .int, .int, .boolean], returnType := some .byte }, accessFlags := 10, code := some k1c2 }
/-- com/example/basisbook/basisbook/NumbersDecimalsPinLaw -/
def k1 : Class := { plain "com/example/basisbook/basisbook/NumbersDecimalsPinLaw" (some 0) with
  accessFlags := 49
  interfaces := #[]
  cf := some (fileOf pool1 9 #[] #[{ accessFlags := 1, nameIndex := 5, descriptorIndex := 6, attributes := #[] }, { accessFlags := 9, nameIndex := 22, descriptorIndex := 23, attributes := #[] }, { accessFlags := 10, nameIndex := 12, descriptorIndex := 13, attributes := #[] }] 49 2 #[] #[])
  fields := #[]
  methods := #[k1m0, k1m1, k1m2]
  instanceTypes := #[]
  staticTypes := #[]
  resolved := Array.replicate 29 none
  statics := none }

def pool2 : Array CpInfo := pool [(1, .class_ 2), (0, u "com/example/basisbook/basisbook/Numbers"), (3, .class_ 8), (1, u "java/lang/Object"), (0, u "<init>"), (0, u "()V"), (39, u "decimals"), (0, u "([BII)I"), (37, u "MOST_LONG_DIGITS"), (0, u "I"), (2, u "MOST_PRICE_DIGITS"), (1, u "MOST_PRICE_LENGTH"), (1, u "LONGER_THAN_PRICE"), (0, u "Ljava/lang/String;"), (2, u "NOT_ASCII"), (0, u "C"), (1, u "BEYOND_LONG"), (0, u "J")] 29

def k2m0 : Method := { name := "<init>", desc := "()V", sig := { parameters := [], returnType := none }, accessFlags := 2, code := none }
def k2c1 : Code := { maxStack := 2, maxLocals := 4, code := prog_36_method_4_code, exceptionTable := #[], attributes := #[] }
def k2m1 : Method := { name := "decimals", desc := "([BII)I", sig := { parameters := [(.array .byte), .int, .int], returnType := some .int }, accessFlags := 8, code := some k2c1 }
/-- com/example/basisbook/basisbook/Numbers -/
def k2 : Class := { plain "com/example/basisbook/basisbook/Numbers" (some 0) with
  accessFlags := 49
  interfaces := #[]
  cf := some (fileOf pool2 1 #[] #[{ accessFlags := 2, nameIndex := 9, descriptorIndex := 10, attributes := #[] }, { accessFlags := 8, nameIndex := 50, descriptorIndex := 51, attributes := #[] }] 49 6 #[] #[{ accessFlags := 26, nameIndex := 89, descriptorIndex := 90, attributes := #[] }, { accessFlags := 26, nameIndex := 93, descriptorIndex := 90, attributes := #[] }, { accessFlags := 26, nameIndex := 95, descriptorIndex := 90, attributes := #[] }, { accessFlags := 26, nameIndex := 97, descriptorIndex := 98, attributes := #[] }, { accessFlags := 26, nameIndex := 101, descriptorIndex := 102, attributes := #[] }, { accessFlags := 24, nameIndex := 104, descriptorIndex := 105, attributes := #[] }])
  fields := #[{ name := "MOST_LONG_DIGITS", type := .int, accessFlags := 26, slot := 0, constantValue := 0 }, { name := "MOST_PRICE_DIGITS", type := .int, accessFlags := 26, slot := 1, constantValue := 0 }, { name := "MOST_PRICE_LENGTH", type := .int, accessFlags := 26, slot := 2, constantValue := 0 }, { name := "LONGER_THAN_PRICE", type := (.object "java/lang/String"), accessFlags := 26, slot := 3, constantValue := 0 }, { name := "NOT_ASCII", type := .char, accessFlags := 26, slot := 4, constantValue := 0 }, { name := "BEYOND_LONG", type := .long, accessFlags := 24, slot := 5, constantValue := 0 }]
  methods := #[k2m0, k2m1]
  instanceTypes := #[]
  staticTypes := #[.int, .int, .int, (.object "java/lang/String"), .char, .long]
  resolved := Array.replicate 135 none
  statics := none }

def pool3 : Array CpInfo := pool [(1, u "java/lang/Cloneable"), (0, .class_ 1), (0, u "java/lang/Object"), (0, .class_ 3)] 3

/-- java/lang/Cloneable -/
def k3 : Class := { plain "java/lang/Cloneable" (some 0) with
  accessFlags := 1537
  interfaces := #[]
  cf := some (fileOf pool3 2 #[] #[] 1537 4 #[] #[])
  fields := #[]
  methods := #[]
  instanceTypes := #[]
  staticTypes := #[]
  resolved := Array.replicate 8 none
  statics := none }

def pool4 : Array CpInfo := pool [(1, u "java/io/Serializable"), (0, .class_ 1), (0, u "java/lang/Object"), (0, .class_ 3)] 3

/-- java/io/Serializable -/
def k4 : Class := { plain "java/io/Serializable" (some 0) with
  accessFlags := 1537
  interfaces := #[]
  cf := some (fileOf pool4 2 #[] #[] 1537 4 #[] #[])
  fields := #[]
  methods := #[]
  instanceTypes := #[]
  staticTypes := #[]
  resolved := Array.replicate 8 none
  statics := none }

/-- the primitive byte -/
def k5 : Class := { plain "byte" none with kind := .primitive 'B', accessFlags := 0x411 }
/-- [B -/
def k6 : Class := { plain "[B" (some 0) with kind := .array 5 .byte, interfaces := #[3, 4], accessFlags := 1041 }

/-- the primitive int -/
def k7 : Class := { plain "int" none with kind := .primitive 'I', accessFlags := 0x411 }
/-- [I -/
def k8 : Class := { plain "[I" (some 0) with kind := .array 7 .int, interfaces := #[3, 4], accessFlags := 1041 }

def heap : Heap := #[]
def classes : Array Class := #[k0, k1, k2, k3, k4, k5, k6, k7, k8]
def interned : List (Array UInt16 × Addr) := []
def slotsUsed : Nat := 0
def theMethod : MethodId := ⟨1, 1⟩
def args0 : Array Value := #[.long 5, .int 7, .int 3, .int 1, .int 1]
def aboutOver (below : List Frame) : State where
  vm := { classes := classes, interned := interned.toArray }
  heap := heap
  slotsUsed := slotsUsed
  threads := #[{ frames := .invoking theMethod args0 :: below }]
def below0 : List Frame := [.native { method := ⟨0, 0⟩, args := #[] }]
def about1 : State := aboutOver below0
def p0 : Program := .bare "" "" ""
def e0 : Env := launch0.env 0 0 0
theorem w_frames : about1.frames = Frame.invoking theMethod args0 :: below0 := rfl
set_option maxRecDepth 65536 in
theorem w_args : argsFit about1.vm theMethod args0 = true := by decide +kernel
set_option maxRecDepth 65536 in
theorem w_heap : heapFits about1 = true := by decide +kernel
set_option maxRecDepth 65536 in
theorem w_runnable : about1.curStatus? = some .runnable := by decide +kernel
set_option maxRecDepth 65536 in
theorem w_alone : about1.alone = true := by decide +kernel
set_option maxRecDepth 65536 in
theorem w_named : about1.methodNamed? x = some theMethod := by decide +kernel
set_option maxRecDepth 65536 in
theorem w_hears : about1.hears theMethod below0 = true := by decide +kernel
set_option maxRecDepth 65536 in
theorem w_ripe : about1.ripe theMethod args0 below0 = true := by decide +kernel
theorem w_running : about1.status = .running := rfl
set_option maxRecDepth 65536 in
theorem w_room : about1.hasRoom e0.platform room_1 = true :=
  launch0.hasRoom_least _ room_1 (by decide +kernel) (by decide +kernel) (by decide +kernel) (by decide +kernel) (by decide +kernel) (by decide +kernel)
theorem allAtoms_all (ts : List Jvm.Cond) (a : Array Jvm.Value) (st : Jvm.State) : (allAtoms ts).before a st = ts.all (fun c => c.before a st) := by
  induction ts with
  | nil => rfl
  | cons c t ih =>
    show (Jvm.Cond.and c (allAtoms t)).before a st = _
    rw [Jvm.Cond.before_and, ih, List.all_cons]
def words1 : List Jvm.Cond := Jvm.Cond.code x code maxLocals ret :: tables_1
/-- a 'code' word, met by the world's own term for the bytes: nothing is compared byte by byte -/
theorem code_word {y : MethodName} {bytes : ByteArray} {mx : Nat} {rt : Option FieldType} {a : Array Value} {s : State} {m : MethodId} {meth : Method} {c : Code} (h1 : s.methodNamed? y = some m) (h2 : s.vm.method? m = some meth) (h3 : meth.code = some c) (h4 : c.code = bytes)
    (h5 : (c.maxLocals == mx && c.exceptionTable.isEmpty && decide (c.maxStack ≤ mostOperands) && decide (meth.sig.returnType = rt) && !meth.locks && decide (parseMethodDescriptor y.desc = some meth.sig)) = true) : (Jvm.Cond.code y bytes mx rt).before a s = true := by
  simp only [Bool.and_eq_true, beq_iff_eq, Bool.not_eq_true', decide_eq_true_eq] at h5
  obtain ⟨⟨⟨⟨⟨g1, g2⟩, g3⟩, g4⟩, g5⟩, g6⟩ := h5
  simp [Cond.before, Cond.holds, Cond.value, h1, h2, h3, h4, g1, g2, g3, g4, g5, g6]
def isCode : Jvm.Cond → Bool
  | .code _ _ _ _ => true
  | _ => false
theorem all_split {L : List Jvm.Cond} {P : Jvm.Cond → Bool} (h1 : L.all (fun c => isCode c || P c) = true) (h2 : ∀ c ∈ L.filter isCode, P c = true) : L.all P = true := by
  refine List.all_eq_true.mpr fun c hc => ?_
  have h := List.all_eq_true.mp h1 c hc
  rcases Bool.eq_false_or_eq_true (isCode c) with hi | hi
  · exact h2 c (List.mem_filter.mpr ⟨hc, hi⟩)
  · simpa [hi] using h
set_option maxRecDepth 65536 in
theorem w_c0 : (Jvm.Cond.code x code maxLocals ret).before args0 about1 = true := code_word (m := ⟨1, 1⟩) (meth := k1m1) (c := k1c1) (by decide +kernel) rfl rfl rfl (by decide +kernel)
set_option maxRecDepth 65536 in
theorem w_c1 : (Jvm.Cond.code ({ cls := "com/example/basisbook/basisbook/NumbersDecimalsPinLaw", name := "clean", desc := "(JIIIIZ)B" } : Jvm.MethodName) method_3_code (8 : Nat) (Option.some Jvm.ClassFile.FieldType.byte)).before args0 about1 = true := code_word (m := ⟨1, 2⟩) (meth := k1m2) (c := k1c2) (by decide +kernel) rfl rfl rfl (by decide +kernel)
set_option maxRecDepth 65536 in
theorem w_c2 : (Jvm.Cond.code ({ cls := "com/example/basisbook/basisbook/Numbers", name := "decimals", desc := "([BII)I" } : Jvm.MethodName) prog_36_method_4_code (4 : Nat) (Option.some Jvm.ClassFile.FieldType.int)).before args0 about1 = true := code_word (m := ⟨2, 1⟩) (meth := k2m1) (c := k2c1) (by decide +kernel) rfl rfl rfl (by decide +kernel)
def codes1 : List Jvm.Cond := [Jvm.Cond.code x code maxLocals ret, Jvm.Cond.code ({ cls := "com/example/basisbook/basisbook/NumbersDecimalsPinLaw", name := "clean", desc := "(JIIIIZ)B" } : Jvm.MethodName) method_3_code (8 : Nat) (Option.some Jvm.ClassFile.FieldType.byte), Jvm.Cond.code ({ cls := "com/example/basisbook/basisbook/Numbers", name := "decimals", desc := "([BII)I" } : Jvm.MethodName) prog_36_method_4_code (4 : Nat) (Option.some Jvm.ClassFile.FieldType.int)]
set_option maxRecDepth 65536 in
theorem codes_eq : words1.filter isCode = codes1 := rfl
theorem w_codes : ∀ c ∈ words1.filter isCode, c.before args0 about1 = true := by
  rw [codes_eq]
  intro c hc
  simp only [codes1, List.mem_cons, List.not_mem_nil, or_false] at hc
  rcases hc with rfl | rfl | rfl
  · exact w_c0
  · exact w_c1
  · exact w_c2
set_option maxRecDepth 65536 in
theorem w_t1 : words1.all (fun c => isCode c || c.before args0 about1) = true := by decide +kernel
theorem w_tables : (allAtoms (Jvm.Cond.code x code maxLocals ret :: tables_1)).before args0 about1 = true := by
  rw [allAtoms_all]
  show words1.all (fun c => c.before args0 about1) = true
  refine all_split ?_ w_codes
  rw [w_t1]
set_option maxRecDepth 65536 in
theorem w_case : (Jvm.Cond.and given_1 narrow_1).before args0 about1 = true := by decide +kernel
theorem w_applies : (headSpec (Jvm.Cond.code x code maxLocals ret :: tables_1) room_1).applies x e0.platform about1 = true :=
  (Spec.applies_iff w_frames).mpr ⟨w_running, w_runnable, w_alone, w_named, w_hears, w_ripe, w_room, w_tables⟩
theorem atStart : AtStart classFile x code maxLocals ret World_1 tables_1 room_1 Calls_1 rest_1 Pre_1 launch0 p0 e0 about1 theMethod args0 below0 :=
  ⟨lists_1, trivial, launch0.admits_env _ _ _, launch0.least_env, fairChoices_fair.cas, fairChoices_fair.clock, w_frames, w_args, w_heap, w_applies, trivial, trivial, w_case⟩
end start1
theorem witness_1 : WitnessClaimed_1 := ⟨start1.p0, start1.e0, start1.about1, start1.theMethod, start1.args0, start1.below0, start1.atStart⟩
end Jvm.Pilot.@@N@@
