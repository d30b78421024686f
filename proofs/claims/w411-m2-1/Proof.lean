import JvmDerived
import JvmDerived.Pilot.@@N@@Statement
import JvmDerived.Pilot.@@N@@Code
set_option linter.unusedVariables false
set_option linter.unusedSimpArgs false
namespace Jvm.Pilot.@@N@@
open Jvm Jvm.ClassFile Sem Op Lib Jvm.Free Jvm.Stand Jvm.LawKit Jvm.RoadKit Bundle Jvm.Pilot.@@N@@.Jvm.D
/-! ## The frame of my walks: Gl: what is left to run ends well; St: where the run stands; Ctr: a body's contract; Ary: an array by its length and its values -/
def Gl (p : Program) (e : Env) (below : List Frame) (n0 : Nat) (Φ : Outcome → State → List Loc → Prop) (Q : Option Value → Heap → Prop) (U : State) : Prop :=
  ∃ s₂ o, Steps p.tables e below U s₂ ∧ s₂.status = .running ∧ Ended s₂ below o ∧ ∃ v L, o = .returned v ∧ (Q v s₂.heap ∧ Fr n0 L) ∧ Φ o s₂ L
abbrev Fn (s : State) (cs sl : Nat) : Outcome → State → List Loc → Prop := fun o t L => FrameEnd s o t L cs sl
abbrev Fw (s : State) (cs sl : Nat) : Outcome → State → List Loc → Prop := fun o t L => ReturnedEndW s o t L cs sl
def St (p : Program) (l : Launch) (e : Env) (R : Room) (s : State) (m : MethodId) (args : Array Value) (below : List Frame) (meth : Method) (c : Code) (n0 : Nat) (T : State) (h : Heap) (cells slots : Nat) : Prop :=
  ∃ locs, Stand p l e R s m args below meth c T locs cells slots ∧ T.heap = h ∧ Fr n0 locs
abbrev Ctr (l : Launch) (Z : State) (y : MethodName) (bytes : ByteArray) (maxL : Nat) (ret : Option FieldType) (ws : List Jvm.Cond) (rm : Room) (as' : Array Value) (h0 : Heap) (n0 cs sl : Nat) (Q : Option Value → Heap → Prop) : Prop :=
  MetFree l y (head1 (Jvm.Cond.code y bytes maxL ret :: ws) rm) (fun a U => a = as' ∧ Z.Warmed39 U.vm ∧ U.heap = h0) (fun _ _ _ _ _ => True) (fun _ U o U' => ∃ v L, o = .returned v ∧ (Q v U'.heap ∧ Fr n0 L) ∧ FrameEnd U o U' L cs sl)
theorem Ctr.of {l : Launch} {Z : State} {y : MethodName} {bytes : ByteArray} {maxL : Nat} {ret : Option FieldType} {ws : List Jvm.Cond} {rm : Room} {as' : Array Value} {h0 : Heap} {n0 cs sl : Nat} {Q : Option Value → Heap → Prop} (hn : plainFor y = true)
    (body : ∀ (p : Program) (e : Env) (s : State) (m : MethodId) (below : List Frame) (meth : Method) (c : Code) (T : State), p.tables.exec = Jvm.exec → c.code = bytes → c.maxLocals = maxL → meth.sig.returnType = ret → meth.locks = false → meth.name = y.name → s.vm.findClass y.cls = some m.cls → Z.Warmed39 s.vm →
      St p l e rm s m as' below meth c n0 T h0 0 0 → Gl p e below n0 (Fn s cs sl) Q (T.setTop (entryFrame m as' maxL))) : Ctr l Z y bytes maxL ret ws rm as' h0 n0 cs sl Q := by
  refine MetFree.of_bodySF hn hisR ?_
  intro p e s m args below meth c s₁ Bd hml0 hP hK
  obtain ⟨rfl, hZ, hh⟩ := hP
  exact body p e s m below meth c s₁ Bd.exec Bd.bytes hml0 Bd.returns Bd.notSynchronized (name_of_methodNamed Bd.named Bd.method).1 (findClass_of_methodNamed Bd.named) hZ ⟨[], Stand.of_body Bd, by rw [← hh, Bd.state]; rfl, Fr.nil n0⟩
theorem own_since (s : State) (n : Nat) : s.Since s.vm n := (State.WarmedH.refl s).since n
abbrev CtrW (l : Launch) (Z : State) (y : MethodName) (bytes : ByteArray) (maxL : Nat) (ret : Option FieldType) (ws : List Jvm.Cond) (rm : Room) (as' : Array Value) (h0 : Heap) (n0 cs sl : Nat) (Q : Option Value → Heap → Prop) : Prop :=
  MetFree l y (head1 (Jvm.Cond.code y bytes maxL ret :: ws) rm) (fun a U => a = as' ∧ Z.Warmed39 U.vm ∧ U.heap = h0) (fun _ _ _ _ _ => True) (fun _ U o U' => ∃ v L, o = .returned v ∧ (Q v U'.heap ∧ Fr n0 L) ∧ ReturnedEndW U o U' L cs sl)
theorem CtrW.of {l : Launch} {Z : State} {y : MethodName} {bytes : ByteArray} {maxL : Nat} {ret : Option FieldType} {ws : List Jvm.Cond} {rm : Room} {as' : Array Value} {h0 : Heap} {n0 cs sl : Nat} {Q : Option Value → Heap → Prop} (hn : plainFor y = true)
    (body : ∀ (p : Program) (e : Env) (s : State) (m : MethodId) (below : List Frame) (meth : Method) (c : Code) (T : State), p.tables.exec = Jvm.exec → c.code = bytes → c.maxLocals = maxL → meth.sig.returnType = ret → meth.locks = false → meth.name = y.name → (s.setVm s.vm).vm.findClass y.cls = some m.cls → Z.Warmed39 (s.setVm s.vm).vm →
      St p l e rm (s.setVm s.vm) m as' below meth c n0 T h0 0 0 → s.Since s.vm h0.size → Gl p e below n0 (Fw s cs sl) Q (T.setTop (entryFrame m as' maxL))) : CtrW l Z y bytes maxL ret ws rm as' h0 n0 cs sl Q := by
  refine MetFree.of_bodySF hn hisR ?_
  intro p e s m args below meth c s₁ Bd hml0 hP hK
  obtain ⟨rfl, hZ, hh⟩ := hP
  exact body p e s m below meth c s₁ Bd.exec Bd.bytes hml0 Bd.returns Bd.notSynchronized (name_of_methodNamed Bd.named Bd.method).1 (findClass_of_methodNamed Bd.named) hZ ⟨[], Stand.of_body Bd, by rw [← hh, Bd.state]; rfl, Fr.nil n0⟩ (own_since s h0.size)
def Ary (Z : State) (h : Heap) (a : Addr) (ty : FieldType) (n : Nat) (f : Nat → Value) : Prop := ∃ c : Cell, Arr Z h a c ty ∧ c.slots.size = n ∧ ∀ i, i < n → c.slots[i]? = some (f i)
def own_upd (f : Nat → Value) (i : Nat) (v : Value) : Nat → Value := fun j => if j = i then v else f j
theorem own_upd_same (f : Nat → Value) (i : Nat) (v : Value) : own_upd f i v i = v := by simp [own_upd]
theorem own_upd_ne (f : Nat → Value) {i j : Nat} (v : Value) (q : ¬ j = i) : own_upd f i v j = f j := by simp [own_upd, q]
theorem own_in {j : Int32} {i k : Nat} (hj : j.toInt = (i : Int)) (hi : i < k) : ¬ (j < 0 ∨ k ≤ j.toNatClampNeg) ∧ j.toNatClampNeg = i := by
  have e : j.toNatClampNeg = i := by simp only [Int32.toNatClampNeg]; omega
  refine ⟨?_, e⟩
  rw [e, Int32.lt_iff_toInt_lt]; have : (0 : Int32).toInt = 0 := rfl
  omega
section OwnFacts
variable {Z : State} {h h' : Heap} {a b : Addr} {ty : FieldType} {n sl : Nat} {f : Nat → Value} {v : Value} {ws : List Addr}
theorem Ary.lt (F : Ary Z h a ty n f) : a < h.size := by obtain ⟨c, A, -⟩ := F; exact A.lt
theorem Ary.ext (F : Ary Z h a ty n f) (E : Ext h h') : Ary Z h' a ty n f := by obtain ⟨c, A, r⟩ := F; exact ⟨c, A.ext E, r⟩
theorem Ary.other (F : Ary Z h b ty n f) (W : Wr h h' a sl v) (q : b ≠ a) : Ary Z h' b ty n f := by obtain ⟨c, A, r⟩ := F; exact ⟨c, A.other W q, r⟩
theorem Ary.keep (F : Ary Z h a ty n f) (K : Keep h h' ws) (q : a ∉ ws) : Ary Z h' a ty n f := by obtain ⟨c, A, r⟩ := F; exact ⟨c, ⟨K.2.1 a c A.1 q, A.2⟩, r⟩
theorem Ary.same {cl : Cell} (A : Arr Z h a cl ty) (sz : cl.slots.size = n) (H : ∀ i, i < n → cl.slots[i]? = some (f i)) {i : Nat} (W : Wr h h' a i v) : Ary Z h' a ty n (own_upd f i v) := by
  refine ⟨_, A.same W, by rw [sz_set]; exact sz, fun j hj => ?_⟩
  by_cases q : j = i
  · subst q; simp [Cell.setSlot, own_upd, sz, hj]
  · rw [own_upd_ne f v q]; exact (Array.getElem?_setIfInBounds_ne (Ne.symm q)).trans (H j hj)
theorem Ary.congr (F : Ary Z h a ty n f) {g : Nat → Value} (q : ∀ i, i < n → f i = g i) : Ary Z h a ty n g := by obtain ⟨c, A, sz, H⟩ := F; exact ⟨c, A, sz, fun i hi => by rw [← q i hi]; exact H i hi⟩
/-- what may lie in an array of C -/
def Ov (Z : State) (h : Heap) (a : Addr) (C : String) : Prop := ∃ c : Cell, h[a]? = some c ∧ Ovr Z c.cls C
theorem Ov.ext {C : String} (F : Ov Z h a C) (E : Ext h h') : Ov Z h' a C := by obtain ⟨c, h1, O⟩ := F; exact ⟨c, E.2 _ _ h1, O⟩
theorem Ov.wr {C : String} (F : Ov Z h a C) (W : Wr h h' b sl v) : Ov Z h' a C := by
  obtain ⟨c, h1, O⟩ := F
  obtain ⟨c', e1, e2, -⟩ := wr_at W h1
  exact ⟨c', e1, by rw [e2]; exact O⟩
theorem Ov.keep {C : String} (F : Ov Z h a C) (K : Keep h h' ws) : Ov Z h' a C := by
  obtain ⟨c, h1, O⟩ := F
  obtain ⟨c', e1, e2, -⟩ := K.2.2 a c h1
  exact ⟨c', e1, by rw [e2]; exact O⟩
theorem Ov.sto {C : String} {y : Addr} (F : Ov Z h a C) (A : Ary Z h a ty n f) (I : Ins Z h y C true) : Sto Z h a (.ref y) := by
  obtain ⟨c, h1, O⟩ := F
  obtain ⟨cl, A, -⟩ := A
  cases h1.symm.trans A.1
  exact Sto.of A O I
theorem own_plain {C : String} (F : Exa Z h a C) : ∃ c : Cell, h[a]? = some c ∧ c.vm.isStatics = false := by obtain ⟨c, k, h1, -, -, h4, -⟩ := F; exact ⟨c, h1, h4⟩
theorem own_plainA (F : Ary Z h a ty n f) : ∃ c : Cell, h[a]? = some c ∧ c.vm.isStatics = false := by obtain ⟨c, A, -⟩ := F; exact ⟨c, A.1, A.plain⟩
theorem own_sta_keep {C nm d : String} (F : Sta Z h C nm d v) (K : Keep h h' ws) (q : ∀ x ∈ ws, ∃ c : Cell, h[x]? = some c ∧ c.vm.isStatics = false) : Sta Z h' C nm d v := by
  obtain ⟨cf, i, k, fd, st, cell, h1, h2, h3, h4, h5, h6, h7⟩ := F
  refine ⟨cf, i, k, fd, st, cell, h1, h2, h3, h4, K.2.1 _ _ h5 fun z => ?_, h6, h7⟩
  obtain ⟨c, e1, e2⟩ := q _ z
  cases h5.symm.trans e1
  rw [e2] at h6; cases h6
theorem own_fld_of {a0 : Array Value} {C O nm d O' nm' d' : String} {k : Nat} (E : Exa Z h a C) (F : Fld Z h a O' nm' d' v) (wi : (Cond.instantiable C k).before a0 Z = true) (L : Laid Z a0 C O nm d) : ∃ v', Fld Z h a O nm d v' := by
  obtain ⟨c, _, _, _, _, h1, -, -, h4, -⟩ := F
  exact fld_laid E ⟨c, h1, h4⟩ wi L
theorem own_ne_ty {ty' : FieldType} {n' : Nat} {f' : Nat → Value} (F : Ary Z h a ty n f) (G : Ary Z h b ty' n' f') (q : ty ≠ ty') : a ≠ b := fun e => by
  subst e
  obtain ⟨c1, A1, -⟩ := F
  obtain ⟨c2, A2, -⟩ := G
  cases A1.1.symm.trans A2.1
  obtain ⟨-, k1, i1, p1, j1⟩ := A1.2.1
  obtain ⟨-, k2, i2, p2, j2⟩ := A2.2.1
  cases i1.symm.trans i2
  rw [j1] at j2; cases j2; exact q rfl
theorem own_ne_exa {a0 : Array Value} {C : String} {k : Nat} (E : Exa Z h a C) (wi : (Cond.instantiable C k).before a0 Z = true) (G : Ary Z h b ty n f) : a ≠ b := by
  obtain ⟨c, A, -⟩ := G; exact ne_arr E wi A
theorem own_fld_inj {C nm d : String} {w : Value} (F : Fld Z h a C nm d v) (G : Fld Z h a C nm d w) : v = w := by
  obtain ⟨c1, cf1, k1, i1, f1, a1, a2, -, -, -, -, a7⟩ := F
  obtain ⟨c2, cf2, k2, i2, f2, b1, b2, -, -, -, -, b7⟩ := G
  cases a1.symm.trans b1
  cases a2.symm.trans b2
  exact Option.some.inj (a7.symm.trans b7)
end OwnFacts
section OwnSteps
variable {p : Program} {l : Launch} {e : Env} {R : Room} {s : State} {m : MethodId} {args : Array Value} {below : List Frame} {meth : Method} {c : Code} {T : State} {n0 : Nat} {h : Heap} {cells slots : Nat} {cs sl : Nat} {Φ : Outcome → State → List Loc → Prop} {Q : Option Value → Heap → Prop} {pc pc' : Nat} {L L' : Array Slot} {S : List Value} {bs : ByteArray} {Z : State} {a0 : Array Value}
theorem Gl.st {U V : State} (q : ∀ t, Steps p.tables e below V t → Steps p.tables e below U t) (k : Gl p e below n0 Φ Q V) : Gl p e below n0 Φ Q U := by
  obtain ⟨t, o, h1, h2⟩ := k; exact ⟨t, o, q _ h1, h2⟩
theorem Gl.mono {U : State} {Q' : Option Value → Heap → Prop} (q : ∀ v h, Q v h → Q' v h) (k : Gl p e below n0 Φ Q U) : Gl p e below n0 Φ Q' U := by
  obtain ⟨t, o, h1, h2, h3, v, L, h4, ⟨h5, h6⟩, h7⟩ := k; exact ⟨t, o, h1, h2, h3, v, L, h4, ⟨q _ _ h5, h6⟩, h7⟩
theorem g_iload (X : St p l e R s m args below meth c n0 T h cells slots) (hx : p.tables.exec = Jvm.exec) (hby : c.code = bs) {k : Nat} {v : Int32} (hd : decode bs pc = .ok (.iload k, 2)) (hl : L[k]? = some (.val (.int v))) (hp : pc + 2 = pc') (K : Gl p e below n0 Φ Q (T.setTop (mkF m pc' L (.int v :: S)))) : Gl p e below n0 Φ Q (T.setTop (mkF m pc L S)) := by
  obtain ⟨locs, Y, -, -⟩ := X; subst hp; exact Gl.st (fun t k => XS.iload Y.here hx rfl (hb hby hd) hl k) K
theorem g_iloadN (X : St p l e R s m args below meth c n0 T h cells slots) (hx : p.tables.exec = Jvm.exec) (hby : c.code = bs) {k : Fin 4} {v : Int32} (hd : decode bs pc = .ok (.iload_n k, 1)) (hl : L[k.val]? = some (.val (.int v))) (hp : pc + 1 = pc') (K : Gl p e below n0 Φ Q (T.setTop (mkF m pc' L (.int v :: S)))) : Gl p e below n0 Φ Q (T.setTop (mkF m pc L S)) := by
  obtain ⟨locs, Y, -, -⟩ := X; subst hp; exact Gl.st (fun t k => XS.iloadN Y.here hx rfl (hb hby hd) hl k) K
theorem g_lload (X : St p l e R s m args below meth c n0 T h cells slots) (hx : p.tables.exec = Jvm.exec) (hby : c.code = bs) {k : Nat} {v : Int64} (hd : decode bs pc = .ok (.lload k, 2)) (hl : L[k]? = some (.val (.long v))) (hp : pc + 2 = pc') (K : Gl p e below n0 Φ Q (T.setTop (mkF m pc' L (.long v :: S)))) : Gl p e below n0 Φ Q (T.setTop (mkF m pc L S)) := by
  obtain ⟨locs, Y, -, -⟩ := X; subst hp; exact Gl.st (fun t k => XS.lload Y.here hx rfl (hb hby hd) hl k) K
theorem g_lloadN (X : St p l e R s m args below meth c n0 T h cells slots) (hx : p.tables.exec = Jvm.exec) (hby : c.code = bs) {k : Fin 4} {v : Int64} (hd : decode bs pc = .ok (.lload_n k, 1)) (hl : L[k.val]? = some (.val (.long v))) (hp : pc + 1 = pc') (K : Gl p e below n0 Φ Q (T.setTop (mkF m pc' L (.long v :: S)))) : Gl p e below n0 Φ Q (T.setTop (mkF m pc L S)) := by
  obtain ⟨locs, Y, -, -⟩ := X; subst hp; exact Gl.st (fun t k => XS.lloadN Y.here hx rfl (hb hby hd) hl k) K
theorem g_aload (X : St p l e R s m args below meth c n0 T h cells slots) (hx : p.tables.exec = Jvm.exec) (hby : c.code = bs) {k : Nat} {v : Value} (hd : decode bs pc = .ok (.aload k, 2)) (hl : L[k]? = some (.val v)) (hv : v.isRef = true) (hp : pc + 2 = pc') (K : Gl p e below n0 Φ Q (T.setTop (mkF m pc' L (v :: S)))) : Gl p e below n0 Φ Q (T.setTop (mkF m pc L S)) := by
  obtain ⟨locs, Y, -, -⟩ := X; subst hp; exact Gl.st (fun t k => XS.aload Y.here hx rfl (hb hby hd) hl hv k) K
theorem g_aloadN (X : St p l e R s m args below meth c n0 T h cells slots) (hx : p.tables.exec = Jvm.exec) (hby : c.code = bs) {k : Fin 4} {v : Value} (hd : decode bs pc = .ok (.aload_n k, 1)) (hl : L[k.val]? = some (.val v)) (hv : v.isRef = true) (hp : pc + 1 = pc') (K : Gl p e below n0 Φ Q (T.setTop (mkF m pc' L (v :: S)))) : Gl p e below n0 Φ Q (T.setTop (mkF m pc L S)) := by
  obtain ⟨locs, Y, -, -⟩ := X; subst hp; exact Gl.st (fun t k => XS.aloadN Y.here hx rfl (hb hby hd) hl hv k) K
theorem g_istore (X : St p l e R s m args below meth c n0 T h cells slots) (hx : p.tables.exec = Jvm.exec) (hby : c.code = bs) {k : Nat} {v : Int32} (hd : decode bs pc = .ok (.istore k, 2)) (hl : storeLocals L k (.int v) = some L') (hp : pc + 2 = pc') (K : Gl p e below n0 Φ Q (T.setTop (mkF m pc' L' S))) : Gl p e below n0 Φ Q (T.setTop (mkF m pc L (.int v :: S))) := by
  obtain ⟨locs, Y, -, -⟩ := X; subst hp; exact Gl.st (fun t k => XS.istore Y.here hx rfl (hb hby hd) rfl hl k) K
theorem g_istoreN (X : St p l e R s m args below meth c n0 T h cells slots) (hx : p.tables.exec = Jvm.exec) (hby : c.code = bs) {k : Fin 4} {v : Int32} (hd : decode bs pc = .ok (.istore_n k, 1)) (hl : storeLocals L k.val (.int v) = some L') (hp : pc + 1 = pc') (K : Gl p e below n0 Φ Q (T.setTop (mkF m pc' L' S))) : Gl p e below n0 Φ Q (T.setTop (mkF m pc L (.int v :: S))) := by
  obtain ⟨locs, Y, -, -⟩ := X; subst hp; exact Gl.st (fun t k => XS.istoreN Y.here hx rfl (hb hby hd) rfl hl k) K
theorem g_lstore (X : St p l e R s m args below meth c n0 T h cells slots) (hx : p.tables.exec = Jvm.exec) (hby : c.code = bs) {k : Nat} {v : Int64} (hd : decode bs pc = .ok (.lstore k, 2)) (hl : storeLocals L k (.long v) = some L') (hp : pc + 2 = pc') (K : Gl p e below n0 Φ Q (T.setTop (mkF m pc' L' S))) : Gl p e below n0 Φ Q (T.setTop (mkF m pc L (.long v :: S))) := by
  obtain ⟨locs, Y, -, -⟩ := X; subst hp; exact Gl.st (fun t k => XS.lstore Y.here hx rfl (hb hby hd) rfl hl k) K
theorem g_lstoreN (X : St p l e R s m args below meth c n0 T h cells slots) (hx : p.tables.exec = Jvm.exec) (hby : c.code = bs) {k : Fin 4} {v : Int64} (hd : decode bs pc = .ok (.lstore_n k, 1)) (hl : storeLocals L k.val (.long v) = some L') (hp : pc + 1 = pc') (K : Gl p e below n0 Φ Q (T.setTop (mkF m pc' L' S))) : Gl p e below n0 Φ Q (T.setTop (mkF m pc L (.long v :: S))) := by
  obtain ⟨locs, Y, -, -⟩ := X; subst hp; exact Gl.st (fun t k => XS.lstoreN Y.here hx rfl (hb hby hd) rfl hl k) K
theorem g_astore (X : St p l e R s m args below meth c n0 T h cells slots) (hx : p.tables.exec = Jvm.exec) (hby : c.code = bs) {k : Nat} {v : Value} (hd : decode bs pc = .ok (.astore k, 2)) (hv : v.isRef = true) (hl : storeLocals L k v = some L') (hp : pc + 2 = pc') (K : Gl p e below n0 Φ Q (T.setTop (mkF m pc' L' S))) : Gl p e below n0 Φ Q (T.setTop (mkF m pc L (v :: S))) := by
  obtain ⟨locs, Y, -, -⟩ := X; subst hp; exact Gl.st (fun t k => XS.astore Y.here hx rfl (hb hby hd) rfl hv hl k) K
theorem g_astoreN (X : St p l e R s m args below meth c n0 T h cells slots) (hx : p.tables.exec = Jvm.exec) (hby : c.code = bs) {k : Fin 4} {v : Value} (hd : decode bs pc = .ok (.astore_n k, 1)) (hv : v.isRef = true) (hl : storeLocals L k.val v = some L') (hp : pc + 1 = pc') (K : Gl p e below n0 Φ Q (T.setTop (mkF m pc' L' S))) : Gl p e below n0 Φ Q (T.setTop (mkF m pc L (v :: S))) := by
  obtain ⟨locs, Y, -, -⟩ := X; subst hp; exact Gl.st (fun t k => XS.astoreN Y.here hx rfl (hb hby hd) rfl hv hl k) K
theorem g_iconst (X : St p l e R s m args below meth c n0 T h cells slots) (hx : p.tables.exec = Jvm.exec) (hby : c.code = bs) {i : Int} {v : Int32} (hd : decode bs pc = .ok (.iconst i, 1)) (hv : Int32.ofInt i = v) (hp : pc + 1 = pc') (K : Gl p e below n0 Φ Q (T.setTop (mkF m pc' L (.int v :: S)))) : Gl p e below n0 Φ Q (T.setTop (mkF m pc L S)) := by
  obtain ⟨locs, Y, -, -⟩ := X; subst hp hv; exact Gl.st (fun t k => XS.iconst Y.here hx rfl (hb hby hd) k) K
theorem g_bipush (X : St p l e R s m args below meth c n0 T h cells slots) (hx : p.tables.exec = Jvm.exec) (hby : c.code = bs) {i : Int} {v : Int32} (hd : decode bs pc = .ok (.bipush i, 2)) (hv : (Int8.ofInt i).toInt32 = v) (hp : pc + 2 = pc') (K : Gl p e below n0 Φ Q (T.setTop (mkF m pc' L (.int v :: S)))) : Gl p e below n0 Φ Q (T.setTop (mkF m pc L S)) := by
  obtain ⟨locs, Y, -, -⟩ := X; subst hp hv; exact Gl.st (fun t k => XS.bipush Y.here hx rfl (hb hby hd) k) K
theorem g_sipush (X : St p l e R s m args below meth c n0 T h cells slots) (hx : p.tables.exec = Jvm.exec) (hby : c.code = bs) {i : Int} {v : Int32} (hd : decode bs pc = .ok (.sipush i, 3)) (hv : (Int16.ofInt i).toInt32 = v) (hp : pc + 3 = pc') (K : Gl p e below n0 Φ Q (T.setTop (mkF m pc' L (.int v :: S)))) : Gl p e below n0 Φ Q (T.setTop (mkF m pc L S)) := by
  obtain ⟨locs, Y, -, -⟩ := X; subst hp hv; exact Gl.st (fun t k => XS.sipush Y.here hx rfl (hb hby hd) k) K
theorem g_lconst (X : St p l e R s m args below meth c n0 T h cells slots) (hx : p.tables.exec = Jvm.exec) (hby : c.code = bs) {i : Fin 2} {v : Int64} (hd : decode bs pc = .ok (.lconst i, 1)) (hv : Int64.ofNat i = v) (hp : pc + 1 = pc') (K : Gl p e below n0 Φ Q (T.setTop (mkF m pc' L (.long v :: S)))) : Gl p e below n0 Φ Q (T.setTop (mkF m pc L S)) := by
  obtain ⟨locs, Y, -, -⟩ := X; subst hp hv; exact Gl.st (fun t k => XS.lconst Y.here hx rfl (hb hby hd) k) K
theorem g_aconst_null (X : St p l e R s m args below meth c n0 T h cells slots) (hx : p.tables.exec = Jvm.exec) (hby : c.code = bs) (hd : decode bs pc = .ok (.aconst_null, 1)) (hp : pc + 1 = pc') (K : Gl p e below n0 Φ Q (T.setTop (mkF m pc' L (.null :: S)))) : Gl p e below n0 Φ Q (T.setTop (mkF m pc L S)) := by
  obtain ⟨locs, Y, -, -⟩ := X; subst hp; exact Gl.st (fun t k => XS.aconstNull Y.here hx rfl (hb hby hd) k) K
theorem g_ldc (X : St p l e R s m args below meth c n0 T h cells slots) (hx : p.tables.exec = Jvm.exec) (hby : c.code = bs) (hZ : Z.Warmed39 s.vm) {own : String} {index : Nat} {v : Int32} (hown : s.vm.findClass own = some m.cls) (w : (Cond.constant own index v).before a0 Z = true) (hd : decode bs pc = .ok (.ldc index, 2)) (hp : pc + 2 = pc') (K : Gl p e below n0 Φ Q (T.setTop (mkF m pc' L (.int v :: S)))) : Gl p e below n0 Φ Q (T.setTop (mkF m pc L S)) := by
  obtain ⟨locs, Y, -, -⟩ := X; subst hp; exact Gl.st (Y.ldcInt hx hown (mvT hZ w) (g := mkF m pc L S) rfl (hb hby hd)) K
theorem g_ldc2_w (X : St p l e R s m args below meth c n0 T h cells slots) (hx : p.tables.exec = Jvm.exec) (hby : c.code = bs) (hZ : Z.Warmed39 s.vm) {own : String} {index : Nat} {v : Int64} (hown : s.vm.findClass own = some m.cls) (w : (Cond.constantLong own index v).before a0 Z = true) (hd : decode bs pc = .ok (.ldc2_w index, 3)) (hp : pc + 3 = pc') (K : Gl p e below n0 Φ Q (T.setTop (mkF m pc' L (.long v :: S)))) : Gl p e below n0 Φ Q (T.setTop (mkF m pc L S)) := by
  obtain ⟨locs, Y, -, -⟩ := X; subst hp; exact Gl.st (Y.ldc2Long hx hown (mvT hZ w) (g := mkF m pc L S) rfl (hb hby hd)) K
theorem g_iadd (X : St p l e R s m args below meth c n0 T h cells slots) (hx : p.tables.exec = Jvm.exec) (hby : c.code = bs) {x y : Int32} (hd : decode bs pc = .ok (.iadd, 1))  (hp : pc + 1 = pc') (K : Gl p e below n0 Φ Q (T.setTop (mkF m pc' L (.int (x + y) :: S)))) : Gl p e below n0 Φ Q (T.setTop (mkF m pc L (.int y :: .int x :: S))) := by
  obtain ⟨locs, Y, -, -⟩ := X; subst hp; exact Gl.st (fun t k => XS.iadd Y.here hx rfl (hb hby hd) rfl k) K
theorem g_isub (X : St p l e R s m args below meth c n0 T h cells slots) (hx : p.tables.exec = Jvm.exec) (hby : c.code = bs) {x y : Int32} (hd : decode bs pc = .ok (.isub, 1))  (hp : pc + 1 = pc') (K : Gl p e below n0 Φ Q (T.setTop (mkF m pc' L (.int (x - y) :: S)))) : Gl p e below n0 Φ Q (T.setTop (mkF m pc L (.int y :: .int x :: S))) := by
  obtain ⟨locs, Y, -, -⟩ := X; subst hp; exact Gl.st (fun t k => XS.isub Y.here hx rfl (hb hby hd) rfl k) K
theorem g_imul (X : St p l e R s m args below meth c n0 T h cells slots) (hx : p.tables.exec = Jvm.exec) (hby : c.code = bs) {x y : Int32} (hd : decode bs pc = .ok (.imul, 1))  (hp : pc + 1 = pc') (K : Gl p e below n0 Φ Q (T.setTop (mkF m pc' L (.int (x * y) :: S)))) : Gl p e below n0 Φ Q (T.setTop (mkF m pc L (.int y :: .int x :: S))) := by
  obtain ⟨locs, Y, -, -⟩ := X; subst hp; exact Gl.st (fun t k => XS.imul Y.here hx rfl (hb hby hd) rfl k) K
theorem g_iand (X : St p l e R s m args below meth c n0 T h cells slots) (hx : p.tables.exec = Jvm.exec) (hby : c.code = bs) {x y : Int32} (hd : decode bs pc = .ok (.iand, 1))  (hp : pc + 1 = pc') (K : Gl p e below n0 Φ Q (T.setTop (mkF m pc' L (.int (x &&& y) :: S)))) : Gl p e below n0 Φ Q (T.setTop (mkF m pc L (.int y :: .int x :: S))) := by
  obtain ⟨locs, Y, -, -⟩ := X; subst hp; exact Gl.st (fun t k => XS.iand Y.here hx rfl (hb hby hd) rfl k) K
theorem g_ior (X : St p l e R s m args below meth c n0 T h cells slots) (hx : p.tables.exec = Jvm.exec) (hby : c.code = bs) {x y : Int32} (hd : decode bs pc = .ok (.ior, 1))  (hp : pc + 1 = pc') (K : Gl p e below n0 Φ Q (T.setTop (mkF m pc' L (.int (x ||| y) :: S)))) : Gl p e below n0 Φ Q (T.setTop (mkF m pc L (.int y :: .int x :: S))) := by
  obtain ⟨locs, Y, -, -⟩ := X; subst hp; exact Gl.st (fun t k => XS.ior Y.here hx rfl (hb hby hd) rfl k) K
theorem g_ixor (X : St p l e R s m args below meth c n0 T h cells slots) (hx : p.tables.exec = Jvm.exec) (hby : c.code = bs) {x y : Int32} (hd : decode bs pc = .ok (.ixor, 1))  (hp : pc + 1 = pc') (K : Gl p e below n0 Φ Q (T.setTop (mkF m pc' L (.int (x ^^^ y) :: S)))) : Gl p e below n0 Φ Q (T.setTop (mkF m pc L (.int y :: .int x :: S))) := by
  obtain ⟨locs, Y, -, -⟩ := X; subst hp; exact Gl.st (fun t k => XS.ixor Y.here hx rfl (hb hby hd) rfl k) K
theorem g_ishl (X : St p l e R s m args below meth c n0 T h cells slots) (hx : p.tables.exec = Jvm.exec) (hby : c.code = bs) {x y : Int32} (hd : decode bs pc = .ok (.ishl, 1))  (hp : pc + 1 = pc') (K : Gl p e below n0 Φ Q (T.setTop (mkF m pc' L (.int (x <<< (y &&& 31)) :: S)))) : Gl p e below n0 Φ Q (T.setTop (mkF m pc L (.int y :: .int x :: S))) := by
  obtain ⟨locs, Y, -, -⟩ := X; subst hp; exact Gl.st (fun t k => XS.ishl Y.here hx rfl (hb hby hd) rfl k) K
theorem g_ishr (X : St p l e R s m args below meth c n0 T h cells slots) (hx : p.tables.exec = Jvm.exec) (hby : c.code = bs) {x y : Int32} (hd : decode bs pc = .ok (.ishr, 1))  (hp : pc + 1 = pc') (K : Gl p e below n0 Φ Q (T.setTop (mkF m pc' L (.int (x >>> (y &&& 31)) :: S)))) : Gl p e below n0 Φ Q (T.setTop (mkF m pc L (.int y :: .int x :: S))) := by
  obtain ⟨locs, Y, -, -⟩ := X; subst hp; exact Gl.st (fun t k => XS.ishr Y.here hx rfl (hb hby hd) rfl k) K
theorem g_iushr (X : St p l e R s m args below meth c n0 T h cells slots) (hx : p.tables.exec = Jvm.exec) (hby : c.code = bs) {x y : Int32} (hd : decode bs pc = .ok (.iushr, 1))  (hp : pc + 1 = pc') (K : Gl p e below n0 Φ Q (T.setTop (mkF m pc' L (.int ((x.toUInt32 >>> (y &&& 31).toUInt32).toInt32) :: S)))) : Gl p e below n0 Φ Q (T.setTop (mkF m pc L (.int y :: .int x :: S))) := by
  obtain ⟨locs, Y, -, -⟩ := X; subst hp; exact Gl.st (fun t k => XS.iushr Y.here hx rfl (hb hby hd) rfl k) K
theorem g_ladd (X : St p l e R s m args below meth c n0 T h cells slots) (hx : p.tables.exec = Jvm.exec) (hby : c.code = bs) {x y : Int64} (hd : decode bs pc = .ok (.ladd, 1))  (hp : pc + 1 = pc') (K : Gl p e below n0 Φ Q (T.setTop (mkF m pc' L (.long (x + y) :: S)))) : Gl p e below n0 Φ Q (T.setTop (mkF m pc L (.long y :: .long x :: S))) := by
  obtain ⟨locs, Y, -, -⟩ := X; subst hp; exact Gl.st (fun t k => XS.ladd Y.here hx rfl (hb hby hd) rfl k) K
theorem g_lsub (X : St p l e R s m args below meth c n0 T h cells slots) (hx : p.tables.exec = Jvm.exec) (hby : c.code = bs) {x y : Int64} (hd : decode bs pc = .ok (.lsub, 1))  (hp : pc + 1 = pc') (K : Gl p e below n0 Φ Q (T.setTop (mkF m pc' L (.long (x - y) :: S)))) : Gl p e below n0 Φ Q (T.setTop (mkF m pc L (.long y :: .long x :: S))) := by
  obtain ⟨locs, Y, -, -⟩ := X; subst hp; exact Gl.st (fun t k => XS.lsub Y.here hx rfl (hb hby hd) rfl k) K
theorem g_lmul (X : St p l e R s m args below meth c n0 T h cells slots) (hx : p.tables.exec = Jvm.exec) (hby : c.code = bs) {x y : Int64} (hd : decode bs pc = .ok (.lmul, 1))  (hp : pc + 1 = pc') (K : Gl p e below n0 Φ Q (T.setTop (mkF m pc' L (.long (x * y) :: S)))) : Gl p e below n0 Φ Q (T.setTop (mkF m pc L (.long y :: .long x :: S))) := by
  obtain ⟨locs, Y, -, -⟩ := X; subst hp; exact Gl.st (fun t k => XS.lmul Y.here hx rfl (hb hby hd) rfl k) K
theorem g_land (X : St p l e R s m args below meth c n0 T h cells slots) (hx : p.tables.exec = Jvm.exec) (hby : c.code = bs) {x y : Int64} (hd : decode bs pc = .ok (.land, 1))  (hp : pc + 1 = pc') (K : Gl p e below n0 Φ Q (T.setTop (mkF m pc' L (.long (x &&& y) :: S)))) : Gl p e below n0 Φ Q (T.setTop (mkF m pc L (.long y :: .long x :: S))) := by
  obtain ⟨locs, Y, -, -⟩ := X; subst hp; exact Gl.st (fun t k => XS.land Y.here hx rfl (hb hby hd) rfl k) K
theorem g_lor (X : St p l e R s m args below meth c n0 T h cells slots) (hx : p.tables.exec = Jvm.exec) (hby : c.code = bs) {x y : Int64} (hd : decode bs pc = .ok (.lor, 1))  (hp : pc + 1 = pc') (K : Gl p e below n0 Φ Q (T.setTop (mkF m pc' L (.long (x ||| y) :: S)))) : Gl p e below n0 Φ Q (T.setTop (mkF m pc L (.long y :: .long x :: S))) := by
  obtain ⟨locs, Y, -, -⟩ := X; subst hp; exact Gl.st (fun t k => XS.lor Y.here hx rfl (hb hby hd) rfl k) K
theorem g_lxor (X : St p l e R s m args below meth c n0 T h cells slots) (hx : p.tables.exec = Jvm.exec) (hby : c.code = bs) {x y : Int64} (hd : decode bs pc = .ok (.lxor, 1))  (hp : pc + 1 = pc') (K : Gl p e below n0 Φ Q (T.setTop (mkF m pc' L (.long (x ^^^ y) :: S)))) : Gl p e below n0 Φ Q (T.setTop (mkF m pc L (.long y :: .long x :: S))) := by
  obtain ⟨locs, Y, -, -⟩ := X; subst hp; exact Gl.st (fun t k => XS.lxor Y.here hx rfl (hb hby hd) rfl k) K
theorem g_lushr (X : St p l e R s m args below meth c n0 T h cells slots) (hx : p.tables.exec = Jvm.exec) (hby : c.code = bs) {x : Int64} {y : Int32} (hd : decode bs pc = .ok (.lushr, 1))  (hp : pc + 1 = pc') (K : Gl p e below n0 Φ Q (T.setTop (mkF m pc' L (.long ((x.toUInt64 >>> (y &&& 0x3f).toInt64.toUInt64).toInt64) :: S)))) : Gl p e below n0 Φ Q (T.setTop (mkF m pc L (.int y :: .long x :: S))) := by
  obtain ⟨locs, Y, -, -⟩ := X; subst hp; exact Gl.st (fun t k => XS.lushr Y.here hx rfl (hb hby hd) rfl k) K
theorem g_irem (X : St p l e R s m args below meth c n0 T h cells slots) (hx : p.tables.exec = Jvm.exec) (hby : c.code = bs) {x y : Int32} (hd : decode bs pc = .ok (.irem, 1)) (hy : y ≠ 0) (hp : pc + 1 = pc') (K : Gl p e below n0 Φ Q (T.setTop (mkF m pc' L (.int (x % y) :: S)))) : Gl p e below n0 Φ Q (T.setTop (mkF m pc L (.int y :: .int x :: S))) := by
  obtain ⟨locs, Y, -, -⟩ := X; subst hp; exact Gl.st (fun t k => iremM Y hx rfl (hb hby hd) rfl hy k) K
theorem g_lrem (X : St p l e R s m args below meth c n0 T h cells slots) (hx : p.tables.exec = Jvm.exec) (hby : c.code = bs) {x y : Int64} (hd : decode bs pc = .ok (.lrem, 1)) (hy : y ≠ 0) (hp : pc + 1 = pc') (K : Gl p e below n0 Φ Q (T.setTop (mkF m pc' L (.long (x - (x / y) * y) :: S)))) : Gl p e below n0 Φ Q (T.setTop (mkF m pc L (.long y :: .long x :: S))) := by
  obtain ⟨locs, Y, -, -⟩ := X; subst hp; exact Gl.st (fun t k => XS.lrem Y.here hx rfl (hb hby hd) rfl hy k) K
theorem g_i2l (X : St p l e R s m args below meth c n0 T h cells slots) (hx : p.tables.exec = Jvm.exec) (hby : c.code = bs) {x : Int32} (hd : decode bs pc = .ok (.i2l, 1))  (hp : pc + 1 = pc') (K : Gl p e below n0 Φ Q (T.setTop (mkF m pc' L (.long (x.toInt64) :: S)))) : Gl p e below n0 Φ Q (T.setTop (mkF m pc L (.int x :: S))) := by
  obtain ⟨locs, Y, -, -⟩ := X; subst hp; exact Gl.st (fun t k => XS.i2l Y.here hx rfl (hb hby hd) rfl k) K
theorem g_l2i (X : St p l e R s m args below meth c n0 T h cells slots) (hx : p.tables.exec = Jvm.exec) (hby : c.code = bs) {x : Int64} (hd : decode bs pc = .ok (.l2i, 1))  (hp : pc + 1 = pc') (K : Gl p e below n0 Φ Q (T.setTop (mkF m pc' L (.int (x.toInt32) :: S)))) : Gl p e below n0 Φ Q (T.setTop (mkF m pc L (.long x :: S))) := by
  obtain ⟨locs, Y, -, -⟩ := X; subst hp; exact Gl.st (fun t k => XS.l2i Y.here hx rfl (hb hby hd) rfl k) K
theorem g_i2b (X : St p l e R s m args below meth c n0 T h cells slots) (hx : p.tables.exec = Jvm.exec) (hby : c.code = bs) {x : Int32} (hd : decode bs pc = .ok (.i2b, 1))  (hp : pc + 1 = pc') (K : Gl p e below n0 Φ Q (T.setTop (mkF m pc' L (.int (x.toInt8.toInt32) :: S)))) : Gl p e below n0 Φ Q (T.setTop (mkF m pc L (.int x :: S))) := by
  obtain ⟨locs, Y, -, -⟩ := X; subst hp; exact Gl.st (fun t k => XS.i2b Y.here hx rfl (hb hby hd) rfl k) K
theorem g_i2c (X : St p l e R s m args below meth c n0 T h cells slots) (hx : p.tables.exec = Jvm.exec) (hby : c.code = bs) {x : Int32} (hd : decode bs pc = .ok (.i2c, 1))  (hp : pc + 1 = pc') (K : Gl p e below n0 Φ Q (T.setTop (mkF m pc' L (.int (x.toUInt32.toUInt16.toUInt32.toInt32) :: S)))) : Gl p e below n0 Φ Q (T.setTop (mkF m pc L (.int x :: S))) := by
  obtain ⟨locs, Y, -, -⟩ := X; subst hp; exact Gl.st (fun t k => XS.i2c Y.here hx rfl (hb hby hd) rfl k) K
theorem g_ineg (X : St p l e R s m args below meth c n0 T h cells slots) (hx : p.tables.exec = Jvm.exec) (hby : c.code = bs) {x : Int32} (hd : decode bs pc = .ok (.ineg, 1))  (hp : pc + 1 = pc') (K : Gl p e below n0 Φ Q (T.setTop (mkF m pc' L (.int (-x) :: S)))) : Gl p e below n0 Φ Q (T.setTop (mkF m pc L (.int x :: S))) := by
  obtain ⟨locs, Y, -, -⟩ := X; subst hp; exact Gl.st (fun t k => XS.ineg Y.here hx rfl (hb hby hd) rfl k) K
theorem g_dload (X : St p l e R s m args below meth c n0 T h cells slots) (hx : p.tables.exec = Jvm.exec) (hby : c.code = bs) {k : Nat} {v : UInt64} (hd : decode bs pc = .ok (.dload k, 2)) (hl : L[k]? = some (.val (.double v))) (hp : pc + 2 = pc') (K : Gl p e below n0 Φ Q (T.setTop (mkF m pc' L (.double v :: S)))) : Gl p e below n0 Φ Q (T.setTop (mkF m pc L S)) := by
  obtain ⟨locs, Y, -, -⟩ := X; subst hp; exact Gl.st (fun t k => XS.dload Y.here hx rfl (hb hby hd) hl k) K
theorem g_dloadN (X : St p l e R s m args below meth c n0 T h cells slots) (hx : p.tables.exec = Jvm.exec) (hby : c.code = bs) {k : Fin 4} {v : UInt64} (hd : decode bs pc = .ok (.dload_n k, 1)) (hl : L[k.val]? = some (.val (.double v))) (hp : pc + 1 = pc') (K : Gl p e below n0 Φ Q (T.setTop (mkF m pc' L (.double v :: S)))) : Gl p e below n0 Φ Q (T.setTop (mkF m pc L S)) := by
  obtain ⟨locs, Y, -, -⟩ := X; subst hp; exact Gl.st (fun t k => XS.dloadN Y.here hx rfl (hb hby hd) hl k) K
theorem g_dstore (X : St p l e R s m args below meth c n0 T h cells slots) (hx : p.tables.exec = Jvm.exec) (hby : c.code = bs) {k : Nat} {v : UInt64} (hd : decode bs pc = .ok (.dstore k, 2)) (hl : storeLocals L k (.double v) = some L') (hp : pc + 2 = pc') (K : Gl p e below n0 Φ Q (T.setTop (mkF m pc' L' S))) : Gl p e below n0 Φ Q (T.setTop (mkF m pc L (.double v :: S))) := by
  obtain ⟨locs, Y, -, -⟩ := X; subst hp; exact Gl.st (fun t k => XS.dstore Y.here hx rfl (hb hby hd) rfl hl k) K
theorem g_dstoreN (X : St p l e R s m args below meth c n0 T h cells slots) (hx : p.tables.exec = Jvm.exec) (hby : c.code = bs) {k : Fin 4} {v : UInt64} (hd : decode bs pc = .ok (.dstore_n k, 1)) (hl : storeLocals L k.val (.double v) = some L') (hp : pc + 1 = pc') (K : Gl p e below n0 Φ Q (T.setTop (mkF m pc' L' S))) : Gl p e below n0 Φ Q (T.setTop (mkF m pc L (.double v :: S))) := by
  obtain ⟨locs, Y, -, -⟩ := X; subst hp; exact Gl.st (fun t k => XS.dstoreN Y.here hx rfl (hb hby hd) rfl hl k) K
theorem g_i2d (X : St p l e R s m args below meth c n0 T h cells slots) (hx : p.tables.exec = Jvm.exec) (hby : c.code = bs) {x : Int32} (hd : decode bs pc = .ok (.i2d, 1))  (hp : pc + 1 = pc') (K : Gl p e below n0 Φ Q (T.setTop (mkF m pc' L (.double (FP.i2d x) :: S)))) : Gl p e below n0 Φ Q (T.setTop (mkF m pc L (.int x :: S))) := by
  obtain ⟨locs, Y, -, -⟩ := X; subst hp; exact Gl.st (fun t k => XS.i2dS Y.here hx rfl (hb hby hd) rfl rfl k) K
theorem g_dconst0 (X : St p l e R s m args below meth c n0 T h cells slots) (hx : p.tables.exec = Jvm.exec) (hby : c.code = bs) (hd : decode bs pc = .ok (.dconst 0, 1)) (hp : pc + 1 = pc') (K : Gl p e below n0 Φ Q (T.setTop (mkF m pc' L (.double FP.dconst0 :: S)))) : Gl p e below n0 Φ Q (T.setTop (mkF m pc L S)) := by
  obtain ⟨locs, Y, -, -⟩ := X; subst hp; exact Gl.st (fun t k => XS.dconst0 Y.here hx rfl (hb hby hd) rfl k) K
theorem g_dconst1 (X : St p l e R s m args below meth c n0 T h cells slots) (hx : p.tables.exec = Jvm.exec) (hby : c.code = bs) (hd : decode bs pc = .ok (.dconst 1, 1)) (hp : pc + 1 = pc') (K : Gl p e below n0 Φ Q (T.setTop (mkF m pc' L (.double FP.dconst1 :: S)))) : Gl p e below n0 Φ Q (T.setTop (mkF m pc L S)) := by
  obtain ⟨locs, Y, -, -⟩ := X; subst hp; exact Gl.st (fun t k => XS.dconst1 Y.here hx rfl (hb hby hd) rfl k) K
theorem g_ddiv (X : St p l e R s m args below meth c n0 T h cells slots) (hx : p.tables.exec = Jvm.exec) (hby : c.code = bs) {x y : UInt64} (hd : decode bs pc = .ok (.ddiv, 1)) (hn : Jvm.Free.Fl.NoNaN64 (FP.ddiv x y)) (hp : pc + 1 = pc') (K : Gl p e below n0 Φ Q (T.setTop (mkF m pc' L (.double (FP.ddiv x y) :: S)))) : Gl p e below n0 Φ Q (T.setTop (mkF m pc L (.double y :: .double x :: S))) := by
  obtain ⟨locs, Y, -, -⟩ := X; subst hp; exact Gl.st (fun t k => XS.ddivS Y.here hx rfl (hb hby hd) rfl hn rfl k) K
theorem g_dcmp (X : St p l e R s m args below meth c n0 T h cells slots) (hx : p.tables.exec = Jvm.exec) (hby : c.code = bs) {x y : UInt64} {o : CmpOp} {v : Int32} (hd : decode bs pc = .ok (.dcmp o, 1)) (hv : cmpValue (FP.dcmp x y) o = v) (hp : pc + 1 = pc') (K : Gl p e below n0 Φ Q (T.setTop (mkF m pc' L (.int v :: S)))) : Gl p e below n0 Φ Q (T.setTop (mkF m pc L (.double y :: .double x :: S))) := by
  obtain ⟨locs, Y, -, -⟩ := X; subst hp; exact Gl.st (fun t k => XS.dcmpS Y.here hx rfl (hb hby hd) rfl hv k) K
theorem g_dup (X : St p l e R s m args below meth c n0 T h cells slots) (hx : p.tables.exec = Jvm.exec) (hby : c.code = bs) {v : Value} (hd : decode bs pc = .ok (.dup, 1)) (hc : v.category = 1) (hp : pc + 1 = pc') (K : Gl p e below n0 Φ Q (T.setTop (mkF m pc' L (v :: v :: S)))) : Gl p e below n0 Φ Q (T.setTop (mkF m pc L (v :: S))) := by
  obtain ⟨locs, Y, -, -⟩ := X; subst hp; exact Gl.st (fun t k => XS.dup Y.here hx rfl (hb hby hd) rfl hc k) K
theorem g_pop (X : St p l e R s m args below meth c n0 T h cells slots) (hx : p.tables.exec = Jvm.exec) (hby : c.code = bs) {v : Value} (hd : decode bs pc = .ok (.pop, 1)) (hc : v.category = 1) (hp : pc + 1 = pc') (K : Gl p e below n0 Φ Q (T.setTop (mkF m pc' L S))) : Gl p e below n0 Φ Q (T.setTop (mkF m pc L (v :: S))) := by
  obtain ⟨locs, Y, -, -⟩ := X; subst hp; exact Gl.st (fun t k => XS.pop Y.here hx rfl (hb hby hd) rfl hc k) K
theorem g_dup2 (X : St p l e R s m args below meth c n0 T h cells slots) (hx : p.tables.exec = Jvm.exec) (hby : c.code = bs) {v w : Value} (hd : decode bs pc = .ok (.dup2, 1)) (hc : v.category = 1) (hc' : w.category = 1) (hp : pc + 1 = pc') (K : Gl p e below n0 Φ Q (T.setTop (mkF m pc' L (v :: w :: v :: w :: S)))) : Gl p e below n0 Φ Q (T.setTop (mkF m pc L (v :: w :: S))) := by
  obtain ⟨locs, Y, -, -⟩ := X; subst hp; exact Gl.st (fun t k => XT.dup2 Y.here hx rfl (hb hby hd) rfl hc hc' k) K
theorem g_iinc (X : St p l e R s m args below meth c n0 T h cells slots) (hx : p.tables.exec = Jvm.exec) (hby : c.code = bs) {k : Nat} {i : Int} {x y : Int32} (hd : decode bs pc = .ok (.iinc k i, 3)) (hl : L[k]? = some (.val (.int x))) (hy : Int32.ofInt i = y) (hl' : storeLocals L k (.int (x + y)) = some L') (hp : pc + 3 = pc') (K : Gl p e below n0 Φ Q (T.setTop (mkF m pc' L' S))) : Gl p e below n0 Φ Q (T.setTop (mkF m pc L S)) := by
  obtain ⟨locs, Y, -, -⟩ := X; subst hp hy; exact Gl.st (fun t k => XS.iinc Y.here hx rfl (hb hby hd) hl hl' k) K
theorem g_goto (X : St p l e R s m args below meth c n0 T h cells slots) (hx : p.tables.exec = Jvm.exec) (hby : c.code = bs) {o : Int} (hd : decode bs pc = .ok (.goto o, 3)) (ho : 0 ≤ (pc : Int) + o) (hp : ((pc : Int) + o).toNat = pc') (K : Gl p e below n0 Φ Q (T.setTop (mkF m pc' L S))) : Gl p e below n0 Φ Q (T.setTop (mkF m pc L S)) := by
  obtain ⟨locs, Y, -, -⟩ := X; exact Gl.st (fun t k => XS.goto Y.here hx rfl (pc0 := pc) rfl (hb hby hd) ho hp k) K
theorem g_icmp (X : St p l e R s m args below meth c n0 T h cells slots) (hx : p.tables.exec = Jvm.exec) (hby : c.code = bs) {cd : ClassFile.Cond} {o : Int} {x y : Int32} {pc2 : Nat} (hd : decode bs pc = .ok (.if_icmp cd o, 3)) (ho : 0 ≤ (pc : Int) + o) (hp : ((pc : Int) + o).toNat = pc') (hq : pc + 3 = pc2) (K1 : if_icmp.holds cd x y = true → Gl p e below n0 Φ Q (T.setTop (mkF m pc' L S))) (K2 : if_icmp.holds cd x y = false → Gl p e below n0 Φ Q (T.setTop (mkF m pc2 L S))) : Gl p e below n0 Φ Q (T.setTop (mkF m pc L (.int y :: .int x :: S))) := by
  obtain ⟨locs, Y, -, -⟩ := X; subst hq
  cases hc : if_icmp.holds cd x y with
  | true => exact Gl.st (fun t k => XS.icmpYes Y.here hx rfl (pc0 := pc) rfl (hb hby hd) rfl hc ho hp k) (K1 hc)
  | false => exact Gl.st (fun t k => XS.icmpNo Y.here hx rfl (hb hby hd) rfl hc k) (K2 hc)
theorem g_if (X : St p l e R s m args below meth c n0 T h cells slots) (hx : p.tables.exec = Jvm.exec) (hby : c.code = bs) {cd : ClassFile.Cond} {o : Int} {x : Int32} {pc2 : Nat} (hd : decode bs pc = .ok (.ifCond cd o, 3)) (ho : 0 ≤ (pc : Int) + o) (hp : ((pc : Int) + o).toNat = pc') (hq : pc + 3 = pc2) (K1 : if_icmp.holds cd x 0 = true → Gl p e below n0 Φ Q (T.setTop (mkF m pc' L S))) (K2 : if_icmp.holds cd x 0 = false → Gl p e below n0 Φ Q (T.setTop (mkF m pc2 L S))) : Gl p e below n0 Φ Q (T.setTop (mkF m pc L (.int x :: S))) := by
  obtain ⟨locs, Y, -, -⟩ := X; subst hq
  cases hc : if_icmp.holds cd x 0 with
  | true => exact Gl.st (fun t k => XS.ifYes Y.here hx rfl (pc0 := pc) rfl (hb hby hd) rfl ((if0 _ _).trans hc) ho hp k) (K1 hc)
  | false => exact Gl.st (fun t k => XS.ifNo Y.here hx rfl (hb hby hd) rfl ((if0 _ _).trans hc) k) (K2 hc)
theorem g_icmp_eq (X : St p l e R s m args below meth c n0 T h cells slots) (hx : p.tables.exec = Jvm.exec) (hby : c.code = bs) {o : Int} {x y : Int32} {pc2 : Nat} (hd : decode bs pc = .ok (.if_icmp .eq o, 3)) (ho : 0 ≤ (pc : Int) + o) (hp : ((pc : Int) + o).toNat = pc') (hq : pc + 3 = pc2) (K1 : x = y → Gl p e below n0 Φ Q (T.setTop (mkF m pc' L S))) (K2 : ¬ (x = y) → Gl p e below n0 Φ Q (T.setTop (mkF m pc2 L S))) : Gl p e below n0 Φ Q (T.setTop (mkF m pc L (.int y :: .int x :: S))) :=
  g_icmp X hx hby hd ho hp hq (fun q => K1 (by simpa [if_icmp.holds] using q)) (fun q => K2 (by simpa [if_icmp.holds] using q))
theorem g_if_eq (X : St p l e R s m args below meth c n0 T h cells slots) (hx : p.tables.exec = Jvm.exec) (hby : c.code = bs) {o : Int} {x : Int32} {pc2 : Nat} (hd : decode bs pc = .ok (.ifCond .eq o, 3)) (ho : 0 ≤ (pc : Int) + o) (hp : ((pc : Int) + o).toNat = pc') (hq : pc + 3 = pc2) (K1 : x = 0 → Gl p e below n0 Φ Q (T.setTop (mkF m pc' L S))) (K2 : ¬ (x = 0) → Gl p e below n0 Φ Q (T.setTop (mkF m pc2 L S))) : Gl p e below n0 Φ Q (T.setTop (mkF m pc L (.int x :: S))) :=
  g_if X hx hby hd ho hp hq (fun q => K1 (by simpa [if_icmp.holds] using q)) (fun q => K2 (by simpa [if_icmp.holds] using q))
theorem g_lcmp_eq (X : St p l e R s m args below meth c n0 T h cells slots) (hx : p.tables.exec = Jvm.exec) (hby : c.code = bs) {o : Int} {x y : Int64} {pc1 pc2 : Nat} (hd1 : decode bs pc = .ok (.lcmp, 1)) (hp1 : pc + 1 = pc1) (hd : decode bs pc1 = .ok (.ifCond .eq o, 3)) (ho : 0 ≤ (pc1 : Int) + o) (hp : ((pc1 : Int) + o).toNat = pc') (hq : pc1 + 3 = pc2) (K1 : x = y → Gl p e below n0 Φ Q (T.setTop (mkF m pc' L S))) (K2 : ¬ (x = y) → Gl p e below n0 Φ Q (T.setTop (mkF m pc2 L S))) : Gl p e below n0 Φ Q (T.setTop (mkF m pc L (.long y :: .long x :: S))) := by
  obtain ⟨locs, Y, b1, b2⟩ := X; subst hp1
  refine Gl.st (V := T.setTop (mkF m (pc + 1) L (.int (lcmpW x y) :: S))) (fun t k => XS.lcmp Y.here hx rfl (hb hby hd1) rfl k) ?_
  exact g_if_eq ⟨locs, Y, b1, b2⟩ hx hby hd ho hp hq (fun q => K1 (by simpa [lw_lt, lw_gt, lw_eq] using q)) (fun q => K2 (by simpa [lw_lt, lw_gt, lw_eq] using q))
theorem g_icmp_ne (X : St p l e R s m args below meth c n0 T h cells slots) (hx : p.tables.exec = Jvm.exec) (hby : c.code = bs) {o : Int} {x y : Int32} {pc2 : Nat} (hd : decode bs pc = .ok (.if_icmp .ne o, 3)) (ho : 0 ≤ (pc : Int) + o) (hp : ((pc : Int) + o).toNat = pc') (hq : pc + 3 = pc2) (K1 : ¬ (x = y) → Gl p e below n0 Φ Q (T.setTop (mkF m pc' L S))) (K2 : x = y → Gl p e below n0 Φ Q (T.setTop (mkF m pc2 L S))) : Gl p e below n0 Φ Q (T.setTop (mkF m pc L (.int y :: .int x :: S))) :=
  g_icmp X hx hby hd ho hp hq (fun q => K1 (by simpa [if_icmp.holds] using q)) (fun q => K2 (by simpa [if_icmp.holds] using q))
theorem g_if_ne (X : St p l e R s m args below meth c n0 T h cells slots) (hx : p.tables.exec = Jvm.exec) (hby : c.code = bs) {o : Int} {x : Int32} {pc2 : Nat} (hd : decode bs pc = .ok (.ifCond .ne o, 3)) (ho : 0 ≤ (pc : Int) + o) (hp : ((pc : Int) + o).toNat = pc') (hq : pc + 3 = pc2) (K1 : ¬ (x = 0) → Gl p e below n0 Φ Q (T.setTop (mkF m pc' L S))) (K2 : x = 0 → Gl p e below n0 Φ Q (T.setTop (mkF m pc2 L S))) : Gl p e below n0 Φ Q (T.setTop (mkF m pc L (.int x :: S))) :=
  g_if X hx hby hd ho hp hq (fun q => K1 (by simpa [if_icmp.holds] using q)) (fun q => K2 (by simpa [if_icmp.holds] using q))
theorem g_lcmp_ne (X : St p l e R s m args below meth c n0 T h cells slots) (hx : p.tables.exec = Jvm.exec) (hby : c.code = bs) {o : Int} {x y : Int64} {pc1 pc2 : Nat} (hd1 : decode bs pc = .ok (.lcmp, 1)) (hp1 : pc + 1 = pc1) (hd : decode bs pc1 = .ok (.ifCond .ne o, 3)) (ho : 0 ≤ (pc1 : Int) + o) (hp : ((pc1 : Int) + o).toNat = pc') (hq : pc1 + 3 = pc2) (K1 : ¬ (x = y) → Gl p e below n0 Φ Q (T.setTop (mkF m pc' L S))) (K2 : x = y → Gl p e below n0 Φ Q (T.setTop (mkF m pc2 L S))) : Gl p e below n0 Φ Q (T.setTop (mkF m pc L (.long y :: .long x :: S))) := by
  obtain ⟨locs, Y, b1, b2⟩ := X; subst hp1
  refine Gl.st (V := T.setTop (mkF m (pc + 1) L (.int (lcmpW x y) :: S))) (fun t k => XS.lcmp Y.here hx rfl (hb hby hd1) rfl k) ?_
  exact g_if_ne ⟨locs, Y, b1, b2⟩ hx hby hd ho hp hq (fun q => K1 (by simpa [lw_lt, lw_gt, lw_eq] using q)) (fun q => K2 (by simpa [lw_lt, lw_gt, lw_eq] using q))
theorem g_icmp_lt (X : St p l e R s m args below meth c n0 T h cells slots) (hx : p.tables.exec = Jvm.exec) (hby : c.code = bs) {o : Int} {x y : Int32} {pc2 : Nat} (hd : decode bs pc = .ok (.if_icmp .lt o, 3)) (ho : 0 ≤ (pc : Int) + o) (hp : ((pc : Int) + o).toNat = pc') (hq : pc + 3 = pc2) (K1 : x < y → Gl p e below n0 Φ Q (T.setTop (mkF m pc' L S))) (K2 : ¬ (x < y) → Gl p e below n0 Φ Q (T.setTop (mkF m pc2 L S))) : Gl p e below n0 Φ Q (T.setTop (mkF m pc L (.int y :: .int x :: S))) :=
  g_icmp X hx hby hd ho hp hq (fun q => K1 (by simpa [if_icmp.holds] using q)) (fun q => K2 (by simpa [if_icmp.holds] using q))
theorem g_if_lt (X : St p l e R s m args below meth c n0 T h cells slots) (hx : p.tables.exec = Jvm.exec) (hby : c.code = bs) {o : Int} {x : Int32} {pc2 : Nat} (hd : decode bs pc = .ok (.ifCond .lt o, 3)) (ho : 0 ≤ (pc : Int) + o) (hp : ((pc : Int) + o).toNat = pc') (hq : pc + 3 = pc2) (K1 : x < 0 → Gl p e below n0 Φ Q (T.setTop (mkF m pc' L S))) (K2 : ¬ (x < 0) → Gl p e below n0 Φ Q (T.setTop (mkF m pc2 L S))) : Gl p e below n0 Φ Q (T.setTop (mkF m pc L (.int x :: S))) :=
  g_if X hx hby hd ho hp hq (fun q => K1 (by simpa [if_icmp.holds] using q)) (fun q => K2 (by simpa [if_icmp.holds] using q))
theorem g_lcmp_lt (X : St p l e R s m args below meth c n0 T h cells slots) (hx : p.tables.exec = Jvm.exec) (hby : c.code = bs) {o : Int} {x y : Int64} {pc1 pc2 : Nat} (hd1 : decode bs pc = .ok (.lcmp, 1)) (hp1 : pc + 1 = pc1) (hd : decode bs pc1 = .ok (.ifCond .lt o, 3)) (ho : 0 ≤ (pc1 : Int) + o) (hp : ((pc1 : Int) + o).toNat = pc') (hq : pc1 + 3 = pc2) (K1 : x < y → Gl p e below n0 Φ Q (T.setTop (mkF m pc' L S))) (K2 : ¬ (x < y) → Gl p e below n0 Φ Q (T.setTop (mkF m pc2 L S))) : Gl p e below n0 Φ Q (T.setTop (mkF m pc L (.long y :: .long x :: S))) := by
  obtain ⟨locs, Y, b1, b2⟩ := X; subst hp1
  refine Gl.st (V := T.setTop (mkF m (pc + 1) L (.int (lcmpW x y) :: S))) (fun t k => XS.lcmp Y.here hx rfl (hb hby hd1) rfl k) ?_
  exact g_if_lt ⟨locs, Y, b1, b2⟩ hx hby hd ho hp hq (fun q => K1 (by simpa [lw_lt, lw_gt, lw_eq] using q)) (fun q => K2 (by simpa [lw_lt, lw_gt, lw_eq] using q))
theorem g_icmp_ge (X : St p l e R s m args below meth c n0 T h cells slots) (hx : p.tables.exec = Jvm.exec) (hby : c.code = bs) {o : Int} {x y : Int32} {pc2 : Nat} (hd : decode bs pc = .ok (.if_icmp .ge o, 3)) (ho : 0 ≤ (pc : Int) + o) (hp : ((pc : Int) + o).toNat = pc') (hq : pc + 3 = pc2) (K1 : ¬ (x < y) → Gl p e below n0 Φ Q (T.setTop (mkF m pc' L S))) (K2 : x < y → Gl p e below n0 Φ Q (T.setTop (mkF m pc2 L S))) : Gl p e below n0 Φ Q (T.setTop (mkF m pc L (.int y :: .int x :: S))) :=
  g_icmp X hx hby hd ho hp hq (fun q => K1 (by simpa [if_icmp.holds] using q)) (fun q => K2 (by simpa [if_icmp.holds] using q))
theorem g_if_ge (X : St p l e R s m args below meth c n0 T h cells slots) (hx : p.tables.exec = Jvm.exec) (hby : c.code = bs) {o : Int} {x : Int32} {pc2 : Nat} (hd : decode bs pc = .ok (.ifCond .ge o, 3)) (ho : 0 ≤ (pc : Int) + o) (hp : ((pc : Int) + o).toNat = pc') (hq : pc + 3 = pc2) (K1 : ¬ (x < 0) → Gl p e below n0 Φ Q (T.setTop (mkF m pc' L S))) (K2 : x < 0 → Gl p e below n0 Φ Q (T.setTop (mkF m pc2 L S))) : Gl p e below n0 Φ Q (T.setTop (mkF m pc L (.int x :: S))) :=
  g_if X hx hby hd ho hp hq (fun q => K1 (by simpa [if_icmp.holds] using q)) (fun q => K2 (by simpa [if_icmp.holds] using q))
theorem g_lcmp_ge (X : St p l e R s m args below meth c n0 T h cells slots) (hx : p.tables.exec = Jvm.exec) (hby : c.code = bs) {o : Int} {x y : Int64} {pc1 pc2 : Nat} (hd1 : decode bs pc = .ok (.lcmp, 1)) (hp1 : pc + 1 = pc1) (hd : decode bs pc1 = .ok (.ifCond .ge o, 3)) (ho : 0 ≤ (pc1 : Int) + o) (hp : ((pc1 : Int) + o).toNat = pc') (hq : pc1 + 3 = pc2) (K1 : ¬ (x < y) → Gl p e below n0 Φ Q (T.setTop (mkF m pc' L S))) (K2 : x < y → Gl p e below n0 Φ Q (T.setTop (mkF m pc2 L S))) : Gl p e below n0 Φ Q (T.setTop (mkF m pc L (.long y :: .long x :: S))) := by
  obtain ⟨locs, Y, b1, b2⟩ := X; subst hp1
  refine Gl.st (V := T.setTop (mkF m (pc + 1) L (.int (lcmpW x y) :: S))) (fun t k => XS.lcmp Y.here hx rfl (hb hby hd1) rfl k) ?_
  exact g_if_ge ⟨locs, Y, b1, b2⟩ hx hby hd ho hp hq (fun q => K1 (by simpa [lw_lt, lw_gt, lw_eq] using q)) (fun q => K2 (by simpa [lw_lt, lw_gt, lw_eq] using q))
theorem g_icmp_gt (X : St p l e R s m args below meth c n0 T h cells slots) (hx : p.tables.exec = Jvm.exec) (hby : c.code = bs) {o : Int} {x y : Int32} {pc2 : Nat} (hd : decode bs pc = .ok (.if_icmp .gt o, 3)) (ho : 0 ≤ (pc : Int) + o) (hp : ((pc : Int) + o).toNat = pc') (hq : pc + 3 = pc2) (K1 : y < x → Gl p e below n0 Φ Q (T.setTop (mkF m pc' L S))) (K2 : ¬ (y < x) → Gl p e below n0 Φ Q (T.setTop (mkF m pc2 L S))) : Gl p e below n0 Φ Q (T.setTop (mkF m pc L (.int y :: .int x :: S))) :=
  g_icmp X hx hby hd ho hp hq (fun q => K1 (by simpa [if_icmp.holds] using q)) (fun q => K2 (by simpa [if_icmp.holds] using q))
theorem g_if_gt (X : St p l e R s m args below meth c n0 T h cells slots) (hx : p.tables.exec = Jvm.exec) (hby : c.code = bs) {o : Int} {x : Int32} {pc2 : Nat} (hd : decode bs pc = .ok (.ifCond .gt o, 3)) (ho : 0 ≤ (pc : Int) + o) (hp : ((pc : Int) + o).toNat = pc') (hq : pc + 3 = pc2) (K1 : 0 < x → Gl p e below n0 Φ Q (T.setTop (mkF m pc' L S))) (K2 : ¬ (0 < x) → Gl p e below n0 Φ Q (T.setTop (mkF m pc2 L S))) : Gl p e below n0 Φ Q (T.setTop (mkF m pc L (.int x :: S))) :=
  g_if X hx hby hd ho hp hq (fun q => K1 (by simpa [if_icmp.holds] using q)) (fun q => K2 (by simpa [if_icmp.holds] using q))
theorem g_lcmp_gt (X : St p l e R s m args below meth c n0 T h cells slots) (hx : p.tables.exec = Jvm.exec) (hby : c.code = bs) {o : Int} {x y : Int64} {pc1 pc2 : Nat} (hd1 : decode bs pc = .ok (.lcmp, 1)) (hp1 : pc + 1 = pc1) (hd : decode bs pc1 = .ok (.ifCond .gt o, 3)) (ho : 0 ≤ (pc1 : Int) + o) (hp : ((pc1 : Int) + o).toNat = pc') (hq : pc1 + 3 = pc2) (K1 : y < x → Gl p e below n0 Φ Q (T.setTop (mkF m pc' L S))) (K2 : ¬ (y < x) → Gl p e below n0 Φ Q (T.setTop (mkF m pc2 L S))) : Gl p e below n0 Φ Q (T.setTop (mkF m pc L (.long y :: .long x :: S))) := by
  obtain ⟨locs, Y, b1, b2⟩ := X; subst hp1
  refine Gl.st (V := T.setTop (mkF m (pc + 1) L (.int (lcmpW x y) :: S))) (fun t k => XS.lcmp Y.here hx rfl (hb hby hd1) rfl k) ?_
  exact g_if_gt ⟨locs, Y, b1, b2⟩ hx hby hd ho hp hq (fun q => K1 (by simpa [lw_lt, lw_gt, lw_eq] using q)) (fun q => K2 (by simpa [lw_lt, lw_gt, lw_eq] using q))
theorem g_icmp_le (X : St p l e R s m args below meth c n0 T h cells slots) (hx : p.tables.exec = Jvm.exec) (hby : c.code = bs) {o : Int} {x y : Int32} {pc2 : Nat} (hd : decode bs pc = .ok (.if_icmp .le o, 3)) (ho : 0 ≤ (pc : Int) + o) (hp : ((pc : Int) + o).toNat = pc') (hq : pc + 3 = pc2) (K1 : ¬ (y < x) → Gl p e below n0 Φ Q (T.setTop (mkF m pc' L S))) (K2 : y < x → Gl p e below n0 Φ Q (T.setTop (mkF m pc2 L S))) : Gl p e below n0 Φ Q (T.setTop (mkF m pc L (.int y :: .int x :: S))) :=
  g_icmp X hx hby hd ho hp hq (fun q => K1 (by simpa [if_icmp.holds] using q)) (fun q => K2 (by simpa [if_icmp.holds] using q))
theorem g_if_le (X : St p l e R s m args below meth c n0 T h cells slots) (hx : p.tables.exec = Jvm.exec) (hby : c.code = bs) {o : Int} {x : Int32} {pc2 : Nat} (hd : decode bs pc = .ok (.ifCond .le o, 3)) (ho : 0 ≤ (pc : Int) + o) (hp : ((pc : Int) + o).toNat = pc') (hq : pc + 3 = pc2) (K1 : ¬ (0 < x) → Gl p e below n0 Φ Q (T.setTop (mkF m pc' L S))) (K2 : 0 < x → Gl p e below n0 Φ Q (T.setTop (mkF m pc2 L S))) : Gl p e below n0 Φ Q (T.setTop (mkF m pc L (.int x :: S))) :=
  g_if X hx hby hd ho hp hq (fun q => K1 (by simpa [if_icmp.holds] using q)) (fun q => K2 (by simpa [if_icmp.holds] using q))
theorem g_lcmp_le (X : St p l e R s m args below meth c n0 T h cells slots) (hx : p.tables.exec = Jvm.exec) (hby : c.code = bs) {o : Int} {x y : Int64} {pc1 pc2 : Nat} (hd1 : decode bs pc = .ok (.lcmp, 1)) (hp1 : pc + 1 = pc1) (hd : decode bs pc1 = .ok (.ifCond .le o, 3)) (ho : 0 ≤ (pc1 : Int) + o) (hp : ((pc1 : Int) + o).toNat = pc') (hq : pc1 + 3 = pc2) (K1 : ¬ (y < x) → Gl p e below n0 Φ Q (T.setTop (mkF m pc' L S))) (K2 : y < x → Gl p e below n0 Φ Q (T.setTop (mkF m pc2 L S))) : Gl p e below n0 Φ Q (T.setTop (mkF m pc L (.long y :: .long x :: S))) := by
  obtain ⟨locs, Y, b1, b2⟩ := X; subst hp1
  refine Gl.st (V := T.setTop (mkF m (pc + 1) L (.int (lcmpW x y) :: S))) (fun t k => XS.lcmp Y.here hx rfl (hb hby hd1) rfl k) ?_
  exact g_if_le ⟨locs, Y, b1, b2⟩ hx hby hd ho hp hq (fun q => K1 (by simpa [lw_lt, lw_gt, lw_eq] using q)) (fun q => K2 (by simpa [lw_lt, lw_gt, lw_eq] using q))
theorem g_ifnull_y (X : St p l e R s m args below meth c n0 T h cells slots) (hx : p.tables.exec = Jvm.exec) (hby : c.code = bs) {o : Int} (hd : decode bs pc = .ok (.ifnull o, 3)) (ho : 0 ≤ (pc : Int) + o) (hp : ((pc : Int) + o).toNat = pc') (K : Gl p e below n0 Φ Q (T.setTop (mkF m pc' L S))) : Gl p e below n0 Φ Q (T.setTop (mkF m pc L (.null :: S))) := by
  obtain ⟨locs, Y, -, -⟩ := X; exact Gl.st (fun t k => XS.ifnullYes Y.here hx rfl (pc0 := pc) rfl (hb hby hd) rfl ho hp k) K
theorem g_ifnull_n (X : St p l e R s m args below meth c n0 T h cells slots) (hx : p.tables.exec = Jvm.exec) (hby : c.code = bs) {o : Int} {a : Addr} (hd : decode bs pc = .ok (.ifnull o, 3)) (hp : pc + 3 = pc') (K : Gl p e below n0 Φ Q (T.setTop (mkF m pc' L S))) : Gl p e below n0 Φ Q (T.setTop (mkF m pc L ((.ref a) :: S))) := by
  obtain ⟨locs, Y, -, -⟩ := X; subst hp; exact Gl.st (fun t k => XS.ifnullNo Y.here hx rfl (hb hby hd) rfl k) K
theorem g_ifnonnull_y (X : St p l e R s m args below meth c n0 T h cells slots) (hx : p.tables.exec = Jvm.exec) (hby : c.code = bs) {o : Int} {a : Addr} (hd : decode bs pc = .ok (.ifnonnull o, 3)) (ho : 0 ≤ (pc : Int) + o) (hp : ((pc : Int) + o).toNat = pc') (K : Gl p e below n0 Φ Q (T.setTop (mkF m pc' L S))) : Gl p e below n0 Φ Q (T.setTop (mkF m pc L ((.ref a) :: S))) := by
  obtain ⟨locs, Y, -, -⟩ := X; exact Gl.st (fun t k => XS.ifnonnullYes Y.here hx rfl (pc0 := pc) rfl (hb hby hd) rfl ho hp k) K
theorem g_ifnonnull_n (X : St p l e R s m args below meth c n0 T h cells slots) (hx : p.tables.exec = Jvm.exec) (hby : c.code = bs) {o : Int} (hd : decode bs pc = .ok (.ifnonnull o, 3)) (hp : pc + 3 = pc') (K : Gl p e below n0 Φ Q (T.setTop (mkF m pc' L S))) : Gl p e below n0 Φ Q (T.setTop (mkF m pc L (.null :: S))) := by
  obtain ⟨locs, Y, -, -⟩ := X; subst hp; exact Gl.st (fun t k => XS.ifnonnullNo Y.here hx rfl (hb hby hd) rfl k) K
theorem g_acmp_y (X : St p l e R s m args below meth c n0 T h cells slots) (hx : p.tables.exec = Jvm.exec) (hby : c.code = bs) {cd : ACond} {o : Int} {x y : Value} {same : Bool} (hd : decode bs pc = .ok (.if_acmp cd o, 3)) (h1 : x.isRef = true) (h2 : y.isRef = true) (hq : decide (x = y) = same) (ho : 0 ≤ (pc : Int) + o) (hp : pc' = if acV cd same = true then ((pc : Int) + o).toNat else pc + 3) (K : Gl p e below n0 Φ Q (T.setTop (mkF m pc' L S))) : Gl p e below n0 Φ Q (T.setTop (mkF m pc L (y :: x :: S))) := by
  obtain ⟨locs, Y, -, -⟩ := X; exact Gl.st (fun t k => Jvm.RoadKit.acmp Y hx rfl h1 h2 (pc0 := pc) rfl (hb hby hd) rfl hq ho hp k) K
theorem g_retN (X : St p l e R s m args below meth c n0 T h cells slots) (hx : p.tables.exec = Jvm.exec) (hby : c.code = bs) {t : FieldType} {z : Int32} (hret : meth.sig.returnType = some t) (hlk : meth.locks = false) (ht : t = .boolean ∨ t = .byte ∨ t = .char ∨ t = .short) (hd : decode bs pc = .ok (.ireturn, 1)) (hq : Q (some (.int (nar t z))) h) (hc : cells ≤ cs) (hs : slots ≤ sl) : Gl p e below n0 (Fn s cs sl) Q (T.setTop (mkF m pc L (.int z :: S))) := by
  obtain ⟨locs, Y, eT, N⟩ := X
  obtain ⟨fs, hr, hrun, hended, hW, hsame⟩ := Y.leave (v := some (.int (nar t z))) (fun q => by rw [hret] at q; cases q) hlk
  exact ⟨_, _, retN Y hx hret ht (hb hby hd) hr, hrun, hended, _, locs, rfl, ⟨(show Q _ T.heap by rw [eT]; exact hq), N⟩, ⟨_, rfl⟩, hW, hsame.mono hc hs⟩
theorem g_retV (X : St p l e R s m args below meth c n0 T h cells slots) (hx : p.tables.exec = Jvm.exec) (hby : c.code = bs) {t : FieldType} {w : Value} {i : Instr} (hret : meth.sig.returnType = some t) (hlk : meth.locks = false) (hn : narrow t w = w) (hi : (i = .ireturn ∧ (t = .int ∨ t = .boolean ∨ t = .byte ∨ t = .char ∨ t = .short) ∧ ∃ z, w = .int z) ∨ (i = .lreturn ∧ t = .long ∧ ∃ z, w = .long z) ∨ (i = .dreturn ∧ t = .double ∧ ∃ z, w = .double z) ∨ (i = .freturn ∧ t = .float ∧ ∃ z, w = .float z) ∨ (i = .areturn ∧ t.isReference = true ∧ w.isRef = true)) (hd : decode bs pc = .ok (i, 1)) (hq : Q (some w) h) (hc : cells ≤ cs) (hs : slots ≤ sl) : Gl p e below n0 (Fn s cs sl) Q (T.setTop (mkF m pc L (w :: S))) := by
  obtain ⟨locs, Y, eT, N⟩ := X
  obtain ⟨fs, hr, hrun, hended, hW, hsame⟩ := Y.leave (v := some w) (fun q => by rw [hret] at q; cases q) hlk
  exact ⟨_, _, retOut Y hx hret hn hi (hb hby hd) hr, hrun, hended, _, locs, rfl, ⟨(show Q _ T.heap by rw [eT]; exact hq), N⟩, ⟨_, rfl⟩, hW, hsame.mono hc hs⟩
theorem g_retI (X : St p l e R s m args below meth c n0 T h cells slots) (hx : p.tables.exec = Jvm.exec) (hby : c.code = bs) {z : Int32} (hret : meth.sig.returnType = some .int) (hlk : meth.locks = false) (hd : decode bs pc = .ok (.ireturn, 1)) (hq : Q (some (.int z)) h) (hc : cells ≤ cs) (hs : slots ≤ sl) : Gl p e below n0 (Fn s cs sl) Q (T.setTop (mkF m pc L (.int z :: S))) := g_retV X hx hby hret hlk rfl (Or.inl ⟨rfl, Or.inl rfl, z, rfl⟩) hd hq hc hs
theorem g_retL (X : St p l e R s m args below meth c n0 T h cells slots) (hx : p.tables.exec = Jvm.exec) (hby : c.code = bs) {z : Int64} (hret : meth.sig.returnType = some .long) (hlk : meth.locks = false) (hd : decode bs pc = .ok (.lreturn, 1)) (hq : Q (some (.long z)) h) (hc : cells ≤ cs) (hs : slots ≤ sl) : Gl p e below n0 (Fn s cs sl) Q (T.setTop (mkF m pc L (.long z :: S))) := g_retV X hx hby hret hlk rfl (Or.inr (Or.inl ⟨rfl, rfl, z, rfl⟩)) hd hq hc hs
theorem g_retD (X : St p l e R s m args below meth c n0 T h cells slots) (hx : p.tables.exec = Jvm.exec) (hby : c.code = bs) {z : UInt64} (hret : meth.sig.returnType = some .double) (hlk : meth.locks = false) (hd : decode bs pc = .ok (.dreturn, 1)) (hq : Q (some (.double z)) h) (hc : cells ≤ cs) (hs : slots ≤ sl) : Gl p e below n0 (Fn s cs sl) Q (T.setTop (mkF m pc L (.double z :: S))) := g_retV X hx hby hret hlk rfl (Or.inr (Or.inr (Or.inl ⟨rfl, rfl, z, rfl⟩))) hd hq hc hs
theorem g_retA (X : St p l e R s m args below meth c n0 T h cells slots) (hx : p.tables.exec = Jvm.exec) (hby : c.code = bs) {t : FieldType} {w : Value} (hret : meth.sig.returnType = some t) (hlk : meth.locks = false) (ht : t.isReference = true) (hw : w.isRef = true) (hd : decode bs pc = .ok (.areturn, 1)) (hq : Q (some w) h) (hc : cells ≤ cs) (hs : slots ≤ sl) : Gl p e below n0 (Fn s cs sl) Q (T.setTop (mkF m pc L (w :: S))) := g_retV X hx hby hret hlk (by rcases ref_cases hw with rfl | ⟨a, rfl⟩ <;> cases t <;> first | rfl | (cases ht; done)) (Or.inr (Or.inr (Or.inr (Or.inr ⟨rfl, ht, hw⟩)))) hd hq hc hs
theorem g_ret (X : St p l e R s m args below meth c n0 T h cells slots) (hx : p.tables.exec = Jvm.exec) (hby : c.code = bs) (hret : meth.sig.returnType = none) (hlk : meth.locks = false) (hd : decode bs pc = .ok (.return_, 1)) (hq : Q none h) (hc : cells ≤ cs) (hs : slots ≤ sl) : Gl p e below n0 (Fn s cs sl) Q (T.setTop (mkF m pc L [])) := by
  obtain ⟨locs, Y, eT, N⟩ := X
  obtain ⟨fs, hr, hrun, hended, hW, hsame⟩ := Y.leave (v := none) (fun _ => rfl) hlk
  exact ⟨_, _, Y.returnOut hx hret (hb hby hd) hr, hrun, hended, _, locs, rfl, ⟨(show Q _ T.heap by rw [eT]; exact hq), N⟩, ⟨_, rfl⟩, hW, hsame.mono hc hs⟩
theorem gw_retN {vm0 : Vm} {k0 : Nat} (X : St p l e R (s.setVm vm0) m args below meth c n0 T h cells slots) (hx : p.tables.exec = Jvm.exec) (hby : c.code = bs) (hS : s.Since vm0 k0) (hk : k0 ≤ h.size) {t : FieldType} {z : Int32} (hret : meth.sig.returnType = some t) (hlk : meth.locks = false) (ht : t = .boolean ∨ t = .byte ∨ t = .char ∨ t = .short) (hd : decode bs pc = .ok (.ireturn, 1)) (hq : Q (some (.int (nar t z))) h) (hc : cells ≤ cs) (hs : slots ≤ sl) : Gl p e below n0 (Fw s cs sl) Q (T.setTop (mkF m pc L (.int z :: S))) := by
  obtain ⟨locs, Y, eT, N⟩ := X
  obtain ⟨fs, hr, hrun, hended, r1, r2, r3, r4⟩ := Y.leaveW hS (by rw [eT]; exact hk) (v := some (.int (nar t z))) (fun q => by rw [hret] at q; cases q) hlk
  exact ⟨_, _, retN Y hx hret ht (hb hby hd) hr, hrun, hended, _, locs, rfl, ⟨(show Q _ T.heap by rw [eT]; exact hq), N⟩, r1, r2, r3, r4.mono hc hs⟩
theorem g_ldcS {vm0 : Vm} {k0 : Nat} (X : St p l e R (s.setVm vm0) m args below meth c n0 T h cells slots) (hx : p.tables.exec = Jvm.exec) (hby : c.code = bs) (hZ : Z.Warmed39 (s.setVm vm0).vm) {own text : String} {index n : Nat} (hown : (s.setVm vm0).vm.findClass own = some m.cls) (w : (Cond.stringLink own index text).before a0 Z = true) (wS : ∀ a ∈ Bundle.stringAtoms, a.before a0 Z = true) (hS : s.Since vm0 k0) (hk : k0 ≤ h.size) (hd : decode bs pc = .ok (.ldc index, 2)) (hn : 4 * text.toList.length ≤ n) (hbig : n ≤ 536870912) (hc : cells + 2 ≤ R.cells) (hl : slots + (n + 4) ≤ R.slots) (hp : pc + 2 = pc') (K : ∀ (a : Addr) T' h' k1, St p l e R (s.setVm T'.vm) m args below meth c n0 T' h' (cells + 2) (slots + (n + 4)) → Ext h h' → s.Since T'.vm k1 → k1 ≤ h'.size → Z.Warmed39 (s.setVm T'.vm).vm → (s.setVm T'.vm).vm.findClass own = some m.cls → Gl p e below n0 Φ Q (T'.setTop (mkF m pc' L (.ref a :: S)))) : Gl p e below n0 Φ Q (T.setTop (mkF m pc L S)) := by
  obtain ⟨locs, Y, eT, N⟩ := X; subst hp
  obtain ⟨a, T', h', k1, Y', e', E, S1, hk1, hZ1, hown1, st⟩ := ldcS Y hx hZ hown w wS eT hS hk (g := mkF m pc L S) rfl (hb hby hd) hn hbig hc hl
  exact Gl.st st (K a T' h' k1 ⟨locs, Y', e', N⟩ E S1 hk1 hZ1 hown1)
theorem g_getF (X : St p l e R s m args below meth c n0 T h cells slots) (hx : p.tables.exec = Jvm.exec) (hby : c.code = bs) (hZ : Z.Warmed39 s.vm) {own R0 O n d : String} {index : Nat} (hown : s.vm.findClass own = some m.cls) (w : (Cond.fieldLink own index R0 n d).before a0 Z = true) (via : Via Z R0 O n d) {a : Addr} {v : Value} (F : Fld Z h a O n d v) (hd : decode bs pc = .ok (.getfield index, 3)) (hp : pc + 3 = pc') (K : ∀ T', St p l e R s m args below meth c n0 T' h cells slots → Gl p e below n0 Φ Q (T'.setTop (mkF m pc' L (v :: S)))) : Gl p e below n0 Φ Q (T.setTop (mkF m pc L (.ref a :: S))) := by
  obtain ⟨locs, Y, eT, N⟩ := X; subst hp
  obtain ⟨T', Y', e', st⟩ := getF Y hx hZ hown (host := "") (Or.inl w) via eT F (g := mkF m pc L (.ref a :: S)) rfl rfl (hb hby hd)
  exact Gl.st st (K T' ⟨locs, Y', e', N⟩)
theorem g_putF (X : St p l e R s m args below meth c n0 T h cells slots) (hx : p.tables.exec = Jvm.exec) (hby : c.code = bs) (hZ : Z.Warmed39 s.vm) {own R0 O n d C : String} {index kk : Nat} {ty : FieldType} (hown : s.vm.findClass own = some m.cls) (w : (Cond.fieldLink own index R0 n d).before a0 Z = true) (via : Via Z R0 O n d) {a : Addr} {v old : Value} (F : Fld Z h a O n d old) (E : Exa Z h a C) (lay : (Cond.lays C O n d).before a0 Z = true ∨ ((Cond.laysFinal C O n d).before a0 Z = true ∧ own = O ∧ meth.name = "<init>")) (wi : (Cond.instantiable C kk).before a0 Z = true) (hty : parseFieldDescriptor d = some ty) (hn : narrow ty v = v) (hf : fits ty v = true) (hn0 : n0 ≤ a) (hd : decode bs pc = .ok (.putfield index, 3)) (hp : pc + 3 = pc') (K : ∀ T' h', St p l e R s m args below meth c n0 T' h' cells slots → Wr h h' a (Jvm.RoadKit.slotOf Z O n d) v → Gl p e below n0 Φ Q (T'.setTop (mkF m pc' L S))) : Gl p e below n0 Φ Q (T.setTop (mkF m pc L (v :: .ref a :: S))) := by
  obtain ⟨locs, Y, eT, N⟩ := X; subst hp
  obtain ⟨T', h', Y', e', W, st⟩ := putF Y hx hZ hown (host := "") (Or.inl w) via eT F E lay wi hty hn hf (g := mkF m pc L (v :: .ref a :: S)) rfl rfl (hb hby hd)
  exact Gl.st st (K T' h' ⟨_, Y', e', Fr.snoc Y' N hn0⟩ W)
theorem g_putFN (X : St p l e R s m args below meth c n0 T h cells slots) (hx : p.tables.exec = Jvm.exec) (hby : c.code = bs) (hZ : Z.Warmed39 s.vm) {own R0 O n d C : String} {index kk : Nat} {ty : FieldType} (hown : s.vm.findClass own = some m.cls) (w : (Cond.fieldLink own index R0 n d).before a0 Z = true) (via : Via Z R0 O n d) {a : Addr} {v v' old : Value} (F : Fld Z h a O n d old) (E : Exa Z h a C) (lay : (Cond.lays C O n d).before a0 Z = true ∨ ((Cond.laysFinal C O n d).before a0 Z = true ∧ own = O ∧ meth.name = "<init>")) (wi : (Cond.instantiable C kk).before a0 Z = true) (hty : parseFieldDescriptor d = some ty) (hn : narrow ty v = v') (hf : fits ty v' = true) (hn0 : n0 ≤ a) (hd : decode bs pc = .ok (.putfield index, 3)) (hp : pc + 3 = pc') (K : ∀ T' h', St p l e R s m args below meth c n0 T' h' cells slots → Wr h h' a (Jvm.RoadKit.slotOf Z O n d) v' → Gl p e below n0 Φ Q (T'.setTop (mkF m pc' L S))) : Gl p e below n0 Φ Q (T.setTop (mkF m pc L (v :: .ref a :: S))) := by
  obtain ⟨locs, Y, eT, N⟩ := X; subst hp
  obtain ⟨T', h', Y', e', W, st⟩ := putFN Y hx hZ hown w via eT F E lay wi hty hn hf (g := mkF m pc L (v :: .ref a :: S)) rfl rfl (hb hby hd)
  exact Gl.st st (K T' h' ⟨_, Y', e', Fr.snoc Y' N hn0⟩ W)
theorem g_getS (X : St p l e R s m args below meth c n0 T h cells slots) (hx : p.tables.exec = Jvm.exec) (hby : c.code = bs) (hZ : Z.Warmed39 s.vm) {own R0 O n d : String} {index : Nat} (hown : s.vm.findClass own = some m.cls) (w : (Cond.fieldLink own index R0 n d).before a0 Z = true) (via : Via Z R0 O n d) {v : Value} (F : Sta Z h O n d v) (hd : decode bs pc = .ok (.getstatic index, 3)) (hp : pc + 3 = pc') (K : ∀ T', St p l e R s m args below meth c n0 T' h cells slots → Gl p e below n0 Φ Q (T'.setTop (mkF m pc' L (v :: S)))) : Gl p e below n0 Φ Q (T.setTop (mkF m pc L S)) := by
  obtain ⟨locs, Y, eT, N⟩ := X; subst hp
  obtain ⟨T', Y', e', st⟩ := getS Y hx hZ hown (host := "") w via eT F (g := mkF m pc L S) rfl (hb hby hd)
  exact Gl.st st (K T' ⟨locs, Y', e', N⟩)
theorem g_new (X : St p l e R s m args below meth c n0 T h cells slots) (hx : p.tables.exec = Jvm.exec) (hby : c.code = bs) (hZ : Z.Warmed39 s.vm) {own C : String} {index n : Nat} (hown : s.vm.findClass own = some m.cls) (w : (Cond.classLink own index C).before a0 Z = true) (wi : (Cond.instantiable C n).before a0 Z = true) (wz : (Cond.initialized C).before a0 Z = true) (hd : decode bs pc = .ok (.new index, 3)) (hc : cells + 1 ≤ R.cells) (hs : slots + n ≤ R.slots) (hp : pc + 3 = pc') (K : ∀ T' h' (b : Addr), b = h.size → St p l e R s m args below meth c n0 T' h' (cells + 1) (slots + n) → Ext h h' → Exa Z h' b C → (∀ {O nm d : String} {ty : FieldType}, Laid Z a0 C O nm d → parseFieldDescriptor d = some ty → Fld Z h' b O nm d (defaultValue ty)) → Gl p e below n0 Φ Q (T'.setTop (mkF m pc' L (.ref b :: S)))) : Gl p e below n0 Φ Q (T.setTop (mkF m pc L S)) := by
  obtain ⟨locs, Y, eT, N⟩ := X; subst hp
  obtain ⟨T', h', Y', e', E, A, D, -, st⟩ := newO Y hx hZ hown w wi wz eT (g := mkF m pc L S) rfl (hb hby hd) hc hs
  exact Gl.st st (K T' h' _ rfl ⟨locs, Y', e', N⟩ E A D)
theorem g_newarray (X : St p l e R s m args below meth c n0 T h cells slots) (hx : p.tables.exec = Jvm.exec) (hby : c.code = bs) (hZ : Z.Warmed39 s.vm) {aty : ArrayType} (w : (Cond.arrayClass (newarray.typeOf aty)).before a0 Z = true) {n : Int32} {k cap : Nat} (hd : decode bs pc = .ok (.newarray aty, 2)) (hn : n.toInt = (k : Int)) (hcap : k ≤ cap) (hb8 : cap * 8 ≤ 536870912) (hc : cells + 1 ≤ R.cells) (hs : slots + cap ≤ R.slots) (hp : pc + 2 = pc') (K : ∀ T' h' (b : Addr), b = h.size → St p l e R s m args below meth c n0 T' h' (cells + 1) (slots + cap) → Ext h h' → Ary Z h' b (newarray.typeOf aty) k (fun _ => defaultValue (newarray.typeOf aty)) → Gl p e below n0 Φ Q (T'.setTop (mkF m pc' L (.ref b :: S)))) : Gl p e below n0 Φ Q (T.setTop (mkF m pc L (.int n :: S))) := by
  obtain ⟨locs, Y, eT, N⟩ := X; subst hp
  have e1 : n.toNatClampNeg = k := by simp only [Int32.toNatClampNeg]; omega
  obtain ⟨T', h', cA, Y', e', E, A, st⟩ := newP Y hx hZ w eT (g := mkF m pc L (.int n :: S)) rfl (hb hby hd) rfl (by rw [Int32.lt_iff_toInt_lt]; have : (0 : Int32).toInt = 0 := rfl; omega) (cap := cap) (by omega) hb8 hc hs
  exact Gl.st st (K T' h' _ rfl ⟨locs, Y', e', N⟩ E ⟨_, A, by rw [sz_new]; exact e1, fun i hi => by simp [newA, e1, hi]⟩)
theorem g_anewarray (X : St p l e R s m args below meth c n0 T h cells slots) (hx : p.tables.exec = Jvm.exec) (hby : c.code = bs) (hZ : Z.Warmed39 s.vm) {own C : String} {index : Nat} (hown : s.vm.findClass own = some m.cls) (w1 : (Cond.classLink own index C).before a0 Z = true) (w2 : (Cond.arrayOver (.object C)).before a0 Z = true) {n : Int32} {k cap : Nat} (hd : decode bs pc = .ok (.anewarray index, 3)) (hn : n.toInt = (k : Int)) (hcap : k ≤ cap) (hb8 : cap * 8 ≤ 536870912) (hc : cells + 1 ≤ R.cells) (hs : slots + cap ≤ R.slots) (hp : pc + 3 = pc') (K : ∀ T' h' (b : Addr), b = h.size → St p l e R s m args below meth c n0 T' h' (cells + 1) (slots + cap) → Ext h h' → Ary Z h' b (.object C) k (fun _ => .null) → Ov Z h' b C → Gl p e below n0 Φ Q (T'.setTop (mkF m pc' L (.ref b :: S)))) : Gl p e below n0 Φ Q (T.setTop (mkF m pc L (.int n :: S))) := by
  obtain ⟨locs, Y, eT, N⟩ := X; subst hp
  have e1 : n.toNatClampNeg = k := by simp only [Int32.toNatClampNeg]; omega
  obtain ⟨T', h', cA, Y', e', E, A, O, st⟩ := newR Y hx hZ hown w1 w2 eT (g := mkF m pc L (.int n :: S)) rfl (hb hby hd) rfl (by rw [Int32.lt_iff_toInt_lt]; have : (0 : Int32).toInt = 0 := rfl; omega) (cap := cap) (by omega) hb8 hc hs
  exact Gl.st st (K T' h' _ rfl ⟨locs, Y', e', N⟩ E ⟨_, A, by rw [sz_new]; exact e1, fun i hi => by simp [newA, e1, hi, defaultValue]⟩ ⟨_, A.1, O⟩)
theorem g_arraylength (X : St p l e R s m args below meth c n0 T h cells slots) (hx : p.tables.exec = Jvm.exec) (hby : c.code = bs) (hZ : Z.Warmed39 s.vm) {a : Addr} {ty : FieldType} {k : Nat} {f : Nat → Value} {n : Int32} (A : Ary Z h a ty k f) (hn : n.toInt = (k : Int)) (hd : decode bs pc = .ok (.arraylength, 1)) (hp : pc + 1 = pc') (K : Gl p e below n0 Φ Q (T.setTop (mkF m pc' L (.int n :: S)))) : Gl p e below n0 Φ Q (T.setTop (mkF m pc L (.ref a :: S))) := by
  obtain ⟨locs, Y, eT, -⟩ := X; subst hp
  obtain ⟨cl, Ar, sz, -⟩ := A
  have e1 : cl.slots.size.toInt32 = n := by
    have q := rng32 n
    rw [← Int32.toInt_inj, len_toInt (by omega), sz, hn]
  refine Gl.st (fun t k => Y.arraylength hx (by rw [eT]; exact Ar.1) (State.isArrayOf_alike hZ.alike Ar.2.1) (g := mkF m pc L (.ref a :: S)) rfl rfl (hb hby hd) t k) ?_
  rw [e1]; exact K
theorem g_iaload (X : St p l e R s m args below meth c n0 T h cells slots) (hx : p.tables.exec = Jvm.exec) (hby : c.code = bs) (hZ : Z.Warmed39 s.vm) {a : Addr} {k i : Nat} {f : Nat → Value} {j : Int32} {v : Value} (A : Ary Z h a .int k f) (hj : j.toInt = (i : Int)) (hi : i < k) (hv : f i = v) (hd : decode bs pc = .ok (.iaload, 1)) (hp : pc + 1 = pc') (K : Gl p e below n0 Φ Q (T.setTop (mkF m pc' L (v :: S)))) : Gl p e below n0 Φ Q (T.setTop (mkF m pc L (.int j :: .ref a :: S))) := by
  obtain ⟨locs, Y, eT, -⟩ := X; subst hp hv
  obtain ⟨cl, Ar, sz, H⟩ := A
  obtain ⟨q1, q2⟩ := own_in (k := k) hj hi
  exact Gl.st (fun t k => Y.iaload hx (by rw [eT]; exact Ar.1) (State.isArrayOf_alike hZ.alike Ar.2.1) Ar.2.2 (by rw [sz]; exact q1) (by rw [q2]; exact H i hi) (g := mkF m pc L (.int j :: .ref a :: S)) rfl rfl (hb hby hd) t k) K
theorem g_laload (X : St p l e R s m args below meth c n0 T h cells slots) (hx : p.tables.exec = Jvm.exec) (hby : c.code = bs) (hZ : Z.Warmed39 s.vm) {a : Addr} {k i : Nat} {f : Nat → Value} {j : Int32} {v : Value} (A : Ary Z h a .long k f) (hj : j.toInt = (i : Int)) (hi : i < k) (hv : f i = v) (hd : decode bs pc = .ok (.laload, 1)) (hp : pc + 1 = pc') (K : Gl p e below n0 Φ Q (T.setTop (mkF m pc' L (v :: S)))) : Gl p e below n0 Φ Q (T.setTop (mkF m pc L (.int j :: .ref a :: S))) := by
  obtain ⟨locs, Y, eT, -⟩ := X; subst hp hv
  obtain ⟨cl, Ar, sz, H⟩ := A
  obtain ⟨q1, q2⟩ := own_in (k := k) hj hi
  exact Gl.st (fun t k => Y.laload hx (by rw [eT]; exact Ar.1) (State.isArrayOf_alike hZ.alike Ar.2.1) Ar.2.2 (by rw [sz]; exact q1) (by rw [q2]; exact H i hi) (g := mkF m pc L (.int j :: .ref a :: S)) rfl rfl (hb hby hd) t k) K
theorem g_caload (X : St p l e R s m args below meth c n0 T h cells slots) (hx : p.tables.exec = Jvm.exec) (hby : c.code = bs) (hZ : Z.Warmed39 s.vm) {a : Addr} {k i : Nat} {f : Nat → Value} {j : Int32} {v : Value} (A : Ary Z h a .char k f) (hj : j.toInt = (i : Int)) (hi : i < k) (hv : f i = v) (hd : decode bs pc = .ok (.caload, 1)) (hp : pc + 1 = pc') (K : Gl p e below n0 Φ Q (T.setTop (mkF m pc' L (v :: S)))) : Gl p e below n0 Φ Q (T.setTop (mkF m pc L (.int j :: .ref a :: S))) := by
  obtain ⟨locs, Y, eT, -⟩ := X; subst hp hv
  obtain ⟨cl, Ar, sz, H⟩ := A
  obtain ⟨q1, q2⟩ := own_in (k := k) hj hi
  exact Gl.st (fun t k => Y.caload hx (by rw [eT]; exact Ar.1) (State.isArrayOf_alike hZ.alike Ar.2.1) Ar.2.2 (by rw [sz]; exact q1) (by rw [q2]; exact H i hi) (g := mkF m pc L (.int j :: .ref a :: S)) rfl rfl (hb hby hd) t k) K
theorem g_baload (X : St p l e R s m args below meth c n0 T h cells slots) (hx : p.tables.exec = Jvm.exec) (hby : c.code = bs) (hZ : Z.Warmed39 s.vm) {a : Addr} {k i : Nat} {f : Nat → Value} {j : Int32} {v : Value} (A : Ary Z h a .byte k f) (hj : j.toInt = (i : Int)) (hi : i < k) (hv : f i = v) (hd : decode bs pc = .ok (.baload, 1)) (hp : pc + 1 = pc') (K : Gl p e below n0 Φ Q (T.setTop (mkF m pc' L (v :: S)))) : Gl p e below n0 Φ Q (T.setTop (mkF m pc L (.int j :: .ref a :: S))) := by
  obtain ⟨locs, Y, eT, -⟩ := X; subst hp hv
  obtain ⟨cl, Ar, sz, H⟩ := A
  obtain ⟨q1, q2⟩ := own_in (k := k) hj hi
  exact Gl.st (fun t k => Y.baloadBytes hx (by rw [eT]; exact Ar.1) (State.isArrayOf_alike hZ.alike Ar.2.1) Ar.2.2 (by rw [sz]; exact q1) (by rw [q2]; exact H i hi) (g := mkF m pc L (.int j :: .ref a :: S)) rfl rfl (hb hby hd) t k) K
theorem g_zaload (X : St p l e R s m args below meth c n0 T h cells slots) (hx : p.tables.exec = Jvm.exec) (hby : c.code = bs) (hZ : Z.Warmed39 s.vm) {a : Addr} {k i : Nat} {f : Nat → Value} {j : Int32} {v : Value} (A : Ary Z h a .boolean k f) (hj : j.toInt = (i : Int)) (hi : i < k) (hv : f i = v) (hd : decode bs pc = .ok (.baload, 1)) (hp : pc + 1 = pc') (K : Gl p e below n0 Φ Q (T.setTop (mkF m pc' L (v :: S)))) : Gl p e below n0 Φ Q (T.setTop (mkF m pc L (.int j :: .ref a :: S))) := by
  obtain ⟨locs, Y, eT, -⟩ := X; subst hp hv
  obtain ⟨cl, Ar, sz, H⟩ := A
  obtain ⟨q1, q2⟩ := own_in (k := k) hj hi
  exact Gl.st (fun t k => Y.baloadBooleans hx (by rw [eT]; exact Ar.1) (State.isArrayOf_alike hZ.alike Ar.2.1) Ar.2.2 (by rw [sz]; exact q1) (by rw [q2]; exact H i hi) (g := mkF m pc L (.int j :: .ref a :: S)) rfl rfl (hb hby hd) t k) K
theorem g_aaload (X : St p l e R s m args below meth c n0 T h cells slots) (hx : p.tables.exec = Jvm.exec) (hby : c.code = bs) (hZ : Z.Warmed39 s.vm) {a : Addr} {k i : Nat} {f : Nat → Value} {j : Int32} {v : Value} {ty : FieldType} (A : Ary Z h a ty k f) (hty : ty.isReference = true) (hj : j.toInt = (i : Int)) (hi : i < k) (hv : f i = v) (hd : decode bs pc = .ok (.aaload, 1)) (hp : pc + 1 = pc') (K : Gl p e below n0 Φ Q (T.setTop (mkF m pc' L (v :: S)))) : Gl p e below n0 Φ Q (T.setTop (mkF m pc L (.int j :: .ref a :: S))) := by
  obtain ⟨locs, Y, eT, -⟩ := X; subst hp hv
  obtain ⟨cl, Ar, sz, H⟩ := A
  obtain ⟨q1, q2⟩ := own_in (k := k) hj hi
  exact Gl.st (fun t k => Y.aaload hx (by rw [eT]; exact Ar.1) (State.isArrayOf_alike hZ.alike Ar.2.1) hty Ar.2.2 (by rw [sz]; exact q1) (by rw [q2]; exact H i hi) (g := mkF m pc L (.int j :: .ref a :: S)) rfl rfl (hb hby hd) t k) K
theorem g_iastore (X : St p l e R s m args below meth c n0 T h cells slots) (hx : p.tables.exec = Jvm.exec) (hby : c.code = bs) (hZ : Z.Warmed39 s.vm) {a : Addr} {k i : Nat} {f : Nat → Value} {j : Int32} {x : Int32} (A : Ary Z h a .int k f) (hj : j.toInt = (i : Int)) (hi : i < k) (hn0 : n0 ≤ a) (hd : decode bs pc = .ok (.iastore, 1)) (hp : pc + 1 = pc') (K : ∀ T' h' sl0, St p l e R s m args below meth c n0 T' h' cells slots → Wr h h' a sl0 (.int x) → Ary Z h' a .int k (own_upd f i (.int x)) → Gl p e below n0 Φ Q (T'.setTop (mkF m pc' L S))) : Gl p e below n0 Φ Q (T.setTop (mkF m pc L (.int x :: .int j :: .ref a :: S))) := by
  obtain ⟨locs, Y, eT, N⟩ := X; subst hp
  obtain ⟨cl, Ar, sz, H⟩ := A
  obtain ⟨q1, q2⟩ := own_in (k := k) hj hi
  obtain ⟨T', h', Y', e', W, st⟩ := stI Y hx hZ eT Ar (j := j) (by rw [sz]; exact q1) (g := mkF m pc L (.int x :: .int j :: .ref a :: S)) rfl rfl (hb hby hd)
  exact Gl.st st (K T' h' _ ⟨_, Y', e', Fr.snoc Y' N hn0⟩ W (Ary.same Ar sz H (q2 ▸ W)))
theorem g_lastore (X : St p l e R s m args below meth c n0 T h cells slots) (hx : p.tables.exec = Jvm.exec) (hby : c.code = bs) (hZ : Z.Warmed39 s.vm) {a : Addr} {k i : Nat} {f : Nat → Value} {j : Int32} {x : Int64} (A : Ary Z h a .long k f) (hj : j.toInt = (i : Int)) (hi : i < k) (hn0 : n0 ≤ a) (hd : decode bs pc = .ok (.lastore, 1)) (hp : pc + 1 = pc') (K : ∀ T' h' sl0, St p l e R s m args below meth c n0 T' h' cells slots → Wr h h' a sl0 (.long x) → Ary Z h' a .long k (own_upd f i (.long x)) → Gl p e below n0 Φ Q (T'.setTop (mkF m pc' L S))) : Gl p e below n0 Φ Q (T.setTop (mkF m pc L (.long x :: .int j :: .ref a :: S))) := by
  obtain ⟨locs, Y, eT, N⟩ := X; subst hp
  obtain ⟨cl, Ar, sz, H⟩ := A
  obtain ⟨q1, q2⟩ := own_in (k := k) hj hi
  obtain ⟨T', h', Y', e', W, st⟩ := stJ Y hx hZ eT Ar (j := j) (by rw [sz]; exact q1) (g := mkF m pc L (.long x :: .int j :: .ref a :: S)) rfl rfl (hb hby hd)
  exact Gl.st st (K T' h' _ ⟨_, Y', e', Fr.snoc Y' N hn0⟩ W (Ary.same Ar sz H (q2 ▸ W)))
theorem g_bastore (X : St p l e R s m args below meth c n0 T h cells slots) (hx : p.tables.exec = Jvm.exec) (hby : c.code = bs) (hZ : Z.Warmed39 s.vm) {a : Addr} {k i : Nat} {f : Nat → Value} {j : Int32} {x : Int32} (A : Ary Z h a .byte k f) (hj : j.toInt = (i : Int)) (hi : i < k) (hn0 : n0 ≤ a) (hd : decode bs pc = .ok (.bastore, 1)) (hp : pc + 1 = pc') (K : ∀ T' h' sl0, St p l e R s m args below meth c n0 T' h' cells slots → Wr h h' a sl0 (.int (nar .byte x)) → Ary Z h' a .byte k (own_upd f i (.int (nar .byte x))) → Gl p e below n0 Φ Q (T'.setTop (mkF m pc' L S))) : Gl p e below n0 Φ Q (T.setTop (mkF m pc L (.int x :: .int j :: .ref a :: S))) := by
  obtain ⟨locs, Y, eT, N⟩ := X; subst hp
  obtain ⟨cl, Ar, sz, H⟩ := A
  obtain ⟨q1, q2⟩ := own_in (k := k) hj hi
  obtain ⟨T', h', Y', e', W, st⟩ := stB Y hx hZ eT Ar (j := j) (by rw [sz]; exact q1) (g := mkF m pc L (.int x :: .int j :: .ref a :: S)) rfl rfl (hb hby hd)
  exact Gl.st st (K T' h' _ ⟨_, Y', e', Fr.snoc Y' N hn0⟩ W (Ary.same Ar sz H (q2 ▸ W)))
theorem g_zastore (X : St p l e R s m args below meth c n0 T h cells slots) (hx : p.tables.exec = Jvm.exec) (hby : c.code = bs) (hZ : Z.Warmed39 s.vm) {a : Addr} {k i : Nat} {f : Nat → Value} {j : Int32} {x : Int32} (A : Ary Z h a .boolean k f) (hj : j.toInt = (i : Int)) (hi : i < k) (hn0 : n0 ≤ a) (hd : decode bs pc = .ok (.bastore, 1)) (hp : pc + 1 = pc') (K : ∀ T' h' sl0, St p l e R s m args below meth c n0 T' h' cells slots → Wr h h' a sl0 (.int (nar .boolean x)) → Ary Z h' a .boolean k (own_upd f i (.int (nar .boolean x))) → Gl p e below n0 Φ Q (T'.setTop (mkF m pc' L S))) : Gl p e below n0 Φ Q (T.setTop (mkF m pc L (.int x :: .int j :: .ref a :: S))) := by
  obtain ⟨locs, Y, eT, N⟩ := X; subst hp
  obtain ⟨cl, Ar, sz, H⟩ := A
  obtain ⟨q1, q2⟩ := own_in (k := k) hj hi
  obtain ⟨T', h', Y', e', W, st⟩ := stZ Y hx hZ eT Ar (j := j) (by rw [sz]; exact q1) (g := mkF m pc L (.int x :: .int j :: .ref a :: S)) rfl rfl (hb hby hd)
  exact Gl.st st (K T' h' _ ⟨_, Y', e', Fr.snoc Y' N hn0⟩ W (Ary.same Ar sz H (q2 ▸ W)))
theorem g_castore (X : St p l e R s m args below meth c n0 T h cells slots) (hx : p.tables.exec = Jvm.exec) (hby : c.code = bs) (hZ : Z.Warmed39 s.vm) {a : Addr} {k i : Nat} {f : Nat → Value} {j : Int32} {x : Int32} (A : Ary Z h a .char k f) (hj : j.toInt = (i : Int)) (hi : i < k) (hn0 : n0 ≤ a) (hd : decode bs pc = .ok (.castore, 1)) (hp : pc + 1 = pc') (K : ∀ T' h' sl0, St p l e R s m args below meth c n0 T' h' cells slots → Wr h h' a sl0 (.int (nar .char x)) → Ary Z h' a .char k (own_upd f i (.int (nar .char x))) → Gl p e below n0 Φ Q (T'.setTop (mkF m pc' L S))) : Gl p e below n0 Φ Q (T.setTop (mkF m pc L (.int x :: .int j :: .ref a :: S))) := by
  obtain ⟨locs, Y, eT, N⟩ := X; subst hp
  obtain ⟨cl, Ar, sz, H⟩ := A
  obtain ⟨q1, q2⟩ := own_in (k := k) hj hi
  obtain ⟨T', h', Y', e', W, st⟩ := stC Y hx hZ eT Ar (j := j) (by rw [sz]; exact q1) (g := mkF m pc L (.int x :: .int j :: .ref a :: S)) rfl rfl (hb hby hd)
  exact Gl.st st (K T' h' _ ⟨_, Y', e', Fr.snoc Y' N hn0⟩ W (Ary.same Ar sz H (q2 ▸ W)))
theorem g_aastore (X : St p l e R s m args below meth c n0 T h cells slots) (hx : p.tables.exec = Jvm.exec) (hby : c.code = bs) (hZ : Z.Warmed39 s.vm) {a : Addr} {k i : Nat} {f : Nat → Value} {j : Int32} {v : Value} {ty : FieldType} (A : Ary Z h a ty k f) (hty : ty.isReference = true) (St0 : Sto Z h a v) (hj : j.toInt = (i : Int)) (hi : i < k) (hn0 : n0 ≤ a) (hd : decode bs pc = .ok (.aastore, 1)) (hp : pc + 1 = pc') (K : ∀ T' h' sl0, St p l e R s m args below meth c n0 T' h' cells slots → Wr h h' a sl0 v → Ary Z h' a ty k (own_upd f i v) → Gl p e below n0 Φ Q (T'.setTop (mkF m pc' L S))) : Gl p e below n0 Φ Q (T.setTop (mkF m pc L (v :: .int j :: .ref a :: S))) := by
  obtain ⟨locs, Y, eT, N⟩ := X; subst hp
  obtain ⟨cl, Ar, sz, H⟩ := A
  obtain ⟨q1, q2⟩ := own_in (k := k) hj hi
  obtain ⟨T', h', Y', e', W, st⟩ := stR Y hx hZ eT Ar (j := j) (by rw [sz]; exact q1) hty St0 (g := mkF m pc L (v :: .int j :: .ref a :: S)) rfl rfl (hb hby hd)
  exact Gl.st st (K T' h' _ ⟨_, Y', e', Fr.snoc Y' N hn0⟩ W (Ary.same Ar sz H (q2 ▸ W)))
theorem g_instY (X : St p l e R s m args below meth c n0 T h cells slots) (hx : p.tables.exec = Jvm.exec) (hby : c.code = bs) (hZ : Z.Warmed39 s.vm) {own K : String} {index : Nat} {a : Addr} (hown : s.vm.findClass own = some m.cls) (w : (Cond.classLink own index K).before a0 Z = true) (I : Ins Z h a K true) (hd : decode bs pc = .ok (.instanceof index, 3)) (hp : pc + 3 = pc') (K1 : ∀ T', St p l e R s m args below meth c n0 T' h cells slots → Gl p e below n0 Φ Q (T'.setTop (mkF m pc' L (.int 1 :: S)))) : Gl p e below n0 Φ Q (T.setTop (mkF m pc L (.ref a :: S))) := by
  obtain ⟨locs, Y, eT, N⟩ := X; subst hp
  obtain ⟨T', Y', e', st⟩ := instY Y hx hZ hown w eT I (g := mkF m pc L (.ref a :: S)) rfl rfl (hb hby hd)
  exact Gl.st st (K1 T' ⟨locs, Y', e', N⟩)
theorem g_castY (X : St p l e R s m args below meth c n0 T h cells slots) (hx : p.tables.exec = Jvm.exec) (hby : c.code = bs) (hZ : Z.Warmed39 s.vm) {own K : String} {index : Nat} {a : Addr} (hown : s.vm.findClass own = some m.cls) (w : (Cond.classLink own index K).before a0 Z = true) (I : Ins Z h a K true) (hd : decode bs pc = .ok (.checkcast index, 3)) (hp : pc + 3 = pc') (K1 : ∀ T', St p l e R s m args below meth c n0 T' h cells slots → Gl p e below n0 Φ Q (T'.setTop (mkF m pc' L (.ref a :: S)))) : Gl p e below n0 Φ Q (T.setTop (mkF m pc L (.ref a :: S))) := by
  obtain ⟨locs, Y, eT, N⟩ := X; subst hp
  obtain ⟨T', Y', e', st⟩ := castY Y hx hZ hown w eT I (g := mkF m pc L (.ref a :: S)) rfl rfl (hb hby hd)
  exact Gl.st st (K1 T' ⟨locs, Y', e', N⟩)
theorem g_instNo (X : St p l e R s m args below meth c n0 T h cells slots) (hx : p.tables.exec = Jvm.exec) (hby : c.code = bs) (hZ : Z.Warmed39 s.vm) {own K C : String} {index : Nat} {a : Addr} (hown : s.vm.findClass own = some m.cls) (w : (Cond.classLink own index K).before a0 Z = true) (E : Exa Z h a C) (I : ∃ c t, Z.vm.findClass C = some c ∧ Z.vm.findClass K = some t ∧ Z.vm.assignable c t = false) (hd : decode bs pc = .ok (.instanceof index, 3)) (hp : pc + 3 = pc') (K1 : ∀ T', St p l e R s m args below meth c n0 T' h cells slots → Gl p e below n0 Φ Q (T'.setTop (mkF m pc' L (.int 0 :: S)))) : Gl p e below n0 Φ Q (T.setTop (mkF m pc L (.ref a :: S))) := by
  obtain ⟨locs, Y, eT, N⟩ := X; subst hp
  obtain ⟨T', Y', e', st⟩ := instNo Y hx hZ hown w eT E I (g := mkF m pc L (.ref a :: S)) rfl rfl (hb hby hd)
  exact Gl.st st (K1 T' ⟨locs, Y', e', N⟩)
theorem g_instNull (X : St p l e R s m args below meth c n0 T h cells slots) (hx : p.tables.exec = Jvm.exec) (hby : c.code = bs) {index : Nat} (hd : decode bs pc = .ok (.instanceof index, 3)) (hp : pc + 3 = pc') (K1 : Gl p e below n0 Φ Q (T.setTop (mkF m pc' L (.int 0 :: S)))) : Gl p e below n0 Φ Q (T.setTop (mkF m pc L (.null :: S))) := by
  obtain ⟨locs, Y, eT, N⟩ := X; subst hp
  exact Gl.st (fun t k => Y.instanceofNull hx (g := mkF m pc L (.null :: S)) rfl rfl (hb hby hd) t k) K1
theorem g_initO (X : St p l e R s m args below meth c n0 T h cells slots) (hx : p.tables.exec = Jvm.exec) (hby : c.code = bs) (hZ : Z.Warmed39 s.vm) {own : String} {idx W : Nat} {a : Addr} (hown : s.vm.findClass own = some m.cls) (w1 : (Cond.methodLink own idx Lib.objectInit).before a0 Z = true) (w2 : (Cond.instanceMethod Lib.objectInit).before a0 Z = true) (w3 : (Cond.code Lib.objectInit ⟨#[0xb1]⟩ 1 none).before a0 Z = true) (hsz : L.size = c.maxLocals) (hd : decode bs pc = .ok (.invokespecial idx, 3)) (hf : 1 ≤ R.frames) (hW : 2 * 0 + (S.map fun v => v.category).sum ≤ W) (hlo : W + 12 ≤ R.locals) (hp : pc + 3 = pc') (K : ∀ T', St p l e R s m args below meth c n0 T' h cells slots → Gl p e below n0 Φ Q (T'.setTop (mkF m pc' L S))) : Gl p e below n0 Φ Q (T.setTop (mkF m pc L (.ref a :: S))) := by
  obtain ⟨locs, Y, eT, N⟩ := X; subst hp
  obtain ⟨T', Y', e', st⟩ := initO Y hx hZ hown w1 w2 w3 eT (g := mkF m pc L (.ref a :: S)) rfl hsz rfl (hb hby hd) hf (W := W) hW hlo
  exact Gl.st st (K T' ⟨locs, Y', e', N⟩)
theorem g_callS (X : St p l e R s m args below meth c n0 T h cells slots) (hx : p.tables.exec = Jvm.exec) (hby : c.code = bs) (hZ : Z.Warmed39 s.vm) {rm : Room} {y : MethodName} {bytes : ByteArray} {maxL : Nat} {ret : Option FieldType} {Qc : Option Value → Heap → Prop} {own : String} {idx : Nat} {argsL S0 : List Value} (hown : s.vm.findClass own = some m.cls) (w1 : (Cond.methodLink own idx y).before a0 Z = true) (w2 : (Cond.static y).before a0 Z = true) (w3 : (Cond.initialized y.cls).before a0 Z = true) (w4 : (Cond.code y bytes maxL ret).before a0 Z = true) (hy : y.cls ≠ "java/lang/invoke/MethodHandle" ∧ y.cls ≠ "java/lang/invoke/VarHandle") (hM : Ctr l Z y bytes maxL ret [] rm argsL.toArray h n0 rm.cells rm.slots Qc) (hsz : L.size = c.maxLocals) (hlen : ∀ sig, parseMethodDescriptor y.desc = some sig → argsL.length = sig.parameters.length) (hst : S0 = argsL.reverse ++ S) (hd : decode bs pc = .ok (.invokestatic idx, 3)) (hf : rm.frames + 1 ≤ R.frames) {W : Nat} (hW : 2 * 0 + (S.map fun v => v.category).sum ≤ W) (hlo : W + (maxL + 11) + rm.locals ≤ R.locals) (hc : cells + rm.cells ≤ R.cells) (hs : slots + rm.slots ≤ R.slots) (hp : pc + 3 = pc') (K : ∀ T' v, St p l e R s m args below meth c n0 T' T'.heap (cells + rm.cells) (slots + rm.slots) → Qc v T'.heap → Gl p e below n0 Φ Q (T'.setTop (mkF m pc' L (v.toList ++ S)))) : Gl p e below n0 Φ Q (T.setTop (mkF m pc L S0)) := by
  obtain ⟨locs, Y, eT, N⟩ := X; subst hp
  obtain ⟨v, _, ⟨T', L1, k1, n1⟩, -, Y', ⟨Lc, hQ, l1, y1, z1⟩, st⟩ := Jvm.LawKit.callS Y hx (y := y) hown (mvT hZ w1) (mvT hZ w2) (mvT hZ w3) (mvT hZ w4) hy (backOf (W := W) (Q := fun v h L => Qc v h ∧ Fr n0 L) hM hZ w4 w3 hf hlo) (g := mkF m pc L S0) rfl hsz (argsL := argsL) (rest := S) hlen hst hW (hb hby hd) (fun _ _ => ⟨rfl, eT, hc, hs⟩)
  dsimp only [Pt.U, Pt.locs, Pt.cells, Pt.slots] at Y' l1 y1 z1 st hQ
  subst l1 y1 z1
  exact Gl.st (st) (K T' v ⟨_, Y', rfl, Fr.app N hQ.2⟩ hQ.1)
theorem g_callC (X : St p l e R s m args below meth c n0 T h cells slots) (hx : p.tables.exec = Jvm.exec) (hby : c.code = bs) (hZ : Z.Warmed39 s.vm) {rm : Room} {y : MethodName} {bytes : ByteArray} {maxL : Nat} {Qc : Option Value → Heap → Prop} {own : String} {idx : Nat} {a : Addr} {argsL S0 : List Value} (hy1 : y.name = "<init>") (hown : s.vm.findClass own = some m.cls) (w1 : (Cond.methodLink own idx y).before a0 Z = true) (w2 : (Cond.instanceMethod y).before a0 Z = true) (w3 : (Cond.initialized y.cls).before a0 Z = true) (w4 : (Cond.code y bytes maxL none).before a0 Z = true) (hy : y.cls ≠ "java/lang/invoke/MethodHandle" ∧ y.cls ≠ "java/lang/invoke/VarHandle") (hM : Ctr l Z y bytes maxL none [] rm (.ref a :: argsL).toArray h n0 rm.cells rm.slots Qc) (hsz : L.size = c.maxLocals) (hlen : ∀ sig, parseMethodDescriptor y.desc = some sig → argsL.length = sig.parameters.length) (hst : S0 = argsL.reverse ++ .ref a :: S) (hd : decode bs pc = .ok (.invokespecial idx, 3)) (hf : rm.frames + 1 ≤ R.frames) {W : Nat} (hW : 2 * 0 + (S.map fun v => v.category).sum ≤ W) (hlo : W + (maxL + 11) + rm.locals ≤ R.locals) (hc : cells + rm.cells ≤ R.cells) (hs : slots + rm.slots ≤ R.slots) (hp : pc + 3 = pc') (K : ∀ T' v, St p l e R s m args below meth c n0 T' T'.heap (cells + rm.cells) (slots + rm.slots) → Qc v T'.heap → Gl p e below n0 Φ Q (T'.setTop (mkF m pc' L (v.toList ++ S)))) : Gl p e below n0 Φ Q (T.setTop (mkF m pc L S0)) := by
  obtain ⟨locs, Y, eT, N⟩ := X; subst hp
  obtain ⟨v, _, ⟨T', L1, k1, n1⟩, -, Y', ⟨Lc, hQ, l1, y1, z1⟩, st⟩ := Y.specialBack hx (y := y) hy1 hown (mvT hZ w1) (mvT hZ w2) (mvT hZ w4) hy (backOf (W := W) (Q := fun v h L => Qc v h ∧ Fr n0 L) hM hZ w4 w3 hf hlo) (g := mkF m pc L S0) rfl hsz (Steps.refl _) (a := a) (argsL := argsL) (rest := S) hlen hst hW (hb hby hd) (fun _ _ => ⟨rfl, eT, hc, hs⟩)
  dsimp only [Pt.U, Pt.locs, Pt.cells, Pt.slots] at Y' l1 y1 z1 st hQ
  subst l1 y1 z1
  exact Gl.st (fun t k => st.trans k) (K T' v ⟨_, Y', rfl, Fr.app N hQ.2⟩ hQ.1)
theorem g_callV (X : St p l e R s m args below meth c n0 T h cells slots) (hx : p.tables.exec = Jvm.exec) (hby : c.code = bs) (hZ : Z.Warmed39 s.vm) {rm : Room} {y : MethodName} {bytes : ByteArray} {maxL : Nat} {ret : Option FieldType} {Qc : Option Value → Heap → Prop} {own C : String} {idx : Nat} {a : Addr} {y' : MethodName} {argsL S0 : List Value} (hown : s.vm.findClass own = some m.cls) (w1 : (Cond.methodLink own idx y').before a0 Z = true) (w2 : (Cond.declares y').before a0 Z = true) (w5 : NotFace s y') (w6 : (Cond.selects C y' y).before a0 Z = true) (w7 : (Cond.instanceMethod y).before a0 Z = true) (w3 : (Cond.initialized y.cls).before a0 Z = true) (w4 : (Cond.code y bytes maxL ret).before a0 Z = true) (hy : y'.cls ≠ "java/lang/invoke/MethodHandle" ∧ y'.cls ≠ "java/lang/invoke/VarHandle") (E : Exa Z h a C) (hM : Ctr l Z y bytes maxL ret [] rm (.ref a :: argsL).toArray h n0 rm.cells rm.slots Qc) (hsz : L.size = c.maxLocals) (hlen : ∀ sig, parseMethodDescriptor y'.desc = some sig → argsL.length = sig.parameters.length) (hst : S0 = argsL.reverse ++ .ref a :: S) (hd : decode bs pc = .ok (.invokevirtual idx, 3)) (hf : rm.frames + 1 ≤ R.frames) {W : Nat} (hW : 2 * 0 + (S.map fun v => v.category).sum ≤ W) (hlo : W + (maxL + 11) + rm.locals ≤ R.locals) (hc : cells + rm.cells ≤ R.cells) (hs : slots + rm.slots ≤ R.slots) (hp : pc + 3 = pc') (K : ∀ T' v, St p l e R s m args below meth c n0 T' T'.heap (cells + rm.cells) (slots + rm.slots) → Qc v T'.heap → Gl p e below n0 Φ Q (T'.setTop (mkF m pc' L (v.toList ++ S)))) : Gl p e below n0 Φ Q (T.setTop (mkF m pc L S0)) := by
  obtain ⟨locs, Y, eT, N⟩ := X; subst hp
  obtain ⟨cB, kB, qa, qb, qc⟩ := isOf hZ eT E
  obtain ⟨v, _, ⟨T', L1, k1, n1⟩, -, Y', ⟨Lc, hQ, l1, y1, z1⟩, st⟩ := Y.virtualBack hx (y := y') (z := y) hown (mvT hZ w1) (mvT hZ w2) w5 (mvT hZ w6) (mvT hZ w7) hy (backOf (W := W) (Q := fun v h L => Qc v h ∧ Fr n0 L) hM hZ w4 w3 hf hlo) qa qc (g := mkF m pc L S0) rfl hsz (Steps.refl _) (argsL := argsL) (rest := S) hlen hst hW (hb hby hd) (fun _ _ => ⟨rfl, eT, hc, hs⟩)
  dsimp only [Pt.U, Pt.locs, Pt.cells, Pt.slots] at Y' l1 y1 z1 st hQ
  subst l1 y1 z1
  exact Gl.st (fun t k => st.trans k) (K T' v ⟨_, Y', rfl, Fr.app N hQ.2⟩ hQ.1)
end OwnSteps
abbrev own_room (f c s l : Nat) : Room := { frames := f, cells := c, slots := s, locals := l }
def own_min (p q : Int64) : Int64 := if q < p then q else p
def own_max (p q : Int64) : Int64 := if p < q then q else p
theorem own_mm (p q : Int64) : (own_min p q).toInt ≤ (own_max p q).toInt := by
  unfold own_min own_max; simp only [Int64.lt_iff_toInt_lt]
  repeat' split
  all_goals omega
def own_two (a b : Int64) : Nat → Value := fun i => if i = 0 then .long a else .long b
def own_left (a1 a2 b1 b2 : Int64) : Int32 := if a1.toInt = a2.toInt then (if b1.toInt = b2.toInt then (if a1.toInt = b1.toInt then 0 else 1) else 1) else 1
def own_ea1 (a1 a2 b1 b2 : Int64) : Int64 := if a1.toInt = a2.toInt then a1 else if b1.toInt = b2.toInt then (if a1.toInt = b1.toInt then b1 + 1 else a1) else a1
def own_ea2 (a1 a2 b1 b2 : Int64) : Int64 := if a1.toInt = a2.toInt then a2 else if b1.toInt = b2.toInt then (if a2.toInt = b1.toInt then b1 - 1 else a2) else a2
def own_eb1 (a1 a2 b1 b2 : Int64) : Int64 := if a1.toInt = a2.toInt then (if b1.toInt = b2.toInt then b1 else if b1.toInt = a1.toInt then a1 + 1 else b1) else b1
def own_eb2 (a1 a2 b1 b2 : Int64) : Int64 := if a1.toInt = a2.toInt then (if b1.toInt = b2.toInt then b2 else if b2.toInt = a1.toInt then a1 - 1 else b2) else b2
theorem own_t {x y : Int64} (q : x = y) : x.toInt = y.toInt := congrArg Int64.toInt q
theorem own_f {x y : Int64} (q : ¬ x = y) : ¬ x.toInt = y.toInt := fun z => q (Int64.toInt_inj.mp z)
set_option maxRecDepth 65536 in
set_option maxHeartbeats 40000000 in
theorem own_ef1 (m : MethodId) (y0 : Int64) (y1 : Int64)  : entryFrame m #[(.long y0), (.long y1)] 4 = mkF m 0 #[.val (.long y0), .second, .val (.long y1), .second] [] := by first | (simp [entryFrame, mkF, argsToLocals, Value.category, maxLocals]; done) | rfl
theorem own_d0_0 : decode jdk_29_method_70_code 0 = .ok (.lload_n 0, 1) := by decide +kernel
theorem own_d0_1 : decode jdk_29_method_70_code 1 = .ok (.lload_n 2, 1) := by decide +kernel
theorem own_d0_2 : decode jdk_29_method_70_code 2 = .ok (.lcmp, 1) := by decide +kernel
theorem own_d0_3 : decode jdk_29_method_70_code 3 = .ok (.ifCond .gt 7, 3) := by decide +kernel
theorem own_d0_10 : decode jdk_29_method_70_code 10 = .ok (.lload_n 2, 1) := by decide +kernel
theorem own_d0_11 : decode jdk_29_method_70_code 11 = .ok (.lreturn, 1) := by decide +kernel
theorem own_d0_6 : decode jdk_29_method_70_code 6 = .ok (.lload_n 0, 1) := by decide +kernel
theorem own_d0_7 : decode jdk_29_method_70_code 7 = .ok (.goto 4, 3) := by decide +kernel
set_option maxRecDepth 65536 in
set_option maxHeartbeats 40000000 in
theorem own_rm1 (l : Launch) (Z : State) (a0 : Array Value) (hw : ∀ d ∈ tables_1, d.before a0 Z = true) (y0 y1 : Int64) (h0 : Heap) (n0 : Nat)  :
    Ctr l Z (⟨"java/lang/Math", "min", "(JJ)J"⟩ : MethodName) jdk_29_method_70_code 4 (some .long) [] (own_room 0 0 0 0) #[(.long y0), (.long y1)] h0 n0 0 0 (fun v h => v = some (.long (own_min y0 y1)) ∧ h = h0) := by
  refine Ctr.of (Jvm.Free.JP.mathPlain rfl (by decide +kernel)) ?_
  intro p e s m below meth c T0 hx hby hml hret hlk hnm hown hZ X0
  rw [own_ef1 m (y0) (y1)]
  refine g_lloadN X0 hx hby own_d0_0 rfl (pc' := 1) rfl ?_
  refine g_lloadN X0 hx hby own_d0_1 rfl (pc' := 2) rfl ?_
  refine g_lcmp_gt X0 hx hby own_d0_2 (pc1 := 3) rfl own_d0_3 (by decide) (pc' := 10) (by decide) (pc2 := 6) rfl (fun c2_2 => ?_) (fun c2_2 => ?_)
  · refine g_lloadN X0 hx hby own_d0_10 rfl (pc' := 11) rfl ?_
    exact g_retL X0 hx hby hret hlk own_d0_11 ⟨congrArg (fun z => some (Value.long z)) (show y1 = own_min y0 y1 from (if_pos c2_2).symm), rfl⟩ (by decide) (by decide)
  · refine g_lloadN X0 hx hby own_d0_6 rfl (pc' := 7) rfl ?_
    refine g_goto X0 hx hby own_d0_7 (by decide) (pc' := 11) (by decide) ?_
    exact g_retL X0 hx hby hret hlk own_d0_11 ⟨congrArg (fun z => some (Value.long z)) (show y0 = own_min y0 y1 from (if_neg c2_2).symm), rfl⟩ (by decide) (by decide)
set_option maxRecDepth 65536 in
set_option maxHeartbeats 40000000 in
theorem own_ef3 (m : MethodId) (y0 : Int64) (y1 : Int64)  : entryFrame m #[(.long y0), (.long y1)] 4 = mkF m 0 #[.val (.long y0), .second, .val (.long y1), .second] [] := by first | (simp [entryFrame, mkF, argsToLocals, Value.category, maxLocals]; done) | rfl
theorem own_d1_0 : decode jdk_29_method_66_code 0 = .ok (.lload_n 0, 1) := by decide +kernel
theorem own_d1_1 : decode jdk_29_method_66_code 1 = .ok (.lload_n 2, 1) := by decide +kernel
theorem own_d1_2 : decode jdk_29_method_66_code 2 = .ok (.lcmp, 1) := by decide +kernel
theorem own_d1_3 : decode jdk_29_method_66_code 3 = .ok (.ifCond .lt 7, 3) := by decide +kernel
theorem own_d1_10 : decode jdk_29_method_66_code 10 = .ok (.lload_n 2, 1) := by decide +kernel
theorem own_d1_11 : decode jdk_29_method_66_code 11 = .ok (.lreturn, 1) := by decide +kernel
theorem own_d1_6 : decode jdk_29_method_66_code 6 = .ok (.lload_n 0, 1) := by decide +kernel
theorem own_d1_7 : decode jdk_29_method_66_code 7 = .ok (.goto 4, 3) := by decide +kernel
set_option maxRecDepth 65536 in
set_option maxHeartbeats 40000000 in
theorem own_rm2 (l : Launch) (Z : State) (a0 : Array Value) (hw : ∀ d ∈ tables_1, d.before a0 Z = true) (y0 y1 : Int64) (h0 : Heap) (n0 : Nat)  :
    Ctr l Z (⟨"java/lang/Math", "max", "(JJ)J"⟩ : MethodName) jdk_29_method_66_code 4 (some .long) [] (own_room 0 0 0 0) #[(.long y0), (.long y1)] h0 n0 0 0 (fun v h => v = some (.long (own_max y0 y1)) ∧ h = h0) := by
  refine Ctr.of (Jvm.Free.JP.mathPlain rfl (by decide +kernel)) ?_
  intro p e s m below meth c T0 hx hby hml hret hlk hnm hown hZ X0
  rw [own_ef3 m (y0) (y1)]
  refine g_lloadN X0 hx hby own_d1_0 rfl (pc' := 1) rfl ?_
  refine g_lloadN X0 hx hby own_d1_1 rfl (pc' := 2) rfl ?_
  refine g_lcmp_lt X0 hx hby own_d1_2 (pc1 := 3) rfl own_d1_3 (by decide) (pc' := 10) (by decide) (pc2 := 6) rfl (fun c2_4 => ?_) (fun c2_4 => ?_)
  · refine g_lloadN X0 hx hby own_d1_10 rfl (pc' := 11) rfl ?_
    exact g_retL X0 hx hby hret hlk own_d1_11 ⟨congrArg (fun z => some (Value.long z)) (show y1 = own_max y0 y1 from (if_pos c2_4).symm), rfl⟩ (by decide) (by decide)
  · refine g_lloadN X0 hx hby own_d1_6 rfl (pc' := 7) rfl ?_
    refine g_goto X0 hx hby own_d1_7 (by decide) (pc' := 11) (by decide) ?_
    exact g_retL X0 hx hby hret hlk own_d1_11 ⟨congrArg (fun z => some (Value.long z)) (show y0 = own_max y0 y1 from (if_neg c2_4).symm), rfl⟩ (by decide) (by decide)
theorem own_cg {f : Nat → Value} {x y x' y' : Int64} (r1 : x = x') (r2 : y = y') (h0 : f 0 = .long x := by rfl) (h1 : f 1 = .long y := by rfl) : ∀ i, i < 2 → f i = own_two x' y' i := fun i hi => by
  obtain rfl | rfl : i = 0 ∨ i = 1 := by omega
  · rw [h0, r1]; rfl
  · rw [h1, r2]; rfl
set_option maxRecDepth 65536 in
set_option maxHeartbeats 40000000 in
theorem own_ef5 (m : MethodId) (y0 : Addr) (y1 : Addr)  : entryFrame m #[(.ref y0), (.ref y1)] 7 = mkF m 0 #[.val (.ref y0), .val (.ref y1), .unset, .unset, .unset, .unset, .unset] [] := by first | (simp [entryFrame, mkF, argsToLocals, Value.category, maxLocals]; done) | rfl
theorem own_pn0 : plainName "com/example/tautline/tautline/model/Ranges" = true := by first | (simp [plainName, overriddenIn]; done) | decide +kernel
theorem own_d2_0 : decode prog_85_method_23_code 0 = .ok (.iconst 1, 1) := by decide +kernel
theorem own_d2_1 : decode prog_85_method_23_code 1 = .ok (.istore_n 2, 1) := by decide +kernel
theorem own_d2_2 : decode prog_85_method_23_code 2 = .ok (.iconst 0, 1) := by decide +kernel
theorem own_d2_3 : decode prog_85_method_23_code 3 = .ok (.istore_n 3, 1) := by decide +kernel
theorem own_d2_4 : decode prog_85_method_23_code 4 = .ok (.iload_n 3, 1) := by decide +kernel
theorem own_d2_5 : decode prog_85_method_23_code 5 = .ok (.aload_n 0, 1) := by decide +kernel
theorem own_d2_6 : decode prog_85_method_23_code 6 = .ok (.arraylength, 1) := by decide +kernel
theorem own_d2_7 : decode prog_85_method_23_code 7 = .ok (.if_icmp .ge 130, 3) := by decide +kernel
theorem own_d2_10 : decode prog_85_method_23_code 10 = .ok (.iload_n 2, 1) := by decide +kernel
theorem own_d2_11 : decode prog_85_method_23_code 11 = .ok (.ifCond .eq 126, 3) := by decide +kernel
theorem own_d2_14 : decode prog_85_method_23_code 14 = .ok (.aload_n 0, 1) := by decide +kernel
theorem own_d2_15 : decode prog_85_method_23_code 15 = .ok (.iload_n 3, 1) := by decide +kernel
theorem own_d2_16 : decode prog_85_method_23_code 16 = .ok (.laload, 1) := by decide +kernel
theorem own_d2_17 : decode prog_85_method_23_code 17 = .ok (.lstore 4, 2) := by decide +kernel
theorem own_d2_19 : decode prog_85_method_23_code 19 = .ok (.iconst 0, 1) := by decide +kernel
theorem own_d2_20 : decode prog_85_method_23_code 20 = .ok (.istore 6, 2) := by decide +kernel
theorem own_d2_22 : decode prog_85_method_23_code 22 = .ok (.iload 6, 2) := by decide +kernel
theorem own_d2_24 : decode prog_85_method_23_code 24 = .ok (.aload_n 0, 1) := by decide +kernel
theorem own_d2_25 : decode prog_85_method_23_code 25 = .ok (.arraylength, 1) := by decide +kernel
theorem own_d2_26 : decode prog_85_method_23_code 26 = .ok (.if_icmp .ge 105, 3) := by decide +kernel
theorem own_d2_29 : decode prog_85_method_23_code 29 = .ok (.iload_n 2, 1) := by decide +kernel
theorem own_d2_30 : decode prog_85_method_23_code 30 = .ok (.ifCond .eq 101, 3) := by decide +kernel
theorem own_d2_33 : decode prog_85_method_23_code 33 = .ok (.aload_n 0, 1) := by decide +kernel
theorem own_d2_34 : decode prog_85_method_23_code 34 = .ok (.iload_n 3, 1) := by decide +kernel
theorem own_d2_35 : decode prog_85_method_23_code 35 = .ok (.laload, 1) := by decide +kernel
theorem own_d2_36 : decode prog_85_method_23_code 36 = .ok (.aload_n 1, 1) := by decide +kernel
theorem own_d2_37 : decode prog_85_method_23_code 37 = .ok (.iload_n 3, 1) := by decide +kernel
theorem own_d2_38 : decode prog_85_method_23_code 38 = .ok (.laload, 1) := by decide +kernel
theorem own_d2_39 : decode prog_85_method_23_code 39 = .ok (.lcmp, 1) := by decide +kernel
theorem own_d2_40 : decode prog_85_method_23_code 40 = .ok (.ifCond .ne 91, 3) := by decide +kernel
theorem own_d2_131 : decode prog_85_method_23_code 131 = .ok (.iinc 3 1, 3) := by decide +kernel
theorem own_d2_134 : decode prog_85_method_23_code 134 = .ok (.goto (-130), 3) := by decide +kernel
theorem own_d2_137 : decode prog_85_method_23_code 137 = .ok (.iload_n 2, 1) := by decide +kernel
theorem own_d2_138 : decode prog_85_method_23_code 138 = .ok (.ireturn, 1) := by decide +kernel
theorem own_d2_43 : decode prog_85_method_23_code 43 = .ok (.iload 6, 2) := by decide +kernel
theorem own_d2_45 : decode prog_85_method_23_code 45 = .ok (.iload_n 3, 1) := by decide +kernel
theorem own_d2_46 : decode prog_85_method_23_code 46 = .ok (.if_icmp .eq 28, 3) := by decide +kernel
theorem own_d2_49 : decode prog_85_method_23_code 49 = .ok (.aload_n 0, 1) := by decide +kernel
theorem own_d2_50 : decode prog_85_method_23_code 50 = .ok (.iload 6, 2) := by decide +kernel
theorem own_d2_52 : decode prog_85_method_23_code 52 = .ok (.laload, 1) := by decide +kernel
theorem own_d2_53 : decode prog_85_method_23_code 53 = .ok (.lload 4, 2) := by decide +kernel
theorem own_d2_55 : decode prog_85_method_23_code 55 = .ok (.lcmp, 1) := by decide +kernel
theorem own_d2_56 : decode prog_85_method_23_code 56 = .ok (.ifCond .ne 18, 3) := by decide +kernel
theorem own_d2_74 : decode prog_85_method_23_code 74 = .ok (.iload 6, 2) := by decide +kernel
theorem own_d2_76 : decode prog_85_method_23_code 76 = .ok (.iload_n 3, 1) := by decide +kernel
theorem own_d2_77 : decode prog_85_method_23_code 77 = .ok (.if_icmp .eq 24, 3) := by decide +kernel
theorem own_d2_80 : decode prog_85_method_23_code 80 = .ok (.aload_n 0, 1) := by decide +kernel
theorem own_d2_81 : decode prog_85_method_23_code 81 = .ok (.iload 6, 2) := by decide +kernel
theorem own_d2_83 : decode prog_85_method_23_code 83 = .ok (.laload, 1) := by decide +kernel
theorem own_d2_84 : decode prog_85_method_23_code 84 = .ok (.lload 4, 2) := by decide +kernel
theorem own_d2_86 : decode prog_85_method_23_code 86 = .ok (.lcmp, 1) := by decide +kernel
theorem own_d2_87 : decode prog_85_method_23_code 87 = .ok (.ifCond .ne 14, 3) := by decide +kernel
theorem own_d2_101 : decode prog_85_method_23_code 101 = .ok (.iload 6, 2) := by decide +kernel
theorem own_d2_103 : decode prog_85_method_23_code 103 = .ok (.iload_n 3, 1) := by decide +kernel
theorem own_d2_104 : decode prog_85_method_23_code 104 = .ok (.if_icmp .eq 21, 3) := by decide +kernel
theorem own_d2_107 : decode prog_85_method_23_code 107 = .ok (.aload_n 1, 1) := by decide +kernel
theorem own_d2_108 : decode prog_85_method_23_code 108 = .ok (.iload 6, 2) := by decide +kernel
theorem own_d2_110 : decode prog_85_method_23_code 110 = .ok (.laload, 1) := by decide +kernel
theorem own_d2_111 : decode prog_85_method_23_code 111 = .ok (.lload 4, 2) := by decide +kernel
theorem own_d2_113 : decode prog_85_method_23_code 113 = .ok (.lcmp, 1) := by decide +kernel
theorem own_d2_114 : decode prog_85_method_23_code 114 = .ok (.ifCond .ne 11, 3) := by decide +kernel
theorem own_d2_125 : decode prog_85_method_23_code 125 = .ok (.iinc 6 1, 3) := by decide +kernel
theorem own_d2_128 : decode prog_85_method_23_code 128 = .ok (.goto (-106), 3) := by decide +kernel
theorem own_d2_117 : decode prog_85_method_23_code 117 = .ok (.aload_n 1, 1) := by decide +kernel
theorem own_d2_118 : decode prog_85_method_23_code 118 = .ok (.iload 6, 2) := by decide +kernel
theorem own_d2_120 : decode prog_85_method_23_code 120 = .ok (.lload 4, 2) := by decide +kernel
theorem own_d2_122 : decode prog_85_method_23_code 122 = .ok (.lconst 1, 1) := by decide +kernel
theorem own_d2_123 : decode prog_85_method_23_code 123 = .ok (.lsub, 1) := by decide +kernel
theorem own_d2_124 : decode prog_85_method_23_code 124 = .ok (.lastore, 1) := by decide +kernel
theorem own_d2_59 : decode prog_85_method_23_code 59 = .ok (.aload_n 1, 1) := by decide +kernel
theorem own_d2_60 : decode prog_85_method_23_code 60 = .ok (.iload 6, 2) := by decide +kernel
theorem own_d2_62 : decode prog_85_method_23_code 62 = .ok (.laload, 1) := by decide +kernel
theorem own_d2_63 : decode prog_85_method_23_code 63 = .ok (.lload 4, 2) := by decide +kernel
theorem own_d2_65 : decode prog_85_method_23_code 65 = .ok (.lcmp, 1) := by decide +kernel
theorem own_d2_66 : decode prog_85_method_23_code 66 = .ok (.ifCond .ne 8, 3) := by decide +kernel
theorem own_d2_90 : decode prog_85_method_23_code 90 = .ok (.aload_n 0, 1) := by decide +kernel
theorem own_d2_91 : decode prog_85_method_23_code 91 = .ok (.iload 6, 2) := by decide +kernel
theorem own_d2_93 : decode prog_85_method_23_code 93 = .ok (.lload 4, 2) := by decide +kernel
theorem own_d2_95 : decode prog_85_method_23_code 95 = .ok (.lconst 1, 1) := by decide +kernel
theorem own_d2_96 : decode prog_85_method_23_code 96 = .ok (.ladd, 1) := by decide +kernel
theorem own_d2_97 : decode prog_85_method_23_code 97 = .ok (.lastore, 1) := by decide +kernel
theorem own_d2_98 : decode prog_85_method_23_code 98 = .ok (.goto 27, 3) := by decide +kernel
theorem own_d2_69 : decode prog_85_method_23_code 69 = .ok (.iconst 0, 1) := by decide +kernel
theorem own_d2_70 : decode prog_85_method_23_code 70 = .ok (.istore_n 2, 1) := by decide +kernel
theorem own_d2_71 : decode prog_85_method_23_code 71 = .ok (.goto 54, 3) := by decide +kernel
set_option maxRecDepth 65536 in
set_option maxHeartbeats 40000000 in
theorem own_rm3 (l : Launch) (Z : State) (a0 : Array Value) (hw : ∀ d ∈ tables_1, d.before a0 Z = true) (y0 y1 : Addr) (a1 a2 b1 b2 : Int64) (h0 : Heap) (n0 : Nat) (Z0 : n0 ≤ h0.size) (A0 : Ary Z h0 y0 .long 2 (own_two a1 b1)) (A1 : Ary Z h0 y1 .long 2 (own_two a2 b2)) (hne : y0 ≠ y1) (g0 : n0 ≤ y0) (g1 : n0 ≤ y1) (ha : a1.toInt ≤ a2.toInt) (hb : b1.toInt ≤ b2.toInt) :
    Ctr l Z (⟨"com/example/tautline/tautline/model/Ranges", "narrowDifferent", "([J[J)Z"⟩ : MethodName) prog_85_method_23_code 7 (some .boolean) [] (own_room 0 0 0 0) #[(.ref y0), (.ref y1)] h0 n0 0 0 (fun v h => v = some (.int (own_left a1 a2 b1 b2)) ∧ Keep h0 h [y0, y1] ∧ Ary Z h y0 .long 2 (own_two (own_ea1 a1 a2 b1 b2) (own_eb1 a1 a2 b1 b2)) ∧ Ary Z h y1 .long 2 (own_two (own_ea2 a1 a2 b1 b2) (own_eb2 a1 a2 b1 b2))) := by
  refine Ctr.of (plainFor_of_name own_pn0) ?_
  intro p e s m below meth c T0 hx hby hml hret hlk hnm hown hZ X0
  rw [own_ef5 m (y0) (y1)]
  have := c_ladd a1 1
  have := c_lsub a1 1
  have := c_ladd b1 1
  have := c_lsub b1 1
  have := c_ladd (a1 + 1) 1
  have := c_lsub (a1 + 1) 1
  have := rng64 a1
  have := rng64 b1
  have := rng64 a2
  have := rng64 b2
  have := rng64 (a1 + 1)
  have := rng64 (a1 - 1)
  have := rng64 (b1 + 1)
  have := rng64 (b1 - 1)
  have := rng64 (a1 + 1 + 1)
  have := rng64 (a1 + 1 - 1)
  have : (1 : Int64).toInt = 1 := rfl
  refine g_iconst (v := 1) X0 hx hby own_d2_0 rfl (pc' := 1) rfl ?_
  refine g_istoreN (L' := #[.val (.ref y0), .val (.ref y1), .val (.int (1 : Int32)), .unset, .unset, .unset, .unset]) X0 hx hby own_d2_1 rfl (pc' := 2) rfl ?_
  refine g_iconst (v := 0) X0 hx hby own_d2_2 rfl (pc' := 3) rfl ?_
  refine g_istoreN (L' := #[.val (.ref y0), .val (.ref y1), .val (.int (1 : Int32)), .val (.int (0 : Int32)), .unset, .unset, .unset]) X0 hx hby own_d2_3 rfl (pc' := 4) rfl ?_
  refine g_iloadN X0 hx hby own_d2_4 rfl (pc' := 5) rfl ?_
  refine g_aloadN X0 hx hby own_d2_5 rfl rfl (pc' := 6) rfl ?_
  refine g_arraylength (n := (2 : Int32)) X0 hx hby hZ A0 rfl own_d2_6 (pc' := 7) rfl ?_
  refine g_icmp_ge X0 hx hby own_d2_7 (by decide) (pc' := 137) (by decide) (pc2 := 10) rfl (fun q => absurd (by decide) q) (fun c7_6 => ?_)
  refine g_iloadN X0 hx hby own_d2_10 rfl (pc' := 11) rfl ?_
  refine g_if_eq X0 hx hby own_d2_11 (by decide) (pc' := 137) (by decide) (pc2 := 14) rfl (fun q => absurd q (by decide)) (fun c11_7 => ?_)
  refine g_aloadN X0 hx hby own_d2_14 rfl rfl (pc' := 15) rfl ?_
  refine g_iloadN X0 hx hby own_d2_15 rfl (pc' := 16) rfl ?_
  refine g_laload (i := 0) (v := (.long a1)) X0 hx hby hZ A0 rfl (by decide) rfl own_d2_16 (pc' := 17) rfl ?_
  refine g_lstore (L' := #[.val (.ref y0), .val (.ref y1), .val (.int (1 : Int32)), .val (.int (0 : Int32)), .val (.long a1), .second, .unset]) X0 hx hby own_d2_17 rfl (pc' := 19) rfl ?_
  refine g_iconst (v := 0) X0 hx hby own_d2_19 rfl (pc' := 20) rfl ?_
  refine g_istore (L' := #[.val (.ref y0), .val (.ref y1), .val (.int (1 : Int32)), .val (.int (0 : Int32)), .val (.long a1), .second, .val (.int (0 : Int32))]) X0 hx hby own_d2_20 rfl (pc' := 22) rfl ?_
  refine g_iload X0 hx hby own_d2_22 rfl (pc' := 24) rfl ?_
  refine g_aloadN X0 hx hby own_d2_24 rfl rfl (pc' := 25) rfl ?_
  refine g_arraylength (n := (2 : Int32)) X0 hx hby hZ A0 rfl own_d2_25 (pc' := 26) rfl ?_
  refine g_icmp_ge X0 hx hby own_d2_26 (by decide) (pc' := 131) (by decide) (pc2 := 29) rfl (fun q => absurd (by decide) q) (fun c26_8 => ?_)
  refine g_iloadN X0 hx hby own_d2_29 rfl (pc' := 30) rfl ?_
  refine g_if_eq X0 hx hby own_d2_30 (by decide) (pc' := 131) (by decide) (pc2 := 33) rfl (fun q => absurd q (by decide)) (fun c30_9 => ?_)
  refine g_aloadN X0 hx hby own_d2_33 rfl rfl (pc' := 34) rfl ?_
  refine g_iloadN X0 hx hby own_d2_34 rfl (pc' := 35) rfl ?_
  refine g_laload (i := 0) (v := (.long a1)) X0 hx hby hZ A0 rfl (by decide) rfl own_d2_35 (pc' := 36) rfl ?_
  refine g_aloadN X0 hx hby own_d2_36 rfl rfl (pc' := 37) rfl ?_
  refine g_iloadN X0 hx hby own_d2_37 rfl (pc' := 38) rfl ?_
  refine g_laload (i := 0) (v := (.long a2)) X0 hx hby hZ A1 rfl (by decide) rfl own_d2_38 (pc' := 39) rfl ?_
  refine g_lcmp_ne X0 hx hby own_d2_39 (pc1 := 40) rfl own_d2_40 (by decide) (pc' := 131) (by decide) (pc2 := 43) rfl (fun c39_10 => ?_) (fun c39_10 => ?_)
  · refine g_iinc (y := 1) (L' := #[.val (.ref y0), .val (.ref y1), .val (.int (1 : Int32)), .val (.int (1 : Int32)), .val (.long a1), .second, .val (.int (0 : Int32))]) X0 hx hby own_d2_131 rfl rfl rfl (pc' := 134) rfl ?_
    refine g_goto X0 hx hby own_d2_134 (by decide) (pc' := 4) (by decide) ?_
    refine g_iloadN X0 hx hby own_d2_4 rfl (pc' := 5) rfl ?_
    refine g_aloadN X0 hx hby own_d2_5 rfl rfl (pc' := 6) rfl ?_
    refine g_arraylength (n := (2 : Int32)) X0 hx hby hZ A0 rfl own_d2_6 (pc' := 7) rfl ?_
    refine g_icmp_ge X0 hx hby own_d2_7 (by decide) (pc' := 137) (by decide) (pc2 := 10) rfl (fun q => absurd (by decide) q) (fun c7_11 => ?_)
    refine g_iloadN X0 hx hby own_d2_10 rfl (pc' := 11) rfl ?_
    refine g_if_eq X0 hx hby own_d2_11 (by decide) (pc' := 137) (by decide) (pc2 := 14) rfl (fun q => absurd q (by decide)) (fun c11_12 => ?_)
    refine g_aloadN X0 hx hby own_d2_14 rfl rfl (pc' := 15) rfl ?_
    refine g_iloadN X0 hx hby own_d2_15 rfl (pc' := 16) rfl ?_
    refine g_laload (i := 1) (v := (.long b1)) X0 hx hby hZ A0 rfl (by decide) rfl own_d2_16 (pc' := 17) rfl ?_
    refine g_lstore (L' := #[.val (.ref y0), .val (.ref y1), .val (.int (1 : Int32)), .val (.int (1 : Int32)), .val (.long b1), .second, .val (.int (0 : Int32))]) X0 hx hby own_d2_17 rfl (pc' := 19) rfl ?_
    refine g_iconst (v := 0) X0 hx hby own_d2_19 rfl (pc' := 20) rfl ?_
    refine g_istore (L' := #[.val (.ref y0), .val (.ref y1), .val (.int (1 : Int32)), .val (.int (1 : Int32)), .val (.long b1), .second, .val (.int (0 : Int32))]) X0 hx hby own_d2_20 rfl (pc' := 22) rfl ?_
    refine g_iload X0 hx hby own_d2_22 rfl (pc' := 24) rfl ?_
    refine g_aloadN X0 hx hby own_d2_24 rfl rfl (pc' := 25) rfl ?_
    refine g_arraylength (n := (2 : Int32)) X0 hx hby hZ A0 rfl own_d2_25 (pc' := 26) rfl ?_
    refine g_icmp_ge X0 hx hby own_d2_26 (by decide) (pc' := 131) (by decide) (pc2 := 29) rfl (fun q => absurd (by decide) q) (fun c26_13 => ?_)
    refine g_iloadN X0 hx hby own_d2_29 rfl (pc' := 30) rfl ?_
    refine g_if_eq X0 hx hby own_d2_30 (by decide) (pc' := 131) (by decide) (pc2 := 33) rfl (fun q => absurd q (by decide)) (fun c30_14 => ?_)
    refine g_aloadN X0 hx hby own_d2_33 rfl rfl (pc' := 34) rfl ?_
    refine g_iloadN X0 hx hby own_d2_34 rfl (pc' := 35) rfl ?_
    refine g_laload (i := 1) (v := (.long b1)) X0 hx hby hZ A0 rfl (by decide) rfl own_d2_35 (pc' := 36) rfl ?_
    refine g_aloadN X0 hx hby own_d2_36 rfl rfl (pc' := 37) rfl ?_
    refine g_iloadN X0 hx hby own_d2_37 rfl (pc' := 38) rfl ?_
    refine g_laload (i := 1) (v := (.long b2)) X0 hx hby hZ A1 rfl (by decide) rfl own_d2_38 (pc' := 39) rfl ?_
    refine g_lcmp_ne X0 hx hby own_d2_39 (pc1 := 40) rfl own_d2_40 (by decide) (pc' := 131) (by decide) (pc2 := 43) rfl (fun c39_15 => ?_) (fun c39_15 => ?_)
    · refine g_iinc (y := 1) (L' := #[.val (.ref y0), .val (.ref y1), .val (.int (1 : Int32)), .val (.int (2 : Int32)), .val (.long b1), .second, .val (.int (0 : Int32))]) X0 hx hby own_d2_131 rfl rfl rfl (pc' := 134) rfl ?_
      refine g_goto X0 hx hby own_d2_134 (by decide) (pc' := 4) (by decide) ?_
      refine g_iloadN X0 hx hby own_d2_4 rfl (pc' := 5) rfl ?_
      refine g_aloadN X0 hx hby own_d2_5 rfl rfl (pc' := 6) rfl ?_
      refine g_arraylength (n := (2 : Int32)) X0 hx hby hZ A0 rfl own_d2_6 (pc' := 7) rfl ?_
      refine g_icmp_ge X0 hx hby own_d2_7 (by decide) (pc' := 137) (by decide) (pc2 := 10) rfl (fun c7_16 => ?_) (fun q => absurd q (by decide))
      refine g_iloadN X0 hx hby own_d2_137 rfl (pc' := 138) rfl ?_
      have := own_f c39_10
      have := own_f c39_15
      have r0_17 : (1 : Int32) = own_left a1 a2 b1 b2 := by unfold own_left; (repeat' split) <;> first | rfl | (exfalso; omega)
      have r1_17 : a1 = own_ea1 a1 a2 b1 b2 := by unfold own_ea1; (repeat' split) <;> first | rfl | (exfalso; omega)
      have r2_17 : b1 = own_eb1 a1 a2 b1 b2 := by unfold own_eb1; (repeat' split) <;> first | rfl | (exfalso; omega)
      have r3_17 : a2 = own_ea2 a1 a2 b1 b2 := by unfold own_ea2; (repeat' split) <;> first | rfl | (exfalso; omega)
      have r4_17 : b2 = own_eb2 a1 a2 b1 b2 := by unfold own_eb2; (repeat' split) <;> first | rfl | (exfalso; omega)
      exact g_retN X0 hx hby hret hlk (by simp) own_d2_138 ⟨congrArg (fun z => some (Value.int z)) r0_17, (Keep.refl h0 [y0, y1]), A0.congr (own_cg r1_17 r2_17), A1.congr (own_cg r3_17 r4_17)⟩ (by decide) (by decide)
    · refine g_iload X0 hx hby own_d2_43 rfl (pc' := 45) rfl ?_
      refine g_iloadN X0 hx hby own_d2_45 rfl (pc' := 46) rfl ?_
      refine g_icmp_eq X0 hx hby own_d2_46 (by decide) (pc' := 74) (by decide) (pc2 := 49) rfl (fun q => absurd q (by decide)) (fun c46_18 => ?_)
      refine g_aloadN X0 hx hby own_d2_49 rfl rfl (pc' := 50) rfl ?_
      refine g_iload X0 hx hby own_d2_50 rfl (pc' := 52) rfl ?_
      refine g_laload (i := 0) (v := (.long a1)) X0 hx hby hZ A0 rfl (by decide) rfl own_d2_52 (pc' := 53) rfl ?_
      refine g_lload X0 hx hby own_d2_53 rfl (pc' := 55) rfl ?_
      refine g_lcmp_ne X0 hx hby own_d2_55 (pc1 := 56) rfl own_d2_56 (by decide) (pc' := 74) (by decide) (pc2 := 59) rfl (fun c55_19 => ?_) (fun c55_19 => ?_)
      · refine g_iload X0 hx hby own_d2_74 rfl (pc' := 76) rfl ?_
        refine g_iloadN X0 hx hby own_d2_76 rfl (pc' := 77) rfl ?_
        refine g_icmp_eq X0 hx hby own_d2_77 (by decide) (pc' := 101) (by decide) (pc2 := 80) rfl (fun q => absurd q (by decide)) (fun c77_20 => ?_)
        refine g_aloadN X0 hx hby own_d2_80 rfl rfl (pc' := 81) rfl ?_
        refine g_iload X0 hx hby own_d2_81 rfl (pc' := 83) rfl ?_
        refine g_laload (i := 0) (v := (.long a1)) X0 hx hby hZ A0 rfl (by decide) rfl own_d2_83 (pc' := 84) rfl ?_
        refine g_lload X0 hx hby own_d2_84 rfl (pc' := 86) rfl ?_
        refine g_lcmp_ne X0 hx hby own_d2_86 (pc1 := 87) rfl own_d2_87 (by decide) (pc' := 101) (by decide) (pc2 := 90) rfl (fun c86_21 => ?_) (fun q => absurd q c55_19)
        refine g_iload X0 hx hby own_d2_101 rfl (pc' := 103) rfl ?_
        refine g_iloadN X0 hx hby own_d2_103 rfl (pc' := 104) rfl ?_
        refine g_icmp_eq X0 hx hby own_d2_104 (by decide) (pc' := 125) (by decide) (pc2 := 107) rfl (fun q => absurd q (by decide)) (fun c104_22 => ?_)
        refine g_aloadN X0 hx hby own_d2_107 rfl rfl (pc' := 108) rfl ?_
        refine g_iload X0 hx hby own_d2_108 rfl (pc' := 110) rfl ?_
        refine g_laload (i := 0) (v := (.long a2)) X0 hx hby hZ A1 rfl (by decide) rfl own_d2_110 (pc' := 111) rfl ?_
        refine g_lload X0 hx hby own_d2_111 rfl (pc' := 113) rfl ?_
        refine g_lcmp_ne X0 hx hby own_d2_113 (pc1 := 114) rfl own_d2_114 (by decide) (pc' := 125) (by decide) (pc2 := 117) rfl (fun c113_23 => ?_) (fun c113_23 => ?_)
        · refine g_iinc (y := 1) (L' := #[.val (.ref y0), .val (.ref y1), .val (.int (1 : Int32)), .val (.int (1 : Int32)), .val (.long b1), .second, .val (.int (1 : Int32))]) X0 hx hby own_d2_125 rfl rfl rfl (pc' := 128) rfl ?_
          refine g_goto X0 hx hby own_d2_128 (by decide) (pc' := 22) (by decide) ?_
          refine g_iload X0 hx hby own_d2_22 rfl (pc' := 24) rfl ?_
          refine g_aloadN X0 hx hby own_d2_24 rfl rfl (pc' := 25) rfl ?_
          refine g_arraylength (n := (2 : Int32)) X0 hx hby hZ A0 rfl own_d2_25 (pc' := 26) rfl ?_
          refine g_icmp_ge X0 hx hby own_d2_26 (by decide) (pc' := 131) (by decide) (pc2 := 29) rfl (fun q => absurd (by decide) q) (fun c26_24 => ?_)
          refine g_iloadN X0 hx hby own_d2_29 rfl (pc' := 30) rfl ?_
          refine g_if_eq X0 hx hby own_d2_30 (by decide) (pc' := 131) (by decide) (pc2 := 33) rfl (fun q => absurd q (by decide)) (fun c30_25 => ?_)
          refine g_aloadN X0 hx hby own_d2_33 rfl rfl (pc' := 34) rfl ?_
          refine g_iloadN X0 hx hby own_d2_34 rfl (pc' := 35) rfl ?_
          refine g_laload (i := 1) (v := (.long b1)) X0 hx hby hZ A0 rfl (by decide) rfl own_d2_35 (pc' := 36) rfl ?_
          refine g_aloadN X0 hx hby own_d2_36 rfl rfl (pc' := 37) rfl ?_
          refine g_iloadN X0 hx hby own_d2_37 rfl (pc' := 38) rfl ?_
          refine g_laload (i := 1) (v := (.long b2)) X0 hx hby hZ A1 rfl (by decide) rfl own_d2_38 (pc' := 39) rfl ?_
          refine g_lcmp_ne X0 hx hby own_d2_39 (pc1 := 40) rfl own_d2_40 (by decide) (pc' := 131) (by decide) (pc2 := 43) rfl (fun q => absurd c39_15 q) (fun c39_26 => ?_)
          refine g_iload X0 hx hby own_d2_43 rfl (pc' := 45) rfl ?_
          refine g_iloadN X0 hx hby own_d2_45 rfl (pc' := 46) rfl ?_
          refine g_icmp_eq X0 hx hby own_d2_46 (by decide) (pc' := 74) (by decide) (pc2 := 49) rfl (fun c46_27 => ?_) (fun q => absurd (by decide) q)
          refine g_iload X0 hx hby own_d2_74 rfl (pc' := 76) rfl ?_
          refine g_iloadN X0 hx hby own_d2_76 rfl (pc' := 77) rfl ?_
          refine g_icmp_eq X0 hx hby own_d2_77 (by decide) (pc' := 101) (by decide) (pc2 := 80) rfl (fun c77_28 => ?_) (fun q => absurd (by decide) q)
          refine g_iload X0 hx hby own_d2_101 rfl (pc' := 103) rfl ?_
          refine g_iloadN X0 hx hby own_d2_103 rfl (pc' := 104) rfl ?_
          refine g_icmp_eq X0 hx hby own_d2_104 (by decide) (pc' := 125) (by decide) (pc2 := 107) rfl (fun c104_29 => ?_) (fun q => absurd (by decide) q)
          refine g_iinc (y := 1) (L' := #[.val (.ref y0), .val (.ref y1), .val (.int (1 : Int32)), .val (.int (1 : Int32)), .val (.long b1), .second, .val (.int (2 : Int32))]) X0 hx hby own_d2_125 rfl rfl rfl (pc' := 128) rfl ?_
          refine g_goto X0 hx hby own_d2_128 (by decide) (pc' := 22) (by decide) ?_
          refine g_iload X0 hx hby own_d2_22 rfl (pc' := 24) rfl ?_
          refine g_aloadN X0 hx hby own_d2_24 rfl rfl (pc' := 25) rfl ?_
          refine g_arraylength (n := (2 : Int32)) X0 hx hby hZ A0 rfl own_d2_25 (pc' := 26) rfl ?_
          refine g_icmp_ge X0 hx hby own_d2_26 (by decide) (pc' := 131) (by decide) (pc2 := 29) rfl (fun c26_30 => ?_) (fun q => absurd q (by decide))
          refine g_iinc (y := 1) (L' := #[.val (.ref y0), .val (.ref y1), .val (.int (1 : Int32)), .val (.int (2 : Int32)), .val (.long b1), .second, .val (.int (2 : Int32))]) X0 hx hby own_d2_131 rfl rfl rfl (pc' := 134) rfl ?_
          refine g_goto X0 hx hby own_d2_134 (by decide) (pc' := 4) (by decide) ?_
          refine g_iloadN X0 hx hby own_d2_4 rfl (pc' := 5) rfl ?_
          refine g_aloadN X0 hx hby own_d2_5 rfl rfl (pc' := 6) rfl ?_
          refine g_arraylength (n := (2 : Int32)) X0 hx hby hZ A0 rfl own_d2_6 (pc' := 7) rfl ?_
          refine g_icmp_ge X0 hx hby own_d2_7 (by decide) (pc' := 137) (by decide) (pc2 := 10) rfl (fun c7_31 => ?_) (fun q => absurd q (by decide))
          refine g_iloadN X0 hx hby own_d2_137 rfl (pc' := 138) rfl ?_
          have := own_f c39_10
          have := own_t c39_15
          have := own_f c55_19
          have := own_f c86_21
          have := own_f c113_23
          have := own_t c39_26
          have r0_32 : (1 : Int32) = own_left a1 a2 b1 b2 := by unfold own_left; (repeat' split) <;> first | rfl | (exfalso; omega)
          have r1_32 : a1 = own_ea1 a1 a2 b1 b2 := by unfold own_ea1; (repeat' split) <;> first | rfl | (exfalso; omega)
          have r2_32 : b1 = own_eb1 a1 a2 b1 b2 := by unfold own_eb1; (repeat' split) <;> first | rfl | (exfalso; omega)
          have r3_32 : a2 = own_ea2 a1 a2 b1 b2 := by unfold own_ea2; (repeat' split) <;> first | rfl | (exfalso; omega)
          have r4_32 : b2 = own_eb2 a1 a2 b1 b2 := by unfold own_eb2; (repeat' split) <;> first | rfl | (exfalso; omega)
          exact g_retN X0 hx hby hret hlk (by simp) own_d2_138 ⟨congrArg (fun z => some (Value.int z)) r0_32, (Keep.refl h0 [y0, y1]), A0.congr (own_cg r1_32 r2_32), A1.congr (own_cg r3_32 r4_32)⟩ (by decide) (by decide)
        · refine g_aloadN X0 hx hby own_d2_117 rfl rfl (pc' := 118) rfl ?_
          refine g_iload X0 hx hby own_d2_118 rfl (pc' := 120) rfl ?_
          refine g_lload X0 hx hby own_d2_120 rfl (pc' := 122) rfl ?_
          refine g_lconst (v := 1) X0 hx hby own_d2_122 rfl (pc' := 123) rfl ?_
          refine g_lsub X0 hx hby own_d2_123 (pc' := 124) rfl ?_
          refine g_lastore (i := 0) X0 hx hby hZ A1 rfl (by decide) g1 own_d2_124 (pc' := 125) rfl (fun T33 h33 sl33 X33 W33 A33 => ?_)
          have q34 := A0.other W33 hne
          have zz35 := Nat.le_trans Z0 (Nat.le_of_eq W33.size.symm)
          have kk36 : Keep h0 h33 [y0, y1] := (Keep.refl h0 [y0, y1]).wr W33 (Or.inl (by simp))
          refine g_iinc (y := 1) (L' := #[.val (.ref y0), .val (.ref y1), .val (.int (1 : Int32)), .val (.int (1 : Int32)), .val (.long b1), .second, .val (.int (1 : Int32))]) X33 hx hby own_d2_125 rfl rfl rfl (pc' := 128) rfl ?_
          refine g_goto X33 hx hby own_d2_128 (by decide) (pc' := 22) (by decide) ?_
          refine g_iload X33 hx hby own_d2_22 rfl (pc' := 24) rfl ?_
          refine g_aloadN X33 hx hby own_d2_24 rfl rfl (pc' := 25) rfl ?_
          refine g_arraylength (n := (2 : Int32)) X33 hx hby hZ q34 rfl own_d2_25 (pc' := 26) rfl ?_
          refine g_icmp_ge X33 hx hby own_d2_26 (by decide) (pc' := 131) (by decide) (pc2 := 29) rfl (fun q => absurd (by decide) q) (fun c26_37 => ?_)
          refine g_iloadN X33 hx hby own_d2_29 rfl (pc' := 30) rfl ?_
          refine g_if_eq X33 hx hby own_d2_30 (by decide) (pc' := 131) (by decide) (pc2 := 33) rfl (fun q => absurd q (by decide)) (fun c30_38 => ?_)
          refine g_aloadN X33 hx hby own_d2_33 rfl rfl (pc' := 34) rfl ?_
          refine g_iloadN X33 hx hby own_d2_34 rfl (pc' := 35) rfl ?_
          refine g_laload (i := 1) (v := (.long b1)) X33 hx hby hZ q34 rfl (by decide) rfl own_d2_35 (pc' := 36) rfl ?_
          refine g_aloadN X33 hx hby own_d2_36 rfl rfl (pc' := 37) rfl ?_
          refine g_iloadN X33 hx hby own_d2_37 rfl (pc' := 38) rfl ?_
          refine g_laload (i := 1) (v := (.long b2)) X33 hx hby hZ A33 rfl (by decide) rfl own_d2_38 (pc' := 39) rfl ?_
          refine g_lcmp_ne X33 hx hby own_d2_39 (pc1 := 40) rfl own_d2_40 (by decide) (pc' := 131) (by decide) (pc2 := 43) rfl (fun q => absurd c39_15 q) (fun c39_39 => ?_)
          refine g_iload X33 hx hby own_d2_43 rfl (pc' := 45) rfl ?_
          refine g_iloadN X33 hx hby own_d2_45 rfl (pc' := 46) rfl ?_
          refine g_icmp_eq X33 hx hby own_d2_46 (by decide) (pc' := 74) (by decide) (pc2 := 49) rfl (fun c46_40 => ?_) (fun q => absurd (by decide) q)
          refine g_iload X33 hx hby own_d2_74 rfl (pc' := 76) rfl ?_
          refine g_iloadN X33 hx hby own_d2_76 rfl (pc' := 77) rfl ?_
          refine g_icmp_eq X33 hx hby own_d2_77 (by decide) (pc' := 101) (by decide) (pc2 := 80) rfl (fun c77_41 => ?_) (fun q => absurd (by decide) q)
          refine g_iload X33 hx hby own_d2_101 rfl (pc' := 103) rfl ?_
          refine g_iloadN X33 hx hby own_d2_103 rfl (pc' := 104) rfl ?_
          refine g_icmp_eq X33 hx hby own_d2_104 (by decide) (pc' := 125) (by decide) (pc2 := 107) rfl (fun c104_42 => ?_) (fun q => absurd (by decide) q)
          refine g_iinc (y := 1) (L' := #[.val (.ref y0), .val (.ref y1), .val (.int (1 : Int32)), .val (.int (1 : Int32)), .val (.long b1), .second, .val (.int (2 : Int32))]) X33 hx hby own_d2_125 rfl rfl rfl (pc' := 128) rfl ?_
          refine g_goto X33 hx hby own_d2_128 (by decide) (pc' := 22) (by decide) ?_
          refine g_iload X33 hx hby own_d2_22 rfl (pc' := 24) rfl ?_
          refine g_aloadN X33 hx hby own_d2_24 rfl rfl (pc' := 25) rfl ?_
          refine g_arraylength (n := (2 : Int32)) X33 hx hby hZ q34 rfl own_d2_25 (pc' := 26) rfl ?_
          refine g_icmp_ge X33 hx hby own_d2_26 (by decide) (pc' := 131) (by decide) (pc2 := 29) rfl (fun c26_43 => ?_) (fun q => absurd q (by decide))
          refine g_iinc (y := 1) (L' := #[.val (.ref y0), .val (.ref y1), .val (.int (1 : Int32)), .val (.int (2 : Int32)), .val (.long b1), .second, .val (.int (2 : Int32))]) X33 hx hby own_d2_131 rfl rfl rfl (pc' := 134) rfl ?_
          refine g_goto X33 hx hby own_d2_134 (by decide) (pc' := 4) (by decide) ?_
          refine g_iloadN X33 hx hby own_d2_4 rfl (pc' := 5) rfl ?_
          refine g_aloadN X33 hx hby own_d2_5 rfl rfl (pc' := 6) rfl ?_
          refine g_arraylength (n := (2 : Int32)) X33 hx hby hZ q34 rfl own_d2_6 (pc' := 7) rfl ?_
          refine g_icmp_ge X33 hx hby own_d2_7 (by decide) (pc' := 137) (by decide) (pc2 := 10) rfl (fun c7_44 => ?_) (fun q => absurd q (by decide))
          refine g_iloadN X33 hx hby own_d2_137 rfl (pc' := 138) rfl ?_
          have := own_f c39_10
          have := own_t c39_15
          have := own_f c55_19
          have := own_f c86_21
          have := own_t c113_23
          have := own_t c39_39
          have r0_45 : (1 : Int32) = own_left a1 a2 b1 b2 := by unfold own_left; (repeat' split) <;> first | rfl | (exfalso; omega)
          have r1_45 : a1 = own_ea1 a1 a2 b1 b2 := by unfold own_ea1; (repeat' split) <;> first | rfl | (exfalso; omega)
          have r2_45 : b1 = own_eb1 a1 a2 b1 b2 := by unfold own_eb1; (repeat' split) <;> first | rfl | (exfalso; omega)
          have r3_45 : (b1 - (1 : Int64)) = own_ea2 a1 a2 b1 b2 := by unfold own_ea2; (repeat' split) <;> first | rfl | (exfalso; omega)
          have r4_45 : b2 = own_eb2 a1 a2 b1 b2 := by unfold own_eb2; (repeat' split) <;> first | rfl | (exfalso; omega)
          exact g_retN X33 hx hby hret hlk (by simp) own_d2_138 ⟨congrArg (fun z => some (Value.int z)) r0_45, kk36, q34.congr (own_cg r1_45 r2_45), A33.congr (own_cg r3_45 r4_45)⟩ (by decide) (by decide)
      · refine g_aloadN X0 hx hby own_d2_59 rfl rfl (pc' := 60) rfl ?_
        refine g_iload X0 hx hby own_d2_60 rfl (pc' := 62) rfl ?_
        refine g_laload (i := 0) (v := (.long a2)) X0 hx hby hZ A1 rfl (by decide) rfl own_d2_62 (pc' := 63) rfl ?_
        refine g_lload X0 hx hby own_d2_63 rfl (pc' := 65) rfl ?_
        refine g_lcmp_ne X0 hx hby own_d2_65 (pc1 := 66) rfl own_d2_66 (by decide) (pc' := 74) (by decide) (pc2 := 69) rfl (fun c65_46 => ?_) (fun c65_46 => ?_)
        · refine g_iload X0 hx hby own_d2_74 rfl (pc' := 76) rfl ?_
          refine g_iloadN X0 hx hby own_d2_76 rfl (pc' := 77) rfl ?_
          refine g_icmp_eq X0 hx hby own_d2_77 (by decide) (pc' := 101) (by decide) (pc2 := 80) rfl (fun q => absurd q (by decide)) (fun c77_47 => ?_)
          refine g_aloadN X0 hx hby own_d2_80 rfl rfl (pc' := 81) rfl ?_
          refine g_iload X0 hx hby own_d2_81 rfl (pc' := 83) rfl ?_
          refine g_laload (i := 0) (v := (.long a1)) X0 hx hby hZ A0 rfl (by decide) rfl own_d2_83 (pc' := 84) rfl ?_
          refine g_lload X0 hx hby own_d2_84 rfl (pc' := 86) rfl ?_
          refine g_lcmp_ne X0 hx hby own_d2_86 (pc1 := 87) rfl own_d2_87 (by decide) (pc' := 101) (by decide) (pc2 := 90) rfl (fun q => absurd c55_19 q) (fun c86_48 => ?_)
          refine g_aloadN X0 hx hby own_d2_90 rfl rfl (pc' := 91) rfl ?_
          refine g_iload X0 hx hby own_d2_91 rfl (pc' := 93) rfl ?_
          refine g_lload X0 hx hby own_d2_93 rfl (pc' := 95) rfl ?_
          refine g_lconst (v := 1) X0 hx hby own_d2_95 rfl (pc' := 96) rfl ?_
          refine g_ladd X0 hx hby own_d2_96 (pc' := 97) rfl ?_
          refine g_lastore (i := 0) X0 hx hby hZ A0 rfl (by decide) g0 own_d2_97 (pc' := 98) rfl (fun T49 h49 sl49 X49 W49 A49 => ?_)
          have q50 := A1.other W49 (Ne.symm hne)
          have zz51 := Nat.le_trans Z0 (Nat.le_of_eq W49.size.symm)
          have kk52 : Keep h0 h49 [y0, y1] := (Keep.refl h0 [y0, y1]).wr W49 (Or.inl (by simp))
          refine g_goto X49 hx hby own_d2_98 (by decide) (pc' := 125) (by decide) ?_
          refine g_iinc (y := 1) (L' := #[.val (.ref y0), .val (.ref y1), .val (.int (1 : Int32)), .val (.int (1 : Int32)), .val (.long b1), .second, .val (.int (1 : Int32))]) X49 hx hby own_d2_125 rfl rfl rfl (pc' := 128) rfl ?_
          refine g_goto X49 hx hby own_d2_128 (by decide) (pc' := 22) (by decide) ?_
          refine g_iload X49 hx hby own_d2_22 rfl (pc' := 24) rfl ?_
          refine g_aloadN X49 hx hby own_d2_24 rfl rfl (pc' := 25) rfl ?_
          refine g_arraylength (n := (2 : Int32)) X49 hx hby hZ A49 rfl own_d2_25 (pc' := 26) rfl ?_
          refine g_icmp_ge X49 hx hby own_d2_26 (by decide) (pc' := 131) (by decide) (pc2 := 29) rfl (fun q => absurd (by decide) q) (fun c26_53 => ?_)
          refine g_iloadN X49 hx hby own_d2_29 rfl (pc' := 30) rfl ?_
          refine g_if_eq X49 hx hby own_d2_30 (by decide) (pc' := 131) (by decide) (pc2 := 33) rfl (fun q => absurd q (by decide)) (fun c30_54 => ?_)
          refine g_aloadN X49 hx hby own_d2_33 rfl rfl (pc' := 34) rfl ?_
          refine g_iloadN X49 hx hby own_d2_34 rfl (pc' := 35) rfl ?_
          refine g_laload (i := 1) (v := (.long b1)) X49 hx hby hZ A49 rfl (by decide) rfl own_d2_35 (pc' := 36) rfl ?_
          refine g_aloadN X49 hx hby own_d2_36 rfl rfl (pc' := 37) rfl ?_
          refine g_iloadN X49 hx hby own_d2_37 rfl (pc' := 38) rfl ?_
          refine g_laload (i := 1) (v := (.long b2)) X49 hx hby hZ q50 rfl (by decide) rfl own_d2_38 (pc' := 39) rfl ?_
          refine g_lcmp_ne X49 hx hby own_d2_39 (pc1 := 40) rfl own_d2_40 (by decide) (pc' := 131) (by decide) (pc2 := 43) rfl (fun q => absurd c39_15 q) (fun c39_55 => ?_)
          refine g_iload X49 hx hby own_d2_43 rfl (pc' := 45) rfl ?_
          refine g_iloadN X49 hx hby own_d2_45 rfl (pc' := 46) rfl ?_
          refine g_icmp_eq X49 hx hby own_d2_46 (by decide) (pc' := 74) (by decide) (pc2 := 49) rfl (fun c46_56 => ?_) (fun q => absurd (by decide) q)
          refine g_iload X49 hx hby own_d2_74 rfl (pc' := 76) rfl ?_
          refine g_iloadN X49 hx hby own_d2_76 rfl (pc' := 77) rfl ?_
          refine g_icmp_eq X49 hx hby own_d2_77 (by decide) (pc' := 101) (by decide) (pc2 := 80) rfl (fun c77_57 => ?_) (fun q => absurd (by decide) q)
          refine g_iload X49 hx hby own_d2_101 rfl (pc' := 103) rfl ?_
          refine g_iloadN X49 hx hby own_d2_103 rfl (pc' := 104) rfl ?_
          refine g_icmp_eq X49 hx hby own_d2_104 (by decide) (pc' := 125) (by decide) (pc2 := 107) rfl (fun c104_58 => ?_) (fun q => absurd (by decide) q)
          refine g_iinc (y := 1) (L' := #[.val (.ref y0), .val (.ref y1), .val (.int (1 : Int32)), .val (.int (1 : Int32)), .val (.long b1), .second, .val (.int (2 : Int32))]) X49 hx hby own_d2_125 rfl rfl rfl (pc' := 128) rfl ?_
          refine g_goto X49 hx hby own_d2_128 (by decide) (pc' := 22) (by decide) ?_
          refine g_iload X49 hx hby own_d2_22 rfl (pc' := 24) rfl ?_
          refine g_aloadN X49 hx hby own_d2_24 rfl rfl (pc' := 25) rfl ?_
          refine g_arraylength (n := (2 : Int32)) X49 hx hby hZ A49 rfl own_d2_25 (pc' := 26) rfl ?_
          refine g_icmp_ge X49 hx hby own_d2_26 (by decide) (pc' := 131) (by decide) (pc2 := 29) rfl (fun c26_59 => ?_) (fun q => absurd q (by decide))
          refine g_iinc (y := 1) (L' := #[.val (.ref y0), .val (.ref y1), .val (.int (1 : Int32)), .val (.int (2 : Int32)), .val (.long b1), .second, .val (.int (2 : Int32))]) X49 hx hby own_d2_131 rfl rfl rfl (pc' := 134) rfl ?_
          refine g_goto X49 hx hby own_d2_134 (by decide) (pc' := 4) (by decide) ?_
          refine g_iloadN X49 hx hby own_d2_4 rfl (pc' := 5) rfl ?_
          refine g_aloadN X49 hx hby own_d2_5 rfl rfl (pc' := 6) rfl ?_
          refine g_arraylength (n := (2 : Int32)) X49 hx hby hZ A49 rfl own_d2_6 (pc' := 7) rfl ?_
          refine g_icmp_ge X49 hx hby own_d2_7 (by decide) (pc' := 137) (by decide) (pc2 := 10) rfl (fun c7_60 => ?_) (fun q => absurd q (by decide))
          refine g_iloadN X49 hx hby own_d2_137 rfl (pc' := 138) rfl ?_
          have := own_f c39_10
          have := own_t c39_15
          have := own_t c55_19
          have := own_f c65_46
          have := own_t c86_48
          have := own_t c39_55
          have r0_61 : (1 : Int32) = own_left a1 a2 b1 b2 := by unfold own_left; (repeat' split) <;> first | rfl | (exfalso; omega)
          have r1_61 : (b1 + (1 : Int64)) = own_ea1 a1 a2 b1 b2 := by unfold own_ea1; (repeat' split) <;> first | rfl | (exfalso; omega)
          have r2_61 : b1 = own_eb1 a1 a2 b1 b2 := by unfold own_eb1; (repeat' split) <;> first | rfl | (exfalso; omega)
          have r3_61 : a2 = own_ea2 a1 a2 b1 b2 := by unfold own_ea2; (repeat' split) <;> first | rfl | (exfalso; omega)
          have r4_61 : b2 = own_eb2 a1 a2 b1 b2 := by unfold own_eb2; (repeat' split) <;> first | rfl | (exfalso; omega)
          exact g_retN X49 hx hby hret hlk (by simp) own_d2_138 ⟨congrArg (fun z => some (Value.int z)) r0_61, kk52, A49.congr (own_cg r1_61 r2_61), q50.congr (own_cg r3_61 r4_61)⟩ (by decide) (by decide)
        · refine g_iconst (v := 0) X0 hx hby own_d2_69 rfl (pc' := 70) rfl ?_
          refine g_istoreN (L' := #[.val (.ref y0), .val (.ref y1), .val (.int (0 : Int32)), .val (.int (1 : Int32)), .val (.long b1), .second, .val (.int (0 : Int32))]) X0 hx hby own_d2_70 rfl (pc' := 71) rfl ?_
          refine g_goto X0 hx hby own_d2_71 (by decide) (pc' := 125) (by decide) ?_
          refine g_iinc (y := 1) (L' := #[.val (.ref y0), .val (.ref y1), .val (.int (0 : Int32)), .val (.int (1 : Int32)), .val (.long b1), .second, .val (.int (1 : Int32))]) X0 hx hby own_d2_125 rfl rfl rfl (pc' := 128) rfl ?_
          refine g_goto X0 hx hby own_d2_128 (by decide) (pc' := 22) (by decide) ?_
          refine g_iload X0 hx hby own_d2_22 rfl (pc' := 24) rfl ?_
          refine g_aloadN X0 hx hby own_d2_24 rfl rfl (pc' := 25) rfl ?_
          refine g_arraylength (n := (2 : Int32)) X0 hx hby hZ A0 rfl own_d2_25 (pc' := 26) rfl ?_
          refine g_icmp_ge X0 hx hby own_d2_26 (by decide) (pc' := 131) (by decide) (pc2 := 29) rfl (fun q => absurd (by decide) q) (fun c26_62 => ?_)
          refine g_iloadN X0 hx hby own_d2_29 rfl (pc' := 30) rfl ?_
          refine g_if_eq X0 hx hby own_d2_30 (by decide) (pc' := 131) (by decide) (pc2 := 33) rfl (fun c30_63 => ?_) (fun q => absurd (by decide) q)
          refine g_iinc (y := 1) (L' := #[.val (.ref y0), .val (.ref y1), .val (.int (0 : Int32)), .val (.int (2 : Int32)), .val (.long b1), .second, .val (.int (1 : Int32))]) X0 hx hby own_d2_131 rfl rfl rfl (pc' := 134) rfl ?_
          refine g_goto X0 hx hby own_d2_134 (by decide) (pc' := 4) (by decide) ?_
          refine g_iloadN X0 hx hby own_d2_4 rfl (pc' := 5) rfl ?_
          refine g_aloadN X0 hx hby own_d2_5 rfl rfl (pc' := 6) rfl ?_
          refine g_arraylength (n := (2 : Int32)) X0 hx hby hZ A0 rfl own_d2_6 (pc' := 7) rfl ?_
          refine g_icmp_ge X0 hx hby own_d2_7 (by decide) (pc' := 137) (by decide) (pc2 := 10) rfl (fun c7_64 => ?_) (fun q => absurd q (by decide))
          refine g_iloadN X0 hx hby own_d2_137 rfl (pc' := 138) rfl ?_
          have := own_f c39_10
          have := own_t c39_15
          have := own_t c55_19
          have := own_t c65_46
          have r0_65 : (0 : Int32) = own_left a1 a2 b1 b2 := by unfold own_left; (repeat' split) <;> first | rfl | (exfalso; omega)
          have r1_65 : a1 = own_ea1 a1 a2 b1 b2 := by unfold own_ea1; (repeat' split) <;> first | rfl | (exfalso; omega)
          have r2_65 : b1 = own_eb1 a1 a2 b1 b2 := by unfold own_eb1; (repeat' split) <;> first | rfl | (exfalso; omega)
          have r3_65 : a2 = own_ea2 a1 a2 b1 b2 := by unfold own_ea2; (repeat' split) <;> first | rfl | (exfalso; omega)
          have r4_65 : b2 = own_eb2 a1 a2 b1 b2 := by unfold own_eb2; (repeat' split) <;> first | rfl | (exfalso; omega)
          exact g_retN X0 hx hby hret hlk (by simp) own_d2_138 ⟨congrArg (fun z => some (Value.int z)) r0_65, (Keep.refl h0 [y0, y1]), A0.congr (own_cg r1_65 r2_65), A1.congr (own_cg r3_65 r4_65)⟩ (by decide) (by decide)
  · refine g_iload X0 hx hby own_d2_43 rfl (pc' := 45) rfl ?_
    refine g_iloadN X0 hx hby own_d2_45 rfl (pc' := 46) rfl ?_
    refine g_icmp_eq X0 hx hby own_d2_46 (by decide) (pc' := 74) (by decide) (pc2 := 49) rfl (fun c46_66 => ?_) (fun q => absurd (by decide) q)
    refine g_iload X0 hx hby own_d2_74 rfl (pc' := 76) rfl ?_
    refine g_iloadN X0 hx hby own_d2_76 rfl (pc' := 77) rfl ?_
    refine g_icmp_eq X0 hx hby own_d2_77 (by decide) (pc' := 101) (by decide) (pc2 := 80) rfl (fun c77_67 => ?_) (fun q => absurd (by decide) q)
    refine g_iload X0 hx hby own_d2_101 rfl (pc' := 103) rfl ?_
    refine g_iloadN X0 hx hby own_d2_103 rfl (pc' := 104) rfl ?_
    refine g_icmp_eq X0 hx hby own_d2_104 (by decide) (pc' := 125) (by decide) (pc2 := 107) rfl (fun c104_68 => ?_) (fun q => absurd (by decide) q)
    refine g_iinc (y := 1) (L' := #[.val (.ref y0), .val (.ref y1), .val (.int (1 : Int32)), .val (.int (0 : Int32)), .val (.long a1), .second, .val (.int (1 : Int32))]) X0 hx hby own_d2_125 rfl rfl rfl (pc' := 128) rfl ?_
    refine g_goto X0 hx hby own_d2_128 (by decide) (pc' := 22) (by decide) ?_
    refine g_iload X0 hx hby own_d2_22 rfl (pc' := 24) rfl ?_
    refine g_aloadN X0 hx hby own_d2_24 rfl rfl (pc' := 25) rfl ?_
    refine g_arraylength (n := (2 : Int32)) X0 hx hby hZ A0 rfl own_d2_25 (pc' := 26) rfl ?_
    refine g_icmp_ge X0 hx hby own_d2_26 (by decide) (pc' := 131) (by decide) (pc2 := 29) rfl (fun q => absurd (by decide) q) (fun c26_69 => ?_)
    refine g_iloadN X0 hx hby own_d2_29 rfl (pc' := 30) rfl ?_
    refine g_if_eq X0 hx hby own_d2_30 (by decide) (pc' := 131) (by decide) (pc2 := 33) rfl (fun q => absurd q (by decide)) (fun c30_70 => ?_)
    refine g_aloadN X0 hx hby own_d2_33 rfl rfl (pc' := 34) rfl ?_
    refine g_iloadN X0 hx hby own_d2_34 rfl (pc' := 35) rfl ?_
    refine g_laload (i := 0) (v := (.long a1)) X0 hx hby hZ A0 rfl (by decide) rfl own_d2_35 (pc' := 36) rfl ?_
    refine g_aloadN X0 hx hby own_d2_36 rfl rfl (pc' := 37) rfl ?_
    refine g_iloadN X0 hx hby own_d2_37 rfl (pc' := 38) rfl ?_
    refine g_laload (i := 0) (v := (.long a2)) X0 hx hby hZ A1 rfl (by decide) rfl own_d2_38 (pc' := 39) rfl ?_
    refine g_lcmp_ne X0 hx hby own_d2_39 (pc1 := 40) rfl own_d2_40 (by decide) (pc' := 131) (by decide) (pc2 := 43) rfl (fun q => absurd c39_10 q) (fun c39_71 => ?_)
    refine g_iload X0 hx hby own_d2_43 rfl (pc' := 45) rfl ?_
    refine g_iloadN X0 hx hby own_d2_45 rfl (pc' := 46) rfl ?_
    refine g_icmp_eq X0 hx hby own_d2_46 (by decide) (pc' := 74) (by decide) (pc2 := 49) rfl (fun q => absurd q (by decide)) (fun c46_72 => ?_)
    refine g_aloadN X0 hx hby own_d2_49 rfl rfl (pc' := 50) rfl ?_
    refine g_iload X0 hx hby own_d2_50 rfl (pc' := 52) rfl ?_
    refine g_laload (i := 1) (v := (.long b1)) X0 hx hby hZ A0 rfl (by decide) rfl own_d2_52 (pc' := 53) rfl ?_
    refine g_lload X0 hx hby own_d2_53 rfl (pc' := 55) rfl ?_
    refine g_lcmp_ne X0 hx hby own_d2_55 (pc1 := 56) rfl own_d2_56 (by decide) (pc' := 74) (by decide) (pc2 := 59) rfl (fun c55_73 => ?_) (fun c55_73 => ?_)
    · refine g_iload X0 hx hby own_d2_74 rfl (pc' := 76) rfl ?_
      refine g_iloadN X0 hx hby own_d2_76 rfl (pc' := 77) rfl ?_
      refine g_icmp_eq X0 hx hby own_d2_77 (by decide) (pc' := 101) (by decide) (pc2 := 80) rfl (fun q => absurd q (by decide)) (fun c77_74 => ?_)
      refine g_aloadN X0 hx hby own_d2_80 rfl rfl (pc' := 81) rfl ?_
      refine g_iload X0 hx hby own_d2_81 rfl (pc' := 83) rfl ?_
      refine g_laload (i := 1) (v := (.long b1)) X0 hx hby hZ A0 rfl (by decide) rfl own_d2_83 (pc' := 84) rfl ?_
      refine g_lload X0 hx hby own_d2_84 rfl (pc' := 86) rfl ?_
      refine g_lcmp_ne X0 hx hby own_d2_86 (pc1 := 87) rfl own_d2_87 (by decide) (pc' := 101) (by decide) (pc2 := 90) rfl (fun c86_75 => ?_) (fun q => absurd q c55_73)
      refine g_iload X0 hx hby own_d2_101 rfl (pc' := 103) rfl ?_
      refine g_iloadN X0 hx hby own_d2_103 rfl (pc' := 104) rfl ?_
      refine g_icmp_eq X0 hx hby own_d2_104 (by decide) (pc' := 125) (by decide) (pc2 := 107) rfl (fun q => absurd q (by decide)) (fun c104_76 => ?_)
      refine g_aloadN X0 hx hby own_d2_107 rfl rfl (pc' := 108) rfl ?_
      refine g_iload X0 hx hby own_d2_108 rfl (pc' := 110) rfl ?_
      refine g_laload (i := 1) (v := (.long b2)) X0 hx hby hZ A1 rfl (by decide) rfl own_d2_110 (pc' := 111) rfl ?_
      refine g_lload X0 hx hby own_d2_111 rfl (pc' := 113) rfl ?_
      refine g_lcmp_ne X0 hx hby own_d2_113 (pc1 := 114) rfl own_d2_114 (by decide) (pc' := 125) (by decide) (pc2 := 117) rfl (fun c113_77 => ?_) (fun c113_77 => ?_)
      · refine g_iinc (y := 1) (L' := #[.val (.ref y0), .val (.ref y1), .val (.int (1 : Int32)), .val (.int (0 : Int32)), .val (.long a1), .second, .val (.int (2 : Int32))]) X0 hx hby own_d2_125 rfl rfl rfl (pc' := 128) rfl ?_
        refine g_goto X0 hx hby own_d2_128 (by decide) (pc' := 22) (by decide) ?_
        refine g_iload X0 hx hby own_d2_22 rfl (pc' := 24) rfl ?_
        refine g_aloadN X0 hx hby own_d2_24 rfl rfl (pc' := 25) rfl ?_
        refine g_arraylength (n := (2 : Int32)) X0 hx hby hZ A0 rfl own_d2_25 (pc' := 26) rfl ?_
        refine g_icmp_ge X0 hx hby own_d2_26 (by decide) (pc' := 131) (by decide) (pc2 := 29) rfl (fun c26_78 => ?_) (fun q => absurd q (by decide))
        refine g_iinc (y := 1) (L' := #[.val (.ref y0), .val (.ref y1), .val (.int (1 : Int32)), .val (.int (1 : Int32)), .val (.long a1), .second, .val (.int (2 : Int32))]) X0 hx hby own_d2_131 rfl rfl rfl (pc' := 134) rfl ?_
        refine g_goto X0 hx hby own_d2_134 (by decide) (pc' := 4) (by decide) ?_
        refine g_iloadN X0 hx hby own_d2_4 rfl (pc' := 5) rfl ?_
        refine g_aloadN X0 hx hby own_d2_5 rfl rfl (pc' := 6) rfl ?_
        refine g_arraylength (n := (2 : Int32)) X0 hx hby hZ A0 rfl own_d2_6 (pc' := 7) rfl ?_
        refine g_icmp_ge X0 hx hby own_d2_7 (by decide) (pc' := 137) (by decide) (pc2 := 10) rfl (fun q => absurd (by decide) q) (fun c7_79 => ?_)
        refine g_iloadN X0 hx hby own_d2_10 rfl (pc' := 11) rfl ?_
        refine g_if_eq X0 hx hby own_d2_11 (by decide) (pc' := 137) (by decide) (pc2 := 14) rfl (fun q => absurd q (by decide)) (fun c11_80 => ?_)
        refine g_aloadN X0 hx hby own_d2_14 rfl rfl (pc' := 15) rfl ?_
        refine g_iloadN X0 hx hby own_d2_15 rfl (pc' := 16) rfl ?_
        refine g_laload (i := 1) (v := (.long b1)) X0 hx hby hZ A0 rfl (by decide) rfl own_d2_16 (pc' := 17) rfl ?_
        refine g_lstore (L' := #[.val (.ref y0), .val (.ref y1), .val (.int (1 : Int32)), .val (.int (1 : Int32)), .val (.long b1), .second, .val (.int (2 : Int32))]) X0 hx hby own_d2_17 rfl (pc' := 19) rfl ?_
        refine g_iconst (v := 0) X0 hx hby own_d2_19 rfl (pc' := 20) rfl ?_
        refine g_istore (L' := #[.val (.ref y0), .val (.ref y1), .val (.int (1 : Int32)), .val (.int (1 : Int32)), .val (.long b1), .second, .val (.int (0 : Int32))]) X0 hx hby own_d2_20 rfl (pc' := 22) rfl ?_
        refine g_iload X0 hx hby own_d2_22 rfl (pc' := 24) rfl ?_
        refine g_aloadN X0 hx hby own_d2_24 rfl rfl (pc' := 25) rfl ?_
        refine g_arraylength (n := (2 : Int32)) X0 hx hby hZ A0 rfl own_d2_25 (pc' := 26) rfl ?_
        refine g_icmp_ge X0 hx hby own_d2_26 (by decide) (pc' := 131) (by decide) (pc2 := 29) rfl (fun q => absurd (by decide) q) (fun c26_81 => ?_)
        refine g_iloadN X0 hx hby own_d2_29 rfl (pc' := 30) rfl ?_
        refine g_if_eq X0 hx hby own_d2_30 (by decide) (pc' := 131) (by decide) (pc2 := 33) rfl (fun q => absurd q (by decide)) (fun c30_82 => ?_)
        refine g_aloadN X0 hx hby own_d2_33 rfl rfl (pc' := 34) rfl ?_
        refine g_iloadN X0 hx hby own_d2_34 rfl (pc' := 35) rfl ?_
        refine g_laload (i := 1) (v := (.long b1)) X0 hx hby hZ A0 rfl (by decide) rfl own_d2_35 (pc' := 36) rfl ?_
        refine g_aloadN X0 hx hby own_d2_36 rfl rfl (pc' := 37) rfl ?_
        refine g_iloadN X0 hx hby own_d2_37 rfl (pc' := 38) rfl ?_
        refine g_laload (i := 1) (v := (.long b2)) X0 hx hby hZ A1 rfl (by decide) rfl own_d2_38 (pc' := 39) rfl ?_
        refine g_lcmp_ne X0 hx hby own_d2_39 (pc1 := 40) rfl own_d2_40 (by decide) (pc' := 131) (by decide) (pc2 := 43) rfl (fun c39_83 => ?_) (fun c39_83 => ?_)
        · refine g_iinc (y := 1) (L' := #[.val (.ref y0), .val (.ref y1), .val (.int (1 : Int32)), .val (.int (2 : Int32)), .val (.long b1), .second, .val (.int (0 : Int32))]) X0 hx hby own_d2_131 rfl rfl rfl (pc' := 134) rfl ?_
          refine g_goto X0 hx hby own_d2_134 (by decide) (pc' := 4) (by decide) ?_
          refine g_iloadN X0 hx hby own_d2_4 rfl (pc' := 5) rfl ?_
          refine g_aloadN X0 hx hby own_d2_5 rfl rfl (pc' := 6) rfl ?_
          refine g_arraylength (n := (2 : Int32)) X0 hx hby hZ A0 rfl own_d2_6 (pc' := 7) rfl ?_
          refine g_icmp_ge X0 hx hby own_d2_7 (by decide) (pc' := 137) (by decide) (pc2 := 10) rfl (fun c7_84 => ?_) (fun q => absurd q (by decide))
          refine g_iloadN X0 hx hby own_d2_137 rfl (pc' := 138) rfl ?_
          have := own_t c39_10
          have := own_t c39_71
          have := own_f c55_73
          have := own_f c86_75
          have := own_f c113_77
          have := own_f c39_83
          have r0_85 : (1 : Int32) = own_left a1 a2 b1 b2 := by unfold own_left; (repeat' split) <;> first | rfl | (exfalso; omega)
          have r1_85 : a1 = own_ea1 a1 a2 b1 b2 := by unfold own_ea1; (repeat' split) <;> first | rfl | (exfalso; omega)
          have r2_85 : b1 = own_eb1 a1 a2 b1 b2 := by unfold own_eb1; (repeat' split) <;> first | rfl | (exfalso; omega)
          have r3_85 : a2 = own_ea2 a1 a2 b1 b2 := by unfold own_ea2; (repeat' split) <;> first | rfl | (exfalso; omega)
          have r4_85 : b2 = own_eb2 a1 a2 b1 b2 := by unfold own_eb2; (repeat' split) <;> first | rfl | (exfalso; omega)
          exact g_retN X0 hx hby hret hlk (by simp) own_d2_138 ⟨congrArg (fun z => some (Value.int z)) r0_85, (Keep.refl h0 [y0, y1]), A0.congr (own_cg r1_85 r2_85), A1.congr (own_cg r3_85 r4_85)⟩ (by decide) (by decide)
        · refine g_iload X0 hx hby own_d2_43 rfl (pc' := 45) rfl ?_
          refine g_iloadN X0 hx hby own_d2_45 rfl (pc' := 46) rfl ?_
          refine g_icmp_eq X0 hx hby own_d2_46 (by decide) (pc' := 74) (by decide) (pc2 := 49) rfl (fun q => absurd q (by decide)) (fun c46_86 => ?_)
          refine g_aloadN X0 hx hby own_d2_49 rfl rfl (pc' := 50) rfl ?_
          refine g_iload X0 hx hby own_d2_50 rfl (pc' := 52) rfl ?_
          refine g_laload (i := 0) (v := (.long a1)) X0 hx hby hZ A0 rfl (by decide) rfl own_d2_52 (pc' := 53) rfl ?_
          refine g_lload X0 hx hby own_d2_53 rfl (pc' := 55) rfl ?_
          refine g_lcmp_ne X0 hx hby own_d2_55 (pc1 := 56) rfl own_d2_56 (by decide) (pc' := 74) (by decide) (pc2 := 59) rfl (fun c55_87 => ?_) (fun c55_87 => ?_)
          · refine g_iload X0 hx hby own_d2_74 rfl (pc' := 76) rfl ?_
            refine g_iloadN X0 hx hby own_d2_76 rfl (pc' := 77) rfl ?_
            refine g_icmp_eq X0 hx hby own_d2_77 (by decide) (pc' := 101) (by decide) (pc2 := 80) rfl (fun q => absurd q (by decide)) (fun c77_88 => ?_)
            refine g_aloadN X0 hx hby own_d2_80 rfl rfl (pc' := 81) rfl ?_
            refine g_iload X0 hx hby own_d2_81 rfl (pc' := 83) rfl ?_
            refine g_laload (i := 0) (v := (.long a1)) X0 hx hby hZ A0 rfl (by decide) rfl own_d2_83 (pc' := 84) rfl ?_
            refine g_lload X0 hx hby own_d2_84 rfl (pc' := 86) rfl ?_
            refine g_lcmp_ne X0 hx hby own_d2_86 (pc1 := 87) rfl own_d2_87 (by decide) (pc' := 101) (by decide) (pc2 := 90) rfl (fun c86_89 => ?_) (fun q => absurd q c55_87)
            refine g_iload X0 hx hby own_d2_101 rfl (pc' := 103) rfl ?_
            refine g_iloadN X0 hx hby own_d2_103 rfl (pc' := 104) rfl ?_
            refine g_icmp_eq X0 hx hby own_d2_104 (by decide) (pc' := 125) (by decide) (pc2 := 107) rfl (fun q => absurd q (by decide)) (fun c104_90 => ?_)
            refine g_aloadN X0 hx hby own_d2_107 rfl rfl (pc' := 108) rfl ?_
            refine g_iload X0 hx hby own_d2_108 rfl (pc' := 110) rfl ?_
            refine g_laload (i := 0) (v := (.long a2)) X0 hx hby hZ A1 rfl (by decide) rfl own_d2_110 (pc' := 111) rfl ?_
            refine g_lload X0 hx hby own_d2_111 rfl (pc' := 113) rfl ?_
            refine g_lcmp_ne X0 hx hby own_d2_113 (pc1 := 114) rfl own_d2_114 (by decide) (pc' := 125) (by decide) (pc2 := 117) rfl (fun c113_91 => ?_) (fun c113_91 => ?_)
            · refine g_iinc (y := 1) (L' := #[.val (.ref y0), .val (.ref y1), .val (.int (1 : Int32)), .val (.int (1 : Int32)), .val (.long b1), .second, .val (.int (1 : Int32))]) X0 hx hby own_d2_125 rfl rfl rfl (pc' := 128) rfl ?_
              refine g_goto X0 hx hby own_d2_128 (by decide) (pc' := 22) (by decide) ?_
              refine g_iload X0 hx hby own_d2_22 rfl (pc' := 24) rfl ?_
              refine g_aloadN X0 hx hby own_d2_24 rfl rfl (pc' := 25) rfl ?_
              refine g_arraylength (n := (2 : Int32)) X0 hx hby hZ A0 rfl own_d2_25 (pc' := 26) rfl ?_
              refine g_icmp_ge X0 hx hby own_d2_26 (by decide) (pc' := 131) (by decide) (pc2 := 29) rfl (fun q => absurd (by decide) q) (fun c26_92 => ?_)
              refine g_iloadN X0 hx hby own_d2_29 rfl (pc' := 30) rfl ?_
              refine g_if_eq X0 hx hby own_d2_30 (by decide) (pc' := 131) (by decide) (pc2 := 33) rfl (fun q => absurd q (by decide)) (fun c30_93 => ?_)
              refine g_aloadN X0 hx hby own_d2_33 rfl rfl (pc' := 34) rfl ?_
              refine g_iloadN X0 hx hby own_d2_34 rfl (pc' := 35) rfl ?_
              refine g_laload (i := 1) (v := (.long b1)) X0 hx hby hZ A0 rfl (by decide) rfl own_d2_35 (pc' := 36) rfl ?_
              refine g_aloadN X0 hx hby own_d2_36 rfl rfl (pc' := 37) rfl ?_
              refine g_iloadN X0 hx hby own_d2_37 rfl (pc' := 38) rfl ?_
              refine g_laload (i := 1) (v := (.long b2)) X0 hx hby hZ A1 rfl (by decide) rfl own_d2_38 (pc' := 39) rfl ?_
              refine g_lcmp_ne X0 hx hby own_d2_39 (pc1 := 40) rfl own_d2_40 (by decide) (pc' := 131) (by decide) (pc2 := 43) rfl (fun q => absurd c39_83 q) (fun c39_94 => ?_)
              refine g_iload X0 hx hby own_d2_43 rfl (pc' := 45) rfl ?_
              refine g_iloadN X0 hx hby own_d2_45 rfl (pc' := 46) rfl ?_
              refine g_icmp_eq X0 hx hby own_d2_46 (by decide) (pc' := 74) (by decide) (pc2 := 49) rfl (fun c46_95 => ?_) (fun q => absurd (by decide) q)
              refine g_iload X0 hx hby own_d2_74 rfl (pc' := 76) rfl ?_
              refine g_iloadN X0 hx hby own_d2_76 rfl (pc' := 77) rfl ?_
              refine g_icmp_eq X0 hx hby own_d2_77 (by decide) (pc' := 101) (by decide) (pc2 := 80) rfl (fun c77_96 => ?_) (fun q => absurd (by decide) q)
              refine g_iload X0 hx hby own_d2_101 rfl (pc' := 103) rfl ?_
              refine g_iloadN X0 hx hby own_d2_103 rfl (pc' := 104) rfl ?_
              refine g_icmp_eq X0 hx hby own_d2_104 (by decide) (pc' := 125) (by decide) (pc2 := 107) rfl (fun c104_97 => ?_) (fun q => absurd (by decide) q)
              refine g_iinc (y := 1) (L' := #[.val (.ref y0), .val (.ref y1), .val (.int (1 : Int32)), .val (.int (1 : Int32)), .val (.long b1), .second, .val (.int (2 : Int32))]) X0 hx hby own_d2_125 rfl rfl rfl (pc' := 128) rfl ?_
              refine g_goto X0 hx hby own_d2_128 (by decide) (pc' := 22) (by decide) ?_
              refine g_iload X0 hx hby own_d2_22 rfl (pc' := 24) rfl ?_
              refine g_aloadN X0 hx hby own_d2_24 rfl rfl (pc' := 25) rfl ?_
              refine g_arraylength (n := (2 : Int32)) X0 hx hby hZ A0 rfl own_d2_25 (pc' := 26) rfl ?_
              refine g_icmp_ge X0 hx hby own_d2_26 (by decide) (pc' := 131) (by decide) (pc2 := 29) rfl (fun c26_98 => ?_) (fun q => absurd q (by decide))
              refine g_iinc (y := 1) (L' := #[.val (.ref y0), .val (.ref y1), .val (.int (1 : Int32)), .val (.int (2 : Int32)), .val (.long b1), .second, .val (.int (2 : Int32))]) X0 hx hby own_d2_131 rfl rfl rfl (pc' := 134) rfl ?_
              refine g_goto X0 hx hby own_d2_134 (by decide) (pc' := 4) (by decide) ?_
              refine g_iloadN X0 hx hby own_d2_4 rfl (pc' := 5) rfl ?_
              refine g_aloadN X0 hx hby own_d2_5 rfl rfl (pc' := 6) rfl ?_
              refine g_arraylength (n := (2 : Int32)) X0 hx hby hZ A0 rfl own_d2_6 (pc' := 7) rfl ?_
              refine g_icmp_ge X0 hx hby own_d2_7 (by decide) (pc' := 137) (by decide) (pc2 := 10) rfl (fun c7_99 => ?_) (fun q => absurd q (by decide))
              refine g_iloadN X0 hx hby own_d2_137 rfl (pc' := 138) rfl ?_
              have := own_t c39_10
              have := own_t c39_71
              have := own_f c55_73
              have := own_f c86_75
              have := own_f c113_77
              have := own_t c39_83
              have := own_f c55_87
              have := own_f c86_89
              have := own_f c113_91
              have := own_t c39_94
              have r0_100 : (1 : Int32) = own_left a1 a2 b1 b2 := by unfold own_left; (repeat' split) <;> first | rfl | (exfalso; omega)
              have r1_100 : a1 = own_ea1 a1 a2 b1 b2 := by unfold own_ea1; (repeat' split) <;> first | rfl | (exfalso; omega)
              have r2_100 : b1 = own_eb1 a1 a2 b1 b2 := by unfold own_eb1; (repeat' split) <;> first | rfl | (exfalso; omega)
              have r3_100 : a2 = own_ea2 a1 a2 b1 b2 := by unfold own_ea2; (repeat' split) <;> first | rfl | (exfalso; omega)
              have r4_100 : b2 = own_eb2 a1 a2 b1 b2 := by unfold own_eb2; (repeat' split) <;> first | rfl | (exfalso; omega)
              exact g_retN X0 hx hby hret hlk (by simp) own_d2_138 ⟨congrArg (fun z => some (Value.int z)) r0_100, (Keep.refl h0 [y0, y1]), A0.congr (own_cg r1_100 r2_100), A1.congr (own_cg r3_100 r4_100)⟩ (by decide) (by decide)
            · refine g_aloadN X0 hx hby own_d2_117 rfl rfl (pc' := 118) rfl ?_
              refine g_iload X0 hx hby own_d2_118 rfl (pc' := 120) rfl ?_
              refine g_lload X0 hx hby own_d2_120 rfl (pc' := 122) rfl ?_
              refine g_lconst (v := 1) X0 hx hby own_d2_122 rfl (pc' := 123) rfl ?_
              refine g_lsub X0 hx hby own_d2_123 (pc' := 124) rfl ?_
              refine g_lastore (i := 0) X0 hx hby hZ A1 rfl (by decide) g1 own_d2_124 (pc' := 125) rfl (fun T101 h101 sl101 X101 W101 A101 => ?_)
              have q102 := A0.other W101 hne
              have zz103 := Nat.le_trans Z0 (Nat.le_of_eq W101.size.symm)
              have kk104 : Keep h0 h101 [y0, y1] := (Keep.refl h0 [y0, y1]).wr W101 (Or.inl (by simp))
              refine g_iinc (y := 1) (L' := #[.val (.ref y0), .val (.ref y1), .val (.int (1 : Int32)), .val (.int (1 : Int32)), .val (.long b1), .second, .val (.int (1 : Int32))]) X101 hx hby own_d2_125 rfl rfl rfl (pc' := 128) rfl ?_
              refine g_goto X101 hx hby own_d2_128 (by decide) (pc' := 22) (by decide) ?_
              refine g_iload X101 hx hby own_d2_22 rfl (pc' := 24) rfl ?_
              refine g_aloadN X101 hx hby own_d2_24 rfl rfl (pc' := 25) rfl ?_
              refine g_arraylength (n := (2 : Int32)) X101 hx hby hZ q102 rfl own_d2_25 (pc' := 26) rfl ?_
              refine g_icmp_ge X101 hx hby own_d2_26 (by decide) (pc' := 131) (by decide) (pc2 := 29) rfl (fun q => absurd (by decide) q) (fun c26_105 => ?_)
              refine g_iloadN X101 hx hby own_d2_29 rfl (pc' := 30) rfl ?_
              refine g_if_eq X101 hx hby own_d2_30 (by decide) (pc' := 131) (by decide) (pc2 := 33) rfl (fun q => absurd q (by decide)) (fun c30_106 => ?_)
              refine g_aloadN X101 hx hby own_d2_33 rfl rfl (pc' := 34) rfl ?_
              refine g_iloadN X101 hx hby own_d2_34 rfl (pc' := 35) rfl ?_
              refine g_laload (i := 1) (v := (.long b1)) X101 hx hby hZ q102 rfl (by decide) rfl own_d2_35 (pc' := 36) rfl ?_
              refine g_aloadN X101 hx hby own_d2_36 rfl rfl (pc' := 37) rfl ?_
              refine g_iloadN X101 hx hby own_d2_37 rfl (pc' := 38) rfl ?_
              refine g_laload (i := 1) (v := (.long b2)) X101 hx hby hZ A101 rfl (by decide) rfl own_d2_38 (pc' := 39) rfl ?_
              refine g_lcmp_ne X101 hx hby own_d2_39 (pc1 := 40) rfl own_d2_40 (by decide) (pc' := 131) (by decide) (pc2 := 43) rfl (fun q => absurd c39_83 q) (fun c39_107 => ?_)
              refine g_iload X101 hx hby own_d2_43 rfl (pc' := 45) rfl ?_
              refine g_iloadN X101 hx hby own_d2_45 rfl (pc' := 46) rfl ?_
              refine g_icmp_eq X101 hx hby own_d2_46 (by decide) (pc' := 74) (by decide) (pc2 := 49) rfl (fun c46_108 => ?_) (fun q => absurd (by decide) q)
              refine g_iload X101 hx hby own_d2_74 rfl (pc' := 76) rfl ?_
              refine g_iloadN X101 hx hby own_d2_76 rfl (pc' := 77) rfl ?_
              refine g_icmp_eq X101 hx hby own_d2_77 (by decide) (pc' := 101) (by decide) (pc2 := 80) rfl (fun c77_109 => ?_) (fun q => absurd (by decide) q)
              refine g_iload X101 hx hby own_d2_101 rfl (pc' := 103) rfl ?_
              refine g_iloadN X101 hx hby own_d2_103 rfl (pc' := 104) rfl ?_
              refine g_icmp_eq X101 hx hby own_d2_104 (by decide) (pc' := 125) (by decide) (pc2 := 107) rfl (fun c104_110 => ?_) (fun q => absurd (by decide) q)
              refine g_iinc (y := 1) (L' := #[.val (.ref y0), .val (.ref y1), .val (.int (1 : Int32)), .val (.int (1 : Int32)), .val (.long b1), .second, .val (.int (2 : Int32))]) X101 hx hby own_d2_125 rfl rfl rfl (pc' := 128) rfl ?_
              refine g_goto X101 hx hby own_d2_128 (by decide) (pc' := 22) (by decide) ?_
              refine g_iload X101 hx hby own_d2_22 rfl (pc' := 24) rfl ?_
              refine g_aloadN X101 hx hby own_d2_24 rfl rfl (pc' := 25) rfl ?_
              refine g_arraylength (n := (2 : Int32)) X101 hx hby hZ q102 rfl own_d2_25 (pc' := 26) rfl ?_
              refine g_icmp_ge X101 hx hby own_d2_26 (by decide) (pc' := 131) (by decide) (pc2 := 29) rfl (fun c26_111 => ?_) (fun q => absurd q (by decide))
              refine g_iinc (y := 1) (L' := #[.val (.ref y0), .val (.ref y1), .val (.int (1 : Int32)), .val (.int (2 : Int32)), .val (.long b1), .second, .val (.int (2 : Int32))]) X101 hx hby own_d2_131 rfl rfl rfl (pc' := 134) rfl ?_
              refine g_goto X101 hx hby own_d2_134 (by decide) (pc' := 4) (by decide) ?_
              refine g_iloadN X101 hx hby own_d2_4 rfl (pc' := 5) rfl ?_
              refine g_aloadN X101 hx hby own_d2_5 rfl rfl (pc' := 6) rfl ?_
              refine g_arraylength (n := (2 : Int32)) X101 hx hby hZ q102 rfl own_d2_6 (pc' := 7) rfl ?_
              refine g_icmp_ge X101 hx hby own_d2_7 (by decide) (pc' := 137) (by decide) (pc2 := 10) rfl (fun c7_112 => ?_) (fun q => absurd q (by decide))
              refine g_iloadN X101 hx hby own_d2_137 rfl (pc' := 138) rfl ?_
              have := own_t c39_10
              have := own_t c39_71
              have := own_f c55_73
              have := own_f c86_75
              have := own_f c113_77
              have := own_t c39_83
              have := own_f c55_87
              have := own_f c86_89
              have := own_t c113_91
              have := own_t c39_107
              have r0_113 : (1 : Int32) = own_left a1 a2 b1 b2 := by unfold own_left; (repeat' split) <;> first | rfl | (exfalso; omega)
              have r1_113 : a1 = own_ea1 a1 a2 b1 b2 := by unfold own_ea1; (repeat' split) <;> first | rfl | (exfalso; omega)
              have r2_113 : b1 = own_eb1 a1 a2 b1 b2 := by unfold own_eb1; (repeat' split) <;> first | rfl | (exfalso; omega)
              have r3_113 : (b1 - (1 : Int64)) = own_ea2 a1 a2 b1 b2 := by unfold own_ea2; (repeat' split) <;> first | rfl | (exfalso; omega)
              have r4_113 : b2 = own_eb2 a1 a2 b1 b2 := by unfold own_eb2; (repeat' split) <;> first | rfl | (exfalso; omega)
              exact g_retN X101 hx hby hret hlk (by simp) own_d2_138 ⟨congrArg (fun z => some (Value.int z)) r0_113, kk104, q102.congr (own_cg r1_113 r2_113), A101.congr (own_cg r3_113 r4_113)⟩ (by decide) (by decide)
          · refine g_aloadN X0 hx hby own_d2_59 rfl rfl (pc' := 60) rfl ?_
            refine g_iload X0 hx hby own_d2_60 rfl (pc' := 62) rfl ?_
            refine g_laload (i := 0) (v := (.long a2)) X0 hx hby hZ A1 rfl (by decide) rfl own_d2_62 (pc' := 63) rfl ?_
            refine g_lload X0 hx hby own_d2_63 rfl (pc' := 65) rfl ?_
            refine g_lcmp_ne X0 hx hby own_d2_65 (pc1 := 66) rfl own_d2_66 (by decide) (pc' := 74) (by decide) (pc2 := 69) rfl (fun c65_114 => ?_) (fun c65_114 => ?_)
            · refine g_iload X0 hx hby own_d2_74 rfl (pc' := 76) rfl ?_
              refine g_iloadN X0 hx hby own_d2_76 rfl (pc' := 77) rfl ?_
              refine g_icmp_eq X0 hx hby own_d2_77 (by decide) (pc' := 101) (by decide) (pc2 := 80) rfl (fun q => absurd q (by decide)) (fun c77_115 => ?_)
              refine g_aloadN X0 hx hby own_d2_80 rfl rfl (pc' := 81) rfl ?_
              refine g_iload X0 hx hby own_d2_81 rfl (pc' := 83) rfl ?_
              refine g_laload (i := 0) (v := (.long a1)) X0 hx hby hZ A0 rfl (by decide) rfl own_d2_83 (pc' := 84) rfl ?_
              refine g_lload X0 hx hby own_d2_84 rfl (pc' := 86) rfl ?_
              refine g_lcmp_ne X0 hx hby own_d2_86 (pc1 := 87) rfl own_d2_87 (by decide) (pc' := 101) (by decide) (pc2 := 90) rfl (fun q => absurd c55_87 q) (fun c86_116 => ?_)
              refine g_aloadN X0 hx hby own_d2_90 rfl rfl (pc' := 91) rfl ?_
              refine g_iload X0 hx hby own_d2_91 rfl (pc' := 93) rfl ?_
              refine g_lload X0 hx hby own_d2_93 rfl (pc' := 95) rfl ?_
              refine g_lconst (v := 1) X0 hx hby own_d2_95 rfl (pc' := 96) rfl ?_
              refine g_ladd X0 hx hby own_d2_96 (pc' := 97) rfl ?_
              refine g_lastore (i := 0) X0 hx hby hZ A0 rfl (by decide) g0 own_d2_97 (pc' := 98) rfl (fun T117 h117 sl117 X117 W117 A117 => ?_)
              have q118 := A1.other W117 (Ne.symm hne)
              have zz119 := Nat.le_trans Z0 (Nat.le_of_eq W117.size.symm)
              have kk120 : Keep h0 h117 [y0, y1] := (Keep.refl h0 [y0, y1]).wr W117 (Or.inl (by simp))
              refine g_goto X117 hx hby own_d2_98 (by decide) (pc' := 125) (by decide) ?_
              refine g_iinc (y := 1) (L' := #[.val (.ref y0), .val (.ref y1), .val (.int (1 : Int32)), .val (.int (1 : Int32)), .val (.long b1), .second, .val (.int (1 : Int32))]) X117 hx hby own_d2_125 rfl rfl rfl (pc' := 128) rfl ?_
              refine g_goto X117 hx hby own_d2_128 (by decide) (pc' := 22) (by decide) ?_
              refine g_iload X117 hx hby own_d2_22 rfl (pc' := 24) rfl ?_
              refine g_aloadN X117 hx hby own_d2_24 rfl rfl (pc' := 25) rfl ?_
              refine g_arraylength (n := (2 : Int32)) X117 hx hby hZ A117 rfl own_d2_25 (pc' := 26) rfl ?_
              refine g_icmp_ge X117 hx hby own_d2_26 (by decide) (pc' := 131) (by decide) (pc2 := 29) rfl (fun q => absurd (by decide) q) (fun c26_121 => ?_)
              refine g_iloadN X117 hx hby own_d2_29 rfl (pc' := 30) rfl ?_
              refine g_if_eq X117 hx hby own_d2_30 (by decide) (pc' := 131) (by decide) (pc2 := 33) rfl (fun q => absurd q (by decide)) (fun c30_122 => ?_)
              refine g_aloadN X117 hx hby own_d2_33 rfl rfl (pc' := 34) rfl ?_
              refine g_iloadN X117 hx hby own_d2_34 rfl (pc' := 35) rfl ?_
              refine g_laload (i := 1) (v := (.long b1)) X117 hx hby hZ A117 rfl (by decide) rfl own_d2_35 (pc' := 36) rfl ?_
              refine g_aloadN X117 hx hby own_d2_36 rfl rfl (pc' := 37) rfl ?_
              refine g_iloadN X117 hx hby own_d2_37 rfl (pc' := 38) rfl ?_
              refine g_laload (i := 1) (v := (.long b2)) X117 hx hby hZ q118 rfl (by decide) rfl own_d2_38 (pc' := 39) rfl ?_
              refine g_lcmp_ne X117 hx hby own_d2_39 (pc1 := 40) rfl own_d2_40 (by decide) (pc' := 131) (by decide) (pc2 := 43) rfl (fun q => absurd c39_83 q) (fun c39_123 => ?_)
              refine g_iload X117 hx hby own_d2_43 rfl (pc' := 45) rfl ?_
              refine g_iloadN X117 hx hby own_d2_45 rfl (pc' := 46) rfl ?_
              refine g_icmp_eq X117 hx hby own_d2_46 (by decide) (pc' := 74) (by decide) (pc2 := 49) rfl (fun c46_124 => ?_) (fun q => absurd (by decide) q)
              refine g_iload X117 hx hby own_d2_74 rfl (pc' := 76) rfl ?_
              refine g_iloadN X117 hx hby own_d2_76 rfl (pc' := 77) rfl ?_
              refine g_icmp_eq X117 hx hby own_d2_77 (by decide) (pc' := 101) (by decide) (pc2 := 80) rfl (fun c77_125 => ?_) (fun q => absurd (by decide) q)
              refine g_iload X117 hx hby own_d2_101 rfl (pc' := 103) rfl ?_
              refine g_iloadN X117 hx hby own_d2_103 rfl (pc' := 104) rfl ?_
              refine g_icmp_eq X117 hx hby own_d2_104 (by decide) (pc' := 125) (by decide) (pc2 := 107) rfl (fun c104_126 => ?_) (fun q => absurd (by decide) q)
              refine g_iinc (y := 1) (L' := #[.val (.ref y0), .val (.ref y1), .val (.int (1 : Int32)), .val (.int (1 : Int32)), .val (.long b1), .second, .val (.int (2 : Int32))]) X117 hx hby own_d2_125 rfl rfl rfl (pc' := 128) rfl ?_
              refine g_goto X117 hx hby own_d2_128 (by decide) (pc' := 22) (by decide) ?_
              refine g_iload X117 hx hby own_d2_22 rfl (pc' := 24) rfl ?_
              refine g_aloadN X117 hx hby own_d2_24 rfl rfl (pc' := 25) rfl ?_
              refine g_arraylength (n := (2 : Int32)) X117 hx hby hZ A117 rfl own_d2_25 (pc' := 26) rfl ?_
              refine g_icmp_ge X117 hx hby own_d2_26 (by decide) (pc' := 131) (by decide) (pc2 := 29) rfl (fun c26_127 => ?_) (fun q => absurd q (by decide))
              refine g_iinc (y := 1) (L' := #[.val (.ref y0), .val (.ref y1), .val (.int (1 : Int32)), .val (.int (2 : Int32)), .val (.long b1), .second, .val (.int (2 : Int32))]) X117 hx hby own_d2_131 rfl rfl rfl (pc' := 134) rfl ?_
              refine g_goto X117 hx hby own_d2_134 (by decide) (pc' := 4) (by decide) ?_
              refine g_iloadN X117 hx hby own_d2_4 rfl (pc' := 5) rfl ?_
              refine g_aloadN X117 hx hby own_d2_5 rfl rfl (pc' := 6) rfl ?_
              refine g_arraylength (n := (2 : Int32)) X117 hx hby hZ A117 rfl own_d2_6 (pc' := 7) rfl ?_
              refine g_icmp_ge X117 hx hby own_d2_7 (by decide) (pc' := 137) (by decide) (pc2 := 10) rfl (fun c7_128 => ?_) (fun q => absurd q (by decide))
              refine g_iloadN X117 hx hby own_d2_137 rfl (pc' := 138) rfl ?_
              have := own_t c39_10
              have := own_t c39_71
              have := own_f c55_73
              have := own_f c86_75
              have := own_f c113_77
              have := own_t c39_83
              have := own_t c55_87
              have := own_f c65_114
              have := own_t c86_116
              have := own_t c39_123
              have r0_129 : (1 : Int32) = own_left a1 a2 b1 b2 := by unfold own_left; (repeat' split) <;> first | rfl | (exfalso; omega)
              have r1_129 : (b1 + (1 : Int64)) = own_ea1 a1 a2 b1 b2 := by unfold own_ea1; (repeat' split) <;> first | rfl | (exfalso; omega)
              have r2_129 : b1 = own_eb1 a1 a2 b1 b2 := by unfold own_eb1; (repeat' split) <;> first | rfl | (exfalso; omega)
              have r3_129 : a2 = own_ea2 a1 a2 b1 b2 := by unfold own_ea2; (repeat' split) <;> first | rfl | (exfalso; omega)
              have r4_129 : b2 = own_eb2 a1 a2 b1 b2 := by unfold own_eb2; (repeat' split) <;> first | rfl | (exfalso; omega)
              exact g_retN X117 hx hby hret hlk (by simp) own_d2_138 ⟨congrArg (fun z => some (Value.int z)) r0_129, kk120, A117.congr (own_cg r1_129 r2_129), q118.congr (own_cg r3_129 r4_129)⟩ (by decide) (by decide)
            · refine g_iconst (v := 0) X0 hx hby own_d2_69 rfl (pc' := 70) rfl ?_
              refine g_istoreN (L' := #[.val (.ref y0), .val (.ref y1), .val (.int (0 : Int32)), .val (.int (1 : Int32)), .val (.long b1), .second, .val (.int (0 : Int32))]) X0 hx hby own_d2_70 rfl (pc' := 71) rfl ?_
              refine g_goto X0 hx hby own_d2_71 (by decide) (pc' := 125) (by decide) ?_
              refine g_iinc (y := 1) (L' := #[.val (.ref y0), .val (.ref y1), .val (.int (0 : Int32)), .val (.int (1 : Int32)), .val (.long b1), .second, .val (.int (1 : Int32))]) X0 hx hby own_d2_125 rfl rfl rfl (pc' := 128) rfl ?_
              refine g_goto X0 hx hby own_d2_128 (by decide) (pc' := 22) (by decide) ?_
              refine g_iload X0 hx hby own_d2_22 rfl (pc' := 24) rfl ?_
              refine g_aloadN X0 hx hby own_d2_24 rfl rfl (pc' := 25) rfl ?_
              refine g_arraylength (n := (2 : Int32)) X0 hx hby hZ A0 rfl own_d2_25 (pc' := 26) rfl ?_
              refine g_icmp_ge X0 hx hby own_d2_26 (by decide) (pc' := 131) (by decide) (pc2 := 29) rfl (fun q => absurd (by decide) q) (fun c26_130 => ?_)
              refine g_iloadN X0 hx hby own_d2_29 rfl (pc' := 30) rfl ?_
              refine g_if_eq X0 hx hby own_d2_30 (by decide) (pc' := 131) (by decide) (pc2 := 33) rfl (fun c30_131 => ?_) (fun q => absurd (by decide) q)
              refine g_iinc (y := 1) (L' := #[.val (.ref y0), .val (.ref y1), .val (.int (0 : Int32)), .val (.int (2 : Int32)), .val (.long b1), .second, .val (.int (1 : Int32))]) X0 hx hby own_d2_131 rfl rfl rfl (pc' := 134) rfl ?_
              refine g_goto X0 hx hby own_d2_134 (by decide) (pc' := 4) (by decide) ?_
              refine g_iloadN X0 hx hby own_d2_4 rfl (pc' := 5) rfl ?_
              refine g_aloadN X0 hx hby own_d2_5 rfl rfl (pc' := 6) rfl ?_
              refine g_arraylength (n := (2 : Int32)) X0 hx hby hZ A0 rfl own_d2_6 (pc' := 7) rfl ?_
              refine g_icmp_ge X0 hx hby own_d2_7 (by decide) (pc' := 137) (by decide) (pc2 := 10) rfl (fun c7_132 => ?_) (fun q => absurd q (by decide))
              refine g_iloadN X0 hx hby own_d2_137 rfl (pc' := 138) rfl ?_
              have := own_t c39_10
              have := own_t c39_71
              have := own_f c55_73
              have := own_f c86_75
              have := own_f c113_77
              have := own_t c39_83
              have := own_t c55_87
              have := own_t c65_114
              have r0_133 : (0 : Int32) = own_left a1 a2 b1 b2 := by unfold own_left; (repeat' split) <;> first | rfl | (exfalso; omega)
              have r1_133 : a1 = own_ea1 a1 a2 b1 b2 := by unfold own_ea1; (repeat' split) <;> first | rfl | (exfalso; omega)
              have r2_133 : b1 = own_eb1 a1 a2 b1 b2 := by unfold own_eb1; (repeat' split) <;> first | rfl | (exfalso; omega)
              have r3_133 : a2 = own_ea2 a1 a2 b1 b2 := by unfold own_ea2; (repeat' split) <;> first | rfl | (exfalso; omega)
              have r4_133 : b2 = own_eb2 a1 a2 b1 b2 := by unfold own_eb2; (repeat' split) <;> first | rfl | (exfalso; omega)
              exact g_retN X0 hx hby hret hlk (by simp) own_d2_138 ⟨congrArg (fun z => some (Value.int z)) r0_133, (Keep.refl h0 [y0, y1]), A0.congr (own_cg r1_133 r2_133), A1.congr (own_cg r3_133 r4_133)⟩ (by decide) (by decide)
      · refine g_aloadN X0 hx hby own_d2_117 rfl rfl (pc' := 118) rfl ?_
        refine g_iload X0 hx hby own_d2_118 rfl (pc' := 120) rfl ?_
        refine g_lload X0 hx hby own_d2_120 rfl (pc' := 122) rfl ?_
        refine g_lconst (v := 1) X0 hx hby own_d2_122 rfl (pc' := 123) rfl ?_
        refine g_lsub X0 hx hby own_d2_123 (pc' := 124) rfl ?_
        refine g_lastore (i := 1) X0 hx hby hZ A1 rfl (by decide) g1 own_d2_124 (pc' := 125) rfl (fun T134 h134 sl134 X134 W134 A134 => ?_)
        have q135 := A0.other W134 hne
        have zz136 := Nat.le_trans Z0 (Nat.le_of_eq W134.size.symm)
        have kk137 : Keep h0 h134 [y0, y1] := (Keep.refl h0 [y0, y1]).wr W134 (Or.inl (by simp))
        refine g_iinc (y := 1) (L' := #[.val (.ref y0), .val (.ref y1), .val (.int (1 : Int32)), .val (.int (0 : Int32)), .val (.long a1), .second, .val (.int (2 : Int32))]) X134 hx hby own_d2_125 rfl rfl rfl (pc' := 128) rfl ?_
        refine g_goto X134 hx hby own_d2_128 (by decide) (pc' := 22) (by decide) ?_
        refine g_iload X134 hx hby own_d2_22 rfl (pc' := 24) rfl ?_
        refine g_aloadN X134 hx hby own_d2_24 rfl rfl (pc' := 25) rfl ?_
        refine g_arraylength (n := (2 : Int32)) X134 hx hby hZ q135 rfl own_d2_25 (pc' := 26) rfl ?_
        refine g_icmp_ge X134 hx hby own_d2_26 (by decide) (pc' := 131) (by decide) (pc2 := 29) rfl (fun c26_138 => ?_) (fun q => absurd q (by decide))
        refine g_iinc (y := 1) (L' := #[.val (.ref y0), .val (.ref y1), .val (.int (1 : Int32)), .val (.int (1 : Int32)), .val (.long a1), .second, .val (.int (2 : Int32))]) X134 hx hby own_d2_131 rfl rfl rfl (pc' := 134) rfl ?_
        refine g_goto X134 hx hby own_d2_134 (by decide) (pc' := 4) (by decide) ?_
        refine g_iloadN X134 hx hby own_d2_4 rfl (pc' := 5) rfl ?_
        refine g_aloadN X134 hx hby own_d2_5 rfl rfl (pc' := 6) rfl ?_
        refine g_arraylength (n := (2 : Int32)) X134 hx hby hZ q135 rfl own_d2_6 (pc' := 7) rfl ?_
        refine g_icmp_ge X134 hx hby own_d2_7 (by decide) (pc' := 137) (by decide) (pc2 := 10) rfl (fun q => absurd (by decide) q) (fun c7_139 => ?_)
        refine g_iloadN X134 hx hby own_d2_10 rfl (pc' := 11) rfl ?_
        refine g_if_eq X134 hx hby own_d2_11 (by decide) (pc' := 137) (by decide) (pc2 := 14) rfl (fun q => absurd q (by decide)) (fun c11_140 => ?_)
        refine g_aloadN X134 hx hby own_d2_14 rfl rfl (pc' := 15) rfl ?_
        refine g_iloadN X134 hx hby own_d2_15 rfl (pc' := 16) rfl ?_
        refine g_laload (i := 1) (v := (.long b1)) X134 hx hby hZ q135 rfl (by decide) rfl own_d2_16 (pc' := 17) rfl ?_
        refine g_lstore (L' := #[.val (.ref y0), .val (.ref y1), .val (.int (1 : Int32)), .val (.int (1 : Int32)), .val (.long b1), .second, .val (.int (2 : Int32))]) X134 hx hby own_d2_17 rfl (pc' := 19) rfl ?_
        refine g_iconst (v := 0) X134 hx hby own_d2_19 rfl (pc' := 20) rfl ?_
        refine g_istore (L' := #[.val (.ref y0), .val (.ref y1), .val (.int (1 : Int32)), .val (.int (1 : Int32)), .val (.long b1), .second, .val (.int (0 : Int32))]) X134 hx hby own_d2_20 rfl (pc' := 22) rfl ?_
        refine g_iload X134 hx hby own_d2_22 rfl (pc' := 24) rfl ?_
        refine g_aloadN X134 hx hby own_d2_24 rfl rfl (pc' := 25) rfl ?_
        refine g_arraylength (n := (2 : Int32)) X134 hx hby hZ q135 rfl own_d2_25 (pc' := 26) rfl ?_
        refine g_icmp_ge X134 hx hby own_d2_26 (by decide) (pc' := 131) (by decide) (pc2 := 29) rfl (fun q => absurd (by decide) q) (fun c26_141 => ?_)
        refine g_iloadN X134 hx hby own_d2_29 rfl (pc' := 30) rfl ?_
        refine g_if_eq X134 hx hby own_d2_30 (by decide) (pc' := 131) (by decide) (pc2 := 33) rfl (fun q => absurd q (by decide)) (fun c30_142 => ?_)
        refine g_aloadN X134 hx hby own_d2_33 rfl rfl (pc' := 34) rfl ?_
        refine g_iloadN X134 hx hby own_d2_34 rfl (pc' := 35) rfl ?_
        refine g_laload (i := 1) (v := (.long b1)) X134 hx hby hZ q135 rfl (by decide) rfl own_d2_35 (pc' := 36) rfl ?_
        refine g_aloadN X134 hx hby own_d2_36 rfl rfl (pc' := 37) rfl ?_
        refine g_iloadN X134 hx hby own_d2_37 rfl (pc' := 38) rfl ?_
        refine g_laload (i := 1) (v := (.long (a1 - (1 : Int64)))) X134 hx hby hZ A134 rfl (by decide) rfl own_d2_38 (pc' := 39) rfl ?_
        refine g_lcmp_ne X134 hx hby own_d2_39 (pc1 := 40) rfl own_d2_40 (by decide) (pc' := 131) (by decide) (pc2 := 43) rfl (fun c39_143 => ?_) (fun c39_143 => ?_)
        · refine g_iinc (y := 1) (L' := #[.val (.ref y0), .val (.ref y1), .val (.int (1 : Int32)), .val (.int (2 : Int32)), .val (.long b1), .second, .val (.int (0 : Int32))]) X134 hx hby own_d2_131 rfl rfl rfl (pc' := 134) rfl ?_
          refine g_goto X134 hx hby own_d2_134 (by decide) (pc' := 4) (by decide) ?_
          refine g_iloadN X134 hx hby own_d2_4 rfl (pc' := 5) rfl ?_
          refine g_aloadN X134 hx hby own_d2_5 rfl rfl (pc' := 6) rfl ?_
          refine g_arraylength (n := (2 : Int32)) X134 hx hby hZ q135 rfl own_d2_6 (pc' := 7) rfl ?_
          refine g_icmp_ge X134 hx hby own_d2_7 (by decide) (pc' := 137) (by decide) (pc2 := 10) rfl (fun c7_144 => ?_) (fun q => absurd q (by decide))
          refine g_iloadN X134 hx hby own_d2_137 rfl (pc' := 138) rfl ?_
          have := own_t c39_10
          have := own_t c39_71
          have := own_f c55_73
          have := own_f c86_75
          have := own_t c113_77
          have := own_f c39_143
          have r0_145 : (1 : Int32) = own_left a1 a2 b1 b2 := by unfold own_left; (repeat' split) <;> first | rfl | (exfalso; omega)
          have r1_145 : a1 = own_ea1 a1 a2 b1 b2 := by unfold own_ea1; (repeat' split) <;> first | rfl | (exfalso; omega)
          have r2_145 : b1 = own_eb1 a1 a2 b1 b2 := by unfold own_eb1; (repeat' split) <;> first | rfl | (exfalso; omega)
          have r3_145 : a2 = own_ea2 a1 a2 b1 b2 := by unfold own_ea2; (repeat' split) <;> first | rfl | (exfalso; omega)
          have r4_145 : (a1 - (1 : Int64)) = own_eb2 a1 a2 b1 b2 := by unfold own_eb2; (repeat' split) <;> first | rfl | (exfalso; omega)
          exact g_retN X134 hx hby hret hlk (by simp) own_d2_138 ⟨congrArg (fun z => some (Value.int z)) r0_145, kk137, q135.congr (own_cg r1_145 r2_145), A134.congr (own_cg r3_145 r4_145)⟩ (by decide) (by decide)
        · refine g_iload X134 hx hby own_d2_43 rfl (pc' := 45) rfl ?_
          refine g_iloadN X134 hx hby own_d2_45 rfl (pc' := 46) rfl ?_
          refine g_icmp_eq X134 hx hby own_d2_46 (by decide) (pc' := 74) (by decide) (pc2 := 49) rfl (fun q => absurd q (by decide)) (fun c46_146 => ?_)
          refine g_aloadN X134 hx hby own_d2_49 rfl rfl (pc' := 50) rfl ?_
          refine g_iload X134 hx hby own_d2_50 rfl (pc' := 52) rfl ?_
          refine g_laload (i := 0) (v := (.long a1)) X134 hx hby hZ q135 rfl (by decide) rfl own_d2_52 (pc' := 53) rfl ?_
          refine g_lload X134 hx hby own_d2_53 rfl (pc' := 55) rfl ?_
          refine g_lcmp_ne X134 hx hby own_d2_55 (pc1 := 56) rfl own_d2_56 (by decide) (pc' := 74) (by decide) (pc2 := 59) rfl (fun c55_147 => ?_) (fun c55_147 => ?_)
          · refine g_iload X134 hx hby own_d2_74 rfl (pc' := 76) rfl ?_
            refine g_iloadN X134 hx hby own_d2_76 rfl (pc' := 77) rfl ?_
            refine g_icmp_eq X134 hx hby own_d2_77 (by decide) (pc' := 101) (by decide) (pc2 := 80) rfl (fun q => absurd q (by decide)) (fun c77_148 => ?_)
            refine g_aloadN X134 hx hby own_d2_80 rfl rfl (pc' := 81) rfl ?_
            refine g_iload X134 hx hby own_d2_81 rfl (pc' := 83) rfl ?_
            refine g_laload (i := 0) (v := (.long a1)) X134 hx hby hZ q135 rfl (by decide) rfl own_d2_83 (pc' := 84) rfl ?_
            refine g_lload X134 hx hby own_d2_84 rfl (pc' := 86) rfl ?_
            refine g_lcmp_ne X134 hx hby own_d2_86 (pc1 := 87) rfl own_d2_87 (by decide) (pc' := 101) (by decide) (pc2 := 90) rfl (fun c86_149 => ?_) (fun q => absurd q c55_147)
            refine g_iload X134 hx hby own_d2_101 rfl (pc' := 103) rfl ?_
            refine g_iloadN X134 hx hby own_d2_103 rfl (pc' := 104) rfl ?_
            refine g_icmp_eq X134 hx hby own_d2_104 (by decide) (pc' := 125) (by decide) (pc2 := 107) rfl (fun q => absurd q (by decide)) (fun c104_150 => ?_)
            refine g_aloadN X134 hx hby own_d2_107 rfl rfl (pc' := 108) rfl ?_
            refine g_iload X134 hx hby own_d2_108 rfl (pc' := 110) rfl ?_
            refine g_laload (i := 0) (v := (.long a2)) X134 hx hby hZ A134 rfl (by decide) rfl own_d2_110 (pc' := 111) rfl ?_
            refine g_lload X134 hx hby own_d2_111 rfl (pc' := 113) rfl ?_
            refine g_lcmp_ne X134 hx hby own_d2_113 (pc1 := 114) rfl own_d2_114 (by decide) (pc' := 125) (by decide) (pc2 := 117) rfl (fun c113_151 => ?_) (fun c113_151 => ?_)
            · refine g_iinc (y := 1) (L' := #[.val (.ref y0), .val (.ref y1), .val (.int (1 : Int32)), .val (.int (1 : Int32)), .val (.long b1), .second, .val (.int (1 : Int32))]) X134 hx hby own_d2_125 rfl rfl rfl (pc' := 128) rfl ?_
              refine g_goto X134 hx hby own_d2_128 (by decide) (pc' := 22) (by decide) ?_
              refine g_iload X134 hx hby own_d2_22 rfl (pc' := 24) rfl ?_
              refine g_aloadN X134 hx hby own_d2_24 rfl rfl (pc' := 25) rfl ?_
              refine g_arraylength (n := (2 : Int32)) X134 hx hby hZ q135 rfl own_d2_25 (pc' := 26) rfl ?_
              refine g_icmp_ge X134 hx hby own_d2_26 (by decide) (pc' := 131) (by decide) (pc2 := 29) rfl (fun q => absurd (by decide) q) (fun c26_152 => ?_)
              refine g_iloadN X134 hx hby own_d2_29 rfl (pc' := 30) rfl ?_
              refine g_if_eq X134 hx hby own_d2_30 (by decide) (pc' := 131) (by decide) (pc2 := 33) rfl (fun q => absurd q (by decide)) (fun c30_153 => ?_)
              refine g_aloadN X134 hx hby own_d2_33 rfl rfl (pc' := 34) rfl ?_
              refine g_iloadN X134 hx hby own_d2_34 rfl (pc' := 35) rfl ?_
              refine g_laload (i := 1) (v := (.long b1)) X134 hx hby hZ q135 rfl (by decide) rfl own_d2_35 (pc' := 36) rfl ?_
              refine g_aloadN X134 hx hby own_d2_36 rfl rfl (pc' := 37) rfl ?_
              refine g_iloadN X134 hx hby own_d2_37 rfl (pc' := 38) rfl ?_
              refine g_laload (i := 1) (v := (.long (a1 - (1 : Int64)))) X134 hx hby hZ A134 rfl (by decide) rfl own_d2_38 (pc' := 39) rfl ?_
              refine g_lcmp_ne X134 hx hby own_d2_39 (pc1 := 40) rfl own_d2_40 (by decide) (pc' := 131) (by decide) (pc2 := 43) rfl (fun q => absurd c39_143 q) (fun c39_154 => ?_)
              refine g_iload X134 hx hby own_d2_43 rfl (pc' := 45) rfl ?_
              refine g_iloadN X134 hx hby own_d2_45 rfl (pc' := 46) rfl ?_
              refine g_icmp_eq X134 hx hby own_d2_46 (by decide) (pc' := 74) (by decide) (pc2 := 49) rfl (fun c46_155 => ?_) (fun q => absurd (by decide) q)
              refine g_iload X134 hx hby own_d2_74 rfl (pc' := 76) rfl ?_
              refine g_iloadN X134 hx hby own_d2_76 rfl (pc' := 77) rfl ?_
              refine g_icmp_eq X134 hx hby own_d2_77 (by decide) (pc' := 101) (by decide) (pc2 := 80) rfl (fun c77_156 => ?_) (fun q => absurd (by decide) q)
              refine g_iload X134 hx hby own_d2_101 rfl (pc' := 103) rfl ?_
              refine g_iloadN X134 hx hby own_d2_103 rfl (pc' := 104) rfl ?_
              refine g_icmp_eq X134 hx hby own_d2_104 (by decide) (pc' := 125) (by decide) (pc2 := 107) rfl (fun c104_157 => ?_) (fun q => absurd (by decide) q)
              refine g_iinc (y := 1) (L' := #[.val (.ref y0), .val (.ref y1), .val (.int (1 : Int32)), .val (.int (1 : Int32)), .val (.long b1), .second, .val (.int (2 : Int32))]) X134 hx hby own_d2_125 rfl rfl rfl (pc' := 128) rfl ?_
              refine g_goto X134 hx hby own_d2_128 (by decide) (pc' := 22) (by decide) ?_
              refine g_iload X134 hx hby own_d2_22 rfl (pc' := 24) rfl ?_
              refine g_aloadN X134 hx hby own_d2_24 rfl rfl (pc' := 25) rfl ?_
              refine g_arraylength (n := (2 : Int32)) X134 hx hby hZ q135 rfl own_d2_25 (pc' := 26) rfl ?_
              refine g_icmp_ge X134 hx hby own_d2_26 (by decide) (pc' := 131) (by decide) (pc2 := 29) rfl (fun c26_158 => ?_) (fun q => absurd q (by decide))
              refine g_iinc (y := 1) (L' := #[.val (.ref y0), .val (.ref y1), .val (.int (1 : Int32)), .val (.int (2 : Int32)), .val (.long b1), .second, .val (.int (2 : Int32))]) X134 hx hby own_d2_131 rfl rfl rfl (pc' := 134) rfl ?_
              refine g_goto X134 hx hby own_d2_134 (by decide) (pc' := 4) (by decide) ?_
              refine g_iloadN X134 hx hby own_d2_4 rfl (pc' := 5) rfl ?_
              refine g_aloadN X134 hx hby own_d2_5 rfl rfl (pc' := 6) rfl ?_
              refine g_arraylength (n := (2 : Int32)) X134 hx hby hZ q135 rfl own_d2_6 (pc' := 7) rfl ?_
              refine g_icmp_ge X134 hx hby own_d2_7 (by decide) (pc' := 137) (by decide) (pc2 := 10) rfl (fun c7_159 => ?_) (fun q => absurd q (by decide))
              refine g_iloadN X134 hx hby own_d2_137 rfl (pc' := 138) rfl ?_
              have := own_t c39_10
              have := own_t c39_71
              have := own_f c55_73
              have := own_f c86_75
              have := own_t c113_77
              have := own_t c39_143
              have := own_f c55_147
              have := own_f c86_149
              have := own_f c113_151
              have := own_t c39_154
              have r0_160 : (1 : Int32) = own_left a1 a2 b1 b2 := by unfold own_left; (repeat' split) <;> first | rfl | (exfalso; omega)
              have r1_160 : a1 = own_ea1 a1 a2 b1 b2 := by unfold own_ea1; (repeat' split) <;> first | rfl | (exfalso; omega)
              have r2_160 : b1 = own_eb1 a1 a2 b1 b2 := by unfold own_eb1; (repeat' split) <;> first | rfl | (exfalso; omega)
              have r3_160 : a2 = own_ea2 a1 a2 b1 b2 := by unfold own_ea2; (repeat' split) <;> first | rfl | (exfalso; omega)
              have r4_160 : (a1 - (1 : Int64)) = own_eb2 a1 a2 b1 b2 := by unfold own_eb2; (repeat' split) <;> first | rfl | (exfalso; omega)
              exact g_retN X134 hx hby hret hlk (by simp) own_d2_138 ⟨congrArg (fun z => some (Value.int z)) r0_160, kk137, q135.congr (own_cg r1_160 r2_160), A134.congr (own_cg r3_160 r4_160)⟩ (by decide) (by decide)
            · refine g_aloadN X134 hx hby own_d2_117 rfl rfl (pc' := 118) rfl ?_
              refine g_iload X134 hx hby own_d2_118 rfl (pc' := 120) rfl ?_
              refine g_lload X134 hx hby own_d2_120 rfl (pc' := 122) rfl ?_
              refine g_lconst (v := 1) X134 hx hby own_d2_122 rfl (pc' := 123) rfl ?_
              refine g_lsub X134 hx hby own_d2_123 (pc' := 124) rfl ?_
              refine g_lastore (i := 0) X134 hx hby hZ A134 rfl (by decide) g1 own_d2_124 (pc' := 125) rfl (fun T161 h161 sl161 X161 W161 A161 => ?_)
              have q162 := q135.other W161 hne
              have zz163 := Nat.le_trans zz136 (Nat.le_of_eq W161.size.symm)
              have kk164 : Keep h0 h161 [y0, y1] := kk137.wr W161 (Or.inl (by simp))
              refine g_iinc (y := 1) (L' := #[.val (.ref y0), .val (.ref y1), .val (.int (1 : Int32)), .val (.int (1 : Int32)), .val (.long b1), .second, .val (.int (1 : Int32))]) X161 hx hby own_d2_125 rfl rfl rfl (pc' := 128) rfl ?_
              refine g_goto X161 hx hby own_d2_128 (by decide) (pc' := 22) (by decide) ?_
              refine g_iload X161 hx hby own_d2_22 rfl (pc' := 24) rfl ?_
              refine g_aloadN X161 hx hby own_d2_24 rfl rfl (pc' := 25) rfl ?_
              refine g_arraylength (n := (2 : Int32)) X161 hx hby hZ q162 rfl own_d2_25 (pc' := 26) rfl ?_
              refine g_icmp_ge X161 hx hby own_d2_26 (by decide) (pc' := 131) (by decide) (pc2 := 29) rfl (fun q => absurd (by decide) q) (fun c26_165 => ?_)
              refine g_iloadN X161 hx hby own_d2_29 rfl (pc' := 30) rfl ?_
              refine g_if_eq X161 hx hby own_d2_30 (by decide) (pc' := 131) (by decide) (pc2 := 33) rfl (fun q => absurd q (by decide)) (fun c30_166 => ?_)
              refine g_aloadN X161 hx hby own_d2_33 rfl rfl (pc' := 34) rfl ?_
              refine g_iloadN X161 hx hby own_d2_34 rfl (pc' := 35) rfl ?_
              refine g_laload (i := 1) (v := (.long b1)) X161 hx hby hZ q162 rfl (by decide) rfl own_d2_35 (pc' := 36) rfl ?_
              refine g_aloadN X161 hx hby own_d2_36 rfl rfl (pc' := 37) rfl ?_
              refine g_iloadN X161 hx hby own_d2_37 rfl (pc' := 38) rfl ?_
              refine g_laload (i := 1) (v := (.long (a1 - (1 : Int64)))) X161 hx hby hZ A161 rfl (by decide) rfl own_d2_38 (pc' := 39) rfl ?_
              refine g_lcmp_ne X161 hx hby own_d2_39 (pc1 := 40) rfl own_d2_40 (by decide) (pc' := 131) (by decide) (pc2 := 43) rfl (fun q => absurd c39_143 q) (fun c39_167 => ?_)
              refine g_iload X161 hx hby own_d2_43 rfl (pc' := 45) rfl ?_
              refine g_iloadN X161 hx hby own_d2_45 rfl (pc' := 46) rfl ?_
              refine g_icmp_eq X161 hx hby own_d2_46 (by decide) (pc' := 74) (by decide) (pc2 := 49) rfl (fun c46_168 => ?_) (fun q => absurd (by decide) q)
              refine g_iload X161 hx hby own_d2_74 rfl (pc' := 76) rfl ?_
              refine g_iloadN X161 hx hby own_d2_76 rfl (pc' := 77) rfl ?_
              refine g_icmp_eq X161 hx hby own_d2_77 (by decide) (pc' := 101) (by decide) (pc2 := 80) rfl (fun c77_169 => ?_) (fun q => absurd (by decide) q)
              refine g_iload X161 hx hby own_d2_101 rfl (pc' := 103) rfl ?_
              refine g_iloadN X161 hx hby own_d2_103 rfl (pc' := 104) rfl ?_
              refine g_icmp_eq X161 hx hby own_d2_104 (by decide) (pc' := 125) (by decide) (pc2 := 107) rfl (fun c104_170 => ?_) (fun q => absurd (by decide) q)
              refine g_iinc (y := 1) (L' := #[.val (.ref y0), .val (.ref y1), .val (.int (1 : Int32)), .val (.int (1 : Int32)), .val (.long b1), .second, .val (.int (2 : Int32))]) X161 hx hby own_d2_125 rfl rfl rfl (pc' := 128) rfl ?_
              refine g_goto X161 hx hby own_d2_128 (by decide) (pc' := 22) (by decide) ?_
              refine g_iload X161 hx hby own_d2_22 rfl (pc' := 24) rfl ?_
              refine g_aloadN X161 hx hby own_d2_24 rfl rfl (pc' := 25) rfl ?_
              refine g_arraylength (n := (2 : Int32)) X161 hx hby hZ q162 rfl own_d2_25 (pc' := 26) rfl ?_
              refine g_icmp_ge X161 hx hby own_d2_26 (by decide) (pc' := 131) (by decide) (pc2 := 29) rfl (fun c26_171 => ?_) (fun q => absurd q (by decide))
              refine g_iinc (y := 1) (L' := #[.val (.ref y0), .val (.ref y1), .val (.int (1 : Int32)), .val (.int (2 : Int32)), .val (.long b1), .second, .val (.int (2 : Int32))]) X161 hx hby own_d2_131 rfl rfl rfl (pc' := 134) rfl ?_
              refine g_goto X161 hx hby own_d2_134 (by decide) (pc' := 4) (by decide) ?_
              refine g_iloadN X161 hx hby own_d2_4 rfl (pc' := 5) rfl ?_
              refine g_aloadN X161 hx hby own_d2_5 rfl rfl (pc' := 6) rfl ?_
              refine g_arraylength (n := (2 : Int32)) X161 hx hby hZ q162 rfl own_d2_6 (pc' := 7) rfl ?_
              refine g_icmp_ge X161 hx hby own_d2_7 (by decide) (pc' := 137) (by decide) (pc2 := 10) rfl (fun c7_172 => ?_) (fun q => absurd q (by decide))
              refine g_iloadN X161 hx hby own_d2_137 rfl (pc' := 138) rfl ?_
              have := own_t c39_10
              have := own_t c39_71
              have := own_f c55_73
              have := own_f c86_75
              have := own_t c113_77
              have := own_t c39_143
              have := own_f c55_147
              have := own_f c86_149
              have := own_t c113_151
              have := own_t c39_167
              have r0_173 : (1 : Int32) = own_left a1 a2 b1 b2 := by unfold own_left; (repeat' split) <;> first | rfl | (exfalso; omega)
              have r1_173 : a1 = own_ea1 a1 a2 b1 b2 := by unfold own_ea1; (repeat' split) <;> first | rfl | (exfalso; omega)
              have r2_173 : b1 = own_eb1 a1 a2 b1 b2 := by unfold own_eb1; (repeat' split) <;> first | rfl | (exfalso; omega)
              have r3_173 : (b1 - (1 : Int64)) = own_ea2 a1 a2 b1 b2 := by unfold own_ea2; (repeat' split) <;> first | rfl | (exfalso; omega)
              have r4_173 : (a1 - (1 : Int64)) = own_eb2 a1 a2 b1 b2 := by unfold own_eb2; (repeat' split) <;> first | rfl | (exfalso; omega)
              exact g_retN X161 hx hby hret hlk (by simp) own_d2_138 ⟨congrArg (fun z => some (Value.int z)) r0_173, kk164, q162.congr (own_cg r1_173 r2_173), A161.congr (own_cg r3_173 r4_173)⟩ (by decide) (by decide)
          · refine g_aloadN X134 hx hby own_d2_59 rfl rfl (pc' := 60) rfl ?_
            refine g_iload X134 hx hby own_d2_60 rfl (pc' := 62) rfl ?_
            refine g_laload (i := 0) (v := (.long a2)) X134 hx hby hZ A134 rfl (by decide) rfl own_d2_62 (pc' := 63) rfl ?_
            refine g_lload X134 hx hby own_d2_63 rfl (pc' := 65) rfl ?_
            refine g_lcmp_ne X134 hx hby own_d2_65 (pc1 := 66) rfl own_d2_66 (by decide) (pc' := 74) (by decide) (pc2 := 69) rfl (fun c65_174 => ?_) (fun c65_174 => ?_)
            · refine g_iload X134 hx hby own_d2_74 rfl (pc' := 76) rfl ?_
              refine g_iloadN X134 hx hby own_d2_76 rfl (pc' := 77) rfl ?_
              refine g_icmp_eq X134 hx hby own_d2_77 (by decide) (pc' := 101) (by decide) (pc2 := 80) rfl (fun q => absurd q (by decide)) (fun c77_175 => ?_)
              refine g_aloadN X134 hx hby own_d2_80 rfl rfl (pc' := 81) rfl ?_
              refine g_iload X134 hx hby own_d2_81 rfl (pc' := 83) rfl ?_
              refine g_laload (i := 0) (v := (.long a1)) X134 hx hby hZ q135 rfl (by decide) rfl own_d2_83 (pc' := 84) rfl ?_
              refine g_lload X134 hx hby own_d2_84 rfl (pc' := 86) rfl ?_
              refine g_lcmp_ne X134 hx hby own_d2_86 (pc1 := 87) rfl own_d2_87 (by decide) (pc' := 101) (by decide) (pc2 := 90) rfl (fun q => absurd c55_147 q) (fun c86_176 => ?_)
              refine g_aloadN X134 hx hby own_d2_90 rfl rfl (pc' := 91) rfl ?_
              refine g_iload X134 hx hby own_d2_91 rfl (pc' := 93) rfl ?_
              refine g_lload X134 hx hby own_d2_93 rfl (pc' := 95) rfl ?_
              refine g_lconst (v := 1) X134 hx hby own_d2_95 rfl (pc' := 96) rfl ?_
              refine g_ladd X134 hx hby own_d2_96 (pc' := 97) rfl ?_
              refine g_lastore (i := 0) X134 hx hby hZ q135 rfl (by decide) g0 own_d2_97 (pc' := 98) rfl (fun T177 h177 sl177 X177 W177 A177 => ?_)
              have q178 := A134.other W177 (Ne.symm hne)
              have zz179 := Nat.le_trans zz136 (Nat.le_of_eq W177.size.symm)
              have kk180 : Keep h0 h177 [y0, y1] := kk137.wr W177 (Or.inl (by simp))
              refine g_goto X177 hx hby own_d2_98 (by decide) (pc' := 125) (by decide) ?_
              refine g_iinc (y := 1) (L' := #[.val (.ref y0), .val (.ref y1), .val (.int (1 : Int32)), .val (.int (1 : Int32)), .val (.long b1), .second, .val (.int (1 : Int32))]) X177 hx hby own_d2_125 rfl rfl rfl (pc' := 128) rfl ?_
              refine g_goto X177 hx hby own_d2_128 (by decide) (pc' := 22) (by decide) ?_
              refine g_iload X177 hx hby own_d2_22 rfl (pc' := 24) rfl ?_
              refine g_aloadN X177 hx hby own_d2_24 rfl rfl (pc' := 25) rfl ?_
              refine g_arraylength (n := (2 : Int32)) X177 hx hby hZ A177 rfl own_d2_25 (pc' := 26) rfl ?_
              refine g_icmp_ge X177 hx hby own_d2_26 (by decide) (pc' := 131) (by decide) (pc2 := 29) rfl (fun q => absurd (by decide) q) (fun c26_181 => ?_)
              refine g_iloadN X177 hx hby own_d2_29 rfl (pc' := 30) rfl ?_
              refine g_if_eq X177 hx hby own_d2_30 (by decide) (pc' := 131) (by decide) (pc2 := 33) rfl (fun q => absurd q (by decide)) (fun c30_182 => ?_)
              refine g_aloadN X177 hx hby own_d2_33 rfl rfl (pc' := 34) rfl ?_
              refine g_iloadN X177 hx hby own_d2_34 rfl (pc' := 35) rfl ?_
              refine g_laload (i := 1) (v := (.long b1)) X177 hx hby hZ A177 rfl (by decide) rfl own_d2_35 (pc' := 36) rfl ?_
              refine g_aloadN X177 hx hby own_d2_36 rfl rfl (pc' := 37) rfl ?_
              refine g_iloadN X177 hx hby own_d2_37 rfl (pc' := 38) rfl ?_
              refine g_laload (i := 1) (v := (.long (a1 - (1 : Int64)))) X177 hx hby hZ q178 rfl (by decide) rfl own_d2_38 (pc' := 39) rfl ?_
              refine g_lcmp_ne X177 hx hby own_d2_39 (pc1 := 40) rfl own_d2_40 (by decide) (pc' := 131) (by decide) (pc2 := 43) rfl (fun q => absurd c39_143 q) (fun c39_183 => ?_)
              refine g_iload X177 hx hby own_d2_43 rfl (pc' := 45) rfl ?_
              refine g_iloadN X177 hx hby own_d2_45 rfl (pc' := 46) rfl ?_
              refine g_icmp_eq X177 hx hby own_d2_46 (by decide) (pc' := 74) (by decide) (pc2 := 49) rfl (fun c46_184 => ?_) (fun q => absurd (by decide) q)
              refine g_iload X177 hx hby own_d2_74 rfl (pc' := 76) rfl ?_
              refine g_iloadN X177 hx hby own_d2_76 rfl (pc' := 77) rfl ?_
              refine g_icmp_eq X177 hx hby own_d2_77 (by decide) (pc' := 101) (by decide) (pc2 := 80) rfl (fun c77_185 => ?_) (fun q => absurd (by decide) q)
              refine g_iload X177 hx hby own_d2_101 rfl (pc' := 103) rfl ?_
              refine g_iloadN X177 hx hby own_d2_103 rfl (pc' := 104) rfl ?_
              refine g_icmp_eq X177 hx hby own_d2_104 (by decide) (pc' := 125) (by decide) (pc2 := 107) rfl (fun c104_186 => ?_) (fun q => absurd (by decide) q)
              refine g_iinc (y := 1) (L' := #[.val (.ref y0), .val (.ref y1), .val (.int (1 : Int32)), .val (.int (1 : Int32)), .val (.long b1), .second, .val (.int (2 : Int32))]) X177 hx hby own_d2_125 rfl rfl rfl (pc' := 128) rfl ?_
              refine g_goto X177 hx hby own_d2_128 (by decide) (pc' := 22) (by decide) ?_
              refine g_iload X177 hx hby own_d2_22 rfl (pc' := 24) rfl ?_
              refine g_aloadN X177 hx hby own_d2_24 rfl rfl (pc' := 25) rfl ?_
              refine g_arraylength (n := (2 : Int32)) X177 hx hby hZ A177 rfl own_d2_25 (pc' := 26) rfl ?_
              refine g_icmp_ge X177 hx hby own_d2_26 (by decide) (pc' := 131) (by decide) (pc2 := 29) rfl (fun c26_187 => ?_) (fun q => absurd q (by decide))
              refine g_iinc (y := 1) (L' := #[.val (.ref y0), .val (.ref y1), .val (.int (1 : Int32)), .val (.int (2 : Int32)), .val (.long b1), .second, .val (.int (2 : Int32))]) X177 hx hby own_d2_131 rfl rfl rfl (pc' := 134) rfl ?_
              refine g_goto X177 hx hby own_d2_134 (by decide) (pc' := 4) (by decide) ?_
              refine g_iloadN X177 hx hby own_d2_4 rfl (pc' := 5) rfl ?_
              refine g_aloadN X177 hx hby own_d2_5 rfl rfl (pc' := 6) rfl ?_
              refine g_arraylength (n := (2 : Int32)) X177 hx hby hZ A177 rfl own_d2_6 (pc' := 7) rfl ?_
              refine g_icmp_ge X177 hx hby own_d2_7 (by decide) (pc' := 137) (by decide) (pc2 := 10) rfl (fun c7_188 => ?_) (fun q => absurd q (by decide))
              refine g_iloadN X177 hx hby own_d2_137 rfl (pc' := 138) rfl ?_
              have := own_t c39_10
              have := own_t c39_71
              have := own_f c55_73
              have := own_f c86_75
              have := own_t c113_77
              have := own_t c39_143
              have := own_t c55_147
              have := own_f c65_174
              have := own_t c86_176
              have := own_t c39_183
              have r0_189 : (1 : Int32) = own_left a1 a2 b1 b2 := by unfold own_left; (repeat' split) <;> first | rfl | (exfalso; omega)
              have r1_189 : (b1 + (1 : Int64)) = own_ea1 a1 a2 b1 b2 := by unfold own_ea1; (repeat' split) <;> first | rfl | (exfalso; omega)
              have r2_189 : b1 = own_eb1 a1 a2 b1 b2 := by unfold own_eb1; (repeat' split) <;> first | rfl | (exfalso; omega)
              have r3_189 : a2 = own_ea2 a1 a2 b1 b2 := by unfold own_ea2; (repeat' split) <;> first | rfl | (exfalso; omega)
              have r4_189 : (a1 - (1 : Int64)) = own_eb2 a1 a2 b1 b2 := by unfold own_eb2; (repeat' split) <;> first | rfl | (exfalso; omega)
              exact g_retN X177 hx hby hret hlk (by simp) own_d2_138 ⟨congrArg (fun z => some (Value.int z)) r0_189, kk180, A177.congr (own_cg r1_189 r2_189), q178.congr (own_cg r3_189 r4_189)⟩ (by decide) (by decide)
            · refine g_iconst (v := 0) X134 hx hby own_d2_69 rfl (pc' := 70) rfl ?_
              refine g_istoreN (L' := #[.val (.ref y0), .val (.ref y1), .val (.int (0 : Int32)), .val (.int (1 : Int32)), .val (.long b1), .second, .val (.int (0 : Int32))]) X134 hx hby own_d2_70 rfl (pc' := 71) rfl ?_
              refine g_goto X134 hx hby own_d2_71 (by decide) (pc' := 125) (by decide) ?_
              refine g_iinc (y := 1) (L' := #[.val (.ref y0), .val (.ref y1), .val (.int (0 : Int32)), .val (.int (1 : Int32)), .val (.long b1), .second, .val (.int (1 : Int32))]) X134 hx hby own_d2_125 rfl rfl rfl (pc' := 128) rfl ?_
              refine g_goto X134 hx hby own_d2_128 (by decide) (pc' := 22) (by decide) ?_
              refine g_iload X134 hx hby own_d2_22 rfl (pc' := 24) rfl ?_
              refine g_aloadN X134 hx hby own_d2_24 rfl rfl (pc' := 25) rfl ?_
              refine g_arraylength (n := (2 : Int32)) X134 hx hby hZ q135 rfl own_d2_25 (pc' := 26) rfl ?_
              refine g_icmp_ge X134 hx hby own_d2_26 (by decide) (pc' := 131) (by decide) (pc2 := 29) rfl (fun q => absurd (by decide) q) (fun c26_190 => ?_)
              refine g_iloadN X134 hx hby own_d2_29 rfl (pc' := 30) rfl ?_
              refine g_if_eq X134 hx hby own_d2_30 (by decide) (pc' := 131) (by decide) (pc2 := 33) rfl (fun c30_191 => ?_) (fun q => absurd (by decide) q)
              refine g_iinc (y := 1) (L' := #[.val (.ref y0), .val (.ref y1), .val (.int (0 : Int32)), .val (.int (2 : Int32)), .val (.long b1), .second, .val (.int (1 : Int32))]) X134 hx hby own_d2_131 rfl rfl rfl (pc' := 134) rfl ?_
              refine g_goto X134 hx hby own_d2_134 (by decide) (pc' := 4) (by decide) ?_
              refine g_iloadN X134 hx hby own_d2_4 rfl (pc' := 5) rfl ?_
              refine g_aloadN X134 hx hby own_d2_5 rfl rfl (pc' := 6) rfl ?_
              refine g_arraylength (n := (2 : Int32)) X134 hx hby hZ q135 rfl own_d2_6 (pc' := 7) rfl ?_
              refine g_icmp_ge X134 hx hby own_d2_7 (by decide) (pc' := 137) (by decide) (pc2 := 10) rfl (fun c7_192 => ?_) (fun q => absurd q (by decide))
              refine g_iloadN X134 hx hby own_d2_137 rfl (pc' := 138) rfl ?_
              have := own_t c39_10
              have := own_t c39_71
              have := own_f c55_73
              have := own_f c86_75
              have := own_t c113_77
              have := own_t c39_143
              have := own_t c55_147
              have := own_t c65_174
              have r0_193 : (0 : Int32) = own_left a1 a2 b1 b2 := by unfold own_left; (repeat' split) <;> first | rfl | (exfalso; omega)
              have r1_193 : a1 = own_ea1 a1 a2 b1 b2 := by unfold own_ea1; (repeat' split) <;> first | rfl | (exfalso; omega)
              have r2_193 : b1 = own_eb1 a1 a2 b1 b2 := by unfold own_eb1; (repeat' split) <;> first | rfl | (exfalso; omega)
              have r3_193 : a2 = own_ea2 a1 a2 b1 b2 := by unfold own_ea2; (repeat' split) <;> first | rfl | (exfalso; omega)
              have r4_193 : (a1 - (1 : Int64)) = own_eb2 a1 a2 b1 b2 := by unfold own_eb2; (repeat' split) <;> first | rfl | (exfalso; omega)
              exact g_retN X134 hx hby hret hlk (by simp) own_d2_138 ⟨congrArg (fun z => some (Value.int z)) r0_193, kk137, q135.congr (own_cg r1_193 r2_193), A134.congr (own_cg r3_193 r4_193)⟩ (by decide) (by decide)
    · refine g_aloadN X0 hx hby own_d2_59 rfl rfl (pc' := 60) rfl ?_
      refine g_iload X0 hx hby own_d2_60 rfl (pc' := 62) rfl ?_
      refine g_laload (i := 1) (v := (.long b2)) X0 hx hby hZ A1 rfl (by decide) rfl own_d2_62 (pc' := 63) rfl ?_
      refine g_lload X0 hx hby own_d2_63 rfl (pc' := 65) rfl ?_
      refine g_lcmp_ne X0 hx hby own_d2_65 (pc1 := 66) rfl own_d2_66 (by decide) (pc' := 74) (by decide) (pc2 := 69) rfl (fun c65_194 => ?_) (fun c65_194 => ?_)
      · refine g_iload X0 hx hby own_d2_74 rfl (pc' := 76) rfl ?_
        refine g_iloadN X0 hx hby own_d2_76 rfl (pc' := 77) rfl ?_
        refine g_icmp_eq X0 hx hby own_d2_77 (by decide) (pc' := 101) (by decide) (pc2 := 80) rfl (fun q => absurd q (by decide)) (fun c77_195 => ?_)
        refine g_aloadN X0 hx hby own_d2_80 rfl rfl (pc' := 81) rfl ?_
        refine g_iload X0 hx hby own_d2_81 rfl (pc' := 83) rfl ?_
        refine g_laload (i := 1) (v := (.long b1)) X0 hx hby hZ A0 rfl (by decide) rfl own_d2_83 (pc' := 84) rfl ?_
        refine g_lload X0 hx hby own_d2_84 rfl (pc' := 86) rfl ?_
        refine g_lcmp_ne X0 hx hby own_d2_86 (pc1 := 87) rfl own_d2_87 (by decide) (pc' := 101) (by decide) (pc2 := 90) rfl (fun q => absurd c55_73 q) (fun c86_196 => ?_)
        refine g_aloadN X0 hx hby own_d2_90 rfl rfl (pc' := 91) rfl ?_
        refine g_iload X0 hx hby own_d2_91 rfl (pc' := 93) rfl ?_
        refine g_lload X0 hx hby own_d2_93 rfl (pc' := 95) rfl ?_
        refine g_lconst (v := 1) X0 hx hby own_d2_95 rfl (pc' := 96) rfl ?_
        refine g_ladd X0 hx hby own_d2_96 (pc' := 97) rfl ?_
        refine g_lastore (i := 1) X0 hx hby hZ A0 rfl (by decide) g0 own_d2_97 (pc' := 98) rfl (fun T197 h197 sl197 X197 W197 A197 => ?_)
        have q198 := A1.other W197 (Ne.symm hne)
        have zz199 := Nat.le_trans Z0 (Nat.le_of_eq W197.size.symm)
        have kk200 : Keep h0 h197 [y0, y1] := (Keep.refl h0 [y0, y1]).wr W197 (Or.inl (by simp))
        refine g_goto X197 hx hby own_d2_98 (by decide) (pc' := 125) (by decide) ?_
        refine g_iinc (y := 1) (L' := #[.val (.ref y0), .val (.ref y1), .val (.int (1 : Int32)), .val (.int (0 : Int32)), .val (.long a1), .second, .val (.int (2 : Int32))]) X197 hx hby own_d2_125 rfl rfl rfl (pc' := 128) rfl ?_
        refine g_goto X197 hx hby own_d2_128 (by decide) (pc' := 22) (by decide) ?_
        refine g_iload X197 hx hby own_d2_22 rfl (pc' := 24) rfl ?_
        refine g_aloadN X197 hx hby own_d2_24 rfl rfl (pc' := 25) rfl ?_
        refine g_arraylength (n := (2 : Int32)) X197 hx hby hZ A197 rfl own_d2_25 (pc' := 26) rfl ?_
        refine g_icmp_ge X197 hx hby own_d2_26 (by decide) (pc' := 131) (by decide) (pc2 := 29) rfl (fun c26_201 => ?_) (fun q => absurd q (by decide))
        refine g_iinc (y := 1) (L' := #[.val (.ref y0), .val (.ref y1), .val (.int (1 : Int32)), .val (.int (1 : Int32)), .val (.long a1), .second, .val (.int (2 : Int32))]) X197 hx hby own_d2_131 rfl rfl rfl (pc' := 134) rfl ?_
        refine g_goto X197 hx hby own_d2_134 (by decide) (pc' := 4) (by decide) ?_
        refine g_iloadN X197 hx hby own_d2_4 rfl (pc' := 5) rfl ?_
        refine g_aloadN X197 hx hby own_d2_5 rfl rfl (pc' := 6) rfl ?_
        refine g_arraylength (n := (2 : Int32)) X197 hx hby hZ A197 rfl own_d2_6 (pc' := 7) rfl ?_
        refine g_icmp_ge X197 hx hby own_d2_7 (by decide) (pc' := 137) (by decide) (pc2 := 10) rfl (fun q => absurd (by decide) q) (fun c7_202 => ?_)
        refine g_iloadN X197 hx hby own_d2_10 rfl (pc' := 11) rfl ?_
        refine g_if_eq X197 hx hby own_d2_11 (by decide) (pc' := 137) (by decide) (pc2 := 14) rfl (fun q => absurd q (by decide)) (fun c11_203 => ?_)
        refine g_aloadN X197 hx hby own_d2_14 rfl rfl (pc' := 15) rfl ?_
        refine g_iloadN X197 hx hby own_d2_15 rfl (pc' := 16) rfl ?_
        refine g_laload (i := 1) (v := (.long (a1 + (1 : Int64)))) X197 hx hby hZ A197 rfl (by decide) rfl own_d2_16 (pc' := 17) rfl ?_
        refine g_lstore (L' := #[.val (.ref y0), .val (.ref y1), .val (.int (1 : Int32)), .val (.int (1 : Int32)), .val (.long (a1 + (1 : Int64))), .second, .val (.int (2 : Int32))]) X197 hx hby own_d2_17 rfl (pc' := 19) rfl ?_
        refine g_iconst (v := 0) X197 hx hby own_d2_19 rfl (pc' := 20) rfl ?_
        refine g_istore (L' := #[.val (.ref y0), .val (.ref y1), .val (.int (1 : Int32)), .val (.int (1 : Int32)), .val (.long (a1 + (1 : Int64))), .second, .val (.int (0 : Int32))]) X197 hx hby own_d2_20 rfl (pc' := 22) rfl ?_
        refine g_iload X197 hx hby own_d2_22 rfl (pc' := 24) rfl ?_
        refine g_aloadN X197 hx hby own_d2_24 rfl rfl (pc' := 25) rfl ?_
        refine g_arraylength (n := (2 : Int32)) X197 hx hby hZ A197 rfl own_d2_25 (pc' := 26) rfl ?_
        refine g_icmp_ge X197 hx hby own_d2_26 (by decide) (pc' := 131) (by decide) (pc2 := 29) rfl (fun q => absurd (by decide) q) (fun c26_204 => ?_)
        refine g_iloadN X197 hx hby own_d2_29 rfl (pc' := 30) rfl ?_
        refine g_if_eq X197 hx hby own_d2_30 (by decide) (pc' := 131) (by decide) (pc2 := 33) rfl (fun q => absurd q (by decide)) (fun c30_205 => ?_)
        refine g_aloadN X197 hx hby own_d2_33 rfl rfl (pc' := 34) rfl ?_
        refine g_iloadN X197 hx hby own_d2_34 rfl (pc' := 35) rfl ?_
        refine g_laload (i := 1) (v := (.long (a1 + (1 : Int64)))) X197 hx hby hZ A197 rfl (by decide) rfl own_d2_35 (pc' := 36) rfl ?_
        refine g_aloadN X197 hx hby own_d2_36 rfl rfl (pc' := 37) rfl ?_
        refine g_iloadN X197 hx hby own_d2_37 rfl (pc' := 38) rfl ?_
        refine g_laload (i := 1) (v := (.long b2)) X197 hx hby hZ q198 rfl (by decide) rfl own_d2_38 (pc' := 39) rfl ?_
        refine g_lcmp_ne X197 hx hby own_d2_39 (pc1 := 40) rfl own_d2_40 (by decide) (pc' := 131) (by decide) (pc2 := 43) rfl (fun c39_206 => ?_) (fun c39_206 => ?_)
        · refine g_iinc (y := 1) (L' := #[.val (.ref y0), .val (.ref y1), .val (.int (1 : Int32)), .val (.int (2 : Int32)), .val (.long (a1 + (1 : Int64))), .second, .val (.int (0 : Int32))]) X197 hx hby own_d2_131 rfl rfl rfl (pc' := 134) rfl ?_
          refine g_goto X197 hx hby own_d2_134 (by decide) (pc' := 4) (by decide) ?_
          refine g_iloadN X197 hx hby own_d2_4 rfl (pc' := 5) rfl ?_
          refine g_aloadN X197 hx hby own_d2_5 rfl rfl (pc' := 6) rfl ?_
          refine g_arraylength (n := (2 : Int32)) X197 hx hby hZ A197 rfl own_d2_6 (pc' := 7) rfl ?_
          refine g_icmp_ge X197 hx hby own_d2_7 (by decide) (pc' := 137) (by decide) (pc2 := 10) rfl (fun c7_207 => ?_) (fun q => absurd q (by decide))
          refine g_iloadN X197 hx hby own_d2_137 rfl (pc' := 138) rfl ?_
          have := own_t c39_10
          have := own_t c39_71
          have := own_t c55_73
          have := own_f c65_194
          have := own_t c86_196
          have := own_f c39_206
          have r0_208 : (1 : Int32) = own_left a1 a2 b1 b2 := by unfold own_left; (repeat' split) <;> first | rfl | (exfalso; omega)
          have r1_208 : a1 = own_ea1 a1 a2 b1 b2 := by unfold own_ea1; (repeat' split) <;> first | rfl | (exfalso; omega)
          have r2_208 : (a1 + (1 : Int64)) = own_eb1 a1 a2 b1 b2 := by unfold own_eb1; (repeat' split) <;> first | rfl | (exfalso; omega)
          have r3_208 : a2 = own_ea2 a1 a2 b1 b2 := by unfold own_ea2; (repeat' split) <;> first | rfl | (exfalso; omega)
          have r4_208 : b2 = own_eb2 a1 a2 b1 b2 := by unfold own_eb2; (repeat' split) <;> first | rfl | (exfalso; omega)
          exact g_retN X197 hx hby hret hlk (by simp) own_d2_138 ⟨congrArg (fun z => some (Value.int z)) r0_208, kk200, A197.congr (own_cg r1_208 r2_208), q198.congr (own_cg r3_208 r4_208)⟩ (by decide) (by decide)
        · refine g_iload X197 hx hby own_d2_43 rfl (pc' := 45) rfl ?_
          refine g_iloadN X197 hx hby own_d2_45 rfl (pc' := 46) rfl ?_
          refine g_icmp_eq X197 hx hby own_d2_46 (by decide) (pc' := 74) (by decide) (pc2 := 49) rfl (fun q => absurd q (by decide)) (fun c46_209 => ?_)
          refine g_aloadN X197 hx hby own_d2_49 rfl rfl (pc' := 50) rfl ?_
          refine g_iload X197 hx hby own_d2_50 rfl (pc' := 52) rfl ?_
          refine g_laload (i := 0) (v := (.long a1)) X197 hx hby hZ A197 rfl (by decide) rfl own_d2_52 (pc' := 53) rfl ?_
          refine g_lload X197 hx hby own_d2_53 rfl (pc' := 55) rfl ?_
          refine g_lcmp_ne X197 hx hby own_d2_55 (pc1 := 56) rfl own_d2_56 (by decide) (pc' := 74) (by decide) (pc2 := 59) rfl (fun c55_210 => ?_) (fun c55_210 => ?_)
          · refine g_iload X197 hx hby own_d2_74 rfl (pc' := 76) rfl ?_
            refine g_iloadN X197 hx hby own_d2_76 rfl (pc' := 77) rfl ?_
            refine g_icmp_eq X197 hx hby own_d2_77 (by decide) (pc' := 101) (by decide) (pc2 := 80) rfl (fun q => absurd q (by decide)) (fun c77_211 => ?_)
            refine g_aloadN X197 hx hby own_d2_80 rfl rfl (pc' := 81) rfl ?_
            refine g_iload X197 hx hby own_d2_81 rfl (pc' := 83) rfl ?_
            refine g_laload (i := 0) (v := (.long a1)) X197 hx hby hZ A197 rfl (by decide) rfl own_d2_83 (pc' := 84) rfl ?_
            refine g_lload X197 hx hby own_d2_84 rfl (pc' := 86) rfl ?_
            refine g_lcmp_ne X197 hx hby own_d2_86 (pc1 := 87) rfl own_d2_87 (by decide) (pc' := 101) (by decide) (pc2 := 90) rfl (fun c86_212 => ?_) (fun q => absurd q c55_210)
            refine g_iload X197 hx hby own_d2_101 rfl (pc' := 103) rfl ?_
            refine g_iloadN X197 hx hby own_d2_103 rfl (pc' := 104) rfl ?_
            refine g_icmp_eq X197 hx hby own_d2_104 (by decide) (pc' := 125) (by decide) (pc2 := 107) rfl (fun q => absurd q (by decide)) (fun c104_213 => ?_)
            refine g_aloadN X197 hx hby own_d2_107 rfl rfl (pc' := 108) rfl ?_
            refine g_iload X197 hx hby own_d2_108 rfl (pc' := 110) rfl ?_
            refine g_laload (i := 0) (v := (.long a2)) X197 hx hby hZ q198 rfl (by decide) rfl own_d2_110 (pc' := 111) rfl ?_
            refine g_lload X197 hx hby own_d2_111 rfl (pc' := 113) rfl ?_
            refine g_lcmp_ne X197 hx hby own_d2_113 (pc1 := 114) rfl own_d2_114 (by decide) (pc' := 125) (by decide) (pc2 := 117) rfl (fun c113_214 => ?_) (fun c113_214 => ?_)
            · refine g_iinc (y := 1) (L' := #[.val (.ref y0), .val (.ref y1), .val (.int (1 : Int32)), .val (.int (1 : Int32)), .val (.long (a1 + (1 : Int64))), .second, .val (.int (1 : Int32))]) X197 hx hby own_d2_125 rfl rfl rfl (pc' := 128) rfl ?_
              refine g_goto X197 hx hby own_d2_128 (by decide) (pc' := 22) (by decide) ?_
              refine g_iload X197 hx hby own_d2_22 rfl (pc' := 24) rfl ?_
              refine g_aloadN X197 hx hby own_d2_24 rfl rfl (pc' := 25) rfl ?_
              refine g_arraylength (n := (2 : Int32)) X197 hx hby hZ A197 rfl own_d2_25 (pc' := 26) rfl ?_
              refine g_icmp_ge X197 hx hby own_d2_26 (by decide) (pc' := 131) (by decide) (pc2 := 29) rfl (fun q => absurd (by decide) q) (fun c26_215 => ?_)
              refine g_iloadN X197 hx hby own_d2_29 rfl (pc' := 30) rfl ?_
              refine g_if_eq X197 hx hby own_d2_30 (by decide) (pc' := 131) (by decide) (pc2 := 33) rfl (fun q => absurd q (by decide)) (fun c30_216 => ?_)
              refine g_aloadN X197 hx hby own_d2_33 rfl rfl (pc' := 34) rfl ?_
              refine g_iloadN X197 hx hby own_d2_34 rfl (pc' := 35) rfl ?_
              refine g_laload (i := 1) (v := (.long (a1 + (1 : Int64)))) X197 hx hby hZ A197 rfl (by decide) rfl own_d2_35 (pc' := 36) rfl ?_
              refine g_aloadN X197 hx hby own_d2_36 rfl rfl (pc' := 37) rfl ?_
              refine g_iloadN X197 hx hby own_d2_37 rfl (pc' := 38) rfl ?_
              refine g_laload (i := 1) (v := (.long b2)) X197 hx hby hZ q198 rfl (by decide) rfl own_d2_38 (pc' := 39) rfl ?_
              refine g_lcmp_ne X197 hx hby own_d2_39 (pc1 := 40) rfl own_d2_40 (by decide) (pc' := 131) (by decide) (pc2 := 43) rfl (fun q => absurd c39_206 q) (fun c39_217 => ?_)
              refine g_iload X197 hx hby own_d2_43 rfl (pc' := 45) rfl ?_
              refine g_iloadN X197 hx hby own_d2_45 rfl (pc' := 46) rfl ?_
              refine g_icmp_eq X197 hx hby own_d2_46 (by decide) (pc' := 74) (by decide) (pc2 := 49) rfl (fun c46_218 => ?_) (fun q => absurd (by decide) q)
              refine g_iload X197 hx hby own_d2_74 rfl (pc' := 76) rfl ?_
              refine g_iloadN X197 hx hby own_d2_76 rfl (pc' := 77) rfl ?_
              refine g_icmp_eq X197 hx hby own_d2_77 (by decide) (pc' := 101) (by decide) (pc2 := 80) rfl (fun c77_219 => ?_) (fun q => absurd (by decide) q)
              refine g_iload X197 hx hby own_d2_101 rfl (pc' := 103) rfl ?_
              refine g_iloadN X197 hx hby own_d2_103 rfl (pc' := 104) rfl ?_
              refine g_icmp_eq X197 hx hby own_d2_104 (by decide) (pc' := 125) (by decide) (pc2 := 107) rfl (fun c104_220 => ?_) (fun q => absurd (by decide) q)
              refine g_iinc (y := 1) (L' := #[.val (.ref y0), .val (.ref y1), .val (.int (1 : Int32)), .val (.int (1 : Int32)), .val (.long (a1 + (1 : Int64))), .second, .val (.int (2 : Int32))]) X197 hx hby own_d2_125 rfl rfl rfl (pc' := 128) rfl ?_
              refine g_goto X197 hx hby own_d2_128 (by decide) (pc' := 22) (by decide) ?_
              refine g_iload X197 hx hby own_d2_22 rfl (pc' := 24) rfl ?_
              refine g_aloadN X197 hx hby own_d2_24 rfl rfl (pc' := 25) rfl ?_
              refine g_arraylength (n := (2 : Int32)) X197 hx hby hZ A197 rfl own_d2_25 (pc' := 26) rfl ?_
              refine g_icmp_ge X197 hx hby own_d2_26 (by decide) (pc' := 131) (by decide) (pc2 := 29) rfl (fun c26_221 => ?_) (fun q => absurd q (by decide))
              refine g_iinc (y := 1) (L' := #[.val (.ref y0), .val (.ref y1), .val (.int (1 : Int32)), .val (.int (2 : Int32)), .val (.long (a1 + (1 : Int64))), .second, .val (.int (2 : Int32))]) X197 hx hby own_d2_131 rfl rfl rfl (pc' := 134) rfl ?_
              refine g_goto X197 hx hby own_d2_134 (by decide) (pc' := 4) (by decide) ?_
              refine g_iloadN X197 hx hby own_d2_4 rfl (pc' := 5) rfl ?_
              refine g_aloadN X197 hx hby own_d2_5 rfl rfl (pc' := 6) rfl ?_
              refine g_arraylength (n := (2 : Int32)) X197 hx hby hZ A197 rfl own_d2_6 (pc' := 7) rfl ?_
              refine g_icmp_ge X197 hx hby own_d2_7 (by decide) (pc' := 137) (by decide) (pc2 := 10) rfl (fun c7_222 => ?_) (fun q => absurd q (by decide))
              refine g_iloadN X197 hx hby own_d2_137 rfl (pc' := 138) rfl ?_
              have := own_t c39_10
              have := own_t c39_71
              have := own_t c55_73
              have := own_f c65_194
              have := own_t c86_196
              have := own_t c39_206
              have := own_f c55_210
              have := own_f c86_212
              have := own_f c113_214
              have := own_t c39_217
              have r0_223 : (1 : Int32) = own_left a1 a2 b1 b2 := by unfold own_left; (repeat' split) <;> first | rfl | (exfalso; omega)
              have r1_223 : a1 = own_ea1 a1 a2 b1 b2 := by unfold own_ea1; (repeat' split) <;> first | rfl | (exfalso; omega)
              have r2_223 : (a1 + (1 : Int64)) = own_eb1 a1 a2 b1 b2 := by unfold own_eb1; (repeat' split) <;> first | rfl | (exfalso; omega)
              have r3_223 : a2 = own_ea2 a1 a2 b1 b2 := by unfold own_ea2; (repeat' split) <;> first | rfl | (exfalso; omega)
              have r4_223 : b2 = own_eb2 a1 a2 b1 b2 := by unfold own_eb2; (repeat' split) <;> first | rfl | (exfalso; omega)
              exact g_retN X197 hx hby hret hlk (by simp) own_d2_138 ⟨congrArg (fun z => some (Value.int z)) r0_223, kk200, A197.congr (own_cg r1_223 r2_223), q198.congr (own_cg r3_223 r4_223)⟩ (by decide) (by decide)
            · refine g_aloadN X197 hx hby own_d2_117 rfl rfl (pc' := 118) rfl ?_
              refine g_iload X197 hx hby own_d2_118 rfl (pc' := 120) rfl ?_
              refine g_lload X197 hx hby own_d2_120 rfl (pc' := 122) rfl ?_
              refine g_lconst (v := 1) X197 hx hby own_d2_122 rfl (pc' := 123) rfl ?_
              refine g_lsub X197 hx hby own_d2_123 (pc' := 124) rfl ?_
              refine g_lastore (i := 0) X197 hx hby hZ q198 rfl (by decide) g1 own_d2_124 (pc' := 125) rfl (fun T224 h224 sl224 X224 W224 A224 => ?_)
              have q225 := A197.other W224 hne
              have zz226 := Nat.le_trans zz199 (Nat.le_of_eq W224.size.symm)
              have kk227 : Keep h0 h224 [y0, y1] := kk200.wr W224 (Or.inl (by simp))
              refine g_iinc (y := 1) (L' := #[.val (.ref y0), .val (.ref y1), .val (.int (1 : Int32)), .val (.int (1 : Int32)), .val (.long (a1 + (1 : Int64))), .second, .val (.int (1 : Int32))]) X224 hx hby own_d2_125 rfl rfl rfl (pc' := 128) rfl ?_
              refine g_goto X224 hx hby own_d2_128 (by decide) (pc' := 22) (by decide) ?_
              refine g_iload X224 hx hby own_d2_22 rfl (pc' := 24) rfl ?_
              refine g_aloadN X224 hx hby own_d2_24 rfl rfl (pc' := 25) rfl ?_
              refine g_arraylength (n := (2 : Int32)) X224 hx hby hZ q225 rfl own_d2_25 (pc' := 26) rfl ?_
              refine g_icmp_ge X224 hx hby own_d2_26 (by decide) (pc' := 131) (by decide) (pc2 := 29) rfl (fun q => absurd (by decide) q) (fun c26_228 => ?_)
              refine g_iloadN X224 hx hby own_d2_29 rfl (pc' := 30) rfl ?_
              refine g_if_eq X224 hx hby own_d2_30 (by decide) (pc' := 131) (by decide) (pc2 := 33) rfl (fun q => absurd q (by decide)) (fun c30_229 => ?_)
              refine g_aloadN X224 hx hby own_d2_33 rfl rfl (pc' := 34) rfl ?_
              refine g_iloadN X224 hx hby own_d2_34 rfl (pc' := 35) rfl ?_
              refine g_laload (i := 1) (v := (.long (a1 + (1 : Int64)))) X224 hx hby hZ q225 rfl (by decide) rfl own_d2_35 (pc' := 36) rfl ?_
              refine g_aloadN X224 hx hby own_d2_36 rfl rfl (pc' := 37) rfl ?_
              refine g_iloadN X224 hx hby own_d2_37 rfl (pc' := 38) rfl ?_
              refine g_laload (i := 1) (v := (.long b2)) X224 hx hby hZ A224 rfl (by decide) rfl own_d2_38 (pc' := 39) rfl ?_
              refine g_lcmp_ne X224 hx hby own_d2_39 (pc1 := 40) rfl own_d2_40 (by decide) (pc' := 131) (by decide) (pc2 := 43) rfl (fun q => absurd c39_206 q) (fun c39_230 => ?_)
              refine g_iload X224 hx hby own_d2_43 rfl (pc' := 45) rfl ?_
              refine g_iloadN X224 hx hby own_d2_45 rfl (pc' := 46) rfl ?_
              refine g_icmp_eq X224 hx hby own_d2_46 (by decide) (pc' := 74) (by decide) (pc2 := 49) rfl (fun c46_231 => ?_) (fun q => absurd (by decide) q)
              refine g_iload X224 hx hby own_d2_74 rfl (pc' := 76) rfl ?_
              refine g_iloadN X224 hx hby own_d2_76 rfl (pc' := 77) rfl ?_
              refine g_icmp_eq X224 hx hby own_d2_77 (by decide) (pc' := 101) (by decide) (pc2 := 80) rfl (fun c77_232 => ?_) (fun q => absurd (by decide) q)
              refine g_iload X224 hx hby own_d2_101 rfl (pc' := 103) rfl ?_
              refine g_iloadN X224 hx hby own_d2_103 rfl (pc' := 104) rfl ?_
              refine g_icmp_eq X224 hx hby own_d2_104 (by decide) (pc' := 125) (by decide) (pc2 := 107) rfl (fun c104_233 => ?_) (fun q => absurd (by decide) q)
              refine g_iinc (y := 1) (L' := #[.val (.ref y0), .val (.ref y1), .val (.int (1 : Int32)), .val (.int (1 : Int32)), .val (.long (a1 + (1 : Int64))), .second, .val (.int (2 : Int32))]) X224 hx hby own_d2_125 rfl rfl rfl (pc' := 128) rfl ?_
              refine g_goto X224 hx hby own_d2_128 (by decide) (pc' := 22) (by decide) ?_
              refine g_iload X224 hx hby own_d2_22 rfl (pc' := 24) rfl ?_
              refine g_aloadN X224 hx hby own_d2_24 rfl rfl (pc' := 25) rfl ?_
              refine g_arraylength (n := (2 : Int32)) X224 hx hby hZ q225 rfl own_d2_25 (pc' := 26) rfl ?_
              refine g_icmp_ge X224 hx hby own_d2_26 (by decide) (pc' := 131) (by decide) (pc2 := 29) rfl (fun c26_234 => ?_) (fun q => absurd q (by decide))
              refine g_iinc (y := 1) (L' := #[.val (.ref y0), .val (.ref y1), .val (.int (1 : Int32)), .val (.int (2 : Int32)), .val (.long (a1 + (1 : Int64))), .second, .val (.int (2 : Int32))]) X224 hx hby own_d2_131 rfl rfl rfl (pc' := 134) rfl ?_
              refine g_goto X224 hx hby own_d2_134 (by decide) (pc' := 4) (by decide) ?_
              refine g_iloadN X224 hx hby own_d2_4 rfl (pc' := 5) rfl ?_
              refine g_aloadN X224 hx hby own_d2_5 rfl rfl (pc' := 6) rfl ?_
              refine g_arraylength (n := (2 : Int32)) X224 hx hby hZ q225 rfl own_d2_6 (pc' := 7) rfl ?_
              refine g_icmp_ge X224 hx hby own_d2_7 (by decide) (pc' := 137) (by decide) (pc2 := 10) rfl (fun c7_235 => ?_) (fun q => absurd q (by decide))
              refine g_iloadN X224 hx hby own_d2_137 rfl (pc' := 138) rfl ?_
              have := own_t c39_10
              have := own_t c39_71
              have := own_t c55_73
              have := own_f c65_194
              have := own_t c86_196
              have := own_t c39_206
              have := own_f c55_210
              have := own_f c86_212
              have := own_t c113_214
              have := own_t c39_230
              have r0_236 : (1 : Int32) = own_left a1 a2 b1 b2 := by unfold own_left; (repeat' split) <;> first | rfl | (exfalso; omega)
              have r1_236 : a1 = own_ea1 a1 a2 b1 b2 := by unfold own_ea1; (repeat' split) <;> first | rfl | (exfalso; omega)
              have r2_236 : (a1 + (1 : Int64)) = own_eb1 a1 a2 b1 b2 := by unfold own_eb1; (repeat' split) <;> first | rfl | (exfalso; omega)
              have r3_236 : ((a1 + (1 : Int64)) - (1 : Int64)) = own_ea2 a1 a2 b1 b2 := by unfold own_ea2; (repeat' split) <;> first | rfl | (exfalso; omega)
              have r4_236 : b2 = own_eb2 a1 a2 b1 b2 := by unfold own_eb2; (repeat' split) <;> first | rfl | (exfalso; omega)
              exact g_retN X224 hx hby hret hlk (by simp) own_d2_138 ⟨congrArg (fun z => some (Value.int z)) r0_236, kk227, q225.congr (own_cg r1_236 r2_236), A224.congr (own_cg r3_236 r4_236)⟩ (by decide) (by decide)
          · refine g_aloadN X197 hx hby own_d2_59 rfl rfl (pc' := 60) rfl ?_
            refine g_iload X197 hx hby own_d2_60 rfl (pc' := 62) rfl ?_
            refine g_laload (i := 0) (v := (.long a2)) X197 hx hby hZ q198 rfl (by decide) rfl own_d2_62 (pc' := 63) rfl ?_
            refine g_lload X197 hx hby own_d2_63 rfl (pc' := 65) rfl ?_
            refine g_lcmp_ne X197 hx hby own_d2_65 (pc1 := 66) rfl own_d2_66 (by decide) (pc' := 74) (by decide) (pc2 := 69) rfl (fun c65_237 => ?_) (fun c65_237 => ?_)
            · refine g_iload X197 hx hby own_d2_74 rfl (pc' := 76) rfl ?_
              refine g_iloadN X197 hx hby own_d2_76 rfl (pc' := 77) rfl ?_
              refine g_icmp_eq X197 hx hby own_d2_77 (by decide) (pc' := 101) (by decide) (pc2 := 80) rfl (fun q => absurd q (by decide)) (fun c77_238 => ?_)
              refine g_aloadN X197 hx hby own_d2_80 rfl rfl (pc' := 81) rfl ?_
              refine g_iload X197 hx hby own_d2_81 rfl (pc' := 83) rfl ?_
              refine g_laload (i := 0) (v := (.long a1)) X197 hx hby hZ A197 rfl (by decide) rfl own_d2_83 (pc' := 84) rfl ?_
              refine g_lload X197 hx hby own_d2_84 rfl (pc' := 86) rfl ?_
              refine g_lcmp_ne X197 hx hby own_d2_86 (pc1 := 87) rfl own_d2_87 (by decide) (pc' := 101) (by decide) (pc2 := 90) rfl (fun q => absurd c55_210 q) (fun c86_239 => ?_)
              refine g_aloadN X197 hx hby own_d2_90 rfl rfl (pc' := 91) rfl ?_
              refine g_iload X197 hx hby own_d2_91 rfl (pc' := 93) rfl ?_
              refine g_lload X197 hx hby own_d2_93 rfl (pc' := 95) rfl ?_
              refine g_lconst (v := 1) X197 hx hby own_d2_95 rfl (pc' := 96) rfl ?_
              refine g_ladd X197 hx hby own_d2_96 (pc' := 97) rfl ?_
              refine g_lastore (i := 0) X197 hx hby hZ A197 rfl (by decide) g0 own_d2_97 (pc' := 98) rfl (fun T240 h240 sl240 X240 W240 A240 => ?_)
              have q241 := q198.other W240 (Ne.symm hne)
              have zz242 := Nat.le_trans zz199 (Nat.le_of_eq W240.size.symm)
              have kk243 : Keep h0 h240 [y0, y1] := kk200.wr W240 (Or.inl (by simp))
              refine g_goto X240 hx hby own_d2_98 (by decide) (pc' := 125) (by decide) ?_
              refine g_iinc (y := 1) (L' := #[.val (.ref y0), .val (.ref y1), .val (.int (1 : Int32)), .val (.int (1 : Int32)), .val (.long (a1 + (1 : Int64))), .second, .val (.int (1 : Int32))]) X240 hx hby own_d2_125 rfl rfl rfl (pc' := 128) rfl ?_
              refine g_goto X240 hx hby own_d2_128 (by decide) (pc' := 22) (by decide) ?_
              refine g_iload X240 hx hby own_d2_22 rfl (pc' := 24) rfl ?_
              refine g_aloadN X240 hx hby own_d2_24 rfl rfl (pc' := 25) rfl ?_
              refine g_arraylength (n := (2 : Int32)) X240 hx hby hZ A240 rfl own_d2_25 (pc' := 26) rfl ?_
              refine g_icmp_ge X240 hx hby own_d2_26 (by decide) (pc' := 131) (by decide) (pc2 := 29) rfl (fun q => absurd (by decide) q) (fun c26_244 => ?_)
              refine g_iloadN X240 hx hby own_d2_29 rfl (pc' := 30) rfl ?_
              refine g_if_eq X240 hx hby own_d2_30 (by decide) (pc' := 131) (by decide) (pc2 := 33) rfl (fun q => absurd q (by decide)) (fun c30_245 => ?_)
              refine g_aloadN X240 hx hby own_d2_33 rfl rfl (pc' := 34) rfl ?_
              refine g_iloadN X240 hx hby own_d2_34 rfl (pc' := 35) rfl ?_
              refine g_laload (i := 1) (v := (.long (a1 + (1 : Int64)))) X240 hx hby hZ A240 rfl (by decide) rfl own_d2_35 (pc' := 36) rfl ?_
              refine g_aloadN X240 hx hby own_d2_36 rfl rfl (pc' := 37) rfl ?_
              refine g_iloadN X240 hx hby own_d2_37 rfl (pc' := 38) rfl ?_
              refine g_laload (i := 1) (v := (.long b2)) X240 hx hby hZ q241 rfl (by decide) rfl own_d2_38 (pc' := 39) rfl ?_
              refine g_lcmp_ne X240 hx hby own_d2_39 (pc1 := 40) rfl own_d2_40 (by decide) (pc' := 131) (by decide) (pc2 := 43) rfl (fun q => absurd c39_206 q) (fun c39_246 => ?_)
              refine g_iload X240 hx hby own_d2_43 rfl (pc' := 45) rfl ?_
              refine g_iloadN X240 hx hby own_d2_45 rfl (pc' := 46) rfl ?_
              refine g_icmp_eq X240 hx hby own_d2_46 (by decide) (pc' := 74) (by decide) (pc2 := 49) rfl (fun c46_247 => ?_) (fun q => absurd (by decide) q)
              refine g_iload X240 hx hby own_d2_74 rfl (pc' := 76) rfl ?_
              refine g_iloadN X240 hx hby own_d2_76 rfl (pc' := 77) rfl ?_
              refine g_icmp_eq X240 hx hby own_d2_77 (by decide) (pc' := 101) (by decide) (pc2 := 80) rfl (fun c77_248 => ?_) (fun q => absurd (by decide) q)
              refine g_iload X240 hx hby own_d2_101 rfl (pc' := 103) rfl ?_
              refine g_iloadN X240 hx hby own_d2_103 rfl (pc' := 104) rfl ?_
              refine g_icmp_eq X240 hx hby own_d2_104 (by decide) (pc' := 125) (by decide) (pc2 := 107) rfl (fun c104_249 => ?_) (fun q => absurd (by decide) q)
              refine g_iinc (y := 1) (L' := #[.val (.ref y0), .val (.ref y1), .val (.int (1 : Int32)), .val (.int (1 : Int32)), .val (.long (a1 + (1 : Int64))), .second, .val (.int (2 : Int32))]) X240 hx hby own_d2_125 rfl rfl rfl (pc' := 128) rfl ?_
              refine g_goto X240 hx hby own_d2_128 (by decide) (pc' := 22) (by decide) ?_
              refine g_iload X240 hx hby own_d2_22 rfl (pc' := 24) rfl ?_
              refine g_aloadN X240 hx hby own_d2_24 rfl rfl (pc' := 25) rfl ?_
              refine g_arraylength (n := (2 : Int32)) X240 hx hby hZ A240 rfl own_d2_25 (pc' := 26) rfl ?_
              refine g_icmp_ge X240 hx hby own_d2_26 (by decide) (pc' := 131) (by decide) (pc2 := 29) rfl (fun c26_250 => ?_) (fun q => absurd q (by decide))
              refine g_iinc (y := 1) (L' := #[.val (.ref y0), .val (.ref y1), .val (.int (1 : Int32)), .val (.int (2 : Int32)), .val (.long (a1 + (1 : Int64))), .second, .val (.int (2 : Int32))]) X240 hx hby own_d2_131 rfl rfl rfl (pc' := 134) rfl ?_
              refine g_goto X240 hx hby own_d2_134 (by decide) (pc' := 4) (by decide) ?_
              refine g_iloadN X240 hx hby own_d2_4 rfl (pc' := 5) rfl ?_
              refine g_aloadN X240 hx hby own_d2_5 rfl rfl (pc' := 6) rfl ?_
              refine g_arraylength (n := (2 : Int32)) X240 hx hby hZ A240 rfl own_d2_6 (pc' := 7) rfl ?_
              refine g_icmp_ge X240 hx hby own_d2_7 (by decide) (pc' := 137) (by decide) (pc2 := 10) rfl (fun c7_251 => ?_) (fun q => absurd q (by decide))
              refine g_iloadN X240 hx hby own_d2_137 rfl (pc' := 138) rfl ?_
              have := own_t c39_10
              have := own_t c39_71
              have := own_t c55_73
              have := own_f c65_194
              have := own_t c86_196
              have := own_t c39_206
              have := own_t c55_210
              have := own_f c65_237
              have := own_t c86_239
              have := own_t c39_246
              have r0_252 : (1 : Int32) = own_left a1 a2 b1 b2 := by unfold own_left; (repeat' split) <;> first | rfl | (exfalso; omega)
              have r1_252 : ((a1 + (1 : Int64)) + (1 : Int64)) = own_ea1 a1 a2 b1 b2 := by unfold own_ea1; (repeat' split) <;> first | rfl | (exfalso; omega)
              have r2_252 : (a1 + (1 : Int64)) = own_eb1 a1 a2 b1 b2 := by unfold own_eb1; (repeat' split) <;> first | rfl | (exfalso; omega)
              have r3_252 : a2 = own_ea2 a1 a2 b1 b2 := by unfold own_ea2; (repeat' split) <;> first | rfl | (exfalso; omega)
              have r4_252 : b2 = own_eb2 a1 a2 b1 b2 := by unfold own_eb2; (repeat' split) <;> first | rfl | (exfalso; omega)
              exact g_retN X240 hx hby hret hlk (by simp) own_d2_138 ⟨congrArg (fun z => some (Value.int z)) r0_252, kk243, A240.congr (own_cg r1_252 r2_252), q241.congr (own_cg r3_252 r4_252)⟩ (by decide) (by decide)
            · refine g_iconst (v := 0) X197 hx hby own_d2_69 rfl (pc' := 70) rfl ?_
              refine g_istoreN (L' := #[.val (.ref y0), .val (.ref y1), .val (.int (0 : Int32)), .val (.int (1 : Int32)), .val (.long (a1 + (1 : Int64))), .second, .val (.int (0 : Int32))]) X197 hx hby own_d2_70 rfl (pc' := 71) rfl ?_
              refine g_goto X197 hx hby own_d2_71 (by decide) (pc' := 125) (by decide) ?_
              refine g_iinc (y := 1) (L' := #[.val (.ref y0), .val (.ref y1), .val (.int (0 : Int32)), .val (.int (1 : Int32)), .val (.long (a1 + (1 : Int64))), .second, .val (.int (1 : Int32))]) X197 hx hby own_d2_125 rfl rfl rfl (pc' := 128) rfl ?_
              refine g_goto X197 hx hby own_d2_128 (by decide) (pc' := 22) (by decide) ?_
              refine g_iload X197 hx hby own_d2_22 rfl (pc' := 24) rfl ?_
              refine g_aloadN X197 hx hby own_d2_24 rfl rfl (pc' := 25) rfl ?_
              refine g_arraylength (n := (2 : Int32)) X197 hx hby hZ A197 rfl own_d2_25 (pc' := 26) rfl ?_
              refine g_icmp_ge X197 hx hby own_d2_26 (by decide) (pc' := 131) (by decide) (pc2 := 29) rfl (fun q => absurd (by decide) q) (fun c26_253 => ?_)
              refine g_iloadN X197 hx hby own_d2_29 rfl (pc' := 30) rfl ?_
              refine g_if_eq X197 hx hby own_d2_30 (by decide) (pc' := 131) (by decide) (pc2 := 33) rfl (fun c30_254 => ?_) (fun q => absurd (by decide) q)
              refine g_iinc (y := 1) (L' := #[.val (.ref y0), .val (.ref y1), .val (.int (0 : Int32)), .val (.int (2 : Int32)), .val (.long (a1 + (1 : Int64))), .second, .val (.int (1 : Int32))]) X197 hx hby own_d2_131 rfl rfl rfl (pc' := 134) rfl ?_
              refine g_goto X197 hx hby own_d2_134 (by decide) (pc' := 4) (by decide) ?_
              refine g_iloadN X197 hx hby own_d2_4 rfl (pc' := 5) rfl ?_
              refine g_aloadN X197 hx hby own_d2_5 rfl rfl (pc' := 6) rfl ?_
              refine g_arraylength (n := (2 : Int32)) X197 hx hby hZ A197 rfl own_d2_6 (pc' := 7) rfl ?_
              refine g_icmp_ge X197 hx hby own_d2_7 (by decide) (pc' := 137) (by decide) (pc2 := 10) rfl (fun c7_255 => ?_) (fun q => absurd q (by decide))
              refine g_iloadN X197 hx hby own_d2_137 rfl (pc' := 138) rfl ?_
              have := own_t c39_10
              have := own_t c39_71
              have := own_t c55_73
              have := own_f c65_194
              have := own_t c86_196
              have := own_t c39_206
              have := own_t c55_210
              have := own_t c65_237
              have r0_256 : (0 : Int32) = own_left a1 a2 b1 b2 := by unfold own_left; (repeat' split) <;> first | rfl | (exfalso; omega)
              have r1_256 : a1 = own_ea1 a1 a2 b1 b2 := by unfold own_ea1; (repeat' split) <;> first | rfl | (exfalso; omega)
              have r2_256 : (a1 + (1 : Int64)) = own_eb1 a1 a2 b1 b2 := by unfold own_eb1; (repeat' split) <;> first | rfl | (exfalso; omega)
              have r3_256 : a2 = own_ea2 a1 a2 b1 b2 := by unfold own_ea2; (repeat' split) <;> first | rfl | (exfalso; omega)
              have r4_256 : b2 = own_eb2 a1 a2 b1 b2 := by unfold own_eb2; (repeat' split) <;> first | rfl | (exfalso; omega)
              exact g_retN X197 hx hby hret hlk (by simp) own_d2_138 ⟨congrArg (fun z => some (Value.int z)) r0_256, kk200, A197.congr (own_cg r1_256 r2_256), q198.congr (own_cg r3_256 r4_256)⟩ (by decide) (by decide)
      · refine g_iconst (v := 0) X0 hx hby own_d2_69 rfl (pc' := 70) rfl ?_
        refine g_istoreN (L' := #[.val (.ref y0), .val (.ref y1), .val (.int (0 : Int32)), .val (.int (0 : Int32)), .val (.long a1), .second, .val (.int (1 : Int32))]) X0 hx hby own_d2_70 rfl (pc' := 71) rfl ?_
        refine g_goto X0 hx hby own_d2_71 (by decide) (pc' := 125) (by decide) ?_
        refine g_iinc (y := 1) (L' := #[.val (.ref y0), .val (.ref y1), .val (.int (0 : Int32)), .val (.int (0 : Int32)), .val (.long a1), .second, .val (.int (2 : Int32))]) X0 hx hby own_d2_125 rfl rfl rfl (pc' := 128) rfl ?_
        refine g_goto X0 hx hby own_d2_128 (by decide) (pc' := 22) (by decide) ?_
        refine g_iload X0 hx hby own_d2_22 rfl (pc' := 24) rfl ?_
        refine g_aloadN X0 hx hby own_d2_24 rfl rfl (pc' := 25) rfl ?_
        refine g_arraylength (n := (2 : Int32)) X0 hx hby hZ A0 rfl own_d2_25 (pc' := 26) rfl ?_
        refine g_icmp_ge X0 hx hby own_d2_26 (by decide) (pc' := 131) (by decide) (pc2 := 29) rfl (fun c26_257 => ?_) (fun q => absurd q (by decide))
        refine g_iinc (y := 1) (L' := #[.val (.ref y0), .val (.ref y1), .val (.int (0 : Int32)), .val (.int (1 : Int32)), .val (.long a1), .second, .val (.int (2 : Int32))]) X0 hx hby own_d2_131 rfl rfl rfl (pc' := 134) rfl ?_
        refine g_goto X0 hx hby own_d2_134 (by decide) (pc' := 4) (by decide) ?_
        refine g_iloadN X0 hx hby own_d2_4 rfl (pc' := 5) rfl ?_
        refine g_aloadN X0 hx hby own_d2_5 rfl rfl (pc' := 6) rfl ?_
        refine g_arraylength (n := (2 : Int32)) X0 hx hby hZ A0 rfl own_d2_6 (pc' := 7) rfl ?_
        refine g_icmp_ge X0 hx hby own_d2_7 (by decide) (pc' := 137) (by decide) (pc2 := 10) rfl (fun q => absurd (by decide) q) (fun c7_258 => ?_)
        refine g_iloadN X0 hx hby own_d2_10 rfl (pc' := 11) rfl ?_
        refine g_if_eq X0 hx hby own_d2_11 (by decide) (pc' := 137) (by decide) (pc2 := 14) rfl (fun c11_259 => ?_) (fun q => absurd (by decide) q)
        refine g_iloadN X0 hx hby own_d2_137 rfl (pc' := 138) rfl ?_
        have := own_t c39_10
        have := own_t c39_71
        have := own_t c55_73
        have := own_t c65_194
        have r0_260 : (0 : Int32) = own_left a1 a2 b1 b2 := by unfold own_left; (repeat' split) <;> first | rfl | (exfalso; omega)
        have r1_260 : a1 = own_ea1 a1 a2 b1 b2 := by unfold own_ea1; (repeat' split) <;> first | rfl | (exfalso; omega)
        have r2_260 : b1 = own_eb1 a1 a2 b1 b2 := by unfold own_eb1; (repeat' split) <;> first | rfl | (exfalso; omega)
        have r3_260 : a2 = own_ea2 a1 a2 b1 b2 := by unfold own_ea2; (repeat' split) <;> first | rfl | (exfalso; omega)
        have r4_260 : b2 = own_eb2 a1 a2 b1 b2 := by unfold own_eb2; (repeat' split) <;> first | rfl | (exfalso; omega)
        exact g_retN X0 hx hby hret hlk (by simp) own_d2_138 ⟨congrArg (fun z => some (Value.int z)) r0_260, (Keep.refl h0 [y0, y1]), A0.congr (own_cg r1_260 r2_260), A1.congr (own_cg r3_260 r4_260)⟩ (by decide) (by decide)
set_option maxRecDepth 65536 in
set_option maxHeartbeats 40000000 in
theorem own_ef261 (m : MethodId) (y0 : Int64) (y1 : Int64) (y2 : Int64) (y3 : Int64)  : entryFrame m #[(.long y0), (.long y1), (.long y2), (.long y3)] maxLocals = mkF m 0 #[.val (.long y0), .second, .val (.long y1), .second, .val (.long y2), .second, .val (.long y3), .second, .unset, .unset, .unset, .unset, .unset, .unset, .unset, .unset, .unset, .unset, .unset, .unset, .unset, .unset, .unset, .unset, .unset, .unset, .unset, .unset, .unset, .unset] [] := by first | (simp [entryFrame, mkF, argsToLocals, Value.category, maxLocals]; done) | rfl
theorem own_pn1 : plainName "com/example/tautline/tautline/model/RangesNarrowDifferentPinLaw" = true := by first | (simp [plainName, overriddenIn]; done) | decide +kernel
theorem own_pd0 : parseMethodDescriptor "(JJ)J" = some ⟨[.long, .long], (some .long)⟩ := by decide +kernel
theorem own_pd1 : parseMethodDescriptor "([J[J)Z" = some ⟨[(.array .long), (.array .long)], (some .boolean)⟩ := by decide +kernel
set_option maxRecDepth 65536 in
set_option maxHeartbeats 40000000 in
theorem own_rm0 (l : Launch) (Z : State) (a0 : Array Value) (hw : ∀ d ∈ tables_1, d.before a0 Z = true) (y0 y1 y2 y3 : Int64) (h0 : Heap) (n0 : Nat) (Z0 : n0 ≤ h0.size) :
    Ctr l Z x code maxLocals ret tables_1 room_1 #[(.long y0), (.long y1), (.long y2), (.long y3)] h0 n0 2 4 (fun v h => v = some (.int 1)) := by
  refine Ctr.of (plainFor_of_name own_pn1) ?_
  intro p e s m below meth c T0 hx hby hml hret hlk hnm hown hZ X0
  rw [own_ef261 m (y0) (y1) (y2) (y3)]
  refine g_lloadN X0 hx hby at_0 rfl (pc' := 1) rfl ?_
  refine g_lloadN X0 hx hby at_1 rfl (pc' := 2) rfl ?_
  refine g_callS (argsL := [(.long y0), (.long y1)]) (S := []) X0 hx hby hZ (y := (⟨"java/lang/Math", "min", "(JJ)J"⟩ : MethodName)) hown (hw _ (List.mem_of_getElem? (i := 0) rfl)) (hw _ (List.mem_of_getElem? (i := 1) rfl)) (hw _ (List.mem_of_getElem? (i := 2) rfl)) (hw _ (List.mem_of_getElem? (i := 3) rfl)) (by decide) (own_rm1 l Z a0 hw (y0) (y1) h0 n0) (by rw [hml]; rfl) (lenOf own_pd0 rfl) rfl at_2 (by decide) (W := 0) (by exact Nat.le_of_eq rfl) (by decide) (by decide) (by decide) (pc' := 5) rfl (fun T262 v262 X262 hQ262 => ?_)
  obtain ⟨rfl, e262⟩ := hQ262
  rw [e262] at X262
  show Gl p e below n0 _ _ (T262.setTop (mkF m 5 #[.val (.long y0), .second, .val (.long y1), .second, .val (.long y2), .second, .val (.long y3), .second, .unset, .unset, .unset, .unset, .unset, .unset, .unset, .unset, .unset, .unset, .unset, .unset, .unset, .unset, .unset, .unset, .unset, .unset, .unset, .unset, .unset, .unset] [(.long (own_min y0 y1))]))
  refine g_lstore (L' := #[.val (.long y0), .second, .val (.long y1), .second, .val (.long y2), .second, .val (.long y3), .second, .val (.long (own_min y0 y1)), .second, .unset, .unset, .unset, .unset, .unset, .unset, .unset, .unset, .unset, .unset, .unset, .unset, .unset, .unset, .unset, .unset, .unset, .unset, .unset, .unset]) X262 hx hby at_5 rfl (pc' := 7) rfl ?_
  refine g_lloadN X262 hx hby at_7 rfl (pc' := 8) rfl ?_
  refine g_lloadN X262 hx hby at_8 rfl (pc' := 9) rfl ?_
  refine g_callS (argsL := [(.long y0), (.long y1)]) (S := []) X262 hx hby hZ (y := (⟨"java/lang/Math", "max", "(JJ)J"⟩ : MethodName)) hown (hw _ (List.mem_of_getElem? (i := 4) rfl)) (hw _ (List.mem_of_getElem? (i := 5) rfl)) (hw _ (List.mem_of_getElem? (i := 2) rfl)) (hw _ (List.mem_of_getElem? (i := 6) rfl)) (by decide) (own_rm2 l Z a0 hw (y0) (y1) h0 n0) (by rw [hml]; rfl) (lenOf own_pd0 rfl) rfl at_9 (by decide) (W := 0) (by exact Nat.le_of_eq rfl) (by decide) (by decide) (by decide) (pc' := 12) rfl (fun T263 v263 X263 hQ263 => ?_)
  obtain ⟨rfl, e263⟩ := hQ263
  rw [e263] at X263
  show Gl p e below n0 _ _ (T263.setTop (mkF m 12 #[.val (.long y0), .second, .val (.long y1), .second, .val (.long y2), .second, .val (.long y3), .second, .val (.long (own_min y0 y1)), .second, .unset, .unset, .unset, .unset, .unset, .unset, .unset, .unset, .unset, .unset, .unset, .unset, .unset, .unset, .unset, .unset, .unset, .unset, .unset, .unset] [(.long (own_max y0 y1))]))
  refine g_lstore (L' := #[.val (.long y0), .second, .val (.long y1), .second, .val (.long y2), .second, .val (.long y3), .second, .val (.long (own_min y0 y1)), .second, .val (.long (own_max y0 y1)), .second, .unset, .unset, .unset, .unset, .unset, .unset, .unset, .unset, .unset, .unset, .unset, .unset, .unset, .unset, .unset, .unset, .unset, .unset]) X263 hx hby at_12 rfl (pc' := 14) rfl ?_
  refine g_lload X263 hx hby at_14 rfl (pc' := 16) rfl ?_
  refine g_lload X263 hx hby at_16 rfl (pc' := 18) rfl ?_
  refine g_callS (argsL := [(.long y2), (.long y3)]) (S := []) X263 hx hby hZ (y := (⟨"java/lang/Math", "min", "(JJ)J"⟩ : MethodName)) hown (hw _ (List.mem_of_getElem? (i := 0) rfl)) (hw _ (List.mem_of_getElem? (i := 1) rfl)) (hw _ (List.mem_of_getElem? (i := 2) rfl)) (hw _ (List.mem_of_getElem? (i := 3) rfl)) (by decide) (own_rm1 l Z a0 hw (y2) (y3) h0 n0) (by rw [hml]; rfl) (lenOf own_pd0 rfl) rfl at_18 (by decide) (W := 0) (by exact Nat.le_of_eq rfl) (by decide) (by decide) (by decide) (pc' := 21) rfl (fun T264 v264 X264 hQ264 => ?_)
  obtain ⟨rfl, e264⟩ := hQ264
  rw [e264] at X264
  show Gl p e below n0 _ _ (T264.setTop (mkF m 21 #[.val (.long y0), .second, .val (.long y1), .second, .val (.long y2), .second, .val (.long y3), .second, .val (.long (own_min y0 y1)), .second, .val (.long (own_max y0 y1)), .second, .unset, .unset, .unset, .unset, .unset, .unset, .unset, .unset, .unset, .unset, .unset, .unset, .unset, .unset, .unset, .unset, .unset, .unset] [(.long (own_min y2 y3))]))
  refine g_lstore (L' := #[.val (.long y0), .second, .val (.long y1), .second, .val (.long y2), .second, .val (.long y3), .second, .val (.long (own_min y0 y1)), .second, .val (.long (own_max y0 y1)), .second, .val (.long (own_min y2 y3)), .second, .unset, .unset, .unset, .unset, .unset, .unset, .unset, .unset, .unset, .unset, .unset, .unset, .unset, .unset, .unset, .unset]) X264 hx hby at_21 rfl (pc' := 23) rfl ?_
  refine g_lload X264 hx hby at_23 rfl (pc' := 25) rfl ?_
  refine g_lload X264 hx hby at_25 rfl (pc' := 27) rfl ?_
  refine g_callS (argsL := [(.long y2), (.long y3)]) (S := []) X264 hx hby hZ (y := (⟨"java/lang/Math", "max", "(JJ)J"⟩ : MethodName)) hown (hw _ (List.mem_of_getElem? (i := 4) rfl)) (hw _ (List.mem_of_getElem? (i := 5) rfl)) (hw _ (List.mem_of_getElem? (i := 2) rfl)) (hw _ (List.mem_of_getElem? (i := 6) rfl)) (by decide) (own_rm2 l Z a0 hw (y2) (y3) h0 n0) (by rw [hml]; rfl) (lenOf own_pd0 rfl) rfl at_27 (by decide) (W := 0) (by exact Nat.le_of_eq rfl) (by decide) (by decide) (by decide) (pc' := 30) rfl (fun T265 v265 X265 hQ265 => ?_)
  obtain ⟨rfl, e265⟩ := hQ265
  rw [e265] at X265
  show Gl p e below n0 _ _ (T265.setTop (mkF m 30 #[.val (.long y0), .second, .val (.long y1), .second, .val (.long y2), .second, .val (.long y3), .second, .val (.long (own_min y0 y1)), .second, .val (.long (own_max y0 y1)), .second, .val (.long (own_min y2 y3)), .second, .unset, .unset, .unset, .unset, .unset, .unset, .unset, .unset, .unset, .unset, .unset, .unset, .unset, .unset, .unset, .unset] [(.long (own_max y2 y3))]))
  refine g_lstore (L' := #[.val (.long y0), .second, .val (.long y1), .second, .val (.long y2), .second, .val (.long y3), .second, .val (.long (own_min y0 y1)), .second, .val (.long (own_max y0 y1)), .second, .val (.long (own_min y2 y3)), .second, .val (.long (own_max y2 y3)), .second, .unset, .unset, .unset, .unset, .unset, .unset, .unset, .unset, .unset, .unset, .unset, .unset, .unset, .unset]) X265 hx hby at_30 rfl (pc' := 32) rfl ?_
  have ha := own_mm y0 y1
  have hb := own_mm y2 y3
  generalize own_min y0 y1 = a1 at *
  generalize own_max y0 y1 = a2 at *
  generalize own_min y2 y3 = b1 at *
  generalize own_max y2 y3 = b2 at *
  refine g_iconst (v := 2) X265 hx hby at_32 rfl (pc' := 33) rfl ?_
  refine g_newarray (k := 2) (cap := 2) X265 hx hby hZ (hw _ (List.mem_of_getElem? (i := 7) rfl)) at_33 rfl (by decide) (by decide) (by decide) (by decide) (pc' := 35) rfl (fun T266 h266 b266 g266 X266 E266 A266 => ?_)
  have nn267 : n0 ≤ b266 := by rw [g266]; exact Z0
  have hh268 : h0.size ≤ b266 := by rw [g266]; exact (Keep.refl h0 []).1
  have zz269 := Nat.le_trans Z0 E266.1
  have kk270 : Keep h0 h266 [] := (Keep.refl h0 []).ext E266
  refine g_dup X266 hx hby at_35 rfl (pc' := 36) rfl ?_
  refine g_iconst (v := 0) X266 hx hby at_36 rfl (pc' := 37) rfl ?_
  refine g_lload X266 hx hby at_37 rfl (pc' := 39) rfl ?_
  refine g_lastore (i := 0) X266 hx hby hZ A266 rfl (by decide) nn267 at_39 (pc' := 40) rfl (fun T271 h271 sl271 X271 W271 A271 => ?_)
  have zz272 := Nat.le_trans zz269 (Nat.le_of_eq W271.size.symm)
  have kk273 : Keep h0 h271 [] := kk270.wr W271 (Or.inr hh268)
  refine g_dup X271 hx hby at_40 rfl (pc' := 41) rfl ?_
  refine g_iconst (v := 1) X271 hx hby at_41 rfl (pc' := 42) rfl ?_
  refine g_lload X271 hx hby at_42 rfl (pc' := 44) rfl ?_
  refine g_lastore (i := 1) X271 hx hby hZ A271 rfl (by decide) nn267 at_44 (pc' := 45) rfl (fun T274 h274 sl274 X274 W274 A274 => ?_)
  have zz275 := Nat.le_trans zz272 (Nat.le_of_eq W274.size.symm)
  have kk276 : Keep h0 h274 [] := kk273.wr W274 (Or.inr hh268)
  refine g_astore (L' := #[.val (.long y0), .second, .val (.long y1), .second, .val (.long y2), .second, .val (.long y3), .second, .val (.long a1), .second, .val (.long a2), .second, .val (.long b1), .second, .val (.long b2), .second, .val (.ref b266), .unset, .unset, .unset, .unset, .unset, .unset, .unset, .unset, .unset, .unset, .unset, .unset, .unset]) X274 hx hby at_45 rfl rfl (pc' := 47) rfl ?_
  refine g_iconst (v := 2) X274 hx hby at_47 rfl (pc' := 48) rfl ?_
  refine g_newarray (k := 2) (cap := 2) X274 hx hby hZ (hw _ (List.mem_of_getElem? (i := 7) rfl)) at_48 rfl (by decide) (by decide) (by decide) (by decide) (pc' := 50) rfl (fun T277 h277 b277 g277 X277 E277 A277 => ?_)
  have ne278 : b266 ≠ b277 := by rw [g277]; exact Nat.ne_of_lt A274.lt
  have nn279 : n0 ≤ b277 := by rw [g277]; exact zz275
  have hh280 : h0.size ≤ b277 := by rw [g277]; exact kk276.1
  have q281 := A274.ext E277
  have zz282 := Nat.le_trans zz275 E277.1
  have kk283 : Keep h0 h277 [] := kk276.ext E277
  refine g_dup X277 hx hby at_50 rfl (pc' := 51) rfl ?_
  refine g_iconst (v := 0) X277 hx hby at_51 rfl (pc' := 52) rfl ?_
  refine g_lload X277 hx hby at_52 rfl (pc' := 54) rfl ?_
  refine g_lastore (i := 0) X277 hx hby hZ A277 rfl (by decide) nn279 at_54 (pc' := 55) rfl (fun T284 h284 sl284 X284 W284 A284 => ?_)
  have q285 := q281.other W284 ne278
  have zz286 := Nat.le_trans zz282 (Nat.le_of_eq W284.size.symm)
  have kk287 : Keep h0 h284 [] := kk283.wr W284 (Or.inr hh280)
  refine g_dup X284 hx hby at_55 rfl (pc' := 56) rfl ?_
  refine g_iconst (v := 1) X284 hx hby at_56 rfl (pc' := 57) rfl ?_
  refine g_lload X284 hx hby at_57 rfl (pc' := 59) rfl ?_
  refine g_lastore (i := 1) X284 hx hby hZ A284 rfl (by decide) nn279 at_59 (pc' := 60) rfl (fun T288 h288 sl288 X288 W288 A288 => ?_)
  have q289 := q285.other W288 ne278
  have zz290 := Nat.le_trans zz286 (Nat.le_of_eq W288.size.symm)
  have kk291 : Keep h0 h288 [] := kk287.wr W288 (Or.inr hh280)
  refine g_astore (L' := #[.val (.long y0), .second, .val (.long y1), .second, .val (.long y2), .second, .val (.long y3), .second, .val (.long a1), .second, .val (.long a2), .second, .val (.long b1), .second, .val (.long b2), .second, .val (.ref b266), .val (.ref b277), .unset, .unset, .unset, .unset, .unset, .unset, .unset, .unset, .unset, .unset, .unset, .unset]) X288 hx hby at_60 rfl rfl (pc' := 62) rfl ?_
  have J208 : ∀ (u18 u19 el : Int32) (e1 e2 e3 e4 : Int64), el = own_left a1 a2 b1 b2 → e1 = own_ea1 a1 a2 b1 b2 → e2 = own_ea2 a1 a2 b1 b2 → e3 = own_eb1 a1 a2 b1 b2 → e4 = own_eb2 a1 a2 b1 b2 → Gl p e below n0 (Fn s 2 4) (fun v h => v = some (.int 1)) (T288.setTop (mkF m 208 #[.val (.long y0), .second, .val (.long y1), .second, .val (.long y2), .second, .val (.long y3), .second, .val (.long a1), .second, .val (.long a2), .second, .val (.long b1), .second, .val (.long b2), .second, .val (.ref b266), .val (.ref b277), .val (.int u18), .val (.int u19), .val (.long e1), .second, .val (.long e2), .second, .val (.long e3), .second, .val (.long e4), .second, .val (.int el), .unset] [])) := by
    intro u18 u19 el e1 e2 e3 e4 r0 r1 r2 r3 r4
    refine g_aload X288 hx hby at_208 rfl rfl (pc' := 210) rfl ?_
    refine g_aload X288 hx hby at_210 rfl rfl (pc' := 212) rfl ?_
    refine g_callS (argsL := [(.ref b266), (.ref b277)]) (S := []) X288 hx hby hZ (y := (⟨"com/example/tautline/tautline/model/Ranges", "narrowDifferent", "([J[J)Z"⟩ : MethodName)) hown (hw _ (List.mem_of_getElem? (i := 8) rfl)) (hw _ (List.mem_of_getElem? (i := 9) rfl)) (hw _ (List.mem_of_getElem? (i := 10) rfl)) (hw _ (List.mem_of_getElem? (i := 11) rfl)) (by decide) (own_rm3 l Z a0 hw b266 b277 a1 a2 b1 b2 h288 n0 zz290 (q289.congr (own_cg rfl rfl)) (A288.congr (own_cg rfl rfl)) ne278 nn267 nn279 ha hb) (by rw [hml]; rfl) (lenOf own_pd1 rfl) rfl at_212 (by decide) (W := 0) (by exact Nat.le_of_eq rfl) (by decide) (by decide) (by decide) (pc' := 215) rfl (fun T292 v292 X292 hQ292 => ?_)
    obtain ⟨rfl, ka292, fa292, fb292⟩ := hQ292
    have zz293 := Nat.le_trans zz290 ka292.1
    have kk294 : Keep h0 T292.heap [] := kk291.trans ka292 (allS (Or.inr hh268) (allS (Or.inr hh280) all0))
    show Gl p e below n0 _ _ (T292.setTop (mkF m 215 #[.val (.long y0), .second, .val (.long y1), .second, .val (.long y2), .second, .val (.long y3), .second, .val (.long a1), .second, .val (.long a2), .second, .val (.long b1), .second, .val (.long b2), .second, .val (.ref b266), .val (.ref b277), .val (.int u18), .val (.int u19), .val (.long e1), .second, .val (.long e2), .second, .val (.long e3), .second, .val (.long e4), .second, .val (.int el), .unset] [(.int (own_left a1 a2 b1 b2))]))
    refine g_istore (L' := #[.val (.long y0), .second, .val (.long y1), .second, .val (.long y2), .second, .val (.long y3), .second, .val (.long a1), .second, .val (.long a2), .second, .val (.long b1), .second, .val (.long b2), .second, .val (.ref b266), .val (.ref b277), .val (.int u18), .val (.int u19), .val (.long e1), .second, .val (.long e2), .second, .val (.long e3), .second, .val (.long e4), .second, .val (.int el), .val (.int (own_left a1 a2 b1 b2))]) X292 hx hby at_215 rfl (pc' := 217) rfl ?_
    refine g_iload X292 hx hby at_217 rfl (pc' := 219) rfl ?_
    refine g_iload X292 hx hby at_219 rfl (pc' := 221) rfl ?_
    refine g_icmp_ne X292 hx hby at_221 (by decide) (pc' := 268) (by decide) (pc2 := 224) rfl (fun q => absurd r0.symm q) (fun c221_295 => ?_)
    refine g_aload X292 hx hby at_224 rfl rfl (pc' := 226) rfl ?_
    refine g_iconst (v := 0) X292 hx hby at_226 rfl (pc' := 227) rfl ?_
    refine g_laload (i := 0) (v := (.long (own_ea1 a1 a2 b1 b2))) X292 hx hby hZ fa292 rfl (by decide) rfl at_227 (pc' := 228) rfl ?_
    refine g_lload X292 hx hby at_228 rfl (pc' := 230) rfl ?_
    refine g_lcmp_ne X292 hx hby at_230 (pc1 := 231) rfl at_231 (by decide) (pc' := 268) (by decide) (pc2 := 234) rfl (fun q => absurd r1.symm q) (fun c230_296 => ?_)
    refine g_aload X292 hx hby at_234 rfl rfl (pc' := 236) rfl ?_
    refine g_iconst (v := 0) X292 hx hby at_236 rfl (pc' := 237) rfl ?_
    refine g_laload (i := 0) (v := (.long (own_ea2 a1 a2 b1 b2))) X292 hx hby hZ fb292 rfl (by decide) rfl at_237 (pc' := 238) rfl ?_
    refine g_lload X292 hx hby at_238 rfl (pc' := 240) rfl ?_
    refine g_lcmp_ne X292 hx hby at_240 (pc1 := 241) rfl at_241 (by decide) (pc' := 268) (by decide) (pc2 := 244) rfl (fun q => absurd r2.symm q) (fun c240_297 => ?_)
    refine g_aload X292 hx hby at_244 rfl rfl (pc' := 246) rfl ?_
    refine g_iconst (v := 1) X292 hx hby at_246 rfl (pc' := 247) rfl ?_
    refine g_laload (i := 1) (v := (.long (own_eb1 a1 a2 b1 b2))) X292 hx hby hZ fa292 rfl (by decide) rfl at_247 (pc' := 248) rfl ?_
    refine g_lload X292 hx hby at_248 rfl (pc' := 250) rfl ?_
    refine g_lcmp_ne X292 hx hby at_250 (pc1 := 251) rfl at_251 (by decide) (pc' := 268) (by decide) (pc2 := 254) rfl (fun q => absurd r3.symm q) (fun c250_298 => ?_)
    refine g_aload X292 hx hby at_254 rfl rfl (pc' := 256) rfl ?_
    refine g_iconst (v := 1) X292 hx hby at_256 rfl (pc' := 257) rfl ?_
    refine g_laload (i := 1) (v := (.long (own_eb2 a1 a2 b1 b2))) X292 hx hby hZ fb292 rfl (by decide) rfl at_257 (pc' := 258) rfl ?_
    refine g_lload X292 hx hby at_258 rfl (pc' := 260) rfl ?_
    refine g_lcmp_ne X292 hx hby at_260 (pc1 := 261) rfl at_261 (by decide) (pc' := 268) (by decide) (pc2 := 264) rfl (fun q => absurd r4.symm q) (fun c260_299 => ?_)
    refine g_iconst (v := 1) X292 hx hby at_264 rfl (pc' := 265) rfl ?_
    refine g_goto X292 hx hby at_265 (by decide) (pc' := 269) (by decide) ?_
    exact g_retN X292 hx hby hret hlk (by simp) at_269 rfl (by decide) (by decide)
  refine g_lload X288 hx hby at_62 rfl (pc' := 64) rfl ?_
  refine g_lload X288 hx hby at_64 rfl (pc' := 66) rfl ?_
  refine g_lcmp_ne X288 hx hby at_66 (pc1 := 67) rfl at_67 (by decide) (pc' := 74) (by decide) (pc2 := 70) rfl (fun c66_300 => ?_) (fun c66_300 => ?_)
  · refine g_iconst (v := 0) X288 hx hby at_74 rfl (pc' := 75) rfl ?_
    refine g_istore (L' := #[.val (.long y0), .second, .val (.long y1), .second, .val (.long y2), .second, .val (.long y3), .second, .val (.long a1), .second, .val (.long a2), .second, .val (.long b1), .second, .val (.long b2), .second, .val (.ref b266), .val (.ref b277), .val (.int (0 : Int32)), .unset, .unset, .unset, .unset, .unset, .unset, .unset, .unset, .unset, .unset, .unset]) X288 hx hby at_75 rfl (pc' := 77) rfl ?_
    refine g_lload X288 hx hby at_77 rfl (pc' := 79) rfl ?_
    refine g_lload X288 hx hby at_79 rfl (pc' := 81) rfl ?_
    refine g_lcmp_ne X288 hx hby at_81 (pc1 := 82) rfl at_82 (by decide) (pc' := 89) (by decide) (pc2 := 85) rfl (fun c81_301 => ?_) (fun c81_301 => ?_)
    · refine g_iconst (v := 0) X288 hx hby at_89 rfl (pc' := 90) rfl ?_
      refine g_istore (L' := #[.val (.long y0), .second, .val (.long y1), .second, .val (.long y2), .second, .val (.long y3), .second, .val (.long a1), .second, .val (.long a2), .second, .val (.long b1), .second, .val (.long b2), .second, .val (.ref b266), .val (.ref b277), .val (.int (0 : Int32)), .val (.int (0 : Int32)), .unset, .unset, .unset, .unset, .unset, .unset, .unset, .unset, .unset, .unset]) X288 hx hby at_90 rfl (pc' := 92) rfl ?_
      refine g_lload X288 hx hby at_92 rfl (pc' := 94) rfl ?_
      refine g_lstore (L' := #[.val (.long y0), .second, .val (.long y1), .second, .val (.long y2), .second, .val (.long y3), .second, .val (.long a1), .second, .val (.long a2), .second, .val (.long b1), .second, .val (.long b2), .second, .val (.ref b266), .val (.ref b277), .val (.int (0 : Int32)), .val (.int (0 : Int32)), .val (.long a1), .second, .unset, .unset, .unset, .unset, .unset, .unset, .unset, .unset]) X288 hx hby at_94 rfl (pc' := 96) rfl ?_
      refine g_lload X288 hx hby at_96 rfl (pc' := 98) rfl ?_
      refine g_lstore (L' := #[.val (.long y0), .second, .val (.long y1), .second, .val (.long y2), .second, .val (.long y3), .second, .val (.long a1), .second, .val (.long a2), .second, .val (.long b1), .second, .val (.long b2), .second, .val (.ref b266), .val (.ref b277), .val (.int (0 : Int32)), .val (.int (0 : Int32)), .val (.long a1), .second, .val (.long a2), .second, .unset, .unset, .unset, .unset, .unset, .unset]) X288 hx hby at_98 rfl (pc' := 100) rfl ?_
      refine g_lload X288 hx hby at_100 rfl (pc' := 102) rfl ?_
      refine g_lstore (L' := #[.val (.long y0), .second, .val (.long y1), .second, .val (.long y2), .second, .val (.long y3), .second, .val (.long a1), .second, .val (.long a2), .second, .val (.long b1), .second, .val (.long b2), .second, .val (.ref b266), .val (.ref b277), .val (.int (0 : Int32)), .val (.int (0 : Int32)), .val (.long a1), .second, .val (.long a2), .second, .val (.long b1), .second, .unset, .unset, .unset, .unset]) X288 hx hby at_102 rfl (pc' := 104) rfl ?_
      refine g_lload X288 hx hby at_104 rfl (pc' := 106) rfl ?_
      refine g_lstore (L' := #[.val (.long y0), .second, .val (.long y1), .second, .val (.long y2), .second, .val (.long y3), .second, .val (.long a1), .second, .val (.long a2), .second, .val (.long b1), .second, .val (.long b2), .second, .val (.ref b266), .val (.ref b277), .val (.int (0 : Int32)), .val (.int (0 : Int32)), .val (.long a1), .second, .val (.long a2), .second, .val (.long b1), .second, .val (.long b2), .second, .unset, .unset]) X288 hx hby at_106 rfl (pc' := 108) rfl ?_
      refine g_iconst (v := 1) X288 hx hby at_108 rfl (pc' := 109) rfl ?_
      refine g_istore (L' := #[.val (.long y0), .second, .val (.long y1), .second, .val (.long y2), .second, .val (.long y3), .second, .val (.long a1), .second, .val (.long a2), .second, .val (.long b1), .second, .val (.long b2), .second, .val (.ref b266), .val (.ref b277), .val (.int (0 : Int32)), .val (.int (0 : Int32)), .val (.long a1), .second, .val (.long a2), .second, .val (.long b1), .second, .val (.long b2), .second, .val (.int (1 : Int32)), .unset]) X288 hx hby at_109 rfl (pc' := 111) rfl ?_
      refine g_iload X288 hx hby at_111 rfl (pc' := 113) rfl ?_
      refine g_if_eq X288 hx hby at_113 (by decide) (pc' := 139) (by decide) (pc2 := 116) rfl (fun c113_302 => ?_) (fun q => absurd (by decide) q)
      refine g_iload X288 hx hby at_139 rfl (pc' := 141) rfl ?_
      refine g_if_eq X288 hx hby at_141 (by decide) (pc' := 175) (by decide) (pc2 := 144) rfl (fun c141_303 => ?_) (fun q => absurd (by decide) q)
      refine g_iload X288 hx hby at_175 rfl (pc' := 177) rfl ?_
      refine g_if_eq X288 hx hby at_177 (by decide) (pc' := 208) (by decide) (pc2 := 180) rfl (fun c177_304 => ?_) (fun q => absurd (by decide) q)
      exact J208 _ _ _ _ _ _ _ (show (1 : Int32) = own_left a1 a2 b1 b2 by unfold own_left; simp only [Int64.toInt_inj]; (repeat' split) <;> first | rfl | (exfalso; simp_all)) (show a1 = own_ea1 a1 a2 b1 b2 by unfold own_ea1; simp only [Int64.toInt_inj]; (repeat' split) <;> first | rfl | (exfalso; simp_all)) (show a2 = own_ea2 a1 a2 b1 b2 by unfold own_ea2; simp only [Int64.toInt_inj]; (repeat' split) <;> first | rfl | (exfalso; simp_all)) (show b1 = own_eb1 a1 a2 b1 b2 by unfold own_eb1; simp only [Int64.toInt_inj]; (repeat' split) <;> first | rfl | (exfalso; simp_all)) (show b2 = own_eb2 a1 a2 b1 b2 by unfold own_eb2; simp only [Int64.toInt_inj]; (repeat' split) <;> first | rfl | (exfalso; simp_all))
    · refine g_iconst (v := 1) X288 hx hby at_85 rfl (pc' := 86) rfl ?_
      refine g_goto X288 hx hby at_86 (by decide) (pc' := 90) (by decide) ?_
      refine g_istore (L' := #[.val (.long y0), .second, .val (.long y1), .second, .val (.long y2), .second, .val (.long y3), .second, .val (.long a1), .second, .val (.long a2), .second, .val (.long b1), .second, .val (.long b2), .second, .val (.ref b266), .val (.ref b277), .val (.int (0 : Int32)), .val (.int (1 : Int32)), .unset, .unset, .unset, .unset, .unset, .unset, .unset, .unset, .unset, .unset]) X288 hx hby at_90 rfl (pc' := 92) rfl ?_
      refine g_lload X288 hx hby at_92 rfl (pc' := 94) rfl ?_
      refine g_lstore (L' := #[.val (.long y0), .second, .val (.long y1), .second, .val (.long y2), .second, .val (.long y3), .second, .val (.long a1), .second, .val (.long a2), .second, .val (.long b1), .second, .val (.long b2), .second, .val (.ref b266), .val (.ref b277), .val (.int (0 : Int32)), .val (.int (1 : Int32)), .val (.long a1), .second, .unset, .unset, .unset, .unset, .unset, .unset, .unset, .unset]) X288 hx hby at_94 rfl (pc' := 96) rfl ?_
      refine g_lload X288 hx hby at_96 rfl (pc' := 98) rfl ?_
      refine g_lstore (L' := #[.val (.long y0), .second, .val (.long y1), .second, .val (.long y2), .second, .val (.long y3), .second, .val (.long a1), .second, .val (.long a2), .second, .val (.long b1), .second, .val (.long b2), .second, .val (.ref b266), .val (.ref b277), .val (.int (0 : Int32)), .val (.int (1 : Int32)), .val (.long a1), .second, .val (.long a2), .second, .unset, .unset, .unset, .unset, .unset, .unset]) X288 hx hby at_98 rfl (pc' := 100) rfl ?_
      refine g_lload X288 hx hby at_100 rfl (pc' := 102) rfl ?_
      refine g_lstore (L' := #[.val (.long y0), .second, .val (.long y1), .second, .val (.long y2), .second, .val (.long y3), .second, .val (.long a1), .second, .val (.long a2), .second, .val (.long b1), .second, .val (.long b2), .second, .val (.ref b266), .val (.ref b277), .val (.int (0 : Int32)), .val (.int (1 : Int32)), .val (.long a1), .second, .val (.long a2), .second, .val (.long b1), .second, .unset, .unset, .unset, .unset]) X288 hx hby at_102 rfl (pc' := 104) rfl ?_
      refine g_lload X288 hx hby at_104 rfl (pc' := 106) rfl ?_
      refine g_lstore (L' := #[.val (.long y0), .second, .val (.long y1), .second, .val (.long y2), .second, .val (.long y3), .second, .val (.long a1), .second, .val (.long a2), .second, .val (.long b1), .second, .val (.long b2), .second, .val (.ref b266), .val (.ref b277), .val (.int (0 : Int32)), .val (.int (1 : Int32)), .val (.long a1), .second, .val (.long a2), .second, .val (.long b1), .second, .val (.long b2), .second, .unset, .unset]) X288 hx hby at_106 rfl (pc' := 108) rfl ?_
      refine g_iconst (v := 1) X288 hx hby at_108 rfl (pc' := 109) rfl ?_
      refine g_istore (L' := #[.val (.long y0), .second, .val (.long y1), .second, .val (.long y2), .second, .val (.long y3), .second, .val (.long a1), .second, .val (.long a2), .second, .val (.long b1), .second, .val (.long b2), .second, .val (.ref b266), .val (.ref b277), .val (.int (0 : Int32)), .val (.int (1 : Int32)), .val (.long a1), .second, .val (.long a2), .second, .val (.long b1), .second, .val (.long b2), .second, .val (.int (1 : Int32)), .unset]) X288 hx hby at_109 rfl (pc' := 111) rfl ?_
      refine g_iload X288 hx hby at_111 rfl (pc' := 113) rfl ?_
      refine g_if_eq X288 hx hby at_113 (by decide) (pc' := 139) (by decide) (pc2 := 116) rfl (fun c113_305 => ?_) (fun q => absurd (by decide) q)
      refine g_iload X288 hx hby at_139 rfl (pc' := 141) rfl ?_
      refine g_if_eq X288 hx hby at_141 (by decide) (pc' := 175) (by decide) (pc2 := 144) rfl (fun c141_306 => ?_) (fun q => absurd (by decide) q)
      refine g_iload X288 hx hby at_175 rfl (pc' := 177) rfl ?_
      refine g_if_eq X288 hx hby at_177 (by decide) (pc' := 208) (by decide) (pc2 := 180) rfl (fun q => absurd q (by decide)) (fun c177_307 => ?_)
      refine g_lload X288 hx hby at_180 rfl (pc' := 182) rfl ?_
      refine g_lload X288 hx hby at_182 rfl (pc' := 184) rfl ?_
      refine g_lcmp_ne X288 hx hby at_184 (pc1 := 185) rfl at_185 (by decide) (pc' := 194) (by decide) (pc2 := 188) rfl (fun c184_308 => ?_) (fun c184_308 => ?_)
      · refine g_lload X288 hx hby at_194 rfl (pc' := 196) rfl ?_
        refine g_lload X288 hx hby at_196 rfl (pc' := 198) rfl ?_
        refine g_lcmp_ne X288 hx hby at_198 (pc1 := 199) rfl at_199 (by decide) (pc' := 208) (by decide) (pc2 := 202) rfl (fun c198_309 => ?_) (fun c198_309 => ?_)
        · exact J208 _ _ _ _ _ _ _ (show (1 : Int32) = own_left a1 a2 b1 b2 by unfold own_left; simp only [Int64.toInt_inj]; (repeat' split) <;> first | rfl | (exfalso; simp_all)) (show a1 = own_ea1 a1 a2 b1 b2 by unfold own_ea1; simp only [Int64.toInt_inj]; (repeat' split) <;> first | rfl | (exfalso; simp_all)) (show a2 = own_ea2 a1 a2 b1 b2 by unfold own_ea2; simp only [Int64.toInt_inj]; (repeat' split) <;> first | rfl | (exfalso; simp_all)) (show b1 = own_eb1 a1 a2 b1 b2 by unfold own_eb1; simp only [Int64.toInt_inj]; (repeat' split) <;> first | rfl | (exfalso; simp_all)) (show b2 = own_eb2 a1 a2 b1 b2 by unfold own_eb2; simp only [Int64.toInt_inj]; (repeat' split) <;> first | rfl | (exfalso; simp_all))
        · refine g_lload X288 hx hby at_202 rfl (pc' := 204) rfl ?_
          refine g_lconst (v := 1) X288 hx hby at_204 rfl (pc' := 205) rfl ?_
          refine g_lsub X288 hx hby at_205 (pc' := 206) rfl ?_
          refine g_lstore (L' := #[.val (.long y0), .second, .val (.long y1), .second, .val (.long y2), .second, .val (.long y3), .second, .val (.long a1), .second, .val (.long a2), .second, .val (.long b1), .second, .val (.long b2), .second, .val (.ref b266), .val (.ref b277), .val (.int (0 : Int32)), .val (.int (1 : Int32)), .val (.long a1), .second, .val (.long (b1 - (1 : Int64))), .second, .val (.long b1), .second, .val (.long b2), .second, .val (.int (1 : Int32)), .unset]) X288 hx hby at_206 rfl (pc' := 208) rfl ?_
          exact J208 _ _ _ _ _ _ _ (show (1 : Int32) = own_left a1 a2 b1 b2 by unfold own_left; simp only [Int64.toInt_inj]; (repeat' split) <;> first | rfl | (exfalso; simp_all)) (show a1 = own_ea1 a1 a2 b1 b2 by unfold own_ea1; simp only [Int64.toInt_inj]; (repeat' split) <;> first | rfl | (exfalso; simp_all)) (show (b1 - (1 : Int64)) = own_ea2 a1 a2 b1 b2 by unfold own_ea2; simp only [Int64.toInt_inj]; (repeat' split) <;> first | rfl | (exfalso; simp_all)) (show b1 = own_eb1 a1 a2 b1 b2 by unfold own_eb1; simp only [Int64.toInt_inj]; (repeat' split) <;> first | rfl | (exfalso; simp_all)) (show b2 = own_eb2 a1 a2 b1 b2 by unfold own_eb2; simp only [Int64.toInt_inj]; (repeat' split) <;> first | rfl | (exfalso; simp_all))
      · refine g_lload X288 hx hby at_188 rfl (pc' := 190) rfl ?_
        refine g_lconst (v := 1) X288 hx hby at_190 rfl (pc' := 191) rfl ?_
        refine g_ladd X288 hx hby at_191 (pc' := 192) rfl ?_
        refine g_lstore (L' := #[.val (.long y0), .second, .val (.long y1), .second, .val (.long y2), .second, .val (.long y3), .second, .val (.long a1), .second, .val (.long a2), .second, .val (.long b1), .second, .val (.long b2), .second, .val (.ref b266), .val (.ref b277), .val (.int (0 : Int32)), .val (.int (1 : Int32)), .val (.long (b1 + (1 : Int64))), .second, .val (.long a2), .second, .val (.long b1), .second, .val (.long b2), .second, .val (.int (1 : Int32)), .unset]) X288 hx hby at_192 rfl (pc' := 194) rfl ?_
        refine g_lload X288 hx hby at_194 rfl (pc' := 196) rfl ?_
        refine g_lload X288 hx hby at_196 rfl (pc' := 198) rfl ?_
        refine g_lcmp_ne X288 hx hby at_198 (pc1 := 199) rfl at_199 (by decide) (pc' := 208) (by decide) (pc2 := 202) rfl (fun c198_310 => ?_) (fun c198_310 => ?_)
        · exact J208 _ _ _ _ _ _ _ (show (1 : Int32) = own_left a1 a2 b1 b2 by unfold own_left; simp only [Int64.toInt_inj]; (repeat' split) <;> first | rfl | (exfalso; simp_all)) (show (b1 + (1 : Int64)) = own_ea1 a1 a2 b1 b2 by unfold own_ea1; simp only [Int64.toInt_inj]; (repeat' split) <;> first | rfl | (exfalso; simp_all)) (show a2 = own_ea2 a1 a2 b1 b2 by unfold own_ea2; simp only [Int64.toInt_inj]; (repeat' split) <;> first | rfl | (exfalso; simp_all)) (show b1 = own_eb1 a1 a2 b1 b2 by unfold own_eb1; simp only [Int64.toInt_inj]; (repeat' split) <;> first | rfl | (exfalso; simp_all)) (show b2 = own_eb2 a1 a2 b1 b2 by unfold own_eb2; simp only [Int64.toInt_inj]; (repeat' split) <;> first | rfl | (exfalso; simp_all))
        · refine g_lload X288 hx hby at_202 rfl (pc' := 204) rfl ?_
          refine g_lconst (v := 1) X288 hx hby at_204 rfl (pc' := 205) rfl ?_
          refine g_lsub X288 hx hby at_205 (pc' := 206) rfl ?_
          refine g_lstore (L' := #[.val (.long y0), .second, .val (.long y1), .second, .val (.long y2), .second, .val (.long y3), .second, .val (.long a1), .second, .val (.long a2), .second, .val (.long b1), .second, .val (.long b2), .second, .val (.ref b266), .val (.ref b277), .val (.int (0 : Int32)), .val (.int (1 : Int32)), .val (.long (b1 + (1 : Int64))), .second, .val (.long (b1 - (1 : Int64))), .second, .val (.long b1), .second, .val (.long b2), .second, .val (.int (1 : Int32)), .unset]) X288 hx hby at_206 rfl (pc' := 208) rfl ?_
          exact J208 _ _ _ _ _ _ _ (show (1 : Int32) = own_left a1 a2 b1 b2 by unfold own_left; simp only [Int64.toInt_inj]; (repeat' split) <;> first | rfl | (exfalso; simp_all)) (show (b1 + (1 : Int64)) = own_ea1 a1 a2 b1 b2 by unfold own_ea1; simp only [Int64.toInt_inj]; (repeat' split) <;> first | rfl | (exfalso; simp_all)) (show (b1 - (1 : Int64)) = own_ea2 a1 a2 b1 b2 by unfold own_ea2; simp only [Int64.toInt_inj]; (repeat' split) <;> first | rfl | (exfalso; simp_all)) (show b1 = own_eb1 a1 a2 b1 b2 by unfold own_eb1; simp only [Int64.toInt_inj]; (repeat' split) <;> first | rfl | (exfalso; simp_all)) (show b2 = own_eb2 a1 a2 b1 b2 by unfold own_eb2; simp only [Int64.toInt_inj]; (repeat' split) <;> first | rfl | (exfalso; simp_all))
  · refine g_iconst (v := 1) X288 hx hby at_70 rfl (pc' := 71) rfl ?_
    refine g_goto X288 hx hby at_71 (by decide) (pc' := 75) (by decide) ?_
    refine g_istore (L' := #[.val (.long y0), .second, .val (.long y1), .second, .val (.long y2), .second, .val (.long y3), .second, .val (.long a1), .second, .val (.long a2), .second, .val (.long b1), .second, .val (.long b2), .second, .val (.ref b266), .val (.ref b277), .val (.int (1 : Int32)), .unset, .unset, .unset, .unset, .unset, .unset, .unset, .unset, .unset, .unset, .unset]) X288 hx hby at_75 rfl (pc' := 77) rfl ?_
    refine g_lload X288 hx hby at_77 rfl (pc' := 79) rfl ?_
    refine g_lload X288 hx hby at_79 rfl (pc' := 81) rfl ?_
    refine g_lcmp_ne X288 hx hby at_81 (pc1 := 82) rfl at_82 (by decide) (pc' := 89) (by decide) (pc2 := 85) rfl (fun c81_311 => ?_) (fun c81_311 => ?_)
    · refine g_iconst (v := 0) X288 hx hby at_89 rfl (pc' := 90) rfl ?_
      refine g_istore (L' := #[.val (.long y0), .second, .val (.long y1), .second, .val (.long y2), .second, .val (.long y3), .second, .val (.long a1), .second, .val (.long a2), .second, .val (.long b1), .second, .val (.long b2), .second, .val (.ref b266), .val (.ref b277), .val (.int (1 : Int32)), .val (.int (0 : Int32)), .unset, .unset, .unset, .unset, .unset, .unset, .unset, .unset, .unset, .unset]) X288 hx hby at_90 rfl (pc' := 92) rfl ?_
      refine g_lload X288 hx hby at_92 rfl (pc' := 94) rfl ?_
      refine g_lstore (L' := #[.val (.long y0), .second, .val (.long y1), .second, .val (.long y2), .second, .val (.long y3), .second, .val (.long a1), .second, .val (.long a2), .second, .val (.long b1), .second, .val (.long b2), .second, .val (.ref b266), .val (.ref b277), .val (.int (1 : Int32)), .val (.int (0 : Int32)), .val (.long a1), .second, .unset, .unset, .unset, .unset, .unset, .unset, .unset, .unset]) X288 hx hby at_94 rfl (pc' := 96) rfl ?_
      refine g_lload X288 hx hby at_96 rfl (pc' := 98) rfl ?_
      refine g_lstore (L' := #[.val (.long y0), .second, .val (.long y1), .second, .val (.long y2), .second, .val (.long y3), .second, .val (.long a1), .second, .val (.long a2), .second, .val (.long b1), .second, .val (.long b2), .second, .val (.ref b266), .val (.ref b277), .val (.int (1 : Int32)), .val (.int (0 : Int32)), .val (.long a1), .second, .val (.long a2), .second, .unset, .unset, .unset, .unset, .unset, .unset]) X288 hx hby at_98 rfl (pc' := 100) rfl ?_
      refine g_lload X288 hx hby at_100 rfl (pc' := 102) rfl ?_
      refine g_lstore (L' := #[.val (.long y0), .second, .val (.long y1), .second, .val (.long y2), .second, .val (.long y3), .second, .val (.long a1), .second, .val (.long a2), .second, .val (.long b1), .second, .val (.long b2), .second, .val (.ref b266), .val (.ref b277), .val (.int (1 : Int32)), .val (.int (0 : Int32)), .val (.long a1), .second, .val (.long a2), .second, .val (.long b1), .second, .unset, .unset, .unset, .unset]) X288 hx hby at_102 rfl (pc' := 104) rfl ?_
      refine g_lload X288 hx hby at_104 rfl (pc' := 106) rfl ?_
      refine g_lstore (L' := #[.val (.long y0), .second, .val (.long y1), .second, .val (.long y2), .second, .val (.long y3), .second, .val (.long a1), .second, .val (.long a2), .second, .val (.long b1), .second, .val (.long b2), .second, .val (.ref b266), .val (.ref b277), .val (.int (1 : Int32)), .val (.int (0 : Int32)), .val (.long a1), .second, .val (.long a2), .second, .val (.long b1), .second, .val (.long b2), .second, .unset, .unset]) X288 hx hby at_106 rfl (pc' := 108) rfl ?_
      refine g_iconst (v := 1) X288 hx hby at_108 rfl (pc' := 109) rfl ?_
      refine g_istore (L' := #[.val (.long y0), .second, .val (.long y1), .second, .val (.long y2), .second, .val (.long y3), .second, .val (.long a1), .second, .val (.long a2), .second, .val (.long b1), .second, .val (.long b2), .second, .val (.ref b266), .val (.ref b277), .val (.int (1 : Int32)), .val (.int (0 : Int32)), .val (.long a1), .second, .val (.long a2), .second, .val (.long b1), .second, .val (.long b2), .second, .val (.int (1 : Int32)), .unset]) X288 hx hby at_109 rfl (pc' := 111) rfl ?_
      refine g_iload X288 hx hby at_111 rfl (pc' := 113) rfl ?_
      refine g_if_eq X288 hx hby at_113 (by decide) (pc' := 139) (by decide) (pc2 := 116) rfl (fun q => absurd q (by decide)) (fun c113_312 => ?_)
      refine g_iload X288 hx hby at_116 rfl (pc' := 118) rfl ?_
      refine g_if_eq X288 hx hby at_118 (by decide) (pc' := 139) (by decide) (pc2 := 121) rfl (fun c118_313 => ?_) (fun q => absurd (by decide) q)
      refine g_iload X288 hx hby at_139 rfl (pc' := 141) rfl ?_
      refine g_if_eq X288 hx hby at_141 (by decide) (pc' := 175) (by decide) (pc2 := 144) rfl (fun q => absurd q (by decide)) (fun c141_314 => ?_)
      refine g_lload X288 hx hby at_144 rfl (pc' := 146) rfl ?_
      refine g_lload X288 hx hby at_146 rfl (pc' := 148) rfl ?_
      refine g_lcmp_ne X288 hx hby at_148 (pc1 := 149) rfl at_149 (by decide) (pc' := 158) (by decide) (pc2 := 152) rfl (fun c148_315 => ?_) (fun c148_315 => ?_)
      · refine g_lload X288 hx hby at_158 rfl (pc' := 160) rfl ?_
        refine g_lload X288 hx hby at_160 rfl (pc' := 162) rfl ?_
        refine g_lcmp_ne X288 hx hby at_162 (pc1 := 163) rfl at_163 (by decide) (pc' := 208) (by decide) (pc2 := 166) rfl (fun c162_316 => ?_) (fun c162_316 => ?_)
        · exact J208 _ _ _ _ _ _ _ (show (1 : Int32) = own_left a1 a2 b1 b2 by unfold own_left; simp only [Int64.toInt_inj]; (repeat' split) <;> first | rfl | (exfalso; simp_all)) (show a1 = own_ea1 a1 a2 b1 b2 by unfold own_ea1; simp only [Int64.toInt_inj]; (repeat' split) <;> first | rfl | (exfalso; simp_all)) (show a2 = own_ea2 a1 a2 b1 b2 by unfold own_ea2; simp only [Int64.toInt_inj]; (repeat' split) <;> first | rfl | (exfalso; simp_all)) (show b1 = own_eb1 a1 a2 b1 b2 by unfold own_eb1; simp only [Int64.toInt_inj]; (repeat' split) <;> first | rfl | (exfalso; simp_all)) (show b2 = own_eb2 a1 a2 b1 b2 by unfold own_eb2; simp only [Int64.toInt_inj]; (repeat' split) <;> first | rfl | (exfalso; simp_all))
        · refine g_lload X288 hx hby at_166 rfl (pc' := 168) rfl ?_
          refine g_lconst (v := 1) X288 hx hby at_168 rfl (pc' := 169) rfl ?_
          refine g_lsub X288 hx hby at_169 (pc' := 170) rfl ?_
          refine g_lstore (L' := #[.val (.long y0), .second, .val (.long y1), .second, .val (.long y2), .second, .val (.long y3), .second, .val (.long a1), .second, .val (.long a2), .second, .val (.long b1), .second, .val (.long b2), .second, .val (.ref b266), .val (.ref b277), .val (.int (1 : Int32)), .val (.int (0 : Int32)), .val (.long a1), .second, .val (.long a2), .second, .val (.long b1), .second, .val (.long (a1 - (1 : Int64))), .second, .val (.int (1 : Int32)), .unset]) X288 hx hby at_170 rfl (pc' := 172) rfl ?_
          refine g_goto X288 hx hby at_172 (by decide) (pc' := 208) (by decide) ?_
          exact J208 _ _ _ _ _ _ _ (show (1 : Int32) = own_left a1 a2 b1 b2 by unfold own_left; simp only [Int64.toInt_inj]; (repeat' split) <;> first | rfl | (exfalso; simp_all)) (show a1 = own_ea1 a1 a2 b1 b2 by unfold own_ea1; simp only [Int64.toInt_inj]; (repeat' split) <;> first | rfl | (exfalso; simp_all)) (show a2 = own_ea2 a1 a2 b1 b2 by unfold own_ea2; simp only [Int64.toInt_inj]; (repeat' split) <;> first | rfl | (exfalso; simp_all)) (show b1 = own_eb1 a1 a2 b1 b2 by unfold own_eb1; simp only [Int64.toInt_inj]; (repeat' split) <;> first | rfl | (exfalso; simp_all)) (show (a1 - (1 : Int64)) = own_eb2 a1 a2 b1 b2 by unfold own_eb2; simp only [Int64.toInt_inj]; (repeat' split) <;> first | rfl | (exfalso; simp_all))
      · refine g_lload X288 hx hby at_152 rfl (pc' := 154) rfl ?_
        refine g_lconst (v := 1) X288 hx hby at_154 rfl (pc' := 155) rfl ?_
        refine g_ladd X288 hx hby at_155 (pc' := 156) rfl ?_
        refine g_lstore (L' := #[.val (.long y0), .second, .val (.long y1), .second, .val (.long y2), .second, .val (.long y3), .second, .val (.long a1), .second, .val (.long a2), .second, .val (.long b1), .second, .val (.long b2), .second, .val (.ref b266), .val (.ref b277), .val (.int (1 : Int32)), .val (.int (0 : Int32)), .val (.long a1), .second, .val (.long a2), .second, .val (.long (a1 + (1 : Int64))), .second, .val (.long b2), .second, .val (.int (1 : Int32)), .unset]) X288 hx hby at_156 rfl (pc' := 158) rfl ?_
        refine g_lload X288 hx hby at_158 rfl (pc' := 160) rfl ?_
        refine g_lload X288 hx hby at_160 rfl (pc' := 162) rfl ?_
        refine g_lcmp_ne X288 hx hby at_162 (pc1 := 163) rfl at_163 (by decide) (pc' := 208) (by decide) (pc2 := 166) rfl (fun c162_317 => ?_) (fun c162_317 => ?_)
        · exact J208 _ _ _ _ _ _ _ (show (1 : Int32) = own_left a1 a2 b1 b2 by unfold own_left; simp only [Int64.toInt_inj]; (repeat' split) <;> first | rfl | (exfalso; simp_all)) (show a1 = own_ea1 a1 a2 b1 b2 by unfold own_ea1; simp only [Int64.toInt_inj]; (repeat' split) <;> first | rfl | (exfalso; simp_all)) (show a2 = own_ea2 a1 a2 b1 b2 by unfold own_ea2; simp only [Int64.toInt_inj]; (repeat' split) <;> first | rfl | (exfalso; simp_all)) (show (a1 + (1 : Int64)) = own_eb1 a1 a2 b1 b2 by unfold own_eb1; simp only [Int64.toInt_inj]; (repeat' split) <;> first | rfl | (exfalso; simp_all)) (show b2 = own_eb2 a1 a2 b1 b2 by unfold own_eb2; simp only [Int64.toInt_inj]; (repeat' split) <;> first | rfl | (exfalso; simp_all))
        · refine g_lload X288 hx hby at_166 rfl (pc' := 168) rfl ?_
          refine g_lconst (v := 1) X288 hx hby at_168 rfl (pc' := 169) rfl ?_
          refine g_lsub X288 hx hby at_169 (pc' := 170) rfl ?_
          refine g_lstore (L' := #[.val (.long y0), .second, .val (.long y1), .second, .val (.long y2), .second, .val (.long y3), .second, .val (.long a1), .second, .val (.long a2), .second, .val (.long b1), .second, .val (.long b2), .second, .val (.ref b266), .val (.ref b277), .val (.int (1 : Int32)), .val (.int (0 : Int32)), .val (.long a1), .second, .val (.long a2), .second, .val (.long (a1 + (1 : Int64))), .second, .val (.long (a1 - (1 : Int64))), .second, .val (.int (1 : Int32)), .unset]) X288 hx hby at_170 rfl (pc' := 172) rfl ?_
          refine g_goto X288 hx hby at_172 (by decide) (pc' := 208) (by decide) ?_
          exact J208 _ _ _ _ _ _ _ (show (1 : Int32) = own_left a1 a2 b1 b2 by unfold own_left; simp only [Int64.toInt_inj]; (repeat' split) <;> first | rfl | (exfalso; simp_all)) (show a1 = own_ea1 a1 a2 b1 b2 by unfold own_ea1; simp only [Int64.toInt_inj]; (repeat' split) <;> first | rfl | (exfalso; simp_all)) (show a2 = own_ea2 a1 a2 b1 b2 by unfold own_ea2; simp only [Int64.toInt_inj]; (repeat' split) <;> first | rfl | (exfalso; simp_all)) (show (a1 + (1 : Int64)) = own_eb1 a1 a2 b1 b2 by unfold own_eb1; simp only [Int64.toInt_inj]; (repeat' split) <;> first | rfl | (exfalso; simp_all)) (show (a1 - (1 : Int64)) = own_eb2 a1 a2 b1 b2 by unfold own_eb2; simp only [Int64.toInt_inj]; (repeat' split) <;> first | rfl | (exfalso; simp_all))
    · refine g_iconst (v := 1) X288 hx hby at_85 rfl (pc' := 86) rfl ?_
      refine g_goto X288 hx hby at_86 (by decide) (pc' := 90) (by decide) ?_
      refine g_istore (L' := #[.val (.long y0), .second, .val (.long y1), .second, .val (.long y2), .second, .val (.long y3), .second, .val (.long a1), .second, .val (.long a2), .second, .val (.long b1), .second, .val (.long b2), .second, .val (.ref b266), .val (.ref b277), .val (.int (1 : Int32)), .val (.int (1 : Int32)), .unset, .unset, .unset, .unset, .unset, .unset, .unset, .unset, .unset, .unset]) X288 hx hby at_90 rfl (pc' := 92) rfl ?_
      refine g_lload X288 hx hby at_92 rfl (pc' := 94) rfl ?_
      refine g_lstore (L' := #[.val (.long y0), .second, .val (.long y1), .second, .val (.long y2), .second, .val (.long y3), .second, .val (.long a1), .second, .val (.long a2), .second, .val (.long b1), .second, .val (.long b2), .second, .val (.ref b266), .val (.ref b277), .val (.int (1 : Int32)), .val (.int (1 : Int32)), .val (.long a1), .second, .unset, .unset, .unset, .unset, .unset, .unset, .unset, .unset]) X288 hx hby at_94 rfl (pc' := 96) rfl ?_
      refine g_lload X288 hx hby at_96 rfl (pc' := 98) rfl ?_
      refine g_lstore (L' := #[.val (.long y0), .second, .val (.long y1), .second, .val (.long y2), .second, .val (.long y3), .second, .val (.long a1), .second, .val (.long a2), .second, .val (.long b1), .second, .val (.long b2), .second, .val (.ref b266), .val (.ref b277), .val (.int (1 : Int32)), .val (.int (1 : Int32)), .val (.long a1), .second, .val (.long a2), .second, .unset, .unset, .unset, .unset, .unset, .unset]) X288 hx hby at_98 rfl (pc' := 100) rfl ?_
      refine g_lload X288 hx hby at_100 rfl (pc' := 102) rfl ?_
      refine g_lstore (L' := #[.val (.long y0), .second, .val (.long y1), .second, .val (.long y2), .second, .val (.long y3), .second, .val (.long a1), .second, .val (.long a2), .second, .val (.long b1), .second, .val (.long b2), .second, .val (.ref b266), .val (.ref b277), .val (.int (1 : Int32)), .val (.int (1 : Int32)), .val (.long a1), .second, .val (.long a2), .second, .val (.long b1), .second, .unset, .unset, .unset, .unset]) X288 hx hby at_102 rfl (pc' := 104) rfl ?_
      refine g_lload X288 hx hby at_104 rfl (pc' := 106) rfl ?_
      refine g_lstore (L' := #[.val (.long y0), .second, .val (.long y1), .second, .val (.long y2), .second, .val (.long y3), .second, .val (.long a1), .second, .val (.long a2), .second, .val (.long b1), .second, .val (.long b2), .second, .val (.ref b266), .val (.ref b277), .val (.int (1 : Int32)), .val (.int (1 : Int32)), .val (.long a1), .second, .val (.long a2), .second, .val (.long b1), .second, .val (.long b2), .second, .unset, .unset]) X288 hx hby at_106 rfl (pc' := 108) rfl ?_
      refine g_iconst (v := 1) X288 hx hby at_108 rfl (pc' := 109) rfl ?_
      refine g_istore (L' := #[.val (.long y0), .second, .val (.long y1), .second, .val (.long y2), .second, .val (.long y3), .second, .val (.long a1), .second, .val (.long a2), .second, .val (.long b1), .second, .val (.long b2), .second, .val (.ref b266), .val (.ref b277), .val (.int (1 : Int32)), .val (.int (1 : Int32)), .val (.long a1), .second, .val (.long a2), .second, .val (.long b1), .second, .val (.long b2), .second, .val (.int (1 : Int32)), .unset]) X288 hx hby at_109 rfl (pc' := 111) rfl ?_
      refine g_iload X288 hx hby at_111 rfl (pc' := 113) rfl ?_
      refine g_if_eq X288 hx hby at_113 (by decide) (pc' := 139) (by decide) (pc2 := 116) rfl (fun q => absurd q (by decide)) (fun c113_318 => ?_)
      refine g_iload X288 hx hby at_116 rfl (pc' := 118) rfl ?_
      refine g_if_eq X288 hx hby at_118 (by decide) (pc' := 139) (by decide) (pc2 := 121) rfl (fun q => absurd q (by decide)) (fun c118_319 => ?_)
      refine g_lload X288 hx hby at_121 rfl (pc' := 123) rfl ?_
      refine g_lload X288 hx hby at_123 rfl (pc' := 125) rfl ?_
      refine g_lcmp_eq X288 hx hby at_125 (pc1 := 126) rfl at_126 (by decide) (pc' := 133) (by decide) (pc2 := 129) rfl (fun c125_320 => ?_) (fun c125_320 => ?_)
      · refine g_iconst (v := 0) X288 hx hby at_133 rfl (pc' := 134) rfl ?_
        refine g_istore (L' := #[.val (.long y0), .second, .val (.long y1), .second, .val (.long y2), .second, .val (.long y3), .second, .val (.long a1), .second, .val (.long a2), .second, .val (.long b1), .second, .val (.long b2), .second, .val (.ref b266), .val (.ref b277), .val (.int (1 : Int32)), .val (.int (1 : Int32)), .val (.long a1), .second, .val (.long a2), .second, .val (.long b1), .second, .val (.long b2), .second, .val (.int (0 : Int32)), .unset]) X288 hx hby at_134 rfl (pc' := 136) rfl ?_
        refine g_goto X288 hx hby at_136 (by decide) (pc' := 208) (by decide) ?_
        exact J208 _ _ _ _ _ _ _ (show (0 : Int32) = own_left a1 a2 b1 b2 by unfold own_left; simp only [Int64.toInt_inj]; (repeat' split) <;> first | rfl | (exfalso; simp_all)) (show a1 = own_ea1 a1 a2 b1 b2 by unfold own_ea1; simp only [Int64.toInt_inj]; (repeat' split) <;> first | rfl | (exfalso; simp_all)) (show a2 = own_ea2 a1 a2 b1 b2 by unfold own_ea2; simp only [Int64.toInt_inj]; (repeat' split) <;> first | rfl | (exfalso; simp_all)) (show b1 = own_eb1 a1 a2 b1 b2 by unfold own_eb1; simp only [Int64.toInt_inj]; (repeat' split) <;> first | rfl | (exfalso; simp_all)) (show b2 = own_eb2 a1 a2 b1 b2 by unfold own_eb2; simp only [Int64.toInt_inj]; (repeat' split) <;> first | rfl | (exfalso; simp_all))
      · refine g_iconst (v := 1) X288 hx hby at_129 rfl (pc' := 130) rfl ?_
        refine g_goto X288 hx hby at_130 (by decide) (pc' := 134) (by decide) ?_
        refine g_istore (L' := #[.val (.long y0), .second, .val (.long y1), .second, .val (.long y2), .second, .val (.long y3), .second, .val (.long a1), .second, .val (.long a2), .second, .val (.long b1), .second, .val (.long b2), .second, .val (.ref b266), .val (.ref b277), .val (.int (1 : Int32)), .val (.int (1 : Int32)), .val (.long a1), .second, .val (.long a2), .second, .val (.long b1), .second, .val (.long b2), .second, .val (.int (1 : Int32)), .unset]) X288 hx hby at_134 rfl (pc' := 136) rfl ?_
        refine g_goto X288 hx hby at_136 (by decide) (pc' := 208) (by decide) ?_
        exact J208 _ _ _ _ _ _ _ (show (1 : Int32) = own_left a1 a2 b1 b2 by unfold own_left; simp only [Int64.toInt_inj]; (repeat' split) <;> first | rfl | (exfalso; simp_all)) (show a1 = own_ea1 a1 a2 b1 b2 by unfold own_ea1; simp only [Int64.toInt_inj]; (repeat' split) <;> first | rfl | (exfalso; simp_all)) (show a2 = own_ea2 a1 a2 b1 b2 by unfold own_ea2; simp only [Int64.toInt_inj]; (repeat' split) <;> first | rfl | (exfalso; simp_all)) (show b1 = own_eb1 a1 a2 b1 b2 by unfold own_eb1; simp only [Int64.toInt_inj]; (repeat' split) <;> first | rfl | (exfalso; simp_all)) (show b2 = own_eb2 a1 a2 b1 b2 by unfold own_eb2; simp only [Int64.toInt_inj]; (repeat' split) <;> first | rfl | (exfalso; simp_all))
set_option maxRecDepth 65536 in
set_option maxHeartbeats 40000000 in
theorem comes_1 {Post : Tables → Env → Array Value → State → Outcome → State → Prop} (hpost : ∀ tb e args s v u, (limb_1_1.after args s (.returned v) u = true ∧ limb_1_2.after args s (.returned v) u = true ∧ True) → FrameEnd s (.returned v) u (Jvm.fieldLocs frame_1_writes args s ++ Jvm.arrayLocs frame_1_arrays args s ++ Jvm.staticLocs frame_1_statics s) 16 128 → Post tb e args s (.returned v) u) :
    ArmFor flags0 classFile x code maxLocals ret World_1 tables_1 room_1 Calls_1 rest_1 Pre_1 Post := by
  intro l hfl _ _ p e ha hc hk s m args below hf hA hF happ hP
  obtain ⟨hcalls, hrest, hpre⟩ := hP
  obtain ⟨-, -, -, hnamed, -, -, -, hat⟩ := (Spec.applies_iff hf).mp happ
  obtain ⟨hg, hn⟩ := and_e (Cond.before_iff.mp (show (Jvm.Cond.and given_1 narrow_1).before args s = true from hpre))
  obtain ⟨hcount, hg0⟩ := and_e hg
  obtain ⟨w0, w1, w2, w3, rfl⟩ : ∃ w0 w1 w2 w3 : Value, args = #[w0, w1, w2, w3] := by
    have hs : args.size = 4 := by simpa [Cond.value, given_1] using hcount
    obtain ⟨L⟩ := args
    match L, hs with
    | [w0, w1, w2, w3], _ => exact ⟨w0, w1, w2, w3, rfl⟩
  have hw := fun d (hd : d ∈ tables_1) => atoms_spec (ws := Jvm.Cond.code x code maxLocals ret :: tables_1) hat d (List.mem_cons_of_mem _ hd)
  have hfit : Fit s := fun {y c} hc i hi => by
    obtain ⟨ha, rfl⟩ := Array.getElem?_eq_some_iff.mp hc
    have q := List.all_eq_true.mp ((Array.all_eq_true_iff_forall_mem.mp hF) _ (Array.getElem_mem ha)) i (List.mem_range.mpr hi)
    simpa [Array.getElem?_eq_getElem hi] using q
  obtain ⟨hk0, hg1⟩ := and_e hg0
  obtain ⟨i0, e0⟩ := isL_v hk0
  obtain rfl : w0 = (.long i0) := Option.some.inj e0
  obtain ⟨hk1, hg2⟩ := and_e hg1
  obtain ⟨i1, e1⟩ := isL_v hk1
  obtain rfl : w1 = (.long i1) := Option.some.inj e1
  obtain ⟨hk2, hg3⟩ := and_e hg2
  obtain ⟨i2, e2⟩ := isL_v hk2
  obtain rfl : w2 = (.long i2) := Option.some.inj e2
  obtain ⟨i3, e3⟩ := isL_v hg3
  obtain rfl : w3 = (.long i3) := Option.some.inj e3
  obtain ⟨n, o, h1, h2, h3, _, L, rfl, ⟨rfl, N⟩, hq⟩ := own_rm0 l s _ hw i0 i1 i2 i3 s.heap s.heap.size (Nat.le_refl _) p e ha hc hk s m _ below hf ((Spec.applies_iff_loose hf).mp happ).1 ⟨rfl, State.Warmed39.refl s, rfl⟩ trivial
  exact ⟨n, _, h1, h2, h3, hpost _ _ _ _ _ _ ⟨Cond.after_iff.mpr rfl, Cond.after_iff.mpr (eq_i res_at (Term.int_eval (1)) rfl), trivial⟩ ⟨hq.1, hq.2.1, (hq.2.2.sift fun y hy => Or.inr (N y hy)).mono (by decide) (by decide)⟩⟩
theorem main_1_1 : Claimed_1_1 := comes_1 fun _ _ _ _ _ _ h hF => ⟨h.1, hF⟩
theorem main_1_2 : Claimed_1_2 := comes_1 fun _ _ _ _ _ _ h hF => ⟨h.2.1, hF⟩
end Jvm.Pilot.@@N@@
namespace Jvm.Pilot.@@N@@
open Jvm Jvm.ClassFile Sem Op Lib Jvm.Free Jvm.Stand Jvm.Pilot.@@N@@.Jvm.D
/-! MADE BY PROGRAM (witnessworld.py) out of the Statement's table words and the real class files: 12 classes; the members and pool entries that the words name. The judged class is class 1, her method 1. -/
namespace start1
open Jvm.ClassFile
def u (s : String) : CpInfo := .utf8 (stringToUtf16 s)
/-- a pool by its gaps: so many unusable entries, then the entry; so many at the end -/
def gap : Nat → List CpInfo → List CpInfo
  | 0, r => r
  | n + 1, r => .unusable :: gap n r
def poolList (es : List (Nat × CpInfo)) (last : Nat) : List CpInfo := es.foldr (fun e r => gap e.1 (e.2 :: r)) (gap last [])
def pool (es : List (Nat × CpInfo)) (last : Nat) : Array CpInfo := ⟨poolList es last⟩
def fileOf (pool : Array CpInfo) (this : Nat) (attrs : Array Attribute := #[]) (ms : Array MethodInfo := #[]) (fl : Nat := 33) (sup : Nat := 0) (ifs : Array Nat := #[]) (fds : Array FieldInfo := #[]) : ClassFile where
  minorVersion := 0
  majorVersion := 65
  constantPool := pool
  accessFlags := fl
  thisClass := this
  superClass := sup
  interfaces := ifs
  fields := fds
  methods := ms
  attributes := attrs
def plain (name : String) (sup : Option ClassId) : Class where
  name := name
  kind := .ordinary
  loader := none
  accessFlags := 33
  super := sup
  interfaces := #[]
  cf := none
  fields := #[]
  methods := #[]
  instanceTypes := #[]
  staticTypes := #[]
  resolved := #[]
  callSites := []
  init := .initialized
  statics := none
  mirror := none

def pool0 : Array CpInfo := pool [(5, u "<init>"), (0, u "()V"), (1, .class_ 10), (1, u "java/lang/Object")] 113

def k0m0 : Method := { name := "<init>", desc := "()V", sig := { parameters := [], returnType := none }, accessFlags := 1, code := none }
/-- java/lang/Object -/
def k0 : Class := { plain "java/lang/Object" none with
  accessFlags := 33
  interfaces := #[]
  cf := some (fileOf pool0 8 #[] #[{ accessFlags := 1, nameIndex := 5, descriptorIndex := 6, attributes := #[] }] 33 0 #[] #[])
  fields := #[]
  methods := #[k0m0]
  instanceTypes := #[]
  staticTypes := #[]
  resolved := Array.replicate 124 none
  statics := none }

def pool1 : Array CpInfo := pool [(2, .class_ 4), (1, u "java/lang/Object"), (0, u "<init>"), (0, u "()V"), (0, .methodref 8 9), (0, .class_ 10), (0, .nameAndType 11 12), (0, u "java/lang/Math"), (0, u "min"), (0, u "(JJ)J"), (0, .methodref 8 14), (0, .nameAndType 15 12), (0, u "max"), (0, .methodref 17 18), (0, .class_ 19), (0, .nameAndType 20 21), (0, u "com/example/tautline/tautline/model/Ranges"), (0, u "narrowDifferent"), (0, u "([J[J)Z"), (0, .class_ 23), (0, u "com/example/tautline/tautline/model/RangesNarrowDifferentPinLaw"), (2, u "law"), (0, u "(JJJJ)Z")] 5

def k1m0 : Method := { name := "<init>", desc := "()V", sig := { parameters := [], returnType := none }, accessFlags := 2, code := none }
def k1c1 : Code := { maxStack := 5, maxLocals := 30, code := code, exceptionTable := #[], attributes := #[] }
def k1m1 : Method := { name := "law", desc := "(JJJJ)Z", sig := { parameters := [.long, .long, .long, .long], returnType := some .boolean }, accessFlags := 9, code := some k1c1 }
/-- com/example/tautline/tautline/model/RangesNarrowDifferentPinLaw -/
def k1 : Class := { plain "com/example/tautline/tautline/model/RangesNarrowDifferentPinLaw" (some 0) with
  accessFlags := 49
  interfaces := #[]
  cf := some (fileOf pool1 22 #[] #[{ accessFlags := 2, nameIndex := 5, descriptorIndex := 6, attributes := #[] }, { accessFlags := 9, nameIndex := 26, descriptorIndex := 27, attributes := #[] }] 49 2 #[] #[])
  fields := #[]
  methods := #[k1m0, k1m1]
  instanceTypes := #[]
  staticTypes := #[]
  resolved := Array.replicate 33 none
  statics := none }

def pool2 : Array CpInfo := pool [(1, .class_ 2), (0, u "java/lang/Math"), (1, .class_ 6), (1, u "java/lang/Object"), (0, u "<init>"), (0, u "()V"), (89, .class_ 100), (1, u "java/lang/Math$RandomNumberGeneratorHolder"), (20, u "(JJ)J"), (50, u "negativeZeroFloatBits"), (0, u "J"), (2, u "negativeZeroDoubleBits"), (21, u "max"), (2, u "min"), (43, u "$assertionsDisabled"), (0, u "Z"), (91, u "twoToTheDoubleScaleDown"), (0, u "D"), (4, u "twoToTheDoubleScaleUp"), (9, u "E"), (3, u "PI"), (2, u "TAU"), (2, u "DEGREES_TO_RADIANS"), (0, u "RADIANS_TO_DEGREES")] 94

def k2m0 : Method := { name := "<init>", desc := "()V", sig := { parameters := [], returnType := none }, accessFlags := 2, code := none }
def k2c1 : Code := { maxStack := 4, maxLocals := 4, code := jdk_29_method_66_code, exceptionTable := #[], attributes := #[] }
def k2m1 : Method := { name := "max", desc := "(JJ)J", sig := { parameters := [.long, .long], returnType := some .long }, accessFlags := 9, code := some k2c1 }
def k2c2 : Code := { maxStack := 4, maxLocals := 4, code := jdk_29_method_70_code, exceptionTable := #[], attributes := #[] }
def k2m2 : Method := { name := "min", desc := "(JJ)J", sig := { parameters := [.long, .long], returnType := some .long }, accessFlags := 9, code := some k2c2 }
/-- java/lang/Math -/
def k2 : Class := { plain "java/lang/Math" (some 0) with
  accessFlags := 49
  interfaces := #[]
  cf := some (fileOf pool2 1 #[.nestMembers #[98]] #[{ accessFlags := 2, nameIndex := 7, descriptorIndex := 8, attributes := #[] }, { accessFlags := 9, nameIndex := 198, descriptorIndex := 121, attributes := #[] }, { accessFlags := 9, nameIndex := 201, descriptorIndex := 121, attributes := #[] }] 49 4 #[] #[{ accessFlags := 25, nameIndex := 354, descriptorIndex := 339, attributes := #[] }, { accessFlags := 25, nameIndex := 358, descriptorIndex := 339, attributes := #[] }, { accessFlags := 25, nameIndex := 361, descriptorIndex := 339, attributes := #[] }, { accessFlags := 26, nameIndex := 364, descriptorIndex := 339, attributes := #[] }, { accessFlags := 26, nameIndex := 365, descriptorIndex := 339, attributes := #[] }, { accessFlags := 26, nameIndex := 172, descriptorIndex := 173, attributes := #[] }, { accessFlags := 26, nameIndex := 176, descriptorIndex := 173, attributes := #[] }, { accessFlags := 8, nameIndex := 344, descriptorIndex := 339, attributes := #[] }, { accessFlags := 8, nameIndex := 338, descriptorIndex := 339, attributes := #[] }, { accessFlags := 4120, nameIndex := 245, descriptorIndex := 246, attributes := #[] }])
  fields := #[{ name := "E", type := .double, accessFlags := 25, slot := 0, constantValue := 0 }, { name := "PI", type := .double, accessFlags := 25, slot := 1, constantValue := 0 }, { name := "TAU", type := .double, accessFlags := 25, slot := 2, constantValue := 0 }, { name := "DEGREES_TO_RADIANS", type := .double, accessFlags := 26, slot := 3, constantValue := 0 }, { name := "RADIANS_TO_DEGREES", type := .double, accessFlags := 26, slot := 4, constantValue := 0 }, { name := "negativeZeroFloatBits", type := .long, accessFlags := 26, slot := 5, constantValue := 0 }, { name := "negativeZeroDoubleBits", type := .long, accessFlags := 26, slot := 6, constantValue := 0 }, { name := "twoToTheDoubleScaleUp", type := .double, accessFlags := 8, slot := 7, constantValue := 0 }, { name := "twoToTheDoubleScaleDown", type := .double, accessFlags := 8, slot := 8, constantValue := 0 }, { name := "$assertionsDisabled", type := .boolean, accessFlags := 4120, slot := 9, constantValue := 0 }]
  methods := #[k2m0, k2m1, k2m2]
  instanceTypes := #[]
  staticTypes := #[.double, .double, .double, .double, .double, .long, .long, .double, .double, .boolean]
  resolved := Array.replicate 460 none
  statics := none }

def pool3 : Array CpInfo := pool [(2, .class_ 4), (1, u "java/lang/Object"), (0, u "<init>"), (0, u "()V"), (1, .class_ 10), (1, u "com/example/tautline/tautline/model/Ranges"), (113, u "([J[J)Z"), (3, u "narrowDifferent")] 14

def k3m0 : Method := { name := "<init>", desc := "()V", sig := { parameters := [], returnType := none }, accessFlags := 2, code := none }
def k3c1 : Code := { maxStack := 6, maxLocals := 7, code := prog_85_method_23_code, exceptionTable := #[], attributes := #[] }
def k3m1 : Method := { name := "narrowDifferent", desc := "([J[J)Z", sig := { parameters := [(.array .long), (.array .long)], returnType := some .boolean }, accessFlags := 8, code := some k3c1 }
/-- com/example/tautline/tautline/model/Ranges -/
def k3 : Class := { plain "com/example/tautline/tautline/model/Ranges" (some 0) with
  accessFlags := 32
  interfaces := #[]
  cf := some (fileOf pool3 8 #[] #[{ accessFlags := 2, nameIndex := 5, descriptorIndex := 6, attributes := #[] }, { accessFlags := 8, nameIndex := 128, descriptorIndex := 124, attributes := #[] }] 32 2 #[] #[])
  fields := #[]
  methods := #[k3m0, k3m1]
  instanceTypes := #[]
  staticTypes := #[]
  resolved := Array.replicate 143 none
  statics := none }

def pool4 : Array CpInfo := pool [(1, u "java/lang/Cloneable"), (0, .class_ 1), (0, u "java/lang/Object"), (0, .class_ 3)] 3

/-- java/lang/Cloneable -/
def k4 : Class := { plain "java/lang/Cloneable" (some 0) with
  accessFlags := 1537
  interfaces := #[]
  cf := some (fileOf pool4 2 #[] #[] 1537 4 #[] #[])
  fields := #[]
  methods := #[]
  instanceTypes := #[]
  staticTypes := #[]
  resolved := Array.replicate 8 none
  statics := none }

def pool5 : Array CpInfo := pool [(1, u "java/io/Serializable"), (0, .class_ 1), (0, u "java/lang/Object"), (0, .class_ 3)] 3

/-- java/io/Serializable -/
def k5 : Class := { plain "java/io/Serializable" (some 0) with
  accessFlags := 1537
  interfaces := #[]
  cf := some (fileOf pool5 2 #[] #[] 1537 4 #[] #[])
  fields := #[]
  methods := #[]
  instanceTypes := #[]
  staticTypes := #[]
  resolved := Array.replicate 8 none
  statics := none }

/-- the primitive byte -/
def k6 : Class := { plain "byte" none with kind := .primitive 'B', accessFlags := 0x411 }
/-- [B -/
def k7 : Class := { plain "[B" (some 0) with kind := .array 6 .byte, interfaces := #[4, 5], accessFlags := 1041 }

/-- the primitive int -/
def k8 : Class := { plain "int" none with kind := .primitive 'I', accessFlags := 0x411 }
/-- [I -/
def k9 : Class := { plain "[I" (some 0) with kind := .array 8 .int, interfaces := #[4, 5], accessFlags := 1041 }

/-- the primitive long -/
def k10 : Class := { plain "long" none with kind := .primitive 'J', accessFlags := 0x411 }
/-- [J -/
def k11 : Class := { plain "[J" (some 0) with kind := .array 10 .long, interfaces := #[4, 5], accessFlags := 1041 }

def heap : Heap := #[]
def classes : Array Class := #[k0, k1, k2, k3, k4, k5, k6, k7, k8, k9, k10, k11]
def interned : List (Array UInt16 × Addr) := []
def slotsUsed : Nat := 0
def theMethod : MethodId := ⟨1, 1⟩
def args0 : Array Value := #[.long 5, .long 7, .long 3, .long 1]
def aboutOver (below : List Frame) : State where
  vm := { classes := classes, interned := interned.toArray }
  heap := heap
  slotsUsed := slotsUsed
  threads := #[{ frames := .invoking theMethod args0 :: below }]
def below0 : List Frame := [.native { method := ⟨0, 0⟩, args := #[] }]
def about1 : State := aboutOver below0
def p0 : Program := .bare "" "" ""
def e0 : Env := launch0.env 0 0 0
theorem w_frames : about1.frames = Frame.invoking theMethod args0 :: below0 := rfl
set_option maxRecDepth 65536 in
theorem w_args : argsFit about1.vm theMethod args0 = true := by decide +kernel
set_option maxRecDepth 65536 in
theorem w_heap : heapFits about1 = true := by decide +kernel
set_option maxRecDepth 65536 in
theorem w_runnable : about1.curStatus? = some .runnable := by decide +kernel
set_option maxRecDepth 65536 in
theorem w_alone : about1.alone = true := by decide +kernel
set_option maxRecDepth 65536 in
theorem w_named : about1.methodNamed? x = some theMethod := by decide +kernel
set_option maxRecDepth 65536 in
theorem w_hears : about1.hears theMethod below0 = true := by decide +kernel
set_option maxRecDepth 65536 in
theorem w_ripe : about1.ripe theMethod args0 below0 = true := by decide +kernel
theorem w_running : about1.status = .running := rfl
set_option maxRecDepth 65536 in
theorem w_room : about1.hasRoom e0.platform room_1 = true :=
  launch0.hasRoom_least _ room_1 (by decide +kernel) (by decide +kernel) (by decide +kernel) (by decide +kernel) (by decide +kernel) (by decide +kernel)
theorem allAtoms_all (ts : List Jvm.Cond) (a : Array Jvm.Value) (st : Jvm.State) : (allAtoms ts).before a st = ts.all (fun c => c.before a st) := by
  induction ts with
  | nil => rfl
  | cons c t ih =>
    show (Jvm.Cond.and c (allAtoms t)).before a st = _
    rw [Jvm.Cond.before_and, ih, List.all_cons]
def words1 : List Jvm.Cond := Jvm.Cond.code x code maxLocals ret :: tables_1
/-- a 'code' word, met by the world's own term for the bytes: nothing is compared byte by byte -/
theorem code_word {y : MethodName} {bytes : ByteArray} {mx : Nat} {rt : Option FieldType} {a : Array Value} {s : State} {m : MethodId} {meth : Method} {c : Code} (h1 : s.methodNamed? y = some m) (h2 : s.vm.method? m = some meth) (h3 : meth.code = some c) (h4 : c.code = bytes)
    (h5 : (c.maxLocals == mx && c.exceptionTable.isEmpty && decide (c.maxStack ≤ mostOperands) && decide (meth.sig.returnType = rt) && !meth.locks && decide (parseMethodDescriptor y.desc = some meth.sig)) = true) : (Jvm.Cond.code y bytes mx rt).before a s = true := by
  simp only [Bool.and_eq_true, beq_iff_eq, Bool.not_eq_true', decide_eq_true_eq] at h5
  obtain ⟨⟨⟨⟨⟨g1, g2⟩, g3⟩, g4⟩, g5⟩, g6⟩ := h5
  simp [Cond.before, Cond.holds, Cond.value, h1, h2, h3, h4, g1, g2, g3, g4, g5, g6]
def isCode : Jvm.Cond → Bool
  | .code _ _ _ _ => true
  | _ => false
theorem all_split {L : List Jvm.Cond} {P : Jvm.Cond → Bool} (h1 : L.all (fun c => isCode c || P c) = true) (h2 : ∀ c ∈ L.filter isCode, P c = true) : L.all P = true := by
  refine List.all_eq_true.mpr fun c hc => ?_
  have h := List.all_eq_true.mp h1 c hc
  rcases Bool.eq_false_or_eq_true (isCode c) with hi | hi
  · exact h2 c (List.mem_filter.mpr ⟨hc, hi⟩)
  · simpa [hi] using h
set_option maxRecDepth 65536 in
theorem w_c0 : (Jvm.Cond.code x code maxLocals ret).before args0 about1 = true := code_word (m := ⟨1, 1⟩) (meth := k1m1) (c := k1c1) (by decide +kernel) rfl rfl rfl (by decide +kernel)
set_option maxRecDepth 65536 in
theorem w_c1 : (Jvm.Cond.code ({ cls := "java/lang/Math", name := "min", desc := "(JJ)J" } : Jvm.MethodName) jdk_29_method_70_code (4 : Nat) (Option.some Jvm.ClassFile.FieldType.long)).before args0 about1 = true := code_word (m := ⟨2, 2⟩) (meth := k2m2) (c := k2c2) (by decide +kernel) rfl rfl rfl (by decide +kernel)
set_option maxRecDepth 65536 in
theorem w_c2 : (Jvm.Cond.code ({ cls := "java/lang/Math", name := "max", desc := "(JJ)J" } : Jvm.MethodName) jdk_29_method_66_code (4 : Nat) (Option.some Jvm.ClassFile.FieldType.long)).before args0 about1 = true := code_word (m := ⟨2, 1⟩) (meth := k2m1) (c := k2c1) (by decide +kernel) rfl rfl rfl (by decide +kernel)
set_option maxRecDepth 65536 in
theorem w_c3 : (Jvm.Cond.code ({ cls := "com/example/tautline/tautline/model/Ranges", name := "narrowDifferent", desc := "([J[J)Z" } : Jvm.MethodName) prog_85_method_23_code (7 : Nat) (Option.some Jvm.ClassFile.FieldType.boolean)).before args0 about1 = true := code_word (m := ⟨3, 1⟩) (meth := k3m1) (c := k3c1) (by decide +kernel) rfl rfl rfl (by decide +kernel)
def codes1 : List Jvm.Cond := [Jvm.Cond.code x code maxLocals ret, Jvm.Cond.code ({ cls := "java/lang/Math", name := "min", desc := "(JJ)J" } : Jvm.MethodName) jdk_29_method_70_code (4 : Nat) (Option.some Jvm.ClassFile.FieldType.long), Jvm.Cond.code ({ cls := "java/lang/Math", name := "max", desc := "(JJ)J" } : Jvm.MethodName) jdk_29_method_66_code (4 : Nat) (Option.some Jvm.ClassFile.FieldType.long), Jvm.Cond.code ({ cls := "com/example/tautline/tautline/model/Ranges", name := "narrowDifferent", desc := "([J[J)Z" } : Jvm.MethodName) prog_85_method_23_code (7 : Nat) (Option.some Jvm.ClassFile.FieldType.boolean)]
set_option maxRecDepth 65536 in
theorem codes_eq : words1.filter isCode = codes1 := rfl
theorem w_codes : ∀ c ∈ words1.filter isCode, c.before args0 about1 = true := by
  rw [codes_eq]
  intro c hc
  simp only [codes1, List.mem_cons, List.not_mem_nil, or_false] at hc
  rcases hc with rfl | rfl | rfl | rfl
  · exact w_c0
  · exact w_c1
  · exact w_c2
  · exact w_c3
set_option maxRecDepth 65536 in
theorem w_t1 : words1.all (fun c => isCode c || c.before args0 about1) = true := by decide +kernel
theorem w_tables : (allAtoms (Jvm.Cond.code x code maxLocals ret :: tables_1)).before args0 about1 = true := by
  rw [allAtoms_all]
  show words1.all (fun c => c.before args0 about1) = true
  refine all_split ?_ w_codes
  rw [w_t1]
set_option maxRecDepth 65536 in
theorem w_case : (Jvm.Cond.and given_1 narrow_1).before args0 about1 = true := by decide +kernel
theorem w_applies : (headSpec (Jvm.Cond.code x code maxLocals ret :: tables_1) room_1).applies x e0.platform about1 = true :=
  (Spec.applies_iff w_frames).mpr ⟨w_running, w_runnable, w_alone, w_named, w_hears, w_ripe, w_room, w_tables⟩
theorem atStart : AtStart classFile x code maxLocals ret World_1 tables_1 room_1 Calls_1 rest_1 Pre_1 launch0 p0 e0 about1 theMethod args0 below0 :=
  ⟨lists_1, trivial, launch0.admits_env _ _ _, launch0.least_env, fairChoices_fair.cas, fairChoices_fair.clock, w_frames, w_args, w_heap, w_applies, trivial, trivial, w_case⟩
end start1
theorem witness_1 : WitnessClaimed_1 := ⟨start1.p0, start1.e0, start1.about1, start1.theMethod, start1.args0, start1.below0, start1.atStart⟩
end Jvm.Pilot.@@N@@
