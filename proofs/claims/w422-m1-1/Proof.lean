import JvmDerived
import JvmDerived.Pilot.@@N@@Statement
import JvmDerived.Pilot.@@N@@Code
set_option linter.unusedVariables false
set_option linter.unusedSimpArgs false
namespace Jvm.Pilot.@@N@@
open Jvm Jvm.ClassFile Sem Op Lib Jvm.Free Jvm.Stand Jvm.LawKit Jvm.RoadKit Bundle Jvm.Pilot.@@N@@.Jvm.D
/-! ## The frame of my walks: Gl: what is left to run ends well; St: where the run stands; Ctr: a body's contract; Ary: an array by its length and its values -/
def Gl (p : Program) (e : Env) (below : List Frame) (n0 : Nat) (Φ : Outcome → State → List Loc → Prop) (Q : Option Value → Heap → Prop) (U : State) : Prop :=
  ∃ s₂ o, Steps p.tables e below U s₂ ∧ s₂.status = .running ∧ Ended s₂ below o ∧ ∃ v L, o = .returned v ∧ (Q v s₂.heap ∧ Fr n0 L) ∧ Φ o s₂ L
abbrev Fn (s : State) (cs sl : Nat) : Outcome → State → List Loc → Prop := fun o t L => FrameEnd s o t L cs sl
abbrev Fw (s : State) (cs sl : Nat) : Outcome → State → List Loc → Prop := fun o t L => ReturnedEndW s o t L cs sl
def St (p : Program) (l : Launch) (e : Env) (R : Room) (s : State) (m : MethodId) (args : Array Value) (below : List Frame) (meth : Method) (c : Code) (n0 : Nat) (T : State) (h : Heap) (cells slots : Nat) : Prop :=
  ∃ locs, Stand p l e R s m args below meth c T locs cells slots ∧ T.heap = h ∧ Fr n0 locs
abbrev Ctr (l : Launch) (Z : State) (y : MethodName) (bytes : ByteArray) (maxL : Nat) (ret : Option FieldType) (ws : List Jvm.Cond) (rm : Room) (as' : Array Value) (h0 : Heap) (n0 cs sl : Nat) (Q : Option Value → Heap → Prop) : Prop :=
  MetFree l y (head1 (Jvm.Cond.code y bytes maxL ret :: ws) rm) (fun a U => a = as' ∧ Z.Warmed39 U.vm ∧ U.heap = h0) (fun _ _ _ _ _ => True) (fun _ U o U' => ∃ v L, o = .returned v ∧ (Q v U'.heap ∧ Fr n0 L) ∧ FrameEnd U o U' L cs sl)
theorem Ctr.of {l : Launch} {Z : State} {y : MethodName} {bytes : ByteArray} {maxL : Nat} {ret : Option FieldType} {ws : List Jvm.Cond} {rm : Room} {as' : Array Value} {h0 : Heap} {n0 cs sl : Nat} {Q : Option Value → Heap → Prop} (hn : plainFor y = true)
    (body : ∀ (p : Program) (e : Env) (s : State) (m : MethodId) (below : List Frame) (meth : Method) (c : Code) (T : State), p.tables.exec = Jvm.exec → c.code = bytes → c.maxLocals = maxL → meth.sig.returnType = ret → meth.locks = false → meth.name = y.name → s.vm.findClass y.cls = some m.cls → Z.Warmed39 s.vm →
      St p l e rm s m as' below meth c n0 T h0 0 0 → Gl p e below n0 (Fn s cs sl) Q (T.setTop (entryFrame m as' maxL))) : Ctr l Z y bytes maxL ret ws rm as' h0 n0 cs sl Q := by
  refine MetFree.of_bodySF hn hisR ?_
  intro p e s m args below meth c s₁ Bd hml0 hP hK
  obtain ⟨rfl, hZ, hh⟩ := hP
  exact body p e s m below meth c s₁ Bd.exec Bd.bytes hml0 Bd.returns Bd.notSynchronized (name_of_methodNamed Bd.named Bd.method).1 (findClass_of_methodNamed Bd.named) hZ ⟨[], Stand.of_body Bd, by rw [← hh, Bd.state]; rfl, Fr.nil n0⟩
theorem own_since (s : State) (n : Nat) : s.Since s.vm n := (State.WarmedH.refl s).since n
abbrev CtrW (l : Launch) (Z : State) (y : MethodName) (bytes : ByteArray) (maxL : Nat) (ret : Option FieldType) (ws : List Jvm.Cond) (rm : Room) (as' : Array Value) (h0 : Heap) (n0 cs sl : Nat) (Q : Option Value → Heap → Prop) : Prop :=
  MetFree l y (head1 (Jvm.Cond.code y bytes maxL ret :: ws) rm) (fun a U => a = as' ∧ Z.Warmed39 U.vm ∧ U.heap = h0) (fun _ _ _ _ _ => True) (fun _ U o U' => ∃ v L, o = .returned v ∧ (Q v U'.heap ∧ Fr n0 L) ∧ ReturnedEndW U o U' L cs sl)
theorem CtrW.of {l : Launch} {Z : State} {y : MethodName} {bytes : ByteArray} {maxL : Nat} {ret : Option FieldType} {ws : List Jvm.Cond} {rm : Room} {as' : Array Value} {h0 : Heap} {n0 cs sl : Nat} {Q : Option Value → Heap → Prop} (hn : plainFor y = true)
    (body : ∀ (p : Program) (e : Env) (s : State) (m : MethodId) (below : List Frame) (meth : Method) (c : Code) (T : State), p.tables.exec = Jvm.exec → c.code = bytes → c.maxLocals = maxL → meth.sig.returnType = ret → meth.locks = false → meth.name = y.name → (s.setVm s.vm).vm.findClass y.cls = some m.cls → Z.Warmed39 (s.setVm s.vm).vm →
      St p l e rm (s.setVm s.vm) m as' below meth c n0 T h0 0 0 → s.Since s.vm h0.size → Gl p e below n0 (Fw s cs sl) Q (T.setTop (entryFrame m as' maxL))) : CtrW l Z y bytes maxL ret ws rm as' h0 n0 cs sl Q := by
  refine MetFree.of_bodySF hn hisR ?_
  intro p e s m args below meth c s₁ Bd hml0 hP hK
  obtain ⟨rfl, hZ, hh⟩ := hP
  exact body p e s m below meth c s₁ Bd.exec Bd.bytes hml0 Bd.returns Bd.notSynchronized (name_of_methodNamed Bd.named Bd.method).1 (findClass_of_methodNamed Bd.named) hZ ⟨[], Stand.of_body Bd, by rw [← hh, Bd.state]; rfl, Fr.nil n0⟩ (own_since s h0.size)
def Ary (Z : State) (h : Heap) (a : Addr) (ty : FieldType) (n : Nat) (f : Nat → Value) : Prop := ∃ c : Cell, Arr Z h a c ty ∧ c.slots.size = n ∧ ∀ i, i < n → c.slots[i]? = some (f i)
def own_upd (f : Nat → Value) (i : Nat) (v : Value) : Nat → Value := fun j => if j = i then v else f j
theorem own_upd_same (f : Nat → Value) (i : Nat) (v : Value) : own_upd f i v i = v := by simp [own_upd]
theorem own_upd_ne (f : Nat → Value) {i j : Nat} (v : Value) (q : ¬ j = i) : own_upd f i v j = f j := by simp [own_upd, q]
theorem own_in {j : Int32} {i k : Nat} (hj : j.toInt = (i : Int)) (hi : i < k) : ¬ (j < 0 ∨ k ≤ j.toNatClampNeg) ∧ j.toNatClampNeg = i := by
  have e : j.toNatClampNeg = i := by simp only [Int32.toNatClampNeg]; omega
  refine ⟨?_, e⟩
  rw [e, Int32.lt_iff_toInt_lt]; have : (0 : Int32).toInt = 0 := rfl
  omega
section OwnFacts
variable {Z : State} {h h' : Heap} {a b : Addr} {ty : FieldType} {n sl : Nat} {f : Nat → Value} {v : Value} {ws : List Addr}
theorem Ary.lt (F : Ary Z h a ty n f) : a < h.size := by obtain ⟨c, A, -⟩ := F; exact A.lt
theorem Ary.ext (F : Ary Z h a ty n f) (E : Ext h h') : Ary Z h' a ty n f := by obtain ⟨c, A, r⟩ := F; exact ⟨c, A.ext E, r⟩
theorem Ary.other (F : Ary Z h b ty n f) (W : Wr h h' a sl v) (q : b ≠ a) : Ary Z h' b ty n f := by obtain ⟨c, A, r⟩ := F; exact ⟨c, A.other W q, r⟩
theorem Ary.keep (F : Ary Z h a ty n f) (K : Keep h h' ws) (q : a ∉ ws) : Ary Z h' a ty n f := by obtain ⟨c, A, r⟩ := F; exact ⟨c, ⟨K.2.1 a c A.1 q, A.2⟩, r⟩
theorem Ary.same {cl : Cell} (A : Arr Z h a cl ty) (sz : cl.slots.size = n) (H : ∀ i, i < n → cl.slots[i]? = some (f i)) {i : Nat} (W : Wr h h' a i v) : Ary Z h' a ty n (own_upd f i v) := by
  refine ⟨_, A.same W, by rw [sz_set]; exact sz, fun j hj => ?_⟩
  by_cases q : j = i
  · subst q; simp [Cell.setSlot, own_upd, sz, hj]
  · rw [own_upd_ne f v q]; exact (Array.getElem?_setIfInBounds_ne (Ne.symm q)).trans (H j hj)
theorem Ary.congr (F : Ary Z h a ty n f) {g : Nat → Value} (q : ∀ i, i < n → f i = g i) : Ary Z h a ty n g := by obtain ⟨c, A, sz, H⟩ := F; exact ⟨c, A, sz, fun i hi => by rw [← q i hi]; exact H i hi⟩
/-- what may lie in an array of C -/
def Ov (Z : State) (h : Heap) (a : Addr) (C : String) : Prop := ∃ c : Cell, h[a]? = some c ∧ Ovr Z c.cls C
theorem Ov.ext {C : String} (F : Ov Z h a C) (E : Ext h h') : Ov Z h' a C := by obtain ⟨c, h1, O⟩ := F; exact ⟨c, E.2 _ _ h1, O⟩
theorem Ov.wr {C : String} (F : Ov Z h a C) (W : Wr h h' b sl v) : Ov Z h' a C := by
  obtain ⟨c, h1, O⟩ := F
  obtain ⟨c', e1, e2, -⟩ := wr_at W h1
  exact ⟨c', e1, by rw [e2]; exact O⟩
theorem Ov.keep {C : String} (F : Ov Z h a C) (K : Keep h h' ws) : Ov Z h' a C := by
  obtain ⟨c, h1, O⟩ := F
  obtain ⟨c', e1, e2, -⟩ := K.2.2 a c h1
  exact ⟨c', e1, by rw [e2]; exact O⟩
theorem Ov.sto {C : String} {y : Addr} (F : Ov Z h a C) (A : Ary Z h a ty n f) (I : Ins Z h y C true) : Sto Z h a (.ref y) := by
  obtain ⟨c, h1, O⟩ := F
  obtain ⟨cl, A, -⟩ := A
  cases h1.symm.trans A.1
  exact Sto.of A O I
theorem own_plain {C : String} (F : Exa Z h a C) : ∃ c : Cell, h[a]? = some c ∧ c.vm.isStatics = false := by obtain ⟨c, k, h1, -, -, h4, -⟩ := F; exact ⟨c, h1, h4⟩
theorem own_plainA (F : Ary Z h a ty n f) : ∃ c : Cell, h[a]? = some c ∧ c.vm.isStatics = false := by obtain ⟨c, A, -⟩ := F; exact ⟨c, A.1, A.plain⟩
theorem own_sta_keep {C nm d : String} (F : Sta Z h C nm d v) (K : Keep h h' ws) (q : ∀ x ∈ ws, ∃ c : Cell, h[x]? = some c ∧ c.vm.isStatics = false) : Sta Z h' C nm d v := by
  obtain ⟨cf, i, k, fd, st, cell, h1, h2, h3, h4, h5, h6, h7⟩ := F
  refine ⟨cf, i, k, fd, st, cell, h1, h2, h3, h4, K.2.1 _ _ h5 fun z => ?_, h6, h7⟩
  obtain ⟨c, e1, e2⟩ := q _ z
  cases h5.symm.trans e1
  rw [e2] at h6; cases h6
theorem own_fld_of {a0 : Array Value} {C O nm d O' nm' d' : String} {k : Nat} (E : Exa Z h a C) (F : Fld Z h a O' nm' d' v) (wi : (Cond.instantiable C k).before a0 Z = true) (L : Laid Z a0 C O nm d) : ∃ v', Fld Z h a O nm d v' := by
  obtain ⟨c, _, _, _, _, h1, -, -, h4, -⟩ := F
  exact fld_laid E ⟨c, h1, h4⟩ wi L
theorem own_ne_ty {ty' : FieldType} {n' : Nat} {f' : Nat → Value} (F : Ary Z h a ty n f) (G : Ary Z h b ty' n' f') (q : ty ≠ ty') : a ≠ b := fun e => by
  subst e
  obtain ⟨c1, A1, -⟩ := F
  obtain ⟨c2, A2, -⟩ := G
  cases A1.1.symm.trans A2.1
  obtain ⟨-, k1, i1, p1, j1⟩ := A1.2.1
  obtain ⟨-, k2, i2, p2, j2⟩ := A2.2.1
  cases i1.symm.trans i2
  rw [j1] at j2; cases j2; exact q rfl
theorem own_ne_exa {a0 : Array Value} {C : String} {k : Nat} (E : Exa Z h a C) (wi : (Cond.instantiable C k).before a0 Z = true) (G : Ary Z h b ty n f) : a ≠ b := by
  obtain ⟨c, A, -⟩ := G; exact ne_arr E wi A
theorem own_fld_inj {C nm d : String} {w : Value} (F : Fld Z h a C nm d v) (G : Fld Z h a C nm d w) : v = w := by
  obtain ⟨c1, cf1, k1, i1, f1, a1, a2, -, -, -, -, a7⟩ := F
  obtain ⟨c2, cf2, k2, i2, f2, b1, b2, -, -, -, -, b7⟩ := G
  cases a1.symm.trans b1
  cases a2.symm.trans b2
  exact Option.some.inj (a7.symm.trans b7)
end OwnFacts
section OwnSteps
variable {p : Program} {l : Launch} {e : Env} {R : Room} {s : State} {m : MethodId} {args : Array Value} {below : List Frame} {meth : Method} {c : Code} {T : State} {n0 : Nat} {h : Heap} {cells slots : Nat} {cs sl : Nat} {Φ : Outcome → State → List Loc → Prop} {Q : Option Value → Heap → Prop} {pc pc' : Nat} {L L' : Array Slot} {S : List Value} {bs : ByteArray} {Z : State} {a0 : Array Value}
theorem Gl.st {U V : State} (q : ∀ t, Steps p.tables e below V t → Steps p.tables e below U t) (k : Gl p e below n0 Φ Q V) : Gl p e below n0 Φ Q U := by
  obtain ⟨t, o, h1, h2⟩ := k; exact ⟨t, o, q _ h1, h2⟩
theorem Gl.mono {U : State} {Q' : Option Value → Heap → Prop} (q : ∀ v h, Q v h → Q' v h) (k : Gl p e below n0 Φ Q U) : Gl p e below n0 Φ Q' U := by
  obtain ⟨t, o, h1, h2, h3, v, L, h4, ⟨h5, h6⟩, h7⟩ := k; exact ⟨t, o, h1, h2, h3, v, L, h4, ⟨q _ _ h5, h6⟩, h7⟩
theorem g_iload (X : St p l e R s m args below meth c n0 T h cells slots) (hx : p.tables.exec = Jvm.exec) (hby : c.code = bs) {k : Nat} {v : Int32} (hd : decode bs pc = .ok (.iload k, 2)) (hl : L[k]? = some (.val (.int v))) (hp : pc + 2 = pc') (K : Gl p e below n0 Φ Q (T.setTop (mkF m pc' L (.int v :: S)))) : Gl p e below n0 Φ Q (T.setTop (mkF m pc L S)) := by
  obtain ⟨locs, Y, -, -⟩ := X; subst hp; exact Gl.st (fun t k => XS.iload Y.here hx rfl (hb hby hd) hl k) K
theorem g_iloadN (X : St p l e R s m args below meth c n0 T h cells slots) (hx : p.tables.exec = Jvm.exec) (hby : c.code = bs) {k : Fin 4} {v : Int32} (hd : decode bs pc = .ok (.iload_n k, 1)) (hl : L[k.val]? = some (.val (.int v))) (hp : pc + 1 = pc') (K : Gl p e below n0 Φ Q (T.setTop (mkF m pc' L (.int v :: S)))) : Gl p e below n0 Φ Q (T.setTop (mkF m pc L S)) := by
  obtain ⟨locs, Y, -, -⟩ := X; subst hp; exact Gl.st (fun t k => XS.iloadN Y.here hx rfl (hb hby hd) hl k) K
theorem g_lload (X : St p l e R s m args below meth c n0 T h cells slots) (hx : p.tables.exec = Jvm.exec) (hby : c.code = bs) {k : Nat} {v : Int64} (hd : decode bs pc = .ok (.lload k, 2)) (hl : L[k]? = some (.val (.long v))) (hp : pc + 2 = pc') (K : Gl p e below n0 Φ Q (T.setTop (mkF m pc' L (.long v :: S)))) : Gl p e below n0 Φ Q (T.setTop (mkF m pc L S)) := by
  obtain ⟨locs, Y, -, -⟩ := X; subst hp; exact Gl.st (fun t k => XS.lload Y.here hx rfl (hb hby hd) hl k) K
theorem g_lloadN (X : St p l e R s m args below meth c n0 T h cells slots) (hx : p.tables.exec = Jvm.exec) (hby : c.code = bs) {k : Fin 4} {v : Int64} (hd : decode bs pc = .ok (.lload_n k, 1)) (hl : L[k.val]? = some (.val (.long v))) (hp : pc + 1 = pc') (K : Gl p e below n0 Φ Q (T.setTop (mkF m pc' L (.long v :: S)))) : Gl p e below n0 Φ Q (T.setTop (mkF m pc L S)) := by
  obtain ⟨locs, Y, -, -⟩ := X; subst hp; exact Gl.st (fun t k => XS.lloadN Y.here hx rfl (hb hby hd) hl k) K
theorem g_aload (X : St p l e R s m args below meth c n0 T h cells slots) (hx : p.tables.exec = Jvm.exec) (hby : c.code = bs) {k : Nat} {v : Value} (hd : decode bs pc = .ok (.aload k, 2)) (hl : L[k]? = some (.val v)) (hv : v.isRef = true) (hp : pc + 2 = pc') (K : Gl p e below n0 Φ Q (T.setTop (mkF m pc' L (v :: S)))) : Gl p e below n0 Φ Q (T.setTop (mkF m pc L S)) := by
  obtain ⟨locs, Y, -, -⟩ := X; subst hp; exact Gl.st (fun t k => XS.aload Y.here hx rfl (hb hby hd) hl hv k) K
theorem g_aloadN (X : St p l e R s m args below meth c n0 T h cells slots) (hx : p.tables.exec = Jvm.exec) (hby : c.code = bs) {k : Fin 4} {v : Value} (hd : decode bs pc = .ok (.aload_n k, 1)) (hl : L[k.val]? = some (.val v)) (hv : v.isRef = true) (hp : pc + 1 = pc') (K : Gl p e below n0 Φ Q (T.setTop (mkF m pc' L (v :: S)))) : Gl p e below n0 Φ Q (T.setTop (mkF m pc L S)) := by
  obtain ⟨locs, Y, -, -⟩ := X; subst hp; exact Gl.st (fun t k => XS.aloadN Y.here hx rfl (hb hby hd) hl hv k) K
theorem g_istore (X : St p l e R s m args below meth c n0 T h cells slots) (hx : p.tables.exec = Jvm.exec) (hby : c.code = bs) {k : Nat} {v : Int32} (hd : decode bs pc = .ok (.istore k, 2)) (hl : storeLocals L k (.int v) = some L') (hp : pc + 2 = pc') (K : Gl p e below n0 Φ Q (T.setTop (mkF m pc' L' S))) : Gl p e below n0 Φ Q (T.setTop (mkF m pc L (.int v :: S))) := by
  obtain ⟨locs, Y, -, -⟩ := X; subst hp; exact Gl.st (fun t k => XS.istore Y.here hx rfl (hb hby hd) rfl hl k) K
theorem g_istoreN (X : St p l e R s m args below meth c n0 T h cells slots) (hx : p.tables.exec = Jvm.exec) (hby : c.code = bs) {k : Fin 4} {v : Int32} (hd : decode bs pc = .ok (.istore_n k, 1)) (hl : storeLocals L k.val (.int v) = some L') (hp : pc + 1 = pc') (K : Gl p e below n0 Φ Q (T.setTop (mkF m pc' L' S))) : Gl p e below n0 Φ Q (T.setTop (mkF m pc L (.int v :: S))) := by
  obtain ⟨locs, Y, -, -⟩ := X; subst hp; exact Gl.st (fun t k => XS.istoreN Y.here hx rfl (hb hby hd) rfl hl k) K
theorem g_lstore (X : St p l e R s m args below meth c n0 T h cells slots) (hx : p.tables.exec = Jvm.exec) (hby : c.code = bs) {k : Nat} {v : Int64} (hd : decode bs pc = .ok (.lstore k, 2)) (hl : storeLocals L k (.long v) = some L') (hp : pc + 2 = pc') (K : Gl p e below n0 Φ Q (T.setTop (mkF m pc' L' S))) : Gl p e below n0 Φ Q (T.setTop (mkF m pc L (.long v :: S))) := by
  obtain ⟨locs, Y, -, -⟩ := X; subst hp; exact Gl.st (fun t k => XS.lstore Y.here hx rfl (hb hby hd) rfl hl k) K
theorem g_lstoreN (X : St p l e R s m args below meth c n0 T h cells slots) (hx : p.tables.exec = Jvm.exec) (hby : c.code = bs) {k : Fin 4} {v : Int64} (hd : decode bs pc = .ok (.lstore_n k, 1)) (hl : storeLocals L k.val (.long v) = some L') (hp : pc + 1 = pc') (K : Gl p e below n0 Φ Q (T.setTop (mkF m pc' L' S))) : Gl p e below n0 Φ Q (T.setTop (mkF m pc L (.long v :: S))) := by
  obtain ⟨locs, Y, -, -⟩ := X; subst hp; exact Gl.st (fun t k => XS.lstoreN Y.here hx rfl (hb hby hd) rfl hl k) K
theorem g_astore (X : St p l e R s m args below meth c n0 T h cells slots) (hx : p.tables.exec = Jvm.exec) (hby : c.code = bs) {k : Nat} {v : Value} (hd : decode bs pc = .ok (.astore k, 2)) (hv : v.isRef = true) (hl : storeLocals L k v = some L') (hp : pc + 2 = pc') (K : Gl p e below n0 Φ Q (T.setTop (mkF m pc' L' S))) : Gl p e below n0 Φ Q (T.setTop (mkF m pc L (v :: S))) := by
  obtain ⟨locs, Y, -, -⟩ := X; subst hp; exact Gl.st (fun t k => XS.astore Y.here hx rfl (hb hby hd) rfl hv hl k) K
theorem g_astoreN (X : St p l e R s m args below meth c n0 T h cells slots) (hx : p.tables.exec = Jvm.exec) (hby : c.code = bs) {k : Fin 4} {v : Value} (hd : decode bs pc = .ok (.astore_n k, 1)) (hv : v.isRef = true) (hl : storeLocals L k.val v = some L') (hp : pc + 1 = pc') (K : Gl p e below n0 Φ Q (T.setTop (mkF m pc' L' S))) : Gl p e below n0 Φ Q (T.setTop (mkF m pc L (v :: S))) := by
  obtain ⟨locs, Y, -, -⟩ := X; subst hp; exact Gl.st (fun t k => XS.astoreN Y.here hx rfl (hb hby hd) rfl hv hl k) K
theorem g_iconst (X : St p l e R s m args below meth c n0 T h cells slots) (hx : p.tables.exec = Jvm.exec) (hby : c.code = bs) {i : Int} {v : Int32} (hd : decode bs pc = .ok (.iconst i, 1)) (hv : Int32.ofInt i = v) (hp : pc + 1 = pc') (K : Gl p e below n0 Φ Q (T.setTop (mkF m pc' L (.int v :: S)))) : Gl p e below n0 Φ Q (T.setTop (mkF m pc L S)) := by
  obtain ⟨locs, Y, -, -⟩ := X; subst hp hv; exact Gl.st (fun t k => XS.iconst Y.here hx rfl (hb hby hd) k) K
theorem g_bipush (X : St p l e R s m args below meth c n0 T h cells slots) (hx : p.tables.exec = Jvm.exec) (hby : c.code = bs) {i : Int} {v : Int32} (hd : decode bs pc = .ok (.bipush i, 2)) (hv : (Int8.ofInt i).toInt32 = v) (hp : pc + 2 = pc') (K : Gl p e below n0 Φ Q (T.setTop (mkF m pc' L (.int v :: S)))) : Gl p e below n0 Φ Q (T.setTop (mkF m pc L S)) := by
  obtain ⟨locs, Y, -, -⟩ := X; subst hp hv; exact Gl.st (fun t k => XS.bipush Y.here hx rfl (hb hby hd) k) K
theorem g_sipush (X : St p l e R s m args below meth c n0 T h cells slots) (hx : p.tables.exec = Jvm.exec) (hby : c.code = bs) {i : Int} {v : Int32} (hd : decode bs pc = .ok (.sipush i, 3)) (hv : (Int16.ofInt i).toInt32 = v) (hp : pc + 3 = pc') (K : Gl p e below n0 Φ Q (T.setTop (mkF m pc' L (.int v :: S)))) : Gl p e below n0 Φ Q (T.setTop (mkF m pc L S)) := by
  obtain ⟨locs, Y, -, -⟩ := X; subst hp hv; exact Gl.st (fun t k => XS.sipush Y.here hx rfl (hb hby hd) k) K
theorem g_lconst (X : St p l e R s m args below meth c n0 T h cells slots) (hx : p.tables.exec = Jvm.exec) (hby : c.code = bs) {i : Fin 2} {v : Int64} (hd : decode bs pc = .ok (.lconst i, 1)) (hv : Int64.ofNat i = v) (hp : pc + 1 = pc') (K : Gl p e below n0 Φ Q (T.setTop (mkF m pc' L (.long v :: S)))) : Gl p e below n0 Φ Q (T.setTop (mkF m pc L S)) := by
  obtain ⟨locs, Y, -, -⟩ := X; subst hp hv; exact Gl.st (fun t k => XS.lconst Y.here hx rfl (hb hby hd) k) K
theorem g_aconst_null (X : St p l e R s m args below meth c n0 T h cells slots) (hx : p.tables.exec = Jvm.exec) (hby : c.code = bs) (hd : decode bs pc = .ok (.aconst_null, 1)) (hp : pc + 1 = pc') (K : Gl p e below n0 Φ Q (T.setTop (mkF m pc' L (.null :: S)))) : Gl p e below n0 Φ Q (T.setTop (mkF m pc L S)) := by
  obtain ⟨locs, Y, -, -⟩ := X; subst hp; exact Gl.st (fun t k => XS.aconstNull Y.here hx rfl (hb hby hd) k) K
theorem g_ldc (X : St p l e R s m args below meth c n0 T h cells slots) (hx : p.tables.exec = Jvm.exec) (hby : c.code = bs) (hZ : Z.Warmed39 s.vm) {own : String} {index : Nat} {v : Int32} (hown : s.vm.findClass own = some m.cls) (w : (Cond.constant own index v).before a0 Z = true) (hd : decode bs pc = .ok (.ldc index, 2)) (hp : pc + 2 = pc') (K : Gl p e below n0 Φ Q (T.setTop (mkF m pc' L (.int v :: S)))) : Gl p e below n0 Φ Q (T.setTop (mkF m pc L S)) := by
  obtain ⟨locs, Y, -, -⟩ := X; subst hp; exact Gl.st (Y.ldcInt hx hown (mvT hZ w) (g := mkF m pc L S) rfl (hb hby hd)) K
theorem g_ldc2_w (X : St p l e R s m args below meth c n0 T h cells slots) (hx : p.tables.exec = Jvm.exec) (hby : c.code = bs) (hZ : Z.Warmed39 s.vm) {own : String} {index : Nat} {v : Int64} (hown : s.vm.findClass own = some m.cls) (w : (Cond.constantLong own index v).before a0 Z = true) (hd : decode bs pc = .ok (.ldc2_w index, 3)) (hp : pc + 3 = pc') (K : Gl p e below n0 Φ Q (T.setTop (mkF m pc' L (.long v :: S)))) : Gl p e below n0 Φ Q (T.setTop (mkF m pc L S)) := by
  obtain ⟨locs, Y, -, -⟩ := X; subst hp; exact Gl.st (Y.ldc2Long hx hown (mvT hZ w) (g := mkF m pc L S) rfl (hb hby hd)) K
theorem g_iadd (X : St p l e R s m args below meth c n0 T h cells slots) (hx : p.tables.exec = Jvm.exec) (hby : c.code = bs) {x y : Int32} (hd : decode bs pc = .ok (.iadd, 1))  (hp : pc + 1 = pc') (K : Gl p e below n0 Φ Q (T.setTop (mkF m pc' L (.int (x + y) :: S)))) : Gl p e below n0 Φ Q (T.setTop (mkF m pc L (.int y :: .int x :: S))) := by
  obtain ⟨locs, Y, -, -⟩ := X; subst hp; exact Gl.st (fun t k => XS.iadd Y.here hx rfl (hb hby hd) rfl k) K
theorem g_isub (X : St p l e R s m args below meth c n0 T h cells slots) (hx : p.tables.exec = Jvm.exec) (hby : c.code = bs) {x y : Int32} (hd : decode bs pc = .ok (.isub, 1))  (hp : pc + 1 = pc') (K : Gl p e below n0 Φ Q (T.setTop (mkF m pc' L (.int (x - y) :: S)))) : Gl p e below n0 Φ Q (T.setTop (mkF m pc L (.int y :: .int x :: S))) := by
  obtain ⟨locs, Y, -, -⟩ := X; subst hp; exact Gl.st (fun t k => XS.isub Y.here hx rfl (hb hby hd) rfl k) K
theorem g_imul (X : St p l e R s m args below meth c n0 T h cells slots) (hx : p.tables.exec = Jvm.exec) (hby : c.code = bs) {x y : Int32} (hd : decode bs pc = .ok (.imul, 1))  (hp : pc + 1 = pc') (K : Gl p e below n0 Φ Q (T.setTop (mkF m pc' L (.int (x * y) :: S)))) : Gl p e below n0 Φ Q (T.setTop (mkF m pc L (.int y :: .int x :: S))) := by
  obtain ⟨locs, Y, -, -⟩ := X; subst hp; exact Gl.st (fun t k => XS.imul Y.here hx rfl (hb hby hd) rfl k) K
theorem g_iand (X : St p l e R s m args below meth c n0 T h cells slots) (hx : p.tables.exec = Jvm.exec) (hby : c.code = bs) {x y : Int32} (hd : decode bs pc = .ok (.iand, 1))  (hp : pc + 1 = pc') (K : Gl p e below n0 Φ Q (T.setTop (mkF m pc' L (.int (x &&& y) :: S)))) : Gl p e below n0 Φ Q (T.setTop (mkF m pc L (.int y :: .int x :: S))) := by
  obtain ⟨locs, Y, -, -⟩ := X; subst hp; exact Gl.st (fun t k => XS.iand Y.here hx rfl (hb hby hd) rfl k) K
theorem g_ior (X : St p l e R s m args below meth c n0 T h cells slots) (hx : p.tables.exec = Jvm.exec) (hby : c.code = bs) {x y : Int32} (hd : decode bs pc = .ok (.ior, 1))  (hp : pc + 1 = pc') (K : Gl p e below n0 Φ Q (T.setTop (mkF m pc' L (.int (x ||| y) :: S)))) : Gl p e below n0 Φ Q (T.setTop (mkF m pc L (.int y :: .int x :: S))) := by
  obtain ⟨locs, Y, -, -⟩ := X; subst hp; exact Gl.st (fun t k => XS.ior Y.here hx rfl (hb hby hd) rfl k) K
theorem g_ixor (X : St p l e R s m args below meth c n0 T h cells slots) (hx : p.tables.exec = Jvm.exec) (hby : c.code = bs) {x y : Int32} (hd : decode bs pc = .ok (.ixor, 1))  (hp : pc + 1 = pc') (K : Gl p e below n0 Φ Q (T.setTop (mkF m pc' L (.int (x ^^^ y) :: S)))) : Gl p e below n0 Φ Q (T.setTop (mkF m pc L (.int y :: .int x :: S))) := by
  obtain ⟨locs, Y, -, -⟩ := X; subst hp; exact Gl.st (fun t k => XS.ixor Y.here hx rfl (hb hby hd) rfl k) K
theorem g_ishl (X : St p l e R s m args below meth c n0 T h cells slots) (hx : p.tables.exec = Jvm.exec) (hby : c.code = bs) {x y : Int32} (hd : decode bs pc = .ok (.ishl, 1))  (hp : pc + 1 = pc') (K : Gl p e below n0 Φ Q (T.setTop (mkF m pc' L (.int (x <<< (y &&& 31)) :: S)))) : Gl p e below n0 Φ Q (T.setTop (mkF m pc L (.int y :: .int x :: S))) := by
  obtain ⟨locs, Y, -, -⟩ := X; subst hp; exact Gl.st (fun t k => XS.ishl Y.here hx rfl (hb hby hd) rfl k) K
theorem g_ishr (X : St p l e R s m args below meth c n0 T h cells slots) (hx : p.tables.exec = Jvm.exec) (hby : c.code = bs) {x y : Int32} (hd : decode bs pc = .ok (.ishr, 1))  (hp : pc + 1 = pc') (K : Gl p e below n0 Φ Q (T.setTop (mkF m pc' L (.int (x >>> (y &&& 31)) :: S)))) : Gl p e below n0 Φ Q (T.setTop (mkF m pc L (.int y :: .int x :: S))) := by
  obtain ⟨locs, Y, -, -⟩ := X; subst hp; exact Gl.st (fun t k => XS.ishr Y.here hx rfl (hb hby hd) rfl k) K
theorem g_iushr (X : St p l e R s m args below meth c n0 T h cells slots) (hx : p.tables.exec = Jvm.exec) (hby : c.code = bs) {x y : Int32} (hd : decode bs pc = .ok (.iushr, 1))  (hp : pc + 1 = pc') (K : Gl p e below n0 Φ Q (T.setTop (mkF m pc' L (.int ((x.toUInt32 >>> (y &&& 31).toUInt32).toInt32) :: S)))) : Gl p e below n0 Φ Q (T.setTop (mkF m pc L (.int y :: .int x :: S))) := by
  obtain ⟨locs, Y, -, -⟩ := X; subst hp; exact Gl.st (fun t k => XS.iushr Y.here hx rfl (hb hby hd) rfl k) K
theorem g_ladd (X : St p l e R s m args below meth c n0 T h cells slots) (hx : p.tables.exec = Jvm.exec) (hby : c.code = bs) {x y : Int64} (hd : decode bs pc = .ok (.ladd, 1))  (hp : pc + 1 = pc') (K : Gl p e below n0 Φ Q (T.setTop (mkF m pc' L (.long (x + y) :: S)))) : Gl p e below n0 Φ Q (T.setTop (mkF m pc L (.long y :: .long x :: S))) := by
  obtain ⟨locs, Y, -, -⟩ := X; subst hp; exact Gl.st (fun t k => XS.ladd Y.here hx rfl (hb hby hd) rfl k) K
theorem g_lsub (X : St p l e R s m args below meth c n0 T h cells slots) (hx : p.tables.exec = Jvm.exec) (hby : c.code = bs) {x y : Int64} (hd : decode bs pc = .ok (.lsub, 1))  (hp : pc + 1 = pc') (K : Gl p e below n0 Φ Q (T.setTop (mkF m pc' L (.long (x - y) :: S)))) : Gl p e below n0 Φ Q (T.setTop (mkF m pc L (.long y :: .long x :: S))) := by
  obtain ⟨locs, Y, -, -⟩ := X; subst hp; exact Gl.st (fun t k => XS.lsub Y.here hx rfl (hb hby hd) rfl k) K
theorem g_lmul (X : St p l e R s m args below meth c n0 T h cells slots) (hx : p.tables.exec = Jvm.exec) (hby : c.code = bs) {x y : Int64} (hd : decode bs pc = .ok (.lmul, 1))  (hp : pc + 1 = pc') (K : Gl p e below n0 Φ Q (T.setTop (mkF m pc' L (.long (x * y) :: S)))) : Gl p e below n0 Φ Q (T.setTop (mkF m pc L (.long y :: .long x :: S))) := by
  obtain ⟨locs, Y, -, -⟩ := X; subst hp; exact Gl.st (fun t k => XS.lmul Y.here hx rfl (hb hby hd) rfl k) K
theorem g_land (X : St p l e R s m args below meth c n0 T h cells slots) (hx : p.tables.exec = Jvm.exec) (hby : c.code = bs) {x y : Int64} (hd : decode bs pc = .ok (.land, 1))  (hp : pc + 1 = pc') (K : Gl p e below n0 Φ Q (T.setTop (mkF m pc' L (.long (x &&& y) :: S)))) : Gl p e below n0 Φ Q (T.setTop (mkF m pc L (.long y :: .long x :: S))) := by
  obtain ⟨locs, Y, -, -⟩ := X; subst hp; exact Gl.st (fun t k => XS.land Y.here hx rfl (hb hby hd) rfl k) K
theorem g_lor (X : St p l e R s m args below meth c n0 T h cells slots) (hx : p.tables.exec = Jvm.exec) (hby : c.code = bs) {x y : Int64} (hd : decode bs pc = .ok (.lor, 1))  (hp : pc + 1 = pc') (K : Gl p e below n0 Φ Q (T.setTop (mkF m pc' L (.long (x ||| y) :: S)))) : Gl p e below n0 Φ Q (T.setTop (mkF m pc L (.long y :: .long x :: S))) := by
  obtain ⟨locs, Y, -, -⟩ := X; subst hp; exact Gl.st (fun t k => XS.lor Y.here hx rfl (hb hby hd) rfl k) K
theorem g_lxor (X : St p l e R s m args below meth c n0 T h cells slots) (hx : p.tables.exec = Jvm.exec) (hby : c.code = bs) {x y : Int64} (hd : decode bs pc = .ok (.lxor, 1))  (hp : pc + 1 = pc') (K : Gl p e below n0 Φ Q (T.setTop (mkF m pc' L (.long (x ^^^ y) :: S)))) : Gl p e below n0 Φ Q (T.setTop (mkF m pc L (.long y :: .long x :: S))) := by
  obtain ⟨locs, Y, -, -⟩ := X; subst hp; exact Gl.st (fun t k => XS.lxor Y.here hx rfl (hb hby hd) rfl k) K
theorem g_lushr (X : St p l e R s m args below meth c n0 T h cells slots) (hx : p.tables.exec = Jvm.exec) (hby : c.code = bs) {x : Int64} {y : Int32} (hd : decode bs pc = .ok (.lushr, 1))  (hp : pc + 1 = pc') (K : Gl p e below n0 Φ Q (T.setTop (mkF m pc' L (.long ((x.toUInt64 >>> (y &&& 0x3f).toInt64.toUInt64).toInt64) :: S)))) : Gl p e below n0 Φ Q (T.setTop (mkF m pc L (.int y :: .long x :: S))) := by
  obtain ⟨locs, Y, -, -⟩ := X; subst hp; exact Gl.st (fun t k => XS.lushr Y.here hx rfl (hb hby hd) rfl k) K
theorem g_irem (X : St p l e R s m args below meth c n0 T h cells slots) (hx : p.tables.exec = Jvm.exec) (hby : c.code = bs) {x y : Int32} (hd : decode bs pc = .ok (.irem, 1)) (hy : y ≠ 0) (hp : pc + 1 = pc') (K : Gl p e below n0 Φ Q (T.setTop (mkF m pc' L (.int (x % y) :: S)))) : Gl p e below n0 Φ Q (T.setTop (mkF m pc L (.int y :: .int x :: S))) := by
  obtain ⟨locs, Y, -, -⟩ := X; subst hp; exact Gl.st (fun t k => iremM Y hx rfl (hb hby hd) rfl hy k) K
theorem g_lrem (X : St p l e R s m args below meth c n0 T h cells slots) (hx : p.tables.exec = Jvm.exec) (hby : c.code = bs) {x y : Int64} (hd : decode bs pc = .ok (.lrem, 1)) (hy : y ≠ 0) (hp : pc + 1 = pc') (K : Gl p e below n0 Φ Q (T.setTop (mkF m pc' L (.long (x - (x / y) * y) :: S)))) : Gl p e below n0 Φ Q (T.setTop (mkF m pc L (.long y :: .long x :: S))) := by
  obtain ⟨locs, Y, -, -⟩ := X; subst hp; exact Gl.st (fun t k => XS.lrem Y.here hx rfl (hb hby hd) rfl hy k) K
theorem g_i2l (X : St p l e R s m args below meth c n0 T h cells slots) (hx : p.tables.exec = Jvm.exec) (hby : c.code = bs) {x : Int32} (hd : decode bs pc = .ok (.i2l, 1))  (hp : pc + 1 = pc') (K : Gl p e below n0 Φ Q (T.setTop (mkF m pc' L (.long (x.toInt64) :: S)))) : Gl p e below n0 Φ Q (T.setTop (mkF m pc L (.int x :: S))) := by
  obtain ⟨locs, Y, -, -⟩ := X; subst hp; exact Gl.st (fun t k => XS.i2l Y.here hx rfl (hb hby hd) rfl k) K
theorem g_l2i (X : St p l e R s m args below meth c n0 T h cells slots) (hx : p.tables.exec = Jvm.exec) (hby : c.code = bs) {x : Int64} (hd : decode bs pc = .ok (.l2i, 1))  (hp : pc + 1 = pc') (K : Gl p e below n0 Φ Q (T.setTop (mkF m pc' L (.int (x.toInt32) :: S)))) : Gl p e below n0 Φ Q (T.setTop (mkF m pc L (.long x :: S))) := by
  obtain ⟨locs, Y, -, -⟩ := X; subst hp; exact Gl.st (fun t k => XS.l2i Y.here hx rfl (hb hby hd) rfl k) K
theorem g_i2b (X : St p l e R s m args below meth c n0 T h cells slots) (hx : p.tables.exec = Jvm.exec) (hby : c.code = bs) {x : Int32} (hd : decode bs pc = .ok (.i2b, 1))  (hp : pc + 1 = pc') (K : Gl p e below n0 Φ Q (T.setTop (mkF m pc' L (.int (x.toInt8.toInt32) :: S)))) : Gl p e below n0 Φ Q (T.setTop (mkF m pc L (.int x :: S))) := by
  obtain ⟨locs, Y, -, -⟩ := X; subst hp; exact Gl.st (fun t k => XS.i2b Y.here hx rfl (hb hby hd) rfl k) K
theorem g_i2c (X : St p l e R s m args below meth c n0 T h cells slots) (hx : p.tables.exec = Jvm.exec) (hby : c.code = bs) {x : Int32} (hd : decode bs pc = .ok (.i2c, 1))  (hp : pc + 1 = pc') (K : Gl p e below n0 Φ Q (T.setTop (mkF m pc' L (.int (x.toUInt32.toUInt16.toUInt32.toInt32) :: S)))) : Gl p e below n0 Φ Q (T.setTop (mkF m pc L (.int x :: S))) := by
  obtain ⟨locs, Y, -, -⟩ := X; subst hp; exact Gl.st (fun t k => XS.i2c Y.here hx rfl (hb hby hd) rfl k) K
theorem g_ineg (X : St p l e R s m args below meth c n0 T h cells slots) (hx : p.tables.exec = Jvm.exec) (hby : c.code = bs) {x : Int32} (hd : decode bs pc = .ok (.ineg, 1))  (hp : pc + 1 = pc') (K : Gl p e below n0 Φ Q (T.setTop (mkF m pc' L (.int (-x) :: S)))) : Gl p e below n0 Φ Q (T.setTop (mkF m pc L (.int x :: S))) := by
  obtain ⟨locs, Y, -, -⟩ := X; subst hp; exact Gl.st (fun t k => XS.ineg Y.here hx rfl (hb hby hd) rfl k) K
theorem g_dload (X : St p l e R s m args below meth c n0 T h cells slots) (hx : p.tables.exec = Jvm.exec) (hby : c.code = bs) {k : Nat} {v : UInt64} (hd : decode bs pc = .ok (.dload k, 2)) (hl : L[k]? = some (.val (.double v))) (hp : pc + 2 = pc') (K : Gl p e below n0 Φ Q (T.setTop (mkF m pc' L (.double v :: S)))) : Gl p e below n0 Φ Q (T.setTop (mkF m pc L S)) := by
  obtain ⟨locs, Y, -, -⟩ := X; subst hp; exact Gl.st (fun t k => XS.dload Y.here hx rfl (hb hby hd) hl k) K
theorem g_dloadN (X : St p l e R s m args below meth c n0 T h cells slots) (hx : p.tables.exec = Jvm.exec) (hby : c.code = bs) {k : Fin 4} {v : UInt64} (hd : decode bs pc = .ok (.dload_n k, 1)) (hl : L[k.val]? = some (.val (.double v))) (hp : pc + 1 = pc') (K : Gl p e below n0 Φ Q (T.setTop (mkF m pc' L (.double v :: S)))) : Gl p e below n0 Φ Q (T.setTop (mkF m pc L S)) := by
  obtain ⟨locs, Y, -, -⟩ := X; subst hp; exact Gl.st (fun t k => XS.dloadN Y.here hx rfl (hb hby hd) hl k) K
theorem g_dstore (X : St p l e R s m args below meth c n0 T h cells slots) (hx : p.tables.exec = Jvm.exec) (hby : c.code = bs) {k : Nat} {v : UInt64} (hd : decode bs pc = .ok (.dstore k, 2)) (hl : storeLocals L k (.double v) = some L') (hp : pc + 2 = pc') (K : Gl p e below n0 Φ Q (T.setTop (mkF m pc' L' S))) : Gl p e below n0 Φ Q (T.setTop (mkF m pc L (.double v :: S))) := by
  obtain ⟨locs, Y, -, -⟩ := X; subst hp; exact Gl.st (fun t k => XS.dstore Y.here hx rfl (hb hby hd) rfl hl k) K
theorem g_dstoreN (X : St p l e R s m args below meth c n0 T h cells slots) (hx : p.tables.exec = Jvm.exec) (hby : c.code = bs) {k : Fin 4} {v : UInt64} (hd : decode bs pc = .ok (.dstore_n k, 1)) (hl : storeLocals L k.val (.double v) = some L') (hp : pc + 1 = pc') (K : Gl p e below n0 Φ Q (T.setTop (mkF m pc' L' S))) : Gl p e below n0 Φ Q (T.setTop (mkF m pc L (.double v :: S))) := by
  obtain ⟨locs, Y, -, -⟩ := X; subst hp; exact Gl.st (fun t k => XS.dstoreN Y.here hx rfl (hb hby hd) rfl hl k) K
theorem g_i2d (X : St p l e R s m args below meth c n0 T h cells slots) (hx : p.tables.exec = Jvm.exec) (hby : c.code = bs) {x : Int32} (hd : decode bs pc = .ok (.i2d, 1))  (hp : pc + 1 = pc') (K : Gl p e below n0 Φ Q (T.setTop (mkF m pc' L (.double (FP.i2d x) :: S)))) : Gl p e below n0 Φ Q (T.setTop (mkF m pc L (.int x :: S))) := by
  obtain ⟨locs, Y, -, -⟩ := X; subst hp; exact Gl.st (fun t k => XS.i2dS Y.here hx rfl (hb hby hd) rfl rfl k) K
theorem g_dconst0 (X : St p l e R s m args below meth c n0 T h cells slots) (hx : p.tables.exec = Jvm.exec) (hby : c.code = bs) (hd : decode bs pc = .ok (.dconst 0, 1)) (hp : pc + 1 = pc') (K : Gl p e below n0 Φ Q (T.setTop (mkF m pc' L (.double FP.dconst0 :: S)))) : Gl p e below n0 Φ Q (T.setTop (mkF m pc L S)) := by
  obtain ⟨locs, Y, -, -⟩ := X; subst hp; exact Gl.st (fun t k => XS.dconst0 Y.here hx rfl (hb hby hd) rfl k) K
theorem g_dconst1 (X : St p l e R s m args below meth c n0 T h cells slots) (hx : p.tables.exec = Jvm.exec) (hby : c.code = bs) (hd : decode bs pc = .ok (.dconst 1, 1)) (hp : pc + 1 = pc') (K : Gl p e below n0 Φ Q (T.setTop (mkF m pc' L (.double FP.dconst1 :: S)))) : Gl p e below n0 Φ Q (T.setTop (mkF m pc L S)) := by
  obtain ⟨locs, Y, -, -⟩ := X; subst hp; exact Gl.st (fun t k => XS.dconst1 Y.here hx rfl (hb hby hd) rfl k) K
theorem g_ddiv (X : St p l e R s m args below meth c n0 T h cells slots) (hx : p.tables.exec = Jvm.exec) (hby : c.code = bs) {x y : UInt64} (hd : decode bs pc = .ok (.ddiv, 1)) (hn : Jvm.Free.Fl.NoNaN64 (FP.ddiv x y)) (hp : pc + 1 = pc') (K : Gl p e below n0 Φ Q (T.setTop (mkF m pc' L (.double (FP.ddiv x y) :: S)))) : Gl p e below n0 Φ Q (T.setTop (mkF m pc L (.double y :: .double x :: S))) := by
  obtain ⟨locs, Y, -, -⟩ := X; subst hp; exact Gl.st (fun t k => XS.ddivS Y.here hx rfl (hb hby hd) rfl hn rfl k) K
theorem g_dcmp (X : St p l e R s m args below meth c n0 T h cells slots) (hx : p.tables.exec = Jvm.exec) (hby : c.code = bs) {x y : UInt64} {o : CmpOp} {v : Int32} (hd : decode bs pc = .ok (.dcmp o, 1)) (hv : cmpValue (FP.dcmp x y) o = v) (hp : pc + 1 = pc') (K : Gl p e below n0 Φ Q (T.setTop (mkF m pc' L (.int v :: S)))) : Gl p e below n0 Φ Q (T.setTop (mkF m pc L (.double y :: .double x :: S))) := by
  obtain ⟨locs, Y, -, -⟩ := X; subst hp; exact Gl.st (fun t k => XS.dcmpS Y.here hx rfl (hb hby hd) rfl hv k) K
theorem g_dup (X : St p l e R s m args below meth c n0 T h cells slots) (hx : p.tables.exec = Jvm.exec) (hby : c.code = bs) {v : Value} (hd : decode bs pc = .ok (.dup, 1)) (hc : v.category = 1) (hp : pc + 1 = pc') (K : Gl p e below n0 Φ Q (T.setTop (mkF m pc' L (v :: v :: S)))) : Gl p e below n0 Φ Q (T.setTop (mkF m pc L (v :: S))) := by
  obtain ⟨locs, Y, -, -⟩ := X; subst hp; exact Gl.st (fun t k => XS.dup Y.here hx rfl (hb hby hd) rfl hc k) K
theorem g_pop (X : St p l e R s m args below meth c n0 T h cells slots) (hx : p.tables.exec = Jvm.exec) (hby : c.code = bs) {v : Value} (hd : decode bs pc = .ok (.pop, 1)) (hc : v.category = 1) (hp : pc + 1 = pc') (K : Gl p e below n0 Φ Q (T.setTop (mkF m pc' L S))) : Gl p e below n0 Φ Q (T.setTop (mkF m pc L (v :: S))) := by
  obtain ⟨locs, Y, -, -⟩ := X; subst hp; exact Gl.st (fun t k => XS.pop Y.here hx rfl (hb hby hd) rfl hc k) K
theorem g_dup2 (X : St p l e R s m args below meth c n0 T h cells slots) (hx : p.tables.exec = Jvm.exec) (hby : c.code = bs) {v w : Value} (hd : decode bs pc = .ok (.dup2, 1)) (hc : v.category = 1) (hc' : w.category = 1) (hp : pc + 1 = pc') (K : Gl p e below n0 Φ Q (T.setTop (mkF m pc' L (v :: w :: v :: w :: S)))) : Gl p e below n0 Φ Q (T.setTop (mkF m pc L (v :: w :: S))) := by
  obtain ⟨locs, Y, -, -⟩ := X; subst hp; exact Gl.st (fun t k => XT.dup2 Y.here hx rfl (hb hby hd) rfl hc hc' k) K
theorem g_iinc (X : St p l e R s m args below meth c n0 T h cells slots) (hx : p.tables.exec = Jvm.exec) (hby : c.code = bs) {k : Nat} {i : Int} {x y : Int32} (hd : decode bs pc = .ok (.iinc k i, 3)) (hl : L[k]? = some (.val (.int x))) (hy : Int32.ofInt i = y) (hl' : storeLocals L k (.int (x + y)) = some L') (hp : pc + 3 = pc') (K : Gl p e below n0 Φ Q (T.setTop (mkF m pc' L' S))) : Gl p e below n0 Φ Q (T.setTop (mkF m pc L S)) := by
  obtain ⟨locs, Y, -, -⟩ := X; subst hp hy; exact Gl.st (fun t k => XS.iinc Y.here hx rfl (hb hby hd) hl hl' k) K
theorem g_goto (X : St p l e R s m args below meth c n0 T h cells slots) (hx : p.tables.exec = Jvm.exec) (hby : c.code = bs) {o : Int} (hd : decode bs pc = .ok (.goto o, 3)) (ho : 0 ≤ (pc : Int) + o) (hp : ((pc : Int) + o).toNat = pc') (K : Gl p e below n0 Φ Q (T.setTop (mkF m pc' L S))) : Gl p e below n0 Φ Q (T.setTop (mkF m pc L S)) := by
  obtain ⟨locs, Y, -, -⟩ := X; exact Gl.st (fun t k => XS.goto Y.here hx rfl (pc0 := pc) rfl (hb hby hd) ho hp k) K
theorem g_icmp (X : St p l e R s m args below meth c n0 T h cells slots) (hx : p.tables.exec = Jvm.exec) (hby : c.code = bs) {cd : ClassFile.Cond} {o : Int} {x y : Int32} {pc2 : Nat} (hd : decode bs pc = .ok (.if_icmp cd o, 3)) (ho : 0 ≤ (pc : Int) + o) (hp : ((pc : Int) + o).toNat = pc') (hq : pc + 3 = pc2) (K1 : if_icmp.holds cd x y = true → Gl p e below n0 Φ Q (T.setTop (mkF m pc' L S))) (K2 : if_icmp.holds cd x y = false → Gl p e below n0 Φ Q (T.setTop (mkF m pc2 L S))) : Gl p e below n0 Φ Q (T.setTop (mkF m pc L (.int y :: .int x :: S))) := by
  obtain ⟨locs, Y, -, -⟩ := X; subst hq
  cases hc : if_icmp.holds cd x y with
  | true => exact Gl.st (fun t k => XS.icmpYes Y.here hx rfl (pc0 := pc) rfl (hb hby hd) rfl hc ho hp k) (K1 hc)
  | false => exact Gl.st (fun t k => XS.icmpNo Y.here hx rfl (hb hby hd) rfl hc k) (K2 hc)
theorem g_if (X : St p l e R s m args below meth c n0 T h cells slots) (hx : p.tables.exec = Jvm.exec) (hby : c.code = bs) {cd : ClassFile.Cond} {o : Int} {x : Int32} {pc2 : Nat} (hd : decode bs pc = .ok (.ifCond cd o, 3)) (ho : 0 ≤ (pc : Int) + o) (hp : ((pc : Int) + o).toNat = pc') (hq : pc + 3 = pc2) (K1 : if_icmp.holds cd x 0 = true → Gl p e below n0 Φ Q (T.setTop (mkF m pc' L S))) (K2 : if_icmp.holds cd x 0 = false → Gl p e below n0 Φ Q (T.setTop (mkF m pc2 L S))) : Gl p e below n0 Φ Q (T.setTop (mkF m pc L (.int x :: S))) := by
  obtain ⟨locs, Y, -, -⟩ := X; subst hq
  cases hc : if_icmp.holds cd x 0 with
  | true => exact Gl.st (fun t k => XS.ifYes Y.here hx rfl (pc0 := pc) rfl (hb hby hd) rfl ((if0 _ _).trans hc) ho hp k) (K1 hc)
  | false => exact Gl.st (fun t k => XS.ifNo Y.here hx rfl (hb hby hd) rfl ((if0 _ _).trans hc) k) (K2 hc)
theorem g_icmp_eq (X : St p l e R s m args below meth c n0 T h cells slots) (hx : p.tables.exec = Jvm.exec) (hby : c.code = bs) {o : Int} {x y : Int32} {pc2 : Nat} (hd : decode bs pc = .ok (.if_icmp .eq o, 3)) (ho : 0 ≤ (pc : Int) + o) (hp : ((pc : Int) + o).toNat = pc') (hq : pc + 3 = pc2) (K1 : x = y → Gl p e below n0 Φ Q (T.setTop (mkF m pc' L S))) (K2 : ¬ (x = y) → Gl p e below n0 Φ Q (T.setTop (mkF m pc2 L S))) : Gl p e below n0 Φ Q (T.setTop (mkF m pc L (.int y :: .int x :: S))) :=
  g_icmp X hx hby hd ho hp hq (fun q => K1 (by simpa [if_icmp.holds] using q)) (fun q => K2 (by simpa [if_icmp.holds] using q))
theorem g_if_eq (X : St p l e R s m args below meth c n0 T h cells slots) (hx : p.tables.exec = Jvm.exec) (hby : c.code = bs) {o : Int} {x : Int32} {pc2 : Nat} (hd : decode bs pc = .ok (.ifCond .eq o, 3)) (ho : 0 ≤ (pc : Int) + o) (hp : ((pc : Int) + o).toNat = pc') (hq : pc + 3 = pc2) (K1 : x = 0 → Gl p e below n0 Φ Q (T.setTop (mkF m pc' L S))) (K2 : ¬ (x = 0) → Gl p e below n0 Φ Q (T.setTop (mkF m pc2 L S))) : Gl p e below n0 Φ Q (T.setTop (mkF m pc L (.int x :: S))) :=
  g_if X hx hby hd ho hp hq (fun q => K1 (by simpa [if_icmp.holds] using q)) (fun q => K2 (by simpa [if_icmp.holds] using q))
theorem g_lcmp_eq (X : St p l e R s m args below meth c n0 T h cells slots) (hx : p.tables.exec = Jvm.exec) (hby : c.code = bs) {o : Int} {x y : Int64} {pc1 pc2 : Nat} (hd1 : decode bs pc = .ok (.lcmp, 1)) (hp1 : pc + 1 = pc1) (hd : decode bs pc1 = .ok (.ifCond .eq o, 3)) (ho : 0 ≤ (pc1 : Int) + o) (hp : ((pc1 : Int) + o).toNat = pc') (hq : pc1 + 3 = pc2) (K1 : x = y → Gl p e below n0 Φ Q (T.setTop (mkF m pc' L S))) (K2 : ¬ (x = y) → Gl p e below n0 Φ Q (T.setTop (mkF m pc2 L S))) : Gl p e below n0 Φ Q (T.setTop (mkF m pc L (.long y :: .long x :: S))) := by
  obtain ⟨locs, Y, b1, b2⟩ := X; subst hp1
  refine Gl.st (V := T.setTop (mkF m (pc + 1) L (.int (lcmpW x y) :: S))) (fun t k => XS.lcmp Y.here hx rfl (hb hby hd1) rfl k) ?_
  exact g_if_eq ⟨locs, Y, b1, b2⟩ hx hby hd ho hp hq (fun q => K1 (by simpa [lw_lt, lw_gt, lw_eq] using q)) (fun q => K2 (by simpa [lw_lt, lw_gt, lw_eq] using q))
theorem g_icmp_ne (X : St p l e R s m args below meth c n0 T h cells slots) (hx : p.tables.exec = Jvm.exec) (hby : c.code = bs) {o : Int} {x y : Int32} {pc2 : Nat} (hd : decode bs pc = .ok (.if_icmp .ne o, 3)) (ho : 0 ≤ (pc : Int) + o) (hp : ((pc : Int) + o).toNat = pc') (hq : pc + 3 = pc2) (K1 : ¬ (x = y) → Gl p e below n0 Φ Q (T.setTop (mkF m pc' L S))) (K2 : x = y → Gl p e below n0 Φ Q (T.setTop (mkF m pc2 L S))) : Gl p e below n0 Φ Q (T.setTop (mkF m pc L (.int y :: .int x :: S))) :=
  g_icmp X hx hby hd ho hp hq (fun q => K1 (by simpa [if_icmp.holds] using q)) (fun q => K2 (by simpa [if_icmp.holds] using q))
theorem g_if_ne (X : St p l e R s m args below meth c n0 T h cells slots) (hx : p.tables.exec = Jvm.exec) (hby : c.code = bs) {o : Int} {x : Int32} {pc2 : Nat} (hd : decode bs pc = .ok (.ifCond .ne o, 3)) (ho : 0 ≤ (pc : Int) + o) (hp : ((pc : Int) + o).toNat = pc') (hq : pc + 3 = pc2) (K1 : ¬ (x = 0) → Gl p e below n0 Φ Q (T.setTop (mkF m pc' L S))) (K2 : x = 0 → Gl p e below n0 Φ Q (T.setTop (mkF m pc2 L S))) : Gl p e below n0 Φ Q (T.setTop (mkF m pc L (.int x :: S))) :=
  g_if X hx hby hd ho hp hq (fun q => K1 (by simpa [if_icmp.holds] using q)) (fun q => K2 (by simpa [if_icmp.holds] using q))
theorem g_lcmp_ne (X : St p l e R s m args below meth c n0 T h cells slots) (hx : p.tables.exec = Jvm.exec) (hby : c.code = bs) {o : Int} {x y : Int64} {pc1 pc2 : Nat} (hd1 : decode bs pc = .ok (.lcmp, 1)) (hp1 : pc + 1 = pc1) (hd : decode bs pc1 = .ok (.ifCond .ne o, 3)) (ho : 0 ≤ (pc1 : Int) + o) (hp : ((pc1 : Int) + o).toNat = pc') (hq : pc1 + 3 = pc2) (K1 : ¬ (x = y) → Gl p e below n0 Φ Q (T.setTop (mkF m pc' L S))) (K2 : x = y → Gl p e below n0 Φ Q (T.setTop (mkF m pc2 L S))) : Gl p e below n0 Φ Q (T.setTop (mkF m pc L (.long y :: .long x :: S))) := by
  obtain ⟨locs, Y, b1, b2⟩ := X; subst hp1
  refine Gl.st (V := T.setTop (mkF m (pc + 1) L (.int (lcmpW x y) :: S))) (fun t k => XS.lcmp Y.here hx rfl (hb hby hd1) rfl k) ?_
  exact g_if_ne ⟨locs, Y, b1, b2⟩ hx hby hd ho hp hq (fun q => K1 (by simpa [lw_lt, lw_gt, lw_eq] using q)) (fun q => K2 (by simpa [lw_lt, lw_gt, lw_eq] using q))
theorem g_icmp_lt (X : St p l e R s m args below meth c n0 T h cells slots) (hx : p.tables.exec = Jvm.exec) (hby : c.code = bs) {o : Int} {x y : Int32} {pc2 : Nat} (hd : decode bs pc = .ok (.if_icmp .lt o, 3)) (ho : 0 ≤ (pc : Int) + o) (hp : ((pc : Int) + o).toNat = pc') (hq : pc + 3 = pc2) (K1 : x < y → Gl p e below n0 Φ Q (T.setTop (mkF m pc' L S))) (K2 : ¬ (x < y) → Gl p e below n0 Φ Q (T.setTop (mkF m pc2 L S))) : Gl p e below n0 Φ Q (T.setTop (mkF m pc L (.int y :: .int x :: S))) :=
  g_icmp X hx hby hd ho hp hq (fun q => K1 (by simpa [if_icmp.holds] using q)) (fun q => K2 (by simpa [if_icmp.holds] using q))
theorem g_if_lt (X : St p l e R s m args below meth c n0 T h cells slots) (hx : p.tables.exec = Jvm.exec) (hby : c.code = bs) {o : Int} {x : Int32} {pc2 : Nat} (hd : decode bs pc = .ok (.ifCond .lt o, 3)) (ho : 0 ≤ (pc : Int) + o) (hp : ((pc : Int) + o).toNat = pc') (hq : pc + 3 = pc2) (K1 : x < 0 → Gl p e below n0 Φ Q (T.setTop (mkF m pc' L S))) (K2 : ¬ (x < 0) → Gl p e below n0 Φ Q (T.setTop (mkF m pc2 L S))) : Gl p e below n0 Φ Q (T.setTop (mkF m pc L (.int x :: S))) :=
  g_if X hx hby hd ho hp hq (fun q => K1 (by simpa [if_icmp.holds] using q)) (fun q => K2 (by simpa [if_icmp.holds] using q))
theorem g_lcmp_lt (X : St p l e R s m args below meth c n0 T h cells slots) (hx : p.tables.exec = Jvm.exec) (hby : c.code = bs) {o : Int} {x y : Int64} {pc1 pc2 : Nat} (hd1 : decode bs pc = .ok (.lcmp, 1)) (hp1 : pc + 1 = pc1) (hd : decode bs pc1 = .ok (.ifCond .lt o, 3)) (ho : 0 ≤ (pc1 : Int) + o) (hp : ((pc1 : Int) + o).toNat = pc') (hq : pc1 + 3 = pc2) (K1 : x < y → Gl p e below n0 Φ Q (T.setTop (mkF m pc' L S))) (K2 : ¬ (x < y) → Gl p e below n0 Φ Q (T.setTop (mkF m pc2 L S))) : Gl p e below n0 Φ Q (T.setTop (mkF m pc L (.long y :: .long x :: S))) := by
  obtain ⟨locs, Y, b1, b2⟩ := X; subst hp1
  refine Gl.st (V := T.setTop (mkF m (pc + 1) L (.int (lcmpW x y) :: S))) (fun t k => XS.lcmp Y.here hx rfl (hb hby hd1) rfl k) ?_
  exact g_if_lt ⟨locs, Y, b1, b2⟩ hx hby hd ho hp hq (fun q => K1 (by simpa [lw_lt, lw_gt, lw_eq] using q)) (fun q => K2 (by simpa [lw_lt, lw_gt, lw_eq] using q))
theorem g_icmp_ge (X : St p l e R s m args below meth c n0 T h cells slots) (hx : p.tables.exec = Jvm.exec) (hby : c.code = bs) {o : Int} {x y : Int32} {pc2 : Nat} (hd : decode bs pc = .ok (.if_icmp .ge o, 3)) (ho : 0 ≤ (pc : Int) + o) (hp : ((pc : Int) + o).toNat = pc') (hq : pc + 3 = pc2) (K1 : ¬ (x < y) → Gl p e below n0 Φ Q (T.setTop (mkF m pc' L S))) (K2 : x < y → Gl p e below n0 Φ Q (T.setTop (mkF m pc2 L S))) : Gl p e below n0 Φ Q (T.setTop (mkF m pc L (.int y :: .int x :: S))) :=
  g_icmp X hx hby hd ho hp hq (fun q => K1 (by simpa [if_icmp.holds] using q)) (fun q => K2 (by simpa [if_icmp.holds] using q))
theorem g_if_ge (X : St p l e R s m args below meth c n0 T h cells slots) (hx : p.tables.exec = Jvm.exec) (hby : c.code = bs) {o : Int} {x : Int32} {pc2 : Nat} (hd : decode bs pc = .ok (.ifCond .ge o, 3)) (ho : 0 ≤ (pc : Int) + o) (hp : ((pc : Int) + o).toNat = pc') (hq : pc + 3 = pc2) (K1 : ¬ (x < 0) → Gl p e below n0 Φ Q (T.setTop (mkF m pc' L S))) (K2 : x < 0 → Gl p e below n0 Φ Q (T.setTop (mkF m pc2 L S))) : Gl p e below n0 Φ Q (T.setTop (mkF m pc L (.int x :: S))) :=
  g_if X hx hby hd ho hp hq (fun q => K1 (by simpa [if_icmp.holds] using q)) (fun q => K2 (by simpa [if_icmp.holds] using q))
theorem g_lcmp_ge (X : St p l e R s m args below meth c n0 T h cells slots) (hx : p.tables.exec = Jvm.exec) (hby : c.code = bs) {o : Int} {x y : Int64} {pc1 pc2 : Nat} (hd1 : decode bs pc = .ok (.lcmp, 1)) (hp1 : pc + 1 = pc1) (hd : decode bs pc1 = .ok (.ifCond .ge o, 3)) (ho : 0 ≤ (pc1 : Int) + o) (hp : ((pc1 : Int) + o).toNat = pc') (hq : pc1 + 3 = pc2) (K1 : ¬ (x < y) → Gl p e below n0 Φ Q (T.setTop (mkF m pc' L S))) (K2 : x < y → Gl p e below n0 Φ Q (T.setTop (mkF m pc2 L S))) : Gl p e below n0 Φ Q (T.setTop (mkF m pc L (.long y :: .long x :: S))) := by
  obtain ⟨locs, Y, b1, b2⟩ := X; subst hp1
  refine Gl.st (V := T.setTop (mkF m (pc + 1) L (.int (lcmpW x y) :: S))) (fun t k => XS.lcmp Y.here hx rfl (hb hby hd1) rfl k) ?_
  exact g_if_ge ⟨locs, Y, b1, b2⟩ hx hby hd ho hp hq (fun q => K1 (by simpa [lw_lt, lw_gt, lw_eq] using q)) (fun q => K2 (by simpa [lw_lt, lw_gt, lw_eq] using q))
theorem g_icmp_gt (X : St p l e R s m args below meth c n0 T h cells slots) (hx : p.tables.exec = Jvm.exec) (hby : c.code = bs) {o : Int} {x y : Int32} {pc2 : Nat} (hd : decode bs pc = .ok (.if_icmp .gt o, 3)) (ho : 0 ≤ (pc : Int) + o) (hp : ((pc : Int) + o).toNat = pc') (hq : pc + 3 = pc2) (K1 : y < x → Gl p e below n0 Φ Q (T.setTop (mkF m pc' L S))) (K2 : ¬ (y < x) → Gl p e below n0 Φ Q (T.setTop (mkF m pc2 L S))) : Gl p e below n0 Φ Q (T.setTop (mkF m pc L (.int y :: .int x :: S))) :=
  g_icmp X hx hby hd ho hp hq (fun q => K1 (by simpa [if_icmp.holds] using q)) (fun q => K2 (by simpa [if_icmp.holds] using q))
theorem g_if_gt (X : St p l e R s m args below meth c n0 T h cells slots) (hx : p.tables.exec = Jvm.exec) (hby : c.code = bs) {o : Int} {x : Int32} {pc2 : Nat} (hd : decode bs pc = .ok (.ifCond .gt o, 3)) (ho : 0 ≤ (pc : Int) + o) (hp : ((pc : Int) + o).toNat = pc') (hq : pc + 3 = pc2) (K1 : 0 < x → Gl p e below n0 Φ Q (T.setTop (mkF m pc' L S))) (K2 : ¬ (0 < x) → Gl p e below n0 Φ Q (T.setTop (mkF m pc2 L S))) : Gl p e below n0 Φ Q (T.setTop (mkF m pc L (.int x :: S))) :=
  g_if X hx hby hd ho hp hq (fun q => K1 (by simpa [if_icmp.holds] using q)) (fun q => K2 (by simpa [if_icmp.holds] using q))
theorem g_lcmp_gt (X : St p l e R s m args below meth c n0 T h cells slots) (hx : p.tables.exec = Jvm.exec) (hby : c.code = bs) {o : Int} {x y : Int64} {pc1 pc2 : Nat} (hd1 : decode bs pc = .ok (.lcmp, 1)) (hp1 : pc + 1 = pc1) (hd : decode bs pc1 = .ok (.ifCond .gt o, 3)) (ho : 0 ≤ (pc1 : Int) + o) (hp : ((pc1 : Int) + o).toNat = pc') (hq : pc1 + 3 = pc2) (K1 : y < x → Gl p e below n0 Φ Q (T.setTop (mkF m pc' L S))) (K2 : ¬ (y < x) → Gl p e below n0 Φ Q (T.setTop (mkF m pc2 L S))) : Gl p e below n0 Φ Q (T.setTop (mkF m pc L (.long y :: .long x :: S))) := by
  obtain ⟨locs, Y, b1, b2⟩ := X; subst hp1
  refine Gl.st (V := T.setTop (mkF m (pc + 1) L (.int (lcmpW x y) :: S))) (fun t k => XS.lcmp Y.here hx rfl (hb hby hd1) rfl k) ?_
  exact g_if_gt ⟨locs, Y, b1, b2⟩ hx hby hd ho hp hq (fun q => K1 (by simpa [lw_lt, lw_gt, lw_eq] using q)) (fun q => K2 (by simpa [lw_lt, lw_gt, lw_eq] using q))
theorem g_icmp_le (X : St p l e R s m args below meth c n0 T h cells slots) (hx : p.tables.exec = Jvm.exec) (hby : c.code = bs) {o : Int} {x y : Int32} {pc2 : Nat} (hd : decode bs pc = .ok (.if_icmp .le o, 3)) (ho : 0 ≤ (pc : Int) + o) (hp : ((pc : Int) + o).toNat = pc') (hq : pc + 3 = pc2) (K1 : ¬ (y < x) → Gl p e below n0 Φ Q (T.setTop (mkF m pc' L S))) (K2 : y < x → Gl p e below n0 Φ Q (T.setTop (mkF m pc2 L S))) : Gl p e below n0 Φ Q (T.setTop (mkF m pc L (.int y :: .int x :: S))) :=
  g_icmp X hx hby hd ho hp hq (fun q => K1 (by simpa [if_icmp.holds] using q)) (fun q => K2 (by simpa [if_icmp.holds] using q))
theorem g_if_le (X : St p l e R s m args below meth c n0 T h cells slots) (hx : p.tables.exec = Jvm.exec) (hby : c.code = bs) {o : Int} {x : Int32} {pc2 : Nat} (hd : decode bs pc = .ok (.ifCond .le o, 3)) (ho : 0 ≤ (pc : Int) + o) (hp : ((pc : Int) + o).toNat = pc') (hq : pc + 3 = pc2) (K1 : ¬ (0 < x) → Gl p e below n0 Φ Q (T.setTop (mkF m pc' L S))) (K2 : 0 < x → Gl p e below n0 Φ Q (T.setTop (mkF m pc2 L S))) : Gl p e below n0 Φ Q (T.setTop (mkF m pc L (.int x :: S))) :=
  g_if X hx hby hd ho hp hq (fun q => K1 (by simpa [if_icmp.holds] using q)) (fun q => K2 (by simpa [if_icmp.holds] using q))
theorem g_lcmp_le (X : St p l e R s m args below meth c n0 T h cells slots) (hx : p.tables.exec = Jvm.exec) (hby : c.code = bs) {o : Int} {x y : Int64} {pc1 pc2 : Nat} (hd1 : decode bs pc = .ok (.lcmp, 1)) (hp1 : pc + 1 = pc1) (hd : decode bs pc1 = .ok (.ifCond .le o, 3)) (ho : 0 ≤ (pc1 : Int) + o) (hp : ((pc1 : Int) + o).toNat = pc') (hq : pc1 + 3 = pc2) (K1 : ¬ (y < x) → Gl p e below n0 Φ Q (T.setTop (mkF m pc' L S))) (K2 : y < x → Gl p e below n0 Φ Q (T.setTop (mkF m pc2 L S))) : Gl p e below n0 Φ Q (T.setTop (mkF m pc L (.long y :: .long x :: S))) := by
  obtain ⟨locs, Y, b1, b2⟩ := X; subst hp1
  refine Gl.st (V := T.setTop (mkF m (pc + 1) L (.int (lcmpW x y) :: S))) (fun t k => XS.lcmp Y.here hx rfl (hb hby hd1) rfl k) ?_
  exact g_if_le ⟨locs, Y, b1, b2⟩ hx hby hd ho hp hq (fun q => K1 (by simpa [lw_lt, lw_gt, lw_eq] using q)) (fun q => K2 (by simpa [lw_lt, lw_gt, lw_eq] using q))
theorem g_ifnull_y (X : St p l e R s m args below meth c n0 T h cells slots) (hx : p.tables.exec = Jvm.exec) (hby : c.code = bs) {o : Int} (hd : decode bs pc = .ok (.ifnull o, 3)) (ho : 0 ≤ (pc : Int) + o) (hp : ((pc : Int) + o).toNat = pc') (K : Gl p e below n0 Φ Q (T.setTop (mkF m pc' L S))) : Gl p e below n0 Φ Q (T.setTop (mkF m pc L (.null :: S))) := by
  obtain ⟨locs, Y, -, -⟩ := X; exact Gl.st (fun t k => XS.ifnullYes Y.here hx rfl (pc0 := pc) rfl (hb hby hd) rfl ho hp k) K
theorem g_ifnull_n (X : St p l e R s m args below meth c n0 T h cells slots) (hx : p.tables.exec = Jvm.exec) (hby : c.code = bs) {o : Int} {a : Addr} (hd : decode bs pc = .ok (.ifnull o, 3)) (hp : pc + 3 = pc') (K : Gl p e below n0 Φ Q (T.setTop (mkF m pc' L S))) : Gl p e below n0 Φ Q (T.setTop (mkF m pc L ((.ref a) :: S))) := by
  obtain ⟨locs, Y, -, -⟩ := X; subst hp; exact Gl.st (fun t k => XS.ifnullNo Y.here hx rfl (hb hby hd) rfl k) K
theorem g_ifnonnull_y (X : St p l e R s m args below meth c n0 T h cells slots) (hx : p.tables.exec = Jvm.exec) (hby : c.code = bs) {o : Int} {a : Addr} (hd : decode bs pc = .ok (.ifnonnull o, 3)) (ho : 0 ≤ (pc : Int) + o) (hp : ((pc : Int) + o).toNat = pc') (K : Gl p e below n0 Φ Q (T.setTop (mkF m pc' L S))) : Gl p e below n0 Φ Q (T.setTop (mkF m pc L ((.ref a) :: S))) := by
  obtain ⟨locs, Y, -, -⟩ := X; exact Gl.st (fun t k => XS.ifnonnullYes Y.here hx rfl (pc0 := pc) rfl (hb hby hd) rfl ho hp k) K
theorem g_ifnonnull_n (X : St p l e R s m args below meth c n0 T h cells slots) (hx : p.tables.exec = Jvm.exec) (hby : c.code = bs) {o : Int} (hd : decode bs pc = .ok (.ifnonnull o, 3)) (hp : pc + 3 = pc') (K : Gl p e below n0 Φ Q (T.setTop (mkF m pc' L S))) : Gl p e below n0 Φ Q (T.setTop (mkF m pc L (.null :: S))) := by
  obtain ⟨locs, Y, -, -⟩ := X; subst hp; exact Gl.st (fun t k => XS.ifnonnullNo Y.here hx rfl (hb hby hd) rfl k) K
theorem g_acmp_y (X : St p l e R s m args below meth c n0 T h cells slots) (hx : p.tables.exec = Jvm.exec) (hby : c.code = bs) {cd : ACond} {o : Int} {x y : Value} {same : Bool} (hd : decode bs pc = .ok (.if_acmp cd o, 3)) (h1 : x.isRef = true) (h2 : y.isRef = true) (hq : decide (x = y) = same) (ho : 0 ≤ (pc : Int) + o) (hp : pc' = if acV cd same = true then ((pc : Int) + o).toNat else pc + 3) (K : Gl p e below n0 Φ Q (T.setTop (mkF m pc' L S))) : Gl p e below n0 Φ Q (T.setTop (mkF m pc L (y :: x :: S))) := by
  obtain ⟨locs, Y, -, -⟩ := X; exact Gl.st (fun t k => Jvm.RoadKit.acmp Y hx rfl h1 h2 (pc0 := pc) rfl (hb hby hd) rfl hq ho hp k) K
theorem g_retN (X : St p l e R s m args below meth c n0 T h cells slots) (hx : p.tables.exec = Jvm.exec) (hby : c.code = bs) {t : FieldType} {z : Int32} (hret : meth.sig.returnType = some t) (hlk : meth.locks = false) (ht : t = .boolean ∨ t = .byte ∨ t = .char ∨ t = .short) (hd : decode bs pc = .ok (.ireturn, 1)) (hq : Q (some (.int (nar t z))) h) (hc : cells ≤ cs) (hs : slots ≤ sl) : Gl p e below n0 (Fn s cs sl) Q (T.setTop (mkF m pc L (.int z :: S))) := by
  obtain ⟨locs, Y, eT, N⟩ := X
  obtain ⟨fs, hr, hrun, hended, hW, hsame⟩ := Y.leave (v := some (.int (nar t z))) (fun q => by rw [hret] at q; cases q) hlk
  exact ⟨_, _, retN Y hx hret ht (hb hby hd) hr, hrun, hended, _, locs, rfl, ⟨(show Q _ T.heap by rw [eT]; exact hq), N⟩, ⟨_, rfl⟩, hW, hsame.mono hc hs⟩
theorem g_retV (X : St p l e R s m args below meth c n0 T h cells slots) (hx : p.tables.exec = Jvm.exec) (hby : c.code = bs) {t : FieldType} {w : Value} {i : Instr} (hret : meth.sig.returnType = some t) (hlk : meth.locks = false) (hn : narrow t w = w) (hi : (i = .ireturn ∧ (t = .int ∨ t = .boolean ∨ t = .byte ∨ t = .char ∨ t = .short) ∧ ∃ z, w = .int z) ∨ (i = .lreturn ∧ t = .long ∧ ∃ z, w = .long z) ∨ (i = .dreturn ∧ t = .double ∧ ∃ z, w = .double z) ∨ (i = .freturn ∧ t = .float ∧ ∃ z, w = .float z) ∨ (i = .areturn ∧ t.isReference = true ∧ w.isRef = true)) (hd : decode bs pc = .ok (i, 1)) (hq : Q (some w) h) (hc : cells ≤ cs) (hs : slots ≤ sl) : Gl p e below n0 (Fn s cs sl) Q (T.setTop (mkF m pc L (w :: S))) := by
  obtain ⟨locs, Y, eT, N⟩ := X
  obtain ⟨fs, hr, hrun, hended, hW, hsame⟩ := Y.leave (v := some w) (fun q => by rw [hret] at q; cases q) hlk
  exact ⟨_, _, retOut Y hx hret hn hi (hb hby hd) hr, hrun, hended, _, locs, rfl, ⟨(show Q _ T.heap by rw [eT]; exact hq), N⟩, ⟨_, rfl⟩, hW, hsame.mono hc hs⟩
theorem g_retI (X : St p l e R s m args below meth c n0 T h cells slots) (hx : p.tables.exec = Jvm.exec) (hby : c.code = bs) {z : Int32} (hret : meth.sig.returnType = some .int) (hlk : meth.locks = false) (hd : decode bs pc = .ok (.ireturn, 1)) (hq : Q (some (.int z)) h) (hc : cells ≤ cs) (hs : slots ≤ sl) : Gl p e below n0 (Fn s cs sl) Q (T.setTop (mkF m pc L (.int z :: S))) := g_retV X hx hby hret hlk rfl (Or.inl ⟨rfl, Or.inl rfl, z, rfl⟩) hd hq hc hs
theorem g_retL (X : St p l e R s m args below meth c n0 T h cells slots) (hx : p.tables.exec = Jvm.exec) (hby : c.code = bs) {z : Int64} (hret : meth.sig.returnType = some .long) (hlk : meth.locks = false) (hd : decode bs pc = .ok (.lreturn, 1)) (hq : Q (some (.long z)) h) (hc : cells ≤ cs) (hs : slots ≤ sl) : Gl p e below n0 (Fn s cs sl) Q (T.setTop (mkF m pc L (.long z :: S))) := g_retV X hx hby hret hlk rfl (Or.inr (Or.inl ⟨rfl, rfl, z, rfl⟩)) hd hq hc hs
theorem g_retD (X : St p l e R s m args below meth c n0 T h cells slots) (hx : p.tables.exec = Jvm.exec) (hby : c.code = bs) {z : UInt64} (hret : meth.sig.returnType = some .double) (hlk : meth.locks = false) (hd : decode bs pc = .ok (.dreturn, 1)) (hq : Q (some (.double z)) h) (hc : cells ≤ cs) (hs : slots ≤ sl) : Gl p e below n0 (Fn s cs sl) Q (T.setTop (mkF m pc L (.double z :: S))) := g_retV X hx hby hret hlk rfl (Or.inr (Or.inr (Or.inl ⟨rfl, rfl, z, rfl⟩))) hd hq hc hs
theorem g_retA (X : St p l e R s m args below meth c n0 T h cells slots) (hx : p.tables.exec = Jvm.exec) (hby : c.code = bs) {t : FieldType} {w : Value} (hret : meth.sig.returnType = some t) (hlk : meth.locks = false) (ht : t.isReference = true) (hw : w.isRef = true) (hd : decode bs pc = .ok (.areturn, 1)) (hq : Q (some w) h) (hc : cells ≤ cs) (hs : slots ≤ sl) : Gl p e below n0 (Fn s cs sl) Q (T.setTop (mkF m pc L (w :: S))) := g_retV X hx hby hret hlk (by rcases ref_cases hw with rfl | ⟨a, rfl⟩ <;> cases t <;> first | rfl | (cases ht; done)) (Or.inr (Or.inr (Or.inr (Or.inr ⟨rfl, ht, hw⟩)))) hd hq hc hs
theorem g_ret (X : St p l e R s m args below meth c n0 T h cells slots) (hx : p.tables.exec = Jvm.exec) (hby : c.code = bs) (hret : meth.sig.returnType = none) (hlk : meth.locks = false) (hd : decode bs pc = .ok (.return_, 1)) (hq : Q none h) (hc : cells ≤ cs) (hs : slots ≤ sl) : Gl p e below n0 (Fn s cs sl) Q (T.setTop (mkF m pc L [])) := by
  obtain ⟨locs, Y, eT, N⟩ := X
  obtain ⟨fs, hr, hrun, hended, hW, hsame⟩ := Y.leave (v := none) (fun _ => rfl) hlk
  exact ⟨_, _, Y.returnOut hx hret (hb hby hd) hr, hrun, hended, _, locs, rfl, ⟨(show Q _ T.heap by rw [eT]; exact hq), N⟩, ⟨_, rfl⟩, hW, hsame.mono hc hs⟩
theorem gw_retN {vm0 : Vm} {k0 : Nat} (X : St p l e R (s.setVm vm0) m args below meth c n0 T h cells slots) (hx : p.tables.exec = Jvm.exec) (hby : c.code = bs) (hS : s.Since vm0 k0) (hk : k0 ≤ h.size) {t : FieldType} {z : Int32} (hret : meth.sig.returnType = some t) (hlk : meth.locks = false) (ht : t = .boolean ∨ t = .byte ∨ t = .char ∨ t = .short) (hd : decode bs pc = .ok (.ireturn, 1)) (hq : Q (some (.int (nar t z))) h) (hc : cells ≤ cs) (hs : slots ≤ sl) : Gl p e below n0 (Fw s cs sl) Q (T.setTop (mkF m pc L (.int z :: S))) := by
  obtain ⟨locs, Y, eT, N⟩ := X
  obtain ⟨fs, hr, hrun, hended, r1, r2, r3, r4⟩ := Y.leaveW hS (by rw [eT]; exact hk) (v := some (.int (nar t z))) (fun q => by rw [hret] at q; cases q) hlk
  exact ⟨_, _, retN Y hx hret ht (hb hby hd) hr, hrun, hended, _, locs, rfl, ⟨(show Q _ T.heap by rw [eT]; exact hq), N⟩, r1, r2, r3, r4.mono hc hs⟩
theorem g_ldcS {vm0 : Vm} {k0 : Nat} (X : St p l e R (s.setVm vm0) m args below meth c n0 T h cells slots) (hx : p.tables.exec = Jvm.exec) (hby : c.code = bs) (hZ : Z.Warmed39 (s.setVm vm0).vm) {own text : String} {index n : Nat} (hown : (s.setVm vm0).vm.findClass own = some m.cls) (w : (Cond.stringLink own index text).before a0 Z = true) (wS : ∀ a ∈ Bundle.stringAtoms, a.before a0 Z = true) (hS : s.Since vm0 k0) (hk : k0 ≤ h.size) (hd : decode bs pc = .ok (.ldc index, 2)) (hn : 4 * text.toList.length ≤ n) (hbig : n ≤ 536870912) (hc : cells + 2 ≤ R.cells) (hl : slots + (n + 4) ≤ R.slots) (hp : pc + 2 = pc') (K : ∀ (a : Addr) T' h' k1, St p l e R (s.setVm T'.vm) m args below meth c n0 T' h' (cells + 2) (slots + (n + 4)) → Ext h h' → s.Since T'.vm k1 → k1 ≤ h'.size → Z.Warmed39 (s.setVm T'.vm).vm → (s.setVm T'.vm).vm.findClass own = some m.cls → Gl p e below n0 Φ Q (T'.setTop (mkF m pc' L (.ref a :: S)))) : Gl p e below n0 Φ Q (T.setTop (mkF m pc L S)) := by
  obtain ⟨locs, Y, eT, N⟩ := X; subst hp
  obtain ⟨a, T', h', k1, Y', e', E, S1, hk1, hZ1, hown1, st⟩ := ldcS Y hx hZ hown w wS eT hS hk (g := mkF m pc L S) rfl (hb hby hd) hn hbig hc hl
  exact Gl.st st (K a T' h' k1 ⟨locs, Y', e', N⟩ E S1 hk1 hZ1 hown1)
theorem g_getF (X : St p l e R s m args below meth c n0 T h cells slots) (hx : p.tables.exec = Jvm.exec) (hby : c.code = bs) (hZ : Z.Warmed39 s.vm) {own R0 O n d : String} {index : Nat} (hown : s.vm.findClass own = some m.cls) (w : (Cond.fieldLink own index R0 n d).before a0 Z = true) (via : Via Z R0 O n d) {a : Addr} {v : Value} (F : Fld Z h a O n d v) (hd : decode bs pc = .ok (.getfield index, 3)) (hp : pc + 3 = pc') (K : ∀ T', St p l e R s m args below meth c n0 T' h cells slots → Gl p e below n0 Φ Q (T'.setTop (mkF m pc' L (v :: S)))) : Gl p e below n0 Φ Q (T.setTop (mkF m pc L (.ref a :: S))) := by
  obtain ⟨locs, Y, eT, N⟩ := X; subst hp
  obtain ⟨T', Y', e', st⟩ := getF Y hx hZ hown (host := "") (Or.inl w) via eT F (g := mkF m pc L (.ref a :: S)) rfl rfl (hb hby hd)
  exact Gl.st st (K T' ⟨locs, Y', e', N⟩)
theorem g_putF (X : St p l e R s m args below meth c n0 T h cells slots) (hx : p.tables.exec = Jvm.exec) (hby : c.code = bs) (hZ : Z.Warmed39 s.vm) {own R0 O n d C : String} {index kk : Nat} {ty : FieldType} (hown : s.vm.findClass own = some m.cls) (w : (Cond.fieldLink own index R0 n d).before a0 Z = true) (via : Via Z R0 O n d) {a : Addr} {v old : Value} (F : Fld Z h a O n d old) (E : Exa Z h a C) (lay : (Cond.lays C O n d).before a0 Z = true ∨ ((Cond.laysFinal C O n d).before a0 Z = true ∧ own = O ∧ meth.name = "<init>")) (wi : (Cond.instantiable C kk).before a0 Z = true) (hty : parseFieldDescriptor d = some ty) (hn : narrow ty v = v) (hf : fits ty v = true) (hn0 : n0 ≤ a) (hd : decode bs pc = .ok (.putfield index, 3)) (hp : pc + 3 = pc') (K : ∀ T' h', St p l e R s m args below meth c n0 T' h' cells slots → Wr h h' a (Jvm.RoadKit.slotOf Z O n d) v → Gl p e below n0 Φ Q (T'.setTop (mkF m pc' L S))) : Gl p e below n0 Φ Q (T.setTop (mkF m pc L (v :: .ref a :: S))) := by
  obtain ⟨locs, Y, eT, N⟩ := X; subst hp
  obtain ⟨T', h', Y', e', W, st⟩ := putF Y hx hZ hown (host := "") (Or.inl w) via eT F E lay wi hty hn hf (g := mkF m pc L (v :: .ref a :: S)) rfl rfl (hb hby hd)
  exact Gl.st st (K T' h' ⟨_, Y', e', Fr.snoc Y' N hn0⟩ W)
theorem g_putFN (X : St p l e R s m args below meth c n0 T h cells slots) (hx : p.tables.exec = Jvm.exec) (hby : c.code = bs) (hZ : Z.Warmed39 s.vm) {own R0 O n d C : String} {index kk : Nat} {ty : FieldType} (hown : s.vm.findClass own = some m.cls) (w : (Cond.fieldLink own index R0 n d).before a0 Z = true) (via : Via Z R0 O n d) {a : Addr} {v v' old : Value} (F : Fld Z h a O n d old) (E : Exa Z h a C) (lay : (Cond.lays C O n d).before a0 Z = true ∨ ((Cond.laysFinal C O n d).before a0 Z = true ∧ own = O ∧ meth.name = "<init>")) (wi : (Cond.instantiable C kk).before a0 Z = true) (hty : parseFieldDescriptor d = some ty) (hn : narrow ty v = v') (hf : fits ty v' = true) (hn0 : n0 ≤ a) (hd : decode bs pc = .ok (.putfield index, 3)) (hp : pc + 3 = pc') (K : ∀ T' h', St p l e R s m args below meth c n0 T' h' cells slots → Wr h h' a (Jvm.RoadKit.slotOf Z O n d) v' → Gl p e below n0 Φ Q (T'.setTop (mkF m pc' L S))) : Gl p e below n0 Φ Q (T.setTop (mkF m pc L (v :: .ref a :: S))) := by
  obtain ⟨locs, Y, eT, N⟩ := X; subst hp
  obtain ⟨T', h', Y', e', W, st⟩ := putFN Y hx hZ hown w via eT F E lay wi hty hn hf (g := mkF m pc L (v :: .ref a :: S)) rfl rfl (hb hby hd)
  exact Gl.st st (K T' h' ⟨_, Y', e', Fr.snoc Y' N hn0⟩ W)
theorem g_getS (X : St p l e R s m args below meth c n0 T h cells slots) (hx : p.tables.exec = Jvm.exec) (hby : c.code = bs) (hZ : Z.Warmed39 s.vm) {own R0 O n d : String} {index : Nat} (hown : s.vm.findClass own = some m.cls) (w : (Cond.fieldLink own index R0 n d).before a0 Z = true) (via : Via Z R0 O n d) {v : Value} (F : Sta Z h O n d v) (hd : decode bs pc = .ok (.getstatic index, 3)) (hp : pc + 3 = pc') (K : ∀ T', St p l e R s m args below meth c n0 T' h cells slots → Gl p e below n0 Φ Q (T'.setTop (mkF m pc' L (v :: S)))) : Gl p e below n0 Φ Q (T.setTop (mkF m pc L S)) := by
  obtain ⟨locs, Y, eT, N⟩ := X; subst hp
  obtain ⟨T', Y', e', st⟩ := getS Y hx hZ hown (host := "") w via eT F (g := mkF m pc L S) rfl (hb hby hd)
  exact Gl.st st (K T' ⟨locs, Y', e', N⟩)
theorem g_new (X : St p l e R s m args below meth c n0 T h cells slots) (hx : p.tables.exec = Jvm.exec) (hby : c.code = bs) (hZ : Z.Warmed39 s.vm) {own C : String} {index n : Nat} (hown : s.vm.findClass own = some m.cls) (w : (Cond.classLink own index C).before a0 Z = true) (wi : (Cond.instantiable C n).before a0 Z = true) (wz : (Cond.initialized C).before a0 Z = true) (hd : decode bs pc = .ok (.new index, 3)) (hc : cells + 1 ≤ R.cells) (hs : slots + n ≤ R.slots) (hp : pc + 3 = pc') (K : ∀ T' h' (b : Addr), b = h.size → St p l e R s m args below meth c n0 T' h' (cells + 1) (slots + n) → Ext h h' → Exa Z h' b C → (∀ {O nm d : String} {ty : FieldType}, Laid Z a0 C O nm d → parseFieldDescriptor d = some ty → Fld Z h' b O nm d (defaultValue ty)) → Gl p e below n0 Φ Q (T'.setTop (mkF m pc' L (.ref b :: S)))) : Gl p e below n0 Φ Q (T.setTop (mkF m pc L S)) := by
  obtain ⟨locs, Y, eT, N⟩ := X; subst hp
  obtain ⟨T', h', Y', e', E, A, D, -, st⟩ := newO Y hx hZ hown w wi wz eT (g := mkF m pc L S) rfl (hb hby hd) hc hs
  exact Gl.st st (K T' h' _ rfl ⟨locs, Y', e', N⟩ E A D)
theorem g_newarray (X : St p l e R s m args below meth c n0 T h cells slots) (hx : p.tables.exec = Jvm.exec) (hby : c.code = bs) (hZ : Z.Warmed39 s.vm) {aty : ArrayType} (w : (Cond.arrayClass (newarray.typeOf aty)).before a0 Z = true) {n : Int32} {k cap : Nat} (hd : decode bs pc = .ok (.newarray aty, 2)) (hn : n.toInt = (k : Int)) (hcap : k ≤ cap) (hb8 : cap * 8 ≤ 536870912) (hc : cells + 1 ≤ R.cells) (hs : slots + cap ≤ R.slots) (hp : pc + 2 = pc') (K : ∀ T' h' (b : Addr), b = h.size → St p l e R s m args below meth c n0 T' h' (cells + 1) (slots + cap) → Ext h h' → Ary Z h' b (newarray.typeOf aty) k (fun _ => defaultValue (newarray.typeOf aty)) → Gl p e below n0 Φ Q (T'.setTop (mkF m pc' L (.ref b :: S)))) : Gl p e below n0 Φ Q (T.setTop (mkF m pc L (.int n :: S))) := by
  obtain ⟨locs, Y, eT, N⟩ := X; subst hp
  have e1 : n.toNatClampNeg = k := by simp only [Int32.toNatClampNeg]; omega
  obtain ⟨T', h', cA, Y', e', E, A, st⟩ := newP Y hx hZ w eT (g := mkF m pc L (.int n :: S)) rfl (hb hby hd) rfl (by rw [Int32.lt_iff_toInt_lt]; have : (0 : Int32).toInt = 0 := rfl; omega) (cap := cap) (by omega) hb8 hc hs
  exact Gl.st st (K T' h' _ rfl ⟨locs, Y', e', N⟩ E ⟨_, A, by rw [sz_new]; exact e1, fun i hi => by simp [newA, e1, hi]⟩)
theorem g_anewarray (X : St p l e R s m args below meth c n0 T h cells slots) (hx : p.tables.exec = Jvm.exec) (hby : c.code = bs) (hZ : Z.Warmed39 s.vm) {own C : String} {index : Nat} (hown : s.vm.findClass own = some m.cls) (w1 : (Cond.classLink own index C).before a0 Z = true) (w2 : (Cond.arrayOver (.object C)).before a0 Z = true) {n : Int32} {k cap : Nat} (hd : decode bs pc = .ok (.anewarray index, 3)) (hn : n.toInt = (k : Int)) (hcap : k ≤ cap) (hb8 : cap * 8 ≤ 536870912) (hc : cells + 1 ≤ R.cells) (hs : slots + cap ≤ R.slots) (hp : pc + 3 = pc') (K : ∀ T' h' (b : Addr), b = h.size → St p l e R s m args below meth c n0 T' h' (cells + 1) (slots + cap) → Ext h h' → Ary Z h' b (.object C) k (fun _ => .null) → Ov Z h' b C → Gl p e below n0 Φ Q (T'.setTop (mkF m pc' L (.ref b :: S)))) : Gl p e below n0 Φ Q (T.setTop (mkF m pc L (.int n :: S))) := by
  obtain ⟨locs, Y, eT, N⟩ := X; subst hp
  have e1 : n.toNatClampNeg = k := by simp only [Int32.toNatClampNeg]; omega
  obtain ⟨T', h', cA, Y', e', E, A, O, st⟩ := newR Y hx hZ hown w1 w2 eT (g := mkF m pc L (.int n :: S)) rfl (hb hby hd) rfl (by rw [Int32.lt_iff_toInt_lt]; have : (0 : Int32).toInt = 0 := rfl; omega) (cap := cap) (by omega) hb8 hc hs
  exact Gl.st st (K T' h' _ rfl ⟨locs, Y', e', N⟩ E ⟨_, A, by rw [sz_new]; exact e1, fun i hi => by simp [newA, e1, hi, defaultValue]⟩ ⟨_, A.1, O⟩)
theorem g_arraylength (X : St p l e R s m args below meth c n0 T h cells slots) (hx : p.tables.exec = Jvm.exec) (hby : c.code = bs) (hZ : Z.Warmed39 s.vm) {a : Addr} {ty : FieldType} {k : Nat} {f : Nat → Value} {n : Int32} (A : Ary Z h a ty k f) (hn : n.toInt = (k : Int)) (hd : decode bs pc = .ok (.arraylength, 1)) (hp : pc + 1 = pc') (K : Gl p e below n0 Φ Q (T.setTop (mkF m pc' L (.int n :: S)))) : Gl p e below n0 Φ Q (T.setTop (mkF m pc L (.ref a :: S))) := by
  obtain ⟨locs, Y, eT, -⟩ := X; subst hp
  obtain ⟨cl, Ar, sz, -⟩ := A
  have e1 : cl.slots.size.toInt32 = n := by
    have q := rng32 n
    rw [← Int32.toInt_inj, len_toInt (by omega), sz, hn]
  refine Gl.st (fun t k => Y.arraylength hx (by rw [eT]; exact Ar.1) (State.isArrayOf_alike hZ.alike Ar.2.1) (g := mkF m pc L (.ref a :: S)) rfl rfl (hb hby hd) t k) ?_
  rw [e1]; exact K
theorem g_iaload (X : St p l e R s m args below meth c n0 T h cells slots) (hx : p.tables.exec = Jvm.exec) (hby : c.code = bs) (hZ : Z.Warmed39 s.vm) {a : Addr} {k i : Nat} {f : Nat → Value} {j : Int32} {v : Value} (A : Ary Z h a .int k f) (hj : j.toInt = (i : Int)) (hi : i < k) (hv : f i = v) (hd : decode bs pc = .ok (.iaload, 1)) (hp : pc + 1 = pc') (K : Gl p e below n0 Φ Q (T.setTop (mkF m pc' L (v :: S)))) : Gl p e below n0 Φ Q (T.setTop (mkF m pc L (.int j :: .ref a :: S))) := by
  obtain ⟨locs, Y, eT, -⟩ := X; subst hp hv
  obtain ⟨cl, Ar, sz, H⟩ := A
  obtain ⟨q1, q2⟩ := own_in (k := k) hj hi
  exact Gl.st (fun t k => Y.iaload hx (by rw [eT]; exact Ar.1) (State.isArrayOf_alike hZ.alike Ar.2.1) Ar.2.2 (by rw [sz]; exact q1) (by rw [q2]; exact H i hi) (g := mkF m pc L (.int j :: .ref a :: S)) rfl rfl (hb hby hd) t k) K
theorem g_laload (X : St p l e R s m args below meth c n0 T h cells slots) (hx : p.tables.exec = Jvm.exec) (hby : c.code = bs) (hZ : Z.Warmed39 s.vm) {a : Addr} {k i : Nat} {f : Nat → Value} {j : Int32} {v : Value} (A : Ary Z h a .long k f) (hj : j.toInt = (i : Int)) (hi : i < k) (hv : f i = v) (hd : decode bs pc = .ok (.laload, 1)) (hp : pc + 1 = pc') (K : Gl p e below n0 Φ Q (T.setTop (mkF m pc' L (v :: S)))) : Gl p e below n0 Φ Q (T.setTop (mkF m pc L (.int j :: .ref a :: S))) := by
  obtain ⟨locs, Y, eT, -⟩ := X; subst hp hv
  obtain ⟨cl, Ar, sz, H⟩ := A
  obtain ⟨q1, q2⟩ := own_in (k := k) hj hi
  exact Gl.st (fun t k => Y.laload hx (by rw [eT]; exact Ar.1) (State.isArrayOf_alike hZ.alike Ar.2.1) Ar.2.2 (by rw [sz]; exact q1) (by rw [q2]; exact H i hi) (g := mkF m pc L (.int j :: .ref a :: S)) rfl rfl (hb hby hd) t k) K
theorem g_caload (X : St p l e R s m args below meth c n0 T h cells slots) (hx : p.tables.exec = Jvm.exec) (hby : c.code = bs) (hZ : Z.Warmed39 s.vm) {a : Addr} {k i : Nat} {f : Nat → Value} {j : Int32} {v : Value} (A : Ary Z h a .char k f) (hj : j.toInt = (i : Int)) (hi : i < k) (hv : f i = v) (hd : decode bs pc = .ok (.caload, 1)) (hp : pc + 1 = pc') (K : Gl p e below n0 Φ Q (T.setTop (mkF m pc' L (v :: S)))) : Gl p e below n0 Φ Q (T.setTop (mkF m pc L (.int j :: .ref a :: S))) := by
  obtain ⟨locs, Y, eT, -⟩ := X; subst hp hv
  obtain ⟨cl, Ar, sz, H⟩ := A
  obtain ⟨q1, q2⟩ := own_in (k := k) hj hi
  exact Gl.st (fun t k => Y.caload hx (by rw [eT]; exact Ar.1) (State.isArrayOf_alike hZ.alike Ar.2.1) Ar.2.2 (by rw [sz]; exact q1) (by rw [q2]; exact H i hi) (g := mkF m pc L (.int j :: .ref a :: S)) rfl rfl (hb hby hd) t k) K
theorem g_baload (X : St p l e R s m args below meth c n0 T h cells slots) (hx : p.tables.exec = Jvm.exec) (hby : c.code = bs) (hZ : Z.Warmed39 s.vm) {a : Addr} {k i : Nat} {f : Nat → Value} {j : Int32} {v : Value} (A : Ary Z h a .byte k f) (hj : j.toInt = (i : Int)) (hi : i < k) (hv : f i = v) (hd : decode bs pc = .ok (.baload, 1)) (hp : pc + 1 = pc') (K : Gl p e below n0 Φ Q (T.setTop (mkF m pc' L (v :: S)))) : Gl p e below n0 Φ Q (T.setTop (mkF m pc L (.int j :: .ref a :: S))) := by
  obtain ⟨locs, Y, eT, -⟩ := X; subst hp hv
  obtain ⟨cl, Ar, sz, H⟩ := A
  obtain ⟨q1, q2⟩ := own_in (k := k) hj hi
  exact Gl.st (fun t k => Y.baloadBytes hx (by rw [eT]; exact Ar.1) (State.isArrayOf_alike hZ.alike Ar.2.1) Ar.2.2 (by rw [sz]; exact q1) (by rw [q2]; exact H i hi) (g := mkF m pc L (.int j :: .ref a :: S)) rfl rfl (hb hby hd) t k) K
theorem g_zaload (X : St p l e R s m args below meth c n0 T h cells slots) (hx : p.tables.exec = Jvm.exec) (hby : c.code = bs) (hZ : Z.Warmed39 s.vm) {a : Addr} {k i : Nat} {f : Nat → Value} {j : Int32} {v : Value} (A : Ary Z h a .boolean k f) (hj : j.toInt = (i : Int)) (hi : i < k) (hv : f i = v) (hd : decode bs pc = .ok (.baload, 1)) (hp : pc + 1 = pc') (K : Gl p e below n0 Φ Q (T.setTop (mkF m pc' L (v :: S)))) : Gl p e below n0 Φ Q (T.setTop (mkF m pc L (.int j :: .ref a :: S))) := by
  obtain ⟨locs, Y, eT, -⟩ := X; subst hp hv
  obtain ⟨cl, Ar, sz, H⟩ := A
  obtain ⟨q1, q2⟩ := own_in (k := k) hj hi
  exact Gl.st (fun t k => Y.baloadBooleans hx (by rw [eT]; exact Ar.1) (State.isArrayOf_alike hZ.alike Ar.2.1) Ar.2.2 (by rw [sz]; exact q1) (by rw [q2]; exact H i hi) (g := mkF m pc L (.int j :: .ref a :: S)) rfl rfl (hb hby hd) t k) K
theorem g_aaload (X : St p l e R s m args below meth c n0 T h cells slots) (hx : p.tables.exec = Jvm.exec) (hby : c.code = bs) (hZ : Z.Warmed39 s.vm) {a : Addr} {k i : Nat} {f : Nat → Value} {j : Int32} {v : Value} {ty : FieldType} (A : Ary Z h a ty k f) (hty : ty.isReference = true) (hj : j.toInt = (i : Int)) (hi : i < k) (hv : f i = v) (hd : decode bs pc = .ok (.aaload, 1)) (hp : pc + 1 = pc') (K : Gl p e below n0 Φ Q (T.setTop (mkF m pc' L (v :: S)))) : Gl p e below n0 Φ Q (T.setTop (mkF m pc L (.int j :: .ref a :: S))) := by
  obtain ⟨locs, Y, eT, -⟩ := X; subst hp hv
  obtain ⟨cl, Ar, sz, H⟩ := A
  obtain ⟨q1, q2⟩ := own_in (k := k) hj hi
  exact Gl.st (fun t k => Y.aaload hx (by rw [eT]; exact Ar.1) (State.isArrayOf_alike hZ.alike Ar.2.1) hty Ar.2.2 (by rw [sz]; exact q1) (by rw [q2]; exact H i hi) (g := mkF m pc L (.int j :: .ref a :: S)) rfl rfl (hb hby hd) t k) K
theorem g_iastore (X : St p l e R s m args below meth c n0 T h cells slots) (hx : p.tables.exec = Jvm.exec) (hby : c.code = bs) (hZ : Z.Warmed39 s.vm) {a : Addr} {k i : Nat} {f : Nat → Value} {j : Int32} {x : Int32} (A : Ary Z h a .int k f) (hj : j.toInt = (i : Int)) (hi : i < k) (hn0 : n0 ≤ a) (hd : decode bs pc = .ok (.iastore, 1)) (hp : pc + 1 = pc') (K : ∀ T' h' sl0, St p l e R s m args below meth c n0 T' h' cells slots → Wr h h' a sl0 (.int x) → Ary Z h' a .int k (own_upd f i (.int x)) → Gl p e below n0 Φ Q (T'.setTop (mkF m pc' L S))) : Gl p e below n0 Φ Q (T.setTop (mkF m pc L (.int x :: .int j :: .ref a :: S))) := by
  obtain ⟨locs, Y, eT, N⟩ := X; subst hp
  obtain ⟨cl, Ar, sz, H⟩ := A
  obtain ⟨q1, q2⟩ := own_in (k := k) hj hi
  obtain ⟨T', h', Y', e', W, st⟩ := stI Y hx hZ eT Ar (j := j) (by rw [sz]; exact q1) (g := mkF m pc L (.int x :: .int j :: .ref a :: S)) rfl rfl (hb hby hd)
  exact Gl.st st (K T' h' _ ⟨_, Y', e', Fr.snoc Y' N hn0⟩ W (Ary.same Ar sz H (q2 ▸ W)))
theorem g_lastore (X : St p l e R s m args below meth c n0 T h cells slots) (hx : p.tables.exec = Jvm.exec) (hby : c.code = bs) (hZ : Z.Warmed39 s.vm) {a : Addr} {k i : Nat} {f : Nat → Value} {j : Int32} {x : Int64} (A : Ary Z h a .long k f) (hj : j.toInt = (i : Int)) (hi : i < k) (hn0 : n0 ≤ a) (hd : decode bs pc = .ok (.lastore, 1)) (hp : pc + 1 = pc') (K : ∀ T' h' sl0, St p l e R s m args below meth c n0 T' h' cells slots → Wr h h' a sl0 (.long x) → Ary Z h' a .long k (own_upd f i (.long x)) → Gl p e below n0 Φ Q (T'.setTop (mkF m pc' L S))) : Gl p e below n0 Φ Q (T.setTop (mkF m pc L (.long x :: .int j :: .ref a :: S))) := by
  obtain ⟨locs, Y, eT, N⟩ := X; subst hp
  obtain ⟨cl, Ar, sz, H⟩ := A
  obtain ⟨q1, q2⟩ := own_in (k := k) hj hi
  obtain ⟨T', h', Y', e', W, st⟩ := stJ Y hx hZ eT Ar (j := j) (by rw [sz]; exact q1) (g := mkF m pc L (.long x :: .int j :: .ref a :: S)) rfl rfl (hb hby hd)
  exact Gl.st st (K T' h' _ ⟨_, Y', e', Fr.snoc Y' N hn0⟩ W (Ary.same Ar sz H (q2 ▸ W)))
theorem g_bastore (X : St p l e R s m args below meth c n0 T h cells slots) (hx : p.tables.exec = Jvm.exec) (hby : c.code = bs) (hZ : Z.Warmed39 s.vm) {a : Addr} {k i : Nat} {f : Nat → Value} {j : Int32} {x : Int32} (A : Ary Z h a .byte k f) (hj : j.toInt = (i : Int)) (hi : i < k) (hn0 : n0 ≤ a) (hd : decode bs pc = .ok (.bastore, 1)) (hp : pc + 1 = pc') (K : ∀ T' h' sl0, St p l e R s m args below meth c n0 T' h' cells slots → Wr h h' a sl0 (.int (nar .byte x)) → Ary Z h' a .byte k (own_upd f i (.int (nar .byte x))) → Gl p e below n0 Φ Q (T'.setTop (mkF m pc' L S))) : Gl p e below n0 Φ Q (T.setTop (mkF m pc L (.int x :: .int j :: .ref a :: S))) := by
  obtain ⟨locs, Y, eT, N⟩ := X; subst hp
  obtain ⟨cl, Ar, sz, H⟩ := A
  obtain ⟨q1, q2⟩ := own_in (k := k) hj hi
  obtain ⟨T', h', Y', e', W, st⟩ := stB Y hx hZ eT Ar (j := j) (by rw [sz]; exact q1) (g := mkF m pc L (.int x :: .int j :: .ref a :: S)) rfl rfl (hb hby hd)
  exact Gl.st st (K T' h' _ ⟨_, Y', e', Fr.snoc Y' N hn0⟩ W (Ary.same Ar sz H (q2 ▸ W)))
theorem g_zastore (X : St p l e R s m args below meth c n0 T h cells slots) (hx : p.tables.exec = Jvm.exec) (hby : c.code = bs) (hZ : Z.Warmed39 s.vm) {a : Addr} {k i : Nat} {f : Nat → Value} {j : Int32} {x : Int32} (A : Ary Z h a .boolean k f) (hj : j.toInt = (i : Int)) (hi : i < k) (hn0 : n0 ≤ a) (hd : decode bs pc = .ok (.bastore, 1)) (hp : pc + 1 = pc') (K : ∀ T' h' sl0, St p l e R s m args below meth c n0 T' h' cells slots → Wr h h' a sl0 (.int (nar .boolean x)) → Ary Z h' a .boolean k (own_upd f i (.int (nar .boolean x))) → Gl p e below n0 Φ Q (T'.setTop (mkF m pc' L S))) : Gl p e below n0 Φ Q (T.setTop (mkF m pc L (.int x :: .int j :: .ref a :: S))) := by
  obtain ⟨locs, Y, eT, N⟩ := X; subst hp
  obtain ⟨cl, Ar, sz, H⟩ := A
  obtain ⟨q1, q2⟩ := own_in (k := k) hj hi
  obtain ⟨T', h', Y', e', W, st⟩ := stZ Y hx hZ eT Ar (j := j) (by rw [sz]; exact q1) (g := mkF m pc L (.int x :: .int j :: .ref a :: S)) rfl rfl (hb hby hd)
  exact Gl.st st (K T' h' _ ⟨_, Y', e', Fr.snoc Y' N hn0⟩ W (Ary.same Ar sz H (q2 ▸ W)))
theorem g_castore (X : St p l e R s m args below meth c n0 T h cells slots) (hx : p.tables.exec = Jvm.exec) (hby : c.code = bs) (hZ : Z.Warmed39 s.vm) {a : Addr} {k i : Nat} {f : Nat → Value} {j : Int32} {x : Int32} (A : Ary Z h a .char k f) (hj : j.toInt = (i : Int)) (hi : i < k) (hn0 : n0 ≤ a) (hd : decode bs pc = .ok (.castore, 1)) (hp : pc + 1 = pc') (K : ∀ T' h' sl0, St p l e R s m args below meth c n0 T' h' cells slots → Wr h h' a sl0 (.int (nar .char x)) → Ary Z h' a .char k (own_upd f i (.int (nar .char x))) → Gl p e below n0 Φ Q (T'.setTop (mkF m pc' L S))) : Gl p e below n0 Φ Q (T.setTop (mkF m pc L (.int x :: .int j :: .ref a :: S))) := by
  obtain ⟨locs, Y, eT, N⟩ := X; subst hp
  obtain ⟨cl, Ar, sz, H⟩ := A
  obtain ⟨q1, q2⟩ := own_in (k := k) hj hi
  obtain ⟨T', h', Y', e', W, st⟩ := stC Y hx hZ eT Ar (j := j) (by rw [sz]; exact q1) (g := mkF m pc L (.int x :: .int j :: .ref a :: S)) rfl rfl (hb hby hd)
  exact Gl.st st (K T' h' _ ⟨_, Y', e', Fr.snoc Y' N hn0⟩ W (Ary.same Ar sz H (q2 ▸ W)))
theorem g_aastore (X : St p l e R s m args below meth c n0 T h cells slots) (hx : p.tables.exec = Jvm.exec) (hby : c.code = bs) (hZ : Z.Warmed39 s.vm) {a : Addr} {k i : Nat} {f : Nat → Value} {j : Int32} {v : Value} {ty : FieldType} (A : Ary Z h a ty k f) (hty : ty.isReference = true) (St0 : Sto Z h a v) (hj : j.toInt = (i : Int)) (hi : i < k) (hn0 : n0 ≤ a) (hd : decode bs pc = .ok (.aastore, 1)) (hp : pc + 1 = pc') (K : ∀ T' h' sl0, St p l e R s m args below meth c n0 T' h' cells slots → Wr h h' a sl0 v → Ary Z h' a ty k (own_upd f i v) → Gl p e below n0 Φ Q (T'.setTop (mkF m pc' L S))) : Gl p e below n0 Φ Q (T.setTop (mkF m pc L (v :: .int j :: .ref a :: S))) := by
  obtain ⟨locs, Y, eT, N⟩ := X; subst hp
  obtain ⟨cl, Ar, sz, H⟩ := A
  obtain ⟨q1, q2⟩ := own_in (k := k) hj hi
  obtain ⟨T', h', Y', e', W, st⟩ := stR Y hx hZ eT Ar (j := j) (by rw [sz]; exact q1) hty St0 (g := mkF m pc L (v :: .int j :: .ref a :: S)) rfl rfl (hb hby hd)
  exact Gl.st st (K T' h' _ ⟨_, Y', e', Fr.snoc Y' N hn0⟩ W (Ary.same Ar sz H (q2 ▸ W)))
theorem g_instY (X : St p l e R s m args below meth c n0 T h cells slots) (hx : p.tables.exec = Jvm.exec) (hby : c.code = bs) (hZ : Z.Warmed39 s.vm) {own K : String} {index : Nat} {a : Addr} (hown : s.vm.findClass own = some m.cls) (w : (Cond.classLink own index K).before a0 Z = true) (I : Ins Z h a K true) (hd : decode bs pc = .ok (.instanceof index, 3)) (hp : pc + 3 = pc') (K1 : ∀ T', St p l e R s m args below meth c n0 T' h cells slots → Gl p e below n0 Φ Q (T'.setTop (mkF m pc' L (.int 1 :: S)))) : Gl p e below n0 Φ Q (T.setTop (mkF m pc L (.ref a :: S))) := by
  obtain ⟨locs, Y, eT, N⟩ := X; subst hp
  obtain ⟨T', Y', e', st⟩ := instY Y hx hZ hown w eT I (g := mkF m pc L (.ref a :: S)) rfl rfl (hb hby hd)
  exact Gl.st st (K1 T' ⟨locs, Y', e', N⟩)
theorem g_castY (X : St p l e R s m args below meth c n0 T h cells slots) (hx : p.tables.exec = Jvm.exec) (hby : c.code = bs) (hZ : Z.Warmed39 s.vm) {own K : String} {index : Nat} {a : Addr} (hown : s.vm.findClass own = some m.cls) (w : (Cond.classLink own index K).before a0 Z = true) (I : Ins Z h a K true) (hd : decode bs pc = .ok (.checkcast index, 3)) (hp : pc + 3 = pc') (K1 : ∀ T', St p l e R s m args below meth c n0 T' h cells slots → Gl p e below n0 Φ Q (T'.setTop (mkF m pc' L (.ref a :: S)))) : Gl p e below n0 Φ Q (T.setTop (mkF m pc L (.ref a :: S))) := by
  obtain ⟨locs, Y, eT, N⟩ := X; subst hp
  obtain ⟨T', Y', e', st⟩ := castY Y hx hZ hown w eT I (g := mkF m pc L (.ref a :: S)) rfl rfl (hb hby hd)
  exact Gl.st st (K1 T' ⟨locs, Y', e', N⟩)
theorem g_instNo (X : St p l e R s m args below meth c n0 T h cells slots) (hx : p.tables.exec = Jvm.exec) (hby : c.code = bs) (hZ : Z.Warmed39 s.vm) {own K C : String} {index : Nat} {a : Addr} (hown : s.vm.findClass own = some m.cls) (w : (Cond.classLink own index K).before a0 Z = true) (E : Exa Z h a C) (I : ∃ c t, Z.vm.findClass C = some c ∧ Z.vm.findClass K = some t ∧ Z.vm.assignable c t = false) (hd : decode bs pc = .ok (.instanceof index, 3)) (hp : pc + 3 = pc') (K1 : ∀ T', St p l e R s m args below meth c n0 T' h cells slots → Gl p e below n0 Φ Q (T'.setTop (mkF m pc' L (.int 0 :: S)))) : Gl p e below n0 Φ Q (T.setTop (mkF m pc L (.ref a :: S))) := by
  obtain ⟨locs, Y, eT, N⟩ := X; subst hp
  obtain ⟨T', Y', e', st⟩ := instNo Y hx hZ hown w eT E I (g := mkF m pc L (.ref a :: S)) rfl rfl (hb hby hd)
  exact Gl.st st (K1 T' ⟨locs, Y', e', N⟩)
theorem g_instNull (X : St p l e R s m args below meth c n0 T h cells slots) (hx : p.tables.exec = Jvm.exec) (hby : c.code = bs) {index : Nat} (hd : decode bs pc = .ok (.instanceof index, 3)) (hp : pc + 3 = pc') (K1 : Gl p e below n0 Φ Q (T.setTop (mkF m pc' L (.int 0 :: S)))) : Gl p e below n0 Φ Q (T.setTop (mkF m pc L (.null :: S))) := by
  obtain ⟨locs, Y, eT, N⟩ := X; subst hp
  exact Gl.st (fun t k => Y.instanceofNull hx (g := mkF m pc L (.null :: S)) rfl rfl (hb hby hd) t k) K1
theorem g_initO (X : St p l e R s m args below meth c n0 T h cells slots) (hx : p.tables.exec = Jvm.exec) (hby : c.code = bs) (hZ : Z.Warmed39 s.vm) {own : String} {idx W : Nat} {a : Addr} (hown : s.vm.findClass own = some m.cls) (w1 : (Cond.methodLink own idx Lib.objectInit).before a0 Z = true) (w2 : (Cond.instanceMethod Lib.objectInit).before a0 Z = true) (w3 : (Cond.code Lib.objectInit ⟨#[0xb1]⟩ 1 none).before a0 Z = true) (hsz : L.size = c.maxLocals) (hd : decode bs pc = .ok (.invokespecial idx, 3)) (hf : 1 ≤ R.frames) (hW : 2 * 0 + (S.map fun v => v.category).sum ≤ W) (hlo : W + 12 ≤ R.locals) (hp : pc + 3 = pc') (K : ∀ T', St p l e R s m args below meth c n0 T' h cells slots → Gl p e below n0 Φ Q (T'.setTop (mkF m pc' L S))) : Gl p e below n0 Φ Q (T.setTop (mkF m pc L (.ref a :: S))) := by
  obtain ⟨locs, Y, eT, N⟩ := X; subst hp
  obtain ⟨T', Y', e', st⟩ := initO Y hx hZ hown w1 w2 w3 eT (g := mkF m pc L (.ref a :: S)) rfl hsz rfl (hb hby hd) hf (W := W) hW hlo
  exact Gl.st st (K T' ⟨locs, Y', e', N⟩)
theorem g_callS (X : St p l e R s m args below meth c n0 T h cells slots) (hx : p.tables.exec = Jvm.exec) (hby : c.code = bs) (hZ : Z.Warmed39 s.vm) {rm : Room} {y : MethodName} {bytes : ByteArray} {maxL : Nat} {ret : Option FieldType} {Qc : Option Value → Heap → Prop} {own : String} {idx : Nat} {argsL S0 : List Value} (hown : s.vm.findClass own = some m.cls) (w1 : (Cond.methodLink own idx y).before a0 Z = true) (w2 : (Cond.static y).before a0 Z = true) (w3 : (Cond.initialized y.cls).before a0 Z = true) (w4 : (Cond.code y bytes maxL ret).before a0 Z = true) (hy : y.cls ≠ "java/lang/invoke/MethodHandle" ∧ y.cls ≠ "java/lang/invoke/VarHandle") (hM : Ctr l Z y bytes maxL ret [] rm argsL.toArray h n0 rm.cells rm.slots Qc) (hsz : L.size = c.maxLocals) (hlen : ∀ sig, parseMethodDescriptor y.desc = some sig → argsL.length = sig.parameters.length) (hst : S0 = argsL.reverse ++ S) (hd : decode bs pc = .ok (.invokestatic idx, 3)) (hf : rm.frames + 1 ≤ R.frames) {W : Nat} (hW : 2 * 0 + (S.map fun v => v.category).sum ≤ W) (hlo : W + (maxL + 11) + rm.locals ≤ R.locals) (hc : cells + rm.cells ≤ R.cells) (hs : slots + rm.slots ≤ R.slots) (hp : pc + 3 = pc') (K : ∀ T' v, St p l e R s m args below meth c n0 T' T'.heap (cells + rm.cells) (slots + rm.slots) → Qc v T'.heap → Gl p e below n0 Φ Q (T'.setTop (mkF m pc' L (v.toList ++ S)))) : Gl p e below n0 Φ Q (T.setTop (mkF m pc L S0)) := by
  obtain ⟨locs, Y, eT, N⟩ := X; subst hp
  obtain ⟨v, _, ⟨T', L1, k1, n1⟩, -, Y', ⟨Lc, hQ, l1, y1, z1⟩, st⟩ := Jvm.LawKit.callS Y hx (y := y) hown (mvT hZ w1) (mvT hZ w2) (mvT hZ w3) (mvT hZ w4) hy (backOf (W := W) (Q := fun v h L => Qc v h ∧ Fr n0 L) hM hZ w4 w3 hf hlo) (g := mkF m pc L S0) rfl hsz (argsL := argsL) (rest := S) hlen hst hW (hb hby hd) (fun _ _ => ⟨rfl, eT, hc, hs⟩)
  dsimp only [Pt.U, Pt.locs, Pt.cells, Pt.slots] at Y' l1 y1 z1 st hQ
  subst l1 y1 z1
  exact Gl.st (st) (K T' v ⟨_, Y', rfl, Fr.app N hQ.2⟩ hQ.1)
theorem g_callC (X : St p l e R s m args below meth c n0 T h cells slots) (hx : p.tables.exec = Jvm.exec) (hby : c.code = bs) (hZ : Z.Warmed39 s.vm) {rm : Room} {y : MethodName} {bytes : ByteArray} {maxL : Nat} {Qc : Option Value → Heap → Prop} {own : String} {idx : Nat} {a : Addr} {argsL S0 : List Value} (hy1 : y.name = "<init>") (hown : s.vm.findClass own = some m.cls) (w1 : (Cond.methodLink own idx y).before a0 Z = true) (w2 : (Cond.instanceMethod y).before a0 Z = true) (w3 : (Cond.initialized y.cls).before a0 Z = true) (w4 : (Cond.code y bytes maxL none).before a0 Z = true) (hy : y.cls ≠ "java/lang/invoke/MethodHandle" ∧ y.cls ≠ "java/lang/invoke/VarHandle") (hM : Ctr l Z y bytes maxL none [] rm (.ref a :: argsL).toArray h n0 rm.cells rm.slots Qc) (hsz : L.size = c.maxLocals) (hlen : ∀ sig, parseMethodDescriptor y.desc = some sig → argsL.length = sig.parameters.length) (hst : S0 = argsL.reverse ++ .ref a :: S) (hd : decode bs pc = .ok (.invokespecial idx, 3)) (hf : rm.frames + 1 ≤ R.frames) {W : Nat} (hW : 2 * 0 + (S.map fun v => v.category).sum ≤ W) (hlo : W + (maxL + 11) + rm.locals ≤ R.locals) (hc : cells + rm.cells ≤ R.cells) (hs : slots + rm.slots ≤ R.slots) (hp : pc + 3 = pc') (K : ∀ T' v, St p l e R s m args below meth c n0 T' T'.heap (cells + rm.cells) (slots + rm.slots) → Qc v T'.heap → Gl p e below n0 Φ Q (T'.setTop (mkF m pc' L (v.toList ++ S)))) : Gl p e below n0 Φ Q (T.setTop (mkF m pc L S0)) := by
  obtain ⟨locs, Y, eT, N⟩ := X; subst hp
  obtain ⟨v, _, ⟨T', L1, k1, n1⟩, -, Y', ⟨Lc, hQ, l1, y1, z1⟩, st⟩ := Y.specialBack hx (y := y) hy1 hown (mvT hZ w1) (mvT hZ w2) (mvT hZ w4) hy (backOf (W := W) (Q := fun v h L => Qc v h ∧ Fr n0 L) hM hZ w4 w3 hf hlo) (g := mkF m pc L S0) rfl hsz (Steps.refl _) (a := a) (argsL := argsL) (rest := S) hlen hst hW (hb hby hd) (fun _ _ => ⟨rfl, eT, hc, hs⟩)
  dsimp only [Pt.U, Pt.locs, Pt.cells, Pt.slots] at Y' l1 y1 z1 st hQ
  subst l1 y1 z1
  exact Gl.st (fun t k => st.trans k) (K T' v ⟨_, Y', rfl, Fr.app N hQ.2⟩ hQ.1)
theorem g_callV (X : St p l e R s m args below meth c n0 T h cells slots) (hx : p.tables.exec = Jvm.exec) (hby : c.code = bs) (hZ : Z.Warmed39 s.vm) {rm : Room} {y : MethodName} {bytes : ByteArray} {maxL : Nat} {ret : Option FieldType} {Qc : Option Value → Heap → Prop} {own C : String} {idx : Nat} {a : Addr} {y' : MethodName} {argsL S0 : List Value} (hown : s.vm.findClass own = some m.cls) (w1 : (Cond.methodLink own idx y').before a0 Z = true) (w2 : (Cond.declares y').before a0 Z = true) (w5 : NotFace s y') (w6 : (Cond.selects C y' y).before a0 Z = true) (w7 : (Cond.instanceMethod y).before a0 Z = true) (w3 : (Cond.initialized y.cls).before a0 Z = true) (w4 : (Cond.code y bytes maxL ret).before a0 Z = true) (hy : y'.cls ≠ "java/lang/invoke/MethodHandle" ∧ y'.cls ≠ "java/lang/invoke/VarHandle") (E : Exa Z h a C) (hM : Ctr l Z y bytes maxL ret [] rm (.ref a :: argsL).toArray h n0 rm.cells rm.slots Qc) (hsz : L.size = c.maxLocals) (hlen : ∀ sig, parseMethodDescriptor y'.desc = some sig → argsL.length = sig.parameters.length) (hst : S0 = argsL.reverse ++ .ref a :: S) (hd : decode bs pc = .ok (.invokevirtual idx, 3)) (hf : rm.frames + 1 ≤ R.frames) {W : Nat} (hW : 2 * 0 + (S.map fun v => v.category).sum ≤ W) (hlo : W + (maxL + 11) + rm.locals ≤ R.locals) (hc : cells + rm.cells ≤ R.cells) (hs : slots + rm.slots ≤ R.slots) (hp : pc + 3 = pc') (K : ∀ T' v, St p l e R s m args below meth c n0 T' T'.heap (cells + rm.cells) (slots + rm.slots) → Qc v T'.heap → Gl p e below n0 Φ Q (T'.setTop (mkF m pc' L (v.toList ++ S)))) : Gl p e below n0 Φ Q (T.setTop (mkF m pc L S0)) := by
  obtain ⟨locs, Y, eT, N⟩ := X; subst hp
  obtain ⟨cB, kB, qa, qb, qc⟩ := isOf hZ eT E
  obtain ⟨v, _, ⟨T', L1, k1, n1⟩, -, Y', ⟨Lc, hQ, l1, y1, z1⟩, st⟩ := Y.virtualBack hx (y := y') (z := y) hown (mvT hZ w1) (mvT hZ w2) w5 (mvT hZ w6) (mvT hZ w7) hy (backOf (W := W) (Q := fun v h L => Qc v h ∧ Fr n0 L) hM hZ w4 w3 hf hlo) qa qc (g := mkF m pc L S0) rfl hsz (Steps.refl _) (argsL := argsL) (rest := S) hlen hst hW (hb hby hd) (fun _ _ => ⟨rfl, eT, hc, hs⟩)
  dsimp only [Pt.U, Pt.locs, Pt.cells, Pt.slots] at Y' l1 y1 z1 st hQ
  subst l1 y1 z1
  exact Gl.st (fun t k => st.trans k) (K T' v ⟨_, Y', rfl, Fr.app N hQ.2⟩ hQ.1)
end OwnSteps
abbrev own_room (f c s l : Nat) : Room := { frames := f, cells := c, slots := s, locals := l }
theorem own_lt {a b : Int32} (q : a.toInt < b.toInt) : a < b := Int32.lt_iff_toInt_lt.mpr q
theorem own_nlt {a b : Int32} (q : b.toInt ≤ a.toInt) : ¬ a < b := fun z => by have := Int32.lt_iff_toInt_lt.mp z; omega
def own_b (x : Int64) (k : Int32) : Int32 := nar .byte ((((x.toUInt64 >>> (((8 : Int32) * k) &&& 0x3f).toInt64.toUInt64).toInt64).toInt32).toInt8.toInt32)
theorem own_b8 (x : Int32) : nar .byte (nar .byte x) = nar .byte x := by show x.toInt8.toInt32.toInt8.toInt32 = x.toInt8.toInt32; rw [Int8.toInt8_toInt32]
theorem own_nar (x : Int64) (k : Int32) : nar .byte (own_b x k) = own_b x k := own_b8 _
theorem own_fit (x : Int64) (k : Int32) : fits .byte (.int (own_b x k)) = true := fits_nar_byte _
def own_cp (f f' : Nat → Value) (sp dp nn : Nat) : Nat → Value := fun i => if dp ≤ i ∧ i < dp + nn then f (sp + (i - dp)) else f' i
theorem own_arv {Z : State} {h : Heap} {a : Addr} {ty : FieldType} {n : Nat} {f : Nat → Value} {z : Int32} (A : Ary Z h a ty n f) (hz : z.toInt = (n : Int)) (hf : ∀ i, i < n → fits ty (f i) = true) (d : Value) : ∃ k, Arv Z h a k ty z ((List.range n).map f) d := by
  obtain ⟨c, Ar, sz, H⟩ := A
  have e : ∀ i, i < n → ((List.range n).map f).getD i d = f i := fun i hi => by simp [List.getD_eq_getElem?_getD, hi]
  refine ⟨c.cls, c, Ar, rfl, by rw [sz]; simp only [Int32.toNatClampNeg]; omega, fun q => ?_, fun i hi => ?_, fun i hi => ?_⟩
  · rw [Int32.lt_iff_toInt_lt] at q; have : (0 : Int32).toInt = 0 := rfl; omega
  · rw [sz] at hi; rw [e i hi]; exact H i hi
  · rw [sz] at hi; rw [e i hi]; exact hf i hi
theorem own_list (f f' : Nat → Value) (sp dp nn n : Nat) (h : dp + nn ≤ n) (d : Value) {i : Nat} (hi : i < n) : (((List.range n).map f').take dp ++ ((List.range nn).map fun j => f (sp + j)) ++ ((List.range n).map f').drop (dp + nn)).getD i d = own_cp f f' sp dp nn i := by
  simp only [List.getD_eq_getElem?_getD, own_cp]
  by_cases h1 : i < dp
  · rw [List.append_assoc, List.getElem?_append_left (by simp; omega), List.getElem?_take_of_lt h1]
    simp [hi, show ¬ (dp ≤ i ∧ i < dp + nn) by omega]
  · by_cases h2 : i < dp + nn
    · rw [List.append_assoc, List.getElem?_append_right (by simp; omega), List.getElem?_append_left (by simp; omega)]
      have e : i - (List.take dp ((List.range n).map f')).length = i - dp := by simp; omega
      rw [e]
      simp [show i - dp < nn by omega, show dp ≤ i ∧ i < dp + nn by omega]
    · rw [List.getElem?_append_right (by simp; omega), List.getElem?_drop]
      have e : dp + nn + (i - (List.take dp ((List.range n).map f') ++ (List.range nn).map fun j => f (sp + j)).length) = i := by simp; omega
      rw [e]
      simp [hi, show ¬ (dp ≤ i ∧ i < dp + nn) by omega]
section OwnCopy
variable {p : Program} {l : Launch} {e : Env} {R : Room} {s : State} {m : MethodId} {args : Array Value} {below : List Frame} {meth : Method} {c : Code} {T : State} {n0 : Nat} {h : Heap} {cells slots : Nat} {Φ : Outcome → State → List Loc → Prop} {Q : Option Value → Heap → Prop} {pc pc' : Nat} {L : Array Slot} {S : List Value} {bs : ByteArray} {Z : State} {a0 : Array Value}
theorem own_acopy (X : St p l e R s m args below meth c n0 T h cells slots) (hx : p.tables.exec = Jvm.exec) (hby : c.code = bs) (hZ : Z.Warmed39 s.vm) {own : String} {index : Nat} (hown : s.vm.findClass own = some m.cls)
    (w1 : (Cond.methodLink own index Jvm.Stand.acN).before a0 Z = true) (w2 : (Cond.native Jvm.Stand.acN).before a0 Z = true) (w3 : (Cond.static Jvm.Stand.acN).before a0 Z = true) (w4 : (Cond.initialized "java/lang/System").before a0 Z = true)
    {a b : Addr} {f f' : Nat → Value} {sp dp nn : Int32} {isp idp inn : Nat} (A : Ary Z h a .byte 6 f) (B : Ary Z h b .byte 6 f') (fa : ∀ i, i < 6 → fits .byte (f i) = true) (fb : ∀ i, i < 6 → fits .byte (f' i) = true)
    (e1 : sp.toInt = (isp : Int)) (e2 : dp.toInt = (idp : Int)) (e3 : nn.toInt = (inn : Int)) (h4 : isp + inn ≤ 6) (h5 : idp + inn ≤ 6) (hn0 : n0 ≤ b) (hsz : L.size = c.maxLocals) (hd : decode bs pc = .ok (.invokestatic index, 3))
    (hf : 1 ≤ R.frames) {W : Nat} (hW : 2 * 0 + (S.map fun v => v.category).sum ≤ W) (hlo : W + (nativeFrameWords "java/lang/System" "arraycopy" 5 + 11) ≤ R.locals) (hp : pc + 3 = pc')
    (K : ∀ T' h', St p l e R s m args below meth c n0 T' h' cells slots → Keep h h' [b] → Ary Z h' b .byte 6 (own_cp f f' isp idp inn) → Gl p e below n0 Φ Q (T'.setTop (mkF m pc' L S))) :
    Gl p e below n0 Φ Q (T.setTop (mkF m pc L (.int nn :: .int dp :: .ref b :: .int sp :: .ref a :: S))) := by
  obtain ⟨locs, Y, eT, N⟩ := X; subst hp
  have z : (0 : Int32).toInt = 0 := rfl
  have q1 : sp.toNatClampNeg = isp := by simp only [Int32.toNatClampNeg]; omega
  have q2 : dp.toNatClampNeg = idp := by simp only [Int32.toNatClampNeg]; omega
  have q3 : nn.toNatClampNeg = inn := by simp only [Int32.toNatClampNeg]; omega
  obtain ⟨ka, Va⟩ := own_arv (z := 6) A rfl fa (.int 0)
  obtain ⟨kb, Vb⟩ := own_arv (z := 6) B rfl fb (.int 0)
  have q6 : (6 : Int32).toNatClampNeg = 6 := rfl
  obtain ⟨T', h', L', Y', e', N', K', V', st⟩ := cpA Y hx hZ hown w1 w2 w3 w4 eT Va Vb (us := (List.range inn).map fun j => f (isp + j)) (Or.inl ⟨rfl, rfl⟩)
    (by rw [Int32.lt_iff_toInt_lt]; omega) (by rw [Int32.lt_iff_toInt_lt]; omega) (by rw [Int32.lt_iff_toInt_lt]; omega) (by rw [q1, q3, q6]; exact h4) (by rw [q2, q3, q6]; exact h5)
    (by rw [q1, q3]; refine List.map_congr_left fun i hi => ?_; have := List.mem_range.mp hi; simp [List.getD_eq_getElem?_getD, show isp + i < 6 by omega]) (by rw [q2, q3]; simpa using h5) N hn0
    (g := mkF m pc L (.int nn :: .int dp :: .ref b :: .int sp :: .ref a :: S)) rfl hsz rfl (hb hby hd) hf hW hlo
  rw [q2, q3] at V'
  obtain ⟨cl, Ar, -, sz, -, H, -⟩ := V'
  rw [q6] at sz
  exact Gl.st st (K T' h' ⟨L', Y', e', N'⟩ K' ⟨cl, Ar, sz, fun i hi => by rw [H i (by omega), own_list f f' isp idp inn 6 h5 _ hi]⟩)
end OwnCopy
def own_ex (src dst : Int64) (o n a i : Int32) : Int32 := if i < a then own_b dst i else if i < a + n then own_b src (o + (i - a)) else own_b dst i
theorem own_cp_ex {src dst : Int64} {o n a : Int32} {io inn ia : Nat} (e1 : o.toInt = (io : Int)) (e2 : n.toInt = (inn : Int)) (e3 : a.toInt = (ia : Int)) (h1 : io + inn ≤ 6) (h2 : ia + inn ≤ 6) {i : Int32} {k : Nat} (hk : i.toInt = (k : Int)) (h6 : k < 6) :
    own_cp (fun j => .int (own_b src (Int32.ofNat j))) (fun j => .int (own_b dst (Int32.ofNat j))) io ia inn k = .int (own_ex src dst o n a i) := by
  have f1 := c_iadd a n; have f2 := rng32 (a + n); have f3 := c_isub i a; have f4 := rng32 (i - a); have f5 := c_iadd o (i - a); have f6 := rng32 (o + (i - a))
  have ek : Int32.ofNat k = i := by rw [← Int32.toInt_inj, hk]; exact Int32.toInt_ofNat_of_lt (by omega)
  simp only [own_cp, own_ex, Int32.lt_iff_toInt_lt]
  by_cases q1 : i.toInt < a.toInt
  · rw [if_pos q1, if_neg (by omega), ek]
  · rw [if_neg q1]
    by_cases q2 : i.toInt < (a + n).toInt
    · rw [if_pos q2, if_pos (by omega)]
      have : Int32.ofNat (io + (k - ia)) = o + (i - a) := by rw [← Int32.toInt_inj, Int32.toInt_ofNat_of_lt (by omega)]; omega
      rw [this]
    · rw [if_neg q2, if_neg (by omega), ek]
theorem own_off (x : Int32) : 0 ≤ ((x &&& (2147483647 : Int32)) % (7 : Int32)).toInt ∧ ((x &&& (2147483647 : Int32)) % (7 : Int32)).toInt ≤ 6 := by
  have h2 := c_mask x 2147483647 31 (by decide) (by decide +kernel)
  have h3 : ((2 ^ 31 : Nat) : Int) = 2147483648 := rfl
  have h4 := (c_iremV (x &&& 2147483647) 7).1 (by omega) (by decide)
  have h5 : (7 : Int32).toInt = 7 := rfl
  omega
theorem own_seven {f : Int32} (h : 0 ≤ f.toInt ∧ f.toInt ≤ 6) : ((7 : Int32) - f).toInt = 7 - f.toInt := by
  have h1 := c_isub 7 f; have h2 := rng32 (7 - f); have h3 : (7 : Int32).toInt = 7 := rfl
  omega
theorem own_seven_nz {f : Int32} (h : 0 ≤ f.toInt ∧ f.toInt ≤ 6) : (7 : Int32) - f ≠ 0 := fun q => by
  have h1 := own_seven h; rw [q] at h1; have : (0 : Int32).toInt = 0 := rfl; omega
theorem own_len {f : Int32} (x : Int32) (h : 0 ≤ f.toInt ∧ f.toInt ≤ 6) : 0 ≤ ((x &&& (2147483647 : Int32)) % ((7 : Int32) - f)).toInt ∧ f.toInt + ((x &&& (2147483647 : Int32)) % ((7 : Int32) - f)).toInt ≤ 6 := by
  have h1 := own_seven h
  have h2 := c_mask x 2147483647 31 (by decide) (by decide +kernel)
  have h3 : ((2 ^ 31 : Nat) : Int) = 2147483648 := rfl
  have h4 := (c_iremV (x &&& 2147483647) (7 - f)).1 (by omega) (by omega)
  omega
set_option maxRecDepth 65536 in
set_option maxHeartbeats 40000000 in
theorem own_ef1 (m : MethodId) (y0 : Int64) (y1 : Int32)  : entryFrame m #[(.long y0), (.int y1)] 3 = mkF m 0 #[.val (.long y0), .second, .val (.int y1)] [] := by first | (simp [entryFrame, mkF, argsToLocals, Value.category, maxLocals]; done) | rfl
theorem own_pn0 : plainName "com/example/urutan/urutan/request/FieldCopyJsonPinLaw" = true := by first | (simp [plainName, overriddenIn]; done) | decide +kernel
theorem own_d0_0 : decode method_3_code 0 = .ok (.lload_n 0, 1) := by decide +kernel
theorem own_d0_1 : decode method_3_code 1 = .ok (.bipush 8, 2) := by decide +kernel
theorem own_d0_3 : decode method_3_code 3 = .ok (.iload_n 2, 1) := by decide +kernel
theorem own_d0_4 : decode method_3_code 4 = .ok (.imul, 1) := by decide +kernel
theorem own_d0_5 : decode method_3_code 5 = .ok (.lushr, 1) := by decide +kernel
theorem own_d0_6 : decode method_3_code 6 = .ok (.l2i, 1) := by decide +kernel
theorem own_d0_7 : decode method_3_code 7 = .ok (.i2b, 1) := by decide +kernel
theorem own_d0_8 : decode method_3_code 8 = .ok (.ireturn, 1) := by decide +kernel
set_option maxRecDepth 65536 in
set_option maxHeartbeats 40000000 in
theorem own_rm1 (l : Launch) (Z : State) (a0 : Array Value) (hw : ∀ d ∈ tables_1, d.before a0 Z = true) (y0 : Int64) (y1 : Int32) (h0 : Heap) (n0 : Nat)  :
    Ctr l Z (⟨"com/example/urutan/urutan/request/FieldCopyJsonPinLaw", "b", "(JI)B"⟩ : MethodName) method_3_code 3 (some .byte) [] (own_room 0 0 0 0) #[(.long y0), (.int y1)] h0 n0 0 0 (fun v h => v = some (.int (own_b y0 y1)) ∧ h = h0) := by
  refine Ctr.of (plainFor_of_name own_pn0) ?_
  intro p e s m below meth c T0 hx hby hml hret hlk hnm hown hZ X0
  rw [own_ef1 m (y0) (y1)]
  refine g_lloadN X0 hx hby own_d0_0 rfl (pc' := 1) rfl ?_
  refine g_bipush (v := 8) X0 hx hby own_d0_1 rfl (pc' := 3) rfl ?_
  refine g_iloadN X0 hx hby own_d0_3 rfl (pc' := 4) rfl ?_
  refine g_imul X0 hx hby own_d0_4 (pc' := 5) rfl ?_
  refine g_lushr X0 hx hby own_d0_5 (pc' := 6) rfl ?_
  refine g_l2i X0 hx hby own_d0_6 (pc' := 7) rfl ?_
  refine g_i2b X0 hx hby own_d0_7 (pc' := 8) rfl ?_
  exact g_retN X0 hx hby hret hlk (by simp) own_d0_8 ⟨rfl, rfl⟩ (by decide) (by decide)
set_option maxRecDepth 65536 in
set_option maxHeartbeats 40000000 in
theorem own_ef2 (m : MethodId) (y0 : Addr) (y1 : Addr) (y2 : Addr) (y3 : Int32) (y4 : Int32)  : entryFrame m #[(.ref y0), (.ref y1), (.ref y2), (.int y3), (.int y4)] 5 = mkF m 0 #[.val (.ref y0), .val (.ref y1), .val (.ref y2), .val (.int y3), .val (.int y4)] [] := by first | (simp [entryFrame, mkF, argsToLocals, Value.category, maxLocals]; done) | rfl
theorem own_pn1 : plainName "com/example/urutan/urutan/request/Field" = true := by first | (simp [plainName, overriddenIn]; done) | decide +kernel
theorem own_d1_0 : decode prog_33_method_1_code 0 = .ok (.aload_n 0, 1) := by decide +kernel
theorem own_d1_1 : decode prog_33_method_1_code 1 = .ok (.invokespecial 1, 3) := by decide +kernel
theorem own_d1_4 : decode prog_33_method_1_code 4 = .ok (.aload_n 0, 1) := by decide +kernel
theorem own_d1_5 : decode prog_33_method_1_code 5 = .ok (.aload_n 1, 1) := by decide +kernel
theorem own_d1_6 : decode prog_33_method_1_code 6 = .ok (.putfield 7, 3) := by decide +kernel
theorem own_d1_9 : decode prog_33_method_1_code 9 = .ok (.aload_n 0, 1) := by decide +kernel
theorem own_d1_10 : decode prog_33_method_1_code 10 = .ok (.aload_n 2, 1) := by decide +kernel
theorem own_d1_11 : decode prog_33_method_1_code 11 = .ok (.putfield 13, 3) := by decide +kernel
theorem own_d1_14 : decode prog_33_method_1_code 14 = .ok (.aload_n 0, 1) := by decide +kernel
theorem own_d1_15 : decode prog_33_method_1_code 15 = .ok (.iload_n 3, 1) := by decide +kernel
theorem own_d1_16 : decode prog_33_method_1_code 16 = .ok (.putfield 17, 3) := by decide +kernel
theorem own_d1_19 : decode prog_33_method_1_code 19 = .ok (.aload_n 0, 1) := by decide +kernel
theorem own_d1_20 : decode prog_33_method_1_code 20 = .ok (.iload 4, 2) := by decide +kernel
theorem own_d1_22 : decode prog_33_method_1_code 22 = .ok (.putfield 21, 3) := by decide +kernel
theorem own_d1_25 : decode prog_33_method_1_code 25 = .ok (.return_, 1) := by decide +kernel
set_option maxRecDepth 65536 in
set_option maxHeartbeats 40000000 in
theorem own_rm2 (l : Launch) (Z : State) (a0 : Array Value) (hw : ∀ d ∈ tables_1, d.before a0 Z = true) (y0 y1 y2 : Addr) (y3 y4 : Int32) (h0 : Heap) (n0 : Nat) (Z0 : n0 ≤ h0.size) (Ex : Exa Z h0 y0 "com/example/urutan/urutan/request/Field") (F_name : Fld Z h0 y0 "com/example/urutan/urutan/request/Field" "name" "Ljava/lang/String;" .null) (F_json : Fld Z h0 y0 "com/example/urutan/urutan/request/Field" "json" "[B" .null) (F_offset : Fld Z h0 y0 "com/example/urutan/urutan/request/Field" "offset" "I" (.int (0 : Int32))) (F_length : Fld Z h0 y0 "com/example/urutan/urutan/request/Field" "length" "I" (.int (0 : Int32))) (gn : n0 ≤ y0) :
    Ctr l Z (⟨"com/example/urutan/urutan/request/Field", "<init>", "(Ljava/lang/String;[BII)V"⟩ : MethodName) prog_33_method_1_code 5 none [] (own_room 1 0 0 13) #[(.ref y0), (.ref y1), (.ref y2), (.int y3), (.int y4)] h0 n0 0 0 (fun v h => v = none ∧ Keep h0 h [y0] ∧ Fld Z h y0 "com/example/urutan/urutan/request/Field" "json" "[B" (.ref y2) ∧ Fld Z h y0 "com/example/urutan/urutan/request/Field" "offset" "I" (.int y3) ∧ Fld Z h y0 "com/example/urutan/urutan/request/Field" "length" "I" (.int y4)) := by
  refine Ctr.of (plainFor_of_name own_pn1) ?_
  intro p e s m below meth c T0 hx hby hml hret hlk hnm hown hZ X0
  rw [own_ef2 m (y0) (y1) (y2) (y3) (y4)]
  refine g_aloadN X0 hx hby own_d1_0 rfl rfl (pc' := 1) rfl ?_
  refine g_initO X0 hx hby hZ (W := 0) hown (hw _ (List.mem_of_getElem? (i := 19) rfl)) (hw _ (List.mem_of_getElem? (i := 20) rfl)) (hw _ (List.mem_of_getElem? (i := 21) rfl)) (by rw [hml]; rfl) own_d1_1 (by decide) (by exact Nat.le_of_eq rfl) (by decide) (pc' := 4) rfl (fun T3 X3 => ?_)
  refine g_aloadN X3 hx hby own_d1_4 rfl rfl (pc' := 5) rfl ?_
  refine g_aloadN X3 hx hby own_d1_5 rfl rfl (pc' := 6) rfl ?_
  refine g_putF X3 hx hby hZ hown (hw _ (List.mem_of_getElem? (i := 22) rfl)) Via.refl F_name Ex (Or.inr ⟨(hw _ (List.mem_of_getElem? (i := 23) rfl)), rfl, hnm⟩) (hw _ (List.mem_of_getElem? (i := 7) rfl)) (ty := (.object "java/lang/String")) (by decide) rfl rfl gn own_d1_6 (pc' := 9) rfl (fun T4 h4 X4 W4 => ?_)
  have q5 := Ex.wr W4
  have q6 := F_name.same W4
  have q7 := F_json.other W4 (Or.inr (slot_ne (Or.inr (hw _ (List.mem_of_getElem? (i := 25) rfl))) (Or.inr (hw _ (List.mem_of_getElem? (i := 23) rfl))) (by decide) (t := (.array .byte)) (t' := (.object "java/lang/String")) (by decide) (by decide)))
  have q8 := F_offset.other W4 (Or.inr (slot_ne (Or.inr (hw _ (List.mem_of_getElem? (i := 27) rfl))) (Or.inr (hw _ (List.mem_of_getElem? (i := 23) rfl))) (by decide) (t := .int) (t' := (.object "java/lang/String")) (by decide) (by decide)))
  have q9 := F_length.other W4 (Or.inr (slot_ne (Or.inr (hw _ (List.mem_of_getElem? (i := 29) rfl))) (Or.inr (hw _ (List.mem_of_getElem? (i := 23) rfl))) (by decide) (t := .int) (t' := (.object "java/lang/String")) (by decide) (by decide)))
  have zz10 := Nat.le_trans Z0 (Nat.le_of_eq W4.size.symm)
  have kk11 : Keep h0 h4 [y0] := (Keep.refl h0 [y0]).wr W4 (Or.inl (by simp))
  refine g_aloadN X4 hx hby own_d1_9 rfl rfl (pc' := 10) rfl ?_
  refine g_aloadN X4 hx hby own_d1_10 rfl rfl (pc' := 11) rfl ?_
  refine g_putF X4 hx hby hZ hown (hw _ (List.mem_of_getElem? (i := 24) rfl)) Via.refl q7 q5 (Or.inr ⟨(hw _ (List.mem_of_getElem? (i := 25) rfl)), rfl, hnm⟩) (hw _ (List.mem_of_getElem? (i := 7) rfl)) (ty := (.array .byte)) (by decide) rfl rfl gn own_d1_11 (pc' := 14) rfl (fun T12 h12 X12 W12 => ?_)
  have q13 := q5.wr W12
  have q14 := q6.other W12 (Or.inr (slot_ne (Or.inr (hw _ (List.mem_of_getElem? (i := 23) rfl))) (Or.inr (hw _ (List.mem_of_getElem? (i := 25) rfl))) (by decide) (t := (.object "java/lang/String")) (t' := (.array .byte)) (by decide) (by decide)))
  have q15 := q7.same W12
  have q16 := q8.other W12 (Or.inr (slot_ne (Or.inr (hw _ (List.mem_of_getElem? (i := 27) rfl))) (Or.inr (hw _ (List.mem_of_getElem? (i := 25) rfl))) (by decide) (t := .int) (t' := (.array .byte)) (by decide) (by decide)))
  have q17 := q9.other W12 (Or.inr (slot_ne (Or.inr (hw _ (List.mem_of_getElem? (i := 29) rfl))) (Or.inr (hw _ (List.mem_of_getElem? (i := 25) rfl))) (by decide) (t := .int) (t' := (.array .byte)) (by decide) (by decide)))
  have zz18 := Nat.le_trans zz10 (Nat.le_of_eq W12.size.symm)
  have kk19 : Keep h0 h12 [y0] := kk11.wr W12 (Or.inl (by simp))
  refine g_aloadN X12 hx hby own_d1_14 rfl rfl (pc' := 15) rfl ?_
  refine g_iloadN X12 hx hby own_d1_15 rfl (pc' := 16) rfl ?_
  refine g_putF X12 hx hby hZ hown (hw _ (List.mem_of_getElem? (i := 26) rfl)) Via.refl q16 q13 (Or.inr ⟨(hw _ (List.mem_of_getElem? (i := 27) rfl)), rfl, hnm⟩) (hw _ (List.mem_of_getElem? (i := 7) rfl)) (ty := .int) (by decide) rfl rfl gn own_d1_16 (pc' := 19) rfl (fun T20 h20 X20 W20 => ?_)
  have q21 := q13.wr W20
  have q22 := q14.other W20 (Or.inr (slot_ne (Or.inr (hw _ (List.mem_of_getElem? (i := 23) rfl))) (Or.inr (hw _ (List.mem_of_getElem? (i := 27) rfl))) (by decide) (t := (.object "java/lang/String")) (t' := .int) (by decide) (by decide)))
  have q23 := q15.other W20 (Or.inr (slot_ne (Or.inr (hw _ (List.mem_of_getElem? (i := 25) rfl))) (Or.inr (hw _ (List.mem_of_getElem? (i := 27) rfl))) (by decide) (t := (.array .byte)) (t' := .int) (by decide) (by decide)))
  have q24 := q16.same W20
  have q25 := q17.other W20 (Or.inr (slot_ne (Or.inr (hw _ (List.mem_of_getElem? (i := 29) rfl))) (Or.inr (hw _ (List.mem_of_getElem? (i := 27) rfl))) (by decide) (t := .int) (t' := .int) (by decide) (by decide)))
  have zz26 := Nat.le_trans zz18 (Nat.le_of_eq W20.size.symm)
  have kk27 : Keep h0 h20 [y0] := kk19.wr W20 (Or.inl (by simp))
  refine g_aloadN X20 hx hby own_d1_19 rfl rfl (pc' := 20) rfl ?_
  refine g_iload X20 hx hby own_d1_20 rfl (pc' := 22) rfl ?_
  refine g_putF X20 hx hby hZ hown (hw _ (List.mem_of_getElem? (i := 28) rfl)) Via.refl q25 q21 (Or.inr ⟨(hw _ (List.mem_of_getElem? (i := 29) rfl)), rfl, hnm⟩) (hw _ (List.mem_of_getElem? (i := 7) rfl)) (ty := .int) (by decide) rfl rfl gn own_d1_22 (pc' := 25) rfl (fun T28 h28 X28 W28 => ?_)
  have q29 := q21.wr W28
  have q30 := q22.other W28 (Or.inr (slot_ne (Or.inr (hw _ (List.mem_of_getElem? (i := 23) rfl))) (Or.inr (hw _ (List.mem_of_getElem? (i := 29) rfl))) (by decide) (t := (.object "java/lang/String")) (t' := .int) (by decide) (by decide)))
  have q31 := q23.other W28 (Or.inr (slot_ne (Or.inr (hw _ (List.mem_of_getElem? (i := 25) rfl))) (Or.inr (hw _ (List.mem_of_getElem? (i := 29) rfl))) (by decide) (t := (.array .byte)) (t' := .int) (by decide) (by decide)))
  have q32 := q24.other W28 (Or.inr (slot_ne (Or.inr (hw _ (List.mem_of_getElem? (i := 27) rfl))) (Or.inr (hw _ (List.mem_of_getElem? (i := 29) rfl))) (by decide) (t := .int) (t' := .int) (by decide) (by decide)))
  have q33 := q25.same W28
  have zz34 := Nat.le_trans zz26 (Nat.le_of_eq W28.size.symm)
  have kk35 : Keep h0 h28 [y0] := kk27.wr W28 (Or.inl (by simp))
  exact g_ret X28 hx hby hret hlk own_d1_25 ⟨rfl, kk35, q31, q32, q33⟩ (by decide) (by decide)
set_option maxRecDepth 65536 in
set_option maxHeartbeats 40000000 in
theorem own_ef36 (m : MethodId) (y0 : Addr) (y1 : Addr) (y2 : Int32)  : entryFrame m #[(.ref y0), (.ref y1), (.int y2)] 3 = mkF m 0 #[.val (.ref y0), .val (.ref y1), .val (.int y2)] [] := by first | (simp [entryFrame, mkF, argsToLocals, Value.category, maxLocals]; done) | rfl
theorem own_d2_0 : decode prog_33_method_4_code 0 = .ok (.aload_n 0, 1) := by decide +kernel
theorem own_d2_1 : decode prog_33_method_4_code 1 = .ok (.getfield 13, 3) := by decide +kernel
theorem own_d2_4 : decode prog_33_method_4_code 4 = .ok (.aload_n 0, 1) := by decide +kernel
theorem own_d2_5 : decode prog_33_method_4_code 5 = .ok (.getfield 17, 3) := by decide +kernel
theorem own_d2_8 : decode prog_33_method_4_code 8 = .ok (.aload_n 1, 1) := by decide +kernel
theorem own_d2_9 : decode prog_33_method_4_code 9 = .ok (.iload_n 2, 1) := by decide +kernel
theorem own_d2_10 : decode prog_33_method_4_code 10 = .ok (.aload_n 0, 1) := by decide +kernel
theorem own_d2_11 : decode prog_33_method_4_code 11 = .ok (.getfield 21, 3) := by decide +kernel
theorem own_d2_14 : decode prog_33_method_4_code 14 = .ok (.invokestatic 24, 3) := by decide +kernel
theorem own_d2_17 : decode prog_33_method_4_code 17 = .ok (.return_, 1) := by decide +kernel
set_option maxRecDepth 65536 in
set_option maxHeartbeats 40000000 in
theorem own_rm3 (l : Launch) (Z : State) (a0 : Array Value) (hw : ∀ d ∈ tables_1, d.before a0 Z = true) (y0 y1 : Addr) (y2 : Int32) (h0 : Heap) (n0 : Nat) (src dst : Int64) (j : Addr) (o n : Int32) (io inn ia : Nat) (e1 : o.toInt = (io : Int)) (e2 : n.toInt = (inn : Int)) (e3 : y2.toInt = (ia : Int)) (h1 : io + inn ≤ 6) (h2 : ia + inn ≤ 6) (F_json : Fld Z h0 y0 "com/example/urutan/urutan/request/Field" "json" "[B" (.ref j)) (F_offset : Fld Z h0 y0 "com/example/urutan/urutan/request/Field" "offset" "I" (.int o)) (F_length : Fld Z h0 y0 "com/example/urutan/urutan/request/Field" "length" "I" (.int n)) (Aj : Ary Z h0 j .byte 6 (fun j => .int (own_b src (Int32.ofNat j)))) (Ad : Ary Z h0 y1 .byte 6 (fun j => .int (own_b dst (Int32.ofNat j)))) (gn : n0 ≤ y1) :
    Ctr l Z (⟨"com/example/urutan/urutan/request/Field", "copyJson", "([BI)V"⟩ : MethodName) prog_33_method_4_code 3 none [] (own_room 1 0 0 40) #[(.ref y0), (.ref y1), (.int y2)] h0 n0 0 0 (fun v h => v = none ∧ Keep h0 h [y1] ∧ Ary Z h y1 .byte 6 (own_cp (fun j => .int (own_b src (Int32.ofNat j))) (fun j => .int (own_b dst (Int32.ofNat j))) io ia inn)) := by
  refine Ctr.of (plainFor_of_name own_pn1) ?_
  intro p e s m below meth c T0 hx hby hml hret hlk hnm hown hZ X0
  rw [own_ef36 m (y0) (y1) (y2)]
  refine g_aloadN X0 hx hby own_d2_0 rfl rfl (pc' := 1) rfl ?_
  refine g_getF X0 hx hby hZ hown (hw _ (List.mem_of_getElem? (i := 24) rfl)) Via.refl F_json own_d2_1 (pc' := 4) rfl (fun T37 X37 => ?_)
  refine g_aloadN X37 hx hby own_d2_4 rfl rfl (pc' := 5) rfl ?_
  refine g_getF X37 hx hby hZ hown (hw _ (List.mem_of_getElem? (i := 26) rfl)) Via.refl F_offset own_d2_5 (pc' := 8) rfl (fun T38 X38 => ?_)
  refine g_aloadN X38 hx hby own_d2_8 rfl rfl (pc' := 9) rfl ?_
  refine g_iloadN X38 hx hby own_d2_9 rfl (pc' := 10) rfl ?_
  refine g_aloadN X38 hx hby own_d2_10 rfl rfl (pc' := 11) rfl ?_
  refine g_getF X38 hx hby hZ hown (hw _ (List.mem_of_getElem? (i := 28) rfl)) Via.refl F_length own_d2_11 (pc' := 14) rfl (fun T39 X39 => ?_)
  refine own_acopy X39 hx hby hZ hown (hw _ (List.mem_of_getElem? (i := 35) rfl)) (hw _ (List.mem_of_getElem? (i := 38) rfl)) (hw _ (List.mem_of_getElem? (i := 36) rfl)) (hw _ (List.mem_of_getElem? (i := 37) rfl)) Aj Ad (fun i _ => own_fit _ _) (fun i _ => own_fit _ _) e1 e3 e2 h1 h2 gn (by rw [hml]; rfl) own_d2_14 (by decide) (W := 0) (by exact Nat.le_of_eq rfl) (by decide) (pc' := 17) rfl (fun T40 h40 X40 K40 A40 => ?_)
  exact g_ret X40 hx hby hret hlk own_d2_17 ⟨rfl, K40, A40⟩ (by decide) (by decide)
set_option maxRecDepth 65536 in
set_option maxHeartbeats 40000000 in
theorem own_ef41 (m : MethodId) (y0 : Addr) (y1 : Int64) (y2 : Int64) (y3 : Int32) (y4 : Int32) (y5 : Int32) (y6 : Int32)  : entryFrame m #[(.ref y0), (.long y1), (.long y2), (.int y3), (.int y4), (.int y5), (.int y6)] 10 = mkF m 0 #[.val (.ref y0), .val (.long y1), .second, .val (.long y2), .second, .val (.int y3), .val (.int y4), .val (.int y5), .val (.int y6), .unset] [] := by first | (simp [entryFrame, mkF, argsToLocals, Value.category, maxLocals]; done) | rfl
theorem own_d3_0 : decode method_4_code 0 = .ok (.iload 8, 2) := by decide +kernel
theorem own_d3_2 : decode method_4_code 2 = .ok (.iload 7, 2) := by decide +kernel
theorem own_d3_4 : decode method_4_code 4 = .ok (.if_icmp .lt 30, 3) := by decide +kernel
theorem own_d3_34 : decode method_4_code 34 = .ok (.lload_n 3, 1) := by decide +kernel
theorem own_d3_35 : decode method_4_code 35 = .ok (.iload 8, 2) := by decide +kernel
theorem own_d3_37 : decode method_4_code 37 = .ok (.invokestatic 8, 3) := by decide +kernel
theorem own_pd0 : parseMethodDescriptor "(JI)B" = some ⟨[.long, .int], (some .byte)⟩ := by decide +kernel
theorem own_d3_40 : decode method_4_code 40 = .ok (.istore 9, 2) := by decide +kernel
theorem own_d3_42 : decode method_4_code 42 = .ok (.aload_n 0, 1) := by decide +kernel
theorem own_d3_43 : decode method_4_code 43 = .ok (.iload 8, 2) := by decide +kernel
theorem own_d3_45 : decode method_4_code 45 = .ok (.baload, 1) := by decide +kernel
theorem own_d3_46 : decode method_4_code 46 = .ok (.iload 9, 2) := by decide +kernel
theorem own_d3_48 : decode method_4_code 48 = .ok (.if_icmp .ne 7, 3) := by decide +kernel
theorem own_d3_51 : decode method_4_code 51 = .ok (.iconst 1, 1) := by decide +kernel
theorem own_d3_52 : decode method_4_code 52 = .ok (.goto 4, 3) := by decide +kernel
theorem own_d3_56 : decode method_4_code 56 = .ok (.ireturn, 1) := by decide +kernel
theorem own_d3_7 : decode method_4_code 7 = .ok (.iload 8, 2) := by decide +kernel
theorem own_d3_9 : decode method_4_code 9 = .ok (.iload 7, 2) := by decide +kernel
theorem own_d3_11 : decode method_4_code 11 = .ok (.iload 6, 2) := by decide +kernel
theorem own_d3_13 : decode method_4_code 13 = .ok (.iadd, 1) := by decide +kernel
theorem own_d3_14 : decode method_4_code 14 = .ok (.if_icmp .ge 20, 3) := by decide +kernel
theorem own_d3_17 : decode method_4_code 17 = .ok (.lload_n 1, 1) := by decide +kernel
theorem own_d3_18 : decode method_4_code 18 = .ok (.iload 5, 2) := by decide +kernel
theorem own_d3_20 : decode method_4_code 20 = .ok (.iload 8, 2) := by decide +kernel
theorem own_d3_22 : decode method_4_code 22 = .ok (.iload 7, 2) := by decide +kernel
theorem own_d3_24 : decode method_4_code 24 = .ok (.isub, 1) := by decide +kernel
theorem own_d3_25 : decode method_4_code 25 = .ok (.iadd, 1) := by decide +kernel
theorem own_d3_26 : decode method_4_code 26 = .ok (.invokestatic 8, 3) := by decide +kernel
theorem own_d3_29 : decode method_4_code 29 = .ok (.istore 9, 2) := by decide +kernel
theorem own_d3_31 : decode method_4_code 31 = .ok (.goto 11, 3) := by decide +kernel
set_option maxRecDepth 65536 in
set_option maxHeartbeats 40000000 in
theorem own_rm4 (l : Launch) (Z : State) (a0 : Array Value) (hw : ∀ d ∈ tables_1, d.before a0 Z = true) (y0 : Addr) (y1 y2 : Int64) (y3 y4 y5 y6 : Int32) (h0 : Heap) (n0 : Nat) (k : Nat) (f : Nat → Value) (A : Ary Z h0 y0 .byte 6 f) (hk : y6.toInt = (k : Int)) (h6 : k < 6) (hv : f k = .int (own_ex y1 y2 y3 y4 y5 y6)) :
    Ctr l Z (⟨"com/example/urutan/urutan/request/FieldCopyJsonPinLaw", "ok", "([BJJIIII)Z"⟩ : MethodName) method_4_code 10 (some .boolean) [] (own_room 1 0 0 20) #[(.ref y0), (.long y1), (.long y2), (.int y3), (.int y4), (.int y5), (.int y6)] h0 n0 0 0 (fun v h => v = some (.int 1) ∧ h = h0) := by
  refine Ctr.of (plainFor_of_name own_pn0) ?_
  intro p e s m below meth c T0 hx hby hml hret hlk hnm hown hZ X0
  rw [own_ef41 m (y0) (y1) (y2) (y3) (y4) (y5) (y6)]
  refine g_iload X0 hx hby own_d3_0 rfl (pc' := 2) rfl ?_
  refine g_iload X0 hx hby own_d3_2 rfl (pc' := 4) rfl ?_
  refine g_icmp_lt X0 hx hby own_d3_4 (by decide) (pc' := 34) (by decide) (pc2 := 7) rfl (fun c4_42 => ?_) (fun c4_42 => ?_)
  · refine g_lloadN X0 hx hby own_d3_34 rfl (pc' := 35) rfl ?_
    refine g_iload X0 hx hby own_d3_35 rfl (pc' := 37) rfl ?_
    refine g_callS (argsL := [(.long y2), (.int y6)]) (S := []) X0 hx hby hZ (y := (⟨"com/example/urutan/urutan/request/FieldCopyJsonPinLaw", "b", "(JI)B"⟩ : MethodName)) hown (hw _ (List.mem_of_getElem? (i := 2) rfl)) (hw _ (List.mem_of_getElem? (i := 3) rfl)) (hw _ (List.mem_of_getElem? (i := 4) rfl)) (hw _ (List.mem_of_getElem? (i := 5) rfl)) (by decide) (own_rm1 l Z a0 hw (y2) (y6) h0 n0) (by rw [hml]; rfl) (lenOf own_pd0 rfl) rfl own_d3_37 (by decide) (W := 0) (by exact Nat.le_of_eq rfl) (by decide) (by decide) (by decide) (pc' := 40) rfl (fun T43 v43 X43 hQ43 => ?_)
    obtain ⟨rfl, e43⟩ := hQ43
    rw [e43] at X43
    show Gl p e below n0 _ _ (T43.setTop (mkF m 40 #[.val (.ref y0), .val (.long y1), .second, .val (.long y2), .second, .val (.int y3), .val (.int y4), .val (.int y5), .val (.int y6), .unset] [(.int (own_b y2 y6))]))
    refine g_istore (L' := #[.val (.ref y0), .val (.long y1), .second, .val (.long y2), .second, .val (.int y3), .val (.int y4), .val (.int y5), .val (.int y6), .val (.int (own_b y2 y6))]) X43 hx hby own_d3_40 rfl (pc' := 42) rfl ?_
    refine g_aloadN X43 hx hby own_d3_42 rfl rfl (pc' := 43) rfl ?_
    refine g_iload X43 hx hby own_d3_43 rfl (pc' := 45) rfl ?_
    refine g_baload (i := k) (v := (.int (own_ex y1 y2 y3 y4 y5 y6))) X43 hx hby hZ A hk h6 hv own_d3_45 (pc' := 46) rfl ?_
    refine g_iload X43 hx hby own_d3_46 rfl (pc' := 48) rfl ?_
    refine g_icmp_ne X43 hx hby own_d3_48 (by decide) (pc' := 55) (by decide) (pc2 := 51) rfl (fun q => absurd (show own_ex y1 y2 y3 y4 y5 y6 = (own_b y2 y6) by simp only [own_ex, c4_42, if_true, if_false]) q) (fun c48_44 => ?_)
    refine g_iconst (v := 1) X43 hx hby own_d3_51 rfl (pc' := 52) rfl ?_
    refine g_goto X43 hx hby own_d3_52 (by decide) (pc' := 56) (by decide) ?_
    exact g_retN X43 hx hby hret hlk (by simp) own_d3_56 ⟨rfl, rfl⟩ (by decide) (by decide)
  · refine g_iload X0 hx hby own_d3_7 rfl (pc' := 9) rfl ?_
    refine g_iload X0 hx hby own_d3_9 rfl (pc' := 11) rfl ?_
    refine g_iload X0 hx hby own_d3_11 rfl (pc' := 13) rfl ?_
    refine g_iadd X0 hx hby own_d3_13 (pc' := 14) rfl ?_
    refine g_icmp_ge X0 hx hby own_d3_14 (by decide) (pc' := 34) (by decide) (pc2 := 17) rfl (fun c14_45 => ?_) (fun c14_45 => ?_)
    · refine g_lloadN X0 hx hby own_d3_34 rfl (pc' := 35) rfl ?_
      refine g_iload X0 hx hby own_d3_35 rfl (pc' := 37) rfl ?_
      refine g_callS (argsL := [(.long y2), (.int y6)]) (S := []) X0 hx hby hZ (y := (⟨"com/example/urutan/urutan/request/FieldCopyJsonPinLaw", "b", "(JI)B"⟩ : MethodName)) hown (hw _ (List.mem_of_getElem? (i := 2) rfl)) (hw _ (List.mem_of_getElem? (i := 3) rfl)) (hw _ (List.mem_of_getElem? (i := 4) rfl)) (hw _ (List.mem_of_getElem? (i := 5) rfl)) (by decide) (own_rm1 l Z a0 hw (y2) (y6) h0 n0) (by rw [hml]; rfl) (lenOf own_pd0 rfl) rfl own_d3_37 (by decide) (W := 0) (by exact Nat.le_of_eq rfl) (by decide) (by decide) (by decide) (pc' := 40) rfl (fun T46 v46 X46 hQ46 => ?_)
      obtain ⟨rfl, e46⟩ := hQ46
      rw [e46] at X46
      show Gl p e below n0 _ _ (T46.setTop (mkF m 40 #[.val (.ref y0), .val (.long y1), .second, .val (.long y2), .second, .val (.int y3), .val (.int y4), .val (.int y5), .val (.int y6), .unset] [(.int (own_b y2 y6))]))
      refine g_istore (L' := #[.val (.ref y0), .val (.long y1), .second, .val (.long y2), .second, .val (.int y3), .val (.int y4), .val (.int y5), .val (.int y6), .val (.int (own_b y2 y6))]) X46 hx hby own_d3_40 rfl (pc' := 42) rfl ?_
      refine g_aloadN X46 hx hby own_d3_42 rfl rfl (pc' := 43) rfl ?_
      refine g_iload X46 hx hby own_d3_43 rfl (pc' := 45) rfl ?_
      refine g_baload (i := k) (v := (.int (own_ex y1 y2 y3 y4 y5 y6))) X46 hx hby hZ A hk h6 hv own_d3_45 (pc' := 46) rfl ?_
      refine g_iload X46 hx hby own_d3_46 rfl (pc' := 48) rfl ?_
      refine g_icmp_ne X46 hx hby own_d3_48 (by decide) (pc' := 55) (by decide) (pc2 := 51) rfl (fun q => absurd (show own_ex y1 y2 y3 y4 y5 y6 = (own_b y2 y6) by simp only [own_ex, c4_42, c14_45, if_true, if_false]) q) (fun c48_47 => ?_)
      refine g_iconst (v := 1) X46 hx hby own_d3_51 rfl (pc' := 52) rfl ?_
      refine g_goto X46 hx hby own_d3_52 (by decide) (pc' := 56) (by decide) ?_
      exact g_retN X46 hx hby hret hlk (by simp) own_d3_56 ⟨rfl, rfl⟩ (by decide) (by decide)
    · refine g_lloadN X0 hx hby own_d3_17 rfl (pc' := 18) rfl ?_
      refine g_iload X0 hx hby own_d3_18 rfl (pc' := 20) rfl ?_
      refine g_iload X0 hx hby own_d3_20 rfl (pc' := 22) rfl ?_
      refine g_iload X0 hx hby own_d3_22 rfl (pc' := 24) rfl ?_
      refine g_isub X0 hx hby own_d3_24 (pc' := 25) rfl ?_
      refine g_iadd X0 hx hby own_d3_25 (pc' := 26) rfl ?_
      refine g_callS (argsL := [(.long y1), (.int (y3 + (y6 - y5)))]) (S := []) X0 hx hby hZ (y := (⟨"com/example/urutan/urutan/request/FieldCopyJsonPinLaw", "b", "(JI)B"⟩ : MethodName)) hown (hw _ (List.mem_of_getElem? (i := 2) rfl)) (hw _ (List.mem_of_getElem? (i := 3) rfl)) (hw _ (List.mem_of_getElem? (i := 4) rfl)) (hw _ (List.mem_of_getElem? (i := 5) rfl)) (by decide) (own_rm1 l Z a0 hw (y1) ((y3 + (y6 - y5))) h0 n0) (by rw [hml]; rfl) (lenOf own_pd0 rfl) rfl own_d3_26 (by decide) (W := 0) (by exact Nat.le_of_eq rfl) (by decide) (by decide) (by decide) (pc' := 29) rfl (fun T48 v48 X48 hQ48 => ?_)
      obtain ⟨rfl, e48⟩ := hQ48
      rw [e48] at X48
      show Gl p e below n0 _ _ (T48.setTop (mkF m 29 #[.val (.ref y0), .val (.long y1), .second, .val (.long y2), .second, .val (.int y3), .val (.int y4), .val (.int y5), .val (.int y6), .unset] [(.int (own_b y1 (y3 + (y6 - y5))))]))
      refine g_istore (L' := #[.val (.ref y0), .val (.long y1), .second, .val (.long y2), .second, .val (.int y3), .val (.int y4), .val (.int y5), .val (.int y6), .val (.int (own_b y1 (y3 + (y6 - y5))))]) X48 hx hby own_d3_29 rfl (pc' := 31) rfl ?_
      refine g_goto X48 hx hby own_d3_31 (by decide) (pc' := 42) (by decide) ?_
      refine g_aloadN X48 hx hby own_d3_42 rfl rfl (pc' := 43) rfl ?_
      refine g_iload X48 hx hby own_d3_43 rfl (pc' := 45) rfl ?_
      refine g_baload (i := k) (v := (.int (own_ex y1 y2 y3 y4 y5 y6))) X48 hx hby hZ A hk h6 hv own_d3_45 (pc' := 46) rfl ?_
      refine g_iload X48 hx hby own_d3_46 rfl (pc' := 48) rfl ?_
      refine g_icmp_ne X48 hx hby own_d3_48 (by decide) (pc' := 55) (by decide) (pc2 := 51) rfl (fun q => absurd (show own_ex y1 y2 y3 y4 y5 y6 = (own_b y1 (y3 + (y6 - y5))) by simp only [own_ex, c4_42, c14_45, if_true, if_false]) q) (fun c48_49 => ?_)
      refine g_iconst (v := 1) X48 hx hby own_d3_51 rfl (pc' := 52) rfl ?_
      refine g_goto X48 hx hby own_d3_52 (by decide) (pc' := 56) (by decide) ?_
      exact g_retN X48 hx hby hret hlk (by simp) own_d3_56 ⟨rfl, rfl⟩ (by decide) (by decide)
set_option maxRecDepth 65536 in
set_option maxHeartbeats 40000000 in
theorem own_ef50 (m : MethodId) (y0 : Int64) (y1 : Int64) (y2 : Int32) (y3 : Int32) (y4 : Int32)  : entryFrame m #[(.long y0), (.long y1), (.int y2), (.int y3), (.int y4)] maxLocals = mkF m 0 #[.val (.long y0), .second, .val (.long y1), .second, .val (.int y2), .val (.int y3), .val (.int y4), .unset, .unset, .unset, .unset, .unset, .unset] [] := by first | (simp [entryFrame, mkF, argsToLocals, Value.category, maxLocals]; done) | rfl
theorem own_pd1 : parseMethodDescriptor "(Ljava/lang/String;[BII)V" = some ⟨[(.object "java/lang/String"), (.array .byte), .int, .int], none⟩ := by decide +kernel
theorem own_pd2 : parseMethodDescriptor "([BI)V" = some ⟨[(.array .byte), .int], none⟩ := by decide +kernel
theorem own_pd3 : parseMethodDescriptor "([BJJIIII)Z" = some ⟨[(.array .byte), .long, .long, .int, .int, .int, .int], (some .boolean)⟩ := by decide +kernel
set_option maxRecDepth 65536 in
set_option maxHeartbeats 40000000 in
theorem own_rm0 (l : Launch) (Z : State) (a0 : Array Value) (hw : ∀ d ∈ tables_1, d.before a0 Z = true) (y0 y1 : Int64) (y2 y3 y4 : Int32) (h0 : Heap) (n0 : Nat) (Z0 : n0 ≤ h0.size) :
    CtrW l Z x code maxLocals ret tables_1 room_1 #[(.long y0), (.long y1), (.int y2), (.int y3), (.int y4)] h0 n0 5 24 (fun v h => v = some (.int 1)) := by
  refine CtrW.of (plainFor_of_name own_pn0) ?_
  intro p e s m below meth c T0 hx hby hml hret hlk hnm hown hZ X0 hS
  rw [own_ef50 m (y0) (y1) (y2) (y3) (y4)]
  refine g_iload X0 hx hby at_0 rfl (pc' := 2) rfl ?_
  refine g_ldc X0 hx hby hZ hown (hw _ (List.mem_of_getElem? (i := 0) rfl)) at_2 (pc' := 4) rfl ?_
  refine g_iand X0 hx hby at_4 (pc' := 5) rfl ?_
  refine g_bipush (v := 7) X0 hx hby at_5 rfl (pc' := 7) rfl ?_
  refine g_irem X0 hx hby at_7 (by decide) (pc' := 8) rfl ?_
  refine g_istore (L' := #[.val (.long y0), .second, .val (.long y1), .second, .val (.int y2), .val (.int y3), .val (.int y4), .val (.int ((y2 &&& (2147483647 : Int32)) % (7 : Int32))), .unset, .unset, .unset, .unset, .unset]) X0 hx hby at_8 rfl (pc' := 10) rfl ?_
  obtain ⟨z51, hz51⟩ : ∃ z, z = ((y2 &&& (2147483647 : Int32)) % (7 : Int32)) := ⟨_, rfl⟩
  rw [← hz51]
  have ho : 0 ≤ z51.toInt ∧ z51.toInt ≤ 6 := by rw [hz51]; exact own_off y2
  refine g_iload X0 hx hby at_10 rfl (pc' := 12) rfl ?_
  refine g_ldc X0 hx hby hZ hown (hw _ (List.mem_of_getElem? (i := 0) rfl)) at_12 (pc' := 14) rfl ?_
  refine g_iand X0 hx hby at_14 (pc' := 15) rfl ?_
  refine g_bipush (v := 7) X0 hx hby at_15 rfl (pc' := 17) rfl ?_
  refine g_iload X0 hx hby at_17 rfl (pc' := 19) rfl ?_
  refine g_isub X0 hx hby at_19 (pc' := 20) rfl ?_
  refine g_irem X0 hx hby at_20 (own_seven_nz ho) (pc' := 21) rfl ?_
  refine g_istore (L' := #[.val (.long y0), .second, .val (.long y1), .second, .val (.int y2), .val (.int y3), .val (.int y4), .val (.int z51), .val (.int ((y3 &&& (2147483647 : Int32)) % ((7 : Int32) - z51))), .unset, .unset, .unset, .unset]) X0 hx hby at_21 rfl (pc' := 23) rfl ?_
  obtain ⟨z52, hz52⟩ : ∃ z, z = ((y3 &&& (2147483647 : Int32)) % ((7 : Int32) - z51)) := ⟨_, rfl⟩
  rw [← hz52]
  have hl : 0 ≤ z52.toInt ∧ z51.toInt + z52.toInt ≤ 6 := by rw [hz52]; exact own_len y3 ho
  have hl' : 0 ≤ z52.toInt ∧ z52.toInt ≤ 6 := ⟨hl.1, by omega⟩
  refine g_iload X0 hx hby at_23 rfl (pc' := 25) rfl ?_
  refine g_ldc X0 hx hby hZ hown (hw _ (List.mem_of_getElem? (i := 0) rfl)) at_25 (pc' := 27) rfl ?_
  refine g_iand X0 hx hby at_27 (pc' := 28) rfl ?_
  refine g_bipush (v := 7) X0 hx hby at_28 rfl (pc' := 30) rfl ?_
  refine g_iload X0 hx hby at_30 rfl (pc' := 32) rfl ?_
  refine g_isub X0 hx hby at_32 (pc' := 33) rfl ?_
  refine g_irem X0 hx hby at_33 (own_seven_nz hl') (pc' := 34) rfl ?_
  refine g_istore (L' := #[.val (.long y0), .second, .val (.long y1), .second, .val (.int y2), .val (.int y3), .val (.int y4), .val (.int z51), .val (.int z52), .val (.int ((y4 &&& (2147483647 : Int32)) % ((7 : Int32) - z52))), .unset, .unset, .unset]) X0 hx hby at_34 rfl (pc' := 36) rfl ?_
  obtain ⟨z53, hz53⟩ : ∃ z, z = ((y4 &&& (2147483647 : Int32)) % ((7 : Int32) - z52)) := ⟨_, rfl⟩
  rw [← hz53]
  have hat : 0 ≤ z53.toInt ∧ z52.toInt + z53.toInt ≤ 6 := by rw [hz53]; exact own_len y4 hl'
  refine g_bipush (v := 6) X0 hx hby at_36 rfl (pc' := 38) rfl ?_
  refine g_newarray (k := 6) (cap := 6) X0 hx hby hZ (hw _ (List.mem_of_getElem? (i := 1) rfl)) at_38 rfl (by decide) (by decide) (by decide) (by decide) (pc' := 40) rfl (fun T54 h54 b54 g54 X54 E54 A54 => ?_)
  have nn55 : n0 ≤ b54 := by rw [g54]; exact Z0
  have hh56 : h0.size ≤ b54 := by rw [g54]; exact (Keep.refl h0 []).1
  have hk57 := Nat.le_trans (Nat.le_refl _) E54.1
  have zz58 := Nat.le_trans Z0 E54.1
  have kk59 : Keep h0 h54 [] := (Keep.refl h0 []).ext E54
  refine g_astore (L' := #[.val (.long y0), .second, .val (.long y1), .second, .val (.int y2), .val (.int y3), .val (.int y4), .val (.int z51), .val (.int z52), .val (.int z53), .val (.ref b54), .unset, .unset]) X54 hx hby at_40 rfl rfl (pc' := 42) rfl ?_
  refine g_aload X54 hx hby at_42 rfl rfl (pc' := 44) rfl ?_
  refine g_iconst (v := 0) X54 hx hby at_44 rfl (pc' := 45) rfl ?_
  refine g_lloadN X54 hx hby at_45 rfl (pc' := 46) rfl ?_
  refine g_iconst (v := 0) X54 hx hby at_46 rfl (pc' := 47) rfl ?_
  refine g_callS (argsL := [(.long y0), (.int (0 : Int32))]) (S := [(.int (0 : Int32)), (.ref b54)]) X54 hx hby hZ (y := (⟨"com/example/urutan/urutan/request/FieldCopyJsonPinLaw", "b", "(JI)B"⟩ : MethodName)) hown (hw _ (List.mem_of_getElem? (i := 2) rfl)) (hw _ (List.mem_of_getElem? (i := 3) rfl)) (hw _ (List.mem_of_getElem? (i := 4) rfl)) (hw _ (List.mem_of_getElem? (i := 5) rfl)) (by decide) (own_rm1 l Z a0 hw (y0) ((0 : Int32)) h54 n0) (by rw [hml]; rfl) (lenOf own_pd0 rfl) rfl at_47 (by decide) (W := 2) (by exact Nat.le_of_eq rfl) (by decide) (by decide) (by decide) (pc' := 50) rfl (fun T60 v60 X60 hQ60 => ?_)
  obtain ⟨rfl, e60⟩ := hQ60
  rw [e60] at X60
  show Gl p e below n0 _ _ (T60.setTop (mkF m 50 #[.val (.long y0), .second, .val (.long y1), .second, .val (.int y2), .val (.int y3), .val (.int y4), .val (.int z51), .val (.int z52), .val (.int z53), .val (.ref b54), .unset, .unset] [(.int (own_b y0 (0 : Int32))), (.int (0 : Int32)), (.ref b54)]))
  refine g_bastore (i := 0) X60 hx hby hZ A54 rfl (by decide) nn55 at_50 (pc' := 51) rfl (fun T61 h61 sl61 X61 W61 A61 => ?_)
  have zz62 := Nat.le_trans zz58 (Nat.le_of_eq W61.size.symm)
  have hk63 := Nat.le_trans hk57 (Nat.le_of_eq W61.size.symm)
  have kk64 : Keep h0 h61 [] := kk59.wr W61 (Or.inr hh56)
  refine g_aload X61 hx hby at_51 rfl rfl (pc' := 53) rfl ?_
  refine g_iconst (v := 1) X61 hx hby at_53 rfl (pc' := 54) rfl ?_
  refine g_lloadN X61 hx hby at_54 rfl (pc' := 55) rfl ?_
  refine g_iconst (v := 1) X61 hx hby at_55 rfl (pc' := 56) rfl ?_
  refine g_callS (argsL := [(.long y0), (.int (1 : Int32))]) (S := [(.int (1 : Int32)), (.ref b54)]) X61 hx hby hZ (y := (⟨"com/example/urutan/urutan/request/FieldCopyJsonPinLaw", "b", "(JI)B"⟩ : MethodName)) hown (hw _ (List.mem_of_getElem? (i := 2) rfl)) (hw _ (List.mem_of_getElem? (i := 3) rfl)) (hw _ (List.mem_of_getElem? (i := 4) rfl)) (hw _ (List.mem_of_getElem? (i := 5) rfl)) (by decide) (own_rm1 l Z a0 hw (y0) ((1 : Int32)) h61 n0) (by rw [hml]; rfl) (lenOf own_pd0 rfl) rfl at_56 (by decide) (W := 2) (by exact Nat.le_of_eq rfl) (by decide) (by decide) (by decide) (pc' := 59) rfl (fun T65 v65 X65 hQ65 => ?_)
  obtain ⟨rfl, e65⟩ := hQ65
  rw [e65] at X65
  show Gl p e below n0 _ _ (T65.setTop (mkF m 59 #[.val (.long y0), .second, .val (.long y1), .second, .val (.int y2), .val (.int y3), .val (.int y4), .val (.int z51), .val (.int z52), .val (.int z53), .val (.ref b54), .unset, .unset] [(.int (own_b y0 (1 : Int32))), (.int (1 : Int32)), (.ref b54)]))
  refine g_bastore (i := 1) X65 hx hby hZ A61 rfl (by decide) nn55 at_59 (pc' := 60) rfl (fun T66 h66 sl66 X66 W66 A66 => ?_)
  have zz67 := Nat.le_trans zz62 (Nat.le_of_eq W66.size.symm)
  have hk68 := Nat.le_trans hk63 (Nat.le_of_eq W66.size.symm)
  have kk69 : Keep h0 h66 [] := kk64.wr W66 (Or.inr hh56)
  refine g_aload X66 hx hby at_60 rfl rfl (pc' := 62) rfl ?_
  refine g_iconst (v := 2) X66 hx hby at_62 rfl (pc' := 63) rfl ?_
  refine g_lloadN X66 hx hby at_63 rfl (pc' := 64) rfl ?_
  refine g_iconst (v := 2) X66 hx hby at_64 rfl (pc' := 65) rfl ?_
  refine g_callS (argsL := [(.long y0), (.int (2 : Int32))]) (S := [(.int (2 : Int32)), (.ref b54)]) X66 hx hby hZ (y := (⟨"com/example/urutan/urutan/request/FieldCopyJsonPinLaw", "b", "(JI)B"⟩ : MethodName)) hown (hw _ (List.mem_of_getElem? (i := 2) rfl)) (hw _ (List.mem_of_getElem? (i := 3) rfl)) (hw _ (List.mem_of_getElem? (i := 4) rfl)) (hw _ (List.mem_of_getElem? (i := 5) rfl)) (by decide) (own_rm1 l Z a0 hw (y0) ((2 : Int32)) h66 n0) (by rw [hml]; rfl) (lenOf own_pd0 rfl) rfl at_65 (by decide) (W := 2) (by exact Nat.le_of_eq rfl) (by decide) (by decide) (by decide) (pc' := 68) rfl (fun T70 v70 X70 hQ70 => ?_)
  obtain ⟨rfl, e70⟩ := hQ70
  rw [e70] at X70
  show Gl p e below n0 _ _ (T70.setTop (mkF m 68 #[.val (.long y0), .second, .val (.long y1), .second, .val (.int y2), .val (.int y3), .val (.int y4), .val (.int z51), .val (.int z52), .val (.int z53), .val (.ref b54), .unset, .unset] [(.int (own_b y0 (2 : Int32))), (.int (2 : Int32)), (.ref b54)]))
  refine g_bastore (i := 2) X70 hx hby hZ A66 rfl (by decide) nn55 at_68 (pc' := 69) rfl (fun T71 h71 sl71 X71 W71 A71 => ?_)
  have zz72 := Nat.le_trans zz67 (Nat.le_of_eq W71.size.symm)
  have hk73 := Nat.le_trans hk68 (Nat.le_of_eq W71.size.symm)
  have kk74 : Keep h0 h71 [] := kk69.wr W71 (Or.inr hh56)
  refine g_aload X71 hx hby at_69 rfl rfl (pc' := 71) rfl ?_
  refine g_iconst (v := 3) X71 hx hby at_71 rfl (pc' := 72) rfl ?_
  refine g_lloadN X71 hx hby at_72 rfl (pc' := 73) rfl ?_
  refine g_iconst (v := 3) X71 hx hby at_73 rfl (pc' := 74) rfl ?_
  refine g_callS (argsL := [(.long y0), (.int (3 : Int32))]) (S := [(.int (3 : Int32)), (.ref b54)]) X71 hx hby hZ (y := (⟨"com/example/urutan/urutan/request/FieldCopyJsonPinLaw", "b", "(JI)B"⟩ : MethodName)) hown (hw _ (List.mem_of_getElem? (i := 2) rfl)) (hw _ (List.mem_of_getElem? (i := 3) rfl)) (hw _ (List.mem_of_getElem? (i := 4) rfl)) (hw _ (List.mem_of_getElem? (i := 5) rfl)) (by decide) (own_rm1 l Z a0 hw (y0) ((3 : Int32)) h71 n0) (by rw [hml]; rfl) (lenOf own_pd0 rfl) rfl at_74 (by decide) (W := 2) (by exact Nat.le_of_eq rfl) (by decide) (by decide) (by decide) (pc' := 77) rfl (fun T75 v75 X75 hQ75 => ?_)
  obtain ⟨rfl, e75⟩ := hQ75
  rw [e75] at X75
  show Gl p e below n0 _ _ (T75.setTop (mkF m 77 #[.val (.long y0), .second, .val (.long y1), .second, .val (.int y2), .val (.int y3), .val (.int y4), .val (.int z51), .val (.int z52), .val (.int z53), .val (.ref b54), .unset, .unset] [(.int (own_b y0 (3 : Int32))), (.int (3 : Int32)), (.ref b54)]))
  refine g_bastore (i := 3) X75 hx hby hZ A71 rfl (by decide) nn55 at_77 (pc' := 78) rfl (fun T76 h76 sl76 X76 W76 A76 => ?_)
  have zz77 := Nat.le_trans zz72 (Nat.le_of_eq W76.size.symm)
  have hk78 := Nat.le_trans hk73 (Nat.le_of_eq W76.size.symm)
  have kk79 : Keep h0 h76 [] := kk74.wr W76 (Or.inr hh56)
  refine g_aload X76 hx hby at_78 rfl rfl (pc' := 80) rfl ?_
  refine g_iconst (v := 4) X76 hx hby at_80 rfl (pc' := 81) rfl ?_
  refine g_lloadN X76 hx hby at_81 rfl (pc' := 82) rfl ?_
  refine g_iconst (v := 4) X76 hx hby at_82 rfl (pc' := 83) rfl ?_
  refine g_callS (argsL := [(.long y0), (.int (4 : Int32))]) (S := [(.int (4 : Int32)), (.ref b54)]) X76 hx hby hZ (y := (⟨"com/example/urutan/urutan/request/FieldCopyJsonPinLaw", "b", "(JI)B"⟩ : MethodName)) hown (hw _ (List.mem_of_getElem? (i := 2) rfl)) (hw _ (List.mem_of_getElem? (i := 3) rfl)) (hw _ (List.mem_of_getElem? (i := 4) rfl)) (hw _ (List.mem_of_getElem? (i := 5) rfl)) (by decide) (own_rm1 l Z a0 hw (y0) ((4 : Int32)) h76 n0) (by rw [hml]; rfl) (lenOf own_pd0 rfl) rfl at_83 (by decide) (W := 2) (by exact Nat.le_of_eq rfl) (by decide) (by decide) (by decide) (pc' := 86) rfl (fun T80 v80 X80 hQ80 => ?_)
  obtain ⟨rfl, e80⟩ := hQ80
  rw [e80] at X80
  show Gl p e below n0 _ _ (T80.setTop (mkF m 86 #[.val (.long y0), .second, .val (.long y1), .second, .val (.int y2), .val (.int y3), .val (.int y4), .val (.int z51), .val (.int z52), .val (.int z53), .val (.ref b54), .unset, .unset] [(.int (own_b y0 (4 : Int32))), (.int (4 : Int32)), (.ref b54)]))
  refine g_bastore (i := 4) X80 hx hby hZ A76 rfl (by decide) nn55 at_86 (pc' := 87) rfl (fun T81 h81 sl81 X81 W81 A81 => ?_)
  have zz82 := Nat.le_trans zz77 (Nat.le_of_eq W81.size.symm)
  have hk83 := Nat.le_trans hk78 (Nat.le_of_eq W81.size.symm)
  have kk84 : Keep h0 h81 [] := kk79.wr W81 (Or.inr hh56)
  refine g_aload X81 hx hby at_87 rfl rfl (pc' := 89) rfl ?_
  refine g_iconst (v := 5) X81 hx hby at_89 rfl (pc' := 90) rfl ?_
  refine g_lloadN X81 hx hby at_90 rfl (pc' := 91) rfl ?_
  refine g_iconst (v := 5) X81 hx hby at_91 rfl (pc' := 92) rfl ?_
  refine g_callS (argsL := [(.long y0), (.int (5 : Int32))]) (S := [(.int (5 : Int32)), (.ref b54)]) X81 hx hby hZ (y := (⟨"com/example/urutan/urutan/request/FieldCopyJsonPinLaw", "b", "(JI)B"⟩ : MethodName)) hown (hw _ (List.mem_of_getElem? (i := 2) rfl)) (hw _ (List.mem_of_getElem? (i := 3) rfl)) (hw _ (List.mem_of_getElem? (i := 4) rfl)) (hw _ (List.mem_of_getElem? (i := 5) rfl)) (by decide) (own_rm1 l Z a0 hw (y0) ((5 : Int32)) h81 n0) (by rw [hml]; rfl) (lenOf own_pd0 rfl) rfl at_92 (by decide) (W := 2) (by exact Nat.le_of_eq rfl) (by decide) (by decide) (by decide) (pc' := 95) rfl (fun T85 v85 X85 hQ85 => ?_)
  obtain ⟨rfl, e85⟩ := hQ85
  rw [e85] at X85
  show Gl p e below n0 _ _ (T85.setTop (mkF m 95 #[.val (.long y0), .second, .val (.long y1), .second, .val (.int y2), .val (.int y3), .val (.int y4), .val (.int z51), .val (.int z52), .val (.int z53), .val (.ref b54), .unset, .unset] [(.int (own_b y0 (5 : Int32))), (.int (5 : Int32)), (.ref b54)]))
  refine g_bastore (i := 5) X85 hx hby hZ A81 rfl (by decide) nn55 at_95 (pc' := 96) rfl (fun T86 h86 sl86 X86 W86 A86 => ?_)
  have zz87 := Nat.le_trans zz82 (Nat.le_of_eq W86.size.symm)
  have hk88 := Nat.le_trans hk83 (Nat.le_of_eq W86.size.symm)
  have kk89 : Keep h0 h86 [] := kk84.wr W86 (Or.inr hh56)
  have AG90 : Ary Z h86 b54 .byte 6 (fun j => .int (own_b y0 (Int32.ofNat j))) := by
    refine A86.congr fun i hi => ?_
    have h8 : i = 0 ∨ i = 1 ∨ i = 2 ∨ i = 3 ∨ i = 4 ∨ i = 5 := by omega
    rcases h8 with rfl | rfl | rfl | rfl | rfl | rfl <;> exact congrArg Value.int (own_nar _ _)
  refine g_bipush (v := 6) X86 hx hby at_96 rfl (pc' := 98) rfl ?_
  refine g_newarray (k := 6) (cap := 6) X86 hx hby hZ (hw _ (List.mem_of_getElem? (i := 1) rfl)) at_98 rfl (by decide) (by decide) (by decide) (by decide) (pc' := 100) rfl (fun T91 h91 b91 g91 X91 E91 A91 => ?_)
  have ne92 : b54 ≠ b91 := by rw [g91]; exact Nat.ne_of_lt AG90.lt
  have nn93 : n0 ≤ b91 := by rw [g91]; exact zz87
  have hh94 : h0.size ≤ b91 := by rw [g91]; exact kk89.1
  have hk95 := Nat.le_trans hk88 E91.1
  have q96 := AG90.ext E91
  have zz97 := Nat.le_trans zz87 E91.1
  have kk98 : Keep h0 h91 [] := kk89.ext E91
  refine g_astore (L' := #[.val (.long y0), .second, .val (.long y1), .second, .val (.int y2), .val (.int y3), .val (.int y4), .val (.int z51), .val (.int z52), .val (.int z53), .val (.ref b54), .val (.ref b91), .unset]) X91 hx hby at_100 rfl rfl (pc' := 102) rfl ?_
  refine g_aload X91 hx hby at_102 rfl rfl (pc' := 104) rfl ?_
  refine g_iconst (v := 0) X91 hx hby at_104 rfl (pc' := 105) rfl ?_
  refine g_lloadN X91 hx hby at_105 rfl (pc' := 106) rfl ?_
  refine g_iconst (v := 0) X91 hx hby at_106 rfl (pc' := 107) rfl ?_
  refine g_callS (argsL := [(.long y1), (.int (0 : Int32))]) (S := [(.int (0 : Int32)), (.ref b91)]) X91 hx hby hZ (y := (⟨"com/example/urutan/urutan/request/FieldCopyJsonPinLaw", "b", "(JI)B"⟩ : MethodName)) hown (hw _ (List.mem_of_getElem? (i := 2) rfl)) (hw _ (List.mem_of_getElem? (i := 3) rfl)) (hw _ (List.mem_of_getElem? (i := 4) rfl)) (hw _ (List.mem_of_getElem? (i := 5) rfl)) (by decide) (own_rm1 l Z a0 hw (y1) ((0 : Int32)) h91 n0) (by rw [hml]; rfl) (lenOf own_pd0 rfl) rfl at_107 (by decide) (W := 2) (by exact Nat.le_of_eq rfl) (by decide) (by decide) (by decide) (pc' := 110) rfl (fun T99 v99 X99 hQ99 => ?_)
  obtain ⟨rfl, e99⟩ := hQ99
  rw [e99] at X99
  show Gl p e below n0 _ _ (T99.setTop (mkF m 110 #[.val (.long y0), .second, .val (.long y1), .second, .val (.int y2), .val (.int y3), .val (.int y4), .val (.int z51), .val (.int z52), .val (.int z53), .val (.ref b54), .val (.ref b91), .unset] [(.int (own_b y1 (0 : Int32))), (.int (0 : Int32)), (.ref b91)]))
  refine g_bastore (i := 0) X99 hx hby hZ A91 rfl (by decide) nn93 at_110 (pc' := 111) rfl (fun T100 h100 sl100 X100 W100 A100 => ?_)
  have q101 := q96.other W100 ne92
  have zz102 := Nat.le_trans zz97 (Nat.le_of_eq W100.size.symm)
  have hk103 := Nat.le_trans hk95 (Nat.le_of_eq W100.size.symm)
  have kk104 : Keep h0 h100 [] := kk98.wr W100 (Or.inr hh94)
  refine g_aload X100 hx hby at_111 rfl rfl (pc' := 113) rfl ?_
  refine g_iconst (v := 1) X100 hx hby at_113 rfl (pc' := 114) rfl ?_
  refine g_lloadN X100 hx hby at_114 rfl (pc' := 115) rfl ?_
  refine g_iconst (v := 1) X100 hx hby at_115 rfl (pc' := 116) rfl ?_
  refine g_callS (argsL := [(.long y1), (.int (1 : Int32))]) (S := [(.int (1 : Int32)), (.ref b91)]) X100 hx hby hZ (y := (⟨"com/example/urutan/urutan/request/FieldCopyJsonPinLaw", "b", "(JI)B"⟩ : MethodName)) hown (hw _ (List.mem_of_getElem? (i := 2) rfl)) (hw _ (List.mem_of_getElem? (i := 3) rfl)) (hw _ (List.mem_of_getElem? (i := 4) rfl)) (hw _ (List.mem_of_getElem? (i := 5) rfl)) (by decide) (own_rm1 l Z a0 hw (y1) ((1 : Int32)) h100 n0) (by rw [hml]; rfl) (lenOf own_pd0 rfl) rfl at_116 (by decide) (W := 2) (by exact Nat.le_of_eq rfl) (by decide) (by decide) (by decide) (pc' := 119) rfl (fun T105 v105 X105 hQ105 => ?_)
  obtain ⟨rfl, e105⟩ := hQ105
  rw [e105] at X105
  show Gl p e below n0 _ _ (T105.setTop (mkF m 119 #[.val (.long y0), .second, .val (.long y1), .second, .val (.int y2), .val (.int y3), .val (.int y4), .val (.int z51), .val (.int z52), .val (.int z53), .val (.ref b54), .val (.ref b91), .unset] [(.int (own_b y1 (1 : Int32))), (.int (1 : Int32)), (.ref b91)]))
  refine g_bastore (i := 1) X105 hx hby hZ A100 rfl (by decide) nn93 at_119 (pc' := 120) rfl (fun T106 h106 sl106 X106 W106 A106 => ?_)
  have q107 := q101.other W106 ne92
  have zz108 := Nat.le_trans zz102 (Nat.le_of_eq W106.size.symm)
  have hk109 := Nat.le_trans hk103 (Nat.le_of_eq W106.size.symm)
  have kk110 : Keep h0 h106 [] := kk104.wr W106 (Or.inr hh94)
  refine g_aload X106 hx hby at_120 rfl rfl (pc' := 122) rfl ?_
  refine g_iconst (v := 2) X106 hx hby at_122 rfl (pc' := 123) rfl ?_
  refine g_lloadN X106 hx hby at_123 rfl (pc' := 124) rfl ?_
  refine g_iconst (v := 2) X106 hx hby at_124 rfl (pc' := 125) rfl ?_
  refine g_callS (argsL := [(.long y1), (.int (2 : Int32))]) (S := [(.int (2 : Int32)), (.ref b91)]) X106 hx hby hZ (y := (⟨"com/example/urutan/urutan/request/FieldCopyJsonPinLaw", "b", "(JI)B"⟩ : MethodName)) hown (hw _ (List.mem_of_getElem? (i := 2) rfl)) (hw _ (List.mem_of_getElem? (i := 3) rfl)) (hw _ (List.mem_of_getElem? (i := 4) rfl)) (hw _ (List.mem_of_getElem? (i := 5) rfl)) (by decide) (own_rm1 l Z a0 hw (y1) ((2 : Int32)) h106 n0) (by rw [hml]; rfl) (lenOf own_pd0 rfl) rfl at_125 (by decide) (W := 2) (by exact Nat.le_of_eq rfl) (by decide) (by decide) (by decide) (pc' := 128) rfl (fun T111 v111 X111 hQ111 => ?_)
  obtain ⟨rfl, e111⟩ := hQ111
  rw [e111] at X111
  show Gl p e below n0 _ _ (T111.setTop (mkF m 128 #[.val (.long y0), .second, .val (.long y1), .second, .val (.int y2), .val (.int y3), .val (.int y4), .val (.int z51), .val (.int z52), .val (.int z53), .val (.ref b54), .val (.ref b91), .unset] [(.int (own_b y1 (2 : Int32))), (.int (2 : Int32)), (.ref b91)]))
  refine g_bastore (i := 2) X111 hx hby hZ A106 rfl (by decide) nn93 at_128 (pc' := 129) rfl (fun T112 h112 sl112 X112 W112 A112 => ?_)
  have q113 := q107.other W112 ne92
  have zz114 := Nat.le_trans zz108 (Nat.le_of_eq W112.size.symm)
  have hk115 := Nat.le_trans hk109 (Nat.le_of_eq W112.size.symm)
  have kk116 : Keep h0 h112 [] := kk110.wr W112 (Or.inr hh94)
  refine g_aload X112 hx hby at_129 rfl rfl (pc' := 131) rfl ?_
  refine g_iconst (v := 3) X112 hx hby at_131 rfl (pc' := 132) rfl ?_
  refine g_lloadN X112 hx hby at_132 rfl (pc' := 133) rfl ?_
  refine g_iconst (v := 3) X112 hx hby at_133 rfl (pc' := 134) rfl ?_
  refine g_callS (argsL := [(.long y1), (.int (3 : Int32))]) (S := [(.int (3 : Int32)), (.ref b91)]) X112 hx hby hZ (y := (⟨"com/example/urutan/urutan/request/FieldCopyJsonPinLaw", "b", "(JI)B"⟩ : MethodName)) hown (hw _ (List.mem_of_getElem? (i := 2) rfl)) (hw _ (List.mem_of_getElem? (i := 3) rfl)) (hw _ (List.mem_of_getElem? (i := 4) rfl)) (hw _ (List.mem_of_getElem? (i := 5) rfl)) (by decide) (own_rm1 l Z a0 hw (y1) ((3 : Int32)) h112 n0) (by rw [hml]; rfl) (lenOf own_pd0 rfl) rfl at_134 (by decide) (W := 2) (by exact Nat.le_of_eq rfl) (by decide) (by decide) (by decide) (pc' := 137) rfl (fun T117 v117 X117 hQ117 => ?_)
  obtain ⟨rfl, e117⟩ := hQ117
  rw [e117] at X117
  show Gl p e below n0 _ _ (T117.setTop (mkF m 137 #[.val (.long y0), .second, .val (.long y1), .second, .val (.int y2), .val (.int y3), .val (.int y4), .val (.int z51), .val (.int z52), .val (.int z53), .val (.ref b54), .val (.ref b91), .unset] [(.int (own_b y1 (3 : Int32))), (.int (3 : Int32)), (.ref b91)]))
  refine g_bastore (i := 3) X117 hx hby hZ A112 rfl (by decide) nn93 at_137 (pc' := 138) rfl (fun T118 h118 sl118 X118 W118 A118 => ?_)
  have q119 := q113.other W118 ne92
  have zz120 := Nat.le_trans zz114 (Nat.le_of_eq W118.size.symm)
  have hk121 := Nat.le_trans hk115 (Nat.le_of_eq W118.size.symm)
  have kk122 : Keep h0 h118 [] := kk116.wr W118 (Or.inr hh94)
  refine g_aload X118 hx hby at_138 rfl rfl (pc' := 140) rfl ?_
  refine g_iconst (v := 4) X118 hx hby at_140 rfl (pc' := 141) rfl ?_
  refine g_lloadN X118 hx hby at_141 rfl (pc' := 142) rfl ?_
  refine g_iconst (v := 4) X118 hx hby at_142 rfl (pc' := 143) rfl ?_
  refine g_callS (argsL := [(.long y1), (.int (4 : Int32))]) (S := [(.int (4 : Int32)), (.ref b91)]) X118 hx hby hZ (y := (⟨"com/example/urutan/urutan/request/FieldCopyJsonPinLaw", "b", "(JI)B"⟩ : MethodName)) hown (hw _ (List.mem_of_getElem? (i := 2) rfl)) (hw _ (List.mem_of_getElem? (i := 3) rfl)) (hw _ (List.mem_of_getElem? (i := 4) rfl)) (hw _ (List.mem_of_getElem? (i := 5) rfl)) (by decide) (own_rm1 l Z a0 hw (y1) ((4 : Int32)) h118 n0) (by rw [hml]; rfl) (lenOf own_pd0 rfl) rfl at_143 (by decide) (W := 2) (by exact Nat.le_of_eq rfl) (by decide) (by decide) (by decide) (pc' := 146) rfl (fun T123 v123 X123 hQ123 => ?_)
  obtain ⟨rfl, e123⟩ := hQ123
  rw [e123] at X123
  show Gl p e below n0 _ _ (T123.setTop (mkF m 146 #[.val (.long y0), .second, .val (.long y1), .second, .val (.int y2), .val (.int y3), .val (.int y4), .val (.int z51), .val (.int z52), .val (.int z53), .val (.ref b54), .val (.ref b91), .unset] [(.int (own_b y1 (4 : Int32))), (.int (4 : Int32)), (.ref b91)]))
  refine g_bastore (i := 4) X123 hx hby hZ A118 rfl (by decide) nn93 at_146 (pc' := 147) rfl (fun T124 h124 sl124 X124 W124 A124 => ?_)
  have q125 := q119.other W124 ne92
  have zz126 := Nat.le_trans zz120 (Nat.le_of_eq W124.size.symm)
  have hk127 := Nat.le_trans hk121 (Nat.le_of_eq W124.size.symm)
  have kk128 : Keep h0 h124 [] := kk122.wr W124 (Or.inr hh94)
  refine g_aload X124 hx hby at_147 rfl rfl (pc' := 149) rfl ?_
  refine g_iconst (v := 5) X124 hx hby at_149 rfl (pc' := 150) rfl ?_
  refine g_lloadN X124 hx hby at_150 rfl (pc' := 151) rfl ?_
  refine g_iconst (v := 5) X124 hx hby at_151 rfl (pc' := 152) rfl ?_
  refine g_callS (argsL := [(.long y1), (.int (5 : Int32))]) (S := [(.int (5 : Int32)), (.ref b91)]) X124 hx hby hZ (y := (⟨"com/example/urutan/urutan/request/FieldCopyJsonPinLaw", "b", "(JI)B"⟩ : MethodName)) hown (hw _ (List.mem_of_getElem? (i := 2) rfl)) (hw _ (List.mem_of_getElem? (i := 3) rfl)) (hw _ (List.mem_of_getElem? (i := 4) rfl)) (hw _ (List.mem_of_getElem? (i := 5) rfl)) (by decide) (own_rm1 l Z a0 hw (y1) ((5 : Int32)) h124 n0) (by rw [hml]; rfl) (lenOf own_pd0 rfl) rfl at_152 (by decide) (W := 2) (by exact Nat.le_of_eq rfl) (by decide) (by decide) (by decide) (pc' := 155) rfl (fun T129 v129 X129 hQ129 => ?_)
  obtain ⟨rfl, e129⟩ := hQ129
  rw [e129] at X129
  show Gl p e below n0 _ _ (T129.setTop (mkF m 155 #[.val (.long y0), .second, .val (.long y1), .second, .val (.int y2), .val (.int y3), .val (.int y4), .val (.int z51), .val (.int z52), .val (.int z53), .val (.ref b54), .val (.ref b91), .unset] [(.int (own_b y1 (5 : Int32))), (.int (5 : Int32)), (.ref b91)]))
  refine g_bastore (i := 5) X129 hx hby hZ A124 rfl (by decide) nn93 at_155 (pc' := 156) rfl (fun T130 h130 sl130 X130 W130 A130 => ?_)
  have q131 := q125.other W130 ne92
  have zz132 := Nat.le_trans zz126 (Nat.le_of_eq W130.size.symm)
  have hk133 := Nat.le_trans hk127 (Nat.le_of_eq W130.size.symm)
  have kk134 : Keep h0 h130 [] := kk128.wr W130 (Or.inr hh94)
  have AG135 : Ary Z h130 b91 .byte 6 (fun j => .int (own_b y1 (Int32.ofNat j))) := by
    refine A130.congr fun i hi => ?_
    have h8 : i = 0 ∨ i = 1 ∨ i = 2 ∨ i = 3 ∨ i = 4 ∨ i = 5 := by omega
    rcases h8 with rfl | rfl | rfl | rfl | rfl | rfl <;> exact congrArg Value.int (own_nar _ _)
  refine g_new X130 hx hby hZ hown (hw _ (List.mem_of_getElem? (i := 6) rfl)) (hw _ (List.mem_of_getElem? (i := 7) rfl)) (hw _ (List.mem_of_getElem? (i := 8) rfl)) at_156 (by decide) (by decide) (pc' := 159) rfl (fun T136 h136 b136 g136 X136 E136 A136 D136 => ?_)
  have ne137 : b54 ≠ b136 := by rw [g136]; exact Nat.ne_of_lt q131.lt
  have ne138 : b91 ≠ b136 := by rw [g136]; exact Nat.ne_of_lt AG135.lt
  have nn139 : n0 ≤ b136 := by rw [g136]; exact zz132
  have hh140 : h0.size ≤ b136 := by rw [g136]; exact kk134.1
  have hk141 := Nat.le_trans hk133 E136.1
  have q142 := q131.ext E136
  have q143 := AG135.ext E136
  have zz144 := Nat.le_trans zz132 E136.1
  have kk145 : Keep h0 h136 [] := kk134.ext E136
  have q146 : Fld Z h136 b136 "com/example/urutan/urutan/request/Field" "name" "Ljava/lang/String;" .null := D136 (Or.inr (hw _ (List.mem_of_getElem? (i := 23) rfl))) (ty := (.object "java/lang/String")) (by decide)
  have q147 : Fld Z h136 b136 "com/example/urutan/urutan/request/Field" "json" "[B" .null := D136 (Or.inr (hw _ (List.mem_of_getElem? (i := 25) rfl))) (ty := (.array .byte)) (by decide)
  have q148 : Fld Z h136 b136 "com/example/urutan/urutan/request/Field" "offset" "I" (.int (0 : Int32)) := D136 (Or.inr (hw _ (List.mem_of_getElem? (i := 27) rfl))) (ty := .int) (by decide)
  have q149 : Fld Z h136 b136 "com/example/urutan/urutan/request/Field" "length" "I" (.int (0 : Int32)) := D136 (Or.inr (hw _ (List.mem_of_getElem? (i := 29) rfl))) (ty := .int) (by decide)
  refine g_dup X136 hx hby at_159 rfl (pc' := 160) rfl ?_
  have wS150 : ∀ a ∈ Bundle.stringAtoms, a.before a0 Z = true := by
    intro a ha; simp only [Bundle.stringAtoms, List.mem_cons, List.not_mem_nil, or_false] at ha
    rcases ha with rfl | rfl | rfl | rfl | rfl | rfl | rfl
    · exact (hw _ (List.mem_of_getElem? (i := 10) rfl))
    · exact (hw _ (List.mem_of_getElem? (i := 11) rfl))
    · exact (hw _ (List.mem_of_getElem? (i := 1) rfl))
    · exact (hw _ (List.mem_of_getElem? (i := 12) rfl))
    · exact (hw _ (List.mem_of_getElem? (i := 13) rfl))
    · exact (hw _ (List.mem_of_getElem? (i := 14) rfl))
    · exact (hw _ (List.mem_of_getElem? (i := 15) rfl))
  refine g_ldcS (n := 4) X136 hx hby hZ hown (hw _ (List.mem_of_getElem? (i := 9) rfl)) wS150 hS hk141 at_160 (by decide) (by decide) (by decide) (by decide) (pc' := 162) rfl (fun a150 T150 h150 k150 X150 E150 hS150 hk150 hZ150 hown150 => ?_)
  have q151 := q142.ext E150
  have q152 := q143.ext E150
  have q153 := A136.ext E150
  have q154 := q146.ext E150
  have q155 := q147.ext E150
  have q156 := q148.ext E150
  have q157 := q149.ext E150
  have zz158 := Nat.le_trans zz144 E150.1
  have kk159 : Keep h0 h150 [] := kk145.ext E150
  refine g_aload X150 hx hby at_162 rfl rfl (pc' := 164) rfl ?_
  refine g_iload X150 hx hby at_164 rfl (pc' := 166) rfl ?_
  refine g_iload X150 hx hby at_166 rfl (pc' := 168) rfl ?_
  refine g_callC (argsL := [(.ref a150), (.ref b54), (.int z51), (.int z52)]) (S := [(.ref b136)]) (a := b136) X150 hx hby hZ150 (y := (⟨"com/example/urutan/urutan/request/Field", "<init>", "(Ljava/lang/String;[BII)V"⟩ : MethodName)) rfl hown150 (hw _ (List.mem_of_getElem? (i := 16) rfl)) (hw _ (List.mem_of_getElem? (i := 17) rfl)) (hw _ (List.mem_of_getElem? (i := 8) rfl)) (hw _ (List.mem_of_getElem? (i := 18) rfl)) (by decide) (own_rm2 l Z a0 hw b136 a150 b54 z51 z52 h150 n0 zz158 q153 q154 q155 q156 q157 nn139) (by rw [hml]; rfl) (lenOf own_pd1 rfl) rfl at_168 (by decide) (W := 1) (by exact Nat.le_of_eq rfl) (by decide) (by decide) (by decide) (pc' := 171) rfl (fun T160 v160 X160 hQ160 => ?_)
  obtain ⟨rfl, ka160, fa160, fb160, fc160⟩ := hQ160
  have q161 := q151.keep ka160 (ninS ne137 nin0)
  have q162 := q152.keep ka160 (ninS ne138 nin0)
  have q163 := q153.keep ka160
  have zz164 := Nat.le_trans zz158 ka160.1
  have hk165 := Nat.le_trans hk150 ka160.1
  have kk166 : Keep h0 T160.heap [] := kk159.trans ka160 (allS (Or.inr hh140) all0)
  show Gl p e below n0 _ _ (T160.setTop (mkF m 171 #[.val (.long y0), .second, .val (.long y1), .second, .val (.int y2), .val (.int y3), .val (.int y4), .val (.int z51), .val (.int z52), .val (.int z53), .val (.ref b54), .val (.ref b91), .unset] [(.ref b136)]))
  refine g_astore (L' := #[.val (.long y0), .second, .val (.long y1), .second, .val (.int y2), .val (.int y3), .val (.int y4), .val (.int z51), .val (.int z52), .val (.int z53), .val (.ref b54), .val (.ref b91), .val (.ref b136)]) X160 hx hby at_171 rfl rfl (pc' := 173) rfl ?_
  refine g_aload X160 hx hby at_173 rfl rfl (pc' := 175) rfl ?_
  refine g_aload X160 hx hby at_175 rfl rfl (pc' := 177) rfl ?_
  refine g_iload X160 hx hby at_177 rfl (pc' := 179) rfl ?_
  refine g_callV (argsL := [(.ref b91), (.int z53)]) (S := []) (a := b136) X160 hx hby hZ150 (y := (⟨"com/example/urutan/urutan/request/Field", "copyJson", "([BI)V"⟩ : MethodName)) (y' := (⟨"com/example/urutan/urutan/request/Field", "copyJson", "([BI)V"⟩ : MethodName)) hown150 (hw _ (List.mem_of_getElem? (i := 30) rfl)) (hw _ (List.mem_of_getElem? (i := 31) rfl)) (notFace_of_selects (args := #[]) (mvT hZ150 (hw _ (List.mem_of_getElem? (i := 33) rfl)))) (hw _ (List.mem_of_getElem? (i := 33) rfl)) (hw _ (List.mem_of_getElem? (i := 32) rfl)) (hw _ (List.mem_of_getElem? (i := 8) rfl)) (hw _ (List.mem_of_getElem? (i := 34) rfl)) (by decide) q163 (own_rm3 l Z a0 hw b136 b91 z53 T160.heap n0 y0 y1 b54 z51 z52 z51.toInt.toNat z52.toInt.toNat z53.toInt.toNat (by omega) (by omega) (by omega) (by omega) (by omega) fa160 fb160 fc160 q161 q162 nn93) (by rw [hml]; rfl) (lenOf own_pd2 rfl) rfl at_179 (by decide) (W := 0) (by exact Nat.le_of_eq rfl) (by decide) (by decide) (by decide) (pc' := 182) rfl (fun T167 v167 X167 hQ167 => ?_)
  obtain ⟨rfl, ka167, aa167⟩ := hQ167
  have q168 := q161.keep ka167 (ninS ne92 nin0)
  have q169 := q163.keep ka167
  have q170 := fa160.keep ka167 (ninS (Ne.symm ne138) nin0)
  have q171 := fb160.keep ka167 (ninS (Ne.symm ne138) nin0)
  have q172 := fc160.keep ka167 (ninS (Ne.symm ne138) nin0)
  have zz173 := Nat.le_trans zz164 ka167.1
  have hk174 := Nat.le_trans hk165 ka167.1
  have kk175 : Keep h0 T167.heap [] := kk166.trans ka167 (allS (Or.inr hh94) all0)
  show Gl p e below n0 _ _ (T167.setTop (mkF m 182 #[.val (.long y0), .second, .val (.long y1), .second, .val (.int y2), .val (.int y3), .val (.int y4), .val (.int z51), .val (.int z52), .val (.int z53), .val (.ref b54), .val (.ref b91), .val (.ref b136)] []))
  refine g_aload X167 hx hby at_182 rfl rfl (pc' := 184) rfl ?_
  refine g_lloadN X167 hx hby at_184 rfl (pc' := 185) rfl ?_
  refine g_lloadN X167 hx hby at_185 rfl (pc' := 186) rfl ?_
  refine g_iload X167 hx hby at_186 rfl (pc' := 188) rfl ?_
  refine g_iload X167 hx hby at_188 rfl (pc' := 190) rfl ?_
  refine g_iload X167 hx hby at_190 rfl (pc' := 192) rfl ?_
  refine g_iconst (v := 0) X167 hx hby at_192 rfl (pc' := 193) rfl ?_
  refine g_callS (argsL := [(.ref b91), (.long y0), (.long y1), (.int z51), (.int z52), (.int z53), (.int (0 : Int32))]) (S := []) X167 hx hby hZ150 (y := (⟨"com/example/urutan/urutan/request/FieldCopyJsonPinLaw", "ok", "([BJJIIII)Z"⟩ : MethodName)) hown150 (hw _ (List.mem_of_getElem? (i := 39) rfl)) (hw _ (List.mem_of_getElem? (i := 40) rfl)) (hw _ (List.mem_of_getElem? (i := 4) rfl)) (hw _ (List.mem_of_getElem? (i := 41) rfl)) (by decide) (own_rm4 l Z a0 hw b91 y0 y1 z51 z52 z53 (0 : Int32) T167.heap n0 0 _ aa167 rfl (by decide) (own_cp_ex (by omega) (by omega) (by omega) (by omega) (by omega) rfl (by decide))) (by rw [hml]; rfl) (lenOf own_pd3 rfl) rfl at_193 (by decide) (W := 0) (by exact Nat.le_of_eq rfl) (by decide) (by decide) (by decide) (pc' := 196) rfl (fun T176 v176 X176 hQ176 => ?_)
  obtain ⟨rfl, e176⟩ := hQ176
  rw [e176] at X176
  show Gl p e below n0 _ _ (T176.setTop (mkF m 196 #[.val (.long y0), .second, .val (.long y1), .second, .val (.int y2), .val (.int y3), .val (.int y4), .val (.int z51), .val (.int z52), .val (.int z53), .val (.ref b54), .val (.ref b91), .val (.ref b136)] [(.int (1 : Int32))]))
  refine g_if_eq X176 hx hby at_196 (by decide) (pc' := 360) (by decide) (pc2 := 199) rfl (fun q => absurd q (by decide)) (fun c196_177 => ?_)
  refine g_aload X176 hx hby at_199 rfl rfl (pc' := 201) rfl ?_
  refine g_lloadN X176 hx hby at_201 rfl (pc' := 202) rfl ?_
  refine g_lloadN X176 hx hby at_202 rfl (pc' := 203) rfl ?_
  refine g_iload X176 hx hby at_203 rfl (pc' := 205) rfl ?_
  refine g_iload X176 hx hby at_205 rfl (pc' := 207) rfl ?_
  refine g_iload X176 hx hby at_207 rfl (pc' := 209) rfl ?_
  refine g_iconst (v := 1) X176 hx hby at_209 rfl (pc' := 210) rfl ?_
  refine g_callS (argsL := [(.ref b91), (.long y0), (.long y1), (.int z51), (.int z52), (.int z53), (.int (1 : Int32))]) (S := []) X176 hx hby hZ150 (y := (⟨"com/example/urutan/urutan/request/FieldCopyJsonPinLaw", "ok", "([BJJIIII)Z"⟩ : MethodName)) hown150 (hw _ (List.mem_of_getElem? (i := 39) rfl)) (hw _ (List.mem_of_getElem? (i := 40) rfl)) (hw _ (List.mem_of_getElem? (i := 4) rfl)) (hw _ (List.mem_of_getElem? (i := 41) rfl)) (by decide) (own_rm4 l Z a0 hw b91 y0 y1 z51 z52 z53 (1 : Int32) T167.heap n0 1 _ aa167 rfl (by decide) (own_cp_ex (by omega) (by omega) (by omega) (by omega) (by omega) rfl (by decide))) (by rw [hml]; rfl) (lenOf own_pd3 rfl) rfl at_210 (by decide) (W := 0) (by exact Nat.le_of_eq rfl) (by decide) (by decide) (by decide) (pc' := 213) rfl (fun T178 v178 X178 hQ178 => ?_)
  obtain ⟨rfl, e178⟩ := hQ178
  rw [e178] at X178
  show Gl p e below n0 _ _ (T178.setTop (mkF m 213 #[.val (.long y0), .second, .val (.long y1), .second, .val (.int y2), .val (.int y3), .val (.int y4), .val (.int z51), .val (.int z52), .val (.int z53), .val (.ref b54), .val (.ref b91), .val (.ref b136)] [(.int (1 : Int32))]))
  refine g_if_eq X178 hx hby at_213 (by decide) (pc' := 360) (by decide) (pc2 := 216) rfl (fun q => absurd q (by decide)) (fun c213_179 => ?_)
  refine g_aload X178 hx hby at_216 rfl rfl (pc' := 218) rfl ?_
  refine g_lloadN X178 hx hby at_218 rfl (pc' := 219) rfl ?_
  refine g_lloadN X178 hx hby at_219 rfl (pc' := 220) rfl ?_
  refine g_iload X178 hx hby at_220 rfl (pc' := 222) rfl ?_
  refine g_iload X178 hx hby at_222 rfl (pc' := 224) rfl ?_
  refine g_iload X178 hx hby at_224 rfl (pc' := 226) rfl ?_
  refine g_iconst (v := 2) X178 hx hby at_226 rfl (pc' := 227) rfl ?_
  refine g_callS (argsL := [(.ref b91), (.long y0), (.long y1), (.int z51), (.int z52), (.int z53), (.int (2 : Int32))]) (S := []) X178 hx hby hZ150 (y := (⟨"com/example/urutan/urutan/request/FieldCopyJsonPinLaw", "ok", "([BJJIIII)Z"⟩ : MethodName)) hown150 (hw _ (List.mem_of_getElem? (i := 39) rfl)) (hw _ (List.mem_of_getElem? (i := 40) rfl)) (hw _ (List.mem_of_getElem? (i := 4) rfl)) (hw _ (List.mem_of_getElem? (i := 41) rfl)) (by decide) (own_rm4 l Z a0 hw b91 y0 y1 z51 z52 z53 (2 : Int32) T167.heap n0 2 _ aa167 rfl (by decide) (own_cp_ex (by omega) (by omega) (by omega) (by omega) (by omega) rfl (by decide))) (by rw [hml]; rfl) (lenOf own_pd3 rfl) rfl at_227 (by decide) (W := 0) (by exact Nat.le_of_eq rfl) (by decide) (by decide) (by decide) (pc' := 230) rfl (fun T180 v180 X180 hQ180 => ?_)
  obtain ⟨rfl, e180⟩ := hQ180
  rw [e180] at X180
  show Gl p e below n0 _ _ (T180.setTop (mkF m 230 #[.val (.long y0), .second, .val (.long y1), .second, .val (.int y2), .val (.int y3), .val (.int y4), .val (.int z51), .val (.int z52), .val (.int z53), .val (.ref b54), .val (.ref b91), .val (.ref b136)] [(.int (1 : Int32))]))
  refine g_if_eq X180 hx hby at_230 (by decide) (pc' := 360) (by decide) (pc2 := 233) rfl (fun q => absurd q (by decide)) (fun c230_181 => ?_)
  refine g_aload X180 hx hby at_233 rfl rfl (pc' := 235) rfl ?_
  refine g_lloadN X180 hx hby at_235 rfl (pc' := 236) rfl ?_
  refine g_lloadN X180 hx hby at_236 rfl (pc' := 237) rfl ?_
  refine g_iload X180 hx hby at_237 rfl (pc' := 239) rfl ?_
  refine g_iload X180 hx hby at_239 rfl (pc' := 241) rfl ?_
  refine g_iload X180 hx hby at_241 rfl (pc' := 243) rfl ?_
  refine g_iconst (v := 3) X180 hx hby at_243 rfl (pc' := 244) rfl ?_
  refine g_callS (argsL := [(.ref b91), (.long y0), (.long y1), (.int z51), (.int z52), (.int z53), (.int (3 : Int32))]) (S := []) X180 hx hby hZ150 (y := (⟨"com/example/urutan/urutan/request/FieldCopyJsonPinLaw", "ok", "([BJJIIII)Z"⟩ : MethodName)) hown150 (hw _ (List.mem_of_getElem? (i := 39) rfl)) (hw _ (List.mem_of_getElem? (i := 40) rfl)) (hw _ (List.mem_of_getElem? (i := 4) rfl)) (hw _ (List.mem_of_getElem? (i := 41) rfl)) (by decide) (own_rm4 l Z a0 hw b91 y0 y1 z51 z52 z53 (3 : Int32) T167.heap n0 3 _ aa167 rfl (by decide) (own_cp_ex (by omega) (by omega) (by omega) (by omega) (by omega) rfl (by decide))) (by rw [hml]; rfl) (lenOf own_pd3 rfl) rfl at_244 (by decide) (W := 0) (by exact Nat.le_of_eq rfl) (by decide) (by decide) (by decide) (pc' := 247) rfl (fun T182 v182 X182 hQ182 => ?_)
  obtain ⟨rfl, e182⟩ := hQ182
  rw [e182] at X182
  show Gl p e below n0 _ _ (T182.setTop (mkF m 247 #[.val (.long y0), .second, .val (.long y1), .second, .val (.int y2), .val (.int y3), .val (.int y4), .val (.int z51), .val (.int z52), .val (.int z53), .val (.ref b54), .val (.ref b91), .val (.ref b136)] [(.int (1 : Int32))]))
  refine g_if_eq X182 hx hby at_247 (by decide) (pc' := 360) (by decide) (pc2 := 250) rfl (fun q => absurd q (by decide)) (fun c247_183 => ?_)
  refine g_aload X182 hx hby at_250 rfl rfl (pc' := 252) rfl ?_
  refine g_lloadN X182 hx hby at_252 rfl (pc' := 253) rfl ?_
  refine g_lloadN X182 hx hby at_253 rfl (pc' := 254) rfl ?_
  refine g_iload X182 hx hby at_254 rfl (pc' := 256) rfl ?_
  refine g_iload X182 hx hby at_256 rfl (pc' := 258) rfl ?_
  refine g_iload X182 hx hby at_258 rfl (pc' := 260) rfl ?_
  refine g_iconst (v := 4) X182 hx hby at_260 rfl (pc' := 261) rfl ?_
  refine g_callS (argsL := [(.ref b91), (.long y0), (.long y1), (.int z51), (.int z52), (.int z53), (.int (4 : Int32))]) (S := []) X182 hx hby hZ150 (y := (⟨"com/example/urutan/urutan/request/FieldCopyJsonPinLaw", "ok", "([BJJIIII)Z"⟩ : MethodName)) hown150 (hw _ (List.mem_of_getElem? (i := 39) rfl)) (hw _ (List.mem_of_getElem? (i := 40) rfl)) (hw _ (List.mem_of_getElem? (i := 4) rfl)) (hw _ (List.mem_of_getElem? (i := 41) rfl)) (by decide) (own_rm4 l Z a0 hw b91 y0 y1 z51 z52 z53 (4 : Int32) T167.heap n0 4 _ aa167 rfl (by decide) (own_cp_ex (by omega) (by omega) (by omega) (by omega) (by omega) rfl (by decide))) (by rw [hml]; rfl) (lenOf own_pd3 rfl) rfl at_261 (by decide) (W := 0) (by exact Nat.le_of_eq rfl) (by decide) (by decide) (by decide) (pc' := 264) rfl (fun T184 v184 X184 hQ184 => ?_)
  obtain ⟨rfl, e184⟩ := hQ184
  rw [e184] at X184
  show Gl p e below n0 _ _ (T184.setTop (mkF m 264 #[.val (.long y0), .second, .val (.long y1), .second, .val (.int y2), .val (.int y3), .val (.int y4), .val (.int z51), .val (.int z52), .val (.int z53), .val (.ref b54), .val (.ref b91), .val (.ref b136)] [(.int (1 : Int32))]))
  refine g_if_eq X184 hx hby at_264 (by decide) (pc' := 360) (by decide) (pc2 := 267) rfl (fun q => absurd q (by decide)) (fun c264_185 => ?_)
  refine g_aload X184 hx hby at_267 rfl rfl (pc' := 269) rfl ?_
  refine g_lloadN X184 hx hby at_269 rfl (pc' := 270) rfl ?_
  refine g_lloadN X184 hx hby at_270 rfl (pc' := 271) rfl ?_
  refine g_iload X184 hx hby at_271 rfl (pc' := 273) rfl ?_
  refine g_iload X184 hx hby at_273 rfl (pc' := 275) rfl ?_
  refine g_iload X184 hx hby at_275 rfl (pc' := 277) rfl ?_
  refine g_iconst (v := 5) X184 hx hby at_277 rfl (pc' := 278) rfl ?_
  refine g_callS (argsL := [(.ref b91), (.long y0), (.long y1), (.int z51), (.int z52), (.int z53), (.int (5 : Int32))]) (S := []) X184 hx hby hZ150 (y := (⟨"com/example/urutan/urutan/request/FieldCopyJsonPinLaw", "ok", "([BJJIIII)Z"⟩ : MethodName)) hown150 (hw _ (List.mem_of_getElem? (i := 39) rfl)) (hw _ (List.mem_of_getElem? (i := 40) rfl)) (hw _ (List.mem_of_getElem? (i := 4) rfl)) (hw _ (List.mem_of_getElem? (i := 41) rfl)) (by decide) (own_rm4 l Z a0 hw b91 y0 y1 z51 z52 z53 (5 : Int32) T167.heap n0 5 _ aa167 rfl (by decide) (own_cp_ex (by omega) (by omega) (by omega) (by omega) (by omega) rfl (by decide))) (by rw [hml]; rfl) (lenOf own_pd3 rfl) rfl at_278 (by decide) (W := 0) (by exact Nat.le_of_eq rfl) (by decide) (by decide) (by decide) (pc' := 281) rfl (fun T186 v186 X186 hQ186 => ?_)
  obtain ⟨rfl, e186⟩ := hQ186
  rw [e186] at X186
  show Gl p e below n0 _ _ (T186.setTop (mkF m 281 #[.val (.long y0), .second, .val (.long y1), .second, .val (.int y2), .val (.int y3), .val (.int y4), .val (.int z51), .val (.int z52), .val (.int z53), .val (.ref b54), .val (.ref b91), .val (.ref b136)] [(.int (1 : Int32))]))
  refine g_if_eq X186 hx hby at_281 (by decide) (pc' := 360) (by decide) (pc2 := 284) rfl (fun q => absurd q (by decide)) (fun c281_187 => ?_)
  refine g_aload X186 hx hby at_284 rfl rfl (pc' := 286) rfl ?_
  refine g_iconst (v := 0) X186 hx hby at_286 rfl (pc' := 287) rfl ?_
  refine g_baload (i := 0) (v := (.int (own_b y0 (0 : Int32)))) X186 hx hby hZ150 q168 rfl (by decide) rfl at_287 (pc' := 288) rfl ?_
  refine g_lloadN X186 hx hby at_288 rfl (pc' := 289) rfl ?_
  refine g_iconst (v := 0) X186 hx hby at_289 rfl (pc' := 290) rfl ?_
  refine g_callS (argsL := [(.long y0), (.int (0 : Int32))]) (S := [(.int (own_b y0 (0 : Int32)))]) X186 hx hby hZ150 (y := (⟨"com/example/urutan/urutan/request/FieldCopyJsonPinLaw", "b", "(JI)B"⟩ : MethodName)) hown150 (hw _ (List.mem_of_getElem? (i := 2) rfl)) (hw _ (List.mem_of_getElem? (i := 3) rfl)) (hw _ (List.mem_of_getElem? (i := 4) rfl)) (hw _ (List.mem_of_getElem? (i := 5) rfl)) (by decide) (own_rm1 l Z a0 hw (y0) ((0 : Int32)) T167.heap n0) (by rw [hml]; rfl) (lenOf own_pd0 rfl) rfl at_290 (by decide) (W := 1) (by exact Nat.le_of_eq rfl) (by decide) (by decide) (by decide) (pc' := 293) rfl (fun T188 v188 X188 hQ188 => ?_)
  obtain ⟨rfl, e188⟩ := hQ188
  rw [e188] at X188
  show Gl p e below n0 _ _ (T188.setTop (mkF m 293 #[.val (.long y0), .second, .val (.long y1), .second, .val (.int y2), .val (.int y3), .val (.int y4), .val (.int z51), .val (.int z52), .val (.int z53), .val (.ref b54), .val (.ref b91), .val (.ref b136)] [(.int (own_b y0 (0 : Int32))), (.int (own_b y0 (0 : Int32)))]))
  refine g_icmp_ne X188 hx hby at_293 (by decide) (pc' := 360) (by decide) (pc2 := 296) rfl (fun q => absurd rfl q) (fun c293_189 => ?_)
  refine g_aload X188 hx hby at_296 rfl rfl (pc' := 298) rfl ?_
  refine g_iconst (v := 1) X188 hx hby at_298 rfl (pc' := 299) rfl ?_
  refine g_baload (i := 1) (v := (.int (own_b y0 (1 : Int32)))) X188 hx hby hZ150 q168 rfl (by decide) rfl at_299 (pc' := 300) rfl ?_
  refine g_lloadN X188 hx hby at_300 rfl (pc' := 301) rfl ?_
  refine g_iconst (v := 1) X188 hx hby at_301 rfl (pc' := 302) rfl ?_
  refine g_callS (argsL := [(.long y0), (.int (1 : Int32))]) (S := [(.int (own_b y0 (1 : Int32)))]) X188 hx hby hZ150 (y := (⟨"com/example/urutan/urutan/request/FieldCopyJsonPinLaw", "b", "(JI)B"⟩ : MethodName)) hown150 (hw _ (List.mem_of_getElem? (i := 2) rfl)) (hw _ (List.mem_of_getElem? (i := 3) rfl)) (hw _ (List.mem_of_getElem? (i := 4) rfl)) (hw _ (List.mem_of_getElem? (i := 5) rfl)) (by decide) (own_rm1 l Z a0 hw (y0) ((1 : Int32)) T167.heap n0) (by rw [hml]; rfl) (lenOf own_pd0 rfl) rfl at_302 (by decide) (W := 1) (by exact Nat.le_of_eq rfl) (by decide) (by decide) (by decide) (pc' := 305) rfl (fun T190 v190 X190 hQ190 => ?_)
  obtain ⟨rfl, e190⟩ := hQ190
  rw [e190] at X190
  show Gl p e below n0 _ _ (T190.setTop (mkF m 305 #[.val (.long y0), .second, .val (.long y1), .second, .val (.int y2), .val (.int y3), .val (.int y4), .val (.int z51), .val (.int z52), .val (.int z53), .val (.ref b54), .val (.ref b91), .val (.ref b136)] [(.int (own_b y0 (1 : Int32))), (.int (own_b y0 (1 : Int32)))]))
  refine g_icmp_ne X190 hx hby at_305 (by decide) (pc' := 360) (by decide) (pc2 := 308) rfl (fun q => absurd rfl q) (fun c305_191 => ?_)
  refine g_aload X190 hx hby at_308 rfl rfl (pc' := 310) rfl ?_
  refine g_iconst (v := 2) X190 hx hby at_310 rfl (pc' := 311) rfl ?_
  refine g_baload (i := 2) (v := (.int (own_b y0 (2 : Int32)))) X190 hx hby hZ150 q168 rfl (by decide) rfl at_311 (pc' := 312) rfl ?_
  refine g_lloadN X190 hx hby at_312 rfl (pc' := 313) rfl ?_
  refine g_iconst (v := 2) X190 hx hby at_313 rfl (pc' := 314) rfl ?_
  refine g_callS (argsL := [(.long y0), (.int (2 : Int32))]) (S := [(.int (own_b y0 (2 : Int32)))]) X190 hx hby hZ150 (y := (⟨"com/example/urutan/urutan/request/FieldCopyJsonPinLaw", "b", "(JI)B"⟩ : MethodName)) hown150 (hw _ (List.mem_of_getElem? (i := 2) rfl)) (hw _ (List.mem_of_getElem? (i := 3) rfl)) (hw _ (List.mem_of_getElem? (i := 4) rfl)) (hw _ (List.mem_of_getElem? (i := 5) rfl)) (by decide) (own_rm1 l Z a0 hw (y0) ((2 : Int32)) T167.heap n0) (by rw [hml]; rfl) (lenOf own_pd0 rfl) rfl at_314 (by decide) (W := 1) (by exact Nat.le_of_eq rfl) (by decide) (by decide) (by decide) (pc' := 317) rfl (fun T192 v192 X192 hQ192 => ?_)
  obtain ⟨rfl, e192⟩ := hQ192
  rw [e192] at X192
  show Gl p e below n0 _ _ (T192.setTop (mkF m 317 #[.val (.long y0), .second, .val (.long y1), .second, .val (.int y2), .val (.int y3), .val (.int y4), .val (.int z51), .val (.int z52), .val (.int z53), .val (.ref b54), .val (.ref b91), .val (.ref b136)] [(.int (own_b y0 (2 : Int32))), (.int (own_b y0 (2 : Int32)))]))
  refine g_icmp_ne X192 hx hby at_317 (by decide) (pc' := 360) (by decide) (pc2 := 320) rfl (fun q => absurd rfl q) (fun c317_193 => ?_)
  refine g_aload X192 hx hby at_320 rfl rfl (pc' := 322) rfl ?_
  refine g_iconst (v := 3) X192 hx hby at_322 rfl (pc' := 323) rfl ?_
  refine g_baload (i := 3) (v := (.int (own_b y0 (3 : Int32)))) X192 hx hby hZ150 q168 rfl (by decide) rfl at_323 (pc' := 324) rfl ?_
  refine g_lloadN X192 hx hby at_324 rfl (pc' := 325) rfl ?_
  refine g_iconst (v := 3) X192 hx hby at_325 rfl (pc' := 326) rfl ?_
  refine g_callS (argsL := [(.long y0), (.int (3 : Int32))]) (S := [(.int (own_b y0 (3 : Int32)))]) X192 hx hby hZ150 (y := (⟨"com/example/urutan/urutan/request/FieldCopyJsonPinLaw", "b", "(JI)B"⟩ : MethodName)) hown150 (hw _ (List.mem_of_getElem? (i := 2) rfl)) (hw _ (List.mem_of_getElem? (i := 3) rfl)) (hw _ (List.mem_of_getElem? (i := 4) rfl)) (hw _ (List.mem_of_getElem? (i := 5) rfl)) (by decide) (own_rm1 l Z a0 hw (y0) ((3 : Int32)) T167.heap n0) (by rw [hml]; rfl) (lenOf own_pd0 rfl) rfl at_326 (by decide) (W := 1) (by exact Nat.le_of_eq rfl) (by decide) (by decide) (by decide) (pc' := 329) rfl (fun T194 v194 X194 hQ194 => ?_)
  obtain ⟨rfl, e194⟩ := hQ194
  rw [e194] at X194
  show Gl p e below n0 _ _ (T194.setTop (mkF m 329 #[.val (.long y0), .second, .val (.long y1), .second, .val (.int y2), .val (.int y3), .val (.int y4), .val (.int z51), .val (.int z52), .val (.int z53), .val (.ref b54), .val (.ref b91), .val (.ref b136)] [(.int (own_b y0 (3 : Int32))), (.int (own_b y0 (3 : Int32)))]))
  refine g_icmp_ne X194 hx hby at_329 (by decide) (pc' := 360) (by decide) (pc2 := 332) rfl (fun q => absurd rfl q) (fun c329_195 => ?_)
  refine g_aload X194 hx hby at_332 rfl rfl (pc' := 334) rfl ?_
  refine g_iconst (v := 4) X194 hx hby at_334 rfl (pc' := 335) rfl ?_
  refine g_baload (i := 4) (v := (.int (own_b y0 (4 : Int32)))) X194 hx hby hZ150 q168 rfl (by decide) rfl at_335 (pc' := 336) rfl ?_
  refine g_lloadN X194 hx hby at_336 rfl (pc' := 337) rfl ?_
  refine g_iconst (v := 4) X194 hx hby at_337 rfl (pc' := 338) rfl ?_
  refine g_callS (argsL := [(.long y0), (.int (4 : Int32))]) (S := [(.int (own_b y0 (4 : Int32)))]) X194 hx hby hZ150 (y := (⟨"com/example/urutan/urutan/request/FieldCopyJsonPinLaw", "b", "(JI)B"⟩ : MethodName)) hown150 (hw _ (List.mem_of_getElem? (i := 2) rfl)) (hw _ (List.mem_of_getElem? (i := 3) rfl)) (hw _ (List.mem_of_getElem? (i := 4) rfl)) (hw _ (List.mem_of_getElem? (i := 5) rfl)) (by decide) (own_rm1 l Z a0 hw (y0) ((4 : Int32)) T167.heap n0) (by rw [hml]; rfl) (lenOf own_pd0 rfl) rfl at_338 (by decide) (W := 1) (by exact Nat.le_of_eq rfl) (by decide) (by decide) (by decide) (pc' := 341) rfl (fun T196 v196 X196 hQ196 => ?_)
  obtain ⟨rfl, e196⟩ := hQ196
  rw [e196] at X196
  show Gl p e below n0 _ _ (T196.setTop (mkF m 341 #[.val (.long y0), .second, .val (.long y1), .second, .val (.int y2), .val (.int y3), .val (.int y4), .val (.int z51), .val (.int z52), .val (.int z53), .val (.ref b54), .val (.ref b91), .val (.ref b136)] [(.int (own_b y0 (4 : Int32))), (.int (own_b y0 (4 : Int32)))]))
  refine g_icmp_ne X196 hx hby at_341 (by decide) (pc' := 360) (by decide) (pc2 := 344) rfl (fun q => absurd rfl q) (fun c341_197 => ?_)
  refine g_aload X196 hx hby at_344 rfl rfl (pc' := 346) rfl ?_
  refine g_iconst (v := 5) X196 hx hby at_346 rfl (pc' := 347) rfl ?_
  refine g_baload (i := 5) (v := (.int (own_b y0 (5 : Int32)))) X196 hx hby hZ150 q168 rfl (by decide) rfl at_347 (pc' := 348) rfl ?_
  refine g_lloadN X196 hx hby at_348 rfl (pc' := 349) rfl ?_
  refine g_iconst (v := 5) X196 hx hby at_349 rfl (pc' := 350) rfl ?_
  refine g_callS (argsL := [(.long y0), (.int (5 : Int32))]) (S := [(.int (own_b y0 (5 : Int32)))]) X196 hx hby hZ150 (y := (⟨"com/example/urutan/urutan/request/FieldCopyJsonPinLaw", "b", "(JI)B"⟩ : MethodName)) hown150 (hw _ (List.mem_of_getElem? (i := 2) rfl)) (hw _ (List.mem_of_getElem? (i := 3) rfl)) (hw _ (List.mem_of_getElem? (i := 4) rfl)) (hw _ (List.mem_of_getElem? (i := 5) rfl)) (by decide) (own_rm1 l Z a0 hw (y0) ((5 : Int32)) T167.heap n0) (by rw [hml]; rfl) (lenOf own_pd0 rfl) rfl at_350 (by decide) (W := 1) (by exact Nat.le_of_eq rfl) (by decide) (by decide) (by decide) (pc' := 353) rfl (fun T198 v198 X198 hQ198 => ?_)
  obtain ⟨rfl, e198⟩ := hQ198
  rw [e198] at X198
  show Gl p e below n0 _ _ (T198.setTop (mkF m 353 #[.val (.long y0), .second, .val (.long y1), .second, .val (.int y2), .val (.int y3), .val (.int y4), .val (.int z51), .val (.int z52), .val (.int z53), .val (.ref b54), .val (.ref b91), .val (.ref b136)] [(.int (own_b y0 (5 : Int32))), (.int (own_b y0 (5 : Int32)))]))
  refine g_icmp_ne X198 hx hby at_353 (by decide) (pc' := 360) (by decide) (pc2 := 356) rfl (fun q => absurd rfl q) (fun c353_199 => ?_)
  refine g_iconst (v := 1) X198 hx hby at_356 rfl (pc' := 357) rfl ?_
  refine g_goto X198 hx hby at_357 (by decide) (pc' := 361) (by decide) ?_
  exact gw_retN X198 hx hby hS150 hk174 hret hlk (by simp) at_361 rfl (by decide) (by decide)
set_option maxRecDepth 65536 in
set_option maxHeartbeats 40000000 in
theorem comes_1 {Post : Tables → Env → Array Value → State → Outcome → State → Prop} (hpost : ∀ tb e args s v u, (limb_1_1.after args s (.returned v) u = true ∧ limb_1_2.after args s (.returned v) u = true ∧ True) → ReturnedEndW s (.returned v) u (Jvm.fieldLocs frame_1_writes args s ++ Jvm.arrayLocs frame_1_arrays args s ++ Jvm.staticLocs frame_1_statics s) 16 1152 → Post tb e args s (.returned v) u) :
    ArmFor flags0 classFile x code maxLocals ret World_1 tables_1 room_1 Calls_1 rest_1 Pre_1 Post := by
  intro l hfl _ _ p e ha hc hk s m args below hf hA hF happ hP
  obtain ⟨hcalls, hrest, hpre⟩ := hP
  obtain ⟨-, -, -, hnamed, -, -, -, hat⟩ := (Spec.applies_iff hf).mp happ
  obtain ⟨hg, hn⟩ := and_e (Cond.before_iff.mp (show (Jvm.Cond.and given_1 narrow_1).before args s = true from hpre))
  obtain ⟨hcount, hg0⟩ := and_e hg
  obtain ⟨w0, w1, w2, w3, w4, rfl⟩ : ∃ w0 w1 w2 w3 w4 : Value, args = #[w0, w1, w2, w3, w4] := by
    have hs : args.size = 5 := by simpa [Cond.value, given_1] using hcount
    obtain ⟨L⟩ := args
    match L, hs with
    | [w0, w1, w2, w3, w4], _ => exact ⟨w0, w1, w2, w3, w4, rfl⟩
  have hw := fun d (hd : d ∈ tables_1) => atoms_spec (ws := Jvm.Cond.code x code maxLocals ret :: tables_1) hat d (List.mem_cons_of_mem _ hd)
  have hfit : Fit s := fun {y c} hc i hi => by
    obtain ⟨ha, rfl⟩ := Array.getElem?_eq_some_iff.mp hc
    have q := List.all_eq_true.mp ((Array.all_eq_true_iff_forall_mem.mp hF) _ (Array.getElem_mem ha)) i (List.mem_range.mpr hi)
    simpa [Array.getElem?_eq_getElem hi] using q
  obtain ⟨hk0, hg1⟩ := and_e hg0
  obtain ⟨i0, e0⟩ := isL_v hk0
  obtain rfl : w0 = (.long i0) := Option.some.inj e0
  obtain ⟨hk1, hg2⟩ := and_e hg1
  obtain ⟨i1, e1⟩ := isL_v hk1
  obtain rfl : w1 = (.long i1) := Option.some.inj e1
  obtain ⟨hk2, hg3⟩ := and_e hg2
  obtain ⟨i2, e2⟩ := is_v hk2
  obtain rfl : w2 = (.int i2) := Option.some.inj e2
  obtain ⟨hk3, hg4⟩ := and_e hg3
  obtain ⟨i3, e3⟩ := is_v hk3
  obtain rfl : w3 = (.int i3) := Option.some.inj e3
  obtain ⟨i4, e4⟩ := is_v hg4
  obtain rfl : w4 = (.int i4) := Option.some.inj e4
  obtain ⟨n, o, h1, h2, h3, _, L, rfl, ⟨rfl, N⟩, hq⟩ := own_rm0 l s _ hw i0 i1 i2 i3 i4 s.heap s.heap.size (Nat.le_refl _) p e ha hc hk s m _ below hf ((Spec.applies_iff_loose hf).mp happ).1 ⟨rfl, State.Warmed39.refl s, rfl⟩ trivial
  exact ⟨n, _, h1, h2, h3, hpost _ _ _ _ _ _ ⟨Cond.after_iff.mpr rfl, Cond.after_iff.mpr (eq_i res_at (Term.int_eval (1)) rfl), trivial⟩ ⟨hq.1, hq.2.1, hq.2.2.1, (hq.2.2.2.sift fun y hy => Or.inr (N y hy)).mono (by decide) (by decide)⟩⟩
theorem main_1_1 : Claimed_1_1 := comes_1 fun _ _ _ _ _ _ h hF => ⟨h.1, hF⟩
theorem main_1_2 : Claimed_1_2 := comes_1 fun _ _ _ _ _ _ h hF => ⟨h.2.1, hF⟩
end Jvm.Pilot.@@N@@
namespace Jvm.Pilot.@@N@@
open Jvm Jvm.ClassFile Sem Op Lib Jvm.Free Jvm.Stand Jvm.Pilot.@@N@@.Jvm.D
/-! MADE BY PROGRAM (witnessworld.py) out of the Statement's table words and the real class files: 15 classes; the members and pool entries that the words name. The judged class is class 1, her method 1. -/
namespace start1
open Jvm.ClassFile
def u (s : String) : CpInfo := .utf8 (stringToUtf16 s)
/-- a pool by its gaps: so many unusable entries, then the entry; so many at the end -/
def gap : Nat → List CpInfo → List CpInfo
  | 0, r => r
  | n + 1, r => .unusable :: gap n r
def poolList (es : List (Nat × CpInfo)) (last : Nat) : List CpInfo := es.foldr (fun e r => gap e.1 (e.2 :: r)) (gap last [])
def pool (es : List (Nat × CpInfo)) (last : Nat) : Array CpInfo := ⟨poolList es last⟩
def fileOf (pool : Array CpInfo) (this : Nat) (attrs : Array Attribute := #[]) (ms : Array MethodInfo := #[]) (fl : Nat := 33) (sup : Nat := 0) (ifs : Array Nat := #[]) (fds : Array FieldInfo := #[]) : ClassFile where
  minorVersion := 0
  majorVersion := 65
  constantPool := pool
  accessFlags := fl
  thisClass := this
  superClass := sup
  interfaces := ifs
  fields := fds
  methods := ms
  attributes := attrs
def plain (name : String) (sup : Option ClassId) : Class where
  name := name
  kind := .ordinary
  loader := none
  accessFlags := 33
  super := sup
  interfaces := #[]
  cf := none
  fields := #[]
  methods := #[]
  instanceTypes := #[]
  staticTypes := #[]
  resolved := #[]
  callSites := []
  init := .initialized
  statics := none
  mirror := none

def pool0 : Array CpInfo := pool [(5, u "<init>"), (0, u "()V"), (1, .class_ 10), (1, u "java/lang/Object")] 113

def k0c0 : Code := { maxStack := 0, maxLocals := 1, code := object_method_1_code, exceptionTable := #[], attributes := #[] }
def k0m0 : Method := { name := "<init>", desc := "()V", sig := { parameters := [], returnType := none }, accessFlags := 1, code := some k0c0 }
/-- java/lang/Object -/
def k0 : Class := { plain "java/lang/Object" none with
  accessFlags := 33
  interfaces := #[]
  cf := some (fileOf pool0 8 #[] #[{ accessFlags := 1, nameIndex := 5, descriptorIndex := 6, attributes := #[] }] 33 0 #[] #[])
  fields := #[]
  methods := #[k0m0]
  instanceTypes := #[]
  staticTypes := #[]
  resolved := Array.replicate 124 none
  statics := none }

def pool1 : Array CpInfo := pool [(2, .class_ 4), (1, u "java/lang/Object"), (0, u "<init>"), (0, u "()V"), (0, .integer 2147483647), (0, .methodref 9 10), (0, .class_ 11), (0, .nameAndType 12 13), (0, u "com/example/urutan/urutan/request/FieldCopyJsonPinLaw"), (0, u "b"), (0, u "(JI)B"), (0, .class_ 15), (0, u "com/example/urutan/urutan/request/Field"), (0, .string 17), (0, u "v"), (0, .methodref 14 19), (0, .nameAndType 5 20), (0, u "(Ljava/lang/String;[BII)V"), (0, .methodref 14 22), (0, .nameAndType 23 24), (0, u "copyJson"), (0, u "([BI)V"), (0, .methodref 9 26), (0, .nameAndType 27 28), (0, u "ok"), (0, u "([BJJIIII)Z"), (2, u "law"), (0, u "(JJIII)Z")] 5

def k1m0 : Method := { name := "<init>", desc := "()V", sig := { parameters := [], returnType := none }, accessFlags := 1, code := none }
def k1c1 : Code := { maxStack := 9, maxLocals := 13, code := code, exceptionTable := #[], attributes := #[] }
def k1m1 : Method := { name := "law", desc := "(JJIII)Z", sig := { parameters := [.long, .long, .int, .int, .int], returnType := some .boolean }, accessFlags := 9, code := some k1c1 }
def k1c2 : Code := { maxStack := 4, maxLocals := 3, code := method_3_code, exceptionTable := #[], attributes := #[] }
def k1m2 : Method := { name := "b", desc := "(JI)B", sig := { parameters := [.long, .int], returnType := some .byte }, accessFlags := 10, code := some k1c2 }
def k1c3 : Code := { maxStack := 5, maxLocals := 10, code := method_4_code, exceptionTable := #[], attributes := #[] }
def k1m3 : Method := { name := "ok", desc := "([BJJIIII)Z", sig := { parameters := [(.array .byte), .long, .long, .int, .int, .int, .int], returnType := some .boolean }, accessFlags := 10, code := some k1c3 }
/-- com/example/urutan/urutan/request/FieldCopyJsonPinLaw -/
def k1 : Class := { plain "com/example/urutan/urutan/request/FieldCopyJsonPinLaw" (some 0) with
  accessFlags := 49
  interfaces := #[]
  cf := some (fileOf pool1 9 #[] #[{ accessFlags := 1, nameIndex := 5, descriptorIndex := 6, attributes := #[] }, { accessFlags := 9, nameIndex := 31, descriptorIndex := 32, attributes := #[] }, { accessFlags := 10, nameIndex := 12, descriptorIndex := 13, attributes := #[] }, { accessFlags := 10, nameIndex := 27, descriptorIndex := 28, attributes := #[] }] 49 2 #[] #[])
  fields := #[]
  methods := #[k1m0, k1m1, k1m2, k1m3]
  instanceTypes := #[]
  staticTypes := #[]
  resolved := Array.replicate 38 none
  statics := none }

def pool2 : Array CpInfo := pool [(1, .methodref 2 3), (0, .class_ 4), (0, .nameAndType 5 6), (0, u "java/lang/Object"), (0, u "<init>"), (0, u "()V"), (0, .fieldref 8 9), (0, .class_ 10), (0, .nameAndType 11 12), (0, u "com/example/urutan/urutan/request/Field"), (0, u "name"), (0, u "Ljava/lang/String;"), (0, .fieldref 8 14), (0, .nameAndType 15 16), (0, u "json"), (0, u "[B"), (0, .fieldref 8 18), (0, .nameAndType 19 20), (0, u "offset"), (0, u "I"), (0, .fieldref 8 22), (0, .nameAndType 23 20), (0, u "length"), (0, .methodref 25 26), (0, .class_ 27), (0, .nameAndType 28 29), (0, u "java/lang/System"), (0, u "arraycopy"), (0, u "(Ljava/lang/Object;ILjava/lang/Object;II)V"), (0, u "(Ljava/lang/String;[BII)V"), (5, u "copyJson"), (0, u "([BI)V")] 2

def k2c0 : Code := { maxStack := 2, maxLocals := 5, code := prog_33_method_1_code, exceptionTable := #[], attributes := #[] }
def k2m0 : Method := { name := "<init>", desc := "(Ljava/lang/String;[BII)V", sig := { parameters := [(.object "java/lang/String"), (.array .byte), .int, .int], returnType := none }, accessFlags := 0, code := some k2c0 }
def k2c1 : Code := { maxStack := 5, maxLocals := 3, code := prog_33_method_4_code, exceptionTable := #[], attributes := #[] }
def k2m1 : Method := { name := "copyJson", desc := "([BI)V", sig := { parameters := [(.array .byte), .int], returnType := none }, accessFlags := 1, code := some k2c1 }
/-- com/example/urutan/urutan/request/Field -/
def k2 : Class := { plain "com/example/urutan/urutan/request/Field" (some 0) with
  accessFlags := 49
  interfaces := #[]
  cf := some (fileOf pool2 8 #[] #[{ accessFlags := 0, nameIndex := 5, descriptorIndex := 30, attributes := #[] }, { accessFlags := 1, nameIndex := 36, descriptorIndex := 37, attributes := #[] }] 49 2 #[] #[{ accessFlags := 18, nameIndex := 11, descriptorIndex := 12, attributes := #[] }, { accessFlags := 18, nameIndex := 15, descriptorIndex := 16, attributes := #[] }, { accessFlags := 18, nameIndex := 19, descriptorIndex := 20, attributes := #[] }, { accessFlags := 18, nameIndex := 23, descriptorIndex := 20, attributes := #[] }])
  fields := #[{ name := "name", type := (.object "java/lang/String"), accessFlags := 18, slot := 0, constantValue := 0 }, { name := "json", type := (.array .byte), accessFlags := 18, slot := 1, constantValue := 0 }, { name := "offset", type := .int, accessFlags := 18, slot := 2, constantValue := 0 }, { name := "length", type := .int, accessFlags := 18, slot := 3, constantValue := 0 }]
  methods := #[k2m0, k2m1]
  instanceTypes := #[(.object "java/lang/String"), (.array .byte), .int, .int]
  staticTypes := #[]
  resolved := Array.replicate 40 none
  statics := none }

def pool3 : Array CpInfo := pool [(1, .class_ 2), (0, u "java/io/Serializable"), (0, .class_ 4), (0, u "java/lang/Object")] 2

/-- java/io/Serializable -/
def k3 : Class := { plain "java/io/Serializable" (some 0) with
  accessFlags := 1537
  interfaces := #[]
  cf := some (fileOf pool3 1 #[] #[] 1537 3 #[] #[])
  fields := #[]
  methods := #[]
  instanceTypes := #[]
  staticTypes := #[]
  resolved := Array.replicate 7 none
  statics := none }

def pool4 : Array CpInfo := pool [(1, .class_ 2), (0, u "java/lang/Comparable"), (0, .class_ 4), (0, u "java/lang/Object")] 7

/-- java/lang/Comparable -/
def k4 : Class := { plain "java/lang/Comparable" (some 0) with
  accessFlags := 1537
  interfaces := #[]
  cf := some (fileOf pool4 1 #[] #[] 1537 3 #[] #[])
  fields := #[]
  methods := #[]
  instanceTypes := #[]
  staticTypes := #[]
  resolved := Array.replicate 12 none
  statics := none }

def pool5 : Array CpInfo := pool [(2, .class_ 4), (1, u "java/lang/CharSequence"), (42, .class_ 48), (0, u "java/lang/CharSequence$1CodePointIterator"), (10, .class_ 60), (0, u "java/lang/CharSequence$1CharIterator"), (5, .class_ 67), (0, u "java/lang/Object")] 63

/-- java/lang/CharSequence -/
def k5 : Class := { plain "java/lang/CharSequence" (some 0) with
  accessFlags := 1537
  interfaces := #[]
  cf := some (fileOf pool5 2 #[.nestMembers #[47, 59]] #[] 1537 66 #[] #[])
  fields := #[]
  methods := #[]
  instanceTypes := #[]
  staticTypes := #[]
  resolved := Array.replicate 131 none
  statics := none }

def pool6 : Array CpInfo := pool [(1, .class_ 2), (0, u "java/lang/constant/Constable"), (0, .class_ 4), (0, u "java/lang/Object")] 6

/-- java/lang/constant/Constable -/
def k6 : Class := { plain "java/lang/constant/Constable" (some 0) with
  accessFlags := 1537
  interfaces := #[]
  cf := some (fileOf pool6 1 #[] #[] 1537 3 #[] #[])
  fields := #[]
  methods := #[]
  instanceTypes := #[]
  staticTypes := #[]
  resolved := Array.replicate 11 none
  statics := none }

def pool7 : Array CpInfo := pool [(1, .class_ 2), (0, u "java/lang/constant/ConstantDesc"), (0, .class_ 4), (0, u "java/lang/Object")] 32

/-- java/lang/constant/ConstantDesc -/
def k7 : Class := { plain "java/lang/constant/ConstantDesc" (some 0) with
  accessFlags := 1537
  interfaces := #[]
  cf := some (fileOf pool7 1 #[] #[] 1537 3 #[] #[])
  fields := #[]
  methods := #[]
  instanceTypes := #[]
  staticTypes := #[]
  resolved := Array.replicate 37 none
  statics := none }

def pool8 : Array CpInfo := pool [(2, .class_ 4), (1, u "java/lang/Object"), (0, u "<init>"), (0, u "()V"), (3, .class_ 12), (1, u "java/lang/String"), (0, u "value"), (0, u "[B"), (2, u "coder"), (0, u "B"), (2, u "hash"), (0, u "I"), (2, u "hashIsZero"), (0, u "Z"), (13, u "COMPACT_STRINGS"), (534, .class_ 576), (0, u "java/lang/CharSequence"), (22, u "CASE_INSENSITIVE_ORDER"), (0, u "Ljava/util/Comparator;"), (500, u "serialPersistentFields"), (0, u "[Ljava/io/ObjectStreamField;"), (0, .class_ 1104), (0, u "java/lang/String$CaseInsensitiveComparator"), (1, .class_ 1107), (0, u "java/io/Serializable"), (0, .class_ 1109), (0, u "java/lang/Comparable"), (0, .class_ 1111), (0, u "java/lang/constant/Constable"), (0, .class_ 1113), (0, u "java/lang/constant/ConstantDesc"), (2, u "serialVersionUID"), (0, u "J"), (3, u "REPL"), (0, u "C"), (2, u "LATIN1"), (1, u "UTF16")] 323

def k8m0 : Method := { name := "<init>", desc := "()V", sig := { parameters := [], returnType := none }, accessFlags := 1, code := none }
/-- java/lang/String -/
def k8 : Class := { plain "java/lang/String" (some 0) with
  accessFlags := 49
  interfaces := #[3, 4, 5, 6, 7]
  cf := some (fileOf pool8 10 #[.nestMembers #[1103]] #[{ accessFlags := 1, nameIndex := 5, descriptorIndex := 6, attributes := #[] }] 49 2 #[1106, 1108, 575, 1110, 1112] #[{ accessFlags := 18, nameIndex := 13, descriptorIndex := 14, attributes := #[] }, { accessFlags := 18, nameIndex := 17, descriptorIndex := 18, attributes := #[] }, { accessFlags := 2, nameIndex := 21, descriptorIndex := 22, attributes := #[] }, { accessFlags := 2, nameIndex := 25, descriptorIndex := 26, attributes := #[] }, { accessFlags := 26, nameIndex := 1116, descriptorIndex := 1117, attributes := #[] }, { accessFlags := 24, nameIndex := 40, descriptorIndex := 26, attributes := #[] }, { accessFlags := 26, nameIndex := 1101, descriptorIndex := 1102, attributes := #[] }, { accessFlags := 26, nameIndex := 1121, descriptorIndex := 1122, attributes := #[] }, { accessFlags := 25, nameIndex := 599, descriptorIndex := 600, attributes := #[] }, { accessFlags := 24, nameIndex := 1125, descriptorIndex := 18, attributes := #[] }, { accessFlags := 24, nameIndex := 1127, descriptorIndex := 18, attributes := #[] }])
  fields := #[{ name := "value", type := (.array .byte), accessFlags := 18, slot := 0, constantValue := 0 }, { name := "coder", type := .byte, accessFlags := 18, slot := 1, constantValue := 0 }, { name := "hash", type := .int, accessFlags := 2, slot := 2, constantValue := 0 }, { name := "hashIsZero", type := .boolean, accessFlags := 2, slot := 3, constantValue := 0 }, { name := "serialVersionUID", type := .long, accessFlags := 26, slot := 0, constantValue := 0 }, { name := "COMPACT_STRINGS", type := .boolean, accessFlags := 24, slot := 1, constantValue := 0 }, { name := "serialPersistentFields", type := (.array (.object "java/io/ObjectStreamField")), accessFlags := 26, slot := 2, constantValue := 0 }, { name := "REPL", type := .char, accessFlags := 26, slot := 3, constantValue := 0 }, { name := "CASE_INSENSITIVE_ORDER", type := (.object "java/util/Comparator"), accessFlags := 25, slot := 4, constantValue := 0 }, { name := "LATIN1", type := .byte, accessFlags := 24, slot := 5, constantValue := 0 }, { name := "UTF16", type := .byte, accessFlags := 24, slot := 6, constantValue := 0 }]
  methods := #[k8m0]
  instanceTypes := #[(.array .byte), .byte, .int, .boolean]
  staticTypes := #[.long, .boolean, (.array (.object "java/io/ObjectStreamField")), .char, (.object "java/util/Comparator"), .byte, .byte]
  resolved := Array.replicate 1451 none
  statics := none }

def pool9 : Array CpInfo := pool [(2, .class_ 4), (1, u "java/lang/Object"), (0, u "<init>"), (0, u "()V"), (1, .class_ 10), (1, u "java/lang/System"), (0, u "allowSecurityManager"), (0, u "I"), (16, u "cons"), (0, u "Ljava/io/Console;"), (77, .class_ 110), (1, u "java/lang/System$CallersHolder"), (43, u "initialErrStream"), (0, u "Ljava/io/PrintStream;"), (19, u "security"), (0, u "Ljava/lang/SecurityManager;"), (31, .class_ 209), (0, u "java/lang/System$1"), (7, u "props"), (0, u "Ljava/util/Properties;"), (2, u "lineSeparator"), (0, u "Ljava/lang/String;"), (96, .class_ 321), (1, u "java/lang/System$LoggerFinder"), (5, .class_ 328), (0, u "java/lang/System$Logger"), (67, u "err"), (2, u "out"), (91, u "notSupportedJnuEncoding"), (15, u "in"), (17, u "initialIn"), (0, u "Ljava/io/InputStream;"), (35, u "bootLayer"), (0, u "Ljava/lang/ModuleLayer;"), (99, .class_ 664), (0, u "java/lang/System$2"), (9, u "NEVER"), (2, u "MAYBE"), (49, u "arraycopy"), (0, u "(Ljava/lang/Object;ILjava/lang/Object;II)V"), (72, .class_ 802), (0, u "java/lang/System$Logger$Level")] 31

def k9m0 : Method := { name := "<init>", desc := "()V", sig := { parameters := [], returnType := none }, accessFlags := 2, code := none }
def k9m1 : Method := { name := "arraycopy", desc := "(Ljava/lang/Object;ILjava/lang/Object;II)V", sig := { parameters := [(.object "java/lang/Object"), .int, (.object "java/lang/Object"), .int, .int], returnType := none }, accessFlags := 265, code := none }
/-- java/lang/System -/
def k9 : Class := { plain "java/lang/System" (some 0) with
  accessFlags := 49
  interfaces := #[]
  cf := some (fileOf pool9 8 #[.nestMembers #[319, 327, 801, 108, 663, 208]] #[{ accessFlags := 2, nameIndex := 5, descriptorIndex := 6, attributes := #[] }, { accessFlags := 265, nameIndex := 727, descriptorIndex := 728, attributes := #[] }] 49 2 #[] #[{ accessFlags := 25, nameIndex := 507, descriptorIndex := 526, attributes := #[] }, { accessFlags := 25, nameIndex := 399, descriptorIndex := 155, attributes := #[] }, { accessFlags := 25, nameIndex := 396, descriptorIndex := 155, attributes := #[] }, { accessFlags := 10, nameIndex := 525, descriptorIndex := 526, attributes := #[] }, { accessFlags := 26, nameIndex := 674, descriptorIndex := 12, attributes := #[] }, { accessFlags := 26, nameIndex := 677, descriptorIndex := 12, attributes := #[] }, { accessFlags := 10, nameIndex := 11, descriptorIndex := 12, attributes := #[] }, { accessFlags := 74, nameIndex := 175, descriptorIndex := 176, attributes := #[] }, { accessFlags := 10, nameIndex := 491, descriptorIndex := 222, attributes := #[] }, { accessFlags := 74, nameIndex := 29, descriptorIndex := 30, attributes := #[] }, { accessFlags := 74, nameIndex := 154, descriptorIndex := 155, attributes := #[] }, { accessFlags := 10, nameIndex := 217, descriptorIndex := 218, attributes := #[] }, { accessFlags := 10, nameIndex := 221, descriptorIndex := 222, attributes := #[] }, { accessFlags := 8, nameIndex := 562, descriptorIndex := 563, attributes := #[] }])
  fields := #[{ name := "in", type := (.object "java/io/InputStream"), accessFlags := 25, slot := 0, constantValue := 0 }, { name := "out", type := (.object "java/io/PrintStream"), accessFlags := 25, slot := 1, constantValue := 0 }, { name := "err", type := (.object "java/io/PrintStream"), accessFlags := 25, slot := 2, constantValue := 0 }, { name := "initialIn", type := (.object "java/io/InputStream"), accessFlags := 10, slot := 3, constantValue := 0 }, { name := "NEVER", type := .int, accessFlags := 26, slot := 4, constantValue := 0 }, { name := "MAYBE", type := .int, accessFlags := 26, slot := 5, constantValue := 0 }, { name := "allowSecurityManager", type := .int, accessFlags := 10, slot := 6, constantValue := 0 }, { name := "security", type := (.object "java/lang/SecurityManager"), accessFlags := 74, slot := 7, constantValue := 0 }, { name := "notSupportedJnuEncoding", type := (.object "java/lang/String"), accessFlags := 10, slot := 8, constantValue := 0 }, { name := "cons", type := (.object "java/io/Console"), accessFlags := 74, slot := 9, constantValue := 0 }, { name := "initialErrStream", type := (.object "java/io/PrintStream"), accessFlags := 74, slot := 10, constantValue := 0 }, { name := "props", type := (.object "java/util/Properties"), accessFlags := 10, slot := 11, constantValue := 0 }, { name := "lineSeparator", type := (.object "java/lang/String"), accessFlags := 10, slot := 12, constantValue := 0 }, { name := "bootLayer", type := (.object "java/lang/ModuleLayer"), accessFlags := 8, slot := 13, constantValue := 0 }]
  methods := #[k9m0, k9m1]
  instanceTypes := #[]
  staticTypes := #[(.object "java/io/InputStream"), (.object "java/io/PrintStream"), (.object "java/io/PrintStream"), (.object "java/io/InputStream"), .int, .int, .int, (.object "java/lang/SecurityManager"), (.object "java/lang/String"), (.object "java/io/Console"), (.object "java/io/PrintStream"), (.object "java/util/Properties"), (.object "java/lang/String"), (.object "java/lang/ModuleLayer")]
  resolved := Array.replicate 834 none
  statics := none }

def pool10 : Array CpInfo := pool [(1, u "java/lang/Cloneable"), (0, .class_ 1), (0, u "java/lang/Object"), (0, .class_ 3)] 3

/-- java/lang/Cloneable -/
def k10 : Class := { plain "java/lang/Cloneable" (some 0) with
  accessFlags := 1537
  interfaces := #[]
  cf := some (fileOf pool10 2 #[] #[] 1537 4 #[] #[])
  fields := #[]
  methods := #[]
  instanceTypes := #[]
  staticTypes := #[]
  resolved := Array.replicate 8 none
  statics := none }

/-- the primitive byte -/
def k11 : Class := { plain "byte" none with kind := .primitive 'B', accessFlags := 0x411 }
/-- [B -/
def k12 : Class := { plain "[B" (some 0) with kind := .array 11 .byte, interfaces := #[10, 3], accessFlags := 1041 }

/-- the primitive int -/
def k13 : Class := { plain "int" none with kind := .primitive 'I', accessFlags := 0x411 }
/-- [I -/
def k14 : Class := { plain "[I" (some 0) with kind := .array 13 .int, interfaces := #[10, 3], accessFlags := 1041 }

def heap : Heap := #[]
def classes : Array Class := #[k0, k1, k2, k3, k4, k5, k6, k7, k8, k9, k10, k11, k12, k13, k14]
def interned : List (Array UInt16 × Addr) := []
def slotsUsed : Nat := 0
def theMethod : MethodId := ⟨1, 1⟩
def args0 : Array Value := #[.long 5, .long 7, .int 3, .int 1, .int 1]
def aboutOver (below : List Frame) : State where
  vm := { classes := classes, interned := interned.toArray }
  heap := heap
  slotsUsed := slotsUsed
  threads := #[{ frames := .invoking theMethod args0 :: below }]
def below0 : List Frame := [.native { method := ⟨0, 0⟩, args := #[] }]
def about1 : State := aboutOver below0
def p0 : Program := .bare "" "" ""
def e0 : Env := launch0.env 0 0 0
theorem w_frames : about1.frames = Frame.invoking theMethod args0 :: below0 := rfl
set_option maxRecDepth 65536 in
theorem w_args : argsFit about1.vm theMethod args0 = true := by decide +kernel
set_option maxRecDepth 65536 in
theorem w_heap : heapFits about1 = true := by decide +kernel
set_option maxRecDepth 65536 in
theorem w_runnable : about1.curStatus? = some .runnable := by decide +kernel
set_option maxRecDepth 65536 in
theorem w_alone : about1.alone = true := by decide +kernel
set_option maxRecDepth 65536 in
theorem w_named : about1.methodNamed? x = some theMethod := by decide +kernel
set_option maxRecDepth 65536 in
theorem w_hears : about1.hears theMethod below0 = true := by decide +kernel
set_option maxRecDepth 65536 in
theorem w_ripe : about1.ripe theMethod args0 below0 = true := by decide +kernel
theorem w_running : about1.status = .running := rfl
set_option maxRecDepth 65536 in
theorem w_room : about1.hasRoom e0.platform room_1 = true :=
  launch0.hasRoom_least _ room_1 (by decide +kernel) (by decide +kernel) (by decide +kernel) (by decide +kernel) (by decide +kernel) (by decide +kernel)
theorem allAtoms_all (ts : List Jvm.Cond) (a : Array Jvm.Value) (st : Jvm.State) : (allAtoms ts).before a st = ts.all (fun c => c.before a st) := by
  induction ts with
  | nil => rfl
  | cons c t ih =>
    show (Jvm.Cond.and c (allAtoms t)).before a st = _
    rw [Jvm.Cond.before_and, ih, List.all_cons]
def words1 : List Jvm.Cond := Jvm.Cond.code x code maxLocals ret :: tables_1
/-- a 'code' word, met by the world's own term for the bytes: nothing is compared byte by byte -/
theorem code_word {y : MethodName} {bytes : ByteArray} {mx : Nat} {rt : Option FieldType} {a : Array Value} {s : State} {m : MethodId} {meth : Method} {c : Code} (h1 : s.methodNamed? y = some m) (h2 : s.vm.method? m = some meth) (h3 : meth.code = some c) (h4 : c.code = bytes)
    (h5 : (c.maxLocals == mx && c.exceptionTable.isEmpty && decide (c.maxStack ≤ mostOperands) && decide (meth.sig.returnType = rt) && !meth.locks && decide (parseMethodDescriptor y.desc = some meth.sig)) = true) : (Jvm.Cond.code y bytes mx rt).before a s = true := by
  simp only [Bool.and_eq_true, beq_iff_eq, Bool.not_eq_true', decide_eq_true_eq] at h5
  obtain ⟨⟨⟨⟨⟨g1, g2⟩, g3⟩, g4⟩, g5⟩, g6⟩ := h5
  simp [Cond.before, Cond.holds, Cond.value, h1, h2, h3, h4, g1, g2, g3, g4, g5, g6]
def isCode : Jvm.Cond → Bool
  | .code _ _ _ _ => true
  | _ => false
theorem all_split {L : List Jvm.Cond} {P : Jvm.Cond → Bool} (h1 : L.all (fun c => isCode c || P c) = true) (h2 : ∀ c ∈ L.filter isCode, P c = true) : L.all P = true := by
  refine List.all_eq_true.mpr fun c hc => ?_
  have h := List.all_eq_true.mp h1 c hc
  rcases Bool.eq_false_or_eq_true (isCode c) with hi | hi
  · exact h2 c (List.mem_filter.mpr ⟨hc, hi⟩)
  · simpa [hi] using h
set_option maxRecDepth 65536 in
theorem w_c0 : (Jvm.Cond.code x code maxLocals ret).before args0 about1 = true := code_word (m := ⟨1, 1⟩) (meth := k1m1) (c := k1c1) (by decide +kernel) rfl rfl rfl (by decide +kernel)
set_option maxRecDepth 65536 in
theorem w_c1 : (Jvm.Cond.code ({ cls := "com/example/urutan/urutan/request/FieldCopyJsonPinLaw", name := "b", desc := "(JI)B" } : Jvm.MethodName) method_3_code (3 : Nat) (Option.some Jvm.ClassFile.FieldType.byte)).before args0 about1 = true := code_word (m := ⟨1, 2⟩) (meth := k1m2) (c := k1c2) (by decide +kernel) rfl rfl rfl (by decide +kernel)
set_option maxRecDepth 65536 in
theorem w_c2 : (Jvm.Cond.code ({ cls := "com/example/urutan/urutan/request/Field", name := "<init>", desc := "(Ljava/lang/String;[BII)V" } : Jvm.MethodName) prog_33_method_1_code (5 : Nat) (Option.none : Option Jvm.ClassFile.FieldType)).before args0 about1 = true := code_word (m := ⟨2, 0⟩) (meth := k2m0) (c := k2c0) (by decide +kernel) rfl rfl rfl (by decide +kernel)
set_option maxRecDepth 65536 in
theorem w_c3 : (Jvm.Cond.code ({ cls := "java/lang/Object", name := "<init>", desc := "()V" } : Jvm.MethodName) object_method_1_code (1 : Nat) (Option.none : Option Jvm.ClassFile.FieldType)).before args0 about1 = true := code_word (m := ⟨0, 0⟩) (meth := k0m0) (c := k0c0) (by decide +kernel) rfl rfl rfl (by decide +kernel)
set_option maxRecDepth 65536 in
theorem w_c4 : (Jvm.Cond.code ({ cls := "com/example/urutan/urutan/request/Field", name := "copyJson", desc := "([BI)V" } : Jvm.MethodName) prog_33_method_4_code (3 : Nat) (Option.none : Option Jvm.ClassFile.FieldType)).before args0 about1 = true := code_word (m := ⟨2, 1⟩) (meth := k2m1) (c := k2c1) (by decide +kernel) rfl rfl rfl (by decide +kernel)
set_option maxRecDepth 65536 in
theorem w_c5 : (Jvm.Cond.code ({ cls := "com/example/urutan/urutan/request/FieldCopyJsonPinLaw", name := "ok", desc := "([BJJIIII)Z" } : Jvm.MethodName) method_4_code (10 : Nat) (Option.some Jvm.ClassFile.FieldType.boolean)).before args0 about1 = true := code_word (m := ⟨1, 3⟩) (meth := k1m3) (c := k1c3) (by decide +kernel) rfl rfl rfl (by decide +kernel)
def codes1 : List Jvm.Cond := [Jvm.Cond.code x code maxLocals ret, Jvm.Cond.code ({ cls := "com/example/urutan/urutan/request/FieldCopyJsonPinLaw", name := "b", desc := "(JI)B" } : Jvm.MethodName) method_3_code (3 : Nat) (Option.some Jvm.ClassFile.FieldType.byte), Jvm.Cond.code ({ cls := "com/example/urutan/urutan/request/Field", name := "<init>", desc := "(Ljava/lang/String;[BII)V" } : Jvm.MethodName) prog_33_method_1_code (5 : Nat) (Option.none : Option Jvm.ClassFile.FieldType), Jvm.Cond.code ({ cls := "java/lang/Object", name := "<init>", desc := "()V" } : Jvm.MethodName) object_method_1_code (1 : Nat) (Option.none : Option Jvm.ClassFile.FieldType), Jvm.Cond.code ({ cls := "com/example/urutan/urutan/request/Field", name := "copyJson", desc := "([BI)V" } : Jvm.MethodName) prog_33_method_4_code (3 : Nat) (Option.none : Option Jvm.ClassFile.FieldType), Jvm.Cond.code ({ cls := "com/example/urutan/urutan/request/FieldCopyJsonPinLaw", name := "ok", desc := "([BJJIIII)Z" } : Jvm.MethodName) method_4_code (10 : Nat) (Option.some Jvm.ClassFile.FieldType.boolean)]
set_option maxRecDepth 65536 in
theorem codes_eq : words1.filter isCode = codes1 := rfl
theorem w_codes : ∀ c ∈ words1.filter isCode, c.before args0 about1 = true := by
  rw [codes_eq]
  intro c hc
  simp only [codes1, List.mem_cons, List.not_mem_nil, or_false] at hc
  rcases hc with rfl | rfl | rfl | rfl | rfl | rfl
  · exact w_c0
  · exact w_c1
  · exact w_c2
  · exact w_c3
  · exact w_c4
  · exact w_c5
set_option maxRecDepth 65536 in
theorem w_t1 : (words1.take 24).all (fun c => isCode c || c.before args0 about1) = true := by decide +kernel
set_option maxRecDepth 65536 in
theorem w_t2 : (words1.drop 24).all (fun c => isCode c || c.before args0 about1) = true := by decide +kernel
theorem w_tables : (allAtoms (Jvm.Cond.code x code maxLocals ret :: tables_1)).before args0 about1 = true := by
  rw [allAtoms_all]
  show words1.all (fun c => c.before args0 about1) = true
  refine all_split ?_ w_codes
  rw [← List.take_append_drop 24 words1, List.all_append, w_t1, w_t2]
  rfl
set_option maxRecDepth 65536 in
theorem w_case : (Jvm.Cond.and given_1 narrow_1).before args0 about1 = true := by decide +kernel
theorem w_applies : (headSpec (Jvm.Cond.code x code maxLocals ret :: tables_1) room_1).applies x e0.platform about1 = true :=
  (Spec.applies_iff w_frames).mpr ⟨w_running, w_runnable, w_alone, w_named, w_hears, w_ripe, w_room, w_tables⟩
theorem atStart : AtStart classFile x code maxLocals ret World_1 tables_1 room_1 Calls_1 rest_1 Pre_1 launch0 p0 e0 about1 theMethod args0 below0 :=
  ⟨lists_1, trivial, launch0.admits_env _ _ _, launch0.least_env, fairChoices_fair.cas, fairChoices_fair.clock, w_frames, w_args, w_heap, w_applies, trivial, trivial, w_case⟩
end start1
theorem witness_1 : WitnessClaimed_1 := ⟨start1.p0, start1.e0, start1.about1, start1.theMethod, start1.args0, start1.below0, start1.atStart⟩
end Jvm.Pilot.@@N@@
