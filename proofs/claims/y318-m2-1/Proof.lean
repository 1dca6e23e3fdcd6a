import JvmDerived
import JvmDerived.Pilot.@@N@@Statement
import JvmDerived.Pilot.@@N@@Code
set_option linter.unusedVariables false
set_option linter.unusedSimpArgs false
namespace Jvm.OwnGo
open Sem ClassFile Op Lib Jvm.Stand Jvm.Free Jvm.LawKit Jvm.RoadKit Bundle
section OwnFacts
variable {Z : State} {h h' : Heap} {a b t : Addr} {C n d : String} {v w : Value} {ws : List Addr} {bo : Bool} {ka kb : ClassId} {ty : FieldType} {z : Int32} {vs : List Value} {dv : Value} {cs : List Int32} {sl : Nat}
theorem Sta_keep (F : Sta Z h C n d v) (K : Keep h h' []) : Sta Z h' C n d v := by
  obtain ⟨cf, i, k, f, st, cell, h1, h2, h3, h4, h5, h6, h7⟩ := F
  exact ⟨cf, i, k, f, st, cell, h1, h2, h3, h4, K.2.1 _ _ h5 nin0, h6, h7⟩
theorem Ins_keep (F : Ins Z h a C bo) (K : Keep h h' ws) : Ins Z h' a C bo := by
  obtain ⟨cell, cT, h1, h2, h3⟩ := F
  obtain ⟨c', q, r1, r2, r3⟩ := K.2.2 a cell h1
  exact ⟨c', cT, q, h2, by rw [r1, r2]; exact h3⟩
theorem own_sto {y : Addr} (F : Arv Z h a ka ty z vs dv) (O : Ovr Z ka C) (I : Ins Z h y C true) : Sto Z h a (.ref y) := by
  obtain ⟨cl, A, q, -⟩ := F
  exact Sto.ofV A q O I
theorem Sta_keepE (F : Sta Z h C n d v) (K : Keep h h' ws) (q : ∀ x ∈ ws, ∃ Cx, Exa Z h x Cx) : Sta Z h' C n d v := by
  obtain ⟨cf, i, k, f, st, cell, h1, h2, h3, h4, h5, h6, h7⟩ := F
  refine ⟨cf, i, k, f, st, cell, h1, h2, h3, h4, K.2.1 _ _ h5 (fun hm => ?_), h6, h7⟩
  obtain ⟨Cx, c1, k1, e1, -, -, e4, -⟩ := q _ hm
  cases e1.symm.trans h5
  rw [e4] at h6; cases h6
theorem own_ne_arv {a0 : Array Value} {nk : Nat} (F : Exa Z h a C) (wi : (Cond.instantiable C nk).before a0 Z = true) (G : Arv Z h b ka ty z vs dv) : a ≠ b := by
  obtain ⟨cl, A, -⟩ := G
  exact ne_arr F wi A
/-- the String at a: one byte a char, its array at t -/
def Str (Z : State) (h : Heap) (a t : Addr) (kb : ClassId) (cs : List Int32) : Prop :=
  Exa Z h a "java/lang/String" ∧ Fld Z h a "java/lang/String" "coder" "B" (.int 0) ∧ Fld Z h a "java/lang/String" "value" "[B" (.ref t) ∧ Arv Z h t kb .byte (Int32.ofNat cs.length) ((cs.map fun c => c.toInt8.toInt32).map Value.int) (.int 0) ∧ cs.length ≤ 4000 ∧ ∀ c ∈ cs, ¬ c < 0 ∧ ¬ (255 : Int32) < c
theorem Str.keep (S : Str Z h a t kb cs) (K : Keep h h' ws) (q : a ∉ ws) (r : t ∉ ws) : Str Z h' a t kb cs := ⟨S.1.keep K, S.2.1.keep K q, S.2.2.1.keep K q, S.2.2.2.1.keep K r, S.2.2.2.2⟩
theorem Str.ext (S : Str Z h a t kb cs) (E : Ext h h') : Str Z h' a t kb cs := ⟨S.1.ext E, S.2.1.ext E, S.2.2.1.ext E, S.2.2.2.1.ext E, S.2.2.2.2⟩
theorem Str.other (S : Str Z h a t kb cs) (W : Wr h h' b sl v) (q : a ≠ b) (r : t ≠ b) : Str Z h' a t kb cs := ⟨S.1.wr W, S.2.1.other W (Or.inl q), S.2.2.1.other W (Or.inl q), S.2.2.2.1.other W r, S.2.2.2.2⟩
theorem Str.tlt (S : Str Z h a t kb cs) : t < h.size := S.2.2.2.1.lt
/-- C's chain of superclasses does not meet K, a class that can be made -/
theorem own_root {a0 : Array Value} {O K : String} {nk : Nat} (w : (Cond.noSuperclass O).before a0 Z = true) (wk : (Cond.instantiable K nk).before a0 Z = true) (hn : O ≠ K) : NS Z O K := by
  obtain ⟨c, k, h1, h2, h3, -, -⟩ := Cond.noSuperclass_spec w
  obtain ⟨t, kt, g1, -⟩ := Cond.instantiable_spec wk
  have ne := ids_ne h1 g1 hn
  refine ⟨c, t, h1, g1, fun fuel => ?_⟩
  cases fuel with
  | zero => rfl
  | succ f => simp [Vm.isSubclassAux, ne, h2, h3]
theorem own_no {a0 : Array Value} {C S K : String} {nk : Nat} (w : (Cond.superclass C S).before a0 Z = true) (wk : (Cond.instantiable K nk).before a0 Z = true) (n : NS Z C K) (hn : C ≠ K) : ∃ c t, Z.vm.findClass C = some c ∧ Z.vm.findClass K = some t ∧ Z.vm.assignable c t = false := by
  obtain ⟨c, t, h0, g0, n3⟩ := n
  obtain ⟨p, k, kp, h1, h2, h3, h4, h5, -, h7⟩ := Cond.superclass_spec h0 w
  obtain ⟨t', k', g1, g2, g3, g4, -⟩ := Cond.instantiable_spec wk
  cases g0.symm.trans g1
  have g5 : k'.isInterface = false := by
    cases hi : k'.isInterface <;> simp [hi] at g4 ⊢
  have ne := ids_ne h0 g0 hn
  refine ⟨c, t, h0, g0, ?_⟩
  show Z.vm.assignableAux (255 + 1) c t = false
  simp [Vm.assignableAux, ne, h2, g2, h5, g3, g5, Vm.isSubclass, n3]
/-- the boxes that stood before -/
def Box (Z : State) (h : Heap) (a : Addr) (K d : String) (z : Int32) (val : Int32 → Value) : Prop :=
  ∃ c : Cell, Arr Z h a c (.object K) ∧ c.slots.size = z.toNatClampNeg ∧ ¬ z < 0 ∧ ∀ j : Int32, ¬ (j < 0 ∨ c.slots.size ≤ j.toNatClampNeg) → ∃ b : Addr, c.slots[j.toNatClampNeg]? = some (.ref b) ∧ Exa Z h b K ∧ Fld Z h b K "value" d (val j)
theorem Box.start {K : String} {val : Int32 → Value} {c : Cell} (F : Bxs Z a c K d z val) : Box Z Z.heap a K d z val := ⟨c, F.1, F.2.1, F.2.2.1, F.2.2.2⟩
theorem Box.keep {K : String} {val : Int32 → Value} (F : Box Z h a K d z val) (Kp : Keep h h' []) : Box Z h' a K d z val := by
  obtain ⟨c, f1, f2, f3, f4⟩ := F
  refine ⟨c, ⟨Kp.2.1 _ _ f1.1 nin0, f1.2⟩, f2, f3, fun j hj => ?_⟩
  obtain ⟨b, q1, q2, q3⟩ := f4 j hj
  exact ⟨b, q1, q2.keep Kp, q3.keep Kp nin0⟩
end OwnFacts
end Jvm.OwnGo
namespace Jvm.OwnGo
open Sem ClassFile Op Lib Jvm.Stand Jvm.Free Jvm.LawKit Jvm.RoadKit Bundle
section OwnGo
variable {Z : State} {a0 : Array Value} {tb : List Jvm.Cond} {p : Program} {l : Launch} {e : Env} {R : Room} {s : State} {m : MethodId} {args : Array Value} {below : List Frame} {meth : Method} {c : Code} {own mname : String} {bytes : ByteArray} {maxL : Nat} {ret : Option FieldType} {n0 : Nat} {Q : Option Value → Heap → List Addr → Prop} {Q2 : Option Value → Heap → Prop} {fs : List Addr} {h : Heap} {k n : Nat} {pc : Nat} {Ls : Array Slot} {St : List Value} {EL : List (String × Nat)}
/-- what is fixed in the walk of one body -/
def Cx (Z : State) (a0 : Array Value) (tb : List Jvm.Cond) (p : Program) (s : State) (m : MethodId) (meth : Method) (c : Code) (own mname : String) (bytes : ByteArray) (maxL : Nat) (ret : Option FieldType) (n0 : Nat) : Prop :=
  p.tables.exec = Jvm.exec ∧ Z.Warmed39 s.vm ∧ s.vm.findClass own = some m.cls ∧ c.code = bytes ∧ c.maxLocals = maxL ∧ meth.sig.returnType = ret ∧ meth.locks = false ∧ (∀ d ∈ tb, d.before a0 Z = true) ∧ meth.name = mname ∧ n0 ≤ s.heap.size
theorem Cx.hx (C : Cx Z a0 tb p s m meth c own mname bytes maxL ret n0) : p.tables.exec = Jvm.exec := C.1
theorem Cx.hZ (C : Cx Z a0 tb p s m meth c own mname bytes maxL ret n0) : Z.Warmed39 s.vm := C.2.1
theorem Cx.hown (C : Cx Z a0 tb p s m meth c own mname bytes maxL ret n0) : s.vm.findClass own = some m.cls := C.2.2.1
theorem Cx.hby (C : Cx Z a0 tb p s m meth c own mname bytes maxL ret n0) : c.code = bytes := C.2.2.2.1
theorem Cx.hml (C : Cx Z a0 tb p s m meth c own mname bytes maxL ret n0) : c.maxLocals = maxL := C.2.2.2.2.1
theorem Cx.hret (C : Cx Z a0 tb p s m meth c own mname bytes maxL ret n0) : meth.sig.returnType = ret := C.2.2.2.2.2.1
theorem Cx.hlk (C : Cx Z a0 tb p s m meth c own mname bytes maxL ret n0) : meth.locks = false := C.2.2.2.2.2.2.1
theorem Cx.hw (C : Cx Z a0 tb p s m meth c own mname bytes maxL ret n0) {d : Jvm.Cond} (hd : d ∈ tb) : d.before a0 Z = true := C.2.2.2.2.2.2.2.1 d hd
theorem Cx.hnm (C : Cx Z a0 tb p s m meth c own mname bytes maxL ret n0) : meth.name = mname := C.2.2.2.2.2.2.2.2.1
theorem Cx.hn0 (C : Cx Z a0 tb p s m meth c own mname bytes maxL ret n0) : n0 ≤ s.heap.size := C.2.2.2.2.2.2.2.2.2
theorem Cx.hownAt (C : Cx Z a0 tb p s m meth c own mname bytes maxL ret n0) {vm0 : Vm} (hZ : Z.Warmed39 vm0) : vm0.findClass own = some m.cls := by
  rw [hZ.alike.findClass, ← C.hZ.alike.findClass]; exact C.hown
/-- what holds of the tables and the heap all along: the literals' invariant, and which new cells may be written -/
def Inv (Z : State) (EL : List (String × Nat)) (s : State) (vm0 : Vm) (n0 : Nat) (fs : List Addr) (h : Heap) : Prop :=
  n0 ≤ h.size ∧ (∀ x ∈ fs, n0 ≤ x ∧ x < h.size ∧ Safe Z EL vm0 h x) ∧ (∃ k0, s.Since vm0 k0 ∧ k0 ≤ h.size) ∧ Z.Warmed39 vm0 ∧ CHv Z EL vm0 h ∧ CHr Z EL s.vm s.heap vm0 h
theorem Inv.hZ {vm0 : Vm} (I : Inv Z EL s vm0 n0 fs h) : Z.Warmed39 vm0 := I.2.2.2.1
theorem Inv.ext {vm0 : Vm} {h' : Heap} (I : Inv Z EL s vm0 n0 fs h) (E : Ext h h') : Inv Z EL s vm0 n0 fs h' := by
  obtain ⟨i1, i2, ⟨k0, i3, i4⟩, i5, i6, i7⟩ := I
  exact ⟨Nat.le_trans i1 E.1, fun x hx => ⟨(i2 x hx).1, Nat.lt_of_lt_of_le (i2 x hx).2.1 E.1, (i2 x hx).2.2.ext E i6⟩, ⟨k0, i3, Nat.le_trans i4 E.1⟩, i5, i6.ext E, i7.trans (CHr.ext E i6)⟩
theorem Inv.new {vm0 : Vm} {h' : Heap} (I : Inv Z EL s vm0 n0 fs h) (E : Ext h h') (q : h.size < h'.size) : Inv Z EL s vm0 n0 (h.size :: fs) h' := by
  have J := I.ext E
  refine ⟨J.1, fun x hx => ?_, J.2.2⟩
  rcases List.mem_cons.mp hx with rfl | hx
  · exact ⟨I.1, q, (Safe.new (Nat.le_refl _)).ext E I.2.2.2.2.1⟩
  · exact J.2.1 x hx
theorem Inv.wr {vm0 : Vm} {h' : Heap} {a : Addr} {sl : Nat} {v : Value} (I : Inv Z EL s vm0 n0 fs h) (W : Wr h h' a sl v) (ha : a ∈ fs) : Inv Z EL s vm0 n0 fs h' := by
  obtain ⟨i1, i2, ⟨k0, i3, i4⟩, i5, i6, i7⟩ := I
  have hs := W.size
  have S := (i2 a ha).2.2
  exact ⟨by omega, fun x hx => ⟨(i2 x hx).1, by rw [hs]; exact (i2 x hx).2.1, Safe.wr W S i6 (i2 x hx).2.2⟩, ⟨k0, i3, by omega⟩, i5, i6.wr W S, i7.trans (CHr.wr W S i6)⟩
theorem Inv.kept {vm0 : Vm} {h' : Heap} {a : Addr} (I : Inv Z EL s vm0 n0 fs h) (K : Keep h h' [a]) (ha : a ∈ fs) : Inv Z EL s vm0 n0 fs h' := by
  obtain ⟨i1, i2, ⟨k0, i3, i4⟩, i5, i6, i7⟩ := I
  have S : ∀ x ∈ [a], Safe Z EL vm0 h x := fun x hx => by cases List.mem_singleton.mp hx; exact (i2 a ha).2.2
  exact ⟨Nat.le_trans i1 K.1, fun x hx => ⟨(i2 x hx).1, Nat.lt_of_lt_of_le (i2 x hx).2.1 K.1, (i2 x hx).2.2.keep K S i6⟩, ⟨k0, i3, Nat.le_trans i4 K.1⟩, i5, i6.keep K S, i7.trans (CHr.keep K S i6)⟩
theorem Inv.ge {vm0 : Vm} {a : Addr} (I : Inv Z EL s vm0 n0 fs h) (ha : a ∈ fs) : n0 ≤ a := (I.2.1 a ha).1
theorem Inv.less {vm0 : Vm} {fs' : List Addr} (I : Inv Z EL s vm0 n0 fs h) (q : ∀ x ∈ fs', x ∈ fs) : Inv Z EL s vm0 n0 fs' h := ⟨I.1, fun x hx => I.2.1 x (q x hx), I.2.2⟩
/-- a body that tells of no new cell that its caller may write -/
def nq (Q : Option Value → Heap → Prop) : Option Value → Heap → List Addr → Prop := fun v h ns => ns = [] ∧ Q v h
/-- from every state that stands at frame f over the heap h, the body ends well -/
def Go (Z : State) (EL : List (String × Nat)) (p : Program) (l : Launch) (e : Env) (R : Room) (s : State) (m : MethodId) (args : Array Value) (below : List Frame) (meth : Method) (c : Code) (n0 : Nat) (Q : Option Value → Heap → List Addr → Prop) (fs : List Addr) (h : Heap) (k n : Nat) (f : JFrame) : Prop :=
  ∀ vm0 T locs, Stand p l e R (s.setVm vm0) m args below meth c T locs k n → T.heap = h → Fr n0 locs → Inv Z EL s vm0 n0 fs h →
    ∃ s₂ o, Steps p.tables e below (T.setTop f) s₂ ∧ s₂.status = .running ∧ Ended s₂ below o ∧ ∃ v L ns, o = .returned v ∧ (Q v s₂.heap ns ∧ Fr n0 L) ∧ (∀ x ∈ ns, n0 ≤ x ∧ x < s₂.heap.size ∧ Safe Z EL s₂.vm s₂.heap x) ∧ CHr Z EL s.vm s.heap s₂.vm s₂.heap ∧ ReturnedEndW s o s₂ L R.cells R.slots
theorem Go.step {f f' : JFrame} (H : ∀ T : State, At T m c below → ∀ t, Steps p.tables e below (T.setTop f') t → Steps p.tables e below (T.setTop f) t) (K : Go Z EL p l e R s m args below meth c n0 Q fs h k n f') : Go Z EL p l e R s m args below meth c n0 Q fs h k n f := by
  intro vm0 T locs X eT N I
  obtain ⟨s2, o, st, r⟩ := K vm0 T locs X eT N I
  exact ⟨s2, o, H T X.here s2 st, r⟩
theorem Go.less {f : JFrame} {fs' : List Addr} (K : Go Z EL p l e R s m args below meth c n0 Q fs' h k n f) (q : ∀ x ∈ fs', x ∈ fs) : Go Z EL p l e R s m args below meth c n0 Q fs h k n f := by
  intro vm0 T locs X eT N I
  exact K vm0 T locs X eT N (I.less q)
theorem Go.size {f : JFrame} (K : n0 ≤ h.size → Go Z EL p l e R s m args below meth c n0 Q fs h k n f) : Go Z EL p l e R s m args below meth c n0 Q fs h k n f := by
  intro vm0 T locs X eT N I
  exact K I.1 vm0 T locs X eT N I
theorem Go.ge {f : JFrame} {a : Addr} (ha : a ∈ fs) (K : n0 ≤ a → Go Z EL p l e R s m args below meth c n0 Q fs h k n f) : Go Z EL p l e R s m args below meth c n0 Q fs h k n f := by
  intro vm0 T locs X eT N I
  exact K (I.ge ha) vm0 T locs X eT N I
theorem g_iload (C : Cx Z a0 tb p s m meth c own mname bytes maxL ret n0) {j : Nat} {z : Int32} (hd : decode bytes pc = .ok (.iload j, 2)) (hl : Ls[j]? = some (.val (.int z))) (K : Go Z EL p l e R s m args below meth c n0 Q fs h k n (mkF m (pc + 2) Ls (.int z :: St))) : Go Z EL p l e R s m args below meth c n0 Q fs h k n (mkF m pc Ls (St)) :=
  Go.step (fun T A t st => XS.iload A C.hx rfl (hb C.hby hd) hl st) K
theorem g_iloadN (C : Cx Z a0 tb p s m meth c own mname bytes maxL ret n0) {j : Fin 4} {z : Int32} (hd : decode bytes pc = .ok (.iload_n j, 1)) (hl : Ls[j.val]? = some (.val (.int z))) (K : Go Z EL p l e R s m args below meth c n0 Q fs h k n (mkF m (pc + 1) Ls (.int z :: St))) : Go Z EL p l e R s m args below meth c n0 Q fs h k n (mkF m pc Ls (St)) :=
  Go.step (fun T A t st => XS.iloadN A C.hx rfl (hb C.hby hd) hl st) K
theorem g_lloadN (C : Cx Z a0 tb p s m meth c own mname bytes maxL ret n0) {j : Fin 4} {z : Int64} (hd : decode bytes pc = .ok (.lload_n j, 1)) (hl : Ls[j.val]? = some (.val (.long z))) (K : Go Z EL p l e R s m args below meth c n0 Q fs h k n (mkF m (pc + 1) Ls (.long z :: St))) : Go Z EL p l e R s m args below meth c n0 Q fs h k n (mkF m pc Ls (St)) :=
  Go.step (fun T A t st => XS.lloadN A C.hx rfl (hb C.hby hd) hl st) K
theorem g_aload (C : Cx Z a0 tb p s m meth c own mname bytes maxL ret n0) {j : Nat} {v : Value} (hd : decode bytes pc = .ok (.aload j, 2)) (hl : Ls[j]? = some (.val v)) (hv : v.isRef = true) (K : Go Z EL p l e R s m args below meth c n0 Q fs h k n (mkF m (pc + 2) Ls (v :: St))) : Go Z EL p l e R s m args below meth c n0 Q fs h k n (mkF m pc Ls (St)) :=
  Go.step (fun T A t st => XS.aload A C.hx rfl (hb C.hby hd) hl hv st) K
theorem g_aloadN (C : Cx Z a0 tb p s m meth c own mname bytes maxL ret n0) {j : Fin 4} {v : Value} (hd : decode bytes pc = .ok (.aload_n j, 1)) (hl : Ls[j.val]? = some (.val v)) (hv : v.isRef = true) (K : Go Z EL p l e R s m args below meth c n0 Q fs h k n (mkF m (pc + 1) Ls (v :: St))) : Go Z EL p l e R s m args below meth c n0 Q fs h k n (mkF m pc Ls (St)) :=
  Go.step (fun T A t st => XS.aloadN A C.hx rfl (hb C.hby hd) hl hv st) K
theorem g_istore (C : Cx Z a0 tb p s m meth c own mname bytes maxL ret n0) {j : Nat} {z : Int32} (l' : Array Slot) (hd : decode bytes pc = .ok (.istore j, 2)) (hl : storeLocals Ls j (.int z) = some l') (K : Go Z EL p l e R s m args below meth c n0 Q fs h k n (mkF m (pc + 2) l' St)) : Go Z EL p l e R s m args below meth c n0 Q fs h k n (mkF m pc Ls (.int z :: St)) :=
  Go.step (fun T A t st => XS.istore A C.hx rfl (hb C.hby hd) rfl hl st) K
theorem g_istoreN (C : Cx Z a0 tb p s m meth c own mname bytes maxL ret n0) {j : Fin 4} {z : Int32} (l' : Array Slot) (hd : decode bytes pc = .ok (.istore_n j, 1)) (hl : storeLocals Ls j.val (.int z) = some l') (K : Go Z EL p l e R s m args below meth c n0 Q fs h k n (mkF m (pc + 1) l' St)) : Go Z EL p l e R s m args below meth c n0 Q fs h k n (mkF m pc Ls (.int z :: St)) :=
  Go.step (fun T A t st => XS.istoreN A C.hx rfl (hb C.hby hd) rfl hl st) K
theorem g_astore (C : Cx Z a0 tb p s m meth c own mname bytes maxL ret n0) {j : Nat} {v : Value} (l' : Array Slot) (hd : decode bytes pc = .ok (.astore j, 2)) (hv : v.isRef = true) (hl : storeLocals Ls j v = some l') (K : Go Z EL p l e R s m args below meth c n0 Q fs h k n (mkF m (pc + 2) l' St)) : Go Z EL p l e R s m args below meth c n0 Q fs h k n (mkF m pc Ls (v :: St)) :=
  Go.step (fun T A t st => XS.astore A C.hx rfl (hb C.hby hd) rfl hv hl st) K
theorem g_astoreN (C : Cx Z a0 tb p s m meth c own mname bytes maxL ret n0) {j : Fin 4} {v : Value} (l' : Array Slot) (hd : decode bytes pc = .ok (.astore_n j, 1)) (hv : v.isRef = true) (hl : storeLocals Ls j.val v = some l') (K : Go Z EL p l e R s m args below meth c n0 Q fs h k n (mkF m (pc + 1) l' St)) : Go Z EL p l e R s m args below meth c n0 Q fs h k n (mkF m pc Ls (v :: St)) :=
  Go.step (fun T A t st => XS.astoreN A C.hx rfl (hb C.hby hd) rfl hv hl st) K
theorem g_iconst (C : Cx Z a0 tb p s m meth c own mname bytes maxL ret n0) {i : Int} (z : Int32) (hd : decode bytes pc = .ok (.iconst i, 1)) (hz : Int32.ofInt i = z) (K : Go Z EL p l e R s m args below meth c n0 Q fs h k n (mkF m (pc + 1) Ls (.int z :: St))) : Go Z EL p l e R s m args below meth c n0 Q fs h k n (mkF m pc Ls (St)) :=
  Go.step (fun T A t st => XS.iconst A C.hx rfl (hb C.hby hd) (hz ▸ st)) K
theorem g_bipush (C : Cx Z a0 tb p s m meth c own mname bytes maxL ret n0) {i : Int} (z : Int32) (hd : decode bytes pc = .ok (.bipush i, 2)) (hz : (Int8.ofInt i).toInt32 = z) (K : Go Z EL p l e R s m args below meth c n0 Q fs h k n (mkF m (pc + 2) Ls (.int z :: St))) : Go Z EL p l e R s m args below meth c n0 Q fs h k n (mkF m pc Ls (St)) :=
  Go.step (fun T A t st => XS.bipush A C.hx rfl (hb C.hby hd) (hz ▸ st)) K
theorem g_sipush (C : Cx Z a0 tb p s m meth c own mname bytes maxL ret n0) {i : Int} (z : Int32) (hd : decode bytes pc = .ok (.sipush i, 3)) (hz : (Int16.ofInt i).toInt32 = z) (K : Go Z EL p l e R s m args below meth c n0 Q fs h k n (mkF m (pc + 3) Ls (.int z :: St))) : Go Z EL p l e R s m args below meth c n0 Q fs h k n (mkF m pc Ls (St)) :=
  Go.step (fun T A t st => XS.sipush A C.hx rfl (hb C.hby hd) (hz ▸ st)) K
theorem g_aconst_null (C : Cx Z a0 tb p s m meth c own mname bytes maxL ret n0)  (hd : decode bytes pc = .ok (.aconst_null, 1))  (K : Go Z EL p l e R s m args below meth c n0 Q fs h k n (mkF m (pc + 1) Ls (.null :: St))) : Go Z EL p l e R s m args below meth c n0 Q fs h k n (mkF m pc Ls (St)) :=
  Go.step (fun T A t st => XS.aconstNull A C.hx rfl (hb C.hby hd) st) K
theorem g_iand (C : Cx Z a0 tb p s m meth c own mname bytes maxL ret n0) {x y : Int32} (hd : decode bytes pc = .ok (.iand, 1))  (K : Go Z EL p l e R s m args below meth c n0 Q fs h k n (mkF m (pc + 1) Ls (.int (x &&& y) :: St))) : Go Z EL p l e R s m args below meth c n0 Q fs h k n (mkF m pc Ls (.int y :: .int x :: St)) :=
  Go.step (fun T A t st => XS.iand A C.hx rfl (hb C.hby hd) rfl st) K
theorem g_land (C : Cx Z a0 tb p s m meth c own mname bytes maxL ret n0) {x y : Int64} (hd : decode bytes pc = .ok (.land, 1))  (K : Go Z EL p l e R s m args below meth c n0 Q fs h k n (mkF m (pc + 1) Ls (.long (x &&& y) :: St))) : Go Z EL p l e R s m args below meth c n0 Q fs h k n (mkF m pc Ls (.long y :: .long x :: St)) :=
  Go.step (fun T A t st => XS.land A C.hx rfl (hb C.hby hd) rfl st) K
theorem g_lushr (C : Cx Z a0 tb p s m meth c own mname bytes maxL ret n0) {x : Int64} {y : Int32} (hd : decode bytes pc = .ok (.lushr, 1))  (K : Go Z EL p l e R s m args below meth c n0 Q fs h k n (mkF m (pc + 1) Ls (.long ((x.toUInt64 >>> (y &&& 0x3f).toInt64.toUInt64).toInt64) :: St))) : Go Z EL p l e R s m args below meth c n0 Q fs h k n (mkF m pc Ls (.int y :: .long x :: St)) :=
  Go.step (fun T A t st => XS.lushr A C.hx rfl (hb C.hby hd) rfl st) K
theorem g_l2i (C : Cx Z a0 tb p s m meth c own mname bytes maxL ret n0) {x : Int64} (hd : decode bytes pc = .ok (.l2i, 1))  (K : Go Z EL p l e R s m args below meth c n0 Q fs h k n (mkF m (pc + 1) Ls (.int (x.toInt32) :: St))) : Go Z EL p l e R s m args below meth c n0 Q fs h k n (mkF m pc Ls (.long x :: St)) :=
  Go.step (fun T A t st => XS.l2i A C.hx rfl (hb C.hby hd) rfl st) K
theorem g_i2c (C : Cx Z a0 tb p s m meth c own mname bytes maxL ret n0) {x : Int32} (hd : decode bytes pc = .ok (.i2c, 1))  (K : Go Z EL p l e R s m args below meth c n0 Q fs h k n (mkF m (pc + 1) Ls (.int (x.toUInt32.toUInt16.toUInt32.toInt32) :: St))) : Go Z EL p l e R s m args below meth c n0 Q fs h k n (mkF m pc Ls (.int x :: St)) :=
  Go.step (fun T A t st => XS.i2c A C.hx rfl (hb C.hby hd) rfl st) K
theorem g_irem (C : Cx Z a0 tb p s m meth c own mname bytes maxL ret n0) {x y : Int32} (hd : decode bytes pc = .ok (.irem, 1)) (hy : y ≠ 0) (K : Go Z EL p l e R s m args below meth c n0 Q fs h k n (mkF m (pc + 1) Ls (.int (x % y) :: St))) : Go Z EL p l e R s m args below meth c n0 Q fs h k n (mkF m pc Ls (.int y :: .int x :: St)) :=
  Go.step (fun T A t st => XS.irem A C.hx rfl (hb C.hby hd) rfl hy (by rw [irem_eq_mod]; exact st)) K
theorem g_dup (C : Cx Z a0 tb p s m meth c own mname bytes maxL ret n0) {v : Value} (hd : decode bytes pc = .ok (.dup, 1)) (hc : v.category = 1) (K : Go Z EL p l e R s m args below meth c n0 Q fs h k n (mkF m (pc + 1) Ls (v :: v :: St))) : Go Z EL p l e R s m args below meth c n0 Q fs h k n (mkF m pc Ls (v :: St)) :=
  Go.step (fun T A t st => XS.dup A C.hx rfl (hb C.hby hd) rfl hc st) K
theorem g_iinc (C : Cx Z a0 tb p s m meth c own mname bytes maxL ret n0) {j : Nat} {i : Int} {z : Int32} (w : Int32) (l' : Array Slot) (hd : decode bytes pc = .ok (.iinc j i, 3)) (hz : Int32.ofInt i = w) (hl : Ls[j]? = some (.val (.int z))) (hl' : storeLocals Ls j (.int (z + w)) = some l') (K : Go Z EL p l e R s m args below meth c n0 Q fs h k n (mkF m (pc + 3) l' St)) : Go Z EL p l e R s m args below meth c n0 Q fs h k n (mkF m pc Ls (St)) :=
  Go.step (fun T A t st => XS.iinc A C.hx rfl (hb C.hby hd) hl (hz ▸ hl') st) K
theorem g_goto (C : Cx Z a0 tb p s m meth c own mname bytes maxL ret n0)  {o : Int} (pc' : Nat) (hd : decode bytes pc = .ok (.goto o, 3))  (ho : 0 ≤ (pc : Int) + o) (hp : ((pc : Int) + o).toNat = pc') (K : Go Z EL p l e R s m args below meth c n0 Q fs h k n (mkF m pc' Ls St)) : Go Z EL p l e R s m args below meth c n0 Q fs h k n (mkF m pc Ls (St)) :=
  Go.step (fun T A t st => XS.goto A C.hx rfl rfl (hb C.hby hd) ho hp st) K
theorem g_if_t (C : Cx Z a0 tb p s m meth c own mname bytes maxL ret n0) {cd : ClassFile.Cond} {x : Int32} {o : Int} (pc' : Nat) (hd : decode bytes pc = .ok (.ifCond cd o, 3)) (hc : ifCond.holds cd x = true) (ho : 0 ≤ (pc : Int) + o) (hp : ((pc : Int) + o).toNat = pc') (K : Go Z EL p l e R s m args below meth c n0 Q fs h k n (mkF m pc' Ls St)) : Go Z EL p l e R s m args below meth c n0 Q fs h k n (mkF m pc Ls (.int x :: St)) :=
  Go.step (fun T A t st => XS.ifYes A C.hx rfl rfl (hb C.hby hd) rfl hc ho hp st) K
theorem g_icmp_t (C : Cx Z a0 tb p s m meth c own mname bytes maxL ret n0) {cd : ClassFile.Cond} {x y : Int32} {o : Int} (pc' : Nat) (hd : decode bytes pc = .ok (.if_icmp cd o, 3)) (hc : if_icmp.holds cd x y = true) (ho : 0 ≤ (pc : Int) + o) (hp : ((pc : Int) + o).toNat = pc') (K : Go Z EL p l e R s m args below meth c n0 Q fs h k n (mkF m pc' Ls St)) : Go Z EL p l e R s m args below meth c n0 Q fs h k n (mkF m pc Ls (.int y :: .int x :: St)) :=
  Go.step (fun T A t st => XS.icmpYes A C.hx rfl rfl (hb C.hby hd) rfl hc ho hp st) K
theorem g_if_f (C : Cx Z a0 tb p s m meth c own mname bytes maxL ret n0) {cd : ClassFile.Cond} {x : Int32} {o : Int} (hd : decode bytes pc = .ok (.ifCond cd o, 3)) (hc : ifCond.holds cd x = false) (K : Go Z EL p l e R s m args below meth c n0 Q fs h k n (mkF m (pc + 3) Ls St)) : Go Z EL p l e R s m args below meth c n0 Q fs h k n (mkF m pc Ls (.int x :: St)) :=
  Go.step (fun T A t st => XS.ifNo A C.hx rfl (hb C.hby hd) rfl hc st) K
theorem g_icmp_f (C : Cx Z a0 tb p s m meth c own mname bytes maxL ret n0) {cd : ClassFile.Cond} {x y : Int32} {o : Int} (hd : decode bytes pc = .ok (.if_icmp cd o, 3)) (hc : if_icmp.holds cd x y = false) (K : Go Z EL p l e R s m args below meth c n0 Q fs h k n (mkF m (pc + 3) Ls St)) : Go Z EL p l e R s m args below meth c n0 Q fs h k n (mkF m pc Ls (.int y :: .int x :: St)) :=
  Go.step (fun T A t st => XS.icmpNo A C.hx rfl (hb C.hby hd) rfl hc st) K
theorem g_acmp_f (C : Cx Z a0 tb p s m meth c own mname bytes maxL ret n0) {cd : ClassFile.ACond} {x y : Value} {o : Int} (hd : decode bytes pc = .ok (.if_acmp cd o, 3)) (hx' : x.isRef = true) (hy' : y.isRef = true) (hc : XT.acmp cd x y = false) (K : Go Z EL p l e R s m args below meth c n0 Q fs h k n (mkF m (pc + 3) Ls St)) : Go Z EL p l e R s m args below meth c n0 Q fs h k n (mkF m pc Ls (y :: x :: St)) :=
  Go.step (fun T A t st => XT.acmpNo A C.hx rfl (hb C.hby hd) rfl hx' hy' hc st) K
theorem g_ldcI (C : Cx Z a0 tb p s m meth c own mname bytes maxL ret n0) {index : Nat} {z : Int32} (w : Jvm.Cond.constant own index z ∈ tb) (hd : decode bytes pc = .ok (.ldc index, 2)) (K : Go Z EL p l e R s m args below meth c n0 Q fs h k n (mkF m (pc + 2) Ls (.int z :: St))) : Go Z EL p l e R s m args below meth c n0 Q fs h k n (mkF m pc Ls St) := by
  intro vm0 T locs X eT N I
  have hZ : Z.Warmed39 (s.setVm vm0).vm := I.hZ
  have hown : (s.setVm vm0).vm.findClass own = some m.cls := C.hownAt I.hZ
  obtain ⟨s2, o, st, r⟩ := K vm0 T locs X eT N I
  exact ⟨s2, o, X.ldcInt C.hx hown (mvT hZ (C.hw w)) (g := mkF m pc Ls St) rfl (hb C.hby hd) s2 st, r⟩
theorem g_ldc2L (C : Cx Z a0 tb p s m meth c own mname bytes maxL ret n0) {index : Nat} {z : Int64} (w : Jvm.Cond.constantLong own index z ∈ tb) (hd : decode bytes pc = .ok (.ldc2_w index, 3)) (K : Go Z EL p l e R s m args below meth c n0 Q fs h k n (mkF m (pc + 3) Ls (.long z :: St))) : Go Z EL p l e R s m args below meth c n0 Q fs h k n (mkF m pc Ls St) := by
  intro vm0 T locs X eT N I
  have hZ : Z.Warmed39 (s.setVm vm0).vm := I.hZ
  have hown : (s.setVm vm0).vm.findClass own = some m.cls := C.hownAt I.hZ
  obtain ⟨s2, o, st, r⟩ := K vm0 T locs X eT N I
  exact ⟨s2, o, X.ldc2Long C.hx hown (mvT hZ (C.hw w)) (g := mkF m pc Ls St) rfl (hb C.hby hd) s2 st, r⟩
theorem g_new (C : Cx Z a0 tb p s m meth c own mname bytes maxL ret n0) {index ns : Nat} {Cn : String} (w : Jvm.Cond.classLink own index Cn ∈ tb) (wi : Jvm.Cond.instantiable Cn ns ∈ tb) (wz : Jvm.Cond.initialized Cn ∈ tb) (hd : decode bytes pc = .ok (.new index, 3)) (hc : k + 1 ≤ R.cells) (hl : n + ns ≤ R.slots)
    (K : ∀ a h', a = h.size → Ext h h' → Exa Z h' a Cn → (∀ {O nm d : String} {ty : FieldType}, Laid Z a0 Cn O nm d → parseFieldDescriptor d = some ty → Fld Z h' a O nm d (defaultValue ty)) → Go Z EL p l e R s m args below meth c n0 Q (a :: fs) h' (k + 1) (n + ns) (mkF m (pc + 3) Ls (.ref a :: St))) : Go Z EL p l e R s m args below meth c n0 Q fs h k n (mkF m pc Ls St) := by
  intro vm0 T locs X eT N I
  have hZ : Z.Warmed39 (s.setVm vm0).vm := I.hZ
  have hown : (s.setVm vm0).vm.findClass own = some m.cls := C.hownAt I.hZ
  obtain ⟨T', h', X', e', E', A', D', -, st⟩ := newO X C.hx hZ hown (C.hw w) (C.hw wi) (C.hw wz) eT (g := mkF m pc Ls St) rfl (hb C.hby hd) hc hl
  obtain ⟨s2, o, st2, r⟩ := K h.size h' rfl E' A' D' vm0 T' locs X' e' N (I.new E' A'.lt)
  exact ⟨s2, o, st _ st2, r⟩
theorem g_newarray (C : Cx Z a0 tb p s m meth c own mname bytes maxL ret n0) {aty : ArrayType} {z : Int32} (w : Jvm.Cond.arrayClass (newarray.typeOf aty) ∈ tb) (hd : decode bytes pc = .ok (.newarray aty, 2)) (hz : ¬ z < 0) (cap : Nat) (hcap : z.toNatClampNeg ≤ cap) (hbig : cap * 8 ≤ 536870912) (hc : k + 1 ≤ R.cells) (hl : n + cap ≤ R.slots) (ad : String) (had : "[" ++ (newarray.typeOf aty).toString = ad)
    (K : ∀ a h' ka, a = h.size → Ext h h' → Arv Z h' a ka (newarray.typeOf aty) z [] (defaultValue (newarray.typeOf aty)) → Exa Z h' a ad → Go Z EL p l e R s m args below meth c n0 Q (a :: fs) h' (k + 1) (n + cap) (mkF m (pc + 2) Ls (.ref a :: St))) : Go Z EL p l e R s m args below meth c n0 Q fs h k n (mkF m pc Ls (.int z :: St)) := by
  intro vm0 T locs X eT N I
  have hZ : Z.Warmed39 (s.setVm vm0).vm := I.hZ
  have hown : (s.setVm vm0).vm.findClass own = some m.cls := C.hownAt I.hZ
  obtain ⟨T', h', ka, X', e', E', A', Ex', st⟩ := newPE X C.hx hZ (C.hw w) eT (g := mkF m pc Ls (.int z :: St)) rfl (hb C.hby hd) rfl hz hcap hbig hc hl had
  obtain ⟨s2, o, st2, r⟩ := K h.size h' ka rfl E' (Arv.new A' hz) Ex' vm0 T' locs X' e' N (I.new E' A'.lt)
  exact ⟨s2, o, st _ st2, r⟩
theorem g_castore (C : Cx Z a0 tb p s m meth c own mname bytes maxL ret n0) {a : Addr} {ka : ClassId} {z j : Int32} {x : Int32} {vs : List Value} {dv : Value} (F : Arv Z h a ka .char z vs dv) (ha : a ∈ fs) (hd : decode bytes pc = .ok (.castore, 1)) (hj : ¬ j < 0 ∧ j < z) (i : Nat) (hi : j.toNatClampNeg = i) (hl : i < vs.length)
    (K : ∀ h', Wr h h' a j.toNatClampNeg (.int (nar .char x)) → Arv Z h' a ka .char z (vs.set i (.int (nar .char x))) dv → Go Z EL p l e R s m args below meth c n0 Q fs h' k n (mkF m (pc + 1) Ls St)) : Go Z EL p l e R s m args below meth c n0 Q fs h k n (mkF m pc Ls (.int x :: .int j :: .ref a :: St)) := by
  intro vm0 T locs X eT N I
  have hZ : Z.Warmed39 (s.setVm vm0).vm := I.hZ
  have hown : (s.setVm vm0).vm.findClass own = some m.cls := C.hownAt I.hZ
  obtain ⟨cl, A, q, S, Nn, H, G⟩ := F
  obtain ⟨T', h', X', e', W', st⟩ := stC X C.hx hZ eT A (j := j) (inb_of S hj) (g := mkF m pc Ls (.int x :: .int j :: .ref a :: St)) rfl rfl (hb C.hby hd)
  obtain ⟨s2, o, st2, r⟩ := K h' W' (Arv.set A q S Nn H G (fits_nar_char x) W' i hi hl) vm0 T' _ X' e' (Fr.snoc X' N (I.ge ha)) (I.wr W' ha)
  exact ⟨s2, o, st _ st2, r⟩
theorem g_caload (C : Cx Z a0 tb p s m meth c own mname bytes maxL ret n0) {a : Addr} {ka : ClassId} {z j : Int32} {vs : List Value} {dv v : Value} (F : Arv Z h a ka .char z vs dv) (hd : decode bytes pc = .ok (.caload, 1)) (hj : ¬ j < 0 ∧ j < z) (hv : vs.getD j.toNatClampNeg dv = v)
    (K : Go Z EL p l e R s m args below meth c n0 Q fs h k n (mkF m (pc + 1) Ls (v :: St))) : Go Z EL p l e R s m args below meth c n0 Q fs h k n (mkF m pc Ls (.int j :: .ref a :: St)) := by
  intro vm0 T locs X eT N I
  have hZ : Z.Warmed39 (s.setVm vm0).vm := I.hZ
  have hown : (s.setVm vm0).vm.findClass own = some m.cls := C.hownAt I.hZ
  obtain ⟨cl, A, q, S, Nn, H, G⟩ := F
  obtain ⟨s2, o, st2, r⟩ := K vm0 T locs X eT N I
  exact ⟨s2, o, X.caload C.hx (j := j) (v := v) (by rw [eT]; exact A.1) (State.isArrayOf_alike hZ.alike A.2.1) A.2.2 (inb_of S hj) (H.at (inb_of S hj) hv) (g := mkF m pc Ls (.int j :: .ref a :: St)) rfl rfl (hb C.hby hd) _ st2, r⟩
theorem g_aaload (C : Cx Z a0 tb p s m meth c own mname bytes maxL ret n0) {a : Addr} {ka : ClassId} {ty : FieldType} {z j : Int32} {vs : List Value} {dv v : Value} (F : Arv Z h a ka ty z vs dv) (hty : ty.isReference = true) (hd : decode bytes pc = .ok (.aaload, 1)) (hj : ¬ j < 0 ∧ j < z) (hv : vs.getD j.toNatClampNeg dv = v)
    (K : Go Z EL p l e R s m args below meth c n0 Q fs h k n (mkF m (pc + 1) Ls (v :: St))) : Go Z EL p l e R s m args below meth c n0 Q fs h k n (mkF m pc Ls (.int j :: .ref a :: St)) := by
  intro vm0 T locs X eT N I
  have hZ : Z.Warmed39 (s.setVm vm0).vm := I.hZ
  have hown : (s.setVm vm0).vm.findClass own = some m.cls := C.hownAt I.hZ
  obtain ⟨cl, A, q, S, Nn, H, G⟩ := F
  obtain ⟨s2, o, st2, r⟩ := K vm0 T locs X eT N I
  exact ⟨s2, o, X.aaload C.hx (j := j) (v := v) (by rw [eT]; exact A.1) (State.isArrayOf_alike hZ.alike A.2.1) hty A.2.2 (inb_of S hj) (H.at (inb_of S hj) hv) (g := mkF m pc Ls (.int j :: .ref a :: St)) rfl rfl (hb C.hby hd) _ st2, r⟩
theorem g_arraylength (C : Cx Z a0 tb p s m meth c own mname bytes maxL ret n0) {a : Addr} {ka : ClassId} {ty : FieldType} {z : Int32} {vs : List Value} {dv : Value} (F : Arv Z h a ka ty z vs dv) (hd : decode bytes pc = .ok (.arraylength, 1))
    (K : Go Z EL p l e R s m args below meth c n0 Q fs h k n (mkF m (pc + 1) Ls (.int z :: St))) : Go Z EL p l e R s m args below meth c n0 Q fs h k n (mkF m pc Ls (.ref a :: St)) := by
  intro vm0 T locs X eT N I
  have hZ : Z.Warmed39 (s.setVm vm0).vm := I.hZ
  have hown : (s.setVm vm0).vm.findClass own = some m.cls := C.hownAt I.hZ
  obtain ⟨cl, A, q, S, Nn, H, G⟩ := F
  obtain ⟨s2, o, st2, r⟩ := K vm0 T locs X eT N I
  refine ⟨s2, o, X.arraylength C.hx (by rw [eT]; exact A.1) (State.isArrayOf_alike hZ.alike A.2.1) (g := mkF m pc Ls (.ref a :: St)) rfl rfl (hb C.hby hd) _ ?_, r⟩
  rw [len_of S Nn]; exact st2
theorem g_clone (C : Cx Z a0 tb p s m meth c own mname bytes maxL ret n0) {index : Nat} {ad : String} {a : Addr} {ka : ClassId} {ty : FieldType} {z : Int32} {vs : List Value} {dv : Value} (w1 : Jvm.Cond.methodLink own index ⟨ad, "clone", "()Ljava/lang/Object;"⟩ ∈ tb) (w2 : Jvm.Cond.sameMethod ad "java/lang/Object" "clone" "()Ljava/lang/Object;" ∈ tb) (w3 : Jvm.Cond.native ⟨"java/lang/Object", "clone", "()Ljava/lang/Object;"⟩ ∈ tb)
    (w4 : Jvm.Cond.instanceMethod ⟨"java/lang/Object", "clone", "()Ljava/lang/Object;"⟩ ∈ tb) (w5 : Jvm.Cond.selects ad ⟨ad, "clone", "()Ljava/lang/Object;"⟩ ⟨"java/lang/Object", "clone", "()Ljava/lang/Object;"⟩ ∈ tb) (w6 : Jvm.Cond.castable ad "java/lang/Cloneable" ∈ tb)
    (F : Arv Z h a ka ty z vs dv) (E : Exa Z h a ad) (hsz : Ls.size = maxL) (hd : decode bytes pc = .ok (.invokevirtual index, 3)) (hf : 1 ≤ R.frames) (W : Nat) (hW : (St.map fun v => v.category).sum ≤ W) (hlo : W + 14 ≤ R.locals) (cap : Nat) (hcap : z.toNatClampNeg ≤ cap) (hc : k + 1 ≤ R.cells) (hl : n + cap ≤ R.slots)
    (K : ∀ b h', b = h.size → Ext h h' → Arv Z h' b ka ty z vs dv → Exa Z h' b ad → Go Z EL p l e R s m args below meth c n0 Q (b :: fs) h' (k + 1) (n + cap) (mkF m (pc + 3) Ls (.ref b :: St))) : Go Z EL p l e R s m args below meth c n0 Q fs h k n (mkF m pc Ls (.ref a :: St)) := by
  intro vm0 T locs X eT N I
  have hZ : Z.Warmed39 (s.setVm vm0).vm := I.hZ
  have hown : (s.setVm vm0).vm.findClass own = some m.cls := C.hownAt I.hZ
  obtain ⟨cl, A, q1, S, q3, H, G⟩ := F
  have FC : FitC Z cl := fitC_of A fun i hi v hv => by rw [H i hi] at hv; cases hv; exact G i hi
  obtain ⟨T', h', X', e', ex, A', E', st⟩ := cloneA X C.hx hZ hown (C.hw w1) (C.hw w2) (C.hw w3) (C.hw w4) (C.hw w5) (C.hw w6) eT A E FC (g := mkF m pc Ls (.ref a :: St)) rfl (hsz.trans C.hml.symm) rfl (hb C.hby hd) hf (W := W) (by show 2 * 0 + _ ≤ _; omega) hlo (by rw [S]; exact hcap) hc hl
  obtain ⟨s2, o, st2, r⟩ := K h.size h' rfl ex ⟨cloneOf cl, A', q1, S, q3, H, G⟩ E' vm0 T' locs X' e' N (I.new ex E'.lt)
  exact ⟨s2, o, st _ st2, r⟩
theorem g_getfield (C : Cx Z a0 tb p s m meth c own mname bytes maxL ret n0) {index : Nat} {R0 O nm d : String} {a : Addr} {v : Value} (w : Jvm.Cond.fieldLink own index R0 nm d ∈ tb) (via : Via Z R0 O nm d) (F : Fld Z h a O nm d v) (hd : decode bytes pc = .ok (.getfield index, 3))
    (K : Go Z EL p l e R s m args below meth c n0 Q fs h k n (mkF m (pc + 3) Ls (v :: St))) : Go Z EL p l e R s m args below meth c n0 Q fs h k n (mkF m pc Ls (.ref a :: St)) := by
  intro vm0 T locs X eT N I
  have hZ : Z.Warmed39 (s.setVm vm0).vm := I.hZ
  have hown : (s.setVm vm0).vm.findClass own = some m.cls := C.hownAt I.hZ
  obtain ⟨T', X', e', st⟩ := getF X C.hx hZ hown (host := "") (Or.inl (C.hw w)) via eT F (g := mkF m pc Ls (.ref a :: St)) rfl rfl (hb C.hby hd)
  obtain ⟨s2, o, st2, r⟩ := K vm0 T' locs X' e' N I
  exact ⟨s2, o, st _ st2, r⟩
theorem g_putfield (C : Cx Z a0 tb p s m meth c own mname bytes maxL ret n0) {index kk : Nat} {R0 O nm d Cn : String} {a : Addr} {v old : Value} (ty : FieldType) (w : Jvm.Cond.fieldLink own index R0 nm d ∈ tb) (via : Via Z R0 O nm d) (F : Fld Z h a O nm d old) (E : Exa Z h a Cn) (hl : Jvm.Cond.lays Cn O nm d ∈ tb ∨ (Jvm.Cond.laysFinal Cn O nm d ∈ tb ∧ own = O ∧ mname = "<init>")) (wi : Jvm.Cond.instantiable Cn kk ∈ tb)
    (hty : parseFieldDescriptor d = some ty) (hn : narrow ty v = v) (hf : fits ty v = true) (ha : a ∈ fs) (hd : decode bytes pc = .ok (.putfield index, 3))
    (K : ∀ h', Wr h h' a (Jvm.RoadKit.slotOf Z O nm d) v → Fld Z h' a O nm d v → Go Z EL p l e R s m args below meth c n0 Q fs h' k n (mkF m (pc + 3) Ls St)) : Go Z EL p l e R s m args below meth c n0 Q fs h k n (mkF m pc Ls (v :: .ref a :: St)) := by
  intro vm0 T locs X eT N I
  have hZ : Z.Warmed39 (s.setVm vm0).vm := I.hZ
  have hown : (s.setVm vm0).vm.findClass own = some m.cls := C.hownAt I.hZ
  obtain ⟨T', h', X', e', W', st⟩ := putF X C.hx hZ hown (host := "") (Or.inl (C.hw w)) via eT F E (hl.imp (fun q => C.hw q) (fun q => ⟨C.hw q.1, q.2.1, C.hnm.trans q.2.2⟩)) (C.hw wi) (ty := ty) hty hn hf (g := mkF m pc Ls (v :: .ref a :: St)) rfl rfl (hb C.hby hd)
  obtain ⟨s2, o, st2, r⟩ := K h' W' (F.same W') vm0 T' _ X' e' (Fr.snoc X' N (I.ge ha)) (I.wr W' ha)
  exact ⟨s2, o, st _ st2, r⟩
theorem g_putfieldZ (C : Cx Z a0 tb p s m meth c own mname bytes maxL ret n0) {index kk : Nat} {R0 O nm d Cn : String} {a : Addr} {x : Int32} {old : Value} (ty : FieldType) (v' : Value) (w : Jvm.Cond.fieldLink own index R0 nm d ∈ tb) (via : Via Z R0 O nm d) (F : Fld Z h a O nm d old) (E : Exa Z h a Cn) (hl : Jvm.Cond.lays Cn O nm d ∈ tb ∨ (Jvm.Cond.laysFinal Cn O nm d ∈ tb ∧ own = O ∧ mname = "<init>")) (wi : Jvm.Cond.instantiable Cn kk ∈ tb)
    (hty : parseFieldDescriptor d = some ty) (hn : narrow ty (.int x) = v') (hf : fits ty v' = true) (ha : a ∈ fs) (hd : decode bytes pc = .ok (.putfield index, 3))
    (K : ∀ h', Wr h h' a (Jvm.RoadKit.slotOf Z O nm d) v' → Fld Z h' a O nm d v' → Go Z EL p l e R s m args below meth c n0 Q fs h' k n (mkF m (pc + 3) Ls St)) : Go Z EL p l e R s m args below meth c n0 Q fs h k n (mkF m pc Ls (.int x :: .ref a :: St)) := by
  intro vm0 T locs X eT N I
  have hZ : Z.Warmed39 (s.setVm vm0).vm := I.hZ
  have hown : (s.setVm vm0).vm.findClass own = some m.cls := C.hownAt I.hZ
  obtain ⟨T', h', X', e', W', st⟩ := putFN X C.hx hZ hown (C.hw w) via eT F E (hl.imp (fun q => C.hw q) (fun q => ⟨C.hw q.1, q.2.1, C.hnm.trans q.2.2⟩)) (C.hw wi) (ty := ty) (v' := v') hty hn hf (g := mkF m pc Ls (.int x :: .ref a :: St)) rfl rfl (hb C.hby hd)
  obtain ⟨s2, o, st2, r⟩ := K h' W' (F.same W') vm0 T' _ X' e' (Fr.snoc X' N (I.ge ha)) (I.wr W' ha)
  exact ⟨s2, o, st _ st2, r⟩
theorem g_getstatic (C : Cx Z a0 tb p s m meth c own mname bytes maxL ret n0) {index : Nat} {R0 O nm d : String} {v : Value} (w : Jvm.Cond.fieldLink own index R0 nm d ∈ tb) (via : Via Z R0 O nm d) (F : Sta Z h O nm d v) (hd : decode bytes pc = .ok (.getstatic index, 3))
    (K : Go Z EL p l e R s m args below meth c n0 Q fs h k n (mkF m (pc + 3) Ls (v :: St))) : Go Z EL p l e R s m args below meth c n0 Q fs h k n (mkF m pc Ls St) := by
  intro vm0 T locs X eT N I
  have hZ : Z.Warmed39 (s.setVm vm0).vm := I.hZ
  have hown : (s.setVm vm0).vm.findClass own = some m.cls := C.hownAt I.hZ
  obtain ⟨T', X', e', st⟩ := getS2 X C.hx hZ hown (host := "") (Or.inl (C.hw w)) via eT F (g := mkF m pc Ls St) rfl (hb C.hby hd)
  obtain ⟨s2, o, st2, r⟩ := K vm0 T' locs X' e' N I
  exact ⟨s2, o, st _ st2, r⟩
theorem g_checkcast (C : Cx Z a0 tb p s m meth c own mname bytes maxL ret n0) {index : Nat} {Kn : String} {a : Addr} (w : Jvm.Cond.classLink own index Kn ∈ tb) (F : Ins Z h a Kn true) (hd : decode bytes pc = .ok (.checkcast index, 3))
    (K : Go Z EL p l e R s m args below meth c n0 Q fs h k n (mkF m (pc + 3) Ls (.ref a :: St))) : Go Z EL p l e R s m args below meth c n0 Q fs h k n (mkF m pc Ls (.ref a :: St)) := by
  intro vm0 T locs X eT N I
  have hZ : Z.Warmed39 (s.setVm vm0).vm := I.hZ
  have hown : (s.setVm vm0).vm.findClass own = some m.cls := C.hownAt I.hZ
  obtain ⟨T', X', e', st⟩ := castY X C.hx hZ hown (C.hw w) eT F (g := mkF m pc Ls (.ref a :: St)) rfl rfl (hb C.hby hd)
  obtain ⟨s2, o, st2, r⟩ := K vm0 T' locs X' e' N I
  exact ⟨s2, o, st _ st2, r⟩
theorem g_initO (C : Cx Z a0 tb p s m meth c own mname bytes maxL ret n0) {index : Nat} {a : Addr} (w1 : Jvm.Cond.methodLink own index Lib.objectInit ∈ tb) (w2 : Jvm.Cond.instanceMethod Lib.objectInit ∈ tb) (w3 : Jvm.Cond.code Lib.objectInit ⟨#[0xb1]⟩ 1 none ∈ tb) (hsz : Ls.size = maxL) (hd : decode bytes pc = .ok (.invokespecial index, 3)) (hf : 1 ≤ R.frames) (W : Nat) (hW : (St.map fun v => v.category).sum ≤ W) (hl : W + 12 ≤ R.locals)
    (K : Go Z EL p l e R s m args below meth c n0 Q fs h k n (mkF m (pc + 3) Ls St)) : Go Z EL p l e R s m args below meth c n0 Q fs h k n (mkF m pc Ls (.ref a :: St)) := by
  intro vm0 T locs X eT N I
  have hZ : Z.Warmed39 (s.setVm vm0).vm := I.hZ
  have hown : (s.setVm vm0).vm.findClass own = some m.cls := C.hownAt I.hZ
  obtain ⟨T', X', e', st⟩ := initO X C.hx hZ hown (C.hw w1) (C.hw w2) (C.hw w3) eT (g := mkF m pc Ls (.ref a :: St)) rfl (hsz.trans C.hml.symm) rfl (hb C.hby hd) hf (W := W) (by show 2 * 0 + _ ≤ _; omega) hl
  obtain ⟨s2, o, st2, r⟩ := K vm0 T' locs X' e' N I
  exact ⟨s2, o, st _ st2, r⟩
theorem own_end {vm0 : Vm} {k0 : Nat} {v : Option Value} {T : State} {ff : List Frame} {L : List Loc} {kc kn : Nat} (hS : s.Since vm0 k0) (hk0 : k0 ≤ T.heap.size) (hW : (s.setVm vm0).WarmedH (T.setFrames ff).vm) (hs : (s.setVm vm0).sameButNew ({ T.setFrames ff with vm := (s.setVm vm0).vm } : State) L kc kn) : ReturnedEndW s (.returned v) (T.setFrames ff) L kc kn := by
  have q := hS.trans (hW.since (T.setFrames ff).heap.size) hk0
  exact ⟨⟨_, rfl⟩, q.1, q.2, hs.setVm s.vm⟩
theorem g_ldcS (C : Cx Z a0 tb p s m meth c own mname bytes maxL ret n0) (hEL : EW Z a0 EL) {index : Nat} {text : String} (w : Jvm.Cond.stringLink own index text ∈ tb) (wS : ∀ a ∈ Bundle.stringAtoms, a ∈ tb) (hmem : (own, index) ∈ EL) (cs : List Int32) (ht : (∀ c ∈ text.toList, c.toNat < 256) ∧ text.toList.map (fun c => Value.int (Jvm.Lit.byteI c.toNat.toUInt16)) = (cs.map fun c => c.toInt8.toInt32).map Value.int) (hcs : cs.length ≤ 4000) (hb8 : ∀ c ∈ cs, ¬ c < 0 ∧ ¬ (255 : Int32) < c)
    (hd : decode bytes pc = .ok (.ldc index, 2)) (nn : Nat) (hn : 4 * text.toList.length ≤ nn) (hbig : nn ≤ 536870912) (hc : k + 2 ≤ R.cells) (hl : n + (nn + 4) ≤ R.slots)
    (K : ∀ a b kb h', Ext h h' → Str Z h' a b kb cs → (∀ x ∈ fs, x ≠ a ∧ x ≠ b) → Go Z EL p l e R s m args below meth c n0 Q fs h' (k + 2) (n + (nn + 4)) (mkF m (pc + 2) Ls (.ref a :: St))) : Go Z EL p l e R s m args below meth c n0 Q fs h k n (mkF m pc Ls St) := by
  intro vm0 T locs X eT N I
  have hZ : Z.Warmed39 (s.setVm vm0).vm := I.hZ
  have hown : (s.setVm vm0).vm.findClass own = some m.cls := C.hownAt I.hZ
  obtain ⟨k0, hS, hk0⟩ := I.2.2.1
  have e31 : (Int32.ofNat cs.length).toInt = cs.length := Int32.toInt_ofNat_of_lt (by omega)
  have hz : ¬ Int32.ofNat cs.length < 0 := by
    rw [Int32.lt_iff_toInt_lt, e31]; show ¬ (cs.length : Int) < 0; omega
  have hlen : (Int32.ofNat cs.length).toNatClampNeg = ((cs.map fun c => c.toInt8.toInt32).map Value.int).length := by
    rw [Int32.toNatClampNeg, e31]; simp
  obtain ⟨a, T', h', k1, b, kb, X', e', E', hS', hk1, hZ', hown', s1, s2, s3, s4, s5, s6, hC, hL, hne, st⟩ := ldcCH X C.hx hZ hown (C.hw w) (fun a ha => C.hw (wS a ha)) eT hS hk0 hEL hmem I.2.2.2.2.1 ht hz hlen (g := mkF m pc Ls St) rfl (hb C.hby hd) hn hbig hc hl
  have I' : Inv Z EL s T'.vm n0 fs h' := ⟨Nat.le_trans I.1 hC.2.1, fun x hx => ⟨(I.2.1 x hx).1, Nat.lt_of_lt_of_le (I.2.1 x hx).2.1 hC.2.1, hC.safe (I.2.1 x hx).2.1 (I.2.1 x hx).2.2⟩, ⟨k1, hS', hk1⟩, hZ', hC.1, I.2.2.2.2.2.trans hC⟩
  obtain ⟨s2', o, st2, r⟩ := K a b kb h' E' ⟨s1, s2, s3, s4, hcs, hb8⟩ (fun x hx => hne x (I'.2.1 x hx).2.2) T'.vm T' locs X' e' N I'
  exact ⟨s2', o, st _ st2, r⟩
theorem own_narref {t : FieldType} {v : Value} (ht : t.isReference = true) (hv : v.isRef = true) : narrow t v = v := by
  rcases ref_cases hv with rfl | ⟨b, rfl⟩ <;> cases t <;> first | rfl | (cases ht)
theorem g_returnX (C : Cx Z a0 tb p s m meth c own mname bytes maxL ret n0) (hEL : EW Z a0 EL)  (ns : List Addr) (hns : ∀ x ∈ ns, x ∈ fs) (hret : ret = none) (hd : decode bytes pc = .ok (.return_, 1)) (hk : k ≤ R.cells) (hn : n ≤ R.slots) (hQ : Q (none) h ns) : Go Z EL p l e R s m args below meth c n0 Q fs h k n (mkF m pc Ls ([])) := by
  intro vm0 T locs X eT N I
  have hZ : Z.Warmed39 (s.setVm vm0).vm := I.hZ
  have hown : (s.setVm vm0).vm.findClass own = some m.cls := C.hownAt I.hZ
  obtain ⟨ff, hr, hrun, hended, hW, hsame⟩ := X.leave (v := none) (fun _ => rfl) C.hlk
  refine ⟨_, _, X.returnOut C.hx (C.hret.trans hret) (hb C.hby hd) hr, hrun, hended, _, _, ns, rfl, ⟨by rw [show (T.setFrames ff).heap = T.heap from rfl, eT]; exact hQ, N⟩, ?_, ?_, ?_⟩
  · intro y hy
    have J := CHv.at X I.hZ hEL I.2.2.2.2.1
    have q := I.2.1 y (hns y hy)
    rw [show (T.setFrames ff).heap = h from eT]
    exact ⟨q.1, q.2.1, J.safe q.2.1 q.2.2⟩
  · exact (by rw [show (T.setFrames ff).heap = h from eT]; exact (show CHr Z EL s.vm s.heap T.vm h from I.2.2.2.2.2.trans (CHv.at X I.hZ hEL I.2.2.2.2.1)))
  · obtain ⟨k0, hS, hk0⟩ := I.2.2.1
    exact own_end hS (by rw [← eT] at hk0; exact hk0) hW (hsame.mono hk hn)
theorem g_return (C : Cx Z a0 tb p s m meth c own mname bytes maxL ret n0) (hEL : EW Z a0 EL)  (hret : ret = none) (hd : decode bytes pc = .ok (.return_, 1)) (hk : k ≤ R.cells) (hn : n ≤ R.slots) (hQ : Q2 (none) h) : Go Z EL p l e R s m args below meth c n0 (nq Q2) fs h k n (mkF m pc Ls ([])) :=
  g_returnX C hEL [] all0 hret hd hk hn ⟨rfl, hQ⟩
theorem g_ireturnNX (C : Cx Z a0 tb p s m meth c own mname bytes maxL ret n0) (hEL : EW Z a0 EL) {z : Int32} {t : FieldType} (ns : List Addr) (hns : ∀ x ∈ ns, x ∈ fs) (hret : ret = some t) (ht : t = .boolean ∨ t = .byte ∨ t = .char ∨ t = .short) (hd : decode bytes pc = .ok (.ireturn, 1)) (hk : k ≤ R.cells) (hn : n ≤ R.slots) (hQ : Q (some (.int (nar t z))) h ns) : Go Z EL p l e R s m args below meth c n0 Q fs h k n (mkF m pc Ls (.int z :: St)) := by
  intro vm0 T locs X eT N I
  have hZ : Z.Warmed39 (s.setVm vm0).vm := I.hZ
  have hown : (s.setVm vm0).vm.findClass own = some m.cls := C.hownAt I.hZ
  obtain ⟨ff, hr, hrun, hended, hW, hsame⟩ := X.leave (v := some (.int (nar t z))) (fun q => by rw [C.hret, hret] at q; cases q) C.hlk
  refine ⟨_, _, retN X C.hx (C.hret.trans hret) ht (hb C.hby hd) hr, hrun, hended, _, _, ns, rfl, ⟨by rw [show (T.setFrames ff).heap = T.heap from rfl, eT]; exact hQ, N⟩, ?_, ?_, ?_⟩
  · intro y hy
    have J := CHv.at X I.hZ hEL I.2.2.2.2.1
    have q := I.2.1 y (hns y hy)
    rw [show (T.setFrames ff).heap = h from eT]
    exact ⟨q.1, q.2.1, J.safe q.2.1 q.2.2⟩
  · exact (by rw [show (T.setFrames ff).heap = h from eT]; exact (show CHr Z EL s.vm s.heap T.vm h from I.2.2.2.2.2.trans (CHv.at X I.hZ hEL I.2.2.2.2.1)))
  · obtain ⟨k0, hS, hk0⟩ := I.2.2.1
    exact own_end hS (by rw [← eT] at hk0; exact hk0) hW (hsame.mono hk hn)
theorem g_ireturnN (C : Cx Z a0 tb p s m meth c own mname bytes maxL ret n0) (hEL : EW Z a0 EL) {z : Int32} {t : FieldType} (hret : ret = some t) (ht : t = .boolean ∨ t = .byte ∨ t = .char ∨ t = .short) (hd : decode bytes pc = .ok (.ireturn, 1)) (hk : k ≤ R.cells) (hn : n ≤ R.slots) (hQ : Q2 (some (.int (nar t z))) h) : Go Z EL p l e R s m args below meth c n0 (nq Q2) fs h k n (mkF m pc Ls (.int z :: St)) :=
  g_ireturnNX C hEL [] all0 hret ht hd hk hn ⟨rfl, hQ⟩
theorem g_areturnX (C : Cx Z a0 tb p s m meth c own mname bytes maxL ret n0) (hEL : EW Z a0 EL) {v : Value} {t : FieldType} (ns : List Addr) (hns : ∀ x ∈ ns, x ∈ fs) (hret : ret = some t) (ht : t.isReference = true) (hv : v.isRef = true) (hd : decode bytes pc = .ok (.areturn, 1)) (hk : k ≤ R.cells) (hn : n ≤ R.slots) (hQ : Q (some v) h ns) : Go Z EL p l e R s m args below meth c n0 Q fs h k n (mkF m pc Ls (v :: St)) := by
  intro vm0 T locs X eT N I
  have hZ : Z.Warmed39 (s.setVm vm0).vm := I.hZ
  have hown : (s.setVm vm0).vm.findClass own = some m.cls := C.hownAt I.hZ
  obtain ⟨ff, hr, hrun, hended, hW, hsame⟩ := X.leave (v := some v) (fun q => by rw [C.hret, hret] at q; cases q) C.hlk
  refine ⟨_, _, retOut X C.hx (C.hret.trans hret) (own_narref ht hv) (Or.inr (Or.inr (Or.inr (Or.inr ⟨rfl, ht, hv⟩)))) (hb C.hby hd) hr, hrun, hended, _, _, ns, rfl, ⟨by rw [show (T.setFrames ff).heap = T.heap from rfl, eT]; exact hQ, N⟩, ?_, ?_, ?_⟩
  · intro y hy
    have J := CHv.at X I.hZ hEL I.2.2.2.2.1
    have q := I.2.1 y (hns y hy)
    rw [show (T.setFrames ff).heap = h from eT]
    exact ⟨q.1, q.2.1, J.safe q.2.1 q.2.2⟩
  · exact (by rw [show (T.setFrames ff).heap = h from eT]; exact (show CHr Z EL s.vm s.heap T.vm h from I.2.2.2.2.2.trans (CHv.at X I.hZ hEL I.2.2.2.2.1)))
  · obtain ⟨k0, hS, hk0⟩ := I.2.2.1
    exact own_end hS (by rw [← eT] at hk0; exact hk0) hW (hsame.mono hk hn)
theorem g_areturn (C : Cx Z a0 tb p s m meth c own mname bytes maxL ret n0) (hEL : EW Z a0 EL) {v : Value} {t : FieldType} (hret : ret = some t) (ht : t.isReference = true) (hv : v.isRef = true) (hd : decode bytes pc = .ok (.areturn, 1)) (hk : k ≤ R.cells) (hn : n ≤ R.slots) (hQ : Q2 (some v) h) : Go Z EL p l e R s m args below meth c n0 (nq Q2) fs h k n (mkF m pc Ls (v :: St)) :=
  g_areturnX C hEL [] all0 hret ht hv hd hk hn ⟨rfl, hQ⟩
/-- a body's contract: called so, over this heap, it returns with Q, and the literals' invariant goes on -/
def Met (l : Launch) (Z : State) (EL : List (String × Nat)) (y : MethodName) (bytes : ByteArray) (maxL : Nat) (ret : Option FieldType) (ws : List Jvm.Cond) (rm : Room) (fs : List Addr) (as' : Array Value) (h : Heap) (n0 : Nat) (Q : Option Value → Heap → List Addr → Prop) : Prop :=
  n0 ≤ h.size → (∀ x ∈ fs, n0 ≤ x ∧ x < h.size) → MetFree l y (head1 (Jvm.Cond.code y bytes maxL ret :: ws) rm) (fun a U => a = as' ∧ Z.Warmed39 U.vm ∧ U.heap = h ∧ CHv Z EL U.vm h ∧ ∀ x ∈ fs, Safe Z EL U.vm h x) (fun _ _ _ _ _ => True) (fun _ U o U' => ∃ v L ns, o = .returned v ∧ (Q v U'.heap ns ∧ Fr n0 L) ∧ (∀ x ∈ ns, n0 ≤ x ∧ x < U'.heap.size ∧ Safe Z EL U'.vm U'.heap x) ∧ CHr Z EL U.vm U.heap U'.vm U'.heap ∧ ReturnedEndW U o U' L rm.cells rm.slots)
theorem met_of {y : MethodName} {ws : List Jvm.Cond} {as' : Array Value} (hpl : plainFor y = true) (hw : ∀ d ∈ tb, d.before a0 Z = true) (Ls : Array Slot) (hef : ∀ m : MethodId, entryFrame m as' maxL = mkF m 0 Ls [])
    (H : ∀ p e s m below meth c, Cx Z a0 tb p s m meth c y.cls y.name bytes maxL ret n0 → Go Z EL p l e R s m as' below meth c n0 Q fs h 0 0 (mkF m 0 Ls [])) : Met l Z EL y bytes maxL ret ws R fs as' h n0 Q := by
  intro hn0 hfs
  refine MetFree.of_bodySF hpl hisR ?_
  intro p e s m args below meth c s₁ Bd hml0 hP hK
  obtain ⟨rfl, hZ, hh, hH, hsf⟩ := hP
  have X0 : Stand p l e R (s.setVm s.vm) m args below meth c s₁ [] 0 0 := Stand.of_body Bd
  have e0 : s₁.heap = h := by rw [← hh, Bd.state]; rfl
  have C : Cx Z a0 tb p s m meth c y.cls y.name bytes maxL ret n0 := ⟨Bd.exec, hZ, findClass_of_methodNamed Bd.named, Bd.bytes, hml0, Bd.returns, Bd.notSynchronized, hw, (name_of_methodNamed Bd.named Bd.method).1, by rw [hh]; exact hn0⟩
  have I : Inv Z EL s s.vm n0 fs h := ⟨hn0, fun x hx => ⟨(hfs x hx).1, (hfs x hx).2, hsf x hx⟩, ⟨0, (State.WarmedH.refl s).since 0, Nat.zero_le _⟩, hZ, hH, by rw [hh]; exact CHr.refl hH⟩
  obtain ⟨s2, o, st, r⟩ := H p e s m below meth c C s.vm s₁ [] X0 e0 (Fr.nil n0) I
  exact ⟨s2, o, castTop (hef m) st, r⟩
/-- the same as the caller needs it -/
def Ct (l : Launch) (Z : State) (EL : List (String × Nat)) (y : MethodName) (maxL : Nat) (rm : Room) (fs : List Addr) (as' : Array Value) (h : Heap) (n0 : Nat) (Q : Option Value → Heap → List Addr → Prop) : Prop :=
  ∀ ⦃R : Room⦄ ⦃p : Program⦄ ⦃e : Env⦄ ⦃below : List Frame⦄ ⦃s : State⦄ ⦃vm0 : Vm⦄ ⦃args : Array Value⦄ ⦃len W : Nat⦄, Z.Warmed39 vm0 → n0 ≤ h.size → (∀ x ∈ fs, n0 ≤ x ∧ x < h.size ∧ Safe Z EL vm0 h x) → CHv Z EL vm0 h → rm.frames + 1 ≤ R.frames → W + (maxL + 11) + rm.locals ≤ R.locals →
    BackS l R p e below (s.setVm vm0) args y len W (fun A a => a = as' ∧ A.U.heap = h ∧ A.cells + rm.cells ≤ R.cells ∧ A.slots + rm.slots ≤ R.slots) (fun A _ v B => ∃ L ns, (Q v B.U.heap ns ∧ Fr n0 L) ∧ B.locs = A.locs ++ L ∧ B.cells = A.cells + rm.cells ∧ B.slots = A.slots + rm.slots ∧ (∀ x ∈ ns, n0 ≤ x ∧ x < B.U.heap.size ∧ Safe Z EL B.U.vm B.U.heap x) ∧ CHr Z EL vm0 h B.U.vm B.U.heap)
theorem ct_of {y : MethodName} {rm : Room} {as' : Array Value} (hEL : EW Z a0 EL) (hw : ∀ d ∈ tb, d.before a0 Z = true) (wc : Jvm.Cond.code y bytes maxL ret ∈ tb) (wz : Jvm.Cond.initialized y.cls ∈ tb) (M : Met l Z EL y bytes maxL ret [] rm fs as' h n0 Q) : Ct l Z EL y maxL rm fs as' h n0 Q := by
  intro R p e below s vm0 args len W hZ hn0 hfs H hf hl
  exact BackS.of_freeW (bytes := bytes) (maxL := maxL) (ret := ret) (E := fun _ first o t L k n => k = rm.cells ∧ n = rm.slots ∧ (∃ v ns, o = .returned v ∧ (Q v t.heap ns ∧ Fr n0 L) ∧ ∀ x ∈ ns, n0 ≤ x ∧ x < t.heap.size ∧ Safe Z EL t.vm t.heap x) ∧ CHr Z EL first.vm first.heap t.vm t.heap) (M hn0 fun x hx => ⟨(hfs x hx).1, (hfs x hx).2.1⟩) hf hl
    (fun m meth c A a Y hp => have hU : Z.Warmed39 A.U.vm := wtrans (s := s.setVm vm0) hZ Y.warmed
      ⟨by show (Cond.and _ .tt).before a A.U = true; rw [Cond.before_and, mv hU (hw _ wc)]; rfl, mv hU (hw _ wc), mv hU (hw _ wz), hp.2.2.1, hp.2.2.2⟩)
    (fun m meth c A a g mk Y hp => ⟨hp.1, wtrans (s := s.setVm vm0) hZ Y.warmed, hp.2.1, (CHv.at Y hZ hEL H).1, fun x hx => (CHv.at Y hZ hEL H).safe (hfs x hx).2.1 (hfs x hx).2.2⟩) (fun _ _ _ _ _ _ _ _ _ => trivial)
    (fun _ _ _ _ ⟨v, L, ns, h1, h2, hs, h3, h4⟩ => ⟨L, _, _, h4, rfl, rfl, ⟨v, ns, h1, h2, hs⟩, h3⟩)
    (fun m meth c A a g mk v t L k n Y hp _ _ ⟨e1, e2, ⟨v', ns, e3, e4, e6⟩, e5⟩ => by
      cases e3; subst e1 e2
      refine ⟨L, ns, e4, rfl, rfl, rfl, e6, (CHv.at Y hZ hEL H).trans ?_⟩
      rw [← hp.2.1]; exact e5)
/-- a callee that interns nothing -/
theorem ct_back {y : MethodName} {rm : Room} {as' : Array Value} (hEL : EW Z a0 EL) (hK : ∀ v h', Q2 v h' → Keep h h' fs)
    (B0 : ∀ {R : Room} {p : Program} {e : Env} {below : List Frame} {s : State} {args : Array Value} {len W : Nat}, Z.Warmed39 s.vm → n0 ≤ h.size → (∀ x ∈ fs, n0 ≤ x) → rm.frames + 1 ≤ R.frames → W + (maxL + 11) + rm.locals ≤ R.locals →
      Back l R p e below s args y len W (fun A a => a = as' ∧ A.U.heap = h ∧ A.cells + rm.cells ≤ R.cells ∧ A.slots + rm.slots ≤ R.slots) (fun A _ v B => ∃ L, (Q2 v B.U.heap ∧ Fr n0 L) ∧ B.locs = A.locs ++ L ∧ B.cells = A.cells + rm.cells ∧ B.slots = A.slots + rm.slots)) : Ct l Z EL y maxL rm fs as' h n0 (nq Q2) := by
  intro R p e below s vm0 args len W hZ hn0 hfs H hf hl m meth c A g ig mk a X hg hsize hdg hW hn hp
  obtain ⟨v, B, X', ⟨L, ⟨q1, q2⟩, q3, q4, q5⟩, hsteps⟩ := B0 (s := s.setVm vm0) hZ hn0 (fun x hx => (hfs x hx).1) hf hl m meth c A g ig mk a X hg hsize hdg hW hn hp
  have K := hK _ _ q1
  have c1 := CHr.keep K (fun x hx => (hfs x hx).2.2) H
  have c2 := CHv.at X' hZ hEL c1.1
  exact ⟨v, B, X'.retabled X'.warmed.wide, X'.warmed.since _, by rw [hp.2.1]; exact K.1, ⟨L, [], ⟨⟨rfl, q1⟩, q2⟩, q3, q4, q5, all0, c1.trans c2⟩, hsteps⟩
theorem own_inv {vm0 vm1 : Vm} {h' : Heap} {k1 : Nat} {ns : List Addr} (I : Inv Z EL s vm0 n0 fs h) (hS : (s.setVm vm0).Since vm1 k1) (hk : k1 ≤ h'.size) (hle : h.size ≤ k1) (hns : ∀ x ∈ ns, n0 ≤ x ∧ x < h'.size ∧ Safe Z EL vm1 h' x) (hC : CHr Z EL vm0 h vm1 h') : Inv Z EL s vm1 n0 (ns ++ fs) h' := by
  obtain ⟨i1, i2, ⟨k0, i3, i4⟩, i5, i6, i7⟩ := I
  refine ⟨Nat.le_trans i1 hC.2.1, fun x hx => ?_, ⟨k1, i3.trans hS (Nat.le_trans i4 hle), hk⟩, State.Warmed39.trans (t := s.setVm vm0) i5 hS.1, hC.1, i7.trans hC⟩
  rcases List.mem_append.mp hx with hx | hx
  · exact hns x hx
  · exact ⟨(i2 x hx).1, Nat.lt_of_lt_of_le (i2 x hx).2.1 hC.2.1, hC.safe (i2 x hx).2.1 (i2 x hx).2.2⟩
theorem g_staticX (C : Cx Z a0 tb p s m meth c own mname bytes maxL ret n0) {index : Nat} {y : MethodName} {yb : ByteArray} {yr : Option FieldType} {yl' : Nat} (w1 : Jvm.Cond.methodLink own index y ∈ tb) (w2 : Jvm.Cond.static y ∈ tb) (w3 : Jvm.Cond.initialized y.cls ∈ tb) (w4 : Jvm.Cond.code y yb yl' yr ∈ tb) (hy : y.cls ≠ "java/lang/invoke/MethodHandle" ∧ y.cls ≠ "java/lang/invoke/VarHandle") {rm : Room} {fs0 : List Addr} (argsL : List Value) {Qy : Option Value → Heap → List Addr → Prop} {yl : Nat} (K0 : Ct l Z EL y yl rm fs0 argsL.toArray h n0 Qy) (hfs : ∀ x ∈ fs0, x ∈ fs) (hf : rm.frames + 1 ≤ R.frames) (W : Nat) (hlo : W + (yl + 11) + rm.locals ≤ R.locals) (hsz : Ls.size = maxL) {sig : MethodDescriptor} (hdesc : parseMethodDescriptor y.desc = some sig) (hlen : argsL.length = sig.parameters.length) (rest : List Value) (hs : St = argsL.reverse ++ rest) (hW : (rest.map fun v => v.category).sum ≤ W) (hd : decode bytes pc = .ok (.invokestatic index, 3)) (hc : k + rm.cells ≤ R.cells) (hn : n + rm.slots ≤ R.slots)
    (K : ∀ v h' ns, Qy v h' ns → Go Z EL p l e R s m args below meth c n0 Q (ns ++ fs) h' (k + rm.cells) (n + rm.slots) (mkF m (pc + 3) Ls (v.toList ++ rest))) : Go Z EL p l e R s m args below meth c n0 Q fs h k n (mkF m pc Ls St) := by
  intro vm0 T locs X eT N I
  have hZ : Z.Warmed39 (s.setVm vm0).vm := I.hZ
  have hown : (s.setVm vm0).vm.findClass own = some m.cls := C.hownAt I.hZ
  obtain ⟨v, _, ⟨T', L', k', n'⟩, -, X', hS, hgr, ⟨Lc, ns, ⟨hQ, hN⟩, hl', hk', hn', hns, hC⟩, st⟩ := callSS X C.hx hown (mvT hZ (C.hw w1)) (mvT hZ (C.hw w2)) (mvT hZ (C.hw w3)) (mvT hZ (C.hw w4)) hy (K0 (W := W) I.hZ I.1 (I.less hfs).2.1 I.2.2.2.2.1 hf hlo) (g := mkF m pc Ls St) rfl (hsz.trans C.hml.symm) (argsL := argsL) (rest := rest) (fun sg q => by cases hdesc.symm.trans q; exact hlen) hs (by show 2 * 0 + _ ≤ _; omega) (hb C.hby hd) (fun _ _ => ⟨rfl, eT, hc, hn⟩)
  dsimp only [Pt.U, Pt.locs, Pt.cells, Pt.slots] at X' hl' hk' hn' st hQ hS hgr hC hns
  subst hl' hk' hn'
  obtain ⟨s2, o, st2, r⟩ := K v T'.heap ns hQ T'.vm T' _ X' rfl (N.app hN) (own_inv I hS (Nat.le_refl _) (by rw [← eT]; exact hgr) hns hC)
  exact ⟨s2, o, st.trans st2, r⟩
theorem g_static (C : Cx Z a0 tb p s m meth c own mname bytes maxL ret n0) {index : Nat} {y : MethodName} {yb : ByteArray} {yr : Option FieldType} {yl' : Nat} (w1 : Jvm.Cond.methodLink own index y ∈ tb) (w2 : Jvm.Cond.static y ∈ tb) (w3 : Jvm.Cond.initialized y.cls ∈ tb) (w4 : Jvm.Cond.code y yb yl' yr ∈ tb) (hy : y.cls ≠ "java/lang/invoke/MethodHandle" ∧ y.cls ≠ "java/lang/invoke/VarHandle") {rm : Room} {fs0 : List Addr} (argsL : List Value) {Qy : Option Value → Heap → Prop} {yl : Nat} (K0 : Ct l Z EL y yl rm fs0 argsL.toArray h n0 (nq Qy)) (hfs : ∀ x ∈ fs0, x ∈ fs) (hf : rm.frames + 1 ≤ R.frames) (W : Nat) (hlo : W + (yl + 11) + rm.locals ≤ R.locals) (hsz : Ls.size = maxL) {sig : MethodDescriptor} (hdesc : parseMethodDescriptor y.desc = some sig) (hlen : argsL.length = sig.parameters.length) (rest : List Value) (hs : St = argsL.reverse ++ rest) (hW : (rest.map fun v => v.category).sum ≤ W) (hd : decode bytes pc = .ok (.invokestatic index, 3)) (hc : k + rm.cells ≤ R.cells) (hn : n + rm.slots ≤ R.slots)
    (K : ∀ v h', Qy v h' → Go Z EL p l e R s m args below meth c n0 Q fs h' (k + rm.cells) (n + rm.slots) (mkF m (pc + 3) Ls (v.toList ++ rest))) : Go Z EL p l e R s m args below meth c n0 Q fs h k n (mkF m pc Ls St) :=
  g_staticX C w1 w2 w3 w4 hy argsL K0 hfs hf W hlo hsz hdesc hlen rest hs hW hd hc hn (fun v h' ns q => by obtain ⟨rfl, q⟩ := q; exact K v h' q)
theorem g_specialX (C : Cx Z a0 tb p s m meth c own mname bytes maxL ret n0) {index : Nat} {y : MethodName} {a : Addr} {yb : ByteArray} {yl' : Nat} (w1 : Jvm.Cond.methodLink own index y ∈ tb) (w2 : Jvm.Cond.instanceMethod y ∈ tb) (w4 : Jvm.Cond.code y yb yl' none ∈ tb) (hy1 : y.name = "<init>") (hy : y.cls ≠ "java/lang/invoke/MethodHandle" ∧ y.cls ≠ "java/lang/invoke/VarHandle") {rm : Room} {fs0 : List Addr} (argsL : List Value) {Qy : Option Value → Heap → List Addr → Prop} {yl : Nat} (K0 : Ct l Z EL y yl rm fs0 (.ref a :: argsL).toArray h n0 Qy) (hfs : ∀ x ∈ fs0, x ∈ fs) (hf : rm.frames + 1 ≤ R.frames) (W : Nat) (hlo : W + (yl + 11) + rm.locals ≤ R.locals) (hsz : Ls.size = maxL) {sig : MethodDescriptor} (hdesc : parseMethodDescriptor y.desc = some sig) (hlen : argsL.length = sig.parameters.length) (rest : List Value) (hs : St = argsL.reverse ++ .ref a :: rest) (hW : (rest.map fun v => v.category).sum ≤ W) (hd : decode bytes pc = .ok (.invokespecial index, 3)) (hc : k + rm.cells ≤ R.cells) (hn : n + rm.slots ≤ R.slots)
    (K : ∀ v h' ns, Qy v h' ns → Go Z EL p l e R s m args below meth c n0 Q (ns ++ fs) h' (k + rm.cells) (n + rm.slots) (mkF m (pc + 3) Ls (v.toList ++ rest))) : Go Z EL p l e R s m args below meth c n0 Q fs h k n (mkF m pc Ls St) := by
  intro vm0 T locs X eT N I
  have hZ : Z.Warmed39 (s.setVm vm0).vm := I.hZ
  have hown : (s.setVm vm0).vm.findClass own = some m.cls := C.hownAt I.hZ
  obtain ⟨v, _, ⟨T', L', k', n'⟩, -, X', hS, hgr, ⟨Lc, ns, ⟨hQ, hN⟩, hl', hk', hn', hns, hC⟩, st⟩ := X.specialBackS C.hx hy1 hown (mvT hZ (C.hw w1)) (mvT hZ (C.hw w2)) (mvT hZ (C.hw w4)) hy (K0 (W := W) I.hZ I.1 (I.less hfs).2.1 I.2.2.2.2.1 hf hlo) (g := mkF m pc Ls St) rfl (hsz.trans C.hml.symm) (Steps.refl _) (a := a) (argsL := argsL) (rest := rest) (fun sg q => by cases hdesc.symm.trans q; exact hlen) hs (by show 2 * 0 + _ ≤ _; omega) (hb C.hby hd) (fun _ _ => ⟨rfl, eT, hc, hn⟩)
  dsimp only [Pt.U, Pt.locs, Pt.cells, Pt.slots] at X' hl' hk' hn' st hQ hS hgr hC hns
  subst hl' hk' hn'
  obtain ⟨s2, o, st2, r⟩ := K v T'.heap ns hQ T'.vm T' _ X' rfl (N.app hN) (own_inv I hS (Nat.le_refl _) (by rw [← eT]; exact hgr) hns hC)
  exact ⟨s2, o, st.trans st2, r⟩
theorem g_special (C : Cx Z a0 tb p s m meth c own mname bytes maxL ret n0) {index : Nat} {y : MethodName} {a : Addr} {yb : ByteArray} {yl' : Nat} (w1 : Jvm.Cond.methodLink own index y ∈ tb) (w2 : Jvm.Cond.instanceMethod y ∈ tb) (w4 : Jvm.Cond.code y yb yl' none ∈ tb) (hy1 : y.name = "<init>") (hy : y.cls ≠ "java/lang/invoke/MethodHandle" ∧ y.cls ≠ "java/lang/invoke/VarHandle") {rm : Room} {fs0 : List Addr} (argsL : List Value) {Qy : Option Value → Heap → Prop} {yl : Nat} (K0 : Ct l Z EL y yl rm fs0 (.ref a :: argsL).toArray h n0 (nq Qy)) (hfs : ∀ x ∈ fs0, x ∈ fs) (hf : rm.frames + 1 ≤ R.frames) (W : Nat) (hlo : W + (yl + 11) + rm.locals ≤ R.locals) (hsz : Ls.size = maxL) {sig : MethodDescriptor} (hdesc : parseMethodDescriptor y.desc = some sig) (hlen : argsL.length = sig.parameters.length) (rest : List Value) (hs : St = argsL.reverse ++ .ref a :: rest) (hW : (rest.map fun v => v.category).sum ≤ W) (hd : decode bytes pc = .ok (.invokespecial index, 3)) (hc : k + rm.cells ≤ R.cells) (hn : n + rm.slots ≤ R.slots)
    (K : ∀ v h', Qy v h' → Go Z EL p l e R s m args below meth c n0 Q fs h' (k + rm.cells) (n + rm.slots) (mkF m (pc + 3) Ls (v.toList ++ rest))) : Go Z EL p l e R s m args below meth c n0 Q fs h k n (mkF m pc Ls St) :=
  g_specialX C w1 w2 w4 hy1 hy argsL K0 hfs hf W hlo hsz hdesc hlen rest hs hW hd hc hn (fun v h' ns q => by obtain ⟨rfl, q⟩ := q; exact K v h' q)
theorem g_virtualX (C : Cx Z a0 tb p s m meth c own mname bytes maxL ret n0) {index : Nat} {y z : MethodName} {Cn : String} {a : Addr} (E : Exa Z h a Cn) (w1 : Jvm.Cond.methodLink own index y ∈ tb) (w2 : Jvm.Cond.declares y ∈ tb) (hnf : ∀ {s' : State}, Z.Warmed39 s'.vm → NotFace s' y) (w3 : Jvm.Cond.selects Cn y z ∈ tb) (w4 : Jvm.Cond.instanceMethod z ∈ tb) (hy : y.cls ≠ "java/lang/invoke/MethodHandle" ∧ y.cls ≠ "java/lang/invoke/VarHandle") {rm : Room} {fs0 : List Addr} (argsL : List Value) {Qy : Option Value → Heap → List Addr → Prop} {yl : Nat} (K0 : Ct l Z EL z yl rm fs0 (.ref a :: argsL).toArray h n0 Qy) (hfs : ∀ x ∈ fs0, x ∈ fs) (hf : rm.frames + 1 ≤ R.frames) (W : Nat) (hlo : W + (yl + 11) + rm.locals ≤ R.locals) (hsz : Ls.size = maxL) {sig : MethodDescriptor} (hdesc : parseMethodDescriptor y.desc = some sig) (hlen : argsL.length = sig.parameters.length) (rest : List Value) (hs : St = argsL.reverse ++ .ref a :: rest) (hW : (rest.map fun v => v.category).sum ≤ W) (hd : decode bytes pc = .ok (.invokevirtual index, 3)) (hc : k + rm.cells ≤ R.cells) (hn : n + rm.slots ≤ R.slots)
    (K : ∀ v h' ns, Qy v h' ns → Go Z EL p l e R s m args below meth c n0 Q (ns ++ fs) h' (k + rm.cells) (n + rm.slots) (mkF m (pc + 3) Ls (v.toList ++ rest))) : Go Z EL p l e R s m args below meth c n0 Q fs h k n (mkF m pc Ls St) := by
  intro vm0 T locs X eT N I
  have hZ : Z.Warmed39 (s.setVm vm0).vm := I.hZ
  have hown : (s.setVm vm0).vm.findClass own = some m.cls := C.hownAt I.hZ
  obtain ⟨cq, kq, qa, qb, qc⟩ := isOf hZ eT E
  obtain ⟨v, _, ⟨T', L', k', n'⟩, -, X', hS, hgr, ⟨Lc, ns, ⟨hQ, hN⟩, hl', hk', hn', hns, hC⟩, st⟩ := X.virtualBackS C.hx hown (mvT hZ (C.hw w1)) (mvT hZ (C.hw w2)) (hnf hZ) (mvT hZ (C.hw w3)) (mvT hZ (C.hw w4)) hy (K0 (W := W) I.hZ I.1 (I.less hfs).2.1 I.2.2.2.2.1 hf hlo) qa qc (g := mkF m pc Ls St) rfl (hsz.trans C.hml.symm) (Steps.refl _) (argsL := argsL) (rest := rest) (fun sg q => by cases hdesc.symm.trans q; exact hlen) hs (by show 2 * 0 + _ ≤ _; omega) (hb C.hby hd) (fun _ _ => ⟨rfl, eT, hc, hn⟩)
  dsimp only [Pt.U, Pt.locs, Pt.cells, Pt.slots] at X' hl' hk' hn' st hQ hS hgr hC hns
  subst hl' hk' hn'
  obtain ⟨s2, o, st2, r⟩ := K v T'.heap ns hQ T'.vm T' _ X' rfl (N.app hN) (own_inv I hS (Nat.le_refl _) (by rw [← eT]; exact hgr) hns hC)
  exact ⟨s2, o, st.trans st2, r⟩
theorem g_virtual (C : Cx Z a0 tb p s m meth c own mname bytes maxL ret n0) {index : Nat} {y z : MethodName} {Cn : String} {a : Addr} (E : Exa Z h a Cn) (w1 : Jvm.Cond.methodLink own index y ∈ tb) (w2 : Jvm.Cond.declares y ∈ tb) (hnf : ∀ {s' : State}, Z.Warmed39 s'.vm → NotFace s' y) (w3 : Jvm.Cond.selects Cn y z ∈ tb) (w4 : Jvm.Cond.instanceMethod z ∈ tb) (hy : y.cls ≠ "java/lang/invoke/MethodHandle" ∧ y.cls ≠ "java/lang/invoke/VarHandle") {rm : Room} {fs0 : List Addr} (argsL : List Value) {Qy : Option Value → Heap → Prop} {yl : Nat} (K0 : Ct l Z EL z yl rm fs0 (.ref a :: argsL).toArray h n0 (nq Qy)) (hfs : ∀ x ∈ fs0, x ∈ fs) (hf : rm.frames + 1 ≤ R.frames) (W : Nat) (hlo : W + (yl + 11) + rm.locals ≤ R.locals) (hsz : Ls.size = maxL) {sig : MethodDescriptor} (hdesc : parseMethodDescriptor y.desc = some sig) (hlen : argsL.length = sig.parameters.length) (rest : List Value) (hs : St = argsL.reverse ++ .ref a :: rest) (hW : (rest.map fun v => v.category).sum ≤ W) (hd : decode bytes pc = .ok (.invokevirtual index, 3)) (hc : k + rm.cells ≤ R.cells) (hn : n + rm.slots ≤ R.slots)
    (K : ∀ v h', Qy v h' → Go Z EL p l e R s m args below meth c n0 Q fs h' (k + rm.cells) (n + rm.slots) (mkF m (pc + 3) Ls (v.toList ++ rest))) : Go Z EL p l e R s m args below meth c n0 Q fs h k n (mkF m pc Ls St) :=
  g_virtualX C E w1 w2 hnf w3 w4 hy argsL K0 hfs hf W hlo hsz hdesc hlen rest hs hW hd hc hn (fun v h' ns q => by obtain ⟨rfl, q⟩ := q; exact K v h' q)
theorem nf_sel {y : MethodName} {Cn : String} (hw : ∀ d ∈ tb, d.before a0 Z = true) (w : Jvm.Cond.selects Cn y y ∈ tb) {s' : State} (hZ : Z.Warmed39 s'.vm) : NotFace s' y := notFace_of_selects (args := #[]) (mvT hZ (hw _ w))
end OwnGo
end Jvm.OwnGo
namespace Jvm.OwnGo
open Sem ClassFile Op Lib Jvm.Stand Jvm.Free Jvm.LawKit Jvm.RoadKit Bundle
section OwnBox
variable {Z : State} {a0 : Array Value} {tb : List Jvm.Cond} {p : Program} {l : Launch} {e : Env} {R : Room} {s : State} {m : MethodId} {args : Array Value} {below : List Frame} {meth : Method} {c : Code} {own mname : String} {bytes : ByteArray} {maxL : Nat} {ret : Option FieldType} {n0 : Nat} {Q : Option Value → Heap → List Addr → Prop} {Q2 : Option Value → Heap → Prop} {fs : List Addr} {h : Heap} {k n : Nat} {pc : Nat} {Ls : Array Slot} {St : List Value} {EL : List (String × Nat)}
end OwnBox
end Jvm.OwnGo
/- laws to paste: Road.backV, Road.eqW (cut by pick.py; bodies as the Statement names them) -/
namespace Jvm.Pilot.@@N@@
namespace StrChars
open Jvm Sem ClassFile Op Lib Jvm.Stand Jvm.Free.XT Jvm.Free.ALB Jvm.Free.JM Jvm.Free
open Jvm.Lib.Cold (StaticIs)
/-- a char array whose places are chars -/
def Ch (a : Addr) (A : Cell) (U : State) : Prop := Arr .char a A U ∧ Typed .char A
theorem Ch.mv {a : Addr} {A : Cell} {U U' : State} (h : Ch a A U) (hal : U.vm.Alike U'.vm) (hh : U'.heap = U.heap) : Ch a A U' := ⟨h.1.mv hal hh, h.2⟩
theorem Ch.keep {a : Addr} {A : Cell} {U U' : State} (h : Ch a A U) (hal : U.vm.Alike U'.vm) (hk : U'.heap[a]? = some A) : Ch a A U' := ⟨h.1.keep hal hk, h.2⟩
/-- what place i of a char[]'s cell holds -/
def cv (A : Cell) (i : Nat) : Int32 := match A.slots[i]? with | some (.int x) => x | _ => 0
theorem Ch.get {a : Addr} {A : Cell} {U : State} (h : Ch a A U) {i : Nat} (hi : i < A.slots.size) : A.slots[i]? = some (.int (cv A i)) := by
  have e := Array.getElem?_eq_getElem hi
  have f := h.2 i _ e
  unfold cv; rw [e]
  generalize A.slots[i] = v at f
  cases v <;> simp [fits] at f ⊢
/-- the byte that i2b leaves of a char -/
def lo8 (x : Int32) : Int32 := x.toInt8.toInt32
theorem fits_lo8 (y : Int32) : fits .byte (.int (lo8 y)) = true := by
  have h1 := y.toInt8.le_toInt
  have h2 := y.toInt8.toInt_lt
  simp only [lo8, fits, Bool.and_eq_true, decide_eq_true_eq, Int32.le_iff_toInt_le, Int8.toInt_toInt32, show (-128 : Int32).toInt = -128 from by decide, show (127 : Int32).toInt = 127 from by decide]
  omega
/-- A' is A but that each place j of lo .. hi - 1 holds f j -/
def Laid (A A' : Cell) (lo hi : Nat) (f : Nat → Value) : Prop := A'.cls = A.cls ∧ A'.vm = A.vm ∧ A'.slots.size = A.slots.size ∧ ∀ i, A'.slots[i]? = if lo ≤ i ∧ i < hi then some (f i) else A.slots[i]?
theorem Laid.zero (A : Cell) (lo : Nat) (f : Nat → Value) : Laid A A lo (lo + 0) f := ⟨rfl, rfl, rfl, fun i => by rw [if_neg (by omega)]⟩
theorem Laid.step {A Ak : Cell} {lo k : Nat} {f : Nat → Value} {v : Value} (h : Laid A Ak lo k f) (hlo : lo ≤ k) (hk : k < Ak.slots.size) (hv : v = f k) : Laid A (Ak.setSlot k v) lo (k + 1) f := by
  refine ⟨h.1, h.2.1, by simpa [Cell.setSlot] using h.2.2.1, fun i => ?_⟩
  by_cases e : k = i
  · subst e; rw [Cell.slots_setSlot_self v hk, if_pos (by omega), hv]
  · rw [Cell.slots_setSlot_ne v e, h.2.2.2 i]
    by_cases q : lo ≤ i ∧ i < k
    · rw [if_pos q, if_pos (by omega)]
    · rw [if_neg q, if_neg (by omega)]
def U16 : String := "java/lang/StringUTF16"
namespace Cmp5
def yN : MethodName := ⟨"java/lang/StringUTF16", "compress", "([CI[BII)I"⟩
abbrev yB : ByteArray := jdk_52_method_21_code
theorem d0 : decode yB 0 = .ok (.iconst 0, 1) := by decide +kernel
theorem d1 : decode yB 1 = .ok (.istore 5, 2) := by decide +kernel
theorem d3 : decode yB 3 = .ok (.iload 5, 2) := by decide +kernel
theorem d5 : decode yB 5 = .ok (.iload 4, 2) := by decide +kernel
theorem d7 : decode yB 7 = .ok (.if_icmp (.ge) 37, 3) := by decide +kernel
theorem d10 : decode yB 10 = .ok (.aload_n 0, 1) := by decide +kernel
theorem d11 : decode yB 11 = .ok (.iload_n 1, 1) := by decide +kernel
theorem d12 : decode yB 12 = .ok (.caload, 1) := by decide +kernel
theorem d13 : decode yB 13 = .ok (.istore 6, 2) := by decide +kernel
theorem d15 : decode yB 15 = .ok (.iload 6, 2) := by decide +kernel
theorem d17 : decode yB 17 = .ok (.sipush 255, 3) := by decide +kernel
theorem d20 : decode yB 20 = .ok (.if_icmp (.le) 6, 3) := by decide +kernel
theorem d26 : decode yB 26 = .ok (.aload_n 2, 1) := by decide +kernel
theorem d27 : decode yB 27 = .ok (.iload_n 3, 1) := by decide +kernel
theorem d28 : decode yB 28 = .ok (.iload 6, 2) := by decide +kernel
theorem d30 : decode yB 30 = .ok (.i2b, 1) := by decide +kernel
theorem d31 : decode yB 31 = .ok (.bastore, 1) := by decide +kernel
theorem d32 : decode yB 32 = .ok (.iinc 1 1, 3) := by decide +kernel
theorem d35 : decode yB 35 = .ok (.iinc 3 1, 3) := by decide +kernel
theorem d38 : decode yB 38 = .ok (.iinc 5 1, 3) := by decide +kernel
theorem d41 : decode yB 41 = .ok (.goto (-38), 3) := by decide +kernel
theorem d44 : decode yB 44 = .ok (.iload 4, 2) := by decide +kernel
theorem d46 : decode yB 46 = .ok (.ireturn, 1) := by decide +kernel
def site : List Cond := []
def tab : Cond := tabOf yN yB 7 (some .int) site
def P (b : Addr) (A : Cell) (d : Addr) (B : Cell) (o q len : Nat) (args : Array Value) (s : State) : Prop := args = #[.ref b, .int (Int32.ofNat o), .ref d, .int (Int32.ofNat q), .int (Int32.ofNat len)] ∧ Ch b A s ∧ Arr .byte d B s ∧ b ≠ d ∧ o + len ≤ A.slots.size ∧ q + len ≤ B.slots.size ∧ ∀ i, i < len → ¬ 255 < cv A (o + i)
def E (b : Addr) (A : Cell) (d : Addr) (B : Cell) (o q len : Nat) (r : Option Value) (s u : State) : Prop := r = some (.int (Int32.ofNat len)) ∧ ∃ B', Put d B' s u ∧ Laid B B' q (q + len) (fun j => Value.int (lo8 (cv A (o + (j - q)))))
/-- no char of the range above 255: len; the places written hold each char's low byte -/
theorem law (l : Launch) (b : Addr) (A : Cell) (d : Addr) (B : Cell) (o q len : Nat) : Law l yN 5 5 0 0 yB 7 (some .int) site (P b A d B o q len) (E b A d B o q len) (copyLocs d q len) 0 0 := by
  refine Law.of_walk (plainFor_of_name (by decide +kernel)) (by decide +kernel) (by decide +kernel) (by decide) (fun _ _ h => by rw [h.1]; rfl) (fun _ U U' hal hh h => ⟨h.1, h.2.1.mv hal hh, h.2.2.1.mv hal hh, h.2.2.2⟩) (fun r U U' V V' h1 hal h2 h => ⟨h.1, h.2.elim fun B' q => ⟨B', q.1.mv h1 h2, q.2⟩⟩) ?_
  intro p e s m args below meth c s₁ X0 hexec hbytes hml hret hlk hnm hown hh0 W hP
  obtain ⟨rfl, hA, hB, hne, l1, l2, hp⟩ := hP
  have c1 : Steps p.tables e below (s₁.setTop (entryFrame m #[.ref b, .int (Int32.ofNat o), .ref d, .int (Int32.ofNat q), .int (Int32.ofNat len)] 7)) (s₁.setTop (mkF m 0 #[.val (.ref b), .val (.int (Int32.ofNat o)), .val (.ref d), .val (.int (Int32.ofNat q)), .val (.int (Int32.ofNat len)), .unset, .unset] [])) := entry rfl
  have hA0 := hA.1.mv X0.warmed.alike hh0
  have hB0 := hB.mv X0.warmed.alike hh0
  have a31 := hA.1.2.2.2
  have c2 : Steps p.tables e below (s₁.setTop (entryFrame m #[.ref b, .int (Int32.ofNat o), .ref d, .int (Int32.ofNat q), .int (Int32.ofNat len)] 7)) (s₁.setTop (mkF m 3 #[.val (.ref b), .val (.int (Int32.ofNat o)), .val (.ref d), .val (.int (Int32.ofNat q)), .val (.int (Int32.ofNat len)), .val (.int 0), .unset] [])) := c1.trans (by
    refine iconstV X0.here hexec rfl 0 (hb hbytes d0) (by decide) ?_
    refine XS.istore X0.here hexec rfl (hb hbytes d1) rfl rfl ?_
    exact Steps.refl _)
  have loop : ∀ (r i : Nat), i + r = len → ∀ (z : Slot), (z = .unset ∨ ∃ w, z = .val w ∧ w.category = 1) → ∀ (Tl : State) (Bk : Cell), Stand p l e { frames := 0, locals := 0, cells := 0, slots := 0 } s m #[.ref b, .int (Int32.ofNat o), .ref d, .int (Int32.ofNat q), .int (Int32.ofNat len)] below meth c Tl ([] ++ copyLocs d q i) 0 0 → Put d Bk s₁ Tl → Laid B Bk q (q + i) (fun j => Value.int (lo8 (cv A (o + (j - q))))) →
      Steps p.tables e below (s₁.setTop (entryFrame m #[.ref b, .int (Int32.ofNat o), .ref d, .int (Int32.ofNat q), .int (Int32.ofNat len)] 7)) (Tl.setTop (mkF m 3 #[.val (.ref b), .val (.int (Int32.ofNat (o + i))), .val (.ref d), .val (.int (Int32.ofNat (q + i))), .val (.int (Int32.ofNat len)), .val (.int (Int32.ofNat i)), z] [])) → ∃ (T' : State) (B' : Cell) (z' : Slot), Stand p l e { frames := 0, locals := 0, cells := 0, slots := 0 } s m #[.ref b, .int (Int32.ofNat o), .ref d, .int (Int32.ofNat q), .int (Int32.ofNat len)] below meth c T' ([] ++ copyLocs d q len) 0 0 ∧ Put d B' s₁ T' ∧ Laid B B' q (q + len) (fun j => Value.int (lo8 (cv A (o + (j - q))))) ∧
      Steps p.tables e below (s₁.setTop (entryFrame m #[.ref b, .int (Int32.ofNat o), .ref d, .int (Int32.ofNat q), .int (Int32.ofNat len)] 7)) (T'.setTop (mkF m 3 #[.val (.ref b), .val (.int (Int32.ofNat (o + len))), .val (.ref d), .val (.int (Int32.ofNat (q + len))), .val (.int (Int32.ofNat len)), .val (.int (Int32.ofNat len)), z'] [])) := by
    intro r
    induction r with
    | zero =>
      intro i hi z hz Tl Bk Xl pl fl cl
      have hil : i = len := by omega
      rw [hil] at Xl fl cl
      exact ⟨Tl, Bk, z, Xl, pl, fl, cl⟩
    | succ r ih =>
      intro i hi z hz Tl Bk Xl pl fl cl
      have all := X0.warmed.alike.symm.trans Xl.warmed.alike
      have hAl := hA0.keep all (pl.other hne hA0.1)
      have hBk := hB0.like all pl.1 fl.1 fl.2.1 fl.2.2.1
      have hlt : q + i < Bk.slots.size := by rw [fl.2.2.1]; omega
      have c3 : Steps p.tables e below (s₁.setTop (entryFrame m #[.ref b, .int (Int32.ofNat o), .ref d, .int (Int32.ofNat q), .int (Int32.ofNat len)] 7)) (Tl.setTop (mkF m 12 #[.val (.ref b), .val (.int (Int32.ofNat (o + i))), .val (.ref d), .val (.int (Int32.ofNat (q + i))), .val (.int (Int32.ofNat len)), .val (.int (Int32.ofNat i)), z] [.int (Int32.ofNat (o + i)), .ref b])) := cl.trans (by
        refine XS.iload Xl.here hexec rfl (hb hbytes d3) rfl ?_
        refine XS.iload Xl.here hexec rfl (hb hbytes d5) rfl ?_
        refine XS.icmpNo Xl.here hexec rfl (hb hbytes d7) rfl (ii_ge_f (lt32 (by omega) (by omega))) ?_
        refine XS.aloadN Xl.here hexec rfl (hb hbytes d10) rfl rfl ?_
        refine XS.iloadN Xl.here hexec rfl (hb hbytes d11) rfl ?_
        exact Steps.refl _)
      have c4 : Steps p.tables e below (s₁.setTop (entryFrame m #[.ref b, .int (Int32.ofNat o), .ref d, .int (Int32.ofNat q), .int (Int32.ofNat len)] 7)) (Tl.setTop (mkF m 13 #[.val (.ref b), .val (.int (Int32.ofNat (o + i))), .val (.ref d), .val (.int (Int32.ofNat (q + i))), .val (.int (Int32.ofNat len)), .val (.int (Int32.ofNat i)), z] [.int (cv A (o + i))])) := c3.trans (by
        refine Xl.aget hexec hAl rfl (hA.get (i := o + i) (by omega)) rfl rfl (hb hbytes d12) ?_
        exact Steps.refl _)
      have c5 : Steps p.tables e below (s₁.setTop (entryFrame m #[.ref b, .int (Int32.ofNat o), .ref d, .int (Int32.ofNat q), .int (Int32.ofNat len)] 7)) (Tl.setTop (mkF m 15 #[.val (.ref b), .val (.int (Int32.ofNat (o + i))), .val (.ref d), .val (.int (Int32.ofNat (q + i))), .val (.int (Int32.ofNat len)), .val (.int (Int32.ofNat i)), .val (.int (cv A (o + i)))] [])) := c4.trans (by
        refine XS.istoreS Xl.here hexec rfl (hb hbytes d13) rfl rfl hz ?_
        exact Steps.refl _)
      have c6 : Steps p.tables e below (s₁.setTop (entryFrame m #[.ref b, .int (Int32.ofNat o), .ref d, .int (Int32.ofNat q), .int (Int32.ofNat len)] 7)) (Tl.setTop (mkF m 31 #[.val (.ref b), .val (.int (Int32.ofNat (o + i))), .val (.ref d), .val (.int (Int32.ofNat (q + i))), .val (.int (Int32.ofNat len)), .val (.int (Int32.ofNat i)), .val (.int (cv A (o + i)))] [.int (lo8 (cv A (o + i))), .int (Int32.ofNat (q + i)), .ref d])) := c5.trans (by
        refine XS.iload Xl.here hexec rfl (hb hbytes d15) rfl ?_
        refine sipushV Xl.here hexec rfl 255 (hb hbytes d17) (by decide) ?_
        refine XS.icmpYes Xl.here hexec rfl (pc0 := 20) rfl (hb hbytes d20) rfl (ii_le_t (hp i (by omega))) (by decide) rfl ?_
        refine XS.aloadN Xl.here hexec rfl (hb hbytes d26) rfl rfl ?_
        refine XS.iloadN Xl.here hexec rfl (hb hbytes d27) rfl ?_
        refine XS.iload Xl.here hexec rfl (hb hbytes d28) rfl ?_
        refine i2b Xl.here hexec rfl (hb hbytes d30) rfl ?_
        exact Steps.refl _)
      obtain ⟨T7, X7, p7, st7⟩ := Xl.aput hexec hBk rfl hlt rfl (fits_lo8 (cv A (o + i))) (g := (mkF m 31 #[.val (.ref b), .val (.int (Int32.ofNat (o + i))), .val (.ref d), .val (.int (Int32.ofNat (q + i))), .val (.int (Int32.ofNat len)), .val (.int (Int32.ofNat i)), .val (.int (cv A (o + i)))] [.int (lo8 (cv A (o + i))), .int (Int32.ofNat (q + i)), .ref d])) rfl (rest := []) rfl (hb hbytes d31)
      have c8 : Steps p.tables e below (s₁.setTop (entryFrame m #[.ref b, .int (Int32.ofNat o), .ref d, .int (Int32.ofNat q), .int (Int32.ofNat len)] 7)) (T7.setTop (mkF m 32 #[.val (.ref b), .val (.int (Int32.ofNat (o + i))), .val (.ref d), .val (.int (Int32.ofNat (q + i))), .val (.int (Int32.ofNat len)), .val (.int (Int32.ofNat i)), .val (.int (cv A (o + i)))] [])) := c6.trans (st7 _ (Steps.refl _))
      have c9 : Steps p.tables e below (s₁.setTop (entryFrame m #[.ref b, .int (Int32.ofNat o), .ref d, .int (Int32.ofNat q), .int (Int32.ofNat len)] 7)) (T7.setTop (mkF m 3 #[.val (.ref b), .val (.int (Int32.ofNat (o + i) + 1)), .val (.ref d), .val (.int (Int32.ofNat (q + i) + 1)), .val (.int (Int32.ofNat len)), .val (.int (Int32.ofNat i + 1)), .val (.int (cv A (o + i)))] [])) := c8.trans (by
        refine iincV X7.here hexec rfl 1 (hb hbytes d32) (by decide) rfl rfl ?_
        refine iincV X7.here hexec rfl 1 (hb hbytes d35) (by decide) rfl rfl ?_
        refine iincV X7.here hexec rfl 1 (hb hbytes d38) (by decide) rfl rfl ?_
        refine XS.goto X7.here hexec rfl (pc0 := 41) rfl (hb hbytes d41) (by decide) rfl ?_
        exact Steps.refl _)
      have c10 : Steps p.tables e below (s₁.setTop (entryFrame m #[.ref b, .int (Int32.ofNat o), .ref d, .int (Int32.ofNat q), .int (Int32.ofNat len)] 7)) (T7.setTop (mkF m 3 #[.val (.ref b), .val (.int (Int32.ofNat (o + (i + 1)))), .val (.ref d), .val (.int (Int32.ofNat (q + (i + 1)))), .val (.int (Int32.ofNat len)), .val (.int (Int32.ofNat (i + 1))), .val (.int (cv A (o + i)))] [])) := by
        have := c9
        rw [succ32, succ32, succ32] at this
        exact this
      exact ih (i + 1) (by omega) _ (Or.inr ⟨_, rfl, rfl⟩) T7 _ (by rw [copyLocs_step, ← List.append_assoc]; exact X7) (pl.trans p7) (fl.step (by omega) hlt (by simp)) c10
  obtain ⟨T9, B9, z9, X9, p9, f9, g9⟩ := loop len 0 (by omega) .unset (Or.inl rfl) s₁ B (by simpa [copyLocs] using X0) ⟨hB0.1, fun _ _ => rfl, rfl⟩ (Laid.zero _ _ _) c2
  have c11 : Steps p.tables e below (s₁.setTop (entryFrame m #[.ref b, .int (Int32.ofNat o), .ref d, .int (Int32.ofNat q), .int (Int32.ofNat len)] 7)) (T9.setTop (mkF m 46 #[.val (.ref b), .val (.int (Int32.ofNat (o + len))), .val (.ref d), .val (.int (Int32.ofNat (q + len))), .val (.int (Int32.ofNat len)), .val (.int (Int32.ofNat len)), z9] [.int (Int32.ofNat len)])) := g9.trans (by
    refine XS.iload X9.here hexec rfl (hb hbytes d3) rfl ?_
    refine XS.iload X9.here hexec rfl (hb hbytes d5) rfl ?_
    refine XS.icmpYes X9.here hexec rfl (pc0 := 7) rfl (hb hbytes d7) rfl (ii_ge_t (nlt32 (by omega) (Nat.le_refl _))) (by decide) rfl ?_
    refine XS.iload X9.here hexec rfl (hb hbytes d44) rfl ?_
    exact Steps.refl _)
  exact ⟨T9, some (.int (Int32.ofNat len)), _, _, _, X9, by simp, rfl, rfl, (fun h => by cases h), ⟨rfl, B9, p9.from hh0, f9⟩, fun fs hl => c11.trans (X9.ireturnOut hexec hret rfl (Or.inl rfl) (hb hbytes d46) hl)⟩
end Cmp5
namespace Cmp3
def yN : MethodName := ⟨"java/lang/StringUTF16", "compress", "([CII)[B"⟩
abbrev yB : ByteArray := jdk_52_method_16_code
theorem d0 : decode yB 0 = .ok (.iload_n 2, 1) := by decide +kernel
theorem d1 : decode yB 1 = .ok (.newarray .byte, 2) := by decide +kernel
theorem d3 : decode yB 3 = .ok (.astore_n 3, 1) := by decide +kernel
theorem d4 : decode yB 4 = .ok (.aload_n 0, 1) := by decide +kernel
theorem d5 : decode yB 5 = .ok (.iload_n 1, 1) := by decide +kernel
theorem d6 : decode yB 6 = .ok (.aload_n 3, 1) := by decide +kernel
theorem d7 : decode yB 7 = .ok (.iconst 0, 1) := by decide +kernel
theorem d8 : decode yB 8 = .ok (.iload_n 2, 1) := by decide +kernel
theorem d9 : decode yB 9 = .ok (.invokestatic 115, 3) := by decide +kernel
theorem d12 : decode yB 12 = .ok (.istore 4, 2) := by decide +kernel
theorem d14 : decode yB 14 = .ok (.iload 4, 2) := by decide +kernel
theorem d16 : decode yB 16 = .ok (.iload_n 2, 1) := by decide +kernel
theorem d17 : decode yB 17 = .ok (.if_icmp (.eq) 40, 3) := by decide +kernel
theorem d57 : decode yB 57 = .ok (.aload_n 3, 1) := by decide +kernel
theorem d58 : decode yB 58 = .ok (.areturn, 1) := by decide +kernel
def site : List Cond := [.arrayClass .byte, Cmp5.tab] ++ staticW U16 115 Cmp5.yN
def tab : Cond := tabOf yN yB 6 (some (.array .byte)) site
def P (b : Addr) (A : Cell) (o len : Nat) (args : Array Value) (s : State) : Prop := args = #[.ref b, .int (Int32.ofNat o), .int (Int32.ofNat len)] ∧ Ch b A s ∧ o + len ≤ A.slots.size ∧ len ≤ 536870912 ∧ ∀ i, i < len → ¬ 255 < cv A (o + i)
def E (b : Addr) (A : Cell) (o len : Nat) (r : Option Value) (s u : State) : Prop := NewArr .byte "[B" len (fun j => .int (lo8 (cv A (o + j)))) r s u ∧ u.heap.size = s.heap.size + 1
/-- no char of the range above 255: a new byte[] of their low bytes -/
theorem law (l : Launch) (b : Addr) (A : Cell) (o len : Nat) : Law l yN 3 3 1 18 yB 6 (some (.array .byte)) site (P b A o len) (E b A o len) [] 1 len := by
  refine Law.of_walk (plainFor_of_name (by decide +kernel)) (by decide +kernel) (by decide +kernel) (by decide) (fun _ _ h => by rw [h.1]; rfl) (fun _ U U' hal hh h => ⟨h.1, h.2.1.mv hal hh, h.2.2⟩) (fun r U U' V V' h1 hal h2 h => ⟨NewArr.mv r U U' V V' h1 hal h2 h.1, by rw [h1, h2]; exact h.2⟩) ?_
  intro p e s m args below meth c s₁ X0 hexec hbytes hml hret hlk hnm hown hh0 W hP
  obtain ⟨rfl, hA, l1, l2, hp⟩ := hP
  have a31 := hA.1.2.2.2
  have c1 : Steps p.tables e below (s₁.setTop (entryFrame m #[.ref b, .int (Int32.ofNat o), .int (Int32.ofNat len)] 6)) (s₁.setTop (mkF m 0 #[.val (.ref b), .val (.int (Int32.ofNat o)), .val (.int (Int32.ofNat len)), .unset, .unset, .unset] [])) := entry rfl
  have c2 : Steps p.tables e below (s₁.setTop (entryFrame m #[.ref b, .int (Int32.ofNat o), .int (Int32.ofNat len)] 6)) (s₁.setTop (mkF m 1 #[.val (.ref b), .val (.int (Int32.ofNat o)), .val (.int (Int32.ofNat len)), .unset, .unset, .unset] [.int (Int32.ofNat len)])) := c1.trans (by
    refine XS.iloadN X0.here hexec rfl (hb hbytes d0) rfl ?_
    exact Steps.refl _)
  obtain ⟨T3, B3, X3, ba3, bs3, bv3, bh3, bf3, st3⟩ := X0.anew hexec (atype := .byte) (wk W (.arrayClass .byte)) rfl (by show len * 1 ≤ _; omega) (by omega) (g := (mkF m 1 #[.val (.ref b), .val (.int (Int32.ofNat o)), .val (.int (Int32.ofNat len)), .unset, .unset, .unset] [.int (Int32.ofNat len)])) rfl (hb hbytes d1) (rest := []) rfl (Nat.le_refl _) (by show 0 + len ≤ len; omega)
  rw [hh0] at ba3 st3
  have kp3 : XT.Kept s T3 := (XT.Kept.of_eq hh0).push bh3
  have hA3 := hA.keep X3.warmed.alike (kp3 _ _ hA.1.1)
  have hne : b ≠ s.heap.size := hA.1.ne
  have c4 : Steps p.tables e below (s₁.setTop (entryFrame m #[.ref b, .int (Int32.ofNat o), .int (Int32.ofNat len)] 6)) (T3.setTop (mkF m 3 #[.val (.ref b), .val (.int (Int32.ofNat o)), .val (.int (Int32.ofNat len)), .unset, .unset, .unset] [.ref s.heap.size])) := c2.trans (st3 _ (Steps.refl _))
  have c5 : Steps p.tables e below (s₁.setTop (entryFrame m #[.ref b, .int (Int32.ofNat o), .int (Int32.ofNat len)] 6)) (T3.setTop (mkF m 9 #[.val (.ref b), .val (.int (Int32.ofNat o)), .val (.int (Int32.ofNat len)), .val (.ref s.heap.size), .unset, .unset] [.int (Int32.ofNat len), .int 0, .ref s.heap.size, .int (Int32.ofNat o), .ref b])) := c4.trans (by
    refine XS.astoreN X3.here hexec rfl (hb hbytes d3) rfl rfl rfl ?_
    refine XS.aloadN X3.here hexec rfl (hb hbytes d4) rfl rfl ?_
    refine XS.iloadN X3.here hexec rfl (hb hbytes d5) rfl ?_
    refine XS.aloadN X3.here hexec rfl (hb hbytes d6) rfl rfl ?_
    refine iconstV X3.here hexec rfl 0 (hb hbytes d7) (by decide) ?_
    refine XS.iloadN X3.here hexec rfl (hb hbytes d8) rfl ?_
    exact Steps.refl _)
  obtain ⟨v6, T6, X6, E6, g6⟩ := X3.callS hexec (Cmp5.law l b A s.heap.size B3 o 0 len) hown (wks W (staticW U16 115 Cmp5.yN)) (wk W Cmp5.tab) (W := 0) (Nat.le_of_ble_eq_true rfl) (Nat.le_of_ble_eq_true rfl) (Nat.le_refl _) (by show 0 + len + 0 ≤ len; omega) (g := (mkF m 9 #[.val (.ref b), .val (.int (Int32.ofNat o)), .val (.int (Int32.ofNat len)), .val (.ref s.heap.size), .unset, .unset] [.int (Int32.ofNat len), .int (Int32.ofNat 0), .ref s.heap.size, .int (Int32.ofNat o), .ref b])) rfl (by rw [hml]; rfl) c5 (argsL := [.ref b, .int (Int32.ofNat o), .ref s.heap.size, .int (Int32.ofNat 0), .int (Int32.ofNat len)]) (rest := []) rfl rfl (by show 2 * 0 + 0 ≤ _; decide) (hb hbytes d9) (⟨rfl, hA3, ba3, hne, l1, by rw [bs3]; simp, hp⟩)
  obtain ⟨rfl, B6, p6, f6⟩ := E6
  have c7 : Steps p.tables e below (s₁.setTop (entryFrame m #[.ref b, .int (Int32.ofNat o), .int (Int32.ofNat len)] 6)) (T6.setTop (mkF m 12 #[.val (.ref b), .val (.int (Int32.ofNat o)), .val (.int (Int32.ofNat len)), .val (.ref s.heap.size), .unset, .unset] [.int (Int32.ofNat len)])) := g6
  have c8 : Steps p.tables e below (s₁.setTop (entryFrame m #[.ref b, .int (Int32.ofNat o), .int (Int32.ofNat len)] 6)) (T6.setTop (mkF m 58 #[.val (.ref b), .val (.int (Int32.ofNat o)), .val (.int (Int32.ofNat len)), .val (.ref s.heap.size), .val (.int (Int32.ofNat len)), .unset] [.ref s.heap.size])) := c7.trans (by
    refine XS.istore X6.here hexec rfl (hb hbytes d12) rfl rfl ?_
    refine XS.iload X6.here hexec rfl (hb hbytes d14) rfl ?_
    refine XS.iloadN X6.here hexec rfl (hb hbytes d16) rfl ?_
    refine XS.icmpYes X6.here hexec rfl (pc0 := 17) rfl (hb hbytes d17) rfl (ii_eq_t rfl) (by decide) rfl ?_
    refine XS.aloadN X6.here hexec rfl (hb hbytes d57) rfl rfl ?_
    exact Steps.refl _)
  have X8 := X6.wide (L' := []) (cells' := 1) (slots' := len) (fun x hx hlt => by
    simp only [List.nil_append, copyLocs, List.mem_map, List.mem_range] at hx
    obtain ⟨i, -, rfl⟩ := hx
    exact absurd hlt (Nat.lt_irrefl _)) (Nat.le_refl _) (by omega)
  exact ⟨T6, some (.ref s.heap.size), _, _, _, X8, rfl, rfl, rfl, (fun h => by cases h), ⟨⟨rfl, B6, ba3.like (X3.warmed.alike.symm.trans X6.warmed.alike) p6.1 f6.1 f6.2.1 f6.2.2.1, f6.2.1.trans bv3, by rw [X6.warmed.alike.findClass, f6.1]; exact bf3, by rw [f6.2.2.1, bs3]; simp, fun j hj => by rw [f6.2.2.2 j, if_pos (by omega)]; rfl, kp3.put p6 (Nat.le_refl _)⟩, by rw [p6.2.2, bh3, hh0]; simp⟩, fun fs hl => c8.trans (X8.areturnOut hexec rfl hret rfl (hb hbytes d58) hl)⟩
end Cmp3
namespace CodL
def yN : MethodName := ⟨"java/lang/StringUTF16", "coderFromArrayLen", "([BI)B"⟩
abbrev yB : ByteArray := jdk_52_method_15_code
theorem d0 : decode yB 0 = .ok (.iload_n 1, 1) := by decide +kernel
theorem d1 : decode yB 1 = .ok (.aload_n 0, 1) := by decide +kernel
theorem d2 : decode yB 2 = .ok (.arraylength, 1) := by decide +kernel
theorem d3 : decode yB 3 = .ok (.isub, 1) := by decide +kernel
theorem d4 : decode yB 4 = .ok (.bipush 31, 2) := by decide +kernel
theorem d6 : decode yB 6 = .ok (.iushr, 1) := by decide +kernel
theorem d7 : decode yB 7 = .ok (.i2b, 1) := by decide +kernel
theorem d8 : decode yB 8 = .ok (.ireturn, 1) := by decide +kernel
def site : List Cond := []
def tab : Cond := tabOf yN yB 2 (some .byte) site
def P (d : Addr) (B : Cell) (args : Array Value) (s : State) : Prop := args = #[.ref d, .int (Int32.ofNat B.slots.size)] ∧ Arr .byte d B s
def E (r : Option Value) (s u : State) : Prop := XT.PureE (some (.int 0)) r s u
/-- an array as long as the number of chars: LATIN1 -/
theorem law (l : Launch) (d : Addr) (B : Cell) : Law l yN 2 2 0 0 yB 2 (some .byte) site (P d B) E [] 0 0 := by
  refine Law.of_walk (plainFor_of_name (by decide +kernel)) (by decide +kernel) (by decide +kernel) (by decide) (fun _ _ h => by rw [h.1]; rfl) (fun _ U U' hal hh h => ⟨h.1, h.2.mv hal hh⟩) (fun r U U' V V' h1 hal h2 h => XT.PureE.mv r U U' V V' h1 hal h2 h) ?_
  intro p e s m args below meth c s₁ X0 hexec hbytes hml hret hlk hnm hown hh0 W hP
  obtain ⟨rfl, hB⟩ := hP
  have hB0 := hB.mv X0.warmed.alike hh0
  have c1 : Steps p.tables e below (s₁.setTop (entryFrame m #[.ref d, .int (Int32.ofNat B.slots.size)] 2)) (s₁.setTop (mkF m 0 #[.val (.ref d), .val (.int (Int32.ofNat B.slots.size))] [])) := entry rfl
  have c2 : Steps p.tables e below (s₁.setTop (entryFrame m #[.ref d, .int (Int32.ofNat B.slots.size)] 2)) (s₁.setTop (mkF m 2 #[.val (.ref d), .val (.int (Int32.ofNat B.slots.size))] [.ref d, .int (Int32.ofNat B.slots.size)])) := c1.trans (by
    refine XS.iloadN X0.here hexec rfl (hb hbytes d0) rfl ?_
    refine XS.aloadN X0.here hexec rfl (hb hbytes d1) rfl rfl ?_
    exact Steps.refl _)
  have c3 : Steps p.tables e below (s₁.setTop (entryFrame m #[.ref d, .int (Int32.ofNat B.slots.size)] 2)) (s₁.setTop (mkF m 8 #[.val (.ref d), .val (.int (Int32.ofNat B.slots.size))] [.int (lo8 (ushr (Int32.ofNat B.slots.size - Int32.ofNat B.slots.size) 31))])) := c2.trans (by
    refine X0.alen hexec hB0 rfl rfl (hb hbytes d2) ?_
    refine XS.isub X0.here hexec rfl (hb hbytes d3) rfl ?_
    refine bipushV X0.here hexec rfl 31 (hb hbytes d4) (by decide) ?_
    refine iushr X0.here hexec rfl (hb hbytes d6) rfl ?_
    refine i2b X0.here hexec rfl (hb hbytes d7) rfl ?_
    exact Steps.refl _)
  have e0 : lo8 (ushr (Int32.ofNat B.slots.size - Int32.ofNat B.slots.size) 31) = 0 := by rw [Int32.sub_self]; decide
  rw [e0] at c3
  exact ⟨s₁, some (.int 0), _, _, _, X0, rfl, rfl, rfl, (fun h => by cases h), ⟨rfl, hh0⟩, fun fs hl => c3.trans (X0.ireturnOut hexec hret rfl (Or.inr (Or.inr (Or.inl rfl))) (hb hbytes d8) hl)⟩
end CodL
/-- the String at a is Latin-1 over a new byte[] (the heap's one new cell): the low bytes of the len chars of A from o on; every cell but a is kept -/
def Got (a : Addr) (D : Cell) (fV fC : Field) (A : Cell) (o len : Nat) (r : Option Value) (s u : State) : Prop := r = none ∧ ∃ D' V : Cell, Blank "java/lang/String" a D' u ∧ Same D D' [fV.slot, fC.slot] ∧ D'.slots[fV.slot]? = some (.ref s.heap.size) ∧ D'.slots[fC.slot]? = some (.int 0) ∧ Arr .byte s.heap.size V u ∧ V.vm = .none ∧ u.vm.findClass "[B" = some V.cls ∧ V.slots.size = len ∧ (∀ j, j < len → V.slots[j]? = some (.int (lo8 (cv A (o + j))))) ∧ (∀ (y : Addr) (c : Cell), y ≠ a → s.heap[y]? = some c → u.heap[y]? = some c) ∧ u.heap.size = s.heap.size + 1
theorem Got.mv {a : Addr} {D A : Cell} {fV fC : Field} {o len : Nat} : ∀ r (U U' V V' : State), U'.heap = U.heap → V.vm.Alike V'.vm → V'.heap = V.heap → Got a D fV fC A o len r U V → Got a D fV fC A o len r U' V' :=
  fun r U U' V V' h1 hal h2 ⟨e0, D', X, a1, a2, a3, a4, a5, a6, a7, a8, a9, a10, a11⟩ => ⟨e0, D', X, a1.mv hal h2, a2, by rw [h1]; exact a3, a4, by rw [h1]; exact a5.mv hal h2, a6, by rw [hal.findClass]; exact a7, a8, a9, by rw [h1, h2]; exact a10, by rw [h1, h2]; exact a11⟩
namespace New4
def yN : MethodName := ⟨"java/lang/String", "<init>", "([CIILjava/lang/Void;)V"⟩
abbrev yB : ByteArray := jdk_42_method_149_code
theorem d0 : decode yB 0 = .ok (.aload_n 0, 1) := by decide +kernel
theorem d1 : decode yB 1 = .ok (.invokespecial 1, 3) := by decide +kernel
theorem d4 : decode yB 4 = .ok (.iload_n 3, 1) := by decide +kernel
theorem d5 : decode yB 5 = .ok (.ifCond (.ne) 22, 3) := by decide +kernel
theorem d27 : decode yB 27 = .ok (.getstatic 38, 3) := by decide +kernel
theorem d30 : decode yB 30 = .ok (.ifCond (.eq) 28, 3) := by decide +kernel
theorem d33 : decode yB 33 = .ok (.aload_n 1, 1) := by decide +kernel
theorem d34 : decode yB 34 = .ok (.iload_n 2, 1) := by decide +kernel
theorem d35 : decode yB 35 = .ok (.iload_n 3, 1) := by decide +kernel
theorem d36 : decode yB 36 = .ok (.invokestatic 177, 3) := by decide +kernel
theorem d39 : decode yB 39 = .ok (.astore 5, 2) := by decide +kernel
theorem d41 : decode yB 41 = .ok (.aload_n 0, 1) := by decide +kernel
theorem d42 : decode yB 42 = .ok (.aload 5, 2) := by decide +kernel
theorem d44 : decode yB 44 = .ok (.iload_n 3, 1) := by decide +kernel
theorem d45 : decode yB 45 = .ok (.invokestatic 47, 3) := by decide +kernel
theorem d48 : decode yB 48 = .ok (.putfield 15, 3) := by decide +kernel
theorem d51 : decode yB 51 = .ok (.aload_n 0, 1) := by decide +kernel
theorem d52 : decode yB 52 = .ok (.aload 5, 2) := by decide +kernel
theorem d54 : decode yB 54 = .ok (.putfield 9, 3) := by decide +kernel
theorem d57 : decode yB 57 = .ok (.return_, 1) := by decide +kernel
def site : List Cond := [.fieldLink "java/lang/String" 38 "java/lang/String" "COMPACT_STRINGS" "Z", Cmp3.tab, CodL.tab, .laysFinal "java/lang/String" "java/lang/String" "value" "[B", .fieldLink "java/lang/String" 9 "java/lang/String" "value" "[B", .laysFinal "java/lang/String" "java/lang/String" "coder" "B", .fieldLink "java/lang/String" 15 "java/lang/String" "coder" "B"] ++ objW "java/lang/String" 1 ++ staticW "java/lang/String" 177 Cmp3.yN ++ staticW "java/lang/String" 47 CodL.yN
def tab : Cond := tabOf yN yB 6 none site
def P (a : Addr) (D : Cell) (fV fC : Field) (b : Addr) (A : Cell) (z : Int32) (o len : Nat) (args : Array Value) (s : State) : Prop := args = #[.ref a, .ref b, .int (Int32.ofNat o), .int (Int32.ofNat len), .null] ∧ Blank "java/lang/String" a D s ∧ Found "java/lang/String" "value" "[B" fV s ∧ Found "java/lang/String" "coder" "B" fC s ∧ Ch b A s ∧ StaticIs s "java/lang/String" "COMPACT_STRINGS" "Z" (.int z) ∧ ¬ z = 0 ∧ 0 < len ∧ o + len ≤ A.slots.size ∧ len ≤ 536870912 ∧ ∀ i, i < len → ¬ 255 < cv A (o + i)
def E (a : Addr) (D : Cell) (fV fC : Field) (A : Cell) (o len : Nat) (r : Option Value) (s u : State) : Prop := Got a D fV fC A o len r s u
/-- len > 0, no char of the range above 255: a Latin-1 String of their low bytes -/
theorem law (l : Launch) (a : Addr) (D : Cell) (fV fC : Field) (b : Addr) (A : Cell) (z : Int32) (o len : Nat) : Law l yN 5 4 2 35 yB 6 none site (P a D fV fC b A z o len) (E a D fV fC A o len) [⟨a, fC.slot⟩, ⟨a, fV.slot⟩] 1 len := by
  refine Law.of_walk (plainFor_of_name (by decide +kernel)) (by decide +kernel) (by decide +kernel) (by decide) (fun _ _ h => by rw [h.1]; rfl) (fun _ U U' hal hh h => ⟨h.1, h.2.1.mv hal hh, h.2.2.1.al hal, h.2.2.2.1.al hal, h.2.2.2.2.1.mv hal hh, h.2.2.2.2.2.1.there hal hh, h.2.2.2.2.2.2⟩) (fun r U U' V V' h1 hal h2 h => Got.mv r U U' V V' h1 hal h2 h) ?_
  intro p e s m args below meth c s₁ X0 hexec hbytes hml hret hlk hnm hown hh0 W hP
  obtain ⟨rfl, hB, f1, f2, hA, s1, hz, l0, l1, l2, hp⟩ := hP
  have a31 := hA.1.2.2.2
  have c1 : Steps p.tables e below (s₁.setTop (entryFrame m #[.ref a, .ref b, .int (Int32.ofNat o), .int (Int32.ofNat len), .null] 6)) (s₁.setTop (mkF m 0 #[.val (.ref a), .val (.ref b), .val (.int (Int32.ofNat o)), .val (.int (Int32.ofNat len)), .val .null, .unset] [])) := entry rfl
  have c2 : Steps p.tables e below (s₁.setTop (entryFrame m #[.ref a, .ref b, .int (Int32.ofNat o), .int (Int32.ofNat len), .null] 6)) (s₁.setTop (mkF m 1 #[.val (.ref a), .val (.ref b), .val (.int (Int32.ofNat o)), .val (.int (Int32.ofNat len)), .val .null, .unset] [.ref a])) := c1.trans (by
    refine XS.aloadN X0.here hexec rfl (hb hbytes d0) rfl rfl ?_
    exact Steps.refl _)
  obtain ⟨T3, X3, q3, st3⟩ := X0.oinit hexec hown (wks W (objW "java/lang/String" 1)) (g := (mkF m 1 #[.val (.ref a), .val (.ref b), .val (.int (Int32.ofNat o)), .val (.int (Int32.ofNat len)), .val .null, .unset] [.ref a])) rfl (by rw [hml]; rfl) (rest := []) rfl (hb hbytes d1) (W := 0) (by show 2 * 0 + 0 ≤ _; decide) (Nat.le_of_ble_eq_true rfl) (Nat.le_of_ble_eq_true rfl)
  have hh3 := q3.trans hh0
  have c4 : Steps p.tables e below (s₁.setTop (entryFrame m #[.ref a, .ref b, .int (Int32.ofNat o), .int (Int32.ofNat len), .null] 6)) (T3.setTop (mkF m 27 #[.val (.ref a), .val (.ref b), .val (.int (Int32.ofNat o)), .val (.int (Int32.ofNat len)), .val .null, .unset] [])) := (c2.trans (st3 _ (Steps.refl _))).trans (by
    refine XS.iloadN X3.here hexec rfl (hb hbytes d4) rfl ?_
    refine XS.ifYes X3.here hexec rfl (pc0 := 5) rfl (hb hbytes d5) rfl (i0_ne_t (nz32 (by omega) l0)) (by decide) rfl ?_
    exact Steps.refl _)
  obtain ⟨T5, X5, q5, st5⟩ := X3.sget hexec hown (wk W (.fieldLink "java/lang/String" 38 "java/lang/String" "COMPACT_STRINGS" "Z")) s1 (fun _ _ h => by rw [hh3]; exact h) (g := (mkF m 27 #[.val (.ref a), .val (.ref b), .val (.int (Int32.ofNat o)), .val (.int (Int32.ofNat len)), .val .null, .unset] [])) rfl (hb hbytes d27)
  have hh5 := q5.trans hh3
  have c6 : Steps p.tables e below (s₁.setTop (entryFrame m #[.ref a, .ref b, .int (Int32.ofNat o), .int (Int32.ofNat len), .null] 6)) (T5.setTop (mkF m 30 #[.val (.ref a), .val (.ref b), .val (.int (Int32.ofNat o)), .val (.int (Int32.ofNat len)), .val .null, .unset] [.int z])) := c4.trans (st5 _ (Steps.refl _))
  have c7 : Steps p.tables e below (s₁.setTop (entryFrame m #[.ref a, .ref b, .int (Int32.ofNat o), .int (Int32.ofNat len), .null] 6)) (T5.setTop (mkF m 36 #[.val (.ref a), .val (.ref b), .val (.int (Int32.ofNat o)), .val (.int (Int32.ofNat len)), .val .null, .unset] [.int (Int32.ofNat len), .int (Int32.ofNat o), .ref b])) := c6.trans (by
    refine XS.ifNo X5.here hexec rfl (hb hbytes d30) rfl (i0_eq_f hz) ?_
    refine XS.aloadN X5.here hexec rfl (hb hbytes d33) rfl rfl ?_
    refine XS.iloadN X5.here hexec rfl (hb hbytes d34) rfl ?_
    refine XS.iloadN X5.here hexec rfl (hb hbytes d35) rfl ?_
    exact Steps.refl _)
  obtain ⟨v8, T8, X8, E8, g8⟩ := X5.callS hexec (Cmp3.law l b A o len) hown (wks W (staticW "java/lang/String" 177 Cmp3.yN)) (wk W Cmp3.tab) (W := 0) (Nat.le_of_ble_eq_true rfl) (Nat.le_of_ble_eq_true rfl) (Nat.le_refl _) (by show 0 + len ≤ len; omega) (g := (mkF m 36 #[.val (.ref a), .val (.ref b), .val (.int (Int32.ofNat o)), .val (.int (Int32.ofNat len)), .val .null, .unset] [.int (Int32.ofNat len), .int (Int32.ofNat o), .ref b])) rfl (by rw [hml]; rfl) c7 (argsL := [.ref b, .int (Int32.ofNat o), .int (Int32.ofNat len)]) (rest := []) rfl rfl (by show 2 * 0 + 0 ≤ _; decide) (hb hbytes d36) (⟨rfl, hA.mv X5.warmed.alike hh5, l1, l2, hp⟩)
  obtain ⟨e8, z8⟩ := E8
  obtain ⟨rfl, N, n1, n2, n3, n4, n5, n6⟩ := NewArr.mv _ T5 s _ _ hh5.symm (Vm.Alike.refl _) rfl e8
  rw [hh5] at z8
  have hB1 := hB.keep X8.warmed.alike (n6 _ _ hB.1)
  have hne : s.heap.size ≠ a := (Nat.ne_of_lt (Array.getElem?_eq_some_iff.mp hB.1).1).symm
  have c9 : Steps p.tables e below (s₁.setTop (entryFrame m #[.ref a, .ref b, .int (Int32.ofNat o), .int (Int32.ofNat len), .null] 6)) (T8.setTop (mkF m 39 #[.val (.ref a), .val (.ref b), .val (.int (Int32.ofNat o)), .val (.int (Int32.ofNat len)), .val .null, .unset] [.ref s.heap.size])) := g8
  have c10 : Steps p.tables e below (s₁.setTop (entryFrame m #[.ref a, .ref b, .int (Int32.ofNat o), .int (Int32.ofNat len), .null] 6)) (T8.setTop (mkF m 45 #[.val (.ref a), .val (.ref b), .val (.int (Int32.ofNat o)), .val (.int (Int32.ofNat len)), .val .null, .val (.ref s.heap.size)] [.int (Int32.ofNat N.slots.size), .ref s.heap.size, .ref a])) := by
    have hc : Steps p.tables e below (s₁.setTop (entryFrame m #[.ref a, .ref b, .int (Int32.ofNat o), .int (Int32.ofNat len), .null] 6)) (T8.setTop (mkF m 45 #[.val (.ref a), .val (.ref b), .val (.int (Int32.ofNat o)), .val (.int (Int32.ofNat len)), .val .null, .val (.ref s.heap.size)] [.int (Int32.ofNat len), .ref s.heap.size, .ref a])) := c9.trans (by
      refine XS.astore X8.here hexec rfl (hb hbytes d39) rfl rfl rfl ?_
      refine XS.aloadN X8.here hexec rfl (hb hbytes d41) rfl rfl ?_
      refine XS.aload X8.here hexec rfl (hb hbytes d42) rfl rfl ?_
      refine XS.iloadN X8.here hexec rfl (hb hbytes d44) rfl ?_
      exact Steps.refl _)
    rw [n4]; exact hc
  obtain ⟨v11, T11, X11, E11, g11⟩ := X8.callS hexec (CodL.law l s.heap.size N) hown (wks W (staticW "java/lang/String" 47 CodL.yN)) (wk W CodL.tab) (W := 1) (Nat.le_of_ble_eq_true rfl) (Nat.le_of_ble_eq_true rfl) (Nat.le_refl _) (by show 0 + len + 0 ≤ len; omega) (g := (mkF m 45 #[.val (.ref a), .val (.ref b), .val (.int (Int32.ofNat o)), .val (.int (Int32.ofNat len)), .val .null, .val (.ref s.heap.size)] [.int (Int32.ofNat N.slots.size), .ref s.heap.size, .ref a])) rfl (by rw [hml]; rfl) c10 (argsL := [.ref s.heap.size, .int (Int32.ofNat N.slots.size)]) (rest := [.ref a]) rfl rfl (by show 2 * 0 + (1 + 0) ≤ _; decide) (hb hbytes d45) (⟨rfl, n1⟩)
  obtain ⟨rfl, q11⟩ := E11
  have hB11 := hB1.mv (X8.warmed.alike.symm.trans X11.warmed.alike) q11
  have c12 : Steps p.tables e below (s₁.setTop (entryFrame m #[.ref a, .ref b, .int (Int32.ofNat o), .int (Int32.ofNat len), .null] 6)) (T11.setTop (mkF m 48 #[.val (.ref a), .val (.ref b), .val (.int (Int32.ofNat o)), .val (.int (Int32.ofNat len)), .val .null, .val (.ref s.heap.size)] [.int 0, .ref a])) := g11
  obtain ⟨T13, X13, p13, bl13, sl13, st13⟩ := X11.finit hexec hown (wk W (.fieldLink "java/lang/String" 15 "java/lang/String" "coder" "B")) (Or.inr ⟨_, (wk W (.laysFinal "java/lang/String" "java/lang/String" "coder" "B"))⟩) (Or.inl ⟨rfl, hnm⟩) f2 (Or.inl rfl) hB11 (t := .byte) (by decide +kernel) rfl (g := (mkF m 48 #[.val (.ref a), .val (.ref b), .val (.int (Int32.ofNat o)), .val (.int (Int32.ofNat len)), .val .null, .val (.ref s.heap.size)] [.int 0, .ref a])) rfl (rest := []) rfl (hb hbytes d48)
  have c14 : Steps p.tables e below (s₁.setTop (entryFrame m #[.ref a, .ref b, .int (Int32.ofNat o), .int (Int32.ofNat len), .null] 6)) (T13.setTop (mkF m 54 #[.val (.ref a), .val (.ref b), .val (.int (Int32.ofNat o)), .val (.int (Int32.ofNat len)), .val .null, .val (.ref s.heap.size)] [.ref s.heap.size, .ref a])) := (c12.trans (st13 _ (Steps.refl _))).trans (by
    refine XS.aloadN X13.here hexec rfl (hb hbytes d51) rfl rfl ?_
    refine XS.aload X13.here hexec rfl (hb hbytes d52) rfl rfl ?_
    exact Steps.refl _)
  obtain ⟨T15, X15, p15, bl15, sl15, st15⟩ := X13.finit hexec hown (wk W (.fieldLink "java/lang/String" 9 "java/lang/String" "value" "[B")) (Or.inr ⟨_, (wk W (.laysFinal "java/lang/String" "java/lang/String" "value" "[B"))⟩) (Or.inl ⟨rfl, hnm⟩) f1 (Or.inl rfl) bl13 (t := (.array .byte)) (by decide +kernel) rfl (g := (mkF m 54 #[.val (.ref a), .val (.ref b), .val (.int (Int32.ofNat o)), .val (.int (Int32.ofNat len)), .val .null, .val (.ref s.heap.size)] [.ref s.heap.size, .ref a])) rfl (rest := []) rfl (hb hbytes d54)
  have c16 : Steps p.tables e below (s₁.setTop (entryFrame m #[.ref a, .ref b, .int (Int32.ofNat o), .int (Int32.ofNat len), .null] 6)) (T15.setTop (mkF m 57 #[.val (.ref a), .val (.ref b), .val (.int (Int32.ofNat o)), .val (.int (Int32.ofNat len)), .val .null, .val (.ref s.heap.size)] [])) := c14.trans (st15 _ (Steps.refl _))
  have ap := apart (Or.inr ⟨_, (wk W (.laysFinal "java/lang/String" "java/lang/String" "value" "[B"))⟩) (Or.inr ⟨_, (wk W (.laysFinal "java/lang/String" "java/lang/String" "coder" "B"))⟩) f1 f2 (t₁ := .array .byte) (t₂ := .byte) (by decide +kernel) (by decide +kernel) (by decide)
  have al := X8.warmed.alike.symm.trans X15.warmed.alike
  have n7 : T11.heap[s.heap.size]? = some N := by rw [q11]; exact n1.1
  exact ⟨T15, none, _, _, _, X15, by simp, rfl, by omega, (fun _ => rfl), ⟨rfl, _, N, bl15, ((Same.refl D _).set _ (by simp)).set _ (by simp), sl15, (Cell.slots_setSlot_ne _ ap).trans sl13, n1.keep al (p15.other hne (p13.other hne n7)), n2, by rw [al.findClass]; exact n3, n4, n5, fun y c h1 h2 => p15.other h1 (p13.other h1 (by rw [q11]; exact n6 y c h2)), by rw [p15.2.2, p13.2.2, q11]; exact z8⟩, fun fs hl => c16.trans (X15.returnOut hexec hret (hb hbytes d57) hl)⟩
end New4
namespace New1
def yN : MethodName := ⟨"java/lang/String", "<init>", "([C)V"⟩
abbrev yB : ByteArray := jdk_42_method_3_code
theorem d0 : decode yB 0 = .ok (.aload_n 0, 1) := by decide +kernel
theorem d1 : decode yB 1 = .ok (.aload_n 1, 1) := by decide +kernel
theorem d2 : decode yB 2 = .ok (.iconst 0, 1) := by decide +kernel
theorem d3 : decode yB 3 = .ok (.aload_n 1, 1) := by decide +kernel
theorem d4 : decode yB 4 = .ok (.arraylength, 1) := by decide +kernel
theorem d5 : decode yB 5 = .ok (.aconst_null, 1) := by decide +kernel
theorem d6 : decode yB 6 = .ok (.invokespecial 27, 3) := by decide +kernel
theorem d9 : decode yB 9 = .ok (.return_, 1) := by decide +kernel
def site : List Cond := [New4.tab] ++ initW "java/lang/String" 27 New4.yN
def tab : Cond := tabOf yN yB 2 none site
def P (a : Addr) (D : Cell) (fV fC : Field) (b : Addr) (A : Cell) (z : Int32) (args : Array Value) (s : State) : Prop := args = #[.ref a, .ref b] ∧ Blank "java/lang/String" a D s ∧ Found "java/lang/String" "value" "[B" fV s ∧ Found "java/lang/String" "coder" "B" fC s ∧ Ch b A s ∧ StaticIs s "java/lang/String" "COMPACT_STRINGS" "Z" (.int z) ∧ ¬ z = 0 ∧ 0 < A.slots.size ∧ A.slots.size ≤ 536870912 ∧ ∀ i, i < A.slots.size → ¬ 255 < cv A i
def E (a : Addr) (D : Cell) (fV fC : Field) (A : Cell) (r : Option Value) (s u : State) : Prop := Got a D fV fC A 0 A.slots.size r s u
/-- new String(chars), not empty, no char above 255: a Latin-1 String of their low bytes -/
theorem law (l : Launch) (a : Addr) (D : Cell) (fV fC : Field) (b : Addr) (A : Cell) (z : Int32) : Law l yN 2 1 3 52 yB 2 none site (P a D fV fC b A z) (E a D fV fC A) [⟨a, fC.slot⟩, ⟨a, fV.slot⟩] 1 A.slots.size := by
  refine Law.of_walk (plainFor_of_name (by decide +kernel)) (by decide +kernel) (by decide +kernel) (by decide) (fun _ _ h => by rw [h.1]; rfl) (fun _ U U' hal hh h => ⟨h.1, h.2.1.mv hal hh, h.2.2.1.al hal, h.2.2.2.1.al hal, h.2.2.2.2.1.mv hal hh, h.2.2.2.2.2.1.there hal hh, h.2.2.2.2.2.2⟩) (fun r U U' V V' h1 hal h2 h => Got.mv r U U' V V' h1 hal h2 h) ?_
  intro p e s m args below meth c s₁ X0 hexec hbytes hml hret hlk hnm hown hh0 W hP
  obtain ⟨rfl, hB, f1, f2, hA, s1, hz, l0, l2, hp⟩ := hP
  have c1 : Steps p.tables e below (s₁.setTop (entryFrame m #[.ref a, .ref b] 2)) (s₁.setTop (mkF m 0 #[.val (.ref a), .val (.ref b)] [])) := entry rfl
  have c2 : Steps p.tables e below (s₁.setTop (entryFrame m #[.ref a, .ref b] 2)) (s₁.setTop (mkF m 6 #[.val (.ref a), .val (.ref b)] [.null, .int (Int32.ofNat A.slots.size), .int 0, .ref b, .ref a])) := c1.trans (by
    refine XS.aloadN X0.here hexec rfl (hb hbytes d0) rfl rfl ?_
    refine XS.aloadN X0.here hexec rfl (hb hbytes d1) rfl rfl ?_
    refine iconstV X0.here hexec rfl 0 (hb hbytes d2) (by decide) ?_
    refine XS.aloadN X0.here hexec rfl (hb hbytes d3) rfl rfl ?_
    refine X0.alen hexec (hA.1.mv X0.warmed.alike hh0) rfl rfl (hb hbytes d4) ?_
    refine XS.aconstNull X0.here hexec rfl (hb hbytes d5) ?_
    exact Steps.refl _)
  obtain ⟨v3, T3, X3, E3, g3⟩ := X0.callN hexec (New4.law l a D fV fC b A z 0 A.slots.size) rfl hown (wks W (initW "java/lang/String" 27 New4.yN)) (W New4.tab (by simp only [site, List.mem_cons, List.mem_append, true_or, or_true])) (W := 0) (Nat.le_of_ble_eq_true rfl) (Nat.le_of_ble_eq_true rfl) (Nat.le_refl _) (by show 0 + A.slots.size ≤ A.slots.size; omega) (g := (mkF m 6 #[.val (.ref a), .val (.ref b)] [.null, .int (Int32.ofNat A.slots.size), .int (Int32.ofNat 0), .ref b, .ref a])) rfl (by rw [hml]; rfl) c2 (argsL := [.ref b, .int (Int32.ofNat 0), .int (Int32.ofNat A.slots.size), .null]) (rest := []) rfl rfl (by show 2 * 0 + 0 ≤ _; decide) (hb hbytes d6) (⟨rfl, hB.mv X0.warmed.alike hh0, f1.al X0.warmed.alike, f2.al X0.warmed.alike, hA.mv X0.warmed.alike hh0, s1.there X0.warmed.alike hh0, hz, l0, by omega, l2, fun i hi => by rw [Nat.zero_add]; exact hp i hi⟩)
  have e0 := Got.mv _ s₁ s _ _ hh0.symm (Vm.Alike.refl _) rfl E3
  obtain rfl := e0.1
  have c4 : Steps p.tables e below (s₁.setTop (entryFrame m #[.ref a, .ref b] 2)) (T3.setTop (mkF m 9 #[.val (.ref a), .val (.ref b)] [])) := g3
  exact ⟨T3, none, _, _, _, X3, by simp, rfl, by omega, (fun _ => rfl), e0, fun fs hl => c4.trans (X3.returnOut hexec hret (hb hbytes d9) hl)⟩
theorem pays {l : Launch} {R : Room} {p : Program} {e : Env} {below : List Frame} {s : State} {sargs : Array Value} {len W : Nat} (a : Addr) (D : Cell) (fV fC : Field) (b : Addr) (A : Cell) (z : Int32) (htab : tab.before sargs s = true) (hfr : 4 ≤ R.frames) (hlo : W + 65 ≤ R.locals) :
    Back l R p e below s sargs yN len W (fun A₁ a₁ => A₁.cells + 1 ≤ R.cells ∧ A₁.slots + A.slots.size ≤ R.slots ∧ P a D fV fC b A z a₁ A₁.U) (fun A₁ _ v₁ B₁ => E a D fV fC A v₁ A₁.U B₁.U ∧ B₁.locs = A₁.locs ++ [⟨a, fC.slot⟩, ⟨a, fV.slot⟩] ∧ B₁.cells = A₁.cells + 1 ∧ B₁.slots = A₁.slots + A.slots.size) :=
  (law l a D fV fC b A z).pays htab hfr (by omega)
end New1
/-- the byte, read back as charAt reads it, is the char -/
theorem lo8_mask {x : Int32} (h0 : ¬ x < 0) (h1 : ¬ 255 < x) : lo8 x &&& 255 = x := by
  have t : ∀ k : Fin 256, lo8 (Int32.ofNat k.val) &&& 255 = Int32.ofNat k.val := by decide +kernel
  rw [Int32.lt_iff_toInt_lt] at h0 h1
  have e0 : (0 : Int32).toInt = 0 := rfl
  have e1 : (255 : Int32).toInt = 255 := rfl
  obtain ⟨k, hk⟩ : ∃ k : Nat, x.toInt = k := ⟨x.toInt.toNat, by omega⟩
  have hx : x = Int32.ofNat k := Int32.toInt_inj.mp (by rw [hk, Int32.toInt_ofNat_small (by omega)])
  rw [hx]
  exact t ⟨k, by omega⟩
end StrChars
namespace StrChars.Road
open Jvm Sem ClassFile Op Lib Jvm.Stand Jvm.Free Jvm.Free.XT
open Jvm.Lib.Cold (StaticIs)
abbrev ST : String := "java/lang/String"
/-- every table word that New1's law asks, flat -/
abbrev words : List Jvm.Cond := [.code New1.yN New1.yB 2 none, .initialized ST, .methodLink ST 27 New4.yN, .instanceMethod New4.yN,
  .code New4.yN New4.yB 6 none, .fieldLink ST 38 ST "COMPACT_STRINGS" "Z", .laysFinal ST ST "value" "[B", .fieldLink ST 9 ST "value" "[B", .laysFinal ST ST "coder" "B", .fieldLink ST 15 ST "coder" "B",
  .methodLink ST 1 Lib.objectInit, .instanceMethod Lib.objectInit, .code Lib.objectInit ⟨#[0xb1]⟩ 1 none, .methodLink ST 177 Cmp3.yN, .static Cmp3.yN, .methodLink ST 47 CodL.yN, .static CodL.yN,
  .code Cmp3.yN Cmp3.yB 6 (some (.array .byte)), .initialized U16, .arrayClass .byte, .methodLink U16 115 Cmp5.yN, .static Cmp5.yN, .code Cmp5.yN Cmp5.yB 7 (some .int), .code CodL.yN CodL.yB 2 (some .byte)]
theorem tab_of {a : Array Value} {s : State} (h : ∀ w ∈ words, w.before a s = true) : New1.tab.before a s = true := by
  have h5 : Cmp5.tab.before a s = true := unparts (wk h (.code Cmp5.yN Cmp5.yB 7 (some .int))) (wks h (.initialized Cmp5.yN.cls :: Cmp5.site))
  have hc : CodL.tab.before a s = true := unparts (wk h (.code CodL.yN CodL.yB 2 (some .byte))) (wks h (.initialized CodL.yN.cls :: CodL.site))
  have q5 : ∀ w ∈ Cmp5.tab :: words, w.before a s = true := fun w hw => (List.mem_cons.mp hw).elim (fun e => e ▸ h5) (h w)
  have h3 : Cmp3.tab.before a s = true := unparts (wk q5 (.code Cmp3.yN Cmp3.yB 6 (some (.array .byte)))) (wks q5 (.initialized Cmp3.yN.cls :: Cmp3.site))
  have q3 : ∀ w ∈ Cmp3.tab :: CodL.tab :: words, w.before a s = true := fun w hw => (List.mem_cons.mp hw).elim (fun e => e ▸ h3) fun hw => (List.mem_cons.mp hw).elim (fun e => e ▸ hc) (h w)
  have h4 : New4.tab.before a s = true := unparts (wk q3 (.code New4.yN New4.yB 6 none)) (wks q3 (.initialized New4.yN.cls :: New4.site))
  have q4 : ∀ w ∈ New4.tab :: words, w.before a s = true := fun w hw => (List.mem_cons.mp hw).elim (fun e => e ▸ h4) (h w)
  exact unparts (wk q4 (.code New1.yN New1.yB 2 none)) (wks q4 (.initialized New1.yN.cls :: New1.site))
/-- the words ride from the start Z to the walk's own state -/
theorem moved {Z s : State} {a0 args : Array Value} (hZ : Z.Warmed39 s.vm) (hw : ∀ d ∈ words, d.before a0 Z = true) : ∀ d ∈ words, d.before args s = true := fun d hd => by
  have q := hw d hd
  have t : ∀ d ∈ words, d = .arrayClass .byte ∨ (d.onTables && d.keepsFace) = true := by decide +kernel
  rcases t d hd with rfl | t
  · exact RoadKit.mvA hZ q
  · exact RoadKit.mv hZ q t
/-- WHAT COMES BACK, over the tables of the start Z: h the heap at the call, h' behind it -/
def Q (Z : State) (x : Addr) (A : Cell) (h : Heap) (v : Option Value) (h' : Heap) (L : List Loc) : Prop := v = none ∧ (∀ y ∈ L, y.base = x) ∧ RoadKit.Keep h h' [x] ∧ h'.size = h.size + 1 ∧ RoadKit.Exa Z h' x ST ∧ RoadKit.Fld Z h' x ST "value" "[B" (.ref h.size) ∧ RoadKit.Fld Z h' x ST "coder" "B" (.int 0) ∧
  (∃ V : Cell, RoadKit.Arr Z h' h.size V .byte ∧ V.vm = .none ∧ Z.vm.findClass "[B" = some V.cls ∧ V.slots.size = A.slots.size ∧ ∀ j, j < A.slots.size → V.slots[j]? = some (.int (lo8 (cv A j)))) ∧
  ∀ (O n d : String) (w : Value), RoadKit.Fld Z h x O n d w → RoadKit.slotOf Z O n d ≠ RoadKit.slotOf Z ST "value" "[B" → RoadKit.slotOf Z O n d ≠ RoadKit.slotOf Z ST "coder" "B" → RoadKit.Fld Z h' x O n d w
/-- **new String(chars) AT A CALL, IN THE ROAD'S FORM**: for specialBack behind newO: x the fresh String, b the char[] with the cell A -/
theorem back {p : Program} {l : Launch} {e : Env} {R : Room} {s : State} {args : Array Value} {below : List Frame} {len W : Nat} {Z : State} {a0 : Array Value} {h : Heap} (hZ : Z.Warmed39 s.vm) (hw : ∀ d ∈ words, d.before a0 Z = true) {kI : Nat} (wi : (Jvm.Cond.instantiable ST kI).before a0 Z = true)
    {x b : Addr} {A : Cell} {z : Int32} {v0 c0 : Value} (E : RoadKit.Exa Z h x ST) (V : RoadKit.Fld Z h x ST "value" "[B" v0) (C : RoadKit.Fld Z h x ST "coder" "B" c0) (K : RoadKit.Arr Z h b A .char) (hty : Typed .char A) (S : RoadKit.Sta Z h ST "COMPACT_STRINGS" "Z" (.int z)) (hz : ¬ z = 0)
    (l0 : 0 < A.slots.size) (l2 : A.slots.size ≤ 536870912) (hp : ∀ i, i < A.slots.size → ¬ 255 < cv A i) (hfr : 4 ≤ R.frames) (hlo : W + 65 ≤ R.locals) :
    Back l R p e below s args New1.yN len W (fun P a => a = #[.ref x, .ref b] ∧ P.U.heap = h ∧ P.cells + 1 ≤ R.cells ∧ P.slots + A.slots.size ≤ R.slots)
      (fun P _ v B => ∃ L, Q Z x A h v B.U.heap L ∧ B.locs = P.locs ++ L ∧ B.cells = P.cells + 1 ∧ B.slots = P.slots + A.slots.size) := by
  intro m meth c P g ig mk a X hg hsize hdg hW hn hp'
  obtain ⟨rfl, rfl, r1, r2⟩ := hp'
  have al : Z.vm.Alike P.U.vm := hZ.alike.trans X.warmed.alike
  obtain ⟨D, cfV, kV, iV, fV, hD, gV, stV, knV, obV, asV, slV⟩ := id V
  obtain ⟨D', cfC, kC, iC, fC, hD', gC, stC, -, -, asC, slC⟩ := id C
  cases hD.symm.trans hD'
  obtain ⟨D2, kD, e1, e2, e3, e4, e5⟩ := id E
  cases hD.symm.trans e1
  obtain ⟨c2, k2, i1, i2, i3, -⟩ := Cond.instantiable_spec wi
  cases e2.symm.trans i1
  cases e3.symm.trans i2
  obtain ⟨kU, u1, u2⟩ := al.2.2 _ _ e3
  have hB : Blank ST x D P.U := ⟨hD, ⟨knV, fun q hq => by rw [hq] at obV; cases obV⟩, by rw [al.findClass]; exact e2, kU, u1, by rw [u2]; exact i3, by rw [u2]; exact e5 i3⟩
  have F1 : Found ST "value" "[B" fV P.U := ⟨SBG.found_only al ⟨cfV, kV, iV, gV⟩, stV⟩
  have F2 : Found ST "coder" "B" fC P.U := ⟨SBG.found_only al ⟨cfC, kC, iC, gC⟩, stC⟩
  have hA : Ch b A P.U := ⟨⟨K.1, State.isArrayOf_alike al K.2.1, K.2.2, by omega⟩, hty⟩
  have hS : StaticIs P.U ST "COMPACT_STRINGS" "Z" (.int z) := by
    obtain ⟨cfS, iS, kS, fS, st, cS, t1, t2, t3, t4, t5, t6, t7⟩ := S
    exact StaticIs.there (s := { Z with heap := P.U.heap }) ⟨cfS, iS, kS, fS, st, cS, t1, t2, t3, t4, t5, (fun q => by rw [q] at t6; cases t6), t7⟩ al rfl
  obtain ⟨v, B, X', ⟨⟨hv, E', V', q1, q2, q3, q4, q5, q6, q7, q8, q9, q10, q11⟩, hl, hc, hs⟩, st⟩ := New1.pays x D fV fC b A z (tab_of (moved hZ hw)) hfr hlo m meth c P g ig mk _ X hg hsize hdg hW hn ⟨r1, r2, rfl, hB, F1, F2, hA, hS, hz, l0, l2, hp⟩
  have al' : Z.vm.Alike B.U.vm := hZ.alike.trans X'.warmed.alike
  have hsz : E'.slots.size = D.slots.size := by
    obtain ⟨-, -, -, kB, w1, w2, w3⟩ := q1
    obtain ⟨kB', y1, y2⟩ := al'.2.2 _ _ e3
    rw [q2.2.1] at w1
    cases w1.symm.trans y1
    rw [w3, e5 i3, y2]
  refine ⟨v, B, X', ⟨_, ⟨hv, ?_, ⟨by omega, fun y cy hy hn' => q10 y cy (by simpa using hn') hy, fun y cy hy => ?_⟩, q11, ⟨E', _, q1.1, by rw [q2.2.1]; exact e2, by rw [q2.2.1]; exact e3, by rw [q2.1]; exact obV, fun _ => by rw [hsz]; exact e5 i3⟩,
    ⟨E', cfV, kV, iV, fV, q1.1, gV, stV, by rw [q2.1]; exact knV, by rw [q2.1]; exact obV, by rw [q2.2.1]; exact asV, q3⟩, ⟨E', cfC, kC, iC, fC, q1.1, gC, stC, by rw [q2.1]; exact knV, by rw [q2.1]; exact obV, by rw [q2.2.1]; exact asC, q4⟩,
    ⟨V', ⟨q5.1, State.isArrayOf_alike al'.symm q5.2.1, q5.2.2.1⟩, q6, by rw [← al'.findClass]; exact q7, q8, fun j hj => by have := q9 j hj; rwa [Nat.zero_add] at this⟩, fun O n d w F n1 n2 => ?_⟩, hl, hc, hs⟩, st⟩
  · intro y hy
    simp only [List.mem_cons, List.not_mem_nil, or_false] at hy
    rcases hy with rfl | rfl <;> rfl
  · by_cases q : y = x
    · subst q
      cases hD.symm.trans hy
      exact ⟨E', q1.1, q2.2.1, q2.1, hsz⟩
    · exact ⟨cy, q10 y cy q hy, rfl, rfl, rfl⟩
  · obtain ⟨D3, cf, k, i, f, g1, g2, g3, g4, g5, g6, g7⟩ := F
    cases hD.symm.trans g1
    simp only [RoadKit.slotOf, g2, gV, gC, Option.map_some, Option.getD_some] at n1 n2
    exact ⟨E', cf, k, i, f, q1.1, g2, g3, by rw [q2.1]; exact g4, by rw [q2.1]; exact g5, by rw [q2.2.1]; exact g6, by rw [q2.2.2 f.slot (by simp [n1, n2])]; exact g7⟩
end StrChars.Road
namespace StrChars.Road
open Jvm Sem ClassFile Op Lib Jvm.Stand Jvm.Free Jvm.Free.XT
/-- WHAT COMES BACK, the byte[] as a list of values -/
def QA (Z : State) (x : Addr) (zn : Int32) (cs : List Int32) (h : Heap) (v : Option Value) (h' : Heap) (L : List Loc) : Prop := v = none ∧ (∀ y ∈ L, y.base = x) ∧ RoadKit.Keep h h' [x] ∧ h'.size = h.size + 1 ∧ RoadKit.Exa Z h' x ST ∧ RoadKit.Fld Z h' x ST "value" "[B" (.ref h.size) ∧ RoadKit.Fld Z h' x ST "coder" "B" (.int 0) ∧
  (∃ kb, Z.vm.findClass "[B" = some kb ∧ RoadKit.Arv Z h' h.size kb .byte zn (cs.map fun c => .int (lo8 c)) (.int 0)) ∧
  ∀ (O n d : String) (w : Value), RoadKit.Fld Z h x O n d w → RoadKit.slotOf Z O n d ≠ RoadKit.slotOf Z ST "value" "[B" → RoadKit.slotOf Z O n d ≠ RoadKit.slotOf Z ST "coder" "B" → RoadKit.Fld Z h' x O n d w
/-- **new String(chars) AT A CALL, THE ARRAYS AS LISTS**: the char[] at b holds cs, not empty, no char above 255 -/
theorem backArv {p : Program} {l : Launch} {e : Env} {R : Room} {s : State} {args : Array Value} {below : List Frame} {len W : Nat} {Z : State} {a0 : Array Value} {h : Heap} (hZ : Z.Warmed39 s.vm) (hw : ∀ d ∈ words, d.before a0 Z = true) {kI : Nat} (wi : (Jvm.Cond.instantiable ST kI).before a0 Z = true)
    {x b : Addr} {k : ClassId} {zn z : Int32} {cs : List Int32} {dv v0 c0 : Value} (E : RoadKit.Exa Z h x ST) (V : RoadKit.Fld Z h x ST "value" "[B" v0) (C : RoadKit.Fld Z h x ST "coder" "B" c0) (K : RoadKit.Arv Z h b k .char zn (cs.map Value.int) dv) (S : RoadKit.Sta Z h ST "COMPACT_STRINGS" "Z" (.int z)) (hz : ¬ z = 0)
    (hlen : zn.toNatClampNeg = cs.length) (h0 : 0 < cs.length) (hbig : cs.length ≤ 536870912) (hall : ∀ c ∈ cs, ¬ 255 < c) (hfr : 4 ≤ R.frames) (hlo : W + 65 ≤ R.locals) :
    Back l R p e below s args New1.yN len W (fun P a => a = #[.ref x, .ref b] ∧ P.U.heap = h ∧ P.cells + 1 ≤ R.cells ∧ P.slots + cs.length ≤ R.slots)
      (fun P _ v B => ∃ L, QA Z x zn cs h v B.U.heap L ∧ B.locs = P.locs ++ L ∧ B.cells = P.cells + 1 ∧ B.slots = P.slots + cs.length) := by
  obtain ⟨A, K1, K2, K3, K4, K5, K6⟩ := K
  have e : A.slots.size = cs.length := K3.trans hlen
  have hat : ∀ (i : Nat) (hi : i < cs.length), A.slots[i]? = some (.int cs[i]) := fun i hi => by rw [K5 i (by omega)]; simp [List.getD_eq_getElem?_getD, hi]
  have hcv : ∀ (i : Nat) (hi : i < cs.length), cv A i = cs[i] := fun i hi => by unfold cv; rw [hat i hi]
  have hty : Typed .char A := fun i v hv => by
    have hi : i < A.slots.size := (Array.getElem?_eq_some_iff.mp hv).1
    have q := K5 i hi
    rw [hv] at q
    rw [Option.some.inj q]
    exact K6 i hi
  refine Back.mono (back hZ hw wi E V C K1 hty S hz (by omega) (by omega) (fun i hi => by rw [hcv i (by omega)]; exact hall _ (List.getElem_mem _)) hfr hlo) (fun P a hp => ⟨hp.1, hp.2.1, hp.2.2.1, by rw [e]; exact hp.2.2.2⟩) (fun P a v B hp hq => ?_)
  obtain ⟨L, ⟨q1, q2, q3, q4, q5, q6, q7, ⟨V', v1, v2, v3, v4, v5⟩, q9⟩, hl, hc, hs⟩ := hq
  refine ⟨L, ⟨q1, q2, q3, q4, q5, q6, q7, ⟨V'.cls, v3, V', v1, rfl, by rw [v4, e, hlen], K4, fun i hi => ?_, fun i hi => ?_⟩, q9⟩, hl, hc, by rw [hs, e]⟩
  · have hi' : i < cs.length := by omega
    rw [v5 i (by omega), hcv i hi']; simp [List.getD_eq_getElem?_getD, hi']
  · have hi' : i < cs.length := by omega
    simp only [List.getD_eq_getElem?_getD, List.getElem?_map, List.getElem?_eq_getElem hi', Option.map_some, Option.getD_some]
    exact fits_lo8 _
end StrChars.Road
namespace StrChars.Road
open Jvm Sem ClassFile Op Lib Jvm.Stand Jvm.Free Jvm.Free.XT
/-- WHAT COMES BACK, in the writer's own shape -/
def QV (Z : State) (x : Addr) (N : Int32) (bs : List Int32) (h : Heap) (n0 : Nat) (v : Option Value) (h' : Heap) (L : List Loc) : Prop := v = none ∧ RoadKit.Fr n0 L ∧ RoadKit.Keep h h' [x] ∧ RoadKit.Exa Z h' x ST ∧ RoadKit.Fld Z h' x ST "coder" "B" (.int 0) ∧
  ∃ (t : Addr) (kb : ClassId), n0 ≤ t ∧ h.size ≤ t ∧ ¬ t = x ∧ RoadKit.Fld Z h' x ST "value" "[B" (.ref t) ∧ RoadKit.Arv Z h' t kb .byte N (bs.map Value.int) (.int 0)
/-- **new String(chars) AT A CALL, FOR THE WRITER**: a char[] of n known ints, each 0 to 255 -/
theorem backV {p : Program} {l : Launch} {e : Env} {R : Room} {s : State} {args : Array Value} {below : List Frame} {len W : Nat} {Z : State} {a0 : Array Value} {h : Heap} (hZ : Z.Warmed39 s.vm) (hw : ∀ d ∈ words, d.before a0 Z = true) {kI : Nat} (wi : (Jvm.Cond.instantiable ST kI).before a0 Z = true)
    {x b : Addr} {kC : ClassId} {cs bs : List Int32} {d v0 c0 : Value} {z N : Int32} {n n0 : Nat} (hx0 : n0 ≤ x) (hh0 : n0 ≤ h.size) (E : RoadKit.Exa Z h x ST) (V : RoadKit.Fld Z h x ST "value" "[B" v0) (C : RoadKit.Fld Z h x ST "coder" "B" c0) (K : RoadKit.Arv Z h b kC .char N (cs.map Value.int) d) (S : RoadKit.Sta Z h ST "COMPACT_STRINGS" "Z" (.int z)) (hz : ¬ z = 0)
    (hn : cs.length = n) (hN : N = Int32.ofNat n) (l0 : 0 < n) (l2 : n ≤ 4000) (hp : ∀ c ∈ cs, ¬ c < 0 ∧ ¬ (255 : Int32) < c) (hb : bs = cs.map (fun c => c.toInt8.toInt32)) (hfr : 4 ≤ R.frames) (hlo : W + 65 ≤ R.locals) :
    Back l R p e below s args (⟨"java/lang/String", "<init>", "([C)V"⟩ : MethodName) len W (fun P a => a = #[.ref x, .ref b] ∧ P.U.heap = h ∧ P.cells + 1 ≤ R.cells ∧ P.slots + n ≤ R.slots)
      (fun P _ v B => ∃ L, QV Z x N bs h n0 v B.U.heap L ∧ B.locs = P.locs ++ L ∧ B.cells = P.cells + 1 ∧ B.slots = P.slots + n) := by
  subst hn hN hb
  refine Back.mono (backArv hZ hw wi E V C K S hz (n32 (by omega)) l0 (by omega) (fun c hc => (hp c hc).2) hfr hlo) (fun P a hp => hp) (fun P a v B hp hq => ?_)
  obtain ⟨L, ⟨q1, q2, q3, q4, q5, q6, q7, ⟨kb, v1, v2⟩, q9⟩, hl, hc, hs⟩ := hq
  exact ⟨L, ⟨q1, fun y hy => by rw [q2 y hy]; exact hx0, q3, q5, q7, h.size, kb, hh0, Nat.le_refl _, Nat.ne_of_gt E.lt, q6, by rw [List.map_map]; exact v2⟩, hl, hc, hs⟩
end StrChars.Road
namespace StrChars
open Jvm Sem ClassFile Op Lib Jvm.Stand Jvm.Free.XT Jvm.Free.ALB Jvm.Free.JM Jvm.Free
open Jvm.Lib.Cold (StaticIs)
def hi8 (x : Int32) : Int32 := lo8 (x >>> ((8 : Int32) &&& 31))
/-- what StringUTF16.getChar makes of two bytes -/
def pairCh (u v : Int32) : Int32 := (((u &&& 255) <<< ((0 : Int32) &&& 31)) ||| ((v &&& 255) <<< ((8 : Int32) &&& 31))).toUInt32.toUInt16.toUInt32.toInt32
theorem lo8_and (x : Int32) : (lo8 x &&& 255).toBitVec.toNat = x.toBitVec.toNat % 256 := by
  have h : (lo8 x).toBitVec = (x.toBitVec.signExtend 8).signExtend 32 := by rw [lo8, Int8.toBitVec_toInt32, Int32.toBitVec_toInt8]
  rw [Int32.toBitVec_and, BitVec.toNat_and, h]
  have e : ((x.toBitVec.signExtend 8).signExtend 32).toNat % 256 = x.toBitVec.toNat % 256 := by
    rw [BitVec.toNat_signExtend]
    have hlt := x.toBitVec.isLt
    simp only [BitVec.toNat_setWidth, BitVec.toNat_signExtend]
    split <;> split <;> omega
  rw [← e]
  exact Nat.and_two_pow_sub_one_eq_mod _ 8
theorem pair_says {c : Int32} (h0 : ¬ c < 0) (h1 : ¬ 65535 < c) : pairCh (lo8 c) (hi8 c) = c := by
  rw [Int32.lt_iff_toInt_lt] at h0 h1
  have e0 : (0 : Int32).toInt = 0 := rfl
  have e1 : (65535 : Int32).toInt = 65535 := rfl
  have hc : c.toInt = c.toBitVec.toNat := by
    have := c.toBitVec.isLt
    have e : c.toInt = c.toBitVec.toInt := rfl
    rw [e] at h0 h1
    rw [e]
    rw [BitVec.toInt_eq_toNat_cond] at h0 h1 ⊢
    split at h0 <;> split <;> omega
  have hn : c.toBitVec.toNat < 65536 := by omega
  have a1 := lo8_and c
  have a2 : (hi8 c &&& 255).toBitVec.toNat = c.toBitVec.toNat / 256 := by
    rw [hi8, lo8_and]
    have e : ((8 : Int32) &&& 31) = 8 := by decide
    rw [e, Int32.toBitVec_shiftRight]
    have e2 : ((8 : Int32).toBitVec.smod 32) = 8#32 := by decide
    rw [e2, BitVec.sshiftRight_eq', BitVec.toNat_sshiftRight_of_msb_false (by rw [BitVec.msb_eq_false_iff_two_mul_lt]; omega)]
    show c.toBitVec.toNat >>> 8 % 256 = _
    rw [Nat.shiftRight_eq_div_pow]
    omega
  unfold pairCh
  apply Int32.toBitVec_inj.mp
  apply BitVec.eq_of_toNat_eq
  have f0 : ((0 : Int32) &&& 31) = 0 := by decide
  have f8 : ((8 : Int32) &&& 31) = 8 := by decide
  rw [f0, f8]
  have g : (((lo8 c &&& 255) <<< (0 : Int32)) ||| ((hi8 c &&& 255) <<< (8 : Int32))).toBitVec.toNat = c.toBitVec.toNat := by
    rw [Int32.toBitVec_or, Int32.toBitVec_shiftLeft, Int32.toBitVec_shiftLeft]
    have s0 : ((0 : Int32).toBitVec.smod 32) = 0#32 := by decide
    have s8 : ((8 : Int32).toBitVec.smod 32) = 8#32 := by decide
    rw [s0, s8, BitVec.toNat_or]
    simp only [BitVec.shiftLeft_eq', BitVec.toNat_shiftLeft, a1, a2]
    show (c.toBitVec.toNat % 256) <<< 0 % 2 ^ 32 ||| (c.toBitVec.toNat / 256) <<< 8 % 2 ^ 32 = _
    rw [Nat.shiftLeft_zero, Nat.mod_eq_of_lt (show c.toBitVec.toNat % 256 < 2 ^ 32 by omega), Nat.mod_eq_of_lt (show (c.toBitVec.toNat / 256) <<< 8 < 2 ^ 32 by rw [Nat.shiftLeft_eq]; omega), Nat.or_comm, ← Nat.shiftLeft_add_eq_or_of_lt (by omega), Nat.shiftLeft_eq]
    omega
  show BitVec.toNat (((((lo8 c &&& 255) <<< (0 : Int32)) ||| ((hi8 c &&& 255) <<< (8 : Int32))).toBitVec.setWidth 16).setWidth 32) = _
  rw [BitVec.toNat_setWidth, BitVec.toNat_setWidth, g]
  omega
end StrChars
namespace StrChars
open Jvm Sem ClassFile Op Lib Jvm.Stand Jvm.Free.XT Jvm.Free.ALB Jvm.Free.JM Jvm.Free
open Jvm.Lib.Cold (StaticIs)
/-- the array's cell V codes the n chars f 0 .. f (n - 1) by the coder cd, as the JDK does: coder 1 just where some char is above 255 -/
def Cod (cd : Int32) (n : Nat) (f : Nat → Int32) (V : Cell) : Prop := (cd = 0 ∧ V.slots.size = n ∧ ∀ j, j < n → V.slots[j]? = some (.int (lo8 (f j))) ∧ ¬ 255 < f j) ∨ (cd = 1 ∧ V.slots.size = 2 * n ∧ (∀ j, j < n → V.slots[2 * j]? = some (.int (lo8 (f j))) ∧ V.slots[2 * j + 1]? = some (.int (hi8 (f j)))) ∧ ∃ j, j < n ∧ 255 < f j)
/-- **x is a String of the n chars f 0 .. f (n - 1)**, Latin-1 or UTF-16; its array at t has the cell V -/
def Txt (x t : Addr) (V : Cell) (cd : Int32) (n : Nat) (f : Nat → Int32) (U : State) : Prop := Exact "java/lang/String" x U ∧ Has x "java/lang/String" "value" "[B" (.ref t) U ∧ Has x "java/lang/String" "coder" "B" (.int cd) U ∧ XT.Arr .byte t V U ∧ Cod cd n f V ∧ ∀ j, j < n → ¬ f j < 0 ∧ ¬ 65535 < f j
theorem Txt.mv {x t : Addr} {V : Cell} {cd : Int32} {n : Nat} {f : Nat → Int32} {U U' : State} (h : Txt x t V cd n f U) (hal : U.vm.Alike U'.vm) (hh : U'.heap = U.heap) : Txt x t V cd n f U' := ⟨h.1.mv hal hh, h.2.1.mv hal hh, h.2.2.1.mv hal hh, h.2.2.2.1.mv hal hh, h.2.2.2.2⟩
end StrChars
namespace StrChars.Road
open Jvm Sem ClassFile Op Lib Jvm.Stand Jvm.Free Jvm.Free.XT
open Jvm.Lib.Cold (StaticIs)
theorem consq {a : Array Value} {s : State} {c : Jvm.Cond} {L : List Jvm.Cond} (h0 : c.before a s = true) (h : ∀ w ∈ L, w.before a s = true) : ∀ w ∈ c :: L, w.before a s = true := fun w hw => (List.mem_cons.mp hw).elim (fun e => e ▸ h0) (h w)
/-- the bytes of the chars cs, low before high -/
def wideBytes : List Int32 → List Value
  | [] => []
  | c :: cs => .int (lo8 c) :: .int (hi8 c) :: wideBytes cs
theorem wide_lo (d : Value) : ∀ (cs : List Int32) (j : Nat), j < cs.length → (wideBytes cs).getD (2 * j) d = .int (lo8 (cs.getD j 0))
  | [], j, h => absurd h (Nat.not_lt_zero j)
  | c :: cs, 0, _ => rfl
  | c :: cs, j + 1, h => by
    have q := wide_lo d cs j (by simpa using h)
    rw [show 2 * (j + 1) = 2 * j + 1 + 1 from by omega]
    simpa [wideBytes] using q
theorem wide_hi (d : Value) : ∀ (cs : List Int32) (j : Nat), j < cs.length → (wideBytes cs).getD (2 * j + 1) d = .int (hi8 (cs.getD j 0))
  | [], j, h => absurd h (Nat.not_lt_zero j)
  | c :: cs, 0, _ => rfl
  | c :: cs, j + 1, h => by
    have q := wide_hi d cs j (by simpa using h)
    rw [show 2 * (j + 1) + 1 = 2 * j + 1 + 1 + 1 from by omega]
    simpa [wideBytes] using q
theorem low_at (d : Value) (cs : List Int32) (j : Nat) (h : j < cs.length) : (cs.map fun c => Value.int (lo8 c)).getD j d = .int (lo8 (cs.getD j 0)) := by
  simp [List.getD_eq_getElem?_getD, h]
/-- an array of N2 bytes vs codes the chars cs by the coder cd -/
def CodA (cs : List Int32) (cd N2 : Int32) (vs : List Value) : Prop := (cd = 0 ∧ N2 = Int32.ofNat cs.length ∧ vs = (cs.map fun c => Value.int (lo8 c)) ∧ ∀ c ∈ cs, ¬ 255 < c) ∨ (cd = 1 ∧ N2 = Int32.ofNat (2 * cs.length) ∧ vs = wideBytes cs ∧ ∃ c ∈ cs, 255 < c)
theorem CodA.cod {cs : List Int32} {cd N2 : Int32} {vs : List Value} {V : Cell} (h : CodA cs cd N2 vs) (hn : 2 * cs.length < 2 ^ 31) (hs : V.slots.size = N2.toNatClampNeg) (hv : RoadKit.Has V vs (.int 0)) : Cod cd cs.length (fun j => cs.getD j 0) V := by
  rcases h with ⟨rfl, rfl, rfl, h⟩ | ⟨rfl, rfl, rfl, c, hc, hw⟩
  · rw [n32 (by omega)] at hs
    exact Or.inl ⟨rfl, hs, fun j hj => ⟨by rw [hv j (by omega), low_at _ _ _ hj], by
      have e : cs.getD j 0 = cs[j] := by simp [List.getD_eq_getElem?_getD, hj]
      show ¬ 255 < cs.getD j 0
      rw [e]; exact h _ (List.getElem_mem _)⟩⟩
  · rw [n32 (by omega)] at hs
    obtain ⟨j, hj, rfl⟩ := List.getElem_of_mem hc
    exact Or.inr ⟨rfl, hs, fun j hj => ⟨by rw [hv _ (by omega), wide_lo _ _ _ hj], by rw [hv _ (by omega), wide_hi _ _ _ hj]⟩, j, hj, by
      have e : cs.getD j 0 = cs[j] := by simp [List.getD_eq_getElem?_getD, hj]
      show 255 < cs.getD j 0
      rw [e]; exact hw⟩
/-- an object of exactly java/lang/String, its two fields found: as the laws ask it -/
theorem strObj {Z U : State} {a0 : Array Value} {kI : Nat} (wi : (Jvm.Cond.instantiable ST kI).before a0 Z = true) (al : Z.vm.Alike U.vm) {x : Addr} {v0 c0 : Value} (E : RoadKit.Exa Z U.heap x ST) (V : RoadKit.Fld Z U.heap x ST "value" "[B" v0) (C : RoadKit.Fld Z U.heap x ST "coder" "B" c0) :
    ∃ (D : Cell) (fV fC : Field), Blank ST x D U ∧ Found ST "value" "[B" fV U ∧ Found ST "coder" "B" fC U ∧ D.slots[fV.slot]? = some v0 ∧ D.slots[fC.slot]? = some c0 ∧ RoadKit.slotOf Z ST "value" "[B" = fV.slot ∧ RoadKit.slotOf Z ST "coder" "B" = fC.slot := by
  obtain ⟨D, cfV, kV, iV, fV, hD, gV, stV, knV, obV, asV, slV⟩ := V
  obtain ⟨D', cfC, kC, iC, fC, hD', gC, stC, -, -, asC, slC⟩ := C
  cases hD.symm.trans hD'
  obtain ⟨D2, kD, e1, e2, e3, e4, e5⟩ := E
  cases hD.symm.trans e1
  obtain ⟨c2, k2, i1, i2, i3, -⟩ := Cond.instantiable_spec wi
  cases e2.symm.trans i1
  cases e3.symm.trans i2
  obtain ⟨kU, u1, u2⟩ := al.2.2 _ _ e3
  exact ⟨D, fV, fC, ⟨hD, ⟨knV, fun q hq => by rw [hq] at obV; cases obV⟩, by rw [al.findClass]; exact e2, kU, u1, by rw [u2]; exact i3, by rw [u2]; exact e5 i3⟩, ⟨SBG.found_only al ⟨cfV, kV, iV, gV⟩, stV⟩, ⟨SBG.found_only al ⟨cfC, kC, iC, gC⟩, stC⟩, slV, slC, by simp [RoadKit.slotOf, gV], by simp [RoadKit.slotOf, gC]⟩
theorem sta_is {Z U : State} (al : Z.vm.Alike U.vm) {C n d : String} {v : Value} (S : RoadKit.Sta Z U.heap C n d v) : StaticIs U C n d v := by
  obtain ⟨cfS, iS, kS, fS, st, cS, t1, t2, t3, t4, t5, t6, t7⟩ := S
  exact StaticIs.there (s := { Z with heap := U.heap }) ⟨cfS, iS, kS, fS, st, cS, t1, t2, t3, t4, t5, (fun q => by rw [q] at t6; cases t6), t7⟩ al rfl
end StrChars.Road
namespace StrChars
open Jvm Sem ClassFile Op Lib Jvm.Stand Jvm.Free.XT Jvm.Free.ALB Jvm.Free.JM Jvm.Free
open Jvm.Lib.Cold (StaticIs)
/-- what place i of a byte[]'s cell holds -/
def yv (A : Cell) (i : Nat) : Int32 := match A.slots[i]? with | some (.int x) => x | _ => 0
theorem yv_get {a : Addr} {A : Cell} {U : State} (h : XT.Arr .byte a A U) (ht : Typed .byte A) {i : Nat} (hi : i < A.slots.size) : A.slots[i]? = some (.int (yv A i)) := by
  have e := Array.getElem?_eq_getElem hi
  have f := ht i _ e
  unfold yv; rw [e]
  generalize A.slots[i] = v at f
  cases v <;> simp [fits] at f ⊢
/-- the two arrays are equal, place for place -/
def EqC (A B : Cell) : Prop := A.slots.size = B.slots.size ∧ ∀ i, i < A.slots.size → yv A i = yv B i
/-- a boolean that says whether p -/
def Says01 (q : Prop) (r : Option Value) (s u : State) : Prop := ∃ v : Int32, r = some (.int v) ∧ u.heap = s.heap ∧ ((v = 1 ∧ q) ∨ (v = 0 ∧ ¬ q))
theorem Says01.mv {q : Prop} : ∀ r (U U' V V' : State), U'.heap = U.heap → V.vm.Alike V'.vm → V'.heap = V.heap → Says01 q r U V → Says01 q r U' V' :=
  fun r U U' V V' h1 _ h2 ⟨v, a, b, c⟩ => ⟨v, a, by rw [h1, h2]; exact b, c⟩
namespace LEq
def yN : MethodName := ⟨"java/lang/StringLatin1", "equals", "([B[B)Z"⟩
abbrev yB : ByteArray := jdk_43_method_13_code
theorem d0 : decode yB 0 = .ok (.aload_n 0, 1) := by decide +kernel
theorem d1 : decode yB 1 = .ok (.arraylength, 1) := by decide +kernel
theorem d2 : decode yB 2 = .ok (.aload_n 1, 1) := by decide +kernel
theorem d3 : decode yB 3 = .ok (.arraylength, 1) := by decide +kernel
theorem d4 : decode yB 4 = .ok (.if_icmp (.ne) 30, 3) := by decide +kernel
theorem d7 : decode yB 7 = .ok (.iconst 0, 1) := by decide +kernel
theorem d8 : decode yB 8 = .ok (.istore_n 2, 1) := by decide +kernel
theorem d9 : decode yB 9 = .ok (.iload_n 2, 1) := by decide +kernel
theorem d10 : decode yB 10 = .ok (.aload_n 0, 1) := by decide +kernel
theorem d11 : decode yB 11 = .ok (.arraylength, 1) := by decide +kernel
theorem d12 : decode yB 12 = .ok (.if_icmp (.ge) 20, 3) := by decide +kernel
theorem d15 : decode yB 15 = .ok (.aload_n 0, 1) := by decide +kernel
theorem d16 : decode yB 16 = .ok (.iload_n 2, 1) := by decide +kernel
theorem d17 : decode yB 17 = .ok (.baload, 1) := by decide +kernel
theorem d18 : decode yB 18 = .ok (.aload_n 1, 1) := by decide +kernel
theorem d19 : decode yB 19 = .ok (.iload_n 2, 1) := by decide +kernel
theorem d20 : decode yB 20 = .ok (.baload, 1) := by decide +kernel
theorem d21 : decode yB 21 = .ok (.if_icmp (.eq) 5, 3) := by decide +kernel
theorem d24 : decode yB 24 = .ok (.iconst 0, 1) := by decide +kernel
theorem d25 : decode yB 25 = .ok (.ireturn, 1) := by decide +kernel
theorem d26 : decode yB 26 = .ok (.iinc 2 1, 3) := by decide +kernel
theorem d29 : decode yB 29 = .ok (.goto (-20), 3) := by decide +kernel
theorem d32 : decode yB 32 = .ok (.iconst 1, 1) := by decide +kernel
theorem d33 : decode yB 33 = .ok (.ireturn, 1) := by decide +kernel
theorem d34 : decode yB 34 = .ok (.iconst 0, 1) := by decide +kernel
theorem d35 : decode yB 35 = .ok (.ireturn, 1) := by decide +kernel
def site : List Cond := []
def tab : Cond := tabOf yN yB 3 (some .boolean) site
def P (a : Addr) (A : Cell) (b : Addr) (B : Cell) (args : Array Value) (s : State) : Prop := args = #[.ref a, .ref b] ∧ XT.Arr .byte a A s ∧ Typed .byte A ∧ XT.Arr .byte b B s ∧ Typed .byte B
/-- whether two byte[] are equal, place for place -/
theorem law (l : Launch) (a : Addr) (A : Cell) (b : Addr) (B : Cell) : Law l yN 2 2 0 0 yB 3 (some .boolean) site (P a A b B) (Says01 (EqC A B)) [] 0 0 := by
  refine Law.of_walk (plainFor_of_name (by decide +kernel)) (by decide +kernel) (by decide +kernel) (by decide) (fun _ _ h => by rw [h.1]; rfl) (fun _ U U' hal hh h => ⟨h.1, h.2.1.mv hal hh, h.2.2.1, h.2.2.2.1.mv hal hh, h.2.2.2.2⟩) (fun r U U' V V' h1 hal h2 h => Says01.mv r U U' V V' h1 hal h2 h) ?_
  intro p e s m args below meth c s₁ X0 hexec hbytes hml hret hlk hnm hown hh0 W hP
  obtain ⟨rfl, hA, tA, hB, tB⟩ := hP
  have a31 := hA.2.2.2
  have b31 := hB.2.2.2
  have hA0 := hA.mv X0.warmed.alike hh0
  have hB0 := hB.mv X0.warmed.alike hh0
  have c1 : Steps p.tables e below (s₁.setTop (entryFrame m #[.ref a, .ref b] 3)) (s₁.setTop (mkF m 0 #[.val (.ref a), .val (.ref b), .unset] [])) := entry rfl
  have c2 : Steps p.tables e below (s₁.setTop (entryFrame m #[.ref a, .ref b] 3)) (s₁.setTop (mkF m 4 #[.val (.ref a), .val (.ref b), .unset] [.int (Int32.ofNat B.slots.size), .int (Int32.ofNat A.slots.size)])) := c1.trans (by
    refine XS.aloadN X0.here hexec rfl (hb hbytes d0) rfl rfl ?_
    refine X0.alen hexec hA0 rfl rfl (hb hbytes d1) ?_
    refine XS.aloadN X0.here hexec rfl (hb hbytes d2) rfl rfl ?_
    refine X0.alen hexec hB0 rfl rfl (hb hbytes d3) ?_
    exact Steps.refl _)
  by_cases hs : A.slots.size = B.slots.size
  · have c3 : Steps p.tables e below (s₁.setTop (entryFrame m #[.ref a, .ref b] 3)) (s₁.setTop (mkF m 9 #[.val (.ref a), .val (.ref b), .val (.int 0)] [])) := c2.trans (by
      refine XS.icmpNo X0.here hexec rfl (hb hbytes d4) rfl (ii_ne_f (by rw [hs])) ?_
      refine iconstV X0.here hexec rfl 0 (hb hbytes d7) (by decide) ?_
      refine XS.istoreN X0.here hexec rfl (hb hbytes d8) rfl rfl ?_
      exact Steps.refl _)
    have loop : ∀ (r i : Nat), i + r = A.slots.size → (∀ j, j < i → yv A j = yv B j) → Steps p.tables e below (s₁.setTop (entryFrame m #[.ref a, .ref b] 3)) (s₁.setTop (mkF m 9 #[.val (.ref a), .val (.ref b), .val (.int (Int32.ofNat i))] [])) → ∃ (pc : Nat) (Ls : Array Slot) (v : Int32), (pc = 25 ∨ pc = 33) ∧ ((v = 1 ∧ EqC A B) ∨ (v = 0 ∧ ¬ EqC A B)) ∧ Steps p.tables e below (s₁.setTop (entryFrame m #[.ref a, .ref b] 3)) (s₁.setTop (mkF m pc Ls [.int v])) := by
      intro r
      induction r with
      | zero =>
        intro i hi he cl
        exact ⟨33, _, 1, Or.inr rfl, Or.inl ⟨rfl, hs, fun j hj => he j (by omega)⟩, cl.trans (by
          refine XS.iloadN X0.here hexec rfl (hb hbytes d9) rfl ?_
          refine XS.aloadN X0.here hexec rfl (hb hbytes d10) rfl rfl ?_
          refine X0.alen hexec hA0 rfl rfl (hb hbytes d11) ?_
          refine XS.icmpYes X0.here hexec rfl (pc0 := 12) rfl (hb hbytes d12) rfl (ii_ge_t (nlt32 (by omega) (by omega))) (by decide) rfl ?_
          refine iconstV X0.here hexec rfl 1 (hb hbytes d32) (by decide) ?_
          exact Steps.refl _)⟩
      | succ r ih =>
        intro i hi he cl
        have c4 : Steps p.tables e below (s₁.setTop (entryFrame m #[.ref a, .ref b] 3)) (s₁.setTop (mkF m 21 #[.val (.ref a), .val (.ref b), .val (.int (Int32.ofNat i))] [.int (yv B i), .int (yv A i)])) := cl.trans (by
          refine XS.iloadN X0.here hexec rfl (hb hbytes d9) rfl ?_
          refine XS.aloadN X0.here hexec rfl (hb hbytes d10) rfl rfl ?_
          refine X0.alen hexec hA0 rfl rfl (hb hbytes d11) ?_
          refine XS.icmpNo X0.here hexec rfl (hb hbytes d12) rfl (ii_ge_f (lt32 (by omega) (by omega))) ?_
          refine XS.aloadN X0.here hexec rfl (hb hbytes d15) rfl rfl ?_
          refine XS.iloadN X0.here hexec rfl (hb hbytes d16) rfl ?_
          refine X0.aget hexec hA0 rfl (yv_get hA tA (i := i) (by omega)) rfl rfl (hb hbytes d17) ?_
          refine XS.aloadN X0.here hexec rfl (hb hbytes d18) rfl rfl ?_
          refine XS.iloadN X0.here hexec rfl (hb hbytes d19) rfl ?_
          refine X0.aget hexec hB0 rfl (yv_get hB tB (i := i) (by omega)) rfl rfl (hb hbytes d20) ?_
          exact Steps.refl _)
        by_cases hv : yv A i = yv B i
        · have c5 : Steps p.tables e below (s₁.setTop (entryFrame m #[.ref a, .ref b] 3)) (s₁.setTop (mkF m 9 #[.val (.ref a), .val (.ref b), .val (.int (Int32.ofNat i + 1))] [])) := c4.trans (by
            refine XS.icmpYes X0.here hexec rfl (pc0 := 21) rfl (hb hbytes d21) rfl (ii_eq_t hv) (by decide) rfl ?_
            refine iincV X0.here hexec rfl 1 (hb hbytes d26) (by decide) rfl rfl ?_
            refine XS.goto X0.here hexec rfl (pc0 := 29) rfl (hb hbytes d29) (by decide) rfl ?_
            exact Steps.refl _)
          rw [succ32] at c5
          exact ih (i + 1) (by omega) (fun j hj => by
            by_cases e : j = i
            · rw [e]; exact hv
            · exact he j (by omega)) c5
        · exact ⟨25, _, 0, Or.inl rfl, Or.inr ⟨rfl, fun q => hv (q.2 i (by omega))⟩, c4.trans (by
            refine XS.icmpNo X0.here hexec rfl (hb hbytes d21) rfl (ii_eq_f hv) ?_
            refine iconstV X0.here hexec rfl 0 (hb hbytes d24) (by decide) ?_
            exact Steps.refl _)⟩
    obtain ⟨pc, Ls, v, hpc, hv, cz⟩ := loop A.slots.size 0 (by omega) (fun j hj => absurd hj (Nat.not_lt_zero j)) c3
    have nv : narrow .boolean (.int v) = .int v := by rcases hv with ⟨rfl, -⟩ | ⟨rfl, -⟩ <;> rfl
    rcases hpc with rfl | rfl
    · exact ⟨s₁, some (.int v), _, _, _, X0, rfl, rfl, rfl, (fun h => by cases h), ⟨v, rfl, hh0, hv⟩, fun fs hl => cz.trans (X0.ireturnOut hexec hret nv (Or.inr (Or.inl rfl)) (hb hbytes d25) hl)⟩
    · exact ⟨s₁, some (.int v), _, _, _, X0, rfl, rfl, rfl, (fun h => by cases h), ⟨v, rfl, hh0, hv⟩, fun fs hl => cz.trans (X0.ireturnOut hexec hret nv (Or.inr (Or.inl rfl)) (hb hbytes d33) hl)⟩
  · have c3 : Steps p.tables e below (s₁.setTop (entryFrame m #[.ref a, .ref b] 3)) (s₁.setTop (mkF m 35 #[.val (.ref a), .val (.ref b), .unset] [.int 0])) := c2.trans (by
      refine XS.icmpYes X0.here hexec rfl (pc0 := 4) rfl (hb hbytes d4) rfl (ii_ne_t (ne32 a31 b31 hs)) (by decide) rfl ?_
      refine iconstV X0.here hexec rfl 0 (hb hbytes d34) (by decide) ?_
      exact Steps.refl _)
    exact ⟨s₁, some (.int 0), _, _, _, X0, rfl, rfl, rfl, (fun h => by cases h), ⟨0, rfl, hh0, Or.inr ⟨rfl, fun q => hs q.1⟩⟩, fun fs hl => c3.trans (X0.ireturnOut hexec hret rfl (Or.inr (Or.inl rfl)) (hb hbytes d35) hl)⟩
end LEq
theorem Cod.ty {cd : Int32} {n : Nat} {f : Nat → Int32} {V : Cell} (h : Cod cd n f V) : Typed .byte V := fun i v hv => by
  have hi : i < V.slots.size := (Array.getElem?_eq_some_iff.mp hv).1
  rcases h with ⟨-, k1, k2⟩ | ⟨-, k1, k2, -⟩
  · rw [(k2 i (by omega)).1] at hv; cases hv; exact fits_lo8 _
  · rcases Nat.mod_two_eq_zero_or_one i with e | e
    · obtain ⟨j, rfl⟩ : ∃ j, i = 2 * j := ⟨i / 2, by omega⟩
      rw [(k2 j (by omega)).1] at hv; cases hv; exact fits_lo8 _
    · obtain ⟨j, rfl⟩ : ∃ j, i = 2 * j + 1 := ⟨i / 2, by omega⟩
      rw [(k2 j (by omega)).2] at hv; cases hv; exact fits_lo8 _
/-- the same text -/
def SameT (n : Nat) (f : Nat → Int32) (k : Nat) (g : Nat → Int32) : Prop := n = k ∧ ∀ j, j < n → f j = g j
theorem lo8_inj {x y : Int32} (h0 : ¬ x < 0) (h1 : ¬ 255 < x) (k0 : ¬ y < 0) (k1 : ¬ 255 < y) (h : lo8 x = lo8 y) : x = y := by
  rw [← lo8_mask h0 h1, ← lo8_mask k0 k1, h]
/-- arrays coded by one coder are equal just where the texts are -/
theorem Cod.eqv {cd : Int32} {n k : Nat} {f g : Nat → Int32} {V V' : Cell} (h : Cod cd n f V) (h' : Cod cd k g V') (hf : ∀ j, j < n → ¬ f j < 0 ∧ ¬ 65535 < f j) (hg : ∀ j, j < k → ¬ g j < 0 ∧ ¬ 65535 < g j) : EqC V V' ↔ SameT n f k g := by
  have yvv : ∀ {W : Cell} {i : Nat} {x : Int32}, W.slots[i]? = some (.int x) → yv W i = x := fun q => by unfold yv; rw [q]
  rcases h with ⟨rfl, k1, k2⟩ | ⟨rfl, k1, k2, -⟩
  · rcases h' with ⟨-, m1, m2⟩ | ⟨e, -⟩
    · constructor
      · rintro ⟨e1, e2⟩
        refine ⟨by omega, fun j hj => ?_⟩
        have q := e2 j (by omega)
        rw [yvv (k2 j hj).1, yvv (m2 j (by omega)).1] at q
        exact lo8_inj (hf j hj).1 (k2 j hj).2 (hg j (by omega)).1 (m2 j (by omega)).2 q
      · rintro ⟨rfl, e2⟩
        refine ⟨by omega, fun j hj => ?_⟩
        rw [yvv (k2 j (by omega)).1, yvv (m2 j (by omega)).1, e2 j (by omega)]
    · exact absurd e (by decide)
  · rcases h' with ⟨e, -⟩ | ⟨-, m1, m2, -⟩
    · exact absurd e (by decide)
    · constructor
      · rintro ⟨e1, e2⟩
        refine ⟨by omega, fun j hj => ?_⟩
        have q1 := e2 (2 * j) (by omega)
        have q2 := e2 (2 * j + 1) (by omega)
        rw [yvv (k2 j hj).1, yvv (m2 j (by omega)).1] at q1
        rw [yvv (k2 j hj).2, yvv (m2 j (by omega)).2] at q2
        rw [← pair_says (hf j hj).1 (hf j hj).2, ← pair_says (hg j (by omega)).1 (hg j (by omega)).2, q1, q2]
      · rintro ⟨rfl, e2⟩
        refine ⟨by omega, fun i hi => ?_⟩
        rcases Nat.mod_two_eq_zero_or_one i with e | e
        · obtain ⟨j, rfl⟩ : ∃ j, i = 2 * j := ⟨i / 2, by omega⟩
          rw [yvv (k2 j (by omega)).1, yvv (m2 j (by omega)).1, e2 j (by omega)]
        · obtain ⟨j, rfl⟩ : ∃ j, i = 2 * j + 1 := ⟨i / 2, by omega⟩
          rw [yvv (k2 j (by omega)).2, yvv (m2 j (by omega)).2, e2 j (by omega)]
/-- two codings differ: so do the texts -/
theorem Cod.dif {cd cd' : Int32} {n k : Nat} {f g : Nat → Int32} {V V' : Cell} (h : Cod cd n f V) (h' : Cod cd' k g V') (hne : ¬ cd = cd') : ¬ SameT n f k g := by
  rintro ⟨rfl, e⟩
  rcases h with ⟨rfl, -, k2⟩ | ⟨rfl, -, -, j, hj, hw⟩
  · rcases h' with ⟨rfl, -⟩ | ⟨-, -, -, j, hj, hw⟩
    · exact hne rfl
    · exact (k2 j hj).2 (by rw [e j hj]; exact hw)
  · rcases h' with ⟨-, -, m2⟩ | ⟨rfl, -⟩
    · exact (m2 j hj).2 (by rw [← e j hj]; exact hw)
    · exact hne rfl
/-- an object of exactly C is an instance of C -/
theorem cinst {p : Program} {l : Launch} {e : Env} {R : Room} {s : State} {m : MethodId} {args : Array Value} {below : List Frame} {meth : Method} {c : Code} {T : State} {locs : List Loc} {cells slots : Nat} (X : Stand p l e R s m args below meth c T locs cells slots) (hexec : p.tables.exec = Jvm.exec) {own C : String} {index : Nat} (hown : s.vm.findClass own = some m.cls) (hlink : (Cond.classLink own index C).before args s = true) {a : Addr} (hE : Exact C a T)
    {g : JFrame} (hg : g.method = m) {rest : List Value} (hstack : g.stack = .ref a :: rest) (hdg : decode c.code g.pc = .ok (.instanceof index, 3)) :
    ∃ T', Stand p l e R s m args below meth c T' locs cells slots ∧ T'.heap = T.heap ∧ ∀ target, Steps p.tables e below (T'.setTop { g with pc := g.pc + 3, stack := .int 1 :: rest }) target → Steps p.tables e below (T.setTop g) target := by
  obtain ⟨cB, h1, D, h2, h3, h4⟩ := hE
  have h1' : s.vm.findClass C = some cB := by rw [← X.warmed.alike.findClass]; exact h1
  obtain ⟨vm', X', st⟩ := X.instanceofYes hexec hown hlink h2 h4 h1' (by rw [h3]; exact Jvm.Free.SB.assignable_self _ _) hg hstack hdg
  exact ⟨_, X', rfl, st⟩
theorem cself {p : Program} {l : Launch} {e : Env} {R : Room} {s : State} {m : MethodId} {args : Array Value} {below : List Frame} {meth : Method} {c : Code} {T : State} {locs : List Loc} {cells slots : Nat} (X : Stand p l e R s m args below meth c T locs cells slots) (hexec : p.tables.exec = Jvm.exec) {own C : String} {index : Nat} (hown : s.vm.findClass own = some m.cls) (hlink : (Cond.classLink own index C).before args s = true) {a : Addr} (hE : Exact C a T)
    {g : JFrame} (hg : g.method = m) {rest : List Value} (hstack : g.stack = .ref a :: rest) (hdg : decode c.code g.pc = .ok (.checkcast index, 3)) :
    ∃ T', Stand p l e R s m args below meth c T' locs cells slots ∧ T'.heap = T.heap ∧ ∀ target, Steps p.tables e below (T'.setTop { g with pc := g.pc + 3, stack := .ref a :: rest }) target → Steps p.tables e below (T.setTop g) target := by
  obtain ⟨cB, h1, D, h2, h3, h4⟩ := hE
  have h1' : s.vm.findClass C = some cB := by rw [← X.warmed.alike.findClass]; exact h1
  obtain ⟨vm', X', st⟩ := X.checkcastYes hexec hown hlink h2 h4 h1' (by rw [h3]; exact Jvm.Free.SB.assignable_self _ _) hg hstack hdg
  exact ⟨_, X', rfl, fun t h => st t (by rw [← hstack] at h; exact h)⟩
namespace SEq
def yN : MethodName := ⟨"java/lang/String", "equals", "(Ljava/lang/Object;)Z"⟩
abbrev yB : ByteArray := jdk_42_method_66_code
theorem d0 : decode yB 0 = .ok (.aload_n 0, 1) := by decide +kernel
theorem d1 : decode yB 1 = .ok (.aload_n 1, 1) := by decide +kernel
theorem d2 : decode yB 2 = .ok (.if_acmp (.ne) 5, 3) := by decide +kernel
theorem d5 : decode yB 5 = .ok (.iconst 1, 1) := by decide +kernel
theorem d6 : decode yB 6 = .ok (.ireturn, 1) := by decide +kernel
theorem d7 : decode yB 7 = .ok (.aload_n 1, 1) := by decide +kernel
theorem d8 : decode yB 8 = .ok (.instanceof 10, 3) := by decide +kernel
theorem d11 : decode yB 11 = .ok (.ifCond (.eq) 43, 3) := by decide +kernel
theorem d14 : decode yB 14 = .ok (.aload_n 1, 1) := by decide +kernel
theorem d15 : decode yB 15 = .ok (.checkcast 10, 3) := by decide +kernel
theorem d18 : decode yB 18 = .ok (.astore_n 2, 1) := by decide +kernel
theorem d19 : decode yB 19 = .ok (.getstatic 38, 3) := by decide +kernel
theorem d22 : decode yB 22 = .ok (.ifCond (.eq) 14, 3) := by decide +kernel
theorem d25 : decode yB 25 = .ok (.aload_n 0, 1) := by decide +kernel
theorem d26 : decode yB 26 = .ok (.getfield 15, 3) := by decide +kernel
theorem d29 : decode yB 29 = .ok (.aload_n 2, 1) := by decide +kernel
theorem d30 : decode yB 30 = .ok (.getfield 15, 3) := by decide +kernel
theorem d33 : decode yB 33 = .ok (.if_icmp (.ne) 21, 3) := by decide +kernel
theorem d36 : decode yB 36 = .ok (.aload_n 0, 1) := by decide +kernel
theorem d37 : decode yB 37 = .ok (.getfield 9, 3) := by decide +kernel
theorem d40 : decode yB 40 = .ok (.aload_n 2, 1) := by decide +kernel
theorem d41 : decode yB 41 = .ok (.getfield 9, 3) := by decide +kernel
theorem d44 : decode yB 44 = .ok (.invokestatic 541, 3) := by decide +kernel
theorem d47 : decode yB 47 = .ok (.ifCond (.eq) 7, 3) := by decide +kernel
theorem d50 : decode yB 50 = .ok (.iconst 1, 1) := by decide +kernel
theorem d51 : decode yB 51 = .ok (.goto 4, 3) := by decide +kernel
theorem d54 : decode yB 54 = .ok (.iconst 0, 1) := by decide +kernel
theorem d55 : decode yB 55 = .ok (.ireturn, 1) := by decide +kernel
def site : List Cond := [.classLink "java/lang/String" 10 "java/lang/String", .fieldLink "java/lang/String" 38 "java/lang/String" "COMPACT_STRINGS" "Z", .fieldLink "java/lang/String" 15 "java/lang/String" "coder" "B", .fieldLink "java/lang/String" 9 "java/lang/String" "value" "[B", LEq.tab] ++ staticW "java/lang/String" 541 LEq.yN
def tab : Cond := tabOf yN yB 3 (some .boolean) site
def P (x t : Addr) (V : Cell) (cd : Int32) (n : Nat) (f : Nat → Int32) (y t' : Addr) (V' : Cell) (cd' : Int32) (k : Nat) (g : Nat → Int32) (z : Int32) (args : Array Value) (s : State) : Prop := args = #[.ref x, .ref y] ∧ Txt x t V cd n f s ∧ Txt y t' V' cd' k g s ∧ StaticIs s "java/lang/String" "COMPACT_STRINGS" "Z" (.int z) ∧ ¬ z = 0
/-- equals(Object) of two Strings: whether the texts are the same -/
theorem law (l : Launch) (x t : Addr) (V : Cell) (cd : Int32) (n : Nat) (f : Nat → Int32) (y t' : Addr) (V' : Cell) (cd' : Int32) (k : Nat) (g : Nat → Int32) (z : Int32) : Law l yN 2 1 1 14 yB 3 (some .boolean) site (P x t V cd n f y t' V' cd' k g z) (Says01 (SameT n f k g)) [] 0 0 := by
  refine Law.of_walk (plainFor_of_name (by decide +kernel)) (by decide +kernel) (by decide +kernel) (by decide) (fun _ _ h => by rw [h.1]; rfl) (fun _ U U' hal hh h => ⟨h.1, h.2.1.mv hal hh, h.2.2.1.mv hal hh, h.2.2.2.1.there hal hh, h.2.2.2.2⟩) (fun r U U' V V' h1 hal h2 h => Says01.mv r U U' V V' h1 hal h2 h) ?_
  intro p e s m args below meth c s₁ X0 hexec hbytes hml hret hlk hnm hown hh0 W hP
  obtain ⟨rfl, hx, hy, s1, hz⟩ := hP
  have c1 : Steps p.tables e below (s₁.setTop (entryFrame m #[.ref x, .ref y] 3)) (s₁.setTop (mkF m 2 #[.val (.ref x), .val (.ref y), .unset] [.ref y, .ref x])) := Steps.trans (entry rfl) (by
    show Steps p.tables e below (s₁.setTop (mkF m 0 #[.val (.ref x), .val (.ref y), .unset] [])) _
    refine XS.aloadN X0.here hexec rfl (hb hbytes d0) rfl rfl ?_
    refine XS.aloadN X0.here hexec rfl (hb hbytes d1) rfl rfl ?_
    exact Steps.refl _)
  by_cases hxy : x = y
  · have c2 : Steps p.tables e below (s₁.setTop (entryFrame m #[.ref x, .ref y] 3)) (s₁.setTop (mkF m 6 #[.val (.ref x), .val (.ref y), .unset] [.int 1])) := c1.trans (by
      refine acmpNo X0.here hexec rfl (hb hbytes d2) rfl rfl rfl (by simp [acmp, hxy]) ?_
      refine iconstV X0.here hexec rfl 1 (hb hbytes d5) (by decide) ?_
      exact Steps.refl _)
    subst hxy
    have ec : cd = cd' := by
      obtain ⟨D, fd, a1, a2, a3⟩ := hx.2.2.1
      obtain ⟨D', fd', b1, b2, b3⟩ := hy.2.2.1
      cases a1.symm.trans b1
      obtain ⟨q1, q2, q3, q4⟩ := a2.1
      obtain ⟨r1, r2, r3, r4⟩ := b2.1
      cases q4.symm.trans r4
      cases a3.symm.trans b3; rfl
    have et : t = t' := by
      obtain ⟨D, fd, a1, a2, a3⟩ := hx.2.1
      obtain ⟨D', fd', b1, b2, b3⟩ := hy.2.1
      cases a1.symm.trans b1
      obtain ⟨q1, q2, q3, q4⟩ := a2.1
      obtain ⟨r1, r2, r3, r4⟩ := b2.1
      cases q4.symm.trans r4
      cases a3.symm.trans b3; rfl
    subst ec et
    have ev : V = V' := by cases hx.2.2.2.1.1.symm.trans hy.2.2.2.1.1; rfl
    subst ev
    have hs : SameT n f k g := (Cod.eqv hx.2.2.2.2.1 hy.2.2.2.2.1 hx.2.2.2.2.2 hy.2.2.2.2.2).mp ⟨rfl, fun _ _ => rfl⟩
    exact ⟨s₁, some (.int 1), _, _, _, X0, rfl, rfl, rfl, (fun h => by cases h), ⟨1, rfl, hh0, Or.inl ⟨rfl, hs⟩⟩, fun fs hl => c2.trans (X0.ireturnOut hexec hret rfl (Or.inr (Or.inl rfl)) (hb hbytes d6) hl)⟩
  · have c2 : Steps p.tables e below (s₁.setTop (entryFrame m #[.ref x, .ref y] 3)) (s₁.setTop (mkF m 8 #[.val (.ref x), .val (.ref y), .unset] [.ref y])) := c1.trans (by
      refine acmpYes X0.here hexec rfl (pc0 := 2) rfl (hb hbytes d2) rfl rfl rfl (by simp [acmp, hxy]) (by decide) rfl ?_
      refine XS.aloadN X0.here hexec rfl (hb hbytes d7) rfl rfl ?_
      exact Steps.refl _)
    obtain ⟨T3, X3, q3, st3⟩ := cinst X0 hexec hown (wk W (.classLink "java/lang/String" 10 "java/lang/String")) (hy.mv X0.warmed.alike hh0).1 (g := (mkF m 8 #[.val (.ref x), .val (.ref y), .unset] [.ref y])) rfl (rest := []) rfl (hb hbytes d8)
    have hh3 := q3.trans hh0
    have c4 : Steps p.tables e below (s₁.setTop (entryFrame m #[.ref x, .ref y] 3)) (T3.setTop (mkF m 15 #[.val (.ref x), .val (.ref y), .unset] [.ref y])) := (c2.trans (st3 _ (Steps.refl _))).trans (by
      refine XS.ifNo X3.here hexec rfl (hb hbytes d11) rfl (i0_eq_f (by decide)) ?_
      refine XS.aloadN X3.here hexec rfl (hb hbytes d14) rfl rfl ?_
      exact Steps.refl _)
    obtain ⟨T5, X5, q5, st5⟩ := cself X3 hexec hown (wk W (.classLink "java/lang/String" 10 "java/lang/String")) (hy.mv X3.warmed.alike hh3).1 (g := (mkF m 15 #[.val (.ref x), .val (.ref y), .unset] [.ref y])) rfl (rest := []) rfl (hb hbytes d15)
    have hh5 := q5.trans hh3
    have c6 : Steps p.tables e below (s₁.setTop (entryFrame m #[.ref x, .ref y] 3)) (T5.setTop (mkF m 19 #[.val (.ref x), .val (.ref y), .val (.ref y)] [])) := (c4.trans (st5 _ (Steps.refl _))).trans (by
      refine XS.astoreN X5.here hexec rfl (hb hbytes d18) rfl rfl rfl ?_
      exact Steps.refl _)
    obtain ⟨T7, X7, q7, st7⟩ := X5.sget hexec hown (wk W (.fieldLink "java/lang/String" 38 "java/lang/String" "COMPACT_STRINGS" "Z")) s1 (fun _ _ h => by rw [hh5]; exact h) (g := (mkF m 19 #[.val (.ref x), .val (.ref y), .val (.ref y)] [])) rfl (hb hbytes d19)
    have hh7 := q7.trans hh5
    have c8 : Steps p.tables e below (s₁.setTop (entryFrame m #[.ref x, .ref y] 3)) (T7.setTop (mkF m 26 #[.val (.ref x), .val (.ref y), .val (.ref y)] [.ref x])) := (c6.trans (st7 _ (Steps.refl _))).trans (by
      refine XS.ifNo X7.here hexec rfl (hb hbytes d22) rfl (i0_eq_f hz) ?_
      refine XS.aloadN X7.here hexec rfl (hb hbytes d25) rfl rfl ?_
      exact Steps.refl _)
    obtain ⟨T9, X9, q9, st9⟩ := X7.hget hexec hown (wk W (.fieldLink "java/lang/String" 15 "java/lang/String" "coder" "B")) (hx.mv X7.warmed.alike hh7).2.2.1 (g := (mkF m 26 #[.val (.ref x), .val (.ref y), .val (.ref y)] [.ref x])) rfl (rest := []) rfl (hb hbytes d26)
    have hh9 := q9.trans hh7
    have c10 : Steps p.tables e below (s₁.setTop (entryFrame m #[.ref x, .ref y] 3)) (T9.setTop (mkF m 30 #[.val (.ref x), .val (.ref y), .val (.ref y)] [.ref y, .int cd])) := (c8.trans (st9 _ (Steps.refl _))).trans (by
      refine XS.aloadN X9.here hexec rfl (hb hbytes d29) rfl rfl ?_
      exact Steps.refl _)
    obtain ⟨T11, X11, q11, st11⟩ := X9.hget hexec hown (wk W (.fieldLink "java/lang/String" 15 "java/lang/String" "coder" "B")) (hy.mv X9.warmed.alike hh9).2.2.1 (g := (mkF m 30 #[.val (.ref x), .val (.ref y), .val (.ref y)] [.ref y, .int cd])) rfl (rest := [.int cd]) rfl (hb hbytes d30)
    have hh11 := q11.trans hh9
    have c12 : Steps p.tables e below (s₁.setTop (entryFrame m #[.ref x, .ref y] 3)) (T11.setTop (mkF m 33 #[.val (.ref x), .val (.ref y), .val (.ref y)] [.int cd', .int cd])) := c10.trans (st11 _ (Steps.refl _))
    by_cases hcd : cd = cd'
    · subst hcd
      have c13 : Steps p.tables e below (s₁.setTop (entryFrame m #[.ref x, .ref y] 3)) (T11.setTop (mkF m 37 #[.val (.ref x), .val (.ref y), .val (.ref y)] [.ref x])) := c12.trans (by
        refine XS.icmpNo X11.here hexec rfl (hb hbytes d33) rfl (ii_ne_f rfl) ?_
        refine XS.aloadN X11.here hexec rfl (hb hbytes d36) rfl rfl ?_
        exact Steps.refl _)
      obtain ⟨T14, X14, q14, st14⟩ := X11.hget hexec hown (wk W (.fieldLink "java/lang/String" 9 "java/lang/String" "value" "[B")) (hx.mv X11.warmed.alike hh11).2.1 (g := (mkF m 37 #[.val (.ref x), .val (.ref y), .val (.ref y)] [.ref x])) rfl (rest := []) rfl (hb hbytes d37)
      have hh14 := q14.trans hh11
      have c15 : Steps p.tables e below (s₁.setTop (entryFrame m #[.ref x, .ref y] 3)) (T14.setTop (mkF m 41 #[.val (.ref x), .val (.ref y), .val (.ref y)] [.ref y, .ref t])) := (c13.trans (st14 _ (Steps.refl _))).trans (by
        refine XS.aloadN X14.here hexec rfl (hb hbytes d40) rfl rfl ?_
        exact Steps.refl _)
      obtain ⟨T16, X16, q16, st16⟩ := X14.hget hexec hown (wk W (.fieldLink "java/lang/String" 9 "java/lang/String" "value" "[B")) (hy.mv X14.warmed.alike hh14).2.1 (g := (mkF m 41 #[.val (.ref x), .val (.ref y), .val (.ref y)] [.ref y, .ref t])) rfl (rest := [.ref t]) rfl (hb hbytes d41)
      have hh16 := q16.trans hh14
      have c17 : Steps p.tables e below (s₁.setTop (entryFrame m #[.ref x, .ref y] 3)) (T16.setTop (mkF m 44 #[.val (.ref x), .val (.ref y), .val (.ref y)] [.ref t', .ref t])) := c15.trans (st16 _ (Steps.refl _))
      obtain ⟨v18, T18, X18, E18, g18⟩ := X16.callS hexec (LEq.law l t V t' V') hown (wks W (staticW "java/lang/String" 541 LEq.yN)) (wk W LEq.tab) (W := 0) (Nat.le_of_ble_eq_true rfl) (Nat.le_of_ble_eq_true rfl) (Nat.le_refl _) (Nat.le_refl _) (g := (mkF m 44 #[.val (.ref x), .val (.ref y), .val (.ref y)] [.ref t', .ref t])) rfl (by rw [hml]; rfl) c17 (argsL := [.ref t, .ref t']) (rest := []) rfl rfl (by show 2 * 0 + 0 ≤ _; decide) (hb hbytes d44) (⟨rfl, hx.2.2.2.1.mv X16.warmed.alike hh16, hx.2.2.2.2.1.ty, hy.2.2.2.1.mv X16.warmed.alike hh16, hy.2.2.2.2.1.ty⟩)
      obtain ⟨v, rfl, q18, hv⟩ := E18
      have iff := Cod.eqv hx.2.2.2.2.1 hy.2.2.2.2.1 hx.2.2.2.2.2 hy.2.2.2.2.2
      rcases hv with ⟨rfl, he⟩ | ⟨rfl, he⟩
      · have c19 : Steps p.tables e below (s₁.setTop (entryFrame m #[.ref x, .ref y] 3)) (T18.setTop (mkF m 55 #[.val (.ref x), .val (.ref y), .val (.ref y)] [.int 1])) := Steps.trans g18 (by
          refine XS.ifNo X18.here hexec rfl (hb hbytes d47) rfl (i0_eq_f (by decide)) ?_
          refine iconstV X18.here hexec rfl 1 (hb hbytes d50) (by decide) ?_
          refine XS.goto X18.here hexec rfl (pc0 := 51) rfl (hb hbytes d51) (by decide) rfl ?_
          exact Steps.refl _)
        exact ⟨T18, some (.int 1), _, _, _, X18, rfl, rfl, rfl, (fun h => by cases h), ⟨1, rfl, q18.trans hh16, Or.inl ⟨rfl, iff.mp he⟩⟩, fun fs hl => c19.trans (X18.ireturnOut hexec hret rfl (Or.inr (Or.inl rfl)) (hb hbytes d55) hl)⟩
      · have c19 : Steps p.tables e below (s₁.setTop (entryFrame m #[.ref x, .ref y] 3)) (T18.setTop (mkF m 55 #[.val (.ref x), .val (.ref y), .val (.ref y)] [.int 0])) := Steps.trans g18 (by
          refine XS.ifYes X18.here hexec rfl (pc0 := 47) rfl (hb hbytes d47) rfl (i0_eq_t rfl) (by decide) rfl ?_
          refine iconstV X18.here hexec rfl 0 (hb hbytes d54) (by decide) ?_
          exact Steps.refl _)
        exact ⟨T18, some (.int 0), _, _, _, X18, rfl, rfl, rfl, (fun h => by cases h), ⟨0, rfl, q18.trans hh16, Or.inr ⟨rfl, fun q => he (iff.mpr q)⟩⟩, fun fs hl => c19.trans (X18.ireturnOut hexec hret rfl (Or.inr (Or.inl rfl)) (hb hbytes d55) hl)⟩
    · have c13 : Steps p.tables e below (s₁.setTop (entryFrame m #[.ref x, .ref y] 3)) (T11.setTop (mkF m 55 #[.val (.ref x), .val (.ref y), .val (.ref y)] [.int 0])) := c12.trans (by
        refine XS.icmpYes X11.here hexec rfl (pc0 := 33) rfl (hb hbytes d33) rfl (ii_ne_t hcd) (by decide) rfl ?_
        refine iconstV X11.here hexec rfl 0 (hb hbytes d54) (by decide) ?_
        exact Steps.refl _)
      exact ⟨T11, some (.int 0), _, _, _, X11, rfl, rfl, rfl, (fun h => by cases h), ⟨0, rfl, hh11, Or.inr ⟨rfl, Cod.dif hx.2.2.2.2.1 hy.2.2.2.2.1 hcd⟩⟩, fun fs hl => c13.trans (X11.ireturnOut hexec hret rfl (Or.inr (Or.inl rfl)) (hb hbytes d55) hl)⟩
theorem pays {l : Launch} {R : Room} {p : Program} {e : Env} {below : List Frame} {s : State} {sargs : Array Value} {len W : Nat} (x t : Addr) (V : Cell) (cd : Int32) (n : Nat) (f : Nat → Int32) (y t' : Addr) (V' : Cell) (cd' : Int32) (k : Nat) (g : Nat → Int32) (z : Int32) (htab : tab.before sargs s = true) (hfr : 2 ≤ R.frames) (hlo : W + 28 ≤ R.locals) :
    Back l R p e below s sargs yN len W (fun A₁ a₁ => A₁.cells + 0 ≤ R.cells ∧ A₁.slots + 0 ≤ R.slots ∧ P x t V cd n f y t' V' cd' k g z a₁ A₁.U) (fun A₁ _ v₁ B₁ => Says01 (SameT n f k g) v₁ A₁.U B₁.U ∧ B₁.locs = A₁.locs ++ [] ∧ B₁.cells = A₁.cells + 0 ∧ B₁.slots = A₁.slots + 0) :=
  (law l x t V cd n f y t' V' cd' k g z).pays htab hfr (by omega)
end SEq
end StrChars
namespace StrChars.Road
open Jvm Sem ClassFile Op Lib Jvm.Stand Jvm.Free Jvm.Free.XT
open Jvm.Lib.Cold (StaticIs)
/-- the words of String.equals(Object) -/
abbrev wordsEq : List Jvm.Cond := [.code SEq.yN SEq.yB 3 (some .boolean), .initialized ST, .classLink ST 10 ST, .fieldLink ST 38 ST "COMPACT_STRINGS" "Z", .fieldLink ST 15 ST "coder" "B", .fieldLink ST 9 ST "value" "[B", .methodLink ST 541 LEq.yN, .static LEq.yN, .code LEq.yN LEq.yB 3 (some .boolean), .initialized "java/lang/StringLatin1"]
theorem tabEq_of {a : Array Value} {s : State} (h : ∀ w ∈ wordsEq, w.before a s = true) : SEq.tab.before a s = true := by
  have hl : LEq.tab.before a s = true := unparts (wk h (.code LEq.yN LEq.yB 3 (some .boolean))) (wks h (.initialized LEq.yN.cls :: LEq.site))
  have q := consq hl h
  exact unparts (wk q (.code SEq.yN SEq.yB 3 (some .boolean))) (wks q (.initialized SEq.yN.cls :: SEq.site))
theorem movedEq {Z s : State} {a0 args : Array Value} (hZ : Z.Warmed39 s.vm) (hw : ∀ d ∈ wordsEq, d.before a0 Z = true) : ∀ d ∈ wordsEq, d.before args s = true := fun d hd => by
  have t : ∀ d ∈ wordsEq, (d.onTables && d.keepsFace) = true := by decide +kernel
  exact RoadKit.mv hZ (hw d hd) (t d hd)
/-- the road's facts of a String, as the laws ask it -/
theorem txt_of {Z U : State} {a0 : Array Value} {kI : Nat} (wi : (Jvm.Cond.instantiable ST kI).before a0 Z = true) (al : Z.vm.Alike U.vm) {x t : Addr} {kb : ClassId} {cs : List Int32} {cd N2 : Int32} {vs : List Value} (E : RoadKit.Exa Z U.heap x ST) (V : RoadKit.Fld Z U.heap x ST "value" "[B" (.ref t)) (C : RoadKit.Fld Z U.heap x ST "coder" "B" (.int cd)) (K : RoadKit.Arv Z U.heap t kb .byte N2 vs (.int 0)) (hc : CodA cs cd N2 vs) (hb : ∀ c ∈ cs, ¬ c < 0 ∧ ¬ (65535 : Int32) < c) (l2 : cs.length ≤ 4000) :
    ∃ A, Txt x t A cd cs.length (fun j => cs.getD j 0) U := by
  obtain ⟨A, K1, K2, K3, K4, K5, K6⟩ := K
  have hcod := hc.cod (by omega) K3 K5
  obtain ⟨D, fV, fC, hB, F1, F2, g1, g2, -, -⟩ := strObj wi al E V C
  exact ⟨A, ⟨_, hB.2.2.1, D, hB.1, rfl, by cases q : D.vm <;> first | rfl | exact absurd q (hB.2.1.2 _)⟩, Has.of hB F1 g1, Has.of hB F2 g2, ⟨K1.1, State.isArrayOf_alike al K1.2.1, K1.2.2, by rcases hcod with ⟨-, q, -⟩ | ⟨-, q, -⟩ <;> omega⟩, hcod, fun j hj => by
    have e : cs.getD j 0 = cs[j] := by simp [List.getD_eq_getElem?_getD, hj]
    show ¬ cs.getD j 0 < 0 ∧ ¬ 65535 < cs.getD j 0
    rw [e]; exact hb _ (List.getElem_mem _)⟩
theorem same_list (cs ds : List Int32) : SameT cs.length (fun j => cs.getD j 0) ds.length (fun j => ds.getD j 0) ↔ cs = ds := by
  constructor
  · rintro ⟨e, q⟩
    refine List.ext_getElem e fun j h1 h2 => ?_
    have := q j h1
    simpa [List.getD_eq_getElem?_getD, h1, h2] using this
  · rintro rfl
    exact ⟨rfl, fun _ _ => rfl⟩
/-- **equals(Object) OF TWO SUCH STRINGS**: 1 just where the chars are the same -/
theorem eqW {p : Program} {l : Launch} {e : Env} {R : Room} {s : State} {args : Array Value} {below : List Frame} {len W : Nat} {Z : State} {a0 : Array Value} {h : Heap} (hZ : Z.Warmed39 s.vm) (hw : ∀ d ∈ wordsEq, d.before a0 Z = true) {kI : Nat} (wi : (Jvm.Cond.instantiable ST kI).before a0 Z = true)
    {x t : Addr} {kb : ClassId} {cs : List Int32} {cd N2 : Int32} {vs : List Value} (E : RoadKit.Exa Z h x ST) (V : RoadKit.Fld Z h x ST "value" "[B" (.ref t)) (C : RoadKit.Fld Z h x ST "coder" "B" (.int cd)) (K : RoadKit.Arv Z h t kb .byte N2 vs (.int 0)) (hc : CodA cs cd N2 vs) (hb : ∀ c ∈ cs, ¬ c < 0 ∧ ¬ (65535 : Int32) < c) (l2 : cs.length ≤ 4000)
    {y t' : Addr} {kb' : ClassId} {ds : List Int32} {cd' N2' : Int32} {vs' : List Value} (E' : RoadKit.Exa Z h y ST) (V' : RoadKit.Fld Z h y ST "value" "[B" (.ref t')) (C' : RoadKit.Fld Z h y ST "coder" "B" (.int cd')) (K' : RoadKit.Arv Z h t' kb' .byte N2' vs' (.int 0)) (hc' : CodA ds cd' N2' vs') (hb' : ∀ c ∈ ds, ¬ c < 0 ∧ ¬ (65535 : Int32) < c) (l2' : ds.length ≤ 4000)
    {z : Int32} (S : RoadKit.Sta Z h ST "COMPACT_STRINGS" "Z" (.int z)) (hz : ¬ z = 0) (hfr : 2 ≤ R.frames) (hlo : W + 28 ≤ R.locals) :
    Back l R p e below s args (⟨"java/lang/String", "equals", "(Ljava/lang/Object;)Z"⟩ : MethodName) len W (fun P a => a = #[.ref x, .ref y] ∧ P.U.heap = h ∧ P.cells + 0 ≤ R.cells ∧ P.slots + 0 ≤ R.slots)
      (fun P _ v B => ∃ L, (((v = some (.int 1) ∧ cs = ds) ∨ (v = some (.int 0) ∧ ¬ cs = ds)) ∧ L = [] ∧ B.U.heap = h) ∧ B.locs = P.locs ++ L ∧ B.cells = P.cells + 0 ∧ B.slots = P.slots + 0) := by
  intro m meth c P g ig mk a X hg hsize hdg hW hn hp'
  obtain ⟨rfl, rfl, r1, r2⟩ := hp'
  have al : Z.vm.Alike P.U.vm := hZ.alike.trans X.warmed.alike
  obtain ⟨A, hx⟩ := txt_of wi al E V C K hc hb l2
  obtain ⟨A', hy⟩ := txt_of wi al E' V' C' K' hc' hb' l2'
  obtain ⟨v, B, X', ⟨⟨w, hv, hh, hq⟩, hl, hk, hs⟩, st⟩ := SEq.pays x t A cd cs.length (fun j => cs.getD j 0) y t' A' cd' ds.length (fun j => ds.getD j 0) z (tabEq_of (movedEq hZ hw)) hfr hlo m meth c P g ig mk _ X hg hsize hdg hW hn ⟨r1, r2, rfl, hx, hy, sta_is al S, hz⟩
  refine ⟨v, B, X', ⟨[], ⟨?_, rfl, hh⟩, hl, hk, hs⟩, st⟩
  rcases hq with ⟨rfl, q⟩ | ⟨rfl, q⟩
  · exact Or.inl ⟨hv, (same_list cs ds).mp q⟩
  · exact Or.inr ⟨hv, fun e => q ((same_list cs ds).mpr e)⟩
end StrChars.Road
end Jvm.Pilot.@@N@@
namespace Jvm.Pilot.@@N@@
open Jvm Jvm.ClassFile Sem Op Lib Jvm.Free Jvm.Stand Jvm.LawKit Jvm.RoadKit Bundle Jvm.OwnGo Jvm.Pilot.@@N@@.Jvm.D
theorem w_0 : (Jvm.Cond.arrayClass Jvm.ClassFile.FieldType.char) ∈ tables_1 := List.mem_of_getElem? (i := 0) rfl
theorem w_1 : (Jvm.Cond.constantLong "com/example/xml_retrieval_scoring/xmlretrievalscoring/AssessmentLayoutOfRecordPinLaw" (12 : Nat) (255 : Int64)) ∈ tables_1 := List.mem_of_getElem? (i := 1) rfl
theorem w_2 : (Jvm.Cond.methodLink "com/example/xml_retrieval_scoring/xmlretrievalscoring/AssessmentLayoutOfRecordPinLaw" (15 : Nat) ({ cls := "com/example/xml_retrieval_scoring/xmlretrievalscoring/AssessmentLayoutOfRecordPinLaw", name := "make", desc := "([CI)Ljava/lang/String;" } : Jvm.MethodName)) ∈ tables_1 := List.mem_of_getElem? (i := 2) rfl
theorem w_3 : (Jvm.Cond.static ({ cls := "com/example/xml_retrieval_scoring/xmlretrievalscoring/AssessmentLayoutOfRecordPinLaw", name := "make", desc := "([CI)Ljava/lang/String;" } : Jvm.MethodName)) ∈ tables_1 := List.mem_of_getElem? (i := 3) rfl
theorem w_4 : (Jvm.Cond.initialized "com/example/xml_retrieval_scoring/xmlretrievalscoring/AssessmentLayoutOfRecordPinLaw") ∈ tables_1 := List.mem_of_getElem? (i := 4) rfl
theorem w_5 : (Jvm.Cond.code ({ cls := "com/example/xml_retrieval_scoring/xmlretrievalscoring/AssessmentLayoutOfRecordPinLaw", name := "make", desc := "([CI)Ljava/lang/String;" } : Jvm.MethodName) method_2_code (2 : Nat) (Option.some (Jvm.ClassFile.FieldType.object "java/lang/String"))) ∈ tables_1 := List.mem_of_getElem? (i := 5) rfl
theorem w_6 : (Jvm.Cond.classLink "com/example/xml_retrieval_scoring/xmlretrievalscoring/AssessmentLayoutOfRecordPinLaw" (7 : Nat) "java/lang/String") ∈ tables_1 := List.mem_of_getElem? (i := 6) rfl
theorem w_7 : (Jvm.Cond.instantiable "java/lang/String" (4 : Nat)) ∈ tables_1 := List.mem_of_getElem? (i := 7) rfl
theorem w_8 : (Jvm.Cond.initialized "java/lang/String") ∈ tables_1 := List.mem_of_getElem? (i := 8) rfl
theorem w_9 : (Jvm.Cond.methodLink "com/example/xml_retrieval_scoring/xmlretrievalscoring/AssessmentLayoutOfRecordPinLaw" (9 : Nat) ({ cls := "java/lang/String", name := "<init>", desc := "([C)V" } : Jvm.MethodName)) ∈ tables_1 := List.mem_of_getElem? (i := 9) rfl
theorem w_10 : (Jvm.Cond.instanceMethod ({ cls := "java/lang/String", name := "<init>", desc := "([C)V" } : Jvm.MethodName)) ∈ tables_1 := List.mem_of_getElem? (i := 10) rfl
theorem w_11 : (Jvm.Cond.code ({ cls := "java/lang/String", name := "<init>", desc := "([C)V" } : Jvm.MethodName) jdk_42_method_3_code (2 : Nat) (Option.none : Option Jvm.ClassFile.FieldType)) ∈ tables_1 := List.mem_of_getElem? (i := 11) rfl
theorem w_12 : (Jvm.Cond.methodLink "java/lang/String" (27 : Nat) ({ cls := "java/lang/String", name := "<init>", desc := "([CIILjava/lang/Void;)V" } : Jvm.MethodName)) ∈ tables_1 := List.mem_of_getElem? (i := 12) rfl
theorem w_13 : (Jvm.Cond.instanceMethod ({ cls := "java/lang/String", name := "<init>", desc := "([CIILjava/lang/Void;)V" } : Jvm.MethodName)) ∈ tables_1 := List.mem_of_getElem? (i := 13) rfl
theorem w_15 : (Jvm.Cond.code ({ cls := "java/lang/String", name := "<init>", desc := "([CIILjava/lang/Void;)V" } : Jvm.MethodName) jdk_42_method_149_code (6 : Nat) (Option.none : Option Jvm.ClassFile.FieldType)) ∈ tables_1 := List.mem_of_getElem? (i := 15) rfl
theorem w_16 : (Jvm.Cond.methodLink "java/lang/String" (1 : Nat) ({ cls := "java/lang/Object", name := "<init>", desc := "()V" } : Jvm.MethodName)) ∈ tables_1 := List.mem_of_getElem? (i := 16) rfl
theorem w_17 : (Jvm.Cond.instanceMethod ({ cls := "java/lang/Object", name := "<init>", desc := "()V" } : Jvm.MethodName)) ∈ tables_1 := List.mem_of_getElem? (i := 17) rfl
theorem w_18 : (Jvm.Cond.code ({ cls := "java/lang/Object", name := "<init>", desc := "()V" } : Jvm.MethodName) object_method_1_code (1 : Nat) (Option.none : Option Jvm.ClassFile.FieldType)) ∈ tables_1 := List.mem_of_getElem? (i := 18) rfl
theorem w_24 : (Jvm.Cond.arrayClass Jvm.ClassFile.FieldType.byte) ∈ tables_1 := List.mem_of_getElem? (i := 24) rfl
theorem w_31 : (Jvm.Cond.fieldLink "java/lang/String" (15 : Nat) "java/lang/String" "coder" "B") ∈ tables_1 := List.mem_of_getElem? (i := 31) rfl
theorem w_32 : (Jvm.Cond.laysFinal "java/lang/String" "java/lang/String" "coder" "B") ∈ tables_1 := List.mem_of_getElem? (i := 32) rfl
theorem w_33 : (Jvm.Cond.fieldLink "java/lang/String" (9 : Nat) "java/lang/String" "value" "[B") ∈ tables_1 := List.mem_of_getElem? (i := 33) rfl
theorem w_34 : (Jvm.Cond.laysFinal "java/lang/String" "java/lang/String" "value" "[B") ∈ tables_1 := List.mem_of_getElem? (i := 34) rfl
theorem w_35 : (Jvm.Cond.stringLink "com/example/xml_retrieval_scoring/xmlretrievalscoring/AssessmentLayoutOfRecordPinLaw" (21 : Nat) "path") ∈ tables_1 := List.mem_of_getElem? (i := 35) rfl
theorem w_38 : (Jvm.Cond.methodLink "com/example/xml_retrieval_scoring/xmlretrievalscoring/AssessmentLayoutOfRecordPinLaw" (23 : Nat) ({ cls := "java/lang/String", name := "equals", desc := "(Ljava/lang/Object;)Z" } : Jvm.MethodName)) ∈ tables_1 := List.mem_of_getElem? (i := 38) rfl
theorem w_39 : (Jvm.Cond.declares ({ cls := "java/lang/String", name := "equals", desc := "(Ljava/lang/Object;)Z" } : Jvm.MethodName)) ∈ tables_1 := List.mem_of_getElem? (i := 39) rfl
theorem w_40 : (Jvm.Cond.instanceMethod ({ cls := "java/lang/String", name := "equals", desc := "(Ljava/lang/Object;)Z" } : Jvm.MethodName)) ∈ tables_1 := List.mem_of_getElem? (i := 40) rfl
theorem w_41 : (Jvm.Cond.selects "java/lang/String" ({ cls := "java/lang/String", name := "equals", desc := "(Ljava/lang/Object;)Z" } : Jvm.MethodName) ({ cls := "java/lang/String", name := "equals", desc := "(Ljava/lang/Object;)Z" } : Jvm.MethodName)) ∈ tables_1 := List.mem_of_getElem? (i := 41) rfl
theorem w_48 : (Jvm.Cond.stringLink "com/example/xml_retrieval_scoring/xmlretrievalscoring/AssessmentLayoutOfRecordPinLaw" (33 : Nat) "element") ∈ tables_1 := List.mem_of_getElem? (i := 48) rfl
theorem w_49 : (Jvm.Cond.methodLink "com/example/xml_retrieval_scoring/xmlretrievalscoring/AssessmentLayoutOfRecordPinLaw" (38 : Nat) ({ cls := "com/example/xml_retrieval_scoring/xmlretrievalscoring/AssessmentLayout", name := "ofRecord", desc := "(Ljava/lang/String;)Lcom/example/xml_retrieval_scoring/xmlretrievalscoring/AssessmentLayout;" } : Jvm.MethodName)) ∈ tables_1 := List.mem_of_getElem? (i := 49) rfl
theorem w_50 : (Jvm.Cond.static ({ cls := "com/example/xml_retrieval_scoring/xmlretrievalscoring/AssessmentLayout", name := "ofRecord", desc := "(Ljava/lang/String;)Lcom/example/xml_retrieval_scoring/xmlretrievalscoring/AssessmentLayout;" } : Jvm.MethodName)) ∈ tables_1 := List.mem_of_getElem? (i := 50) rfl
theorem w_51 : (Jvm.Cond.initialized "com/example/xml_retrieval_scoring/xmlretrievalscoring/AssessmentLayout") ∈ tables_1 := List.mem_of_getElem? (i := 51) rfl
theorem w_52 : (Jvm.Cond.code ({ cls := "com/example/xml_retrieval_scoring/xmlretrievalscoring/AssessmentLayout", name := "ofRecord", desc := "(Ljava/lang/String;)Lcom/example/xml_retrieval_scoring/xmlretrievalscoring/AssessmentLayout;" } : Jvm.MethodName) prog_1_method_7_code (6 : Nat) (Option.some (Jvm.ClassFile.FieldType.object "com/example/xml_retrieval_scoring/xmlretrievalscoring/AssessmentLayout"))) ∈ tables_1 := List.mem_of_getElem? (i := 52) rfl
theorem w_53 : (Jvm.Cond.methodLink "com/example/xml_retrieval_scoring/xmlretrievalscoring/AssessmentLayout" (42 : Nat) ({ cls := "com/example/xml_retrieval_scoring/xmlretrievalscoring/AssessmentLayout", name := "values", desc := "()[Lcom/example/xml_retrieval_scoring/xmlretrievalscoring/AssessmentLayout;" } : Jvm.MethodName)) ∈ tables_1 := List.mem_of_getElem? (i := 53) rfl
theorem w_54 : (Jvm.Cond.static ({ cls := "com/example/xml_retrieval_scoring/xmlretrievalscoring/AssessmentLayout", name := "values", desc := "()[Lcom/example/xml_retrieval_scoring/xmlretrievalscoring/AssessmentLayout;" } : Jvm.MethodName)) ∈ tables_1 := List.mem_of_getElem? (i := 54) rfl
theorem w_55 : (Jvm.Cond.code ({ cls := "com/example/xml_retrieval_scoring/xmlretrievalscoring/AssessmentLayout", name := "values", desc := "()[Lcom/example/xml_retrieval_scoring/xmlretrievalscoring/AssessmentLayout;" } : Jvm.MethodName) prog_1_method_1_code (0 : Nat) (Option.some (Jvm.ClassFile.FieldType.array (Jvm.ClassFile.FieldType.object "com/example/xml_retrieval_scoring/xmlretrievalscoring/AssessmentLayout")))) ∈ tables_1 := List.mem_of_getElem? (i := 55) rfl
theorem w_56 : (Jvm.Cond.fieldLink "com/example/xml_retrieval_scoring/xmlretrievalscoring/AssessmentLayout" (10 : Nat) "com/example/xml_retrieval_scoring/xmlretrievalscoring/AssessmentLayout" "$VALUES" "[Lcom/example/xml_retrieval_scoring/xmlretrievalscoring/AssessmentLayout;") ∈ tables_1 := List.mem_of_getElem? (i := 56) rfl
theorem w_58 : (Jvm.Cond.methodLink "com/example/xml_retrieval_scoring/xmlretrievalscoring/AssessmentLayout" (14 : Nat) ({ cls := "[Lcom/example/xml_retrieval_scoring/xmlretrievalscoring/AssessmentLayout;", name := "clone", desc := "()Ljava/lang/Object;" } : Jvm.MethodName)) ∈ tables_1 := List.mem_of_getElem? (i := 58) rfl
theorem w_59 : (Jvm.Cond.sameMethod "[Lcom/example/xml_retrieval_scoring/xmlretrievalscoring/AssessmentLayout;" "java/lang/Object" "clone" "()Ljava/lang/Object;") ∈ tables_1 := List.mem_of_getElem? (i := 59) rfl
theorem w_61 : (Jvm.Cond.instanceMethod ({ cls := "java/lang/Object", name := "clone", desc := "()Ljava/lang/Object;" } : Jvm.MethodName)) ∈ tables_1 := List.mem_of_getElem? (i := 61) rfl
theorem w_62 : (Jvm.Cond.selects "[Lcom/example/xml_retrieval_scoring/xmlretrievalscoring/AssessmentLayout;" ({ cls := "[Lcom/example/xml_retrieval_scoring/xmlretrievalscoring/AssessmentLayout;", name := "clone", desc := "()Ljava/lang/Object;" } : Jvm.MethodName) ({ cls := "java/lang/Object", name := "clone", desc := "()Ljava/lang/Object;" } : Jvm.MethodName)) ∈ tables_1 := List.mem_of_getElem? (i := 62) rfl
theorem w_63 : (Jvm.Cond.native ({ cls := "java/lang/Object", name := "clone", desc := "()Ljava/lang/Object;" } : Jvm.MethodName)) ∈ tables_1 := List.mem_of_getElem? (i := 63) rfl
theorem w_64 : (Jvm.Cond.castable "[Lcom/example/xml_retrieval_scoring/xmlretrievalscoring/AssessmentLayout;" "java/lang/Cloneable") ∈ tables_1 := List.mem_of_getElem? (i := 64) rfl
theorem w_65 : (Jvm.Cond.laysStatic "com/example/xml_retrieval_scoring/xmlretrievalscoring/AssessmentLayout" "INEX_2004" "Lcom/example/xml_retrieval_scoring/xmlretrievalscoring/AssessmentLayout;") ∈ tables_1 := List.mem_of_getElem? (i := 65) rfl
theorem w_66 : (Jvm.Cond.laysStatic "com/example/xml_retrieval_scoring/xmlretrievalscoring/AssessmentLayout" "INEX_2005" "Lcom/example/xml_retrieval_scoring/xmlretrievalscoring/AssessmentLayout;") ∈ tables_1 := List.mem_of_getElem? (i := 66) rfl
theorem w_67 : (Jvm.Cond.initializedFor "com/example/xml_retrieval_scoring/xmlretrievalscoring/AssessmentLayout" "$VALUES" "[Lcom/example/xml_retrieval_scoring/xmlretrievalscoring/AssessmentLayout;") ∈ tables_1 := List.mem_of_getElem? (i := 67) rfl
theorem w_68 : (Jvm.Cond.classLink "com/example/xml_retrieval_scoring/xmlretrievalscoring/AssessmentLayout" (15 : Nat) "[Lcom/example/xml_retrieval_scoring/xmlretrievalscoring/AssessmentLayout;") ∈ tables_1 := List.mem_of_getElem? (i := 68) rfl
theorem w_70 : (Jvm.Cond.fieldLink "com/example/xml_retrieval_scoring/xmlretrievalscoring/AssessmentLayout" (36 : Nat) "com/example/xml_retrieval_scoring/xmlretrievalscoring/AssessmentLayout" "recordElement" "Ljava/lang/String;") ∈ tables_1 := List.mem_of_getElem? (i := 70) rfl
theorem w_72 : (Jvm.Cond.methodLink "com/example/xml_retrieval_scoring/xmlretrievalscoring/AssessmentLayout" (46 : Nat) ({ cls := "java/lang/String", name := "equals", desc := "(Ljava/lang/Object;)Z" } : Jvm.MethodName)) ∈ tables_1 := List.mem_of_getElem? (i := 72) rfl
theorem w_73 : (Jvm.Cond.fieldLink "com/example/xml_retrieval_scoring/xmlretrievalscoring/AssessmentLayoutOfRecordPinLaw" (27 : Nat) "com/example/xml_retrieval_scoring/xmlretrievalscoring/AssessmentLayout" "INEX_2004" "Lcom/example/xml_retrieval_scoring/xmlretrievalscoring/AssessmentLayout;") ∈ tables_1 := List.mem_of_getElem? (i := 73) rfl
theorem w_74 : (Jvm.Cond.stringLink "java/lang/String" (7 : Nat) "") ∈ tables_1 := List.mem_of_getElem? (i := 74) rfl
theorem w_75 : (Jvm.Cond.fieldLink "com/example/xml_retrieval_scoring/xmlretrievalscoring/AssessmentLayoutOfRecordPinLaw" (35 : Nat) "com/example/xml_retrieval_scoring/xmlretrievalscoring/AssessmentLayout" "INEX_2005" "Lcom/example/xml_retrieval_scoring/xmlretrievalscoring/AssessmentLayout;") ∈ tables_1 := List.mem_of_getElem? (i := 75) rfl
theorem w_76 : (Jvm.Cond.constant "com/example/xml_retrieval_scoring/xmlretrievalscoring/AssessmentLayoutOfRecordPinLaw" (14 : Nat) (2147483647 : Int32)) ∈ tables_1 := List.mem_of_getElem? (i := 76) rfl
/-- a char of one byte -/
def Ch8 (c : Int32) : Prop := ¬ c < 0 ∧ ¬ (255 : Int32) < c
theorem ch8_mask (x : Int32) : Ch8 (x &&& 255) := by
  have h : (x &&& 255).toBitVec.toNat < 256 := by
    simp only [Int32.toBitVec_and, BitVec.toNat_and]
    exact Nat.lt_succ_of_le Nat.and_le_right
  have e : (x &&& 255) = Int32.ofNat (x &&& 255).toBitVec.toNat := by
    apply Int32.toBitVec_inj.mp
    show _ = BitVec.ofNat 32 _
    rw [BitVec.ofNat_toNat]; simp
  rw [e]
  exact (by decide +kernel : ∀ k : Fin 256, ¬ Int32.ofNat k.val < 0 ∧ ¬ (255 : Int32) < Int32.ofNat k.val) ⟨_, h⟩
theorem ch8_fin {c : Int32} (h : Ch8 c) : ∃ k : Fin 256, c = Int32.ofNat k.val := by
  obtain ⟨h1, h2⟩ := h
  rw [Int32.lt_iff_toInt_lt] at h1 h2
  have e1 : (0 : Int32).toInt = 0 := (by decide)
  have e2 : (255 : Int32).toInt = 255 := (by decide)
  have e3 : (Int32.ofNat c.toInt.toNat).toInt = (c.toInt.toNat : Int) := Int32.toInt_ofNat_of_lt (by omega)
  refine ⟨⟨c.toInt.toNat, by omega⟩, Int32.toInt_inj.mp ?_⟩
  show c.toInt = (Int32.ofNat c.toInt.toNat).toInt
  rw [e3]
  omega
theorem nar_ch8 {c : Int32} (h : Ch8 c) : nar .char c = c := by
  obtain ⟨k, rfl⟩ := ch8_fin h
  exact (by decide +kernel : ∀ k : Fin 256, nar .char (Int32.ofNat k.val) = Int32.ofNat k.val) k
theorem ch8_i2c (x : Int32) : Ch8 ((x &&& 255).toUInt32.toUInt16.toUInt32.toInt32) := by
  rw [i2c_mask]; exact ch8_mask x
theorem ch8_l2c (x : Int64) : Ch8 ((x &&& 255).toInt32.toUInt32.toUInt16.toUInt32.toInt32) := by
  rw [Int64.toInt32_and]; exact ch8_i2c x.toInt32
theorem own_allc {c : Int32} {cs : List Int32} (h : Ch8 c) (r : ∀ c ∈ cs, ¬ c < 0 ∧ ¬ (255 : Int32) < c) : ∀ x ∈ c :: cs, ¬ x < 0 ∧ ¬ (255 : Int32) < x := fun x hx => (List.mem_cons.mp hx).elim (fun e => e ▸ h) (r x)
theorem own_sA : ∀ a ∈ Bundle.stringAtoms, a ∈ tables_1 := by decide +kernel

theorem ct_newS {l : Launch} {Z : State} {a0 : Array Value} {EL : List (String × Nat)} (hEL : EW Z a0 EL) (hw : ∀ d ∈ tables_1, d.before a0 Z = true) {h : Heap} {x b : Addr} {kC : ClassId} {cs : List Int32} {d v0 c0 : Value} {z : Int32} {n n0 : Nat} (E : Exa Z h x "java/lang/String") (V : Fld Z h x "java/lang/String" "value" "[B" v0) (C : Fld Z h x "java/lang/String" "coder" "B" c0) (K : Arv Z h b kC .char (Int32.ofNat n) (cs.map Value.int) d) (S : Sta Z h "java/lang/String" "COMPACT_STRINGS" "Z" (.int z)) (hz : ¬ z = 0) (hn : cs.length = n) (l0 : 0 < n) (l2 : n ≤ 4000) (hp : ∀ c ∈ cs, ¬ c < 0 ∧ ¬ (255 : Int32) < c) :
    Ct l Z EL (⟨"java/lang/String", "<init>", "([C)V"⟩ : MethodName) 2 ({ frames := 3, cells := 1, slots := n, locals := 52 } : Room) [x] #[.ref x, .ref b] h n0 (nq fun v h' => v = none ∧ Keep h h' [x] ∧ ∃ t kb, h.size ≤ t ∧ t ≠ x ∧ Str Z h' x t kb cs) := by
  have hws : ∀ d ∈ StrChars.Road.words, d.before a0 Z = true := fun d hd => hw d ((by decide +kernel : ∀ d ∈ StrChars.Road.words, d ∈ tables_1) d hd)
  refine ct_back hEL (fun v h' q => q.2.1) ?_
  intro R p e below s args len W hZ hn0 hfs hf hl
  refine Back.mono (StrChars.Road.backV hZ hws (hw _ w_7) (hfs _ (List.mem_cons_self ..)) hn0 E V C K S hz hn rfl l0 l2 hp rfl hf (by simp only [] at hl; omega)) (fun P a q => q) (fun P a v B hp' hq => ?_)
  obtain ⟨L, ⟨q1, q2, q3, q4, q5, t, kb, r1, r2, r3, r4, r5⟩, hl', hc', hs'⟩ := hq
  exact ⟨L, ⟨⟨q1, q3, t, kb, r2, r3, q4, q5, r4, by rw [hn]; exact r5, by rw [hn]; exact l2, hp⟩, q2⟩, hl', hc', hs'⟩
theorem own_cod {cs : List Int32} (hp : ∀ c ∈ cs, ¬ c < 0 ∧ ¬ (255 : Int32) < c) : StrChars.Road.CodA cs 0 (Int32.ofNat cs.length) ((cs.map fun c => c.toInt8.toInt32).map Value.int) := Or.inl ⟨rfl, rfl, by rw [List.map_map]; rfl, fun c hc => (hp c hc).2⟩
theorem own_up {cs : List Int32} (hp : ∀ c ∈ cs, ¬ c < 0 ∧ ¬ (255 : Int32) < c) : ∀ c ∈ cs, ¬ c < 0 ∧ ¬ (65535 : Int32) < c := fun c hc => ⟨(hp c hc).1, fun q => (hp c hc).2 (by
  rw [Int32.lt_iff_toInt_lt] at q ⊢
  have e1 : (255 : Int32).toInt = 255 := by decide
  have e2 : (65535 : Int32).toInt = 65535 := by decide
  omega)⟩
theorem ct_eq {l : Launch} {Z : State} {a0 : Array Value} {EL : List (String × Nat)} (hEL : EW Z a0 EL) (hw : ∀ d ∈ tables_1, d.before a0 Z = true) {h : Heap} {z : Int32} {n0 : Nat} {x t y t' : Addr} {kb kb' : ClassId} {cs ds : List Int32} (S : Str Z h x t kb cs) (S' : Str Z h y t' kb' ds) (Sz : Sta Z h "java/lang/String" "COMPACT_STRINGS" "Z" (.int z)) (hz : ¬ z = 0) :
    Ct l Z EL (⟨"java/lang/String", "equals", "(Ljava/lang/Object;)Z"⟩ : MethodName) 3 ({ frames := 1, cells := 0, slots := 0, locals := 14 } : Room) [] #[.ref x, .ref y] h n0 (nq fun v h' => v = some (.int (if cs = ds then 1 else 0)) ∧ h' = h) := by
  have hws : ∀ d ∈ StrChars.Road.wordsEq, d.before a0 Z = true := fun d hd => hw d ((by decide +kernel : ∀ d ∈ StrChars.Road.wordsEq, d ∈ tables_1) d hd)
  refine ct_back hEL (fun v h' q => (by rw [q.2]; exact Keep.refl _ _)) ?_
  intro R p e below s args len W hZ hn0 hfs hf hl
  refine Back.mono (StrChars.Road.eqW hZ hws (hw _ w_7) S.1 S.2.2.1 S.2.1 S.2.2.2.1 (own_cod S.2.2.2.2.2) (own_up S.2.2.2.2.2) S.2.2.2.2.1 S'.1 S'.2.2.1 S'.2.1 S'.2.2.2.1 (own_cod S'.2.2.2.2.2) (own_up S'.2.2.2.2.2) S'.2.2.2.2.1 Sz hz hf (by simp only [] at hl; omega)) (fun P a q => q) (fun P a v B hp' hq => ?_)
  obtain ⟨L, ⟨q1, rfl, q3⟩, hl', hc', hs'⟩ := hq
  refine ⟨[], ⟨⟨?_, q3⟩, Fr.nil _⟩, hl', hc', hs'⟩
  rcases q1 with ⟨r, e⟩ | ⟨r, e⟩
  · rw [r, if_pos e]
  · rw [r, if_neg e]

theorem d_jdk_42_method_149_code_0 : decode jdk_42_method_149_code 0 = .ok (.aload_n 0, 1) := by decide +kernel
theorem d_jdk_42_method_149_code_1 : decode jdk_42_method_149_code 1 = .ok (.invokespecial 1, 3) := by decide +kernel
theorem d_jdk_42_method_149_code_4 : decode jdk_42_method_149_code 4 = .ok (.iload_n 3, 1) := by decide +kernel
theorem d_jdk_42_method_149_code_5 : decode jdk_42_method_149_code 5 = .ok (.ifCond .ne 22, 3) := by decide +kernel
theorem d_jdk_42_method_149_code_8 : decode jdk_42_method_149_code 8 = .ok (.aload_n 0, 1) := by decide +kernel
theorem d_jdk_42_method_149_code_9 : decode jdk_42_method_149_code 9 = .ok (.ldc 7, 2) := by decide +kernel
theorem d_jdk_42_method_149_code_11 : decode jdk_42_method_149_code 11 = .ok (.getfield 9, 3) := by decide +kernel
theorem d_jdk_42_method_149_code_14 : decode jdk_42_method_149_code 14 = .ok (.putfield 9, 3) := by decide +kernel
theorem d_jdk_42_method_149_code_17 : decode jdk_42_method_149_code 17 = .ok (.aload_n 0, 1) := by decide +kernel
theorem d_jdk_42_method_149_code_18 : decode jdk_42_method_149_code 18 = .ok (.ldc 7, 2) := by decide +kernel
theorem d_jdk_42_method_149_code_20 : decode jdk_42_method_149_code 20 = .ok (.getfield 15, 3) := by decide +kernel
theorem d_jdk_42_method_149_code_23 : decode jdk_42_method_149_code 23 = .ok (.putfield 15, 3) := by decide +kernel
theorem d_jdk_42_method_149_code_26 : decode jdk_42_method_149_code 26 = .ok (.return_, 1) := by decide +kernel
theorem pn_java_lang_String : plainName "java/lang/String" = true := by first | (simp [plainName, overriddenIn]; done) | decide +kernel
set_option maxRecDepth 65536 in
set_option maxHeartbeats 40000000 in
theorem rm_S4e (l : Launch) (Z : State) (a0 : Array Value) (hw : ∀ d ∈ tables_1, d.before a0 Z = true) (hEL : EW Z a0 consts_1) {ws : List Jvm.Cond} (x b : Addr) (h0 : Heap) (n0 : Nat) (E1 : Exa Z h0 x "java/lang/String") (F1 : Fld Z h0 x "java/lang/String" "value" "[B" .null) (F2 : Fld Z h0 x "java/lang/String" "coder" "B" (.int 0)) :
    Met l Z consts_1 (⟨"java/lang/String", "<init>", "([CIILjava/lang/Void;)V"⟩ : MethodName) jdk_42_method_149_code 6 none ws ({ frames := 1, cells := 4, slots := 8, locals := 14 } : Room) [x] #[(.ref x), (.ref b), (.int (0 : Int32)), (.int (0 : Int32)), .null] h0 n0 (nq (fun v h => v = none ∧ Keep h0 h [x] ∧ ∃ t kb, t ≠ x ∧ Str Z h x t kb [])) := by
  refine met_of (plainFor_of_name pn_java_lang_String) hw #[.val (.ref x), .val (.ref b), .val (.int (0 : Int32)), .val (.int (0 : Int32)), .val .null, .unset] (fun m => by first | rfl | (simp [entryFrame, mkF, argsToLocals, Value.category]; done)) ?_
  intro p e s m below meth c C0
  have C : Cx Z a0 tables_1 p s m meth c "java/lang/String" "<init>" jdk_42_method_149_code 6 none n0 := C0
  refine g_aloadN C d_jdk_42_method_149_code_0 rfl rfl ?_
  refine g_initO C w_16 w_17 w_18 rfl d_jdk_42_method_149_code_1 (by decide) 0 (Nat.le_of_eq rfl) (by decide) ?_
  refine g_iloadN C d_jdk_42_method_149_code_4 rfl ?_
  refine g_if_f C d_jdk_42_method_149_code_5 (XT.i0_ne_f (by decide)) ?_
  refine g_aloadN C d_jdk_42_method_149_code_8 rfl rfl ?_
  refine g_ldcS C hEL w_74 own_sA (List.mem_of_getElem? (i := 2) rfl) [] ⟨by decide +kernel, by decide +kernel⟩ (by decide) (by decide) d_jdk_42_method_149_code_9 0 (by decide +kernel) (by decide) (by decide) (by decide) ?_
  intro a101 t101 kb101 h101 E101 S101 X101
  refine g_getfield C w_33 Via.refl S101.2.2.1 d_jdk_42_method_149_code_11 ?_
  have K102 : Keep h0 h101 [] := (Keep.refl h0 []).ext E101
  have F103 := (F1.keep K102 nin0)
  have E104 := (E1.keep K102)
  refine g_putfield C (.array .byte) w_33 Via.refl F103 E104 (Or.inr ⟨w_34, rfl, rfl⟩) w_7 (by decide) rfl rfl (List.mem_of_getElem? (i := 0) rfl) d_jdk_42_method_149_code_14 ?_
  intro h105 W105 F105
  refine g_aloadN C d_jdk_42_method_149_code_17 rfl rfl ?_
  refine g_ldcS C hEL w_74 own_sA (List.mem_of_getElem? (i := 2) rfl) [] ⟨by decide +kernel, by decide +kernel⟩ (by decide) (by decide) d_jdk_42_method_149_code_18 0 (by decide +kernel) (by decide) (by decide) (by decide) ?_
  intro a106 t106 kb106 h106 E106 S106 X106
  refine g_getfield C w_31 Via.refl S106.2.1 d_jdk_42_method_149_code_20 ?_
  have F107 := (((F2.ext E101).other W105 (Or.inr (slot_ne (Or.inr (C.hw w_32)) (Or.inr (C.hw w_34)) (by decide) (t := .byte) (t' := (.array .byte)) (by decide) (by decide)))).ext E106)
  have E108 := ((E104.wr W105).ext E106)
  refine g_putfieldZ C .byte (.int (0 : Int32)) w_31 Via.refl F107 E108 (Or.inr ⟨w_32, rfl, rfl⟩) w_7 (by decide) rfl (by decide) (List.mem_of_getElem? (i := 0) rfl) d_jdk_42_method_149_code_23 ?_
  intro h109 W109 F109
  refine g_return C hEL rfl d_jdk_42_method_149_code_26 (by decide) (by decide) ?_
  have E110 := (E108.wr W109)
  have K111 : Keep h105 h106 [] := (Keep.refl h105 []).ext E106
  have F112 := ((F105.ext E106).other W109 (Or.inr (slot_ne (Or.inr (C.hw w_34)) (Or.inr (C.hw w_32)) (by decide) (t := (.array .byte)) (t' := .byte) (by decide) (by decide))))
  have V113 := (((S101.2.2.2.1.other W105 (Ne.symm (X101 _ (List.mem_of_getElem? (i := 0) rfl)).2)).ext E106).other W109 (Ne.symm (X101 _ (List.mem_of_getElem? (i := 0) rfl)).2))
  exact ⟨rfl, (((((Keep.refl _ _).ext E101).wr W105 (Or.inl (List.mem_cons_self ..))).ext E106).wr W109 (Or.inl (List.mem_cons_self ..))), t101, _, (Ne.symm (X101 _ (List.mem_of_getElem? (i := 0) rfl)).2), E110, F109, F112, V113, by decide, fun _ q => nomatch q⟩
theorem d_jdk_42_method_3_code_0 : decode jdk_42_method_3_code 0 = .ok (.aload_n 0, 1) := by decide +kernel
theorem d_jdk_42_method_3_code_1 : decode jdk_42_method_3_code 1 = .ok (.aload_n 1, 1) := by decide +kernel
theorem d_jdk_42_method_3_code_2 : decode jdk_42_method_3_code 2 = .ok (.iconst 0, 1) := by decide +kernel
theorem d_jdk_42_method_3_code_3 : decode jdk_42_method_3_code 3 = .ok (.aload_n 1, 1) := by decide +kernel
theorem d_jdk_42_method_3_code_4 : decode jdk_42_method_3_code 4 = .ok (.arraylength, 1) := by decide +kernel
theorem d_jdk_42_method_3_code_5 : decode jdk_42_method_3_code 5 = .ok (.aconst_null, 1) := by decide +kernel
theorem d_jdk_42_method_3_code_6 : decode jdk_42_method_3_code 6 = .ok (.invokespecial 27, 3) := by decide +kernel
theorem d_jdk_42_method_3_code_9 : decode jdk_42_method_3_code 9 = .ok (.return_, 1) := by decide +kernel
theorem pd___CIILjava_lang_Void__V : parseMethodDescriptor "([CIILjava/lang/Void;)V" = some ⟨[(.array .char), .int, .int, (.object "java/lang/Void")], none⟩ := by decide +kernel
set_option maxRecDepth 65536 in
set_option maxHeartbeats 40000000 in
theorem rm_S1e (l : Launch) (Z : State) (a0 : Array Value) (hw : ∀ d ∈ tables_1, d.before a0 Z = true) (hEL : EW Z a0 consts_1) {ws : List Jvm.Cond} (x b : Addr) (kc : ClassId) (h0 : Heap) (n0 : Nat) (E1 : Exa Z h0 x "java/lang/String") (F1 : Fld Z h0 x "java/lang/String" "value" "[B" .null) (F2 : Fld Z h0 x "java/lang/String" "coder" "B" (.int 0)) (Vb : Arv Z h0 b kc .char (0 : Int32) [] (.int 0)) :
    Met l Z consts_1 (⟨"java/lang/String", "<init>", "([C)V"⟩ : MethodName) jdk_42_method_3_code 2 none ws ({ frames := 2, cells := 4, slots := 8, locals := 31 } : Room) [x] #[(.ref x), (.ref b)] h0 n0 (nq (fun v h => v = none ∧ Keep h0 h [x] ∧ ∃ t kb, t ≠ x ∧ Str Z h x t kb [])) := by
  refine met_of (plainFor_of_name pn_java_lang_String) hw #[.val (.ref x), .val (.ref b)] (fun m => by first | rfl | (simp [entryFrame, mkF, argsToLocals, Value.category]; done)) ?_
  intro p e s m below meth c C0
  have C : Cx Z a0 tables_1 p s m meth c "java/lang/String" "<init>" jdk_42_method_3_code 2 none n0 := C0
  refine g_aloadN C d_jdk_42_method_3_code_0 rfl rfl ?_
  refine g_aloadN C d_jdk_42_method_3_code_1 rfl rfl ?_
  refine g_iconst C 0 d_jdk_42_method_3_code_2 rfl ?_
  refine g_aloadN C d_jdk_42_method_3_code_3 rfl rfl ?_
  refine g_arraylength C Vb d_jdk_42_method_3_code_4 ?_
  refine g_aconst_null C d_jdk_42_method_3_code_5 ?_
  refine g_special C (a := x) w_12 w_13 w_15 rfl (by decide) [(.ref b), (.int (0 : Int32)), (.int (0 : Int32)), .null] (ct_of hEL hw w_15 w_8 (rm_S4e l Z a0 hw hEL x b h0 n0 E1 F1 F2)) (allS (List.mem_of_getElem? (i := 0) rfl) all0) (by decide) 0 (by decide) rfl pd___CIILjava_lang_Void__V rfl [] rfl (Nat.le_of_eq rfl) d_jdk_42_method_3_code_6 (by decide) (by decide) ?_
  intro v114 h114 Q114
  obtain ⟨rfl, KC114, t114, kb114, tx114, S114⟩ := Q114
  refine g_return C hEL rfl d_jdk_42_method_3_code_9 (by decide) (by decide) ?_
  exact ⟨rfl, KC114, _, _, tx114, S114⟩
def mk7 (len : Int32) (c0 c1 c2 c3 c4 c5 c6 : Int32) : List Int32 := if len = 0 then [] else if len = 1 then [c0] else if len = 2 then [c0, c1] else if len = 3 then [c0, c1, c2] else if len = 4 then [c0, c1, c2, c3] else if len = 5 then [c0, c1, c2, c3, c4] else if len = 6 then [c0, c1, c2, c3, c4, c5] else [c0, c1, c2, c3, c4, c5, c6]

theorem d_method_2_code_0 : decode method_2_code 0 = .ok (.iload_n 1, 1) := by decide +kernel
theorem d_method_2_code_1 : decode method_2_code 1 = .ok (.ifCond .ne 14, 3) := by decide +kernel
theorem d_method_2_code_4 : decode method_2_code 4 = .ok (.new 7, 3) := by decide +kernel
theorem d_method_2_code_7 : decode method_2_code 7 = .ok (.dup, 1) := by decide +kernel
theorem d_method_2_code_8 : decode method_2_code 8 = .ok (.iconst 0, 1) := by decide +kernel
theorem d_method_2_code_9 : decode method_2_code 9 = .ok (.newarray .char, 2) := by decide +kernel
theorem d_method_2_code_11 : decode method_2_code 11 = .ok (.invokespecial 9, 3) := by decide +kernel
theorem d_method_2_code_14 : decode method_2_code 14 = .ok (.areturn, 1) := by decide +kernel
theorem d_method_2_code_15 : decode method_2_code 15 = .ok (.iload_n 1, 1) := by decide +kernel
theorem d_method_2_code_16 : decode method_2_code 16 = .ok (.iconst 1, 1) := by decide +kernel
theorem d_method_2_code_17 : decode method_2_code 17 = .ok (.if_icmp .ne 20, 3) := by decide +kernel
theorem d_method_2_code_20 : decode method_2_code 20 = .ok (.new 7, 3) := by decide +kernel
theorem d_method_2_code_23 : decode method_2_code 23 = .ok (.dup, 1) := by decide +kernel
theorem d_method_2_code_24 : decode method_2_code 24 = .ok (.iconst 1, 1) := by decide +kernel
theorem d_method_2_code_25 : decode method_2_code 25 = .ok (.newarray .char, 2) := by decide +kernel
theorem d_method_2_code_27 : decode method_2_code 27 = .ok (.dup, 1) := by decide +kernel
theorem d_method_2_code_28 : decode method_2_code 28 = .ok (.iconst 0, 1) := by decide +kernel
theorem d_method_2_code_29 : decode method_2_code 29 = .ok (.aload_n 0, 1) := by decide +kernel
theorem d_method_2_code_30 : decode method_2_code 30 = .ok (.iconst 0, 1) := by decide +kernel
theorem d_method_2_code_31 : decode method_2_code 31 = .ok (.caload, 1) := by decide +kernel
theorem d_method_2_code_32 : decode method_2_code 32 = .ok (.castore, 1) := by decide +kernel
theorem d_method_2_code_33 : decode method_2_code 33 = .ok (.invokespecial 9, 3) := by decide +kernel
theorem d_method_2_code_36 : decode method_2_code 36 = .ok (.areturn, 1) := by decide +kernel
theorem d_method_2_code_37 : decode method_2_code 37 = .ok (.iload_n 1, 1) := by decide +kernel
theorem d_method_2_code_38 : decode method_2_code 38 = .ok (.iconst 2, 1) := by decide +kernel
theorem d_method_2_code_39 : decode method_2_code 39 = .ok (.if_icmp .ne 26, 3) := by decide +kernel
theorem d_method_2_code_42 : decode method_2_code 42 = .ok (.new 7, 3) := by decide +kernel
theorem d_method_2_code_45 : decode method_2_code 45 = .ok (.dup, 1) := by decide +kernel
theorem d_method_2_code_46 : decode method_2_code 46 = .ok (.iconst 2, 1) := by decide +kernel
theorem d_method_2_code_47 : decode method_2_code 47 = .ok (.newarray .char, 2) := by decide +kernel
theorem d_method_2_code_49 : decode method_2_code 49 = .ok (.dup, 1) := by decide +kernel
theorem d_method_2_code_50 : decode method_2_code 50 = .ok (.iconst 0, 1) := by decide +kernel
theorem d_method_2_code_51 : decode method_2_code 51 = .ok (.aload_n 0, 1) := by decide +kernel
theorem d_method_2_code_52 : decode method_2_code 52 = .ok (.iconst 0, 1) := by decide +kernel
theorem d_method_2_code_53 : decode method_2_code 53 = .ok (.caload, 1) := by decide +kernel
theorem d_method_2_code_54 : decode method_2_code 54 = .ok (.castore, 1) := by decide +kernel
theorem d_method_2_code_55 : decode method_2_code 55 = .ok (.dup, 1) := by decide +kernel
theorem d_method_2_code_56 : decode method_2_code 56 = .ok (.iconst 1, 1) := by decide +kernel
theorem d_method_2_code_57 : decode method_2_code 57 = .ok (.aload_n 0, 1) := by decide +kernel
theorem d_method_2_code_58 : decode method_2_code 58 = .ok (.iconst 1, 1) := by decide +kernel
theorem d_method_2_code_59 : decode method_2_code 59 = .ok (.caload, 1) := by decide +kernel
theorem d_method_2_code_60 : decode method_2_code 60 = .ok (.castore, 1) := by decide +kernel
theorem d_method_2_code_61 : decode method_2_code 61 = .ok (.invokespecial 9, 3) := by decide +kernel
theorem d_method_2_code_64 : decode method_2_code 64 = .ok (.areturn, 1) := by decide +kernel
theorem d_method_2_code_65 : decode method_2_code 65 = .ok (.iload_n 1, 1) := by decide +kernel
theorem d_method_2_code_66 : decode method_2_code 66 = .ok (.iconst 3, 1) := by decide +kernel
theorem d_method_2_code_67 : decode method_2_code 67 = .ok (.if_icmp .ne 32, 3) := by decide +kernel
theorem d_method_2_code_70 : decode method_2_code 70 = .ok (.new 7, 3) := by decide +kernel
theorem d_method_2_code_73 : decode method_2_code 73 = .ok (.dup, 1) := by decide +kernel
theorem d_method_2_code_74 : decode method_2_code 74 = .ok (.iconst 3, 1) := by decide +kernel
theorem d_method_2_code_75 : decode method_2_code 75 = .ok (.newarray .char, 2) := by decide +kernel
theorem d_method_2_code_77 : decode method_2_code 77 = .ok (.dup, 1) := by decide +kernel
theorem d_method_2_code_78 : decode method_2_code 78 = .ok (.iconst 0, 1) := by decide +kernel
theorem d_method_2_code_79 : decode method_2_code 79 = .ok (.aload_n 0, 1) := by decide +kernel
theorem d_method_2_code_80 : decode method_2_code 80 = .ok (.iconst 0, 1) := by decide +kernel
theorem d_method_2_code_81 : decode method_2_code 81 = .ok (.caload, 1) := by decide +kernel
theorem d_method_2_code_82 : decode method_2_code 82 = .ok (.castore, 1) := by decide +kernel
theorem d_method_2_code_83 : decode method_2_code 83 = .ok (.dup, 1) := by decide +kernel
theorem d_method_2_code_84 : decode method_2_code 84 = .ok (.iconst 1, 1) := by decide +kernel
theorem d_method_2_code_85 : decode method_2_code 85 = .ok (.aload_n 0, 1) := by decide +kernel
theorem d_method_2_code_86 : decode method_2_code 86 = .ok (.iconst 1, 1) := by decide +kernel
theorem d_method_2_code_87 : decode method_2_code 87 = .ok (.caload, 1) := by decide +kernel
theorem d_method_2_code_88 : decode method_2_code 88 = .ok (.castore, 1) := by decide +kernel
theorem d_method_2_code_89 : decode method_2_code 89 = .ok (.dup, 1) := by decide +kernel
theorem d_method_2_code_90 : decode method_2_code 90 = .ok (.iconst 2, 1) := by decide +kernel
theorem d_method_2_code_91 : decode method_2_code 91 = .ok (.aload_n 0, 1) := by decide +kernel
theorem d_method_2_code_92 : decode method_2_code 92 = .ok (.iconst 2, 1) := by decide +kernel
theorem d_method_2_code_93 : decode method_2_code 93 = .ok (.caload, 1) := by decide +kernel
theorem d_method_2_code_94 : decode method_2_code 94 = .ok (.castore, 1) := by decide +kernel
theorem d_method_2_code_95 : decode method_2_code 95 = .ok (.invokespecial 9, 3) := by decide +kernel
theorem d_method_2_code_98 : decode method_2_code 98 = .ok (.areturn, 1) := by decide +kernel
theorem d_method_2_code_99 : decode method_2_code 99 = .ok (.iload_n 1, 1) := by decide +kernel
theorem d_method_2_code_100 : decode method_2_code 100 = .ok (.iconst 4, 1) := by decide +kernel
theorem d_method_2_code_101 : decode method_2_code 101 = .ok (.if_icmp .ne 38, 3) := by decide +kernel
theorem d_method_2_code_104 : decode method_2_code 104 = .ok (.new 7, 3) := by decide +kernel
theorem d_method_2_code_107 : decode method_2_code 107 = .ok (.dup, 1) := by decide +kernel
theorem d_method_2_code_108 : decode method_2_code 108 = .ok (.iconst 4, 1) := by decide +kernel
theorem d_method_2_code_109 : decode method_2_code 109 = .ok (.newarray .char, 2) := by decide +kernel
theorem d_method_2_code_111 : decode method_2_code 111 = .ok (.dup, 1) := by decide +kernel
theorem d_method_2_code_112 : decode method_2_code 112 = .ok (.iconst 0, 1) := by decide +kernel
theorem d_method_2_code_113 : decode method_2_code 113 = .ok (.aload_n 0, 1) := by decide +kernel
theorem d_method_2_code_114 : decode method_2_code 114 = .ok (.iconst 0, 1) := by decide +kernel
theorem d_method_2_code_115 : decode method_2_code 115 = .ok (.caload, 1) := by decide +kernel
theorem d_method_2_code_116 : decode method_2_code 116 = .ok (.castore, 1) := by decide +kernel
theorem d_method_2_code_117 : decode method_2_code 117 = .ok (.dup, 1) := by decide +kernel
theorem d_method_2_code_118 : decode method_2_code 118 = .ok (.iconst 1, 1) := by decide +kernel
theorem d_method_2_code_119 : decode method_2_code 119 = .ok (.aload_n 0, 1) := by decide +kernel
theorem d_method_2_code_120 : decode method_2_code 120 = .ok (.iconst 1, 1) := by decide +kernel
theorem d_method_2_code_121 : decode method_2_code 121 = .ok (.caload, 1) := by decide +kernel
theorem d_method_2_code_122 : decode method_2_code 122 = .ok (.castore, 1) := by decide +kernel
theorem d_method_2_code_123 : decode method_2_code 123 = .ok (.dup, 1) := by decide +kernel
theorem d_method_2_code_124 : decode method_2_code 124 = .ok (.iconst 2, 1) := by decide +kernel
theorem d_method_2_code_125 : decode method_2_code 125 = .ok (.aload_n 0, 1) := by decide +kernel
theorem d_method_2_code_126 : decode method_2_code 126 = .ok (.iconst 2, 1) := by decide +kernel
theorem d_method_2_code_127 : decode method_2_code 127 = .ok (.caload, 1) := by decide +kernel
theorem d_method_2_code_128 : decode method_2_code 128 = .ok (.castore, 1) := by decide +kernel
theorem d_method_2_code_129 : decode method_2_code 129 = .ok (.dup, 1) := by decide +kernel
theorem d_method_2_code_130 : decode method_2_code 130 = .ok (.iconst 3, 1) := by decide +kernel
theorem d_method_2_code_131 : decode method_2_code 131 = .ok (.aload_n 0, 1) := by decide +kernel
theorem d_method_2_code_132 : decode method_2_code 132 = .ok (.iconst 3, 1) := by decide +kernel
theorem d_method_2_code_133 : decode method_2_code 133 = .ok (.caload, 1) := by decide +kernel
theorem d_method_2_code_134 : decode method_2_code 134 = .ok (.castore, 1) := by decide +kernel
theorem d_method_2_code_135 : decode method_2_code 135 = .ok (.invokespecial 9, 3) := by decide +kernel
theorem d_method_2_code_138 : decode method_2_code 138 = .ok (.areturn, 1) := by decide +kernel
theorem d_method_2_code_139 : decode method_2_code 139 = .ok (.iload_n 1, 1) := by decide +kernel
theorem d_method_2_code_140 : decode method_2_code 140 = .ok (.iconst 5, 1) := by decide +kernel
theorem d_method_2_code_141 : decode method_2_code 141 = .ok (.if_icmp .ne 44, 3) := by decide +kernel
theorem d_method_2_code_144 : decode method_2_code 144 = .ok (.new 7, 3) := by decide +kernel
theorem d_method_2_code_147 : decode method_2_code 147 = .ok (.dup, 1) := by decide +kernel
theorem d_method_2_code_148 : decode method_2_code 148 = .ok (.iconst 5, 1) := by decide +kernel
theorem d_method_2_code_149 : decode method_2_code 149 = .ok (.newarray .char, 2) := by decide +kernel
theorem d_method_2_code_151 : decode method_2_code 151 = .ok (.dup, 1) := by decide +kernel
theorem d_method_2_code_152 : decode method_2_code 152 = .ok (.iconst 0, 1) := by decide +kernel
theorem d_method_2_code_153 : decode method_2_code 153 = .ok (.aload_n 0, 1) := by decide +kernel
theorem d_method_2_code_154 : decode method_2_code 154 = .ok (.iconst 0, 1) := by decide +kernel
theorem d_method_2_code_155 : decode method_2_code 155 = .ok (.caload, 1) := by decide +kernel
theorem d_method_2_code_156 : decode method_2_code 156 = .ok (.castore, 1) := by decide +kernel
theorem d_method_2_code_157 : decode method_2_code 157 = .ok (.dup, 1) := by decide +kernel
theorem d_method_2_code_158 : decode method_2_code 158 = .ok (.iconst 1, 1) := by decide +kernel
theorem d_method_2_code_159 : decode method_2_code 159 = .ok (.aload_n 0, 1) := by decide +kernel
theorem d_method_2_code_160 : decode method_2_code 160 = .ok (.iconst 1, 1) := by decide +kernel
theorem d_method_2_code_161 : decode method_2_code 161 = .ok (.caload, 1) := by decide +kernel
theorem d_method_2_code_162 : decode method_2_code 162 = .ok (.castore, 1) := by decide +kernel
theorem d_method_2_code_163 : decode method_2_code 163 = .ok (.dup, 1) := by decide +kernel
theorem d_method_2_code_164 : decode method_2_code 164 = .ok (.iconst 2, 1) := by decide +kernel
theorem d_method_2_code_165 : decode method_2_code 165 = .ok (.aload_n 0, 1) := by decide +kernel
theorem d_method_2_code_166 : decode method_2_code 166 = .ok (.iconst 2, 1) := by decide +kernel
theorem d_method_2_code_167 : decode method_2_code 167 = .ok (.caload, 1) := by decide +kernel
theorem d_method_2_code_168 : decode method_2_code 168 = .ok (.castore, 1) := by decide +kernel
theorem d_method_2_code_169 : decode method_2_code 169 = .ok (.dup, 1) := by decide +kernel
theorem d_method_2_code_170 : decode method_2_code 170 = .ok (.iconst 3, 1) := by decide +kernel
theorem d_method_2_code_171 : decode method_2_code 171 = .ok (.aload_n 0, 1) := by decide +kernel
theorem d_method_2_code_172 : decode method_2_code 172 = .ok (.iconst 3, 1) := by decide +kernel
theorem d_method_2_code_173 : decode method_2_code 173 = .ok (.caload, 1) := by decide +kernel
theorem d_method_2_code_174 : decode method_2_code 174 = .ok (.castore, 1) := by decide +kernel
theorem d_method_2_code_175 : decode method_2_code 175 = .ok (.dup, 1) := by decide +kernel
theorem d_method_2_code_176 : decode method_2_code 176 = .ok (.iconst 4, 1) := by decide +kernel
theorem d_method_2_code_177 : decode method_2_code 177 = .ok (.aload_n 0, 1) := by decide +kernel
theorem d_method_2_code_178 : decode method_2_code 178 = .ok (.iconst 4, 1) := by decide +kernel
theorem d_method_2_code_179 : decode method_2_code 179 = .ok (.caload, 1) := by decide +kernel
theorem d_method_2_code_180 : decode method_2_code 180 = .ok (.castore, 1) := by decide +kernel
theorem d_method_2_code_181 : decode method_2_code 181 = .ok (.invokespecial 9, 3) := by decide +kernel
theorem d_method_2_code_184 : decode method_2_code 184 = .ok (.areturn, 1) := by decide +kernel
theorem d_method_2_code_185 : decode method_2_code 185 = .ok (.iload_n 1, 1) := by decide +kernel
theorem d_method_2_code_186 : decode method_2_code 186 = .ok (.bipush 6, 2) := by decide +kernel
theorem d_method_2_code_188 : decode method_2_code 188 = .ok (.if_icmp .ne 51, 3) := by decide +kernel
theorem d_method_2_code_191 : decode method_2_code 191 = .ok (.new 7, 3) := by decide +kernel
theorem d_method_2_code_194 : decode method_2_code 194 = .ok (.dup, 1) := by decide +kernel
theorem d_method_2_code_195 : decode method_2_code 195 = .ok (.bipush 6, 2) := by decide +kernel
theorem d_method_2_code_197 : decode method_2_code 197 = .ok (.newarray .char, 2) := by decide +kernel
theorem d_method_2_code_199 : decode method_2_code 199 = .ok (.dup, 1) := by decide +kernel
theorem d_method_2_code_200 : decode method_2_code 200 = .ok (.iconst 0, 1) := by decide +kernel
theorem d_method_2_code_201 : decode method_2_code 201 = .ok (.aload_n 0, 1) := by decide +kernel
theorem d_method_2_code_202 : decode method_2_code 202 = .ok (.iconst 0, 1) := by decide +kernel
theorem d_method_2_code_203 : decode method_2_code 203 = .ok (.caload, 1) := by decide +kernel
theorem d_method_2_code_204 : decode method_2_code 204 = .ok (.castore, 1) := by decide +kernel
theorem d_method_2_code_205 : decode method_2_code 205 = .ok (.dup, 1) := by decide +kernel
theorem d_method_2_code_206 : decode method_2_code 206 = .ok (.iconst 1, 1) := by decide +kernel
theorem d_method_2_code_207 : decode method_2_code 207 = .ok (.aload_n 0, 1) := by decide +kernel
theorem d_method_2_code_208 : decode method_2_code 208 = .ok (.iconst 1, 1) := by decide +kernel
theorem d_method_2_code_209 : decode method_2_code 209 = .ok (.caload, 1) := by decide +kernel
theorem d_method_2_code_210 : decode method_2_code 210 = .ok (.castore, 1) := by decide +kernel
theorem d_method_2_code_211 : decode method_2_code 211 = .ok (.dup, 1) := by decide +kernel
theorem d_method_2_code_212 : decode method_2_code 212 = .ok (.iconst 2, 1) := by decide +kernel
theorem d_method_2_code_213 : decode method_2_code 213 = .ok (.aload_n 0, 1) := by decide +kernel
theorem d_method_2_code_214 : decode method_2_code 214 = .ok (.iconst 2, 1) := by decide +kernel
theorem d_method_2_code_215 : decode method_2_code 215 = .ok (.caload, 1) := by decide +kernel
theorem d_method_2_code_216 : decode method_2_code 216 = .ok (.castore, 1) := by decide +kernel
theorem d_method_2_code_217 : decode method_2_code 217 = .ok (.dup, 1) := by decide +kernel
theorem d_method_2_code_218 : decode method_2_code 218 = .ok (.iconst 3, 1) := by decide +kernel
theorem d_method_2_code_219 : decode method_2_code 219 = .ok (.aload_n 0, 1) := by decide +kernel
theorem d_method_2_code_220 : decode method_2_code 220 = .ok (.iconst 3, 1) := by decide +kernel
theorem d_method_2_code_221 : decode method_2_code 221 = .ok (.caload, 1) := by decide +kernel
theorem d_method_2_code_222 : decode method_2_code 222 = .ok (.castore, 1) := by decide +kernel
theorem d_method_2_code_223 : decode method_2_code 223 = .ok (.dup, 1) := by decide +kernel
theorem d_method_2_code_224 : decode method_2_code 224 = .ok (.iconst 4, 1) := by decide +kernel
theorem d_method_2_code_225 : decode method_2_code 225 = .ok (.aload_n 0, 1) := by decide +kernel
theorem d_method_2_code_226 : decode method_2_code 226 = .ok (.iconst 4, 1) := by decide +kernel
theorem d_method_2_code_227 : decode method_2_code 227 = .ok (.caload, 1) := by decide +kernel
theorem d_method_2_code_228 : decode method_2_code 228 = .ok (.castore, 1) := by decide +kernel
theorem d_method_2_code_229 : decode method_2_code 229 = .ok (.dup, 1) := by decide +kernel
theorem d_method_2_code_230 : decode method_2_code 230 = .ok (.iconst 5, 1) := by decide +kernel
theorem d_method_2_code_231 : decode method_2_code 231 = .ok (.aload_n 0, 1) := by decide +kernel
theorem d_method_2_code_232 : decode method_2_code 232 = .ok (.iconst 5, 1) := by decide +kernel
theorem d_method_2_code_233 : decode method_2_code 233 = .ok (.caload, 1) := by decide +kernel
theorem d_method_2_code_234 : decode method_2_code 234 = .ok (.castore, 1) := by decide +kernel
theorem d_method_2_code_235 : decode method_2_code 235 = .ok (.invokespecial 9, 3) := by decide +kernel
theorem d_method_2_code_238 : decode method_2_code 238 = .ok (.areturn, 1) := by decide +kernel
theorem d_method_2_code_239 : decode method_2_code 239 = .ok (.new 7, 3) := by decide +kernel
theorem d_method_2_code_242 : decode method_2_code 242 = .ok (.dup, 1) := by decide +kernel
theorem d_method_2_code_243 : decode method_2_code 243 = .ok (.bipush 7, 2) := by decide +kernel
theorem d_method_2_code_245 : decode method_2_code 245 = .ok (.newarray .char, 2) := by decide +kernel
theorem d_method_2_code_247 : decode method_2_code 247 = .ok (.dup, 1) := by decide +kernel
theorem d_method_2_code_248 : decode method_2_code 248 = .ok (.iconst 0, 1) := by decide +kernel
theorem d_method_2_code_249 : decode method_2_code 249 = .ok (.aload_n 0, 1) := by decide +kernel
theorem d_method_2_code_250 : decode method_2_code 250 = .ok (.iconst 0, 1) := by decide +kernel
theorem d_method_2_code_251 : decode method_2_code 251 = .ok (.caload, 1) := by decide +kernel
theorem d_method_2_code_252 : decode method_2_code 252 = .ok (.castore, 1) := by decide +kernel
theorem d_method_2_code_253 : decode method_2_code 253 = .ok (.dup, 1) := by decide +kernel
theorem d_method_2_code_254 : decode method_2_code 254 = .ok (.iconst 1, 1) := by decide +kernel
theorem d_method_2_code_255 : decode method_2_code 255 = .ok (.aload_n 0, 1) := by decide +kernel
theorem d_method_2_code_256 : decode method_2_code 256 = .ok (.iconst 1, 1) := by decide +kernel
theorem d_method_2_code_257 : decode method_2_code 257 = .ok (.caload, 1) := by decide +kernel
theorem d_method_2_code_258 : decode method_2_code 258 = .ok (.castore, 1) := by decide +kernel
theorem d_method_2_code_259 : decode method_2_code 259 = .ok (.dup, 1) := by decide +kernel
theorem d_method_2_code_260 : decode method_2_code 260 = .ok (.iconst 2, 1) := by decide +kernel
theorem d_method_2_code_261 : decode method_2_code 261 = .ok (.aload_n 0, 1) := by decide +kernel
theorem d_method_2_code_262 : decode method_2_code 262 = .ok (.iconst 2, 1) := by decide +kernel
theorem d_method_2_code_263 : decode method_2_code 263 = .ok (.caload, 1) := by decide +kernel
theorem d_method_2_code_264 : decode method_2_code 264 = .ok (.castore, 1) := by decide +kernel
theorem d_method_2_code_265 : decode method_2_code 265 = .ok (.dup, 1) := by decide +kernel
theorem d_method_2_code_266 : decode method_2_code 266 = .ok (.iconst 3, 1) := by decide +kernel
theorem d_method_2_code_267 : decode method_2_code 267 = .ok (.aload_n 0, 1) := by decide +kernel
theorem d_method_2_code_268 : decode method_2_code 268 = .ok (.iconst 3, 1) := by decide +kernel
theorem d_method_2_code_269 : decode method_2_code 269 = .ok (.caload, 1) := by decide +kernel
theorem d_method_2_code_270 : decode method_2_code 270 = .ok (.castore, 1) := by decide +kernel
theorem d_method_2_code_271 : decode method_2_code 271 = .ok (.dup, 1) := by decide +kernel
theorem d_method_2_code_272 : decode method_2_code 272 = .ok (.iconst 4, 1) := by decide +kernel
theorem d_method_2_code_273 : decode method_2_code 273 = .ok (.aload_n 0, 1) := by decide +kernel
theorem d_method_2_code_274 : decode method_2_code 274 = .ok (.iconst 4, 1) := by decide +kernel
theorem d_method_2_code_275 : decode method_2_code 275 = .ok (.caload, 1) := by decide +kernel
theorem d_method_2_code_276 : decode method_2_code 276 = .ok (.castore, 1) := by decide +kernel
theorem d_method_2_code_277 : decode method_2_code 277 = .ok (.dup, 1) := by decide +kernel
theorem d_method_2_code_278 : decode method_2_code 278 = .ok (.iconst 5, 1) := by decide +kernel
theorem d_method_2_code_279 : decode method_2_code 279 = .ok (.aload_n 0, 1) := by decide +kernel
theorem d_method_2_code_280 : decode method_2_code 280 = .ok (.iconst 5, 1) := by decide +kernel
theorem d_method_2_code_281 : decode method_2_code 281 = .ok (.caload, 1) := by decide +kernel
theorem d_method_2_code_282 : decode method_2_code 282 = .ok (.castore, 1) := by decide +kernel
theorem d_method_2_code_283 : decode method_2_code 283 = .ok (.dup, 1) := by decide +kernel
theorem d_method_2_code_284 : decode method_2_code 284 = .ok (.bipush 6, 2) := by decide +kernel
theorem d_method_2_code_286 : decode method_2_code 286 = .ok (.aload_n 0, 1) := by decide +kernel
theorem d_method_2_code_287 : decode method_2_code 287 = .ok (.bipush 6, 2) := by decide +kernel
theorem d_method_2_code_289 : decode method_2_code 289 = .ok (.caload, 1) := by decide +kernel
theorem d_method_2_code_290 : decode method_2_code 290 = .ok (.castore, 1) := by decide +kernel
theorem d_method_2_code_291 : decode method_2_code 291 = .ok (.invokespecial 9, 3) := by decide +kernel
theorem d_method_2_code_294 : decode method_2_code 294 = .ok (.areturn, 1) := by decide +kernel
theorem pn_com_example_xml_retrieval_scoring_xmlretrievalscoring_AssessmentLayoutOfRecordPinLaw : plainName "com/example/xml_retrieval_scoring/xmlretrievalscoring/AssessmentLayoutOfRecordPinLaw" = true := by first | (simp [plainName, overriddenIn]; done) | decide +kernel
theorem pd___C_V : parseMethodDescriptor "([C)V" = some ⟨[(.array .char)], none⟩ := by decide +kernel
set_option maxRecDepth 65536 in
set_option maxHeartbeats 40000000 in
theorem rm_mk (l : Launch) (Z : State) (a0 : Array Value) (hw : ∀ d ∈ tables_1, d.before a0 Z = true) (hEL : EW Z a0 consts_1) {ws : List Jvm.Cond} (bf : Addr) (kf : ClassId) (len c0 c1 c2 c3 c4 c5 c6 zc : Int32) (h0 : Heap) (n0 : Nat) (Vb : Arv Z h0 bf kf .char (7 : Int32) [(.int c0), (.int c1), (.int c2), (.int c3), (.int c4), (.int c5), (.int c6)] (.int (0 : Int32))) (h_c0 : Ch8 c0) (h_c1 : Ch8 c1) (h_c2 : Ch8 c2) (h_c3 : Ch8 c3) (h_c4 : Ch8 c4) (h_c5 : Ch8 c5) (h_c6 : Ch8 c6) (Szc : Sta Z h0 "java/lang/String" "COMPACT_STRINGS" "Z" (.int zc)) (hzc : ¬ (zc = (0 : Int32))) :
    Met l Z consts_1 (⟨"com/example/xml_retrieval_scoring/xmlretrievalscoring/AssessmentLayoutOfRecordPinLaw", "make", "([CI)Ljava/lang/String;"⟩ : MethodName) method_2_code 2 (some (.object "java/lang/String")) ws ({ frames := 4, cells := 6, slots := 18, locals := 70 } : Room) [] #[(.ref bf), (.int len)] h0 n0 (nq (fun v h => ∃ a t kb, v = some (.ref a) ∧ Keep h0 h [] ∧ h0.size ≤ a ∧ Str Z h a t kb (mk7 len c0 c1 c2 c3 c4 c5 c6))) := by
  refine met_of (plainFor_of_name pn_com_example_xml_retrieval_scoring_xmlretrievalscoring_AssessmentLayoutOfRecordPinLaw) hw #[.val (.ref bf), .val (.int len)] (fun m => by first | rfl | (simp [entryFrame, mkF, argsToLocals, Value.category]; done)) ?_
  intro p e s m below meth c C0
  have C : Cx Z a0 tables_1 p s m meth c "com/example/xml_retrieval_scoring/xmlretrievalscoring/AssessmentLayoutOfRecordPinLaw" "make" method_2_code 2 (some (.object "java/lang/String")) n0 := C0
  refine g_iloadN C d_method_2_code_0 rfl ?_
  by_cases hc115 : len = 0
  · refine g_if_f C d_method_2_code_1 (XT.i0_ne_f hc115) ?_
    refine g_new C w_6 w_7 w_8 d_method_2_code_4 (by decide) (by decide) ?_
    intro b116 h116 g116 E116 A116 D116
    refine g_dup C d_method_2_code_7 rfl ?_
    refine g_iconst C 0 d_method_2_code_8 rfl ?_
    refine g_newarray C (aty := .char) w_0 d_method_2_code_9 (by decide) 0 (by decide) (by decide) (by decide) (by decide) "[C" rfl ?_
    intro b117 h117 ka117 g117 E117 V117 A117
    replace V117 : Arv Z h117 b117 ka117 .char (0 : Int32) [] (.int (0 : Int32)) := V117.pad (pad_rep [] _ 0)
    have K118 : Keep h116 h117 [] := (Keep.refl h116 []).ext E117
    have E119 := (A116.keep K118)
    have F120 := ((D116 (Or.inr (C.hw w_34)) (ty := (.array .byte)) (by decide)).keep K118 nin0)
    have F121 := ((D116 (Or.inr (C.hw w_32)) (ty := .byte) (by decide)).keep K118 nin0)
    refine g_special C (a := b116) w_9 w_10 w_11 rfl (by decide) [(.ref b117)] (ct_of hEL hw w_11 w_8 (rm_S1e l Z a0 hw hEL b116 b117 ka117 h117 n0 E119 F120 F121 V117)) (allS (List.mem_of_getElem? (i := 1) rfl) all0) (by decide) 1 (by decide) rfl pd___C_V rfl [(.ref b116)] rfl (Nat.le_of_eq rfl) d_method_2_code_11 (by decide) (by decide) ?_
    intro v122 h122 Q122
    obtain ⟨rfl, KC122, t122, kb122, tx122, S122⟩ := Q122
    refine g_areturn C hEL (t := (.object "java/lang/String")) rfl rfl rfl d_method_2_code_14 (by decide) (by decide) ?_
    have K123 : Keep h0 h116 [] := (Keep.refl h0 []).ext E116
    have K124 : Keep h0 h117 [] := K123.ext E117
    have K125 : Keep h0 h122 [] := K124.trans KC122 (allS (Or.inr (Nat.le_of_eq g116.symm)) all0)
    exact ⟨b116, t122, kb122, rfl, K125, (Nat.le_of_eq g116.symm), by simpa [mk7, hc115] using S122⟩
  · refine g_if_t C 15 d_method_2_code_1 (XT.i0_ne_t hc115) (by decide) (by decide) ?_
    refine g_iloadN C d_method_2_code_15 rfl ?_
    refine g_iconst C 1 d_method_2_code_16 rfl ?_
    by_cases hc126 : len = (1 : Int32)
    · refine g_icmp_f C d_method_2_code_17 (XT.ii_ne_f hc126) ?_
      refine g_new C w_6 w_7 w_8 d_method_2_code_20 (by decide) (by decide) ?_
      intro b127 h127 g127 E127 A127 D127
      refine g_dup C d_method_2_code_23 rfl ?_
      refine g_iconst C 1 d_method_2_code_24 rfl ?_
      refine g_newarray C (aty := .char) w_0 d_method_2_code_25 (by decide) 1 (by decide) (by decide) (by decide) (by decide) "[C" rfl ?_
      intro b128 h128 ka128 g128 E128 V128 A128
      replace V128 : Arv Z h128 b128 ka128 .char (1 : Int32) [(.int (0 : Int32))] (.int (0 : Int32)) := V128.pad (pad_rep [] _ 1)
      refine g_dup C d_method_2_code_27 rfl ?_
      refine g_iconst C 0 d_method_2_code_28 rfl ?_
      refine g_aloadN C d_method_2_code_29 rfl rfl ?_
      refine g_iconst C 0 d_method_2_code_30 rfl ?_
      have K129 : Keep h0 h127 [] := (Keep.refl h0 []).ext E127
      have K130 : Keep h0 h128 [] := K129.ext E128
      have V131 := (Vb.keep K130 nin0)
      refine g_caload C V131 d_method_2_code_31 ⟨by decide, by decide⟩ (v := (.int c0)) rfl ?_
      refine g_castore C V128 (List.mem_of_getElem? (i := 0) rfl) d_method_2_code_32 ⟨by decide, by decide⟩ 0 rfl (Nat.le_of_ble_eq_true rfl) ?_
      intro h132 W132 V132
      rw [nar_ch8 h_c0] at V132
      replace V132 : Arv Z h132 b128 ka128 .char (1 : Int32) [(.int c0)] (.int (0 : Int32)) := V132
      have K133 : Keep h127 h128 [] := (Keep.refl h127 []).ext E128
      have K134 : Keep h127 h132 [] := K133.wr W132 (Or.inr (Nat.le_of_eq g128.symm))
      have E135 := (A127.keep K134)
      have F136 := ((D127 (Or.inr (C.hw w_34)) (ty := (.array .byte)) (by decide)).keep K134 nin0)
      have F137 := ((D127 (Or.inr (C.hw w_32)) (ty := .byte) (by decide)).keep K134 nin0)
      have K138 : Keep h0 h132 [] := K130.wr W132 (Or.inr (Nat.le_trans K129.1 (Nat.le_of_eq g128.symm)))
      refine g_special C (a := b127) w_9 w_10 w_11 rfl (by decide) [(.ref b128)] (ct_newS hEL hw (cs := [c0]) (n := 1) E135 F136 F137 V132 (Sta_keep Szc K138) hzc rfl (by decide) (by decide) (own_allc h_c0 (fun _ q => nomatch q))) (allS (List.mem_of_getElem? (i := 1) rfl) all0) (by decide) 1 (by decide) rfl pd___C_V rfl [(.ref b127)] rfl (Nat.le_of_eq rfl) d_method_2_code_33 (by decide) (by decide) ?_
      intro v139 h139 Q139
      obtain ⟨rfl, KC139, t139, kb139, ht139, htx139, S139⟩ := Q139
      refine g_areturn C hEL (t := (.object "java/lang/String")) rfl rfl rfl d_method_2_code_36 (by decide) (by decide) ?_
      have K140 : Keep h0 h139 [] := K138.trans KC139 (allS (Or.inr (Nat.le_of_eq g127.symm)) all0)
      exact ⟨b127, t139, kb139, rfl, K140, (Nat.le_of_eq g127.symm), by simpa [mk7, hc115, hc126] using S139⟩
    · refine g_icmp_t C 37 d_method_2_code_17 (XT.ii_ne_t hc126) (by decide) (by decide) ?_
      refine g_iloadN C d_method_2_code_37 rfl ?_
      refine g_iconst C 2 d_method_2_code_38 rfl ?_
      by_cases hc141 : len = (2 : Int32)
      · refine g_icmp_f C d_method_2_code_39 (XT.ii_ne_f hc141) ?_
        refine g_new C w_6 w_7 w_8 d_method_2_code_42 (by decide) (by decide) ?_
        intro b142 h142 g142 E142 A142 D142
        refine g_dup C d_method_2_code_45 rfl ?_
        refine g_iconst C 2 d_method_2_code_46 rfl ?_
        refine g_newarray C (aty := .char) w_0 d_method_2_code_47 (by decide) 2 (by decide) (by decide) (by decide) (by decide) "[C" rfl ?_
        intro b143 h143 ka143 g143 E143 V143 A143
        replace V143 : Arv Z h143 b143 ka143 .char (2 : Int32) [(.int (0 : Int32)), (.int (0 : Int32))] (.int (0 : Int32)) := V143.pad (pad_rep [] _ 2)
        refine g_dup C d_method_2_code_49 rfl ?_
        refine g_iconst C 0 d_method_2_code_50 rfl ?_
        refine g_aloadN C d_method_2_code_51 rfl rfl ?_
        refine g_iconst C 0 d_method_2_code_52 rfl ?_
        have K144 : Keep h0 h142 [] := (Keep.refl h0 []).ext E142
        have K145 : Keep h0 h143 [] := K144.ext E143
        have V146 := (Vb.keep K145 nin0)
        refine g_caload C V146 d_method_2_code_53 ⟨by decide, by decide⟩ (v := (.int c0)) rfl ?_
        refine g_castore C V143 (List.mem_of_getElem? (i := 0) rfl) d_method_2_code_54 ⟨by decide, by decide⟩ 0 rfl (Nat.le_of_ble_eq_true rfl) ?_
        intro h147 W147 V147
        rw [nar_ch8 h_c0] at V147
        replace V147 : Arv Z h147 b143 ka143 .char (2 : Int32) [(.int c0), (.int (0 : Int32))] (.int (0 : Int32)) := V147
        refine g_dup C d_method_2_code_55 rfl ?_
        refine g_iconst C 1 d_method_2_code_56 rfl ?_
        refine g_aloadN C d_method_2_code_57 rfl rfl ?_
        refine g_iconst C 1 d_method_2_code_58 rfl ?_
        have V148 := (Vb.keep K144 nin0)
        have V149 := (V146.other W147 (Nat.ne_of_lt (Nat.lt_of_lt_of_le V148.lt (Nat.le_of_eq g143.symm))))
        refine g_caload C V149 d_method_2_code_59 ⟨by decide, by decide⟩ (v := (.int c1)) rfl ?_
        refine g_castore C V147 (List.mem_of_getElem? (i := 0) rfl) d_method_2_code_60 ⟨by decide, by decide⟩ 1 rfl (Nat.le_of_ble_eq_true rfl) ?_
        intro h150 W150 V150
        rw [nar_ch8 h_c1] at V150
        replace V150 : Arv Z h150 b143 ka143 .char (2 : Int32) [(.int c0), (.int c1)] (.int (0 : Int32)) := V150
        have K151 : Keep h142 h143 [] := (Keep.refl h142 []).ext E143
        have K152 : Keep h142 h147 [] := K151.wr W147 (Or.inr (Nat.le_of_eq g143.symm))
        have K153 : Keep h142 h150 [] := K152.wr W150 (Or.inr (Nat.le_of_eq g143.symm))
        have E154 := (A142.keep K153)
        have F155 := ((D142 (Or.inr (C.hw w_34)) (ty := (.array .byte)) (by decide)).keep K153 nin0)
        have F156 := ((D142 (Or.inr (C.hw w_32)) (ty := .byte) (by decide)).keep K153 nin0)
        have K157 : Keep h0 h147 [] := K145.wr W147 (Or.inr (Nat.le_trans K144.1 (Nat.le_of_eq g143.symm)))
        have K158 : Keep h0 h150 [] := K157.wr W150 (Or.inr (Nat.le_trans K144.1 (Nat.le_of_eq g143.symm)))
        refine g_special C (a := b142) w_9 w_10 w_11 rfl (by decide) [(.ref b143)] (ct_newS hEL hw (cs := [c0, c1]) (n := 2) E154 F155 F156 V150 (Sta_keep Szc K158) hzc rfl (by decide) (by decide) (own_allc h_c0 (own_allc h_c1 (fun _ q => nomatch q)))) (allS (List.mem_of_getElem? (i := 1) rfl) all0) (by decide) 1 (by decide) rfl pd___C_V rfl [(.ref b142)] rfl (Nat.le_of_eq rfl) d_method_2_code_61 (by decide) (by decide) ?_
        intro v159 h159 Q159
        obtain ⟨rfl, KC159, t159, kb159, ht159, htx159, S159⟩ := Q159
        refine g_areturn C hEL (t := (.object "java/lang/String")) rfl rfl rfl d_method_2_code_64 (by decide) (by decide) ?_
        have K160 : Keep h0 h159 [] := K158.trans KC159 (allS (Or.inr (Nat.le_of_eq g142.symm)) all0)
        exact ⟨b142, t159, kb159, rfl, K160, (Nat.le_of_eq g142.symm), by simpa [mk7, hc115, hc126, hc141] using S159⟩
      · refine g_icmp_t C 65 d_method_2_code_39 (XT.ii_ne_t hc141) (by decide) (by decide) ?_
        refine g_iloadN C d_method_2_code_65 rfl ?_
        refine g_iconst C 3 d_method_2_code_66 rfl ?_
        by_cases hc161 : len = (3 : Int32)
        · refine g_icmp_f C d_method_2_code_67 (XT.ii_ne_f hc161) ?_
          refine g_new C w_6 w_7 w_8 d_method_2_code_70 (by decide) (by decide) ?_
          intro b162 h162 g162 E162 A162 D162
          refine g_dup C d_method_2_code_73 rfl ?_
          refine g_iconst C 3 d_method_2_code_74 rfl ?_
          refine g_newarray C (aty := .char) w_0 d_method_2_code_75 (by decide) 3 (by decide) (by decide) (by decide) (by decide) "[C" rfl ?_
          intro b163 h163 ka163 g163 E163 V163 A163
          replace V163 : Arv Z h163 b163 ka163 .char (3 : Int32) [(.int (0 : Int32)), (.int (0 : Int32)), (.int (0 : Int32))] (.int (0 : Int32)) := V163.pad (pad_rep [] _ 3)
          refine g_dup C d_method_2_code_77 rfl ?_
          refine g_iconst C 0 d_method_2_code_78 rfl ?_
          refine g_aloadN C d_method_2_code_79 rfl rfl ?_
          refine g_iconst C 0 d_method_2_code_80 rfl ?_
          have K164 : Keep h0 h162 [] := (Keep.refl h0 []).ext E162
          have K165 : Keep h0 h163 [] := K164.ext E163
          have V166 := (Vb.keep K165 nin0)
          refine g_caload C V166 d_method_2_code_81 ⟨by decide, by decide⟩ (v := (.int c0)) rfl ?_
          refine g_castore C V163 (List.mem_of_getElem? (i := 0) rfl) d_method_2_code_82 ⟨by decide, by decide⟩ 0 rfl (Nat.le_of_ble_eq_true rfl) ?_
          intro h167 W167 V167
          rw [nar_ch8 h_c0] at V167
          replace V167 : Arv Z h167 b163 ka163 .char (3 : Int32) [(.int c0), (.int (0 : Int32)), (.int (0 : Int32))] (.int (0 : Int32)) := V167
          refine g_dup C d_method_2_code_83 rfl ?_
          refine g_iconst C 1 d_method_2_code_84 rfl ?_
          refine g_aloadN C d_method_2_code_85 rfl rfl ?_
          refine g_iconst C 1 d_method_2_code_86 rfl ?_
          have V168 := (Vb.keep K164 nin0)
          have V169 := (V166.other W167 (Nat.ne_of_lt (Nat.lt_of_lt_of_le V168.lt (Nat.le_of_eq g163.symm))))
          refine g_caload C V169 d_method_2_code_87 ⟨by decide, by decide⟩ (v := (.int c1)) rfl ?_
          refine g_castore C V167 (List.mem_of_getElem? (i := 0) rfl) d_method_2_code_88 ⟨by decide, by decide⟩ 1 rfl (Nat.le_of_ble_eq_true rfl) ?_
          intro h170 W170 V170
          rw [nar_ch8 h_c1] at V170
          replace V170 : Arv Z h170 b163 ka163 .char (3 : Int32) [(.int c0), (.int c1), (.int (0 : Int32))] (.int (0 : Int32)) := V170
          refine g_dup C d_method_2_code_89 rfl ?_
          refine g_iconst C 2 d_method_2_code_90 rfl ?_
          refine g_aloadN C d_method_2_code_91 rfl rfl ?_
          refine g_iconst C 2 d_method_2_code_92 rfl ?_
          have V171 := (V169.other W170 (Nat.ne_of_lt (Nat.lt_of_lt_of_le V168.lt (Nat.le_of_eq g163.symm))))
          refine g_caload C V171 d_method_2_code_93 ⟨by decide, by decide⟩ (v := (.int c2)) rfl ?_
          refine g_castore C V170 (List.mem_of_getElem? (i := 0) rfl) d_method_2_code_94 ⟨by decide, by decide⟩ 2 rfl (Nat.le_of_ble_eq_true rfl) ?_
          intro h172 W172 V172
          rw [nar_ch8 h_c2] at V172
          replace V172 : Arv Z h172 b163 ka163 .char (3 : Int32) [(.int c0), (.int c1), (.int c2)] (.int (0 : Int32)) := V172
          have K173 : Keep h162 h163 [] := (Keep.refl h162 []).ext E163
          have K174 : Keep h162 h167 [] := K173.wr W167 (Or.inr (Nat.le_of_eq g163.symm))
          have K175 : Keep h162 h170 [] := K174.wr W170 (Or.inr (Nat.le_of_eq g163.symm))
          have K176 : Keep h162 h172 [] := K175.wr W172 (Or.inr (Nat.le_of_eq g163.symm))
          have E177 := (A162.keep K176)
          have F178 := ((D162 (Or.inr (C.hw w_34)) (ty := (.array .byte)) (by decide)).keep K176 nin0)
          have F179 := ((D162 (Or.inr (C.hw w_32)) (ty := .byte) (by decide)).keep K176 nin0)
          have K180 : Keep h0 h167 [] := K165.wr W167 (Or.inr (Nat.le_trans K164.1 (Nat.le_of_eq g163.symm)))
          have K181 : Keep h0 h170 [] := K180.wr W170 (Or.inr (Nat.le_trans K164.1 (Nat.le_of_eq g163.symm)))
          have K182 : Keep h0 h172 [] := K181.wr W172 (Or.inr (Nat.le_trans K164.1 (Nat.le_of_eq g163.symm)))
          refine g_special C (a := b162) w_9 w_10 w_11 rfl (by decide) [(.ref b163)] (ct_newS hEL hw (cs := [c0, c1, c2]) (n := 3) E177 F178 F179 V172 (Sta_keep Szc K182) hzc rfl (by decide) (by decide) (own_allc h_c0 (own_allc h_c1 (own_allc h_c2 (fun _ q => nomatch q))))) (allS (List.mem_of_getElem? (i := 1) rfl) all0) (by decide) 1 (by decide) rfl pd___C_V rfl [(.ref b162)] rfl (Nat.le_of_eq rfl) d_method_2_code_95 (by decide) (by decide) ?_
          intro v183 h183 Q183
          obtain ⟨rfl, KC183, t183, kb183, ht183, htx183, S183⟩ := Q183
          refine g_areturn C hEL (t := (.object "java/lang/String")) rfl rfl rfl d_method_2_code_98 (by decide) (by decide) ?_
          have K184 : Keep h0 h183 [] := K182.trans KC183 (allS (Or.inr (Nat.le_of_eq g162.symm)) all0)
          exact ⟨b162, t183, kb183, rfl, K184, (Nat.le_of_eq g162.symm), by simpa [mk7, hc115, hc126, hc141, hc161] using S183⟩
        · refine g_icmp_t C 99 d_method_2_code_67 (XT.ii_ne_t hc161) (by decide) (by decide) ?_
          refine g_iloadN C d_method_2_code_99 rfl ?_
          refine g_iconst C 4 d_method_2_code_100 rfl ?_
          by_cases hc185 : len = (4 : Int32)
          · refine g_icmp_f C d_method_2_code_101 (XT.ii_ne_f hc185) ?_
            refine g_new C w_6 w_7 w_8 d_method_2_code_104 (by decide) (by decide) ?_
            intro b186 h186 g186 E186 A186 D186
            refine g_dup C d_method_2_code_107 rfl ?_
            refine g_iconst C 4 d_method_2_code_108 rfl ?_
            refine g_newarray C (aty := .char) w_0 d_method_2_code_109 (by decide) 4 (by decide) (by decide) (by decide) (by decide) "[C" rfl ?_
            intro b187 h187 ka187 g187 E187 V187 A187
            replace V187 : Arv Z h187 b187 ka187 .char (4 : Int32) [(.int (0 : Int32)), (.int (0 : Int32)), (.int (0 : Int32)), (.int (0 : Int32))] (.int (0 : Int32)) := V187.pad (pad_rep [] _ 4)
            refine g_dup C d_method_2_code_111 rfl ?_
            refine g_iconst C 0 d_method_2_code_112 rfl ?_
            refine g_aloadN C d_method_2_code_113 rfl rfl ?_
            refine g_iconst C 0 d_method_2_code_114 rfl ?_
            have K188 : Keep h0 h186 [] := (Keep.refl h0 []).ext E186
            have K189 : Keep h0 h187 [] := K188.ext E187
            have V190 := (Vb.keep K189 nin0)
            refine g_caload C V190 d_method_2_code_115 ⟨by decide, by decide⟩ (v := (.int c0)) rfl ?_
            refine g_castore C V187 (List.mem_of_getElem? (i := 0) rfl) d_method_2_code_116 ⟨by decide, by decide⟩ 0 rfl (Nat.le_of_ble_eq_true rfl) ?_
            intro h191 W191 V191
            rw [nar_ch8 h_c0] at V191
            replace V191 : Arv Z h191 b187 ka187 .char (4 : Int32) [(.int c0), (.int (0 : Int32)), (.int (0 : Int32)), (.int (0 : Int32))] (.int (0 : Int32)) := V191
            refine g_dup C d_method_2_code_117 rfl ?_
            refine g_iconst C 1 d_method_2_code_118 rfl ?_
            refine g_aloadN C d_method_2_code_119 rfl rfl ?_
            refine g_iconst C 1 d_method_2_code_120 rfl ?_
            have V192 := (Vb.keep K188 nin0)
            have V193 := (V190.other W191 (Nat.ne_of_lt (Nat.lt_of_lt_of_le V192.lt (Nat.le_of_eq g187.symm))))
            refine g_caload C V193 d_method_2_code_121 ⟨by decide, by decide⟩ (v := (.int c1)) rfl ?_
            refine g_castore C V191 (List.mem_of_getElem? (i := 0) rfl) d_method_2_code_122 ⟨by decide, by decide⟩ 1 rfl (Nat.le_of_ble_eq_true rfl) ?_
            intro h194 W194 V194
            rw [nar_ch8 h_c1] at V194
            replace V194 : Arv Z h194 b187 ka187 .char (4 : Int32) [(.int c0), (.int c1), (.int (0 : Int32)), (.int (0 : Int32))] (.int (0 : Int32)) := V194
            refine g_dup C d_method_2_code_123 rfl ?_
            refine g_iconst C 2 d_method_2_code_124 rfl ?_
            refine g_aloadN C d_method_2_code_125 rfl rfl ?_
            refine g_iconst C 2 d_method_2_code_126 rfl ?_
            have V195 := (V193.other W194 (Nat.ne_of_lt (Nat.lt_of_lt_of_le V192.lt (Nat.le_of_eq g187.symm))))
            refine g_caload C V195 d_method_2_code_127 ⟨by decide, by decide⟩ (v := (.int c2)) rfl ?_
            refine g_castore C V194 (List.mem_of_getElem? (i := 0) rfl) d_method_2_code_128 ⟨by decide, by decide⟩ 2 rfl (Nat.le_of_ble_eq_true rfl) ?_
            intro h196 W196 V196
            rw [nar_ch8 h_c2] at V196
            replace V196 : Arv Z h196 b187 ka187 .char (4 : Int32) [(.int c0), (.int c1), (.int c2), (.int (0 : Int32))] (.int (0 : Int32)) := V196
            refine g_dup C d_method_2_code_129 rfl ?_
            refine g_iconst C 3 d_method_2_code_130 rfl ?_
            refine g_aloadN C d_method_2_code_131 rfl rfl ?_
            refine g_iconst C 3 d_method_2_code_132 rfl ?_
            have V197 := (V195.other W196 (Nat.ne_of_lt (Nat.lt_of_lt_of_le V192.lt (Nat.le_of_eq g187.symm))))
            refine g_caload C V197 d_method_2_code_133 ⟨by decide, by decide⟩ (v := (.int c3)) rfl ?_
            refine g_castore C V196 (List.mem_of_getElem? (i := 0) rfl) d_method_2_code_134 ⟨by decide, by decide⟩ 3 rfl (Nat.le_of_ble_eq_true rfl) ?_
            intro h198 W198 V198
            rw [nar_ch8 h_c3] at V198
            replace V198 : Arv Z h198 b187 ka187 .char (4 : Int32) [(.int c0), (.int c1), (.int c2), (.int c3)] (.int (0 : Int32)) := V198
            have K199 : Keep h186 h187 [] := (Keep.refl h186 []).ext E187
            have K200 : Keep h186 h191 [] := K199.wr W191 (Or.inr (Nat.le_of_eq g187.symm))
            have K201 : Keep h186 h194 [] := K200.wr W194 (Or.inr (Nat.le_of_eq g187.symm))
            have K202 : Keep h186 h196 [] := K201.wr W196 (Or.inr (Nat.le_of_eq g187.symm))
            have K203 : Keep h186 h198 [] := K202.wr W198 (Or.inr (Nat.le_of_eq g187.symm))
            have E204 := (A186.keep K203)
            have F205 := ((D186 (Or.inr (C.hw w_34)) (ty := (.array .byte)) (by decide)).keep K203 nin0)
            have F206 := ((D186 (Or.inr (C.hw w_32)) (ty := .byte) (by decide)).keep K203 nin0)
            have K207 : Keep h0 h191 [] := K189.wr W191 (Or.inr (Nat.le_trans K188.1 (Nat.le_of_eq g187.symm)))
            have K208 : Keep h0 h194 [] := K207.wr W194 (Or.inr (Nat.le_trans K188.1 (Nat.le_of_eq g187.symm)))
            have K209 : Keep h0 h196 [] := K208.wr W196 (Or.inr (Nat.le_trans K188.1 (Nat.le_of_eq g187.symm)))
            have K210 : Keep h0 h198 [] := K209.wr W198 (Or.inr (Nat.le_trans K188.1 (Nat.le_of_eq g187.symm)))
            refine g_special C (a := b186) w_9 w_10 w_11 rfl (by decide) [(.ref b187)] (ct_newS hEL hw (cs := [c0, c1, c2, c3]) (n := 4) E204 F205 F206 V198 (Sta_keep Szc K210) hzc rfl (by decide) (by decide) (own_allc h_c0 (own_allc h_c1 (own_allc h_c2 (own_allc h_c3 (fun _ q => nomatch q)))))) (allS (List.mem_of_getElem? (i := 1) rfl) all0) (by decide) 1 (by decide) rfl pd___C_V rfl [(.ref b186)] rfl (Nat.le_of_eq rfl) d_method_2_code_135 (by decide) (by decide) ?_
            intro v211 h211 Q211
            obtain ⟨rfl, KC211, t211, kb211, ht211, htx211, S211⟩ := Q211
            refine g_areturn C hEL (t := (.object "java/lang/String")) rfl rfl rfl d_method_2_code_138 (by decide) (by decide) ?_
            have K212 : Keep h0 h211 [] := K210.trans KC211 (allS (Or.inr (Nat.le_of_eq g186.symm)) all0)
            exact ⟨b186, t211, kb211, rfl, K212, (Nat.le_of_eq g186.symm), by simpa [mk7, hc115, hc126, hc141, hc161, hc185] using S211⟩
          · refine g_icmp_t C 139 d_method_2_code_101 (XT.ii_ne_t hc185) (by decide) (by decide) ?_
            refine g_iloadN C d_method_2_code_139 rfl ?_
            refine g_iconst C 5 d_method_2_code_140 rfl ?_
            by_cases hc213 : len = (5 : Int32)
            · refine g_icmp_f C d_method_2_code_141 (XT.ii_ne_f hc213) ?_
              refine g_new C w_6 w_7 w_8 d_method_2_code_144 (by decide) (by decide) ?_
              intro b214 h214 g214 E214 A214 D214
              refine g_dup C d_method_2_code_147 rfl ?_
              refine g_iconst C 5 d_method_2_code_148 rfl ?_
              refine g_newarray C (aty := .char) w_0 d_method_2_code_149 (by decide) 5 (by decide) (by decide) (by decide) (by decide) "[C" rfl ?_
              intro b215 h215 ka215 g215 E215 V215 A215
              replace V215 : Arv Z h215 b215 ka215 .char (5 : Int32) [(.int (0 : Int32)), (.int (0 : Int32)), (.int (0 : Int32)), (.int (0 : Int32)), (.int (0 : Int32))] (.int (0 : Int32)) := V215.pad (pad_rep [] _ 5)
              refine g_dup C d_method_2_code_151 rfl ?_
              refine g_iconst C 0 d_method_2_code_152 rfl ?_
              refine g_aloadN C d_method_2_code_153 rfl rfl ?_
              refine g_iconst C 0 d_method_2_code_154 rfl ?_
              have K216 : Keep h0 h214 [] := (Keep.refl h0 []).ext E214
              have K217 : Keep h0 h215 [] := K216.ext E215
              have V218 := (Vb.keep K217 nin0)
              refine g_caload C V218 d_method_2_code_155 ⟨by decide, by decide⟩ (v := (.int c0)) rfl ?_
              refine g_castore C V215 (List.mem_of_getElem? (i := 0) rfl) d_method_2_code_156 ⟨by decide, by decide⟩ 0 rfl (Nat.le_of_ble_eq_true rfl) ?_
              intro h219 W219 V219
              rw [nar_ch8 h_c0] at V219
              replace V219 : Arv Z h219 b215 ka215 .char (5 : Int32) [(.int c0), (.int (0 : Int32)), (.int (0 : Int32)), (.int (0 : Int32)), (.int (0 : Int32))] (.int (0 : Int32)) := V219
              refine g_dup C d_method_2_code_157 rfl ?_
              refine g_iconst C 1 d_method_2_code_158 rfl ?_
              refine g_aloadN C d_method_2_code_159 rfl rfl ?_
              refine g_iconst C 1 d_method_2_code_160 rfl ?_
              have V220 := (Vb.keep K216 nin0)
              have V221 := (V218.other W219 (Nat.ne_of_lt (Nat.lt_of_lt_of_le V220.lt (Nat.le_of_eq g215.symm))))
              refine g_caload C V221 d_method_2_code_161 ⟨by decide, by decide⟩ (v := (.int c1)) rfl ?_
              refine g_castore C V219 (List.mem_of_getElem? (i := 0) rfl) d_method_2_code_162 ⟨by decide, by decide⟩ 1 rfl (Nat.le_of_ble_eq_true rfl) ?_
              intro h222 W222 V222
              rw [nar_ch8 h_c1] at V222
              replace V222 : Arv Z h222 b215 ka215 .char (5 : Int32) [(.int c0), (.int c1), (.int (0 : Int32)), (.int (0 : Int32)), (.int (0 : Int32))] (.int (0 : Int32)) := V222
              refine g_dup C d_method_2_code_163 rfl ?_
              refine g_iconst C 2 d_method_2_code_164 rfl ?_
              refine g_aloadN C d_method_2_code_165 rfl rfl ?_
              refine g_iconst C 2 d_method_2_code_166 rfl ?_
              have V223 := (V221.other W222 (Nat.ne_of_lt (Nat.lt_of_lt_of_le V220.lt (Nat.le_of_eq g215.symm))))
              refine g_caload C V223 d_method_2_code_167 ⟨by decide, by decide⟩ (v := (.int c2)) rfl ?_
              refine g_castore C V222 (List.mem_of_getElem? (i := 0) rfl) d_method_2_code_168 ⟨by decide, by decide⟩ 2 rfl (Nat.le_of_ble_eq_true rfl) ?_
              intro h224 W224 V224
              rw [nar_ch8 h_c2] at V224
              replace V224 : Arv Z h224 b215 ka215 .char (5 : Int32) [(.int c0), (.int c1), (.int c2), (.int (0 : Int32)), (.int (0 : Int32))] (.int (0 : Int32)) := V224
              refine g_dup C d_method_2_code_169 rfl ?_
              refine g_iconst C 3 d_method_2_code_170 rfl ?_
              refine g_aloadN C d_method_2_code_171 rfl rfl ?_
              refine g_iconst C 3 d_method_2_code_172 rfl ?_
              have V225 := (V223.other W224 (Nat.ne_of_lt (Nat.lt_of_lt_of_le V220.lt (Nat.le_of_eq g215.symm))))
              refine g_caload C V225 d_method_2_code_173 ⟨by decide, by decide⟩ (v := (.int c3)) rfl ?_
              refine g_castore C V224 (List.mem_of_getElem? (i := 0) rfl) d_method_2_code_174 ⟨by decide, by decide⟩ 3 rfl (Nat.le_of_ble_eq_true rfl) ?_
              intro h226 W226 V226
              rw [nar_ch8 h_c3] at V226
              replace V226 : Arv Z h226 b215 ka215 .char (5 : Int32) [(.int c0), (.int c1), (.int c2), (.int c3), (.int (0 : Int32))] (.int (0 : Int32)) := V226
              refine g_dup C d_method_2_code_175 rfl ?_
              refine g_iconst C 4 d_method_2_code_176 rfl ?_
              refine g_aloadN C d_method_2_code_177 rfl rfl ?_
              refine g_iconst C 4 d_method_2_code_178 rfl ?_
              have V227 := (V225.other W226 (Nat.ne_of_lt (Nat.lt_of_lt_of_le V220.lt (Nat.le_of_eq g215.symm))))
              refine g_caload C V227 d_method_2_code_179 ⟨by decide, by decide⟩ (v := (.int c4)) rfl ?_
              refine g_castore C V226 (List.mem_of_getElem? (i := 0) rfl) d_method_2_code_180 ⟨by decide, by decide⟩ 4 rfl (Nat.le_of_ble_eq_true rfl) ?_
              intro h228 W228 V228
              rw [nar_ch8 h_c4] at V228
              replace V228 : Arv Z h228 b215 ka215 .char (5 : Int32) [(.int c0), (.int c1), (.int c2), (.int c3), (.int c4)] (.int (0 : Int32)) := V228
              have K229 : Keep h214 h215 [] := (Keep.refl h214 []).ext E215
              have K230 : Keep h214 h219 [] := K229.wr W219 (Or.inr (Nat.le_of_eq g215.symm))
              have K231 : Keep h214 h222 [] := K230.wr W222 (Or.inr (Nat.le_of_eq g215.symm))
              have K232 : Keep h214 h224 [] := K231.wr W224 (Or.inr (Nat.le_of_eq g215.symm))
              have K233 : Keep h214 h226 [] := K232.wr W226 (Or.inr (Nat.le_of_eq g215.symm))
              have K234 : Keep h214 h228 [] := K233.wr W228 (Or.inr (Nat.le_of_eq g215.symm))
              have E235 := (A214.keep K234)
              have F236 := ((D214 (Or.inr (C.hw w_34)) (ty := (.array .byte)) (by decide)).keep K234 nin0)
              have F237 := ((D214 (Or.inr (C.hw w_32)) (ty := .byte) (by decide)).keep K234 nin0)
              have K238 : Keep h0 h219 [] := K217.wr W219 (Or.inr (Nat.le_trans K216.1 (Nat.le_of_eq g215.symm)))
              have K239 : Keep h0 h222 [] := K238.wr W222 (Or.inr (Nat.le_trans K216.1 (Nat.le_of_eq g215.symm)))
              have K240 : Keep h0 h224 [] := K239.wr W224 (Or.inr (Nat.le_trans K216.1 (Nat.le_of_eq g215.symm)))
              have K241 : Keep h0 h226 [] := K240.wr W226 (Or.inr (Nat.le_trans K216.1 (Nat.le_of_eq g215.symm)))
              have K242 : Keep h0 h228 [] := K241.wr W228 (Or.inr (Nat.le_trans K216.1 (Nat.le_of_eq g215.symm)))
              refine g_special C (a := b214) w_9 w_10 w_11 rfl (by decide) [(.ref b215)] (ct_newS hEL hw (cs := [c0, c1, c2, c3, c4]) (n := 5) E235 F236 F237 V228 (Sta_keep Szc K242) hzc rfl (by decide) (by decide) (own_allc h_c0 (own_allc h_c1 (own_allc h_c2 (own_allc h_c3 (own_allc h_c4 (fun _ q => nomatch q))))))) (allS (List.mem_of_getElem? (i := 1) rfl) all0) (by decide) 1 (by decide) rfl pd___C_V rfl [(.ref b214)] rfl (Nat.le_of_eq rfl) d_method_2_code_181 (by decide) (by decide) ?_
              intro v243 h243 Q243
              obtain ⟨rfl, KC243, t243, kb243, ht243, htx243, S243⟩ := Q243
              refine g_areturn C hEL (t := (.object "java/lang/String")) rfl rfl rfl d_method_2_code_184 (by decide) (by decide) ?_
              have K244 : Keep h0 h243 [] := K242.trans KC243 (allS (Or.inr (Nat.le_of_eq g214.symm)) all0)
              exact ⟨b214, t243, kb243, rfl, K244, (Nat.le_of_eq g214.symm), by simpa [mk7, hc115, hc126, hc141, hc161, hc185, hc213] using S243⟩
            · refine g_icmp_t C 185 d_method_2_code_141 (XT.ii_ne_t hc213) (by decide) (by decide) ?_
              refine g_iloadN C d_method_2_code_185 rfl ?_
              refine g_bipush C 6 d_method_2_code_186 rfl ?_
              by_cases hc245 : len = (6 : Int32)
              · refine g_icmp_f C d_method_2_code_188 (XT.ii_ne_f hc245) ?_
                refine g_new C w_6 w_7 w_8 d_method_2_code_191 (by decide) (by decide) ?_
                intro b246 h246 g246 E246 A246 D246
                refine g_dup C d_method_2_code_194 rfl ?_
                refine g_bipush C 6 d_method_2_code_195 rfl ?_
                refine g_newarray C (aty := .char) w_0 d_method_2_code_197 (by decide) 6 (by decide) (by decide) (by decide) (by decide) "[C" rfl ?_
                intro b247 h247 ka247 g247 E247 V247 A247
                replace V247 : Arv Z h247 b247 ka247 .char (6 : Int32) [(.int (0 : Int32)), (.int (0 : Int32)), (.int (0 : Int32)), (.int (0 : Int32)), (.int (0 : Int32)), (.int (0 : Int32))] (.int (0 : Int32)) := V247.pad (pad_rep [] _ 6)
                refine g_dup C d_method_2_code_199 rfl ?_
                refine g_iconst C 0 d_method_2_code_200 rfl ?_
                refine g_aloadN C d_method_2_code_201 rfl rfl ?_
                refine g_iconst C 0 d_method_2_code_202 rfl ?_
                have K248 : Keep h0 h246 [] := (Keep.refl h0 []).ext E246
                have K249 : Keep h0 h247 [] := K248.ext E247
                have V250 := (Vb.keep K249 nin0)
                refine g_caload C V250 d_method_2_code_203 ⟨by decide, by decide⟩ (v := (.int c0)) rfl ?_
                refine g_castore C V247 (List.mem_of_getElem? (i := 0) rfl) d_method_2_code_204 ⟨by decide, by decide⟩ 0 rfl (Nat.le_of_ble_eq_true rfl) ?_
                intro h251 W251 V251
                rw [nar_ch8 h_c0] at V251
                replace V251 : Arv Z h251 b247 ka247 .char (6 : Int32) [(.int c0), (.int (0 : Int32)), (.int (0 : Int32)), (.int (0 : Int32)), (.int (0 : Int32)), (.int (0 : Int32))] (.int (0 : Int32)) := V251
                refine g_dup C d_method_2_code_205 rfl ?_
                refine g_iconst C 1 d_method_2_code_206 rfl ?_
                refine g_aloadN C d_method_2_code_207 rfl rfl ?_
                refine g_iconst C 1 d_method_2_code_208 rfl ?_
                have V252 := (Vb.keep K248 nin0)
                have V253 := (V250.other W251 (Nat.ne_of_lt (Nat.lt_of_lt_of_le V252.lt (Nat.le_of_eq g247.symm))))
                refine g_caload C V253 d_method_2_code_209 ⟨by decide, by decide⟩ (v := (.int c1)) rfl ?_
                refine g_castore C V251 (List.mem_of_getElem? (i := 0) rfl) d_method_2_code_210 ⟨by decide, by decide⟩ 1 rfl (Nat.le_of_ble_eq_true rfl) ?_
                intro h254 W254 V254
                rw [nar_ch8 h_c1] at V254
                replace V254 : Arv Z h254 b247 ka247 .char (6 : Int32) [(.int c0), (.int c1), (.int (0 : Int32)), (.int (0 : Int32)), (.int (0 : Int32)), (.int (0 : Int32))] (.int (0 : Int32)) := V254
                refine g_dup C d_method_2_code_211 rfl ?_
                refine g_iconst C 2 d_method_2_code_212 rfl ?_
                refine g_aloadN C d_method_2_code_213 rfl rfl ?_
                refine g_iconst C 2 d_method_2_code_214 rfl ?_
                have V255 := (V253.other W254 (Nat.ne_of_lt (Nat.lt_of_lt_of_le V252.lt (Nat.le_of_eq g247.symm))))
                refine g_caload C V255 d_method_2_code_215 ⟨by decide, by decide⟩ (v := (.int c2)) rfl ?_
                refine g_castore C V254 (List.mem_of_getElem? (i := 0) rfl) d_method_2_code_216 ⟨by decide, by decide⟩ 2 rfl (Nat.le_of_ble_eq_true rfl) ?_
                intro h256 W256 V256
                rw [nar_ch8 h_c2] at V256
                replace V256 : Arv Z h256 b247 ka247 .char (6 : Int32) [(.int c0), (.int c1), (.int c2), (.int (0 : Int32)), (.int (0 : Int32)), (.int (0 : Int32))] (.int (0 : Int32)) := V256
                refine g_dup C d_method_2_code_217 rfl ?_
                refine g_iconst C 3 d_method_2_code_218 rfl ?_
                refine g_aloadN C d_method_2_code_219 rfl rfl ?_
                refine g_iconst C 3 d_method_2_code_220 rfl ?_
                have V257 := (V255.other W256 (Nat.ne_of_lt (Nat.lt_of_lt_of_le V252.lt (Nat.le_of_eq g247.symm))))
                refine g_caload C V257 d_method_2_code_221 ⟨by decide, by decide⟩ (v := (.int c3)) rfl ?_
                refine g_castore C V256 (List.mem_of_getElem? (i := 0) rfl) d_method_2_code_222 ⟨by decide, by decide⟩ 3 rfl (Nat.le_of_ble_eq_true rfl) ?_
                intro h258 W258 V258
                rw [nar_ch8 h_c3] at V258
                replace V258 : Arv Z h258 b247 ka247 .char (6 : Int32) [(.int c0), (.int c1), (.int c2), (.int c3), (.int (0 : Int32)), (.int (0 : Int32))] (.int (0 : Int32)) := V258
                refine g_dup C d_method_2_code_223 rfl ?_
                refine g_iconst C 4 d_method_2_code_224 rfl ?_
                refine g_aloadN C d_method_2_code_225 rfl rfl ?_
                refine g_iconst C 4 d_method_2_code_226 rfl ?_
                have V259 := (V257.other W258 (Nat.ne_of_lt (Nat.lt_of_lt_of_le V252.lt (Nat.le_of_eq g247.symm))))
                refine g_caload C V259 d_method_2_code_227 ⟨by decide, by decide⟩ (v := (.int c4)) rfl ?_
                refine g_castore C V258 (List.mem_of_getElem? (i := 0) rfl) d_method_2_code_228 ⟨by decide, by decide⟩ 4 rfl (Nat.le_of_ble_eq_true rfl) ?_
                intro h260 W260 V260
                rw [nar_ch8 h_c4] at V260
                replace V260 : Arv Z h260 b247 ka247 .char (6 : Int32) [(.int c0), (.int c1), (.int c2), (.int c3), (.int c4), (.int (0 : Int32))] (.int (0 : Int32)) := V260
                refine g_dup C d_method_2_code_229 rfl ?_
                refine g_iconst C 5 d_method_2_code_230 rfl ?_
                refine g_aloadN C d_method_2_code_231 rfl rfl ?_
                refine g_iconst C 5 d_method_2_code_232 rfl ?_
                have V261 := (V259.other W260 (Nat.ne_of_lt (Nat.lt_of_lt_of_le V252.lt (Nat.le_of_eq g247.symm))))
                refine g_caload C V261 d_method_2_code_233 ⟨by decide, by decide⟩ (v := (.int c5)) rfl ?_
                refine g_castore C V260 (List.mem_of_getElem? (i := 0) rfl) d_method_2_code_234 ⟨by decide, by decide⟩ 5 rfl (Nat.le_of_ble_eq_true rfl) ?_
                intro h262 W262 V262
                rw [nar_ch8 h_c5] at V262
                replace V262 : Arv Z h262 b247 ka247 .char (6 : Int32) [(.int c0), (.int c1), (.int c2), (.int c3), (.int c4), (.int c5)] (.int (0 : Int32)) := V262
                have K263 : Keep h246 h247 [] := (Keep.refl h246 []).ext E247
                have K264 : Keep h246 h251 [] := K263.wr W251 (Or.inr (Nat.le_of_eq g247.symm))
                have K265 : Keep h246 h254 [] := K264.wr W254 (Or.inr (Nat.le_of_eq g247.symm))
                have K266 : Keep h246 h256 [] := K265.wr W256 (Or.inr (Nat.le_of_eq g247.symm))
                have K267 : Keep h246 h258 [] := K266.wr W258 (Or.inr (Nat.le_of_eq g247.symm))
                have K268 : Keep h246 h260 [] := K267.wr W260 (Or.inr (Nat.le_of_eq g247.symm))
                have K269 : Keep h246 h262 [] := K268.wr W262 (Or.inr (Nat.le_of_eq g247.symm))
                have E270 := (A246.keep K269)
                have F271 := ((D246 (Or.inr (C.hw w_34)) (ty := (.array .byte)) (by decide)).keep K269 nin0)
                have F272 := ((D246 (Or.inr (C.hw w_32)) (ty := .byte) (by decide)).keep K269 nin0)
                have K273 : Keep h0 h251 [] := K249.wr W251 (Or.inr (Nat.le_trans K248.1 (Nat.le_of_eq g247.symm)))
                have K274 : Keep h0 h254 [] := K273.wr W254 (Or.inr (Nat.le_trans K248.1 (Nat.le_of_eq g247.symm)))
                have K275 : Keep h0 h256 [] := K274.wr W256 (Or.inr (Nat.le_trans K248.1 (Nat.le_of_eq g247.symm)))
                have K276 : Keep h0 h258 [] := K275.wr W258 (Or.inr (Nat.le_trans K248.1 (Nat.le_of_eq g247.symm)))
                have K277 : Keep h0 h260 [] := K276.wr W260 (Or.inr (Nat.le_trans K248.1 (Nat.le_of_eq g247.symm)))
                have K278 : Keep h0 h262 [] := K277.wr W262 (Or.inr (Nat.le_trans K248.1 (Nat.le_of_eq g247.symm)))
                refine g_special C (a := b246) w_9 w_10 w_11 rfl (by decide) [(.ref b247)] (ct_newS hEL hw (cs := [c0, c1, c2, c3, c4, c5]) (n := 6) E270 F271 F272 V262 (Sta_keep Szc K278) hzc rfl (by decide) (by decide) (own_allc h_c0 (own_allc h_c1 (own_allc h_c2 (own_allc h_c3 (own_allc h_c4 (own_allc h_c5 (fun _ q => nomatch q)))))))) (allS (List.mem_of_getElem? (i := 1) rfl) all0) (by decide) 1 (by decide) rfl pd___C_V rfl [(.ref b246)] rfl (Nat.le_of_eq rfl) d_method_2_code_235 (by decide) (by decide) ?_
                intro v279 h279 Q279
                obtain ⟨rfl, KC279, t279, kb279, ht279, htx279, S279⟩ := Q279
                refine g_areturn C hEL (t := (.object "java/lang/String")) rfl rfl rfl d_method_2_code_238 (by decide) (by decide) ?_
                have K280 : Keep h0 h279 [] := K278.trans KC279 (allS (Or.inr (Nat.le_of_eq g246.symm)) all0)
                exact ⟨b246, t279, kb279, rfl, K280, (Nat.le_of_eq g246.symm), by simpa [mk7, hc115, hc126, hc141, hc161, hc185, hc213, hc245] using S279⟩
              · refine g_icmp_t C 239 d_method_2_code_188 (XT.ii_ne_t hc245) (by decide) (by decide) ?_
                refine g_new C w_6 w_7 w_8 d_method_2_code_239 (by decide) (by decide) ?_
                intro b281 h281 g281 E281 A281 D281
                refine g_dup C d_method_2_code_242 rfl ?_
                refine g_bipush C 7 d_method_2_code_243 rfl ?_
                refine g_newarray C (aty := .char) w_0 d_method_2_code_245 (by decide) 7 (by decide) (by decide) (by decide) (by decide) "[C" rfl ?_
                intro b282 h282 ka282 g282 E282 V282 A282
                replace V282 : Arv Z h282 b282 ka282 .char (7 : Int32) [(.int (0 : Int32)), (.int (0 : Int32)), (.int (0 : Int32)), (.int (0 : Int32)), (.int (0 : Int32)), (.int (0 : Int32)), (.int (0 : Int32))] (.int (0 : Int32)) := V282.pad (pad_rep [] _ 7)
                refine g_dup C d_method_2_code_247 rfl ?_
                refine g_iconst C 0 d_method_2_code_248 rfl ?_
                refine g_aloadN C d_method_2_code_249 rfl rfl ?_
                refine g_iconst C 0 d_method_2_code_250 rfl ?_
                have K283 : Keep h0 h281 [] := (Keep.refl h0 []).ext E281
                have K284 : Keep h0 h282 [] := K283.ext E282
                have V285 := (Vb.keep K284 nin0)
                refine g_caload C V285 d_method_2_code_251 ⟨by decide, by decide⟩ (v := (.int c0)) rfl ?_
                refine g_castore C V282 (List.mem_of_getElem? (i := 0) rfl) d_method_2_code_252 ⟨by decide, by decide⟩ 0 rfl (Nat.le_of_ble_eq_true rfl) ?_
                intro h286 W286 V286
                rw [nar_ch8 h_c0] at V286
                replace V286 : Arv Z h286 b282 ka282 .char (7 : Int32) [(.int c0), (.int (0 : Int32)), (.int (0 : Int32)), (.int (0 : Int32)), (.int (0 : Int32)), (.int (0 : Int32)), (.int (0 : Int32))] (.int (0 : Int32)) := V286
                refine g_dup C d_method_2_code_253 rfl ?_
                refine g_iconst C 1 d_method_2_code_254 rfl ?_
                refine g_aloadN C d_method_2_code_255 rfl rfl ?_
                refine g_iconst C 1 d_method_2_code_256 rfl ?_
                have V287 := (Vb.keep K283 nin0)
                have V288 := (V285.other W286 (Nat.ne_of_lt (Nat.lt_of_lt_of_le V287.lt (Nat.le_of_eq g282.symm))))
                refine g_caload C V288 d_method_2_code_257 ⟨by decide, by decide⟩ (v := (.int c1)) rfl ?_
                refine g_castore C V286 (List.mem_of_getElem? (i := 0) rfl) d_method_2_code_258 ⟨by decide, by decide⟩ 1 rfl (Nat.le_of_ble_eq_true rfl) ?_
                intro h289 W289 V289
                rw [nar_ch8 h_c1] at V289
                replace V289 : Arv Z h289 b282 ka282 .char (7 : Int32) [(.int c0), (.int c1), (.int (0 : Int32)), (.int (0 : Int32)), (.int (0 : Int32)), (.int (0 : Int32)), (.int (0 : Int32))] (.int (0 : Int32)) := V289
                refine g_dup C d_method_2_code_259 rfl ?_
                refine g_iconst C 2 d_method_2_code_260 rfl ?_
                refine g_aloadN C d_method_2_code_261 rfl rfl ?_
                refine g_iconst C 2 d_method_2_code_262 rfl ?_
                have V290 := (V288.other W289 (Nat.ne_of_lt (Nat.lt_of_lt_of_le V287.lt (Nat.le_of_eq g282.symm))))
                refine g_caload C V290 d_method_2_code_263 ⟨by decide, by decide⟩ (v := (.int c2)) rfl ?_
                refine g_castore C V289 (List.mem_of_getElem? (i := 0) rfl) d_method_2_code_264 ⟨by decide, by decide⟩ 2 rfl (Nat.le_of_ble_eq_true rfl) ?_
                intro h291 W291 V291
                rw [nar_ch8 h_c2] at V291
                replace V291 : Arv Z h291 b282 ka282 .char (7 : Int32) [(.int c0), (.int c1), (.int c2), (.int (0 : Int32)), (.int (0 : Int32)), (.int (0 : Int32)), (.int (0 : Int32))] (.int (0 : Int32)) := V291
                refine g_dup C d_method_2_code_265 rfl ?_
                refine g_iconst C 3 d_method_2_code_266 rfl ?_
                refine g_aloadN C d_method_2_code_267 rfl rfl ?_
                refine g_iconst C 3 d_method_2_code_268 rfl ?_
                have V292 := (V290.other W291 (Nat.ne_of_lt (Nat.lt_of_lt_of_le V287.lt (Nat.le_of_eq g282.symm))))
                refine g_caload C V292 d_method_2_code_269 ⟨by decide, by decide⟩ (v := (.int c3)) rfl ?_
                refine g_castore C V291 (List.mem_of_getElem? (i := 0) rfl) d_method_2_code_270 ⟨by decide, by decide⟩ 3 rfl (Nat.le_of_ble_eq_true rfl) ?_
                intro h293 W293 V293
                rw [nar_ch8 h_c3] at V293
                replace V293 : Arv Z h293 b282 ka282 .char (7 : Int32) [(.int c0), (.int c1), (.int c2), (.int c3), (.int (0 : Int32)), (.int (0 : Int32)), (.int (0 : Int32))] (.int (0 : Int32)) := V293
                refine g_dup C d_method_2_code_271 rfl ?_
                refine g_iconst C 4 d_method_2_code_272 rfl ?_
                refine g_aloadN C d_method_2_code_273 rfl rfl ?_
                refine g_iconst C 4 d_method_2_code_274 rfl ?_
                have V294 := (V292.other W293 (Nat.ne_of_lt (Nat.lt_of_lt_of_le V287.lt (Nat.le_of_eq g282.symm))))
                refine g_caload C V294 d_method_2_code_275 ⟨by decide, by decide⟩ (v := (.int c4)) rfl ?_
                refine g_castore C V293 (List.mem_of_getElem? (i := 0) rfl) d_method_2_code_276 ⟨by decide, by decide⟩ 4 rfl (Nat.le_of_ble_eq_true rfl) ?_
                intro h295 W295 V295
                rw [nar_ch8 h_c4] at V295
                replace V295 : Arv Z h295 b282 ka282 .char (7 : Int32) [(.int c0), (.int c1), (.int c2), (.int c3), (.int c4), (.int (0 : Int32)), (.int (0 : Int32))] (.int (0 : Int32)) := V295
                refine g_dup C d_method_2_code_277 rfl ?_
                refine g_iconst C 5 d_method_2_code_278 rfl ?_
                refine g_aloadN C d_method_2_code_279 rfl rfl ?_
                refine g_iconst C 5 d_method_2_code_280 rfl ?_
                have V296 := (V294.other W295 (Nat.ne_of_lt (Nat.lt_of_lt_of_le V287.lt (Nat.le_of_eq g282.symm))))
                refine g_caload C V296 d_method_2_code_281 ⟨by decide, by decide⟩ (v := (.int c5)) rfl ?_
                refine g_castore C V295 (List.mem_of_getElem? (i := 0) rfl) d_method_2_code_282 ⟨by decide, by decide⟩ 5 rfl (Nat.le_of_ble_eq_true rfl) ?_
                intro h297 W297 V297
                rw [nar_ch8 h_c5] at V297
                replace V297 : Arv Z h297 b282 ka282 .char (7 : Int32) [(.int c0), (.int c1), (.int c2), (.int c3), (.int c4), (.int c5), (.int (0 : Int32))] (.int (0 : Int32)) := V297
                refine g_dup C d_method_2_code_283 rfl ?_
                refine g_bipush C 6 d_method_2_code_284 rfl ?_
                refine g_aloadN C d_method_2_code_286 rfl rfl ?_
                refine g_bipush C 6 d_method_2_code_287 rfl ?_
                have V298 := (V296.other W297 (Nat.ne_of_lt (Nat.lt_of_lt_of_le V287.lt (Nat.le_of_eq g282.symm))))
                refine g_caload C V298 d_method_2_code_289 ⟨by decide, by decide⟩ (v := (.int c6)) rfl ?_
                refine g_castore C V297 (List.mem_of_getElem? (i := 0) rfl) d_method_2_code_290 ⟨by decide, by decide⟩ 6 rfl (Nat.le_of_ble_eq_true rfl) ?_
                intro h299 W299 V299
                rw [nar_ch8 h_c6] at V299
                replace V299 : Arv Z h299 b282 ka282 .char (7 : Int32) [(.int c0), (.int c1), (.int c2), (.int c3), (.int c4), (.int c5), (.int c6)] (.int (0 : Int32)) := V299
                have K300 : Keep h281 h282 [] := (Keep.refl h281 []).ext E282
                have K301 : Keep h281 h286 [] := K300.wr W286 (Or.inr (Nat.le_of_eq g282.symm))
                have K302 : Keep h281 h289 [] := K301.wr W289 (Or.inr (Nat.le_of_eq g282.symm))
                have K303 : Keep h281 h291 [] := K302.wr W291 (Or.inr (Nat.le_of_eq g282.symm))
                have K304 : Keep h281 h293 [] := K303.wr W293 (Or.inr (Nat.le_of_eq g282.symm))
                have K305 : Keep h281 h295 [] := K304.wr W295 (Or.inr (Nat.le_of_eq g282.symm))
                have K306 : Keep h281 h297 [] := K305.wr W297 (Or.inr (Nat.le_of_eq g282.symm))
                have K307 : Keep h281 h299 [] := K306.wr W299 (Or.inr (Nat.le_of_eq g282.symm))
                have E308 := (A281.keep K307)
                have F309 := ((D281 (Or.inr (C.hw w_34)) (ty := (.array .byte)) (by decide)).keep K307 nin0)
                have F310 := ((D281 (Or.inr (C.hw w_32)) (ty := .byte) (by decide)).keep K307 nin0)
                have K311 : Keep h0 h286 [] := K284.wr W286 (Or.inr (Nat.le_trans K283.1 (Nat.le_of_eq g282.symm)))
                have K312 : Keep h0 h289 [] := K311.wr W289 (Or.inr (Nat.le_trans K283.1 (Nat.le_of_eq g282.symm)))
                have K313 : Keep h0 h291 [] := K312.wr W291 (Or.inr (Nat.le_trans K283.1 (Nat.le_of_eq g282.symm)))
                have K314 : Keep h0 h293 [] := K313.wr W293 (Or.inr (Nat.le_trans K283.1 (Nat.le_of_eq g282.symm)))
                have K315 : Keep h0 h295 [] := K314.wr W295 (Or.inr (Nat.le_trans K283.1 (Nat.le_of_eq g282.symm)))
                have K316 : Keep h0 h297 [] := K315.wr W297 (Or.inr (Nat.le_trans K283.1 (Nat.le_of_eq g282.symm)))
                have K317 : Keep h0 h299 [] := K316.wr W299 (Or.inr (Nat.le_trans K283.1 (Nat.le_of_eq g282.symm)))
                refine g_special C (a := b281) w_9 w_10 w_11 rfl (by decide) [(.ref b282)] (ct_newS hEL hw (cs := [c0, c1, c2, c3, c4, c5, c6]) (n := 7) E308 F309 F310 V299 (Sta_keep Szc K317) hzc rfl (by decide) (by decide) (own_allc h_c0 (own_allc h_c1 (own_allc h_c2 (own_allc h_c3 (own_allc h_c4 (own_allc h_c5 (own_allc h_c6 (fun _ q => nomatch q))))))))) (allS (List.mem_of_getElem? (i := 1) rfl) all0) (by decide) 1 (by decide) rfl pd___C_V rfl [(.ref b281)] rfl (Nat.le_of_eq rfl) d_method_2_code_291 (by decide) (by decide) ?_
                intro v318 h318 Q318
                obtain ⟨rfl, KC318, t318, kb318, ht318, htx318, S318⟩ := Q318
                refine g_areturn C hEL (t := (.object "java/lang/String")) rfl rfl rfl d_method_2_code_294 (by decide) (by decide) ?_
                have K319 : Keep h0 h318 [] := K317.trans KC318 (allS (Or.inr (Nat.le_of_eq g281.symm)) all0)
                exact ⟨b281, t318, kb318, rfl, K319, (Nat.le_of_eq g281.symm), by simpa [mk7, hc115, hc126, hc141, hc161, hc185, hc213, hc245] using S318⟩
theorem d_prog_1_method_1_code_0 : decode prog_1_method_1_code 0 = .ok (.getstatic 10, 3) := by decide +kernel
theorem d_prog_1_method_1_code_3 : decode prog_1_method_1_code 3 = .ok (.invokevirtual 14, 3) := by decide +kernel
theorem d_prog_1_method_1_code_6 : decode prog_1_method_1_code 6 = .ok (.checkcast 15, 3) := by decide +kernel
theorem d_prog_1_method_1_code_9 : decode prog_1_method_1_code 9 = .ok (.areturn, 1) := by decide +kernel
theorem pn_com_example_xml_retrieval_scoring_xmlretrievalscoring_AssessmentLayout : plainName "com/example/xml_retrieval_scoring/xmlretrievalscoring/AssessmentLayout" = true := by first | (simp [plainName, overriddenIn]; done) | decide +kernel
set_option maxRecDepth 65536 in
set_option maxHeartbeats 40000000 in
theorem rm_val (l : Launch) (Z : State) (a0 : Array Value) (hw : ∀ d ∈ tables_1, d.before a0 Z = true) (hEL : EW Z a0 consts_1) {ws : List Jvm.Cond} (va l4 l5 : Addr) (kv : ClassId) (h0 : Heap) (n0 : Nat) (Sva : Sta Z h0 "com/example/xml_retrieval_scoring/xmlretrievalscoring/AssessmentLayout" "$VALUES" "[Lcom/example/xml_retrieval_scoring/xmlretrievalscoring/AssessmentLayout;" (.ref va)) (Vva : Arv Z h0 va kv (.object "com/example/xml_retrieval_scoring/xmlretrievalscoring/AssessmentLayout") (2 : Int32) [(.ref l4), (.ref l5)] .null) (Eva : Exa Z h0 va "[Lcom/example/xml_retrieval_scoring/xmlretrievalscoring/AssessmentLayout;") :
    Met l Z consts_1 (⟨"com/example/xml_retrieval_scoring/xmlretrievalscoring/AssessmentLayout", "values", "()[Lcom/example/xml_retrieval_scoring/xmlretrievalscoring/AssessmentLayout;"⟩ : MethodName) prog_1_method_1_code 0 (some (.array (.object "com/example/xml_retrieval_scoring/xmlretrievalscoring/AssessmentLayout"))) ws ({ frames := 1, cells := 1, slots := 2, locals := 14 } : Room) [] #[] h0 n0 (nq (fun v h => ∃ b, v = some (.ref b) ∧ Keep h0 h [] ∧ h0.size ≤ b ∧ Arv Z h b kv (.object "com/example/xml_retrieval_scoring/xmlretrievalscoring/AssessmentLayout") (2 : Int32) [(.ref l4), (.ref l5)] .null)) := by
  refine met_of (plainFor_of_name pn_com_example_xml_retrieval_scoring_xmlretrievalscoring_AssessmentLayout) hw #[] (fun m => by first | rfl | (simp [entryFrame, mkF, argsToLocals, Value.category]; done)) ?_
  intro p e s m below meth c C0
  have C : Cx Z a0 tables_1 p s m meth c "com/example/xml_retrieval_scoring/xmlretrievalscoring/AssessmentLayout" "values" prog_1_method_1_code 0 (some (.array (.object "com/example/xml_retrieval_scoring/xmlretrievalscoring/AssessmentLayout"))) n0 := C0
  refine g_getstatic C w_56 Via.refl Sva d_prog_1_method_1_code_0 ?_
  refine g_clone C w_58 w_59 w_63 w_61 w_62 w_64 Vva Eva rfl d_prog_1_method_1_code_3 (by decide) 0 (Nat.le_of_eq rfl) (by decide) 2 (by decide) (by decide) (by decide) ?_
  intro b320 h320 g320 E320 V320 A320
  refine g_checkcast C w_68 (Ins.self A320) d_prog_1_method_1_code_6 ?_
  refine g_areturn C hEL (t := (.array (.object "com/example/xml_retrieval_scoring/xmlretrievalscoring/AssessmentLayout"))) rfl rfl rfl d_prog_1_method_1_code_9 (by decide) (by decide) ?_
  have K321 : Keep h0 h320 [] := (Keep.refl h0 []).ext E320
  exact ⟨b320, rfl, K321, (Nat.le_of_eq g320.symm), V320⟩
theorem d_prog_1_method_7_code_0 : decode prog_1_method_7_code 0 = .ok (.aconst_null, 1) := by decide +kernel
theorem d_prog_1_method_7_code_1 : decode prog_1_method_7_code 1 = .ok (.astore_n 1, 1) := by decide +kernel
theorem d_prog_1_method_7_code_2 : decode prog_1_method_7_code 2 = .ok (.invokestatic 42, 3) := by decide +kernel
theorem d_prog_1_method_7_code_5 : decode prog_1_method_7_code 5 = .ok (.astore_n 2, 1) := by decide +kernel
theorem d_prog_1_method_7_code_6 : decode prog_1_method_7_code 6 = .ok (.aload_n 2, 1) := by decide +kernel
theorem d_prog_1_method_7_code_7 : decode prog_1_method_7_code 7 = .ok (.arraylength, 1) := by decide +kernel
theorem d_prog_1_method_7_code_8 : decode prog_1_method_7_code 8 = .ok (.istore_n 3, 1) := by decide +kernel
theorem d_prog_1_method_7_code_9 : decode prog_1_method_7_code 9 = .ok (.iconst 0, 1) := by decide +kernel
theorem d_prog_1_method_7_code_10 : decode prog_1_method_7_code 10 = .ok (.istore 4, 2) := by decide +kernel
theorem d_prog_1_method_7_code_12 : decode prog_1_method_7_code 12 = .ok (.iload 4, 2) := by decide +kernel
theorem d_prog_1_method_7_code_14 : decode prog_1_method_7_code 14 = .ok (.iload_n 3, 1) := by decide +kernel
theorem d_prog_1_method_7_code_15 : decode prog_1_method_7_code 15 = .ok (.if_icmp .ge 30, 3) := by decide +kernel
theorem d_prog_1_method_7_code_18 : decode prog_1_method_7_code 18 = .ok (.aload_n 2, 1) := by decide +kernel
theorem d_prog_1_method_7_code_19 : decode prog_1_method_7_code 19 = .ok (.iload 4, 2) := by decide +kernel
theorem d_prog_1_method_7_code_21 : decode prog_1_method_7_code 21 = .ok (.aaload, 1) := by decide +kernel
theorem d_prog_1_method_7_code_22 : decode prog_1_method_7_code 22 = .ok (.astore 5, 2) := by decide +kernel
theorem d_prog_1_method_7_code_24 : decode prog_1_method_7_code 24 = .ok (.aload 5, 2) := by decide +kernel
theorem d_prog_1_method_7_code_26 : decode prog_1_method_7_code 26 = .ok (.getfield 36, 3) := by decide +kernel
theorem d_prog_1_method_7_code_29 : decode prog_1_method_7_code 29 = .ok (.aload_n 0, 1) := by decide +kernel
theorem d_prog_1_method_7_code_30 : decode prog_1_method_7_code 30 = .ok (.invokevirtual 46, 3) := by decide +kernel
theorem d_prog_1_method_7_code_33 : decode prog_1_method_7_code 33 = .ok (.ifCond .eq 6, 3) := by decide +kernel
theorem d_prog_1_method_7_code_36 : decode prog_1_method_7_code 36 = .ok (.aload 5, 2) := by decide +kernel
theorem d_prog_1_method_7_code_38 : decode prog_1_method_7_code 38 = .ok (.astore_n 1, 1) := by decide +kernel
theorem d_prog_1_method_7_code_39 : decode prog_1_method_7_code 39 = .ok (.iinc 4 1, 3) := by decide +kernel
theorem d_prog_1_method_7_code_42 : decode prog_1_method_7_code 42 = .ok (.goto (-30), 3) := by decide +kernel
theorem d_prog_1_method_7_code_45 : decode prog_1_method_7_code 45 = .ok (.aload_n 1, 1) := by decide +kernel
theorem d_prog_1_method_7_code_46 : decode prog_1_method_7_code 46 = .ok (.areturn, 1) := by decide +kernel
theorem pd____Lcom_example_xml_retrieval_scoring_xmlretrievalscoring_AssessmentLayout_ : parseMethodDescriptor "()[Lcom/example/xml_retrieval_scoring/xmlretrievalscoring/AssessmentLayout;" = some ⟨[], some (.array (.object "com/example/xml_retrieval_scoring/xmlretrievalscoring/AssessmentLayout"))⟩ := by decide +kernel
theorem pd__Ljava_lang_Object__Z : parseMethodDescriptor "(Ljava/lang/Object;)Z" = some ⟨[(.object "java/lang/Object")], some .boolean⟩ := by decide +kernel
set_option maxRecDepth 65536 in
set_option maxHeartbeats 40000000 in
theorem rm_of (l : Launch) (Z : State) (a0 : Array Value) (hw : ∀ d ∈ tables_1, d.before a0 Z = true) (hEL : EW Z a0 consts_1) {ws : List Jvm.Cond} (s ts va l4 l5 s4 s5 t4 t5 : Addr) (ks kv k4 k5 : ClassId) (cs : List Int32) (zc : Int32) (h0 : Heap) (n0 : Nat) (S0 : Str Z h0 s ts ks cs) (Sva : Sta Z h0 "com/example/xml_retrieval_scoring/xmlretrievalscoring/AssessmentLayout" "$VALUES" "[Lcom/example/xml_retrieval_scoring/xmlretrievalscoring/AssessmentLayout;" (.ref va)) (Vva : Arv Z h0 va kv (.object "com/example/xml_retrieval_scoring/xmlretrievalscoring/AssessmentLayout") (2 : Int32) [(.ref l4), (.ref l5)] .null) (Eva : Exa Z h0 va "[Lcom/example/xml_retrieval_scoring/xmlretrievalscoring/AssessmentLayout;") (El4 : Exa Z h0 l4 "com/example/xml_retrieval_scoring/xmlretrievalscoring/AssessmentLayout") (El5 : Exa Z h0 l5 "com/example/xml_retrieval_scoring/xmlretrievalscoring/AssessmentLayout") (Fl4 : Fld Z h0 l4 "com/example/xml_retrieval_scoring/xmlretrievalscoring/AssessmentLayout" "recordElement" "Ljava/lang/String;" (.ref s4)) (Fl5 : Fld Z h0 l5 "com/example/xml_retrieval_scoring/xmlretrievalscoring/AssessmentLayout" "recordElement" "Ljava/lang/String;" (.ref s5)) (S4 : Str Z h0 s4 t4 k4 [112, 97, 116, 104]) (S5 : Str Z h0 s5 t5 k5 [101, 108, 101, 109, 101, 110, 116]) (Szc : Sta Z h0 "java/lang/String" "COMPACT_STRINGS" "Z" (.int zc)) (hzc : ¬ (zc = (0 : Int32))) :
    Met l Z consts_1 (⟨"com/example/xml_retrieval_scoring/xmlretrievalscoring/AssessmentLayout", "ofRecord", "(Ljava/lang/String;)Lcom/example/xml_retrieval_scoring/xmlretrievalscoring/AssessmentLayout;"⟩ : MethodName) prog_1_method_7_code 6 (some (.object "com/example/xml_retrieval_scoring/xmlretrievalscoring/AssessmentLayout")) ws ({ frames := 2, cells := 1, slots := 2, locals := 50 } : Room) [] #[(.ref s)] h0 n0 (nq (fun v h => v = some (if [101, 108, 101, 109, 101, 110, 116] = cs then .ref l5 else if [112, 97, 116, 104] = cs then .ref l4 else .null) ∧ Keep h0 h [])) := by
  refine met_of (plainFor_of_name pn_com_example_xml_retrieval_scoring_xmlretrievalscoring_AssessmentLayout) hw #[.val (.ref s), .unset, .unset, .unset, .unset, .unset] (fun m => by first | rfl | (simp [entryFrame, mkF, argsToLocals, Value.category]; done)) ?_
  intro p e sT m below meth c C0
  have C : Cx Z a0 tables_1 p sT m meth c "com/example/xml_retrieval_scoring/xmlretrievalscoring/AssessmentLayout" "ofRecord" prog_1_method_7_code 6 (some (.object "com/example/xml_retrieval_scoring/xmlretrievalscoring/AssessmentLayout")) n0 := C0
  refine g_aconst_null C d_prog_1_method_7_code_0 ?_
  refine g_astoreN C #[.val (.ref s), .val .null, .unset, .unset, .unset, .unset] d_prog_1_method_7_code_1 rfl rfl ?_
  refine g_static C w_53 w_54 w_51 w_55 (by decide) [] (ct_of hEL hw w_55 w_51 (rm_val l Z a0 hw hEL va l4 l5 _ h0 n0 Sva Vva Eva)) all0 (by decide) 0 (by decide) rfl pd____Lcom_example_xml_retrieval_scoring_xmlretrievalscoring_AssessmentLayout_ rfl [] rfl (Nat.le_of_eq rfl) d_prog_1_method_7_code_2 (by decide) (by decide) ?_
  intro v322 h322 Q322
  obtain ⟨b322, rfl, KC322, le322, V322⟩ := Q322
  refine g_astoreN C #[.val (.ref s), .val .null, .val (.ref b322), .unset, .unset, .unset] d_prog_1_method_7_code_5 rfl rfl ?_
  refine g_aloadN C d_prog_1_method_7_code_6 rfl rfl ?_
  refine g_arraylength C V322 d_prog_1_method_7_code_7 ?_
  refine g_istoreN C #[.val (.ref s), .val .null, .val (.ref b322), .val (.int (2 : Int32)), .unset, .unset] d_prog_1_method_7_code_8 rfl ?_
  refine g_iconst C 0 d_prog_1_method_7_code_9 rfl ?_
  refine g_istore C #[.val (.ref s), .val .null, .val (.ref b322), .val (.int (2 : Int32)), .val (.int (0 : Int32)), .unset] d_prog_1_method_7_code_10 rfl ?_
  refine g_iload C d_prog_1_method_7_code_12 rfl ?_
  refine g_iloadN C d_prog_1_method_7_code_14 rfl ?_
  refine g_icmp_f C d_prog_1_method_7_code_15 (XT.ii_ge_f (by decide)) ?_
  refine g_aloadN C d_prog_1_method_7_code_18 rfl rfl ?_
  refine g_iload C d_prog_1_method_7_code_19 rfl ?_
  refine g_aaload C V322 rfl d_prog_1_method_7_code_21 ⟨by decide, by decide⟩ (v := (.ref l4)) rfl ?_
  refine g_astore C #[.val (.ref s), .val .null, .val (.ref b322), .val (.int (2 : Int32)), .val (.int (0 : Int32)), .val (.ref l4)] d_prog_1_method_7_code_22 rfl rfl ?_
  refine g_aload C d_prog_1_method_7_code_24 rfl rfl ?_
  have K323 : Keep h0 h322 [] := (Keep.refl h0 []).trans KC322 all0
  have F324 := (Fl4.keep K323 nin0)
  refine g_getfield C w_70 Via.refl F324 d_prog_1_method_7_code_26 ?_
  refine g_aloadN C d_prog_1_method_7_code_29 rfl rfl ?_
  have S325 := (S4.keep K323 nin0 nin0)
  have S326 := (S0.keep K323 nin0 nin0)
  have E328 := (S4.1.keep K323)
  refine g_virtual C E328 w_72 w_39 (fun hZ => nf_sel hw w_41 hZ) w_41 w_40 (by decide) [(.ref s)] (ct_eq hEL hw S325 S326 (Sta_keep Szc K323) hzc) all0 (by decide) 0 (by decide) rfl pd__Ljava_lang_Object__Z rfl [] rfl (Nat.le_of_eq rfl) d_prog_1_method_7_code_30 (by decide) (by decide) ?_
  intro v327 h327 Q327
  obtain ⟨rfl, e327⟩ := Q327
  replace e327 := e327.symm
  subst e327
  by_cases hc329 : [112, 97, 116, 104] = cs
  · refine g_if_f C d_prog_1_method_7_code_33 (XT.i0_eq_f (by rw [if_pos hc329]; decide)) ?_
    refine g_aload C d_prog_1_method_7_code_36 rfl rfl ?_
    refine g_astoreN C #[.val (.ref s), .val (.ref l4), .val (.ref b322), .val (.int (2 : Int32)), .val (.int (0 : Int32)), .val (.ref l4)] d_prog_1_method_7_code_38 rfl rfl ?_
    refine g_iinc C 1 #[.val (.ref s), .val (.ref l4), .val (.ref b322), .val (.int (2 : Int32)), .val (.int ((0 : Int32) + (1 : Int32))), .val (.ref l4)] d_prog_1_method_7_code_39 rfl rfl rfl ?_
    rw [show ((0 : Int32) + (1 : Int32)) = (1 : Int32) from by decide]
    refine g_goto C 12 d_prog_1_method_7_code_42 (by decide) (by decide) ?_
    refine g_iload C d_prog_1_method_7_code_12 rfl ?_
    refine g_iloadN C d_prog_1_method_7_code_14 rfl ?_
    refine g_icmp_f C d_prog_1_method_7_code_15 (XT.ii_ge_f (by decide)) ?_
    refine g_aloadN C d_prog_1_method_7_code_18 rfl rfl ?_
    refine g_iload C d_prog_1_method_7_code_19 rfl ?_
    refine g_aaload C V322 rfl d_prog_1_method_7_code_21 ⟨by decide, by decide⟩ (v := (.ref l5)) rfl ?_
    refine g_astore C #[.val (.ref s), .val (.ref l4), .val (.ref b322), .val (.int (2 : Int32)), .val (.int (1 : Int32)), .val (.ref l5)] d_prog_1_method_7_code_22 rfl rfl ?_
    refine g_aload C d_prog_1_method_7_code_24 rfl rfl ?_
    have F330 := (Fl5.keep K323 nin0)
    refine g_getfield C w_70 Via.refl F330 d_prog_1_method_7_code_26 ?_
    refine g_aloadN C d_prog_1_method_7_code_29 rfl rfl ?_
    have S331 := (S5.keep K323 nin0 nin0)
    have E333 := (S5.1.keep K323)
    refine g_virtual C E333 w_72 w_39 (fun hZ => nf_sel hw w_41 hZ) w_41 w_40 (by decide) [(.ref s)] (ct_eq hEL hw S331 S326 (Sta_keep Szc K323) hzc) all0 (by decide) 0 (by decide) rfl pd__Ljava_lang_Object__Z rfl [] rfl (Nat.le_of_eq rfl) d_prog_1_method_7_code_30 (by decide) (by decide) ?_
    intro v332 h332 Q332
    obtain ⟨rfl, e332⟩ := Q332
    replace e332 := e332.symm
    subst e332
    by_cases hc334 : [101, 108, 101, 109, 101, 110, 116] = cs
    · refine g_if_f C d_prog_1_method_7_code_33 (XT.i0_eq_f (by rw [if_pos hc334]; decide)) ?_
      refine g_aload C d_prog_1_method_7_code_36 rfl rfl ?_
      refine g_astoreN C #[.val (.ref s), .val (.ref l5), .val (.ref b322), .val (.int (2 : Int32)), .val (.int (1 : Int32)), .val (.ref l5)] d_prog_1_method_7_code_38 rfl rfl ?_
      refine g_iinc C 1 #[.val (.ref s), .val (.ref l5), .val (.ref b322), .val (.int (2 : Int32)), .val (.int ((1 : Int32) + (1 : Int32))), .val (.ref l5)] d_prog_1_method_7_code_39 rfl rfl rfl ?_
      rw [show ((1 : Int32) + (1 : Int32)) = (2 : Int32) from by decide]
      refine g_goto C 12 d_prog_1_method_7_code_42 (by decide) (by decide) ?_
      refine g_iload C d_prog_1_method_7_code_12 rfl ?_
      refine g_iloadN C d_prog_1_method_7_code_14 rfl ?_
      refine g_icmp_t C 45 d_prog_1_method_7_code_15 (XT.ii_ge_t (by decide)) (by decide) (by decide) ?_
      refine g_aloadN C d_prog_1_method_7_code_45 rfl rfl ?_
      refine g_areturn C hEL (t := (.object "com/example/xml_retrieval_scoring/xmlretrievalscoring/AssessmentLayout")) rfl rfl rfl d_prog_1_method_7_code_46 (by decide) (by decide) ?_
      exact ⟨by simp [hc329, hc334], K323⟩
    · refine g_if_t C 39 d_prog_1_method_7_code_33 (XT.i0_eq_t (if_neg hc334)) (by decide) (by decide) ?_
      refine g_iinc C 1 #[.val (.ref s), .val (.ref l4), .val (.ref b322), .val (.int (2 : Int32)), .val (.int ((1 : Int32) + (1 : Int32))), .val (.ref l5)] d_prog_1_method_7_code_39 rfl rfl rfl ?_
      rw [show ((1 : Int32) + (1 : Int32)) = (2 : Int32) from by decide]
      refine g_goto C 12 d_prog_1_method_7_code_42 (by decide) (by decide) ?_
      refine g_iload C d_prog_1_method_7_code_12 rfl ?_
      refine g_iloadN C d_prog_1_method_7_code_14 rfl ?_
      refine g_icmp_t C 45 d_prog_1_method_7_code_15 (XT.ii_ge_t (by decide)) (by decide) (by decide) ?_
      refine g_aloadN C d_prog_1_method_7_code_45 rfl rfl ?_
      refine g_areturn C hEL (t := (.object "com/example/xml_retrieval_scoring/xmlretrievalscoring/AssessmentLayout")) rfl rfl rfl d_prog_1_method_7_code_46 (by decide) (by decide) ?_
      exact ⟨by simp [hc329, hc334], K323⟩
  · refine g_if_t C 39 d_prog_1_method_7_code_33 (XT.i0_eq_t (if_neg hc329)) (by decide) (by decide) ?_
    refine g_iinc C 1 #[.val (.ref s), .val .null, .val (.ref b322), .val (.int (2 : Int32)), .val (.int ((0 : Int32) + (1 : Int32))), .val (.ref l4)] d_prog_1_method_7_code_39 rfl rfl rfl ?_
    rw [show ((0 : Int32) + (1 : Int32)) = (1 : Int32) from by decide]
    refine g_goto C 12 d_prog_1_method_7_code_42 (by decide) (by decide) ?_
    refine g_iload C d_prog_1_method_7_code_12 rfl ?_
    refine g_iloadN C d_prog_1_method_7_code_14 rfl ?_
    refine g_icmp_f C d_prog_1_method_7_code_15 (XT.ii_ge_f (by decide)) ?_
    refine g_aloadN C d_prog_1_method_7_code_18 rfl rfl ?_
    refine g_iload C d_prog_1_method_7_code_19 rfl ?_
    refine g_aaload C V322 rfl d_prog_1_method_7_code_21 ⟨by decide, by decide⟩ (v := (.ref l5)) rfl ?_
    refine g_astore C #[.val (.ref s), .val .null, .val (.ref b322), .val (.int (2 : Int32)), .val (.int (1 : Int32)), .val (.ref l5)] d_prog_1_method_7_code_22 rfl rfl ?_
    refine g_aload C d_prog_1_method_7_code_24 rfl rfl ?_
    have F335 := (Fl5.keep K323 nin0)
    refine g_getfield C w_70 Via.refl F335 d_prog_1_method_7_code_26 ?_
    refine g_aloadN C d_prog_1_method_7_code_29 rfl rfl ?_
    have S336 := (S5.keep K323 nin0 nin0)
    have E338 := (S5.1.keep K323)
    refine g_virtual C E338 w_72 w_39 (fun hZ => nf_sel hw w_41 hZ) w_41 w_40 (by decide) [(.ref s)] (ct_eq hEL hw S336 S326 (Sta_keep Szc K323) hzc) all0 (by decide) 0 (by decide) rfl pd__Ljava_lang_Object__Z rfl [] rfl (Nat.le_of_eq rfl) d_prog_1_method_7_code_30 (by decide) (by decide) ?_
    intro v337 h337 Q337
    obtain ⟨rfl, e337⟩ := Q337
    replace e337 := e337.symm
    subst e337
    by_cases hc339 : [101, 108, 101, 109, 101, 110, 116] = cs
    · refine g_if_f C d_prog_1_method_7_code_33 (XT.i0_eq_f (by rw [if_pos hc339]; decide)) ?_
      refine g_aload C d_prog_1_method_7_code_36 rfl rfl ?_
      refine g_astoreN C #[.val (.ref s), .val (.ref l5), .val (.ref b322), .val (.int (2 : Int32)), .val (.int (1 : Int32)), .val (.ref l5)] d_prog_1_method_7_code_38 rfl rfl ?_
      refine g_iinc C 1 #[.val (.ref s), .val (.ref l5), .val (.ref b322), .val (.int (2 : Int32)), .val (.int ((1 : Int32) + (1 : Int32))), .val (.ref l5)] d_prog_1_method_7_code_39 rfl rfl rfl ?_
      rw [show ((1 : Int32) + (1 : Int32)) = (2 : Int32) from by decide]
      refine g_goto C 12 d_prog_1_method_7_code_42 (by decide) (by decide) ?_
      refine g_iload C d_prog_1_method_7_code_12 rfl ?_
      refine g_iloadN C d_prog_1_method_7_code_14 rfl ?_
      refine g_icmp_t C 45 d_prog_1_method_7_code_15 (XT.ii_ge_t (by decide)) (by decide) (by decide) ?_
      refine g_aloadN C d_prog_1_method_7_code_45 rfl rfl ?_
      refine g_areturn C hEL (t := (.object "com/example/xml_retrieval_scoring/xmlretrievalscoring/AssessmentLayout")) rfl rfl rfl d_prog_1_method_7_code_46 (by decide) (by decide) ?_
      exact ⟨by simp [hc329, hc339], K323⟩
    · refine g_if_t C 39 d_prog_1_method_7_code_33 (XT.i0_eq_t (if_neg hc339)) (by decide) (by decide) ?_
      refine g_iinc C 1 #[.val (.ref s), .val .null, .val (.ref b322), .val (.int (2 : Int32)), .val (.int ((1 : Int32) + (1 : Int32))), .val (.ref l5)] d_prog_1_method_7_code_39 rfl rfl rfl ?_
      rw [show ((1 : Int32) + (1 : Int32)) = (2 : Int32) from by decide]
      refine g_goto C 12 d_prog_1_method_7_code_42 (by decide) (by decide) ?_
      refine g_iload C d_prog_1_method_7_code_12 rfl ?_
      refine g_iloadN C d_prog_1_method_7_code_14 rfl ?_
      refine g_icmp_t C 45 d_prog_1_method_7_code_15 (XT.ii_ge_t (by decide)) (by decide) (by decide) ?_
      refine g_aloadN C d_prog_1_method_7_code_45 rfl rfl ?_
      refine g_areturn C hEL (t := (.object "com/example/xml_retrieval_scoring/xmlretrievalscoring/AssessmentLayout")) rfl rfl rfl d_prog_1_method_7_code_46 (by decide) (by decide) ?_
      exact ⟨by simp [hc329, hc339], K323⟩
theorem own_and3 (x : Int32) : x &&& 3 = 0 ∨ x &&& 3 = 1 ∨ x &&& 3 = 2 ∨ x &&& 3 = 3 := by
  have h : (x &&& 3).toBitVec.toNat < 4 := by
    simp only [Int32.toBitVec_and, BitVec.toNat_and]
    exact Nat.lt_succ_of_le Nat.and_le_right
  have e : (x &&& 3) = Int32.ofNat (x &&& 3).toBitVec.toNat := by
    apply Int32.toBitVec_inj.mp
    show _ = BitVec.ofNat 32 _
    rw [BitVec.ofNat_toNat]; simp
  rw [e]
  exact (by decide +kernel : ∀ k : Fin 4, Int32.ofNat k.val = 0 ∨ Int32.ofNat k.val = 1 ∨ Int32.ofNat k.val = 2 ∨ Int32.ofNat k.val = 3) ⟨_, h⟩
theorem own_and_nn (x : Int32) : ¬ (x &&& (2147483647 : Int32)) < 0 := by
  rw [XT.and_neg32]; exact fun q => absurd q.2 (by decide)
theorem own_mod (x y : Int32) (hx : ¬ x < 0) (hy : (0 : Int32) < y) : ¬ x % y < 0 ∧ x % y < y := by
  rw [Int32.lt_iff_toInt_lt] at hx hy
  have e0 : (0 : Int32).toInt = 0 := rfl
  simp only [Int32.lt_iff_toInt_lt, Int32.toInt_mod, e0] at *
  have h1 := Int.tmod_nonneg (a := x.toInt) y.toInt (by omega)
  have h2 := Int.tmod_lt_of_pos x.toInt (b := y.toInt) hy
  omega
theorem own_seven {j : Int32} (h : ¬ j < 0 ∧ j < 7) : j = 0 ∨ j = 1 ∨ j = 2 ∨ j = 3 ∨ j = 4 ∨ j = 5 ∨ j = 6 := by
  obtain ⟨h1, h2⟩ := h
  rw [Int32.lt_iff_toInt_lt] at h1 h2
  have e0 : (0 : Int32).toInt = 0 := rfl
  have e7 : (7 : Int32).toInt = 7 := rfl
  simp only [← Int32.toInt_inj, e0, show (1 : Int32).toInt = 1 from rfl, show (2 : Int32).toInt = 2 from rfl, show (3 : Int32).toInt = 3 from rfl, show (4 : Int32).toInt = 4 from rfl, show (5 : Int32).toInt = 5 from rfl, show (6 : Int32).toInt = 6 from rfl]
  omega
theorem own_lt7 {j : Int32} (h : ¬ j < 0 ∧ j < 4) : ¬ j < 0 ∧ j < 7 := by
  refine ⟨h.1, ?_⟩
  have h2 := h.2
  rw [Int32.lt_iff_toInt_lt] at *
  have e4 : (4 : Int32).toInt = 4 := rfl
  have e7 : (7 : Int32).toInt = 7 := rfl
  omega
theorem own_set7 {j r : Int32} (hj : ¬ j < 0 ∧ j < 7) (c0 c1 c2 c3 c4 c5 c6 : Int32) : ([.int c0, .int c1, .int c2, .int c3, .int c4, .int c5, .int c6] : List Value).set j.toNatClampNeg (.int r) = [.int (if j = 0 then r else c0), .int (if j = 1 then r else c1), .int (if j = 2 then r else c2), .int (if j = 3 then r else c3), .int (if j = 4 then r else c4), .int (if j = 5 then r else c5), .int (if j = 6 then r else c6)] := by
  rcases own_seven hj with rfl | rfl | rfl | rfl | rfl | rfl | rfl <;> rfl
theorem own_ch8_ite {P : Prop} [Decidable P] {a b : Int32} (ha : Ch8 a) (hb : Ch8 b) : Ch8 (if P then a else b) := by
  split
  · exact ha
  · exact hb

theorem pd__Ljava_lang_String__Lcom_example_xml_retrieval_scoring_xmlretrievalscoring_AssessmentLayout_ : parseMethodDescriptor "(Ljava/lang/String;)Lcom/example/xml_retrieval_scoring/xmlretrievalscoring/AssessmentLayout;" = some ⟨[(.object "java/lang/String")], some (.object "com/example/xml_retrieval_scoring/xmlretrievalscoring/AssessmentLayout")⟩ := by decide +kernel
theorem pd___CI_Ljava_lang_String_ : parseMethodDescriptor "([CI)Ljava/lang/String;" = some ⟨[(.array .char), .int], some (.object "java/lang/String")⟩ := by decide +kernel
set_option maxRecDepth 65536 in
set_option maxHeartbeats 40000000 in
theorem rm_law (l : Launch) (Z : State) (a0 : Array Value) (hw : ∀ d ∈ tables_1, d.before a0 Z = true) (hEL : EW Z a0 consts_1) {ws : List Jvm.Cond} (i1 i2 : Int32) (i3 : Int64) (i4 i5 zc : Int32) (va l4 l5 s4 s5 t4 t5 : Addr) (kv k4 k5 : ClassId) (h0 : Heap) (n0 : Nat) (Sva : Sta Z h0 "com/example/xml_retrieval_scoring/xmlretrievalscoring/AssessmentLayout" "$VALUES" "[Lcom/example/xml_retrieval_scoring/xmlretrievalscoring/AssessmentLayout;" (.ref va)) (Vva : Arv Z h0 va kv (.object "com/example/xml_retrieval_scoring/xmlretrievalscoring/AssessmentLayout") (2 : Int32) [(.ref l4), (.ref l5)] .null) (Eva : Exa Z h0 va "[Lcom/example/xml_retrieval_scoring/xmlretrievalscoring/AssessmentLayout;") (El4 : Exa Z h0 l4 "com/example/xml_retrieval_scoring/xmlretrievalscoring/AssessmentLayout") (El5 : Exa Z h0 l5 "com/example/xml_retrieval_scoring/xmlretrievalscoring/AssessmentLayout") (Fl4 : Fld Z h0 l4 "com/example/xml_retrieval_scoring/xmlretrievalscoring/AssessmentLayout" "recordElement" "Ljava/lang/String;" (.ref s4)) (Fl5 : Fld Z h0 l5 "com/example/xml_retrieval_scoring/xmlretrievalscoring/AssessmentLayout" "recordElement" "Ljava/lang/String;" (.ref s5)) (S4 : Str Z h0 s4 t4 k4 [112, 97, 116, 104]) (S5 : Str Z h0 s5 t5 k5 [101, 108, 101, 109, 101, 110, 116]) (Szc : Sta Z h0 "java/lang/String" "COMPACT_STRINGS" "Z" (.int zc)) (hzc : ¬ (zc = (0 : Int32))) (Sa4 : Sta Z h0 "com/example/xml_retrieval_scoring/xmlretrievalscoring/AssessmentLayout" "INEX_2004" "Lcom/example/xml_retrieval_scoring/xmlretrievalscoring/AssessmentLayout;" (.ref l4)) (Sa5 : Sta Z h0 "com/example/xml_retrieval_scoring/xmlretrievalscoring/AssessmentLayout" "INEX_2005" "Lcom/example/xml_retrieval_scoring/xmlretrievalscoring/AssessmentLayout;" (.ref l5)) :
    Met l Z consts_1 x code maxLocals ret ws room_1 [] #[(.int i1), (.int i2), (.long i3), (.int i4), (.int i5)] h0 n0 (nq (fun v _ => v = some (.int 1))) := by
  refine met_of (plainFor_of_name pn_com_example_xml_retrieval_scoring_xmlretrievalscoring_AssessmentLayoutOfRecordPinLaw) hw #[.val (.int i1), .val (.int i2), .val (.long i3), .second, .val (.int i4), .val (.int i5), .unset, .unset, .unset, .unset, .unset] (fun m => by first | rfl | (simp [entryFrame, mkF, argsToLocals, Value.category, maxLocals]; done)) ?_
  intro p e s m below meth c C0
  have C : Cx Z a0 tables_1 p s m meth c "com/example/xml_retrieval_scoring/xmlretrievalscoring/AssessmentLayoutOfRecordPinLaw" "law" code maxLocals ret n0 := C0
  refine g_iloadN C at_0 rfl ?_
  refine g_iconst C 3 at_1 rfl ?_
  refine g_iand C at_2 ?_
  refine g_istore C #[.val (.int i1), .val (.int i2), .val (.long i3), .second, .val (.int i4), .val (.int i5), .val (.int (i1 &&& (3 : Int32))), .unset, .unset, .unset, .unset] at_3 rfl ?_
  obtain ⟨mm, e_mm, h_mm⟩ : ∃ z : Int32, (i1 &&& (3 : Int32)) = z ∧ (z = 0 ∨ z = 1 ∨ z = 2 ∨ z = 3) := ⟨_, rfl, own_and3 _⟩
  rw [e_mm]
  have rest : ∀ (mm len : Int32) (h1 : Heap) (bf : Addr) (kf : ClassId) (c0 c1 c2 c3 c4 c5 c6 : Int32), Keep h0 h1 [] → Arv Z h1 bf kf .char (7 : Int32) [(.int c0), (.int c1), (.int c2), (.int c3), (.int c4), (.int c5), (.int c6)] (.int (0 : Int32)) → Ch8 c0 → Ch8 c1 → Ch8 c2 → Ch8 c3 → Ch8 c4 → Ch8 c5 → Ch8 c6 → Go Z consts_1 p l e room_1 s m #[(.int i1), (.int i2), (.long i3), (.int i4), (.int i5)] below meth c n0 (nq (fun v _ => v = some (.int 1))) [bf] h1 (0 + 1) (0 + 7) (mkF m 258 #[.val (.int i1), .val (.int i2), .val (.long i3), .second, .val (.int i4), .val (.int i5), .val (.int mm), .val (.ref bf), .val (.int len), .unset, .unset] []) := by
    intro mm len h1 bf kf c0 c1 c2 c3 c4 c5 c6 hK Vb h_c0 h_c1 h_c2 h_c3 h_c4 h_c5 h_c6
    refine g_aload C at_258 rfl rfl ?_
    refine g_iload C at_260 rfl ?_
    have K340 : Keep h0 h1 [] := (Keep.refl h0 []).trans hK all0
    refine g_static C w_2 w_3 w_4 w_5 (by decide) [(.ref bf), (.int len)] (ct_of hEL hw w_5 w_4 (rm_mk l Z a0 hw hEL bf _ len c0 c1 c2 c3 c4 c5 c6 zc h1 n0 Vb h_c0 h_c1 h_c2 h_c3 h_c4 h_c5 h_c6 (Sta_keep Szc K340) hzc)) all0 (by decide) 0 (by decide) rfl pd___CI_Ljava_lang_String_ rfl [] rfl (Nat.le_of_eq rfl) at_262 (by decide) (by decide) ?_
    intro v341 h341 Q341
    obtain ⟨a341, t341, kb341, rfl, KC341, le341, S341⟩ := Q341
    refine g_astore C #[.val (.int i1), .val (.int i2), .val (.long i3), .second, .val (.int i4), .val (.int i5), .val (.int mm), .val (.ref bf), .val (.int len), .val (.ref a341), .unset] at_265 rfl rfl ?_
    refine g_aload C at_267 rfl rfl ?_
    refine g_ldcS C hEL w_35 own_sA (List.mem_of_getElem? (i := 0) rfl) [112, 97, 116, 104] ⟨by decide +kernel, by decide +kernel⟩ (by decide) (by decide) at_269 16 (by decide +kernel) (by decide) (by decide) (by decide) ?_
    intro a342 t342 kb342 h342 E342 S342 X342
    have K343 : Keep h341 h342 [] := (Keep.refl h341 []).ext E342
    have S344 := (S341.keep K343 nin0 nin0)
    have K345 : Keep h0 h341 [] := K340.trans KC341 all0
    have K346 : Keep h0 h342 [] := K345.ext E342
    have E348 := (S341.1.keep K343)
    refine g_virtual C E348 w_38 w_39 (fun hZ => nf_sel hw w_41 hZ) w_41 w_40 (by decide) [(.ref a342)] (ct_eq hEL hw S344 S342 (Sta_keep Szc K346) hzc) all0 (by decide) 0 (by decide) rfl pd__Ljava_lang_Object__Z rfl [] rfl (Nat.le_of_eq rfl) at_271 (by decide) (by decide) ?_
    intro v347 h347 Q347
    obtain ⟨rfl, e347⟩ := Q347
    replace e347 := e347.symm
    subst e347
    by_cases hc349 : (mk7 len c0 c1 c2 c3 c4 c5 c6) = [112, 97, 116, 104]
    · refine g_if_f C at_274 (XT.i0_eq_f (by rw [if_pos hc349]; decide)) ?_
      refine g_getstatic C w_73 Via.refl (Sta_keep Sa4 K346) at_277 ?_
      refine g_astore C #[.val (.int i1), .val (.int i2), .val (.long i3), .second, .val (.int i4), .val (.int i5), .val (.int mm), .val (.ref bf), .val (.int len), .val (.ref a341), .val (.ref l4)] at_280 rfl rfl ?_
      refine g_goto C 306 at_282 (by decide) (by decide) ?_
      refine g_aload C at_306 rfl rfl ?_
      have V350 := (Vva.keep K346 nin0)
      have E351 := (Eva.keep K346)
      have E352 := (El4.keep K346)
      have E353 := (El5.keep K346)
      have F354 := (Fl4.keep K346 nin0)
      have F355 := (Fl5.keep K346 nin0)
      have S356 := (S4.keep K346 nin0 nin0)
      have S357 := (S5.keep K346 nin0 nin0)
      refine g_static C w_49 w_50 w_51 w_52 (by decide) [(.ref a341)] (ct_of hEL hw w_52 w_51 (rm_of l Z a0 hw hEL a341 t341 va l4 l5 s4 s5 t4 t5 _ _ _ _ (mk7 len c0 c1 c2 c3 c4 c5 c6) zc h342 n0 S344 (Sta_keep Sva K346) V350 E351 E352 E353 F354 F355 S356 S357 (Sta_keep Szc K346) hzc)) all0 (by decide) 0 (by decide) rfl pd__Ljava_lang_String__Lcom_example_xml_retrieval_scoring_xmlretrievalscoring_AssessmentLayout_ rfl [] rfl (Nat.le_of_eq rfl) at_308 (by decide) (by decide) ?_
      intro v358 h358 Q358
      obtain ⟨ev358, KC358⟩ := Q358
      have ew358 : v358 = some (.ref l4) := ev358.trans (by rw [if_neg (show ¬ ([101, 108, 101, 109, 101, 110, 116] = (mk7 len c0 c1 c2 c3 c4 c5 c6)) from fun q => absurd (q.trans hc349) (by decide)), if_pos hc349.symm])
      subst ew358
      refine g_aload C at_311 rfl rfl ?_
      refine g_acmp_f C at_313 rfl rfl (XT.aa_ne_f rfl) ?_
      refine g_iconst C 1 at_316 rfl ?_
      refine g_goto C 321 at_317 (by decide) (by decide) ?_
      refine g_ireturnN C hEL (t := .boolean) rfl (by simp) at_321 (by decide) (by decide) ?_
      exact rfl
    · refine g_if_t C 285 at_274 (XT.i0_eq_t (if_neg hc349)) (by decide) (by decide) ?_
      refine g_aload C at_285 rfl rfl ?_
      refine g_ldcS C hEL w_48 own_sA (List.mem_of_getElem? (i := 1) rfl) [101, 108, 101, 109, 101, 110, 116] ⟨by decide +kernel, by decide +kernel⟩ (by decide) (by decide) at_287 28 (by decide +kernel) (by decide) (by decide) (by decide) ?_
      intro a359 t359 kb359 h359 E359 S359 X359
      have K360 : Keep h342 h359 [] := (Keep.refl h342 []).ext E359
      have S361 := (S344.keep K360 nin0 nin0)
      have K362 : Keep h0 h359 [] := K346.ext E359
      have E364 := (E348.keep K360)
      refine g_virtual C E364 w_38 w_39 (fun hZ => nf_sel hw w_41 hZ) w_41 w_40 (by decide) [(.ref a359)] (ct_eq hEL hw S361 S359 (Sta_keep Szc K362) hzc) all0 (by decide) 0 (by decide) rfl pd__Ljava_lang_Object__Z rfl [] rfl (Nat.le_of_eq rfl) at_289 (by decide) (by decide) ?_
      intro v363 h363 Q363
      obtain ⟨rfl, e363⟩ := Q363
      replace e363 := e363.symm
      subst e363
      by_cases hc365 : (mk7 len c0 c1 c2 c3 c4 c5 c6) = [101, 108, 101, 109, 101, 110, 116]
      · refine g_if_f C at_292 (XT.i0_eq_f (by rw [if_pos hc365]; decide)) ?_
        refine g_getstatic C w_75 Via.refl (Sta_keep Sa5 K362) at_295 ?_
        refine g_astore C #[.val (.int i1), .val (.int i2), .val (.long i3), .second, .val (.int i4), .val (.int i5), .val (.int mm), .val (.ref bf), .val (.int len), .val (.ref a341), .val (.ref l5)] at_298 rfl rfl ?_
        refine g_goto C 306 at_300 (by decide) (by decide) ?_
        refine g_aload C at_306 rfl rfl ?_
        have V366 := (Vva.keep K362 nin0)
        have E367 := (Eva.keep K362)
        have E368 := (El4.keep K362)
        have E369 := (El5.keep K362)
        have F370 := (Fl4.keep K362 nin0)
        have F371 := (Fl5.keep K362 nin0)
        have S372 := (S4.keep K362 nin0 nin0)
        have S373 := (S5.keep K362 nin0 nin0)
        refine g_static C w_49 w_50 w_51 w_52 (by decide) [(.ref a341)] (ct_of hEL hw w_52 w_51 (rm_of l Z a0 hw hEL a341 t341 va l4 l5 s4 s5 t4 t5 _ _ _ _ (mk7 len c0 c1 c2 c3 c4 c5 c6) zc h359 n0 S361 (Sta_keep Sva K362) V366 E367 E368 E369 F370 F371 S372 S373 (Sta_keep Szc K362) hzc)) all0 (by decide) 0 (by decide) rfl pd__Ljava_lang_String__Lcom_example_xml_retrieval_scoring_xmlretrievalscoring_AssessmentLayout_ rfl [] rfl (Nat.le_of_eq rfl) at_308 (by decide) (by decide) ?_
        intro v374 h374 Q374
        obtain ⟨ev374, KC374⟩ := Q374
        have ew374 : v374 = some (.ref l5) := ev374.trans (by rw [if_pos hc365.symm])
        subst ew374
        refine g_aload C at_311 rfl rfl ?_
        refine g_acmp_f C at_313 rfl rfl (XT.aa_ne_f rfl) ?_
        refine g_iconst C 1 at_316 rfl ?_
        refine g_goto C 321 at_317 (by decide) (by decide) ?_
        refine g_ireturnN C hEL (t := .boolean) rfl (by simp) at_321 (by decide) (by decide) ?_
        exact rfl
      · refine g_if_t C 303 at_292 (XT.i0_eq_t (if_neg hc365)) (by decide) (by decide) ?_
        refine g_aconst_null C at_303 ?_
        refine g_astore C #[.val (.int i1), .val (.int i2), .val (.long i3), .second, .val (.int i4), .val (.int i5), .val (.int mm), .val (.ref bf), .val (.int len), .val (.ref a341), .val .null] at_304 rfl rfl ?_
        refine g_aload C at_306 rfl rfl ?_
        have V375 := (Vva.keep K362 nin0)
        have E376 := (Eva.keep K362)
        have E377 := (El4.keep K362)
        have E378 := (El5.keep K362)
        have F379 := (Fl4.keep K362 nin0)
        have F380 := (Fl5.keep K362 nin0)
        have S381 := (S4.keep K362 nin0 nin0)
        have S382 := (S5.keep K362 nin0 nin0)
        refine g_static C w_49 w_50 w_51 w_52 (by decide) [(.ref a341)] (ct_of hEL hw w_52 w_51 (rm_of l Z a0 hw hEL a341 t341 va l4 l5 s4 s5 t4 t5 _ _ _ _ (mk7 len c0 c1 c2 c3 c4 c5 c6) zc h359 n0 S361 (Sta_keep Sva K362) V375 E376 E377 E378 F379 F380 S381 S382 (Sta_keep Szc K362) hzc)) all0 (by decide) 0 (by decide) rfl pd__Ljava_lang_String__Lcom_example_xml_retrieval_scoring_xmlretrievalscoring_AssessmentLayout_ rfl [] rfl (Nat.le_of_eq rfl) at_308 (by decide) (by decide) ?_
        intro v383 h383 Q383
        obtain ⟨ev383, KC383⟩ := Q383
        have ew383 : v383 = some .null := ev383.trans (by rw [if_neg (show ¬ ([101, 108, 101, 109, 101, 110, 116] = (mk7 len c0 c1 c2 c3 c4 c5 c6)) from fun q => hc365 q.symm), if_neg (show ¬ ([112, 97, 116, 104] = (mk7 len c0 c1 c2 c3 c4 c5 c6)) from fun q => hc349 q.symm)])
        subst ew383
        refine g_aload C at_311 rfl rfl ?_
        refine g_acmp_f C at_313 rfl rfl (XT.aa_ne_f rfl) ?_
        refine g_iconst C 1 at_316 rfl ?_
        refine g_goto C 321 at_317 (by decide) (by decide) ?_
        refine g_ireturnN C hEL (t := .boolean) rfl (by simp) at_321 (by decide) (by decide) ?_
        exact rfl
  refine g_bipush C 7 at_5 rfl ?_
  refine g_newarray C (aty := .char) w_0 at_7 (by decide) 7 (by decide) (by decide) (by decide) (by decide) "[C" rfl ?_
  intro b384 h384 ka384 g384 E384 V384 A384
  replace V384 : Arv Z h384 b384 ka384 .char (7 : Int32) [(.int (0 : Int32)), (.int (0 : Int32)), (.int (0 : Int32)), (.int (0 : Int32)), (.int (0 : Int32)), (.int (0 : Int32)), (.int (0 : Int32))] (.int (0 : Int32)) := V384.pad (pad_rep [] _ 7)
  refine g_astore C #[.val (.int i1), .val (.int i2), .val (.long i3), .second, .val (.int i4), .val (.int i5), .val (.int mm), .val (.ref b384), .unset, .unset, .unset] at_9 rfl rfl ?_
  refine g_iload C at_11 rfl ?_
  by_cases hc385 : mm = 0
  · refine g_if_f C at_13 (XT.i0_ne_f hc385) ?_
    refine g_aload C at_16 rfl rfl ?_
    refine g_iconst C 0 at_18 rfl ?_
    refine g_lloadN C at_19 rfl ?_
    refine g_ldc2L C w_1 at_20 ?_
    refine g_land C at_23 ?_
    refine g_l2i C at_24 ?_
    refine g_i2c C at_25 ?_
    obtain ⟨d0, e_d0, h_d0⟩ : ∃ z : Int32, (((i3 &&& (255 : Int64)).toInt32).toUInt32.toUInt16.toUInt32.toInt32) = z ∧ Ch8 z := ⟨_, rfl, ch8_l2c _⟩
    rw [e_d0]
    refine g_castore C V384 (List.mem_of_getElem? (i := 0) rfl) at_26 ⟨by decide, by decide⟩ 0 rfl (Nat.le_of_ble_eq_true rfl) ?_
    intro h386 W386 V386
    rw [nar_ch8 h_d0] at V386
    replace V386 : Arv Z h386 b384 ka384 .char (7 : Int32) [(.int d0), (.int (0 : Int32)), (.int (0 : Int32)), (.int (0 : Int32)), (.int (0 : Int32)), (.int (0 : Int32)), (.int (0 : Int32))] (.int (0 : Int32)) := V386
    refine g_aload C at_27 rfl rfl ?_
    refine g_iconst C 1 at_29 rfl ?_
    refine g_lloadN C at_30 rfl ?_
    refine g_bipush C 8 at_31 rfl ?_
    refine g_lushr C at_33 ?_
    refine g_ldc2L C w_1 at_34 ?_
    refine g_land C at_37 ?_
    refine g_l2i C at_38 ?_
    refine g_i2c C at_39 ?_
    obtain ⟨d1, e_d1, h_d1⟩ : ∃ z : Int32, (((((i3.toUInt64 >>> ((8 : Int32) &&& 0x3f).toInt64.toUInt64).toInt64) &&& (255 : Int64)).toInt32).toUInt32.toUInt16.toUInt32.toInt32) = z ∧ Ch8 z := ⟨_, rfl, ch8_l2c _⟩
    rw [e_d1]
    refine g_castore C V386 (List.mem_of_getElem? (i := 0) rfl) at_40 ⟨by decide, by decide⟩ 1 rfl (Nat.le_of_ble_eq_true rfl) ?_
    intro h387 W387 V387
    rw [nar_ch8 h_d1] at V387
    replace V387 : Arv Z h387 b384 ka384 .char (7 : Int32) [(.int d0), (.int d1), (.int (0 : Int32)), (.int (0 : Int32)), (.int (0 : Int32)), (.int (0 : Int32)), (.int (0 : Int32))] (.int (0 : Int32)) := V387
    refine g_aload C at_41 rfl rfl ?_
    refine g_iconst C 2 at_43 rfl ?_
    refine g_lloadN C at_44 rfl ?_
    refine g_bipush C 16 at_45 rfl ?_
    refine g_lushr C at_47 ?_
    refine g_ldc2L C w_1 at_48 ?_
    refine g_land C at_51 ?_
    refine g_l2i C at_52 ?_
    refine g_i2c C at_53 ?_
    obtain ⟨d2, e_d2, h_d2⟩ : ∃ z : Int32, (((((i3.toUInt64 >>> ((16 : Int32) &&& 0x3f).toInt64.toUInt64).toInt64) &&& (255 : Int64)).toInt32).toUInt32.toUInt16.toUInt32.toInt32) = z ∧ Ch8 z := ⟨_, rfl, ch8_l2c _⟩
    rw [e_d2]
    refine g_castore C V387 (List.mem_of_getElem? (i := 0) rfl) at_54 ⟨by decide, by decide⟩ 2 rfl (Nat.le_of_ble_eq_true rfl) ?_
    intro h388 W388 V388
    rw [nar_ch8 h_d2] at V388
    replace V388 : Arv Z h388 b384 ka384 .char (7 : Int32) [(.int d0), (.int d1), (.int d2), (.int (0 : Int32)), (.int (0 : Int32)), (.int (0 : Int32)), (.int (0 : Int32))] (.int (0 : Int32)) := V388
    refine g_aload C at_55 rfl rfl ?_
    refine g_iconst C 3 at_57 rfl ?_
    refine g_lloadN C at_58 rfl ?_
    refine g_bipush C 24 at_59 rfl ?_
    refine g_lushr C at_61 ?_
    refine g_ldc2L C w_1 at_62 ?_
    refine g_land C at_65 ?_
    refine g_l2i C at_66 ?_
    refine g_i2c C at_67 ?_
    obtain ⟨d3, e_d3, h_d3⟩ : ∃ z : Int32, (((((i3.toUInt64 >>> ((24 : Int32) &&& 0x3f).toInt64.toUInt64).toInt64) &&& (255 : Int64)).toInt32).toUInt32.toUInt16.toUInt32.toInt32) = z ∧ Ch8 z := ⟨_, rfl, ch8_l2c _⟩
    rw [e_d3]
    refine g_castore C V388 (List.mem_of_getElem? (i := 0) rfl) at_68 ⟨by decide, by decide⟩ 3 rfl (Nat.le_of_ble_eq_true rfl) ?_
    intro h389 W389 V389
    rw [nar_ch8 h_d3] at V389
    replace V389 : Arv Z h389 b384 ka384 .char (7 : Int32) [(.int d0), (.int d1), (.int d2), (.int d3), (.int (0 : Int32)), (.int (0 : Int32)), (.int (0 : Int32))] (.int (0 : Int32)) := V389
    refine g_aload C at_69 rfl rfl ?_
    refine g_iconst C 4 at_71 rfl ?_
    refine g_lloadN C at_72 rfl ?_
    refine g_bipush C 32 at_73 rfl ?_
    refine g_lushr C at_75 ?_
    refine g_ldc2L C w_1 at_76 ?_
    refine g_land C at_79 ?_
    refine g_l2i C at_80 ?_
    refine g_i2c C at_81 ?_
    obtain ⟨d4, e_d4, h_d4⟩ : ∃ z : Int32, (((((i3.toUInt64 >>> ((32 : Int32) &&& 0x3f).toInt64.toUInt64).toInt64) &&& (255 : Int64)).toInt32).toUInt32.toUInt16.toUInt32.toInt32) = z ∧ Ch8 z := ⟨_, rfl, ch8_l2c _⟩
    rw [e_d4]
    refine g_castore C V389 (List.mem_of_getElem? (i := 0) rfl) at_82 ⟨by decide, by decide⟩ 4 rfl (Nat.le_of_ble_eq_true rfl) ?_
    intro h390 W390 V390
    rw [nar_ch8 h_d4] at V390
    replace V390 : Arv Z h390 b384 ka384 .char (7 : Int32) [(.int d0), (.int d1), (.int d2), (.int d3), (.int d4), (.int (0 : Int32)), (.int (0 : Int32))] (.int (0 : Int32)) := V390
    refine g_aload C at_83 rfl rfl ?_
    refine g_iconst C 5 at_85 rfl ?_
    refine g_lloadN C at_86 rfl ?_
    refine g_bipush C 40 at_87 rfl ?_
    refine g_lushr C at_89 ?_
    refine g_ldc2L C w_1 at_90 ?_
    refine g_land C at_93 ?_
    refine g_l2i C at_94 ?_
    refine g_i2c C at_95 ?_
    obtain ⟨d5, e_d5, h_d5⟩ : ∃ z : Int32, (((((i3.toUInt64 >>> ((40 : Int32) &&& 0x3f).toInt64.toUInt64).toInt64) &&& (255 : Int64)).toInt32).toUInt32.toUInt16.toUInt32.toInt32) = z ∧ Ch8 z := ⟨_, rfl, ch8_l2c _⟩
    rw [e_d5]
    refine g_castore C V390 (List.mem_of_getElem? (i := 0) rfl) at_96 ⟨by decide, by decide⟩ 5 rfl (Nat.le_of_ble_eq_true rfl) ?_
    intro h391 W391 V391
    rw [nar_ch8 h_d5] at V391
    replace V391 : Arv Z h391 b384 ka384 .char (7 : Int32) [(.int d0), (.int d1), (.int d2), (.int d3), (.int d4), (.int d5), (.int (0 : Int32))] (.int (0 : Int32)) := V391
    refine g_aload C at_97 rfl rfl ?_
    refine g_bipush C 6 at_99 rfl ?_
    refine g_lloadN C at_101 rfl ?_
    refine g_bipush C 48 at_102 rfl ?_
    refine g_lushr C at_104 ?_
    refine g_ldc2L C w_1 at_105 ?_
    refine g_land C at_108 ?_
    refine g_l2i C at_109 ?_
    refine g_i2c C at_110 ?_
    obtain ⟨d6, e_d6, h_d6⟩ : ∃ z : Int32, (((((i3.toUInt64 >>> ((48 : Int32) &&& 0x3f).toInt64.toUInt64).toInt64) &&& (255 : Int64)).toInt32).toUInt32.toUInt16.toUInt32.toInt32) = z ∧ Ch8 z := ⟨_, rfl, ch8_l2c _⟩
    rw [e_d6]
    refine g_castore C V391 (List.mem_of_getElem? (i := 0) rfl) at_111 ⟨by decide, by decide⟩ 6 rfl (Nat.le_of_ble_eq_true rfl) ?_
    intro h392 W392 V392
    rw [nar_ch8 h_d6] at V392
    replace V392 : Arv Z h392 b384 ka384 .char (7 : Int32) [(.int d0), (.int d1), (.int d2), (.int d3), (.int d4), (.int d5), (.int d6)] (.int (0 : Int32)) := V392
    refine g_iloadN C at_112 rfl ?_
    refine g_bipush C 7 at_113 rfl ?_
    refine g_iand C at_115 ?_
    refine g_istore C #[.val (.int i1), .val (.int i2), .val (.long i3), .second, .val (.int i4), .val (.int i5), .val (.int mm), .val (.ref b384), .val (.int (i2 &&& (7 : Int32))), .unset, .unset] at_116 rfl ?_
    refine g_goto C 219 at_118 (by decide) (by decide) ?_
    obtain ⟨ln, e_ln⟩ : ∃ z : Int32, (i2 &&& (7 : Int32)) = z := ⟨_, rfl⟩
    rw [e_ln]
    refine g_iload C at_219 rfl ?_
    refine g_iconst C 1 at_221 rfl ?_
    refine g_icmp_f C at_222 (XT.ii_eq_f (by rw [hc385]; decide)) ?_
    refine g_iload C at_225 rfl ?_
    refine g_iconst C 2 at_227 rfl ?_
    refine g_icmp_t C 258 at_228 (XT.ii_ne_t (by rw [hc385]; decide)) (by decide) (by decide) ?_
    have K393 : Keep h0 h384 [] := (Keep.refl h0 []).ext E384
    have K394 : Keep h0 h386 [] := K393.wr W386 (Or.inr (Nat.le_of_eq g384.symm))
    have K395 : Keep h0 h387 [] := K394.wr W387 (Or.inr (Nat.le_of_eq g384.symm))
    have K396 : Keep h0 h388 [] := K395.wr W388 (Or.inr (Nat.le_of_eq g384.symm))
    have K397 : Keep h0 h389 [] := K396.wr W389 (Or.inr (Nat.le_of_eq g384.symm))
    have K398 : Keep h0 h390 [] := K397.wr W390 (Or.inr (Nat.le_of_eq g384.symm))
    have K399 : Keep h0 h391 [] := K398.wr W391 (Or.inr (Nat.le_of_eq g384.symm))
    have K400 : Keep h0 h392 [] := K399.wr W392 (Or.inr (Nat.le_of_eq g384.symm))
    exact rest mm ln h392 b384 _ d0 d1 d2 d3 d4 d5 d6 K400 V392 h_d0 h_d1 h_d2 h_d3 h_d4 h_d5 h_d6
  · refine g_if_t C 121 at_13 (XT.i0_ne_t hc385) (by decide) (by decide) ?_
    refine g_iload C at_121 rfl ?_
    refine g_iconst C 1 at_123 rfl ?_
    by_cases hc401 : mm = (1 : Int32)
    · refine g_icmp_f C at_124 (XT.ii_ne_f hc401) ?_
      refine g_aload C at_127 rfl rfl ?_
      refine g_iconst C 0 at_129 rfl ?_
      refine g_bipush C 112 at_130 rfl ?_
      refine g_castore C V384 (List.mem_of_getElem? (i := 0) rfl) at_132 ⟨by decide, by decide⟩ 0 rfl (Nat.le_of_ble_eq_true rfl) ?_
      intro h402 W402 V402
      replace V402 : Arv Z h402 b384 ka384 .char (7 : Int32) [(.int (nar .char (112 : Int32))), (.int (0 : Int32)), (.int (0 : Int32)), (.int (0 : Int32)), (.int (0 : Int32)), (.int (0 : Int32)), (.int (0 : Int32))] (.int (0 : Int32)) := V402
      refine g_aload C at_133 rfl rfl ?_
      refine g_iconst C 1 at_135 rfl ?_
      refine g_bipush C 97 at_136 rfl ?_
      refine g_castore C V402 (List.mem_of_getElem? (i := 0) rfl) at_138 ⟨by decide, by decide⟩ 1 rfl (Nat.le_of_ble_eq_true rfl) ?_
      intro h403 W403 V403
      replace V403 : Arv Z h403 b384 ka384 .char (7 : Int32) [(.int (nar .char (112 : Int32))), (.int (nar .char (97 : Int32))), (.int (0 : Int32)), (.int (0 : Int32)), (.int (0 : Int32)), (.int (0 : Int32)), (.int (0 : Int32))] (.int (0 : Int32)) := V403
      refine g_aload C at_139 rfl rfl ?_
      refine g_iconst C 2 at_141 rfl ?_
      refine g_bipush C 116 at_142 rfl ?_
      refine g_castore C V403 (List.mem_of_getElem? (i := 0) rfl) at_144 ⟨by decide, by decide⟩ 2 rfl (Nat.le_of_ble_eq_true rfl) ?_
      intro h404 W404 V404
      replace V404 : Arv Z h404 b384 ka384 .char (7 : Int32) [(.int (nar .char (112 : Int32))), (.int (nar .char (97 : Int32))), (.int (nar .char (116 : Int32))), (.int (0 : Int32)), (.int (0 : Int32)), (.int (0 : Int32)), (.int (0 : Int32))] (.int (0 : Int32)) := V404
      refine g_aload C at_145 rfl rfl ?_
      refine g_iconst C 3 at_147 rfl ?_
      refine g_bipush C 104 at_148 rfl ?_
      refine g_castore C V404 (List.mem_of_getElem? (i := 0) rfl) at_150 ⟨by decide, by decide⟩ 3 rfl (Nat.le_of_ble_eq_true rfl) ?_
      intro h405 W405 V405
      replace V405 : Arv Z h405 b384 ka384 .char (7 : Int32) [(.int (nar .char (112 : Int32))), (.int (nar .char (97 : Int32))), (.int (nar .char (116 : Int32))), (.int (nar .char (104 : Int32))), (.int (0 : Int32)), (.int (0 : Int32)), (.int (0 : Int32))] (.int (0 : Int32)) := V405
      refine g_iconst C 4 at_151 rfl ?_
      refine g_istore C #[.val (.int i1), .val (.int i2), .val (.long i3), .second, .val (.int i4), .val (.int i5), .val (.int mm), .val (.ref b384), .val (.int (4 : Int32)), .unset, .unset] at_152 rfl ?_
      refine g_goto C 219 at_154 (by decide) (by decide) ?_
      refine g_iload C at_219 rfl ?_
      refine g_iconst C 1 at_221 rfl ?_
      refine g_icmp_t C 231 at_222 (XT.ii_eq_t hc401) (by decide) (by decide) ?_
      refine g_iload C at_231 rfl ?_
      refine g_sipush C 256 at_233 rfl ?_
      refine g_iand C at_236 ?_
      by_cases hc406 : (i5 &&& (256 : Int32)) = 0
      · refine g_if_t C 258 at_237 (XT.i0_eq_t hc406) (by decide) (by decide) ?_
        have K407 : Keep h0 h384 [] := (Keep.refl h0 []).ext E384
        have K408 : Keep h0 h402 [] := K407.wr W402 (Or.inr (Nat.le_of_eq g384.symm))
        have K409 : Keep h0 h403 [] := K408.wr W403 (Or.inr (Nat.le_of_eq g384.symm))
        have K410 : Keep h0 h404 [] := K409.wr W404 (Or.inr (Nat.le_of_eq g384.symm))
        have K411 : Keep h0 h405 [] := K410.wr W405 (Or.inr (Nat.le_of_eq g384.symm))
        exact rest mm (4 : Int32) h405 b384 _ (nar .char (112 : Int32)) (nar .char (97 : Int32)) (nar .char (116 : Int32)) (nar .char (104 : Int32)) (0 : Int32) (0 : Int32) (0 : Int32) K411 V405 (by unfold Ch8; decide) (by unfold Ch8; decide) (by unfold Ch8; decide) (by unfold Ch8; decide) (by unfold Ch8; decide) (by unfold Ch8; decide) (by unfold Ch8; decide)
      · refine g_if_f C at_237 (XT.i0_eq_f hc406) ?_
        refine g_aload C at_240 rfl rfl ?_
        refine g_iload C at_242 rfl ?_
        refine g_ldcI C w_76 at_244 ?_
        refine g_iand C at_246 ?_
        refine g_iload C at_247 rfl ?_
        refine g_irem C at_249 (by decide) ?_
        refine g_iload C at_250 rfl ?_
        refine g_sipush C 255 at_252 rfl ?_
        refine g_iand C at_255 ?_
        refine g_i2c C at_256 ?_
        obtain ⟨rr, e_rr, h_rr⟩ : ∃ z : Int32, ((i5 &&& (255 : Int32)).toUInt32.toUInt16.toUInt32.toInt32) = z ∧ Ch8 z := ⟨_, rfl, ch8_i2c _⟩
        rw [e_rr]
        obtain ⟨jj, e_jj, hjj⟩ : ∃ z : Int32, ((i4 &&& (2147483647 : Int32)) % (4 : Int32)) = z ∧ (¬ z < 0 ∧ z < 7) := ⟨_, rfl, (own_lt7 (own_mod _ 4 (own_and_nn _) (by decide)))⟩
        rw [e_jj]
        refine g_castore C V405 (List.mem_of_getElem? (i := 0) rfl) at_257 hjj _ rfl (by rcases own_seven hjj with rfl | rfl | rfl | rfl | rfl | rfl | rfl <;> decide) ?_
        intro h412 W412 V412
        rw [nar_ch8 h_rr, own_set7 hjj] at V412
        have K413 : Keep h0 h384 [] := (Keep.refl h0 []).ext E384
        have K414 : Keep h0 h402 [] := K413.wr W402 (Or.inr (Nat.le_of_eq g384.symm))
        have K415 : Keep h0 h403 [] := K414.wr W403 (Or.inr (Nat.le_of_eq g384.symm))
        have K416 : Keep h0 h404 [] := K415.wr W404 (Or.inr (Nat.le_of_eq g384.symm))
        have K417 : Keep h0 h405 [] := K416.wr W405 (Or.inr (Nat.le_of_eq g384.symm))
        have K418 : Keep h0 h412 [] := K417.wr W412 (Or.inr (Nat.le_of_eq g384.symm))
        exact rest mm (4 : Int32) h412 b384 _ (if jj = 0 then rr else (nar .char (112 : Int32))) (if jj = 1 then rr else (nar .char (97 : Int32))) (if jj = 2 then rr else (nar .char (116 : Int32))) (if jj = 3 then rr else (nar .char (104 : Int32))) (if jj = 4 then rr else (0 : Int32)) (if jj = 5 then rr else (0 : Int32)) (if jj = 6 then rr else (0 : Int32)) K418 V412 (own_ch8_ite h_rr (by unfold Ch8; decide)) (own_ch8_ite h_rr (by unfold Ch8; decide)) (own_ch8_ite h_rr (by unfold Ch8; decide)) (own_ch8_ite h_rr (by unfold Ch8; decide)) (own_ch8_ite h_rr (by unfold Ch8; decide)) (own_ch8_ite h_rr (by unfold Ch8; decide)) (own_ch8_ite h_rr (by unfold Ch8; decide))
    · refine g_icmp_t C 157 at_124 (XT.ii_ne_t hc401) (by decide) (by decide) ?_
      refine g_aload C at_157 rfl rfl ?_
      refine g_iconst C 0 at_159 rfl ?_
      refine g_bipush C 101 at_160 rfl ?_
      refine g_castore C V384 (List.mem_of_getElem? (i := 0) rfl) at_162 ⟨by decide, by decide⟩ 0 rfl (Nat.le_of_ble_eq_true rfl) ?_
      intro h419 W419 V419
      replace V419 : Arv Z h419 b384 ka384 .char (7 : Int32) [(.int (nar .char (101 : Int32))), (.int (0 : Int32)), (.int (0 : Int32)), (.int (0 : Int32)), (.int (0 : Int32)), (.int (0 : Int32)), (.int (0 : Int32))] (.int (0 : Int32)) := V419
      refine g_aload C at_163 rfl rfl ?_
      refine g_iconst C 1 at_165 rfl ?_
      refine g_bipush C 108 at_166 rfl ?_
      refine g_castore C V419 (List.mem_of_getElem? (i := 0) rfl) at_168 ⟨by decide, by decide⟩ 1 rfl (Nat.le_of_ble_eq_true rfl) ?_
      intro h420 W420 V420
      replace V420 : Arv Z h420 b384 ka384 .char (7 : Int32) [(.int (nar .char (101 : Int32))), (.int (nar .char (108 : Int32))), (.int (0 : Int32)), (.int (0 : Int32)), (.int (0 : Int32)), (.int (0 : Int32)), (.int (0 : Int32))] (.int (0 : Int32)) := V420
      refine g_aload C at_169 rfl rfl ?_
      refine g_iconst C 2 at_171 rfl ?_
      refine g_bipush C 101 at_172 rfl ?_
      refine g_castore C V420 (List.mem_of_getElem? (i := 0) rfl) at_174 ⟨by decide, by decide⟩ 2 rfl (Nat.le_of_ble_eq_true rfl) ?_
      intro h421 W421 V421
      replace V421 : Arv Z h421 b384 ka384 .char (7 : Int32) [(.int (nar .char (101 : Int32))), (.int (nar .char (108 : Int32))), (.int (nar .char (101 : Int32))), (.int (0 : Int32)), (.int (0 : Int32)), (.int (0 : Int32)), (.int (0 : Int32))] (.int (0 : Int32)) := V421
      refine g_aload C at_175 rfl rfl ?_
      refine g_iconst C 3 at_177 rfl ?_
      refine g_bipush C 109 at_178 rfl ?_
      refine g_castore C V421 (List.mem_of_getElem? (i := 0) rfl) at_180 ⟨by decide, by decide⟩ 3 rfl (Nat.le_of_ble_eq_true rfl) ?_
      intro h422 W422 V422
      replace V422 : Arv Z h422 b384 ka384 .char (7 : Int32) [(.int (nar .char (101 : Int32))), (.int (nar .char (108 : Int32))), (.int (nar .char (101 : Int32))), (.int (nar .char (109 : Int32))), (.int (0 : Int32)), (.int (0 : Int32)), (.int (0 : Int32))] (.int (0 : Int32)) := V422
      refine g_aload C at_181 rfl rfl ?_
      refine g_iconst C 4 at_183 rfl ?_
      refine g_bipush C 101 at_184 rfl ?_
      refine g_castore C V422 (List.mem_of_getElem? (i := 0) rfl) at_186 ⟨by decide, by decide⟩ 4 rfl (Nat.le_of_ble_eq_true rfl) ?_
      intro h423 W423 V423
      replace V423 : Arv Z h423 b384 ka384 .char (7 : Int32) [(.int (nar .char (101 : Int32))), (.int (nar .char (108 : Int32))), (.int (nar .char (101 : Int32))), (.int (nar .char (109 : Int32))), (.int (nar .char (101 : Int32))), (.int (0 : Int32)), (.int (0 : Int32))] (.int (0 : Int32)) := V423
      refine g_aload C at_187 rfl rfl ?_
      refine g_iconst C 5 at_189 rfl ?_
      refine g_bipush C 110 at_190 rfl ?_
      refine g_castore C V423 (List.mem_of_getElem? (i := 0) rfl) at_192 ⟨by decide, by decide⟩ 5 rfl (Nat.le_of_ble_eq_true rfl) ?_
      intro h424 W424 V424
      replace V424 : Arv Z h424 b384 ka384 .char (7 : Int32) [(.int (nar .char (101 : Int32))), (.int (nar .char (108 : Int32))), (.int (nar .char (101 : Int32))), (.int (nar .char (109 : Int32))), (.int (nar .char (101 : Int32))), (.int (nar .char (110 : Int32))), (.int (0 : Int32))] (.int (0 : Int32)) := V424
      refine g_aload C at_193 rfl rfl ?_
      refine g_bipush C 6 at_195 rfl ?_
      refine g_bipush C 116 at_197 rfl ?_
      refine g_castore C V424 (List.mem_of_getElem? (i := 0) rfl) at_199 ⟨by decide, by decide⟩ 6 rfl (Nat.le_of_ble_eq_true rfl) ?_
      intro h425 W425 V425
      replace V425 : Arv Z h425 b384 ka384 .char (7 : Int32) [(.int (nar .char (101 : Int32))), (.int (nar .char (108 : Int32))), (.int (nar .char (101 : Int32))), (.int (nar .char (109 : Int32))), (.int (nar .char (101 : Int32))), (.int (nar .char (110 : Int32))), (.int (nar .char (116 : Int32)))] (.int (0 : Int32)) := V425
      refine g_iload C at_200 rfl ?_
      refine g_iconst C 2 at_202 rfl ?_
      by_cases hc426 : mm = (2 : Int32)
      · refine g_icmp_f C at_203 (XT.ii_ne_f hc426) ?_
        refine g_bipush C 7 at_206 rfl ?_
        refine g_istore C #[.val (.int i1), .val (.int i2), .val (.long i3), .second, .val (.int i4), .val (.int i5), .val (.int mm), .val (.ref b384), .val (.int (7 : Int32)), .unset, .unset] at_208 rfl ?_
        refine g_goto C 219 at_210 (by decide) (by decide) ?_
        refine g_iload C at_219 rfl ?_
        refine g_iconst C 1 at_221 rfl ?_
        refine g_icmp_f C at_222 (XT.ii_eq_f hc401) ?_
        refine g_iload C at_225 rfl ?_
        refine g_iconst C 2 at_227 rfl ?_
        refine g_icmp_f C at_228 (XT.ii_ne_f hc426) ?_
        refine g_iload C at_231 rfl ?_
        refine g_sipush C 256 at_233 rfl ?_
        refine g_iand C at_236 ?_
        by_cases hc427 : (i5 &&& (256 : Int32)) = 0
        · refine g_if_t C 258 at_237 (XT.i0_eq_t hc427) (by decide) (by decide) ?_
          have K428 : Keep h0 h384 [] := (Keep.refl h0 []).ext E384
          have K429 : Keep h0 h419 [] := K428.wr W419 (Or.inr (Nat.le_of_eq g384.symm))
          have K430 : Keep h0 h420 [] := K429.wr W420 (Or.inr (Nat.le_of_eq g384.symm))
          have K431 : Keep h0 h421 [] := K430.wr W421 (Or.inr (Nat.le_of_eq g384.symm))
          have K432 : Keep h0 h422 [] := K431.wr W422 (Or.inr (Nat.le_of_eq g384.symm))
          have K433 : Keep h0 h423 [] := K432.wr W423 (Or.inr (Nat.le_of_eq g384.symm))
          have K434 : Keep h0 h424 [] := K433.wr W424 (Or.inr (Nat.le_of_eq g384.symm))
          have K435 : Keep h0 h425 [] := K434.wr W425 (Or.inr (Nat.le_of_eq g384.symm))
          exact rest mm (7 : Int32) h425 b384 _ (nar .char (101 : Int32)) (nar .char (108 : Int32)) (nar .char (101 : Int32)) (nar .char (109 : Int32)) (nar .char (101 : Int32)) (nar .char (110 : Int32)) (nar .char (116 : Int32)) K435 V425 (by unfold Ch8; decide) (by unfold Ch8; decide) (by unfold Ch8; decide) (by unfold Ch8; decide) (by unfold Ch8; decide) (by unfold Ch8; decide) (by unfold Ch8; decide)
        · refine g_if_f C at_237 (XT.i0_eq_f hc427) ?_
          refine g_aload C at_240 rfl rfl ?_
          refine g_iload C at_242 rfl ?_
          refine g_ldcI C w_76 at_244 ?_
          refine g_iand C at_246 ?_
          refine g_iload C at_247 rfl ?_
          refine g_irem C at_249 (by decide) ?_
          refine g_iload C at_250 rfl ?_
          refine g_sipush C 255 at_252 rfl ?_
          refine g_iand C at_255 ?_
          refine g_i2c C at_256 ?_
          obtain ⟨rr, e_rr, h_rr⟩ : ∃ z : Int32, ((i5 &&& (255 : Int32)).toUInt32.toUInt16.toUInt32.toInt32) = z ∧ Ch8 z := ⟨_, rfl, ch8_i2c _⟩
          rw [e_rr]
          obtain ⟨jj, e_jj, hjj⟩ : ∃ z : Int32, ((i4 &&& (2147483647 : Int32)) % (7 : Int32)) = z ∧ (¬ z < 0 ∧ z < 7) := ⟨_, rfl, (own_mod _ 7 (own_and_nn _) (by decide))⟩
          rw [e_jj]
          refine g_castore C V425 (List.mem_of_getElem? (i := 0) rfl) at_257 hjj _ rfl (by rcases own_seven hjj with rfl | rfl | rfl | rfl | rfl | rfl | rfl <;> decide) ?_
          intro h436 W436 V436
          rw [nar_ch8 h_rr, own_set7 hjj] at V436
          have K437 : Keep h0 h384 [] := (Keep.refl h0 []).ext E384
          have K438 : Keep h0 h419 [] := K437.wr W419 (Or.inr (Nat.le_of_eq g384.symm))
          have K439 : Keep h0 h420 [] := K438.wr W420 (Or.inr (Nat.le_of_eq g384.symm))
          have K440 : Keep h0 h421 [] := K439.wr W421 (Or.inr (Nat.le_of_eq g384.symm))
          have K441 : Keep h0 h422 [] := K440.wr W422 (Or.inr (Nat.le_of_eq g384.symm))
          have K442 : Keep h0 h423 [] := K441.wr W423 (Or.inr (Nat.le_of_eq g384.symm))
          have K443 : Keep h0 h424 [] := K442.wr W424 (Or.inr (Nat.le_of_eq g384.symm))
          have K444 : Keep h0 h425 [] := K443.wr W425 (Or.inr (Nat.le_of_eq g384.symm))
          have K445 : Keep h0 h436 [] := K444.wr W436 (Or.inr (Nat.le_of_eq g384.symm))
          exact rest mm (7 : Int32) h436 b384 _ (if jj = 0 then rr else (nar .char (101 : Int32))) (if jj = 1 then rr else (nar .char (108 : Int32))) (if jj = 2 then rr else (nar .char (101 : Int32))) (if jj = 3 then rr else (nar .char (109 : Int32))) (if jj = 4 then rr else (nar .char (101 : Int32))) (if jj = 5 then rr else (nar .char (110 : Int32))) (if jj = 6 then rr else (nar .char (116 : Int32))) K445 V436 (own_ch8_ite h_rr (by unfold Ch8; decide)) (own_ch8_ite h_rr (by unfold Ch8; decide)) (own_ch8_ite h_rr (by unfold Ch8; decide)) (own_ch8_ite h_rr (by unfold Ch8; decide)) (own_ch8_ite h_rr (by unfold Ch8; decide)) (own_ch8_ite h_rr (by unfold Ch8; decide)) (own_ch8_ite h_rr (by unfold Ch8; decide))
      · refine g_icmp_t C 213 at_203 (XT.ii_ne_t hc426) (by decide) (by decide) ?_
        refine g_iloadN C at_213 rfl ?_
        refine g_bipush C 7 at_214 rfl ?_
        refine g_iand C at_216 ?_
        refine g_istore C #[.val (.int i1), .val (.int i2), .val (.long i3), .second, .val (.int i4), .val (.int i5), .val (.int mm), .val (.ref b384), .val (.int (i2 &&& (7 : Int32))), .unset, .unset] at_217 rfl ?_
        obtain ⟨ln, e_ln⟩ : ∃ z : Int32, (i2 &&& (7 : Int32)) = z := ⟨_, rfl⟩
        rw [e_ln]
        refine g_iload C at_219 rfl ?_
        refine g_iconst C 1 at_221 rfl ?_
        refine g_icmp_f C at_222 (XT.ii_eq_f hc401) ?_
        refine g_iload C at_225 rfl ?_
        refine g_iconst C 2 at_227 rfl ?_
        refine g_icmp_t C 258 at_228 (XT.ii_ne_t hc426) (by decide) (by decide) ?_
        have K446 : Keep h0 h384 [] := (Keep.refl h0 []).ext E384
        have K447 : Keep h0 h419 [] := K446.wr W419 (Or.inr (Nat.le_of_eq g384.symm))
        have K448 : Keep h0 h420 [] := K447.wr W420 (Or.inr (Nat.le_of_eq g384.symm))
        have K449 : Keep h0 h421 [] := K448.wr W421 (Or.inr (Nat.le_of_eq g384.symm))
        have K450 : Keep h0 h422 [] := K449.wr W422 (Or.inr (Nat.le_of_eq g384.symm))
        have K451 : Keep h0 h423 [] := K450.wr W423 (Or.inr (Nat.le_of_eq g384.symm))
        have K452 : Keep h0 h424 [] := K451.wr W424 (Or.inr (Nat.le_of_eq g384.symm))
        have K453 : Keep h0 h425 [] := K452.wr W425 (Or.inr (Nat.le_of_eq g384.symm))
        exact rest mm ln h425 b384 _ (nar .char (101 : Int32)) (nar .char (108 : Int32)) (nar .char (101 : Int32)) (nar .char (109 : Int32)) (nar .char (101 : Int32)) (nar .char (110 : Int32)) (nar .char (116 : Int32)) K453 V425 (by unfold Ch8; decide) (by unfold Ch8; decide) (by unfold Ch8; decide) (by unfold Ch8; decide) (by unfold Ch8; decide) (by unfold Ch8; decide) (by unfold Ch8; decide)
theorem own_len {args : Array Value} {s : State} {t : Term} {a : Addr} {c : Cell} {ty : FieldType} {z : Int32} (ht : t.eval args s none [] s = some (.ref a)) (A : Arr s s.heap a c ty) (h : (Term.length t).eval args s none [] s = some (.int z)) : c.slots.size < 2 ^ 31 ∧ c.slots.size.toInt32 = z := by
  have ha : s.arrayAt? a = some c := A.fin (Vm.Alike.refl _)
  by_cases q : c.slots.size < 2 ^ 31
  · rw [len_f ht ha q] at h
    exact ⟨q, by simpa using h⟩
  · simp [Term.eval, ht, ha] at h
    exact absurd h.1 q
theorem own_elem {args : Array Value} {s : State} {t : Term} {a : Addr} {c : Cell} {ty : FieldType} {v : Value} (ht : t.eval args s none [] s = some (.ref a)) (A : Arr s s.heap a c ty) (j : Int32) (i : Nat) (hj : ¬ j < 0) (hi : j.toNatClampNeg = i) (h : (Term.elem t (.int j)).eval args s none [] s = some v) : c.slots[i]? = some v := by
  rw [elem_f ht (Term.int_eval j) (A.fin (Vm.Alike.refl _)) hj, hi] at h
  exact h
theorem own_eqr {args : Array Value} {Z : State} {X F : Term} {idx : List Nat} {y : Addr} (hF : F.eval args Z none idx Z = some (.ref y)) (h : (Cond.eq X F).value args Z none Z idx = some true) : X.eval args Z none idx Z = some (.ref y) := by
  cases hx : X.eval args Z none idx Z with
  | none => simp [Cond.value, hx] at h
  | some x => cases x <;> simp [Cond.value, hx, hF] at h ⊢ <;> first | exact h | exact h.symm

set_option maxRecDepth 65536 in
set_option maxHeartbeats 40000000 in
theorem comes_1 {Post : Tables → Env → Array Value → State → Outcome → State → Prop} (hpost : ∀ tb e args s v u, (limb_1_1.after args s (.returned v) u = true ∧ limb_1_2.after args s (.returned v) u = true ∧ True) → ReturnedEndW s (.returned v) u (Jvm.fieldLocs frame_1_writes args s ++ Jvm.arrayLocs frame_1_arrays args s ++ Jvm.staticLocs frame_1_statics s) 24 3264 → Post tb e args s (.returned v) u) :
    ArmFor flags0 classFile x code maxLocals ret World_1 tables_1 room_1 Calls_1 rest_1 Pre_1 Post := by
  intro l hfl _ _ p e ha hc hk s m args below hf hA hF happ hP
  obtain ⟨hcalls, hrest, hpre⟩ := hP
  obtain ⟨-, -, -, hnamed, -, -, -, hat⟩ := (Spec.applies_iff hf).mp happ
  obtain ⟨hg, hn⟩ := and_e (Cond.before_iff.mp (show (Jvm.Cond.and given_1 narrow_1).before args s = true from hpre))
  obtain ⟨hcount, ga0⟩ := and_e hg
  obtain ⟨gv0, ga1⟩ := and_e ga0
  obtain ⟨gv1, ga2⟩ := and_e ga1
  obtain ⟨gv2, ga3⟩ := and_e ga2
  obtain ⟨gv3, ga4⟩ := and_e ga3
  obtain ⟨w0, w1, w2, w3, w4, rfl⟩ : ∃ w0 w1 w2 w3 w4 : Value, args = #[w0, w1, w2, w3, w4] := by
    have hs : args.size = 5 := by simpa [Cond.value, given_1] using hcount
    obtain ⟨L⟩ := args
    match L, hs with
    | [w0, w1, w2, w3, w4], _ => exact ⟨w0, w1, w2, w3, w4, rfl⟩
  have hw := fun d (hd : d ∈ tables_1) => atoms_spec (ws := Jvm.Cond.code x code maxLocals ret :: tables_1) hat d (List.mem_cons_of_mem _ hd)
  have hfit : Fit s := fun {y c} hc i hi => by
    obtain ⟨ha, rfl⟩ := Array.getElem?_eq_some_iff.mp hc
    have q := List.all_eq_true.mp ((Array.all_eq_true_iff_forall_mem.mp hF) _ (Array.getElem_mem ha)) i (List.mem_range.mpr hi)
    simpa [Array.getElem?_eq_getElem hi] using q
  obtain ⟨hsets, hown0⟩ := atoms_of _ (rest_1_c_eq ▸ (show rest_1_c.before _ s = true from hrest))
  obtain ⟨i0, ei0⟩ := is_v gv0
  obtain rfl : w0 = (.int i0) := Option.some.inj ei0
  obtain ⟨i1, ei1⟩ := is_v gv1
  obtain rfl : w1 = (.int i1) := Option.some.inj ei1
  obtain ⟨i2, ei2⟩ := isL_v gv2
  obtain rfl : w2 = (.long i2) := Option.some.inj ei2
  obtain ⟨i3, ei3⟩ := is_v gv3
  obtain rfl : w3 = (.int i3) := Option.some.inj ei3
  obtain ⟨i4, ei4⟩ := is_v ga4
  obtain rfl : w4 = (.int i4) := Option.some.inj ei4
  have hEL : EW s _ consts_1 := (EW.cons (hw _ w_35) (by decide +kernel) (EW.cons (hw _ w_48) (by decide +kernel) (EW.cons (hw _ w_74) (by decide +kernel) EW.nil)))
  have hCH : CHv s consts_1 s.vm s.heap := CHv.start hEL (fun p hp => hcalls.1 p hp) (hsets _ (List.mem_of_getElem? (i := 2) rfl)) (hw _ w_24) (hw _ w_7)
  have n5 := not_v (Cond.before_iff.mp (hsets _ (List.mem_of_getElem? (i := 2) rfl)))
  obtain ⟨zc, ezc⟩ := is_v (Cond.before_iff.mp (hsets _ (List.mem_of_getElem? (i := 1) rfl)))
  have Szc : Sta s s.heap "java/lang/String" "COMPACT_STRINGS" "Z" (.int zc) := Sta.start ezc (Or.inl (hsets _ (List.mem_of_getElem? (i := 0) rfl)))
  have hzc : ¬ (zc = (0 : Int32)) := gotF (Cond.eq_ints ezc (Term.int_eval (0))) n5
  obtain ⟨hn1, hn⟩ := and_e hn
  obtain ⟨hn2, hn⟩ := and_e hn
  obtain ⟨hn3, hn⟩ := and_e hn
  obtain ⟨hn4, hn⟩ := and_e hn
  obtain ⟨hn5, hn⟩ := and_e hn
  obtain ⟨hn6, hn⟩ := and_e hn
  obtain ⟨hn7, hn⟩ := and_e hn
  obtain ⟨hn8, hn⟩ := and_e hn
  obtain ⟨hn9, hn⟩ := and_e hn
  obtain ⟨hn10, hn⟩ := and_e hn
  obtain ⟨hn11, hn⟩ := and_e hn
  obtain ⟨hn12, hn⟩ := and_e hn
  obtain ⟨hn13, hn⟩ := and_e hn
  obtain ⟨hn14, hn⟩ := and_e hn
  obtain ⟨hn15, hn⟩ := and_e hn
  obtain ⟨hn16, hn⟩ := and_e hn
  obtain ⟨hn17, hn⟩ := and_e hn
  obtain ⟨hn18, hn⟩ := and_e hn
  obtain ⟨hn19, hn⟩ := and_e hn
  obtain ⟨hn20, hn⟩ := and_e hn
  obtain ⟨hn21, hn⟩ := and_e hn
  obtain ⟨hn22, hn⟩ := and_e hn
  obtain ⟨hn23, hn⟩ := and_e hn
  obtain ⟨hn24, hn⟩ := and_e hn
  obtain ⟨hn25, hn⟩ := and_e hn
  have hn26 := hn
  obtain ⟨l4, el4⟩ := exa_v hn4
  have El4 := Exa.start el4 hn4
  have Sa4 := Sta.start el4 (Or.inr ⟨hw _ w_51, hw _ w_65⟩)
  obtain ⟨l5, el5⟩ := exa_v hn6
  have El5 := Exa.start el5 hn6
  have Sa5 := Sta.start el5 (Or.inr ⟨hw _ w_51, hw _ w_66⟩)
  obtain ⟨va, eva⟩ := exa_v hn2
  have Eva := Exa.start eva hn2
  obtain ⟨ca, Ava⟩ := Arr.start eva hn1
  obtain ⟨qva, zva⟩ := own_len eva Ava (eqv_i (Term.int_eval (2)) hn3)
  have Vva := Arv.start (vs := [.ref l4, .ref l5]) (dv := .null) hfit Ava qva zva (by decide) rfl ⟨own_elem eva Ava 0 0 (by decide) (by decide) (own_eqr el4 hn5), own_elem eva Ava 1 1 (by decide) (by decide) (own_eqr el5 hn7), trivial⟩
  have Sva := Sta.start eva (Or.inl (hw _ w_67))
  obtain ⟨s4, es4⟩ := exa_v hn8
  have Es4 := Exa.start es4 hn8
  have Fl4 := Fld.start ((fld_at el4).symm.trans es4)
  have Cs4 := Fld.start ((fld_at es4).symm.trans (eqv_i (Term.int_eval (0)) hn9))
  obtain ⟨t4, et4⟩ := arr_v hn10
  obtain ⟨cb4, At4⟩ := Arr.start et4 hn10
  have Ft4 := Fld.start ((fld_at es4).symm.trans et4)
  obtain ⟨qt4, zt4⟩ := own_len et4 At4 (eqv_i (Term.int_eval (4)) hn11)
  have Vt4 := Arv.start (vs := [.int 112, .int 97, .int 116, .int 104]) (dv := .int 0) hfit At4 qt4 zt4 (by decide) rfl ⟨own_elem et4 At4 0 0 (by decide) (by decide) (eqv_i (Term.int_eval (112)) hn16), own_elem et4 At4 1 1 (by decide) (by decide) (eqv_i (Term.int_eval (97)) hn17), own_elem et4 At4 2 2 (by decide) (by decide) (eqv_i (Term.int_eval (116)) hn18), own_elem et4 At4 3 3 (by decide) (by decide) (eqv_i (Term.int_eval (104)) hn19), trivial⟩
  have S4 : Str s s.heap s4 t4 cb4.cls [112, 97, 116, 104] := ⟨Es4, Cs4, Ft4, by first | exact Vt4 | (rw [show (([112, 97, 116, 104] : List Int32).map fun c => c.toInt8.toInt32).map Value.int = [.int 112, .int 97, .int 116, .int 104] from by decide +kernel]; exact Vt4), by decide, by decide⟩
  obtain ⟨s5, es5⟩ := exa_v hn12
  have Es5 := Exa.start es5 hn12
  have Fl5 := Fld.start ((fld_at el5).symm.trans es5)
  have Cs5 := Fld.start ((fld_at es5).symm.trans (eqv_i (Term.int_eval (0)) hn13))
  obtain ⟨t5, et5⟩ := arr_v hn14
  obtain ⟨cb5, At5⟩ := Arr.start et5 hn14
  have Ft5 := Fld.start ((fld_at es5).symm.trans et5)
  obtain ⟨qt5, zt5⟩ := own_len et5 At5 (eqv_i (Term.int_eval (7)) hn15)
  have Vt5 := Arv.start (vs := [.int 101, .int 108, .int 101, .int 109, .int 101, .int 110, .int 116]) (dv := .int 0) hfit At5 qt5 zt5 (by decide) rfl ⟨own_elem et5 At5 0 0 (by decide) (by decide) (eqv_i (Term.int_eval (101)) hn20), own_elem et5 At5 1 1 (by decide) (by decide) (eqv_i (Term.int_eval (108)) hn21), own_elem et5 At5 2 2 (by decide) (by decide) (eqv_i (Term.int_eval (101)) hn22), own_elem et5 At5 3 3 (by decide) (by decide) (eqv_i (Term.int_eval (109)) hn23), own_elem et5 At5 4 4 (by decide) (by decide) (eqv_i (Term.int_eval (101)) hn24), own_elem et5 At5 5 5 (by decide) (by decide) (eqv_i (Term.int_eval (110)) hn25), own_elem et5 At5 6 6 (by decide) (by decide) (eqv_i (Term.int_eval (116)) hn26), trivial⟩
  have S5 : Str s s.heap s5 t5 cb5.cls [101, 108, 101, 109, 101, 110, 116] := ⟨Es5, Cs5, Ft5, by first | exact Vt5 | (rw [show (([101, 108, 101, 109, 101, 110, 116] : List Int32).map fun c => c.toInt8.toInt32).map Value.int = [.int 101, .int 108, .int 101, .int 109, .int 101, .int 110, .int 116] from by decide +kernel]; exact Vt5), by decide, by decide⟩
  obtain ⟨n, o, h1, h2, h3, _, L, ns, rfl, ⟨⟨rfl, rfl⟩, N⟩, -, -, hq⟩ := rm_law l s _ hw hEL (ws := tables_1) i0 i1 i2 i3 i4 zc va l4 l5 s4 s5 t4 t5 _ _ _ s.heap s.heap.size Sva Vva Eva El4 El5 Fl4 Fl5 S4 S5 Szc hzc Sa4 Sa5 (Nat.le_refl _) all0 p e ha hc hk s m _ below hf ((Spec.applies_iff_loose hf).mp happ).1 ⟨rfl, State.Warmed39.refl s, rfl, hCH, all0⟩ trivial
  refine ⟨n, _, h1, h2, h3, hpost _ _ _ _ _ _ ⟨Cond.after_iff.mpr rfl, Cond.after_iff.mpr (eq_i res_at (Term.int_eval (1)) rfl), trivial⟩ ⟨hq.1, hq.2.1, hq.2.2.1, (hq.2.2.2.sift fun y hy => Or.inr (N y hy)).mono (by decide) (by decide)⟩⟩
theorem main_1_1 : Claimed_1_1 := comes_1 fun _ _ _ _ _ _ h hF => ⟨h.1, hF⟩
theorem main_1_2 : Claimed_1_2 := comes_1 fun _ _ _ _ _ _ h hF => ⟨h.2.1, hF⟩

end Jvm.Pilot.@@N@@
namespace Jvm.Pilot.@@N@@
open Jvm Jvm.ClassFile Sem Op Lib Jvm.Free Jvm.Stand Jvm.Pilot.@@N@@.Jvm.D
/-! MADE BY PROGRAM (witnessworld.py) out of the Statement's table words and the real class files: 22 classes; the members and pool entries that the words name. The judged class is class 1, her method 2. -/
namespace start1
open Jvm.ClassFile
def u (s : String) : CpInfo := .utf8 (stringToUtf16 s)
/-- a pool by its gaps: so many unusable entries, then the entry; so many at the end -/
def gap : Nat → List CpInfo → List CpInfo
  | 0, r => r
  | n + 1, r => .unusable :: gap n r
def poolList (es : List (Nat × CpInfo)) (last : Nat) : List CpInfo := es.foldr (fun e r => gap e.1 (e.2 :: r)) (gap last [])
def pool (es : List (Nat × CpInfo)) (last : Nat) : Array CpInfo := ⟨poolList es last⟩
def fileOf (pool : Array CpInfo) (this : Nat) (attrs : Array Attribute := #[]) (ms : Array MethodInfo := #[]) (fl : Nat := 33) (sup : Nat := 0) (ifs : Array Nat := #[]) (fds : Array FieldInfo := #[]) : ClassFile where
  minorVersion := 0
  majorVersion := 65
  constantPool := pool
  accessFlags := fl
  thisClass := this
  superClass := sup
  interfaces := ifs
  fields := fds
  methods := ms
  attributes := attrs
def plain (name : String) (sup : Option ClassId) : Class where
  name := name
  kind := .ordinary
  loader := none
  accessFlags := 33
  super := sup
  interfaces := #[]
  cf := none
  fields := #[]
  methods := #[]
  instanceTypes := #[]
  staticTypes := #[]
  resolved := #[]
  callSites := []
  init := .initialized
  statics := none
  mirror := none

def pool0 : Array CpInfo := pool [(5, u "<init>"), (0, u "()V"), (1, .class_ 10), (1, u "java/lang/Object"), (85, u "clone"), (0, u "()Ljava/lang/Object;")] 26

def k0c0 : Code := { maxStack := 0, maxLocals := 1, code := object_method_1_code, exceptionTable := #[], attributes := #[] }
def k0m0 : Method := { name := "<init>", desc := "()V", sig := { parameters := [], returnType := none }, accessFlags := 1, code := some k0c0 }
def k0m1 : Method := { name := "clone", desc := "()Ljava/lang/Object;", sig := { parameters := [], returnType := some (.object "java/lang/Object") }, accessFlags := 260, code := none }
/-- java/lang/Object -/
def k0 : Class := { plain "java/lang/Object" none with
  accessFlags := 33
  interfaces := #[]
  cf := some (fileOf pool0 8 #[] #[{ accessFlags := 1, nameIndex := 5, descriptorIndex := 6, attributes := #[] }, { accessFlags := 260, nameIndex := 96, descriptorIndex := 97, attributes := #[] }] 33 0 #[] #[])
  fields := #[]
  methods := #[k0m0, k0m1]
  instanceTypes := #[]
  staticTypes := #[]
  resolved := Array.replicate 124 none
  statics := none }

def pool1 : Array CpInfo := pool [(2, .class_ 4), (1, u "java/lang/Object"), (0, u "<init>"), (0, u "()V"), (0, .class_ 8), (0, u "java/lang/String"), (0, .methodref 7 10), (0, .nameAndType 5 11), (0, u "([C)V"), (0, .long 255), (1, .integer 2147483647), (0, .methodref 16 17), (0, .class_ 18), (0, .nameAndType 19 20), (0, u "com/example/xml_retrieval_scoring/xmlretrievalscoring/AssessmentLayoutOfRecordPinLaw"), (0, u "make"), (0, u "([CI)Ljava/lang/String;"), (0, .string 22), (0, u "path"), (0, .methodref 7 24), (0, .nameAndType 25 26), (0, u "equals"), (0, u "(Ljava/lang/Object;)Z"), (0, .fieldref 28 29), (0, .class_ 30), (0, .nameAndType 31 32), (0, u "com/example/xml_retrieval_scoring/xmlretrievalscoring/AssessmentLayout"), (0, u "INEX_2004"), (0, u "Lcom/example/xml_retrieval_scoring/xmlretrievalscoring/AssessmentLayout;"), (0, .string 34), (0, u "element"), (0, .fieldref 28 36), (0, .nameAndType 37 32), (0, u "INEX_2005"), (0, .methodref 28 39), (0, .nameAndType 40 41), (0, u "ofRecord"), (0, u "(Ljava/lang/String;)Lcom/example/xml_retrieval_scoring/xmlretrievalscoring/AssessmentLayout;"), (3, u "law"), (0, u "(IIJII)Z")] 4

def k1m0 : Method := { name := "<init>", desc := "()V", sig := { parameters := [], returnType := none }, accessFlags := 1, code := none }
def k1c1 : Code := { maxStack := 7, maxLocals := 2, code := method_2_code, exceptionTable := #[], attributes := #[] }
def k1m1 : Method := { name := "make", desc := "([CI)Ljava/lang/String;", sig := { parameters := [(.array .char), .int], returnType := some (.object "java/lang/String") }, accessFlags := 10, code := some k1c1 }
def k1c2 : Code := { maxStack := 6, maxLocals := 11, code := code, exceptionTable := #[], attributes := #[] }
def k1m2 : Method := { name := "law", desc := "(IIJII)Z", sig := { parameters := [.int, .int, .long, .int, .int], returnType := some .boolean }, accessFlags := 9, code := some k1c2 }
/-- com/example/xml_retrieval_scoring/xmlretrievalscoring/AssessmentLayoutOfRecordPinLaw -/
def k1 : Class := { plain "com/example/xml_retrieval_scoring/xmlretrievalscoring/AssessmentLayoutOfRecordPinLaw" (some 0) with
  accessFlags := 49
  interfaces := #[]
  cf := some (fileOf pool1 16 #[] #[{ accessFlags := 1, nameIndex := 5, descriptorIndex := 6, attributes := #[] }, { accessFlags := 10, nameIndex := 19, descriptorIndex := 20, attributes := #[] }, { accessFlags := 9, nameIndex := 45, descriptorIndex := 46, attributes := #[] }] 49 2 #[] #[])
  fields := #[]
  methods := #[k1m0, k1m1, k1m2]
  instanceTypes := #[]
  staticTypes := #[]
  resolved := Array.replicate 51 none
  statics := none }

def pool2 : Array CpInfo := pool [(1, .class_ 2), (0, u "java/io/Serializable"), (0, .class_ 4), (0, u "java/lang/Object")] 2

/-- java/io/Serializable -/
def k2 : Class := { plain "java/io/Serializable" (some 0) with
  accessFlags := 1537
  interfaces := #[]
  cf := some (fileOf pool2 1 #[] #[] 1537 3 #[] #[])
  fields := #[]
  methods := #[]
  instanceTypes := #[]
  staticTypes := #[]
  resolved := Array.replicate 7 none
  statics := none }

def pool3 : Array CpInfo := pool [(1, .class_ 2), (0, u "java/lang/Comparable"), (0, .class_ 4), (0, u "java/lang/Object")] 7

/-- java/lang/Comparable -/
def k3 : Class := { plain "java/lang/Comparable" (some 0) with
  accessFlags := 1537
  interfaces := #[]
  cf := some (fileOf pool3 1 #[] #[] 1537 3 #[] #[])
  fields := #[]
  methods := #[]
  instanceTypes := #[]
  staticTypes := #[]
  resolved := Array.replicate 12 none
  statics := none }

def pool4 : Array CpInfo := pool [(2, .class_ 4), (1, u "java/lang/CharSequence"), (42, .class_ 48), (0, u "java/lang/CharSequence$1CodePointIterator"), (10, .class_ 60), (0, u "java/lang/CharSequence$1CharIterator"), (5, .class_ 67), (0, u "java/lang/Object")] 63

/-- java/lang/CharSequence -/
def k4 : Class := { plain "java/lang/CharSequence" (some 0) with
  accessFlags := 1537
  interfaces := #[]
  cf := some (fileOf pool4 2 #[.nestMembers #[47, 59]] #[] 1537 66 #[] #[])
  fields := #[]
  methods := #[]
  instanceTypes := #[]
  staticTypes := #[]
  resolved := Array.replicate 131 none
  statics := none }

def pool5 : Array CpInfo := pool [(1, .class_ 2), (0, u "java/lang/constant/Constable"), (0, .class_ 4), (0, u "java/lang/Object")] 6

/-- java/lang/constant/Constable -/
def k5 : Class := { plain "java/lang/constant/Constable" (some 0) with
  accessFlags := 1537
  interfaces := #[]
  cf := some (fileOf pool5 1 #[] #[] 1537 3 #[] #[])
  fields := #[]
  methods := #[]
  instanceTypes := #[]
  staticTypes := #[]
  resolved := Array.replicate 11 none
  statics := none }

def pool6 : Array CpInfo := pool [(1, .class_ 2), (0, u "java/lang/constant/ConstantDesc"), (0, .class_ 4), (0, u "java/lang/Object")] 32

/-- java/lang/constant/ConstantDesc -/
def k6 : Class := { plain "java/lang/constant/ConstantDesc" (some 0) with
  accessFlags := 1537
  interfaces := #[]
  cf := some (fileOf pool6 1 #[] #[] 1537 3 #[] #[])
  fields := #[]
  methods := #[]
  instanceTypes := #[]
  staticTypes := #[]
  resolved := Array.replicate 37 none
  statics := none }

def pool7 : Array CpInfo := pool [(1, .methodref 2 3), (0, .class_ 4), (0, .nameAndType 5 6), (0, u "java/lang/Object"), (0, u "<init>"), (0, u "()V"), (0, .string 8), (0, u ""), (0, .fieldref 10 11), (0, .class_ 12), (0, .nameAndType 13 14), (0, u "java/lang/String"), (0, u "value"), (0, u "[B"), (0, .fieldref 10 16), (0, .nameAndType 17 18), (0, u "coder"), (0, u "B"), (2, u "hash"), (0, u "I"), (2, u "hashIsZero"), (0, u "Z"), (0, .methodref 10 28), (0, .nameAndType 5 29), (0, u "([CIILjava/lang/Void;)V"), (8, .fieldref 10 39), (0, .nameAndType 40 26), (0, u "COMPACT_STRINGS"), (1, .class_ 44), (1, u "java/lang/StringUTF16"), (0, u "compress"), (1, .methodref 42 48), (0, .nameAndType 49 50), (0, u "coderFromArrayLen"), (0, u "([BI)B"), (56, .class_ 109), (1, u "java/lang/StringLatin1"), (67, .methodref 42 178), (0, .nameAndType 45 179), (0, u "([CII)[B"), (361, .methodref 107 542), (0, .nameAndType 543 544), (0, u "equals"), (0, u "([B[B)Z"), (28, u "(Ljava/lang/Object;)Z"), (1, .class_ 576), (0, u "java/lang/CharSequence"), (22, u "CASE_INSENSITIVE_ORDER"), (0, u "Ljava/util/Comparator;"), (409, u "([C)V"), (90, u "serialPersistentFields"), (0, u "[Ljava/io/ObjectStreamField;"), (0, .class_ 1104), (0, u "java/lang/String$CaseInsensitiveComparator"), (1, .class_ 1107), (0, u "java/io/Serializable"), (0, .class_ 1109), (0, u "java/lang/Comparable"), (0, .class_ 1111), (0, u "java/lang/constant/Constable"), (0, .class_ 1113), (0, u "java/lang/constant/ConstantDesc"), (2, u "serialVersionUID"), (0, u "J"), (3, u "REPL"), (0, u "C"), (2, u "LATIN1"), (1, u "UTF16")] 323

def k7m0 : Method := { name := "<init>", desc := "()V", sig := { parameters := [], returnType := none }, accessFlags := 1, code := none }
def k7c1 : Code := { maxStack := 5, maxLocals := 2, code := jdk_42_method_3_code, exceptionTable := #[], attributes := #[] }
def k7m1 : Method := { name := "<init>", desc := "([C)V", sig := { parameters := [(.array .char)], returnType := none }, accessFlags := 1, code := some k7c1 }
def k7c2 : Code := { maxStack := 2, maxLocals := 3, code := jdk_42_method_66_code, exceptionTable := #[], attributes := #[] }
def k7m2 : Method := { name := "equals", desc := "(Ljava/lang/Object;)Z", sig := { parameters := [(.object "java/lang/Object")], returnType := some .boolean }, accessFlags := 1, code := some k7c2 }
def k7c3 : Code := { maxStack := 4, maxLocals := 6, code := jdk_42_method_149_code, exceptionTable := #[], attributes := #[] }
def k7m3 : Method := { name := "<init>", desc := "([CIILjava/lang/Void;)V", sig := { parameters := [(.array .char), .int, .int, (.object "java/lang/Void")], returnType := none }, accessFlags := 2, code := some k7c3 }
/-- java/lang/String -/
def k7 : Class := { plain "java/lang/String" (some 0) with
  accessFlags := 49
  interfaces := #[2, 3, 4, 5, 6]
  cf := some (fileOf pool7 10 #[.nestMembers #[1103]] #[{ accessFlags := 1, nameIndex := 5, descriptorIndex := 6, attributes := #[] }, { accessFlags := 1, nameIndex := 5, descriptorIndex := 1010, attributes := #[] }, { accessFlags := 1, nameIndex := 543, descriptorIndex := 573, attributes := #[] }, { accessFlags := 2, nameIndex := 5, descriptorIndex := 29, attributes := #[] }] 49 2 #[1106, 1108, 575, 1110, 1112] #[{ accessFlags := 18, nameIndex := 13, descriptorIndex := 14, attributes := #[] }, { accessFlags := 18, nameIndex := 17, descriptorIndex := 18, attributes := #[] }, { accessFlags := 2, nameIndex := 21, descriptorIndex := 22, attributes := #[] }, { accessFlags := 2, nameIndex := 25, descriptorIndex := 26, attributes := #[] }, { accessFlags := 26, nameIndex := 1116, descriptorIndex := 1117, attributes := #[] }, { accessFlags := 24, nameIndex := 40, descriptorIndex := 26, attributes := #[] }, { accessFlags := 26, nameIndex := 1101, descriptorIndex := 1102, attributes := #[] }, { accessFlags := 26, nameIndex := 1121, descriptorIndex := 1122, attributes := #[] }, { accessFlags := 25, nameIndex := 599, descriptorIndex := 600, attributes := #[] }, { accessFlags := 24, nameIndex := 1125, descriptorIndex := 18, attributes := #[] }, { accessFlags := 24, nameIndex := 1127, descriptorIndex := 18, attributes := #[] }])
  fields := #[{ name := "value", type := (.array .byte), accessFlags := 18, slot := 0, constantValue := 0 }, { name := "coder", type := .byte, accessFlags := 18, slot := 1, constantValue := 0 }, { name := "hash", type := .int, accessFlags := 2, slot := 2, constantValue := 0 }, { name := "hashIsZero", type := .boolean, accessFlags := 2, slot := 3, constantValue := 0 }, { name := "serialVersionUID", type := .long, accessFlags := 26, slot := 0, constantValue := 0 }, { name := "COMPACT_STRINGS", type := .boolean, accessFlags := 24, slot := 1, constantValue := 0 }, { name := "serialPersistentFields", type := (.array (.object "java/io/ObjectStreamField")), accessFlags := 26, slot := 2, constantValue := 0 }, { name := "REPL", type := .char, accessFlags := 26, slot := 3, constantValue := 0 }, { name := "CASE_INSENSITIVE_ORDER", type := (.object "java/util/Comparator"), accessFlags := 25, slot := 4, constantValue := 0 }, { name := "LATIN1", type := .byte, accessFlags := 24, slot := 5, constantValue := 0 }, { name := "UTF16", type := .byte, accessFlags := 24, slot := 6, constantValue := 0 }]
  methods := #[k7m0, k7m1, k7m2, k7m3]
  instanceTypes := #[(.array .byte), .byte, .int, .boolean]
  staticTypes := #[.long, .boolean, (.array (.object "java/io/ObjectStreamField")), .char, (.object "java/util/Comparator"), .byte, .byte]
  resolved := Array.replicate 1451 none
  statics := some 0 }

def pool8 : Array CpInfo := pool [(6, .class_ 8), (1, u "java/lang/Object"), (0, u "<init>"), (0, u "()V"), (1, .class_ 14), (1, u "java/lang/StringUTF16"), (31, u "$assertionsDisabled"), (0, u "Z"), (13, u "HI_BYTE_SHIFT"), (0, u "I"), (2, u "LO_BYTE_SHIFT"), (49, .methodref 12 116), (0, .nameAndType 117 118), (0, u "compress"), (0, u "([CI[BII)I"), (3, u "([CII)[B"), (138, u "coderFromArrayLen"), (0, u "([BI)B"), (106, .class_ 371), (1, u "java/lang/StringUTF16$LinesSpliterator"), (58, u "MAX_LENGTH"), (196, .class_ 628), (0, u "java/lang/StringUTF16$CodePointsSpliterator"), (0, .class_ 630), (0, u "java/lang/StringUTF16$CharsSpliterator")] 4

def k8m0 : Method := { name := "<init>", desc := "()V", sig := { parameters := [], returnType := none }, accessFlags := 0, code := none }
def k8c1 : Code := { maxStack := 2, maxLocals := 2, code := jdk_52_method_15_code, exceptionTable := #[], attributes := #[] }
def k8m1 : Method := { name := "coderFromArrayLen", desc := "([BI)B", sig := { parameters := [(.array .byte), .int], returnType := some .byte }, accessFlags := 8, code := some k8c1 }
def k8c2 : Code := { maxStack := 5, maxLocals := 6, code := jdk_52_method_16_code, exceptionTable := #[], attributes := #[] }
def k8m2 : Method := { name := "compress", desc := "([CII)[B", sig := { parameters := [(.array .char), .int, .int], returnType := some (.array .byte) }, accessFlags := 9, code := some k8c2 }
def k8c3 : Code := { maxStack := 3, maxLocals := 7, code := jdk_52_method_21_code, exceptionTable := #[], attributes := #[] }
def k8m3 : Method := { name := "compress", desc := "([CI[BII)I", sig := { parameters := [(.array .char), .int, (.array .byte), .int, .int], returnType := some .int }, accessFlags := 9, code := some k8c3 }
/-- java/lang/StringUTF16 -/
def k8 : Class := { plain "java/lang/StringUTF16" (some 0) with
  accessFlags := 48
  interfaces := #[]
  cf := some (fileOf pool8 12 #[.nestMembers #[627, 629, 369]] #[{ accessFlags := 0, nameIndex := 9, descriptorIndex := 10, attributes := #[] }, { accessFlags := 8, nameIndex := 261, descriptorIndex := 262, attributes := #[] }, { accessFlags := 9, nameIndex := 117, descriptorIndex := 122, attributes := #[] }, { accessFlags := 9, nameIndex := 117, descriptorIndex := 118, attributes := #[] }] 48 6 #[] #[{ accessFlags := 26, nameIndex := 61, descriptorIndex := 62, attributes := #[] }, { accessFlags := 26, nameIndex := 65, descriptorIndex := 62, attributes := #[] }, { accessFlags := 24, nameIndex := 430, descriptorIndex := 62, attributes := #[] }, { accessFlags := 4120, nameIndex := 46, descriptorIndex := 47, attributes := #[] }])
  fields := #[{ name := "HI_BYTE_SHIFT", type := .int, accessFlags := 26, slot := 0, constantValue := 0 }, { name := "LO_BYTE_SHIFT", type := .int, accessFlags := 26, slot := 1, constantValue := 0 }, { name := "MAX_LENGTH", type := .int, accessFlags := 24, slot := 2, constantValue := 0 }, { name := "$assertionsDisabled", type := .boolean, accessFlags := 4120, slot := 3, constantValue := 0 }]
  methods := #[k8m0, k8m1, k8m2, k8m3]
  instanceTypes := #[]
  staticTypes := #[.int, .int, .int, .boolean]
  resolved := Array.replicate 635 none
  statics := none }

def pool9 : Array CpInfo := pool [(4, .class_ 6), (1, u "java/lang/Object"), (0, u "<init>"), (0, u "()V"), (5, .class_ 16), (1, u "java/lang/StringLatin1"), (104, u "$assertionsDisabled"), (0, u "Z"), (98, .class_ 223), (1, u "java/lang/StringLatin1$LinesSpliterator"), (57, u "equals"), (0, u "([B[B)Z"), (107, .class_ 391), (0, u "java/lang/StringLatin1$CharsSpliterator")] 3

def k9m0 : Method := { name := "<init>", desc := "()V", sig := { parameters := [], returnType := none }, accessFlags := 0, code := none }
def k9c1 : Code := { maxStack := 3, maxLocals := 3, code := jdk_43_method_13_code, exceptionTable := #[], attributes := #[] }
def k9m1 : Method := { name := "equals", desc := "([B[B)Z", sig := { parameters := [(.array .byte), (.array .byte)], returnType := some .boolean }, accessFlags := 9, code := some k9c1 }
/-- java/lang/StringLatin1 -/
def k9 : Class := { plain "java/lang/StringLatin1" (some 0) with
  accessFlags := 48
  interfaces := #[]
  cf := some (fileOf pool9 14 #[.nestMembers #[390, 221]] #[{ accessFlags := 0, nameIndex := 7, descriptorIndex := 8, attributes := #[] }, { accessFlags := 9, nameIndex := 281, descriptorIndex := 282, attributes := #[] }] 48 4 #[] #[{ accessFlags := 4120, nameIndex := 121, descriptorIndex := 122, attributes := #[] }])
  fields := #[{ name := "$assertionsDisabled", type := .boolean, accessFlags := 4120, slot := 0, constantValue := 0 }]
  methods := #[k9m0, k9m1]
  instanceTypes := #[]
  staticTypes := #[.boolean]
  resolved := Array.replicate 395 none
  statics := none }

def pool10 : Array CpInfo := pool [(2, .class_ 4), (1, u "java/lang/Enum"), (0, u "name"), (0, u "Ljava/lang/String;"), (2, u "ordinal"), (0, u "I"), (1, .class_ 14), (1, u "java/lang/Object"), (4, u "hash"), (86, .class_ 108), (1, u "java/lang/Enum$EnumDesc"), (2, .class_ 112), (0, u "java/lang/constant/Constable"), (0, .class_ 114), (0, u "java/lang/Comparable"), (0, .class_ 116), (0, u "java/io/Serializable")] 87

/-- java/lang/Enum -/
def k10 : Class := { plain "java/lang/Enum" (some 0) with
  accessFlags := 1057
  interfaces := #[5, 3, 2]
  cf := some (fileOf pool10 2 #[.nestMembers #[106]] #[] 1057 12 #[111, 113, 115] #[{ accessFlags := 18, nameIndex := 5, descriptorIndex := 6, attributes := #[] }, { accessFlags := 18, nameIndex := 9, descriptorIndex := 10, attributes := #[] }, { accessFlags := 2, nameIndex := 19, descriptorIndex := 10, attributes := #[] }])
  fields := #[{ name := "name", type := (.object "java/lang/String"), accessFlags := 18, slot := 0, constantValue := 0 }, { name := "ordinal", type := .int, accessFlags := 18, slot := 1, constantValue := 0 }, { name := "hash", type := .int, accessFlags := 2, slot := 2, constantValue := 0 }]
  methods := #[]
  instanceTypes := #[(.object "java/lang/String"), .int, .int]
  staticTypes := #[]
  resolved := Array.replicate 204 none
  statics := none }

def pool11 : Array CpInfo := pool [(1, .class_ 2), (0, u "com/example/xml_retrieval_scoring/xmlretrievalscoring/AssessmentLayout"), (2, u "INEX_2004"), (0, u "Lcom/example/xml_retrieval_scoring/xmlretrievalscoring/AssessmentLayout;"), (2, u "INEX_2005"), (0, .fieldref 1 11), (0, .nameAndType 12 13), (0, u "$VALUES"), (0, u "[Lcom/example/xml_retrieval_scoring/xmlretrievalscoring/AssessmentLayout;"), (0, .methodref 15 16), (0, .class_ 13), (0, .nameAndType 17 18), (0, u "clone"), (0, u "()Ljava/lang/Object;"), (1, .class_ 22), (1, u "java/lang/Enum"), (8, u "title"), (0, u "Ljava/lang/String;"), (2, u "documentAttribute"), (0, .fieldref 1 37), (0, .nameAndType 38 32), (0, u "recordElement"), (2, u "exhaustivityAttribute"), (0, .methodref 1 43), (0, .nameAndType 44 45), (0, u "values"), (0, u "()[Lcom/example/xml_retrieval_scoring/xmlretrievalscoring/AssessmentLayout;"), (0, .methodref 47 48), (0, .class_ 49), (0, .nameAndType 50 51), (0, u "java/lang/String"), (0, u "equals"), (0, u "(Ljava/lang/Object;)Z"), (26, u "(Ljava/lang/String;)Lcom/example/xml_retrieval_scoring/xmlretrievalscoring/AssessmentLayout;"), (4, u "ofRecord")] 7

def k11c0 : Code := { maxStack := 1, maxLocals := 0, code := prog_1_method_1_code, exceptionTable := #[], attributes := #[] }
def k11m0 : Method := { name := "values", desc := "()[Lcom/example/xml_retrieval_scoring/xmlretrievalscoring/AssessmentLayout;", sig := { parameters := [], returnType := some (.array (.object "com/example/xml_retrieval_scoring/xmlretrievalscoring/AssessmentLayout")) }, accessFlags := 9, code := some k11c0 }
def k11c1 : Code := { maxStack := 2, maxLocals := 6, code := prog_1_method_7_code, exceptionTable := #[], attributes := #[] }
def k11m1 : Method := { name := "ofRecord", desc := "(Ljava/lang/String;)Lcom/example/xml_retrieval_scoring/xmlretrievalscoring/AssessmentLayout;", sig := { parameters := [(.object "java/lang/String")], returnType := some (.object "com/example/xml_retrieval_scoring/xmlretrievalscoring/AssessmentLayout") }, accessFlags := 8, code := some k11c1 }
/-- com/example/xml_retrieval_scoring/xmlretrievalscoring/AssessmentLayout -/
def k11 : Class := { plain "com/example/xml_retrieval_scoring/xmlretrievalscoring/AssessmentLayout" (some 10) with
  accessFlags := 16433
  interfaces := #[]
  cf := some (fileOf pool11 1 #[] #[{ accessFlags := 9, nameIndex := 44, descriptorIndex := 45, attributes := #[] }, { accessFlags := 8, nameIndex := 83, descriptorIndex := 78, attributes := #[] }] 16433 20 #[] #[{ accessFlags := 16409, nameIndex := 5, descriptorIndex := 6, attributes := #[] }, { accessFlags := 16409, nameIndex := 9, descriptorIndex := 6, attributes := #[] }, { accessFlags := 18, nameIndex := 31, descriptorIndex := 32, attributes := #[] }, { accessFlags := 18, nameIndex := 35, descriptorIndex := 32, attributes := #[] }, { accessFlags := 18, nameIndex := 38, descriptorIndex := 32, attributes := #[] }, { accessFlags := 18, nameIndex := 41, descriptorIndex := 32, attributes := #[] }, { accessFlags := 4122, nameIndex := 12, descriptorIndex := 13, attributes := #[] }])
  fields := #[{ name := "INEX_2004", type := (.object "com/example/xml_retrieval_scoring/xmlretrievalscoring/AssessmentLayout"), accessFlags := 16409, slot := 0, constantValue := 0 }, { name := "INEX_2005", type := (.object "com/example/xml_retrieval_scoring/xmlretrievalscoring/AssessmentLayout"), accessFlags := 16409, slot := 1, constantValue := 0 }, { name := "title", type := (.object "java/lang/String"), accessFlags := 18, slot := 3, constantValue := 0 }, { name := "documentAttribute", type := (.object "java/lang/String"), accessFlags := 18, slot := 4, constantValue := 0 }, { name := "recordElement", type := (.object "java/lang/String"), accessFlags := 18, slot := 5, constantValue := 0 }, { name := "exhaustivityAttribute", type := (.object "java/lang/String"), accessFlags := 18, slot := 6, constantValue := 0 }, { name := "$VALUES", type := (.array (.object "com/example/xml_retrieval_scoring/xmlretrievalscoring/AssessmentLayout")), accessFlags := 4122, slot := 2, constantValue := 0 }]
  methods := #[k11m0, k11m1]
  instanceTypes := #[(.object "java/lang/String"), .int, .int, (.object "java/lang/String"), (.object "java/lang/String"), (.object "java/lang/String"), (.object "java/lang/String")]
  staticTypes := #[(.object "com/example/xml_retrieval_scoring/xmlretrievalscoring/AssessmentLayout"), (.object "com/example/xml_retrieval_scoring/xmlretrievalscoring/AssessmentLayout"), (.array (.object "com/example/xml_retrieval_scoring/xmlretrievalscoring/AssessmentLayout"))]
  resolved := Array.replicate 91 none
  statics := some 1 }

def pool12 : Array CpInfo := pool [(1, .class_ 2), (0, u "java/lang/Cloneable"), (0, .class_ 4), (0, u "java/lang/Object")] 2

/-- java/lang/Cloneable -/
def k12 : Class := { plain "java/lang/Cloneable" (some 0) with
  accessFlags := 1537
  interfaces := #[]
  cf := some (fileOf pool12 1 #[] #[] 1537 3 #[] #[])
  fields := #[]
  methods := #[]
  instanceTypes := #[]
  staticTypes := #[]
  resolved := Array.replicate 7 none
  statics := none }

def pool13 : Array CpInfo := pool [(2, .class_ 4), (1, u "java/lang/Object"), (0, u "<init>"), (0, u "()V"), (17, .class_ 26), (1, u "jdk/internal/util/Preconditions"), (28, .class_ 56), (0, u "jdk/internal/util/Preconditions$4"), (57, .class_ 115), (0, u "jdk/internal/util/Preconditions$1"), (7, u "SIOOBE_FORMATTER"), (0, u "Ljava/util/function/BiFunction;"), (0, .class_ 126), (0, u "jdk/internal/util/Preconditions$2"), (3, u "AIOOBE_FORMATTER"), (0, .class_ 132), (0, u "jdk/internal/util/Preconditions$3"), (3, u "IOOBE_FORMATTER")] 57

def k13m0 : Method := { name := "<init>", desc := "()V", sig := { parameters := [], returnType := none }, accessFlags := 1, code := none }
/-- jdk/internal/util/Preconditions -/
def k13 : Class := { plain "jdk/internal/util/Preconditions" (some 0) with
  accessFlags := 33
  interfaces := #[]
  cf := some (fileOf pool13 24 #[.nestMembers #[55, 131, 125, 114]] #[{ accessFlags := 1, nameIndex := 5, descriptorIndex := 6, attributes := #[] }] 33 2 #[] #[{ accessFlags := 25, nameIndex := 123, descriptorIndex := 124, attributes := #[] }, { accessFlags := 25, nameIndex := 130, descriptorIndex := 124, attributes := #[] }, { accessFlags := 25, nameIndex := 136, descriptorIndex := 124, attributes := #[] }])
  fields := #[{ name := "SIOOBE_FORMATTER", type := (.object "java/util/function/BiFunction"), accessFlags := 25, slot := 0, constantValue := 0 }, { name := "AIOOBE_FORMATTER", type := (.object "java/util/function/BiFunction"), accessFlags := 25, slot := 1, constantValue := 0 }, { name := "IOOBE_FORMATTER", type := (.object "java/util/function/BiFunction"), accessFlags := 25, slot := 2, constantValue := 0 }]
  methods := #[k13m0]
  instanceTypes := #[]
  staticTypes := #[(.object "java/util/function/BiFunction"), (.object "java/util/function/BiFunction"), (.object "java/util/function/BiFunction")]
  resolved := Array.replicate 194 none
  statics := some 2 }

def pool14 : Array CpInfo := pool [(9, u "<init>"), (6, .class_ 18), (1, u "java/lang/Object"), (0, u "()V"), (1, .class_ 23), (1, u "jdk/internal/util/ArraysSupport"), (0, u "LOG2_ARRAY_LONG_INDEX_SCALE"), (0, u "I"), (2, u "U"), (0, u "Ljdk/internal/misc/Unsafe;"), (8, u "BIG_ENDIAN"), (0, u "Z"), (8, u "LOG2_BYTE_BIT_SIZE"), (4, u "LOG2_ARRAY_INT_INDEX_SCALE"), (54, u "JLA"), (0, u "Ljdk/internal/access/JavaLangAccess;"), (11, u "LOG2_ARRAY_BOOLEAN_INDEX_SCALE"), (9, u "LOG2_ARRAY_BYTE_INDEX_SCALE"), (5, u "LOG2_ARRAY_CHAR_INDEX_SCALE"), (5, u "LOG2_ARRAY_SHORT_INDEX_SCALE"), (18, u "LOG2_ARRAY_FLOAT_INDEX_SCALE"), (24, u "LOG2_ARRAY_DOUBLE_INDEX_SCALE"), (89, u "T_BOOLEAN"), (2, u "T_CHAR"), (1, u "T_FLOAT"), (1, u "T_DOUBLE"), (1, u "T_BYTE"), (1, u "T_SHORT"), (1, u "T_INT"), (1, u "T_LONG"), (1, u "SOFT_MAX_ARRAY_LENGTH")] 83

def k14m0 : Method := { name := "<init>", desc := "()V", sig := { parameters := [], returnType := none }, accessFlags := 2, code := none }
/-- jdk/internal/util/ArraysSupport -/
def k14 : Class := { plain "jdk/internal/util/ArraysSupport" (some 0) with
  accessFlags := 33
  interfaces := #[]
  cf := some (fileOf pool14 21 #[] #[{ accessFlags := 2, nameIndex := 9, descriptorIndex := 19, attributes := #[] }] 33 16 #[] #[{ accessFlags := 24, nameIndex := 28, descriptorIndex := 29, attributes := #[] }, { accessFlags := 26, nameIndex := 38, descriptorIndex := 39, attributes := #[] }, { accessFlags := 25, nameIndex := 121, descriptorIndex := 25, attributes := #[] }, { accessFlags := 25, nameIndex := 131, descriptorIndex := 25, attributes := #[] }, { accessFlags := 25, nameIndex := 137, descriptorIndex := 25, attributes := #[] }, { accessFlags := 25, nameIndex := 143, descriptorIndex := 25, attributes := #[] }, { accessFlags := 25, nameIndex := 53, descriptorIndex := 25, attributes := #[] }, { accessFlags := 25, nameIndex := 24, descriptorIndex := 25, attributes := #[] }, { accessFlags := 25, nameIndex := 162, descriptorIndex := 25, attributes := #[] }, { accessFlags := 25, nameIndex := 187, descriptorIndex := 25, attributes := #[] }, { accessFlags := 26, nameIndex := 48, descriptorIndex := 25, attributes := #[] }, { accessFlags := 25, nameIndex := 277, descriptorIndex := 25, attributes := #[] }, { accessFlags := 25, nameIndex := 280, descriptorIndex := 25, attributes := #[] }, { accessFlags := 25, nameIndex := 282, descriptorIndex := 25, attributes := #[] }, { accessFlags := 25, nameIndex := 284, descriptorIndex := 25, attributes := #[] }, { accessFlags := 25, nameIndex := 286, descriptorIndex := 25, attributes := #[] }, { accessFlags := 25, nameIndex := 288, descriptorIndex := 25, attributes := #[] }, { accessFlags := 25, nameIndex := 290, descriptorIndex := 25, attributes := #[] }, { accessFlags := 25, nameIndex := 292, descriptorIndex := 25, attributes := #[] }, { accessFlags := 26, nameIndex := 108, descriptorIndex := 109, attributes := #[] }, { accessFlags := 25, nameIndex := 294, descriptorIndex := 25, attributes := #[] }])
  fields := #[{ name := "U", type := (.object "jdk/internal/misc/Unsafe"), accessFlags := 24, slot := 0, constantValue := 0 }, { name := "BIG_ENDIAN", type := .boolean, accessFlags := 26, slot := 1, constantValue := 0 }, { name := "LOG2_ARRAY_BOOLEAN_INDEX_SCALE", type := .int, accessFlags := 25, slot := 2, constantValue := 0 }, { name := "LOG2_ARRAY_BYTE_INDEX_SCALE", type := .int, accessFlags := 25, slot := 3, constantValue := 0 }, { name := "LOG2_ARRAY_CHAR_INDEX_SCALE", type := .int, accessFlags := 25, slot := 4, constantValue := 0 }, { name := "LOG2_ARRAY_SHORT_INDEX_SCALE", type := .int, accessFlags := 25, slot := 5, constantValue := 0 }, { name := "LOG2_ARRAY_INT_INDEX_SCALE", type := .int, accessFlags := 25, slot := 6, constantValue := 0 }, { name := "LOG2_ARRAY_LONG_INDEX_SCALE", type := .int, accessFlags := 25, slot := 7, constantValue := 0 }, { name := "LOG2_ARRAY_FLOAT_INDEX_SCALE", type := .int, accessFlags := 25, slot := 8, constantValue := 0 }, { name := "LOG2_ARRAY_DOUBLE_INDEX_SCALE", type := .int, accessFlags := 25, slot := 9, constantValue := 0 }, { name := "LOG2_BYTE_BIT_SIZE", type := .int, accessFlags := 26, slot := 10, constantValue := 0 }, { name := "T_BOOLEAN", type := .int, accessFlags := 25, slot := 11, constantValue := 0 }, { name := "T_CHAR", type := .int, accessFlags := 25, slot := 12, constantValue := 0 }, { name := "T_FLOAT", type := .int, accessFlags := 25, slot := 13, constantValue := 0 }, { name := "T_DOUBLE", type := .int, accessFlags := 25, slot := 14, constantValue := 0 }, { name := "T_BYTE", type := .int, accessFlags := 25, slot := 15, constantValue := 0 }, { name := "T_SHORT", type := .int, accessFlags := 25, slot := 16, constantValue := 0 }, { name := "T_INT", type := .int, accessFlags := 25, slot := 17, constantValue := 0 }, { name := "T_LONG", type := .int, accessFlags := 25, slot := 18, constantValue := 0 }, { name := "JLA", type := (.object "jdk/internal/access/JavaLangAccess"), accessFlags := 26, slot := 19, constantValue := 0 }, { name := "SOFT_MAX_ARRAY_LENGTH", type := .int, accessFlags := 25, slot := 20, constantValue := 0 }]
  methods := #[k14m0]
  instanceTypes := #[]
  staticTypes := #[(.object "jdk/internal/misc/Unsafe"), .boolean, .int, .int, .int, .int, .int, .int, .int, .int, .int, .int, .int, .int, .int, .int, .int, .int, .int, (.object "jdk/internal/access/JavaLangAccess"), .int]
  resolved := Array.replicate 378 none
  statics := none }

/-- the primitive byte -/
def k15 : Class := { plain "byte" none with kind := .primitive 'B', accessFlags := 0x411 }
/-- [B -/
def k16 : Class := { plain "[B" (some 0) with kind := .array 15 .byte, interfaces := #[12, 2], accessFlags := 1041 }

/-- the primitive char -/
def k17 : Class := { plain "char" none with kind := .primitive 'C', accessFlags := 0x411 }
/-- [C -/
def k18 : Class := { plain "[C" (some 0) with kind := .array 17 .char, interfaces := #[12, 2], accessFlags := 1041 }

/-- the primitive int -/
def k19 : Class := { plain "int" none with kind := .primitive 'I', accessFlags := 0x411 }
/-- [I -/
def k20 : Class := { plain "[I" (some 0) with kind := .array 19 .int, interfaces := #[12, 2], accessFlags := 1041 }

/-- [Lcom/example/xml_retrieval_scoring/xmlretrievalscoring/AssessmentLayout; -/
def k21 : Class := { plain "[Lcom/example/xml_retrieval_scoring/xmlretrievalscoring/AssessmentLayout;" (some 0) with kind := .array 11 (.object "com/example/xml_retrieval_scoring/xmlretrievalscoring/AssessmentLayout"), interfaces := #[12, 2], accessFlags := 1041 }

def heap : Heap := #[{ cls := 7, slots := #[.long 0, .int 1, .null, .int 0, .null, .int 0, .int 0], vm := .statics 7 },
  { cls := 11, slots := #[.ref 4, .ref 5, .ref 3], vm := .statics 11 },
  { cls := 13, slots := #[.null, .null, .null], vm := .statics 13 },
  { cls := 21, slots := #[.ref 4, .ref 5], vm := .none },
  { cls := 11, slots := #[.null, .int 0, .int 0, .null, .null, .ref 6, .null], vm := .none },
  { cls := 11, slots := #[.null, .int 1, .int 0, .null, .null, .ref 7, .null], vm := .none },
  { cls := 7, slots := #[.ref 8, .int 0, .int 0, .int 0], vm := .none },
  { cls := 7, slots := #[.ref 9, .int 0, .int 0, .int 0], vm := .none },
  { cls := 16, slots := #[.int 112, .int 97, .int 116, .int 104], vm := .none },
  { cls := 16, slots := #[.int 101, .int 108, .int 101, .int 109, .int 101, .int 110, .int 116], vm := .none }]
def classes : Array Class := #[k0, k1, k2, k3, k4, k5, k6, k7, k8, k9, k10, k11, k12, k13, k14, k15, k16, k17, k18, k19, k20, k21]
def interned : List (Array UInt16 × Addr) := []
def slotsUsed : Nat := 48
def theMethod : MethodId := ⟨1, 2⟩
def args0 : Array Value := #[.int 0, .int 0, .long 0, .int 0, .int 0]
def aboutOver (below : List Frame) : State where
  vm := { classes := classes, interned := interned.toArray }
  heap := heap
  slotsUsed := slotsUsed
  threads := #[{ frames := .invoking theMethod args0 :: below }]
def below0 : List Frame := [.native { method := ⟨0, 0⟩, args := #[] }]
def about1 : State := aboutOver below0
def p0 : Program := .bare "" "" ""
def e0 : Env := launch0.env 0 0 0
theorem w_frames : about1.frames = Frame.invoking theMethod args0 :: below0 := rfl
set_option maxRecDepth 65536 in
theorem w_args : argsFit about1.vm theMethod args0 = true := by decide +kernel
set_option maxRecDepth 65536 in
theorem w_heap : heapFits about1 = true := by decide +kernel
set_option maxRecDepth 65536 in
theorem w_runnable : about1.curStatus? = some .runnable := by decide +kernel
set_option maxRecDepth 65536 in
theorem w_alone : about1.alone = true := by decide +kernel
set_option maxRecDepth 65536 in
theorem w_named : about1.methodNamed? x = some theMethod := by decide +kernel
set_option maxRecDepth 65536 in
theorem w_hears : about1.hears theMethod below0 = true := by decide +kernel
set_option maxRecDepth 65536 in
theorem w_ripe : about1.ripe theMethod args0 below0 = true := by decide +kernel
theorem w_running : about1.status = .running := rfl
set_option maxRecDepth 65536 in
theorem w_room : about1.hasRoom e0.platform room_1 = true :=
  launch0.hasRoom_least _ room_1 (by decide +kernel) (by decide +kernel) (by decide +kernel) (by decide +kernel) (by decide +kernel) (by decide +kernel)
theorem allAtoms_all (ts : List Jvm.Cond) (a : Array Jvm.Value) (st : Jvm.State) : (allAtoms ts).before a st = ts.all (fun c => c.before a st) := by
  induction ts with
  | nil => rfl
  | cons c t ih =>
    show (Jvm.Cond.and c (allAtoms t)).before a st = _
    rw [Jvm.Cond.before_and, ih, List.all_cons]
def words1 : List Jvm.Cond := Jvm.Cond.code x code maxLocals ret :: tables_1
/-- a 'code' word, met by the world's own term for the bytes: nothing is compared byte by byte -/
theorem code_word {y : MethodName} {bytes : ByteArray} {mx : Nat} {rt : Option FieldType} {a : Array Value} {s : State} {m : MethodId} {meth : Method} {c : Code} (h1 : s.methodNamed? y = some m) (h2 : s.vm.method? m = some meth) (h3 : meth.code = some c) (h4 : c.code = bytes)
    (h5 : (c.maxLocals == mx && c.exceptionTable.isEmpty && decide (c.maxStack ≤ mostOperands) && decide (meth.sig.returnType = rt) && !meth.locks && decide (parseMethodDescriptor y.desc = some meth.sig)) = true) : (Jvm.Cond.code y bytes mx rt).before a s = true := by
  simp only [Bool.and_eq_true, beq_iff_eq, Bool.not_eq_true', decide_eq_true_eq] at h5
  obtain ⟨⟨⟨⟨⟨g1, g2⟩, g3⟩, g4⟩, g5⟩, g6⟩ := h5
  simp [Cond.before, Cond.holds, Cond.value, h1, h2, h3, h4, g1, g2, g3, g4, g5, g6]
def isCode : Jvm.Cond → Bool
  | .code _ _ _ _ => true
  | _ => false
theorem all_split {L : List Jvm.Cond} {P : Jvm.Cond → Bool} (h1 : L.all (fun c => isCode c || P c) = true) (h2 : ∀ c ∈ L.filter isCode, P c = true) : L.all P = true := by
  refine List.all_eq_true.mpr fun c hc => ?_
  have h := List.all_eq_true.mp h1 c hc
  rcases Bool.eq_false_or_eq_true (isCode c) with hi | hi
  · exact h2 c (List.mem_filter.mpr ⟨hc, hi⟩)
  · simpa [hi] using h
set_option maxRecDepth 65536 in
theorem w_c0 : (Jvm.Cond.code x code maxLocals ret).before args0 about1 = true := code_word (m := ⟨1, 2⟩) (meth := k1m2) (c := k1c2) (by decide +kernel) rfl rfl rfl (by decide +kernel)
set_option maxRecDepth 65536 in
theorem w_c1 : (Jvm.Cond.code ({ cls := "com/example/xml_retrieval_scoring/xmlretrievalscoring/AssessmentLayoutOfRecordPinLaw", name := "make", desc := "([CI)Ljava/lang/String;" } : Jvm.MethodName) method_2_code (2 : Nat) (Option.some (Jvm.ClassFile.FieldType.object "java/lang/String"))).before args0 about1 = true := code_word (m := ⟨1, 1⟩) (meth := k1m1) (c := k1c1) (by decide +kernel) rfl rfl rfl (by decide +kernel)
set_option maxRecDepth 65536 in
theorem w_c2 : (Jvm.Cond.code ({ cls := "java/lang/String", name := "<init>", desc := "([C)V" } : Jvm.MethodName) jdk_42_method_3_code (2 : Nat) (Option.none : Option Jvm.ClassFile.FieldType)).before args0 about1 = true := code_word (m := ⟨7, 1⟩) (meth := k7m1) (c := k7c1) (by decide +kernel) rfl rfl rfl (by decide +kernel)
set_option maxRecDepth 65536 in
theorem w_c3 : (Jvm.Cond.code ({ cls := "java/lang/String", name := "<init>", desc := "([CIILjava/lang/Void;)V" } : Jvm.MethodName) jdk_42_method_149_code (6 : Nat) (Option.none : Option Jvm.ClassFile.FieldType)).before args0 about1 = true := code_word (m := ⟨7, 3⟩) (meth := k7m3) (c := k7c3) (by decide +kernel) rfl rfl rfl (by decide +kernel)
set_option maxRecDepth 65536 in
theorem w_c4 : (Jvm.Cond.code ({ cls := "java/lang/Object", name := "<init>", desc := "()V" } : Jvm.MethodName) object_method_1_code (1 : Nat) (Option.none : Option Jvm.ClassFile.FieldType)).before args0 about1 = true := code_word (m := ⟨0, 0⟩) (meth := k0m0) (c := k0c0) (by decide +kernel) rfl rfl rfl (by decide +kernel)
set_option maxRecDepth 65536 in
theorem w_c5 : (Jvm.Cond.code ({ cls := "java/lang/StringUTF16", name := "compress", desc := "([CII)[B" } : Jvm.MethodName) jdk_52_method_16_code (6 : Nat) (Option.some (Jvm.ClassFile.FieldType.array Jvm.ClassFile.FieldType.byte))).before args0 about1 = true := code_word (m := ⟨8, 2⟩) (meth := k8m2) (c := k8c2) (by decide +kernel) rfl rfl rfl (by decide +kernel)
set_option maxRecDepth 65536 in
theorem w_c6 : (Jvm.Cond.code ({ cls := "java/lang/StringUTF16", name := "compress", desc := "([CI[BII)I" } : Jvm.MethodName) jdk_52_method_21_code (7 : Nat) (Option.some Jvm.ClassFile.FieldType.int)).before args0 about1 = true := code_word (m := ⟨8, 3⟩) (meth := k8m3) (c := k8c3) (by decide +kernel) rfl rfl rfl (by decide +kernel)
set_option maxRecDepth 65536 in
theorem w_c7 : (Jvm.Cond.code ({ cls := "java/lang/StringUTF16", name := "coderFromArrayLen", desc := "([BI)B" } : Jvm.MethodName) jdk_52_method_15_code (2 : Nat) (Option.some Jvm.ClassFile.FieldType.byte)).before args0 about1 = true := code_word (m := ⟨8, 1⟩) (meth := k8m1) (c := k8c1) (by decide +kernel) rfl rfl rfl (by decide +kernel)
set_option maxRecDepth 65536 in
theorem w_c8 : (Jvm.Cond.code ({ cls := "java/lang/String", name := "equals", desc := "(Ljava/lang/Object;)Z" } : Jvm.MethodName) jdk_42_method_66_code (3 : Nat) (Option.some Jvm.ClassFile.FieldType.boolean)).before args0 about1 = true := code_word (m := ⟨7, 2⟩) (meth := k7m2) (c := k7c2) (by decide +kernel) rfl rfl rfl (by decide +kernel)
set_option maxRecDepth 65536 in
theorem w_c9 : (Jvm.Cond.code ({ cls := "java/lang/StringLatin1", name := "equals", desc := "([B[B)Z" } : Jvm.MethodName) jdk_43_method_13_code (3 : Nat) (Option.some Jvm.ClassFile.FieldType.boolean)).before args0 about1 = true := code_word (m := ⟨9, 1⟩) (meth := k9m1) (c := k9c1) (by decide +kernel) rfl rfl rfl (by decide +kernel)
set_option maxRecDepth 65536 in
theorem w_c10 : (Jvm.Cond.code ({ cls := "com/example/xml_retrieval_scoring/xmlretrievalscoring/AssessmentLayout", name := "ofRecord", desc := "(Ljava/lang/String;)Lcom/example/xml_retrieval_scoring/xmlretrievalscoring/AssessmentLayout;" } : Jvm.MethodName) prog_1_method_7_code (6 : Nat) (Option.some (Jvm.ClassFile.FieldType.object "com/example/xml_retrieval_scoring/xmlretrievalscoring/AssessmentLayout"))).before args0 about1 = true := code_word (m := ⟨11, 1⟩) (meth := k11m1) (c := k11c1) (by decide +kernel) rfl rfl rfl (by decide +kernel)
set_option maxRecDepth 65536 in
theorem w_c11 : (Jvm.Cond.code ({ cls := "com/example/xml_retrieval_scoring/xmlretrievalscoring/AssessmentLayout", name := "values", desc := "()[Lcom/example/xml_retrieval_scoring/xmlretrievalscoring/AssessmentLayout;" } : Jvm.MethodName) prog_1_method_1_code (0 : Nat) (Option.some (Jvm.ClassFile.FieldType.array (Jvm.ClassFile.FieldType.object "com/example/xml_retrieval_scoring/xmlretrievalscoring/AssessmentLayout")))).before args0 about1 = true := code_word (m := ⟨11, 0⟩) (meth := k11m0) (c := k11c0) (by decide +kernel) rfl rfl rfl (by decide +kernel)
def codes1 : List Jvm.Cond := [Jvm.Cond.code x code maxLocals ret, Jvm.Cond.code ({ cls := "com/example/xml_retrieval_scoring/xmlretrievalscoring/AssessmentLayoutOfRecordPinLaw", name := "make", desc := "([CI)Ljava/lang/String;" } : Jvm.MethodName) method_2_code (2 : Nat) (Option.some (Jvm.ClassFile.FieldType.object "java/lang/String")), Jvm.Cond.code ({ cls := "java/lang/String", name := "<init>", desc := "([C)V" } : Jvm.MethodName) jdk_42_method_3_code (2 : Nat) (Option.none : Option Jvm.ClassFile.FieldType), Jvm.Cond.code ({ cls := "java/lang/String", name := "<init>", desc := "([CIILjava/lang/Void;)V" } : Jvm.MethodName) jdk_42_method_149_code (6 : Nat) (Option.none : Option Jvm.ClassFile.FieldType), Jvm.Cond.code ({ cls := "java/lang/Object", name := "<init>", desc := "()V" } : Jvm.MethodName) object_method_1_code (1 : Nat) (Option.none : Option Jvm.ClassFile.FieldType), Jvm.Cond.code ({ cls := "java/lang/StringUTF16", name := "compress", desc := "([CII)[B" } : Jvm.MethodName) jdk_52_method_16_code (6 : Nat) (Option.some (Jvm.ClassFile.FieldType.array Jvm.ClassFile.FieldType.byte)), Jvm.Cond.code ({ cls := "java/lang/StringUTF16", name := "compress", desc := "([CI[BII)I" } : Jvm.MethodName) jdk_52_method_21_code (7 : Nat) (Option.some Jvm.ClassFile.FieldType.int), Jvm.Cond.code ({ cls := "java/lang/StringUTF16", name := "coderFromArrayLen", desc := "([BI)B" } : Jvm.MethodName) jdk_52_method_15_code (2 : Nat) (Option.some Jvm.ClassFile.FieldType.byte), Jvm.Cond.code ({ cls := "java/lang/String", name := "equals", desc := "(Ljava/lang/Object;)Z" } : Jvm.MethodName) jdk_42_method_66_code (3 : Nat) (Option.some Jvm.ClassFile.FieldType.boolean), Jvm.Cond.code ({ cls := "java/lang/StringLatin1", name := "equals", desc := "([B[B)Z" } : Jvm.MethodName) jdk_43_method_13_code (3 : Nat) (Option.some Jvm.ClassFile.FieldType.boolean), Jvm.Cond.code ({ cls := "com/example/xml_retrieval_scoring/xmlretrievalscoring/AssessmentLayout", name := "ofRecord", desc := "(Ljava/lang/String;)Lcom/example/xml_retrieval_scoring/xmlretrievalscoring/AssessmentLayout;" } : Jvm.MethodName) prog_1_method_7_code (6 : Nat) (Option.some (Jvm.ClassFile.FieldType.object "com/example/xml_retrieval_scoring/xmlretrievalscoring/AssessmentLayout")), Jvm.Cond.code ({ cls := "com/example/xml_retrieval_scoring/xmlretrievalscoring/AssessmentLayout", name := "values", desc := "()[Lcom/example/xml_retrieval_scoring/xmlretrievalscoring/AssessmentLayout;" } : Jvm.MethodName) prog_1_method_1_code (0 : Nat) (Option.some (Jvm.ClassFile.FieldType.array (Jvm.ClassFile.FieldType.object "com/example/xml_retrieval_scoring/xmlretrievalscoring/AssessmentLayout")))]
set_option maxRecDepth 65536 in
theorem codes_eq : words1.filter isCode = codes1 := rfl
theorem w_codes : ∀ c ∈ words1.filter isCode, c.before args0 about1 = true := by
  rw [codes_eq]
  intro c hc
  simp only [codes1, List.mem_cons, List.not_mem_nil, or_false] at hc
  rcases hc with rfl | rfl | rfl | rfl | rfl | rfl | rfl | rfl | rfl | rfl | rfl | rfl
  · exact w_c0
  · exact w_c1
  · exact w_c2
  · exact w_c3
  · exact w_c4
  · exact w_c5
  · exact w_c6
  · exact w_c7
  · exact w_c8
  · exact w_c9
  · exact w_c10
  · exact w_c11
set_option maxRecDepth 65536 in
theorem w_t1 : (words1.take 24).all (fun c => isCode c || c.before args0 about1) = true := by decide +kernel
set_option maxRecDepth 65536 in
theorem w_t2 : ((words1.drop 24).take 24).all (fun c => isCode c || c.before args0 about1) = true := by decide +kernel
set_option maxRecDepth 65536 in
theorem w_t3 : (((words1.drop 24).drop 24).take 24).all (fun c => isCode c || c.before args0 about1) = true := by decide +kernel
set_option maxRecDepth 65536 in
theorem w_t4 : (((words1.drop 24).drop 24).drop 24).all (fun c => isCode c || c.before args0 about1) = true := by decide +kernel
theorem w_tables : (allAtoms (Jvm.Cond.code x code maxLocals ret :: tables_1)).before args0 about1 = true := by
  rw [allAtoms_all]
  show words1.all (fun c => c.before args0 about1) = true
  refine all_split ?_ w_codes
  rw [← List.take_append_drop 24 words1, List.all_append, w_t1, ← List.take_append_drop 24 (words1.drop 24), List.all_append, w_t2, ← List.take_append_drop 24 ((words1.drop 24).drop 24), List.all_append, w_t3, w_t4]
  rfl
set_option maxRecDepth 65536 in
theorem w_rest : rest_1_c.before args0 about1 = true := by decide +kernel
set_option maxRecDepth 65536 in
theorem w_case : (Jvm.Cond.and given_1 narrow_1).before args0 about1 = true := by decide +kernel
set_option maxRecDepth 65536 in
theorem w_consts : constsHeld consts_1 about1 := Jvm.Lit.constsHeldB_iff.mp (by decide +kernel)
theorem w_applies : (headSpec (Jvm.Cond.code x code maxLocals ret :: tables_1) room_1).applies x e0.platform about1 = true :=
  (Spec.applies_iff w_frames).mpr ⟨w_running, w_runnable, w_alone, w_named, w_hears, w_ripe, w_room, w_tables⟩
theorem atStart : AtStart classFile x code maxLocals ret World_1 tables_1 room_1 Calls_1 rest_1 Pre_1 launch0 p0 e0 about1 theMethod args0 below0 :=
  ⟨lists_1, trivial, launch0.admits_env _ _ _, launch0.least_env, fairChoices_fair.cas, fairChoices_fair.clock, w_frames, w_args, w_heap, w_applies, ⟨w_consts, trivial⟩, w_rest, w_case⟩
end start1
theorem witness_1 : WitnessClaimed_1 := ⟨start1.p0, start1.e0, start1.about1, start1.theMethod, start1.args0, start1.below0, start1.atStart⟩
end Jvm.Pilot.@@N@@
