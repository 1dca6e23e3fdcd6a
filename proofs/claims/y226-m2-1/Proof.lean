import JvmDerived
import JvmDerived.Pilot.@@N@@Statement
import JvmDerived.Pilot.@@N@@Code
set_option linter.unusedVariables false
set_option linter.unusedSimpArgs false
namespace Jvm.OwnGo
open Sem ClassFile Op Lib Jvm.Stand Jvm.Free Jvm.LawKit Jvm.RoadKit Bundle
section OwnFacts
variable {Z : State} {h h' : Heap} {a b t : Addr} {C n d : String} {v w : Value} {ws : List Addr} {bo : Bool} {ka kb : ClassId} {ty : FieldType} {z : Int32} {vs : List Value} {dv : Value} {cs : List Int32} {sl : Nat}
theorem Sta_keep (F : Sta Z h C n d v) (K : Keep h h' []) : Sta Z h' C n d v := by
  obtain ⟨cf, i, k, f, st, cell, h1, h2, h3, h4, h5, h6, h7⟩ := F
  exact ⟨cf, i, k, f, st, cell, h1, h2, h3, h4, K.2.1 _ _ h5 nin0, h6, h7⟩
theorem Ins_keep (F : Ins Z h a C bo) (K : Keep h h' ws) : Ins Z h' a C bo := by
  obtain ⟨cell, cT, h1, h2, h3⟩ := F
  obtain ⟨c', q, r1, r2, r3⟩ := K.2.2 a cell h1
  exact ⟨c', cT, q, h2, by rw [r1, r2]; exact h3⟩
theorem own_sto {y : Addr} (F : Arv Z h a ka ty z vs dv) (O : Ovr Z ka C) (I : Ins Z h y C true) : Sto Z h a (.ref y) := by
  obtain ⟨cl, A, q, -⟩ := F
  exact Sto.ofV A q O I
theorem Sta_keepE (F : Sta Z h C n d v) (K : Keep h h' ws) (q : ∀ x ∈ ws, ∃ Cx, Exa Z h x Cx) : Sta Z h' C n d v := by
  obtain ⟨cf, i, k, f, st, cell, h1, h2, h3, h4, h5, h6, h7⟩ := F
  refine ⟨cf, i, k, f, st, cell, h1, h2, h3, h4, K.2.1 _ _ h5 (fun hm => ?_), h6, h7⟩
  obtain ⟨Cx, c1, k1, e1, -, -, e4, -⟩ := q _ hm
  cases e1.symm.trans h5
  rw [e4] at h6; cases h6
theorem own_ne_arv {a0 : Array Value} {nk : Nat} (F : Exa Z h a C) (wi : (Cond.instantiable C nk).before a0 Z = true) (G : Arv Z h b ka ty z vs dv) : a ≠ b := by
  obtain ⟨cl, A, -⟩ := G
  exact ne_arr F wi A
/-- the String at a: one byte a char, its array at t -/
def Str (Z : State) (h : Heap) (a t : Addr) (kb : ClassId) (cs : List Int32) : Prop :=
  Exa Z h a "java/lang/String" ∧ Fld Z h a "java/lang/String" "coder" "B" (.int 0) ∧ Fld Z h a "java/lang/String" "value" "[B" (.ref t) ∧ Arv Z h t kb .byte (Int32.ofNat cs.length) ((cs.map fun c => c.toInt8.toInt32).map Value.int) (.int 0) ∧ cs.length ≤ 4000 ∧ ∀ c ∈ cs, ¬ c < 0 ∧ ¬ (255 : Int32) < c
theorem Str.keep (S : Str Z h a t kb cs) (K : Keep h h' ws) (q : a ∉ ws) (r : t ∉ ws) : Str Z h' a t kb cs := ⟨S.1.keep K, S.2.1.keep K q, S.2.2.1.keep K q, S.2.2.2.1.keep K r, S.2.2.2.2⟩
theorem Str.ext (S : Str Z h a t kb cs) (E : Ext h h') : Str Z h' a t kb cs := ⟨S.1.ext E, S.2.1.ext E, S.2.2.1.ext E, S.2.2.2.1.ext E, S.2.2.2.2⟩
theorem Str.other (S : Str Z h a t kb cs) (W : Wr h h' b sl v) (q : a ≠ b) (r : t ≠ b) : Str Z h' a t kb cs := ⟨S.1.wr W, S.2.1.other W (Or.inl q), S.2.2.1.other W (Or.inl q), S.2.2.2.1.other W r, S.2.2.2.2⟩
theorem Str.tlt (S : Str Z h a t kb cs) : t < h.size := S.2.2.2.1.lt
/-- C's chain of superclasses does not meet K, a class that can be made -/
theorem own_root {a0 : Array Value} {O K : String} {nk : Nat} (w : (Cond.noSuperclass O).before a0 Z = true) (wk : (Cond.instantiable K nk).before a0 Z = true) (hn : O ≠ K) : NS Z O K := by
  obtain ⟨c, k, h1, h2, h3, -, -⟩ := Cond.noSuperclass_spec w
  obtain ⟨t, kt, g1, -⟩ := Cond.instantiable_spec wk
  have ne := ids_ne h1 g1 hn
  refine ⟨c, t, h1, g1, fun fuel => ?_⟩
  cases fuel with
  | zero => rfl
  | succ f => simp [Vm.isSubclassAux, ne, h2, h3]
theorem own_no {a0 : Array Value} {C S K : String} {nk : Nat} (w : (Cond.superclass C S).before a0 Z = true) (wk : (Cond.instantiable K nk).before a0 Z = true) (n : NS Z C K) (hn : C ≠ K) : ∃ c t, Z.vm.findClass C = some c ∧ Z.vm.findClass K = some t ∧ Z.vm.assignable c t = false := by
  obtain ⟨c, t, h0, g0, n3⟩ := n
  obtain ⟨p, k, kp, h1, h2, h3, h4, h5, -, h7⟩ := Cond.superclass_spec h0 w
  obtain ⟨t', k', g1, g2, g3, g4, -⟩ := Cond.instantiable_spec wk
  cases g0.symm.trans g1
  have g5 : k'.isInterface = false := by
    cases hi : k'.isInterface <;> simp [hi] at g4 ⊢
  have ne := ids_ne h0 g0 hn
  refine ⟨c, t, h0, g0, ?_⟩
  show Z.vm.assignableAux (255 + 1) c t = false
  simp [Vm.assignableAux, ne, h2, g2, h5, g3, g5, Vm.isSubclass, n3]
/-- the boxes that stood before -/
def Box (Z : State) (h : Heap) (a : Addr) (K d : String) (z : Int32) (val : Int32 → Value) : Prop :=
  ∃ c : Cell, Arr Z h a c (.object K) ∧ c.slots.size = z.toNatClampNeg ∧ ¬ z < 0 ∧ ∀ j : Int32, ¬ (j < 0 ∨ c.slots.size ≤ j.toNatClampNeg) → ∃ b : Addr, c.slots[j.toNatClampNeg]? = some (.ref b) ∧ Exa Z h b K ∧ Fld Z h b K "value" d (val j)
theorem Box.start {K : String} {val : Int32 → Value} {c : Cell} (F : Bxs Z a c K d z val) : Box Z Z.heap a K d z val := ⟨c, F.1, F.2.1, F.2.2.1, F.2.2.2⟩
theorem Box.keep {K : String} {val : Int32 → Value} (F : Box Z h a K d z val) (Kp : Keep h h' []) : Box Z h' a K d z val := by
  obtain ⟨c, f1, f2, f3, f4⟩ := F
  refine ⟨c, ⟨Kp.2.1 _ _ f1.1 nin0, f1.2⟩, f2, f3, fun j hj => ?_⟩
  obtain ⟨b, q1, q2, q3⟩ := f4 j hj
  exact ⟨b, q1, q2.keep Kp, q3.keep Kp nin0⟩
end OwnFacts
end Jvm.OwnGo
namespace Jvm.OwnGo
open Sem ClassFile Op Lib Jvm.Stand Jvm.Free Jvm.LawKit Jvm.RoadKit Bundle
section OwnGo
variable {Z : State} {a0 : Array Value} {tb : List Jvm.Cond} {p : Program} {l : Launch} {e : Env} {R : Room} {s : State} {m : MethodId} {args : Array Value} {below : List Frame} {meth : Method} {c : Code} {own mname : String} {bytes : ByteArray} {maxL : Nat} {ret : Option FieldType} {n0 : Nat} {Q : Option Value → Heap → List Addr → Prop} {Q2 : Option Value → Heap → Prop} {fs : List Addr} {h : Heap} {k n : Nat} {pc : Nat} {Ls : Array Slot} {St : List Value} {EL : List (String × Nat)}
/-- what is fixed in the walk of one body -/
def Cx (Z : State) (a0 : Array Value) (tb : List Jvm.Cond) (p : Program) (s : State) (m : MethodId) (meth : Method) (c : Code) (own mname : String) (bytes : ByteArray) (maxL : Nat) (ret : Option FieldType) (n0 : Nat) : Prop :=
  p.tables.exec = Jvm.exec ∧ Z.Warmed39 s.vm ∧ s.vm.findClass own = some m.cls ∧ c.code = bytes ∧ c.maxLocals = maxL ∧ meth.sig.returnType = ret ∧ meth.locks = false ∧ (∀ d ∈ tb, d.before a0 Z = true) ∧ meth.name = mname ∧ n0 ≤ s.heap.size
theorem Cx.hx (C : Cx Z a0 tb p s m meth c own mname bytes maxL ret n0) : p.tables.exec = Jvm.exec := C.1
theorem Cx.hZ (C : Cx Z a0 tb p s m meth c own mname bytes maxL ret n0) : Z.Warmed39 s.vm := C.2.1
theorem Cx.hown (C : Cx Z a0 tb p s m meth c own mname bytes maxL ret n0) : s.vm.findClass own = some m.cls := C.2.2.1
theorem Cx.hby (C : Cx Z a0 tb p s m meth c own mname bytes maxL ret n0) : c.code = bytes := C.2.2.2.1
theorem Cx.hml (C : Cx Z a0 tb p s m meth c own mname bytes maxL ret n0) : c.maxLocals = maxL := C.2.2.2.2.1
theorem Cx.hret (C : Cx Z a0 tb p s m meth c own mname bytes maxL ret n0) : meth.sig.returnType = ret := C.2.2.2.2.2.1
theorem Cx.hlk (C : Cx Z a0 tb p s m meth c own mname bytes maxL ret n0) : meth.locks = false := C.2.2.2.2.2.2.1
theorem Cx.hw (C : Cx Z a0 tb p s m meth c own mname bytes maxL ret n0) {d : Jvm.Cond} (hd : d ∈ tb) : d.before a0 Z = true := C.2.2.2.2.2.2.2.1 d hd
theorem Cx.hnm (C : Cx Z a0 tb p s m meth c own mname bytes maxL ret n0) : meth.name = mname := C.2.2.2.2.2.2.2.2.1
theorem Cx.hn0 (C : Cx Z a0 tb p s m meth c own mname bytes maxL ret n0) : n0 ≤ s.heap.size := C.2.2.2.2.2.2.2.2.2
theorem Cx.hownAt (C : Cx Z a0 tb p s m meth c own mname bytes maxL ret n0) {vm0 : Vm} (hZ : Z.Warmed39 vm0) : vm0.findClass own = some m.cls := by
  rw [hZ.alike.findClass, ← C.hZ.alike.findClass]; exact C.hown
/-- what holds of the tables and the heap all along: the literals' invariant, and which new cells may be written -/
def Inv (Z : State) (EL : List (String × Nat)) (s : State) (vm0 : Vm) (n0 : Nat) (fs : List Addr) (h : Heap) : Prop :=
  n0 ≤ h.size ∧ (∀ x ∈ fs, n0 ≤ x ∧ x < h.size ∧ Safe Z EL vm0 h x) ∧ (∃ k0, s.Since vm0 k0 ∧ k0 ≤ h.size) ∧ Z.Warmed39 vm0 ∧ CHv Z EL vm0 h ∧ CHr Z EL s.vm s.heap vm0 h
theorem Inv.hZ {vm0 : Vm} (I : Inv Z EL s vm0 n0 fs h) : Z.Warmed39 vm0 := I.2.2.2.1
theorem Inv.ext {vm0 : Vm} {h' : Heap} (I : Inv Z EL s vm0 n0 fs h) (E : Ext h h') : Inv Z EL s vm0 n0 fs h' := by
  obtain ⟨i1, i2, ⟨k0, i3, i4⟩, i5, i6, i7⟩ := I
  exact ⟨Nat.le_trans i1 E.1, fun x hx => ⟨(i2 x hx).1, Nat.lt_of_lt_of_le (i2 x hx).2.1 E.1, (i2 x hx).2.2.ext E i6⟩, ⟨k0, i3, Nat.le_trans i4 E.1⟩, i5, i6.ext E, i7.trans (CHr.ext E i6)⟩
theorem Inv.new {vm0 : Vm} {h' : Heap} (I : Inv Z EL s vm0 n0 fs h) (E : Ext h h') (q : h.size < h'.size) : Inv Z EL s vm0 n0 (h.size :: fs) h' := by
  have J := I.ext E
  refine ⟨J.1, fun x hx => ?_, J.2.2⟩
  rcases List.mem_cons.mp hx with rfl | hx
  · exact ⟨I.1, q, (Safe.new (Nat.le_refl _)).ext E I.2.2.2.2.1⟩
  · exact J.2.1 x hx
theorem Inv.wr {vm0 : Vm} {h' : Heap} {a : Addr} {sl : Nat} {v : Value} (I : Inv Z EL s vm0 n0 fs h) (W : Wr h h' a sl v) (ha : a ∈ fs) : Inv Z EL s vm0 n0 fs h' := by
  obtain ⟨i1, i2, ⟨k0, i3, i4⟩, i5, i6, i7⟩ := I
  have hs := W.size
  have S := (i2 a ha).2.2
  exact ⟨by omega, fun x hx => ⟨(i2 x hx).1, by rw [hs]; exact (i2 x hx).2.1, Safe.wr W S i6 (i2 x hx).2.2⟩, ⟨k0, i3, by omega⟩, i5, i6.wr W S, i7.trans (CHr.wr W S i6)⟩
theorem Inv.kept {vm0 : Vm} {h' : Heap} {a : Addr} (I : Inv Z EL s vm0 n0 fs h) (K : Keep h h' [a]) (ha : a ∈ fs) : Inv Z EL s vm0 n0 fs h' := by
  obtain ⟨i1, i2, ⟨k0, i3, i4⟩, i5, i6, i7⟩ := I
  have S : ∀ x ∈ [a], Safe Z EL vm0 h x := fun x hx => by cases List.mem_singleton.mp hx; exact (i2 a ha).2.2
  exact ⟨Nat.le_trans i1 K.1, fun x hx => ⟨(i2 x hx).1, Nat.lt_of_lt_of_le (i2 x hx).2.1 K.1, (i2 x hx).2.2.keep K S i6⟩, ⟨k0, i3, Nat.le_trans i4 K.1⟩, i5, i6.keep K S, i7.trans (CHr.keep K S i6)⟩
theorem Inv.ge {vm0 : Vm} {a : Addr} (I : Inv Z EL s vm0 n0 fs h) (ha : a ∈ fs) : n0 ≤ a := (I.2.1 a ha).1
theorem Inv.less {vm0 : Vm} {fs' : List Addr} (I : Inv Z EL s vm0 n0 fs h) (q : ∀ x ∈ fs', x ∈ fs) : Inv Z EL s vm0 n0 fs' h := ⟨I.1, fun x hx => I.2.1 x (q x hx), I.2.2⟩
/-- a body that tells of no new cell that its caller may write -/
def nq (Q : Option Value → Heap → Prop) : Option Value → Heap → List Addr → Prop := fun v h ns => ns = [] ∧ Q v h
/-- from every state that stands at frame f over the heap h, the body ends well -/
def Go (Z : State) (EL : List (String × Nat)) (p : Program) (l : Launch) (e : Env) (R : Room) (s : State) (m : MethodId) (args : Array Value) (below : List Frame) (meth : Method) (c : Code) (n0 : Nat) (Q : Option Value → Heap → List Addr → Prop) (fs : List Addr) (h : Heap) (k n : Nat) (f : JFrame) : Prop :=
  ∀ vm0 T locs, Stand p l e R (s.setVm vm0) m args below meth c T locs k n → T.heap = h → Fr n0 locs → Inv Z EL s vm0 n0 fs h →
    ∃ s₂ o, Steps p.tables e below (T.setTop f) s₂ ∧ s₂.status = .running ∧ Ended s₂ below o ∧ ∃ v L ns, o = .returned v ∧ (Q v s₂.heap ns ∧ Fr n0 L) ∧ (∀ x ∈ ns, n0 ≤ x ∧ x < s₂.heap.size ∧ Safe Z EL s₂.vm s₂.heap x) ∧ CHr Z EL s.vm s.heap s₂.vm s₂.heap ∧ ReturnedEndW s o s₂ L R.cells R.slots
theorem Go.step {f f' : JFrame} (H : ∀ T : State, At T m c below → ∀ t, Steps p.tables e below (T.setTop f') t → Steps p.tables e below (T.setTop f) t) (K : Go Z EL p l e R s m args below meth c n0 Q fs h k n f') : Go Z EL p l e R s m args below meth c n0 Q fs h k n f := by
  intro vm0 T locs X eT N I
  obtain ⟨s2, o, st, r⟩ := K vm0 T locs X eT N I
  exact ⟨s2, o, H T X.here s2 st, r⟩
theorem Go.less {f : JFrame} {fs' : List Addr} (K : Go Z EL p l e R s m args below meth c n0 Q fs' h k n f) (q : ∀ x ∈ fs', x ∈ fs) : Go Z EL p l e R s m args below meth c n0 Q fs h k n f := by
  intro vm0 T locs X eT N I
  exact K vm0 T locs X eT N (I.less q)
theorem Go.size {f : JFrame} (K : n0 ≤ h.size → Go Z EL p l e R s m args below meth c n0 Q fs h k n f) : Go Z EL p l e R s m args below meth c n0 Q fs h k n f := by
  intro vm0 T locs X eT N I
  exact K I.1 vm0 T locs X eT N I
theorem Go.ge {f : JFrame} {a : Addr} (ha : a ∈ fs) (K : n0 ≤ a → Go Z EL p l e R s m args below meth c n0 Q fs h k n f) : Go Z EL p l e R s m args below meth c n0 Q fs h k n f := by
  intro vm0 T locs X eT N I
  exact K (I.ge ha) vm0 T locs X eT N I
theorem g_iload (C : Cx Z a0 tb p s m meth c own mname bytes maxL ret n0) {j : Nat} {z : Int32} (hd : decode bytes pc = .ok (.iload j, 2)) (hl : Ls[j]? = some (.val (.int z))) (K : Go Z EL p l e R s m args below meth c n0 Q fs h k n (mkF m (pc + 2) Ls (.int z :: St))) : Go Z EL p l e R s m args below meth c n0 Q fs h k n (mkF m pc Ls (St)) :=
  Go.step (fun T A t st => XS.iload A C.hx rfl (hb C.hby hd) hl st) K
theorem g_iloadN (C : Cx Z a0 tb p s m meth c own mname bytes maxL ret n0) {j : Fin 4} {z : Int32} (hd : decode bytes pc = .ok (.iload_n j, 1)) (hl : Ls[j.val]? = some (.val (.int z))) (K : Go Z EL p l e R s m args below meth c n0 Q fs h k n (mkF m (pc + 1) Ls (.int z :: St))) : Go Z EL p l e R s m args below meth c n0 Q fs h k n (mkF m pc Ls (St)) :=
  Go.step (fun T A t st => XS.iloadN A C.hx rfl (hb C.hby hd) hl st) K
theorem g_aload (C : Cx Z a0 tb p s m meth c own mname bytes maxL ret n0) {j : Nat} {v : Value} (hd : decode bytes pc = .ok (.aload j, 2)) (hl : Ls[j]? = some (.val v)) (hv : v.isRef = true) (K : Go Z EL p l e R s m args below meth c n0 Q fs h k n (mkF m (pc + 2) Ls (v :: St))) : Go Z EL p l e R s m args below meth c n0 Q fs h k n (mkF m pc Ls (St)) :=
  Go.step (fun T A t st => XS.aload A C.hx rfl (hb C.hby hd) hl hv st) K
theorem g_aloadN (C : Cx Z a0 tb p s m meth c own mname bytes maxL ret n0) {j : Fin 4} {v : Value} (hd : decode bytes pc = .ok (.aload_n j, 1)) (hl : Ls[j.val]? = some (.val v)) (hv : v.isRef = true) (K : Go Z EL p l e R s m args below meth c n0 Q fs h k n (mkF m (pc + 1) Ls (v :: St))) : Go Z EL p l e R s m args below meth c n0 Q fs h k n (mkF m pc Ls (St)) :=
  Go.step (fun T A t st => XS.aloadN A C.hx rfl (hb C.hby hd) hl hv st) K
theorem g_istore (C : Cx Z a0 tb p s m meth c own mname bytes maxL ret n0) {j : Nat} {z : Int32} (l' : Array Slot) (hd : decode bytes pc = .ok (.istore j, 2)) (hl : storeLocals Ls j (.int z) = some l') (K : Go Z EL p l e R s m args below meth c n0 Q fs h k n (mkF m (pc + 2) l' St)) : Go Z EL p l e R s m args below meth c n0 Q fs h k n (mkF m pc Ls (.int z :: St)) :=
  Go.step (fun T A t st => XS.istore A C.hx rfl (hb C.hby hd) rfl hl st) K
theorem g_istoreN (C : Cx Z a0 tb p s m meth c own mname bytes maxL ret n0) {j : Fin 4} {z : Int32} (l' : Array Slot) (hd : decode bytes pc = .ok (.istore_n j, 1)) (hl : storeLocals Ls j.val (.int z) = some l') (K : Go Z EL p l e R s m args below meth c n0 Q fs h k n (mkF m (pc + 1) l' St)) : Go Z EL p l e R s m args below meth c n0 Q fs h k n (mkF m pc Ls (.int z :: St)) :=
  Go.step (fun T A t st => XS.istoreN A C.hx rfl (hb C.hby hd) rfl hl st) K
theorem g_astore (C : Cx Z a0 tb p s m meth c own mname bytes maxL ret n0) {j : Nat} {v : Value} (l' : Array Slot) (hd : decode bytes pc = .ok (.astore j, 2)) (hv : v.isRef = true) (hl : storeLocals Ls j v = some l') (K : Go Z EL p l e R s m args below meth c n0 Q fs h k n (mkF m (pc + 2) l' St)) : Go Z EL p l e R s m args below meth c n0 Q fs h k n (mkF m pc Ls (v :: St)) :=
  Go.step (fun T A t st => XS.astore A C.hx rfl (hb C.hby hd) rfl hv hl st) K
theorem g_astoreN (C : Cx Z a0 tb p s m meth c own mname bytes maxL ret n0) {j : Fin 4} {v : Value} (l' : Array Slot) (hd : decode bytes pc = .ok (.astore_n j, 1)) (hv : v.isRef = true) (hl : storeLocals Ls j.val v = some l') (K : Go Z EL p l e R s m args below meth c n0 Q fs h k n (mkF m (pc + 1) l' St)) : Go Z EL p l e R s m args below meth c n0 Q fs h k n (mkF m pc Ls (v :: St)) :=
  Go.step (fun T A t st => XS.astoreN A C.hx rfl (hb C.hby hd) rfl hv hl st) K
theorem g_iconst (C : Cx Z a0 tb p s m meth c own mname bytes maxL ret n0) {i : Int} (z : Int32) (hd : decode bytes pc = .ok (.iconst i, 1)) (hz : Int32.ofInt i = z) (K : Go Z EL p l e R s m args below meth c n0 Q fs h k n (mkF m (pc + 1) Ls (.int z :: St))) : Go Z EL p l e R s m args below meth c n0 Q fs h k n (mkF m pc Ls (St)) :=
  Go.step (fun T A t st => XS.iconst A C.hx rfl (hb C.hby hd) (hz ▸ st)) K
theorem g_bipush (C : Cx Z a0 tb p s m meth c own mname bytes maxL ret n0) {i : Int} (z : Int32) (hd : decode bytes pc = .ok (.bipush i, 2)) (hz : (Int8.ofInt i).toInt32 = z) (K : Go Z EL p l e R s m args below meth c n0 Q fs h k n (mkF m (pc + 2) Ls (.int z :: St))) : Go Z EL p l e R s m args below meth c n0 Q fs h k n (mkF m pc Ls (St)) :=
  Go.step (fun T A t st => XS.bipush A C.hx rfl (hb C.hby hd) (hz ▸ st)) K
theorem g_sipush (C : Cx Z a0 tb p s m meth c own mname bytes maxL ret n0) {i : Int} (z : Int32) (hd : decode bytes pc = .ok (.sipush i, 3)) (hz : (Int16.ofInt i).toInt32 = z) (K : Go Z EL p l e R s m args below meth c n0 Q fs h k n (mkF m (pc + 3) Ls (.int z :: St))) : Go Z EL p l e R s m args below meth c n0 Q fs h k n (mkF m pc Ls (St)) :=
  Go.step (fun T A t st => XS.sipush A C.hx rfl (hb C.hby hd) (hz ▸ st)) K
theorem g_aconst_null (C : Cx Z a0 tb p s m meth c own mname bytes maxL ret n0)  (hd : decode bytes pc = .ok (.aconst_null, 1))  (K : Go Z EL p l e R s m args below meth c n0 Q fs h k n (mkF m (pc + 1) Ls (.null :: St))) : Go Z EL p l e R s m args below meth c n0 Q fs h k n (mkF m pc Ls (St)) :=
  Go.step (fun T A t st => XS.aconstNull A C.hx rfl (hb C.hby hd) st) K
theorem g_iand (C : Cx Z a0 tb p s m meth c own mname bytes maxL ret n0) {x y : Int32} (hd : decode bytes pc = .ok (.iand, 1))  (K : Go Z EL p l e R s m args below meth c n0 Q fs h k n (mkF m (pc + 1) Ls (.int (x &&& y) :: St))) : Go Z EL p l e R s m args below meth c n0 Q fs h k n (mkF m pc Ls (.int y :: .int x :: St)) :=
  Go.step (fun T A t st => XS.iand A C.hx rfl (hb C.hby hd) rfl st) K
theorem g_ior (C : Cx Z a0 tb p s m meth c own mname bytes maxL ret n0) {x y : Int32} (hd : decode bytes pc = .ok (.ior, 1))  (K : Go Z EL p l e R s m args below meth c n0 Q fs h k n (mkF m (pc + 1) Ls (.int (x ||| y) :: St))) : Go Z EL p l e R s m args below meth c n0 Q fs h k n (mkF m pc Ls (.int y :: .int x :: St)) :=
  Go.step (fun T A t st => XS.ior A C.hx rfl (hb C.hby hd) rfl st) K
theorem g_ishl (C : Cx Z a0 tb p s m meth c own mname bytes maxL ret n0) {x y : Int32} (hd : decode bytes pc = .ok (.ishl, 1))  (K : Go Z EL p l e R s m args below meth c n0 Q fs h k n (mkF m (pc + 1) Ls (.int (x <<< (y &&& 31)) :: St))) : Go Z EL p l e R s m args below meth c n0 Q fs h k n (mkF m pc Ls (.int y :: .int x :: St)) :=
  Go.step (fun T A t st => XS.ishl A C.hx rfl (hb C.hby hd) rfl st) K
theorem g_iushr (C : Cx Z a0 tb p s m meth c own mname bytes maxL ret n0) {x y : Int32} (hd : decode bytes pc = .ok (.iushr, 1))  (K : Go Z EL p l e R s m args below meth c n0 Q fs h k n (mkF m (pc + 1) Ls (.int ((x.toUInt32 >>> (y &&& 31).toUInt32).toInt32) :: St))) : Go Z EL p l e R s m args below meth c n0 Q fs h k n (mkF m pc Ls (.int y :: .int x :: St)) :=
  Go.step (fun T A t st => XS.iushr A C.hx rfl (hb C.hby hd) rfl st) K
theorem g_i2c (C : Cx Z a0 tb p s m meth c own mname bytes maxL ret n0) {x : Int32} (hd : decode bytes pc = .ok (.i2c, 1))  (K : Go Z EL p l e R s m args below meth c n0 Q fs h k n (mkF m (pc + 1) Ls (.int (x.toUInt32.toUInt16.toUInt32.toInt32) :: St))) : Go Z EL p l e R s m args below meth c n0 Q fs h k n (mkF m pc Ls (.int x :: St)) :=
  Go.step (fun T A t st => XS.i2c A C.hx rfl (hb C.hby hd) rfl st) K
theorem g_irem (C : Cx Z a0 tb p s m meth c own mname bytes maxL ret n0) {x y : Int32} (hd : decode bytes pc = .ok (.irem, 1)) (hy : y ≠ 0) (K : Go Z EL p l e R s m args below meth c n0 Q fs h k n (mkF m (pc + 1) Ls (.int (x % y) :: St))) : Go Z EL p l e R s m args below meth c n0 Q fs h k n (mkF m pc Ls (.int y :: .int x :: St)) :=
  Go.step (fun T A t st => XS.irem A C.hx rfl (hb C.hby hd) rfl hy (by rw [irem_eq_mod]; exact st)) K
theorem g_dup (C : Cx Z a0 tb p s m meth c own mname bytes maxL ret n0) {v : Value} (hd : decode bytes pc = .ok (.dup, 1)) (hc : v.category = 1) (K : Go Z EL p l e R s m args below meth c n0 Q fs h k n (mkF m (pc + 1) Ls (v :: v :: St))) : Go Z EL p l e R s m args below meth c n0 Q fs h k n (mkF m pc Ls (v :: St)) :=
  Go.step (fun T A t st => XS.dup A C.hx rfl (hb C.hby hd) rfl hc st) K
theorem g_goto (C : Cx Z a0 tb p s m meth c own mname bytes maxL ret n0)  {o : Int} (pc' : Nat) (hd : decode bytes pc = .ok (.goto o, 3))  (ho : 0 ≤ (pc : Int) + o) (hp : ((pc : Int) + o).toNat = pc') (K : Go Z EL p l e R s m args below meth c n0 Q fs h k n (mkF m pc' Ls St)) : Go Z EL p l e R s m args below meth c n0 Q fs h k n (mkF m pc Ls (St)) :=
  Go.step (fun T A t st => XS.goto A C.hx rfl rfl (hb C.hby hd) ho hp st) K
theorem g_if_t (C : Cx Z a0 tb p s m meth c own mname bytes maxL ret n0) {cd : ClassFile.Cond} {x : Int32} {o : Int} (pc' : Nat) (hd : decode bytes pc = .ok (.ifCond cd o, 3)) (hc : ifCond.holds cd x = true) (ho : 0 ≤ (pc : Int) + o) (hp : ((pc : Int) + o).toNat = pc') (K : Go Z EL p l e R s m args below meth c n0 Q fs h k n (mkF m pc' Ls St)) : Go Z EL p l e R s m args below meth c n0 Q fs h k n (mkF m pc Ls (.int x :: St)) :=
  Go.step (fun T A t st => XS.ifYes A C.hx rfl rfl (hb C.hby hd) rfl hc ho hp st) K
theorem g_icmp_t (C : Cx Z a0 tb p s m meth c own mname bytes maxL ret n0) {cd : ClassFile.Cond} {x y : Int32} {o : Int} (pc' : Nat) (hd : decode bytes pc = .ok (.if_icmp cd o, 3)) (hc : if_icmp.holds cd x y = true) (ho : 0 ≤ (pc : Int) + o) (hp : ((pc : Int) + o).toNat = pc') (K : Go Z EL p l e R s m args below meth c n0 Q fs h k n (mkF m pc' Ls St)) : Go Z EL p l e R s m args below meth c n0 Q fs h k n (mkF m pc Ls (.int y :: .int x :: St)) :=
  Go.step (fun T A t st => XS.icmpYes A C.hx rfl rfl (hb C.hby hd) rfl hc ho hp st) K
theorem g_ifnonnull_t (C : Cx Z a0 tb p s m meth c own mname bytes maxL ret n0) {b : Addr} {o : Int} (pc' : Nat) (hd : decode bytes pc = .ok (.ifnonnull o, 3))  (ho : 0 ≤ (pc : Int) + o) (hp : ((pc : Int) + o).toNat = pc') (K : Go Z EL p l e R s m args below meth c n0 Q fs h k n (mkF m pc' Ls St)) : Go Z EL p l e R s m args below meth c n0 Q fs h k n (mkF m pc Ls (.ref b :: St)) :=
  Go.step (fun T A t st => XS.ifnonnullYes A C.hx rfl rfl (hb C.hby hd) rfl ho hp st) K
theorem g_acmp_t (C : Cx Z a0 tb p s m meth c own mname bytes maxL ret n0) {cd : ClassFile.ACond} {x y : Value} {o : Int} (pc' : Nat) (hd : decode bytes pc = .ok (.if_acmp cd o, 3)) (hx' : x.isRef = true) (hy' : y.isRef = true) (hc : XT.acmp cd x y = true) (ho : 0 ≤ (pc : Int) + o) (hp : ((pc : Int) + o).toNat = pc') (K : Go Z EL p l e R s m args below meth c n0 Q fs h k n (mkF m pc' Ls St)) : Go Z EL p l e R s m args below meth c n0 Q fs h k n (mkF m pc Ls (y :: x :: St)) :=
  Go.step (fun T A t st => XT.acmpYes A C.hx rfl rfl (hb C.hby hd) rfl hx' hy' hc ho hp st) K
theorem g_if_f (C : Cx Z a0 tb p s m meth c own mname bytes maxL ret n0) {cd : ClassFile.Cond} {x : Int32} {o : Int} (hd : decode bytes pc = .ok (.ifCond cd o, 3)) (hc : ifCond.holds cd x = false) (K : Go Z EL p l e R s m args below meth c n0 Q fs h k n (mkF m (pc + 3) Ls St)) : Go Z EL p l e R s m args below meth c n0 Q fs h k n (mkF m pc Ls (.int x :: St)) :=
  Go.step (fun T A t st => XS.ifNo A C.hx rfl (hb C.hby hd) rfl hc st) K
theorem g_icmp_f (C : Cx Z a0 tb p s m meth c own mname bytes maxL ret n0) {cd : ClassFile.Cond} {x y : Int32} {o : Int} (hd : decode bytes pc = .ok (.if_icmp cd o, 3)) (hc : if_icmp.holds cd x y = false) (K : Go Z EL p l e R s m args below meth c n0 Q fs h k n (mkF m (pc + 3) Ls St)) : Go Z EL p l e R s m args below meth c n0 Q fs h k n (mkF m pc Ls (.int y :: .int x :: St)) :=
  Go.step (fun T A t st => XS.icmpNo A C.hx rfl (hb C.hby hd) rfl hc st) K
theorem g_acmp_f (C : Cx Z a0 tb p s m meth c own mname bytes maxL ret n0) {cd : ClassFile.ACond} {x y : Value} {o : Int} (hd : decode bytes pc = .ok (.if_acmp cd o, 3)) (hx' : x.isRef = true) (hy' : y.isRef = true) (hc : XT.acmp cd x y = false) (K : Go Z EL p l e R s m args below meth c n0 Q fs h k n (mkF m (pc + 3) Ls St)) : Go Z EL p l e R s m args below meth c n0 Q fs h k n (mkF m pc Ls (y :: x :: St)) :=
  Go.step (fun T A t st => XT.acmpNo A C.hx rfl (hb C.hby hd) rfl hx' hy' hc st) K
theorem g_ldcI (C : Cx Z a0 tb p s m meth c own mname bytes maxL ret n0) {index : Nat} {z : Int32} (w : Jvm.Cond.constant own index z ∈ tb) (hd : decode bytes pc = .ok (.ldc index, 2)) (K : Go Z EL p l e R s m args below meth c n0 Q fs h k n (mkF m (pc + 2) Ls (.int z :: St))) : Go Z EL p l e R s m args below meth c n0 Q fs h k n (mkF m pc Ls St) := by
  intro vm0 T locs X eT N I
  have hZ : Z.Warmed39 (s.setVm vm0).vm := I.hZ
  have hown : (s.setVm vm0).vm.findClass own = some m.cls := C.hownAt I.hZ
  obtain ⟨s2, o, st, r⟩ := K vm0 T locs X eT N I
  exact ⟨s2, o, X.ldcInt C.hx hown (mvT hZ (C.hw w)) (g := mkF m pc Ls St) rfl (hb C.hby hd) s2 st, r⟩
theorem g_new (C : Cx Z a0 tb p s m meth c own mname bytes maxL ret n0) {index ns : Nat} {Cn : String} (w : Jvm.Cond.classLink own index Cn ∈ tb) (wi : Jvm.Cond.instantiable Cn ns ∈ tb) (wz : Jvm.Cond.initialized Cn ∈ tb) (hd : decode bytes pc = .ok (.new index, 3)) (hc : k + 1 ≤ R.cells) (hl : n + ns ≤ R.slots)
    (K : ∀ a h', a = h.size → Ext h h' → Exa Z h' a Cn → (∀ {O nm d : String} {ty : FieldType}, Laid Z a0 Cn O nm d → parseFieldDescriptor d = some ty → Fld Z h' a O nm d (defaultValue ty)) → Go Z EL p l e R s m args below meth c n0 Q (a :: fs) h' (k + 1) (n + ns) (mkF m (pc + 3) Ls (.ref a :: St))) : Go Z EL p l e R s m args below meth c n0 Q fs h k n (mkF m pc Ls St) := by
  intro vm0 T locs X eT N I
  have hZ : Z.Warmed39 (s.setVm vm0).vm := I.hZ
  have hown : (s.setVm vm0).vm.findClass own = some m.cls := C.hownAt I.hZ
  obtain ⟨T', h', X', e', E', A', D', -, st⟩ := newO X C.hx hZ hown (C.hw w) (C.hw wi) (C.hw wz) eT (g := mkF m pc Ls St) rfl (hb C.hby hd) hc hl
  obtain ⟨s2, o, st2, r⟩ := K h.size h' rfl E' A' D' vm0 T' locs X' e' N (I.new E' A'.lt)
  exact ⟨s2, o, st _ st2, r⟩
theorem g_newarray (C : Cx Z a0 tb p s m meth c own mname bytes maxL ret n0) {aty : ArrayType} {z : Int32} (w : Jvm.Cond.arrayClass (newarray.typeOf aty) ∈ tb) (hd : decode bytes pc = .ok (.newarray aty, 2)) (hz : ¬ z < 0) (cap : Nat) (hcap : z.toNatClampNeg ≤ cap) (hbig : cap * 8 ≤ 536870912) (hc : k + 1 ≤ R.cells) (hl : n + cap ≤ R.slots) (ad : String) (had : "[" ++ (newarray.typeOf aty).toString = ad)
    (K : ∀ a h' ka, a = h.size → Ext h h' → Arv Z h' a ka (newarray.typeOf aty) z [] (defaultValue (newarray.typeOf aty)) → Exa Z h' a ad → Go Z EL p l e R s m args below meth c n0 Q (a :: fs) h' (k + 1) (n + cap) (mkF m (pc + 2) Ls (.ref a :: St))) : Go Z EL p l e R s m args below meth c n0 Q fs h k n (mkF m pc Ls (.int z :: St)) := by
  intro vm0 T locs X eT N I
  have hZ : Z.Warmed39 (s.setVm vm0).vm := I.hZ
  have hown : (s.setVm vm0).vm.findClass own = some m.cls := C.hownAt I.hZ
  obtain ⟨T', h', ka, X', e', E', A', Ex', st⟩ := newPE X C.hx hZ (C.hw w) eT (g := mkF m pc Ls (.int z :: St)) rfl (hb C.hby hd) rfl hz hcap hbig hc hl had
  obtain ⟨s2, o, st2, r⟩ := K h.size h' ka rfl E' (Arv.new A' hz) Ex' vm0 T' locs X' e' N (I.new E' A'.lt)
  exact ⟨s2, o, st _ st2, r⟩
theorem g_castore (C : Cx Z a0 tb p s m meth c own mname bytes maxL ret n0) {a : Addr} {ka : ClassId} {z j : Int32} {x : Int32} {vs : List Value} {dv : Value} (F : Arv Z h a ka .char z vs dv) (ha : a ∈ fs) (hd : decode bytes pc = .ok (.castore, 1)) (hj : ¬ j < 0 ∧ j < z) (i : Nat) (hi : j.toNatClampNeg = i) (hl : i < vs.length)
    (K : ∀ h', Wr h h' a j.toNatClampNeg (.int (nar .char x)) → Arv Z h' a ka .char z (vs.set i (.int (nar .char x))) dv → Go Z EL p l e R s m args below meth c n0 Q fs h' k n (mkF m (pc + 1) Ls St)) : Go Z EL p l e R s m args below meth c n0 Q fs h k n (mkF m pc Ls (.int x :: .int j :: .ref a :: St)) := by
  intro vm0 T locs X eT N I
  have hZ : Z.Warmed39 (s.setVm vm0).vm := I.hZ
  have hown : (s.setVm vm0).vm.findClass own = some m.cls := C.hownAt I.hZ
  obtain ⟨cl, A, q, S, Nn, H, G⟩ := F
  obtain ⟨T', h', X', e', W', st⟩ := stC X C.hx hZ eT A (j := j) (inb_of S hj) (g := mkF m pc Ls (.int x :: .int j :: .ref a :: St)) rfl rfl (hb C.hby hd)
  obtain ⟨s2, o, st2, r⟩ := K h' W' (Arv.set A q S Nn H G (fits_nar_char x) W' i hi hl) vm0 T' _ X' e' (Fr.snoc X' N (I.ge ha)) (I.wr W' ha)
  exact ⟨s2, o, st _ st2, r⟩
theorem g_arraylength (C : Cx Z a0 tb p s m meth c own mname bytes maxL ret n0) {a : Addr} {ka : ClassId} {ty : FieldType} {z : Int32} {vs : List Value} {dv : Value} (F : Arv Z h a ka ty z vs dv) (hd : decode bytes pc = .ok (.arraylength, 1))
    (K : Go Z EL p l e R s m args below meth c n0 Q fs h k n (mkF m (pc + 1) Ls (.int z :: St))) : Go Z EL p l e R s m args below meth c n0 Q fs h k n (mkF m pc Ls (.ref a :: St)) := by
  intro vm0 T locs X eT N I
  have hZ : Z.Warmed39 (s.setVm vm0).vm := I.hZ
  have hown : (s.setVm vm0).vm.findClass own = some m.cls := C.hownAt I.hZ
  obtain ⟨cl, A, q, S, Nn, H, G⟩ := F
  obtain ⟨s2, o, st2, r⟩ := K vm0 T locs X eT N I
  refine ⟨s2, o, X.arraylength C.hx (by rw [eT]; exact A.1) (State.isArrayOf_alike hZ.alike A.2.1) (g := mkF m pc Ls (.ref a :: St)) rfl rfl (hb C.hby hd) _ ?_, r⟩
  rw [len_of S Nn]; exact st2
theorem g_getfield (C : Cx Z a0 tb p s m meth c own mname bytes maxL ret n0) {index : Nat} {R0 O nm d : String} {a : Addr} {v : Value} (w : Jvm.Cond.fieldLink own index R0 nm d ∈ tb) (via : Via Z R0 O nm d) (F : Fld Z h a O nm d v) (hd : decode bytes pc = .ok (.getfield index, 3))
    (K : Go Z EL p l e R s m args below meth c n0 Q fs h k n (mkF m (pc + 3) Ls (v :: St))) : Go Z EL p l e R s m args below meth c n0 Q fs h k n (mkF m pc Ls (.ref a :: St)) := by
  intro vm0 T locs X eT N I
  have hZ : Z.Warmed39 (s.setVm vm0).vm := I.hZ
  have hown : (s.setVm vm0).vm.findClass own = some m.cls := C.hownAt I.hZ
  obtain ⟨T', X', e', st⟩ := getF X C.hx hZ hown (host := "") (Or.inl (C.hw w)) via eT F (g := mkF m pc Ls (.ref a :: St)) rfl rfl (hb C.hby hd)
  obtain ⟨s2, o, st2, r⟩ := K vm0 T' locs X' e' N I
  exact ⟨s2, o, st _ st2, r⟩
theorem g_putfield (C : Cx Z a0 tb p s m meth c own mname bytes maxL ret n0) {index kk : Nat} {R0 O nm d Cn : String} {a : Addr} {v old : Value} (ty : FieldType) (w : Jvm.Cond.fieldLink own index R0 nm d ∈ tb) (via : Via Z R0 O nm d) (F : Fld Z h a O nm d old) (E : Exa Z h a Cn) (hl : Jvm.Cond.lays Cn O nm d ∈ tb ∨ (Jvm.Cond.laysFinal Cn O nm d ∈ tb ∧ own = O ∧ mname = "<init>")) (wi : Jvm.Cond.instantiable Cn kk ∈ tb)
    (hty : parseFieldDescriptor d = some ty) (hn : narrow ty v = v) (hf : fits ty v = true) (ha : a ∈ fs) (hd : decode bytes pc = .ok (.putfield index, 3))
    (K : ∀ h', Wr h h' a (Jvm.RoadKit.slotOf Z O nm d) v → Fld Z h' a O nm d v → Go Z EL p l e R s m args below meth c n0 Q fs h' k n (mkF m (pc + 3) Ls St)) : Go Z EL p l e R s m args below meth c n0 Q fs h k n (mkF m pc Ls (v :: .ref a :: St)) := by
  intro vm0 T locs X eT N I
  have hZ : Z.Warmed39 (s.setVm vm0).vm := I.hZ
  have hown : (s.setVm vm0).vm.findClass own = some m.cls := C.hownAt I.hZ
  obtain ⟨T', h', X', e', W', st⟩ := putF X C.hx hZ hown (host := "") (Or.inl (C.hw w)) via eT F E (hl.imp (fun q => C.hw q) (fun q => ⟨C.hw q.1, q.2.1, C.hnm.trans q.2.2⟩)) (C.hw wi) (ty := ty) hty hn hf (g := mkF m pc Ls (v :: .ref a :: St)) rfl rfl (hb C.hby hd)
  obtain ⟨s2, o, st2, r⟩ := K h' W' (F.same W') vm0 T' _ X' e' (Fr.snoc X' N (I.ge ha)) (I.wr W' ha)
  exact ⟨s2, o, st _ st2, r⟩
theorem g_putfieldZ (C : Cx Z a0 tb p s m meth c own mname bytes maxL ret n0) {index kk : Nat} {R0 O nm d Cn : String} {a : Addr} {x : Int32} {old : Value} (ty : FieldType) (v' : Value) (w : Jvm.Cond.fieldLink own index R0 nm d ∈ tb) (via : Via Z R0 O nm d) (F : Fld Z h a O nm d old) (E : Exa Z h a Cn) (hl : Jvm.Cond.lays Cn O nm d ∈ tb ∨ (Jvm.Cond.laysFinal Cn O nm d ∈ tb ∧ own = O ∧ mname = "<init>")) (wi : Jvm.Cond.instantiable Cn kk ∈ tb)
    (hty : parseFieldDescriptor d = some ty) (hn : narrow ty (.int x) = v') (hf : fits ty v' = true) (ha : a ∈ fs) (hd : decode bytes pc = .ok (.putfield index, 3))
    (K : ∀ h', Wr h h' a (Jvm.RoadKit.slotOf Z O nm d) v' → Fld Z h' a O nm d v' → Go Z EL p l e R s m args below meth c n0 Q fs h' k n (mkF m (pc + 3) Ls St)) : Go Z EL p l e R s m args below meth c n0 Q fs h k n (mkF m pc Ls (.int x :: .ref a :: St)) := by
  intro vm0 T locs X eT N I
  have hZ : Z.Warmed39 (s.setVm vm0).vm := I.hZ
  have hown : (s.setVm vm0).vm.findClass own = some m.cls := C.hownAt I.hZ
  obtain ⟨T', h', X', e', W', st⟩ := putFN X C.hx hZ hown (C.hw w) via eT F E (hl.imp (fun q => C.hw q) (fun q => ⟨C.hw q.1, q.2.1, C.hnm.trans q.2.2⟩)) (C.hw wi) (ty := ty) (v' := v') hty hn hf (g := mkF m pc Ls (.int x :: .ref a :: St)) rfl rfl (hb C.hby hd)
  obtain ⟨s2, o, st2, r⟩ := K h' W' (F.same W') vm0 T' _ X' e' (Fr.snoc X' N (I.ge ha)) (I.wr W' ha)
  exact ⟨s2, o, st _ st2, r⟩
theorem g_getstatic (C : Cx Z a0 tb p s m meth c own mname bytes maxL ret n0) {index : Nat} {R0 O nm d : String} {v : Value} (w : Jvm.Cond.fieldLink own index R0 nm d ∈ tb) (via : Via Z R0 O nm d) (F : Sta Z h O nm d v) (hd : decode bytes pc = .ok (.getstatic index, 3))
    (K : Go Z EL p l e R s m args below meth c n0 Q fs h k n (mkF m (pc + 3) Ls (v :: St))) : Go Z EL p l e R s m args below meth c n0 Q fs h k n (mkF m pc Ls St) := by
  intro vm0 T locs X eT N I
  have hZ : Z.Warmed39 (s.setVm vm0).vm := I.hZ
  have hown : (s.setVm vm0).vm.findClass own = some m.cls := C.hownAt I.hZ
  obtain ⟨T', X', e', st⟩ := getS2 X C.hx hZ hown (host := "") (Or.inl (C.hw w)) via eT F (g := mkF m pc Ls St) rfl (hb C.hby hd)
  obtain ⟨s2, o, st2, r⟩ := K vm0 T' locs X' e' N I
  exact ⟨s2, o, st _ st2, r⟩
theorem g_checkcast (C : Cx Z a0 tb p s m meth c own mname bytes maxL ret n0) {index : Nat} {Kn : String} {a : Addr} (w : Jvm.Cond.classLink own index Kn ∈ tb) (F : Ins Z h a Kn true) (hd : decode bytes pc = .ok (.checkcast index, 3))
    (K : Go Z EL p l e R s m args below meth c n0 Q fs h k n (mkF m (pc + 3) Ls (.ref a :: St))) : Go Z EL p l e R s m args below meth c n0 Q fs h k n (mkF m pc Ls (.ref a :: St)) := by
  intro vm0 T locs X eT N I
  have hZ : Z.Warmed39 (s.setVm vm0).vm := I.hZ
  have hown : (s.setVm vm0).vm.findClass own = some m.cls := C.hownAt I.hZ
  obtain ⟨T', X', e', st⟩ := castY X C.hx hZ hown (C.hw w) eT F (g := mkF m pc Ls (.ref a :: St)) rfl rfl (hb C.hby hd)
  obtain ⟨s2, o, st2, r⟩ := K vm0 T' locs X' e' N I
  exact ⟨s2, o, st _ st2, r⟩
theorem g_instanceof_t (C : Cx Z a0 tb p s m meth c own mname bytes maxL ret n0) {index : Nat} {Kn : String} {a : Addr} (w : Jvm.Cond.classLink own index Kn ∈ tb) (F : Ins Z h a Kn true) (hd : decode bytes pc = .ok (.instanceof index, 3))
    (K : Go Z EL p l e R s m args below meth c n0 Q fs h k n (mkF m (pc + 3) Ls (.int 1 :: St))) : Go Z EL p l e R s m args below meth c n0 Q fs h k n (mkF m pc Ls (.ref a :: St)) := by
  intro vm0 T locs X eT N I
  have hZ : Z.Warmed39 (s.setVm vm0).vm := I.hZ
  have hown : (s.setVm vm0).vm.findClass own = some m.cls := C.hownAt I.hZ
  obtain ⟨T', X', e', st⟩ := instY X C.hx hZ hown (C.hw w) eT F (g := mkF m pc Ls (.ref a :: St)) rfl rfl (hb C.hby hd)
  obtain ⟨s2, o, st2, r⟩ := K vm0 T' locs X' e' N I
  exact ⟨s2, o, st _ st2, r⟩
theorem g_instanceof_f (C : Cx Z a0 tb p s m meth c own mname bytes maxL ret n0) {index : Nat} {Kn Cn : String} {a : Addr} (w : Jvm.Cond.classLink own index Kn ∈ tb) (E : Exa Z h a Cn) (F : ∃ c t, Z.vm.findClass Cn = some c ∧ Z.vm.findClass Kn = some t ∧ Z.vm.assignable c t = false) (hd : decode bytes pc = .ok (.instanceof index, 3))
    (K : Go Z EL p l e R s m args below meth c n0 Q fs h k n (mkF m (pc + 3) Ls (.int 0 :: St))) : Go Z EL p l e R s m args below meth c n0 Q fs h k n (mkF m pc Ls (.ref a :: St)) := by
  intro vm0 T locs X eT N I
  have hZ : Z.Warmed39 (s.setVm vm0).vm := I.hZ
  have hown : (s.setVm vm0).vm.findClass own = some m.cls := C.hownAt I.hZ
  obtain ⟨T', X', e', st⟩ := instNo X C.hx hZ hown (C.hw w) eT E F (g := mkF m pc Ls (.ref a :: St)) rfl rfl (hb C.hby hd)
  obtain ⟨s2, o, st2, r⟩ := K vm0 T' locs X' e' N I
  exact ⟨s2, o, st _ st2, r⟩
theorem g_instanceof_null (C : Cx Z a0 tb p s m meth c own mname bytes maxL ret n0) {index : Nat} (hd : decode bytes pc = .ok (.instanceof index, 3)) (K : Go Z EL p l e R s m args below meth c n0 Q fs h k n (mkF m (pc + 3) Ls (.int 0 :: St))) : Go Z EL p l e R s m args below meth c n0 Q fs h k n (mkF m pc Ls (.null :: St)) := by
  intro vm0 T locs X eT N I
  have hZ : Z.Warmed39 (s.setVm vm0).vm := I.hZ
  have hown : (s.setVm vm0).vm.findClass own = some m.cls := C.hownAt I.hZ
  obtain ⟨s2, o, st2, r⟩ := K vm0 T locs X eT N I
  exact ⟨s2, o, X.instanceofNull C.hx (g := mkF m pc Ls (.null :: St)) rfl rfl (hb C.hby hd) _ st2, r⟩
theorem g_initO (C : Cx Z a0 tb p s m meth c own mname bytes maxL ret n0) {index : Nat} {a : Addr} (w1 : Jvm.Cond.methodLink own index Lib.objectInit ∈ tb) (w2 : Jvm.Cond.instanceMethod Lib.objectInit ∈ tb) (w3 : Jvm.Cond.code Lib.objectInit ⟨#[0xb1]⟩ 1 none ∈ tb) (hsz : Ls.size = maxL) (hd : decode bytes pc = .ok (.invokespecial index, 3)) (hf : 1 ≤ R.frames) (W : Nat) (hW : (St.map fun v => v.category).sum ≤ W) (hl : W + 12 ≤ R.locals)
    (K : Go Z EL p l e R s m args below meth c n0 Q fs h k n (mkF m (pc + 3) Ls St)) : Go Z EL p l e R s m args below meth c n0 Q fs h k n (mkF m pc Ls (.ref a :: St)) := by
  intro vm0 T locs X eT N I
  have hZ : Z.Warmed39 (s.setVm vm0).vm := I.hZ
  have hown : (s.setVm vm0).vm.findClass own = some m.cls := C.hownAt I.hZ
  obtain ⟨T', X', e', st⟩ := initO X C.hx hZ hown (C.hw w1) (C.hw w2) (C.hw w3) eT (g := mkF m pc Ls (.ref a :: St)) rfl (hsz.trans C.hml.symm) rfl (hb C.hby hd) hf (W := W) (by show 2 * 0 + _ ≤ _; omega) hl
  obtain ⟨s2, o, st2, r⟩ := K vm0 T' locs X' e' N I
  exact ⟨s2, o, st _ st2, r⟩
theorem own_end {vm0 : Vm} {k0 : Nat} {v : Option Value} {T : State} {ff : List Frame} {L : List Loc} {kc kn : Nat} (hS : s.Since vm0 k0) (hk0 : k0 ≤ T.heap.size) (hW : (s.setVm vm0).WarmedH (T.setFrames ff).vm) (hs : (s.setVm vm0).sameButNew ({ T.setFrames ff with vm := (s.setVm vm0).vm } : State) L kc kn) : ReturnedEndW s (.returned v) (T.setFrames ff) L kc kn := by
  have q := hS.trans (hW.since (T.setFrames ff).heap.size) hk0
  exact ⟨⟨_, rfl⟩, q.1, q.2, hs.setVm s.vm⟩
theorem g_ldcS (C : Cx Z a0 tb p s m meth c own mname bytes maxL ret n0) (hEL : EW Z a0 EL) {index : Nat} {text : String} (w : Jvm.Cond.stringLink own index text ∈ tb) (wS : ∀ a ∈ Bundle.stringAtoms, a ∈ tb) (hmem : (own, index) ∈ EL) (cs : List Int32) (ht : (∀ c ∈ text.toList, c.toNat < 256) ∧ text.toList.map (fun c => Value.int (Jvm.Lit.byteI c.toNat.toUInt16)) = (cs.map fun c => c.toInt8.toInt32).map Value.int) (hcs : cs.length ≤ 4000) (hb8 : ∀ c ∈ cs, ¬ c < 0 ∧ ¬ (255 : Int32) < c)
    (hd : decode bytes pc = .ok (.ldc index, 2)) (nn : Nat) (hn : 4 * text.toList.length ≤ nn) (hbig : nn ≤ 536870912) (hc : k + 2 ≤ R.cells) (hl : n + (nn + 4) ≤ R.slots)
    (K : ∀ a b kb h', Ext h h' → Str Z h' a b kb cs → (∀ x ∈ fs, x ≠ a ∧ x ≠ b) → Go Z EL p l e R s m args below meth c n0 Q fs h' (k + 2) (n + (nn + 4)) (mkF m (pc + 2) Ls (.ref a :: St))) : Go Z EL p l e R s m args below meth c n0 Q fs h k n (mkF m pc Ls St) := by
  intro vm0 T locs X eT N I
  have hZ : Z.Warmed39 (s.setVm vm0).vm := I.hZ
  have hown : (s.setVm vm0).vm.findClass own = some m.cls := C.hownAt I.hZ
  obtain ⟨k0, hS, hk0⟩ := I.2.2.1
  have e31 : (Int32.ofNat cs.length).toInt = cs.length := Int32.toInt_ofNat_of_lt (by omega)
  have hz : ¬ Int32.ofNat cs.length < 0 := by
    rw [Int32.lt_iff_toInt_lt, e31]; show ¬ (cs.length : Int) < 0; omega
  have hlen : (Int32.ofNat cs.length).toNatClampNeg = ((cs.map fun c => c.toInt8.toInt32).map Value.int).length := by
    rw [Int32.toNatClampNeg, e31]; simp
  obtain ⟨a, T', h', k1, b, kb, X', e', E', hS', hk1, hZ', hown', s1, s2, s3, s4, s5, s6, hC, hL, hne, st⟩ := ldcCH X C.hx hZ hown (C.hw w) (fun a ha => C.hw (wS a ha)) eT hS hk0 hEL hmem I.2.2.2.2.1 ht hz hlen (g := mkF m pc Ls St) rfl (hb C.hby hd) hn hbig hc hl
  have I' : Inv Z EL s T'.vm n0 fs h' := ⟨Nat.le_trans I.1 hC.2.1, fun x hx => ⟨(I.2.1 x hx).1, Nat.lt_of_lt_of_le (I.2.1 x hx).2.1 hC.2.1, hC.safe (I.2.1 x hx).2.1 (I.2.1 x hx).2.2⟩, ⟨k1, hS', hk1⟩, hZ', hC.1, I.2.2.2.2.2.trans hC⟩
  obtain ⟨s2', o, st2, r⟩ := K a b kb h' E' ⟨s1, s2, s3, s4, hcs, hb8⟩ (fun x hx => hne x (I'.2.1 x hx).2.2) T'.vm T' locs X' e' N I'
  exact ⟨s2', o, st _ st2, r⟩
theorem own_narref {t : FieldType} {v : Value} (ht : t.isReference = true) (hv : v.isRef = true) : narrow t v = v := by
  rcases ref_cases hv with rfl | ⟨b, rfl⟩ <;> cases t <;> first | rfl | (cases ht)
theorem g_returnX (C : Cx Z a0 tb p s m meth c own mname bytes maxL ret n0) (hEL : EW Z a0 EL)  (ns : List Addr) (hns : ∀ x ∈ ns, x ∈ fs) (hret : ret = none) (hd : decode bytes pc = .ok (.return_, 1)) (hk : k ≤ R.cells) (hn : n ≤ R.slots) (hQ : Q (none) h ns) : Go Z EL p l e R s m args below meth c n0 Q fs h k n (mkF m pc Ls ([])) := by
  intro vm0 T locs X eT N I
  have hZ : Z.Warmed39 (s.setVm vm0).vm := I.hZ
  have hown : (s.setVm vm0).vm.findClass own = some m.cls := C.hownAt I.hZ
  obtain ⟨ff, hr, hrun, hended, hW, hsame⟩ := X.leave (v := none) (fun _ => rfl) C.hlk
  refine ⟨_, _, X.returnOut C.hx (C.hret.trans hret) (hb C.hby hd) hr, hrun, hended, _, _, ns, rfl, ⟨by rw [show (T.setFrames ff).heap = T.heap from rfl, eT]; exact hQ, N⟩, ?_, ?_, ?_⟩
  · intro y hy
    have J := CHv.at X I.hZ hEL I.2.2.2.2.1
    have q := I.2.1 y (hns y hy)
    rw [show (T.setFrames ff).heap = h from eT]
    exact ⟨q.1, q.2.1, J.safe q.2.1 q.2.2⟩
  · exact (by rw [show (T.setFrames ff).heap = h from eT]; exact (show CHr Z EL s.vm s.heap T.vm h from I.2.2.2.2.2.trans (CHv.at X I.hZ hEL I.2.2.2.2.1)))
  · obtain ⟨k0, hS, hk0⟩ := I.2.2.1
    exact own_end hS (by rw [← eT] at hk0; exact hk0) hW (hsame.mono hk hn)
theorem g_return (C : Cx Z a0 tb p s m meth c own mname bytes maxL ret n0) (hEL : EW Z a0 EL)  (hret : ret = none) (hd : decode bytes pc = .ok (.return_, 1)) (hk : k ≤ R.cells) (hn : n ≤ R.slots) (hQ : Q2 (none) h) : Go Z EL p l e R s m args below meth c n0 (nq Q2) fs h k n (mkF m pc Ls ([])) :=
  g_returnX C hEL [] all0 hret hd hk hn ⟨rfl, hQ⟩
theorem g_ireturnIX (C : Cx Z a0 tb p s m meth c own mname bytes maxL ret n0) (hEL : EW Z a0 EL) {z : Int32} (ns : List Addr) (hns : ∀ x ∈ ns, x ∈ fs) (hret : ret = some .int) (hd : decode bytes pc = .ok (.ireturn, 1)) (hk : k ≤ R.cells) (hn : n ≤ R.slots) (hQ : Q (some (.int z)) h ns) : Go Z EL p l e R s m args below meth c n0 Q fs h k n (mkF m pc Ls (.int z :: St)) := by
  intro vm0 T locs X eT N I
  have hZ : Z.Warmed39 (s.setVm vm0).vm := I.hZ
  have hown : (s.setVm vm0).vm.findClass own = some m.cls := C.hownAt I.hZ
  obtain ⟨ff, hr, hrun, hended, hW, hsame⟩ := X.leave (v := some (.int z)) (fun q => by rw [C.hret, hret] at q; cases q) C.hlk
  refine ⟨_, _, retOut X C.hx (t := .int) (C.hret.trans hret) rfl (Or.inl ⟨rfl, Or.inl rfl, z, rfl⟩) (hb C.hby hd) hr, hrun, hended, _, _, ns, rfl, ⟨by rw [show (T.setFrames ff).heap = T.heap from rfl, eT]; exact hQ, N⟩, ?_, ?_, ?_⟩
  · intro y hy
    have J := CHv.at X I.hZ hEL I.2.2.2.2.1
    have q := I.2.1 y (hns y hy)
    rw [show (T.setFrames ff).heap = h from eT]
    exact ⟨q.1, q.2.1, J.safe q.2.1 q.2.2⟩
  · exact (by rw [show (T.setFrames ff).heap = h from eT]; exact (show CHr Z EL s.vm s.heap T.vm h from I.2.2.2.2.2.trans (CHv.at X I.hZ hEL I.2.2.2.2.1)))
  · obtain ⟨k0, hS, hk0⟩ := I.2.2.1
    exact own_end hS (by rw [← eT] at hk0; exact hk0) hW (hsame.mono hk hn)
theorem g_ireturnI (C : Cx Z a0 tb p s m meth c own mname bytes maxL ret n0) (hEL : EW Z a0 EL) {z : Int32} (hret : ret = some .int) (hd : decode bytes pc = .ok (.ireturn, 1)) (hk : k ≤ R.cells) (hn : n ≤ R.slots) (hQ : Q2 (some (.int z)) h) : Go Z EL p l e R s m args below meth c n0 (nq Q2) fs h k n (mkF m pc Ls (.int z :: St)) :=
  g_ireturnIX C hEL [] all0 hret hd hk hn ⟨rfl, hQ⟩
theorem g_ireturnNX (C : Cx Z a0 tb p s m meth c own mname bytes maxL ret n0) (hEL : EW Z a0 EL) {z : Int32} {t : FieldType} (ns : List Addr) (hns : ∀ x ∈ ns, x ∈ fs) (hret : ret = some t) (ht : t = .boolean ∨ t = .byte ∨ t = .char ∨ t = .short) (hd : decode bytes pc = .ok (.ireturn, 1)) (hk : k ≤ R.cells) (hn : n ≤ R.slots) (hQ : Q (some (.int (nar t z))) h ns) : Go Z EL p l e R s m args below meth c n0 Q fs h k n (mkF m pc Ls (.int z :: St)) := by
  intro vm0 T locs X eT N I
  have hZ : Z.Warmed39 (s.setVm vm0).vm := I.hZ
  have hown : (s.setVm vm0).vm.findClass own = some m.cls := C.hownAt I.hZ
  obtain ⟨ff, hr, hrun, hended, hW, hsame⟩ := X.leave (v := some (.int (nar t z))) (fun q => by rw [C.hret, hret] at q; cases q) C.hlk
  refine ⟨_, _, retN X C.hx (C.hret.trans hret) ht (hb C.hby hd) hr, hrun, hended, _, _, ns, rfl, ⟨by rw [show (T.setFrames ff).heap = T.heap from rfl, eT]; exact hQ, N⟩, ?_, ?_, ?_⟩
  · intro y hy
    have J := CHv.at X I.hZ hEL I.2.2.2.2.1
    have q := I.2.1 y (hns y hy)
    rw [show (T.setFrames ff).heap = h from eT]
    exact ⟨q.1, q.2.1, J.safe q.2.1 q.2.2⟩
  · exact (by rw [show (T.setFrames ff).heap = h from eT]; exact (show CHr Z EL s.vm s.heap T.vm h from I.2.2.2.2.2.trans (CHv.at X I.hZ hEL I.2.2.2.2.1)))
  · obtain ⟨k0, hS, hk0⟩ := I.2.2.1
    exact own_end hS (by rw [← eT] at hk0; exact hk0) hW (hsame.mono hk hn)
theorem g_ireturnN (C : Cx Z a0 tb p s m meth c own mname bytes maxL ret n0) (hEL : EW Z a0 EL) {z : Int32} {t : FieldType} (hret : ret = some t) (ht : t = .boolean ∨ t = .byte ∨ t = .char ∨ t = .short) (hd : decode bytes pc = .ok (.ireturn, 1)) (hk : k ≤ R.cells) (hn : n ≤ R.slots) (hQ : Q2 (some (.int (nar t z))) h) : Go Z EL p l e R s m args below meth c n0 (nq Q2) fs h k n (mkF m pc Ls (.int z :: St)) :=
  g_ireturnNX C hEL [] all0 hret ht hd hk hn ⟨rfl, hQ⟩
theorem g_areturnX (C : Cx Z a0 tb p s m meth c own mname bytes maxL ret n0) (hEL : EW Z a0 EL) {v : Value} {t : FieldType} (ns : List Addr) (hns : ∀ x ∈ ns, x ∈ fs) (hret : ret = some t) (ht : t.isReference = true) (hv : v.isRef = true) (hd : decode bytes pc = .ok (.areturn, 1)) (hk : k ≤ R.cells) (hn : n ≤ R.slots) (hQ : Q (some v) h ns) : Go Z EL p l e R s m args below meth c n0 Q fs h k n (mkF m pc Ls (v :: St)) := by
  intro vm0 T locs X eT N I
  have hZ : Z.Warmed39 (s.setVm vm0).vm := I.hZ
  have hown : (s.setVm vm0).vm.findClass own = some m.cls := C.hownAt I.hZ
  obtain ⟨ff, hr, hrun, hended, hW, hsame⟩ := X.leave (v := some v) (fun q => by rw [C.hret, hret] at q; cases q) C.hlk
  refine ⟨_, _, retOut X C.hx (C.hret.trans hret) (own_narref ht hv) (Or.inr (Or.inr (Or.inr (Or.inr ⟨rfl, ht, hv⟩)))) (hb C.hby hd) hr, hrun, hended, _, _, ns, rfl, ⟨by rw [show (T.setFrames ff).heap = T.heap from rfl, eT]; exact hQ, N⟩, ?_, ?_, ?_⟩
  · intro y hy
    have J := CHv.at X I.hZ hEL I.2.2.2.2.1
    have q := I.2.1 y (hns y hy)
    rw [show (T.setFrames ff).heap = h from eT]
    exact ⟨q.1, q.2.1, J.safe q.2.1 q.2.2⟩
  · exact (by rw [show (T.setFrames ff).heap = h from eT]; exact (show CHr Z EL s.vm s.heap T.vm h from I.2.2.2.2.2.trans (CHv.at X I.hZ hEL I.2.2.2.2.1)))
  · obtain ⟨k0, hS, hk0⟩ := I.2.2.1
    exact own_end hS (by rw [← eT] at hk0; exact hk0) hW (hsame.mono hk hn)
theorem g_areturn (C : Cx Z a0 tb p s m meth c own mname bytes maxL ret n0) (hEL : EW Z a0 EL) {v : Value} {t : FieldType} (hret : ret = some t) (ht : t.isReference = true) (hv : v.isRef = true) (hd : decode bytes pc = .ok (.areturn, 1)) (hk : k ≤ R.cells) (hn : n ≤ R.slots) (hQ : Q2 (some v) h) : Go Z EL p l e R s m args below meth c n0 (nq Q2) fs h k n (mkF m pc Ls (v :: St)) :=
  g_areturnX C hEL [] all0 hret ht hv hd hk hn ⟨rfl, hQ⟩
/-- a body's contract: called so, over this heap, it returns with Q, and the literals' invariant goes on -/
def Met (l : Launch) (Z : State) (EL : List (String × Nat)) (y : MethodName) (bytes : ByteArray) (maxL : Nat) (ret : Option FieldType) (ws : List Jvm.Cond) (rm : Room) (fs : List Addr) (as' : Array Value) (h : Heap) (n0 : Nat) (Q : Option Value → Heap → List Addr → Prop) : Prop :=
  n0 ≤ h.size → (∀ x ∈ fs, n0 ≤ x ∧ x < h.size) → MetFree l y (head1 (Jvm.Cond.code y bytes maxL ret :: ws) rm) (fun a U => a = as' ∧ Z.Warmed39 U.vm ∧ U.heap = h ∧ CHv Z EL U.vm h ∧ ∀ x ∈ fs, Safe Z EL U.vm h x) (fun _ _ _ _ _ => True) (fun _ U o U' => ∃ v L ns, o = .returned v ∧ (Q v U'.heap ns ∧ Fr n0 L) ∧ (∀ x ∈ ns, n0 ≤ x ∧ x < U'.heap.size ∧ Safe Z EL U'.vm U'.heap x) ∧ CHr Z EL U.vm U.heap U'.vm U'.heap ∧ ReturnedEndW U o U' L rm.cells rm.slots)
theorem met_of {y : MethodName} {ws : List Jvm.Cond} {as' : Array Value} (hpl : plainFor y = true) (hw : ∀ d ∈ tb, d.before a0 Z = true) (Ls : Array Slot) (hef : ∀ m : MethodId, entryFrame m as' maxL = mkF m 0 Ls [])
    (H : ∀ p e s m below meth c, Cx Z a0 tb p s m meth c y.cls y.name bytes maxL ret n0 → Go Z EL p l e R s m as' below meth c n0 Q fs h 0 0 (mkF m 0 Ls [])) : Met l Z EL y bytes maxL ret ws R fs as' h n0 Q := by
  intro hn0 hfs
  refine MetFree.of_bodySF hpl hisR ?_
  intro p e s m args below meth c s₁ Bd hml0 hP hK
  obtain ⟨rfl, hZ, hh, hH, hsf⟩ := hP
  have X0 : Stand p l e R (s.setVm s.vm) m args below meth c s₁ [] 0 0 := Stand.of_body Bd
  have e0 : s₁.heap = h := by rw [← hh, Bd.state]; rfl
  have C : Cx Z a0 tb p s m meth c y.cls y.name bytes maxL ret n0 := ⟨Bd.exec, hZ, findClass_of_methodNamed Bd.named, Bd.bytes, hml0, Bd.returns, Bd.notSynchronized, hw, (name_of_methodNamed Bd.named Bd.method).1, by rw [hh]; exact hn0⟩
  have I : Inv Z EL s s.vm n0 fs h := ⟨hn0, fun x hx => ⟨(hfs x hx).1, (hfs x hx).2, hsf x hx⟩, ⟨0, (State.WarmedH.refl s).since 0, Nat.zero_le _⟩, hZ, hH, by rw [hh]; exact CHr.refl hH⟩
  obtain ⟨s2, o, st, r⟩ := H p e s m below meth c C s.vm s₁ [] X0 e0 (Fr.nil n0) I
  exact ⟨s2, o, castTop (hef m) st, r⟩
/-- the same as the caller needs it -/
def Ct (l : Launch) (Z : State) (EL : List (String × Nat)) (y : MethodName) (maxL : Nat) (rm : Room) (fs : List Addr) (as' : Array Value) (h : Heap) (n0 : Nat) (Q : Option Value → Heap → List Addr → Prop) : Prop :=
  ∀ ⦃R : Room⦄ ⦃p : Program⦄ ⦃e : Env⦄ ⦃below : List Frame⦄ ⦃s : State⦄ ⦃vm0 : Vm⦄ ⦃args : Array Value⦄ ⦃len W : Nat⦄, Z.Warmed39 vm0 → n0 ≤ h.size → (∀ x ∈ fs, n0 ≤ x ∧ x < h.size ∧ Safe Z EL vm0 h x) → CHv Z EL vm0 h → rm.frames + 1 ≤ R.frames → W + (maxL + 11) + rm.locals ≤ R.locals →
    BackS l R p e below (s.setVm vm0) args y len W (fun A a => a = as' ∧ A.U.heap = h ∧ A.cells + rm.cells ≤ R.cells ∧ A.slots + rm.slots ≤ R.slots) (fun A _ v B => ∃ L ns, (Q v B.U.heap ns ∧ Fr n0 L) ∧ B.locs = A.locs ++ L ∧ B.cells = A.cells + rm.cells ∧ B.slots = A.slots + rm.slots ∧ (∀ x ∈ ns, n0 ≤ x ∧ x < B.U.heap.size ∧ Safe Z EL B.U.vm B.U.heap x) ∧ CHr Z EL vm0 h B.U.vm B.U.heap)
theorem ct_of {y : MethodName} {rm : Room} {as' : Array Value} (hEL : EW Z a0 EL) (hw : ∀ d ∈ tb, d.before a0 Z = true) (wc : Jvm.Cond.code y bytes maxL ret ∈ tb) (wz : Jvm.Cond.initialized y.cls ∈ tb) (M : Met l Z EL y bytes maxL ret [] rm fs as' h n0 Q) : Ct l Z EL y maxL rm fs as' h n0 Q := by
  intro R p e below s vm0 args len W hZ hn0 hfs H hf hl
  exact BackS.of_freeW (bytes := bytes) (maxL := maxL) (ret := ret) (E := fun _ first o t L k n => k = rm.cells ∧ n = rm.slots ∧ (∃ v ns, o = .returned v ∧ (Q v t.heap ns ∧ Fr n0 L) ∧ ∀ x ∈ ns, n0 ≤ x ∧ x < t.heap.size ∧ Safe Z EL t.vm t.heap x) ∧ CHr Z EL first.vm first.heap t.vm t.heap) (M hn0 fun x hx => ⟨(hfs x hx).1, (hfs x hx).2.1⟩) hf hl
    (fun m meth c A a Y hp => have hU : Z.Warmed39 A.U.vm := wtrans (s := s.setVm vm0) hZ Y.warmed
      ⟨by show (Cond.and _ .tt).before a A.U = true; rw [Cond.before_and, mv hU (hw _ wc)]; rfl, mv hU (hw _ wc), mv hU (hw _ wz), hp.2.2.1, hp.2.2.2⟩)
    (fun m meth c A a g mk Y hp => ⟨hp.1, wtrans (s := s.setVm vm0) hZ Y.warmed, hp.2.1, (CHv.at Y hZ hEL H).1, fun x hx => (CHv.at Y hZ hEL H).safe (hfs x hx).2.1 (hfs x hx).2.2⟩) (fun _ _ _ _ _ _ _ _ _ => trivial)
    (fun _ _ _ _ ⟨v, L, ns, h1, h2, hs, h3, h4⟩ => ⟨L, _, _, h4, rfl, rfl, ⟨v, ns, h1, h2, hs⟩, h3⟩)
    (fun m meth c A a g mk v t L k n Y hp _ _ ⟨e1, e2, ⟨v', ns, e3, e4, e6⟩, e5⟩ => by
      cases e3; subst e1 e2
      refine ⟨L, ns, e4, rfl, rfl, rfl, e6, (CHv.at Y hZ hEL H).trans ?_⟩
      rw [← hp.2.1]; exact e5)
/-- a callee that interns nothing -/
theorem ct_back {y : MethodName} {rm : Room} {as' : Array Value} (hEL : EW Z a0 EL) (hK : ∀ v h', Q2 v h' → Keep h h' fs)
    (B0 : ∀ {R : Room} {p : Program} {e : Env} {below : List Frame} {s : State} {args : Array Value} {len W : Nat}, Z.Warmed39 s.vm → n0 ≤ h.size → (∀ x ∈ fs, n0 ≤ x) → rm.frames + 1 ≤ R.frames → W + (maxL + 11) + rm.locals ≤ R.locals →
      Back l R p e below s args y len W (fun A a => a = as' ∧ A.U.heap = h ∧ A.cells + rm.cells ≤ R.cells ∧ A.slots + rm.slots ≤ R.slots) (fun A _ v B => ∃ L, (Q2 v B.U.heap ∧ Fr n0 L) ∧ B.locs = A.locs ++ L ∧ B.cells = A.cells + rm.cells ∧ B.slots = A.slots + rm.slots)) : Ct l Z EL y maxL rm fs as' h n0 (nq Q2) := by
  intro R p e below s vm0 args len W hZ hn0 hfs H hf hl m meth c A g ig mk a X hg hsize hdg hW hn hp
  obtain ⟨v, B, X', ⟨L, ⟨q1, q2⟩, q3, q4, q5⟩, hsteps⟩ := B0 (s := s.setVm vm0) hZ hn0 (fun x hx => (hfs x hx).1) hf hl m meth c A g ig mk a X hg hsize hdg hW hn hp
  have K := hK _ _ q1
  have c1 := CHr.keep K (fun x hx => (hfs x hx).2.2) H
  have c2 := CHv.at X' hZ hEL c1.1
  exact ⟨v, B, X'.retabled X'.warmed.wide, X'.warmed.since _, by rw [hp.2.1]; exact K.1, ⟨L, [], ⟨⟨rfl, q1⟩, q2⟩, q3, q4, q5, all0, c1.trans c2⟩, hsteps⟩
theorem own_inv {vm0 vm1 : Vm} {h' : Heap} {k1 : Nat} {ns : List Addr} (I : Inv Z EL s vm0 n0 fs h) (hS : (s.setVm vm0).Since vm1 k1) (hk : k1 ≤ h'.size) (hle : h.size ≤ k1) (hns : ∀ x ∈ ns, n0 ≤ x ∧ x < h'.size ∧ Safe Z EL vm1 h' x) (hC : CHr Z EL vm0 h vm1 h') : Inv Z EL s vm1 n0 (ns ++ fs) h' := by
  obtain ⟨i1, i2, ⟨k0, i3, i4⟩, i5, i6, i7⟩ := I
  refine ⟨Nat.le_trans i1 hC.2.1, fun x hx => ?_, ⟨k1, i3.trans hS (Nat.le_trans i4 hle), hk⟩, State.Warmed39.trans (t := s.setVm vm0) i5 hS.1, hC.1, i7.trans hC⟩
  rcases List.mem_append.mp hx with hx | hx
  · exact hns x hx
  · exact ⟨(i2 x hx).1, Nat.lt_of_lt_of_le (i2 x hx).2.1 hC.2.1, hC.safe (i2 x hx).2.1 (i2 x hx).2.2⟩
theorem g_staticX (C : Cx Z a0 tb p s m meth c own mname bytes maxL ret n0) {index : Nat} {y : MethodName} {yb : ByteArray} {yr : Option FieldType} {yl' : Nat} (w1 : Jvm.Cond.methodLink own index y ∈ tb) (w2 : Jvm.Cond.static y ∈ tb) (w3 : Jvm.Cond.initialized y.cls ∈ tb) (w4 : Jvm.Cond.code y yb yl' yr ∈ tb) (hy : y.cls ≠ "java/lang/invoke/MethodHandle" ∧ y.cls ≠ "java/lang/invoke/VarHandle") {rm : Room} {fs0 : List Addr} (argsL : List Value) {Qy : Option Value → Heap → List Addr → Prop} {yl : Nat} (K0 : Ct l Z EL y yl rm fs0 argsL.toArray h n0 Qy) (hfs : ∀ x ∈ fs0, x ∈ fs) (hf : rm.frames + 1 ≤ R.frames) (W : Nat) (hlo : W + (yl + 11) + rm.locals ≤ R.locals) (hsz : Ls.size = maxL) {sig : MethodDescriptor} (hdesc : parseMethodDescriptor y.desc = some sig) (hlen : argsL.length = sig.parameters.length) (rest : List Value) (hs : St = argsL.reverse ++ rest) (hW : (rest.map fun v => v.category).sum ≤ W) (hd : decode bytes pc = .ok (.invokestatic index, 3)) (hc : k + rm.cells ≤ R.cells) (hn : n + rm.slots ≤ R.slots)
    (K : ∀ v h' ns, Qy v h' ns → Go Z EL p l e R s m args below meth c n0 Q (ns ++ fs) h' (k + rm.cells) (n + rm.slots) (mkF m (pc + 3) Ls (v.toList ++ rest))) : Go Z EL p l e R s m args below meth c n0 Q fs h k n (mkF m pc Ls St) := by
  intro vm0 T locs X eT N I
  have hZ : Z.Warmed39 (s.setVm vm0).vm := I.hZ
  have hown : (s.setVm vm0).vm.findClass own = some m.cls := C.hownAt I.hZ
  obtain ⟨v, _, ⟨T', L', k', n'⟩, -, X', hS, hgr, ⟨Lc, ns, ⟨hQ, hN⟩, hl', hk', hn', hns, hC⟩, st⟩ := callSS X C.hx hown (mvT hZ (C.hw w1)) (mvT hZ (C.hw w2)) (mvT hZ (C.hw w3)) (mvT hZ (C.hw w4)) hy (K0 (W := W) I.hZ I.1 (I.less hfs).2.1 I.2.2.2.2.1 hf hlo) (g := mkF m pc Ls St) rfl (hsz.trans C.hml.symm) (argsL := argsL) (rest := rest) (fun sg q => by cases hdesc.symm.trans q; exact hlen) hs (by show 2 * 0 + _ ≤ _; omega) (hb C.hby hd) (fun _ _ => ⟨rfl, eT, hc, hn⟩)
  dsimp only [Pt.U, Pt.locs, Pt.cells, Pt.slots] at X' hl' hk' hn' st hQ hS hgr hC hns
  subst hl' hk' hn'
  obtain ⟨s2, o, st2, r⟩ := K v T'.heap ns hQ T'.vm T' _ X' rfl (N.app hN) (own_inv I hS (Nat.le_refl _) (by rw [← eT]; exact hgr) hns hC)
  exact ⟨s2, o, st.trans st2, r⟩
theorem g_static (C : Cx Z a0 tb p s m meth c own mname bytes maxL ret n0) {index : Nat} {y : MethodName} {yb : ByteArray} {yr : Option FieldType} {yl' : Nat} (w1 : Jvm.Cond.methodLink own index y ∈ tb) (w2 : Jvm.Cond.static y ∈ tb) (w3 : Jvm.Cond.initialized y.cls ∈ tb) (w4 : Jvm.Cond.code y yb yl' yr ∈ tb) (hy : y.cls ≠ "java/lang/invoke/MethodHandle" ∧ y.cls ≠ "java/lang/invoke/VarHandle") {rm : Room} {fs0 : List Addr} (argsL : List Value) {Qy : Option Value → Heap → Prop} {yl : Nat} (K0 : Ct l Z EL y yl rm fs0 argsL.toArray h n0 (nq Qy)) (hfs : ∀ x ∈ fs0, x ∈ fs) (hf : rm.frames + 1 ≤ R.frames) (W : Nat) (hlo : W + (yl + 11) + rm.locals ≤ R.locals) (hsz : Ls.size = maxL) {sig : MethodDescriptor} (hdesc : parseMethodDescriptor y.desc = some sig) (hlen : argsL.length = sig.parameters.length) (rest : List Value) (hs : St = argsL.reverse ++ rest) (hW : (rest.map fun v => v.category).sum ≤ W) (hd : decode bytes pc = .ok (.invokestatic index, 3)) (hc : k + rm.cells ≤ R.cells) (hn : n + rm.slots ≤ R.slots)
    (K : ∀ v h', Qy v h' → Go Z EL p l e R s m args below meth c n0 Q fs h' (k + rm.cells) (n + rm.slots) (mkF m (pc + 3) Ls (v.toList ++ rest))) : Go Z EL p l e R s m args below meth c n0 Q fs h k n (mkF m pc Ls St) :=
  g_staticX C w1 w2 w3 w4 hy argsL K0 hfs hf W hlo hsz hdesc hlen rest hs hW hd hc hn (fun v h' ns q => by obtain ⟨rfl, q⟩ := q; exact K v h' q)
theorem g_specialX (C : Cx Z a0 tb p s m meth c own mname bytes maxL ret n0) {index : Nat} {y : MethodName} {a : Addr} {yb : ByteArray} {yl' : Nat} (w1 : Jvm.Cond.methodLink own index y ∈ tb) (w2 : Jvm.Cond.instanceMethod y ∈ tb) (w4 : Jvm.Cond.code y yb yl' none ∈ tb) (hy1 : y.name = "<init>") (hy : y.cls ≠ "java/lang/invoke/MethodHandle" ∧ y.cls ≠ "java/lang/invoke/VarHandle") {rm : Room} {fs0 : List Addr} (argsL : List Value) {Qy : Option Value → Heap → List Addr → Prop} {yl : Nat} (K0 : Ct l Z EL y yl rm fs0 (.ref a :: argsL).toArray h n0 Qy) (hfs : ∀ x ∈ fs0, x ∈ fs) (hf : rm.frames + 1 ≤ R.frames) (W : Nat) (hlo : W + (yl + 11) + rm.locals ≤ R.locals) (hsz : Ls.size = maxL) {sig : MethodDescriptor} (hdesc : parseMethodDescriptor y.desc = some sig) (hlen : argsL.length = sig.parameters.length) (rest : List Value) (hs : St = argsL.reverse ++ .ref a :: rest) (hW : (rest.map fun v => v.category).sum ≤ W) (hd : decode bytes pc = .ok (.invokespecial index, 3)) (hc : k + rm.cells ≤ R.cells) (hn : n + rm.slots ≤ R.slots)
    (K : ∀ v h' ns, Qy v h' ns → Go Z EL p l e R s m args below meth c n0 Q (ns ++ fs) h' (k + rm.cells) (n + rm.slots) (mkF m (pc + 3) Ls (v.toList ++ rest))) : Go Z EL p l e R s m args below meth c n0 Q fs h k n (mkF m pc Ls St) := by
  intro vm0 T locs X eT N I
  have hZ : Z.Warmed39 (s.setVm vm0).vm := I.hZ
  have hown : (s.setVm vm0).vm.findClass own = some m.cls := C.hownAt I.hZ
  obtain ⟨v, _, ⟨T', L', k', n'⟩, -, X', hS, hgr, ⟨Lc, ns, ⟨hQ, hN⟩, hl', hk', hn', hns, hC⟩, st⟩ := X.specialBackS C.hx hy1 hown (mvT hZ (C.hw w1)) (mvT hZ (C.hw w2)) (mvT hZ (C.hw w4)) hy (K0 (W := W) I.hZ I.1 (I.less hfs).2.1 I.2.2.2.2.1 hf hlo) (g := mkF m pc Ls St) rfl (hsz.trans C.hml.symm) (Steps.refl _) (a := a) (argsL := argsL) (rest := rest) (fun sg q => by cases hdesc.symm.trans q; exact hlen) hs (by show 2 * 0 + _ ≤ _; omega) (hb C.hby hd) (fun _ _ => ⟨rfl, eT, hc, hn⟩)
  dsimp only [Pt.U, Pt.locs, Pt.cells, Pt.slots] at X' hl' hk' hn' st hQ hS hgr hC hns
  subst hl' hk' hn'
  obtain ⟨s2, o, st2, r⟩ := K v T'.heap ns hQ T'.vm T' _ X' rfl (N.app hN) (own_inv I hS (Nat.le_refl _) (by rw [← eT]; exact hgr) hns hC)
  exact ⟨s2, o, st.trans st2, r⟩
theorem g_special (C : Cx Z a0 tb p s m meth c own mname bytes maxL ret n0) {index : Nat} {y : MethodName} {a : Addr} {yb : ByteArray} {yl' : Nat} (w1 : Jvm.Cond.methodLink own index y ∈ tb) (w2 : Jvm.Cond.instanceMethod y ∈ tb) (w4 : Jvm.Cond.code y yb yl' none ∈ tb) (hy1 : y.name = "<init>") (hy : y.cls ≠ "java/lang/invoke/MethodHandle" ∧ y.cls ≠ "java/lang/invoke/VarHandle") {rm : Room} {fs0 : List Addr} (argsL : List Value) {Qy : Option Value → Heap → Prop} {yl : Nat} (K0 : Ct l Z EL y yl rm fs0 (.ref a :: argsL).toArray h n0 (nq Qy)) (hfs : ∀ x ∈ fs0, x ∈ fs) (hf : rm.frames + 1 ≤ R.frames) (W : Nat) (hlo : W + (yl + 11) + rm.locals ≤ R.locals) (hsz : Ls.size = maxL) {sig : MethodDescriptor} (hdesc : parseMethodDescriptor y.desc = some sig) (hlen : argsL.length = sig.parameters.length) (rest : List Value) (hs : St = argsL.reverse ++ .ref a :: rest) (hW : (rest.map fun v => v.category).sum ≤ W) (hd : decode bytes pc = .ok (.invokespecial index, 3)) (hc : k + rm.cells ≤ R.cells) (hn : n + rm.slots ≤ R.slots)
    (K : ∀ v h', Qy v h' → Go Z EL p l e R s m args below meth c n0 Q fs h' (k + rm.cells) (n + rm.slots) (mkF m (pc + 3) Ls (v.toList ++ rest))) : Go Z EL p l e R s m args below meth c n0 Q fs h k n (mkF m pc Ls St) :=
  g_specialX C w1 w2 w4 hy1 hy argsL K0 hfs hf W hlo hsz hdesc hlen rest hs hW hd hc hn (fun v h' ns q => by obtain ⟨rfl, q⟩ := q; exact K v h' q)
theorem g_virtualX (C : Cx Z a0 tb p s m meth c own mname bytes maxL ret n0) {index : Nat} {y z : MethodName} {Cn : String} {a : Addr} (E : Exa Z h a Cn) (w1 : Jvm.Cond.methodLink own index y ∈ tb) (w2 : Jvm.Cond.declares y ∈ tb) (hnf : ∀ {s' : State}, Z.Warmed39 s'.vm → NotFace s' y) (w3 : Jvm.Cond.selects Cn y z ∈ tb) (w4 : Jvm.Cond.instanceMethod z ∈ tb) (hy : y.cls ≠ "java/lang/invoke/MethodHandle" ∧ y.cls ≠ "java/lang/invoke/VarHandle") {rm : Room} {fs0 : List Addr} (argsL : List Value) {Qy : Option Value → Heap → List Addr → Prop} {yl : Nat} (K0 : Ct l Z EL z yl rm fs0 (.ref a :: argsL).toArray h n0 Qy) (hfs : ∀ x ∈ fs0, x ∈ fs) (hf : rm.frames + 1 ≤ R.frames) (W : Nat) (hlo : W + (yl + 11) + rm.locals ≤ R.locals) (hsz : Ls.size = maxL) {sig : MethodDescriptor} (hdesc : parseMethodDescriptor y.desc = some sig) (hlen : argsL.length = sig.parameters.length) (rest : List Value) (hs : St = argsL.reverse ++ .ref a :: rest) (hW : (rest.map fun v => v.category).sum ≤ W) (hd : decode bytes pc = .ok (.invokevirtual index, 3)) (hc : k + rm.cells ≤ R.cells) (hn : n + rm.slots ≤ R.slots)
    (K : ∀ v h' ns, Qy v h' ns → Go Z EL p l e R s m args below meth c n0 Q (ns ++ fs) h' (k + rm.cells) (n + rm.slots) (mkF m (pc + 3) Ls (v.toList ++ rest))) : Go Z EL p l e R s m args below meth c n0 Q fs h k n (mkF m pc Ls St) := by
  intro vm0 T locs X eT N I
  have hZ : Z.Warmed39 (s.setVm vm0).vm := I.hZ
  have hown : (s.setVm vm0).vm.findClass own = some m.cls := C.hownAt I.hZ
  obtain ⟨cq, kq, qa, qb, qc⟩ := isOf hZ eT E
  obtain ⟨v, _, ⟨T', L', k', n'⟩, -, X', hS, hgr, ⟨Lc, ns, ⟨hQ, hN⟩, hl', hk', hn', hns, hC⟩, st⟩ := X.virtualBackS C.hx hown (mvT hZ (C.hw w1)) (mvT hZ (C.hw w2)) (hnf hZ) (mvT hZ (C.hw w3)) (mvT hZ (C.hw w4)) hy (K0 (W := W) I.hZ I.1 (I.less hfs).2.1 I.2.2.2.2.1 hf hlo) qa qc (g := mkF m pc Ls St) rfl (hsz.trans C.hml.symm) (Steps.refl _) (argsL := argsL) (rest := rest) (fun sg q => by cases hdesc.symm.trans q; exact hlen) hs (by show 2 * 0 + _ ≤ _; omega) (hb C.hby hd) (fun _ _ => ⟨rfl, eT, hc, hn⟩)
  dsimp only [Pt.U, Pt.locs, Pt.cells, Pt.slots] at X' hl' hk' hn' st hQ hS hgr hC hns
  subst hl' hk' hn'
  obtain ⟨s2, o, st2, r⟩ := K v T'.heap ns hQ T'.vm T' _ X' rfl (N.app hN) (own_inv I hS (Nat.le_refl _) (by rw [← eT]; exact hgr) hns hC)
  exact ⟨s2, o, st.trans st2, r⟩
theorem g_virtual (C : Cx Z a0 tb p s m meth c own mname bytes maxL ret n0) {index : Nat} {y z : MethodName} {Cn : String} {a : Addr} (E : Exa Z h a Cn) (w1 : Jvm.Cond.methodLink own index y ∈ tb) (w2 : Jvm.Cond.declares y ∈ tb) (hnf : ∀ {s' : State}, Z.Warmed39 s'.vm → NotFace s' y) (w3 : Jvm.Cond.selects Cn y z ∈ tb) (w4 : Jvm.Cond.instanceMethod z ∈ tb) (hy : y.cls ≠ "java/lang/invoke/MethodHandle" ∧ y.cls ≠ "java/lang/invoke/VarHandle") {rm : Room} {fs0 : List Addr} (argsL : List Value) {Qy : Option Value → Heap → Prop} {yl : Nat} (K0 : Ct l Z EL z yl rm fs0 (.ref a :: argsL).toArray h n0 (nq Qy)) (hfs : ∀ x ∈ fs0, x ∈ fs) (hf : rm.frames + 1 ≤ R.frames) (W : Nat) (hlo : W + (yl + 11) + rm.locals ≤ R.locals) (hsz : Ls.size = maxL) {sig : MethodDescriptor} (hdesc : parseMethodDescriptor y.desc = some sig) (hlen : argsL.length = sig.parameters.length) (rest : List Value) (hs : St = argsL.reverse ++ .ref a :: rest) (hW : (rest.map fun v => v.category).sum ≤ W) (hd : decode bytes pc = .ok (.invokevirtual index, 3)) (hc : k + rm.cells ≤ R.cells) (hn : n + rm.slots ≤ R.slots)
    (K : ∀ v h', Qy v h' → Go Z EL p l e R s m args below meth c n0 Q fs h' (k + rm.cells) (n + rm.slots) (mkF m (pc + 3) Ls (v.toList ++ rest))) : Go Z EL p l e R s m args below meth c n0 Q fs h k n (mkF m pc Ls St) :=
  g_virtualX C E w1 w2 hnf w3 w4 hy argsL K0 hfs hf W hlo hsz hdesc hlen rest hs hW hd hc hn (fun v h' ns q => by obtain ⟨rfl, q⟩ := q; exact K v h' q)
theorem nf_sel {y : MethodName} {Cn : String} (hw : ∀ d ∈ tb, d.before a0 Z = true) (w : Jvm.Cond.selects Cn y y ∈ tb) {s' : State} (hZ : Z.Warmed39 s'.vm) : NotFace s' y := notFace_of_selects (args := #[]) (mvT hZ (hw _ w))
end OwnGo
end Jvm.OwnGo
namespace Jvm.OwnGo
open Sem ClassFile Op Lib Jvm.Stand Jvm.Free Jvm.LawKit Jvm.RoadKit Bundle
section OwnBox
variable {Z : State} {a0 : Array Value} {tb : List Jvm.Cond} {p : Program} {l : Launch} {e : Env} {R : Room} {s : State} {m : MethodId} {args : Array Value} {below : List Frame} {meth : Method} {c : Code} {own mname : String} {bytes : ByteArray} {maxL : Nat} {ret : Option FieldType} {n0 : Nat} {Q : Option Value → Heap → List Addr → Prop} {Q2 : Option Value → Heap → Prop} {fs : List Addr} {h : Heap} {k n : Nat} {pc : Nat} {Ls : Array Slot} {St : List Value} {EL : List (String × Nat)}
end OwnBox
end Jvm.OwnGo
/- laws to paste: Road.backV, Road.eqW (cut by pick.py; bodies as the Statement names them) -/
namespace Jvm.Pilot.@@N@@
namespace StrChars
open Jvm Sem ClassFile Op Lib Jvm.Stand Jvm.Free.XT Jvm.Free.ALB Jvm.Free.JM Jvm.Free
open Jvm.Lib.Cold (StaticIs)
/-- a char array whose places are chars -/
def Ch (a : Addr) (A : Cell) (U : State) : Prop := Arr .char a A U ∧ Typed .char A
theorem Ch.mv {a : Addr} {A : Cell} {U U' : State} (h : Ch a A U) (hal : U.vm.Alike U'.vm) (hh : U'.heap = U.heap) : Ch a A U' := ⟨h.1.mv hal hh, h.2⟩
theorem Ch.keep {a : Addr} {A : Cell} {U U' : State} (h : Ch a A U) (hal : U.vm.Alike U'.vm) (hk : U'.heap[a]? = some A) : Ch a A U' := ⟨h.1.keep hal hk, h.2⟩
/-- what place i of a char[]'s cell holds -/
def cv (A : Cell) (i : Nat) : Int32 := match A.slots[i]? with | some (.int x) => x | _ => 0
theorem Ch.get {a : Addr} {A : Cell} {U : State} (h : Ch a A U) {i : Nat} (hi : i < A.slots.size) : A.slots[i]? = some (.int (cv A i)) := by
  have e := Array.getElem?_eq_getElem hi
  have f := h.2 i _ e
  unfold cv; rw [e]
  generalize A.slots[i] = v at f
  cases v <;> simp [fits] at f ⊢
/-- the byte that i2b leaves of a char -/
def lo8 (x : Int32) : Int32 := x.toInt8.toInt32
theorem fits_lo8 (y : Int32) : fits .byte (.int (lo8 y)) = true := by
  have h1 := y.toInt8.le_toInt
  have h2 := y.toInt8.toInt_lt
  simp only [lo8, fits, Bool.and_eq_true, decide_eq_true_eq, Int32.le_iff_toInt_le, Int8.toInt_toInt32, show (-128 : Int32).toInt = -128 from by decide, show (127 : Int32).toInt = 127 from by decide]
  omega
/-- A' is A but that each place j of lo .. hi - 1 holds f j -/
def Laid (A A' : Cell) (lo hi : Nat) (f : Nat → Value) : Prop := A'.cls = A.cls ∧ A'.vm = A.vm ∧ A'.slots.size = A.slots.size ∧ ∀ i, A'.slots[i]? = if lo ≤ i ∧ i < hi then some (f i) else A.slots[i]?
theorem Laid.zero (A : Cell) (lo : Nat) (f : Nat → Value) : Laid A A lo (lo + 0) f := ⟨rfl, rfl, rfl, fun i => by rw [if_neg (by omega)]⟩
theorem Laid.step {A Ak : Cell} {lo k : Nat} {f : Nat → Value} {v : Value} (h : Laid A Ak lo k f) (hlo : lo ≤ k) (hk : k < Ak.slots.size) (hv : v = f k) : Laid A (Ak.setSlot k v) lo (k + 1) f := by
  refine ⟨h.1, h.2.1, by simpa [Cell.setSlot] using h.2.2.1, fun i => ?_⟩
  by_cases e : k = i
  · subst e; rw [Cell.slots_setSlot_self v hk, if_pos (by omega), hv]
  · rw [Cell.slots_setSlot_ne v e, h.2.2.2 i]
    by_cases q : lo ≤ i ∧ i < k
    · rw [if_pos q, if_pos (by omega)]
    · rw [if_neg q, if_neg (by omega)]
def U16 : String := "java/lang/StringUTF16"
namespace Cmp5
def yN : MethodName := ⟨"java/lang/StringUTF16", "compress", "([CI[BII)I"⟩
abbrev yB : ByteArray := jdk_52_method_21_code
theorem d0 : decode yB 0 = .ok (.iconst 0, 1) := by decide +kernel
theorem d1 : decode yB 1 = .ok (.istore 5, 2) := by decide +kernel
theorem d3 : decode yB 3 = .ok (.iload 5, 2) := by decide +kernel
theorem d5 : decode yB 5 = .ok (.iload 4, 2) := by decide +kernel
theorem d7 : decode yB 7 = .ok (.if_icmp (.ge) 37, 3) := by decide +kernel
theorem d10 : decode yB 10 = .ok (.aload_n 0, 1) := by decide +kernel
theorem d11 : decode yB 11 = .ok (.iload_n 1, 1) := by decide +kernel
theorem d12 : decode yB 12 = .ok (.caload, 1) := by decide +kernel
theorem d13 : decode yB 13 = .ok (.istore 6, 2) := by decide +kernel
theorem d15 : decode yB 15 = .ok (.iload 6, 2) := by decide +kernel
theorem d17 : decode yB 17 = .ok (.sipush 255, 3) := by decide +kernel
theorem d20 : decode yB 20 = .ok (.if_icmp (.le) 6, 3) := by decide +kernel
theorem d26 : decode yB 26 = .ok (.aload_n 2, 1) := by decide +kernel
theorem d27 : decode yB 27 = .ok (.iload_n 3, 1) := by decide +kernel
theorem d28 : decode yB 28 = .ok (.iload 6, 2) := by decide +kernel
theorem d30 : decode yB 30 = .ok (.i2b, 1) := by decide +kernel
theorem d31 : decode yB 31 = .ok (.bastore, 1) := by decide +kernel
theorem d32 : decode yB 32 = .ok (.iinc 1 1, 3) := by decide +kernel
theorem d35 : decode yB 35 = .ok (.iinc 3 1, 3) := by decide +kernel
theorem d38 : decode yB 38 = .ok (.iinc 5 1, 3) := by decide +kernel
theorem d41 : decode yB 41 = .ok (.goto (-38), 3) := by decide +kernel
theorem d44 : decode yB 44 = .ok (.iload 4, 2) := by decide +kernel
theorem d46 : decode yB 46 = .ok (.ireturn, 1) := by decide +kernel
def site : List Cond := []
def tab : Cond := tabOf yN yB 7 (some .int) site
def P (b : Addr) (A : Cell) (d : Addr) (B : Cell) (o q len : Nat) (args : Array Value) (s : State) : Prop := args = #[.ref b, .int (Int32.ofNat o), .ref d, .int (Int32.ofNat q), .int (Int32.ofNat len)] ∧ Ch b A s ∧ Arr .byte d B s ∧ b ≠ d ∧ o + len ≤ A.slots.size ∧ q + len ≤ B.slots.size ∧ ∀ i, i < len → ¬ 255 < cv A (o + i)
def E (b : Addr) (A : Cell) (d : Addr) (B : Cell) (o q len : Nat) (r : Option Value) (s u : State) : Prop := r = some (.int (Int32.ofNat len)) ∧ ∃ B', Put d B' s u ∧ Laid B B' q (q + len) (fun j => Value.int (lo8 (cv A (o + (j - q)))))
/-- no char of the range above 255: len; the places written hold each char's low byte -/
theorem law (l : Launch) (b : Addr) (A : Cell) (d : Addr) (B : Cell) (o q len : Nat) : Law l yN 5 5 0 0 yB 7 (some .int) site (P b A d B o q len) (E b A d B o q len) (copyLocs d q len) 0 0 := by
  refine Law.of_walk (plainFor_of_name (by decide +kernel)) (by decide +kernel) (by decide +kernel) (by decide) (fun _ _ h => by rw [h.1]; rfl) (fun _ U U' hal hh h => ⟨h.1, h.2.1.mv hal hh, h.2.2.1.mv hal hh, h.2.2.2⟩) (fun r U U' V V' h1 hal h2 h => ⟨h.1, h.2.elim fun B' q => ⟨B', q.1.mv h1 h2, q.2⟩⟩) ?_
  intro p e s m args below meth c s₁ X0 hexec hbytes hml hret hlk hnm hown hh0 W hP
  obtain ⟨rfl, hA, hB, hne, l1, l2, hp⟩ := hP
  have c1 : Steps p.tables e below (s₁.setTop (entryFrame m #[.ref b, .int (Int32.ofNat o), .ref d, .int (Int32.ofNat q), .int (Int32.ofNat len)] 7)) (s₁.setTop (mkF m 0 #[.val (.ref b), .val (.int (Int32.ofNat o)), .val (.ref d), .val (.int (Int32.ofNat q)), .val (.int (Int32.ofNat len)), .unset, .unset] [])) := entry rfl
  have hA0 := hA.1.mv X0.warmed.alike hh0
  have hB0 := hB.mv X0.warmed.alike hh0
  have a31 := hA.1.2.2.2
  have c2 : Steps p.tables e below (s₁.setTop (entryFrame m #[.ref b, .int (Int32.ofNat o), .ref d, .int (Int32.ofNat q), .int (Int32.ofNat len)] 7)) (s₁.setTop (mkF m 3 #[.val (.ref b), .val (.int (Int32.ofNat o)), .val (.ref d), .val (.int (Int32.ofNat q)), .val (.int (Int32.ofNat len)), .val (.int 0), .unset] [])) := c1.trans (by
    refine iconstV X0.here hexec rfl 0 (hb hbytes d0) (by decide) ?_
    refine XS.istore X0.here hexec rfl (hb hbytes d1) rfl rfl ?_
    exact Steps.refl _)
  have loop : ∀ (r i : Nat), i + r = len → ∀ (z : Slot), (z = .unset ∨ ∃ w, z = .val w ∧ w.category = 1) → ∀ (Tl : State) (Bk : Cell), Stand p l e { frames := 0, locals := 0, cells := 0, slots := 0 } s m #[.ref b, .int (Int32.ofNat o), .ref d, .int (Int32.ofNat q), .int (Int32.ofNat len)] below meth c Tl ([] ++ copyLocs d q i) 0 0 → Put d Bk s₁ Tl → Laid B Bk q (q + i) (fun j => Value.int (lo8 (cv A (o + (j - q))))) →
      Steps p.tables e below (s₁.setTop (entryFrame m #[.ref b, .int (Int32.ofNat o), .ref d, .int (Int32.ofNat q), .int (Int32.ofNat len)] 7)) (Tl.setTop (mkF m 3 #[.val (.ref b), .val (.int (Int32.ofNat (o + i))), .val (.ref d), .val (.int (Int32.ofNat (q + i))), .val (.int (Int32.ofNat len)), .val (.int (Int32.ofNat i)), z] [])) → ∃ (T' : State) (B' : Cell) (z' : Slot), Stand p l e { frames := 0, locals := 0, cells := 0, slots := 0 } s m #[.ref b, .int (Int32.ofNat o), .ref d, .int (Int32.ofNat q), .int (Int32.ofNat len)] below meth c T' ([] ++ copyLocs d q len) 0 0 ∧ Put d B' s₁ T' ∧ Laid B B' q (q + len) (fun j => Value.int (lo8 (cv A (o + (j - q))))) ∧
      Steps p.tables e below (s₁.setTop (entryFrame m #[.ref b, .int (Int32.ofNat o), .ref d, .int (Int32.ofNat q), .int (Int32.ofNat len)] 7)) (T'.setTop (mkF m 3 #[.val (.ref b), .val (.int (Int32.ofNat (o + len))), .val (.ref d), .val (.int (Int32.ofNat (q + len))), .val (.int (Int32.ofNat len)), .val (.int (Int32.ofNat len)), z'] [])) := by
    intro r
    induction r with
    | zero =>
      intro i hi z hz Tl Bk Xl pl fl cl
      have hil : i = len := by omega
      rw [hil] at Xl fl cl
      exact ⟨Tl, Bk, z, Xl, pl, fl, cl⟩
    | succ r ih =>
      intro i hi z hz Tl Bk Xl pl fl cl
      have all := X0.warmed.alike.symm.trans Xl.warmed.alike
      have hAl := hA0.keep all (pl.other hne hA0.1)
      have hBk := hB0.like all pl.1 fl.1 fl.2.1 fl.2.2.1
      have hlt : q + i < Bk.slots.size := by rw [fl.2.2.1]; omega
      have c3 : Steps p.tables e below (s₁.setTop (entryFrame m #[.ref b, .int (Int32.ofNat o), .ref d, .int (Int32.ofNat q), .int (Int32.ofNat len)] 7)) (Tl.setTop (mkF m 12 #[.val (.ref b), .val (.int (Int32.ofNat (o + i))), .val (.ref d), .val (.int (Int32.ofNat (q + i))), .val (.int (Int32.ofNat len)), .val (.int (Int32.ofNat i)), z] [.int (Int32.ofNat (o + i)), .ref b])) := cl.trans (by
        refine XS.iload Xl.here hexec rfl (hb hbytes d3) rfl ?_
        refine XS.iload Xl.here hexec rfl (hb hbytes d5) rfl ?_
        refine XS.icmpNo Xl.here hexec rfl (hb hbytes d7) rfl (ii_ge_f (lt32 (by omega) (by omega))) ?_
        refine XS.aloadN Xl.here hexec rfl (hb hbytes d10) rfl rfl ?_
        refine XS.iloadN Xl.here hexec rfl (hb hbytes d11) rfl ?_
        exact Steps.refl _)
      have c4 : Steps p.tables e below (s₁.setTop (entryFrame m #[.ref b, .int (Int32.ofNat o), .ref d, .int (Int32.ofNat q), .int (Int32.ofNat len)] 7)) (Tl.setTop (mkF m 13 #[.val (.ref b), .val (.int (Int32.ofNat (o + i))), .val (.ref d), .val (.int (Int32.ofNat (q + i))), .val (.int (Int32.ofNat len)), .val (.int (Int32.ofNat i)), z] [.int (cv A (o + i))])) := c3.trans (by
        refine Xl.aget hexec hAl rfl (hA.get (i := o + i) (by omega)) rfl rfl (hb hbytes d12) ?_
        exact Steps.refl _)
      have c5 : Steps p.tables e below (s₁.setTop (entryFrame m #[.ref b, .int (Int32.ofNat o), .ref d, .int (Int32.ofNat q), .int (Int32.ofNat len)] 7)) (Tl.setTop (mkF m 15 #[.val (.ref b), .val (.int (Int32.ofNat (o + i))), .val (.ref d), .val (.int (Int32.ofNat (q + i))), .val (.int (Int32.ofNat len)), .val (.int (Int32.ofNat i)), .val (.int (cv A (o + i)))] [])) := c4.trans (by
        refine XS.istoreS Xl.here hexec rfl (hb hbytes d13) rfl rfl hz ?_
        exact Steps.refl _)
      have c6 : Steps p.tables e below (s₁.setTop (entryFrame m #[.ref b, .int (Int32.ofNat o), .ref d, .int (Int32.ofNat q), .int (Int32.ofNat len)] 7)) (Tl.setTop (mkF m 31 #[.val (.ref b), .val (.int (Int32.ofNat (o + i))), .val (.ref d), .val (.int (Int32.ofNat (q + i))), .val (.int (Int32.ofNat len)), .val (.int (Int32.ofNat i)), .val (.int (cv A (o + i)))] [.int (lo8 (cv A (o + i))), .int (Int32.ofNat (q + i)), .ref d])) := c5.trans (by
        refine XS.iload Xl.here hexec rfl (hb hbytes d15) rfl ?_
        refine sipushV Xl.here hexec rfl 255 (hb hbytes d17) (by decide) ?_
        refine XS.icmpYes Xl.here hexec rfl (pc0 := 20) rfl (hb hbytes d20) rfl (ii_le_t (hp i (by omega))) (by decide) rfl ?_
        refine XS.aloadN Xl.here hexec rfl (hb hbytes d26) rfl rfl ?_
        refine XS.iloadN Xl.here hexec rfl (hb hbytes d27) rfl ?_
        refine XS.iload Xl.here hexec rfl (hb hbytes d28) rfl ?_
        refine i2b Xl.here hexec rfl (hb hbytes d30) rfl ?_
        exact Steps.refl _)
      obtain ⟨T7, X7, p7, st7⟩ := Xl.aput hexec hBk rfl hlt rfl (fits_lo8 (cv A (o + i))) (g := (mkF m 31 #[.val (.ref b), .val (.int (Int32.ofNat (o + i))), .val (.ref d), .val (.int (Int32.ofNat (q + i))), .val (.int (Int32.ofNat len)), .val (.int (Int32.ofNat i)), .val (.int (cv A (o + i)))] [.int (lo8 (cv A (o + i))), .int (Int32.ofNat (q + i)), .ref d])) rfl (rest := []) rfl (hb hbytes d31)
      have c8 : Steps p.tables e below (s₁.setTop (entryFrame m #[.ref b, .int (Int32.ofNat o), .ref d, .int (Int32.ofNat q), .int (Int32.ofNat len)] 7)) (T7.setTop (mkF m 32 #[.val (.ref b), .val (.int (Int32.ofNat (o + i))), .val (.ref d), .val (.int (Int32.ofNat (q + i))), .val (.int (Int32.ofNat len)), .val (.int (Int32.ofNat i)), .val (.int (cv A (o + i)))] [])) := c6.trans (st7 _ (Steps.refl _))
      have c9 : Steps p.tables e below (s₁.setTop (entryFrame m #[.ref b, .int (Int32.ofNat o), .ref d, .int (Int32.ofNat q), .int (Int32.ofNat len)] 7)) (T7.setTop (mkF m 3 #[.val (.ref b), .val (.int (Int32.ofNat (o + i) + 1)), .val (.ref d), .val (.int (Int32.ofNat (q + i) + 1)), .val (.int (Int32.ofNat len)), .val (.int (Int32.ofNat i + 1)), .val (.int (cv A (o + i)))] [])) := c8.trans (by
        refine iincV X7.here hexec rfl 1 (hb hbytes d32) (by decide) rfl rfl ?_
        refine iincV X7.here hexec rfl 1 (hb hbytes d35) (by decide) rfl rfl ?_
        refine iincV X7.here hexec rfl 1 (hb hbytes d38) (by decide) rfl rfl ?_
        refine XS.goto X7.here hexec rfl (pc0 := 41) rfl (hb hbytes d41) (by decide) rfl ?_
        exact Steps.refl _)
      have c10 : Steps p.tables e below (s₁.setTop (entryFrame m #[.ref b, .int (Int32.ofNat o), .ref d, .int (Int32.ofNat q), .int (Int32.ofNat len)] 7)) (T7.setTop (mkF m 3 #[.val (.ref b), .val (.int (Int32.ofNat (o + (i + 1)))), .val (.ref d), .val (.int (Int32.ofNat (q + (i + 1)))), .val (.int (Int32.ofNat len)), .val (.int (Int32.ofNat (i + 1))), .val (.int (cv A (o + i)))] [])) := by
        have := c9
        rw [succ32, succ32, succ32] at this
        exact this
      exact ih (i + 1) (by omega) _ (Or.inr ⟨_, rfl, rfl⟩) T7 _ (by rw [copyLocs_step, ← List.append_assoc]; exact X7) (pl.trans p7) (fl.step (by omega) hlt (by simp)) c10
  obtain ⟨T9, B9, z9, X9, p9, f9, g9⟩ := loop len 0 (by omega) .unset (Or.inl rfl) s₁ B (by simpa [copyLocs] using X0) ⟨hB0.1, fun _ _ => rfl, rfl⟩ (Laid.zero _ _ _) c2
  have c11 : Steps p.tables e below (s₁.setTop (entryFrame m #[.ref b, .int (Int32.ofNat o), .ref d, .int (Int32.ofNat q), .int (Int32.ofNat len)] 7)) (T9.setTop (mkF m 46 #[.val (.ref b), .val (.int (Int32.ofNat (o + len))), .val (.ref d), .val (.int (Int32.ofNat (q + len))), .val (.int (Int32.ofNat len)), .val (.int (Int32.ofNat len)), z9] [.int (Int32.ofNat len)])) := g9.trans (by
    refine XS.iload X9.here hexec rfl (hb hbytes d3) rfl ?_
    refine XS.iload X9.here hexec rfl (hb hbytes d5) rfl ?_
    refine XS.icmpYes X9.here hexec rfl (pc0 := 7) rfl (hb hbytes d7) rfl (ii_ge_t (nlt32 (by omega) (Nat.le_refl _))) (by decide) rfl ?_
    refine XS.iload X9.here hexec rfl (hb hbytes d44) rfl ?_
    exact Steps.refl _)
  exact ⟨T9, some (.int (Int32.ofNat len)), _, _, _, X9, by simp, rfl, rfl, (fun h => by cases h), ⟨rfl, B9, p9.from hh0, f9⟩, fun fs hl => c11.trans (X9.ireturnOut hexec hret rfl (Or.inl rfl) (hb hbytes d46) hl)⟩
end Cmp5
namespace Cmp3
def yN : MethodName := ⟨"java/lang/StringUTF16", "compress", "([CII)[B"⟩
abbrev yB : ByteArray := jdk_52_method_16_code
theorem d0 : decode yB 0 = .ok (.iload_n 2, 1) := by decide +kernel
theorem d1 : decode yB 1 = .ok (.newarray .byte, 2) := by decide +kernel
theorem d3 : decode yB 3 = .ok (.astore_n 3, 1) := by decide +kernel
theorem d4 : decode yB 4 = .ok (.aload_n 0, 1) := by decide +kernel
theorem d5 : decode yB 5 = .ok (.iload_n 1, 1) := by decide +kernel
theorem d6 : decode yB 6 = .ok (.aload_n 3, 1) := by decide +kernel
theorem d7 : decode yB 7 = .ok (.iconst 0, 1) := by decide +kernel
theorem d8 : decode yB 8 = .ok (.iload_n 2, 1) := by decide +kernel
theorem d9 : decode yB 9 = .ok (.invokestatic 115, 3) := by decide +kernel
theorem d12 : decode yB 12 = .ok (.istore 4, 2) := by decide +kernel
theorem d14 : decode yB 14 = .ok (.iload 4, 2) := by decide +kernel
theorem d16 : decode yB 16 = .ok (.iload_n 2, 1) := by decide +kernel
theorem d17 : decode yB 17 = .ok (.if_icmp (.eq) 40, 3) := by decide +kernel
theorem d57 : decode yB 57 = .ok (.aload_n 3, 1) := by decide +kernel
theorem d58 : decode yB 58 = .ok (.areturn, 1) := by decide +kernel
def site : List Cond := [.arrayClass .byte, Cmp5.tab] ++ staticW U16 115 Cmp5.yN
def tab : Cond := tabOf yN yB 6 (some (.array .byte)) site
def P (b : Addr) (A : Cell) (o len : Nat) (args : Array Value) (s : State) : Prop := args = #[.ref b, .int (Int32.ofNat o), .int (Int32.ofNat len)] ∧ Ch b A s ∧ o + len ≤ A.slots.size ∧ len ≤ 536870912 ∧ ∀ i, i < len → ¬ 255 < cv A (o + i)
def E (b : Addr) (A : Cell) (o len : Nat) (r : Option Value) (s u : State) : Prop := NewArr .byte "[B" len (fun j => .int (lo8 (cv A (o + j)))) r s u ∧ u.heap.size = s.heap.size + 1
/-- no char of the range above 255: a new byte[] of their low bytes -/
theorem law (l : Launch) (b : Addr) (A : Cell) (o len : Nat) : Law l yN 3 3 1 18 yB 6 (some (.array .byte)) site (P b A o len) (E b A o len) [] 1 len := by
  refine Law.of_walk (plainFor_of_name (by decide +kernel)) (by decide +kernel) (by decide +kernel) (by decide) (fun _ _ h => by rw [h.1]; rfl) (fun _ U U' hal hh h => ⟨h.1, h.2.1.mv hal hh, h.2.2⟩) (fun r U U' V V' h1 hal h2 h => ⟨NewArr.mv r U U' V V' h1 hal h2 h.1, by rw [h1, h2]; exact h.2⟩) ?_
  intro p e s m args below meth c s₁ X0 hexec hbytes hml hret hlk hnm hown hh0 W hP
  obtain ⟨rfl, hA, l1, l2, hp⟩ := hP
  have a31 := hA.1.2.2.2
  have c1 : Steps p.tables e below (s₁.setTop (entryFrame m #[.ref b, .int (Int32.ofNat o), .int (Int32.ofNat len)] 6)) (s₁.setTop (mkF m 0 #[.val (.ref b), .val (.int (Int32.ofNat o)), .val (.int (Int32.ofNat len)), .unset, .unset, .unset] [])) := entry rfl
  have c2 : Steps p.tables e below (s₁.setTop (entryFrame m #[.ref b, .int (Int32.ofNat o), .int (Int32.ofNat len)] 6)) (s₁.setTop (mkF m 1 #[.val (.ref b), .val (.int (Int32.ofNat o)), .val (.int (Int32.ofNat len)), .unset, .unset, .unset] [.int (Int32.ofNat len)])) := c1.trans (by
    refine XS.iloadN X0.here hexec rfl (hb hbytes d0) rfl ?_
    exact Steps.refl _)
  obtain ⟨T3, B3, X3, ba3, bs3, bv3, bh3, bf3, st3⟩ := X0.anew hexec (atype := .byte) (wk W (.arrayClass .byte)) rfl (by show len * 1 ≤ _; omega) (by omega) (g := (mkF m 1 #[.val (.ref b), .val (.int (Int32.ofNat o)), .val (.int (Int32.ofNat len)), .unset, .unset, .unset] [.int (Int32.ofNat len)])) rfl (hb hbytes d1) (rest := []) rfl (Nat.le_refl _) (by show 0 + len ≤ len; omega)
  rw [hh0] at ba3 st3
  have kp3 : XT.Kept s T3 := (XT.Kept.of_eq hh0).push bh3
  have hA3 := hA.keep X3.warmed.alike (kp3 _ _ hA.1.1)
  have hne : b ≠ s.heap.size := hA.1.ne
  have c4 : Steps p.tables e below (s₁.setTop (entryFrame m #[.ref b, .int (Int32.ofNat o), .int (Int32.ofNat len)] 6)) (T3.setTop (mkF m 3 #[.val (.ref b), .val (.int (Int32.ofNat o)), .val (.int (Int32.ofNat len)), .unset, .unset, .unset] [.ref s.heap.size])) := c2.trans (st3 _ (Steps.refl _))
  have c5 : Steps p.tables e below (s₁.setTop (entryFrame m #[.ref b, .int (Int32.ofNat o), .int (Int32.ofNat len)] 6)) (T3.setTop (mkF m 9 #[.val (.ref b), .val (.int (Int32.ofNat o)), .val (.int (Int32.ofNat len)), .val (.ref s.heap.size), .unset, .unset] [.int (Int32.ofNat len), .int 0, .ref s.heap.size, .int (Int32.ofNat o), .ref b])) := c4.trans (by
    refine XS.astoreN X3.here hexec rfl (hb hbytes d3) rfl rfl rfl ?_
    refine XS.aloadN X3.here hexec rfl (hb hbytes d4) rfl rfl ?_
    refine XS.iloadN X3.here hexec rfl (hb hbytes d5) rfl ?_
    refine XS.aloadN X3.here hexec rfl (hb hbytes d6) rfl rfl ?_
    refine iconstV X3.here hexec rfl 0 (hb hbytes d7) (by decide) ?_
    refine XS.iloadN X3.here hexec rfl (hb hbytes d8) rfl ?_
    exact Steps.refl _)
  obtain ⟨v6, T6, X6, E6, g6⟩ := X3.callS hexec (Cmp5.law l b A s.heap.size B3 o 0 len) hown (wks W (staticW U16 115 Cmp5.yN)) (wk W Cmp5.tab) (W := 0) (Nat.le_of_ble_eq_true rfl) (Nat.le_of_ble_eq_true rfl) (Nat.le_refl _) (by show 0 + len + 0 ≤ len; omega) (g := (mkF m 9 #[.val (.ref b), .val (.int (Int32.ofNat o)), .val (.int (Int32.ofNat len)), .val (.ref s.heap.size), .unset, .unset] [.int (Int32.ofNat len), .int (Int32.ofNat 0), .ref s.heap.size, .int (Int32.ofNat o), .ref b])) rfl (by rw [hml]; rfl) c5 (argsL := [.ref b, .int (Int32.ofNat o), .ref s.heap.size, .int (Int32.ofNat 0), .int (Int32.ofNat len)]) (rest := []) rfl rfl (by show 2 * 0 + 0 ≤ _; decide) (hb hbytes d9) (⟨rfl, hA3, ba3, hne, l1, by rw [bs3]; simp, hp⟩)
  obtain ⟨rfl, B6, p6, f6⟩ := E6
  have c7 : Steps p.tables e below (s₁.setTop (entryFrame m #[.ref b, .int (Int32.ofNat o), .int (Int32.ofNat len)] 6)) (T6.setTop (mkF m 12 #[.val (.ref b), .val (.int (Int32.ofNat o)), .val (.int (Int32.ofNat len)), .val (.ref s.heap.size), .unset, .unset] [.int (Int32.ofNat len)])) := g6
  have c8 : Steps p.tables e below (s₁.setTop (entryFrame m #[.ref b, .int (Int32.ofNat o), .int (Int32.ofNat len)] 6)) (T6.setTop (mkF m 58 #[.val (.ref b), .val (.int (Int32.ofNat o)), .val (.int (Int32.ofNat len)), .val (.ref s.heap.size), .val (.int (Int32.ofNat len)), .unset] [.ref s.heap.size])) := c7.trans (by
    refine XS.istore X6.here hexec rfl (hb hbytes d12) rfl rfl ?_
    refine XS.iload X6.here hexec rfl (hb hbytes d14) rfl ?_
    refine XS.iloadN X6.here hexec rfl (hb hbytes d16) rfl ?_
    refine XS.icmpYes X6.here hexec rfl (pc0 := 17) rfl (hb hbytes d17) rfl (ii_eq_t rfl) (by decide) rfl ?_
    refine XS.aloadN X6.here hexec rfl (hb hbytes d57) rfl rfl ?_
    exact Steps.refl _)
  have X8 := X6.wide (L' := []) (cells' := 1) (slots' := len) (fun x hx hlt => by
    simp only [List.nil_append, copyLocs, List.mem_map, List.mem_range] at hx
    obtain ⟨i, -, rfl⟩ := hx
    exact absurd hlt (Nat.lt_irrefl _)) (Nat.le_refl _) (by omega)
  exact ⟨T6, some (.ref s.heap.size), _, _, _, X8, rfl, rfl, rfl, (fun h => by cases h), ⟨⟨rfl, B6, ba3.like (X3.warmed.alike.symm.trans X6.warmed.alike) p6.1 f6.1 f6.2.1 f6.2.2.1, f6.2.1.trans bv3, by rw [X6.warmed.alike.findClass, f6.1]; exact bf3, by rw [f6.2.2.1, bs3]; simp, fun j hj => by rw [f6.2.2.2 j, if_pos (by omega)]; rfl, kp3.put p6 (Nat.le_refl _)⟩, by rw [p6.2.2, bh3, hh0]; simp⟩, fun fs hl => c8.trans (X8.areturnOut hexec rfl hret rfl (hb hbytes d58) hl)⟩
end Cmp3
namespace CodL
def yN : MethodName := ⟨"java/lang/StringUTF16", "coderFromArrayLen", "([BI)B"⟩
abbrev yB : ByteArray := jdk_52_method_15_code
theorem d0 : decode yB 0 = .ok (.iload_n 1, 1) := by decide +kernel
theorem d1 : decode yB 1 = .ok (.aload_n 0, 1) := by decide +kernel
theorem d2 : decode yB 2 = .ok (.arraylength, 1) := by decide +kernel
theorem d3 : decode yB 3 = .ok (.isub, 1) := by decide +kernel
theorem d4 : decode yB 4 = .ok (.bipush 31, 2) := by decide +kernel
theorem d6 : decode yB 6 = .ok (.iushr, 1) := by decide +kernel
theorem d7 : decode yB 7 = .ok (.i2b, 1) := by decide +kernel
theorem d8 : decode yB 8 = .ok (.ireturn, 1) := by decide +kernel
def site : List Cond := []
def tab : Cond := tabOf yN yB 2 (some .byte) site
def P (d : Addr) (B : Cell) (args : Array Value) (s : State) : Prop := args = #[.ref d, .int (Int32.ofNat B.slots.size)] ∧ Arr .byte d B s
def E (r : Option Value) (s u : State) : Prop := XT.PureE (some (.int 0)) r s u
/-- an array as long as the number of chars: LATIN1 -/
theorem law (l : Launch) (d : Addr) (B : Cell) : Law l yN 2 2 0 0 yB 2 (some .byte) site (P d B) E [] 0 0 := by
  refine Law.of_walk (plainFor_of_name (by decide +kernel)) (by decide +kernel) (by decide +kernel) (by decide) (fun _ _ h => by rw [h.1]; rfl) (fun _ U U' hal hh h => ⟨h.1, h.2.mv hal hh⟩) (fun r U U' V V' h1 hal h2 h => XT.PureE.mv r U U' V V' h1 hal h2 h) ?_
  intro p e s m args below meth c s₁ X0 hexec hbytes hml hret hlk hnm hown hh0 W hP
  obtain ⟨rfl, hB⟩ := hP
  have hB0 := hB.mv X0.warmed.alike hh0
  have c1 : Steps p.tables e below (s₁.setTop (entryFrame m #[.ref d, .int (Int32.ofNat B.slots.size)] 2)) (s₁.setTop (mkF m 0 #[.val (.ref d), .val (.int (Int32.ofNat B.slots.size))] [])) := entry rfl
  have c2 : Steps p.tables e below (s₁.setTop (entryFrame m #[.ref d, .int (Int32.ofNat B.slots.size)] 2)) (s₁.setTop (mkF m 2 #[.val (.ref d), .val (.int (Int32.ofNat B.slots.size))] [.ref d, .int (Int32.ofNat B.slots.size)])) := c1.trans (by
    refine XS.iloadN X0.here hexec rfl (hb hbytes d0) rfl ?_
    refine XS.aloadN X0.here hexec rfl (hb hbytes d1) rfl rfl ?_
    exact Steps.refl _)
  have c3 : Steps p.tables e below (s₁.setTop (entryFrame m #[.ref d, .int (Int32.ofNat B.slots.size)] 2)) (s₁.setTop (mkF m 8 #[.val (.ref d), .val (.int (Int32.ofNat B.slots.size))] [.int (lo8 (ushr (Int32.ofNat B.slots.size - Int32.ofNat B.slots.size) 31))])) := c2.trans (by
    refine X0.alen hexec hB0 rfl rfl (hb hbytes d2) ?_
    refine XS.isub X0.here hexec rfl (hb hbytes d3) rfl ?_
    refine bipushV X0.here hexec rfl 31 (hb hbytes d4) (by decide) ?_
    refine iushr X0.here hexec rfl (hb hbytes d6) rfl ?_
    refine i2b X0.here hexec rfl (hb hbytes d7) rfl ?_
    exact Steps.refl _)
  have e0 : lo8 (ushr (Int32.ofNat B.slots.size - Int32.ofNat B.slots.size) 31) = 0 := by rw [Int32.sub_self]; decide
  rw [e0] at c3
  exact ⟨s₁, some (.int 0), _, _, _, X0, rfl, rfl, rfl, (fun h => by cases h), ⟨rfl, hh0⟩, fun fs hl => c3.trans (X0.ireturnOut hexec hret rfl (Or.inr (Or.inr (Or.inl rfl))) (hb hbytes d8) hl)⟩
end CodL
/-- the String at a is Latin-1 over a new byte[] (the heap's one new cell): the low bytes of the len chars of A from o on; every cell but a is kept -/
def Got (a : Addr) (D : Cell) (fV fC : Field) (A : Cell) (o len : Nat) (r : Option Value) (s u : State) : Prop := r = none ∧ ∃ D' V : Cell, Blank "java/lang/String" a D' u ∧ Same D D' [fV.slot, fC.slot] ∧ D'.slots[fV.slot]? = some (.ref s.heap.size) ∧ D'.slots[fC.slot]? = some (.int 0) ∧ Arr .byte s.heap.size V u ∧ V.vm = .none ∧ u.vm.findClass "[B" = some V.cls ∧ V.slots.size = len ∧ (∀ j, j < len → V.slots[j]? = some (.int (lo8 (cv A (o + j))))) ∧ (∀ (y : Addr) (c : Cell), y ≠ a → s.heap[y]? = some c → u.heap[y]? = some c) ∧ u.heap.size = s.heap.size + 1
theorem Got.mv {a : Addr} {D A : Cell} {fV fC : Field} {o len : Nat} : ∀ r (U U' V V' : State), U'.heap = U.heap → V.vm.Alike V'.vm → V'.heap = V.heap → Got a D fV fC A o len r U V → Got a D fV fC A o len r U' V' :=
  fun r U U' V V' h1 hal h2 ⟨e0, D', X, a1, a2, a3, a4, a5, a6, a7, a8, a9, a10, a11⟩ => ⟨e0, D', X, a1.mv hal h2, a2, by rw [h1]; exact a3, a4, by rw [h1]; exact a5.mv hal h2, a6, by rw [hal.findClass]; exact a7, a8, a9, by rw [h1, h2]; exact a10, by rw [h1, h2]; exact a11⟩
namespace New4
def yN : MethodName := ⟨"java/lang/String", "<init>", "([CIILjava/lang/Void;)V"⟩
abbrev yB : ByteArray := jdk_42_method_149_code
theorem d0 : decode yB 0 = .ok (.aload_n 0, 1) := by decide +kernel
theorem d1 : decode yB 1 = .ok (.invokespecial 1, 3) := by decide +kernel
theorem d4 : decode yB 4 = .ok (.iload_n 3, 1) := by decide +kernel
theorem d5 : decode yB 5 = .ok (.ifCond (.ne) 22, 3) := by decide +kernel
theorem d27 : decode yB 27 = .ok (.getstatic 38, 3) := by decide +kernel
theorem d30 : decode yB 30 = .ok (.ifCond (.eq) 28, 3) := by decide +kernel
theorem d33 : decode yB 33 = .ok (.aload_n 1, 1) := by decide +kernel
theorem d34 : decode yB 34 = .ok (.iload_n 2, 1) := by decide +kernel
theorem d35 : decode yB 35 = .ok (.iload_n 3, 1) := by decide +kernel
theorem d36 : decode yB 36 = .ok (.invokestatic 177, 3) := by decide +kernel
theorem d39 : decode yB 39 = .ok (.astore 5, 2) := by decide +kernel
theorem d41 : decode yB 41 = .ok (.aload_n 0, 1) := by decide +kernel
theorem d42 : decode yB 42 = .ok (.aload 5, 2) := by decide +kernel
theorem d44 : decode yB 44 = .ok (.iload_n 3, 1) := by decide +kernel
theorem d45 : decode yB 45 = .ok (.invokestatic 47, 3) := by decide +kernel
theorem d48 : decode yB 48 = .ok (.putfield 15, 3) := by decide +kernel
theorem d51 : decode yB 51 = .ok (.aload_n 0, 1) := by decide +kernel
theorem d52 : decode yB 52 = .ok (.aload 5, 2) := by decide +kernel
theorem d54 : decode yB 54 = .ok (.putfield 9, 3) := by decide +kernel
theorem d57 : decode yB 57 = .ok (.return_, 1) := by decide +kernel
def site : List Cond := [.fieldLink "java/lang/String" 38 "java/lang/String" "COMPACT_STRINGS" "Z", Cmp3.tab, CodL.tab, .laysFinal "java/lang/String" "java/lang/String" "value" "[B", .fieldLink "java/lang/String" 9 "java/lang/String" "value" "[B", .laysFinal "java/lang/String" "java/lang/String" "coder" "B", .fieldLink "java/lang/String" 15 "java/lang/String" "coder" "B"] ++ objW "java/lang/String" 1 ++ staticW "java/lang/String" 177 Cmp3.yN ++ staticW "java/lang/String" 47 CodL.yN
def tab : Cond := tabOf yN yB 6 none site
def P (a : Addr) (D : Cell) (fV fC : Field) (b : Addr) (A : Cell) (z : Int32) (o len : Nat) (args : Array Value) (s : State) : Prop := args = #[.ref a, .ref b, .int (Int32.ofNat o), .int (Int32.ofNat len), .null] ∧ Blank "java/lang/String" a D s ∧ Found "java/lang/String" "value" "[B" fV s ∧ Found "java/lang/String" "coder" "B" fC s ∧ Ch b A s ∧ StaticIs s "java/lang/String" "COMPACT_STRINGS" "Z" (.int z) ∧ ¬ z = 0 ∧ 0 < len ∧ o + len ≤ A.slots.size ∧ len ≤ 536870912 ∧ ∀ i, i < len → ¬ 255 < cv A (o + i)
def E (a : Addr) (D : Cell) (fV fC : Field) (A : Cell) (o len : Nat) (r : Option Value) (s u : State) : Prop := Got a D fV fC A o len r s u
/-- len > 0, no char of the range above 255: a Latin-1 String of their low bytes -/
theorem law (l : Launch) (a : Addr) (D : Cell) (fV fC : Field) (b : Addr) (A : Cell) (z : Int32) (o len : Nat) : Law l yN 5 4 2 35 yB 6 none site (P a D fV fC b A z o len) (E a D fV fC A o len) [⟨a, fC.slot⟩, ⟨a, fV.slot⟩] 1 len := by
  refine Law.of_walk (plainFor_of_name (by decide +kernel)) (by decide +kernel) (by decide +kernel) (by decide) (fun _ _ h => by rw [h.1]; rfl) (fun _ U U' hal hh h => ⟨h.1, h.2.1.mv hal hh, h.2.2.1.al hal, h.2.2.2.1.al hal, h.2.2.2.2.1.mv hal hh, h.2.2.2.2.2.1.there hal hh, h.2.2.2.2.2.2⟩) (fun r U U' V V' h1 hal h2 h => Got.mv r U U' V V' h1 hal h2 h) ?_
  intro p e s m args below meth c s₁ X0 hexec hbytes hml hret hlk hnm hown hh0 W hP
  obtain ⟨rfl, hB, f1, f2, hA, s1, hz, l0, l1, l2, hp⟩ := hP
  have a31 := hA.1.2.2.2
  have c1 : Steps p.tables e below (s₁.setTop (entryFrame m #[.ref a, .ref b, .int (Int32.ofNat o), .int (Int32.ofNat len), .null] 6)) (s₁.setTop (mkF m 0 #[.val (.ref a), .val (.ref b), .val (.int (Int32.ofNat o)), .val (.int (Int32.ofNat len)), .val .null, .unset] [])) := entry rfl
  have c2 : Steps p.tables e below (s₁.setTop (entryFrame m #[.ref a, .ref b, .int (Int32.ofNat o), .int (Int32.ofNat len), .null] 6)) (s₁.setTop (mkF m 1 #[.val (.ref a), .val (.ref b), .val (.int (Int32.ofNat o)), .val (.int (Int32.ofNat len)), .val .null, .unset] [.ref a])) := c1.trans (by
    refine XS.aloadN X0.here hexec rfl (hb hbytes d0) rfl rfl ?_
    exact Steps.refl _)
  obtain ⟨T3, X3, q3, st3⟩ := X0.oinit hexec hown (wks W (objW "java/lang/String" 1)) (g := (mkF m 1 #[.val (.ref a), .val (.ref b), .val (.int (Int32.ofNat o)), .val (.int (Int32.ofNat len)), .val .null, .unset] [.ref a])) rfl (by rw [hml]; rfl) (rest := []) rfl (hb hbytes d1) (W := 0) (by show 2 * 0 + 0 ≤ _; decide) (Nat.le_of_ble_eq_true rfl) (Nat.le_of_ble_eq_true rfl)
  have hh3 := q3.trans hh0
  have c4 : Steps p.tables e below (s₁.setTop (entryFrame m #[.ref a, .ref b, .int (Int32.ofNat o), .int (Int32.ofNat len), .null] 6)) (T3.setTop (mkF m 27 #[.val (.ref a), .val (.ref b), .val (.int (Int32.ofNat o)), .val (.int (Int32.ofNat len)), .val .null, .unset] [])) := (c2.trans (st3 _ (Steps.refl _))).trans (by
    refine XS.iloadN X3.here hexec rfl (hb hbytes d4) rfl ?_
    refine XS.ifYes X3.here hexec rfl (pc0 := 5) rfl (hb hbytes d5) rfl (i0_ne_t (nz32 (by omega) l0)) (by decide) rfl ?_
    exact Steps.refl _)
  obtain ⟨T5, X5, q5, st5⟩ := X3.sget hexec hown (wk W (.fieldLink "java/lang/String" 38 "java/lang/String" "COMPACT_STRINGS" "Z")) s1 (fun _ _ h => by rw [hh3]; exact h) (g := (mkF m 27 #[.val (.ref a), .val (.ref b), .val (.int (Int32.ofNat o)), .val (.int (Int32.ofNat len)), .val .null, .unset] [])) rfl (hb hbytes d27)
  have hh5 := q5.trans hh3
  have c6 : Steps p.tables e below (s₁.setTop (entryFrame m #[.ref a, .ref b, .int (Int32.ofNat o), .int (Int32.ofNat len), .null] 6)) (T5.setTop (mkF m 30 #[.val (.ref a), .val (.ref b), .val (.int (Int32.ofNat o)), .val (.int (Int32.ofNat len)), .val .null, .unset] [.int z])) := c4.trans (st5 _ (Steps.refl _))
  have c7 : Steps p.tables e below (s₁.setTop (entryFrame m #[.ref a, .ref b, .int (Int32.ofNat o), .int (Int32.ofNat len), .null] 6)) (T5.setTop (mkF m 36 #[.val (.ref a), .val (.ref b), .val (.int (Int32.ofNat o)), .val (.int (Int32.ofNat len)), .val .null, .unset] [.int (Int32.ofNat len), .int (Int32.ofNat o), .ref b])) := c6.trans (by
    refine XS.ifNo X5.here hexec rfl (hb hbytes d30) rfl (i0_eq_f hz) ?_
    refine XS.aloadN X5.here hexec rfl (hb hbytes d33) rfl rfl ?_
    refine XS.iloadN X5.here hexec rfl (hb hbytes d34) rfl ?_
    refine XS.iloadN X5.here hexec rfl (hb hbytes d35) rfl ?_
    exact Steps.refl _)
  obtain ⟨v8, T8, X8, E8, g8⟩ := X5.callS hexec (Cmp3.law l b A o len) hown (wks W (staticW "java/lang/String" 177 Cmp3.yN)) (wk W Cmp3.tab) (W := 0) (Nat.le_of_ble_eq_true rfl) (Nat.le_of_ble_eq_true rfl) (Nat.le_refl _) (by show 0 + len ≤ len; omega) (g := (mkF m 36 #[.val (.ref a), .val (.ref b), .val (.int (Int32.ofNat o)), .val (.int (Int32.ofNat len)), .val .null, .unset] [.int (Int32.ofNat len), .int (Int32.ofNat o), .ref b])) rfl (by rw [hml]; rfl) c7 (argsL := [.ref b, .int (Int32.ofNat o), .int (Int32.ofNat len)]) (rest := []) rfl rfl (by show 2 * 0 + 0 ≤ _; decide) (hb hbytes d36) (⟨rfl, hA.mv X5.warmed.alike hh5, l1, l2, hp⟩)
  obtain ⟨e8, z8⟩ := E8
  obtain ⟨rfl, N, n1, n2, n3, n4, n5, n6⟩ := NewArr.mv _ T5 s _ _ hh5.symm (Vm.Alike.refl _) rfl e8
  rw [hh5] at z8
  have hB1 := hB.keep X8.warmed.alike (n6 _ _ hB.1)
  have hne : s.heap.size ≠ a := (Nat.ne_of_lt (Array.getElem?_eq_some_iff.mp hB.1).1).symm
  have c9 : Steps p.tables e below (s₁.setTop (entryFrame m #[.ref a, .ref b, .int (Int32.ofNat o), .int (Int32.ofNat len), .null] 6)) (T8.setTop (mkF m 39 #[.val (.ref a), .val (.ref b), .val (.int (Int32.ofNat o)), .val (.int (Int32.ofNat len)), .val .null, .unset] [.ref s.heap.size])) := g8
  have c10 : Steps p.tables e below (s₁.setTop (entryFrame m #[.ref a, .ref b, .int (Int32.ofNat o), .int (Int32.ofNat len), .null] 6)) (T8.setTop (mkF m 45 #[.val (.ref a), .val (.ref b), .val (.int (Int32.ofNat o)), .val (.int (Int32.ofNat len)), .val .null, .val (.ref s.heap.size)] [.int (Int32.ofNat N.slots.size), .ref s.heap.size, .ref a])) := by
    have hc : Steps p.tables e below (s₁.setTop (entryFrame m #[.ref a, .ref b, .int (Int32.ofNat o), .int (Int32.ofNat len), .null] 6)) (T8.setTop (mkF m 45 #[.val (.ref a), .val (.ref b), .val (.int (Int32.ofNat o)), .val (.int (Int32.ofNat len)), .val .null, .val (.ref s.heap.size)] [.int (Int32.ofNat len), .ref s.heap.size, .ref a])) := c9.trans (by
      refine XS.astore X8.here hexec rfl (hb hbytes d39) rfl rfl rfl ?_
      refine XS.aloadN X8.here hexec rfl (hb hbytes d41) rfl rfl ?_
      refine XS.aload X8.here hexec rfl (hb hbytes d42) rfl rfl ?_
      refine XS.iloadN X8.here hexec rfl (hb hbytes d44) rfl ?_
      exact Steps.refl _)
    rw [n4]; exact hc
  obtain ⟨v11, T11, X11, E11, g11⟩ := X8.callS hexec (CodL.law l s.heap.size N) hown (wks W (staticW "java/lang/String" 47 CodL.yN)) (wk W CodL.tab) (W := 1) (Nat.le_of_ble_eq_true rfl) (Nat.le_of_ble_eq_true rfl) (Nat.le_refl _) (by show 0 + len + 0 ≤ len; omega) (g := (mkF m 45 #[.val (.ref a), .val (.ref b), .val (.int (Int32.ofNat o)), .val (.int (Int32.ofNat len)), .val .null, .val (.ref s.heap.size)] [.int (Int32.ofNat N.slots.size), .ref s.heap.size, .ref a])) rfl (by rw [hml]; rfl) c10 (argsL := [.ref s.heap.size, .int (Int32.ofNat N.slots.size)]) (rest := [.ref a]) rfl rfl (by show 2 * 0 + (1 + 0) ≤ _; decide) (hb hbytes d45) (⟨rfl, n1⟩)
  obtain ⟨rfl, q11⟩ := E11
  have hB11 := hB1.mv (X8.warmed.alike.symm.trans X11.warmed.alike) q11
  have c12 : Steps p.tables e below (s₁.setTop (entryFrame m #[.ref a, .ref b, .int (Int32.ofNat o), .int (Int32.ofNat len), .null] 6)) (T11.setTop (mkF m 48 #[.val (.ref a), .val (.ref b), .val (.int (Int32.ofNat o)), .val (.int (Int32.ofNat len)), .val .null, .val (.ref s.heap.size)] [.int 0, .ref a])) := g11
  obtain ⟨T13, X13, p13, bl13, sl13, st13⟩ := X11.finit hexec hown (wk W (.fieldLink "java/lang/String" 15 "java/lang/String" "coder" "B")) (Or.inr ⟨_, (wk W (.laysFinal "java/lang/String" "java/lang/String" "coder" "B"))⟩) (Or.inl ⟨rfl, hnm⟩) f2 (Or.inl rfl) hB11 (t := .byte) (by decide +kernel) rfl (g := (mkF m 48 #[.val (.ref a), .val (.ref b), .val (.int (Int32.ofNat o)), .val (.int (Int32.ofNat len)), .val .null, .val (.ref s.heap.size)] [.int 0, .ref a])) rfl (rest := []) rfl (hb hbytes d48)
  have c14 : Steps p.tables e below (s₁.setTop (entryFrame m #[.ref a, .ref b, .int (Int32.ofNat o), .int (Int32.ofNat len), .null] 6)) (T13.setTop (mkF m 54 #[.val (.ref a), .val (.ref b), .val (.int (Int32.ofNat o)), .val (.int (Int32.ofNat len)), .val .null, .val (.ref s.heap.size)] [.ref s.heap.size, .ref a])) := (c12.trans (st13 _ (Steps.refl _))).trans (by
    refine XS.aloadN X13.here hexec rfl (hb hbytes d51) rfl rfl ?_
    refine XS.aload X13.here hexec rfl (hb hbytes d52) rfl rfl ?_
    exact Steps.refl _)
  obtain ⟨T15, X15, p15, bl15, sl15, st15⟩ := X13.finit hexec hown (wk W (.fieldLink "java/lang/String" 9 "java/lang/String" "value" "[B")) (Or.inr ⟨_, (wk W (.laysFinal "java/lang/String" "java/lang/String" "value" "[B"))⟩) (Or.inl ⟨rfl, hnm⟩) f1 (Or.inl rfl) bl13 (t := (.array .byte)) (by decide +kernel) rfl (g := (mkF m 54 #[.val (.ref a), .val (.ref b), .val (.int (Int32.ofNat o)), .val (.int (Int32.ofNat len)), .val .null, .val (.ref s.heap.size)] [.ref s.heap.size, .ref a])) rfl (rest := []) rfl (hb hbytes d54)
  have c16 : Steps p.tables e below (s₁.setTop (entryFrame m #[.ref a, .ref b, .int (Int32.ofNat o), .int (Int32.ofNat len), .null] 6)) (T15.setTop (mkF m 57 #[.val (.ref a), .val (.ref b), .val (.int (Int32.ofNat o)), .val (.int (Int32.ofNat len)), .val .null, .val (.ref s.heap.size)] [])) := c14.trans (st15 _ (Steps.refl _))
  have ap := apart (Or.inr ⟨_, (wk W (.laysFinal "java/lang/String" "java/lang/String" "value" "[B"))⟩) (Or.inr ⟨_, (wk W (.laysFinal "java/lang/String" "java/lang/String" "coder" "B"))⟩) f1 f2 (t₁ := .array .byte) (t₂ := .byte) (by decide +kernel) (by decide +kernel) (by decide)
  have al := X8.warmed.alike.symm.trans X15.warmed.alike
  have n7 : T11.heap[s.heap.size]? = some N := by rw [q11]; exact n1.1
  exact ⟨T15, none, _, _, _, X15, by simp, rfl, by omega, (fun _ => rfl), ⟨rfl, _, N, bl15, ((Same.refl D _).set _ (by simp)).set _ (by simp), sl15, (Cell.slots_setSlot_ne _ ap).trans sl13, n1.keep al (p15.other hne (p13.other hne n7)), n2, by rw [al.findClass]; exact n3, n4, n5, fun y c h1 h2 => p15.other h1 (p13.other h1 (by rw [q11]; exact n6 y c h2)), by rw [p15.2.2, p13.2.2, q11]; exact z8⟩, fun fs hl => c16.trans (X15.returnOut hexec hret (hb hbytes d57) hl)⟩
end New4
namespace New1
def yN : MethodName := ⟨"java/lang/String", "<init>", "([C)V"⟩
abbrev yB : ByteArray := jdk_42_method_3_code
theorem d0 : decode yB 0 = .ok (.aload_n 0, 1) := by decide +kernel
theorem d1 : decode yB 1 = .ok (.aload_n 1, 1) := by decide +kernel
theorem d2 : decode yB 2 = .ok (.iconst 0, 1) := by decide +kernel
theorem d3 : decode yB 3 = .ok (.aload_n 1, 1) := by decide +kernel
theorem d4 : decode yB 4 = .ok (.arraylength, 1) := by decide +kernel
theorem d5 : decode yB 5 = .ok (.aconst_null, 1) := by decide +kernel
theorem d6 : decode yB 6 = .ok (.invokespecial 27, 3) := by decide +kernel
theorem d9 : decode yB 9 = .ok (.return_, 1) := by decide +kernel
def site : List Cond := [New4.tab] ++ initW "java/lang/String" 27 New4.yN
def tab : Cond := tabOf yN yB 2 none site
def P (a : Addr) (D : Cell) (fV fC : Field) (b : Addr) (A : Cell) (z : Int32) (args : Array Value) (s : State) : Prop := args = #[.ref a, .ref b] ∧ Blank "java/lang/String" a D s ∧ Found "java/lang/String" "value" "[B" fV s ∧ Found "java/lang/String" "coder" "B" fC s ∧ Ch b A s ∧ StaticIs s "java/lang/String" "COMPACT_STRINGS" "Z" (.int z) ∧ ¬ z = 0 ∧ 0 < A.slots.size ∧ A.slots.size ≤ 536870912 ∧ ∀ i, i < A.slots.size → ¬ 255 < cv A i
def E (a : Addr) (D : Cell) (fV fC : Field) (A : Cell) (r : Option Value) (s u : State) : Prop := Got a D fV fC A 0 A.slots.size r s u
/-- new String(chars), not empty, no char above 255: a Latin-1 String of their low bytes -/
theorem law (l : Launch) (a : Addr) (D : Cell) (fV fC : Field) (b : Addr) (A : Cell) (z : Int32) : Law l yN 2 1 3 52 yB 2 none site (P a D fV fC b A z) (E a D fV fC A) [⟨a, fC.slot⟩, ⟨a, fV.slot⟩] 1 A.slots.size := by
  refine Law.of_walk (plainFor_of_name (by decide +kernel)) (by decide +kernel) (by decide +kernel) (by decide) (fun _ _ h => by rw [h.1]; rfl) (fun _ U U' hal hh h => ⟨h.1, h.2.1.mv hal hh, h.2.2.1.al hal, h.2.2.2.1.al hal, h.2.2.2.2.1.mv hal hh, h.2.2.2.2.2.1.there hal hh, h.2.2.2.2.2.2⟩) (fun r U U' V V' h1 hal h2 h => Got.mv r U U' V V' h1 hal h2 h) ?_
  intro p e s m args below meth c s₁ X0 hexec hbytes hml hret hlk hnm hown hh0 W hP
  obtain ⟨rfl, hB, f1, f2, hA, s1, hz, l0, l2, hp⟩ := hP
  have c1 : Steps p.tables e below (s₁.setTop (entryFrame m #[.ref a, .ref b] 2)) (s₁.setTop (mkF m 0 #[.val (.ref a), .val (.ref b)] [])) := entry rfl
  have c2 : Steps p.tables e below (s₁.setTop (entryFrame m #[.ref a, .ref b] 2)) (s₁.setTop (mkF m 6 #[.val (.ref a), .val (.ref b)] [.null, .int (Int32.ofNat A.slots.size), .int 0, .ref b, .ref a])) := c1.trans (by
    refine XS.aloadN X0.here hexec rfl (hb hbytes d0) rfl rfl ?_
    refine XS.aloadN X0.here hexec rfl (hb hbytes d1) rfl rfl ?_
    refine iconstV X0.here hexec rfl 0 (hb hbytes d2) (by decide) ?_
    refine XS.aloadN X0.here hexec rfl (hb hbytes d3) rfl rfl ?_
    refine X0.alen hexec (hA.1.mv X0.warmed.alike hh0) rfl rfl (hb hbytes d4) ?_
    refine XS.aconstNull X0.here hexec rfl (hb hbytes d5) ?_
    exact Steps.refl _)
  obtain ⟨v3, T3, X3, E3, g3⟩ := X0.callN hexec (New4.law l a D fV fC b A z 0 A.slots.size) rfl hown (wks W (initW "java/lang/String" 27 New4.yN)) (W New4.tab (by simp only [site, List.mem_cons, List.mem_append, true_or, or_true])) (W := 0) (Nat.le_of_ble_eq_true rfl) (Nat.le_of_ble_eq_true rfl) (Nat.le_refl _) (by show 0 + A.slots.size ≤ A.slots.size; omega) (g := (mkF m 6 #[.val (.ref a), .val (.ref b)] [.null, .int (Int32.ofNat A.slots.size), .int (Int32.ofNat 0), .ref b, .ref a])) rfl (by rw [hml]; rfl) c2 (argsL := [.ref b, .int (Int32.ofNat 0), .int (Int32.ofNat A.slots.size), .null]) (rest := []) rfl rfl (by show 2 * 0 + 0 ≤ _; decide) (hb hbytes d6) (⟨rfl, hB.mv X0.warmed.alike hh0, f1.al X0.warmed.alike, f2.al X0.warmed.alike, hA.mv X0.warmed.alike hh0, s1.there X0.warmed.alike hh0, hz, l0, by omega, l2, fun i hi => by rw [Nat.zero_add]; exact hp i hi⟩)
  have e0 := Got.mv _ s₁ s _ _ hh0.symm (Vm.Alike.refl _) rfl E3
  obtain rfl := e0.1
  have c4 : Steps p.tables e below (s₁.setTop (entryFrame m #[.ref a, .ref b] 2)) (T3.setTop (mkF m 9 #[.val (.ref a), .val (.ref b)] [])) := g3
  exact ⟨T3, none, _, _, _, X3, by simp, rfl, by omega, (fun _ => rfl), e0, fun fs hl => c4.trans (X3.returnOut hexec hret (hb hbytes d9) hl)⟩
theorem pays {l : Launch} {R : Room} {p : Program} {e : Env} {below : List Frame} {s : State} {sargs : Array Value} {len W : Nat} (a : Addr) (D : Cell) (fV fC : Field) (b : Addr) (A : Cell) (z : Int32) (htab : tab.before sargs s = true) (hfr : 4 ≤ R.frames) (hlo : W + 65 ≤ R.locals) :
    Back l R p e below s sargs yN len W (fun A₁ a₁ => A₁.cells + 1 ≤ R.cells ∧ A₁.slots + A.slots.size ≤ R.slots ∧ P a D fV fC b A z a₁ A₁.U) (fun A₁ _ v₁ B₁ => E a D fV fC A v₁ A₁.U B₁.U ∧ B₁.locs = A₁.locs ++ [⟨a, fC.slot⟩, ⟨a, fV.slot⟩] ∧ B₁.cells = A₁.cells + 1 ∧ B₁.slots = A₁.slots + A.slots.size) :=
  (law l a D fV fC b A z).pays htab hfr (by omega)
end New1
/-- the byte, read back as charAt reads it, is the char -/
theorem lo8_mask {x : Int32} (h0 : ¬ x < 0) (h1 : ¬ 255 < x) : lo8 x &&& 255 = x := by
  have t : ∀ k : Fin 256, lo8 (Int32.ofNat k.val) &&& 255 = Int32.ofNat k.val := by decide +kernel
  rw [Int32.lt_iff_toInt_lt] at h0 h1
  have e0 : (0 : Int32).toInt = 0 := rfl
  have e1 : (255 : Int32).toInt = 255 := rfl
  obtain ⟨k, hk⟩ : ∃ k : Nat, x.toInt = k := ⟨x.toInt.toNat, by omega⟩
  have hx : x = Int32.ofNat k := Int32.toInt_inj.mp (by rw [hk, Int32.toInt_ofNat_small (by omega)])
  rw [hx]
  exact t ⟨k, by omega⟩
end StrChars
namespace StrChars.Road
open Jvm Sem ClassFile Op Lib Jvm.Stand Jvm.Free Jvm.Free.XT
open Jvm.Lib.Cold (StaticIs)
abbrev ST : String := "java/lang/String"
/-- every table word that New1's law asks, flat -/
abbrev words : List Jvm.Cond := [.code New1.yN New1.yB 2 none, .initialized ST, .methodLink ST 27 New4.yN, .instanceMethod New4.yN,
  .code New4.yN New4.yB 6 none, .fieldLink ST 38 ST "COMPACT_STRINGS" "Z", .laysFinal ST ST "value" "[B", .fieldLink ST 9 ST "value" "[B", .laysFinal ST ST "coder" "B", .fieldLink ST 15 ST "coder" "B",
  .methodLink ST 1 Lib.objectInit, .instanceMethod Lib.objectInit, .code Lib.objectInit ⟨#[0xb1]⟩ 1 none, .methodLink ST 177 Cmp3.yN, .static Cmp3.yN, .methodLink ST 47 CodL.yN, .static CodL.yN,
  .code Cmp3.yN Cmp3.yB 6 (some (.array .byte)), .initialized U16, .arrayClass .byte, .methodLink U16 115 Cmp5.yN, .static Cmp5.yN, .code Cmp5.yN Cmp5.yB 7 (some .int), .code CodL.yN CodL.yB 2 (some .byte)]
theorem tab_of {a : Array Value} {s : State} (h : ∀ w ∈ words, w.before a s = true) : New1.tab.before a s = true := by
  have h5 : Cmp5.tab.before a s = true := unparts (wk h (.code Cmp5.yN Cmp5.yB 7 (some .int))) (wks h (.initialized Cmp5.yN.cls :: Cmp5.site))
  have hc : CodL.tab.before a s = true := unparts (wk h (.code CodL.yN CodL.yB 2 (some .byte))) (wks h (.initialized CodL.yN.cls :: CodL.site))
  have q5 : ∀ w ∈ Cmp5.tab :: words, w.before a s = true := fun w hw => (List.mem_cons.mp hw).elim (fun e => e ▸ h5) (h w)
  have h3 : Cmp3.tab.before a s = true := unparts (wk q5 (.code Cmp3.yN Cmp3.yB 6 (some (.array .byte)))) (wks q5 (.initialized Cmp3.yN.cls :: Cmp3.site))
  have q3 : ∀ w ∈ Cmp3.tab :: CodL.tab :: words, w.before a s = true := fun w hw => (List.mem_cons.mp hw).elim (fun e => e ▸ h3) fun hw => (List.mem_cons.mp hw).elim (fun e => e ▸ hc) (h w)
  have h4 : New4.tab.before a s = true := unparts (wk q3 (.code New4.yN New4.yB 6 none)) (wks q3 (.initialized New4.yN.cls :: New4.site))
  have q4 : ∀ w ∈ New4.tab :: words, w.before a s = true := fun w hw => (List.mem_cons.mp hw).elim (fun e => e ▸ h4) (h w)
  exact unparts (wk q4 (.code New1.yN New1.yB 2 none)) (wks q4 (.initialized New1.yN.cls :: New1.site))
/-- the words ride from the start Z to the walk's own state -/
theorem moved {Z s : State} {a0 args : Array Value} (hZ : Z.Warmed39 s.vm) (hw : ∀ d ∈ words, d.before a0 Z = true) : ∀ d ∈ words, d.before args s = true := fun d hd => by
  have q := hw d hd
  have t : ∀ d ∈ words, d = .arrayClass .byte ∨ (d.onTables && d.keepsFace) = true := by decide +kernel
  rcases t d hd with rfl | t
  · exact RoadKit.mvA hZ q
  · exact RoadKit.mv hZ q t
/-- WHAT COMES BACK, over the tables of the start Z: h the heap at the call, h' behind it -/
def Q (Z : State) (x : Addr) (A : Cell) (h : Heap) (v : Option Value) (h' : Heap) (L : List Loc) : Prop := v = none ∧ (∀ y ∈ L, y.base = x) ∧ RoadKit.Keep h h' [x] ∧ h'.size = h.size + 1 ∧ RoadKit.Exa Z h' x ST ∧ RoadKit.Fld Z h' x ST "value" "[B" (.ref h.size) ∧ RoadKit.Fld Z h' x ST "coder" "B" (.int 0) ∧
  (∃ V : Cell, RoadKit.Arr Z h' h.size V .byte ∧ V.vm = .none ∧ Z.vm.findClass "[B" = some V.cls ∧ V.slots.size = A.slots.size ∧ ∀ j, j < A.slots.size → V.slots[j]? = some (.int (lo8 (cv A j)))) ∧
  ∀ (O n d : String) (w : Value), RoadKit.Fld Z h x O n d w → RoadKit.slotOf Z O n d ≠ RoadKit.slotOf Z ST "value" "[B" → RoadKit.slotOf Z O n d ≠ RoadKit.slotOf Z ST "coder" "B" → RoadKit.Fld Z h' x O n d w
/-- **new String(chars) AT A CALL, IN THE ROAD'S FORM**: for specialBack behind newO: x the fresh String, b the char[] with the cell A -/
theorem back {p : Program} {l : Launch} {e : Env} {R : Room} {s : State} {args : Array Value} {below : List Frame} {len W : Nat} {Z : State} {a0 : Array Value} {h : Heap} (hZ : Z.Warmed39 s.vm) (hw : ∀ d ∈ words, d.before a0 Z = true) {kI : Nat} (wi : (Jvm.Cond.instantiable ST kI).before a0 Z = true)
    {x b : Addr} {A : Cell} {z : Int32} {v0 c0 : Value} (E : RoadKit.Exa Z h x ST) (V : RoadKit.Fld Z h x ST "value" "[B" v0) (C : RoadKit.Fld Z h x ST "coder" "B" c0) (K : RoadKit.Arr Z h b A .char) (hty : Typed .char A) (S : RoadKit.Sta Z h ST "COMPACT_STRINGS" "Z" (.int z)) (hz : ¬ z = 0)
    (l0 : 0 < A.slots.size) (l2 : A.slots.size ≤ 536870912) (hp : ∀ i, i < A.slots.size → ¬ 255 < cv A i) (hfr : 4 ≤ R.frames) (hlo : W + 65 ≤ R.locals) :
    Back l R p e below s args New1.yN len W (fun P a => a = #[.ref x, .ref b] ∧ P.U.heap = h ∧ P.cells + 1 ≤ R.cells ∧ P.slots + A.slots.size ≤ R.slots)
      (fun P _ v B => ∃ L, Q Z x A h v B.U.heap L ∧ B.locs = P.locs ++ L ∧ B.cells = P.cells + 1 ∧ B.slots = P.slots + A.slots.size) := by
  intro m meth c P g ig mk a X hg hsize hdg hW hn hp'
  obtain ⟨rfl, rfl, r1, r2⟩ := hp'
  have al : Z.vm.Alike P.U.vm := hZ.alike.trans X.warmed.alike
  obtain ⟨D, cfV, kV, iV, fV, hD, gV, stV, knV, obV, asV, slV⟩ := id V
  obtain ⟨D', cfC, kC, iC, fC, hD', gC, stC, -, -, asC, slC⟩ := id C
  cases hD.symm.trans hD'
  obtain ⟨D2, kD, e1, e2, e3, e4, e5⟩ := id E
  cases hD.symm.trans e1
  obtain ⟨c2, k2, i1, i2, i3, -⟩ := Cond.instantiable_spec wi
  cases e2.symm.trans i1
  cases e3.symm.trans i2
  obtain ⟨kU, u1, u2⟩ := al.2.2 _ _ e3
  have hB : Blank ST x D P.U := ⟨hD, ⟨knV, fun q hq => by rw [hq] at obV; cases obV⟩, by rw [al.findClass]; exact e2, kU, u1, by rw [u2]; exact i3, by rw [u2]; exact e5 i3⟩
  have F1 : Found ST "value" "[B" fV P.U := ⟨SBG.found_only al ⟨cfV, kV, iV, gV⟩, stV⟩
  have F2 : Found ST "coder" "B" fC P.U := ⟨SBG.found_only al ⟨cfC, kC, iC, gC⟩, stC⟩
  have hA : Ch b A P.U := ⟨⟨K.1, State.isArrayOf_alike al K.2.1, K.2.2, by omega⟩, hty⟩
  have hS : StaticIs P.U ST "COMPACT_STRINGS" "Z" (.int z) := by
    obtain ⟨cfS, iS, kS, fS, st, cS, t1, t2, t3, t4, t5, t6, t7⟩ := S
    exact StaticIs.there (s := { Z with heap := P.U.heap }) ⟨cfS, iS, kS, fS, st, cS, t1, t2, t3, t4, t5, (fun q => by rw [q] at t6; cases t6), t7⟩ al rfl
  obtain ⟨v, B, X', ⟨⟨hv, E', V', q1, q2, q3, q4, q5, q6, q7, q8, q9, q10, q11⟩, hl, hc, hs⟩, st⟩ := New1.pays x D fV fC b A z (tab_of (moved hZ hw)) hfr hlo m meth c P g ig mk _ X hg hsize hdg hW hn ⟨r1, r2, rfl, hB, F1, F2, hA, hS, hz, l0, l2, hp⟩
  have al' : Z.vm.Alike B.U.vm := hZ.alike.trans X'.warmed.alike
  have hsz : E'.slots.size = D.slots.size := by
    obtain ⟨-, -, -, kB, w1, w2, w3⟩ := q1
    obtain ⟨kB', y1, y2⟩ := al'.2.2 _ _ e3
    rw [q2.2.1] at w1
    cases w1.symm.trans y1
    rw [w3, e5 i3, y2]
  refine ⟨v, B, X', ⟨_, ⟨hv, ?_, ⟨by omega, fun y cy hy hn' => q10 y cy (by simpa using hn') hy, fun y cy hy => ?_⟩, q11, ⟨E', _, q1.1, by rw [q2.2.1]; exact e2, by rw [q2.2.1]; exact e3, by rw [q2.1]; exact obV, fun _ => by rw [hsz]; exact e5 i3⟩,
    ⟨E', cfV, kV, iV, fV, q1.1, gV, stV, by rw [q2.1]; exact knV, by rw [q2.1]; exact obV, by rw [q2.2.1]; exact asV, q3⟩, ⟨E', cfC, kC, iC, fC, q1.1, gC, stC, by rw [q2.1]; exact knV, by rw [q2.1]; exact obV, by rw [q2.2.1]; exact asC, q4⟩,
    ⟨V', ⟨q5.1, State.isArrayOf_alike al'.symm q5.2.1, q5.2.2.1⟩, q6, by rw [← al'.findClass]; exact q7, q8, fun j hj => by have := q9 j hj; rwa [Nat.zero_add] at this⟩, fun O n d w F n1 n2 => ?_⟩, hl, hc, hs⟩, st⟩
  · intro y hy
    simp only [List.mem_cons, List.not_mem_nil, or_false] at hy
    rcases hy with rfl | rfl <;> rfl
  · by_cases q : y = x
    · subst q
      cases hD.symm.trans hy
      exact ⟨E', q1.1, q2.2.1, q2.1, hsz⟩
    · exact ⟨cy, q10 y cy q hy, rfl, rfl, rfl⟩
  · obtain ⟨D3, cf, k, i, f, g1, g2, g3, g4, g5, g6, g7⟩ := F
    cases hD.symm.trans g1
    simp only [RoadKit.slotOf, g2, gV, gC, Option.map_some, Option.getD_some] at n1 n2
    exact ⟨E', cf, k, i, f, q1.1, g2, g3, by rw [q2.1]; exact g4, by rw [q2.1]; exact g5, by rw [q2.2.1]; exact g6, by rw [q2.2.2 f.slot (by simp [n1, n2])]; exact g7⟩
end StrChars.Road
namespace StrChars.Road
open Jvm Sem ClassFile Op Lib Jvm.Stand Jvm.Free Jvm.Free.XT
/-- WHAT COMES BACK, the byte[] as a list of values -/
def QA (Z : State) (x : Addr) (zn : Int32) (cs : List Int32) (h : Heap) (v : Option Value) (h' : Heap) (L : List Loc) : Prop := v = none ∧ (∀ y ∈ L, y.base = x) ∧ RoadKit.Keep h h' [x] ∧ h'.size = h.size + 1 ∧ RoadKit.Exa Z h' x ST ∧ RoadKit.Fld Z h' x ST "value" "[B" (.ref h.size) ∧ RoadKit.Fld Z h' x ST "coder" "B" (.int 0) ∧
  (∃ kb, Z.vm.findClass "[B" = some kb ∧ RoadKit.Arv Z h' h.size kb .byte zn (cs.map fun c => .int (lo8 c)) (.int 0)) ∧
  ∀ (O n d : String) (w : Value), RoadKit.Fld Z h x O n d w → RoadKit.slotOf Z O n d ≠ RoadKit.slotOf Z ST "value" "[B" → RoadKit.slotOf Z O n d ≠ RoadKit.slotOf Z ST "coder" "B" → RoadKit.Fld Z h' x O n d w
/-- **new String(chars) AT A CALL, THE ARRAYS AS LISTS**: the char[] at b holds cs, not empty, no char above 255 -/
theorem backArv {p : Program} {l : Launch} {e : Env} {R : Room} {s : State} {args : Array Value} {below : List Frame} {len W : Nat} {Z : State} {a0 : Array Value} {h : Heap} (hZ : Z.Warmed39 s.vm) (hw : ∀ d ∈ words, d.before a0 Z = true) {kI : Nat} (wi : (Jvm.Cond.instantiable ST kI).before a0 Z = true)
    {x b : Addr} {k : ClassId} {zn z : Int32} {cs : List Int32} {dv v0 c0 : Value} (E : RoadKit.Exa Z h x ST) (V : RoadKit.Fld Z h x ST "value" "[B" v0) (C : RoadKit.Fld Z h x ST "coder" "B" c0) (K : RoadKit.Arv Z h b k .char zn (cs.map Value.int) dv) (S : RoadKit.Sta Z h ST "COMPACT_STRINGS" "Z" (.int z)) (hz : ¬ z = 0)
    (hlen : zn.toNatClampNeg = cs.length) (h0 : 0 < cs.length) (hbig : cs.length ≤ 536870912) (hall : ∀ c ∈ cs, ¬ 255 < c) (hfr : 4 ≤ R.frames) (hlo : W + 65 ≤ R.locals) :
    Back l R p e below s args New1.yN len W (fun P a => a = #[.ref x, .ref b] ∧ P.U.heap = h ∧ P.cells + 1 ≤ R.cells ∧ P.slots + cs.length ≤ R.slots)
      (fun P _ v B => ∃ L, QA Z x zn cs h v B.U.heap L ∧ B.locs = P.locs ++ L ∧ B.cells = P.cells + 1 ∧ B.slots = P.slots + cs.length) := by
  obtain ⟨A, K1, K2, K3, K4, K5, K6⟩ := K
  have e : A.slots.size = cs.length := K3.trans hlen
  have hat : ∀ (i : Nat) (hi : i < cs.length), A.slots[i]? = some (.int cs[i]) := fun i hi => by rw [K5 i (by omega)]; simp [List.getD_eq_getElem?_getD, hi]
  have hcv : ∀ (i : Nat) (hi : i < cs.length), cv A i = cs[i] := fun i hi => by unfold cv; rw [hat i hi]
  have hty : Typed .char A := fun i v hv => by
    have hi : i < A.slots.size := (Array.getElem?_eq_some_iff.mp hv).1
    have q := K5 i hi
    rw [hv] at q
    rw [Option.some.inj q]
    exact K6 i hi
  refine Back.mono (back hZ hw wi E V C K1 hty S hz (by omega) (by omega) (fun i hi => by rw [hcv i (by omega)]; exact hall _ (List.getElem_mem _)) hfr hlo) (fun P a hp => ⟨hp.1, hp.2.1, hp.2.2.1, by rw [e]; exact hp.2.2.2⟩) (fun P a v B hp hq => ?_)
  obtain ⟨L, ⟨q1, q2, q3, q4, q5, q6, q7, ⟨V', v1, v2, v3, v4, v5⟩, q9⟩, hl, hc, hs⟩ := hq
  refine ⟨L, ⟨q1, q2, q3, q4, q5, q6, q7, ⟨V'.cls, v3, V', v1, rfl, by rw [v4, e, hlen], K4, fun i hi => ?_, fun i hi => ?_⟩, q9⟩, hl, hc, by rw [hs, e]⟩
  · have hi' : i < cs.length := by omega
    rw [v5 i (by omega), hcv i hi']; simp [List.getD_eq_getElem?_getD, hi']
  · have hi' : i < cs.length := by omega
    simp only [List.getD_eq_getElem?_getD, List.getElem?_map, List.getElem?_eq_getElem hi', Option.map_some, Option.getD_some]
    exact fits_lo8 _
end StrChars.Road
namespace StrChars.Road
open Jvm Sem ClassFile Op Lib Jvm.Stand Jvm.Free Jvm.Free.XT
/-- WHAT COMES BACK, in the writer's own shape -/
def QV (Z : State) (x : Addr) (N : Int32) (bs : List Int32) (h : Heap) (n0 : Nat) (v : Option Value) (h' : Heap) (L : List Loc) : Prop := v = none ∧ RoadKit.Fr n0 L ∧ RoadKit.Keep h h' [x] ∧ RoadKit.Exa Z h' x ST ∧ RoadKit.Fld Z h' x ST "coder" "B" (.int 0) ∧
  ∃ (t : Addr) (kb : ClassId), n0 ≤ t ∧ h.size ≤ t ∧ ¬ t = x ∧ RoadKit.Fld Z h' x ST "value" "[B" (.ref t) ∧ RoadKit.Arv Z h' t kb .byte N (bs.map Value.int) (.int 0)
/-- **new String(chars) AT A CALL, FOR THE WRITER**: a char[] of n known ints, each 0 to 255 -/
theorem backV {p : Program} {l : Launch} {e : Env} {R : Room} {s : State} {args : Array Value} {below : List Frame} {len W : Nat} {Z : State} {a0 : Array Value} {h : Heap} (hZ : Z.Warmed39 s.vm) (hw : ∀ d ∈ words, d.before a0 Z = true) {kI : Nat} (wi : (Jvm.Cond.instantiable ST kI).before a0 Z = true)
    {x b : Addr} {kC : ClassId} {cs bs : List Int32} {d v0 c0 : Value} {z N : Int32} {n n0 : Nat} (hx0 : n0 ≤ x) (hh0 : n0 ≤ h.size) (E : RoadKit.Exa Z h x ST) (V : RoadKit.Fld Z h x ST "value" "[B" v0) (C : RoadKit.Fld Z h x ST "coder" "B" c0) (K : RoadKit.Arv Z h b kC .char N (cs.map Value.int) d) (S : RoadKit.Sta Z h ST "COMPACT_STRINGS" "Z" (.int z)) (hz : ¬ z = 0)
    (hn : cs.length = n) (hN : N = Int32.ofNat n) (l0 : 0 < n) (l2 : n ≤ 4000) (hp : ∀ c ∈ cs, ¬ c < 0 ∧ ¬ (255 : Int32) < c) (hb : bs = cs.map (fun c => c.toInt8.toInt32)) (hfr : 4 ≤ R.frames) (hlo : W + 65 ≤ R.locals) :
    Back l R p e below s args (⟨"java/lang/String", "<init>", "([C)V"⟩ : MethodName) len W (fun P a => a = #[.ref x, .ref b] ∧ P.U.heap = h ∧ P.cells + 1 ≤ R.cells ∧ P.slots + n ≤ R.slots)
      (fun P _ v B => ∃ L, QV Z x N bs h n0 v B.U.heap L ∧ B.locs = P.locs ++ L ∧ B.cells = P.cells + 1 ∧ B.slots = P.slots + n) := by
  subst hn hN hb
  refine Back.mono (backArv hZ hw wi E V C K S hz (n32 (by omega)) l0 (by omega) (fun c hc => (hp c hc).2) hfr hlo) (fun P a hp => hp) (fun P a v B hp hq => ?_)
  obtain ⟨L, ⟨q1, q2, q3, q4, q5, q6, q7, ⟨kb, v1, v2⟩, q9⟩, hl, hc, hs⟩ := hq
  exact ⟨L, ⟨q1, fun y hy => by rw [q2 y hy]; exact hx0, q3, q5, q7, h.size, kb, hh0, Nat.le_refl _, Nat.ne_of_gt E.lt, q6, by rw [List.map_map]; exact v2⟩, hl, hc, hs⟩
end StrChars.Road
namespace StrChars
open Jvm Sem ClassFile Op Lib Jvm.Stand Jvm.Free.XT Jvm.Free.ALB Jvm.Free.JM Jvm.Free
open Jvm.Lib.Cold (StaticIs)
def hi8 (x : Int32) : Int32 := lo8 (x >>> ((8 : Int32) &&& 31))
/-- what StringUTF16.getChar makes of two bytes -/
def pairCh (u v : Int32) : Int32 := (((u &&& 255) <<< ((0 : Int32) &&& 31)) ||| ((v &&& 255) <<< ((8 : Int32) &&& 31))).toUInt32.toUInt16.toUInt32.toInt32
theorem lo8_and (x : Int32) : (lo8 x &&& 255).toBitVec.toNat = x.toBitVec.toNat % 256 := by
  have h : (lo8 x).toBitVec = (x.toBitVec.signExtend 8).signExtend 32 := by rw [lo8, Int8.toBitVec_toInt32, Int32.toBitVec_toInt8]
  rw [Int32.toBitVec_and, BitVec.toNat_and, h]
  have e : ((x.toBitVec.signExtend 8).signExtend 32).toNat % 256 = x.toBitVec.toNat % 256 := by
    rw [BitVec.toNat_signExtend]
    have hlt := x.toBitVec.isLt
    simp only [BitVec.toNat_setWidth, BitVec.toNat_signExtend]
    split <;> split <;> omega
  rw [← e]
  exact Nat.and_two_pow_sub_one_eq_mod _ 8
theorem pair_says {c : Int32} (h0 : ¬ c < 0) (h1 : ¬ 65535 < c) : pairCh (lo8 c) (hi8 c) = c := by
  rw [Int32.lt_iff_toInt_lt] at h0 h1
  have e0 : (0 : Int32).toInt = 0 := rfl
  have e1 : (65535 : Int32).toInt = 65535 := rfl
  have hc : c.toInt = c.toBitVec.toNat := by
    have := c.toBitVec.isLt
    have e : c.toInt = c.toBitVec.toInt := rfl
    rw [e] at h0 h1
    rw [e]
    rw [BitVec.toInt_eq_toNat_cond] at h0 h1 ⊢
    split at h0 <;> split <;> omega
  have hn : c.toBitVec.toNat < 65536 := by omega
  have a1 := lo8_and c
  have a2 : (hi8 c &&& 255).toBitVec.toNat = c.toBitVec.toNat / 256 := by
    rw [hi8, lo8_and]
    have e : ((8 : Int32) &&& 31) = 8 := by decide
    rw [e, Int32.toBitVec_shiftRight]
    have e2 : ((8 : Int32).toBitVec.smod 32) = 8#32 := by decide
    rw [e2, BitVec.sshiftRight_eq', BitVec.toNat_sshiftRight_of_msb_false (by rw [BitVec.msb_eq_false_iff_two_mul_lt]; omega)]
    show c.toBitVec.toNat >>> 8 % 256 = _
    rw [Nat.shiftRight_eq_div_pow]
    omega
  unfold pairCh
  apply Int32.toBitVec_inj.mp
  apply BitVec.eq_of_toNat_eq
  have f0 : ((0 : Int32) &&& 31) = 0 := by decide
  have f8 : ((8 : Int32) &&& 31) = 8 := by decide
  rw [f0, f8]
  have g : (((lo8 c &&& 255) <<< (0 : Int32)) ||| ((hi8 c &&& 255) <<< (8 : Int32))).toBitVec.toNat = c.toBitVec.toNat := by
    rw [Int32.toBitVec_or, Int32.toBitVec_shiftLeft, Int32.toBitVec_shiftLeft]
    have s0 : ((0 : Int32).toBitVec.smod 32) = 0#32 := by decide
    have s8 : ((8 : Int32).toBitVec.smod 32) = 8#32 := by decide
    rw [s0, s8, BitVec.toNat_or]
    simp only [BitVec.shiftLeft_eq', BitVec.toNat_shiftLeft, a1, a2]
    show (c.toBitVec.toNat % 256) <<< 0 % 2 ^ 32 ||| (c.toBitVec.toNat / 256) <<< 8 % 2 ^ 32 = _
    rw [Nat.shiftLeft_zero, Nat.mod_eq_of_lt (show c.toBitVec.toNat % 256 < 2 ^ 32 by omega), Nat.mod_eq_of_lt (show (c.toBitVec.toNat / 256) <<< 8 < 2 ^ 32 by rw [Nat.shiftLeft_eq]; omega), Nat.or_comm, ← Nat.shiftLeft_add_eq_or_of_lt (by omega), Nat.shiftLeft_eq]
    omega
  show BitVec.toNat (((((lo8 c &&& 255) <<< (0 : Int32)) ||| ((hi8 c &&& 255) <<< (8 : Int32))).toBitVec.setWidth 16).setWidth 32) = _
  rw [BitVec.toNat_setWidth, BitVec.toNat_setWidth, g]
  omega
end StrChars
namespace StrChars
open Jvm Sem ClassFile Op Lib Jvm.Stand Jvm.Free.XT Jvm.Free.ALB Jvm.Free.JM Jvm.Free
open Jvm.Lib.Cold (StaticIs)
/-- the array's cell V codes the n chars f 0 .. f (n - 1) by the coder cd, as the JDK does: coder 1 just where some char is above 255 -/
def Cod (cd : Int32) (n : Nat) (f : Nat → Int32) (V : Cell) : Prop := (cd = 0 ∧ V.slots.size = n ∧ ∀ j, j < n → V.slots[j]? = some (.int (lo8 (f j))) ∧ ¬ 255 < f j) ∨ (cd = 1 ∧ V.slots.size = 2 * n ∧ (∀ j, j < n → V.slots[2 * j]? = some (.int (lo8 (f j))) ∧ V.slots[2 * j + 1]? = some (.int (hi8 (f j)))) ∧ ∃ j, j < n ∧ 255 < f j)
/-- **x is a String of the n chars f 0 .. f (n - 1)**, Latin-1 or UTF-16; its array at t has the cell V -/
def Txt (x t : Addr) (V : Cell) (cd : Int32) (n : Nat) (f : Nat → Int32) (U : State) : Prop := Exact "java/lang/String" x U ∧ Has x "java/lang/String" "value" "[B" (.ref t) U ∧ Has x "java/lang/String" "coder" "B" (.int cd) U ∧ XT.Arr .byte t V U ∧ Cod cd n f V ∧ ∀ j, j < n → ¬ f j < 0 ∧ ¬ 65535 < f j
theorem Txt.mv {x t : Addr} {V : Cell} {cd : Int32} {n : Nat} {f : Nat → Int32} {U U' : State} (h : Txt x t V cd n f U) (hal : U.vm.Alike U'.vm) (hh : U'.heap = U.heap) : Txt x t V cd n f U' := ⟨h.1.mv hal hh, h.2.1.mv hal hh, h.2.2.1.mv hal hh, h.2.2.2.1.mv hal hh, h.2.2.2.2⟩
end StrChars
namespace StrChars.Road
open Jvm Sem ClassFile Op Lib Jvm.Stand Jvm.Free Jvm.Free.XT
open Jvm.Lib.Cold (StaticIs)
theorem consq {a : Array Value} {s : State} {c : Jvm.Cond} {L : List Jvm.Cond} (h0 : c.before a s = true) (h : ∀ w ∈ L, w.before a s = true) : ∀ w ∈ c :: L, w.before a s = true := fun w hw => (List.mem_cons.mp hw).elim (fun e => e ▸ h0) (h w)
/-- the bytes of the chars cs, low before high -/
def wideBytes : List Int32 → List Value
  | [] => []
  | c :: cs => .int (lo8 c) :: .int (hi8 c) :: wideBytes cs
theorem wide_lo (d : Value) : ∀ (cs : List Int32) (j : Nat), j < cs.length → (wideBytes cs).getD (2 * j) d = .int (lo8 (cs.getD j 0))
  | [], j, h => absurd h (Nat.not_lt_zero j)
  | c :: cs, 0, _ => rfl
  | c :: cs, j + 1, h => by
    have q := wide_lo d cs j (by simpa using h)
    rw [show 2 * (j + 1) = 2 * j + 1 + 1 from by omega]
    simpa [wideBytes] using q
theorem wide_hi (d : Value) : ∀ (cs : List Int32) (j : Nat), j < cs.length → (wideBytes cs).getD (2 * j + 1) d = .int (hi8 (cs.getD j 0))
  | [], j, h => absurd h (Nat.not_lt_zero j)
  | c :: cs, 0, _ => rfl
  | c :: cs, j + 1, h => by
    have q := wide_hi d cs j (by simpa using h)
    rw [show 2 * (j + 1) + 1 = 2 * j + 1 + 1 + 1 from by omega]
    simpa [wideBytes] using q
theorem low_at (d : Value) (cs : List Int32) (j : Nat) (h : j < cs.length) : (cs.map fun c => Value.int (lo8 c)).getD j d = .int (lo8 (cs.getD j 0)) := by
  simp [List.getD_eq_getElem?_getD, h]
/-- an array of N2 bytes vs codes the chars cs by the coder cd -/
def CodA (cs : List Int32) (cd N2 : Int32) (vs : List Value) : Prop := (cd = 0 ∧ N2 = Int32.ofNat cs.length ∧ vs = (cs.map fun c => Value.int (lo8 c)) ∧ ∀ c ∈ cs, ¬ 255 < c) ∨ (cd = 1 ∧ N2 = Int32.ofNat (2 * cs.length) ∧ vs = wideBytes cs ∧ ∃ c ∈ cs, 255 < c)
theorem CodA.cod {cs : List Int32} {cd N2 : Int32} {vs : List Value} {V : Cell} (h : CodA cs cd N2 vs) (hn : 2 * cs.length < 2 ^ 31) (hs : V.slots.size = N2.toNatClampNeg) (hv : RoadKit.Has V vs (.int 0)) : Cod cd cs.length (fun j => cs.getD j 0) V := by
  rcases h with ⟨rfl, rfl, rfl, h⟩ | ⟨rfl, rfl, rfl, c, hc, hw⟩
  · rw [n32 (by omega)] at hs
    exact Or.inl ⟨rfl, hs, fun j hj => ⟨by rw [hv j (by omega), low_at _ _ _ hj], by
      have e : cs.getD j 0 = cs[j] := by simp [List.getD_eq_getElem?_getD, hj]
      show ¬ 255 < cs.getD j 0
      rw [e]; exact h _ (List.getElem_mem _)⟩⟩
  · rw [n32 (by omega)] at hs
    obtain ⟨j, hj, rfl⟩ := List.getElem_of_mem hc
    exact Or.inr ⟨rfl, hs, fun j hj => ⟨by rw [hv _ (by omega), wide_lo _ _ _ hj], by rw [hv _ (by omega), wide_hi _ _ _ hj]⟩, j, hj, by
      have e : cs.getD j 0 = cs[j] := by simp [List.getD_eq_getElem?_getD, hj]
      show 255 < cs.getD j 0
      rw [e]; exact hw⟩
/-- an object of exactly java/lang/String, its two fields found: as the laws ask it -/
theorem strObj {Z U : State} {a0 : Array Value} {kI : Nat} (wi : (Jvm.Cond.instantiable ST kI).before a0 Z = true) (al : Z.vm.Alike U.vm) {x : Addr} {v0 c0 : Value} (E : RoadKit.Exa Z U.heap x ST) (V : RoadKit.Fld Z U.heap x ST "value" "[B" v0) (C : RoadKit.Fld Z U.heap x ST "coder" "B" c0) :
    ∃ (D : Cell) (fV fC : Field), Blank ST x D U ∧ Found ST "value" "[B" fV U ∧ Found ST "coder" "B" fC U ∧ D.slots[fV.slot]? = some v0 ∧ D.slots[fC.slot]? = some c0 ∧ RoadKit.slotOf Z ST "value" "[B" = fV.slot ∧ RoadKit.slotOf Z ST "coder" "B" = fC.slot := by
  obtain ⟨D, cfV, kV, iV, fV, hD, gV, stV, knV, obV, asV, slV⟩ := V
  obtain ⟨D', cfC, kC, iC, fC, hD', gC, stC, -, -, asC, slC⟩ := C
  cases hD.symm.trans hD'
  obtain ⟨D2, kD, e1, e2, e3, e4, e5⟩ := E
  cases hD.symm.trans e1
  obtain ⟨c2, k2, i1, i2, i3, -⟩ := Cond.instantiable_spec wi
  cases e2.symm.trans i1
  cases e3.symm.trans i2
  obtain ⟨kU, u1, u2⟩ := al.2.2 _ _ e3
  exact ⟨D, fV, fC, ⟨hD, ⟨knV, fun q hq => by rw [hq] at obV; cases obV⟩, by rw [al.findClass]; exact e2, kU, u1, by rw [u2]; exact i3, by rw [u2]; exact e5 i3⟩, ⟨SBG.found_only al ⟨cfV, kV, iV, gV⟩, stV⟩, ⟨SBG.found_only al ⟨cfC, kC, iC, gC⟩, stC⟩, slV, slC, by simp [RoadKit.slotOf, gV], by simp [RoadKit.slotOf, gC]⟩
theorem sta_is {Z U : State} (al : Z.vm.Alike U.vm) {C n d : String} {v : Value} (S : RoadKit.Sta Z U.heap C n d v) : StaticIs U C n d v := by
  obtain ⟨cfS, iS, kS, fS, st, cS, t1, t2, t3, t4, t5, t6, t7⟩ := S
  exact StaticIs.there (s := { Z with heap := U.heap }) ⟨cfS, iS, kS, fS, st, cS, t1, t2, t3, t4, t5, (fun q => by rw [q] at t6; cases t6), t7⟩ al rfl
end StrChars.Road
namespace StrChars
open Jvm Sem ClassFile Op Lib Jvm.Stand Jvm.Free.XT Jvm.Free.ALB Jvm.Free.JM Jvm.Free
open Jvm.Lib.Cold (StaticIs)
/-- what place i of a byte[]'s cell holds -/
def yv (A : Cell) (i : Nat) : Int32 := match A.slots[i]? with | some (.int x) => x | _ => 0
theorem yv_get {a : Addr} {A : Cell} {U : State} (h : XT.Arr .byte a A U) (ht : Typed .byte A) {i : Nat} (hi : i < A.slots.size) : A.slots[i]? = some (.int (yv A i)) := by
  have e := Array.getElem?_eq_getElem hi
  have f := ht i _ e
  unfold yv; rw [e]
  generalize A.slots[i] = v at f
  cases v <;> simp [fits] at f ⊢
/-- the two arrays are equal, place for place -/
def EqC (A B : Cell) : Prop := A.slots.size = B.slots.size ∧ ∀ i, i < A.slots.size → yv A i = yv B i
/-- a boolean that says whether p -/
def Says01 (q : Prop) (r : Option Value) (s u : State) : Prop := ∃ v : Int32, r = some (.int v) ∧ u.heap = s.heap ∧ ((v = 1 ∧ q) ∨ (v = 0 ∧ ¬ q))
theorem Says01.mv {q : Prop} : ∀ r (U U' V V' : State), U'.heap = U.heap → V.vm.Alike V'.vm → V'.heap = V.heap → Says01 q r U V → Says01 q r U' V' :=
  fun r U U' V V' h1 _ h2 ⟨v, a, b, c⟩ => ⟨v, a, by rw [h1, h2]; exact b, c⟩
namespace LEq
def yN : MethodName := ⟨"java/lang/StringLatin1", "equals", "([B[B)Z"⟩
abbrev yB : ByteArray := jdk_43_method_13_code
theorem d0 : decode yB 0 = .ok (.aload_n 0, 1) := by decide +kernel
theorem d1 : decode yB 1 = .ok (.arraylength, 1) := by decide +kernel
theorem d2 : decode yB 2 = .ok (.aload_n 1, 1) := by decide +kernel
theorem d3 : decode yB 3 = .ok (.arraylength, 1) := by decide +kernel
theorem d4 : decode yB 4 = .ok (.if_icmp (.ne) 30, 3) := by decide +kernel
theorem d7 : decode yB 7 = .ok (.iconst 0, 1) := by decide +kernel
theorem d8 : decode yB 8 = .ok (.istore_n 2, 1) := by decide +kernel
theorem d9 : decode yB 9 = .ok (.iload_n 2, 1) := by decide +kernel
theorem d10 : decode yB 10 = .ok (.aload_n 0, 1) := by decide +kernel
theorem d11 : decode yB 11 = .ok (.arraylength, 1) := by decide +kernel
theorem d12 : decode yB 12 = .ok (.if_icmp (.ge) 20, 3) := by decide +kernel
theorem d15 : decode yB 15 = .ok (.aload_n 0, 1) := by decide +kernel
theorem d16 : decode yB 16 = .ok (.iload_n 2, 1) := by decide +kernel
theorem d17 : decode yB 17 = .ok (.baload, 1) := by decide +kernel
theorem d18 : decode yB 18 = .ok (.aload_n 1, 1) := by decide +kernel
theorem d19 : decode yB 19 = .ok (.iload_n 2, 1) := by decide +kernel
theorem d20 : decode yB 20 = .ok (.baload, 1) := by decide +kernel
theorem d21 : decode yB 21 = .ok (.if_icmp (.eq) 5, 3) := by decide +kernel
theorem d24 : decode yB 24 = .ok (.iconst 0, 1) := by decide +kernel
theorem d25 : decode yB 25 = .ok (.ireturn, 1) := by decide +kernel
theorem d26 : decode yB 26 = .ok (.iinc 2 1, 3) := by decide +kernel
theorem d29 : decode yB 29 = .ok (.goto (-20), 3) := by decide +kernel
theorem d32 : decode yB 32 = .ok (.iconst 1, 1) := by decide +kernel
theorem d33 : decode yB 33 = .ok (.ireturn, 1) := by decide +kernel
theorem d34 : decode yB 34 = .ok (.iconst 0, 1) := by decide +kernel
theorem d35 : decode yB 35 = .ok (.ireturn, 1) := by decide +kernel
def site : List Cond := []
def tab : Cond := tabOf yN yB 3 (some .boolean) site
def P (a : Addr) (A : Cell) (b : Addr) (B : Cell) (args : Array Value) (s : State) : Prop := args = #[.ref a, .ref b] ∧ XT.Arr .byte a A s ∧ Typed .byte A ∧ XT.Arr .byte b B s ∧ Typed .byte B
/-- whether two byte[] are equal, place for place -/
theorem law (l : Launch) (a : Addr) (A : Cell) (b : Addr) (B : Cell) : Law l yN 2 2 0 0 yB 3 (some .boolean) site (P a A b B) (Says01 (EqC A B)) [] 0 0 := by
  refine Law.of_walk (plainFor_of_name (by decide +kernel)) (by decide +kernel) (by decide +kernel) (by decide) (fun _ _ h => by rw [h.1]; rfl) (fun _ U U' hal hh h => ⟨h.1, h.2.1.mv hal hh, h.2.2.1, h.2.2.2.1.mv hal hh, h.2.2.2.2⟩) (fun r U U' V V' h1 hal h2 h => Says01.mv r U U' V V' h1 hal h2 h) ?_
  intro p e s m args below meth c s₁ X0 hexec hbytes hml hret hlk hnm hown hh0 W hP
  obtain ⟨rfl, hA, tA, hB, tB⟩ := hP
  have a31 := hA.2.2.2
  have b31 := hB.2.2.2
  have hA0 := hA.mv X0.warmed.alike hh0
  have hB0 := hB.mv X0.warmed.alike hh0
  have c1 : Steps p.tables e below (s₁.setTop (entryFrame m #[.ref a, .ref b] 3)) (s₁.setTop (mkF m 0 #[.val (.ref a), .val (.ref b), .unset] [])) := entry rfl
  have c2 : Steps p.tables e below (s₁.setTop (entryFrame m #[.ref a, .ref b] 3)) (s₁.setTop (mkF m 4 #[.val (.ref a), .val (.ref b), .unset] [.int (Int32.ofNat B.slots.size), .int (Int32.ofNat A.slots.size)])) := c1.trans (by
    refine XS.aloadN X0.here hexec rfl (hb hbytes d0) rfl rfl ?_
    refine X0.alen hexec hA0 rfl rfl (hb hbytes d1) ?_
    refine XS.aloadN X0.here hexec rfl (hb hbytes d2) rfl rfl ?_
    refine X0.alen hexec hB0 rfl rfl (hb hbytes d3) ?_
    exact Steps.refl _)
  by_cases hs : A.slots.size = B.slots.size
  · have c3 : Steps p.tables e below (s₁.setTop (entryFrame m #[.ref a, .ref b] 3)) (s₁.setTop (mkF m 9 #[.val (.ref a), .val (.ref b), .val (.int 0)] [])) := c2.trans (by
      refine XS.icmpNo X0.here hexec rfl (hb hbytes d4) rfl (ii_ne_f (by rw [hs])) ?_
      refine iconstV X0.here hexec rfl 0 (hb hbytes d7) (by decide) ?_
      refine XS.istoreN X0.here hexec rfl (hb hbytes d8) rfl rfl ?_
      exact Steps.refl _)
    have loop : ∀ (r i : Nat), i + r = A.slots.size → (∀ j, j < i → yv A j = yv B j) → Steps p.tables e below (s₁.setTop (entryFrame m #[.ref a, .ref b] 3)) (s₁.setTop (mkF m 9 #[.val (.ref a), .val (.ref b), .val (.int (Int32.ofNat i))] [])) → ∃ (pc : Nat) (Ls : Array Slot) (v : Int32), (pc = 25 ∨ pc = 33) ∧ ((v = 1 ∧ EqC A B) ∨ (v = 0 ∧ ¬ EqC A B)) ∧ Steps p.tables e below (s₁.setTop (entryFrame m #[.ref a, .ref b] 3)) (s₁.setTop (mkF m pc Ls [.int v])) := by
      intro r
      induction r with
      | zero =>
        intro i hi he cl
        exact ⟨33, _, 1, Or.inr rfl, Or.inl ⟨rfl, hs, fun j hj => he j (by omega)⟩, cl.trans (by
          refine XS.iloadN X0.here hexec rfl (hb hbytes d9) rfl ?_
          refine XS.aloadN X0.here hexec rfl (hb hbytes d10) rfl rfl ?_
          refine X0.alen hexec hA0 rfl rfl (hb hbytes d11) ?_
          refine XS.icmpYes X0.here hexec rfl (pc0 := 12) rfl (hb hbytes d12) rfl (ii_ge_t (nlt32 (by omega) (by omega))) (by decide) rfl ?_
          refine iconstV X0.here hexec rfl 1 (hb hbytes d32) (by decide) ?_
          exact Steps.refl _)⟩
      | succ r ih =>
        intro i hi he cl
        have c4 : Steps p.tables e below (s₁.setTop (entryFrame m #[.ref a, .ref b] 3)) (s₁.setTop (mkF m 21 #[.val (.ref a), .val (.ref b), .val (.int (Int32.ofNat i))] [.int (yv B i), .int (yv A i)])) := cl.trans (by
          refine XS.iloadN X0.here hexec rfl (hb hbytes d9) rfl ?_
          refine XS.aloadN X0.here hexec rfl (hb hbytes d10) rfl rfl ?_
          refine X0.alen hexec hA0 rfl rfl (hb hbytes d11) ?_
          refine XS.icmpNo X0.here hexec rfl (hb hbytes d12) rfl (ii_ge_f (lt32 (by omega) (by omega))) ?_
          refine XS.aloadN X0.here hexec rfl (hb hbytes d15) rfl rfl ?_
          refine XS.iloadN X0.here hexec rfl (hb hbytes d16) rfl ?_
          refine X0.aget hexec hA0 rfl (yv_get hA tA (i := i) (by omega)) rfl rfl (hb hbytes d17) ?_
          refine XS.aloadN X0.here hexec rfl (hb hbytes d18) rfl rfl ?_
          refine XS.iloadN X0.here hexec rfl (hb hbytes d19) rfl ?_
          refine X0.aget hexec hB0 rfl (yv_get hB tB (i := i) (by omega)) rfl rfl (hb hbytes d20) ?_
          exact Steps.refl _)
        by_cases hv : yv A i = yv B i
        · have c5 : Steps p.tables e below (s₁.setTop (entryFrame m #[.ref a, .ref b] 3)) (s₁.setTop (mkF m 9 #[.val (.ref a), .val (.ref b), .val (.int (Int32.ofNat i + 1))] [])) := c4.trans (by
            refine XS.icmpYes X0.here hexec rfl (pc0 := 21) rfl (hb hbytes d21) rfl (ii_eq_t hv) (by decide) rfl ?_
            refine iincV X0.here hexec rfl 1 (hb hbytes d26) (by decide) rfl rfl ?_
            refine XS.goto X0.here hexec rfl (pc0 := 29) rfl (hb hbytes d29) (by decide) rfl ?_
            exact Steps.refl _)
          rw [succ32] at c5
          exact ih (i + 1) (by omega) (fun j hj => by
            by_cases e : j = i
            · rw [e]; exact hv
            · exact he j (by omega)) c5
        · exact ⟨25, _, 0, Or.inl rfl, Or.inr ⟨rfl, fun q => hv (q.2 i (by omega))⟩, c4.trans (by
            refine XS.icmpNo X0.here hexec rfl (hb hbytes d21) rfl (ii_eq_f hv) ?_
            refine iconstV X0.here hexec rfl 0 (hb hbytes d24) (by decide) ?_
            exact Steps.refl _)⟩
    obtain ⟨pc, Ls, v, hpc, hv, cz⟩ := loop A.slots.size 0 (by omega) (fun j hj => absurd hj (Nat.not_lt_zero j)) c3
    have nv : narrow .boolean (.int v) = .int v := by rcases hv with ⟨rfl, -⟩ | ⟨rfl, -⟩ <;> rfl
    rcases hpc with rfl | rfl
    · exact ⟨s₁, some (.int v), _, _, _, X0, rfl, rfl, rfl, (fun h => by cases h), ⟨v, rfl, hh0, hv⟩, fun fs hl => cz.trans (X0.ireturnOut hexec hret nv (Or.inr (Or.inl rfl)) (hb hbytes d25) hl)⟩
    · exact ⟨s₁, some (.int v), _, _, _, X0, rfl, rfl, rfl, (fun h => by cases h), ⟨v, rfl, hh0, hv⟩, fun fs hl => cz.trans (X0.ireturnOut hexec hret nv (Or.inr (Or.inl rfl)) (hb hbytes d33) hl)⟩
  · have c3 : Steps p.tables e below (s₁.setTop (entryFrame m #[.ref a, .ref b] 3)) (s₁.setTop (mkF m 35 #[.val (.ref a), .val (.ref b), .unset] [.int 0])) := c2.trans (by
      refine XS.icmpYes X0.here hexec rfl (pc0 := 4) rfl (hb hbytes d4) rfl (ii_ne_t (ne32 a31 b31 hs)) (by decide) rfl ?_
      refine iconstV X0.here hexec rfl 0 (hb hbytes d34) (by decide) ?_
      exact Steps.refl _)
    exact ⟨s₁, some (.int 0), _, _, _, X0, rfl, rfl, rfl, (fun h => by cases h), ⟨0, rfl, hh0, Or.inr ⟨rfl, fun q => hs q.1⟩⟩, fun fs hl => c3.trans (X0.ireturnOut hexec hret rfl (Or.inr (Or.inl rfl)) (hb hbytes d35) hl)⟩
end LEq
theorem Cod.ty {cd : Int32} {n : Nat} {f : Nat → Int32} {V : Cell} (h : Cod cd n f V) : Typed .byte V := fun i v hv => by
  have hi : i < V.slots.size := (Array.getElem?_eq_some_iff.mp hv).1
  rcases h with ⟨-, k1, k2⟩ | ⟨-, k1, k2, -⟩
  · rw [(k2 i (by omega)).1] at hv; cases hv; exact fits_lo8 _
  · rcases Nat.mod_two_eq_zero_or_one i with e | e
    · obtain ⟨j, rfl⟩ : ∃ j, i = 2 * j := ⟨i / 2, by omega⟩
      rw [(k2 j (by omega)).1] at hv; cases hv; exact fits_lo8 _
    · obtain ⟨j, rfl⟩ : ∃ j, i = 2 * j + 1 := ⟨i / 2, by omega⟩
      rw [(k2 j (by omega)).2] at hv; cases hv; exact fits_lo8 _
/-- the same text -/
def SameT (n : Nat) (f : Nat → Int32) (k : Nat) (g : Nat → Int32) : Prop := n = k ∧ ∀ j, j < n → f j = g j
theorem lo8_inj {x y : Int32} (h0 : ¬ x < 0) (h1 : ¬ 255 < x) (k0 : ¬ y < 0) (k1 : ¬ 255 < y) (h : lo8 x = lo8 y) : x = y := by
  rw [← lo8_mask h0 h1, ← lo8_mask k0 k1, h]
/-- arrays coded by one coder are equal just where the texts are -/
theorem Cod.eqv {cd : Int32} {n k : Nat} {f g : Nat → Int32} {V V' : Cell} (h : Cod cd n f V) (h' : Cod cd k g V') (hf : ∀ j, j < n → ¬ f j < 0 ∧ ¬ 65535 < f j) (hg : ∀ j, j < k → ¬ g j < 0 ∧ ¬ 65535 < g j) : EqC V V' ↔ SameT n f k g := by
  have yvv : ∀ {W : Cell} {i : Nat} {x : Int32}, W.slots[i]? = some (.int x) → yv W i = x := fun q => by unfold yv; rw [q]
  rcases h with ⟨rfl, k1, k2⟩ | ⟨rfl, k1, k2, -⟩
  · rcases h' with ⟨-, m1, m2⟩ | ⟨e, -⟩
    · constructor
      · rintro ⟨e1, e2⟩
        refine ⟨by omega, fun j hj => ?_⟩
        have q := e2 j (by omega)
        rw [yvv (k2 j hj).1, yvv (m2 j (by omega)).1] at q
        exact lo8_inj (hf j hj).1 (k2 j hj).2 (hg j (by omega)).1 (m2 j (by omega)).2 q
      · rintro ⟨rfl, e2⟩
        refine ⟨by omega, fun j hj => ?_⟩
        rw [yvv (k2 j (by omega)).1, yvv (m2 j (by omega)).1, e2 j (by omega)]
    · exact absurd e (by decide)
  · rcases h' with ⟨e, -⟩ | ⟨-, m1, m2, -⟩
    · exact absurd e (by decide)
    · constructor
      · rintro ⟨e1, e2⟩
        refine ⟨by omega, fun j hj => ?_⟩
        have q1 := e2 (2 * j) (by omega)
        have q2 := e2 (2 * j + 1) (by omega)
        rw [yvv (k2 j hj).1, yvv (m2 j (by omega)).1] at q1
        rw [yvv (k2 j hj).2, yvv (m2 j (by omega)).2] at q2
        rw [← pair_says (hf j hj).1 (hf j hj).2, ← pair_says (hg j (by omega)).1 (hg j (by omega)).2, q1, q2]
      · rintro ⟨rfl, e2⟩
        refine ⟨by omega, fun i hi => ?_⟩
        rcases Nat.mod_two_eq_zero_or_one i with e | e
        · obtain ⟨j, rfl⟩ : ∃ j, i = 2 * j := ⟨i / 2, by omega⟩
          rw [yvv (k2 j (by omega)).1, yvv (m2 j (by omega)).1, e2 j (by omega)]
        · obtain ⟨j, rfl⟩ : ∃ j, i = 2 * j + 1 := ⟨i / 2, by omega⟩
          rw [yvv (k2 j (by omega)).2, yvv (m2 j (by omega)).2, e2 j (by omega)]
/-- two codings differ: so do the texts -/
theorem Cod.dif {cd cd' : Int32} {n k : Nat} {f g : Nat → Int32} {V V' : Cell} (h : Cod cd n f V) (h' : Cod cd' k g V') (hne : ¬ cd = cd') : ¬ SameT n f k g := by
  rintro ⟨rfl, e⟩
  rcases h with ⟨rfl, -, k2⟩ | ⟨rfl, -, -, j, hj, hw⟩
  · rcases h' with ⟨rfl, -⟩ | ⟨-, -, -, j, hj, hw⟩
    · exact hne rfl
    · exact (k2 j hj).2 (by rw [e j hj]; exact hw)
  · rcases h' with ⟨-, -, m2⟩ | ⟨rfl, -⟩
    · exact (m2 j hj).2 (by rw [← e j hj]; exact hw)
    · exact hne rfl
/-- an object of exactly C is an instance of C -/
theorem cinst {p : Program} {l : Launch} {e : Env} {R : Room} {s : State} {m : MethodId} {args : Array Value} {below : List Frame} {meth : Method} {c : Code} {T : State} {locs : List Loc} {cells slots : Nat} (X : Stand p l e R s m args below meth c T locs cells slots) (hexec : p.tables.exec = Jvm.exec) {own C : String} {index : Nat} (hown : s.vm.findClass own = some m.cls) (hlink : (Cond.classLink own index C).before args s = true) {a : Addr} (hE : Exact C a T)
    {g : JFrame} (hg : g.method = m) {rest : List Value} (hstack : g.stack = .ref a :: rest) (hdg : decode c.code g.pc = .ok (.instanceof index, 3)) :
    ∃ T', Stand p l e R s m args below meth c T' locs cells slots ∧ T'.heap = T.heap ∧ ∀ target, Steps p.tables e below (T'.setTop { g with pc := g.pc + 3, stack := .int 1 :: rest }) target → Steps p.tables e below (T.setTop g) target := by
  obtain ⟨cB, h1, D, h2, h3, h4⟩ := hE
  have h1' : s.vm.findClass C = some cB := by rw [← X.warmed.alike.findClass]; exact h1
  obtain ⟨vm', X', st⟩ := X.instanceofYes hexec hown hlink h2 h4 h1' (by rw [h3]; exact Jvm.Free.SB.assignable_self _ _) hg hstack hdg
  exact ⟨_, X', rfl, st⟩
theorem cself {p : Program} {l : Launch} {e : Env} {R : Room} {s : State} {m : MethodId} {args : Array Value} {below : List Frame} {meth : Method} {c : Code} {T : State} {locs : List Loc} {cells slots : Nat} (X : Stand p l e R s m args below meth c T locs cells slots) (hexec : p.tables.exec = Jvm.exec) {own C : String} {index : Nat} (hown : s.vm.findClass own = some m.cls) (hlink : (Cond.classLink own index C).before args s = true) {a : Addr} (hE : Exact C a T)
    {g : JFrame} (hg : g.method = m) {rest : List Value} (hstack : g.stack = .ref a :: rest) (hdg : decode c.code g.pc = .ok (.checkcast index, 3)) :
    ∃ T', Stand p l e R s m args below meth c T' locs cells slots ∧ T'.heap = T.heap ∧ ∀ target, Steps p.tables e below (T'.setTop { g with pc := g.pc + 3, stack := .ref a :: rest }) target → Steps p.tables e below (T.setTop g) target := by
  obtain ⟨cB, h1, D, h2, h3, h4⟩ := hE
  have h1' : s.vm.findClass C = some cB := by rw [← X.warmed.alike.findClass]; exact h1
  obtain ⟨vm', X', st⟩ := X.checkcastYes hexec hown hlink h2 h4 h1' (by rw [h3]; exact Jvm.Free.SB.assignable_self _ _) hg hstack hdg
  exact ⟨_, X', rfl, fun t h => st t (by rw [← hstack] at h; exact h)⟩
namespace SEq
def yN : MethodName := ⟨"java/lang/String", "equals", "(Ljava/lang/Object;)Z"⟩
abbrev yB : ByteArray := jdk_42_method_66_code
theorem d0 : decode yB 0 = .ok (.aload_n 0, 1) := by decide +kernel
theorem d1 : decode yB 1 = .ok (.aload_n 1, 1) := by decide +kernel
theorem d2 : decode yB 2 = .ok (.if_acmp (.ne) 5, 3) := by decide +kernel
theorem d5 : decode yB 5 = .ok (.iconst 1, 1) := by decide +kernel
theorem d6 : decode yB 6 = .ok (.ireturn, 1) := by decide +kernel
theorem d7 : decode yB 7 = .ok (.aload_n 1, 1) := by decide +kernel
theorem d8 : decode yB 8 = .ok (.instanceof 10, 3) := by decide +kernel
theorem d11 : decode yB 11 = .ok (.ifCond (.eq) 43, 3) := by decide +kernel
theorem d14 : decode yB 14 = .ok (.aload_n 1, 1) := by decide +kernel
theorem d15 : decode yB 15 = .ok (.checkcast 10, 3) := by decide +kernel
theorem d18 : decode yB 18 = .ok (.astore_n 2, 1) := by decide +kernel
theorem d19 : decode yB 19 = .ok (.getstatic 38, 3) := by decide +kernel
theorem d22 : decode yB 22 = .ok (.ifCond (.eq) 14, 3) := by decide +kernel
theorem d25 : decode yB 25 = .ok (.aload_n 0, 1) := by decide +kernel
theorem d26 : decode yB 26 = .ok (.getfield 15, 3) := by decide +kernel
theorem d29 : decode yB 29 = .ok (.aload_n 2, 1) := by decide +kernel
theorem d30 : decode yB 30 = .ok (.getfield 15, 3) := by decide +kernel
theorem d33 : decode yB 33 = .ok (.if_icmp (.ne) 21, 3) := by decide +kernel
theorem d36 : decode yB 36 = .ok (.aload_n 0, 1) := by decide +kernel
theorem d37 : decode yB 37 = .ok (.getfield 9, 3) := by decide +kernel
theorem d40 : decode yB 40 = .ok (.aload_n 2, 1) := by decide +kernel
theorem d41 : decode yB 41 = .ok (.getfield 9, 3) := by decide +kernel
theorem d44 : decode yB 44 = .ok (.invokestatic 541, 3) := by decide +kernel
theorem d47 : decode yB 47 = .ok (.ifCond (.eq) 7, 3) := by decide +kernel
theorem d50 : decode yB 50 = .ok (.iconst 1, 1) := by decide +kernel
theorem d51 : decode yB 51 = .ok (.goto 4, 3) := by decide +kernel
theorem d54 : decode yB 54 = .ok (.iconst 0, 1) := by decide +kernel
theorem d55 : decode yB 55 = .ok (.ireturn, 1) := by decide +kernel
def site : List Cond := [.classLink "java/lang/String" 10 "java/lang/String", .fieldLink "java/lang/String" 38 "java/lang/String" "COMPACT_STRINGS" "Z", .fieldLink "java/lang/String" 15 "java/lang/String" "coder" "B", .fieldLink "java/lang/String" 9 "java/lang/String" "value" "[B", LEq.tab] ++ staticW "java/lang/String" 541 LEq.yN
def tab : Cond := tabOf yN yB 3 (some .boolean) site
def P (x t : Addr) (V : Cell) (cd : Int32) (n : Nat) (f : Nat → Int32) (y t' : Addr) (V' : Cell) (cd' : Int32) (k : Nat) (g : Nat → Int32) (z : Int32) (args : Array Value) (s : State) : Prop := args = #[.ref x, .ref y] ∧ Txt x t V cd n f s ∧ Txt y t' V' cd' k g s ∧ StaticIs s "java/lang/String" "COMPACT_STRINGS" "Z" (.int z) ∧ ¬ z = 0
/-- equals(Object) of two Strings: whether the texts are the same -/
theorem law (l : Launch) (x t : Addr) (V : Cell) (cd : Int32) (n : Nat) (f : Nat → Int32) (y t' : Addr) (V' : Cell) (cd' : Int32) (k : Nat) (g : Nat → Int32) (z : Int32) : Law l yN 2 1 1 14 yB 3 (some .boolean) site (P x t V cd n f y t' V' cd' k g z) (Says01 (SameT n f k g)) [] 0 0 := by
  refine Law.of_walk (plainFor_of_name (by decide +kernel)) (by decide +kernel) (by decide +kernel) (by decide) (fun _ _ h => by rw [h.1]; rfl) (fun _ U U' hal hh h => ⟨h.1, h.2.1.mv hal hh, h.2.2.1.mv hal hh, h.2.2.2.1.there hal hh, h.2.2.2.2⟩) (fun r U U' V V' h1 hal h2 h => Says01.mv r U U' V V' h1 hal h2 h) ?_
  intro p e s m args below meth c s₁ X0 hexec hbytes hml hret hlk hnm hown hh0 W hP
  obtain ⟨rfl, hx, hy, s1, hz⟩ := hP
  have c1 : Steps p.tables e below (s₁.setTop (entryFrame m #[.ref x, .ref y] 3)) (s₁.setTop (mkF m 2 #[.val (.ref x), .val (.ref y), .unset] [.ref y, .ref x])) := Steps.trans (entry rfl) (by
    show Steps p.tables e below (s₁.setTop (mkF m 0 #[.val (.ref x), .val (.ref y), .unset] [])) _
    refine XS.aloadN X0.here hexec rfl (hb hbytes d0) rfl rfl ?_
    refine XS.aloadN X0.here hexec rfl (hb hbytes d1) rfl rfl ?_
    exact Steps.refl _)
  by_cases hxy : x = y
  · have c2 : Steps p.tables e below (s₁.setTop (entryFrame m #[.ref x, .ref y] 3)) (s₁.setTop (mkF m 6 #[.val (.ref x), .val (.ref y), .unset] [.int 1])) := c1.trans (by
      refine acmpNo X0.here hexec rfl (hb hbytes d2) rfl rfl rfl (by simp [acmp, hxy]) ?_
      refine iconstV X0.here hexec rfl 1 (hb hbytes d5) (by decide) ?_
      exact Steps.refl _)
    subst hxy
    have ec : cd = cd' := by
      obtain ⟨D, fd, a1, a2, a3⟩ := hx.2.2.1
      obtain ⟨D', fd', b1, b2, b3⟩ := hy.2.2.1
      cases a1.symm.trans b1
      obtain ⟨q1, q2, q3, q4⟩ := a2.1
      obtain ⟨r1, r2, r3, r4⟩ := b2.1
      cases q4.symm.trans r4
      cases a3.symm.trans b3; rfl
    have et : t = t' := by
      obtain ⟨D, fd, a1, a2, a3⟩ := hx.2.1
      obtain ⟨D', fd', b1, b2, b3⟩ := hy.2.1
      cases a1.symm.trans b1
      obtain ⟨q1, q2, q3, q4⟩ := a2.1
      obtain ⟨r1, r2, r3, r4⟩ := b2.1
      cases q4.symm.trans r4
      cases a3.symm.trans b3; rfl
    subst ec et
    have ev : V = V' := by cases hx.2.2.2.1.1.symm.trans hy.2.2.2.1.1; rfl
    subst ev
    have hs : SameT n f k g := (Cod.eqv hx.2.2.2.2.1 hy.2.2.2.2.1 hx.2.2.2.2.2 hy.2.2.2.2.2).mp ⟨rfl, fun _ _ => rfl⟩
    exact ⟨s₁, some (.int 1), _, _, _, X0, rfl, rfl, rfl, (fun h => by cases h), ⟨1, rfl, hh0, Or.inl ⟨rfl, hs⟩⟩, fun fs hl => c2.trans (X0.ireturnOut hexec hret rfl (Or.inr (Or.inl rfl)) (hb hbytes d6) hl)⟩
  · have c2 : Steps p.tables e below (s₁.setTop (entryFrame m #[.ref x, .ref y] 3)) (s₁.setTop (mkF m 8 #[.val (.ref x), .val (.ref y), .unset] [.ref y])) := c1.trans (by
      refine acmpYes X0.here hexec rfl (pc0 := 2) rfl (hb hbytes d2) rfl rfl rfl (by simp [acmp, hxy]) (by decide) rfl ?_
      refine XS.aloadN X0.here hexec rfl (hb hbytes d7) rfl rfl ?_
      exact Steps.refl _)
    obtain ⟨T3, X3, q3, st3⟩ := cinst X0 hexec hown (wk W (.classLink "java/lang/String" 10 "java/lang/String")) (hy.mv X0.warmed.alike hh0).1 (g := (mkF m 8 #[.val (.ref x), .val (.ref y), .unset] [.ref y])) rfl (rest := []) rfl (hb hbytes d8)
    have hh3 := q3.trans hh0
    have c4 : Steps p.tables e below (s₁.setTop (entryFrame m #[.ref x, .ref y] 3)) (T3.setTop (mkF m 15 #[.val (.ref x), .val (.ref y), .unset] [.ref y])) := (c2.trans (st3 _ (Steps.refl _))).trans (by
      refine XS.ifNo X3.here hexec rfl (hb hbytes d11) rfl (i0_eq_f (by decide)) ?_
      refine XS.aloadN X3.here hexec rfl (hb hbytes d14) rfl rfl ?_
      exact Steps.refl _)
    obtain ⟨T5, X5, q5, st5⟩ := cself X3 hexec hown (wk W (.classLink "java/lang/String" 10 "java/lang/String")) (hy.mv X3.warmed.alike hh3).1 (g := (mkF m 15 #[.val (.ref x), .val (.ref y), .unset] [.ref y])) rfl (rest := []) rfl (hb hbytes d15)
    have hh5 := q5.trans hh3
    have c6 : Steps p.tables e below (s₁.setTop (entryFrame m #[.ref x, .ref y] 3)) (T5.setTop (mkF m 19 #[.val (.ref x), .val (.ref y), .val (.ref y)] [])) := (c4.trans (st5 _ (Steps.refl _))).trans (by
      refine XS.astoreN X5.here hexec rfl (hb hbytes d18) rfl rfl rfl ?_
      exact Steps.refl _)
    obtain ⟨T7, X7, q7, st7⟩ := X5.sget hexec hown (wk W (.fieldLink "java/lang/String" 38 "java/lang/String" "COMPACT_STRINGS" "Z")) s1 (fun _ _ h => by rw [hh5]; exact h) (g := (mkF m 19 #[.val (.ref x), .val (.ref y), .val (.ref y)] [])) rfl (hb hbytes d19)
    have hh7 := q7.trans hh5
    have c8 : Steps p.tables e below (s₁.setTop (entryFrame m #[.ref x, .ref y] 3)) (T7.setTop (mkF m 26 #[.val (.ref x), .val (.ref y), .val (.ref y)] [.ref x])) := (c6.trans (st7 _ (Steps.refl _))).trans (by
      refine XS.ifNo X7.here hexec rfl (hb hbytes d22) rfl (i0_eq_f hz) ?_
      refine XS.aloadN X7.here hexec rfl (hb hbytes d25) rfl rfl ?_
      exact Steps.refl _)
    obtain ⟨T9, X9, q9, st9⟩ := X7.hget hexec hown (wk W (.fieldLink "java/lang/String" 15 "java/lang/String" "coder" "B")) (hx.mv X7.warmed.alike hh7).2.2.1 (g := (mkF m 26 #[.val (.ref x), .val (.ref y), .val (.ref y)] [.ref x])) rfl (rest := []) rfl (hb hbytes d26)
    have hh9 := q9.trans hh7
    have c10 : Steps p.tables e below (s₁.setTop (entryFrame m #[.ref x, .ref y] 3)) (T9.setTop (mkF m 30 #[.val (.ref x), .val (.ref y), .val (.ref y)] [.ref y, .int cd])) := (c8.trans (st9 _ (Steps.refl _))).trans (by
      refine XS.aloadN X9.here hexec rfl (hb hbytes d29) rfl rfl ?_
      exact Steps.refl _)
    obtain ⟨T11, X11, q11, st11⟩ := X9.hget hexec hown (wk W (.fieldLink "java/lang/String" 15 "java/lang/String" "coder" "B")) (hy.mv X9.warmed.alike hh9).2.2.1 (g := (mkF m 30 #[.val (.ref x), .val (.ref y), .val (.ref y)] [.ref y, .int cd])) rfl (rest := [.int cd]) rfl (hb hbytes d30)
    have hh11 := q11.trans hh9
    have c12 : Steps p.tables e below (s₁.setTop (entryFrame m #[.ref x, .ref y] 3)) (T11.setTop (mkF m 33 #[.val (.ref x), .val (.ref y), .val (.ref y)] [.int cd', .int cd])) := c10.trans (st11 _ (Steps.refl _))
    by_cases hcd : cd = cd'
    · subst hcd
      have c13 : Steps p.tables e below (s₁.setTop (entryFrame m #[.ref x, .ref y] 3)) (T11.setTop (mkF m 37 #[.val (.ref x), .val (.ref y), .val (.ref y)] [.ref x])) := c12.trans (by
        refine XS.icmpNo X11.here hexec rfl (hb hbytes d33) rfl (ii_ne_f rfl) ?_
        refine XS.aloadN X11.here hexec rfl (hb hbytes d36) rfl rfl ?_
        exact Steps.refl _)
      obtain ⟨T14, X14, q14, st14⟩ := X11.hget hexec hown (wk W (.fieldLink "java/lang/String" 9 "java/lang/String" "value" "[B")) (hx.mv X11.warmed.alike hh11).2.1 (g := (mkF m 37 #[.val (.ref x), .val (.ref y), .val (.ref y)] [.ref x])) rfl (rest := []) rfl (hb hbytes d37)
      have hh14 := q14.trans hh11
      have c15 : Steps p.tables e below (s₁.setTop (entryFrame m #[.ref x, .ref y] 3)) (T14.setTop (mkF m 41 #[.val (.ref x), .val (.ref y), .val (.ref y)] [.ref y, .ref t])) := (c13.trans (st14 _ (Steps.refl _))).trans (by
        refine XS.aloadN X14.here hexec rfl (hb hbytes d40) rfl rfl ?_
        exact Steps.refl _)
      obtain ⟨T16, X16, q16, st16⟩ := X14.hget hexec hown (wk W (.fieldLink "java/lang/String" 9 "java/lang/String" "value" "[B")) (hy.mv X14.warmed.alike hh14).2.1 (g := (mkF m 41 #[.val (.ref x), .val (.ref y), .val (.ref y)] [.ref y, .ref t])) rfl (rest := [.ref t]) rfl (hb hbytes d41)
      have hh16 := q16.trans hh14
      have c17 : Steps p.tables e below (s₁.setTop (entryFrame m #[.ref x, .ref y] 3)) (T16.setTop (mkF m 44 #[.val (.ref x), .val (.ref y), .val (.ref y)] [.ref t', .ref t])) := c15.trans (st16 _ (Steps.refl _))
      obtain ⟨v18, T18, X18, E18, g18⟩ := X16.callS hexec (LEq.law l t V t' V') hown (wks W (staticW "java/lang/String" 541 LEq.yN)) (wk W LEq.tab) (W := 0) (Nat.le_of_ble_eq_true rfl) (Nat.le_of_ble_eq_true rfl) (Nat.le_refl _) (Nat.le_refl _) (g := (mkF m 44 #[.val (.ref x), .val (.ref y), .val (.ref y)] [.ref t', .ref t])) rfl (by rw [hml]; rfl) c17 (argsL := [.ref t, .ref t']) (rest := []) rfl rfl (by show 2 * 0 + 0 ≤ _; decide) (hb hbytes d44) (⟨rfl, hx.2.2.2.1.mv X16.warmed.alike hh16, hx.2.2.2.2.1.ty, hy.2.2.2.1.mv X16.warmed.alike hh16, hy.2.2.2.2.1.ty⟩)
      obtain ⟨v, rfl, q18, hv⟩ := E18
      have iff := Cod.eqv hx.2.2.2.2.1 hy.2.2.2.2.1 hx.2.2.2.2.2 hy.2.2.2.2.2
      rcases hv with ⟨rfl, he⟩ | ⟨rfl, he⟩
      · have c19 : Steps p.tables e below (s₁.setTop (entryFrame m #[.ref x, .ref y] 3)) (T18.setTop (mkF m 55 #[.val (.ref x), .val (.ref y), .val (.ref y)] [.int 1])) := Steps.trans g18 (by
          refine XS.ifNo X18.here hexec rfl (hb hbytes d47) rfl (i0_eq_f (by decide)) ?_
          refine iconstV X18.here hexec rfl 1 (hb hbytes d50) (by decide) ?_
          refine XS.goto X18.here hexec rfl (pc0 := 51) rfl (hb hbytes d51) (by decide) rfl ?_
          exact Steps.refl _)
        exact ⟨T18, some (.int 1), _, _, _, X18, rfl, rfl, rfl, (fun h => by cases h), ⟨1, rfl, q18.trans hh16, Or.inl ⟨rfl, iff.mp he⟩⟩, fun fs hl => c19.trans (X18.ireturnOut hexec hret rfl (Or.inr (Or.inl rfl)) (hb hbytes d55) hl)⟩
      · have c19 : Steps p.tables e below (s₁.setTop (entryFrame m #[.ref x, .ref y] 3)) (T18.setTop (mkF m 55 #[.val (.ref x), .val (.ref y), .val (.ref y)] [.int 0])) := Steps.trans g18 (by
          refine XS.ifYes X18.here hexec rfl (pc0 := 47) rfl (hb hbytes d47) rfl (i0_eq_t rfl) (by decide) rfl ?_
          refine iconstV X18.here hexec rfl 0 (hb hbytes d54) (by decide) ?_
          exact Steps.refl _)
        exact ⟨T18, some (.int 0), _, _, _, X18, rfl, rfl, rfl, (fun h => by cases h), ⟨0, rfl, q18.trans hh16, Or.inr ⟨rfl, fun q => he (iff.mpr q)⟩⟩, fun fs hl => c19.trans (X18.ireturnOut hexec hret rfl (Or.inr (Or.inl rfl)) (hb hbytes d55) hl)⟩
    · have c13 : Steps p.tables e below (s₁.setTop (entryFrame m #[.ref x, .ref y] 3)) (T11.setTop (mkF m 55 #[.val (.ref x), .val (.ref y), .val (.ref y)] [.int 0])) := c12.trans (by
        refine XS.icmpYes X11.here hexec rfl (pc0 := 33) rfl (hb hbytes d33) rfl (ii_ne_t hcd) (by decide) rfl ?_
        refine iconstV X11.here hexec rfl 0 (hb hbytes d54) (by decide) ?_
        exact Steps.refl _)
      exact ⟨T11, some (.int 0), _, _, _, X11, rfl, rfl, rfl, (fun h => by cases h), ⟨0, rfl, hh11, Or.inr ⟨rfl, Cod.dif hx.2.2.2.2.1 hy.2.2.2.2.1 hcd⟩⟩, fun fs hl => c13.trans (X11.ireturnOut hexec hret rfl (Or.inr (Or.inl rfl)) (hb hbytes d55) hl)⟩
theorem pays {l : Launch} {R : Room} {p : Program} {e : Env} {below : List Frame} {s : State} {sargs : Array Value} {len W : Nat} (x t : Addr) (V : Cell) (cd : Int32) (n : Nat) (f : Nat → Int32) (y t' : Addr) (V' : Cell) (cd' : Int32) (k : Nat) (g : Nat → Int32) (z : Int32) (htab : tab.before sargs s = true) (hfr : 2 ≤ R.frames) (hlo : W + 28 ≤ R.locals) :
    Back l R p e below s sargs yN len W (fun A₁ a₁ => A₁.cells + 0 ≤ R.cells ∧ A₁.slots + 0 ≤ R.slots ∧ P x t V cd n f y t' V' cd' k g z a₁ A₁.U) (fun A₁ _ v₁ B₁ => Says01 (SameT n f k g) v₁ A₁.U B₁.U ∧ B₁.locs = A₁.locs ++ [] ∧ B₁.cells = A₁.cells + 0 ∧ B₁.slots = A₁.slots + 0) :=
  (law l x t V cd n f y t' V' cd' k g z).pays htab hfr (by omega)
end SEq
end StrChars
namespace StrChars.Road
open Jvm Sem ClassFile Op Lib Jvm.Stand Jvm.Free Jvm.Free.XT
open Jvm.Lib.Cold (StaticIs)
/-- the words of String.equals(Object) -/
abbrev wordsEq : List Jvm.Cond := [.code SEq.yN SEq.yB 3 (some .boolean), .initialized ST, .classLink ST 10 ST, .fieldLink ST 38 ST "COMPACT_STRINGS" "Z", .fieldLink ST 15 ST "coder" "B", .fieldLink ST 9 ST "value" "[B", .methodLink ST 541 LEq.yN, .static LEq.yN, .code LEq.yN LEq.yB 3 (some .boolean), .initialized "java/lang/StringLatin1"]
theorem tabEq_of {a : Array Value} {s : State} (h : ∀ w ∈ wordsEq, w.before a s = true) : SEq.tab.before a s = true := by
  have hl : LEq.tab.before a s = true := unparts (wk h (.code LEq.yN LEq.yB 3 (some .boolean))) (wks h (.initialized LEq.yN.cls :: LEq.site))
  have q := consq hl h
  exact unparts (wk q (.code SEq.yN SEq.yB 3 (some .boolean))) (wks q (.initialized SEq.yN.cls :: SEq.site))
theorem movedEq {Z s : State} {a0 args : Array Value} (hZ : Z.Warmed39 s.vm) (hw : ∀ d ∈ wordsEq, d.before a0 Z = true) : ∀ d ∈ wordsEq, d.before args s = true := fun d hd => by
  have t : ∀ d ∈ wordsEq, (d.onTables && d.keepsFace) = true := by decide +kernel
  exact RoadKit.mv hZ (hw d hd) (t d hd)
/-- the road's facts of a String, as the laws ask it -/
theorem txt_of {Z U : State} {a0 : Array Value} {kI : Nat} (wi : (Jvm.Cond.instantiable ST kI).before a0 Z = true) (al : Z.vm.Alike U.vm) {x t : Addr} {kb : ClassId} {cs : List Int32} {cd N2 : Int32} {vs : List Value} (E : RoadKit.Exa Z U.heap x ST) (V : RoadKit.Fld Z U.heap x ST "value" "[B" (.ref t)) (C : RoadKit.Fld Z U.heap x ST "coder" "B" (.int cd)) (K : RoadKit.Arv Z U.heap t kb .byte N2 vs (.int 0)) (hc : CodA cs cd N2 vs) (hb : ∀ c ∈ cs, ¬ c < 0 ∧ ¬ (65535 : Int32) < c) (l2 : cs.length ≤ 4000) :
    ∃ A, Txt x t A cd cs.length (fun j => cs.getD j 0) U := by
  obtain ⟨A, K1, K2, K3, K4, K5, K6⟩ := K
  have hcod := hc.cod (by omega) K3 K5
  obtain ⟨D, fV, fC, hB, F1, F2, g1, g2, -, -⟩ := strObj wi al E V C
  exact ⟨A, ⟨_, hB.2.2.1, D, hB.1, rfl, by cases q : D.vm <;> first | rfl | exact absurd q (hB.2.1.2 _)⟩, Has.of hB F1 g1, Has.of hB F2 g2, ⟨K1.1, State.isArrayOf_alike al K1.2.1, K1.2.2, by rcases hcod with ⟨-, q, -⟩ | ⟨-, q, -⟩ <;> omega⟩, hcod, fun j hj => by
    have e : cs.getD j 0 = cs[j] := by simp [List.getD_eq_getElem?_getD, hj]
    show ¬ cs.getD j 0 < 0 ∧ ¬ 65535 < cs.getD j 0
    rw [e]; exact hb _ (List.getElem_mem _)⟩
theorem same_list (cs ds : List Int32) : SameT cs.length (fun j => cs.getD j 0) ds.length (fun j => ds.getD j 0) ↔ cs = ds := by
  constructor
  · rintro ⟨e, q⟩
    refine List.ext_getElem e fun j h1 h2 => ?_
    have := q j h1
    simpa [List.getD_eq_getElem?_getD, h1, h2] using this
  · rintro rfl
    exact ⟨rfl, fun _ _ => rfl⟩
/-- **equals(Object) OF TWO SUCH STRINGS**: 1 just where the chars are the same -/
theorem eqW {p : Program} {l : Launch} {e : Env} {R : Room} {s : State} {args : Array Value} {below : List Frame} {len W : Nat} {Z : State} {a0 : Array Value} {h : Heap} (hZ : Z.Warmed39 s.vm) (hw : ∀ d ∈ wordsEq, d.before a0 Z = true) {kI : Nat} (wi : (Jvm.Cond.instantiable ST kI).before a0 Z = true)
    {x t : Addr} {kb : ClassId} {cs : List Int32} {cd N2 : Int32} {vs : List Value} (E : RoadKit.Exa Z h x ST) (V : RoadKit.Fld Z h x ST "value" "[B" (.ref t)) (C : RoadKit.Fld Z h x ST "coder" "B" (.int cd)) (K : RoadKit.Arv Z h t kb .byte N2 vs (.int 0)) (hc : CodA cs cd N2 vs) (hb : ∀ c ∈ cs, ¬ c < 0 ∧ ¬ (65535 : Int32) < c) (l2 : cs.length ≤ 4000)
    {y t' : Addr} {kb' : ClassId} {ds : List Int32} {cd' N2' : Int32} {vs' : List Value} (E' : RoadKit.Exa Z h y ST) (V' : RoadKit.Fld Z h y ST "value" "[B" (.ref t')) (C' : RoadKit.Fld Z h y ST "coder" "B" (.int cd')) (K' : RoadKit.Arv Z h t' kb' .byte N2' vs' (.int 0)) (hc' : CodA ds cd' N2' vs') (hb' : ∀ c ∈ ds, ¬ c < 0 ∧ ¬ (65535 : Int32) < c) (l2' : ds.length ≤ 4000)
    {z : Int32} (S : RoadKit.Sta Z h ST "COMPACT_STRINGS" "Z" (.int z)) (hz : ¬ z = 0) (hfr : 2 ≤ R.frames) (hlo : W + 28 ≤ R.locals) :
    Back l R p e below s args (⟨"java/lang/String", "equals", "(Ljava/lang/Object;)Z"⟩ : MethodName) len W (fun P a => a = #[.ref x, .ref y] ∧ P.U.heap = h ∧ P.cells + 0 ≤ R.cells ∧ P.slots + 0 ≤ R.slots)
      (fun P _ v B => ∃ L, (((v = some (.int 1) ∧ cs = ds) ∨ (v = some (.int 0) ∧ ¬ cs = ds)) ∧ L = [] ∧ B.U.heap = h) ∧ B.locs = P.locs ++ L ∧ B.cells = P.cells + 0 ∧ B.slots = P.slots + 0) := by
  intro m meth c P g ig mk a X hg hsize hdg hW hn hp'
  obtain ⟨rfl, rfl, r1, r2⟩ := hp'
  have al : Z.vm.Alike P.U.vm := hZ.alike.trans X.warmed.alike
  obtain ⟨A, hx⟩ := txt_of wi al E V C K hc hb l2
  obtain ⟨A', hy⟩ := txt_of wi al E' V' C' K' hc' hb' l2'
  obtain ⟨v, B, X', ⟨⟨w, hv, hh, hq⟩, hl, hk, hs⟩, st⟩ := SEq.pays x t A cd cs.length (fun j => cs.getD j 0) y t' A' cd' ds.length (fun j => ds.getD j 0) z (tabEq_of (movedEq hZ hw)) hfr hlo m meth c P g ig mk _ X hg hsize hdg hW hn ⟨r1, r2, rfl, hx, hy, sta_is al S, hz⟩
  refine ⟨v, B, X', ⟨[], ⟨?_, rfl, hh⟩, hl, hk, hs⟩, st⟩
  rcases hq with ⟨rfl, q⟩ | ⟨rfl, q⟩
  · exact Or.inl ⟨hv, (same_list cs ds).mp q⟩
  · exact Or.inr ⟨hv, fun e => q ((same_list cs ds).mpr e)⟩
end StrChars.Road
end Jvm.Pilot.@@N@@
namespace Jvm.Pilot.@@N@@
open Jvm Jvm.ClassFile Sem Op Lib Jvm.Free Jvm.Stand Jvm.LawKit Jvm.RoadKit Bundle Jvm.OwnGo Jvm.Pilot.@@N@@.Jvm.D
theorem w_0 : (Jvm.Cond.classLink "com/example/cato/cato/message/SegmentEqualsPinLaw" (26 : Nat) "com/example/cato/cato/message/MessageTemplate$Segment") ∈ tables_1 := List.mem_of_getElem? (i := 0) rfl
theorem w_1 : (Jvm.Cond.instantiable "com/example/cato/cato/message/MessageTemplate$Segment" (3 : Nat)) ∈ tables_1 := List.mem_of_getElem? (i := 1) rfl
theorem w_2 : (Jvm.Cond.initialized "com/example/cato/cato/message/MessageTemplate$Segment") ∈ tables_1 := List.mem_of_getElem? (i := 2) rfl
theorem w_3 : (Jvm.Cond.methodLink "com/example/cato/cato/message/SegmentEqualsPinLaw" (28 : Nat) ({ cls := "com/example/cato/cato/message/SegmentEqualsPinLaw", name := "kind", desc := "(I)Lcom/example/cato/cato/message/MessageTemplate$Segment$Kind;" } : Jvm.MethodName)) ∈ tables_1 := List.mem_of_getElem? (i := 3) rfl
theorem w_4 : (Jvm.Cond.static ({ cls := "com/example/cato/cato/message/SegmentEqualsPinLaw", name := "kind", desc := "(I)Lcom/example/cato/cato/message/MessageTemplate$Segment$Kind;" } : Jvm.MethodName)) ∈ tables_1 := List.mem_of_getElem? (i := 4) rfl
theorem w_5 : (Jvm.Cond.initialized "com/example/cato/cato/message/SegmentEqualsPinLaw") ∈ tables_1 := List.mem_of_getElem? (i := 5) rfl
theorem w_6 : (Jvm.Cond.code ({ cls := "com/example/cato/cato/message/SegmentEqualsPinLaw", name := "kind", desc := "(I)Lcom/example/cato/cato/message/MessageTemplate$Segment$Kind;" } : Jvm.MethodName) method_2_code (1 : Nat) (Option.some (Jvm.ClassFile.FieldType.object "com/example/cato/cato/message/MessageTemplate$Segment$Kind"))) ∈ tables_1 := List.mem_of_getElem? (i := 6) rfl
theorem w_7 : (Jvm.Cond.fieldLink "com/example/cato/cato/message/SegmentEqualsPinLaw" (7 : Nat) "com/example/cato/cato/message/MessageTemplate$Segment$Kind" "TEXT" "Lcom/example/cato/cato/message/MessageTemplate$Segment$Kind;") ∈ tables_1 := List.mem_of_getElem? (i := 7) rfl
theorem w_8 : (Jvm.Cond.initialized "com/example/cato/cato/message/MessageTemplate$Segment$Kind") ∈ tables_1 := List.mem_of_getElem? (i := 8) rfl
theorem w_9 : (Jvm.Cond.laysStatic "com/example/cato/cato/message/MessageTemplate$Segment$Kind" "TEXT" "Lcom/example/cato/cato/message/MessageTemplate$Segment$Kind;") ∈ tables_1 := List.mem_of_getElem? (i := 9) rfl
theorem w_10 : (Jvm.Cond.methodLink "com/example/cato/cato/message/SegmentEqualsPinLaw" (34 : Nat) ({ cls := "com/example/cato/cato/message/SegmentEqualsPinLaw", name := "str", desc := "(I)Ljava/lang/String;" } : Jvm.MethodName)) ∈ tables_1 := List.mem_of_getElem? (i := 10) rfl
theorem w_11 : (Jvm.Cond.static ({ cls := "com/example/cato/cato/message/SegmentEqualsPinLaw", name := "str", desc := "(I)Ljava/lang/String;" } : Jvm.MethodName)) ∈ tables_1 := List.mem_of_getElem? (i := 11) rfl
theorem w_12 : (Jvm.Cond.code ({ cls := "com/example/cato/cato/message/SegmentEqualsPinLaw", name := "str", desc := "(I)Ljava/lang/String;" } : Jvm.MethodName) method_3_code (5 : Nat) (Option.some (Jvm.ClassFile.FieldType.object "java/lang/String"))) ∈ tables_1 := List.mem_of_getElem? (i := 12) rfl
theorem w_13 : (Jvm.Cond.classLink "com/example/cato/cato/message/SegmentEqualsPinLaw" (19 : Nat) "java/lang/String") ∈ tables_1 := List.mem_of_getElem? (i := 13) rfl
theorem w_14 : (Jvm.Cond.instantiable "java/lang/String" (4 : Nat)) ∈ tables_1 := List.mem_of_getElem? (i := 14) rfl
theorem w_15 : (Jvm.Cond.initialized "java/lang/String") ∈ tables_1 := List.mem_of_getElem? (i := 15) rfl
theorem w_16 : (Jvm.Cond.arrayClass Jvm.ClassFile.FieldType.char) ∈ tables_1 := List.mem_of_getElem? (i := 16) rfl
theorem w_17 : (Jvm.Cond.methodLink "com/example/cato/cato/message/SegmentEqualsPinLaw" (21 : Nat) ({ cls := "java/lang/String", name := "<init>", desc := "([C)V" } : Jvm.MethodName)) ∈ tables_1 := List.mem_of_getElem? (i := 17) rfl
theorem w_18 : (Jvm.Cond.instanceMethod ({ cls := "java/lang/String", name := "<init>", desc := "([C)V" } : Jvm.MethodName)) ∈ tables_1 := List.mem_of_getElem? (i := 18) rfl
theorem w_19 : (Jvm.Cond.code ({ cls := "java/lang/String", name := "<init>", desc := "([C)V" } : Jvm.MethodName) jdk_42_method_3_code (2 : Nat) (Option.none : Option Jvm.ClassFile.FieldType)) ∈ tables_1 := List.mem_of_getElem? (i := 19) rfl
theorem w_20 : (Jvm.Cond.methodLink "java/lang/String" (27 : Nat) ({ cls := "java/lang/String", name := "<init>", desc := "([CIILjava/lang/Void;)V" } : Jvm.MethodName)) ∈ tables_1 := List.mem_of_getElem? (i := 20) rfl
theorem w_21 : (Jvm.Cond.instanceMethod ({ cls := "java/lang/String", name := "<init>", desc := "([CIILjava/lang/Void;)V" } : Jvm.MethodName)) ∈ tables_1 := List.mem_of_getElem? (i := 21) rfl
theorem w_23 : (Jvm.Cond.code ({ cls := "java/lang/String", name := "<init>", desc := "([CIILjava/lang/Void;)V" } : Jvm.MethodName) jdk_42_method_149_code (6 : Nat) (Option.none : Option Jvm.ClassFile.FieldType)) ∈ tables_1 := List.mem_of_getElem? (i := 23) rfl
theorem w_24 : (Jvm.Cond.methodLink "java/lang/String" (1 : Nat) ({ cls := "java/lang/Object", name := "<init>", desc := "()V" } : Jvm.MethodName)) ∈ tables_1 := List.mem_of_getElem? (i := 24) rfl
theorem w_25 : (Jvm.Cond.instanceMethod ({ cls := "java/lang/Object", name := "<init>", desc := "()V" } : Jvm.MethodName)) ∈ tables_1 := List.mem_of_getElem? (i := 25) rfl
theorem w_26 : (Jvm.Cond.code ({ cls := "java/lang/Object", name := "<init>", desc := "()V" } : Jvm.MethodName) object_method_1_code (1 : Nat) (Option.none : Option Jvm.ClassFile.FieldType)) ∈ tables_1 := List.mem_of_getElem? (i := 26) rfl
theorem w_27 : (Jvm.Cond.stringLink "java/lang/String" (7 : Nat) "") ∈ tables_1 := List.mem_of_getElem? (i := 27) rfl
theorem w_28 : (Jvm.Cond.arrayClass Jvm.ClassFile.FieldType.byte) ∈ tables_1 := List.mem_of_getElem? (i := 28) rfl
theorem w_29 : (Jvm.Cond.laysFinal "java/lang/String" "java/lang/String" "value" "[B") ∈ tables_1 := List.mem_of_getElem? (i := 29) rfl
theorem w_30 : (Jvm.Cond.laysFinal "java/lang/String" "java/lang/String" "coder" "B") ∈ tables_1 := List.mem_of_getElem? (i := 30) rfl
theorem w_33 : (Jvm.Cond.fieldLink "java/lang/String" (9 : Nat) "java/lang/String" "value" "[B") ∈ tables_1 := List.mem_of_getElem? (i := 33) rfl
theorem w_34 : (Jvm.Cond.fieldLink "java/lang/String" (15 : Nat) "java/lang/String" "coder" "B") ∈ tables_1 := List.mem_of_getElem? (i := 34) rfl
theorem w_35 : (Jvm.Cond.methodLink "com/example/cato/cato/message/SegmentEqualsPinLaw" (38 : Nat) ({ cls := "com/example/cato/cato/message/MessageTemplate$Segment", name := "<init>", desc := "(Lcom/example/cato/cato/message/MessageTemplate$Segment$Kind;Ljava/lang/String;Ljava/lang/String;)V" } : Jvm.MethodName)) ∈ tables_1 := List.mem_of_getElem? (i := 35) rfl
theorem w_36 : (Jvm.Cond.instanceMethod ({ cls := "com/example/cato/cato/message/MessageTemplate$Segment", name := "<init>", desc := "(Lcom/example/cato/cato/message/MessageTemplate$Segment$Kind;Ljava/lang/String;Ljava/lang/String;)V" } : Jvm.MethodName)) ∈ tables_1 := List.mem_of_getElem? (i := 36) rfl
theorem w_37 : (Jvm.Cond.code ({ cls := "com/example/cato/cato/message/MessageTemplate$Segment", name := "<init>", desc := "(Lcom/example/cato/cato/message/MessageTemplate$Segment$Kind;Ljava/lang/String;Ljava/lang/String;)V" } : Jvm.MethodName) prog_6_method_1_code (4 : Nat) (Option.none : Option Jvm.ClassFile.FieldType)) ∈ tables_1 := List.mem_of_getElem? (i := 37) rfl
theorem w_38 : (Jvm.Cond.methodLink "com/example/cato/cato/message/MessageTemplate$Segment" (1 : Nat) ({ cls := "java/lang/Object", name := "<init>", desc := "()V" } : Jvm.MethodName)) ∈ tables_1 := List.mem_of_getElem? (i := 38) rfl
theorem w_39 : (Jvm.Cond.stringLink "com/example/cato/cato/message/MessageTemplate$Segment" (7 : Nat) "kind") ∈ tables_1 := List.mem_of_getElem? (i := 39) rfl
theorem w_40 : (Jvm.Cond.methodLink "com/example/cato/cato/message/MessageTemplate$Segment" (9 : Nat) ({ cls := "java/util/Objects", name := "requireNonNull", desc := "(Ljava/lang/Object;Ljava/lang/String;)Ljava/lang/Object;" } : Jvm.MethodName)) ∈ tables_1 := List.mem_of_getElem? (i := 40) rfl
theorem w_41 : (Jvm.Cond.static ({ cls := "java/util/Objects", name := "requireNonNull", desc := "(Ljava/lang/Object;Ljava/lang/String;)Ljava/lang/Object;" } : Jvm.MethodName)) ∈ tables_1 := List.mem_of_getElem? (i := 41) rfl
theorem w_42 : (Jvm.Cond.initialized "java/util/Objects") ∈ tables_1 := List.mem_of_getElem? (i := 42) rfl
theorem w_43 : (Jvm.Cond.code ({ cls := "java/util/Objects", name := "requireNonNull", desc := "(Ljava/lang/Object;Ljava/lang/String;)Ljava/lang/Object;" } : Jvm.MethodName) jdk_31_method_11_code (2 : Nat) (Option.some (Jvm.ClassFile.FieldType.object "java/lang/Object"))) ∈ tables_1 := List.mem_of_getElem? (i := 43) rfl
theorem w_44 : (Jvm.Cond.classLink "com/example/cato/cato/message/MessageTemplate$Segment" (15 : Nat) "com/example/cato/cato/message/MessageTemplate$Segment$Kind") ∈ tables_1 := List.mem_of_getElem? (i := 44) rfl
theorem w_46 : (Jvm.Cond.fieldLink "com/example/cato/cato/message/MessageTemplate$Segment" (17 : Nat) "com/example/cato/cato/message/MessageTemplate$Segment" "kind" "Lcom/example/cato/cato/message/MessageTemplate$Segment$Kind;") ∈ tables_1 := List.mem_of_getElem? (i := 46) rfl
theorem w_47 : (Jvm.Cond.laysFinal "com/example/cato/cato/message/MessageTemplate$Segment" "com/example/cato/cato/message/MessageTemplate$Segment" "kind" "Lcom/example/cato/cato/message/MessageTemplate$Segment$Kind;") ∈ tables_1 := List.mem_of_getElem? (i := 47) rfl
theorem w_48 : (Jvm.Cond.stringLink "com/example/cato/cato/message/MessageTemplate$Segment" (22 : Nat) "source") ∈ tables_1 := List.mem_of_getElem? (i := 48) rfl
theorem w_49 : (Jvm.Cond.classLink "com/example/cato/cato/message/MessageTemplate$Segment" (24 : Nat) "java/lang/String") ∈ tables_1 := List.mem_of_getElem? (i := 49) rfl
theorem w_50 : (Jvm.Cond.fieldLink "com/example/cato/cato/message/MessageTemplate$Segment" (26 : Nat) "com/example/cato/cato/message/MessageTemplate$Segment" "source" "Ljava/lang/String;") ∈ tables_1 := List.mem_of_getElem? (i := 50) rfl
theorem w_51 : (Jvm.Cond.laysFinal "com/example/cato/cato/message/MessageTemplate$Segment" "com/example/cato/cato/message/MessageTemplate$Segment" "source" "Ljava/lang/String;") ∈ tables_1 := List.mem_of_getElem? (i := 51) rfl
theorem w_52 : (Jvm.Cond.stringLink "com/example/cato/cato/message/MessageTemplate$Segment" (29 : Nat) "content") ∈ tables_1 := List.mem_of_getElem? (i := 52) rfl
theorem w_53 : (Jvm.Cond.fieldLink "com/example/cato/cato/message/MessageTemplate$Segment" (31 : Nat) "com/example/cato/cato/message/MessageTemplate$Segment" "content" "Ljava/lang/String;") ∈ tables_1 := List.mem_of_getElem? (i := 53) rfl
theorem w_54 : (Jvm.Cond.laysFinal "com/example/cato/cato/message/MessageTemplate$Segment" "com/example/cato/cato/message/MessageTemplate$Segment" "content" "Ljava/lang/String;") ∈ tables_1 := List.mem_of_getElem? (i := 54) rfl
theorem w_55 : (Jvm.Cond.methodLink "com/example/cato/cato/message/SegmentEqualsPinLaw" (45 : Nat) ({ cls := "com/example/cato/cato/message/SegmentEqualsPinLaw", name := "norm", desc := "(I)I" } : Jvm.MethodName)) ∈ tables_1 := List.mem_of_getElem? (i := 55) rfl
theorem w_56 : (Jvm.Cond.static ({ cls := "com/example/cato/cato/message/SegmentEqualsPinLaw", name := "norm", desc := "(I)I" } : Jvm.MethodName)) ∈ tables_1 := List.mem_of_getElem? (i := 56) rfl
theorem w_57 : (Jvm.Cond.code ({ cls := "com/example/cato/cato/message/SegmentEqualsPinLaw", name := "norm", desc := "(I)I" } : Jvm.MethodName) method_4_code (3 : Nat) (Option.some Jvm.ClassFile.FieldType.int)) ∈ tables_1 := List.mem_of_getElem? (i := 57) rfl
theorem w_58 : (Jvm.Cond.methodLink "com/example/cato/cato/message/SegmentEqualsPinLaw" (41 : Nat) ({ cls := "com/example/cato/cato/message/MessageTemplate$Segment", name := "equals", desc := "(Ljava/lang/Object;)Z" } : Jvm.MethodName)) ∈ tables_1 := List.mem_of_getElem? (i := 58) rfl
theorem w_59 : (Jvm.Cond.declares ({ cls := "com/example/cato/cato/message/MessageTemplate$Segment", name := "equals", desc := "(Ljava/lang/Object;)Z" } : Jvm.MethodName)) ∈ tables_1 := List.mem_of_getElem? (i := 59) rfl
theorem w_60 : (Jvm.Cond.instanceMethod ({ cls := "com/example/cato/cato/message/MessageTemplate$Segment", name := "equals", desc := "(Ljava/lang/Object;)Z" } : Jvm.MethodName)) ∈ tables_1 := List.mem_of_getElem? (i := 60) rfl
theorem w_61 : (Jvm.Cond.selects "com/example/cato/cato/message/MessageTemplate$Segment" ({ cls := "com/example/cato/cato/message/MessageTemplate$Segment", name := "equals", desc := "(Ljava/lang/Object;)Z" } : Jvm.MethodName) ({ cls := "com/example/cato/cato/message/MessageTemplate$Segment", name := "equals", desc := "(Ljava/lang/Object;)Z" } : Jvm.MethodName)) ∈ tables_1 := List.mem_of_getElem? (i := 61) rfl
theorem w_62 : (Jvm.Cond.code ({ cls := "com/example/cato/cato/message/MessageTemplate$Segment", name := "equals", desc := "(Ljava/lang/Object;)Z" } : Jvm.MethodName) prog_6_method_5_code (3 : Nat) (Option.some Jvm.ClassFile.FieldType.boolean)) ∈ tables_1 := List.mem_of_getElem? (i := 62) rfl
theorem w_63 : (Jvm.Cond.classLink "com/example/cato/cato/message/MessageTemplate$Segment" (18 : Nat) "com/example/cato/cato/message/MessageTemplate$Segment") ∈ tables_1 := List.mem_of_getElem? (i := 63) rfl
theorem w_65 : (Jvm.Cond.methodLink "com/example/cato/cato/message/MessageTemplate$Segment" (33 : Nat) ({ cls := "java/lang/String", name := "equals", desc := "(Ljava/lang/Object;)Z" } : Jvm.MethodName)) ∈ tables_1 := List.mem_of_getElem? (i := 65) rfl
theorem w_66 : (Jvm.Cond.declares ({ cls := "java/lang/String", name := "equals", desc := "(Ljava/lang/Object;)Z" } : Jvm.MethodName)) ∈ tables_1 := List.mem_of_getElem? (i := 66) rfl
theorem w_67 : (Jvm.Cond.instanceMethod ({ cls := "java/lang/String", name := "equals", desc := "(Ljava/lang/Object;)Z" } : Jvm.MethodName)) ∈ tables_1 := List.mem_of_getElem? (i := 67) rfl
theorem w_68 : (Jvm.Cond.selects "java/lang/String" ({ cls := "java/lang/String", name := "equals", desc := "(Ljava/lang/Object;)Z" } : Jvm.MethodName) ({ cls := "java/lang/String", name := "equals", desc := "(Ljava/lang/Object;)Z" } : Jvm.MethodName)) ∈ tables_1 := List.mem_of_getElem? (i := 68) rfl
theorem w_76 : (Jvm.Cond.fieldLink "com/example/cato/cato/message/SegmentEqualsPinLaw" (13 : Nat) "com/example/cato/cato/message/MessageTemplate$Segment$Kind" "PARAMETER" "Lcom/example/cato/cato/message/MessageTemplate$Segment$Kind;") ∈ tables_1 := List.mem_of_getElem? (i := 76) rfl
theorem w_77 : (Jvm.Cond.laysStatic "com/example/cato/cato/message/MessageTemplate$Segment$Kind" "PARAMETER" "Lcom/example/cato/cato/message/MessageTemplate$Segment$Kind;") ∈ tables_1 := List.mem_of_getElem? (i := 77) rfl
theorem w_88 : (Jvm.Cond.superclass "java/lang/String" "java/lang/Object") ∈ tables_1 := List.mem_of_getElem? (i := 88) rfl
theorem w_89 : (Jvm.Cond.noSuperclass "java/lang/Object") ∈ tables_1 := List.mem_of_getElem? (i := 89) rfl
theorem w_90 : (Jvm.Cond.fieldLink "com/example/cato/cato/message/SegmentEqualsPinLaw" (16 : Nat) "com/example/cato/cato/message/MessageTemplate$Segment$Kind" "EXPRESSION" "Lcom/example/cato/cato/message/MessageTemplate$Segment$Kind;") ∈ tables_1 := List.mem_of_getElem? (i := 90) rfl
theorem w_91 : (Jvm.Cond.laysStatic "com/example/cato/cato/message/MessageTemplate$Segment$Kind" "EXPRESSION" "Lcom/example/cato/cato/message/MessageTemplate$Segment$Kind;") ∈ tables_1 := List.mem_of_getElem? (i := 91) rfl
theorem w_92 : (Jvm.Cond.constant "com/example/cato/cato/message/SegmentEqualsPinLaw" (24 : Nat) (65535 : Int32)) ∈ tables_1 := List.mem_of_getElem? (i := 92) rfl
theorem w_93 : (Jvm.Cond.constant "com/example/cato/cato/message/SegmentEqualsPinLaw" (25 : Nat) (16777215 : Int32)) ∈ tables_1 := List.mem_of_getElem? (i := 93) rfl
/-- a char of one byte -/
def Ch8 (c : Int32) : Prop := ¬ c < 0 ∧ ¬ (255 : Int32) < c
theorem ch8_mask (x : Int32) : Ch8 (x &&& 255) := by
  have h : (x &&& 255).toBitVec.toNat < 256 := by
    simp only [Int32.toBitVec_and, BitVec.toNat_and]
    exact Nat.lt_succ_of_le Nat.and_le_right
  have e : (x &&& 255) = Int32.ofNat (x &&& 255).toBitVec.toNat := by
    apply Int32.toBitVec_inj.mp
    show _ = BitVec.ofNat 32 _
    rw [BitVec.ofNat_toNat]; simp
  rw [e]
  exact (by decide +kernel : ∀ k : Fin 256, ¬ Int32.ofNat k.val < 0 ∧ ¬ (255 : Int32) < Int32.ofNat k.val) ⟨_, h⟩
theorem ch8_fin {c : Int32} (h : Ch8 c) : ∃ k : Fin 256, c = Int32.ofNat k.val := by
  obtain ⟨h1, h2⟩ := h
  rw [Int32.lt_iff_toInt_lt] at h1 h2
  have e1 : (0 : Int32).toInt = 0 := (by decide)
  have e2 : (255 : Int32).toInt = 255 := (by decide)
  have e3 : (Int32.ofNat c.toInt.toNat).toInt = (c.toInt.toNat : Int) := Int32.toInt_ofNat_of_lt (by omega)
  refine ⟨⟨c.toInt.toNat, by omega⟩, Int32.toInt_inj.mp ?_⟩
  show c.toInt = (Int32.ofNat c.toInt.toNat).toInt
  rw [e3]
  omega
theorem nar_ch8 {c : Int32} (h : Ch8 c) : nar .char c = c := by
  obtain ⟨k, rfl⟩ := ch8_fin h
  exact (by decide +kernel : ∀ k : Fin 256, nar .char (Int32.ofNat k.val) = Int32.ofNat k.val) k
theorem ch8_i2c (x : Int32) : Ch8 ((x &&& 255).toUInt32.toUInt16.toUInt32.toInt32) := by
  rw [i2c_mask]; exact ch8_mask x
theorem ch8_l2c (x : Int64) : Ch8 ((x &&& 255).toInt32.toUInt32.toUInt16.toUInt32.toInt32) := by
  rw [Int64.toInt32_and]; exact ch8_i2c x.toInt32
theorem own_allc {c : Int32} {cs : List Int32} (h : Ch8 c) (r : ∀ c ∈ cs, ¬ c < 0 ∧ ¬ (255 : Int32) < c) : ∀ x ∈ c :: cs, ¬ x < 0 ∧ ¬ (255 : Int32) < x := fun x hx => (List.mem_cons.mp hx).elim (fun e => e ▸ h) (r x)
theorem own_sA : ∀ a ∈ Bundle.stringAtoms, a ∈ tables_1 := by decide +kernel

theorem ct_newS {l : Launch} {Z : State} {a0 : Array Value} {EL : List (String × Nat)} (hEL : EW Z a0 EL) (hw : ∀ d ∈ tables_1, d.before a0 Z = true) {h : Heap} {x b : Addr} {kC : ClassId} {cs : List Int32} {d v0 c0 : Value} {z : Int32} {n n0 : Nat} (E : Exa Z h x "java/lang/String") (V : Fld Z h x "java/lang/String" "value" "[B" v0) (C : Fld Z h x "java/lang/String" "coder" "B" c0) (K : Arv Z h b kC .char (Int32.ofNat n) (cs.map Value.int) d) (S : Sta Z h "java/lang/String" "COMPACT_STRINGS" "Z" (.int z)) (hz : ¬ z = 0) (hn : cs.length = n) (l0 : 0 < n) (l2 : n ≤ 4000) (hp : ∀ c ∈ cs, ¬ c < 0 ∧ ¬ (255 : Int32) < c) :
    Ct l Z EL (⟨"java/lang/String", "<init>", "([C)V"⟩ : MethodName) 2 ({ frames := 3, cells := 1, slots := n, locals := 52 } : Room) [x] #[.ref x, .ref b] h n0 (nq fun v h' => v = none ∧ Keep h h' [x] ∧ ∃ t kb, h.size ≤ t ∧ t ≠ x ∧ Str Z h' x t kb cs) := by
  have hws : ∀ d ∈ StrChars.Road.words, d.before a0 Z = true := fun d hd => hw d ((by decide +kernel : ∀ d ∈ StrChars.Road.words, d ∈ tables_1) d hd)
  refine ct_back hEL (fun v h' q => q.2.1) ?_
  intro R p e below s args len W hZ hn0 hfs hf hl
  refine Back.mono (StrChars.Road.backV hZ hws (hw _ w_14) (hfs _ (List.mem_cons_self ..)) hn0 E V C K S hz hn rfl l0 l2 hp rfl hf (by simp only [] at hl; omega)) (fun P a q => q) (fun P a v B hp' hq => ?_)
  obtain ⟨L, ⟨q1, q2, q3, q4, q5, t, kb, r1, r2, r3, r4, r5⟩, hl', hc', hs'⟩ := hq
  exact ⟨L, ⟨⟨q1, q3, t, kb, r2, r3, q4, q5, r4, by rw [hn]; exact r5, by rw [hn]; exact l2, hp⟩, q2⟩, hl', hc', hs'⟩
theorem own_cod {cs : List Int32} (hp : ∀ c ∈ cs, ¬ c < 0 ∧ ¬ (255 : Int32) < c) : StrChars.Road.CodA cs 0 (Int32.ofNat cs.length) ((cs.map fun c => c.toInt8.toInt32).map Value.int) := Or.inl ⟨rfl, rfl, by rw [List.map_map]; rfl, fun c hc => (hp c hc).2⟩
theorem own_up {cs : List Int32} (hp : ∀ c ∈ cs, ¬ c < 0 ∧ ¬ (255 : Int32) < c) : ∀ c ∈ cs, ¬ c < 0 ∧ ¬ (65535 : Int32) < c := fun c hc => ⟨(hp c hc).1, fun q => (hp c hc).2 (by
  rw [Int32.lt_iff_toInt_lt] at q ⊢
  have e1 : (255 : Int32).toInt = 255 := by decide
  have e2 : (65535 : Int32).toInt = 65535 := by decide
  omega)⟩
theorem ct_eq {l : Launch} {Z : State} {a0 : Array Value} {EL : List (String × Nat)} (hEL : EW Z a0 EL) (hw : ∀ d ∈ tables_1, d.before a0 Z = true) {h : Heap} {z : Int32} {n0 : Nat} {x t y t' : Addr} {kb kb' : ClassId} {cs ds : List Int32} (S : Str Z h x t kb cs) (S' : Str Z h y t' kb' ds) (Sz : Sta Z h "java/lang/String" "COMPACT_STRINGS" "Z" (.int z)) (hz : ¬ z = 0) :
    Ct l Z EL (⟨"java/lang/String", "equals", "(Ljava/lang/Object;)Z"⟩ : MethodName) 3 ({ frames := 1, cells := 0, slots := 0, locals := 14 } : Room) [] #[.ref x, .ref y] h n0 (nq fun v h' => v = some (.int (if cs = ds then 1 else 0)) ∧ h' = h) := by
  have hws : ∀ d ∈ StrChars.Road.wordsEq, d.before a0 Z = true := fun d hd => hw d ((by decide +kernel : ∀ d ∈ StrChars.Road.wordsEq, d ∈ tables_1) d hd)
  refine ct_back hEL (fun v h' q => (by rw [q.2]; exact Keep.refl _ _)) ?_
  intro R p e below s args len W hZ hn0 hfs hf hl
  refine Back.mono (StrChars.Road.eqW hZ hws (hw _ w_14) S.1 S.2.2.1 S.2.1 S.2.2.2.1 (own_cod S.2.2.2.2.2) (own_up S.2.2.2.2.2) S.2.2.2.2.1 S'.1 S'.2.2.1 S'.2.1 S'.2.2.2.1 (own_cod S'.2.2.2.2.2) (own_up S'.2.2.2.2.2) S'.2.2.2.2.1 Sz hz hf (by simp only [] at hl; omega)) (fun P a q => q) (fun P a v B hp' hq => ?_)
  obtain ⟨L, ⟨q1, rfl, q3⟩, hl', hc', hs'⟩ := hq
  refine ⟨[], ⟨⟨?_, q3⟩, Fr.nil _⟩, hl', hc', hs'⟩
  rcases q1 with ⟨r, e⟩ | ⟨r, e⟩
  · rw [r, if_pos e]
  · rw [r, if_neg e]

theorem d_jdk_42_method_149_code_0 : decode jdk_42_method_149_code 0 = .ok (.aload_n 0, 1) := by decide +kernel
theorem d_jdk_42_method_149_code_1 : decode jdk_42_method_149_code 1 = .ok (.invokespecial 1, 3) := by decide +kernel
theorem d_jdk_42_method_149_code_4 : decode jdk_42_method_149_code 4 = .ok (.iload_n 3, 1) := by decide +kernel
theorem d_jdk_42_method_149_code_5 : decode jdk_42_method_149_code 5 = .ok (.ifCond .ne 22, 3) := by decide +kernel
theorem d_jdk_42_method_149_code_8 : decode jdk_42_method_149_code 8 = .ok (.aload_n 0, 1) := by decide +kernel
theorem d_jdk_42_method_149_code_9 : decode jdk_42_method_149_code 9 = .ok (.ldc 7, 2) := by decide +kernel
theorem d_jdk_42_method_149_code_11 : decode jdk_42_method_149_code 11 = .ok (.getfield 9, 3) := by decide +kernel
theorem d_jdk_42_method_149_code_14 : decode jdk_42_method_149_code 14 = .ok (.putfield 9, 3) := by decide +kernel
theorem d_jdk_42_method_149_code_17 : decode jdk_42_method_149_code 17 = .ok (.aload_n 0, 1) := by decide +kernel
theorem d_jdk_42_method_149_code_18 : decode jdk_42_method_149_code 18 = .ok (.ldc 7, 2) := by decide +kernel
theorem d_jdk_42_method_149_code_20 : decode jdk_42_method_149_code 20 = .ok (.getfield 15, 3) := by decide +kernel
theorem d_jdk_42_method_149_code_23 : decode jdk_42_method_149_code 23 = .ok (.putfield 15, 3) := by decide +kernel
theorem d_jdk_42_method_149_code_26 : decode jdk_42_method_149_code 26 = .ok (.return_, 1) := by decide +kernel
theorem pn_java_lang_String : plainName "java/lang/String" = true := by first | (simp [plainName, overriddenIn]; done) | decide +kernel
set_option maxRecDepth 65536 in
set_option maxHeartbeats 40000000 in
theorem rm_S4e (l : Launch) (Z : State) (a0 : Array Value) (hw : ∀ d ∈ tables_1, d.before a0 Z = true) (hEL : EW Z a0 consts_1) {ws : List Jvm.Cond} (x b : Addr) (h0 : Heap) (n0 : Nat) (E1 : Exa Z h0 x "java/lang/String") (F1 : Fld Z h0 x "java/lang/String" "value" "[B" .null) (F2 : Fld Z h0 x "java/lang/String" "coder" "B" (.int 0)) :
    Met l Z consts_1 (⟨"java/lang/String", "<init>", "([CIILjava/lang/Void;)V"⟩ : MethodName) jdk_42_method_149_code 6 none ws ({ frames := 1, cells := 4, slots := 8, locals := 14 } : Room) [x] #[(.ref x), (.ref b), (.int (0 : Int32)), (.int (0 : Int32)), .null] h0 n0 (nq (fun v h => v = none ∧ Keep h0 h [x] ∧ ∃ t kb, t ≠ x ∧ Str Z h x t kb [])) := by
  refine met_of (plainFor_of_name pn_java_lang_String) hw #[.val (.ref x), .val (.ref b), .val (.int (0 : Int32)), .val (.int (0 : Int32)), .val .null, .unset] (fun m => by first | rfl | (simp [entryFrame, mkF, argsToLocals, Value.category]; done)) ?_
  intro p e s m below meth c C0
  have C : Cx Z a0 tables_1 p s m meth c "java/lang/String" "<init>" jdk_42_method_149_code 6 none n0 := C0
  refine g_aloadN C d_jdk_42_method_149_code_0 rfl rfl ?_
  refine g_initO C w_24 w_25 w_26 rfl d_jdk_42_method_149_code_1 (by decide) 0 (Nat.le_of_eq rfl) (by decide) ?_
  refine g_iloadN C d_jdk_42_method_149_code_4 rfl ?_
  refine g_if_f C d_jdk_42_method_149_code_5 (XT.i0_ne_f (by decide)) ?_
  refine g_aloadN C d_jdk_42_method_149_code_8 rfl rfl ?_
  refine g_ldcS C hEL w_27 own_sA (List.mem_of_getElem? (i := 3) rfl) [] ⟨by decide +kernel, by decide +kernel⟩ (by decide) (by decide) d_jdk_42_method_149_code_9 0 (by decide +kernel) (by decide) (by decide) (by decide) ?_
  intro a101 t101 kb101 h101 E101 S101 X101
  refine g_getfield C w_33 Via.refl S101.2.2.1 d_jdk_42_method_149_code_11 ?_
  have K102 : Keep h0 h101 [] := (Keep.refl h0 []).ext E101
  have F103 := (F1.keep K102 nin0)
  have E104 := (E1.keep K102)
  refine g_putfield C (.array .byte) w_33 Via.refl F103 E104 (Or.inr ⟨w_29, rfl, rfl⟩) w_14 (by decide) rfl rfl (List.mem_of_getElem? (i := 0) rfl) d_jdk_42_method_149_code_14 ?_
  intro h105 W105 F105
  refine g_aloadN C d_jdk_42_method_149_code_17 rfl rfl ?_
  refine g_ldcS C hEL w_27 own_sA (List.mem_of_getElem? (i := 3) rfl) [] ⟨by decide +kernel, by decide +kernel⟩ (by decide) (by decide) d_jdk_42_method_149_code_18 0 (by decide +kernel) (by decide) (by decide) (by decide) ?_
  intro a106 t106 kb106 h106 E106 S106 X106
  refine g_getfield C w_34 Via.refl S106.2.1 d_jdk_42_method_149_code_20 ?_
  have F107 := (((F2.ext E101).other W105 (Or.inr (slot_ne (Or.inr (C.hw w_30)) (Or.inr (C.hw w_29)) (by decide) (t := .byte) (t' := (.array .byte)) (by decide) (by decide)))).ext E106)
  have E108 := ((E104.wr W105).ext E106)
  refine g_putfieldZ C .byte (.int (0 : Int32)) w_34 Via.refl F107 E108 (Or.inr ⟨w_30, rfl, rfl⟩) w_14 (by decide) rfl (by decide) (List.mem_of_getElem? (i := 0) rfl) d_jdk_42_method_149_code_23 ?_
  intro h109 W109 F109
  refine g_return C hEL rfl d_jdk_42_method_149_code_26 (by decide) (by decide) ?_
  have E110 := (E108.wr W109)
  have K111 : Keep h105 h106 [] := (Keep.refl h105 []).ext E106
  have F112 := ((F105.ext E106).other W109 (Or.inr (slot_ne (Or.inr (C.hw w_29)) (Or.inr (C.hw w_30)) (by decide) (t := (.array .byte)) (t' := .byte) (by decide) (by decide))))
  have V113 := (((S101.2.2.2.1.other W105 (Ne.symm (X101 _ (List.mem_of_getElem? (i := 0) rfl)).2)).ext E106).other W109 (Ne.symm (X101 _ (List.mem_of_getElem? (i := 0) rfl)).2))
  exact ⟨rfl, (((((Keep.refl _ _).ext E101).wr W105 (Or.inl (List.mem_cons_self ..))).ext E106).wr W109 (Or.inl (List.mem_cons_self ..))), t101, _, (Ne.symm (X101 _ (List.mem_of_getElem? (i := 0) rfl)).2), E110, F109, F112, V113, by decide, fun _ q => nomatch q⟩
theorem d_jdk_42_method_3_code_0 : decode jdk_42_method_3_code 0 = .ok (.aload_n 0, 1) := by decide +kernel
theorem d_jdk_42_method_3_code_1 : decode jdk_42_method_3_code 1 = .ok (.aload_n 1, 1) := by decide +kernel
theorem d_jdk_42_method_3_code_2 : decode jdk_42_method_3_code 2 = .ok (.iconst 0, 1) := by decide +kernel
theorem d_jdk_42_method_3_code_3 : decode jdk_42_method_3_code 3 = .ok (.aload_n 1, 1) := by decide +kernel
theorem d_jdk_42_method_3_code_4 : decode jdk_42_method_3_code 4 = .ok (.arraylength, 1) := by decide +kernel
theorem d_jdk_42_method_3_code_5 : decode jdk_42_method_3_code 5 = .ok (.aconst_null, 1) := by decide +kernel
theorem d_jdk_42_method_3_code_6 : decode jdk_42_method_3_code 6 = .ok (.invokespecial 27, 3) := by decide +kernel
theorem d_jdk_42_method_3_code_9 : decode jdk_42_method_3_code 9 = .ok (.return_, 1) := by decide +kernel
theorem pd___CIILjava_lang_Void__V : parseMethodDescriptor "([CIILjava/lang/Void;)V" = some ⟨[(.array .char), .int, .int, (.object "java/lang/Void")], none⟩ := by decide +kernel
set_option maxRecDepth 65536 in
set_option maxHeartbeats 40000000 in
theorem rm_S1e (l : Launch) (Z : State) (a0 : Array Value) (hw : ∀ d ∈ tables_1, d.before a0 Z = true) (hEL : EW Z a0 consts_1) {ws : List Jvm.Cond} (x b : Addr) (kc : ClassId) (h0 : Heap) (n0 : Nat) (E1 : Exa Z h0 x "java/lang/String") (F1 : Fld Z h0 x "java/lang/String" "value" "[B" .null) (F2 : Fld Z h0 x "java/lang/String" "coder" "B" (.int 0)) (Vb : Arv Z h0 b kc .char (0 : Int32) [] (.int 0)) :
    Met l Z consts_1 (⟨"java/lang/String", "<init>", "([C)V"⟩ : MethodName) jdk_42_method_3_code 2 none ws ({ frames := 2, cells := 4, slots := 8, locals := 31 } : Room) [x] #[(.ref x), (.ref b)] h0 n0 (nq (fun v h => v = none ∧ Keep h0 h [x] ∧ ∃ t kb, t ≠ x ∧ Str Z h x t kb [])) := by
  refine met_of (plainFor_of_name pn_java_lang_String) hw #[.val (.ref x), .val (.ref b)] (fun m => by first | rfl | (simp [entryFrame, mkF, argsToLocals, Value.category]; done)) ?_
  intro p e s m below meth c C0
  have C : Cx Z a0 tables_1 p s m meth c "java/lang/String" "<init>" jdk_42_method_3_code 2 none n0 := C0
  refine g_aloadN C d_jdk_42_method_3_code_0 rfl rfl ?_
  refine g_aloadN C d_jdk_42_method_3_code_1 rfl rfl ?_
  refine g_iconst C 0 d_jdk_42_method_3_code_2 rfl ?_
  refine g_aloadN C d_jdk_42_method_3_code_3 rfl rfl ?_
  refine g_arraylength C Vb d_jdk_42_method_3_code_4 ?_
  refine g_aconst_null C d_jdk_42_method_3_code_5 ?_
  refine g_special C (a := x) w_20 w_21 w_23 rfl (by decide) [(.ref b), (.int (0 : Int32)), (.int (0 : Int32)), .null] (ct_of hEL hw w_23 w_15 (rm_S4e l Z a0 hw hEL x b h0 n0 E1 F1 F2)) (allS (List.mem_of_getElem? (i := 0) rfl) all0) (by decide) 0 (by decide) rfl pd___CIILjava_lang_Void__V rfl [] rfl (Nat.le_of_eq rfl) d_jdk_42_method_3_code_6 (by decide) (by decide) ?_
  intro v114 h114 Q114
  obtain ⟨rfl, KC114, t114, kb114, tx114, S114⟩ := Q114
  refine g_return C hEL rfl d_jdk_42_method_3_code_9 (by decide) (by decide) ?_
  exact ⟨rfl, KC114, _, _, tx114, S114⟩
def kindA (i : Int32) (kt kp ke : Addr) : Addr := if i = 0 then kt else if i = 1 then kp else ke

theorem d_method_2_code_0 : decode method_2_code 0 = .ok (.iload_n 0, 1) := by decide +kernel
theorem d_method_2_code_1 : decode method_2_code 1 = .ok (.ifCond .ne 7, 3) := by decide +kernel
theorem d_method_2_code_4 : decode method_2_code 4 = .ok (.getstatic 7, 3) := by decide +kernel
theorem d_method_2_code_7 : decode method_2_code 7 = .ok (.areturn, 1) := by decide +kernel
theorem d_method_2_code_8 : decode method_2_code 8 = .ok (.iload_n 0, 1) := by decide +kernel
theorem d_method_2_code_9 : decode method_2_code 9 = .ok (.iconst 1, 1) := by decide +kernel
theorem d_method_2_code_10 : decode method_2_code 10 = .ok (.if_icmp .ne 7, 3) := by decide +kernel
theorem d_method_2_code_13 : decode method_2_code 13 = .ok (.getstatic 13, 3) := by decide +kernel
theorem d_method_2_code_16 : decode method_2_code 16 = .ok (.areturn, 1) := by decide +kernel
theorem d_method_2_code_17 : decode method_2_code 17 = .ok (.getstatic 16, 3) := by decide +kernel
theorem d_method_2_code_20 : decode method_2_code 20 = .ok (.areturn, 1) := by decide +kernel
theorem pn_com_example_cato_cato_message_SegmentEqualsPinLaw : plainName "com/example/cato/cato/message/SegmentEqualsPinLaw" = true := by first | (simp [plainName, overriddenIn]; done) | decide +kernel
set_option maxRecDepth 65536 in
set_option maxHeartbeats 40000000 in
theorem rm_kind (l : Launch) (Z : State) (a0 : Array Value) (hw : ∀ d ∈ tables_1, d.before a0 Z = true) (hEL : EW Z a0 consts_1) {ws : List Jvm.Cond} (ii : Int32) (kt kp ke : Addr) (h0 : Heap) (n0 : Nat) (St0 : Sta Z h0 "com/example/cato/cato/message/MessageTemplate$Segment$Kind" "TEXT" "Lcom/example/cato/cato/message/MessageTemplate$Segment$Kind;" (.ref kt)) (St1 : Sta Z h0 "com/example/cato/cato/message/MessageTemplate$Segment$Kind" "PARAMETER" "Lcom/example/cato/cato/message/MessageTemplate$Segment$Kind;" (.ref kp)) (St2 : Sta Z h0 "com/example/cato/cato/message/MessageTemplate$Segment$Kind" "EXPRESSION" "Lcom/example/cato/cato/message/MessageTemplate$Segment$Kind;" (.ref ke)) :
    Met l Z consts_1 (⟨"com/example/cato/cato/message/SegmentEqualsPinLaw", "kind", "(I)Lcom/example/cato/cato/message/MessageTemplate$Segment$Kind;"⟩ : MethodName) method_2_code 1 (some (.object "com/example/cato/cato/message/MessageTemplate$Segment$Kind")) ws ({ frames := 0, cells := 0, slots := 0, locals := 0 } : Room) [] #[(.int ii)] h0 n0 (nq (fun v h => v = some (.ref (kindA ii kt kp ke)) ∧ h = h0)) := by
  refine met_of (plainFor_of_name pn_com_example_cato_cato_message_SegmentEqualsPinLaw) hw #[.val (.int ii)] (fun m => by first | rfl | (simp [entryFrame, mkF, argsToLocals, Value.category]; done)) ?_
  intro p e s m below meth c C0
  have C : Cx Z a0 tables_1 p s m meth c "com/example/cato/cato/message/SegmentEqualsPinLaw" "kind" method_2_code 1 (some (.object "com/example/cato/cato/message/MessageTemplate$Segment$Kind")) n0 := C0
  refine g_iloadN C d_method_2_code_0 rfl ?_
  by_cases hc115 : ii = 0
  · refine g_if_f C d_method_2_code_1 (XT.i0_ne_f hc115) ?_
    refine g_getstatic C w_7 Via.refl St0 d_method_2_code_4 ?_
    refine g_areturn C hEL (t := (.object "com/example/cato/cato/message/MessageTemplate$Segment$Kind")) rfl rfl rfl d_method_2_code_7 (by decide) (by decide) ?_
    exact ⟨by simp [kindA, hc115], rfl⟩
  · refine g_if_t C 8 d_method_2_code_1 (XT.i0_ne_t hc115) (by decide) (by decide) ?_
    refine g_iloadN C d_method_2_code_8 rfl ?_
    refine g_iconst C 1 d_method_2_code_9 rfl ?_
    by_cases hc116 : ii = (1 : Int32)
    · refine g_icmp_f C d_method_2_code_10 (XT.ii_ne_f hc116) ?_
      refine g_getstatic C w_76 Via.refl St1 d_method_2_code_13 ?_
      refine g_areturn C hEL (t := (.object "com/example/cato/cato/message/MessageTemplate$Segment$Kind")) rfl rfl rfl d_method_2_code_16 (by decide) (by decide) ?_
      exact ⟨by simp [kindA, hc115, hc116], rfl⟩
    · refine g_icmp_t C 17 d_method_2_code_10 (XT.ii_ne_t hc116) (by decide) (by decide) ?_
      refine g_getstatic C w_90 Via.refl St2 d_method_2_code_17 ?_
      refine g_areturn C hEL (t := (.object "com/example/cato/cato/message/MessageTemplate$Segment$Kind")) rfl rfl rfl d_method_2_code_20 (by decide) (by decide) ?_
      exact ⟨by simp [kindA, hc115, hc116], rfl⟩
theorem own_kindE {Z : State} {h : Heap} {C : String} {kt kp ke : Addr} (i : Int32) (E1 : Exa Z h kt C) (E2 : Exa Z h kp C) (E3 : Exa Z h ke C) : Exa Z h (kindA i kt kp ke) C := by
  unfold kindA; split
  · exact E1
  · split
    · exact E2
    · exact E3

def lenX (x : Int32) : Int32 := (x.toUInt32 >>> ((30 : Int32) &&& 31).toUInt32).toInt32
def chX0 (x : Int32) : Int32 := (x &&& 255).toUInt32.toUInt16.toUInt32.toInt32
def chX1 (x : Int32) : Int32 := ((x.toUInt32 >>> ((8 : Int32) &&& 31).toUInt32).toInt32 &&& 255).toUInt32.toUInt16.toUInt32.toInt32
def chX2 (x : Int32) : Int32 := ((x.toUInt32 >>> ((16 : Int32) &&& 31).toUInt32).toInt32 &&& 255).toUInt32.toUInt16.toUInt32.toInt32
def strcs (x : Int32) : List Int32 := if lenX x = 0 then [] else if lenX x = 1 then [chX0 x] else if lenX x = 2 then [chX0 x, chX1 x] else [chX0 x, chX1 x, chX2 x]
def maskX (x : Int32) : Int32 := if lenX x = 0 then 0 else if lenX x = 1 then 255 else if lenX x = 2 then 65535 else 16777215
def normX (x : Int32) : Int32 := (x &&& maskX x) ||| (lenX x <<< ((24 : Int32) &&& 31))

theorem d_method_3_code_0 : decode method_3_code 0 = .ok (.iload_n 0, 1) := by decide +kernel
theorem d_method_3_code_1 : decode method_3_code 1 = .ok (.bipush 30, 2) := by decide +kernel
theorem d_method_3_code_3 : decode method_3_code 3 = .ok (.iushr, 1) := by decide +kernel
theorem d_method_3_code_4 : decode method_3_code 4 = .ok (.istore_n 1, 1) := by decide +kernel
theorem d_method_3_code_5 : decode method_3_code 5 = .ok (.iload_n 0, 1) := by decide +kernel
theorem d_method_3_code_6 : decode method_3_code 6 = .ok (.sipush 255, 3) := by decide +kernel
theorem d_method_3_code_9 : decode method_3_code 9 = .ok (.iand, 1) := by decide +kernel
theorem d_method_3_code_10 : decode method_3_code 10 = .ok (.i2c, 1) := by decide +kernel
theorem d_method_3_code_11 : decode method_3_code 11 = .ok (.istore_n 2, 1) := by decide +kernel
theorem d_method_3_code_12 : decode method_3_code 12 = .ok (.iload_n 0, 1) := by decide +kernel
theorem d_method_3_code_13 : decode method_3_code 13 = .ok (.bipush 8, 2) := by decide +kernel
theorem d_method_3_code_15 : decode method_3_code 15 = .ok (.iushr, 1) := by decide +kernel
theorem d_method_3_code_16 : decode method_3_code 16 = .ok (.sipush 255, 3) := by decide +kernel
theorem d_method_3_code_19 : decode method_3_code 19 = .ok (.iand, 1) := by decide +kernel
theorem d_method_3_code_20 : decode method_3_code 20 = .ok (.i2c, 1) := by decide +kernel
theorem d_method_3_code_21 : decode method_3_code 21 = .ok (.istore_n 3, 1) := by decide +kernel
theorem d_method_3_code_22 : decode method_3_code 22 = .ok (.iload_n 0, 1) := by decide +kernel
theorem d_method_3_code_23 : decode method_3_code 23 = .ok (.bipush 16, 2) := by decide +kernel
theorem d_method_3_code_25 : decode method_3_code 25 = .ok (.iushr, 1) := by decide +kernel
theorem d_method_3_code_26 : decode method_3_code 26 = .ok (.sipush 255, 3) := by decide +kernel
theorem d_method_3_code_29 : decode method_3_code 29 = .ok (.iand, 1) := by decide +kernel
theorem d_method_3_code_30 : decode method_3_code 30 = .ok (.i2c, 1) := by decide +kernel
theorem d_method_3_code_31 : decode method_3_code 31 = .ok (.istore 4, 2) := by decide +kernel
theorem d_method_3_code_33 : decode method_3_code 33 = .ok (.iload_n 1, 1) := by decide +kernel
theorem d_method_3_code_34 : decode method_3_code 34 = .ok (.ifCond .ne 14, 3) := by decide +kernel
theorem d_method_3_code_37 : decode method_3_code 37 = .ok (.new 19, 3) := by decide +kernel
theorem d_method_3_code_40 : decode method_3_code 40 = .ok (.dup, 1) := by decide +kernel
theorem d_method_3_code_41 : decode method_3_code 41 = .ok (.iconst 0, 1) := by decide +kernel
theorem d_method_3_code_42 : decode method_3_code 42 = .ok (.newarray .char, 2) := by decide +kernel
theorem d_method_3_code_44 : decode method_3_code 44 = .ok (.invokespecial 21, 3) := by decide +kernel
theorem d_method_3_code_47 : decode method_3_code 47 = .ok (.areturn, 1) := by decide +kernel
theorem d_method_3_code_48 : decode method_3_code 48 = .ok (.iload_n 1, 1) := by decide +kernel
theorem d_method_3_code_49 : decode method_3_code 49 = .ok (.iconst 1, 1) := by decide +kernel
theorem d_method_3_code_50 : decode method_3_code 50 = .ok (.if_icmp .ne 18, 3) := by decide +kernel
theorem d_method_3_code_53 : decode method_3_code 53 = .ok (.new 19, 3) := by decide +kernel
theorem d_method_3_code_56 : decode method_3_code 56 = .ok (.dup, 1) := by decide +kernel
theorem d_method_3_code_57 : decode method_3_code 57 = .ok (.iconst 1, 1) := by decide +kernel
theorem d_method_3_code_58 : decode method_3_code 58 = .ok (.newarray .char, 2) := by decide +kernel
theorem d_method_3_code_60 : decode method_3_code 60 = .ok (.dup, 1) := by decide +kernel
theorem d_method_3_code_61 : decode method_3_code 61 = .ok (.iconst 0, 1) := by decide +kernel
theorem d_method_3_code_62 : decode method_3_code 62 = .ok (.iload_n 2, 1) := by decide +kernel
theorem d_method_3_code_63 : decode method_3_code 63 = .ok (.castore, 1) := by decide +kernel
theorem d_method_3_code_64 : decode method_3_code 64 = .ok (.invokespecial 21, 3) := by decide +kernel
theorem d_method_3_code_67 : decode method_3_code 67 = .ok (.areturn, 1) := by decide +kernel
theorem d_method_3_code_68 : decode method_3_code 68 = .ok (.iload_n 1, 1) := by decide +kernel
theorem d_method_3_code_69 : decode method_3_code 69 = .ok (.iconst 2, 1) := by decide +kernel
theorem d_method_3_code_70 : decode method_3_code 70 = .ok (.if_icmp .ne 22, 3) := by decide +kernel
theorem d_method_3_code_73 : decode method_3_code 73 = .ok (.new 19, 3) := by decide +kernel
theorem d_method_3_code_76 : decode method_3_code 76 = .ok (.dup, 1) := by decide +kernel
theorem d_method_3_code_77 : decode method_3_code 77 = .ok (.iconst 2, 1) := by decide +kernel
theorem d_method_3_code_78 : decode method_3_code 78 = .ok (.newarray .char, 2) := by decide +kernel
theorem d_method_3_code_80 : decode method_3_code 80 = .ok (.dup, 1) := by decide +kernel
theorem d_method_3_code_81 : decode method_3_code 81 = .ok (.iconst 0, 1) := by decide +kernel
theorem d_method_3_code_82 : decode method_3_code 82 = .ok (.iload_n 2, 1) := by decide +kernel
theorem d_method_3_code_83 : decode method_3_code 83 = .ok (.castore, 1) := by decide +kernel
theorem d_method_3_code_84 : decode method_3_code 84 = .ok (.dup, 1) := by decide +kernel
theorem d_method_3_code_85 : decode method_3_code 85 = .ok (.iconst 1, 1) := by decide +kernel
theorem d_method_3_code_86 : decode method_3_code 86 = .ok (.iload_n 3, 1) := by decide +kernel
theorem d_method_3_code_87 : decode method_3_code 87 = .ok (.castore, 1) := by decide +kernel
theorem d_method_3_code_88 : decode method_3_code 88 = .ok (.invokespecial 21, 3) := by decide +kernel
theorem d_method_3_code_91 : decode method_3_code 91 = .ok (.areturn, 1) := by decide +kernel
theorem d_method_3_code_92 : decode method_3_code 92 = .ok (.new 19, 3) := by decide +kernel
theorem d_method_3_code_95 : decode method_3_code 95 = .ok (.dup, 1) := by decide +kernel
theorem d_method_3_code_96 : decode method_3_code 96 = .ok (.iconst 3, 1) := by decide +kernel
theorem d_method_3_code_97 : decode method_3_code 97 = .ok (.newarray .char, 2) := by decide +kernel
theorem d_method_3_code_99 : decode method_3_code 99 = .ok (.dup, 1) := by decide +kernel
theorem d_method_3_code_100 : decode method_3_code 100 = .ok (.iconst 0, 1) := by decide +kernel
theorem d_method_3_code_101 : decode method_3_code 101 = .ok (.iload_n 2, 1) := by decide +kernel
theorem d_method_3_code_102 : decode method_3_code 102 = .ok (.castore, 1) := by decide +kernel
theorem d_method_3_code_103 : decode method_3_code 103 = .ok (.dup, 1) := by decide +kernel
theorem d_method_3_code_104 : decode method_3_code 104 = .ok (.iconst 1, 1) := by decide +kernel
theorem d_method_3_code_105 : decode method_3_code 105 = .ok (.iload_n 3, 1) := by decide +kernel
theorem d_method_3_code_106 : decode method_3_code 106 = .ok (.castore, 1) := by decide +kernel
theorem d_method_3_code_107 : decode method_3_code 107 = .ok (.dup, 1) := by decide +kernel
theorem d_method_3_code_108 : decode method_3_code 108 = .ok (.iconst 2, 1) := by decide +kernel
theorem d_method_3_code_109 : decode method_3_code 109 = .ok (.iload 4, 2) := by decide +kernel
theorem d_method_3_code_111 : decode method_3_code 111 = .ok (.castore, 1) := by decide +kernel
theorem d_method_3_code_112 : decode method_3_code 112 = .ok (.invokespecial 21, 3) := by decide +kernel
theorem d_method_3_code_115 : decode method_3_code 115 = .ok (.areturn, 1) := by decide +kernel
theorem pd___C_V : parseMethodDescriptor "([C)V" = some ⟨[(.array .char)], none⟩ := by decide +kernel
set_option maxRecDepth 65536 in
set_option maxHeartbeats 40000000 in
theorem rm_str (l : Launch) (Z : State) (a0 : Array Value) (hw : ∀ d ∈ tables_1, d.before a0 Z = true) (hEL : EW Z a0 consts_1) {ws : List Jvm.Cond} (xx zc : Int32) (h0 : Heap) (n0 : Nat) (Szc : Sta Z h0 "java/lang/String" "COMPACT_STRINGS" "Z" (.int zc)) (hzc : ¬ (zc = (0 : Int32))) :
    Met l Z consts_1 (⟨"com/example/cato/cato/message/SegmentEqualsPinLaw", "str", "(I)Ljava/lang/String;"⟩ : MethodName) method_3_code 5 (some (.object "java/lang/String")) ws ({ frames := 4, cells := 6, slots := 12, locals := 70 } : Room) [] #[(.int xx)] h0 n0 (nq (fun v h => ∃ a t kb, v = some (.ref a) ∧ Keep h0 h [] ∧ h0.size ≤ a ∧ Str Z h a t kb (strcs xx))) := by
  refine met_of (plainFor_of_name pn_com_example_cato_cato_message_SegmentEqualsPinLaw) hw #[.val (.int xx), .unset, .unset, .unset, .unset] (fun m => by first | rfl | (simp [entryFrame, mkF, argsToLocals, Value.category]; done)) ?_
  intro p e s m below meth c C0
  have C : Cx Z a0 tables_1 p s m meth c "com/example/cato/cato/message/SegmentEqualsPinLaw" "str" method_3_code 5 (some (.object "java/lang/String")) n0 := C0
  refine g_iloadN C d_method_3_code_0 rfl ?_
  refine g_bipush C 30 d_method_3_code_1 rfl ?_
  refine g_iushr C d_method_3_code_3 ?_
  refine g_istoreN C #[.val (.int xx), .val (.int ((xx.toUInt32 >>> ((30 : Int32) &&& 31).toUInt32).toInt32)), .unset, .unset, .unset] d_method_3_code_4 rfl ?_
  obtain ⟨len, e_len⟩ : ∃ z : Int32, ((xx.toUInt32 >>> ((30 : Int32) &&& 31).toUInt32).toInt32) = z := ⟨lenX xx, rfl⟩
  rw [e_len]
  refine g_iloadN C d_method_3_code_5 rfl ?_
  refine g_sipush C 255 d_method_3_code_6 rfl ?_
  refine g_iand C d_method_3_code_9 ?_
  refine g_i2c C d_method_3_code_10 ?_
  refine g_istoreN C #[.val (.int xx), .val (.int len), .val (.int ((xx &&& (255 : Int32)).toUInt32.toUInt16.toUInt32.toInt32)), .unset, .unset] d_method_3_code_11 rfl ?_
  obtain ⟨c0, e_c0, h_c0⟩ : ∃ z : Int32, ((xx &&& (255 : Int32)).toUInt32.toUInt16.toUInt32.toInt32) = z ∧ Ch8 z := ⟨chX0 xx, rfl, ch8_i2c _⟩
  rw [e_c0]
  refine g_iloadN C d_method_3_code_12 rfl ?_
  refine g_bipush C 8 d_method_3_code_13 rfl ?_
  refine g_iushr C d_method_3_code_15 ?_
  refine g_sipush C 255 d_method_3_code_16 rfl ?_
  refine g_iand C d_method_3_code_19 ?_
  refine g_i2c C d_method_3_code_20 ?_
  refine g_istoreN C #[.val (.int xx), .val (.int len), .val (.int c0), .val (.int ((((xx.toUInt32 >>> ((8 : Int32) &&& 31).toUInt32).toInt32) &&& (255 : Int32)).toUInt32.toUInt16.toUInt32.toInt32)), .unset] d_method_3_code_21 rfl ?_
  obtain ⟨c1, e_c1, h_c1⟩ : ∃ z : Int32, ((((xx.toUInt32 >>> ((8 : Int32) &&& 31).toUInt32).toInt32) &&& (255 : Int32)).toUInt32.toUInt16.toUInt32.toInt32) = z ∧ Ch8 z := ⟨chX1 xx, rfl, ch8_i2c _⟩
  rw [e_c1]
  refine g_iloadN C d_method_3_code_22 rfl ?_
  refine g_bipush C 16 d_method_3_code_23 rfl ?_
  refine g_iushr C d_method_3_code_25 ?_
  refine g_sipush C 255 d_method_3_code_26 rfl ?_
  refine g_iand C d_method_3_code_29 ?_
  refine g_i2c C d_method_3_code_30 ?_
  refine g_istore C #[.val (.int xx), .val (.int len), .val (.int c0), .val (.int c1), .val (.int ((((xx.toUInt32 >>> ((16 : Int32) &&& 31).toUInt32).toInt32) &&& (255 : Int32)).toUInt32.toUInt16.toUInt32.toInt32))] d_method_3_code_31 rfl ?_
  obtain ⟨c2, e_c2, h_c2⟩ : ∃ z : Int32, ((((xx.toUInt32 >>> ((16 : Int32) &&& 31).toUInt32).toInt32) &&& (255 : Int32)).toUInt32.toUInt16.toUInt32.toInt32) = z ∧ Ch8 z := ⟨chX2 xx, rfl, ch8_i2c _⟩
  rw [e_c2]
  refine g_iloadN C d_method_3_code_33 rfl ?_
  by_cases hc117 : len = 0
  · refine g_if_f C d_method_3_code_34 (XT.i0_ne_f hc117) ?_
    refine g_new C w_13 w_14 w_15 d_method_3_code_37 (by decide) (by decide) ?_
    intro b118 h118 g118 E118 A118 D118
    refine g_dup C d_method_3_code_40 rfl ?_
    refine g_iconst C 0 d_method_3_code_41 rfl ?_
    refine g_newarray C (aty := .char) w_16 d_method_3_code_42 (by decide) 0 (by decide) (by decide) (by decide) (by decide) "[C" rfl ?_
    intro b119 h119 ka119 g119 E119 V119 A119
    replace V119 : Arv Z h119 b119 ka119 .char (0 : Int32) [] (.int (0 : Int32)) := V119.pad (pad_rep [] _ 0)
    have K120 : Keep h118 h119 [] := (Keep.refl h118 []).ext E119
    have E121 := (A118.keep K120)
    have F122 := ((D118 (Or.inr (C.hw w_29)) (ty := (.array .byte)) (by decide)).keep K120 nin0)
    have F123 := ((D118 (Or.inr (C.hw w_30)) (ty := .byte) (by decide)).keep K120 nin0)
    refine g_special C (a := b118) w_17 w_18 w_19 rfl (by decide) [(.ref b119)] (ct_of hEL hw w_19 w_15 (rm_S1e l Z a0 hw hEL b118 b119 ka119 h119 n0 E121 F122 F123 V119)) (allS (List.mem_of_getElem? (i := 1) rfl) all0) (by decide) 1 (by decide) rfl pd___C_V rfl [(.ref b118)] rfl (Nat.le_of_eq rfl) d_method_3_code_44 (by decide) (by decide) ?_
    intro v124 h124 Q124
    obtain ⟨rfl, KC124, t124, kb124, tx124, S124⟩ := Q124
    refine g_areturn C hEL (t := (.object "java/lang/String")) rfl rfl rfl d_method_3_code_47 (by decide) (by decide) ?_
    have K125 : Keep h0 h118 [] := (Keep.refl h0 []).ext E118
    have K126 : Keep h0 h119 [] := K125.ext E119
    have K127 : Keep h0 h124 [] := K126.trans KC124 (allS (Or.inr (Nat.le_of_eq g118.symm)) all0)
    have eS : strcs xx = [] := by
      unfold strcs
      rw [show lenX xx = len from e_len, if_pos hc117]
    exact ⟨b118, t124, kb124, rfl, K127, (Nat.le_of_eq g118.symm), by rw [eS]; exact S124⟩
  · refine g_if_t C 48 d_method_3_code_34 (XT.i0_ne_t hc117) (by decide) (by decide) ?_
    refine g_iloadN C d_method_3_code_48 rfl ?_
    refine g_iconst C 1 d_method_3_code_49 rfl ?_
    by_cases hc128 : len = (1 : Int32)
    · refine g_icmp_f C d_method_3_code_50 (XT.ii_ne_f hc128) ?_
      refine g_new C w_13 w_14 w_15 d_method_3_code_53 (by decide) (by decide) ?_
      intro b129 h129 g129 E129 A129 D129
      refine g_dup C d_method_3_code_56 rfl ?_
      refine g_iconst C 1 d_method_3_code_57 rfl ?_
      refine g_newarray C (aty := .char) w_16 d_method_3_code_58 (by decide) 1 (by decide) (by decide) (by decide) (by decide) "[C" rfl ?_
      intro b130 h130 ka130 g130 E130 V130 A130
      replace V130 : Arv Z h130 b130 ka130 .char (1 : Int32) [(.int (0 : Int32))] (.int (0 : Int32)) := V130.pad (pad_rep [] _ 1)
      refine g_dup C d_method_3_code_60 rfl ?_
      refine g_iconst C 0 d_method_3_code_61 rfl ?_
      refine g_iloadN C d_method_3_code_62 rfl ?_
      refine g_castore C V130 (List.mem_of_getElem? (i := 0) rfl) d_method_3_code_63 ⟨by decide, by decide⟩ 0 rfl (Nat.le_of_ble_eq_true rfl) ?_
      intro h131 W131 V131
      rw [nar_ch8 h_c0] at V131
      replace V131 : Arv Z h131 b130 ka130 .char (1 : Int32) [(.int c0)] (.int (0 : Int32)) := V131
      have K132 : Keep h129 h130 [] := (Keep.refl h129 []).ext E130
      have K133 : Keep h129 h131 [] := K132.wr W131 (Or.inr (Nat.le_of_eq g130.symm))
      have E134 := (A129.keep K133)
      have F135 := ((D129 (Or.inr (C.hw w_29)) (ty := (.array .byte)) (by decide)).keep K133 nin0)
      have F136 := ((D129 (Or.inr (C.hw w_30)) (ty := .byte) (by decide)).keep K133 nin0)
      have K137 : Keep h0 h129 [] := (Keep.refl h0 []).ext E129
      have K138 : Keep h0 h130 [] := K137.ext E130
      have K139 : Keep h0 h131 [] := K138.wr W131 (Or.inr (Nat.le_trans K137.1 (Nat.le_of_eq g130.symm)))
      refine g_special C (a := b129) w_17 w_18 w_19 rfl (by decide) [(.ref b130)] (ct_newS hEL hw (cs := [c0]) (n := 1) E134 F135 F136 V131 (Sta_keep Szc K139) hzc rfl (by decide) (by decide) (own_allc h_c0 (fun _ q => nomatch q))) (allS (List.mem_of_getElem? (i := 1) rfl) all0) (by decide) 1 (by decide) rfl pd___C_V rfl [(.ref b129)] rfl (Nat.le_of_eq rfl) d_method_3_code_64 (by decide) (by decide) ?_
      intro v140 h140 Q140
      obtain ⟨rfl, KC140, t140, kb140, ht140, htx140, S140⟩ := Q140
      refine g_areturn C hEL (t := (.object "java/lang/String")) rfl rfl rfl d_method_3_code_67 (by decide) (by decide) ?_
      have K141 : Keep h0 h140 [] := K139.trans KC140 (allS (Or.inr (Nat.le_of_eq g129.symm)) all0)
      have eS : strcs xx = [c0] := by
        unfold strcs
        rw [show lenX xx = len from e_len, if_neg hc117, if_pos hc128, show chX0 xx = c0 from e_c0]
      exact ⟨b129, t140, kb140, rfl, K141, (Nat.le_of_eq g129.symm), by rw [eS]; exact S140⟩
    · refine g_icmp_t C 68 d_method_3_code_50 (XT.ii_ne_t hc128) (by decide) (by decide) ?_
      refine g_iloadN C d_method_3_code_68 rfl ?_
      refine g_iconst C 2 d_method_3_code_69 rfl ?_
      by_cases hc142 : len = (2 : Int32)
      · refine g_icmp_f C d_method_3_code_70 (XT.ii_ne_f hc142) ?_
        refine g_new C w_13 w_14 w_15 d_method_3_code_73 (by decide) (by decide) ?_
        intro b143 h143 g143 E143 A143 D143
        refine g_dup C d_method_3_code_76 rfl ?_
        refine g_iconst C 2 d_method_3_code_77 rfl ?_
        refine g_newarray C (aty := .char) w_16 d_method_3_code_78 (by decide) 2 (by decide) (by decide) (by decide) (by decide) "[C" rfl ?_
        intro b144 h144 ka144 g144 E144 V144 A144
        replace V144 : Arv Z h144 b144 ka144 .char (2 : Int32) [(.int (0 : Int32)), (.int (0 : Int32))] (.int (0 : Int32)) := V144.pad (pad_rep [] _ 2)
        refine g_dup C d_method_3_code_80 rfl ?_
        refine g_iconst C 0 d_method_3_code_81 rfl ?_
        refine g_iloadN C d_method_3_code_82 rfl ?_
        refine g_castore C V144 (List.mem_of_getElem? (i := 0) rfl) d_method_3_code_83 ⟨by decide, by decide⟩ 0 rfl (Nat.le_of_ble_eq_true rfl) ?_
        intro h145 W145 V145
        rw [nar_ch8 h_c0] at V145
        replace V145 : Arv Z h145 b144 ka144 .char (2 : Int32) [(.int c0), (.int (0 : Int32))] (.int (0 : Int32)) := V145
        refine g_dup C d_method_3_code_84 rfl ?_
        refine g_iconst C 1 d_method_3_code_85 rfl ?_
        refine g_iloadN C d_method_3_code_86 rfl ?_
        refine g_castore C V145 (List.mem_of_getElem? (i := 0) rfl) d_method_3_code_87 ⟨by decide, by decide⟩ 1 rfl (Nat.le_of_ble_eq_true rfl) ?_
        intro h146 W146 V146
        rw [nar_ch8 h_c1] at V146
        replace V146 : Arv Z h146 b144 ka144 .char (2 : Int32) [(.int c0), (.int c1)] (.int (0 : Int32)) := V146
        have K147 : Keep h143 h144 [] := (Keep.refl h143 []).ext E144
        have K148 : Keep h143 h145 [] := K147.wr W145 (Or.inr (Nat.le_of_eq g144.symm))
        have K149 : Keep h143 h146 [] := K148.wr W146 (Or.inr (Nat.le_of_eq g144.symm))
        have E150 := (A143.keep K149)
        have F151 := ((D143 (Or.inr (C.hw w_29)) (ty := (.array .byte)) (by decide)).keep K149 nin0)
        have F152 := ((D143 (Or.inr (C.hw w_30)) (ty := .byte) (by decide)).keep K149 nin0)
        have K153 : Keep h0 h143 [] := (Keep.refl h0 []).ext E143
        have K154 : Keep h0 h144 [] := K153.ext E144
        have K155 : Keep h0 h145 [] := K154.wr W145 (Or.inr (Nat.le_trans K153.1 (Nat.le_of_eq g144.symm)))
        have K156 : Keep h0 h146 [] := K155.wr W146 (Or.inr (Nat.le_trans K153.1 (Nat.le_of_eq g144.symm)))
        refine g_special C (a := b143) w_17 w_18 w_19 rfl (by decide) [(.ref b144)] (ct_newS hEL hw (cs := [c0, c1]) (n := 2) E150 F151 F152 V146 (Sta_keep Szc K156) hzc rfl (by decide) (by decide) (own_allc h_c0 (own_allc h_c1 (fun _ q => nomatch q)))) (allS (List.mem_of_getElem? (i := 1) rfl) all0) (by decide) 1 (by decide) rfl pd___C_V rfl [(.ref b143)] rfl (Nat.le_of_eq rfl) d_method_3_code_88 (by decide) (by decide) ?_
        intro v157 h157 Q157
        obtain ⟨rfl, KC157, t157, kb157, ht157, htx157, S157⟩ := Q157
        refine g_areturn C hEL (t := (.object "java/lang/String")) rfl rfl rfl d_method_3_code_91 (by decide) (by decide) ?_
        have K158 : Keep h0 h157 [] := K156.trans KC157 (allS (Or.inr (Nat.le_of_eq g143.symm)) all0)
        have eS : strcs xx = [c0, c1] := by
          unfold strcs
          rw [show lenX xx = len from e_len, if_neg hc117, if_neg hc128, if_pos hc142, show chX0 xx = c0 from e_c0, show chX1 xx = c1 from e_c1]
        exact ⟨b143, t157, kb157, rfl, K158, (Nat.le_of_eq g143.symm), by rw [eS]; exact S157⟩
      · refine g_icmp_t C 92 d_method_3_code_70 (XT.ii_ne_t hc142) (by decide) (by decide) ?_
        refine g_new C w_13 w_14 w_15 d_method_3_code_92 (by decide) (by decide) ?_
        intro b159 h159 g159 E159 A159 D159
        refine g_dup C d_method_3_code_95 rfl ?_
        refine g_iconst C 3 d_method_3_code_96 rfl ?_
        refine g_newarray C (aty := .char) w_16 d_method_3_code_97 (by decide) 3 (by decide) (by decide) (by decide) (by decide) "[C" rfl ?_
        intro b160 h160 ka160 g160 E160 V160 A160
        replace V160 : Arv Z h160 b160 ka160 .char (3 : Int32) [(.int (0 : Int32)), (.int (0 : Int32)), (.int (0 : Int32))] (.int (0 : Int32)) := V160.pad (pad_rep [] _ 3)
        refine g_dup C d_method_3_code_99 rfl ?_
        refine g_iconst C 0 d_method_3_code_100 rfl ?_
        refine g_iloadN C d_method_3_code_101 rfl ?_
        refine g_castore C V160 (List.mem_of_getElem? (i := 0) rfl) d_method_3_code_102 ⟨by decide, by decide⟩ 0 rfl (Nat.le_of_ble_eq_true rfl) ?_
        intro h161 W161 V161
        rw [nar_ch8 h_c0] at V161
        replace V161 : Arv Z h161 b160 ka160 .char (3 : Int32) [(.int c0), (.int (0 : Int32)), (.int (0 : Int32))] (.int (0 : Int32)) := V161
        refine g_dup C d_method_3_code_103 rfl ?_
        refine g_iconst C 1 d_method_3_code_104 rfl ?_
        refine g_iloadN C d_method_3_code_105 rfl ?_
        refine g_castore C V161 (List.mem_of_getElem? (i := 0) rfl) d_method_3_code_106 ⟨by decide, by decide⟩ 1 rfl (Nat.le_of_ble_eq_true rfl) ?_
        intro h162 W162 V162
        rw [nar_ch8 h_c1] at V162
        replace V162 : Arv Z h162 b160 ka160 .char (3 : Int32) [(.int c0), (.int c1), (.int (0 : Int32))] (.int (0 : Int32)) := V162
        refine g_dup C d_method_3_code_107 rfl ?_
        refine g_iconst C 2 d_method_3_code_108 rfl ?_
        refine g_iload C d_method_3_code_109 rfl ?_
        refine g_castore C V162 (List.mem_of_getElem? (i := 0) rfl) d_method_3_code_111 ⟨by decide, by decide⟩ 2 rfl (Nat.le_of_ble_eq_true rfl) ?_
        intro h163 W163 V163
        rw [nar_ch8 h_c2] at V163
        replace V163 : Arv Z h163 b160 ka160 .char (3 : Int32) [(.int c0), (.int c1), (.int c2)] (.int (0 : Int32)) := V163
        have K164 : Keep h159 h160 [] := (Keep.refl h159 []).ext E160
        have K165 : Keep h159 h161 [] := K164.wr W161 (Or.inr (Nat.le_of_eq g160.symm))
        have K166 : Keep h159 h162 [] := K165.wr W162 (Or.inr (Nat.le_of_eq g160.symm))
        have K167 : Keep h159 h163 [] := K166.wr W163 (Or.inr (Nat.le_of_eq g160.symm))
        have E168 := (A159.keep K167)
        have F169 := ((D159 (Or.inr (C.hw w_29)) (ty := (.array .byte)) (by decide)).keep K167 nin0)
        have F170 := ((D159 (Or.inr (C.hw w_30)) (ty := .byte) (by decide)).keep K167 nin0)
        have K171 : Keep h0 h159 [] := (Keep.refl h0 []).ext E159
        have K172 : Keep h0 h160 [] := K171.ext E160
        have K173 : Keep h0 h161 [] := K172.wr W161 (Or.inr (Nat.le_trans K171.1 (Nat.le_of_eq g160.symm)))
        have K174 : Keep h0 h162 [] := K173.wr W162 (Or.inr (Nat.le_trans K171.1 (Nat.le_of_eq g160.symm)))
        have K175 : Keep h0 h163 [] := K174.wr W163 (Or.inr (Nat.le_trans K171.1 (Nat.le_of_eq g160.symm)))
        refine g_special C (a := b159) w_17 w_18 w_19 rfl (by decide) [(.ref b160)] (ct_newS hEL hw (cs := [c0, c1, c2]) (n := 3) E168 F169 F170 V163 (Sta_keep Szc K175) hzc rfl (by decide) (by decide) (own_allc h_c0 (own_allc h_c1 (own_allc h_c2 (fun _ q => nomatch q))))) (allS (List.mem_of_getElem? (i := 1) rfl) all0) (by decide) 1 (by decide) rfl pd___C_V rfl [(.ref b159)] rfl (Nat.le_of_eq rfl) d_method_3_code_112 (by decide) (by decide) ?_
        intro v176 h176 Q176
        obtain ⟨rfl, KC176, t176, kb176, ht176, htx176, S176⟩ := Q176
        refine g_areturn C hEL (t := (.object "java/lang/String")) rfl rfl rfl d_method_3_code_115 (by decide) (by decide) ?_
        have K177 : Keep h0 h176 [] := K175.trans KC176 (allS (Or.inr (Nat.le_of_eq g159.symm)) all0)
        have eS : strcs xx = [c0, c1, c2] := by
          unfold strcs
          rw [show lenX xx = len from e_len, if_neg hc117, if_neg hc128, if_neg hc142, show chX0 xx = c0 from e_c0, show chX1 xx = c1 from e_c1, show chX2 xx = c2 from e_c2]
        exact ⟨b159, t176, kb176, rfl, K177, (Nat.le_of_eq g159.symm), by rw [eS]; exact S176⟩
theorem d_method_4_code_0 : decode method_4_code 0 = .ok (.iload_n 0, 1) := by decide +kernel
theorem d_method_4_code_1 : decode method_4_code 1 = .ok (.bipush 30, 2) := by decide +kernel
theorem d_method_4_code_3 : decode method_4_code 3 = .ok (.iushr, 1) := by decide +kernel
theorem d_method_4_code_4 : decode method_4_code 4 = .ok (.istore_n 1, 1) := by decide +kernel
theorem d_method_4_code_5 : decode method_4_code 5 = .ok (.iload_n 1, 1) := by decide +kernel
theorem d_method_4_code_6 : decode method_4_code 6 = .ok (.ifCond .ne 8, 3) := by decide +kernel
theorem d_method_4_code_9 : decode method_4_code 9 = .ok (.iconst 0, 1) := by decide +kernel
theorem d_method_4_code_10 : decode method_4_code 10 = .ok (.istore_n 2, 1) := by decide +kernel
theorem d_method_4_code_11 : decode method_4_code 11 = .ok (.goto 29, 3) := by decide +kernel
theorem d_method_4_code_14 : decode method_4_code 14 = .ok (.iload_n 1, 1) := by decide +kernel
theorem d_method_4_code_15 : decode method_4_code 15 = .ok (.iconst 1, 1) := by decide +kernel
theorem d_method_4_code_16 : decode method_4_code 16 = .ok (.if_icmp .ne 10, 3) := by decide +kernel
theorem d_method_4_code_19 : decode method_4_code 19 = .ok (.sipush 255, 3) := by decide +kernel
theorem d_method_4_code_22 : decode method_4_code 22 = .ok (.istore_n 2, 1) := by decide +kernel
theorem d_method_4_code_23 : decode method_4_code 23 = .ok (.goto 17, 3) := by decide +kernel
theorem d_method_4_code_26 : decode method_4_code 26 = .ok (.iload_n 1, 1) := by decide +kernel
theorem d_method_4_code_27 : decode method_4_code 27 = .ok (.iconst 2, 1) := by decide +kernel
theorem d_method_4_code_28 : decode method_4_code 28 = .ok (.if_icmp .ne 9, 3) := by decide +kernel
theorem d_method_4_code_31 : decode method_4_code 31 = .ok (.ldc 24, 2) := by decide +kernel
theorem d_method_4_code_33 : decode method_4_code 33 = .ok (.istore_n 2, 1) := by decide +kernel
theorem d_method_4_code_34 : decode method_4_code 34 = .ok (.goto 6, 3) := by decide +kernel
theorem d_method_4_code_37 : decode method_4_code 37 = .ok (.ldc 25, 2) := by decide +kernel
theorem d_method_4_code_39 : decode method_4_code 39 = .ok (.istore_n 2, 1) := by decide +kernel
theorem d_method_4_code_40 : decode method_4_code 40 = .ok (.iload_n 0, 1) := by decide +kernel
theorem d_method_4_code_41 : decode method_4_code 41 = .ok (.iload_n 2, 1) := by decide +kernel
theorem d_method_4_code_42 : decode method_4_code 42 = .ok (.iand, 1) := by decide +kernel
theorem d_method_4_code_43 : decode method_4_code 43 = .ok (.iload_n 1, 1) := by decide +kernel
theorem d_method_4_code_44 : decode method_4_code 44 = .ok (.bipush 24, 2) := by decide +kernel
theorem d_method_4_code_46 : decode method_4_code 46 = .ok (.ishl, 1) := by decide +kernel
theorem d_method_4_code_47 : decode method_4_code 47 = .ok (.ior, 1) := by decide +kernel
theorem d_method_4_code_48 : decode method_4_code 48 = .ok (.ireturn, 1) := by decide +kernel
set_option maxRecDepth 65536 in
set_option maxHeartbeats 40000000 in
theorem rm_norm (l : Launch) (Z : State) (a0 : Array Value) (hw : ∀ d ∈ tables_1, d.before a0 Z = true) (hEL : EW Z a0 consts_1) {ws : List Jvm.Cond} (xx : Int32) (h0 : Heap) (n0 : Nat) :
    Met l Z consts_1 (⟨"com/example/cato/cato/message/SegmentEqualsPinLaw", "norm", "(I)I"⟩ : MethodName) method_4_code 3 (some .int) ws ({ frames := 0, cells := 0, slots := 0, locals := 0 } : Room) [] #[(.int xx)] h0 n0 (nq (fun v h => v = some (.int (normX xx)) ∧ h = h0)) := by
  refine met_of (plainFor_of_name pn_com_example_cato_cato_message_SegmentEqualsPinLaw) hw #[.val (.int xx), .unset, .unset] (fun m => by first | rfl | (simp [entryFrame, mkF, argsToLocals, Value.category]; done)) ?_
  intro p e s m below meth c C0
  have C : Cx Z a0 tables_1 p s m meth c "com/example/cato/cato/message/SegmentEqualsPinLaw" "norm" method_4_code 3 (some .int) n0 := C0
  refine g_iloadN C d_method_4_code_0 rfl ?_
  refine g_bipush C 30 d_method_4_code_1 rfl ?_
  refine g_iushr C d_method_4_code_3 ?_
  refine g_istoreN C #[.val (.int xx), .val (.int ((xx.toUInt32 >>> ((30 : Int32) &&& 31).toUInt32).toInt32)), .unset] d_method_4_code_4 rfl ?_
  obtain ⟨len, e_len⟩ : ∃ z : Int32, ((xx.toUInt32 >>> ((30 : Int32) &&& 31).toUInt32).toInt32) = z := ⟨_, rfl⟩
  rw [e_len]
  refine g_iloadN C d_method_4_code_5 rfl ?_
  by_cases hc178 : len = 0
  · refine g_if_f C d_method_4_code_6 (XT.i0_ne_f hc178) ?_
    refine g_iconst C 0 d_method_4_code_9 rfl ?_
    refine g_istoreN C #[.val (.int xx), .val (.int len), .val (.int (0 : Int32))] d_method_4_code_10 rfl ?_
    refine g_goto C 40 d_method_4_code_11 (by decide) (by decide) ?_
    refine g_iloadN C d_method_4_code_40 rfl ?_
    refine g_iloadN C d_method_4_code_41 rfl ?_
    refine g_iand C d_method_4_code_42 ?_
    refine g_iloadN C d_method_4_code_43 rfl ?_
    refine g_bipush C 24 d_method_4_code_44 rfl ?_
    refine g_ishl C d_method_4_code_46 ?_
    refine g_ior C d_method_4_code_47 ?_
    refine g_ireturnI C hEL rfl d_method_4_code_48 (by decide) (by decide) ?_
    exact ⟨by unfold normX maskX; rw [show lenX xx = len from e_len, if_pos hc178], rfl⟩
  · refine g_if_t C 14 d_method_4_code_6 (XT.i0_ne_t hc178) (by decide) (by decide) ?_
    refine g_iloadN C d_method_4_code_14 rfl ?_
    refine g_iconst C 1 d_method_4_code_15 rfl ?_
    by_cases hc179 : len = (1 : Int32)
    · refine g_icmp_f C d_method_4_code_16 (XT.ii_ne_f hc179) ?_
      refine g_sipush C 255 d_method_4_code_19 rfl ?_
      refine g_istoreN C #[.val (.int xx), .val (.int len), .val (.int (255 : Int32))] d_method_4_code_22 rfl ?_
      refine g_goto C 40 d_method_4_code_23 (by decide) (by decide) ?_
      refine g_iloadN C d_method_4_code_40 rfl ?_
      refine g_iloadN C d_method_4_code_41 rfl ?_
      refine g_iand C d_method_4_code_42 ?_
      refine g_iloadN C d_method_4_code_43 rfl ?_
      refine g_bipush C 24 d_method_4_code_44 rfl ?_
      refine g_ishl C d_method_4_code_46 ?_
      refine g_ior C d_method_4_code_47 ?_
      refine g_ireturnI C hEL rfl d_method_4_code_48 (by decide) (by decide) ?_
      exact ⟨by unfold normX maskX; rw [show lenX xx = len from e_len, if_neg hc178, if_pos hc179], rfl⟩
    · refine g_icmp_t C 26 d_method_4_code_16 (XT.ii_ne_t hc179) (by decide) (by decide) ?_
      refine g_iloadN C d_method_4_code_26 rfl ?_
      refine g_iconst C 2 d_method_4_code_27 rfl ?_
      by_cases hc180 : len = (2 : Int32)
      · refine g_icmp_f C d_method_4_code_28 (XT.ii_ne_f hc180) ?_
        refine g_ldcI C w_92 d_method_4_code_31 ?_
        refine g_istoreN C #[.val (.int xx), .val (.int len), .val (.int (65535 : Int32))] d_method_4_code_33 rfl ?_
        refine g_goto C 40 d_method_4_code_34 (by decide) (by decide) ?_
        refine g_iloadN C d_method_4_code_40 rfl ?_
        refine g_iloadN C d_method_4_code_41 rfl ?_
        refine g_iand C d_method_4_code_42 ?_
        refine g_iloadN C d_method_4_code_43 rfl ?_
        refine g_bipush C 24 d_method_4_code_44 rfl ?_
        refine g_ishl C d_method_4_code_46 ?_
        refine g_ior C d_method_4_code_47 ?_
        refine g_ireturnI C hEL rfl d_method_4_code_48 (by decide) (by decide) ?_
        exact ⟨by unfold normX maskX; rw [show lenX xx = len from e_len, if_neg hc178, if_neg hc179, if_pos hc180], rfl⟩
      · refine g_icmp_t C 37 d_method_4_code_28 (XT.ii_ne_t hc180) (by decide) (by decide) ?_
        refine g_ldcI C w_93 d_method_4_code_37 ?_
        refine g_istoreN C #[.val (.int xx), .val (.int len), .val (.int (16777215 : Int32))] d_method_4_code_39 rfl ?_
        refine g_iloadN C d_method_4_code_40 rfl ?_
        refine g_iloadN C d_method_4_code_41 rfl ?_
        refine g_iand C d_method_4_code_42 ?_
        refine g_iloadN C d_method_4_code_43 rfl ?_
        refine g_bipush C 24 d_method_4_code_44 rfl ?_
        refine g_ishl C d_method_4_code_46 ?_
        refine g_ior C d_method_4_code_47 ?_
        refine g_ireturnI C hEL rfl d_method_4_code_48 (by decide) (by decide) ?_
        exact ⟨by unfold normX maskX; rw [show lenX xx = len from e_len, if_neg hc178, if_neg hc179, if_neg hc180], rfl⟩
theorem d_jdk_31_method_11_code_0 : decode jdk_31_method_11_code 0 = .ok (.aload_n 0, 1) := by decide +kernel
theorem d_jdk_31_method_11_code_1 : decode jdk_31_method_11_code 1 = .ok (.ifnonnull 12, 3) := by decide +kernel
theorem d_jdk_31_method_11_code_13 : decode jdk_31_method_11_code 13 = .ok (.aload_n 0, 1) := by decide +kernel
theorem d_jdk_31_method_11_code_14 : decode jdk_31_method_11_code 14 = .ok (.areturn, 1) := by decide +kernel
theorem pn_java_util_Objects : plainName "java/util/Objects" = true := by first | (simp [plainName, overriddenIn]; done) | decide +kernel
set_option maxRecDepth 65536 in
set_option maxHeartbeats 40000000 in
theorem rm_rnn (l : Launch) (Z : State) (a0 : Array Value) (hw : ∀ d ∈ tables_1, d.before a0 Z = true) (hEL : EW Z a0 consts_1) {ws : List Jvm.Cond} (a1 a2 : Addr) (h0 : Heap) (n0 : Nat) :
    Met l Z consts_1 (⟨"java/util/Objects", "requireNonNull", "(Ljava/lang/Object;Ljava/lang/String;)Ljava/lang/Object;"⟩ : MethodName) jdk_31_method_11_code 2 (some (.object "java/lang/Object")) ws ({ frames := 0, cells := 0, slots := 0, locals := 0 } : Room) [] #[(.ref a1), (.ref a2)] h0 n0 (nq (fun v h => v = some (.ref a1) ∧ h = h0)) := by
  refine met_of (plainFor_of_name pn_java_util_Objects) hw #[.val (.ref a1), .val (.ref a2)] (fun m => by first | rfl | (simp [entryFrame, mkF, argsToLocals, Value.category]; done)) ?_
  intro p e s m below meth c C0
  have C : Cx Z a0 tables_1 p s m meth c "java/util/Objects" "requireNonNull" jdk_31_method_11_code 2 (some (.object "java/lang/Object")) n0 := C0
  refine g_aloadN C d_jdk_31_method_11_code_0 rfl rfl ?_
  refine g_ifnonnull_t C 13 d_jdk_31_method_11_code_1 (by decide) (by decide) ?_
  refine g_aloadN C d_jdk_31_method_11_code_13 rfl rfl ?_
  refine g_areturn C hEL (t := (.object "java/lang/Object")) rfl rfl rfl d_jdk_31_method_11_code_14 (by decide) (by decide) ?_
  exact ⟨rfl, rfl⟩
theorem d_prog_6_method_1_code_0 : decode prog_6_method_1_code 0 = .ok (.aload_n 0, 1) := by decide +kernel
theorem d_prog_6_method_1_code_1 : decode prog_6_method_1_code 1 = .ok (.invokespecial 1, 3) := by decide +kernel
theorem d_prog_6_method_1_code_4 : decode prog_6_method_1_code 4 = .ok (.aload_n 0, 1) := by decide +kernel
theorem d_prog_6_method_1_code_5 : decode prog_6_method_1_code 5 = .ok (.aload_n 1, 1) := by decide +kernel
theorem d_prog_6_method_1_code_6 : decode prog_6_method_1_code 6 = .ok (.ldc 7, 2) := by decide +kernel
theorem d_prog_6_method_1_code_8 : decode prog_6_method_1_code 8 = .ok (.invokestatic 9, 3) := by decide +kernel
theorem d_prog_6_method_1_code_11 : decode prog_6_method_1_code 11 = .ok (.checkcast 15, 3) := by decide +kernel
theorem d_prog_6_method_1_code_14 : decode prog_6_method_1_code 14 = .ok (.putfield 17, 3) := by decide +kernel
theorem d_prog_6_method_1_code_17 : decode prog_6_method_1_code 17 = .ok (.aload_n 0, 1) := by decide +kernel
theorem d_prog_6_method_1_code_18 : decode prog_6_method_1_code 18 = .ok (.aload_n 2, 1) := by decide +kernel
theorem d_prog_6_method_1_code_19 : decode prog_6_method_1_code 19 = .ok (.ldc 22, 2) := by decide +kernel
theorem d_prog_6_method_1_code_21 : decode prog_6_method_1_code 21 = .ok (.invokestatic 9, 3) := by decide +kernel
theorem d_prog_6_method_1_code_24 : decode prog_6_method_1_code 24 = .ok (.checkcast 24, 3) := by decide +kernel
theorem d_prog_6_method_1_code_27 : decode prog_6_method_1_code 27 = .ok (.putfield 26, 3) := by decide +kernel
theorem d_prog_6_method_1_code_30 : decode prog_6_method_1_code 30 = .ok (.aload_n 0, 1) := by decide +kernel
theorem d_prog_6_method_1_code_31 : decode prog_6_method_1_code 31 = .ok (.aload_n 3, 1) := by decide +kernel
theorem d_prog_6_method_1_code_32 : decode prog_6_method_1_code 32 = .ok (.ldc 29, 2) := by decide +kernel
theorem d_prog_6_method_1_code_34 : decode prog_6_method_1_code 34 = .ok (.invokestatic 9, 3) := by decide +kernel
theorem d_prog_6_method_1_code_37 : decode prog_6_method_1_code 37 = .ok (.checkcast 24, 3) := by decide +kernel
theorem d_prog_6_method_1_code_40 : decode prog_6_method_1_code 40 = .ok (.putfield 31, 3) := by decide +kernel
theorem d_prog_6_method_1_code_43 : decode prog_6_method_1_code 43 = .ok (.return_, 1) := by decide +kernel
theorem pn_com_example_cato_cato_message_MessageTemplate_Segment : plainName "com/example/cato/cato/message/MessageTemplate$Segment" = true := by first | (simp [plainName, overriddenIn]; done) | decide +kernel
theorem pd__Ljava_lang_Object_Ljava_lang_String__Ljava_lang_Object_ : parseMethodDescriptor "(Ljava/lang/Object;Ljava/lang/String;)Ljava/lang/Object;" = some ⟨[(.object "java/lang/Object"), (.object "java/lang/String")], some (.object "java/lang/Object")⟩ := by decide +kernel
set_option maxRecDepth 65536 in
set_option maxHeartbeats 40000000 in
theorem rm_init (l : Launch) (Z : State) (a0 : Array Value) (hw : ∀ d ∈ tables_1, d.before a0 Z = true) (hEL : EW Z a0 consts_1) {ws : List Jvm.Cond} (a1 a2 a3 a4 : Addr) (h0 : Heap) (n0 : Nat) (E1 : Exa Z h0 a1 "com/example/cato/cato/message/MessageTemplate$Segment") (F1 : Fld Z h0 a1 "com/example/cato/cato/message/MessageTemplate$Segment" "kind" "Lcom/example/cato/cato/message/MessageTemplate$Segment$Kind;" .null) (F2 : Fld Z h0 a1 "com/example/cato/cato/message/MessageTemplate$Segment" "source" "Ljava/lang/String;" .null) (F3 : Fld Z h0 a1 "com/example/cato/cato/message/MessageTemplate$Segment" "content" "Ljava/lang/String;" .null) (E2 : Exa Z h0 a2 "com/example/cato/cato/message/MessageTemplate$Segment$Kind") (E3 : Exa Z h0 a3 "java/lang/String") (E4 : Exa Z h0 a4 "java/lang/String") :
    Met l Z consts_1 (⟨"com/example/cato/cato/message/MessageTemplate$Segment", "<init>", "(Lcom/example/cato/cato/message/MessageTemplate$Segment$Kind;Ljava/lang/String;Ljava/lang/String;)V"⟩ : MethodName) prog_6_method_1_code 4 none ws ({ frames := 1, cells := 6, slots := 80, locals := 16 } : Room) [a1] #[(.ref a1), (.ref a2), (.ref a3), (.ref a4)] h0 n0 (nq (fun v h => v = none ∧ Keep h0 h [a1] ∧ Exa Z h a1 "com/example/cato/cato/message/MessageTemplate$Segment" ∧ Fld Z h a1 "com/example/cato/cato/message/MessageTemplate$Segment" "kind" "Lcom/example/cato/cato/message/MessageTemplate$Segment$Kind;" (.ref a2) ∧ Fld Z h a1 "com/example/cato/cato/message/MessageTemplate$Segment" "source" "Ljava/lang/String;" (.ref a3) ∧ Fld Z h a1 "com/example/cato/cato/message/MessageTemplate$Segment" "content" "Ljava/lang/String;" (.ref a4))) := by
  refine met_of (plainFor_of_name pn_com_example_cato_cato_message_MessageTemplate_Segment) hw #[.val (.ref a1), .val (.ref a2), .val (.ref a3), .val (.ref a4)] (fun m => by first | rfl | (simp [entryFrame, mkF, argsToLocals, Value.category]; done)) ?_
  intro p e s m below meth c C0
  have C : Cx Z a0 tables_1 p s m meth c "com/example/cato/cato/message/MessageTemplate$Segment" "<init>" prog_6_method_1_code 4 none n0 := C0
  refine g_aloadN C d_prog_6_method_1_code_0 rfl rfl ?_
  refine g_initO C w_38 w_25 w_26 rfl d_prog_6_method_1_code_1 (by decide) 0 (Nat.le_of_eq rfl) (by decide) ?_
  refine g_aloadN C d_prog_6_method_1_code_4 rfl rfl ?_
  refine g_aloadN C d_prog_6_method_1_code_5 rfl rfl ?_
  refine g_ldcS C hEL w_39 own_sA (List.mem_of_getElem? (i := 0) rfl) [107, 105, 110, 100] ⟨by decide +kernel, by decide +kernel⟩ (by decide) (by decide) d_prog_6_method_1_code_6 16 (by decide +kernel) (by decide) (by decide) (by decide) ?_
  intro a181 t181 kb181 h181 E181 S181 X181
  refine g_static C w_40 w_41 w_42 w_43 (by decide) [(.ref a2), (.ref a181)] (ct_of hEL hw w_43 w_42 (rm_rnn l Z a0 hw hEL a2 a181 h181 n0 )) all0 (by decide) 1 (by decide) rfl pd__Ljava_lang_Object_Ljava_lang_String__Ljava_lang_Object_ rfl [(.ref a1)] rfl (Nat.le_of_eq rfl) d_prog_6_method_1_code_8 (by decide) (by decide) ?_
  intro v182 h182 Q182
  obtain ⟨rfl, e182⟩ := Q182
  replace e182 := e182.symm
  subst e182
  have K183 : Keep h0 h181 [] := (Keep.refl h0 []).ext E181
  have E184 := (E2.keep K183)
  refine g_checkcast C w_44 (Ins.self E184) d_prog_6_method_1_code_11 ?_
  have F185 := (F1.keep K183 nin0)
  have E186 := (E1.keep K183)
  refine g_putfield C (.object "com/example/cato/cato/message/MessageTemplate$Segment$Kind") w_46 Via.refl F185 E186 (Or.inr ⟨w_47, rfl, rfl⟩) w_1 (by decide) rfl rfl (List.mem_of_getElem? (i := 0) rfl) d_prog_6_method_1_code_14 ?_
  intro h187 W187 F187
  refine g_aloadN C d_prog_6_method_1_code_17 rfl rfl ?_
  refine g_aloadN C d_prog_6_method_1_code_18 rfl rfl ?_
  refine g_ldcS C hEL w_48 own_sA (List.mem_of_getElem? (i := 1) rfl) [115, 111, 117, 114, 99, 101] ⟨by decide +kernel, by decide +kernel⟩ (by decide) (by decide) d_prog_6_method_1_code_19 24 (by decide +kernel) (by decide) (by decide) (by decide) ?_
  intro a188 t188 kb188 h188 E188 S188 X188
  refine g_static C w_40 w_41 w_42 w_43 (by decide) [(.ref a3), (.ref a188)] (ct_of hEL hw w_43 w_42 (rm_rnn l Z a0 hw hEL a3 a188 h188 n0 )) all0 (by decide) 1 (by decide) rfl pd__Ljava_lang_Object_Ljava_lang_String__Ljava_lang_Object_ rfl [(.ref a1)] rfl (Nat.le_of_eq rfl) d_prog_6_method_1_code_21 (by decide) (by decide) ?_
  intro v189 h189 Q189
  obtain ⟨rfl, e189⟩ := Q189
  replace e189 := e189.symm
  subst e189
  have E190 := (((E3.ext E181).wr W187).ext E188)
  refine g_checkcast C w_49 (Ins.self E190) d_prog_6_method_1_code_24 ?_
  have F191 := (((F2.ext E181).other W187 (Or.inr (slot_ne (Or.inr (C.hw w_51)) (Or.inr (C.hw w_47)) (by decide) (t := (.object "java/lang/String")) (t' := (.object "com/example/cato/cato/message/MessageTemplate$Segment$Kind")) (by decide) (by decide)))).ext E188)
  have E192 := ((E186.wr W187).ext E188)
  refine g_putfield C (.object "java/lang/String") w_50 Via.refl F191 E192 (Or.inr ⟨w_51, rfl, rfl⟩) w_1 (by decide) rfl rfl (List.mem_of_getElem? (i := 0) rfl) d_prog_6_method_1_code_27 ?_
  intro h193 W193 F193
  refine g_aloadN C d_prog_6_method_1_code_30 rfl rfl ?_
  refine g_aloadN C d_prog_6_method_1_code_31 rfl rfl ?_
  refine g_ldcS C hEL w_52 own_sA (List.mem_of_getElem? (i := 2) rfl) [99, 111, 110, 116, 101, 110, 116] ⟨by decide +kernel, by decide +kernel⟩ (by decide) (by decide) d_prog_6_method_1_code_32 28 (by decide +kernel) (by decide) (by decide) (by decide) ?_
  intro a194 t194 kb194 h194 E194 S194 X194
  refine g_static C w_40 w_41 w_42 w_43 (by decide) [(.ref a4), (.ref a194)] (ct_of hEL hw w_43 w_42 (rm_rnn l Z a0 hw hEL a4 a194 h194 n0 )) all0 (by decide) 1 (by decide) rfl pd__Ljava_lang_Object_Ljava_lang_String__Ljava_lang_Object_ rfl [(.ref a1)] rfl (Nat.le_of_eq rfl) d_prog_6_method_1_code_34 (by decide) (by decide) ?_
  intro v195 h195 Q195
  obtain ⟨rfl, e195⟩ := Q195
  replace e195 := e195.symm
  subst e195
  have E196 := (((((E4.ext E181).wr W187).ext E188).wr W193).ext E194)
  refine g_checkcast C w_49 (Ins.self E196) d_prog_6_method_1_code_37 ?_
  have F197 := (((((F3.ext E181).other W187 (Or.inr (slot_ne (Or.inr (C.hw w_54)) (Or.inr (C.hw w_47)) (by decide) (t := (.object "java/lang/String")) (t' := (.object "com/example/cato/cato/message/MessageTemplate$Segment$Kind")) (by decide) (by decide)))).ext E188).other W193 (Or.inr (slot_ne (Or.inr (C.hw w_54)) (Or.inr (C.hw w_51)) (by decide) (t := (.object "java/lang/String")) (t' := (.object "java/lang/String")) (by decide) (by decide)))).ext E194)
  have E198 := ((E192.wr W193).ext E194)
  refine g_putfield C (.object "java/lang/String") w_53 Via.refl F197 E198 (Or.inr ⟨w_54, rfl, rfl⟩) w_1 (by decide) rfl rfl (List.mem_of_getElem? (i := 0) rfl) d_prog_6_method_1_code_40 ?_
  intro h199 W199 F199
  refine g_return C hEL rfl d_prog_6_method_1_code_43 (by decide) (by decide) ?_
  have E200 := (E198.wr W199)
  have K201 : Keep h187 h188 [] := (Keep.refl h187 []).ext E188
  have F202 := ((((F187.ext E188).other W193 (Or.inr (slot_ne (Or.inr (C.hw w_47)) (Or.inr (C.hw w_51)) (by decide) (t := (.object "com/example/cato/cato/message/MessageTemplate$Segment$Kind")) (t' := (.object "java/lang/String")) (by decide) (by decide)))).ext E194).other W199 (Or.inr (slot_ne (Or.inr (C.hw w_47)) (Or.inr (C.hw w_54)) (by decide) (t := (.object "com/example/cato/cato/message/MessageTemplate$Segment$Kind")) (t' := (.object "java/lang/String")) (by decide) (by decide))))
  have K203 : Keep h193 h194 [] := (Keep.refl h193 []).ext E194
  have F204 := ((F193.ext E194).other W199 (Or.inr (slot_ne (Or.inr (C.hw w_51)) (Or.inr (C.hw w_54)) (by decide) (t := (.object "java/lang/String")) (t' := (.object "java/lang/String")) (by decide) (by decide))))
  exact ⟨rfl, (((((((Keep.refl _ _).ext E181).wr W187 (Or.inl (List.mem_cons_self ..))).ext E188).wr W193 (Or.inl (List.mem_cons_self ..))).ext E194).wr W199 (Or.inl (List.mem_cons_self ..))), E200, F202, F204, F199⟩
theorem d_prog_6_method_5_code_0 : decode prog_6_method_5_code 0 = .ok (.aload_n 1, 1) := by decide +kernel
theorem d_prog_6_method_5_code_1 : decode prog_6_method_5_code 1 = .ok (.instanceof 18, 3) := by decide +kernel
theorem d_prog_6_method_5_code_4 : decode prog_6_method_5_code 4 = .ok (.ifCond .eq 51, 3) := by decide +kernel
theorem d_prog_6_method_5_code_55 : decode prog_6_method_5_code 55 = .ok (.iconst 0, 1) := by decide +kernel
theorem d_prog_6_method_5_code_56 : decode prog_6_method_5_code 56 = .ok (.ireturn, 1) := by decide +kernel
set_option maxRecDepth 65536 in
set_option maxHeartbeats 40000000 in
theorem rm_eqN (l : Launch) (Z : State) (a0 : Array Value) (hw : ∀ d ∈ tables_1, d.before a0 Z = true) (hEL : EW Z a0 consts_1) {ws : List Jvm.Cond} (a1 : Addr) (h0 : Heap) (n0 : Nat) :
    Met l Z consts_1 (⟨"com/example/cato/cato/message/MessageTemplate$Segment", "equals", "(Ljava/lang/Object;)Z"⟩ : MethodName) prog_6_method_5_code 3 (some .boolean) ws ({ frames := 2, cells := 0, slots := 0, locals := 40 } : Room) [] #[(.ref a1), .null] h0 n0 (nq (fun v h => v = some (.int 0) ∧ h = h0)) := by
  refine met_of (plainFor_of_name pn_com_example_cato_cato_message_MessageTemplate_Segment) hw #[.val (.ref a1), .val .null, .unset] (fun m => by first | rfl | (simp [entryFrame, mkF, argsToLocals, Value.category]; done)) ?_
  intro p e s m below meth c C0
  have C : Cx Z a0 tables_1 p s m meth c "com/example/cato/cato/message/MessageTemplate$Segment" "equals" prog_6_method_5_code 3 (some .boolean) n0 := C0
  refine g_aloadN C d_prog_6_method_5_code_0 rfl rfl ?_
  refine g_instanceof_null C d_prog_6_method_5_code_1 ?_
  refine g_if_t C 55 d_prog_6_method_5_code_4 (XT.i0_eq_t (by decide)) (by decide) (by decide) ?_
  refine g_iconst C 0 d_prog_6_method_5_code_55 rfl ?_
  refine g_ireturnN C hEL (t := .boolean) rfl (by simp) d_prog_6_method_5_code_56 (by decide) (by decide) ?_
  exact ⟨rfl, rfl⟩
set_option maxRecDepth 65536 in
set_option maxHeartbeats 40000000 in
theorem rm_eqS (l : Launch) (Z : State) (a0 : Array Value) (hw : ∀ d ∈ tables_1, d.before a0 Z = true) (hEL : EW Z a0 consts_1) {ws : List Jvm.Cond} (a1 a2 : Addr) (h0 : Heap) (n0 : Nat) (E2 : Exa Z h0 a2 "java/lang/String") :
    Met l Z consts_1 (⟨"com/example/cato/cato/message/MessageTemplate$Segment", "equals", "(Ljava/lang/Object;)Z"⟩ : MethodName) prog_6_method_5_code 3 (some .boolean) ws ({ frames := 2, cells := 0, slots := 0, locals := 40 } : Room) [] #[(.ref a1), (.ref a2)] h0 n0 (nq (fun v h => v = some (.int 0) ∧ h = h0)) := by
  refine met_of (plainFor_of_name pn_com_example_cato_cato_message_MessageTemplate_Segment) hw #[.val (.ref a1), .val (.ref a2), .unset] (fun m => by first | rfl | (simp [entryFrame, mkF, argsToLocals, Value.category]; done)) ?_
  intro p e s m below meth c C0
  have C : Cx Z a0 tables_1 p s m meth c "com/example/cato/cato/message/MessageTemplate$Segment" "equals" prog_6_method_5_code 3 (some .boolean) n0 := C0
  refine g_aloadN C d_prog_6_method_5_code_0 rfl rfl ?_
  refine g_instanceof_f C w_63 E2 (own_no (hw _ w_88) (hw _ w_1) (NS.step (hw _ w_88) (own_root (hw _ w_89) (hw _ w_1) (by decide)) (by decide)) (by decide)) d_prog_6_method_5_code_1 ?_
  refine g_if_t C 55 d_prog_6_method_5_code_4 (XT.i0_eq_t (by decide)) (by decide) (by decide) ?_
  refine g_iconst C 0 d_prog_6_method_5_code_55 rfl ?_
  refine g_ireturnN C hEL (t := .boolean) rfl (by simp) d_prog_6_method_5_code_56 (by decide) (by decide) ?_
  exact ⟨rfl, rfl⟩
theorem d_prog_6_method_5_code_7 : decode prog_6_method_5_code 7 = .ok (.aload_n 1, 1) := by decide +kernel
theorem d_prog_6_method_5_code_8 : decode prog_6_method_5_code 8 = .ok (.checkcast 18, 3) := by decide +kernel
theorem d_prog_6_method_5_code_11 : decode prog_6_method_5_code 11 = .ok (.astore_n 2, 1) := by decide +kernel
theorem d_prog_6_method_5_code_12 : decode prog_6_method_5_code 12 = .ok (.aload_n 0, 1) := by decide +kernel
theorem d_prog_6_method_5_code_13 : decode prog_6_method_5_code 13 = .ok (.getfield 17, 3) := by decide +kernel
theorem d_prog_6_method_5_code_16 : decode prog_6_method_5_code 16 = .ok (.aload_n 2, 1) := by decide +kernel
theorem d_prog_6_method_5_code_17 : decode prog_6_method_5_code 17 = .ok (.getfield 17, 3) := by decide +kernel
theorem d_prog_6_method_5_code_20 : decode prog_6_method_5_code 20 = .ok (.if_acmp .ne 35, 3) := by decide +kernel
theorem d_prog_6_method_5_code_23 : decode prog_6_method_5_code 23 = .ok (.aload_n 0, 1) := by decide +kernel
theorem d_prog_6_method_5_code_24 : decode prog_6_method_5_code 24 = .ok (.getfield 26, 3) := by decide +kernel
theorem d_prog_6_method_5_code_27 : decode prog_6_method_5_code 27 = .ok (.aload_n 2, 1) := by decide +kernel
theorem d_prog_6_method_5_code_28 : decode prog_6_method_5_code 28 = .ok (.getfield 26, 3) := by decide +kernel
theorem d_prog_6_method_5_code_31 : decode prog_6_method_5_code 31 = .ok (.invokevirtual 33, 3) := by decide +kernel
theorem d_prog_6_method_5_code_34 : decode prog_6_method_5_code 34 = .ok (.ifCond .eq 21, 3) := by decide +kernel
theorem d_prog_6_method_5_code_37 : decode prog_6_method_5_code 37 = .ok (.aload_n 0, 1) := by decide +kernel
theorem d_prog_6_method_5_code_38 : decode prog_6_method_5_code 38 = .ok (.getfield 31, 3) := by decide +kernel
theorem d_prog_6_method_5_code_41 : decode prog_6_method_5_code 41 = .ok (.aload_n 2, 1) := by decide +kernel
theorem d_prog_6_method_5_code_42 : decode prog_6_method_5_code 42 = .ok (.getfield 31, 3) := by decide +kernel
theorem d_prog_6_method_5_code_45 : decode prog_6_method_5_code 45 = .ok (.invokevirtual 33, 3) := by decide +kernel
theorem d_prog_6_method_5_code_48 : decode prog_6_method_5_code 48 = .ok (.ifCond .eq 7, 3) := by decide +kernel
theorem d_prog_6_method_5_code_51 : decode prog_6_method_5_code 51 = .ok (.iconst 1, 1) := by decide +kernel
theorem d_prog_6_method_5_code_52 : decode prog_6_method_5_code 52 = .ok (.goto 4, 3) := by decide +kernel
theorem pd__Ljava_lang_Object__Z : parseMethodDescriptor "(Ljava/lang/Object;)Z" = some ⟨[(.object "java/lang/Object")], some .boolean⟩ := by decide +kernel
set_option maxRecDepth 65536 in
set_option maxHeartbeats 40000000 in
theorem rm_eq (l : Launch) (Z : State) (a0 : Array Value) (hw : ∀ d ∈ tables_1, d.before a0 Z = true) (hEL : EW Z a0 consts_1) {ws : List Jvm.Cond} (a1 a2 k1 k2 u1 u2 b1 b2 tu1 tu2 tb1 tb2 : Addr) (ku1 ku2 kb1 kb2 : ClassId) (cu1 cu2 cb1 cb2 : List Int32) (zc : Int32) (h0 : Heap) (n0 : Nat) (E1 : Exa Z h0 a1 "com/example/cato/cato/message/MessageTemplate$Segment") (E2 : Exa Z h0 a2 "com/example/cato/cato/message/MessageTemplate$Segment") (Fkind1 : Fld Z h0 a1 "com/example/cato/cato/message/MessageTemplate$Segment" "kind" "Lcom/example/cato/cato/message/MessageTemplate$Segment$Kind;" (.ref k1)) (Fsource1 : Fld Z h0 a1 "com/example/cato/cato/message/MessageTemplate$Segment" "source" "Ljava/lang/String;" (.ref u1)) (Fcontent1 : Fld Z h0 a1 "com/example/cato/cato/message/MessageTemplate$Segment" "content" "Ljava/lang/String;" (.ref b1)) (Su1 : Str Z h0 u1 tu1 ku1 cu1) (Sb1 : Str Z h0 b1 tb1 kb1 cb1) (Fkind2 : Fld Z h0 a2 "com/example/cato/cato/message/MessageTemplate$Segment" "kind" "Lcom/example/cato/cato/message/MessageTemplate$Segment$Kind;" (.ref k2)) (Fsource2 : Fld Z h0 a2 "com/example/cato/cato/message/MessageTemplate$Segment" "source" "Ljava/lang/String;" (.ref u2)) (Fcontent2 : Fld Z h0 a2 "com/example/cato/cato/message/MessageTemplate$Segment" "content" "Ljava/lang/String;" (.ref b2)) (Su2 : Str Z h0 u2 tu2 ku2 cu2) (Sb2 : Str Z h0 b2 tb2 kb2 cb2) (Szc : Sta Z h0 "java/lang/String" "COMPACT_STRINGS" "Z" (.int zc)) (hzc : ¬ (zc = (0 : Int32))) :
    Met l Z consts_1 (⟨"com/example/cato/cato/message/MessageTemplate$Segment", "equals", "(Ljava/lang/Object;)Z"⟩ : MethodName) prog_6_method_5_code 3 (some .boolean) ws ({ frames := 2, cells := 0, slots := 0, locals := 40 } : Room) [] #[(.ref a1), (.ref a2)] h0 n0 (nq (fun v h => v = some (.int (if k1 = k2 ∧ cu1 = cu2 ∧ cb1 = cb2 then 1 else 0)) ∧ h = h0)) := by
  refine met_of (plainFor_of_name pn_com_example_cato_cato_message_MessageTemplate_Segment) hw #[.val (.ref a1), .val (.ref a2), .unset] (fun m => by first | rfl | (simp [entryFrame, mkF, argsToLocals, Value.category]; done)) ?_
  intro p e s m below meth c C0
  have C : Cx Z a0 tables_1 p s m meth c "com/example/cato/cato/message/MessageTemplate$Segment" "equals" prog_6_method_5_code 3 (some .boolean) n0 := C0
  refine g_aloadN C d_prog_6_method_5_code_0 rfl rfl ?_
  refine g_instanceof_t C w_63 (Ins.self E2) d_prog_6_method_5_code_1 ?_
  refine g_if_f C d_prog_6_method_5_code_4 (XT.i0_eq_f (by decide)) ?_
  refine g_aloadN C d_prog_6_method_5_code_7 rfl rfl ?_
  refine g_checkcast C w_63 (Ins.self E2) d_prog_6_method_5_code_8 ?_
  refine g_astoreN C #[.val (.ref a1), .val (.ref a2), .val (.ref a2)] d_prog_6_method_5_code_11 rfl rfl ?_
  refine g_aloadN C d_prog_6_method_5_code_12 rfl rfl ?_
  refine g_getfield C w_46 Via.refl Fkind1 d_prog_6_method_5_code_13 ?_
  refine g_aloadN C d_prog_6_method_5_code_16 rfl rfl ?_
  refine g_getfield C w_46 Via.refl Fkind2 d_prog_6_method_5_code_17 ?_
  by_cases hc205 : k1 = k2
  · refine g_acmp_f C d_prog_6_method_5_code_20 rfl rfl (XT.aa_ne_f (congrArg Value.ref hc205)) ?_
    refine g_aloadN C d_prog_6_method_5_code_23 rfl rfl ?_
    refine g_getfield C w_50 Via.refl Fsource1 d_prog_6_method_5_code_24 ?_
    refine g_aloadN C d_prog_6_method_5_code_27 rfl rfl ?_
    refine g_getfield C w_50 Via.refl Fsource2 d_prog_6_method_5_code_28 ?_
    refine g_virtual C Su1.1 w_65 w_66 (fun hZ => nf_sel hw w_68 hZ) w_68 w_67 (by decide) [(.ref u2)] (ct_eq hEL hw Su1 Su2 Szc hzc) all0 (by decide) 0 (by decide) rfl pd__Ljava_lang_Object__Z rfl [] rfl (Nat.le_of_eq rfl) d_prog_6_method_5_code_31 (by decide) (by decide) ?_
    intro v206 h206 Q206
    obtain ⟨rfl, e206⟩ := Q206
    replace e206 := e206.symm
    subst e206
    by_cases hc207 : cu1 = cu2
    · refine g_if_f C d_prog_6_method_5_code_34 (XT.i0_eq_f (by rw [if_pos hc207]; decide)) ?_
      refine g_aloadN C d_prog_6_method_5_code_37 rfl rfl ?_
      refine g_getfield C w_53 Via.refl Fcontent1 d_prog_6_method_5_code_38 ?_
      refine g_aloadN C d_prog_6_method_5_code_41 rfl rfl ?_
      refine g_getfield C w_53 Via.refl Fcontent2 d_prog_6_method_5_code_42 ?_
      refine g_virtual C Sb1.1 w_65 w_66 (fun hZ => nf_sel hw w_68 hZ) w_68 w_67 (by decide) [(.ref b2)] (ct_eq hEL hw Sb1 Sb2 Szc hzc) all0 (by decide) 0 (by decide) rfl pd__Ljava_lang_Object__Z rfl [] rfl (Nat.le_of_eq rfl) d_prog_6_method_5_code_45 (by decide) (by decide) ?_
      intro v208 h208 Q208
      obtain ⟨rfl, e208⟩ := Q208
      replace e208 := e208.symm
      subst e208
      by_cases hc209 : cb1 = cb2
      · refine g_if_f C d_prog_6_method_5_code_48 (XT.i0_eq_f (by rw [if_pos hc209]; decide)) ?_
        refine g_iconst C 1 d_prog_6_method_5_code_51 rfl ?_
        refine g_goto C 56 d_prog_6_method_5_code_52 (by decide) (by decide) ?_
        refine g_ireturnN C hEL (t := .boolean) rfl (by simp) d_prog_6_method_5_code_56 (by decide) (by decide) ?_
        exact ⟨by simp [nar, hc205, hc207, hc209] <;> decide, rfl⟩
      · refine g_if_t C 55 d_prog_6_method_5_code_48 (XT.i0_eq_t (if_neg hc209)) (by decide) (by decide) ?_
        refine g_iconst C 0 d_prog_6_method_5_code_55 rfl ?_
        refine g_ireturnN C hEL (t := .boolean) rfl (by simp) d_prog_6_method_5_code_56 (by decide) (by decide) ?_
        exact ⟨by simp [nar, hc205, hc207, hc209] <;> decide, rfl⟩
    · refine g_if_t C 55 d_prog_6_method_5_code_34 (XT.i0_eq_t (if_neg hc207)) (by decide) (by decide) ?_
      refine g_iconst C 0 d_prog_6_method_5_code_55 rfl ?_
      refine g_ireturnN C hEL (t := .boolean) rfl (by simp) d_prog_6_method_5_code_56 (by decide) (by decide) ?_
      exact ⟨by simp [nar, hc205, hc207] <;> decide, rfl⟩
  · refine g_acmp_t C 55 d_prog_6_method_5_code_20 rfl rfl (XT.aa_ne_t (fun q => hc205 (Value.ref.inj q))) (by decide) (by decide) ?_
    refine g_iconst C 0 d_prog_6_method_5_code_55 rfl ?_
    refine g_ireturnN C hEL (t := .boolean) rfl (by simp) d_prog_6_method_5_code_56 (by decide) (by decide) ?_
    exact ⟨by simp [nar, hc205] <;> decide, rfl⟩
theorem own_mod3 (x : Int32) : (x &&& 255) % 3 = 0 ∨ (x &&& 255) % 3 = 1 ∨ (x &&& 255) % 3 = 2 := by
  obtain ⟨k, hk⟩ := ch8_fin (ch8_mask x)
  rw [hk]
  exact (by decide +kernel : ∀ k : Fin 256, Int32.ofNat k.val % 3 = 0 ∨ Int32.ofNat k.val % 3 = 1 ∨ Int32.ofNat k.val % 3 = 2) k
theorem own_kind {i j : Int32} {kt kp ke : Addr} (hi : i = 0 ∨ i = 1 ∨ i = 2) (hj : j = 0 ∨ j = 1 ∨ j = 2) (h1 : kt ≠ kp) (h2 : kt ≠ ke) (h3 : kp ≠ ke) : kindA i kt kp ke = kindA j kt kp ke ↔ i = j := by
  rcases hi with rfl | rfl | rfl <;> rcases hj with rfl | rfl | rfl <;> simp [kindA, h1, h2, h3, h1.symm, h2.symm, h3.symm]
def tn (x : Int32) : Nat := x.toBitVec.toNat
theorem tn_inj {x y : Int32} (h : tn x = tn y) : x = y := Int32.toBitVec_inj.mp (BitVec.eq_of_toNat_eq h)
theorem tn_lt (x : Int32) : tn x < 4294967296 := x.toBitVec.isLt
theorem tn_and (x m : Int32) : tn (x &&& m) = tn x &&& tn m := by
  unfold tn
  rw [Int32.toBitVec_and, BitVec.toNat_and]
theorem tn_or (x m : Int32) : tn (x ||| m) = tn x ||| tn m := by
  unfold tn
  rw [Int32.toBitVec_or, BitVec.toNat_or]
theorem tn_mod (x m : Int32) (k : Nat) (hm : tn m = 2 ^ k - 1) : tn (x &&& m) = tn x % 2 ^ k := by rw [tn_and, hm, Nat.and_two_pow_sub_one_eq_mod]
theorem tn_shr (x s : Int32) (k : Nat) (hs : s.toUInt32.toNat % 32 = k) : tn (x.toUInt32 >>> s.toUInt32).toInt32 = tn x / 2 ^ k := by
  show (x.toUInt32 >>> s.toUInt32).toNat = _
  rw [UInt32.toNat_shiftRight, hs, Nat.shiftRight_eq_div_pow]
  rfl
theorem tn_len (x : Int32) : tn (lenX x) = tn x / 2 ^ 30 := tn_shr x _ 30 (by decide)
theorem tn_c0 (x : Int32) : tn (chX0 x) = tn x % 256 := by
  unfold chX0
  rw [i2c_mask]; exact tn_mod x 255 8 (by decide)
theorem tn_c1 (x : Int32) : tn (chX1 x) = tn x / 256 % 256 := by
  unfold chX1
  rw [i2c_mask]
  exact (tn_mod _ 255 8 (by decide)).trans (congrArg (· % 256) (tn_shr x _ 8 (by decide)))
theorem tn_c2 (x : Int32) : tn (chX2 x) = tn x / 65536 % 256 := by
  unfold chX2
  rw [i2c_mask]
  exact (tn_mod _ 255 8 (by decide)).trans (congrArg (· % 256) (tn_shr x _ 16 (by decide)))
theorem tn_norm (x m s : Int32) (k j : Nat) (hm : tn m = 2 ^ k - 1) (hk : 2 ^ k ≤ 2 ^ 24) (hs : tn s = 2 ^ 24 * j) : tn ((x &&& m) ||| s) = 2 ^ 24 * j + tn x % 2 ^ k := by
  rw [tn_or, tn_mod x m k hm, hs, Nat.or_comm]
  exact (Nat.two_pow_add_eq_or_of_lt (Nat.lt_of_lt_of_le (Nat.mod_lt _ (Nat.two_pow_pos k)) hk) j).symm
theorem own_shape (z : Int32) : (strcs z = [] ∧ tn (normX z) = 0) ∨ (∃ c0, strcs z = [c0] ∧ tn c0 = tn z % 256 ∧ tn (normX z) = 16777216 + tn z % 256) ∨
    (∃ c0 c1, strcs z = [c0, c1] ∧ tn c0 = tn z % 256 ∧ tn c1 = tn z / 256 % 256 ∧ tn (normX z) = 33554432 + tn z % 65536) ∨
    (∃ c0 c1 c2, strcs z = [c0, c1, c2] ∧ tn c0 = tn z % 256 ∧ tn c1 = tn z / 256 % 256 ∧ tn c2 = tn z / 65536 % 256 ∧ tn (normX z) = 50331648 + tn z % 16777216) := by
  have h4 : lenX z = 0 ∨ lenX z = 1 ∨ lenX z = 2 ∨ lenX z = 3 := by
    have e := tn_len z
    have hb := tn_lt z
    have : tn (lenX z) = 0 ∨ tn (lenX z) = 1 ∨ tn (lenX z) = 2 ∨ tn (lenX z) = 3 := by
      simp only [Nat.reducePow] at e
      omega
    rcases this with h | h | h | h
    · exact Or.inl (tn_inj (h.trans (by decide)))
    · exact Or.inr (Or.inl (tn_inj (h.trans (by decide))))
    · exact Or.inr (Or.inr (Or.inl (tn_inj (h.trans (by decide)))))
    · exact Or.inr (Or.inr (Or.inr (tn_inj (h.trans (by decide)))))
  rcases h4 with h | h | h | h
  · refine Or.inl ⟨by unfold strcs; rw [if_pos h], ?_⟩
    unfold normX maskX
    rw [h, if_pos rfl, tn_norm z 0 _ 0 0 (by decide) (by decide) (by decide)]
    omega
  · refine Or.inr (Or.inl ⟨chX0 z, by unfold strcs; rw [h, if_neg (by decide), if_pos rfl], tn_c0 z, ?_⟩)
    unfold normX maskX
    rw [h, if_neg (by decide), if_pos rfl]
    exact tn_norm z 255 _ 8 1 (by decide) (by decide) (by decide)
  · refine Or.inr (Or.inr (Or.inl ⟨chX0 z, chX1 z, by unfold strcs; rw [h, if_neg (by decide), if_neg (by decide), if_pos rfl], tn_c0 z, tn_c1 z, ?_⟩))
    unfold normX maskX
    rw [h, if_neg (by decide), if_neg (by decide), if_pos rfl]
    exact tn_norm z 65535 _ 16 2 (by decide) (by decide) (by decide)
  · refine Or.inr (Or.inr (Or.inr ⟨chX0 z, chX1 z, chX2 z, by unfold strcs; rw [h, if_neg (by decide), if_neg (by decide), if_neg (by decide)], tn_c0 z, tn_c1 z, tn_c2 z, ?_⟩))
    unfold normX maskX
    rw [h, if_neg (by decide), if_neg (by decide), if_neg (by decide)]
    exact tn_norm z 16777215 _ 24 3 (by decide) (by decide) (by decide)
theorem own_norm (x y : Int32) : normX x = normX y ↔ strcs x = strcs y := by
  constructor
  · intro h
    have h' : tn (normX x) = tn (normX y) := by rw [h]
    rcases own_shape x with ⟨a, b⟩ | ⟨c0, a, b, n⟩ | ⟨c0, c1, a, b, b2, n⟩ | ⟨c0, c1, c2, a, b, b2, b3, n⟩ <;> rcases own_shape y with ⟨a', g⟩ | ⟨d0, a', g, n'⟩ | ⟨d0, d1, a', g, g2, n'⟩ | ⟨d0, d1, d2, a', g, g2, g3, n'⟩ <;> first
      | (exfalso; omega)
      | (rw [a, a']; done)
      | (have q0 : c0 = d0 := tn_inj (by omega)
         have q1 : c1 = d1 := tn_inj (by omega)
         have q2 : c2 = d2 := tn_inj (by omega)
         rw [a, a', q0, q1, q2]; done)
      | (have q0 : c0 = d0 := tn_inj (by omega)
         have q1 : c1 = d1 := tn_inj (by omega)
         rw [a, a', q0, q1]; done)
      | (have q0 : c0 = d0 := tn_inj (by omega)
         rw [a, a', q0]; done)
  · intro h
    apply tn_inj
    rcases own_shape x with ⟨a, b⟩ | ⟨c0, a, b, n⟩ | ⟨c0, c1, a, b, b2, n⟩ | ⟨c0, c1, c2, a, b, b2, b3, n⟩ <;> rcases own_shape y with ⟨a', g⟩ | ⟨d0, a', g, n'⟩ | ⟨d0, d1, a', g, g2, n'⟩ | ⟨d0, d1, d2, a', g, g2, g3, n'⟩ <;> rw [a, a'] at h <;> first
      | (exfalso; simp at h; done)
      | omega
      | (simp only [List.cons.injEq, and_true] at h
         obtain ⟨q0, q1, q2⟩ := h
         subst q0; subst q1; subst q2; omega)
      | (simp only [List.cons.injEq, and_true] at h
         obtain ⟨q0, q1⟩ := h
         subst q0; subst q1; omega)
      | (simp only [List.cons.injEq, and_true] at h
         subst h; omega)

theorem pd__I_I : parseMethodDescriptor "(I)I" = some ⟨[.int], some .int⟩ := by decide +kernel
theorem pd__I_Lcom_example_cato_cato_message_MessageTemplate_Segment_Kind_ : parseMethodDescriptor "(I)Lcom/example/cato/cato/message/MessageTemplate$Segment$Kind;" = some ⟨[.int], some (.object "com/example/cato/cato/message/MessageTemplate$Segment$Kind")⟩ := by decide +kernel
theorem pd__I_Ljava_lang_String_ : parseMethodDescriptor "(I)Ljava/lang/String;" = some ⟨[.int], some (.object "java/lang/String")⟩ := by decide +kernel
theorem pd__Lcom_example_cato_cato_message_MessageTemplate_Segment_Kind_Ljava_lang_String_Ljava_lang_String__V : parseMethodDescriptor "(Lcom/example/cato/cato/message/MessageTemplate$Segment$Kind;Ljava/lang/String;Ljava/lang/String;)V" = some ⟨[(.object "com/example/cato/cato/message/MessageTemplate$Segment$Kind"), (.object "java/lang/String"), (.object "java/lang/String")], none⟩ := by decide +kernel
set_option maxRecDepth 65536 in
set_option maxHeartbeats 40000000 in
theorem rm_law (l : Launch) (Z : State) (a0 : Array Value) (hw : ∀ d ∈ tables_1, d.before a0 Z = true) (hEL : EW Z a0 consts_1) {ws : List Jvm.Cond} (i1 i2 i3 i4 i5 i6 zc : Int32) (kt kp ke : Addr) (h0 : Heap) (n0 : Nat) (Szc : Sta Z h0 "java/lang/String" "COMPACT_STRINGS" "Z" (.int zc)) (hzc : ¬ (zc = (0 : Int32))) (St0 : Sta Z h0 "com/example/cato/cato/message/MessageTemplate$Segment$Kind" "TEXT" "Lcom/example/cato/cato/message/MessageTemplate$Segment$Kind;" (.ref kt)) (St1 : Sta Z h0 "com/example/cato/cato/message/MessageTemplate$Segment$Kind" "PARAMETER" "Lcom/example/cato/cato/message/MessageTemplate$Segment$Kind;" (.ref kp)) (St2 : Sta Z h0 "com/example/cato/cato/message/MessageTemplate$Segment$Kind" "EXPRESSION" "Lcom/example/cato/cato/message/MessageTemplate$Segment$Kind;" (.ref ke)) (Ekt : Exa Z h0 kt "com/example/cato/cato/message/MessageTemplate$Segment$Kind") (Ekp : Exa Z h0 kp "com/example/cato/cato/message/MessageTemplate$Segment$Kind") (Eke : Exa Z h0 ke "com/example/cato/cato/message/MessageTemplate$Segment$Kind") (hk1 : kt ≠ kp) (hk2 : kt ≠ ke) (hk3 : kp ≠ ke) :
    Met l Z consts_1 x code maxLocals ret ws room_1 [] #[(.int i1), (.int i2), (.int i3), (.int i4), (.int i5), (.int i6)] h0 n0 (nq (fun v _ => v = some (.int 1))) := by
  refine met_of (plainFor_of_name pn_com_example_cato_cato_message_SegmentEqualsPinLaw) hw #[.val (.int i1), .val (.int i2), .val (.int i3), .val (.int i4), .val (.int i5), .val (.int i6), .unset, .unset, .unset, .unset, .unset, .unset, .unset, .unset] (fun m => by first | rfl | (simp [entryFrame, mkF, argsToLocals, Value.category, maxLocals]; done)) ?_
  intro p e s m below meth c C0
  have C : Cx Z a0 tables_1 p s m meth c "com/example/cato/cato/message/SegmentEqualsPinLaw" "law" code maxLocals ret n0 := C0
  refine g_iloadN C at_0 rfl ?_
  refine g_sipush C 255 at_1 rfl ?_
  refine g_iand C at_4 ?_
  refine g_iconst C 3 at_5 rfl ?_
  refine g_irem C at_6 (by decide) ?_
  refine g_istore C #[.val (.int i1), .val (.int i2), .val (.int i3), .val (.int i4), .val (.int i5), .val (.int i6), .val (.int ((i1 &&& (255 : Int32)) % (3 : Int32))), .unset, .unset, .unset, .unset, .unset, .unset, .unset] at_7 rfl ?_
  obtain ⟨k1, e_k1, h_k1⟩ : ∃ z : Int32, ((i1 &&& (255 : Int32)) % (3 : Int32)) = z ∧ (z = 0 ∨ z = 1 ∨ z = 2) := ⟨_, rfl, own_mod3 _⟩
  rw [e_k1]
  have rest : ∀ (k2 t2 d2 : Int32), (k2 = 0 ∨ k2 = 1 ∨ k2 = 2) → Go Z consts_1 p l e room_1 s m #[(.int i1), (.int i2), (.int i3), (.int i4), (.int i5), (.int i6)] below meth c n0 (nq (fun v _ => v = some (.int 1))) [] h0 0 0 (mkF m 62 #[.val (.int i1), .val (.int i2), .val (.int i3), .val (.int i4), .val (.int i5), .val (.int i6), .val (.int k1), .val (.int k2), .val (.int t2), .val (.int d2), .unset, .unset, .unset, .unset] []) := by
    intro k2 t2 d2 h_k2
    refine g_new C w_0 w_1 w_2 at_62 (by decide) (by decide) ?_
    intro b210 h210 g210 E210 A210 D210
    refine g_dup C at_65 rfl ?_
    refine g_iload C at_66 rfl ?_
    have K211 : Keep h0 h210 [] := (Keep.refl h0 []).ext E210
    have E212 := (Ekt.keep K211)
    have E213 := (Ekp.keep K211)
    have E214 := (Eke.keep K211)
    refine g_static C w_3 w_4 w_5 w_6 (by decide) [(.int k1)] (ct_of hEL hw w_6 w_5 (rm_kind l Z a0 hw hEL k1 kt kp ke h210 n0 (Sta_keep St0 K211) (Sta_keep St1 K211) (Sta_keep St2 K211))) all0 (by decide) 2 (by decide) rfl pd__I_Lcom_example_cato_cato_message_MessageTemplate_Segment_Kind_ rfl [(.ref b210), (.ref b210)] rfl (Nat.le_of_eq rfl) at_68 (by decide) (by decide) ?_
    intro v215 h215 Q215
    obtain ⟨rfl, e215⟩ := Q215
    replace e215 := e215.symm
    subst e215
    refine g_iloadN C at_71 rfl ?_
    refine g_static C w_10 w_11 w_5 w_12 (by decide) [(.int i2)] (ct_of hEL hw w_12 w_5 (rm_str l Z a0 hw hEL i2 zc h210 n0 (Sta_keep Szc K211) hzc)) all0 (by decide) 3 (by decide) rfl pd__I_Ljava_lang_String_ rfl [(.ref (kindA k1 kt kp ke)), (.ref b210), (.ref b210)] rfl (Nat.le_of_eq rfl) at_72 (by decide) (by decide) ?_
    intro v216 h216 Q216
    obtain ⟨a216, t216, kb216, rfl, KC216, le216, S216⟩ := Q216
    refine g_iloadN C at_75 rfl ?_
    have K217 : Keep h0 h216 [] := K211.trans KC216 all0
    refine g_static C w_10 w_11 w_5 w_12 (by decide) [(.int i3)] (ct_of hEL hw w_12 w_5 (rm_str l Z a0 hw hEL i3 zc h216 n0 (Sta_keep Szc K217) hzc)) all0 (by decide) 4 (by decide) rfl pd__I_Ljava_lang_String_ rfl [(.ref a216), (.ref (kindA k1 kt kp ke)), (.ref b210), (.ref b210)] rfl (Nat.le_of_eq rfl) at_76 (by decide) (by decide) ?_
    intro v218 h218 Q218
    obtain ⟨a218, t218, kb218, rfl, KC218, le218, S218⟩ := Q218
    have K219 : Keep h210 h216 [] := (Keep.refl h210 []).trans KC216 all0
    have K220 : Keep h210 h218 [] := K219.trans KC218 all0
    have F221 := ((D210 (Or.inr (C.hw w_47)) (ty := (.object "com/example/cato/cato/message/MessageTemplate$Segment$Kind")) (by decide)).keep K220 nin0)
    have F222 := ((D210 (Or.inr (C.hw w_51)) (ty := (.object "java/lang/String")) (by decide)).keep K220 nin0)
    have F223 := ((D210 (Or.inr (C.hw w_54)) (ty := (.object "java/lang/String")) (by decide)).keep K220 nin0)
    have E224 := (A210.keep K220)
    have E225 := ((own_kindE k1 E212 E213 E214).keep K220)
    have K226 : Keep h216 h218 [] := (Keep.refl h216 []).trans KC218 all0
    have E227 := (S216.1.keep K226)
    refine g_special C (a := b210) w_35 w_36 w_37 rfl (by decide) [(.ref (kindA k1 kt kp ke)), (.ref a216), (.ref a218)] (ct_of hEL hw w_37 w_2 (rm_init l Z a0 hw hEL b210 (kindA k1 kt kp ke) a216 a218 h218 n0 E224 F221 F222 F223 E225 E227 S218.1)) (allS (List.mem_of_getElem? (i := 0) rfl) all0) (by decide) 1 (by decide) rfl pd__Lcom_example_cato_cato_message_MessageTemplate_Segment_Kind_Ljava_lang_String_Ljava_lang_String__V rfl [(.ref b210)] rfl (Nat.le_of_eq rfl) at_79 (by decide) (by decide) ?_
    intro v228 h228 Q228
    obtain ⟨rfl, KC228, X228, G1228, G2228, G3228⟩ := Q228
    refine g_astore C #[.val (.int i1), .val (.int i2), .val (.int i3), .val (.int i4), .val (.int i5), .val (.int i6), .val (.int k1), .val (.int k2), .val (.int t2), .val (.int d2), .val (.ref b210), .unset, .unset, .unset] at_82 rfl rfl ?_
    refine g_new C w_0 w_1 w_2 at_84 (by decide) (by decide) ?_
    intro b229 h229 g229 E229 A229 D229
    refine g_dup C at_87 rfl ?_
    refine g_iload C at_88 rfl ?_
    have K230 : Keep h0 h218 [] := K217.trans KC218 all0
    have K231 : Keep h0 h228 [] := K230.trans KC228 (allS (Or.inr (Nat.le_of_eq g210.symm)) all0)
    have K232 : Keep h0 h229 [] := K231.ext E229
    have E233 := ((((E212.keep KC216).keep KC218).keep KC228).ext E229)
    have E234 := ((((E213.keep KC216).keep KC218).keep KC228).ext E229)
    have E235 := ((((E214.keep KC216).keep KC218).keep KC228).ext E229)
    refine g_static C w_3 w_4 w_5 w_6 (by decide) [(.int k2)] (ct_of hEL hw w_6 w_5 (rm_kind l Z a0 hw hEL k2 kt kp ke h229 n0 (Sta_keep St0 K232) (Sta_keep St1 K232) (Sta_keep St2 K232))) all0 (by decide) 2 (by decide) rfl pd__I_Lcom_example_cato_cato_message_MessageTemplate_Segment_Kind_ rfl [(.ref b229), (.ref b229)] rfl (Nat.le_of_eq rfl) at_90 (by decide) (by decide) ?_
    intro v236 h236 Q236
    obtain ⟨rfl, e236⟩ := Q236
    replace e236 := e236.symm
    subst e236
    refine g_iload C at_93 rfl ?_
    refine g_static C w_10 w_11 w_5 w_12 (by decide) [(.int t2)] (ct_of hEL hw w_12 w_5 (rm_str l Z a0 hw hEL t2 zc h229 n0 (Sta_keep Szc K232) hzc)) all0 (by decide) 3 (by decide) rfl pd__I_Ljava_lang_String_ rfl [(.ref (kindA k2 kt kp ke)), (.ref b229), (.ref b229)] rfl (Nat.le_of_eq rfl) at_95 (by decide) (by decide) ?_
    intro v237 h237 Q237
    obtain ⟨a237, t237, kb237, rfl, KC237, le237, S237⟩ := Q237
    refine g_iload C at_98 rfl ?_
    have K238 : Keep h0 h237 [] := K232.trans KC237 all0
    refine g_static C w_10 w_11 w_5 w_12 (by decide) [(.int d2)] (ct_of hEL hw w_12 w_5 (rm_str l Z a0 hw hEL d2 zc h237 n0 (Sta_keep Szc K238) hzc)) all0 (by decide) 4 (by decide) rfl pd__I_Ljava_lang_String_ rfl [(.ref a237), (.ref (kindA k2 kt kp ke)), (.ref b229), (.ref b229)] rfl (Nat.le_of_eq rfl) at_100 (by decide) (by decide) ?_
    intro v239 h239 Q239
    obtain ⟨a239, t239, kb239, rfl, KC239, le239, S239⟩ := Q239
    have K240 : Keep h229 h237 [] := (Keep.refl h229 []).trans KC237 all0
    have K241 : Keep h229 h239 [] := K240.trans KC239 all0
    have F242 := ((D229 (Or.inr (C.hw w_47)) (ty := (.object "com/example/cato/cato/message/MessageTemplate$Segment$Kind")) (by decide)).keep K241 nin0)
    have F243 := ((D229 (Or.inr (C.hw w_51)) (ty := (.object "java/lang/String")) (by decide)).keep K241 nin0)
    have F244 := ((D229 (Or.inr (C.hw w_54)) (ty := (.object "java/lang/String")) (by decide)).keep K241 nin0)
    have E245 := (A229.keep K241)
    have E246 := ((own_kindE k2 E233 E234 E235).keep K241)
    have K247 : Keep h237 h239 [] := (Keep.refl h237 []).trans KC239 all0
    have E248 := (S237.1.keep K247)
    refine g_special C (a := b229) w_35 w_36 w_37 rfl (by decide) [(.ref (kindA k2 kt kp ke)), (.ref a237), (.ref a239)] (ct_of hEL hw w_37 w_2 (rm_init l Z a0 hw hEL b229 (kindA k2 kt kp ke) a237 a239 h239 n0 E245 F242 F243 F244 E246 E248 S239.1)) (allS (List.mem_of_getElem? (i := 0) rfl) all0) (by decide) 1 (by decide) rfl pd__Lcom_example_cato_cato_message_MessageTemplate_Segment_Kind_Ljava_lang_String_Ljava_lang_String__V rfl [(.ref b229)] rfl (Nat.le_of_eq rfl) at_103 (by decide) (by decide) ?_
    intro v249 h249 Q249
    obtain ⟨rfl, KC249, X249, G1249, G2249, G3249⟩ := Q249
    refine g_astore C #[.val (.int i1), .val (.int i2), .val (.int i3), .val (.int i4), .val (.int i5), .val (.int i6), .val (.int k1), .val (.int k2), .val (.int t2), .val (.int d2), .val (.ref b210), .val (.ref b229), .unset, .unset] at_106 rfl rfl ?_
    refine g_iload C at_108 rfl ?_
    refine g_iconst C 3 at_110 rfl ?_
    refine g_iushr C at_111 ?_
    refine g_iconst C 3 at_112 rfl ?_
    refine g_iand C at_113 ?_
    refine g_istore C #[.val (.int i1), .val (.int i2), .val (.int i3), .val (.int i4), .val (.int i5), .val (.int i6), .val (.int k1), .val (.int k2), .val (.int t2), .val (.int d2), .val (.ref b210), .val (.ref b229), .val (.int (((i6.toUInt32 >>> ((3 : Int32) &&& 31).toUInt32).toInt32) &&& (3 : Int32))), .unset] at_114 rfl ?_
    obtain ⟨md, e_md⟩ : ∃ z : Int32, (((i6.toUInt32 >>> ((3 : Int32) &&& 31).toUInt32).toInt32) &&& (3 : Int32)) = z := ⟨_, rfl⟩
    rw [e_md]
    refine g_iload C at_116 rfl ?_
    refine g_iconst C 1 at_118 rfl ?_
    by_cases hc250 : md = (1 : Int32)
    · refine g_icmp_f C at_119 (XT.ii_ne_f hc250) ?_
      refine g_aload C at_122 rfl rfl ?_
      refine g_aconst_null C at_124 ?_
      have K252 : Keep h228 h229 [] := (Keep.refl h228 []).ext E229
      have K253 : Keep h228 h237 [] := K252.trans KC237 all0
      have K254 : Keep h228 h239 [] := K253.trans KC239 all0
      have K255 : Keep h228 h249 [] := K254.trans KC249 (allS (Or.inr (Nat.le_of_eq g229.symm)) all0)
      have E256 := (X228.keep K255)
      refine g_virtual C E256 w_58 w_59 (fun hZ => nf_sel hw w_61 hZ) w_61 w_60 (by decide) [.null] (ct_of hEL hw w_62 w_2 (rm_eqN l Z a0 hw hEL b210 h249 n0 )) all0 (by decide) 0 (by decide) rfl pd__Ljava_lang_Object__Z rfl [] rfl (Nat.le_of_eq rfl) at_125 (by decide) (by decide) ?_
      intro v251 h251 Q251
      obtain ⟨rfl, e251⟩ := Q251
      replace e251 := e251.symm
      subst e251
      refine g_if_f C at_128 (XT.i0_ne_f (by decide)) ?_
      refine g_iconst C 1 at_131 rfl ?_
      refine g_goto C 136 at_132 (by decide) (by decide) ?_
      refine g_ireturnN C hEL (t := .boolean) rfl (by simp) at_136 (by decide) (by decide) ?_
      exact rfl
    · refine g_icmp_t C 137 at_119 (XT.ii_ne_t hc250) (by decide) (by decide) ?_
      refine g_iload C at_137 rfl ?_
      refine g_iconst C 2 at_139 rfl ?_
      by_cases hc257 : md = (2 : Int32)
      · refine g_icmp_f C at_140 (XT.ii_ne_f hc257) ?_
        refine g_aload C at_143 rfl rfl ?_
        refine g_iloadN C at_145 rfl ?_
        have K258 : Keep h0 h239 [] := K238.trans KC239 all0
        have K259 : Keep h0 h249 [] := K258.trans KC249 (allS (Or.inr (Nat.le_trans K231.1 (Nat.le_of_eq g229.symm))) all0)
        refine g_static C w_10 w_11 w_5 w_12 (by decide) [(.int i2)] (ct_of hEL hw w_12 w_5 (rm_str l Z a0 hw hEL i2 zc h249 n0 (Sta_keep Szc K259) hzc)) all0 (by decide) 1 (by decide) rfl pd__I_Ljava_lang_String_ rfl [(.ref b210)] rfl (Nat.le_of_eq rfl) at_146 (by decide) (by decide) ?_
        intro v260 h260 Q260
        obtain ⟨a260, t260, kb260, rfl, KC260, le260, S260⟩ := Q260
        have K262 : Keep h228 h229 [] := (Keep.refl h228 []).ext E229
        have K263 : Keep h228 h237 [] := K262.trans KC237 all0
        have K264 : Keep h228 h239 [] := K263.trans KC239 all0
        have K265 : Keep h228 h249 [] := K264.trans KC249 (allS (Or.inr (Nat.le_of_eq g229.symm)) all0)
        have K266 : Keep h228 h260 [] := K265.trans KC260 all0
        have E267 := (X228.keep K266)
        refine g_virtual C E267 w_58 w_59 (fun hZ => nf_sel hw w_61 hZ) w_61 w_60 (by decide) [(.ref a260)] (ct_of hEL hw w_62 w_2 (rm_eqS l Z a0 hw hEL b210 a260 h260 n0 S260.1)) all0 (by decide) 0 (by decide) rfl pd__Ljava_lang_Object__Z rfl [] rfl (Nat.le_of_eq rfl) at_149 (by decide) (by decide) ?_
        intro v261 h261 Q261
        obtain ⟨rfl, e261⟩ := Q261
        replace e261 := e261.symm
        subst e261
        refine g_if_f C at_152 (XT.i0_ne_f (by decide)) ?_
        refine g_iconst C 1 at_155 rfl ?_
        refine g_goto C 160 at_156 (by decide) (by decide) ?_
        refine g_ireturnN C hEL (t := .boolean) rfl (by simp) at_160 (by decide) (by decide) ?_
        exact rfl
      · refine g_icmp_t C 161 at_140 (XT.ii_ne_t hc257) (by decide) (by decide) ?_
        refine g_iload C at_161 rfl ?_
        refine g_iconst C 3 at_163 rfl ?_
        by_cases hc268 : md = (3 : Int32)
        · refine g_icmp_f C at_164 (XT.ii_ne_f hc268) ?_
          refine g_aload C at_167 rfl rfl ?_
          refine g_aload C at_169 rfl rfl ?_
          have K269 : Keep h228 h229 [] := (Keep.refl h228 []).ext E229
          have K270 : Keep h228 h237 [] := K269.trans KC237 all0
          have K271 : Keep h228 h239 [] := K270.trans KC239 all0
          have K272 : Keep h228 h249 [] := K271.trans KC249 (allS (Or.inr (Nat.le_of_eq g229.symm)) all0)
          have E273 := (X228.keep K272)
          have F274 := (G1228.keep K272 nin0)
          have F275 := (G2228.keep K272 nin0)
          have F276 := (G3228.keep K272 nin0)
          have E277 := (A210.keep K219)
          have E278 := (E227.keep KC228)
          have S279 := ((S216.keep KC218 nin0 nin0).keep KC228 (ninS (Ne.symm (Nat.ne_of_lt (Nat.lt_of_lt_of_le A210.lt le216))) nin0) (ninS (Ne.symm (own_ne_arv E277 (C.hw w_1) S216.2.2.2.1)) nin0))
          have S280 := ((((((S216.keep KC218 nin0 nin0).keep KC228 (ninS (Ne.symm (Nat.ne_of_lt (Nat.lt_of_lt_of_le A210.lt le216))) nin0) (ninS (Ne.symm (own_ne_arv E277 (C.hw w_1) S216.2.2.2.1)) nin0)).ext E229).keep KC237 nin0 nin0).keep KC239 nin0 nin0).keep KC249 (ninS (Nat.ne_of_lt (Nat.lt_of_lt_of_le E278.lt (Nat.le_of_eq g229.symm))) nin0) (ninS (Nat.ne_of_lt (Nat.lt_of_lt_of_le S279.tlt (Nat.le_of_eq g229.symm))) nin0))
          have E281 := (S218.1.keep KC228)
          have S282 := (S218.keep KC228 (ninS (Ne.symm (Nat.ne_of_lt (Nat.lt_of_lt_of_le E277.lt le218))) nin0) (ninS (Ne.symm (own_ne_arv E224 (C.hw w_1) S218.2.2.2.1)) nin0))
          have S283 := (((((S218.keep KC228 (ninS (Ne.symm (Nat.ne_of_lt (Nat.lt_of_lt_of_le E277.lt le218))) nin0) (ninS (Ne.symm (own_ne_arv E224 (C.hw w_1) S218.2.2.2.1)) nin0)).ext E229).keep KC237 nin0 nin0).keep KC239 nin0 nin0).keep KC249 (ninS (Nat.ne_of_lt (Nat.lt_of_lt_of_le E281.lt (Nat.le_of_eq g229.symm))) nin0) (ninS (Nat.ne_of_lt (Nat.lt_of_lt_of_le S282.tlt (Nat.le_of_eq g229.symm))) nin0))
          have K284 : Keep h0 h239 [] := K238.trans KC239 all0
          have K285 : Keep h0 h249 [] := K284.trans KC249 (allS (Or.inr (Nat.le_trans K231.1 (Nat.le_of_eq g229.symm))) all0)
          refine g_virtual C E273 w_58 w_59 (fun hZ => nf_sel hw w_61 hZ) w_61 w_60 (by decide) [(.ref b210)] (ct_of hEL hw w_62 w_2 (rm_eq l Z a0 hw hEL b210 b210 (kindA k1 kt kp ke) (kindA k1 kt kp ke) a216 a216 a218 a218 t216 t216 t218 t218 _ _ _ _ (strcs i2) (strcs i2) (strcs i3) (strcs i3) zc h249 n0 E273 E273 F274 F275 F276 S280 S283 F274 F275 F276 S280 S283 (Sta_keep Szc K285) hzc)) all0 (by decide) 0 (by decide) rfl pd__Ljava_lang_Object__Z rfl [] rfl (Nat.le_of_eq rfl) at_171 (by decide) (by decide) ?_
          intro v286 h286 Q286
          obtain ⟨ev286, e286⟩ := Q286
          replace e286 := e286.symm
          subst e286
          have ew286 : v286 = some (.int (1 : Int32)) := ev286.trans (by rw [if_pos ⟨rfl, rfl, rfl⟩])
          subst ew286
          refine g_ireturnN C hEL (t := .boolean) rfl (by simp) at_174 (by decide) (by decide) ?_
          exact rfl
        · refine g_icmp_t C 175 at_164 (XT.ii_ne_t hc268) (by decide) (by decide) ?_
          refine g_iload C at_175 rfl ?_
          refine g_iload C at_177 rfl ?_
          by_cases hc287 : k1 = k2
          · refine g_icmp_f C at_179 (XT.ii_ne_f hc287) ?_
            refine g_iloadN C at_182 rfl ?_
            refine g_static C w_55 w_56 w_5 w_57 (by decide) [(.int i2)] (ct_of hEL hw w_57 w_5 (rm_norm l Z a0 hw hEL i2 h249 n0 )) all0 (by decide) 0 (by decide) rfl pd__I_I rfl [] rfl (Nat.le_of_eq rfl) at_183 (by decide) (by decide) ?_
            intro v288 h288 Q288
            obtain ⟨rfl, e288⟩ := Q288
            replace e288 := e288.symm
            subst e288
            refine g_iload C at_186 rfl ?_
            refine g_static C w_55 w_56 w_5 w_57 (by decide) [(.int t2)] (ct_of hEL hw w_57 w_5 (rm_norm l Z a0 hw hEL t2 h249 n0 )) all0 (by decide) 1 (by decide) rfl pd__I_I rfl [(.int (normX i2))] rfl (Nat.le_of_eq rfl) at_188 (by decide) (by decide) ?_
            intro v289 h289 Q289
            obtain ⟨rfl, e289⟩ := Q289
            replace e289 := e289.symm
            subst e289
            by_cases hc290 : (normX i2) = (normX t2)
            · refine g_icmp_f C at_191 (XT.ii_ne_f hc290) ?_
              refine g_iloadN C at_194 rfl ?_
              refine g_static C w_55 w_56 w_5 w_57 (by decide) [(.int i3)] (ct_of hEL hw w_57 w_5 (rm_norm l Z a0 hw hEL i3 h249 n0 )) all0 (by decide) 0 (by decide) rfl pd__I_I rfl [] rfl (Nat.le_of_eq rfl) at_195 (by decide) (by decide) ?_
              intro v291 h291 Q291
              obtain ⟨rfl, e291⟩ := Q291
              replace e291 := e291.symm
              subst e291
              refine g_iload C at_198 rfl ?_
              refine g_static C w_55 w_56 w_5 w_57 (by decide) [(.int d2)] (ct_of hEL hw w_57 w_5 (rm_norm l Z a0 hw hEL d2 h249 n0 )) all0 (by decide) 1 (by decide) rfl pd__I_I rfl [(.int (normX i3))] rfl (Nat.le_of_eq rfl) at_200 (by decide) (by decide) ?_
              intro v292 h292 Q292
              obtain ⟨rfl, e292⟩ := Q292
              replace e292 := e292.symm
              subst e292
              by_cases hc293 : (normX i3) = (normX d2)
              · refine g_icmp_f C at_203 (XT.ii_ne_f hc293) ?_
                refine g_iconst C 1 at_206 rfl ?_
                refine g_goto C 211 at_207 (by decide) (by decide) ?_
                refine g_istore C #[.val (.int i1), .val (.int i2), .val (.int i3), .val (.int i4), .val (.int i5), .val (.int i6), .val (.int k1), .val (.int k2), .val (.int t2), .val (.int d2), .val (.ref b210), .val (.ref b229), .val (.int md), .val (.int (1 : Int32))] at_211 rfl ?_
                refine g_aload C at_213 rfl rfl ?_
                refine g_aload C at_215 rfl rfl ?_
                have K294 : Keep h228 h229 [] := (Keep.refl h228 []).ext E229
                have K295 : Keep h228 h237 [] := K294.trans KC237 all0
                have K296 : Keep h228 h239 [] := K295.trans KC239 all0
                have K297 : Keep h228 h249 [] := K296.trans KC249 (allS (Or.inr (Nat.le_of_eq g229.symm)) all0)
                have E298 := (X228.keep K297)
                have F299 := (G1228.keep K297 nin0)
                have F300 := (G2228.keep K297 nin0)
                have F301 := (G3228.keep K297 nin0)
                have E302 := (A210.keep K219)
                have E303 := (E227.keep KC228)
                have S304 := ((S216.keep KC218 nin0 nin0).keep KC228 (ninS (Ne.symm (Nat.ne_of_lt (Nat.lt_of_lt_of_le A210.lt le216))) nin0) (ninS (Ne.symm (own_ne_arv E302 (C.hw w_1) S216.2.2.2.1)) nin0))
                have S305 := ((((((S216.keep KC218 nin0 nin0).keep KC228 (ninS (Ne.symm (Nat.ne_of_lt (Nat.lt_of_lt_of_le A210.lt le216))) nin0) (ninS (Ne.symm (own_ne_arv E302 (C.hw w_1) S216.2.2.2.1)) nin0)).ext E229).keep KC237 nin0 nin0).keep KC239 nin0 nin0).keep KC249 (ninS (Nat.ne_of_lt (Nat.lt_of_lt_of_le E303.lt (Nat.le_of_eq g229.symm))) nin0) (ninS (Nat.ne_of_lt (Nat.lt_of_lt_of_le S304.tlt (Nat.le_of_eq g229.symm))) nin0))
                have E306 := (S218.1.keep KC228)
                have S307 := (S218.keep KC228 (ninS (Ne.symm (Nat.ne_of_lt (Nat.lt_of_lt_of_le E302.lt le218))) nin0) (ninS (Ne.symm (own_ne_arv E224 (C.hw w_1) S218.2.2.2.1)) nin0))
                have S308 := (((((S218.keep KC228 (ninS (Ne.symm (Nat.ne_of_lt (Nat.lt_of_lt_of_le E302.lt le218))) nin0) (ninS (Ne.symm (own_ne_arv E224 (C.hw w_1) S218.2.2.2.1)) nin0)).ext E229).keep KC237 nin0 nin0).keep KC239 nin0 nin0).keep KC249 (ninS (Nat.ne_of_lt (Nat.lt_of_lt_of_le E306.lt (Nat.le_of_eq g229.symm))) nin0) (ninS (Nat.ne_of_lt (Nat.lt_of_lt_of_le S307.tlt (Nat.le_of_eq g229.symm))) nin0))
                have E309 := (A229.keep K240)
                have S310 := ((S237.keep KC239 nin0 nin0).keep KC249 (ninS (Ne.symm (Nat.ne_of_lt (Nat.lt_of_lt_of_le A229.lt le237))) nin0) (ninS (Ne.symm (own_ne_arv E309 (C.hw w_1) S237.2.2.2.1)) nin0))
                have S311 := (S239.keep KC249 (ninS (Ne.symm (Nat.ne_of_lt (Nat.lt_of_lt_of_le E309.lt le239))) nin0) (ninS (Ne.symm (own_ne_arv E245 (C.hw w_1) S239.2.2.2.1)) nin0))
                have K312 : Keep h0 h239 [] := K238.trans KC239 all0
                have K313 : Keep h0 h249 [] := K312.trans KC249 (allS (Or.inr (Nat.le_trans K231.1 (Nat.le_of_eq g229.symm))) all0)
                refine g_virtual C E298 w_58 w_59 (fun hZ => nf_sel hw w_61 hZ) w_61 w_60 (by decide) [(.ref b229)] (ct_of hEL hw w_62 w_2 (rm_eq l Z a0 hw hEL b210 b229 (kindA k1 kt kp ke) (kindA k2 kt kp ke) a216 a237 a218 a239 t216 t237 t218 t239 _ _ _ _ (strcs i2) (strcs t2) (strcs i3) (strcs d2) zc h249 n0 E298 X249 F299 F300 F301 S305 S308 G1249 G2249 G3249 S310 S311 (Sta_keep Szc K313) hzc)) all0 (by decide) 0 (by decide) rfl pd__Ljava_lang_Object__Z rfl [] rfl (Nat.le_of_eq rfl) at_217 (by decide) (by decide) ?_
                intro v314 h314 Q314
                obtain ⟨rfl, e314⟩ := Q314
                replace e314 := e314.symm
                subst e314
                refine g_iload C at_220 rfl ?_
                refine g_icmp_f C at_222 (XT.ii_ne_f (if_pos ⟨((own_kind h_k1 h_k2 hk1 hk2 hk3).mpr hc287), ((own_norm i2 t2).mp hc290), ((own_norm i3 d2).mp hc293)⟩)) ?_
                refine g_aload C at_225 rfl rfl ?_
                refine g_aload C at_227 rfl rfl ?_
                refine g_virtual C X249 w_58 w_59 (fun hZ => nf_sel hw w_61 hZ) w_61 w_60 (by decide) [(.ref b210)] (ct_of hEL hw w_62 w_2 (rm_eq l Z a0 hw hEL b229 b210 (kindA k2 kt kp ke) (kindA k1 kt kp ke) a237 a216 a239 a218 t237 t216 t239 t218 _ _ _ _ (strcs t2) (strcs i2) (strcs d2) (strcs i3) zc h249 n0 X249 E298 G1249 G2249 G3249 S310 S311 F299 F300 F301 S305 S308 (Sta_keep Szc K313) hzc)) all0 (by decide) 0 (by decide) rfl pd__Ljava_lang_Object__Z rfl [] rfl (Nat.le_of_eq rfl) at_229 (by decide) (by decide) ?_
                intro v315 h315 Q315
                obtain ⟨rfl, e315⟩ := Q315
                replace e315 := e315.symm
                subst e315
                refine g_iload C at_232 rfl ?_
                refine g_icmp_f C at_234 (XT.ii_ne_f (if_pos ⟨((own_kind h_k1 h_k2 hk1 hk2 hk3).mpr hc287).symm, ((own_norm i2 t2).mp hc290).symm, ((own_norm i3 d2).mp hc293).symm⟩)) ?_
                refine g_iconst C 1 at_237 rfl ?_
                refine g_goto C 242 at_238 (by decide) (by decide) ?_
                refine g_ireturnN C hEL (t := .boolean) rfl (by simp) at_242 (by decide) (by decide) ?_
                exact rfl
              · refine g_icmp_t C 210 at_203 (XT.ii_ne_t hc293) (by decide) (by decide) ?_
                refine g_iconst C 0 at_210 rfl ?_
                refine g_istore C #[.val (.int i1), .val (.int i2), .val (.int i3), .val (.int i4), .val (.int i5), .val (.int i6), .val (.int k1), .val (.int k2), .val (.int t2), .val (.int d2), .val (.ref b210), .val (.ref b229), .val (.int md), .val (.int (0 : Int32))] at_211 rfl ?_
                refine g_aload C at_213 rfl rfl ?_
                refine g_aload C at_215 rfl rfl ?_
                have K316 : Keep h228 h229 [] := (Keep.refl h228 []).ext E229
                have K317 : Keep h228 h237 [] := K316.trans KC237 all0
                have K318 : Keep h228 h239 [] := K317.trans KC239 all0
                have K319 : Keep h228 h249 [] := K318.trans KC249 (allS (Or.inr (Nat.le_of_eq g229.symm)) all0)
                have E320 := (X228.keep K319)
                have F321 := (G1228.keep K319 nin0)
                have F322 := (G2228.keep K319 nin0)
                have F323 := (G3228.keep K319 nin0)
                have E324 := (A210.keep K219)
                have E325 := (E227.keep KC228)
                have S326 := ((S216.keep KC218 nin0 nin0).keep KC228 (ninS (Ne.symm (Nat.ne_of_lt (Nat.lt_of_lt_of_le A210.lt le216))) nin0) (ninS (Ne.symm (own_ne_arv E324 (C.hw w_1) S216.2.2.2.1)) nin0))
                have S327 := ((((((S216.keep KC218 nin0 nin0).keep KC228 (ninS (Ne.symm (Nat.ne_of_lt (Nat.lt_of_lt_of_le A210.lt le216))) nin0) (ninS (Ne.symm (own_ne_arv E324 (C.hw w_1) S216.2.2.2.1)) nin0)).ext E229).keep KC237 nin0 nin0).keep KC239 nin0 nin0).keep KC249 (ninS (Nat.ne_of_lt (Nat.lt_of_lt_of_le E325.lt (Nat.le_of_eq g229.symm))) nin0) (ninS (Nat.ne_of_lt (Nat.lt_of_lt_of_le S326.tlt (Nat.le_of_eq g229.symm))) nin0))
                have E328 := (S218.1.keep KC228)
                have S329 := (S218.keep KC228 (ninS (Ne.symm (Nat.ne_of_lt (Nat.lt_of_lt_of_le E324.lt le218))) nin0) (ninS (Ne.symm (own_ne_arv E224 (C.hw w_1) S218.2.2.2.1)) nin0))
                have S330 := (((((S218.keep KC228 (ninS (Ne.symm (Nat.ne_of_lt (Nat.lt_of_lt_of_le E324.lt le218))) nin0) (ninS (Ne.symm (own_ne_arv E224 (C.hw w_1) S218.2.2.2.1)) nin0)).ext E229).keep KC237 nin0 nin0).keep KC239 nin0 nin0).keep KC249 (ninS (Nat.ne_of_lt (Nat.lt_of_lt_of_le E328.lt (Nat.le_of_eq g229.symm))) nin0) (ninS (Nat.ne_of_lt (Nat.lt_of_lt_of_le S329.tlt (Nat.le_of_eq g229.symm))) nin0))
                have E331 := (A229.keep K240)
                have S332 := ((S237.keep KC239 nin0 nin0).keep KC249 (ninS (Ne.symm (Nat.ne_of_lt (Nat.lt_of_lt_of_le A229.lt le237))) nin0) (ninS (Ne.symm (own_ne_arv E331 (C.hw w_1) S237.2.2.2.1)) nin0))
                have S333 := (S239.keep KC249 (ninS (Ne.symm (Nat.ne_of_lt (Nat.lt_of_lt_of_le E331.lt le239))) nin0) (ninS (Ne.symm (own_ne_arv E245 (C.hw w_1) S239.2.2.2.1)) nin0))
                have K334 : Keep h0 h239 [] := K238.trans KC239 all0
                have K335 : Keep h0 h249 [] := K334.trans KC249 (allS (Or.inr (Nat.le_trans K231.1 (Nat.le_of_eq g229.symm))) all0)
                refine g_virtual C E320 w_58 w_59 (fun hZ => nf_sel hw w_61 hZ) w_61 w_60 (by decide) [(.ref b229)] (ct_of hEL hw w_62 w_2 (rm_eq l Z a0 hw hEL b210 b229 (kindA k1 kt kp ke) (kindA k2 kt kp ke) a216 a237 a218 a239 t216 t237 t218 t239 _ _ _ _ (strcs i2) (strcs t2) (strcs i3) (strcs d2) zc h249 n0 E320 X249 F321 F322 F323 S327 S330 G1249 G2249 G3249 S332 S333 (Sta_keep Szc K335) hzc)) all0 (by decide) 0 (by decide) rfl pd__Ljava_lang_Object__Z rfl [] rfl (Nat.le_of_eq rfl) at_217 (by decide) (by decide) ?_
                intro v336 h336 Q336
                obtain ⟨rfl, e336⟩ := Q336
                replace e336 := e336.symm
                subst e336
                refine g_iload C at_220 rfl ?_
                refine g_icmp_f C at_222 (XT.ii_ne_f (if_neg (fun q => hc293 ((own_norm i3 d2).mpr q.2.2)))) ?_
                refine g_aload C at_225 rfl rfl ?_
                refine g_aload C at_227 rfl rfl ?_
                refine g_virtual C X249 w_58 w_59 (fun hZ => nf_sel hw w_61 hZ) w_61 w_60 (by decide) [(.ref b210)] (ct_of hEL hw w_62 w_2 (rm_eq l Z a0 hw hEL b229 b210 (kindA k2 kt kp ke) (kindA k1 kt kp ke) a237 a216 a239 a218 t237 t216 t239 t218 _ _ _ _ (strcs t2) (strcs i2) (strcs d2) (strcs i3) zc h249 n0 X249 E320 G1249 G2249 G3249 S332 S333 F321 F322 F323 S327 S330 (Sta_keep Szc K335) hzc)) all0 (by decide) 0 (by decide) rfl pd__Ljava_lang_Object__Z rfl [] rfl (Nat.le_of_eq rfl) at_229 (by decide) (by decide) ?_
                intro v337 h337 Q337
                obtain ⟨rfl, e337⟩ := Q337
                replace e337 := e337.symm
                subst e337
                refine g_iload C at_232 rfl ?_
                refine g_icmp_f C at_234 (XT.ii_ne_f (if_neg (fun q => hc293 ((own_norm i3 d2).mpr (Eq.symm q.2.2))))) ?_
                refine g_iconst C 1 at_237 rfl ?_
                refine g_goto C 242 at_238 (by decide) (by decide) ?_
                refine g_ireturnN C hEL (t := .boolean) rfl (by simp) at_242 (by decide) (by decide) ?_
                exact rfl
            · refine g_icmp_t C 210 at_191 (XT.ii_ne_t hc290) (by decide) (by decide) ?_
              refine g_iconst C 0 at_210 rfl ?_
              refine g_istore C #[.val (.int i1), .val (.int i2), .val (.int i3), .val (.int i4), .val (.int i5), .val (.int i6), .val (.int k1), .val (.int k2), .val (.int t2), .val (.int d2), .val (.ref b210), .val (.ref b229), .val (.int md), .val (.int (0 : Int32))] at_211 rfl ?_
              refine g_aload C at_213 rfl rfl ?_
              refine g_aload C at_215 rfl rfl ?_
              have K338 : Keep h228 h229 [] := (Keep.refl h228 []).ext E229
              have K339 : Keep h228 h237 [] := K338.trans KC237 all0
              have K340 : Keep h228 h239 [] := K339.trans KC239 all0
              have K341 : Keep h228 h249 [] := K340.trans KC249 (allS (Or.inr (Nat.le_of_eq g229.symm)) all0)
              have E342 := (X228.keep K341)
              have F343 := (G1228.keep K341 nin0)
              have F344 := (G2228.keep K341 nin0)
              have F345 := (G3228.keep K341 nin0)
              have E346 := (A210.keep K219)
              have E347 := (E227.keep KC228)
              have S348 := ((S216.keep KC218 nin0 nin0).keep KC228 (ninS (Ne.symm (Nat.ne_of_lt (Nat.lt_of_lt_of_le A210.lt le216))) nin0) (ninS (Ne.symm (own_ne_arv E346 (C.hw w_1) S216.2.2.2.1)) nin0))
              have S349 := ((((((S216.keep KC218 nin0 nin0).keep KC228 (ninS (Ne.symm (Nat.ne_of_lt (Nat.lt_of_lt_of_le A210.lt le216))) nin0) (ninS (Ne.symm (own_ne_arv E346 (C.hw w_1) S216.2.2.2.1)) nin0)).ext E229).keep KC237 nin0 nin0).keep KC239 nin0 nin0).keep KC249 (ninS (Nat.ne_of_lt (Nat.lt_of_lt_of_le E347.lt (Nat.le_of_eq g229.symm))) nin0) (ninS (Nat.ne_of_lt (Nat.lt_of_lt_of_le S348.tlt (Nat.le_of_eq g229.symm))) nin0))
              have E350 := (S218.1.keep KC228)
              have S351 := (S218.keep KC228 (ninS (Ne.symm (Nat.ne_of_lt (Nat.lt_of_lt_of_le E346.lt le218))) nin0) (ninS (Ne.symm (own_ne_arv E224 (C.hw w_1) S218.2.2.2.1)) nin0))
              have S352 := (((((S218.keep KC228 (ninS (Ne.symm (Nat.ne_of_lt (Nat.lt_of_lt_of_le E346.lt le218))) nin0) (ninS (Ne.symm (own_ne_arv E224 (C.hw w_1) S218.2.2.2.1)) nin0)).ext E229).keep KC237 nin0 nin0).keep KC239 nin0 nin0).keep KC249 (ninS (Nat.ne_of_lt (Nat.lt_of_lt_of_le E350.lt (Nat.le_of_eq g229.symm))) nin0) (ninS (Nat.ne_of_lt (Nat.lt_of_lt_of_le S351.tlt (Nat.le_of_eq g229.symm))) nin0))
              have E353 := (A229.keep K240)
              have S354 := ((S237.keep KC239 nin0 nin0).keep KC249 (ninS (Ne.symm (Nat.ne_of_lt (Nat.lt_of_lt_of_le A229.lt le237))) nin0) (ninS (Ne.symm (own_ne_arv E353 (C.hw w_1) S237.2.2.2.1)) nin0))
              have S355 := (S239.keep KC249 (ninS (Ne.symm (Nat.ne_of_lt (Nat.lt_of_lt_of_le E353.lt le239))) nin0) (ninS (Ne.symm (own_ne_arv E245 (C.hw w_1) S239.2.2.2.1)) nin0))
              have K356 : Keep h0 h239 [] := K238.trans KC239 all0
              have K357 : Keep h0 h249 [] := K356.trans KC249 (allS (Or.inr (Nat.le_trans K231.1 (Nat.le_of_eq g229.symm))) all0)
              refine g_virtual C E342 w_58 w_59 (fun hZ => nf_sel hw w_61 hZ) w_61 w_60 (by decide) [(.ref b229)] (ct_of hEL hw w_62 w_2 (rm_eq l Z a0 hw hEL b210 b229 (kindA k1 kt kp ke) (kindA k2 kt kp ke) a216 a237 a218 a239 t216 t237 t218 t239 _ _ _ _ (strcs i2) (strcs t2) (strcs i3) (strcs d2) zc h249 n0 E342 X249 F343 F344 F345 S349 S352 G1249 G2249 G3249 S354 S355 (Sta_keep Szc K357) hzc)) all0 (by decide) 0 (by decide) rfl pd__Ljava_lang_Object__Z rfl [] rfl (Nat.le_of_eq rfl) at_217 (by decide) (by decide) ?_
              intro v358 h358 Q358
              obtain ⟨rfl, e358⟩ := Q358
              replace e358 := e358.symm
              subst e358
              refine g_iload C at_220 rfl ?_
              refine g_icmp_f C at_222 (XT.ii_ne_f (if_neg (fun q => hc290 ((own_norm i2 t2).mpr q.2.1)))) ?_
              refine g_aload C at_225 rfl rfl ?_
              refine g_aload C at_227 rfl rfl ?_
              refine g_virtual C X249 w_58 w_59 (fun hZ => nf_sel hw w_61 hZ) w_61 w_60 (by decide) [(.ref b210)] (ct_of hEL hw w_62 w_2 (rm_eq l Z a0 hw hEL b229 b210 (kindA k2 kt kp ke) (kindA k1 kt kp ke) a237 a216 a239 a218 t237 t216 t239 t218 _ _ _ _ (strcs t2) (strcs i2) (strcs d2) (strcs i3) zc h249 n0 X249 E342 G1249 G2249 G3249 S354 S355 F343 F344 F345 S349 S352 (Sta_keep Szc K357) hzc)) all0 (by decide) 0 (by decide) rfl pd__Ljava_lang_Object__Z rfl [] rfl (Nat.le_of_eq rfl) at_229 (by decide) (by decide) ?_
              intro v359 h359 Q359
              obtain ⟨rfl, e359⟩ := Q359
              replace e359 := e359.symm
              subst e359
              refine g_iload C at_232 rfl ?_
              refine g_icmp_f C at_234 (XT.ii_ne_f (if_neg (fun q => hc290 ((own_norm i2 t2).mpr (Eq.symm q.2.1))))) ?_
              refine g_iconst C 1 at_237 rfl ?_
              refine g_goto C 242 at_238 (by decide) (by decide) ?_
              refine g_ireturnN C hEL (t := .boolean) rfl (by simp) at_242 (by decide) (by decide) ?_
              exact rfl
          · refine g_icmp_t C 210 at_179 (XT.ii_ne_t hc287) (by decide) (by decide) ?_
            refine g_iconst C 0 at_210 rfl ?_
            refine g_istore C #[.val (.int i1), .val (.int i2), .val (.int i3), .val (.int i4), .val (.int i5), .val (.int i6), .val (.int k1), .val (.int k2), .val (.int t2), .val (.int d2), .val (.ref b210), .val (.ref b229), .val (.int md), .val (.int (0 : Int32))] at_211 rfl ?_
            refine g_aload C at_213 rfl rfl ?_
            refine g_aload C at_215 rfl rfl ?_
            have K360 : Keep h228 h229 [] := (Keep.refl h228 []).ext E229
            have K361 : Keep h228 h237 [] := K360.trans KC237 all0
            have K362 : Keep h228 h239 [] := K361.trans KC239 all0
            have K363 : Keep h228 h249 [] := K362.trans KC249 (allS (Or.inr (Nat.le_of_eq g229.symm)) all0)
            have E364 := (X228.keep K363)
            have F365 := (G1228.keep K363 nin0)
            have F366 := (G2228.keep K363 nin0)
            have F367 := (G3228.keep K363 nin0)
            have E368 := (A210.keep K219)
            have E369 := (E227.keep KC228)
            have S370 := ((S216.keep KC218 nin0 nin0).keep KC228 (ninS (Ne.symm (Nat.ne_of_lt (Nat.lt_of_lt_of_le A210.lt le216))) nin0) (ninS (Ne.symm (own_ne_arv E368 (C.hw w_1) S216.2.2.2.1)) nin0))
            have S371 := ((((((S216.keep KC218 nin0 nin0).keep KC228 (ninS (Ne.symm (Nat.ne_of_lt (Nat.lt_of_lt_of_le A210.lt le216))) nin0) (ninS (Ne.symm (own_ne_arv E368 (C.hw w_1) S216.2.2.2.1)) nin0)).ext E229).keep KC237 nin0 nin0).keep KC239 nin0 nin0).keep KC249 (ninS (Nat.ne_of_lt (Nat.lt_of_lt_of_le E369.lt (Nat.le_of_eq g229.symm))) nin0) (ninS (Nat.ne_of_lt (Nat.lt_of_lt_of_le S370.tlt (Nat.le_of_eq g229.symm))) nin0))
            have E372 := (S218.1.keep KC228)
            have S373 := (S218.keep KC228 (ninS (Ne.symm (Nat.ne_of_lt (Nat.lt_of_lt_of_le E368.lt le218))) nin0) (ninS (Ne.symm (own_ne_arv E224 (C.hw w_1) S218.2.2.2.1)) nin0))
            have S374 := (((((S218.keep KC228 (ninS (Ne.symm (Nat.ne_of_lt (Nat.lt_of_lt_of_le E368.lt le218))) nin0) (ninS (Ne.symm (own_ne_arv E224 (C.hw w_1) S218.2.2.2.1)) nin0)).ext E229).keep KC237 nin0 nin0).keep KC239 nin0 nin0).keep KC249 (ninS (Nat.ne_of_lt (Nat.lt_of_lt_of_le E372.lt (Nat.le_of_eq g229.symm))) nin0) (ninS (Nat.ne_of_lt (Nat.lt_of_lt_of_le S373.tlt (Nat.le_of_eq g229.symm))) nin0))
            have E375 := (A229.keep K240)
            have S376 := ((S237.keep KC239 nin0 nin0).keep KC249 (ninS (Ne.symm (Nat.ne_of_lt (Nat.lt_of_lt_of_le A229.lt le237))) nin0) (ninS (Ne.symm (own_ne_arv E375 (C.hw w_1) S237.2.2.2.1)) nin0))
            have S377 := (S239.keep KC249 (ninS (Ne.symm (Nat.ne_of_lt (Nat.lt_of_lt_of_le E375.lt le239))) nin0) (ninS (Ne.symm (own_ne_arv E245 (C.hw w_1) S239.2.2.2.1)) nin0))
            have K378 : Keep h0 h239 [] := K238.trans KC239 all0
            have K379 : Keep h0 h249 [] := K378.trans KC249 (allS (Or.inr (Nat.le_trans K231.1 (Nat.le_of_eq g229.symm))) all0)
            refine g_virtual C E364 w_58 w_59 (fun hZ => nf_sel hw w_61 hZ) w_61 w_60 (by decide) [(.ref b229)] (ct_of hEL hw w_62 w_2 (rm_eq l Z a0 hw hEL b210 b229 (kindA k1 kt kp ke) (kindA k2 kt kp ke) a216 a237 a218 a239 t216 t237 t218 t239 _ _ _ _ (strcs i2) (strcs t2) (strcs i3) (strcs d2) zc h249 n0 E364 X249 F365 F366 F367 S371 S374 G1249 G2249 G3249 S376 S377 (Sta_keep Szc K379) hzc)) all0 (by decide) 0 (by decide) rfl pd__Ljava_lang_Object__Z rfl [] rfl (Nat.le_of_eq rfl) at_217 (by decide) (by decide) ?_
            intro v380 h380 Q380
            obtain ⟨rfl, e380⟩ := Q380
            replace e380 := e380.symm
            subst e380
            refine g_iload C at_220 rfl ?_
            refine g_icmp_f C at_222 (XT.ii_ne_f (if_neg (fun q => hc287 ((own_kind h_k1 h_k2 hk1 hk2 hk3).mp q.1)))) ?_
            refine g_aload C at_225 rfl rfl ?_
            refine g_aload C at_227 rfl rfl ?_
            refine g_virtual C X249 w_58 w_59 (fun hZ => nf_sel hw w_61 hZ) w_61 w_60 (by decide) [(.ref b210)] (ct_of hEL hw w_62 w_2 (rm_eq l Z a0 hw hEL b229 b210 (kindA k2 kt kp ke) (kindA k1 kt kp ke) a237 a216 a239 a218 t237 t216 t239 t218 _ _ _ _ (strcs t2) (strcs i2) (strcs d2) (strcs i3) zc h249 n0 X249 E364 G1249 G2249 G3249 S376 S377 F365 F366 F367 S371 S374 (Sta_keep Szc K379) hzc)) all0 (by decide) 0 (by decide) rfl pd__Ljava_lang_Object__Z rfl [] rfl (Nat.le_of_eq rfl) at_229 (by decide) (by decide) ?_
            intro v381 h381 Q381
            obtain ⟨rfl, e381⟩ := Q381
            replace e381 := e381.symm
            subst e381
            refine g_iload C at_232 rfl ?_
            refine g_icmp_f C at_234 (XT.ii_ne_f (if_neg (fun q => hc287 ((own_kind h_k1 h_k2 hk1 hk2 hk3).mp (Eq.symm q.1))))) ?_
            refine g_iconst C 1 at_237 rfl ?_
            refine g_goto C 242 at_238 (by decide) (by decide) ?_
            refine g_ireturnN C hEL (t := .boolean) rfl (by simp) at_242 (by decide) (by decide) ?_
            exact rfl
  refine g_iload C at_9 rfl ?_
  refine g_iconst C 4 at_11 rfl ?_
  refine g_iand C at_12 ?_
  by_cases hc382 : (i6 &&& (4 : Int32)) = 0
  · refine g_if_t C 21 at_13 (XT.i0_eq_t hc382) (by decide) (by decide) ?_
    refine g_iloadN C at_21 rfl ?_
    refine g_bipush C 8 at_22 rfl ?_
    refine g_iushr C at_24 ?_
    refine g_sipush C 255 at_25 rfl ?_
    refine g_iand C at_28 ?_
    refine g_iconst C 3 at_29 rfl ?_
    refine g_irem C at_30 (by decide) ?_
    refine g_istore C #[.val (.int i1), .val (.int i2), .val (.int i3), .val (.int i4), .val (.int i5), .val (.int i6), .val (.int k1), .val (.int ((((i1.toUInt32 >>> ((8 : Int32) &&& 31).toUInt32).toInt32) &&& (255 : Int32)) % (3 : Int32))), .unset, .unset, .unset, .unset, .unset, .unset] at_31 rfl ?_
    refine g_iload C at_33 rfl ?_
    refine g_iconst C 1 at_35 rfl ?_
    refine g_iand C at_36 ?_
    by_cases hc383 : (i6 &&& (1 : Int32)) = 0
    · refine g_if_t C 44 at_37 (XT.i0_eq_t hc383) (by decide) (by decide) ?_
      refine g_iloadN C at_44 rfl ?_
      refine g_istore C #[.val (.int i1), .val (.int i2), .val (.int i3), .val (.int i4), .val (.int i5), .val (.int i6), .val (.int k1), .val (.int ((((i1.toUInt32 >>> ((8 : Int32) &&& 31).toUInt32).toInt32) &&& (255 : Int32)) % (3 : Int32))), .val (.int i4), .unset, .unset, .unset, .unset, .unset] at_45 rfl ?_
      refine g_iload C at_47 rfl ?_
      refine g_iconst C 2 at_49 rfl ?_
      refine g_iand C at_50 ?_
      by_cases hc384 : (i6 &&& (2 : Int32)) = 0
      · refine g_if_t C 58 at_51 (XT.i0_eq_t hc384) (by decide) (by decide) ?_
        refine g_iload C at_58 rfl ?_
        refine g_istore C #[.val (.int i1), .val (.int i2), .val (.int i3), .val (.int i4), .val (.int i5), .val (.int i6), .val (.int k1), .val (.int ((((i1.toUInt32 >>> ((8 : Int32) &&& 31).toUInt32).toInt32) &&& (255 : Int32)) % (3 : Int32))), .val (.int i4), .val (.int i5), .unset, .unset, .unset, .unset] at_60 rfl ?_
        exact rest ((((i1.toUInt32 >>> ((8 : Int32) &&& 31).toUInt32).toInt32) &&& (255 : Int32)) % (3 : Int32)) i4 i5 (own_mod3 _)
      · refine g_if_f C at_51 (XT.i0_eq_f hc384) ?_
        refine g_iloadN C at_54 rfl ?_
        refine g_goto C 60 at_55 (by decide) (by decide) ?_
        refine g_istore C #[.val (.int i1), .val (.int i2), .val (.int i3), .val (.int i4), .val (.int i5), .val (.int i6), .val (.int k1), .val (.int ((((i1.toUInt32 >>> ((8 : Int32) &&& 31).toUInt32).toInt32) &&& (255 : Int32)) % (3 : Int32))), .val (.int i4), .val (.int i3), .unset, .unset, .unset, .unset] at_60 rfl ?_
        exact rest ((((i1.toUInt32 >>> ((8 : Int32) &&& 31).toUInt32).toInt32) &&& (255 : Int32)) % (3 : Int32)) i4 i3 (own_mod3 _)
    · refine g_if_f C at_37 (XT.i0_eq_f hc383) ?_
      refine g_iloadN C at_40 rfl ?_
      refine g_goto C 45 at_41 (by decide) (by decide) ?_
      refine g_istore C #[.val (.int i1), .val (.int i2), .val (.int i3), .val (.int i4), .val (.int i5), .val (.int i6), .val (.int k1), .val (.int ((((i1.toUInt32 >>> ((8 : Int32) &&& 31).toUInt32).toInt32) &&& (255 : Int32)) % (3 : Int32))), .val (.int i2), .unset, .unset, .unset, .unset, .unset] at_45 rfl ?_
      refine g_iload C at_47 rfl ?_
      refine g_iconst C 2 at_49 rfl ?_
      refine g_iand C at_50 ?_
      by_cases hc385 : (i6 &&& (2 : Int32)) = 0
      · refine g_if_t C 58 at_51 (XT.i0_eq_t hc385) (by decide) (by decide) ?_
        refine g_iload C at_58 rfl ?_
        refine g_istore C #[.val (.int i1), .val (.int i2), .val (.int i3), .val (.int i4), .val (.int i5), .val (.int i6), .val (.int k1), .val (.int ((((i1.toUInt32 >>> ((8 : Int32) &&& 31).toUInt32).toInt32) &&& (255 : Int32)) % (3 : Int32))), .val (.int i2), .val (.int i5), .unset, .unset, .unset, .unset] at_60 rfl ?_
        exact rest ((((i1.toUInt32 >>> ((8 : Int32) &&& 31).toUInt32).toInt32) &&& (255 : Int32)) % (3 : Int32)) i2 i5 (own_mod3 _)
      · refine g_if_f C at_51 (XT.i0_eq_f hc385) ?_
        refine g_iloadN C at_54 rfl ?_
        refine g_goto C 60 at_55 (by decide) (by decide) ?_
        refine g_istore C #[.val (.int i1), .val (.int i2), .val (.int i3), .val (.int i4), .val (.int i5), .val (.int i6), .val (.int k1), .val (.int ((((i1.toUInt32 >>> ((8 : Int32) &&& 31).toUInt32).toInt32) &&& (255 : Int32)) % (3 : Int32))), .val (.int i2), .val (.int i3), .unset, .unset, .unset, .unset] at_60 rfl ?_
        exact rest ((((i1.toUInt32 >>> ((8 : Int32) &&& 31).toUInt32).toInt32) &&& (255 : Int32)) % (3 : Int32)) i2 i3 (own_mod3 _)
  · refine g_if_f C at_13 (XT.i0_eq_f hc382) ?_
    refine g_iload C at_16 rfl ?_
    refine g_goto C 31 at_18 (by decide) (by decide) ?_
    refine g_istore C #[.val (.int i1), .val (.int i2), .val (.int i3), .val (.int i4), .val (.int i5), .val (.int i6), .val (.int k1), .val (.int k1), .unset, .unset, .unset, .unset, .unset, .unset] at_31 rfl ?_
    refine g_iload C at_33 rfl ?_
    refine g_iconst C 1 at_35 rfl ?_
    refine g_iand C at_36 ?_
    by_cases hc386 : (i6 &&& (1 : Int32)) = 0
    · refine g_if_t C 44 at_37 (XT.i0_eq_t hc386) (by decide) (by decide) ?_
      refine g_iloadN C at_44 rfl ?_
      refine g_istore C #[.val (.int i1), .val (.int i2), .val (.int i3), .val (.int i4), .val (.int i5), .val (.int i6), .val (.int k1), .val (.int k1), .val (.int i4), .unset, .unset, .unset, .unset, .unset] at_45 rfl ?_
      refine g_iload C at_47 rfl ?_
      refine g_iconst C 2 at_49 rfl ?_
      refine g_iand C at_50 ?_
      by_cases hc387 : (i6 &&& (2 : Int32)) = 0
      · refine g_if_t C 58 at_51 (XT.i0_eq_t hc387) (by decide) (by decide) ?_
        refine g_iload C at_58 rfl ?_
        refine g_istore C #[.val (.int i1), .val (.int i2), .val (.int i3), .val (.int i4), .val (.int i5), .val (.int i6), .val (.int k1), .val (.int k1), .val (.int i4), .val (.int i5), .unset, .unset, .unset, .unset] at_60 rfl ?_
        exact rest k1 i4 i5 h_k1
      · refine g_if_f C at_51 (XT.i0_eq_f hc387) ?_
        refine g_iloadN C at_54 rfl ?_
        refine g_goto C 60 at_55 (by decide) (by decide) ?_
        refine g_istore C #[.val (.int i1), .val (.int i2), .val (.int i3), .val (.int i4), .val (.int i5), .val (.int i6), .val (.int k1), .val (.int k1), .val (.int i4), .val (.int i3), .unset, .unset, .unset, .unset] at_60 rfl ?_
        exact rest k1 i4 i3 h_k1
    · refine g_if_f C at_37 (XT.i0_eq_f hc386) ?_
      refine g_iloadN C at_40 rfl ?_
      refine g_goto C 45 at_41 (by decide) (by decide) ?_
      refine g_istore C #[.val (.int i1), .val (.int i2), .val (.int i3), .val (.int i4), .val (.int i5), .val (.int i6), .val (.int k1), .val (.int k1), .val (.int i2), .unset, .unset, .unset, .unset, .unset] at_45 rfl ?_
      refine g_iload C at_47 rfl ?_
      refine g_iconst C 2 at_49 rfl ?_
      refine g_iand C at_50 ?_
      by_cases hc388 : (i6 &&& (2 : Int32)) = 0
      · refine g_if_t C 58 at_51 (XT.i0_eq_t hc388) (by decide) (by decide) ?_
        refine g_iload C at_58 rfl ?_
        refine g_istore C #[.val (.int i1), .val (.int i2), .val (.int i3), .val (.int i4), .val (.int i5), .val (.int i6), .val (.int k1), .val (.int k1), .val (.int i2), .val (.int i5), .unset, .unset, .unset, .unset] at_60 rfl ?_
        exact rest k1 i2 i5 h_k1
      · refine g_if_f C at_51 (XT.i0_eq_f hc388) ?_
        refine g_iloadN C at_54 rfl ?_
        refine g_goto C 60 at_55 (by decide) (by decide) ?_
        refine g_istore C #[.val (.int i1), .val (.int i2), .val (.int i3), .val (.int i4), .val (.int i5), .val (.int i6), .val (.int k1), .val (.int k1), .val (.int i2), .val (.int i3), .unset, .unset, .unset, .unset] at_60 rfl ?_
        exact rest k1 i2 i3 h_k1
set_option maxRecDepth 65536 in
set_option maxHeartbeats 40000000 in
theorem comes_1 {Post : Tables → Env → Array Value → State → Outcome → State → Prop} (hpost : ∀ tb e args s v u, (limb_1_1.after args s (.returned v) u = true ∧ limb_1_2.after args s (.returned v) u = true ∧ True) → ReturnedEndW s (.returned v) u (Jvm.fieldLocs frame_1_writes args s ++ Jvm.arrayLocs frame_1_arrays args s ++ Jvm.staticLocs frame_1_statics s) 56 4288 → Post tb e args s (.returned v) u) :
    ArmFor flags0 classFile x code maxLocals ret World_1 tables_1 room_1 Calls_1 rest_1 Pre_1 Post := by
  intro l hfl _ _ p e ha hc hk s m args below hf hA hF happ hP
  obtain ⟨hcalls, hrest, hpre⟩ := hP
  obtain ⟨-, -, -, hnamed, -, -, -, hat⟩ := (Spec.applies_iff hf).mp happ
  obtain ⟨hg, hn⟩ := and_e (Cond.before_iff.mp (show (Jvm.Cond.and given_1 narrow_1).before args s = true from hpre))
  obtain ⟨hcount, ga0⟩ := and_e hg
  obtain ⟨gv0, ga1⟩ := and_e ga0
  obtain ⟨gv1, ga2⟩ := and_e ga1
  obtain ⟨gv2, ga3⟩ := and_e ga2
  obtain ⟨gv3, ga4⟩ := and_e ga3
  obtain ⟨gv4, ga5⟩ := and_e ga4
  obtain ⟨w0, w1, w2, w3, w4, w5, rfl⟩ : ∃ w0 w1 w2 w3 w4 w5 : Value, args = #[w0, w1, w2, w3, w4, w5] := by
    have hs : args.size = 6 := by simpa [Cond.value, given_1] using hcount
    obtain ⟨L⟩ := args
    match L, hs with
    | [w0, w1, w2, w3, w4, w5], _ => exact ⟨w0, w1, w2, w3, w4, w5, rfl⟩
  have hw := fun d (hd : d ∈ tables_1) => atoms_spec (ws := Jvm.Cond.code x code maxLocals ret :: tables_1) hat d (List.mem_cons_of_mem _ hd)
  have hfit : Fit s := fun {y c} hc i hi => by
    obtain ⟨ha, rfl⟩ := Array.getElem?_eq_some_iff.mp hc
    have q := List.all_eq_true.mp ((Array.all_eq_true_iff_forall_mem.mp hF) _ (Array.getElem_mem ha)) i (List.mem_range.mpr hi)
    simpa [Array.getElem?_eq_getElem hi] using q
  obtain ⟨hsets, hown0⟩ := atoms_of _ (rest_1_c_eq ▸ (show rest_1_c.before _ s = true from hrest))
  obtain ⟨i0, ei0⟩ := is_v gv0
  obtain rfl : w0 = (.int i0) := Option.some.inj ei0
  obtain ⟨i1, ei1⟩ := is_v gv1
  obtain rfl : w1 = (.int i1) := Option.some.inj ei1
  obtain ⟨i2, ei2⟩ := is_v gv2
  obtain rfl : w2 = (.int i2) := Option.some.inj ei2
  obtain ⟨i3, ei3⟩ := is_v gv3
  obtain rfl : w3 = (.int i3) := Option.some.inj ei3
  obtain ⟨i4, ei4⟩ := is_v gv4
  obtain rfl : w4 = (.int i4) := Option.some.inj ei4
  obtain ⟨i5, ei5⟩ := is_v ga5
  obtain rfl : w5 = (.int i5) := Option.some.inj ei5
  have hEL : EW s _ consts_1 := (EW.cons (hw _ w_39) (by decide +kernel) (EW.cons (hw _ w_48) (by decide +kernel) (EW.cons (hw _ w_52) (by decide +kernel) (EW.cons (hw _ w_27) (by decide +kernel) EW.nil))))
  have hCH : CHv s consts_1 s.vm s.heap := CHv.start hEL (fun p hp => hcalls.1 p hp) (hsets _ (List.mem_of_getElem? (i := 2) rfl)) (hw _ w_28) (hw _ w_14)
  have n5 := not_v (Cond.before_iff.mp (hsets _ (List.mem_of_getElem? (i := 2) rfl)))
  obtain ⟨zc, ezc⟩ := is_v (Cond.before_iff.mp (hsets _ (List.mem_of_getElem? (i := 1) rfl)))
  have Szc : Sta s s.heap "java/lang/String" "COMPACT_STRINGS" "Z" (.int zc) := Sta.start ezc (Or.inl (hsets _ (List.mem_of_getElem? (i := 0) rfl)))
  have hzc : ¬ (zc = (0 : Int32)) := gotF (Cond.eq_ints ezc (Term.int_eval (0))) n5
  obtain ⟨hn1, hn⟩ := and_e hn
  obtain ⟨hn2, hn⟩ := and_e hn
  obtain ⟨hn3, hn⟩ := and_e hn
  obtain ⟨hn4, hn⟩ := and_e hn
  obtain ⟨hn5, hn6⟩ := and_e hn
  obtain ⟨kt, ekt⟩ := exa_v hn1
  have Ekt := Exa.start ekt hn1
  have Skt := Sta.start ekt (Or.inr ⟨hw _ w_8, hw _ w_9⟩)
  have Okt := Fld.start ((fld_at ekt).symm.trans (eqv_i (Term.int_eval (0)) hn4))
  obtain ⟨kp, ekp⟩ := exa_v hn2
  have Ekp := Exa.start ekp hn2
  have Skp := Sta.start ekp (Or.inr ⟨hw _ w_8, hw _ w_77⟩)
  have Okp := Fld.start ((fld_at ekp).symm.trans (eqv_i (Term.int_eval (1)) hn3))
  obtain ⟨ke, eke⟩ := exa_v hn5
  have Eke := Exa.start eke hn5
  have Ske := Sta.start eke (Or.inr ⟨hw _ w_8, hw _ w_91⟩)
  have Oke := Fld.start ((fld_at eke).symm.trans (eqv_i (Term.int_eval (2)) hn6))
  have hk1 := Okt.ne Okp (by decide)
  have hk2 := Okt.ne Oke (by decide)
  have hk3 := Okp.ne Oke (by decide)
  obtain ⟨n, o, h1, h2, h3, _, L, ns, rfl, ⟨⟨rfl, rfl⟩, N⟩, -, -, hq⟩ := rm_law l s _ hw hEL (ws := tables_1) i0 i1 i2 i3 i4 i5 zc kt kp ke s.heap s.heap.size Szc hzc Skt Skp Ske Ekt Ekp Eke hk1 hk2 hk3 (Nat.le_refl _) all0 p e ha hc hk s m _ below hf ((Spec.applies_iff_loose hf).mp happ).1 ⟨rfl, State.Warmed39.refl s, rfl, hCH, all0⟩ trivial
  refine ⟨n, _, h1, h2, h3, hpost _ _ _ _ _ _ ⟨Cond.after_iff.mpr rfl, Cond.after_iff.mpr (eq_i res_at (Term.int_eval (1)) rfl), trivial⟩ ⟨hq.1, hq.2.1, hq.2.2.1, (hq.2.2.2.sift fun y hy => Or.inr (N y hy)).mono (by decide) (by decide)⟩⟩
theorem main_1_1 : Claimed_1_1 := comes_1 fun _ _ _ _ _ _ h hF => ⟨h.1, hF⟩
theorem main_1_2 : Claimed_1_2 := comes_1 fun _ _ _ _ _ _ h hF => ⟨h.2.1, hF⟩

end Jvm.Pilot.@@N@@
namespace Jvm.Pilot.@@N@@
open Jvm Jvm.ClassFile Sem Op Lib Jvm.Free Jvm.Stand Jvm.Pilot.@@N@@.Jvm.D
/-! MADE BY PROGRAM (witnessworld.py) out of the Statement's table words and the real class files: 23 classes; the members and pool entries that the words name. The judged class is class 1, her method 4. -/
namespace start1
open Jvm.ClassFile
def u (s : String) : CpInfo := .utf8 (stringToUtf16 s)
/-- a pool by its gaps: so many unusable entries, then the entry; so many at the end -/
def gap : Nat → List CpInfo → List CpInfo
  | 0, r => r
  | n + 1, r => .unusable :: gap n r
def poolList (es : List (Nat × CpInfo)) (last : Nat) : List CpInfo := es.foldr (fun e r => gap e.1 (e.2 :: r)) (gap last [])
def pool (es : List (Nat × CpInfo)) (last : Nat) : Array CpInfo := ⟨poolList es last⟩
def fileOf (pool : Array CpInfo) (this : Nat) (attrs : Array Attribute := #[]) (ms : Array MethodInfo := #[]) (fl : Nat := 33) (sup : Nat := 0) (ifs : Array Nat := #[]) (fds : Array FieldInfo := #[]) : ClassFile where
  minorVersion := 0
  majorVersion := 65
  constantPool := pool
  accessFlags := fl
  thisClass := this
  superClass := sup
  interfaces := ifs
  fields := fds
  methods := ms
  attributes := attrs
def plain (name : String) (sup : Option ClassId) : Class where
  name := name
  kind := .ordinary
  loader := none
  accessFlags := 33
  super := sup
  interfaces := #[]
  cf := none
  fields := #[]
  methods := #[]
  instanceTypes := #[]
  staticTypes := #[]
  resolved := #[]
  callSites := []
  init := .initialized
  statics := none
  mirror := none

def pool0 : Array CpInfo := pool [(5, u "<init>"), (0, u "()V"), (1, .class_ 10), (1, u "java/lang/Object")] 113

def k0c0 : Code := { maxStack := 0, maxLocals := 1, code := object_method_1_code, exceptionTable := #[], attributes := #[] }
def k0m0 : Method := { name := "<init>", desc := "()V", sig := { parameters := [], returnType := none }, accessFlags := 1, code := some k0c0 }
/-- java/lang/Object -/
def k0 : Class := { plain "java/lang/Object" none with
  accessFlags := 33
  interfaces := #[]
  cf := some (fileOf pool0 8 #[] #[{ accessFlags := 1, nameIndex := 5, descriptorIndex := 6, attributes := #[] }] 33 0 #[] #[])
  fields := #[]
  methods := #[k0m0]
  instanceTypes := #[]
  staticTypes := #[]
  resolved := Array.replicate 124 none
  statics := none }

def pool1 : Array CpInfo := pool [(2, .class_ 4), (1, u "java/lang/Object"), (0, u "<init>"), (0, u "()V"), (0, .fieldref 8 9), (0, .class_ 10), (0, .nameAndType 11 12), (0, u "com/example/cato/cato/message/MessageTemplate$Segment$Kind"), (0, u "TEXT"), (0, u "Lcom/example/cato/cato/message/MessageTemplate$Segment$Kind;"), (0, .fieldref 8 14), (0, .nameAndType 15 12), (0, u "PARAMETER"), (0, .fieldref 8 17), (0, .nameAndType 18 12), (0, u "EXPRESSION"), (0, .class_ 20), (0, u "java/lang/String"), (0, .methodref 19 22), (0, .nameAndType 5 23), (0, u "([C)V"), (0, .integer 65535), (0, .integer 16777215), (0, .class_ 27), (0, u "com/example/cato/cato/message/MessageTemplate$Segment"), (0, .methodref 29 30), (0, .class_ 31), (0, .nameAndType 32 33), (0, u "com/example/cato/cato/message/SegmentEqualsPinLaw"), (0, u "kind"), (0, u "(I)Lcom/example/cato/cato/message/MessageTemplate$Segment$Kind;"), (0, .methodref 29 35), (0, .nameAndType 36 37), (0, u "str"), (0, u "(I)Ljava/lang/String;"), (0, .methodref 26 39), (0, .nameAndType 5 40), (0, u "(Lcom/example/cato/cato/message/MessageTemplate$Segment$Kind;Ljava/lang/String;Ljava/lang/String;)V"), (0, .methodref 26 42), (0, .nameAndType 43 44), (0, u "equals"), (0, u "(Ljava/lang/Object;)Z"), (0, .methodref 29 46), (0, .nameAndType 47 48), (0, u "norm"), (0, u "(I)I"), (3, u "law"), (0, u "(IIIIII)Z")] 7

def k1m0 : Method := { name := "<init>", desc := "()V", sig := { parameters := [], returnType := none }, accessFlags := 2, code := none }
def k1c1 : Code := { maxStack := 2, maxLocals := 1, code := method_2_code, exceptionTable := #[], attributes := #[] }
def k1m1 : Method := { name := "kind", desc := "(I)Lcom/example/cato/cato/message/MessageTemplate$Segment$Kind;", sig := { parameters := [.int], returnType := some (.object "com/example/cato/cato/message/MessageTemplate$Segment$Kind") }, accessFlags := 10, code := some k1c1 }
def k1c2 : Code := { maxStack := 6, maxLocals := 5, code := method_3_code, exceptionTable := #[], attributes := #[] }
def k1m2 : Method := { name := "str", desc := "(I)Ljava/lang/String;", sig := { parameters := [.int], returnType := some (.object "java/lang/String") }, accessFlags := 10, code := some k1c2 }
def k1c3 : Code := { maxStack := 3, maxLocals := 3, code := method_4_code, exceptionTable := #[], attributes := #[] }
def k1m3 : Method := { name := "norm", desc := "(I)I", sig := { parameters := [.int], returnType := some .int }, accessFlags := 10, code := some k1c3 }
def k1c4 : Code := { maxStack := 5, maxLocals := 14, code := code, exceptionTable := #[], attributes := #[] }
def k1m4 : Method := { name := "law", desc := "(IIIIII)Z", sig := { parameters := [.int, .int, .int, .int, .int, .int], returnType := some .boolean }, accessFlags := 9, code := some k1c4 }
/-- com/example/cato/cato/message/SegmentEqualsPinLaw -/
def k1 : Class := { plain "com/example/cato/cato/message/SegmentEqualsPinLaw" (some 0) with
  accessFlags := 49
  interfaces := #[]
  cf := some (fileOf pool1 29 #[] #[{ accessFlags := 2, nameIndex := 5, descriptorIndex := 6, attributes := #[] }, { accessFlags := 10, nameIndex := 32, descriptorIndex := 33, attributes := #[] }, { accessFlags := 10, nameIndex := 36, descriptorIndex := 37, attributes := #[] }, { accessFlags := 10, nameIndex := 47, descriptorIndex := 48, attributes := #[] }, { accessFlags := 9, nameIndex := 52, descriptorIndex := 53, attributes := #[] }] 49 2 #[] #[])
  fields := #[]
  methods := #[k1m0, k1m1, k1m2, k1m3, k1m4]
  instanceTypes := #[]
  staticTypes := #[]
  resolved := Array.replicate 61 none
  statics := none }

def pool2 : Array CpInfo := pool [(1, .methodref 2 3), (0, .class_ 4), (0, .nameAndType 5 6), (0, u "java/lang/Object"), (0, u "<init>"), (0, u "()V"), (0, .string 8), (0, u "kind"), (0, .methodref 10 11), (0, .class_ 12), (0, .nameAndType 13 14), (0, u "java/util/Objects"), (0, u "requireNonNull"), (0, u "(Ljava/lang/Object;Ljava/lang/String;)Ljava/lang/Object;"), (0, .class_ 16), (0, u "com/example/cato/cato/message/MessageTemplate$Segment$Kind"), (0, .fieldref 18 19), (0, .class_ 20), (0, .nameAndType 8 21), (0, u "com/example/cato/cato/message/MessageTemplate$Segment"), (0, u "Lcom/example/cato/cato/message/MessageTemplate$Segment$Kind;"), (0, .string 23), (0, u "source"), (0, .class_ 25), (0, u "java/lang/String"), (0, .fieldref 18 27), (0, .nameAndType 23 28), (0, u "Ljava/lang/String;"), (0, .string 30), (0, u "content"), (0, .fieldref 18 32), (0, .nameAndType 30 28), (0, .methodref 24 34), (0, .nameAndType 35 36), (0, u "equals"), (0, u "(Ljava/lang/Object;)Z"), (12, u "(Lcom/example/cato/cato/message/MessageTemplate$Segment$Kind;Ljava/lang/String;Ljava/lang/String;)V"), (11, .class_ 62), (0, u "com/example/cato/cato/message/MessageTemplate")] 17

def k2c0 : Code := { maxStack := 3, maxLocals := 4, code := prog_6_method_1_code, exceptionTable := #[], attributes := #[] }
def k2m0 : Method := { name := "<init>", desc := "(Lcom/example/cato/cato/message/MessageTemplate$Segment$Kind;Ljava/lang/String;Ljava/lang/String;)V", sig := { parameters := [(.object "com/example/cato/cato/message/MessageTemplate$Segment$Kind"), (.object "java/lang/String"), (.object "java/lang/String")], returnType := none }, accessFlags := 0, code := some k2c0 }
def k2c1 : Code := { maxStack := 2, maxLocals := 3, code := prog_6_method_5_code, exceptionTable := #[], attributes := #[] }
def k2m1 : Method := { name := "equals", desc := "(Ljava/lang/Object;)Z", sig := { parameters := [(.object "java/lang/Object")], returnType := some .boolean }, accessFlags := 1, code := some k2c1 }
/-- com/example/cato/cato/message/MessageTemplate$Segment -/
def k2 : Class := { plain "com/example/cato/cato/message/MessageTemplate$Segment" (some 0) with
  accessFlags := 48
  interfaces := #[]
  cf := some (fileOf pool2 18 #[.nestHost 61] #[{ accessFlags := 0, nameIndex := 5, descriptorIndex := 49, attributes := #[] }, { accessFlags := 1, nameIndex := 35, descriptorIndex := 36, attributes := #[] }] 48 2 #[] #[{ accessFlags := 18, nameIndex := 8, descriptorIndex := 21, attributes := #[] }, { accessFlags := 18, nameIndex := 23, descriptorIndex := 28, attributes := #[] }, { accessFlags := 18, nameIndex := 30, descriptorIndex := 28, attributes := #[] }])
  fields := #[{ name := "kind", type := (.object "com/example/cato/cato/message/MessageTemplate$Segment$Kind"), accessFlags := 18, slot := 0, constantValue := 0 }, { name := "source", type := (.object "java/lang/String"), accessFlags := 18, slot := 1, constantValue := 0 }, { name := "content", type := (.object "java/lang/String"), accessFlags := 18, slot := 2, constantValue := 0 }]
  methods := #[k2m0, k2m1]
  instanceTypes := #[(.object "com/example/cato/cato/message/MessageTemplate$Segment$Kind"), (.object "java/lang/String"), (.object "java/lang/String")]
  staticTypes := #[]
  resolved := Array.replicate 80 none
  statics := none }

def pool3 : Array CpInfo := pool [(1, .class_ 2), (0, u "java/lang/constant/Constable"), (0, .class_ 4), (0, u "java/lang/Object")] 6

/-- java/lang/constant/Constable -/
def k3 : Class := { plain "java/lang/constant/Constable" (some 0) with
  accessFlags := 1537
  interfaces := #[]
  cf := some (fileOf pool3 1 #[] #[] 1537 3 #[] #[])
  fields := #[]
  methods := #[]
  instanceTypes := #[]
  staticTypes := #[]
  resolved := Array.replicate 11 none
  statics := none }

def pool4 : Array CpInfo := pool [(1, .class_ 2), (0, u "java/lang/Comparable"), (0, .class_ 4), (0, u "java/lang/Object")] 7

/-- java/lang/Comparable -/
def k4 : Class := { plain "java/lang/Comparable" (some 0) with
  accessFlags := 1537
  interfaces := #[]
  cf := some (fileOf pool4 1 #[] #[] 1537 3 #[] #[])
  fields := #[]
  methods := #[]
  instanceTypes := #[]
  staticTypes := #[]
  resolved := Array.replicate 12 none
  statics := none }

def pool5 : Array CpInfo := pool [(1, .class_ 2), (0, u "java/io/Serializable"), (0, .class_ 4), (0, u "java/lang/Object")] 2

/-- java/io/Serializable -/
def k5 : Class := { plain "java/io/Serializable" (some 0) with
  accessFlags := 1537
  interfaces := #[]
  cf := some (fileOf pool5 1 #[] #[] 1537 3 #[] #[])
  fields := #[]
  methods := #[]
  instanceTypes := #[]
  staticTypes := #[]
  resolved := Array.replicate 7 none
  statics := none }

def pool6 : Array CpInfo := pool [(2, .class_ 4), (1, u "java/lang/Enum"), (0, u "name"), (0, u "Ljava/lang/String;"), (2, u "ordinal"), (0, u "I"), (1, .class_ 14), (1, u "java/lang/Object"), (4, u "hash"), (86, .class_ 108), (1, u "java/lang/Enum$EnumDesc"), (2, .class_ 112), (0, u "java/lang/constant/Constable"), (0, .class_ 114), (0, u "java/lang/Comparable"), (0, .class_ 116), (0, u "java/io/Serializable")] 87

/-- java/lang/Enum -/
def k6 : Class := { plain "java/lang/Enum" (some 0) with
  accessFlags := 1057
  interfaces := #[3, 4, 5]
  cf := some (fileOf pool6 2 #[.nestMembers #[106]] #[] 1057 12 #[111, 113, 115] #[{ accessFlags := 18, nameIndex := 5, descriptorIndex := 6, attributes := #[] }, { accessFlags := 18, nameIndex := 9, descriptorIndex := 10, attributes := #[] }, { accessFlags := 2, nameIndex := 19, descriptorIndex := 10, attributes := #[] }])
  fields := #[{ name := "name", type := (.object "java/lang/String"), accessFlags := 18, slot := 0, constantValue := 0 }, { name := "ordinal", type := .int, accessFlags := 18, slot := 1, constantValue := 0 }, { name := "hash", type := .int, accessFlags := 2, slot := 2, constantValue := 0 }]
  methods := #[]
  instanceTypes := #[(.object "java/lang/String"), .int, .int]
  staticTypes := #[]
  resolved := Array.replicate 204 none
  statics := none }

def pool7 : Array CpInfo := pool [(1, .class_ 2), (0, u "com/example/cato/cato/message/MessageTemplate$Segment$Kind"), (2, u "TEXT"), (0, u "Lcom/example/cato/cato/message/MessageTemplate$Segment$Kind;"), (2, u "PARAMETER"), (2, u "EXPRESSION"), (2, u "$VALUES"), (0, u "[Lcom/example/cato/cato/message/MessageTemplate$Segment$Kind;"), (6, .class_ 25), (1, u "java/lang/Enum"), (26, .class_ 53), (0, u "com/example/cato/cato/message/MessageTemplate")] 5

/-- com/example/cato/cato/message/MessageTemplate$Segment$Kind -/
def k7 : Class := { plain "com/example/cato/cato/message/MessageTemplate$Segment$Kind" (some 6) with
  accessFlags := 16432
  interfaces := #[]
  cf := some (fileOf pool7 1 #[.nestHost 52] #[] 16432 23 #[] #[{ accessFlags := 16409, nameIndex := 5, descriptorIndex := 6, attributes := #[] }, { accessFlags := 16409, nameIndex := 9, descriptorIndex := 6, attributes := #[] }, { accessFlags := 16409, nameIndex := 12, descriptorIndex := 6, attributes := #[] }, { accessFlags := 4122, nameIndex := 15, descriptorIndex := 16, attributes := #[] }])
  fields := #[{ name := "TEXT", type := (.object "com/example/cato/cato/message/MessageTemplate$Segment$Kind"), accessFlags := 16409, slot := 0, constantValue := 0 }, { name := "PARAMETER", type := (.object "com/example/cato/cato/message/MessageTemplate$Segment$Kind"), accessFlags := 16409, slot := 1, constantValue := 0 }, { name := "EXPRESSION", type := (.object "com/example/cato/cato/message/MessageTemplate$Segment$Kind"), accessFlags := 16409, slot := 2, constantValue := 0 }, { name := "$VALUES", type := (.array (.object "com/example/cato/cato/message/MessageTemplate$Segment$Kind")), accessFlags := 4122, slot := 3, constantValue := 0 }]
  methods := #[]
  instanceTypes := #[(.object "java/lang/String"), .int, .int]
  staticTypes := #[(.object "com/example/cato/cato/message/MessageTemplate$Segment$Kind"), (.object "com/example/cato/cato/message/MessageTemplate$Segment$Kind"), (.object "com/example/cato/cato/message/MessageTemplate$Segment$Kind"), (.array (.object "com/example/cato/cato/message/MessageTemplate$Segment$Kind"))]
  resolved := Array.replicate 59 none
  statics := some 0 }

def pool8 : Array CpInfo := pool [(2, .class_ 4), (1, u "java/lang/CharSequence"), (42, .class_ 48), (0, u "java/lang/CharSequence$1CodePointIterator"), (10, .class_ 60), (0, u "java/lang/CharSequence$1CharIterator"), (5, .class_ 67), (0, u "java/lang/Object")] 63

/-- java/lang/CharSequence -/
def k8 : Class := { plain "java/lang/CharSequence" (some 0) with
  accessFlags := 1537
  interfaces := #[]
  cf := some (fileOf pool8 2 #[.nestMembers #[47, 59]] #[] 1537 66 #[] #[])
  fields := #[]
  methods := #[]
  instanceTypes := #[]
  staticTypes := #[]
  resolved := Array.replicate 131 none
  statics := none }

def pool9 : Array CpInfo := pool [(1, .class_ 2), (0, u "java/lang/constant/ConstantDesc"), (0, .class_ 4), (0, u "java/lang/Object")] 32

/-- java/lang/constant/ConstantDesc -/
def k9 : Class := { plain "java/lang/constant/ConstantDesc" (some 0) with
  accessFlags := 1537
  interfaces := #[]
  cf := some (fileOf pool9 1 #[] #[] 1537 3 #[] #[])
  fields := #[]
  methods := #[]
  instanceTypes := #[]
  staticTypes := #[]
  resolved := Array.replicate 37 none
  statics := none }

def pool10 : Array CpInfo := pool [(1, .methodref 2 3), (0, .class_ 4), (0, .nameAndType 5 6), (0, u "java/lang/Object"), (0, u "<init>"), (0, u "()V"), (0, .string 8), (0, u ""), (0, .fieldref 10 11), (0, .class_ 12), (0, .nameAndType 13 14), (0, u "java/lang/String"), (0, u "value"), (0, u "[B"), (0, .fieldref 10 16), (0, .nameAndType 17 18), (0, u "coder"), (0, u "B"), (2, u "hash"), (0, u "I"), (2, u "hashIsZero"), (0, u "Z"), (0, .methodref 10 28), (0, .nameAndType 5 29), (0, u "([CIILjava/lang/Void;)V"), (8, .fieldref 10 39), (0, .nameAndType 40 26), (0, u "COMPACT_STRINGS"), (1, .class_ 44), (1, u "java/lang/StringUTF16"), (0, u "compress"), (1, .methodref 42 48), (0, .nameAndType 49 50), (0, u "coderFromArrayLen"), (0, u "([BI)B"), (56, .class_ 109), (1, u "java/lang/StringLatin1"), (67, .methodref 42 178), (0, .nameAndType 45 179), (0, u "([CII)[B"), (361, .methodref 107 542), (0, .nameAndType 543 544), (0, u "equals"), (0, u "([B[B)Z"), (28, u "(Ljava/lang/Object;)Z"), (1, .class_ 576), (0, u "java/lang/CharSequence"), (22, u "CASE_INSENSITIVE_ORDER"), (0, u "Ljava/util/Comparator;"), (409, u "([C)V"), (90, u "serialPersistentFields"), (0, u "[Ljava/io/ObjectStreamField;"), (0, .class_ 1104), (0, u "java/lang/String$CaseInsensitiveComparator"), (1, .class_ 1107), (0, u "java/io/Serializable"), (0, .class_ 1109), (0, u "java/lang/Comparable"), (0, .class_ 1111), (0, u "java/lang/constant/Constable"), (0, .class_ 1113), (0, u "java/lang/constant/ConstantDesc"), (2, u "serialVersionUID"), (0, u "J"), (3, u "REPL"), (0, u "C"), (2, u "LATIN1"), (1, u "UTF16")] 323

def k10m0 : Method := { name := "<init>", desc := "()V", sig := { parameters := [], returnType := none }, accessFlags := 1, code := none }
def k10c1 : Code := { maxStack := 5, maxLocals := 2, code := jdk_42_method_3_code, exceptionTable := #[], attributes := #[] }
def k10m1 : Method := { name := "<init>", desc := "([C)V", sig := { parameters := [(.array .char)], returnType := none }, accessFlags := 1, code := some k10c1 }
def k10c2 : Code := { maxStack := 2, maxLocals := 3, code := jdk_42_method_66_code, exceptionTable := #[], attributes := #[] }
def k10m2 : Method := { name := "equals", desc := "(Ljava/lang/Object;)Z", sig := { parameters := [(.object "java/lang/Object")], returnType := some .boolean }, accessFlags := 1, code := some k10c2 }
def k10c3 : Code := { maxStack := 4, maxLocals := 6, code := jdk_42_method_149_code, exceptionTable := #[], attributes := #[] }
def k10m3 : Method := { name := "<init>", desc := "([CIILjava/lang/Void;)V", sig := { parameters := [(.array .char), .int, .int, (.object "java/lang/Void")], returnType := none }, accessFlags := 2, code := some k10c3 }
/-- java/lang/String -/
def k10 : Class := { plain "java/lang/String" (some 0) with
  accessFlags := 49
  interfaces := #[5, 4, 8, 3, 9]
  cf := some (fileOf pool10 10 #[.nestMembers #[1103]] #[{ accessFlags := 1, nameIndex := 5, descriptorIndex := 6, attributes := #[] }, { accessFlags := 1, nameIndex := 5, descriptorIndex := 1010, attributes := #[] }, { accessFlags := 1, nameIndex := 543, descriptorIndex := 573, attributes := #[] }, { accessFlags := 2, nameIndex := 5, descriptorIndex := 29, attributes := #[] }] 49 2 #[1106, 1108, 575, 1110, 1112] #[{ accessFlags := 18, nameIndex := 13, descriptorIndex := 14, attributes := #[] }, { accessFlags := 18, nameIndex := 17, descriptorIndex := 18, attributes := #[] }, { accessFlags := 2, nameIndex := 21, descriptorIndex := 22, attributes := #[] }, { accessFlags := 2, nameIndex := 25, descriptorIndex := 26, attributes := #[] }, { accessFlags := 26, nameIndex := 1116, descriptorIndex := 1117, attributes := #[] }, { accessFlags := 24, nameIndex := 40, descriptorIndex := 26, attributes := #[] }, { accessFlags := 26, nameIndex := 1101, descriptorIndex := 1102, attributes := #[] }, { accessFlags := 26, nameIndex := 1121, descriptorIndex := 1122, attributes := #[] }, { accessFlags := 25, nameIndex := 599, descriptorIndex := 600, attributes := #[] }, { accessFlags := 24, nameIndex := 1125, descriptorIndex := 18, attributes := #[] }, { accessFlags := 24, nameIndex := 1127, descriptorIndex := 18, attributes := #[] }])
  fields := #[{ name := "value", type := (.array .byte), accessFlags := 18, slot := 0, constantValue := 0 }, { name := "coder", type := .byte, accessFlags := 18, slot := 1, constantValue := 0 }, { name := "hash", type := .int, accessFlags := 2, slot := 2, constantValue := 0 }, { name := "hashIsZero", type := .boolean, accessFlags := 2, slot := 3, constantValue := 0 }, { name := "serialVersionUID", type := .long, accessFlags := 26, slot := 0, constantValue := 0 }, { name := "COMPACT_STRINGS", type := .boolean, accessFlags := 24, slot := 1, constantValue := 0 }, { name := "serialPersistentFields", type := (.array (.object "java/io/ObjectStreamField")), accessFlags := 26, slot := 2, constantValue := 0 }, { name := "REPL", type := .char, accessFlags := 26, slot := 3, constantValue := 0 }, { name := "CASE_INSENSITIVE_ORDER", type := (.object "java/util/Comparator"), accessFlags := 25, slot := 4, constantValue := 0 }, { name := "LATIN1", type := .byte, accessFlags := 24, slot := 5, constantValue := 0 }, { name := "UTF16", type := .byte, accessFlags := 24, slot := 6, constantValue := 0 }]
  methods := #[k10m0, k10m1, k10m2, k10m3]
  instanceTypes := #[(.array .byte), .byte, .int, .boolean]
  staticTypes := #[.long, .boolean, (.array (.object "java/io/ObjectStreamField")), .char, (.object "java/util/Comparator"), .byte, .byte]
  resolved := Array.replicate 1451 none
  statics := some 1 }

def pool11 : Array CpInfo := pool [(2, .class_ 4), (1, u "java/lang/Object"), (0, u "<init>"), (0, u "()V"), (35, .class_ 44), (1, u "java/util/Objects"), (0, u "requireNonNull"), (48, u "(Ljava/lang/Object;Ljava/lang/String;)Ljava/lang/Object;")] 89

def k11m0 : Method := { name := "<init>", desc := "()V", sig := { parameters := [], returnType := none }, accessFlags := 2, code := none }
def k11c1 : Code := { maxStack := 3, maxLocals := 2, code := jdk_31_method_11_code, exceptionTable := #[], attributes := #[] }
def k11m1 : Method := { name := "requireNonNull", desc := "(Ljava/lang/Object;Ljava/lang/String;)Ljava/lang/Object;", sig := { parameters := [(.object "java/lang/Object"), (.object "java/lang/String")], returnType := some (.object "java/lang/Object") }, accessFlags := 9, code := some k11c1 }
/-- java/util/Objects -/
def k11 : Class := { plain "java/util/Objects" (some 0) with
  accessFlags := 49
  interfaces := #[]
  cf := some (fileOf pool11 42 #[] #[{ accessFlags := 2, nameIndex := 5, descriptorIndex := 6, attributes := #[] }, { accessFlags := 9, nameIndex := 45, descriptorIndex := 94, attributes := #[] }] 49 2 #[] #[])
  fields := #[]
  methods := #[k11m0, k11m1]
  instanceTypes := #[]
  staticTypes := #[]
  resolved := Array.replicate 184 none
  statics := none }

def pool12 : Array CpInfo := pool [(4, .class_ 6), (1, u "java/lang/Object"), (0, u "<init>"), (0, u "()V"), (5, .class_ 16), (1, u "java/lang/StringLatin1"), (104, u "$assertionsDisabled"), (0, u "Z"), (98, .class_ 223), (1, u "java/lang/StringLatin1$LinesSpliterator"), (57, u "equals"), (0, u "([B[B)Z"), (107, .class_ 391), (0, u "java/lang/StringLatin1$CharsSpliterator")] 3

def k12m0 : Method := { name := "<init>", desc := "()V", sig := { parameters := [], returnType := none }, accessFlags := 0, code := none }
def k12c1 : Code := { maxStack := 3, maxLocals := 3, code := jdk_43_method_13_code, exceptionTable := #[], attributes := #[] }
def k12m1 : Method := { name := "equals", desc := "([B[B)Z", sig := { parameters := [(.array .byte), (.array .byte)], returnType := some .boolean }, accessFlags := 9, code := some k12c1 }
/-- java/lang/StringLatin1 -/
def k12 : Class := { plain "java/lang/StringLatin1" (some 0) with
  accessFlags := 48
  interfaces := #[]
  cf := some (fileOf pool12 14 #[.nestMembers #[390, 221]] #[{ accessFlags := 0, nameIndex := 7, descriptorIndex := 8, attributes := #[] }, { accessFlags := 9, nameIndex := 281, descriptorIndex := 282, attributes := #[] }] 48 4 #[] #[{ accessFlags := 4120, nameIndex := 121, descriptorIndex := 122, attributes := #[] }])
  fields := #[{ name := "$assertionsDisabled", type := .boolean, accessFlags := 4120, slot := 0, constantValue := 0 }]
  methods := #[k12m0, k12m1]
  instanceTypes := #[]
  staticTypes := #[.boolean]
  resolved := Array.replicate 395 none
  statics := none }

def pool13 : Array CpInfo := pool [(6, .class_ 8), (1, u "java/lang/Object"), (0, u "<init>"), (0, u "()V"), (1, .class_ 14), (1, u "java/lang/StringUTF16"), (31, u "$assertionsDisabled"), (0, u "Z"), (13, u "HI_BYTE_SHIFT"), (0, u "I"), (2, u "LO_BYTE_SHIFT"), (49, .methodref 12 116), (0, .nameAndType 117 118), (0, u "compress"), (0, u "([CI[BII)I"), (3, u "([CII)[B"), (138, u "coderFromArrayLen"), (0, u "([BI)B"), (106, .class_ 371), (1, u "java/lang/StringUTF16$LinesSpliterator"), (58, u "MAX_LENGTH"), (196, .class_ 628), (0, u "java/lang/StringUTF16$CodePointsSpliterator"), (0, .class_ 630), (0, u "java/lang/StringUTF16$CharsSpliterator")] 4

def k13m0 : Method := { name := "<init>", desc := "()V", sig := { parameters := [], returnType := none }, accessFlags := 0, code := none }
def k13c1 : Code := { maxStack := 2, maxLocals := 2, code := jdk_52_method_15_code, exceptionTable := #[], attributes := #[] }
def k13m1 : Method := { name := "coderFromArrayLen", desc := "([BI)B", sig := { parameters := [(.array .byte), .int], returnType := some .byte }, accessFlags := 8, code := some k13c1 }
def k13c2 : Code := { maxStack := 5, maxLocals := 6, code := jdk_52_method_16_code, exceptionTable := #[], attributes := #[] }
def k13m2 : Method := { name := "compress", desc := "([CII)[B", sig := { parameters := [(.array .char), .int, .int], returnType := some (.array .byte) }, accessFlags := 9, code := some k13c2 }
def k13c3 : Code := { maxStack := 3, maxLocals := 7, code := jdk_52_method_21_code, exceptionTable := #[], attributes := #[] }
def k13m3 : Method := { name := "compress", desc := "([CI[BII)I", sig := { parameters := [(.array .char), .int, (.array .byte), .int, .int], returnType := some .int }, accessFlags := 9, code := some k13c3 }
/-- java/lang/StringUTF16 -/
def k13 : Class := { plain "java/lang/StringUTF16" (some 0) with
  accessFlags := 48
  interfaces := #[]
  cf := some (fileOf pool13 12 #[.nestMembers #[627, 629, 369]] #[{ accessFlags := 0, nameIndex := 9, descriptorIndex := 10, attributes := #[] }, { accessFlags := 8, nameIndex := 261, descriptorIndex := 262, attributes := #[] }, { accessFlags := 9, nameIndex := 117, descriptorIndex := 122, attributes := #[] }, { accessFlags := 9, nameIndex := 117, descriptorIndex := 118, attributes := #[] }] 48 6 #[] #[{ accessFlags := 26, nameIndex := 61, descriptorIndex := 62, attributes := #[] }, { accessFlags := 26, nameIndex := 65, descriptorIndex := 62, attributes := #[] }, { accessFlags := 24, nameIndex := 430, descriptorIndex := 62, attributes := #[] }, { accessFlags := 4120, nameIndex := 46, descriptorIndex := 47, attributes := #[] }])
  fields := #[{ name := "HI_BYTE_SHIFT", type := .int, accessFlags := 26, slot := 0, constantValue := 0 }, { name := "LO_BYTE_SHIFT", type := .int, accessFlags := 26, slot := 1, constantValue := 0 }, { name := "MAX_LENGTH", type := .int, accessFlags := 24, slot := 2, constantValue := 0 }, { name := "$assertionsDisabled", type := .boolean, accessFlags := 4120, slot := 3, constantValue := 0 }]
  methods := #[k13m0, k13m1, k13m2, k13m3]
  instanceTypes := #[]
  staticTypes := #[.int, .int, .int, .boolean]
  resolved := Array.replicate 635 none
  statics := none }

def pool14 : Array CpInfo := pool [(2, .class_ 4), (1, u "java/lang/Object"), (0, u "<init>"), (0, u "()V"), (17, .class_ 26), (1, u "jdk/internal/util/Preconditions"), (28, .class_ 56), (0, u "jdk/internal/util/Preconditions$4"), (57, .class_ 115), (0, u "jdk/internal/util/Preconditions$1"), (7, u "SIOOBE_FORMATTER"), (0, u "Ljava/util/function/BiFunction;"), (0, .class_ 126), (0, u "jdk/internal/util/Preconditions$2"), (3, u "AIOOBE_FORMATTER"), (0, .class_ 132), (0, u "jdk/internal/util/Preconditions$3"), (3, u "IOOBE_FORMATTER")] 57

def k14m0 : Method := { name := "<init>", desc := "()V", sig := { parameters := [], returnType := none }, accessFlags := 1, code := none }
/-- jdk/internal/util/Preconditions -/
def k14 : Class := { plain "jdk/internal/util/Preconditions" (some 0) with
  accessFlags := 33
  interfaces := #[]
  cf := some (fileOf pool14 24 #[.nestMembers #[55, 131, 125, 114]] #[{ accessFlags := 1, nameIndex := 5, descriptorIndex := 6, attributes := #[] }] 33 2 #[] #[{ accessFlags := 25, nameIndex := 123, descriptorIndex := 124, attributes := #[] }, { accessFlags := 25, nameIndex := 130, descriptorIndex := 124, attributes := #[] }, { accessFlags := 25, nameIndex := 136, descriptorIndex := 124, attributes := #[] }])
  fields := #[{ name := "SIOOBE_FORMATTER", type := (.object "java/util/function/BiFunction"), accessFlags := 25, slot := 0, constantValue := 0 }, { name := "AIOOBE_FORMATTER", type := (.object "java/util/function/BiFunction"), accessFlags := 25, slot := 1, constantValue := 0 }, { name := "IOOBE_FORMATTER", type := (.object "java/util/function/BiFunction"), accessFlags := 25, slot := 2, constantValue := 0 }]
  methods := #[k14m0]
  instanceTypes := #[]
  staticTypes := #[(.object "java/util/function/BiFunction"), (.object "java/util/function/BiFunction"), (.object "java/util/function/BiFunction")]
  resolved := Array.replicate 194 none
  statics := some 2 }

def pool15 : Array CpInfo := pool [(9, u "<init>"), (6, .class_ 18), (1, u "java/lang/Object"), (0, u "()V"), (1, .class_ 23), (1, u "jdk/internal/util/ArraysSupport"), (0, u "LOG2_ARRAY_LONG_INDEX_SCALE"), (0, u "I"), (2, u "U"), (0, u "Ljdk/internal/misc/Unsafe;"), (8, u "BIG_ENDIAN"), (0, u "Z"), (8, u "LOG2_BYTE_BIT_SIZE"), (4, u "LOG2_ARRAY_INT_INDEX_SCALE"), (54, u "JLA"), (0, u "Ljdk/internal/access/JavaLangAccess;"), (11, u "LOG2_ARRAY_BOOLEAN_INDEX_SCALE"), (9, u "LOG2_ARRAY_BYTE_INDEX_SCALE"), (5, u "LOG2_ARRAY_CHAR_INDEX_SCALE"), (5, u "LOG2_ARRAY_SHORT_INDEX_SCALE"), (18, u "LOG2_ARRAY_FLOAT_INDEX_SCALE"), (24, u "LOG2_ARRAY_DOUBLE_INDEX_SCALE"), (89, u "T_BOOLEAN"), (2, u "T_CHAR"), (1, u "T_FLOAT"), (1, u "T_DOUBLE"), (1, u "T_BYTE"), (1, u "T_SHORT"), (1, u "T_INT"), (1, u "T_LONG"), (1, u "SOFT_MAX_ARRAY_LENGTH")] 83

def k15m0 : Method := { name := "<init>", desc := "()V", sig := { parameters := [], returnType := none }, accessFlags := 2, code := none }
/-- jdk/internal/util/ArraysSupport -/
def k15 : Class := { plain "jdk/internal/util/ArraysSupport" (some 0) with
  accessFlags := 33
  interfaces := #[]
  cf := some (fileOf pool15 21 #[] #[{ accessFlags := 2, nameIndex := 9, descriptorIndex := 19, attributes := #[] }] 33 16 #[] #[{ accessFlags := 24, nameIndex := 28, descriptorIndex := 29, attributes := #[] }, { accessFlags := 26, nameIndex := 38, descriptorIndex := 39, attributes := #[] }, { accessFlags := 25, nameIndex := 121, descriptorIndex := 25, attributes := #[] }, { accessFlags := 25, nameIndex := 131, descriptorIndex := 25, attributes := #[] }, { accessFlags := 25, nameIndex := 137, descriptorIndex := 25, attributes := #[] }, { accessFlags := 25, nameIndex := 143, descriptorIndex := 25, attributes := #[] }, { accessFlags := 25, nameIndex := 53, descriptorIndex := 25, attributes := #[] }, { accessFlags := 25, nameIndex := 24, descriptorIndex := 25, attributes := #[] }, { accessFlags := 25, nameIndex := 162, descriptorIndex := 25, attributes := #[] }, { accessFlags := 25, nameIndex := 187, descriptorIndex := 25, attributes := #[] }, { accessFlags := 26, nameIndex := 48, descriptorIndex := 25, attributes := #[] }, { accessFlags := 25, nameIndex := 277, descriptorIndex := 25, attributes := #[] }, { accessFlags := 25, nameIndex := 280, descriptorIndex := 25, attributes := #[] }, { accessFlags := 25, nameIndex := 282, descriptorIndex := 25, attributes := #[] }, { accessFlags := 25, nameIndex := 284, descriptorIndex := 25, attributes := #[] }, { accessFlags := 25, nameIndex := 286, descriptorIndex := 25, attributes := #[] }, { accessFlags := 25, nameIndex := 288, descriptorIndex := 25, attributes := #[] }, { accessFlags := 25, nameIndex := 290, descriptorIndex := 25, attributes := #[] }, { accessFlags := 25, nameIndex := 292, descriptorIndex := 25, attributes := #[] }, { accessFlags := 26, nameIndex := 108, descriptorIndex := 109, attributes := #[] }, { accessFlags := 25, nameIndex := 294, descriptorIndex := 25, attributes := #[] }])
  fields := #[{ name := "U", type := (.object "jdk/internal/misc/Unsafe"), accessFlags := 24, slot := 0, constantValue := 0 }, { name := "BIG_ENDIAN", type := .boolean, accessFlags := 26, slot := 1, constantValue := 0 }, { name := "LOG2_ARRAY_BOOLEAN_INDEX_SCALE", type := .int, accessFlags := 25, slot := 2, constantValue := 0 }, { name := "LOG2_ARRAY_BYTE_INDEX_SCALE", type := .int, accessFlags := 25, slot := 3, constantValue := 0 }, { name := "LOG2_ARRAY_CHAR_INDEX_SCALE", type := .int, accessFlags := 25, slot := 4, constantValue := 0 }, { name := "LOG2_ARRAY_SHORT_INDEX_SCALE", type := .int, accessFlags := 25, slot := 5, constantValue := 0 }, { name := "LOG2_ARRAY_INT_INDEX_SCALE", type := .int, accessFlags := 25, slot := 6, constantValue := 0 }, { name := "LOG2_ARRAY_LONG_INDEX_SCALE", type := .int, accessFlags := 25, slot := 7, constantValue := 0 }, { name := "LOG2_ARRAY_FLOAT_INDEX_SCALE", type := .int, accessFlags := 25, slot := 8, constantValue := 0 }, { name := "LOG2_ARRAY_DOUBLE_INDEX_SCALE", type := .int, accessFlags := 25, slot := 9, constantValue := 0 }, { name := "LOG2_BYTE_BIT_SIZE", type := .int, accessFlags := 26, slot := 10, constantValue := 0 }, { name := "T_BOOLEAN", type := .int, accessFlags := 25, slot := 11, constantValue := 0 }, { name := "T_CHAR", type := .int, accessFlags := 25, slot := 12, constantValue := 0 }, { name := "T_FLOAT", type := .int, accessFlags := 25, slot := 13, constantValue := 0 }, { name := "T_DOUBLE", type := .int, accessFlags := 25, slot := 14, constantValue := 0 }, { name := "T_BYTE", type := .int, accessFlags := 25, slot := 15, constantValue := 0 }, { name := "T_SHORT", type := .int, accessFlags := 25, slot := 16, constantValue := 0 }, { name := "T_INT", type := .int, accessFlags := 25, slot := 17, constantValue := 0 }, { name := "T_LONG", type := .int, accessFlags := 25, slot := 18, constantValue := 0 }, { name := "JLA", type := (.object "jdk/internal/access/JavaLangAccess"), accessFlags := 26, slot := 19, constantValue := 0 }, { name := "SOFT_MAX_ARRAY_LENGTH", type := .int, accessFlags := 25, slot := 20, constantValue := 0 }]
  methods := #[k15m0]
  instanceTypes := #[]
  staticTypes := #[(.object "jdk/internal/misc/Unsafe"), .boolean, .int, .int, .int, .int, .int, .int, .int, .int, .int, .int, .int, .int, .int, .int, .int, .int, .int, (.object "jdk/internal/access/JavaLangAccess"), .int]
  resolved := Array.replicate 378 none
  statics := none }

def pool16 : Array CpInfo := pool [(1, u "java/lang/Cloneable"), (0, .class_ 1), (0, u "java/lang/Object"), (0, .class_ 3)] 3

/-- java/lang/Cloneable -/
def k16 : Class := { plain "java/lang/Cloneable" (some 0) with
  accessFlags := 1537
  interfaces := #[]
  cf := some (fileOf pool16 2 #[] #[] 1537 4 #[] #[])
  fields := #[]
  methods := #[]
  instanceTypes := #[]
  staticTypes := #[]
  resolved := Array.replicate 8 none
  statics := none }

/-- the primitive byte -/
def k17 : Class := { plain "byte" none with kind := .primitive 'B', accessFlags := 0x411 }
/-- [B -/
def k18 : Class := { plain "[B" (some 0) with kind := .array 17 .byte, interfaces := #[16, 5], accessFlags := 1041 }

/-- the primitive char -/
def k19 : Class := { plain "char" none with kind := .primitive 'C', accessFlags := 0x411 }
/-- [C -/
def k20 : Class := { plain "[C" (some 0) with kind := .array 19 .char, interfaces := #[16, 5], accessFlags := 1041 }

/-- the primitive int -/
def k21 : Class := { plain "int" none with kind := .primitive 'I', accessFlags := 0x411 }
/-- [I -/
def k22 : Class := { plain "[I" (some 0) with kind := .array 21 .int, interfaces := #[16, 5], accessFlags := 1041 }

def heap : Heap := #[{ cls := 7, slots := #[.ref 3, .ref 4, .ref 5, .null], vm := .statics 7 },
  { cls := 10, slots := #[.long 0, .int 1, .null, .int 0, .null, .int 0, .int 0], vm := .statics 10 },
  { cls := 14, slots := #[.null, .null, .null], vm := .statics 14 },
  { cls := 7, slots := #[.null, .int 0, .int 0], vm := .none },
  { cls := 7, slots := #[.null, .int 1, .int 0], vm := .none },
  { cls := 7, slots := #[.null, .int 2, .int 0], vm := .none }]
def classes : Array Class := #[k0, k1, k2, k3, k4, k5, k6, k7, k8, k9, k10, k11, k12, k13, k14, k15, k16, k17, k18, k19, k20, k21, k22]
def interned : List (Array UInt16 × Addr) := []
def slotsUsed : Nat := 23
def theMethod : MethodId := ⟨1, 4⟩
def args0 : Array Value := #[.int 0, .int 0, .int 0, .int 0, .int 0, .int 0]
def aboutOver (below : List Frame) : State where
  vm := { classes := classes, interned := interned.toArray }
  heap := heap
  slotsUsed := slotsUsed
  threads := #[{ frames := .invoking theMethod args0 :: below }]
def below0 : List Frame := [.native { method := ⟨0, 0⟩, args := #[] }]
def about1 : State := aboutOver below0
def p0 : Program := .bare "" "" ""
def e0 : Env := launch0.env 0 0 0
theorem w_frames : about1.frames = Frame.invoking theMethod args0 :: below0 := rfl
set_option maxRecDepth 65536 in
theorem w_args : argsFit about1.vm theMethod args0 = true := by decide +kernel
set_option maxRecDepth 65536 in
theorem w_heap : heapFits about1 = true := by decide +kernel
set_option maxRecDepth 65536 in
theorem w_runnable : about1.curStatus? = some .runnable := by decide +kernel
set_option maxRecDepth 65536 in
theorem w_alone : about1.alone = true := by decide +kernel
set_option maxRecDepth 65536 in
theorem w_named : about1.methodNamed? x = some theMethod := by decide +kernel
set_option maxRecDepth 65536 in
theorem w_hears : about1.hears theMethod below0 = true := by decide +kernel
set_option maxRecDepth 65536 in
theorem w_ripe : about1.ripe theMethod args0 below0 = true := by decide +kernel
theorem w_running : about1.status = .running := rfl
set_option maxRecDepth 65536 in
theorem w_room : about1.hasRoom e0.platform room_1 = true :=
  launch0.hasRoom_least _ room_1 (by decide +kernel) (by decide +kernel) (by decide +kernel) (by decide +kernel) (by decide +kernel) (by decide +kernel)
theorem allAtoms_all (ts : List Jvm.Cond) (a : Array Jvm.Value) (st : Jvm.State) : (allAtoms ts).before a st = ts.all (fun c => c.before a st) := by
  induction ts with
  | nil => rfl
  | cons c t ih =>
    show (Jvm.Cond.and c (allAtoms t)).before a st = _
    rw [Jvm.Cond.before_and, ih, List.all_cons]
def words1 : List Jvm.Cond := Jvm.Cond.code x code maxLocals ret :: tables_1
/-- a 'code' word, met by the world's own term for the bytes: nothing is compared byte by byte -/
theorem code_word {y : MethodName} {bytes : ByteArray} {mx : Nat} {rt : Option FieldType} {a : Array Value} {s : State} {m : MethodId} {meth : Method} {c : Code} (h1 : s.methodNamed? y = some m) (h2 : s.vm.method? m = some meth) (h3 : meth.code = some c) (h4 : c.code = bytes)
    (h5 : (c.maxLocals == mx && c.exceptionTable.isEmpty && decide (c.maxStack ≤ mostOperands) && decide (meth.sig.returnType = rt) && !meth.locks && decide (parseMethodDescriptor y.desc = some meth.sig)) = true) : (Jvm.Cond.code y bytes mx rt).before a s = true := by
  simp only [Bool.and_eq_true, beq_iff_eq, Bool.not_eq_true', decide_eq_true_eq] at h5
  obtain ⟨⟨⟨⟨⟨g1, g2⟩, g3⟩, g4⟩, g5⟩, g6⟩ := h5
  simp [Cond.before, Cond.holds, Cond.value, h1, h2, h3, h4, g1, g2, g3, g4, g5, g6]
def isCode : Jvm.Cond → Bool
  | .code _ _ _ _ => true
  | _ => false
theorem all_split {L : List Jvm.Cond} {P : Jvm.Cond → Bool} (h1 : L.all (fun c => isCode c || P c) = true) (h2 : ∀ c ∈ L.filter isCode, P c = true) : L.all P = true := by
  refine List.all_eq_true.mpr fun c hc => ?_
  have h := List.all_eq_true.mp h1 c hc
  rcases Bool.eq_false_or_eq_true (isCode c) with hi | hi
  · exact h2 c (List.mem_filter.mpr ⟨hc, hi⟩)
  · simpa [hi] using h
set_option maxRecDepth 65536 in
theorem w_c0 : (Jvm.Cond.code x code maxLocals ret).before args0 about1 = true := code_word (m := ⟨1, 4⟩) (meth := k1m4) (c := k1c4) (by decide +kernel) rfl rfl rfl (by decide +kernel)
set_option maxRecDepth 65536 in
theorem w_c1 : (Jvm.Cond.code ({ cls := "com/example/cato/cato/message/SegmentEqualsPinLaw", name := "kind", desc := "(I)Lcom/example/cato/cato/message/MessageTemplate$Segment$Kind;" } : Jvm.MethodName) method_2_code (1 : Nat) (Option.some (Jvm.ClassFile.FieldType.object "com/example/cato/cato/message/MessageTemplate$Segment$Kind"))).before args0 about1 = true := code_word (m := ⟨1, 1⟩) (meth := k1m1) (c := k1c1) (by decide +kernel) rfl rfl rfl (by decide +kernel)
set_option maxRecDepth 65536 in
theorem w_c2 : (Jvm.Cond.code ({ cls := "com/example/cato/cato/message/SegmentEqualsPinLaw", name := "str", desc := "(I)Ljava/lang/String;" } : Jvm.MethodName) method_3_code (5 : Nat) (Option.some (Jvm.ClassFile.FieldType.object "java/lang/String"))).before args0 about1 = true := code_word (m := ⟨1, 2⟩) (meth := k1m2) (c := k1c2) (by decide +kernel) rfl rfl rfl (by decide +kernel)
set_option maxRecDepth 65536 in
theorem w_c3 : (Jvm.Cond.code ({ cls := "java/lang/String", name := "<init>", desc := "([C)V" } : Jvm.MethodName) jdk_42_method_3_code (2 : Nat) (Option.none : Option Jvm.ClassFile.FieldType)).before args0 about1 = true := code_word (m := ⟨10, 1⟩) (meth := k10m1) (c := k10c1) (by decide +kernel) rfl rfl rfl (by decide +kernel)
set_option maxRecDepth 65536 in
theorem w_c4 : (Jvm.Cond.code ({ cls := "java/lang/String", name := "<init>", desc := "([CIILjava/lang/Void;)V" } : Jvm.MethodName) jdk_42_method_149_code (6 : Nat) (Option.none : Option Jvm.ClassFile.FieldType)).before args0 about1 = true := code_word (m := ⟨10, 3⟩) (meth := k10m3) (c := k10c3) (by decide +kernel) rfl rfl rfl (by decide +kernel)
set_option maxRecDepth 65536 in
theorem w_c5 : (Jvm.Cond.code ({ cls := "java/lang/Object", name := "<init>", desc := "()V" } : Jvm.MethodName) object_method_1_code (1 : Nat) (Option.none : Option Jvm.ClassFile.FieldType)).before args0 about1 = true := code_word (m := ⟨0, 0⟩) (meth := k0m0) (c := k0c0) (by decide +kernel) rfl rfl rfl (by decide +kernel)
set_option maxRecDepth 65536 in
theorem w_c6 : (Jvm.Cond.code ({ cls := "com/example/cato/cato/message/MessageTemplate$Segment", name := "<init>", desc := "(Lcom/example/cato/cato/message/MessageTemplate$Segment$Kind;Ljava/lang/String;Ljava/lang/String;)V" } : Jvm.MethodName) prog_6_method_1_code (4 : Nat) (Option.none : Option Jvm.ClassFile.FieldType)).before args0 about1 = true := code_word (m := ⟨2, 0⟩) (meth := k2m0) (c := k2c0) (by decide +kernel) rfl rfl rfl (by decide +kernel)
set_option maxRecDepth 65536 in
theorem w_c7 : (Jvm.Cond.code ({ cls := "java/util/Objects", name := "requireNonNull", desc := "(Ljava/lang/Object;Ljava/lang/String;)Ljava/lang/Object;" } : Jvm.MethodName) jdk_31_method_11_code (2 : Nat) (Option.some (Jvm.ClassFile.FieldType.object "java/lang/Object"))).before args0 about1 = true := code_word (m := ⟨11, 1⟩) (meth := k11m1) (c := k11c1) (by decide +kernel) rfl rfl rfl (by decide +kernel)
set_option maxRecDepth 65536 in
theorem w_c8 : (Jvm.Cond.code ({ cls := "com/example/cato/cato/message/SegmentEqualsPinLaw", name := "norm", desc := "(I)I" } : Jvm.MethodName) method_4_code (3 : Nat) (Option.some Jvm.ClassFile.FieldType.int)).before args0 about1 = true := code_word (m := ⟨1, 3⟩) (meth := k1m3) (c := k1c3) (by decide +kernel) rfl rfl rfl (by decide +kernel)
set_option maxRecDepth 65536 in
theorem w_c9 : (Jvm.Cond.code ({ cls := "com/example/cato/cato/message/MessageTemplate$Segment", name := "equals", desc := "(Ljava/lang/Object;)Z" } : Jvm.MethodName) prog_6_method_5_code (3 : Nat) (Option.some Jvm.ClassFile.FieldType.boolean)).before args0 about1 = true := code_word (m := ⟨2, 1⟩) (meth := k2m1) (c := k2c1) (by decide +kernel) rfl rfl rfl (by decide +kernel)
set_option maxRecDepth 65536 in
theorem w_c10 : (Jvm.Cond.code ({ cls := "java/lang/String", name := "equals", desc := "(Ljava/lang/Object;)Z" } : Jvm.MethodName) jdk_42_method_66_code (3 : Nat) (Option.some Jvm.ClassFile.FieldType.boolean)).before args0 about1 = true := code_word (m := ⟨10, 2⟩) (meth := k10m2) (c := k10c2) (by decide +kernel) rfl rfl rfl (by decide +kernel)
set_option maxRecDepth 65536 in
theorem w_c11 : (Jvm.Cond.code ({ cls := "java/lang/StringLatin1", name := "equals", desc := "([B[B)Z" } : Jvm.MethodName) jdk_43_method_13_code (3 : Nat) (Option.some Jvm.ClassFile.FieldType.boolean)).before args0 about1 = true := code_word (m := ⟨12, 1⟩) (meth := k12m1) (c := k12c1) (by decide +kernel) rfl rfl rfl (by decide +kernel)
set_option maxRecDepth 65536 in
theorem w_c12 : (Jvm.Cond.code ({ cls := "java/lang/StringUTF16", name := "compress", desc := "([CII)[B" } : Jvm.MethodName) jdk_52_method_16_code (6 : Nat) (Option.some (Jvm.ClassFile.FieldType.array Jvm.ClassFile.FieldType.byte))).before args0 about1 = true := code_word (m := ⟨13, 2⟩) (meth := k13m2) (c := k13c2) (by decide +kernel) rfl rfl rfl (by decide +kernel)
set_option maxRecDepth 65536 in
theorem w_c13 : (Jvm.Cond.code ({ cls := "java/lang/StringUTF16", name := "compress", desc := "([CI[BII)I" } : Jvm.MethodName) jdk_52_method_21_code (7 : Nat) (Option.some Jvm.ClassFile.FieldType.int)).before args0 about1 = true := code_word (m := ⟨13, 3⟩) (meth := k13m3) (c := k13c3) (by decide +kernel) rfl rfl rfl (by decide +kernel)
set_option maxRecDepth 65536 in
theorem w_c14 : (Jvm.Cond.code ({ cls := "java/lang/StringUTF16", name := "coderFromArrayLen", desc := "([BI)B" } : Jvm.MethodName) jdk_52_method_15_code (2 : Nat) (Option.some Jvm.ClassFile.FieldType.byte)).before args0 about1 = true := code_word (m := ⟨13, 1⟩) (meth := k13m1) (c := k13c1) (by decide +kernel) rfl rfl rfl (by decide +kernel)
def codes1 : List Jvm.Cond := [Jvm.Cond.code x code maxLocals ret, Jvm.Cond.code ({ cls := "com/example/cato/cato/message/SegmentEqualsPinLaw", name := "kind", desc := "(I)Lcom/example/cato/cato/message/MessageTemplate$Segment$Kind;" } : Jvm.MethodName) method_2_code (1 : Nat) (Option.some (Jvm.ClassFile.FieldType.object "com/example/cato/cato/message/MessageTemplate$Segment$Kind")), Jvm.Cond.code ({ cls := "com/example/cato/cato/message/SegmentEqualsPinLaw", name := "str", desc := "(I)Ljava/lang/String;" } : Jvm.MethodName) method_3_code (5 : Nat) (Option.some (Jvm.ClassFile.FieldType.object "java/lang/String")), Jvm.Cond.code ({ cls := "java/lang/String", name := "<init>", desc := "([C)V" } : Jvm.MethodName) jdk_42_method_3_code (2 : Nat) (Option.none : Option Jvm.ClassFile.FieldType), Jvm.Cond.code ({ cls := "java/lang/String", name := "<init>", desc := "([CIILjava/lang/Void;)V" } : Jvm.MethodName) jdk_42_method_149_code (6 : Nat) (Option.none : Option Jvm.ClassFile.FieldType), Jvm.Cond.code ({ cls := "java/lang/Object", name := "<init>", desc := "()V" } : Jvm.MethodName) object_method_1_code (1 : Nat) (Option.none : Option Jvm.ClassFile.FieldType), Jvm.Cond.code ({ cls := "com/example/cato/cato/message/MessageTemplate$Segment", name := "<init>", desc := "(Lcom/example/cato/cato/message/MessageTemplate$Segment$Kind;Ljava/lang/String;Ljava/lang/String;)V" } : Jvm.MethodName) prog_6_method_1_code (4 : Nat) (Option.none : Option Jvm.ClassFile.FieldType), Jvm.Cond.code ({ cls := "java/util/Objects", name := "requireNonNull", desc := "(Ljava/lang/Object;Ljava/lang/String;)Ljava/lang/Object;" } : Jvm.MethodName) jdk_31_method_11_code (2 : Nat) (Option.some (Jvm.ClassFile.FieldType.object "java/lang/Object")), Jvm.Cond.code ({ cls := "com/example/cato/cato/message/SegmentEqualsPinLaw", name := "norm", desc := "(I)I" } : Jvm.MethodName) method_4_code (3 : Nat) (Option.some Jvm.ClassFile.FieldType.int), Jvm.Cond.code ({ cls := "com/example/cato/cato/message/MessageTemplate$Segment", name := "equals", desc := "(Ljava/lang/Object;)Z" } : Jvm.MethodName) prog_6_method_5_code (3 : Nat) (Option.some Jvm.ClassFile.FieldType.boolean), Jvm.Cond.code ({ cls := "java/lang/String", name := "equals", desc := "(Ljava/lang/Object;)Z" } : Jvm.MethodName) jdk_42_method_66_code (3 : Nat) (Option.some Jvm.ClassFile.FieldType.boolean), Jvm.Cond.code ({ cls := "java/lang/StringLatin1", name := "equals", desc := "([B[B)Z" } : Jvm.MethodName) jdk_43_method_13_code (3 : Nat) (Option.some Jvm.ClassFile.FieldType.boolean), Jvm.Cond.code ({ cls := "java/lang/StringUTF16", name := "compress", desc := "([CII)[B" } : Jvm.MethodName) jdk_52_method_16_code (6 : Nat) (Option.some (Jvm.ClassFile.FieldType.array Jvm.ClassFile.FieldType.byte)), Jvm.Cond.code ({ cls := "java/lang/StringUTF16", name := "compress", desc := "([CI[BII)I" } : Jvm.MethodName) jdk_52_method_21_code (7 : Nat) (Option.some Jvm.ClassFile.FieldType.int), Jvm.Cond.code ({ cls := "java/lang/StringUTF16", name := "coderFromArrayLen", desc := "([BI)B" } : Jvm.MethodName) jdk_52_method_15_code (2 : Nat) (Option.some Jvm.ClassFile.FieldType.byte)]
set_option maxRecDepth 65536 in
theorem codes_eq : words1.filter isCode = codes1 := rfl
theorem w_codes : ∀ c ∈ words1.filter isCode, c.before args0 about1 = true := by
  rw [codes_eq]
  intro c hc
  simp only [codes1, List.mem_cons, List.not_mem_nil, or_false] at hc
  rcases hc with rfl | rfl | rfl | rfl | rfl | rfl | rfl | rfl | rfl | rfl | rfl | rfl | rfl | rfl | rfl
  · exact w_c0
  · exact w_c1
  · exact w_c2
  · exact w_c3
  · exact w_c4
  · exact w_c5
  · exact w_c6
  · exact w_c7
  · exact w_c8
  · exact w_c9
  · exact w_c10
  · exact w_c11
  · exact w_c12
  · exact w_c13
  · exact w_c14
set_option maxRecDepth 65536 in
theorem w_t1 : (words1.take 24).all (fun c => isCode c || c.before args0 about1) = true := by decide +kernel
set_option maxRecDepth 65536 in
theorem w_t2 : ((words1.drop 24).take 24).all (fun c => isCode c || c.before args0 about1) = true := by decide +kernel
set_option maxRecDepth 65536 in
theorem w_t3 : (((words1.drop 24).drop 24).take 24).all (fun c => isCode c || c.before args0 about1) = true := by decide +kernel
set_option maxRecDepth 65536 in
theorem w_t4 : (((words1.drop 24).drop 24).drop 24).all (fun c => isCode c || c.before args0 about1) = true := by decide +kernel
theorem w_tables : (allAtoms (Jvm.Cond.code x code maxLocals ret :: tables_1)).before args0 about1 = true := by
  rw [allAtoms_all]
  show words1.all (fun c => c.before args0 about1) = true
  refine all_split ?_ w_codes
  rw [← List.take_append_drop 24 words1, List.all_append, w_t1, ← List.take_append_drop 24 (words1.drop 24), List.all_append, w_t2, ← List.take_append_drop 24 ((words1.drop 24).drop 24), List.all_append, w_t3, w_t4]
  rfl
set_option maxRecDepth 65536 in
theorem w_rest : rest_1_c.before args0 about1 = true := by decide +kernel
set_option maxRecDepth 65536 in
theorem w_case : (Jvm.Cond.and given_1 narrow_1).before args0 about1 = true := by decide +kernel
set_option maxRecDepth 65536 in
theorem w_consts : constsHeld consts_1 about1 := Jvm.Lit.constsHeldB_iff.mp (by decide +kernel)
theorem w_applies : (headSpec (Jvm.Cond.code x code maxLocals ret :: tables_1) room_1).applies x e0.platform about1 = true :=
  (Spec.applies_iff w_frames).mpr ⟨w_running, w_runnable, w_alone, w_named, w_hears, w_ripe, w_room, w_tables⟩
theorem atStart : AtStart classFile x code maxLocals ret World_1 tables_1 room_1 Calls_1 rest_1 Pre_1 launch0 p0 e0 about1 theMethod args0 below0 :=
  ⟨lists_1, trivial, launch0.admits_env _ _ _, launch0.least_env, fairChoices_fair.cas, fairChoices_fair.clock, w_frames, w_args, w_heap, w_applies, ⟨w_consts, trivial⟩, w_rest, w_case⟩
end start1
theorem witness_1 : WitnessClaimed_1 := ⟨start1.p0, start1.e0, start1.about1, start1.theMethod, start1.args0, start1.below0, start1.atStart⟩
end Jvm.Pilot.@@N@@
