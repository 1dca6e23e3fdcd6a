import JvmDerived
import JvmDerived.Pilot.@@N@@Statement
import JvmDerived.Pilot.@@N@@Code
set_option linter.unusedVariables false
set_option linter.unusedSimpArgs false
namespace Jvm.OwnGo
open Sem ClassFile Op Lib Jvm.Stand Jvm.Free Jvm.LawKit Jvm.RoadKit Bundle
section OwnFacts
variable {Z : State} {h h' : Heap} {a b t : Addr} {C n d : String} {v w : Value} {ws : List Addr} {bo : Bool} {ka kb : ClassId} {ty : FieldType} {z : Int32} {vs : List Value} {dv : Value} {cs : List Int32} {sl : Nat}
theorem Sta_keep (F : Sta Z h C n d v) (K : Keep h h' []) : Sta Z h' C n d v := by
  obtain ⟨cf, i, k, f, st, cell, h1, h2, h3, h4, h5, h6, h7⟩ := F
  exact ⟨cf, i, k, f, st, cell, h1, h2, h3, h4, K.2.1 _ _ h5 nin0, h6, h7⟩
theorem Ins_keep (F : Ins Z h a C bo) (K : Keep h h' ws) : Ins Z h' a C bo := by
  obtain ⟨cell, cT, h1, h2, h3⟩ := F
  obtain ⟨c', q, r1, r2, r3⟩ := K.2.2 a cell h1
  exact ⟨c', cT, q, h2, by rw [r1, r2]; exact h3⟩
theorem own_sto {y : Addr} (F : Arv Z h a ka ty z vs dv) (O : Ovr Z ka C) (I : Ins Z h y C true) : Sto Z h a (.ref y) := by
  obtain ⟨cl, A, q, -⟩ := F
  exact Sto.ofV A q O I
theorem Sta_keepE (F : Sta Z h C n d v) (K : Keep h h' ws) (q : ∀ x ∈ ws, ∃ Cx, Exa Z h x Cx) : Sta Z h' C n d v := by
  obtain ⟨cf, i, k, f, st, cell, h1, h2, h3, h4, h5, h6, h7⟩ := F
  refine ⟨cf, i, k, f, st, cell, h1, h2, h3, h4, K.2.1 _ _ h5 (fun hm => ?_), h6, h7⟩
  obtain ⟨Cx, c1, k1, e1, -, -, e4, -⟩ := q _ hm
  cases e1.symm.trans h5
  rw [e4] at h6; cases h6
theorem own_ne_arv {a0 : Array Value} {nk : Nat} (F : Exa Z h a C) (wi : (Cond.instantiable C nk).before a0 Z = true) (G : Arv Z h b ka ty z vs dv) : a ≠ b := by
  obtain ⟨cl, A, -⟩ := G
  exact ne_arr F wi A
/-- the String at a: one byte a char, its array at t -/
def Str (Z : State) (h : Heap) (a t : Addr) (kb : ClassId) (cs : List Int32) : Prop :=
  Exa Z h a "java/lang/String" ∧ Fld Z h a "java/lang/String" "coder" "B" (.int 0) ∧ Fld Z h a "java/lang/String" "value" "[B" (.ref t) ∧ Arv Z h t kb .byte (Int32.ofNat cs.length) ((cs.map fun c => c.toInt8.toInt32).map Value.int) (.int 0) ∧ cs.length ≤ 4000 ∧ ∀ c ∈ cs, ¬ c < 0 ∧ ¬ (255 : Int32) < c
theorem Str.keep (S : Str Z h a t kb cs) (K : Keep h h' ws) (q : a ∉ ws) (r : t ∉ ws) : Str Z h' a t kb cs := ⟨S.1.keep K, S.2.1.keep K q, S.2.2.1.keep K q, S.2.2.2.1.keep K r, S.2.2.2.2⟩
theorem Str.ext (S : Str Z h a t kb cs) (E : Ext h h') : Str Z h' a t kb cs := ⟨S.1.ext E, S.2.1.ext E, S.2.2.1.ext E, S.2.2.2.1.ext E, S.2.2.2.2⟩
theorem Str.other (S : Str Z h a t kb cs) (W : Wr h h' b sl v) (q : a ≠ b) (r : t ≠ b) : Str Z h' a t kb cs := ⟨S.1.wr W, S.2.1.other W (Or.inl q), S.2.2.1.other W (Or.inl q), S.2.2.2.1.other W r, S.2.2.2.2⟩
theorem Str.tlt (S : Str Z h a t kb cs) : t < h.size := S.2.2.2.1.lt
/-- C's chain of superclasses does not meet K, a class that can be made -/
theorem own_root {a0 : Array Value} {O K : String} {nk : Nat} (w : (Cond.noSuperclass O).before a0 Z = true) (wk : (Cond.instantiable K nk).before a0 Z = true) (hn : O ≠ K) : NS Z O K := by
  obtain ⟨c, k, h1, h2, h3, -, -⟩ := Cond.noSuperclass_spec w
  obtain ⟨t, kt, g1, -⟩ := Cond.instantiable_spec wk
  have ne := ids_ne h1 g1 hn
  refine ⟨c, t, h1, g1, fun fuel => ?_⟩
  cases fuel with
  | zero => rfl
  | succ f => simp [Vm.isSubclassAux, ne, h2, h3]
theorem own_no {a0 : Array Value} {C S K : String} {nk : Nat} (w : (Cond.superclass C S).before a0 Z = true) (wk : (Cond.instantiable K nk).before a0 Z = true) (n : NS Z C K) (hn : C ≠ K) : ∃ c t, Z.vm.findClass C = some c ∧ Z.vm.findClass K = some t ∧ Z.vm.assignable c t = false := by
  obtain ⟨c, t, h0, g0, n3⟩ := n
  obtain ⟨p, k, kp, h1, h2, h3, h4, h5, -, h7⟩ := Cond.superclass_spec h0 w
  obtain ⟨t', k', g1, g2, g3, g4, -⟩ := Cond.instantiable_spec wk
  cases g0.symm.trans g1
  have g5 : k'.isInterface = false := by
    cases hi : k'.isInterface <;> simp [hi] at g4 ⊢
  have ne := ids_ne h0 g0 hn
  refine ⟨c, t, h0, g0, ?_⟩
  show Z.vm.assignableAux (255 + 1) c t = false
  simp [Vm.assignableAux, ne, h2, g2, h5, g3, g5, Vm.isSubclass, n3]
/-- the boxes that stood before -/
def Box (Z : State) (h : Heap) (a : Addr) (K d : String) (z : Int32) (val : Int32 → Value) : Prop :=
  ∃ c : Cell, Arr Z h a c (.object K) ∧ c.slots.size = z.toNatClampNeg ∧ ¬ z < 0 ∧ ∀ j : Int32, ¬ (j < 0 ∨ c.slots.size ≤ j.toNatClampNeg) → ∃ b : Addr, c.slots[j.toNatClampNeg]? = some (.ref b) ∧ Exa Z h b K ∧ Fld Z h b K "value" d (val j)
theorem Box.start {K : String} {val : Int32 → Value} {c : Cell} (F : Bxs Z a c K d z val) : Box Z Z.heap a K d z val := ⟨c, F.1, F.2.1, F.2.2.1, F.2.2.2⟩
theorem Box.keep {K : String} {val : Int32 → Value} (F : Box Z h a K d z val) (Kp : Keep h h' []) : Box Z h' a K d z val := by
  obtain ⟨c, f1, f2, f3, f4⟩ := F
  refine ⟨c, ⟨Kp.2.1 _ _ f1.1 nin0, f1.2⟩, f2, f3, fun j hj => ?_⟩
  obtain ⟨b, q1, q2, q3⟩ := f4 j hj
  exact ⟨b, q1, q2.keep Kp, q3.keep Kp nin0⟩
end OwnFacts
end Jvm.OwnGo
namespace Jvm.OwnGo
open Sem ClassFile Op Lib Jvm.Stand Jvm.Free Jvm.LawKit Jvm.RoadKit Bundle
section OwnGo
variable {Z : State} {a0 : Array Value} {tb : List Jvm.Cond} {p : Program} {l : Launch} {e : Env} {R : Room} {s : State} {m : MethodId} {args : Array Value} {below : List Frame} {meth : Method} {c : Code} {own mname : String} {bytes : ByteArray} {maxL : Nat} {ret : Option FieldType} {n0 : Nat} {Q : Option Value → Heap → List Addr → Prop} {Q2 : Option Value → Heap → Prop} {fs : List Addr} {h : Heap} {k n : Nat} {pc : Nat} {Ls : Array Slot} {St : List Value} {EL : List (String × Nat)}
/-- what is fixed in the walk of one body -/
def Cx (Z : State) (a0 : Array Value) (tb : List Jvm.Cond) (p : Program) (s : State) (m : MethodId) (meth : Method) (c : Code) (own mname : String) (bytes : ByteArray) (maxL : Nat) (ret : Option FieldType) (n0 : Nat) : Prop :=
  p.tables.exec = Jvm.exec ∧ Z.Warmed39 s.vm ∧ s.vm.findClass own = some m.cls ∧ c.code = bytes ∧ c.maxLocals = maxL ∧ meth.sig.returnType = ret ∧ meth.locks = false ∧ (∀ d ∈ tb, d.before a0 Z = true) ∧ meth.name = mname ∧ n0 ≤ s.heap.size
theorem Cx.hx (C : Cx Z a0 tb p s m meth c own mname bytes maxL ret n0) : p.tables.exec = Jvm.exec := C.1
theorem Cx.hZ (C : Cx Z a0 tb p s m meth c own mname bytes maxL ret n0) : Z.Warmed39 s.vm := C.2.1
theorem Cx.hown (C : Cx Z a0 tb p s m meth c own mname bytes maxL ret n0) : s.vm.findClass own = some m.cls := C.2.2.1
theorem Cx.hby (C : Cx Z a0 tb p s m meth c own mname bytes maxL ret n0) : c.code = bytes := C.2.2.2.1
theorem Cx.hml (C : Cx Z a0 tb p s m meth c own mname bytes maxL ret n0) : c.maxLocals = maxL := C.2.2.2.2.1
theorem Cx.hret (C : Cx Z a0 tb p s m meth c own mname bytes maxL ret n0) : meth.sig.returnType = ret := C.2.2.2.2.2.1
theorem Cx.hlk (C : Cx Z a0 tb p s m meth c own mname bytes maxL ret n0) : meth.locks = false := C.2.2.2.2.2.2.1
theorem Cx.hw (C : Cx Z a0 tb p s m meth c own mname bytes maxL ret n0) {d : Jvm.Cond} (hd : d ∈ tb) : d.before a0 Z = true := C.2.2.2.2.2.2.2.1 d hd
theorem Cx.hnm (C : Cx Z a0 tb p s m meth c own mname bytes maxL ret n0) : meth.name = mname := C.2.2.2.2.2.2.2.2.1
theorem Cx.hn0 (C : Cx Z a0 tb p s m meth c own mname bytes maxL ret n0) : n0 ≤ s.heap.size := C.2.2.2.2.2.2.2.2.2
theorem Cx.hownAt (C : Cx Z a0 tb p s m meth c own mname bytes maxL ret n0) {vm0 : Vm} (hZ : Z.Warmed39 vm0) : vm0.findClass own = some m.cls := by
  rw [hZ.alike.findClass, ← C.hZ.alike.findClass]; exact C.hown
/-- what holds of the tables and the heap all along: the literals' invariant, and which new cells may be written -/
def Inv (Z : State) (EL : List (String × Nat)) (s : State) (vm0 : Vm) (n0 : Nat) (fs : List Addr) (h : Heap) : Prop :=
  n0 ≤ h.size ∧ (∀ x ∈ fs, n0 ≤ x ∧ x < h.size ∧ Safe Z EL vm0 h x) ∧ (∃ k0, s.Since vm0 k0 ∧ k0 ≤ h.size) ∧ Z.Warmed39 vm0 ∧ CHv Z EL vm0 h ∧ CHr Z EL s.vm s.heap vm0 h
theorem Inv.hZ {vm0 : Vm} (I : Inv Z EL s vm0 n0 fs h) : Z.Warmed39 vm0 := I.2.2.2.1
theorem Inv.ext {vm0 : Vm} {h' : Heap} (I : Inv Z EL s vm0 n0 fs h) (E : Ext h h') : Inv Z EL s vm0 n0 fs h' := by
  obtain ⟨i1, i2, ⟨k0, i3, i4⟩, i5, i6, i7⟩ := I
  exact ⟨Nat.le_trans i1 E.1, fun x hx => ⟨(i2 x hx).1, Nat.lt_of_lt_of_le (i2 x hx).2.1 E.1, (i2 x hx).2.2.ext E i6⟩, ⟨k0, i3, Nat.le_trans i4 E.1⟩, i5, i6.ext E, i7.trans (CHr.ext E i6)⟩
theorem Inv.new {vm0 : Vm} {h' : Heap} (I : Inv Z EL s vm0 n0 fs h) (E : Ext h h') (q : h.size < h'.size) : Inv Z EL s vm0 n0 (h.size :: fs) h' := by
  have J := I.ext E
  refine ⟨J.1, fun x hx => ?_, J.2.2⟩
  rcases List.mem_cons.mp hx with rfl | hx
  · exact ⟨I.1, q, (Safe.new (Nat.le_refl _)).ext E I.2.2.2.2.1⟩
  · exact J.2.1 x hx
theorem Inv.wr {vm0 : Vm} {h' : Heap} {a : Addr} {sl : Nat} {v : Value} (I : Inv Z EL s vm0 n0 fs h) (W : Wr h h' a sl v) (ha : a ∈ fs) : Inv Z EL s vm0 n0 fs h' := by
  obtain ⟨i1, i2, ⟨k0, i3, i4⟩, i5, i6, i7⟩ := I
  have hs := W.size
  have S := (i2 a ha).2.2
  exact ⟨by omega, fun x hx => ⟨(i2 x hx).1, by rw [hs]; exact (i2 x hx).2.1, Safe.wr W S i6 (i2 x hx).2.2⟩, ⟨k0, i3, by omega⟩, i5, i6.wr W S, i7.trans (CHr.wr W S i6)⟩
theorem Inv.kept {vm0 : Vm} {h' : Heap} {a : Addr} (I : Inv Z EL s vm0 n0 fs h) (K : Keep h h' [a]) (ha : a ∈ fs) : Inv Z EL s vm0 n0 fs h' := by
  obtain ⟨i1, i2, ⟨k0, i3, i4⟩, i5, i6, i7⟩ := I
  have S : ∀ x ∈ [a], Safe Z EL vm0 h x := fun x hx => by cases List.mem_singleton.mp hx; exact (i2 a ha).2.2
  exact ⟨Nat.le_trans i1 K.1, fun x hx => ⟨(i2 x hx).1, Nat.lt_of_lt_of_le (i2 x hx).2.1 K.1, (i2 x hx).2.2.keep K S i6⟩, ⟨k0, i3, Nat.le_trans i4 K.1⟩, i5, i6.keep K S, i7.trans (CHr.keep K S i6)⟩
theorem Inv.ge {vm0 : Vm} {a : Addr} (I : Inv Z EL s vm0 n0 fs h) (ha : a ∈ fs) : n0 ≤ a := (I.2.1 a ha).1
theorem Inv.less {vm0 : Vm} {fs' : List Addr} (I : Inv Z EL s vm0 n0 fs h) (q : ∀ x ∈ fs', x ∈ fs) : Inv Z EL s vm0 n0 fs' h := ⟨I.1, fun x hx => I.2.1 x (q x hx), I.2.2⟩
/-- a body that tells of no new cell that its caller may write -/
def nq (Q : Option Value → Heap → Prop) : Option Value → Heap → List Addr → Prop := fun v h ns => ns = [] ∧ Q v h
/-- from every state that stands at frame f over the heap h, the body ends well -/
def Go (Z : State) (EL : List (String × Nat)) (p : Program) (l : Launch) (e : Env) (R : Room) (s : State) (m : MethodId) (args : Array Value) (below : List Frame) (meth : Method) (c : Code) (n0 : Nat) (Q : Option Value → Heap → List Addr → Prop) (fs : List Addr) (h : Heap) (k n : Nat) (f : JFrame) : Prop :=
  ∀ vm0 T locs, Stand p l e R (s.setVm vm0) m args below meth c T locs k n → T.heap = h → Fr n0 locs → Inv Z EL s vm0 n0 fs h →
    ∃ s₂ o, Steps p.tables e below (T.setTop f) s₂ ∧ s₂.status = .running ∧ Ended s₂ below o ∧ ∃ v L ns, o = .returned v ∧ (Q v s₂.heap ns ∧ Fr n0 L) ∧ (∀ x ∈ ns, n0 ≤ x ∧ x < s₂.heap.size ∧ Safe Z EL s₂.vm s₂.heap x) ∧ CHr Z EL s.vm s.heap s₂.vm s₂.heap ∧ ReturnedEndW s o s₂ L R.cells R.slots
theorem Go.step {f f' : JFrame} (H : ∀ T : State, At T m c below → ∀ t, Steps p.tables e below (T.setTop f') t → Steps p.tables e below (T.setTop f) t) (K : Go Z EL p l e R s m args below meth c n0 Q fs h k n f') : Go Z EL p l e R s m args below meth c n0 Q fs h k n f := by
  intro vm0 T locs X eT N I
  obtain ⟨s2, o, st, r⟩ := K vm0 T locs X eT N I
  exact ⟨s2, o, H T X.here s2 st, r⟩
theorem Go.less {f : JFrame} {fs' : List Addr} (K : Go Z EL p l e R s m args below meth c n0 Q fs' h k n f) (q : ∀ x ∈ fs', x ∈ fs) : Go Z EL p l e R s m args below meth c n0 Q fs h k n f := by
  intro vm0 T locs X eT N I
  exact K vm0 T locs X eT N (I.less q)
theorem Go.size {f : JFrame} (K : n0 ≤ h.size → Go Z EL p l e R s m args below meth c n0 Q fs h k n f) : Go Z EL p l e R s m args below meth c n0 Q fs h k n f := by
  intro vm0 T locs X eT N I
  exact K I.1 vm0 T locs X eT N I
theorem Go.ge {f : JFrame} {a : Addr} (ha : a ∈ fs) (K : n0 ≤ a → Go Z EL p l e R s m args below meth c n0 Q fs h k n f) : Go Z EL p l e R s m args below meth c n0 Q fs h k n f := by
  intro vm0 T locs X eT N I
  exact K (I.ge ha) vm0 T locs X eT N I
theorem g_iload (C : Cx Z a0 tb p s m meth c own mname bytes maxL ret n0) {j : Nat} {z : Int32} (hd : decode bytes pc = .ok (.iload j, 2)) (hl : Ls[j]? = some (.val (.int z))) (K : Go Z EL p l e R s m args below meth c n0 Q fs h k n (mkF m (pc + 2) Ls (.int z :: St))) : Go Z EL p l e R s m args below meth c n0 Q fs h k n (mkF m pc Ls (St)) :=
  Go.step (fun T A t st => XS.iload A C.hx rfl (hb C.hby hd) hl st) K
theorem g_iloadN (C : Cx Z a0 tb p s m meth c own mname bytes maxL ret n0) {j : Fin 4} {z : Int32} (hd : decode bytes pc = .ok (.iload_n j, 1)) (hl : Ls[j.val]? = some (.val (.int z))) (K : Go Z EL p l e R s m args below meth c n0 Q fs h k n (mkF m (pc + 1) Ls (.int z :: St))) : Go Z EL p l e R s m args below meth c n0 Q fs h k n (mkF m pc Ls (St)) :=
  Go.step (fun T A t st => XS.iloadN A C.hx rfl (hb C.hby hd) hl st) K
theorem g_lload (C : Cx Z a0 tb p s m meth c own mname bytes maxL ret n0) {j : Nat} {z : Int64} (hd : decode bytes pc = .ok (.lload j, 2)) (hl : Ls[j]? = some (.val (.long z))) (K : Go Z EL p l e R s m args below meth c n0 Q fs h k n (mkF m (pc + 2) Ls (.long z :: St))) : Go Z EL p l e R s m args below meth c n0 Q fs h k n (mkF m pc Ls (St)) :=
  Go.step (fun T A t st => XS.lload A C.hx rfl (hb C.hby hd) hl st) K
theorem g_lloadN (C : Cx Z a0 tb p s m meth c own mname bytes maxL ret n0) {j : Fin 4} {z : Int64} (hd : decode bytes pc = .ok (.lload_n j, 1)) (hl : Ls[j.val]? = some (.val (.long z))) (K : Go Z EL p l e R s m args below meth c n0 Q fs h k n (mkF m (pc + 1) Ls (.long z :: St))) : Go Z EL p l e R s m args below meth c n0 Q fs h k n (mkF m pc Ls (St)) :=
  Go.step (fun T A t st => XS.lloadN A C.hx rfl (hb C.hby hd) hl st) K
theorem g_aload (C : Cx Z a0 tb p s m meth c own mname bytes maxL ret n0) {j : Nat} {v : Value} (hd : decode bytes pc = .ok (.aload j, 2)) (hl : Ls[j]? = some (.val v)) (hv : v.isRef = true) (K : Go Z EL p l e R s m args below meth c n0 Q fs h k n (mkF m (pc + 2) Ls (v :: St))) : Go Z EL p l e R s m args below meth c n0 Q fs h k n (mkF m pc Ls (St)) :=
  Go.step (fun T A t st => XS.aload A C.hx rfl (hb C.hby hd) hl hv st) K
theorem g_aloadN (C : Cx Z a0 tb p s m meth c own mname bytes maxL ret n0) {j : Fin 4} {v : Value} (hd : decode bytes pc = .ok (.aload_n j, 1)) (hl : Ls[j.val]? = some (.val v)) (hv : v.isRef = true) (K : Go Z EL p l e R s m args below meth c n0 Q fs h k n (mkF m (pc + 1) Ls (v :: St))) : Go Z EL p l e R s m args below meth c n0 Q fs h k n (mkF m pc Ls (St)) :=
  Go.step (fun T A t st => XS.aloadN A C.hx rfl (hb C.hby hd) hl hv st) K
theorem g_istore (C : Cx Z a0 tb p s m meth c own mname bytes maxL ret n0) {j : Nat} {z : Int32} (l' : Array Slot) (hd : decode bytes pc = .ok (.istore j, 2)) (hl : storeLocals Ls j (.int z) = some l') (K : Go Z EL p l e R s m args below meth c n0 Q fs h k n (mkF m (pc + 2) l' St)) : Go Z EL p l e R s m args below meth c n0 Q fs h k n (mkF m pc Ls (.int z :: St)) :=
  Go.step (fun T A t st => XS.istore A C.hx rfl (hb C.hby hd) rfl hl st) K
theorem g_lstore (C : Cx Z a0 tb p s m meth c own mname bytes maxL ret n0) {j : Nat} {z : Int64} (l' : Array Slot) (hd : decode bytes pc = .ok (.lstore j, 2)) (hl : storeLocals Ls j (.long z) = some l') (K : Go Z EL p l e R s m args below meth c n0 Q fs h k n (mkF m (pc + 2) l' St)) : Go Z EL p l e R s m args below meth c n0 Q fs h k n (mkF m pc Ls (.long z :: St)) :=
  Go.step (fun T A t st => XS.lstore A C.hx rfl (hb C.hby hd) rfl hl st) K
theorem g_astore (C : Cx Z a0 tb p s m meth c own mname bytes maxL ret n0) {j : Nat} {v : Value} (l' : Array Slot) (hd : decode bytes pc = .ok (.astore j, 2)) (hv : v.isRef = true) (hl : storeLocals Ls j v = some l') (K : Go Z EL p l e R s m args below meth c n0 Q fs h k n (mkF m (pc + 2) l' St)) : Go Z EL p l e R s m args below meth c n0 Q fs h k n (mkF m pc Ls (v :: St)) :=
  Go.step (fun T A t st => XS.astore A C.hx rfl (hb C.hby hd) rfl hv hl st) K
theorem g_iconst (C : Cx Z a0 tb p s m meth c own mname bytes maxL ret n0) {i : Int} (z : Int32) (hd : decode bytes pc = .ok (.iconst i, 1)) (hz : Int32.ofInt i = z) (K : Go Z EL p l e R s m args below meth c n0 Q fs h k n (mkF m (pc + 1) Ls (.int z :: St))) : Go Z EL p l e R s m args below meth c n0 Q fs h k n (mkF m pc Ls (St)) :=
  Go.step (fun T A t st => XS.iconst A C.hx rfl (hb C.hby hd) (hz ▸ st)) K
theorem g_bipush (C : Cx Z a0 tb p s m meth c own mname bytes maxL ret n0) {i : Int} (z : Int32) (hd : decode bytes pc = .ok (.bipush i, 2)) (hz : (Int8.ofInt i).toInt32 = z) (K : Go Z EL p l e R s m args below meth c n0 Q fs h k n (mkF m (pc + 2) Ls (.int z :: St))) : Go Z EL p l e R s m args below meth c n0 Q fs h k n (mkF m pc Ls (St)) :=
  Go.step (fun T A t st => XS.bipush A C.hx rfl (hb C.hby hd) (hz ▸ st)) K
theorem g_sipush (C : Cx Z a0 tb p s m meth c own mname bytes maxL ret n0) {i : Int} (z : Int32) (hd : decode bytes pc = .ok (.sipush i, 3)) (hz : (Int16.ofInt i).toInt32 = z) (K : Go Z EL p l e R s m args below meth c n0 Q fs h k n (mkF m (pc + 3) Ls (.int z :: St))) : Go Z EL p l e R s m args below meth c n0 Q fs h k n (mkF m pc Ls (St)) :=
  Go.step (fun T A t st => XS.sipush A C.hx rfl (hb C.hby hd) (hz ▸ st)) K
theorem g_aconst_null (C : Cx Z a0 tb p s m meth c own mname bytes maxL ret n0)  (hd : decode bytes pc = .ok (.aconst_null, 1))  (K : Go Z EL p l e R s m args below meth c n0 Q fs h k n (mkF m (pc + 1) Ls (.null :: St))) : Go Z EL p l e R s m args below meth c n0 Q fs h k n (mkF m pc Ls (St)) :=
  Go.step (fun T A t st => XS.aconstNull A C.hx rfl (hb C.hby hd) st) K
theorem g_iand (C : Cx Z a0 tb p s m meth c own mname bytes maxL ret n0) {x y : Int32} (hd : decode bytes pc = .ok (.iand, 1))  (K : Go Z EL p l e R s m args below meth c n0 Q fs h k n (mkF m (pc + 1) Ls (.int (x &&& y) :: St))) : Go Z EL p l e R s m args below meth c n0 Q fs h k n (mkF m pc Ls (.int y :: .int x :: St)) :=
  Go.step (fun T A t st => XS.iand A C.hx rfl (hb C.hby hd) rfl st) K
theorem g_iushr (C : Cx Z a0 tb p s m meth c own mname bytes maxL ret n0) {x y : Int32} (hd : decode bytes pc = .ok (.iushr, 1))  (K : Go Z EL p l e R s m args below meth c n0 Q fs h k n (mkF m (pc + 1) Ls (.int ((x.toUInt32 >>> (y &&& 31).toUInt32).toInt32) :: St))) : Go Z EL p l e R s m args below meth c n0 Q fs h k n (mkF m pc Ls (.int y :: .int x :: St)) :=
  Go.step (fun T A t st => XS.iushr A C.hx rfl (hb C.hby hd) rfl st) K
theorem g_i2c (C : Cx Z a0 tb p s m meth c own mname bytes maxL ret n0) {x : Int32} (hd : decode bytes pc = .ok (.i2c, 1))  (K : Go Z EL p l e R s m args below meth c n0 Q fs h k n (mkF m (pc + 1) Ls (.int (x.toUInt32.toUInt16.toUInt32.toInt32) :: St))) : Go Z EL p l e R s m args below meth c n0 Q fs h k n (mkF m pc Ls (.int x :: St)) :=
  Go.step (fun T A t st => XS.i2c A C.hx rfl (hb C.hby hd) rfl st) K
theorem g_lcmp (C : Cx Z a0 tb p s m meth c own mname bytes maxL ret n0) {x y : Int64} (hd : decode bytes pc = .ok (.lcmp, 1))  (K : Go Z EL p l e R s m args below meth c n0 Q fs h k n (mkF m (pc + 1) Ls (.int (lcmpW x y) :: St))) : Go Z EL p l e R s m args below meth c n0 Q fs h k n (mkF m pc Ls (.long y :: .long x :: St)) :=
  Go.step (fun T A t st => XS.lcmp A C.hx rfl (hb C.hby hd) rfl st) K
theorem g_dup (C : Cx Z a0 tb p s m meth c own mname bytes maxL ret n0) {v : Value} (hd : decode bytes pc = .ok (.dup, 1)) (hc : v.category = 1) (K : Go Z EL p l e R s m args below meth c n0 Q fs h k n (mkF m (pc + 1) Ls (v :: v :: St))) : Go Z EL p l e R s m args below meth c n0 Q fs h k n (mkF m pc Ls (v :: St)) :=
  Go.step (fun T A t st => XS.dup A C.hx rfl (hb C.hby hd) rfl hc st) K
theorem g_goto (C : Cx Z a0 tb p s m meth c own mname bytes maxL ret n0)  {o : Int} (pc' : Nat) (hd : decode bytes pc = .ok (.goto o, 3))  (ho : 0 ≤ (pc : Int) + o) (hp : ((pc : Int) + o).toNat = pc') (K : Go Z EL p l e R s m args below meth c n0 Q fs h k n (mkF m pc' Ls St)) : Go Z EL p l e R s m args below meth c n0 Q fs h k n (mkF m pc Ls (St)) :=
  Go.step (fun T A t st => XS.goto A C.hx rfl rfl (hb C.hby hd) ho hp st) K
theorem g_if_t (C : Cx Z a0 tb p s m meth c own mname bytes maxL ret n0) {cd : ClassFile.Cond} {x : Int32} {o : Int} (pc' : Nat) (hd : decode bytes pc = .ok (.ifCond cd o, 3)) (hc : ifCond.holds cd x = true) (ho : 0 ≤ (pc : Int) + o) (hp : ((pc : Int) + o).toNat = pc') (K : Go Z EL p l e R s m args below meth c n0 Q fs h k n (mkF m pc' Ls St)) : Go Z EL p l e R s m args below meth c n0 Q fs h k n (mkF m pc Ls (.int x :: St)) :=
  Go.step (fun T A t st => XS.ifYes A C.hx rfl rfl (hb C.hby hd) rfl hc ho hp st) K
theorem g_icmp_t (C : Cx Z a0 tb p s m meth c own mname bytes maxL ret n0) {cd : ClassFile.Cond} {x y : Int32} {o : Int} (pc' : Nat) (hd : decode bytes pc = .ok (.if_icmp cd o, 3)) (hc : if_icmp.holds cd x y = true) (ho : 0 ≤ (pc : Int) + o) (hp : ((pc : Int) + o).toNat = pc') (K : Go Z EL p l e R s m args below meth c n0 Q fs h k n (mkF m pc' Ls St)) : Go Z EL p l e R s m args below meth c n0 Q fs h k n (mkF m pc Ls (.int y :: .int x :: St)) :=
  Go.step (fun T A t st => XS.icmpYes A C.hx rfl rfl (hb C.hby hd) rfl hc ho hp st) K
theorem g_if_f (C : Cx Z a0 tb p s m meth c own mname bytes maxL ret n0) {cd : ClassFile.Cond} {x : Int32} {o : Int} (hd : decode bytes pc = .ok (.ifCond cd o, 3)) (hc : ifCond.holds cd x = false) (K : Go Z EL p l e R s m args below meth c n0 Q fs h k n (mkF m (pc + 3) Ls St)) : Go Z EL p l e R s m args below meth c n0 Q fs h k n (mkF m pc Ls (.int x :: St)) :=
  Go.step (fun T A t st => XS.ifNo A C.hx rfl (hb C.hby hd) rfl hc st) K
theorem g_icmp_f (C : Cx Z a0 tb p s m meth c own mname bytes maxL ret n0) {cd : ClassFile.Cond} {x y : Int32} {o : Int} (hd : decode bytes pc = .ok (.if_icmp cd o, 3)) (hc : if_icmp.holds cd x y = false) (K : Go Z EL p l e R s m args below meth c n0 Q fs h k n (mkF m (pc + 3) Ls St)) : Go Z EL p l e R s m args below meth c n0 Q fs h k n (mkF m pc Ls (.int y :: .int x :: St)) :=
  Go.step (fun T A t st => XS.icmpNo A C.hx rfl (hb C.hby hd) rfl hc st) K
theorem g_new (C : Cx Z a0 tb p s m meth c own mname bytes maxL ret n0) {index ns : Nat} {Cn : String} (w : Jvm.Cond.classLink own index Cn ∈ tb) (wi : Jvm.Cond.instantiable Cn ns ∈ tb) (wz : Jvm.Cond.initialized Cn ∈ tb) (hd : decode bytes pc = .ok (.new index, 3)) (hc : k + 1 ≤ R.cells) (hl : n + ns ≤ R.slots)
    (K : ∀ a h', a = h.size → Ext h h' → Exa Z h' a Cn → (∀ {O nm d : String} {ty : FieldType}, Laid Z a0 Cn O nm d → parseFieldDescriptor d = some ty → Fld Z h' a O nm d (defaultValue ty)) → Go Z EL p l e R s m args below meth c n0 Q (a :: fs) h' (k + 1) (n + ns) (mkF m (pc + 3) Ls (.ref a :: St))) : Go Z EL p l e R s m args below meth c n0 Q fs h k n (mkF m pc Ls St) := by
  intro vm0 T locs X eT N I
  have hZ : Z.Warmed39 (s.setVm vm0).vm := I.hZ
  have hown : (s.setVm vm0).vm.findClass own = some m.cls := C.hownAt I.hZ
  obtain ⟨T', h', X', e', E', A', D', -, st⟩ := newO X C.hx hZ hown (C.hw w) (C.hw wi) (C.hw wz) eT (g := mkF m pc Ls St) rfl (hb C.hby hd) hc hl
  obtain ⟨s2, o, st2, r⟩ := K h.size h' rfl E' A' D' vm0 T' locs X' e' N (I.new E' A'.lt)
  exact ⟨s2, o, st _ st2, r⟩
theorem g_newarray (C : Cx Z a0 tb p s m meth c own mname bytes maxL ret n0) {aty : ArrayType} {z : Int32} (w : Jvm.Cond.arrayClass (newarray.typeOf aty) ∈ tb) (hd : decode bytes pc = .ok (.newarray aty, 2)) (hz : ¬ z < 0) (cap : Nat) (hcap : z.toNatClampNeg ≤ cap) (hbig : cap * 8 ≤ 536870912) (hc : k + 1 ≤ R.cells) (hl : n + cap ≤ R.slots) (ad : String) (had : "[" ++ (newarray.typeOf aty).toString = ad)
    (K : ∀ a h' ka, a = h.size → Ext h h' → Arv Z h' a ka (newarray.typeOf aty) z [] (defaultValue (newarray.typeOf aty)) → Exa Z h' a ad → Go Z EL p l e R s m args below meth c n0 Q (a :: fs) h' (k + 1) (n + cap) (mkF m (pc + 2) Ls (.ref a :: St))) : Go Z EL p l e R s m args below meth c n0 Q fs h k n (mkF m pc Ls (.int z :: St)) := by
  intro vm0 T locs X eT N I
  have hZ : Z.Warmed39 (s.setVm vm0).vm := I.hZ
  have hown : (s.setVm vm0).vm.findClass own = some m.cls := C.hownAt I.hZ
  obtain ⟨T', h', ka, X', e', E', A', Ex', st⟩ := newPE X C.hx hZ (C.hw w) eT (g := mkF m pc Ls (.int z :: St)) rfl (hb C.hby hd) rfl hz hcap hbig hc hl had
  obtain ⟨s2, o, st2, r⟩ := K h.size h' ka rfl E' (Arv.new A' hz) Ex' vm0 T' locs X' e' N (I.new E' A'.lt)
  exact ⟨s2, o, st _ st2, r⟩
theorem g_castore (C : Cx Z a0 tb p s m meth c own mname bytes maxL ret n0) {a : Addr} {ka : ClassId} {z j : Int32} {x : Int32} {vs : List Value} {dv : Value} (F : Arv Z h a ka .char z vs dv) (ha : a ∈ fs) (hd : decode bytes pc = .ok (.castore, 1)) (hj : ¬ j < 0 ∧ j < z) (i : Nat) (hi : j.toNatClampNeg = i) (hl : i < vs.length)
    (K : ∀ h', Wr h h' a j.toNatClampNeg (.int (nar .char x)) → Arv Z h' a ka .char z (vs.set i (.int (nar .char x))) dv → Go Z EL p l e R s m args below meth c n0 Q fs h' k n (mkF m (pc + 1) Ls St)) : Go Z EL p l e R s m args below meth c n0 Q fs h k n (mkF m pc Ls (.int x :: .int j :: .ref a :: St)) := by
  intro vm0 T locs X eT N I
  have hZ : Z.Warmed39 (s.setVm vm0).vm := I.hZ
  have hown : (s.setVm vm0).vm.findClass own = some m.cls := C.hownAt I.hZ
  obtain ⟨cl, A, q, S, Nn, H, G⟩ := F
  obtain ⟨T', h', X', e', W', st⟩ := stC X C.hx hZ eT A (j := j) (inb_of S hj) (g := mkF m pc Ls (.int x :: .int j :: .ref a :: St)) rfl rfl (hb C.hby hd)
  obtain ⟨s2, o, st2, r⟩ := K h' W' (Arv.set A q S Nn H G (fits_nar_char x) W' i hi hl) vm0 T' _ X' e' (Fr.snoc X' N (I.ge ha)) (I.wr W' ha)
  exact ⟨s2, o, st _ st2, r⟩
theorem g_arraylength (C : Cx Z a0 tb p s m meth c own mname bytes maxL ret n0) {a : Addr} {ka : ClassId} {ty : FieldType} {z : Int32} {vs : List Value} {dv : Value} (F : Arv Z h a ka ty z vs dv) (hd : decode bytes pc = .ok (.arraylength, 1))
    (K : Go Z EL p l e R s m args below meth c n0 Q fs h k n (mkF m (pc + 1) Ls (.int z :: St))) : Go Z EL p l e R s m args below meth c n0 Q fs h k n (mkF m pc Ls (.ref a :: St)) := by
  intro vm0 T locs X eT N I
  have hZ : Z.Warmed39 (s.setVm vm0).vm := I.hZ
  have hown : (s.setVm vm0).vm.findClass own = some m.cls := C.hownAt I.hZ
  obtain ⟨cl, A, q, S, Nn, H, G⟩ := F
  obtain ⟨s2, o, st2, r⟩ := K vm0 T locs X eT N I
  refine ⟨s2, o, X.arraylength C.hx (by rw [eT]; exact A.1) (State.isArrayOf_alike hZ.alike A.2.1) (g := mkF m pc Ls (.ref a :: St)) rfl rfl (hb C.hby hd) _ ?_, r⟩
  rw [len_of S Nn]; exact st2
theorem g_getfield (C : Cx Z a0 tb p s m meth c own mname bytes maxL ret n0) {index : Nat} {R0 O nm d : String} {a : Addr} {v : Value} (w : Jvm.Cond.fieldLink own index R0 nm d ∈ tb) (via : Via Z R0 O nm d) (F : Fld Z h a O nm d v) (hd : decode bytes pc = .ok (.getfield index, 3))
    (K : Go Z EL p l e R s m args below meth c n0 Q fs h k n (mkF m (pc + 3) Ls (v :: St))) : Go Z EL p l e R s m args below meth c n0 Q fs h k n (mkF m pc Ls (.ref a :: St)) := by
  intro vm0 T locs X eT N I
  have hZ : Z.Warmed39 (s.setVm vm0).vm := I.hZ
  have hown : (s.setVm vm0).vm.findClass own = some m.cls := C.hownAt I.hZ
  obtain ⟨T', X', e', st⟩ := getF X C.hx hZ hown (host := "") (Or.inl (C.hw w)) via eT F (g := mkF m pc Ls (.ref a :: St)) rfl rfl (hb C.hby hd)
  obtain ⟨s2, o, st2, r⟩ := K vm0 T' locs X' e' N I
  exact ⟨s2, o, st _ st2, r⟩
theorem g_putfield (C : Cx Z a0 tb p s m meth c own mname bytes maxL ret n0) {index kk : Nat} {R0 O nm d Cn : String} {a : Addr} {v old : Value} (ty : FieldType) (w : Jvm.Cond.fieldLink own index R0 nm d ∈ tb) (via : Via Z R0 O nm d) (F : Fld Z h a O nm d old) (E : Exa Z h a Cn) (hl : Jvm.Cond.lays Cn O nm d ∈ tb ∨ (Jvm.Cond.laysFinal Cn O nm d ∈ tb ∧ own = O ∧ mname = "<init>")) (wi : Jvm.Cond.instantiable Cn kk ∈ tb)
    (hty : parseFieldDescriptor d = some ty) (hn : narrow ty v = v) (hf : fits ty v = true) (ha : a ∈ fs) (hd : decode bytes pc = .ok (.putfield index, 3))
    (K : ∀ h', Wr h h' a (Jvm.RoadKit.slotOf Z O nm d) v → Fld Z h' a O nm d v → Go Z EL p l e R s m args below meth c n0 Q fs h' k n (mkF m (pc + 3) Ls St)) : Go Z EL p l e R s m args below meth c n0 Q fs h k n (mkF m pc Ls (v :: .ref a :: St)) := by
  intro vm0 T locs X eT N I
  have hZ : Z.Warmed39 (s.setVm vm0).vm := I.hZ
  have hown : (s.setVm vm0).vm.findClass own = some m.cls := C.hownAt I.hZ
  obtain ⟨T', h', X', e', W', st⟩ := putF X C.hx hZ hown (host := "") (Or.inl (C.hw w)) via eT F E (hl.imp (fun q => C.hw q) (fun q => ⟨C.hw q.1, q.2.1, C.hnm.trans q.2.2⟩)) (C.hw wi) (ty := ty) hty hn hf (g := mkF m pc Ls (v :: .ref a :: St)) rfl rfl (hb C.hby hd)
  obtain ⟨s2, o, st2, r⟩ := K h' W' (F.same W') vm0 T' _ X' e' (Fr.snoc X' N (I.ge ha)) (I.wr W' ha)
  exact ⟨s2, o, st _ st2, r⟩
theorem g_putfieldZ (C : Cx Z a0 tb p s m meth c own mname bytes maxL ret n0) {index kk : Nat} {R0 O nm d Cn : String} {a : Addr} {x : Int32} {old : Value} (ty : FieldType) (v' : Value) (w : Jvm.Cond.fieldLink own index R0 nm d ∈ tb) (via : Via Z R0 O nm d) (F : Fld Z h a O nm d old) (E : Exa Z h a Cn) (hl : Jvm.Cond.lays Cn O nm d ∈ tb ∨ (Jvm.Cond.laysFinal Cn O nm d ∈ tb ∧ own = O ∧ mname = "<init>")) (wi : Jvm.Cond.instantiable Cn kk ∈ tb)
    (hty : parseFieldDescriptor d = some ty) (hn : narrow ty (.int x) = v') (hf : fits ty v' = true) (ha : a ∈ fs) (hd : decode bytes pc = .ok (.putfield index, 3))
    (K : ∀ h', Wr h h' a (Jvm.RoadKit.slotOf Z O nm d) v' → Fld Z h' a O nm d v' → Go Z EL p l e R s m args below meth c n0 Q fs h' k n (mkF m (pc + 3) Ls St)) : Go Z EL p l e R s m args below meth c n0 Q fs h k n (mkF m pc Ls (.int x :: .ref a :: St)) := by
  intro vm0 T locs X eT N I
  have hZ : Z.Warmed39 (s.setVm vm0).vm := I.hZ
  have hown : (s.setVm vm0).vm.findClass own = some m.cls := C.hownAt I.hZ
  obtain ⟨T', h', X', e', W', st⟩ := putFN X C.hx hZ hown (C.hw w) via eT F E (hl.imp (fun q => C.hw q) (fun q => ⟨C.hw q.1, q.2.1, C.hnm.trans q.2.2⟩)) (C.hw wi) (ty := ty) (v' := v') hty hn hf (g := mkF m pc Ls (.int x :: .ref a :: St)) rfl rfl (hb C.hby hd)
  obtain ⟨s2, o, st2, r⟩ := K h' W' (F.same W') vm0 T' _ X' e' (Fr.snoc X' N (I.ge ha)) (I.wr W' ha)
  exact ⟨s2, o, st _ st2, r⟩
theorem g_checkcast (C : Cx Z a0 tb p s m meth c own mname bytes maxL ret n0) {index : Nat} {Kn : String} {a : Addr} (w : Jvm.Cond.classLink own index Kn ∈ tb) (F : Ins Z h a Kn true) (hd : decode bytes pc = .ok (.checkcast index, 3))
    (K : Go Z EL p l e R s m args below meth c n0 Q fs h k n (mkF m (pc + 3) Ls (.ref a :: St))) : Go Z EL p l e R s m args below meth c n0 Q fs h k n (mkF m pc Ls (.ref a :: St)) := by
  intro vm0 T locs X eT N I
  have hZ : Z.Warmed39 (s.setVm vm0).vm := I.hZ
  have hown : (s.setVm vm0).vm.findClass own = some m.cls := C.hownAt I.hZ
  obtain ⟨T', X', e', st⟩ := castY X C.hx hZ hown (C.hw w) eT F (g := mkF m pc Ls (.ref a :: St)) rfl rfl (hb C.hby hd)
  obtain ⟨s2, o, st2, r⟩ := K vm0 T' locs X' e' N I
  exact ⟨s2, o, st _ st2, r⟩
theorem g_instanceof_t (C : Cx Z a0 tb p s m meth c own mname bytes maxL ret n0) {index : Nat} {Kn : String} {a : Addr} (w : Jvm.Cond.classLink own index Kn ∈ tb) (F : Ins Z h a Kn true) (hd : decode bytes pc = .ok (.instanceof index, 3))
    (K : Go Z EL p l e R s m args below meth c n0 Q fs h k n (mkF m (pc + 3) Ls (.int 1 :: St))) : Go Z EL p l e R s m args below meth c n0 Q fs h k n (mkF m pc Ls (.ref a :: St)) := by
  intro vm0 T locs X eT N I
  have hZ : Z.Warmed39 (s.setVm vm0).vm := I.hZ
  have hown : (s.setVm vm0).vm.findClass own = some m.cls := C.hownAt I.hZ
  obtain ⟨T', X', e', st⟩ := instY X C.hx hZ hown (C.hw w) eT F (g := mkF m pc Ls (.ref a :: St)) rfl rfl (hb C.hby hd)
  obtain ⟨s2, o, st2, r⟩ := K vm0 T' locs X' e' N I
  exact ⟨s2, o, st _ st2, r⟩
theorem g_instanceof_f (C : Cx Z a0 tb p s m meth c own mname bytes maxL ret n0) {index : Nat} {Kn Cn : String} {a : Addr} (w : Jvm.Cond.classLink own index Kn ∈ tb) (E : Exa Z h a Cn) (F : ∃ c t, Z.vm.findClass Cn = some c ∧ Z.vm.findClass Kn = some t ∧ Z.vm.assignable c t = false) (hd : decode bytes pc = .ok (.instanceof index, 3))
    (K : Go Z EL p l e R s m args below meth c n0 Q fs h k n (mkF m (pc + 3) Ls (.int 0 :: St))) : Go Z EL p l e R s m args below meth c n0 Q fs h k n (mkF m pc Ls (.ref a :: St)) := by
  intro vm0 T locs X eT N I
  have hZ : Z.Warmed39 (s.setVm vm0).vm := I.hZ
  have hown : (s.setVm vm0).vm.findClass own = some m.cls := C.hownAt I.hZ
  obtain ⟨T', X', e', st⟩ := instNo X C.hx hZ hown (C.hw w) eT E F (g := mkF m pc Ls (.ref a :: St)) rfl rfl (hb C.hby hd)
  obtain ⟨s2, o, st2, r⟩ := K vm0 T' locs X' e' N I
  exact ⟨s2, o, st _ st2, r⟩
theorem g_instanceof_null (C : Cx Z a0 tb p s m meth c own mname bytes maxL ret n0) {index : Nat} (hd : decode bytes pc = .ok (.instanceof index, 3)) (K : Go Z EL p l e R s m args below meth c n0 Q fs h k n (mkF m (pc + 3) Ls (.int 0 :: St))) : Go Z EL p l e R s m args below meth c n0 Q fs h k n (mkF m pc Ls (.null :: St)) := by
  intro vm0 T locs X eT N I
  have hZ : Z.Warmed39 (s.setVm vm0).vm := I.hZ
  have hown : (s.setVm vm0).vm.findClass own = some m.cls := C.hownAt I.hZ
  obtain ⟨s2, o, st2, r⟩ := K vm0 T locs X eT N I
  exact ⟨s2, o, X.instanceofNull C.hx (g := mkF m pc Ls (.null :: St)) rfl rfl (hb C.hby hd) _ st2, r⟩
theorem g_initO (C : Cx Z a0 tb p s m meth c own mname bytes maxL ret n0) {index : Nat} {a : Addr} (w1 : Jvm.Cond.methodLink own index Lib.objectInit ∈ tb) (w2 : Jvm.Cond.instanceMethod Lib.objectInit ∈ tb) (w3 : Jvm.Cond.code Lib.objectInit ⟨#[0xb1]⟩ 1 none ∈ tb) (hsz : Ls.size = maxL) (hd : decode bytes pc = .ok (.invokespecial index, 3)) (hf : 1 ≤ R.frames) (W : Nat) (hW : (St.map fun v => v.category).sum ≤ W) (hl : W + 12 ≤ R.locals)
    (K : Go Z EL p l e R s m args below meth c n0 Q fs h k n (mkF m (pc + 3) Ls St)) : Go Z EL p l e R s m args below meth c n0 Q fs h k n (mkF m pc Ls (.ref a :: St)) := by
  intro vm0 T locs X eT N I
  have hZ : Z.Warmed39 (s.setVm vm0).vm := I.hZ
  have hown : (s.setVm vm0).vm.findClass own = some m.cls := C.hownAt I.hZ
  obtain ⟨T', X', e', st⟩ := initO X C.hx hZ hown (C.hw w1) (C.hw w2) (C.hw w3) eT (g := mkF m pc Ls (.ref a :: St)) rfl (hsz.trans C.hml.symm) rfl (hb C.hby hd) hf (W := W) (by show 2 * 0 + _ ≤ _; omega) hl
  obtain ⟨s2, o, st2, r⟩ := K vm0 T' locs X' e' N I
  exact ⟨s2, o, st _ st2, r⟩
theorem own_end {vm0 : Vm} {k0 : Nat} {v : Option Value} {T : State} {ff : List Frame} {L : List Loc} {kc kn : Nat} (hS : s.Since vm0 k0) (hk0 : k0 ≤ T.heap.size) (hW : (s.setVm vm0).WarmedH (T.setFrames ff).vm) (hs : (s.setVm vm0).sameButNew ({ T.setFrames ff with vm := (s.setVm vm0).vm } : State) L kc kn) : ReturnedEndW s (.returned v) (T.setFrames ff) L kc kn := by
  have q := hS.trans (hW.since (T.setFrames ff).heap.size) hk0
  exact ⟨⟨_, rfl⟩, q.1, q.2, hs.setVm s.vm⟩
theorem g_ldcS (C : Cx Z a0 tb p s m meth c own mname bytes maxL ret n0) (hEL : EW Z a0 EL) {index : Nat} {text : String} (w : Jvm.Cond.stringLink own index text ∈ tb) (wS : ∀ a ∈ Bundle.stringAtoms, a ∈ tb) (hmem : (own, index) ∈ EL) (cs : List Int32) (ht : (∀ c ∈ text.toList, c.toNat < 256) ∧ text.toList.map (fun c => Value.int (Jvm.Lit.byteI c.toNat.toUInt16)) = (cs.map fun c => c.toInt8.toInt32).map Value.int) (hcs : cs.length ≤ 4000) (hb8 : ∀ c ∈ cs, ¬ c < 0 ∧ ¬ (255 : Int32) < c)
    (hd : decode bytes pc = .ok (.ldc index, 2)) (nn : Nat) (hn : 4 * text.toList.length ≤ nn) (hbig : nn ≤ 536870912) (hc : k + 2 ≤ R.cells) (hl : n + (nn + 4) ≤ R.slots)
    (K : ∀ a b kb h', Ext h h' → Str Z h' a b kb cs → (∀ x ∈ fs, x ≠ a ∧ x ≠ b) → Go Z EL p l e R s m args below meth c n0 Q fs h' (k + 2) (n + (nn + 4)) (mkF m (pc + 2) Ls (.ref a :: St))) : Go Z EL p l e R s m args below meth c n0 Q fs h k n (mkF m pc Ls St) := by
  intro vm0 T locs X eT N I
  have hZ : Z.Warmed39 (s.setVm vm0).vm := I.hZ
  have hown : (s.setVm vm0).vm.findClass own = some m.cls := C.hownAt I.hZ
  obtain ⟨k0, hS, hk0⟩ := I.2.2.1
  have e31 : (Int32.ofNat cs.length).toInt = cs.length := Int32.toInt_ofNat_of_lt (by omega)
  have hz : ¬ Int32.ofNat cs.length < 0 := by
    rw [Int32.lt_iff_toInt_lt, e31]; show ¬ (cs.length : Int) < 0; omega
  have hlen : (Int32.ofNat cs.length).toNatClampNeg = ((cs.map fun c => c.toInt8.toInt32).map Value.int).length := by
    rw [Int32.toNatClampNeg, e31]; simp
  obtain ⟨a, T', h', k1, b, kb, X', e', E', hS', hk1, hZ', hown', s1, s2, s3, s4, s5, s6, hC, hL, hne, st⟩ := ldcCH X C.hx hZ hown (C.hw w) (fun a ha => C.hw (wS a ha)) eT hS hk0 hEL hmem I.2.2.2.2.1 ht hz hlen (g := mkF m pc Ls St) rfl (hb C.hby hd) hn hbig hc hl
  have I' : Inv Z EL s T'.vm n0 fs h' := ⟨Nat.le_trans I.1 hC.2.1, fun x hx => ⟨(I.2.1 x hx).1, Nat.lt_of_lt_of_le (I.2.1 x hx).2.1 hC.2.1, hC.safe (I.2.1 x hx).2.1 (I.2.1 x hx).2.2⟩, ⟨k1, hS', hk1⟩, hZ', hC.1, I.2.2.2.2.2.trans hC⟩
  obtain ⟨s2', o, st2, r⟩ := K a b kb h' E' ⟨s1, s2, s3, s4, hcs, hb8⟩ (fun x hx => hne x (I'.2.1 x hx).2.2) T'.vm T' locs X' e' N I'
  exact ⟨s2', o, st _ st2, r⟩
theorem own_narref {t : FieldType} {v : Value} (ht : t.isReference = true) (hv : v.isRef = true) : narrow t v = v := by
  rcases ref_cases hv with rfl | ⟨b, rfl⟩ <;> cases t <;> first | rfl | (cases ht)
theorem g_returnX (C : Cx Z a0 tb p s m meth c own mname bytes maxL ret n0) (hEL : EW Z a0 EL)  (ns : List Addr) (hns : ∀ x ∈ ns, x ∈ fs) (hret : ret = none) (hd : decode bytes pc = .ok (.return_, 1)) (hk : k ≤ R.cells) (hn : n ≤ R.slots) (hQ : Q (none) h ns) : Go Z EL p l e R s m args below meth c n0 Q fs h k n (mkF m pc Ls ([])) := by
  intro vm0 T locs X eT N I
  have hZ : Z.Warmed39 (s.setVm vm0).vm := I.hZ
  have hown : (s.setVm vm0).vm.findClass own = some m.cls := C.hownAt I.hZ
  obtain ⟨ff, hr, hrun, hended, hW, hsame⟩ := X.leave (v := none) (fun _ => rfl) C.hlk
  refine ⟨_, _, X.returnOut C.hx (C.hret.trans hret) (hb C.hby hd) hr, hrun, hended, _, _, ns, rfl, ⟨by rw [show (T.setFrames ff).heap = T.heap from rfl, eT]; exact hQ, N⟩, ?_, ?_, ?_⟩
  · intro y hy
    have J := CHv.at X I.hZ hEL I.2.2.2.2.1
    have q := I.2.1 y (hns y hy)
    rw [show (T.setFrames ff).heap = h from eT]
    exact ⟨q.1, q.2.1, J.safe q.2.1 q.2.2⟩
  · exact (by rw [show (T.setFrames ff).heap = h from eT]; exact (show CHr Z EL s.vm s.heap T.vm h from I.2.2.2.2.2.trans (CHv.at X I.hZ hEL I.2.2.2.2.1)))
  · obtain ⟨k0, hS, hk0⟩ := I.2.2.1
    exact own_end hS (by rw [← eT] at hk0; exact hk0) hW (hsame.mono hk hn)
theorem g_return (C : Cx Z a0 tb p s m meth c own mname bytes maxL ret n0) (hEL : EW Z a0 EL)  (hret : ret = none) (hd : decode bytes pc = .ok (.return_, 1)) (hk : k ≤ R.cells) (hn : n ≤ R.slots) (hQ : Q2 (none) h) : Go Z EL p l e R s m args below meth c n0 (nq Q2) fs h k n (mkF m pc Ls ([])) :=
  g_returnX C hEL [] all0 hret hd hk hn ⟨rfl, hQ⟩
theorem g_ireturnNX (C : Cx Z a0 tb p s m meth c own mname bytes maxL ret n0) (hEL : EW Z a0 EL) {z : Int32} {t : FieldType} (ns : List Addr) (hns : ∀ x ∈ ns, x ∈ fs) (hret : ret = some t) (ht : t = .boolean ∨ t = .byte ∨ t = .char ∨ t = .short) (hd : decode bytes pc = .ok (.ireturn, 1)) (hk : k ≤ R.cells) (hn : n ≤ R.slots) (hQ : Q (some (.int (nar t z))) h ns) : Go Z EL p l e R s m args below meth c n0 Q fs h k n (mkF m pc Ls (.int z :: St)) := by
  intro vm0 T locs X eT N I
  have hZ : Z.Warmed39 (s.setVm vm0).vm := I.hZ
  have hown : (s.setVm vm0).vm.findClass own = some m.cls := C.hownAt I.hZ
  obtain ⟨ff, hr, hrun, hended, hW, hsame⟩ := X.leave (v := some (.int (nar t z))) (fun q => by rw [C.hret, hret] at q; cases q) C.hlk
  refine ⟨_, _, retN X C.hx (C.hret.trans hret) ht (hb C.hby hd) hr, hrun, hended, _, _, ns, rfl, ⟨by rw [show (T.setFrames ff).heap = T.heap from rfl, eT]; exact hQ, N⟩, ?_, ?_, ?_⟩
  · intro y hy
    have J := CHv.at X I.hZ hEL I.2.2.2.2.1
    have q := I.2.1 y (hns y hy)
    rw [show (T.setFrames ff).heap = h from eT]
    exact ⟨q.1, q.2.1, J.safe q.2.1 q.2.2⟩
  · exact (by rw [show (T.setFrames ff).heap = h from eT]; exact (show CHr Z EL s.vm s.heap T.vm h from I.2.2.2.2.2.trans (CHv.at X I.hZ hEL I.2.2.2.2.1)))
  · obtain ⟨k0, hS, hk0⟩ := I.2.2.1
    exact own_end hS (by rw [← eT] at hk0; exact hk0) hW (hsame.mono hk hn)
theorem g_ireturnN (C : Cx Z a0 tb p s m meth c own mname bytes maxL ret n0) (hEL : EW Z a0 EL) {z : Int32} {t : FieldType} (hret : ret = some t) (ht : t = .boolean ∨ t = .byte ∨ t = .char ∨ t = .short) (hd : decode bytes pc = .ok (.ireturn, 1)) (hk : k ≤ R.cells) (hn : n ≤ R.slots) (hQ : Q2 (some (.int (nar t z))) h) : Go Z EL p l e R s m args below meth c n0 (nq Q2) fs h k n (mkF m pc Ls (.int z :: St)) :=
  g_ireturnNX C hEL [] all0 hret ht hd hk hn ⟨rfl, hQ⟩
theorem g_areturnX (C : Cx Z a0 tb p s m meth c own mname bytes maxL ret n0) (hEL : EW Z a0 EL) {v : Value} {t : FieldType} (ns : List Addr) (hns : ∀ x ∈ ns, x ∈ fs) (hret : ret = some t) (ht : t.isReference = true) (hv : v.isRef = true) (hd : decode bytes pc = .ok (.areturn, 1)) (hk : k ≤ R.cells) (hn : n ≤ R.slots) (hQ : Q (some v) h ns) : Go Z EL p l e R s m args below meth c n0 Q fs h k n (mkF m pc Ls (v :: St)) := by
  intro vm0 T locs X eT N I
  have hZ : Z.Warmed39 (s.setVm vm0).vm := I.hZ
  have hown : (s.setVm vm0).vm.findClass own = some m.cls := C.hownAt I.hZ
  obtain ⟨ff, hr, hrun, hended, hW, hsame⟩ := X.leave (v := some v) (fun q => by rw [C.hret, hret] at q; cases q) C.hlk
  refine ⟨_, _, retOut X C.hx (C.hret.trans hret) (own_narref ht hv) (Or.inr (Or.inr (Or.inr (Or.inr ⟨rfl, ht, hv⟩)))) (hb C.hby hd) hr, hrun, hended, _, _, ns, rfl, ⟨by rw [show (T.setFrames ff).heap = T.heap from rfl, eT]; exact hQ, N⟩, ?_, ?_, ?_⟩
  · intro y hy
    have J := CHv.at X I.hZ hEL I.2.2.2.2.1
    have q := I.2.1 y (hns y hy)
    rw [show (T.setFrames ff).heap = h from eT]
    exact ⟨q.1, q.2.1, J.safe q.2.1 q.2.2⟩
  · exact (by rw [show (T.setFrames ff).heap = h from eT]; exact (show CHr Z EL s.vm s.heap T.vm h from I.2.2.2.2.2.trans (CHv.at X I.hZ hEL I.2.2.2.2.1)))
  · obtain ⟨k0, hS, hk0⟩ := I.2.2.1
    exact own_end hS (by rw [← eT] at hk0; exact hk0) hW (hsame.mono hk hn)
theorem g_areturn (C : Cx Z a0 tb p s m meth c own mname bytes maxL ret n0) (hEL : EW Z a0 EL) {v : Value} {t : FieldType} (hret : ret = some t) (ht : t.isReference = true) (hv : v.isRef = true) (hd : decode bytes pc = .ok (.areturn, 1)) (hk : k ≤ R.cells) (hn : n ≤ R.slots) (hQ : Q2 (some v) h) : Go Z EL p l e R s m args below meth c n0 (nq Q2) fs h k n (mkF m pc Ls (v :: St)) :=
  g_areturnX C hEL [] all0 hret ht hv hd hk hn ⟨rfl, hQ⟩
/-- a body's contract: called so, over this heap, it returns with Q, and the literals' invariant goes on -/
def Met (l : Launch) (Z : State) (EL : List (String × Nat)) (y : MethodName) (bytes : ByteArray) (maxL : Nat) (ret : Option FieldType) (ws : List Jvm.Cond) (rm : Room) (fs : List Addr) (as' : Array Value) (h : Heap) (n0 : Nat) (Q : Option Value → Heap → List Addr → Prop) : Prop :=
  n0 ≤ h.size → (∀ x ∈ fs, n0 ≤ x ∧ x < h.size) → MetFree l y (head1 (Jvm.Cond.code y bytes maxL ret :: ws) rm) (fun a U => a = as' ∧ Z.Warmed39 U.vm ∧ U.heap = h ∧ CHv Z EL U.vm h ∧ ∀ x ∈ fs, Safe Z EL U.vm h x) (fun _ _ _ _ _ => True) (fun _ U o U' => ∃ v L ns, o = .returned v ∧ (Q v U'.heap ns ∧ Fr n0 L) ∧ (∀ x ∈ ns, n0 ≤ x ∧ x < U'.heap.size ∧ Safe Z EL U'.vm U'.heap x) ∧ CHr Z EL U.vm U.heap U'.vm U'.heap ∧ ReturnedEndW U o U' L rm.cells rm.slots)
theorem met_of {y : MethodName} {ws : List Jvm.Cond} {as' : Array Value} (hpl : plainFor y = true) (hw : ∀ d ∈ tb, d.before a0 Z = true) (Ls : Array Slot) (hef : ∀ m : MethodId, entryFrame m as' maxL = mkF m 0 Ls [])
    (H : ∀ p e s m below meth c, Cx Z a0 tb p s m meth c y.cls y.name bytes maxL ret n0 → Go Z EL p l e R s m as' below meth c n0 Q fs h 0 0 (mkF m 0 Ls [])) : Met l Z EL y bytes maxL ret ws R fs as' h n0 Q := by
  intro hn0 hfs
  refine MetFree.of_bodySF hpl hisR ?_
  intro p e s m args below meth c s₁ Bd hml0 hP hK
  obtain ⟨rfl, hZ, hh, hH, hsf⟩ := hP
  have X0 : Stand p l e R (s.setVm s.vm) m args below meth c s₁ [] 0 0 := Stand.of_body Bd
  have e0 : s₁.heap = h := by rw [← hh, Bd.state]; rfl
  have C : Cx Z a0 tb p s m meth c y.cls y.name bytes maxL ret n0 := ⟨Bd.exec, hZ, findClass_of_methodNamed Bd.named, Bd.bytes, hml0, Bd.returns, Bd.notSynchronized, hw, (name_of_methodNamed Bd.named Bd.method).1, by rw [hh]; exact hn0⟩
  have I : Inv Z EL s s.vm n0 fs h := ⟨hn0, fun x hx => ⟨(hfs x hx).1, (hfs x hx).2, hsf x hx⟩, ⟨0, (State.WarmedH.refl s).since 0, Nat.zero_le _⟩, hZ, hH, by rw [hh]; exact CHr.refl hH⟩
  obtain ⟨s2, o, st, r⟩ := H p e s m below meth c C s.vm s₁ [] X0 e0 (Fr.nil n0) I
  exact ⟨s2, o, castTop (hef m) st, r⟩
/-- the same as the caller needs it -/
def Ct (l : Launch) (Z : State) (EL : List (String × Nat)) (y : MethodName) (maxL : Nat) (rm : Room) (fs : List Addr) (as' : Array Value) (h : Heap) (n0 : Nat) (Q : Option Value → Heap → List Addr → Prop) : Prop :=
  ∀ ⦃R : Room⦄ ⦃p : Program⦄ ⦃e : Env⦄ ⦃below : List Frame⦄ ⦃s : State⦄ ⦃vm0 : Vm⦄ ⦃args : Array Value⦄ ⦃len W : Nat⦄, Z.Warmed39 vm0 → n0 ≤ h.size → (∀ x ∈ fs, n0 ≤ x ∧ x < h.size ∧ Safe Z EL vm0 h x) → CHv Z EL vm0 h → rm.frames + 1 ≤ R.frames → W + (maxL + 11) + rm.locals ≤ R.locals →
    BackS l R p e below (s.setVm vm0) args y len W (fun A a => a = as' ∧ A.U.heap = h ∧ A.cells + rm.cells ≤ R.cells ∧ A.slots + rm.slots ≤ R.slots) (fun A _ v B => ∃ L ns, (Q v B.U.heap ns ∧ Fr n0 L) ∧ B.locs = A.locs ++ L ∧ B.cells = A.cells + rm.cells ∧ B.slots = A.slots + rm.slots ∧ (∀ x ∈ ns, n0 ≤ x ∧ x < B.U.heap.size ∧ Safe Z EL B.U.vm B.U.heap x) ∧ CHr Z EL vm0 h B.U.vm B.U.heap)
theorem ct_of {y : MethodName} {rm : Room} {as' : Array Value} (hEL : EW Z a0 EL) (hw : ∀ d ∈ tb, d.before a0 Z = true) (wc : Jvm.Cond.code y bytes maxL ret ∈ tb) (wz : Jvm.Cond.initialized y.cls ∈ tb) (M : Met l Z EL y bytes maxL ret [] rm fs as' h n0 Q) : Ct l Z EL y maxL rm fs as' h n0 Q := by
  intro R p e below s vm0 args len W hZ hn0 hfs H hf hl
  exact BackS.of_freeW (bytes := bytes) (maxL := maxL) (ret := ret) (E := fun _ first o t L k n => k = rm.cells ∧ n = rm.slots ∧ (∃ v ns, o = .returned v ∧ (Q v t.heap ns ∧ Fr n0 L) ∧ ∀ x ∈ ns, n0 ≤ x ∧ x < t.heap.size ∧ Safe Z EL t.vm t.heap x) ∧ CHr Z EL first.vm first.heap t.vm t.heap) (M hn0 fun x hx => ⟨(hfs x hx).1, (hfs x hx).2.1⟩) hf hl
    (fun m meth c A a Y hp => have hU : Z.Warmed39 A.U.vm := wtrans (s := s.setVm vm0) hZ Y.warmed
      ⟨by show (Cond.and _ .tt).before a A.U = true; rw [Cond.before_and, mv hU (hw _ wc)]; rfl, mv hU (hw _ wc), mv hU (hw _ wz), hp.2.2.1, hp.2.2.2⟩)
    (fun m meth c A a g mk Y hp => ⟨hp.1, wtrans (s := s.setVm vm0) hZ Y.warmed, hp.2.1, (CHv.at Y hZ hEL H).1, fun x hx => (CHv.at Y hZ hEL H).safe (hfs x hx).2.1 (hfs x hx).2.2⟩) (fun _ _ _ _ _ _ _ _ _ => trivial)
    (fun _ _ _ _ ⟨v, L, ns, h1, h2, hs, h3, h4⟩ => ⟨L, _, _, h4, rfl, rfl, ⟨v, ns, h1, h2, hs⟩, h3⟩)
    (fun m meth c A a g mk v t L k n Y hp _ _ ⟨e1, e2, ⟨v', ns, e3, e4, e6⟩, e5⟩ => by
      cases e3; subst e1 e2
      refine ⟨L, ns, e4, rfl, rfl, rfl, e6, (CHv.at Y hZ hEL H).trans ?_⟩
      rw [← hp.2.1]; exact e5)
/-- a callee that interns nothing -/
theorem ct_back {y : MethodName} {rm : Room} {as' : Array Value} (hEL : EW Z a0 EL) (hK : ∀ v h', Q2 v h' → Keep h h' fs)
    (B0 : ∀ {R : Room} {p : Program} {e : Env} {below : List Frame} {s : State} {args : Array Value} {len W : Nat}, Z.Warmed39 s.vm → n0 ≤ h.size → (∀ x ∈ fs, n0 ≤ x) → rm.frames + 1 ≤ R.frames → W + (maxL + 11) + rm.locals ≤ R.locals →
      Back l R p e below s args y len W (fun A a => a = as' ∧ A.U.heap = h ∧ A.cells + rm.cells ≤ R.cells ∧ A.slots + rm.slots ≤ R.slots) (fun A _ v B => ∃ L, (Q2 v B.U.heap ∧ Fr n0 L) ∧ B.locs = A.locs ++ L ∧ B.cells = A.cells + rm.cells ∧ B.slots = A.slots + rm.slots)) : Ct l Z EL y maxL rm fs as' h n0 (nq Q2) := by
  intro R p e below s vm0 args len W hZ hn0 hfs H hf hl m meth c A g ig mk a X hg hsize hdg hW hn hp
  obtain ⟨v, B, X', ⟨L, ⟨q1, q2⟩, q3, q4, q5⟩, hsteps⟩ := B0 (s := s.setVm vm0) hZ hn0 (fun x hx => (hfs x hx).1) hf hl m meth c A g ig mk a X hg hsize hdg hW hn hp
  have K := hK _ _ q1
  have c1 := CHr.keep K (fun x hx => (hfs x hx).2.2) H
  have c2 := CHv.at X' hZ hEL c1.1
  exact ⟨v, B, X'.retabled X'.warmed.wide, X'.warmed.since _, by rw [hp.2.1]; exact K.1, ⟨L, [], ⟨⟨rfl, q1⟩, q2⟩, q3, q4, q5, all0, c1.trans c2⟩, hsteps⟩
theorem own_inv {vm0 vm1 : Vm} {h' : Heap} {k1 : Nat} {ns : List Addr} (I : Inv Z EL s vm0 n0 fs h) (hS : (s.setVm vm0).Since vm1 k1) (hk : k1 ≤ h'.size) (hle : h.size ≤ k1) (hns : ∀ x ∈ ns, n0 ≤ x ∧ x < h'.size ∧ Safe Z EL vm1 h' x) (hC : CHr Z EL vm0 h vm1 h') : Inv Z EL s vm1 n0 (ns ++ fs) h' := by
  obtain ⟨i1, i2, ⟨k0, i3, i4⟩, i5, i6, i7⟩ := I
  refine ⟨Nat.le_trans i1 hC.2.1, fun x hx => ?_, ⟨k1, i3.trans hS (Nat.le_trans i4 hle), hk⟩, State.Warmed39.trans (t := s.setVm vm0) i5 hS.1, hC.1, i7.trans hC⟩
  rcases List.mem_append.mp hx with hx | hx
  · exact hns x hx
  · exact ⟨(i2 x hx).1, Nat.lt_of_lt_of_le (i2 x hx).2.1 hC.2.1, hC.safe (i2 x hx).2.1 (i2 x hx).2.2⟩
theorem g_staticX (C : Cx Z a0 tb p s m meth c own mname bytes maxL ret n0) {index : Nat} {y : MethodName} {yb : ByteArray} {yr : Option FieldType} {yl' : Nat} (w1 : Jvm.Cond.methodLink own index y ∈ tb) (w2 : Jvm.Cond.static y ∈ tb) (w3 : Jvm.Cond.initialized y.cls ∈ tb) (w4 : Jvm.Cond.code y yb yl' yr ∈ tb) (hy : y.cls ≠ "java/lang/invoke/MethodHandle" ∧ y.cls ≠ "java/lang/invoke/VarHandle") {rm : Room} {fs0 : List Addr} (argsL : List Value) {Qy : Option Value → Heap → List Addr → Prop} {yl : Nat} (K0 : Ct l Z EL y yl rm fs0 argsL.toArray h n0 Qy) (hfs : ∀ x ∈ fs0, x ∈ fs) (hf : rm.frames + 1 ≤ R.frames) (W : Nat) (hlo : W + (yl + 11) + rm.locals ≤ R.locals) (hsz : Ls.size = maxL) {sig : MethodDescriptor} (hdesc : parseMethodDescriptor y.desc = some sig) (hlen : argsL.length = sig.parameters.length) (rest : List Value) (hs : St = argsL.reverse ++ rest) (hW : (rest.map fun v => v.category).sum ≤ W) (hd : decode bytes pc = .ok (.invokestatic index, 3)) (hc : k + rm.cells ≤ R.cells) (hn : n + rm.slots ≤ R.slots)
    (K : ∀ v h' ns, Qy v h' ns → Go Z EL p l e R s m args below meth c n0 Q (ns ++ fs) h' (k + rm.cells) (n + rm.slots) (mkF m (pc + 3) Ls (v.toList ++ rest))) : Go Z EL p l e R s m args below meth c n0 Q fs h k n (mkF m pc Ls St) := by
  intro vm0 T locs X eT N I
  have hZ : Z.Warmed39 (s.setVm vm0).vm := I.hZ
  have hown : (s.setVm vm0).vm.findClass own = some m.cls := C.hownAt I.hZ
  obtain ⟨v, _, ⟨T', L', k', n'⟩, -, X', hS, hgr, ⟨Lc, ns, ⟨hQ, hN⟩, hl', hk', hn', hns, hC⟩, st⟩ := callSS X C.hx hown (mvT hZ (C.hw w1)) (mvT hZ (C.hw w2)) (mvT hZ (C.hw w3)) (mvT hZ (C.hw w4)) hy (K0 (W := W) I.hZ I.1 (I.less hfs).2.1 I.2.2.2.2.1 hf hlo) (g := mkF m pc Ls St) rfl (hsz.trans C.hml.symm) (argsL := argsL) (rest := rest) (fun sg q => by cases hdesc.symm.trans q; exact hlen) hs (by show 2 * 0 + _ ≤ _; omega) (hb C.hby hd) (fun _ _ => ⟨rfl, eT, hc, hn⟩)
  dsimp only [Pt.U, Pt.locs, Pt.cells, Pt.slots] at X' hl' hk' hn' st hQ hS hgr hC hns
  subst hl' hk' hn'
  obtain ⟨s2, o, st2, r⟩ := K v T'.heap ns hQ T'.vm T' _ X' rfl (N.app hN) (own_inv I hS (Nat.le_refl _) (by rw [← eT]; exact hgr) hns hC)
  exact ⟨s2, o, st.trans st2, r⟩
theorem g_static (C : Cx Z a0 tb p s m meth c own mname bytes maxL ret n0) {index : Nat} {y : MethodName} {yb : ByteArray} {yr : Option FieldType} {yl' : Nat} (w1 : Jvm.Cond.methodLink own index y ∈ tb) (w2 : Jvm.Cond.static y ∈ tb) (w3 : Jvm.Cond.initialized y.cls ∈ tb) (w4 : Jvm.Cond.code y yb yl' yr ∈ tb) (hy : y.cls ≠ "java/lang/invoke/MethodHandle" ∧ y.cls ≠ "java/lang/invoke/VarHandle") {rm : Room} {fs0 : List Addr} (argsL : List Value) {Qy : Option Value → Heap → Prop} {yl : Nat} (K0 : Ct l Z EL y yl rm fs0 argsL.toArray h n0 (nq Qy)) (hfs : ∀ x ∈ fs0, x ∈ fs) (hf : rm.frames + 1 ≤ R.frames) (W : Nat) (hlo : W + (yl + 11) + rm.locals ≤ R.locals) (hsz : Ls.size = maxL) {sig : MethodDescriptor} (hdesc : parseMethodDescriptor y.desc = some sig) (hlen : argsL.length = sig.parameters.length) (rest : List Value) (hs : St = argsL.reverse ++ rest) (hW : (rest.map fun v => v.category).sum ≤ W) (hd : decode bytes pc = .ok (.invokestatic index, 3)) (hc : k + rm.cells ≤ R.cells) (hn : n + rm.slots ≤ R.slots)
    (K : ∀ v h', Qy v h' → Go Z EL p l e R s m args below meth c n0 Q fs h' (k + rm.cells) (n + rm.slots) (mkF m (pc + 3) Ls (v.toList ++ rest))) : Go Z EL p l e R s m args below meth c n0 Q fs h k n (mkF m pc Ls St) :=
  g_staticX C w1 w2 w3 w4 hy argsL K0 hfs hf W hlo hsz hdesc hlen rest hs hW hd hc hn (fun v h' ns q => by obtain ⟨rfl, q⟩ := q; exact K v h' q)
theorem g_specialX (C : Cx Z a0 tb p s m meth c own mname bytes maxL ret n0) {index : Nat} {y : MethodName} {a : Addr} {yb : ByteArray} {yl' : Nat} (w1 : Jvm.Cond.methodLink own index y ∈ tb) (w2 : Jvm.Cond.instanceMethod y ∈ tb) (w4 : Jvm.Cond.code y yb yl' none ∈ tb) (hy1 : y.name = "<init>") (hy : y.cls ≠ "java/lang/invoke/MethodHandle" ∧ y.cls ≠ "java/lang/invoke/VarHandle") {rm : Room} {fs0 : List Addr} (argsL : List Value) {Qy : Option Value → Heap → List Addr → Prop} {yl : Nat} (K0 : Ct l Z EL y yl rm fs0 (.ref a :: argsL).toArray h n0 Qy) (hfs : ∀ x ∈ fs0, x ∈ fs) (hf : rm.frames + 1 ≤ R.frames) (W : Nat) (hlo : W + (yl + 11) + rm.locals ≤ R.locals) (hsz : Ls.size = maxL) {sig : MethodDescriptor} (hdesc : parseMethodDescriptor y.desc = some sig) (hlen : argsL.length = sig.parameters.length) (rest : List Value) (hs : St = argsL.reverse ++ .ref a :: rest) (hW : (rest.map fun v => v.category).sum ≤ W) (hd : decode bytes pc = .ok (.invokespecial index, 3)) (hc : k + rm.cells ≤ R.cells) (hn : n + rm.slots ≤ R.slots)
    (K : ∀ v h' ns, Qy v h' ns → Go Z EL p l e R s m args below meth c n0 Q (ns ++ fs) h' (k + rm.cells) (n + rm.slots) (mkF m (pc + 3) Ls (v.toList ++ rest))) : Go Z EL p l e R s m args below meth c n0 Q fs h k n (mkF m pc Ls St) := by
  intro vm0 T locs X eT N I
  have hZ : Z.Warmed39 (s.setVm vm0).vm := I.hZ
  have hown : (s.setVm vm0).vm.findClass own = some m.cls := C.hownAt I.hZ
  obtain ⟨v, _, ⟨T', L', k', n'⟩, -, X', hS, hgr, ⟨Lc, ns, ⟨hQ, hN⟩, hl', hk', hn', hns, hC⟩, st⟩ := X.specialBackS C.hx hy1 hown (mvT hZ (C.hw w1)) (mvT hZ (C.hw w2)) (mvT hZ (C.hw w4)) hy (K0 (W := W) I.hZ I.1 (I.less hfs).2.1 I.2.2.2.2.1 hf hlo) (g := mkF m pc Ls St) rfl (hsz.trans C.hml.symm) (Steps.refl _) (a := a) (argsL := argsL) (rest := rest) (fun sg q => by cases hdesc.symm.trans q; exact hlen) hs (by show 2 * 0 + _ ≤ _; omega) (hb C.hby hd) (fun _ _ => ⟨rfl, eT, hc, hn⟩)
  dsimp only [Pt.U, Pt.locs, Pt.cells, Pt.slots] at X' hl' hk' hn' st hQ hS hgr hC hns
  subst hl' hk' hn'
  obtain ⟨s2, o, st2, r⟩ := K v T'.heap ns hQ T'.vm T' _ X' rfl (N.app hN) (own_inv I hS (Nat.le_refl _) (by rw [← eT]; exact hgr) hns hC)
  exact ⟨s2, o, st.trans st2, r⟩
theorem g_special (C : Cx Z a0 tb p s m meth c own mname bytes maxL ret n0) {index : Nat} {y : MethodName} {a : Addr} {yb : ByteArray} {yl' : Nat} (w1 : Jvm.Cond.methodLink own index y ∈ tb) (w2 : Jvm.Cond.instanceMethod y ∈ tb) (w4 : Jvm.Cond.code y yb yl' none ∈ tb) (hy1 : y.name = "<init>") (hy : y.cls ≠ "java/lang/invoke/MethodHandle" ∧ y.cls ≠ "java/lang/invoke/VarHandle") {rm : Room} {fs0 : List Addr} (argsL : List Value) {Qy : Option Value → Heap → Prop} {yl : Nat} (K0 : Ct l Z EL y yl rm fs0 (.ref a :: argsL).toArray h n0 (nq Qy)) (hfs : ∀ x ∈ fs0, x ∈ fs) (hf : rm.frames + 1 ≤ R.frames) (W : Nat) (hlo : W + (yl + 11) + rm.locals ≤ R.locals) (hsz : Ls.size = maxL) {sig : MethodDescriptor} (hdesc : parseMethodDescriptor y.desc = some sig) (hlen : argsL.length = sig.parameters.length) (rest : List Value) (hs : St = argsL.reverse ++ .ref a :: rest) (hW : (rest.map fun v => v.category).sum ≤ W) (hd : decode bytes pc = .ok (.invokespecial index, 3)) (hc : k + rm.cells ≤ R.cells) (hn : n + rm.slots ≤ R.slots)
    (K : ∀ v h', Qy v h' → Go Z EL p l e R s m args below meth c n0 Q fs h' (k + rm.cells) (n + rm.slots) (mkF m (pc + 3) Ls (v.toList ++ rest))) : Go Z EL p l e R s m args below meth c n0 Q fs h k n (mkF m pc Ls St) :=
  g_specialX C w1 w2 w4 hy1 hy argsL K0 hfs hf W hlo hsz hdesc hlen rest hs hW hd hc hn (fun v h' ns q => by obtain ⟨rfl, q⟩ := q; exact K v h' q)
theorem g_virtualX (C : Cx Z a0 tb p s m meth c own mname bytes maxL ret n0) {index : Nat} {y z : MethodName} {Cn : String} {a : Addr} (E : Exa Z h a Cn) (w1 : Jvm.Cond.methodLink own index y ∈ tb) (w2 : Jvm.Cond.declares y ∈ tb) (hnf : ∀ {s' : State}, Z.Warmed39 s'.vm → NotFace s' y) (w3 : Jvm.Cond.selects Cn y z ∈ tb) (w4 : Jvm.Cond.instanceMethod z ∈ tb) (hy : y.cls ≠ "java/lang/invoke/MethodHandle" ∧ y.cls ≠ "java/lang/invoke/VarHandle") {rm : Room} {fs0 : List Addr} (argsL : List Value) {Qy : Option Value → Heap → List Addr → Prop} {yl : Nat} (K0 : Ct l Z EL z yl rm fs0 (.ref a :: argsL).toArray h n0 Qy) (hfs : ∀ x ∈ fs0, x ∈ fs) (hf : rm.frames + 1 ≤ R.frames) (W : Nat) (hlo : W + (yl + 11) + rm.locals ≤ R.locals) (hsz : Ls.size = maxL) {sig : MethodDescriptor} (hdesc : parseMethodDescriptor y.desc = some sig) (hlen : argsL.length = sig.parameters.length) (rest : List Value) (hs : St = argsL.reverse ++ .ref a :: rest) (hW : (rest.map fun v => v.category).sum ≤ W) (hd : decode bytes pc = .ok (.invokevirtual index, 3)) (hc : k + rm.cells ≤ R.cells) (hn : n + rm.slots ≤ R.slots)
    (K : ∀ v h' ns, Qy v h' ns → Go Z EL p l e R s m args below meth c n0 Q (ns ++ fs) h' (k + rm.cells) (n + rm.slots) (mkF m (pc + 3) Ls (v.toList ++ rest))) : Go Z EL p l e R s m args below meth c n0 Q fs h k n (mkF m pc Ls St) := by
  intro vm0 T locs X eT N I
  have hZ : Z.Warmed39 (s.setVm vm0).vm := I.hZ
  have hown : (s.setVm vm0).vm.findClass own = some m.cls := C.hownAt I.hZ
  obtain ⟨cq, kq, qa, qb, qc⟩ := isOf hZ eT E
  obtain ⟨v, _, ⟨T', L', k', n'⟩, -, X', hS, hgr, ⟨Lc, ns, ⟨hQ, hN⟩, hl', hk', hn', hns, hC⟩, st⟩ := X.virtualBackS C.hx hown (mvT hZ (C.hw w1)) (mvT hZ (C.hw w2)) (hnf hZ) (mvT hZ (C.hw w3)) (mvT hZ (C.hw w4)) hy (K0 (W := W) I.hZ I.1 (I.less hfs).2.1 I.2.2.2.2.1 hf hlo) qa qc (g := mkF m pc Ls St) rfl (hsz.trans C.hml.symm) (Steps.refl _) (argsL := argsL) (rest := rest) (fun sg q => by cases hdesc.symm.trans q; exact hlen) hs (by show 2 * 0 + _ ≤ _; omega) (hb C.hby hd) (fun _ _ => ⟨rfl, eT, hc, hn⟩)
  dsimp only [Pt.U, Pt.locs, Pt.cells, Pt.slots] at X' hl' hk' hn' st hQ hS hgr hC hns
  subst hl' hk' hn'
  obtain ⟨s2, o, st2, r⟩ := K v T'.heap ns hQ T'.vm T' _ X' rfl (N.app hN) (own_inv I hS (Nat.le_refl _) (by rw [← eT]; exact hgr) hns hC)
  exact ⟨s2, o, st.trans st2, r⟩
theorem g_virtual (C : Cx Z a0 tb p s m meth c own mname bytes maxL ret n0) {index : Nat} {y z : MethodName} {Cn : String} {a : Addr} (E : Exa Z h a Cn) (w1 : Jvm.Cond.methodLink own index y ∈ tb) (w2 : Jvm.Cond.declares y ∈ tb) (hnf : ∀ {s' : State}, Z.Warmed39 s'.vm → NotFace s' y) (w3 : Jvm.Cond.selects Cn y z ∈ tb) (w4 : Jvm.Cond.instanceMethod z ∈ tb) (hy : y.cls ≠ "java/lang/invoke/MethodHandle" ∧ y.cls ≠ "java/lang/invoke/VarHandle") {rm : Room} {fs0 : List Addr} (argsL : List Value) {Qy : Option Value → Heap → Prop} {yl : Nat} (K0 : Ct l Z EL z yl rm fs0 (.ref a :: argsL).toArray h n0 (nq Qy)) (hfs : ∀ x ∈ fs0, x ∈ fs) (hf : rm.frames + 1 ≤ R.frames) (W : Nat) (hlo : W + (yl + 11) + rm.locals ≤ R.locals) (hsz : Ls.size = maxL) {sig : MethodDescriptor} (hdesc : parseMethodDescriptor y.desc = some sig) (hlen : argsL.length = sig.parameters.length) (rest : List Value) (hs : St = argsL.reverse ++ .ref a :: rest) (hW : (rest.map fun v => v.category).sum ≤ W) (hd : decode bytes pc = .ok (.invokevirtual index, 3)) (hc : k + rm.cells ≤ R.cells) (hn : n + rm.slots ≤ R.slots)
    (K : ∀ v h', Qy v h' → Go Z EL p l e R s m args below meth c n0 Q fs h' (k + rm.cells) (n + rm.slots) (mkF m (pc + 3) Ls (v.toList ++ rest))) : Go Z EL p l e R s m args below meth c n0 Q fs h k n (mkF m pc Ls St) :=
  g_virtualX C E w1 w2 hnf w3 w4 hy argsL K0 hfs hf W hlo hsz hdesc hlen rest hs hW hd hc hn (fun v h' ns q => by obtain ⟨rfl, q⟩ := q; exact K v h' q)
theorem own_same {y : MethodName} (hy : y.cls ≠ "java/lang/invoke/MethodHandle" ∧ y.cls ≠ "java/lang/invoke/VarHandle") (hd : (Cond.declares y).before a0 Z = true) (hni : ∃ c k, Z.vm.findClass y.cls = some c ∧ Z.vm.classes[c]? = some k ∧ k.isInterface = false) : (Cond.sameMethod y.cls y.cls y.name y.desc).before a0 Z = true := by
  obtain ⟨m, meth, h1, -⟩ := Cond.declares_spec hd
  have h2 := State.methodFound?_of_named h1 hy
  obtain ⟨c, k, q1, q2, q3⟩ := hni
  have h3 : Z.methodNamed? ⟨y.cls, y.name, y.desc⟩ = some m := h1
  first | (simp [Cond.before, Cond.holds, Cond.value, q1, h2, q2, q3, h3]; done) | (simp [Cond.before, Cond.holds, Cond.value, q1, h2, q2, q3, h1]; done)
theorem nf_sel {y : MethodName} {Cn : String} (hw : ∀ d ∈ tb, d.before a0 Z = true) (w : Jvm.Cond.selects Cn y y ∈ tb) {s' : State} (hZ : Z.Warmed39 s'.vm) : NotFace s' y := notFace_of_selects (args := #[]) (mvT hZ (hw _ w))
end OwnGo
end Jvm.OwnGo
namespace Jvm.OwnGo
open Sem ClassFile Op Lib Jvm.Stand Jvm.Free Jvm.LawKit Jvm.RoadKit Bundle
section OwnBox
variable {Z : State} {a0 : Array Value} {tb : List Jvm.Cond} {p : Program} {l : Launch} {e : Env} {R : Room} {s : State} {m : MethodId} {args : Array Value} {below : List Frame} {meth : Method} {c : Code} {own mname : String} {bytes : ByteArray} {maxL : Nat} {ret : Option FieldType} {n0 : Nat} {Q : Option Value → Heap → List Addr → Prop} {Q2 : Option Value → Heap → Prop} {fs : List Addr} {h : Heap} {k n : Nat} {pc : Nat} {Ls : Array Slot} {St : List Value} {EL : List (String × Nat)}
end OwnBox
end Jvm.OwnGo
/- laws to paste: Road.backV, Road.eqW (cut by pick.py; bodies as the Statement names them) -/
namespace Jvm.Pilot.@@N@@
namespace StrChars
open Jvm Sem ClassFile Op Lib Jvm.Stand Jvm.Free.XT Jvm.Free.ALB Jvm.Free.JM Jvm.Free
open Jvm.Lib.Cold (StaticIs)
/-- a char array whose places are chars -/
def Ch (a : Addr) (A : Cell) (U : State) : Prop := Arr .char a A U ∧ Typed .char A
theorem Ch.mv {a : Addr} {A : Cell} {U U' : State} (h : Ch a A U) (hal : U.vm.Alike U'.vm) (hh : U'.heap = U.heap) : Ch a A U' := ⟨h.1.mv hal hh, h.2⟩
theorem Ch.keep {a : Addr} {A : Cell} {U U' : State} (h : Ch a A U) (hal : U.vm.Alike U'.vm) (hk : U'.heap[a]? = some A) : Ch a A U' := ⟨h.1.keep hal hk, h.2⟩
/-- what place i of a char[]'s cell holds -/
def cv (A : Cell) (i : Nat) : Int32 := match A.slots[i]? with | some (.int x) => x | _ => 0
theorem Ch.get {a : Addr} {A : Cell} {U : State} (h : Ch a A U) {i : Nat} (hi : i < A.slots.size) : A.slots[i]? = some (.int (cv A i)) := by
  have e := Array.getElem?_eq_getElem hi
  have f := h.2 i _ e
  unfold cv; rw [e]
  generalize A.slots[i] = v at f
  cases v <;> simp [fits] at f ⊢
/-- the byte that i2b leaves of a char -/
def lo8 (x : Int32) : Int32 := x.toInt8.toInt32
theorem fits_lo8 (y : Int32) : fits .byte (.int (lo8 y)) = true := by
  have h1 := y.toInt8.le_toInt
  have h2 := y.toInt8.toInt_lt
  simp only [lo8, fits, Bool.and_eq_true, decide_eq_true_eq, Int32.le_iff_toInt_le, Int8.toInt_toInt32, show (-128 : Int32).toInt = -128 from by decide, show (127 : Int32).toInt = 127 from by decide]
  omega
/-- A' is A but that each place j of lo .. hi - 1 holds f j -/
def Laid (A A' : Cell) (lo hi : Nat) (f : Nat → Value) : Prop := A'.cls = A.cls ∧ A'.vm = A.vm ∧ A'.slots.size = A.slots.size ∧ ∀ i, A'.slots[i]? = if lo ≤ i ∧ i < hi then some (f i) else A.slots[i]?
theorem Laid.zero (A : Cell) (lo : Nat) (f : Nat → Value) : Laid A A lo (lo + 0) f := ⟨rfl, rfl, rfl, fun i => by rw [if_neg (by omega)]⟩
theorem Laid.step {A Ak : Cell} {lo k : Nat} {f : Nat → Value} {v : Value} (h : Laid A Ak lo k f) (hlo : lo ≤ k) (hk : k < Ak.slots.size) (hv : v = f k) : Laid A (Ak.setSlot k v) lo (k + 1) f := by
  refine ⟨h.1, h.2.1, by simpa [Cell.setSlot] using h.2.2.1, fun i => ?_⟩
  by_cases e : k = i
  · subst e; rw [Cell.slots_setSlot_self v hk, if_pos (by omega), hv]
  · rw [Cell.slots_setSlot_ne v e, h.2.2.2 i]
    by_cases q : lo ≤ i ∧ i < k
    · rw [if_pos q, if_pos (by omega)]
    · rw [if_neg q, if_neg (by omega)]
def U16 : String := "java/lang/StringUTF16"
namespace Cmp5
def yN : MethodName := ⟨"java/lang/StringUTF16", "compress", "([CI[BII)I"⟩
abbrev yB : ByteArray := jdk_52_method_21_code
theorem d0 : decode yB 0 = .ok (.iconst 0, 1) := by decide +kernel
theorem d1 : decode yB 1 = .ok (.istore 5, 2) := by decide +kernel
theorem d3 : decode yB 3 = .ok (.iload 5, 2) := by decide +kernel
theorem d5 : decode yB 5 = .ok (.iload 4, 2) := by decide +kernel
theorem d7 : decode yB 7 = .ok (.if_icmp (.ge) 37, 3) := by decide +kernel
theorem d10 : decode yB 10 = .ok (.aload_n 0, 1) := by decide +kernel
theorem d11 : decode yB 11 = .ok (.iload_n 1, 1) := by decide +kernel
theorem d12 : decode yB 12 = .ok (.caload, 1) := by decide +kernel
theorem d13 : decode yB 13 = .ok (.istore 6, 2) := by decide +kernel
theorem d15 : decode yB 15 = .ok (.iload 6, 2) := by decide +kernel
theorem d17 : decode yB 17 = .ok (.sipush 255, 3) := by decide +kernel
theorem d20 : decode yB 20 = .ok (.if_icmp (.le) 6, 3) := by decide +kernel
theorem d26 : decode yB 26 = .ok (.aload_n 2, 1) := by decide +kernel
theorem d27 : decode yB 27 = .ok (.iload_n 3, 1) := by decide +kernel
theorem d28 : decode yB 28 = .ok (.iload 6, 2) := by decide +kernel
theorem d30 : decode yB 30 = .ok (.i2b, 1) := by decide +kernel
theorem d31 : decode yB 31 = .ok (.bastore, 1) := by decide +kernel
theorem d32 : decode yB 32 = .ok (.iinc 1 1, 3) := by decide +kernel
theorem d35 : decode yB 35 = .ok (.iinc 3 1, 3) := by decide +kernel
theorem d38 : decode yB 38 = .ok (.iinc 5 1, 3) := by decide +kernel
theorem d41 : decode yB 41 = .ok (.goto (-38), 3) := by decide +kernel
theorem d44 : decode yB 44 = .ok (.iload 4, 2) := by decide +kernel
theorem d46 : decode yB 46 = .ok (.ireturn, 1) := by decide +kernel
def site : List Cond := []
def tab : Cond := tabOf yN yB 7 (some .int) site
def P (b : Addr) (A : Cell) (d : Addr) (B : Cell) (o q len : Nat) (args : Array Value) (s : State) : Prop := args = #[.ref b, .int (Int32.ofNat o), .ref d, .int (Int32.ofNat q), .int (Int32.ofNat len)] ∧ Ch b A s ∧ Arr .byte d B s ∧ b ≠ d ∧ o + len ≤ A.slots.size ∧ q + len ≤ B.slots.size ∧ ∀ i, i < len → ¬ 255 < cv A (o + i)
def E (b : Addr) (A : Cell) (d : Addr) (B : Cell) (o q len : Nat) (r : Option Value) (s u : State) : Prop := r = some (.int (Int32.ofNat len)) ∧ ∃ B', Put d B' s u ∧ Laid B B' q (q + len) (fun j => Value.int (lo8 (cv A (o + (j - q)))))
/-- no char of the range above 255: len; the places written hold each char's low byte -/
theorem law (l : Launch) (b : Addr) (A : Cell) (d : Addr) (B : Cell) (o q len : Nat) : Law l yN 5 5 0 0 yB 7 (some .int) site (P b A d B o q len) (E b A d B o q len) (copyLocs d q len) 0 0 := by
  refine Law.of_walk (plainFor_of_name (by decide +kernel)) (by decide +kernel) (by decide +kernel) (by decide) (fun _ _ h => by rw [h.1]; rfl) (fun _ U U' hal hh h => ⟨h.1, h.2.1.mv hal hh, h.2.2.1.mv hal hh, h.2.2.2⟩) (fun r U U' V V' h1 hal h2 h => ⟨h.1, h.2.elim fun B' q => ⟨B', q.1.mv h1 h2, q.2⟩⟩) ?_
  intro p e s m args below meth c s₁ X0 hexec hbytes hml hret hlk hnm hown hh0 W hP
  obtain ⟨rfl, hA, hB, hne, l1, l2, hp⟩ := hP
  have c1 : Steps p.tables e below (s₁.setTop (entryFrame m #[.ref b, .int (Int32.ofNat o), .ref d, .int (Int32.ofNat q), .int (Int32.ofNat len)] 7)) (s₁.setTop (mkF m 0 #[.val (.ref b), .val (.int (Int32.ofNat o)), .val (.ref d), .val (.int (Int32.ofNat q)), .val (.int (Int32.ofNat len)), .unset, .unset] [])) := entry rfl
  have hA0 := hA.1.mv X0.warmed.alike hh0
  have hB0 := hB.mv X0.warmed.alike hh0
  have a31 := hA.1.2.2.2
  have c2 : Steps p.tables e below (s₁.setTop (entryFrame m #[.ref b, .int (Int32.ofNat o), .ref d, .int (Int32.ofNat q), .int (Int32.ofNat len)] 7)) (s₁.setTop (mkF m 3 #[.val (.ref b), .val (.int (Int32.ofNat o)), .val (.ref d), .val (.int (Int32.ofNat q)), .val (.int (Int32.ofNat len)), .val (.int 0), .unset] [])) := c1.trans (by
    refine iconstV X0.here hexec rfl 0 (hb hbytes d0) (by decide) ?_
    refine XS.istore X0.here hexec rfl (hb hbytes d1) rfl rfl ?_
    exact Steps.refl _)
  have loop : ∀ (r i : Nat), i + r = len → ∀ (z : Slot), (z = .unset ∨ ∃ w, z = .val w ∧ w.category = 1) → ∀ (Tl : State) (Bk : Cell), Stand p l e { frames := 0, locals := 0, cells := 0, slots := 0 } s m #[.ref b, .int (Int32.ofNat o), .ref d, .int (Int32.ofNat q), .int (Int32.ofNat len)] below meth c Tl ([] ++ copyLocs d q i) 0 0 → Put d Bk s₁ Tl → Laid B Bk q (q + i) (fun j => Value.int (lo8 (cv A (o + (j - q))))) →
      Steps p.tables e below (s₁.setTop (entryFrame m #[.ref b, .int (Int32.ofNat o), .ref d, .int (Int32.ofNat q), .int (Int32.ofNat len)] 7)) (Tl.setTop (mkF m 3 #[.val (.ref b), .val (.int (Int32.ofNat (o + i))), .val (.ref d), .val (.int (Int32.ofNat (q + i))), .val (.int (Int32.ofNat len)), .val (.int (Int32.ofNat i)), z] [])) → ∃ (T' : State) (B' : Cell) (z' : Slot), Stand p l e { frames := 0, locals := 0, cells := 0, slots := 0 } s m #[.ref b, .int (Int32.ofNat o), .ref d, .int (Int32.ofNat q), .int (Int32.ofNat len)] below meth c T' ([] ++ copyLocs d q len) 0 0 ∧ Put d B' s₁ T' ∧ Laid B B' q (q + len) (fun j => Value.int (lo8 (cv A (o + (j - q))))) ∧
      Steps p.tables e below (s₁.setTop (entryFrame m #[.ref b, .int (Int32.ofNat o), .ref d, .int (Int32.ofNat q), .int (Int32.ofNat len)] 7)) (T'.setTop (mkF m 3 #[.val (.ref b), .val (.int (Int32.ofNat (o + len))), .val (.ref d), .val (.int (Int32.ofNat (q + len))), .val (.int (Int32.ofNat len)), .val (.int (Int32.ofNat len)), z'] [])) := by
    intro r
    induction r with
    | zero =>
      intro i hi z hz Tl Bk Xl pl fl cl
      have hil : i = len := by omega
      rw [hil] at Xl fl cl
      exact ⟨Tl, Bk, z, Xl, pl, fl, cl⟩
    | succ r ih =>
      intro i hi z hz Tl Bk Xl pl fl cl
      have all := X0.warmed.alike.symm.trans Xl.warmed.alike
      have hAl := hA0.keep all (pl.other hne hA0.1)
      have hBk := hB0.like all pl.1 fl.1 fl.2.1 fl.2.2.1
      have hlt : q + i < Bk.slots.size := by rw [fl.2.2.1]; omega
      have c3 : Steps p.tables e below (s₁.setTop (entryFrame m #[.ref b, .int (Int32.ofNat o), .ref d, .int (Int32.ofNat q), .int (Int32.ofNat len)] 7)) (Tl.setTop (mkF m 12 #[.val (.ref b), .val (.int (Int32.ofNat (o + i))), .val (.ref d), .val (.int (Int32.ofNat (q + i))), .val (.int (Int32.ofNat len)), .val (.int (Int32.ofNat i)), z] [.int (Int32.ofNat (o + i)), .ref b])) := cl.trans (by
        refine XS.iload Xl.here hexec rfl (hb hbytes d3) rfl ?_
        refine XS.iload Xl.here hexec rfl (hb hbytes d5) rfl ?_
        refine XS.icmpNo Xl.here hexec rfl (hb hbytes d7) rfl (ii_ge_f (lt32 (by omega) (by omega))) ?_
        refine XS.aloadN Xl.here hexec rfl (hb hbytes d10) rfl rfl ?_
        refine XS.iloadN Xl.here hexec rfl (hb hbytes d11) rfl ?_
        exact Steps.refl _)
      have c4 : Steps p.tables e below (s₁.setTop (entryFrame m #[.ref b, .int (Int32.ofNat o), .ref d, .int (Int32.ofNat q), .int (Int32.ofNat len)] 7)) (Tl.setTop (mkF m 13 #[.val (.ref b), .val (.int (Int32.ofNat (o + i))), .val (.ref d), .val (.int (Int32.ofNat (q + i))), .val (.int (Int32.ofNat len)), .val (.int (Int32.ofNat i)), z] [.int (cv A (o + i))])) := c3.trans (by
        refine Xl.aget hexec hAl rfl (hA.get (i := o + i) (by omega)) rfl rfl (hb hbytes d12) ?_
        exact Steps.refl _)
      have c5 : Steps p.tables e below (s₁.setTop (entryFrame m #[.ref b, .int (Int32.ofNat o), .ref d, .int (Int32.ofNat q), .int (Int32.ofNat len)] 7)) (Tl.setTop (mkF m 15 #[.val (.ref b), .val (.int (Int32.ofNat (o + i))), .val (.ref d), .val (.int (Int32.ofNat (q + i))), .val (.int (Int32.ofNat len)), .val (.int (Int32.ofNat i)), .val (.int (cv A (o + i)))] [])) := c4.trans (by
        refine XS.istoreS Xl.here hexec rfl (hb hbytes d13) rfl rfl hz ?_
        exact Steps.refl _)
      have c6 : Steps p.tables e below (s₁.setTop (entryFrame m #[.ref b, .int (Int32.ofNat o), .ref d, .int (Int32.ofNat q), .int (Int32.ofNat len)] 7)) (Tl.setTop (mkF m 31 #[.val (.ref b), .val (.int (Int32.ofNat (o + i))), .val (.ref d), .val (.int (Int32.ofNat (q + i))), .val (.int (Int32.ofNat len)), .val (.int (Int32.ofNat i)), .val (.int (cv A (o + i)))] [.int (lo8 (cv A (o + i))), .int (Int32.ofNat (q + i)), .ref d])) := c5.trans (by
        refine XS.iload Xl.here hexec rfl (hb hbytes d15) rfl ?_
        refine sipushV Xl.here hexec rfl 255 (hb hbytes d17) (by decide) ?_
        refine XS.icmpYes Xl.here hexec rfl (pc0 := 20) rfl (hb hbytes d20) rfl (ii_le_t (hp i (by omega))) (by decide) rfl ?_
        refine XS.aloadN Xl.here hexec rfl (hb hbytes d26) rfl rfl ?_
        refine XS.iloadN Xl.here hexec rfl (hb hbytes d27) rfl ?_
        refine XS.iload Xl.here hexec rfl (hb hbytes d28) rfl ?_
        refine i2b Xl.here hexec rfl (hb hbytes d30) rfl ?_
        exact Steps.refl _)
      obtain ⟨T7, X7, p7, st7⟩ := Xl.aput hexec hBk rfl hlt rfl (fits_lo8 (cv A (o + i))) (g := (mkF m 31 #[.val (.ref b), .val (.int (Int32.ofNat (o + i))), .val (.ref d), .val (.int (Int32.ofNat (q + i))), .val (.int (Int32.ofNat len)), .val (.int (Int32.ofNat i)), .val (.int (cv A (o + i)))] [.int (lo8 (cv A (o + i))), .int (Int32.ofNat (q + i)), .ref d])) rfl (rest := []) rfl (hb hbytes d31)
      have c8 : Steps p.tables e below (s₁.setTop (entryFrame m #[.ref b, .int (Int32.ofNat o), .ref d, .int (Int32.ofNat q), .int (Int32.ofNat len)] 7)) (T7.setTop (mkF m 32 #[.val (.ref b), .val (.int (Int32.ofNat (o + i))), .val (.ref d), .val (.int (Int32.ofNat (q + i))), .val (.int (Int32.ofNat len)), .val (.int (Int32.ofNat i)), .val (.int (cv A (o + i)))] [])) := c6.trans (st7 _ (Steps.refl _))
      have c9 : Steps p.tables e below (s₁.setTop (entryFrame m #[.ref b, .int (Int32.ofNat o), .ref d, .int (Int32.ofNat q), .int (Int32.ofNat len)] 7)) (T7.setTop (mkF m 3 #[.val (.ref b), .val (.int (Int32.ofNat (o + i) + 1)), .val (.ref d), .val (.int (Int32.ofNat (q + i) + 1)), .val (.int (Int32.ofNat len)), .val (.int (Int32.ofNat i + 1)), .val (.int (cv A (o + i)))] [])) := c8.trans (by
        refine iincV X7.here hexec rfl 1 (hb hbytes d32) (by decide) rfl rfl ?_
        refine iincV X7.here hexec rfl 1 (hb hbytes d35) (by decide) rfl rfl ?_
        refine iincV X7.here hexec rfl 1 (hb hbytes d38) (by decide) rfl rfl ?_
        refine XS.goto X7.here hexec rfl (pc0 := 41) rfl (hb hbytes d41) (by decide) rfl ?_
        exact Steps.refl _)
      have c10 : Steps p.tables e below (s₁.setTop (entryFrame m #[.ref b, .int (Int32.ofNat o), .ref d, .int (Int32.ofNat q), .int (Int32.ofNat len)] 7)) (T7.setTop (mkF m 3 #[.val (.ref b), .val (.int (Int32.ofNat (o + (i + 1)))), .val (.ref d), .val (.int (Int32.ofNat (q + (i + 1)))), .val (.int (Int32.ofNat len)), .val (.int (Int32.ofNat (i + 1))), .val (.int (cv A (o + i)))] [])) := by
        have := c9
        rw [succ32, succ32, succ32] at this
        exact this
      exact ih (i + 1) (by omega) _ (Or.inr ⟨_, rfl, rfl⟩) T7 _ (by rw [copyLocs_step, ← List.append_assoc]; exact X7) (pl.trans p7) (fl.step (by omega) hlt (by simp)) c10
  obtain ⟨T9, B9, z9, X9, p9, f9, g9⟩ := loop len 0 (by omega) .unset (Or.inl rfl) s₁ B (by simpa [copyLocs] using X0) ⟨hB0.1, fun _ _ => rfl, rfl⟩ (Laid.zero _ _ _) c2
  have c11 : Steps p.tables e below (s₁.setTop (entryFrame m #[.ref b, .int (Int32.ofNat o), .ref d, .int (Int32.ofNat q), .int (Int32.ofNat len)] 7)) (T9.setTop (mkF m 46 #[.val (.ref b), .val (.int (Int32.ofNat (o + len))), .val (.ref d), .val (.int (Int32.ofNat (q + len))), .val (.int (Int32.ofNat len)), .val (.int (Int32.ofNat len)), z9] [.int (Int32.ofNat len)])) := g9.trans (by
    refine XS.iload X9.here hexec rfl (hb hbytes d3) rfl ?_
    refine XS.iload X9.here hexec rfl (hb hbytes d5) rfl ?_
    refine XS.icmpYes X9.here hexec rfl (pc0 := 7) rfl (hb hbytes d7) rfl (ii_ge_t (nlt32 (by omega) (Nat.le_refl _))) (by decide) rfl ?_
    refine XS.iload X9.here hexec rfl (hb hbytes d44) rfl ?_
    exact Steps.refl _)
  exact ⟨T9, some (.int (Int32.ofNat len)), _, _, _, X9, by simp, rfl, rfl, (fun h => by cases h), ⟨rfl, B9, p9.from hh0, f9⟩, fun fs hl => c11.trans (X9.ireturnOut hexec hret rfl (Or.inl rfl) (hb hbytes d46) hl)⟩
end Cmp5
namespace Cmp3
def yN : MethodName := ⟨"java/lang/StringUTF16", "compress", "([CII)[B"⟩
abbrev yB : ByteArray := jdk_52_method_16_code
theorem d0 : decode yB 0 = .ok (.iload_n 2, 1) := by decide +kernel
theorem d1 : decode yB 1 = .ok (.newarray .byte, 2) := by decide +kernel
theorem d3 : decode yB 3 = .ok (.astore_n 3, 1) := by decide +kernel
theorem d4 : decode yB 4 = .ok (.aload_n 0, 1) := by decide +kernel
theorem d5 : decode yB 5 = .ok (.iload_n 1, 1) := by decide +kernel
theorem d6 : decode yB 6 = .ok (.aload_n 3, 1) := by decide +kernel
theorem d7 : decode yB 7 = .ok (.iconst 0, 1) := by decide +kernel
theorem d8 : decode yB 8 = .ok (.iload_n 2, 1) := by decide +kernel
theorem d9 : decode yB 9 = .ok (.invokestatic 115, 3) := by decide +kernel
theorem d12 : decode yB 12 = .ok (.istore 4, 2) := by decide +kernel
theorem d14 : decode yB 14 = .ok (.iload 4, 2) := by decide +kernel
theorem d16 : decode yB 16 = .ok (.iload_n 2, 1) := by decide +kernel
theorem d17 : decode yB 17 = .ok (.if_icmp (.eq) 40, 3) := by decide +kernel
theorem d57 : decode yB 57 = .ok (.aload_n 3, 1) := by decide +kernel
theorem d58 : decode yB 58 = .ok (.areturn, 1) := by decide +kernel
def site : List Cond := [.arrayClass .byte, Cmp5.tab] ++ staticW U16 115 Cmp5.yN
def tab : Cond := tabOf yN yB 6 (some (.array .byte)) site
def P (b : Addr) (A : Cell) (o len : Nat) (args : Array Value) (s : State) : Prop := args = #[.ref b, .int (Int32.ofNat o), .int (Int32.ofNat len)] ∧ Ch b A s ∧ o + len ≤ A.slots.size ∧ len ≤ 536870912 ∧ ∀ i, i < len → ¬ 255 < cv A (o + i)
def E (b : Addr) (A : Cell) (o len : Nat) (r : Option Value) (s u : State) : Prop := NewArr .byte "[B" len (fun j => .int (lo8 (cv A (o + j)))) r s u ∧ u.heap.size = s.heap.size + 1
/-- no char of the range above 255: a new byte[] of their low bytes -/
theorem law (l : Launch) (b : Addr) (A : Cell) (o len : Nat) : Law l yN 3 3 1 18 yB 6 (some (.array .byte)) site (P b A o len) (E b A o len) [] 1 len := by
  refine Law.of_walk (plainFor_of_name (by decide +kernel)) (by decide +kernel) (by decide +kernel) (by decide) (fun _ _ h => by rw [h.1]; rfl) (fun _ U U' hal hh h => ⟨h.1, h.2.1.mv hal hh, h.2.2⟩) (fun r U U' V V' h1 hal h2 h => ⟨NewArr.mv r U U' V V' h1 hal h2 h.1, by rw [h1, h2]; exact h.2⟩) ?_
  intro p e s m args below meth c s₁ X0 hexec hbytes hml hret hlk hnm hown hh0 W hP
  obtain ⟨rfl, hA, l1, l2, hp⟩ := hP
  have a31 := hA.1.2.2.2
  have c1 : Steps p.tables e below (s₁.setTop (entryFrame m #[.ref b, .int (Int32.ofNat o), .int (Int32.ofNat len)] 6)) (s₁.setTop (mkF m 0 #[.val (.ref b), .val (.int (Int32.ofNat o)), .val (.int (Int32.ofNat len)), .unset, .unset, .unset] [])) := entry rfl
  have c2 : Steps p.tables e below (s₁.setTop (entryFrame m #[.ref b, .int (Int32.ofNat o), .int (Int32.ofNat len)] 6)) (s₁.setTop (mkF m 1 #[.val (.ref b), .val (.int (Int32.ofNat o)), .val (.int (Int32.ofNat len)), .unset, .unset, .unset] [.int (Int32.ofNat len)])) := c1.trans (by
    refine XS.iloadN X0.here hexec rfl (hb hbytes d0) rfl ?_
    exact Steps.refl _)
  obtain ⟨T3, B3, X3, ba3, bs3, bv3, bh3, bf3, st3⟩ := X0.anew hexec (atype := .byte) (wk W (.arrayClass .byte)) rfl (by show len * 1 ≤ _; omega) (by omega) (g := (mkF m 1 #[.val (.ref b), .val (.int (Int32.ofNat o)), .val (.int (Int32.ofNat len)), .unset, .unset, .unset] [.int (Int32.ofNat len)])) rfl (hb hbytes d1) (rest := []) rfl (Nat.le_refl _) (by show 0 + len ≤ len; omega)
  rw [hh0] at ba3 st3
  have kp3 : XT.Kept s T3 := (XT.Kept.of_eq hh0).push bh3
  have hA3 := hA.keep X3.warmed.alike (kp3 _ _ hA.1.1)
  have hne : b ≠ s.heap.size := hA.1.ne
  have c4 : Steps p.tables e below (s₁.setTop (entryFrame m #[.ref b, .int (Int32.ofNat o), .int (Int32.ofNat len)] 6)) (T3.setTop (mkF m 3 #[.val (.ref b), .val (.int (Int32.ofNat o)), .val (.int (Int32.ofNat len)), .unset, .unset, .unset] [.ref s.heap.size])) := c2.trans (st3 _ (Steps.refl _))
  have c5 : Steps p.tables e below (s₁.setTop (entryFrame m #[.ref b, .int (Int32.ofNat o), .int (Int32.ofNat len)] 6)) (T3.setTop (mkF m 9 #[.val (.ref b), .val (.int (Int32.ofNat o)), .val (.int (Int32.ofNat len)), .val (.ref s.heap.size), .unset, .unset] [.int (Int32.ofNat len), .int 0, .ref s.heap.size, .int (Int32.ofNat o), .ref b])) := c4.trans (by
    refine XS.astoreN X3.here hexec rfl (hb hbytes d3) rfl rfl rfl ?_
    refine XS.aloadN X3.here hexec rfl (hb hbytes d4) rfl rfl ?_
    refine XS.iloadN X3.here hexec rfl (hb hbytes d5) rfl ?_
    refine XS.aloadN X3.here hexec rfl (hb hbytes d6) rfl rfl ?_
    refine iconstV X3.here hexec rfl 0 (hb hbytes d7) (by decide) ?_
    refine XS.iloadN X3.here hexec rfl (hb hbytes d8) rfl ?_
    exact Steps.refl _)
  obtain ⟨v6, T6, X6, E6, g6⟩ := X3.callS hexec (Cmp5.law l b A s.heap.size B3 o 0 len) hown (wks W (staticW U16 115 Cmp5.yN)) (wk W Cmp5.tab) (W := 0) (Nat.le_of_ble_eq_true rfl) (Nat.le_of_ble_eq_true rfl) (Nat.le_refl _) (by show 0 + len + 0 ≤ len; omega) (g := (mkF m 9 #[.val (.ref b), .val (.int (Int32.ofNat o)), .val (.int (Int32.ofNat len)), .val (.ref s.heap.size), .unset, .unset] [.int (Int32.ofNat len), .int (Int32.ofNat 0), .ref s.heap.size, .int (Int32.ofNat o), .ref b])) rfl (by rw [hml]; rfl) c5 (argsL := [.ref b, .int (Int32.ofNat o), .ref s.heap.size, .int (Int32.ofNat 0), .int (Int32.ofNat len)]) (rest := []) rfl rfl (by show 2 * 0 + 0 ≤ _; decide) (hb hbytes d9) (⟨rfl, hA3, ba3, hne, l1, by rw [bs3]; simp, hp⟩)
  obtain ⟨rfl, B6, p6, f6⟩ := E6
  have c7 : Steps p.tables e below (s₁.setTop (entryFrame m #[.ref b, .int (Int32.ofNat o), .int (Int32.ofNat len)] 6)) (T6.setTop (mkF m 12 #[.val (.ref b), .val (.int (Int32.ofNat o)), .val (.int (Int32.ofNat len)), .val (.ref s.heap.size), .unset, .unset] [.int (Int32.ofNat len)])) := g6
  have c8 : Steps p.tables e below (s₁.setTop (entryFrame m #[.ref b, .int (Int32.ofNat o), .int (Int32.ofNat len)] 6)) (T6.setTop (mkF m 58 #[.val (.ref b), .val (.int (Int32.ofNat o)), .val (.int (Int32.ofNat len)), .val (.ref s.heap.size), .val (.int (Int32.ofNat len)), .unset] [.ref s.heap.size])) := c7.trans (by
    refine XS.istore X6.here hexec rfl (hb hbytes d12) rfl rfl ?_
    refine XS.iload X6.here hexec rfl (hb hbytes d14) rfl ?_
    refine XS.iloadN X6.here hexec rfl (hb hbytes d16) rfl ?_
    refine XS.icmpYes X6.here hexec rfl (pc0 := 17) rfl (hb hbytes d17) rfl (ii_eq_t rfl) (by decide) rfl ?_
    refine XS.aloadN X6.here hexec rfl (hb hbytes d57) rfl rfl ?_
    exact Steps.refl _)
  have X8 := X6.wide (L' := []) (cells' := 1) (slots' := len) (fun x hx hlt => by
    simp only [List.nil_append, copyLocs, List.mem_map, List.mem_range] at hx
    obtain ⟨i, -, rfl⟩ := hx
    exact absurd hlt (Nat.lt_irrefl _)) (Nat.le_refl _) (by omega)
  exact ⟨T6, some (.ref s.heap.size), _, _, _, X8, rfl, rfl, rfl, (fun h => by cases h), ⟨⟨rfl, B6, ba3.like (X3.warmed.alike.symm.trans X6.warmed.alike) p6.1 f6.1 f6.2.1 f6.2.2.1, f6.2.1.trans bv3, by rw [X6.warmed.alike.findClass, f6.1]; exact bf3, by rw [f6.2.2.1, bs3]; simp, fun j hj => by rw [f6.2.2.2 j, if_pos (by omega)]; rfl, kp3.put p6 (Nat.le_refl _)⟩, by rw [p6.2.2, bh3, hh0]; simp⟩, fun fs hl => c8.trans (X8.areturnOut hexec rfl hret rfl (hb hbytes d58) hl)⟩
end Cmp3
namespace CodL
def yN : MethodName := ⟨"java/lang/StringUTF16", "coderFromArrayLen", "([BI)B"⟩
abbrev yB : ByteArray := jdk_52_method_15_code
theorem d0 : decode yB 0 = .ok (.iload_n 1, 1) := by decide +kernel
theorem d1 : decode yB 1 = .ok (.aload_n 0, 1) := by decide +kernel
theorem d2 : decode yB 2 = .ok (.arraylength, 1) := by decide +kernel
theorem d3 : decode yB 3 = .ok (.isub, 1) := by decide +kernel
theorem d4 : decode yB 4 = .ok (.bipush 31, 2) := by decide +kernel
theorem d6 : decode yB 6 = .ok (.iushr, 1) := by decide +kernel
theorem d7 : decode yB 7 = .ok (.i2b, 1) := by decide +kernel
theorem d8 : decode yB 8 = .ok (.ireturn, 1) := by decide +kernel
def site : List Cond := []
def tab : Cond := tabOf yN yB 2 (some .byte) site
def P (d : Addr) (B : Cell) (args : Array Value) (s : State) : Prop := args = #[.ref d, .int (Int32.ofNat B.slots.size)] ∧ Arr .byte d B s
def E (r : Option Value) (s u : State) : Prop := XT.PureE (some (.int 0)) r s u
/-- an array as long as the number of chars: LATIN1 -/
theorem law (l : Launch) (d : Addr) (B : Cell) : Law l yN 2 2 0 0 yB 2 (some .byte) site (P d B) E [] 0 0 := by
  refine Law.of_walk (plainFor_of_name (by decide +kernel)) (by decide +kernel) (by decide +kernel) (by decide) (fun _ _ h => by rw [h.1]; rfl) (fun _ U U' hal hh h => ⟨h.1, h.2.mv hal hh⟩) (fun r U U' V V' h1 hal h2 h => XT.PureE.mv r U U' V V' h1 hal h2 h) ?_
  intro p e s m args below meth c s₁ X0 hexec hbytes hml hret hlk hnm hown hh0 W hP
  obtain ⟨rfl, hB⟩ := hP
  have hB0 := hB.mv X0.warmed.alike hh0
  have c1 : Steps p.tables e below (s₁.setTop (entryFrame m #[.ref d, .int (Int32.ofNat B.slots.size)] 2)) (s₁.setTop (mkF m 0 #[.val (.ref d), .val (.int (Int32.ofNat B.slots.size))] [])) := entry rfl
  have c2 : Steps p.tables e below (s₁.setTop (entryFrame m #[.ref d, .int (Int32.ofNat B.slots.size)] 2)) (s₁.setTop (mkF m 2 #[.val (.ref d), .val (.int (Int32.ofNat B.slots.size))] [.ref d, .int (Int32.ofNat B.slots.size)])) := c1.trans (by
    refine XS.iloadN X0.here hexec rfl (hb hbytes d0) rfl ?_
    refine XS.aloadN X0.here hexec rfl (hb hbytes d1) rfl rfl ?_
    exact Steps.refl _)
  have c3 : Steps p.tables e below (s₁.setTop (entryFrame m #[.ref d, .int (Int32.ofNat B.slots.size)] 2)) (s₁.setTop (mkF m 8 #[.val (.ref d), .val (.int (Int32.ofNat B.slots.size))] [.int (lo8 (ushr (Int32.ofNat B.slots.size - Int32.ofNat B.slots.size) 31))])) := c2.trans (by
    refine X0.alen hexec hB0 rfl rfl (hb hbytes d2) ?_
    refine XS.isub X0.here hexec rfl (hb hbytes d3) rfl ?_
    refine bipushV X0.here hexec rfl 31 (hb hbytes d4) (by decide) ?_
    refine iushr X0.here hexec rfl (hb hbytes d6) rfl ?_
    refine i2b X0.here hexec rfl (hb hbytes d7) rfl ?_
    exact Steps.refl _)
  have e0 : lo8 (ushr (Int32.ofNat B.slots.size - Int32.ofNat B.slots.size) 31) = 0 := by rw [Int32.sub_self]; decide
  rw [e0] at c3
  exact ⟨s₁, some (.int 0), _, _, _, X0, rfl, rfl, rfl, (fun h => by cases h), ⟨rfl, hh0⟩, fun fs hl => c3.trans (X0.ireturnOut hexec hret rfl (Or.inr (Or.inr (Or.inl rfl))) (hb hbytes d8) hl)⟩
end CodL
/-- the String at a is Latin-1 over a new byte[] (the heap's one new cell): the low bytes of the len chars of A from o on; every cell but a is kept -/
def Got (a : Addr) (D : Cell) (fV fC : Field) (A : Cell) (o len : Nat) (r : Option Value) (s u : State) : Prop := r = none ∧ ∃ D' V : Cell, Blank "java/lang/String" a D' u ∧ Same D D' [fV.slot, fC.slot] ∧ D'.slots[fV.slot]? = some (.ref s.heap.size) ∧ D'.slots[fC.slot]? = some (.int 0) ∧ Arr .byte s.heap.size V u ∧ V.vm = .none ∧ u.vm.findClass "[B" = some V.cls ∧ V.slots.size = len ∧ (∀ j, j < len → V.slots[j]? = some (.int (lo8 (cv A (o + j))))) ∧ (∀ (y : Addr) (c : Cell), y ≠ a → s.heap[y]? = some c → u.heap[y]? = some c) ∧ u.heap.size = s.heap.size + 1
theorem Got.mv {a : Addr} {D A : Cell} {fV fC : Field} {o len : Nat} : ∀ r (U U' V V' : State), U'.heap = U.heap → V.vm.Alike V'.vm → V'.heap = V.heap → Got a D fV fC A o len r U V → Got a D fV fC A o len r U' V' :=
  fun r U U' V V' h1 hal h2 ⟨e0, D', X, a1, a2, a3, a4, a5, a6, a7, a8, a9, a10, a11⟩ => ⟨e0, D', X, a1.mv hal h2, a2, by rw [h1]; exact a3, a4, by rw [h1]; exact a5.mv hal h2, a6, by rw [hal.findClass]; exact a7, a8, a9, by rw [h1, h2]; exact a10, by rw [h1, h2]; exact a11⟩
namespace New4
def yN : MethodName := ⟨"java/lang/String", "<init>", "([CIILjava/lang/Void;)V"⟩
abbrev yB : ByteArray := jdk_42_method_149_code
theorem d0 : decode yB 0 = .ok (.aload_n 0, 1) := by decide +kernel
theorem d1 : decode yB 1 = .ok (.invokespecial 1, 3) := by decide +kernel
theorem d4 : decode yB 4 = .ok (.iload_n 3, 1) := by decide +kernel
theorem d5 : decode yB 5 = .ok (.ifCond (.ne) 22, 3) := by decide +kernel
theorem d27 : decode yB 27 = .ok (.getstatic 38, 3) := by decide +kernel
theorem d30 : decode yB 30 = .ok (.ifCond (.eq) 28, 3) := by decide +kernel
theorem d33 : decode yB 33 = .ok (.aload_n 1, 1) := by decide +kernel
theorem d34 : decode yB 34 = .ok (.iload_n 2, 1) := by decide +kernel
theorem d35 : decode yB 35 = .ok (.iload_n 3, 1) := by decide +kernel
theorem d36 : decode yB 36 = .ok (.invokestatic 177, 3) := by decide +kernel
theorem d39 : decode yB 39 = .ok (.astore 5, 2) := by decide +kernel
theorem d41 : decode yB 41 = .ok (.aload_n 0, 1) := by decide +kernel
theorem d42 : decode yB 42 = .ok (.aload 5, 2) := by decide +kernel
theorem d44 : decode yB 44 = .ok (.iload_n 3, 1) := by decide +kernel
theorem d45 : decode yB 45 = .ok (.invokestatic 47, 3) := by decide +kernel
theorem d48 : decode yB 48 = .ok (.putfield 15, 3) := by decide +kernel
theorem d51 : decode yB 51 = .ok (.aload_n 0, 1) := by decide +kernel
theorem d52 : decode yB 52 = .ok (.aload 5, 2) := by decide +kernel
theorem d54 : decode yB 54 = .ok (.putfield 9, 3) := by decide +kernel
theorem d57 : decode yB 57 = .ok (.return_, 1) := by decide +kernel
def site : List Cond := [.fieldLink "java/lang/String" 38 "java/lang/String" "COMPACT_STRINGS" "Z", Cmp3.tab, CodL.tab, .laysFinal "java/lang/String" "java/lang/String" "value" "[B", .fieldLink "java/lang/String" 9 "java/lang/String" "value" "[B", .laysFinal "java/lang/String" "java/lang/String" "coder" "B", .fieldLink "java/lang/String" 15 "java/lang/String" "coder" "B"] ++ objW "java/lang/String" 1 ++ staticW "java/lang/String" 177 Cmp3.yN ++ staticW "java/lang/String" 47 CodL.yN
def tab : Cond := tabOf yN yB 6 none site
def P (a : Addr) (D : Cell) (fV fC : Field) (b : Addr) (A : Cell) (z : Int32) (o len : Nat) (args : Array Value) (s : State) : Prop := args = #[.ref a, .ref b, .int (Int32.ofNat o), .int (Int32.ofNat len), .null] ∧ Blank "java/lang/String" a D s ∧ Found "java/lang/String" "value" "[B" fV s ∧ Found "java/lang/String" "coder" "B" fC s ∧ Ch b A s ∧ StaticIs s "java/lang/String" "COMPACT_STRINGS" "Z" (.int z) ∧ ¬ z = 0 ∧ 0 < len ∧ o + len ≤ A.slots.size ∧ len ≤ 536870912 ∧ ∀ i, i < len → ¬ 255 < cv A (o + i)
def E (a : Addr) (D : Cell) (fV fC : Field) (A : Cell) (o len : Nat) (r : Option Value) (s u : State) : Prop := Got a D fV fC A o len r s u
/-- len > 0, no char of the range above 255: a Latin-1 String of their low bytes -/
theorem law (l : Launch) (a : Addr) (D : Cell) (fV fC : Field) (b : Addr) (A : Cell) (z : Int32) (o len : Nat) : Law l yN 5 4 2 35 yB 6 none site (P a D fV fC b A z o len) (E a D fV fC A o len) [⟨a, fC.slot⟩, ⟨a, fV.slot⟩] 1 len := by
  refine Law.of_walk (plainFor_of_name (by decide +kernel)) (by decide +kernel) (by decide +kernel) (by decide) (fun _ _ h => by rw [h.1]; rfl) (fun _ U U' hal hh h => ⟨h.1, h.2.1.mv hal hh, h.2.2.1.al hal, h.2.2.2.1.al hal, h.2.2.2.2.1.mv hal hh, h.2.2.2.2.2.1.there hal hh, h.2.2.2.2.2.2⟩) (fun r U U' V V' h1 hal h2 h => Got.mv r U U' V V' h1 hal h2 h) ?_
  intro p e s m args below meth c s₁ X0 hexec hbytes hml hret hlk hnm hown hh0 W hP
  obtain ⟨rfl, hB, f1, f2, hA, s1, hz, l0, l1, l2, hp⟩ := hP
  have a31 := hA.1.2.2.2
  have c1 : Steps p.tables e below (s₁.setTop (entryFrame m #[.ref a, .ref b, .int (Int32.ofNat o), .int (Int32.ofNat len), .null] 6)) (s₁.setTop (mkF m 0 #[.val (.ref a), .val (.ref b), .val (.int (Int32.ofNat o)), .val (.int (Int32.ofNat len)), .val .null, .unset] [])) := entry rfl
  have c2 : Steps p.tables e below (s₁.setTop (entryFrame m #[.ref a, .ref b, .int (Int32.ofNat o), .int (Int32.ofNat len), .null] 6)) (s₁.setTop (mkF m 1 #[.val (.ref a), .val (.ref b), .val (.int (Int32.ofNat o)), .val (.int (Int32.ofNat len)), .val .null, .unset] [.ref a])) := c1.trans (by
    refine XS.aloadN X0.here hexec rfl (hb hbytes d0) rfl rfl ?_
    exact Steps.refl _)
  obtain ⟨T3, X3, q3, st3⟩ := X0.oinit hexec hown (wks W (objW "java/lang/String" 1)) (g := (mkF m 1 #[.val (.ref a), .val (.ref b), .val (.int (Int32.ofNat o)), .val (.int (Int32.ofNat len)), .val .null, .unset] [.ref a])) rfl (by rw [hml]; rfl) (rest := []) rfl (hb hbytes d1) (W := 0) (by show 2 * 0 + 0 ≤ _; decide) (Nat.le_of_ble_eq_true rfl) (Nat.le_of_ble_eq_true rfl)
  have hh3 := q3.trans hh0
  have c4 : Steps p.tables e below (s₁.setTop (entryFrame m #[.ref a, .ref b, .int (Int32.ofNat o), .int (Int32.ofNat len), .null] 6)) (T3.setTop (mkF m 27 #[.val (.ref a), .val (.ref b), .val (.int (Int32.ofNat o)), .val (.int (Int32.ofNat len)), .val .null, .unset] [])) := (c2.trans (st3 _ (Steps.refl _))).trans (by
    refine XS.iloadN X3.here hexec rfl (hb hbytes d4) rfl ?_
    refine XS.ifYes X3.here hexec rfl (pc0 := 5) rfl (hb hbytes d5) rfl (i0_ne_t (nz32 (by omega) l0)) (by decide) rfl ?_
    exact Steps.refl _)
  obtain ⟨T5, X5, q5, st5⟩ := X3.sget hexec hown (wk W (.fieldLink "java/lang/String" 38 "java/lang/String" "COMPACT_STRINGS" "Z")) s1 (fun _ _ h => by rw [hh3]; exact h) (g := (mkF m 27 #[.val (.ref a), .val (.ref b), .val (.int (Int32.ofNat o)), .val (.int (Int32.ofNat len)), .val .null, .unset] [])) rfl (hb hbytes d27)
  have hh5 := q5.trans hh3
  have c6 : Steps p.tables e below (s₁.setTop (entryFrame m #[.ref a, .ref b, .int (Int32.ofNat o), .int (Int32.ofNat len), .null] 6)) (T5.setTop (mkF m 30 #[.val (.ref a), .val (.ref b), .val (.int (Int32.ofNat o)), .val (.int (Int32.ofNat len)), .val .null, .unset] [.int z])) := c4.trans (st5 _ (Steps.refl _))
  have c7 : Steps p.tables e below (s₁.setTop (entryFrame m #[.ref a, .ref b, .int (Int32.ofNat o), .int (Int32.ofNat len), .null] 6)) (T5.setTop (mkF m 36 #[.val (.ref a), .val (.ref b), .val (.int (Int32.ofNat o)), .val (.int (Int32.ofNat len)), .val .null, .unset] [.int (Int32.ofNat len), .int (Int32.ofNat o), .ref b])) := c6.trans (by
    refine XS.ifNo X5.here hexec rfl (hb hbytes d30) rfl (i0_eq_f hz) ?_
    refine XS.aloadN X5.here hexec rfl (hb hbytes d33) rfl rfl ?_
    refine XS.iloadN X5.here hexec rfl (hb hbytes d34) rfl ?_
    refine XS.iloadN X5.here hexec rfl (hb hbytes d35) rfl ?_
    exact Steps.refl _)
  obtain ⟨v8, T8, X8, E8, g8⟩ := X5.callS hexec (Cmp3.law l b A o len) hown (wks W (staticW "java/lang/String" 177 Cmp3.yN)) (wk W Cmp3.tab) (W := 0) (Nat.le_of_ble_eq_true rfl) (Nat.le_of_ble_eq_true rfl) (Nat.le_refl _) (by show 0 + len ≤ len; omega) (g := (mkF m 36 #[.val (.ref a), .val (.ref b), .val (.int (Int32.ofNat o)), .val (.int (Int32.ofNat len)), .val .null, .unset] [.int (Int32.ofNat len), .int (Int32.ofNat o), .ref b])) rfl (by rw [hml]; rfl) c7 (argsL := [.ref b, .int (Int32.ofNat o), .int (Int32.ofNat len)]) (rest := []) rfl rfl (by show 2 * 0 + 0 ≤ _; decide) (hb hbytes d36) (⟨rfl, hA.mv X5.warmed.alike hh5, l1, l2, hp⟩)
  obtain ⟨e8, z8⟩ := E8
  obtain ⟨rfl, N, n1, n2, n3, n4, n5, n6⟩ := NewArr.mv _ T5 s _ _ hh5.symm (Vm.Alike.refl _) rfl e8
  rw [hh5] at z8
  have hB1 := hB.keep X8.warmed.alike (n6 _ _ hB.1)
  have hne : s.heap.size ≠ a := (Nat.ne_of_lt (Array.getElem?_eq_some_iff.mp hB.1).1).symm
  have c9 : Steps p.tables e below (s₁.setTop (entryFrame m #[.ref a, .ref b, .int (Int32.ofNat o), .int (Int32.ofNat len), .null] 6)) (T8.setTop (mkF m 39 #[.val (.ref a), .val (.ref b), .val (.int (Int32.ofNat o)), .val (.int (Int32.ofNat len)), .val .null, .unset] [.ref s.heap.size])) := g8
  have c10 : Steps p.tables e below (s₁.setTop (entryFrame m #[.ref a, .ref b, .int (Int32.ofNat o), .int (Int32.ofNat len), .null] 6)) (T8.setTop (mkF m 45 #[.val (.ref a), .val (.ref b), .val (.int (Int32.ofNat o)), .val (.int (Int32.ofNat len)), .val .null, .val (.ref s.heap.size)] [.int (Int32.ofNat N.slots.size), .ref s.heap.size, .ref a])) := by
    have hc : Steps p.tables e below (s₁.setTop (entryFrame m #[.ref a, .ref b, .int (Int32.ofNat o), .int (Int32.ofNat len), .null] 6)) (T8.setTop (mkF m 45 #[.val (.ref a), .val (.ref b), .val (.int (Int32.ofNat o)), .val (.int (Int32.ofNat len)), .val .null, .val (.ref s.heap.size)] [.int (Int32.ofNat len), .ref s.heap.size, .ref a])) := c9.trans (by
      refine XS.astore X8.here hexec rfl (hb hbytes d39) rfl rfl rfl ?_
      refine XS.aloadN X8.here hexec rfl (hb hbytes d41) rfl rfl ?_
      refine XS.aload X8.here hexec rfl (hb hbytes d42) rfl rfl ?_
      refine XS.iloadN X8.here hexec rfl (hb hbytes d44) rfl ?_
      exact Steps.refl _)
    rw [n4]; exact hc
  obtain ⟨v11, T11, X11, E11, g11⟩ := X8.callS hexec (CodL.law l s.heap.size N) hown (wks W (staticW "java/lang/String" 47 CodL.yN)) (wk W CodL.tab) (W := 1) (Nat.le_of_ble_eq_true rfl) (Nat.le_of_ble_eq_true rfl) (Nat.le_refl _) (by show 0 + len + 0 ≤ len; omega) (g := (mkF m 45 #[.val (.ref a), .val (.ref b), .val (.int (Int32.ofNat o)), .val (.int (Int32.ofNat len)), .val .null, .val (.ref s.heap.size)] [.int (Int32.ofNat N.slots.size), .ref s.heap.size, .ref a])) rfl (by rw [hml]; rfl) c10 (argsL := [.ref s.heap.size, .int (Int32.ofNat N.slots.size)]) (rest := [.ref a]) rfl rfl (by show 2 * 0 + (1 + 0) ≤ _; decide) (hb hbytes d45) (⟨rfl, n1⟩)
  obtain ⟨rfl, q11⟩ := E11
  have hB11 := hB1.mv (X8.warmed.alike.symm.trans X11.warmed.alike) q11
  have c12 : Steps p.tables e below (s₁.setTop (entryFrame m #[.ref a, .ref b, .int (Int32.ofNat o), .int (Int32.ofNat len), .null] 6)) (T11.setTop (mkF m 48 #[.val (.ref a), .val (.ref b), .val (.int (Int32.ofNat o)), .val (.int (Int32.ofNat len)), .val .null, .val (.ref s.heap.size)] [.int 0, .ref a])) := g11
  obtain ⟨T13, X13, p13, bl13, sl13, st13⟩ := X11.finit hexec hown (wk W (.fieldLink "java/lang/String" 15 "java/lang/String" "coder" "B")) (Or.inr ⟨_, (wk W (.laysFinal "java/lang/String" "java/lang/String" "coder" "B"))⟩) (Or.inl ⟨rfl, hnm⟩) f2 (Or.inl rfl) hB11 (t := .byte) (by decide +kernel) rfl (g := (mkF m 48 #[.val (.ref a), .val (.ref b), .val (.int (Int32.ofNat o)), .val (.int (Int32.ofNat len)), .val .null, .val (.ref s.heap.size)] [.int 0, .ref a])) rfl (rest := []) rfl (hb hbytes d48)
  have c14 : Steps p.tables e below (s₁.setTop (entryFrame m #[.ref a, .ref b, .int (Int32.ofNat o), .int (Int32.ofNat len), .null] 6)) (T13.setTop (mkF m 54 #[.val (.ref a), .val (.ref b), .val (.int (Int32.ofNat o)), .val (.int (Int32.ofNat len)), .val .null, .val (.ref s.heap.size)] [.ref s.heap.size, .ref a])) := (c12.trans (st13 _ (Steps.refl _))).trans (by
    refine XS.aloadN X13.here hexec rfl (hb hbytes d51) rfl rfl ?_
    refine XS.aload X13.here hexec rfl (hb hbytes d52) rfl rfl ?_
    exact Steps.refl _)
  obtain ⟨T15, X15, p15, bl15, sl15, st15⟩ := X13.finit hexec hown (wk W (.fieldLink "java/lang/String" 9 "java/lang/String" "value" "[B")) (Or.inr ⟨_, (wk W (.laysFinal "java/lang/String" "java/lang/String" "value" "[B"))⟩) (Or.inl ⟨rfl, hnm⟩) f1 (Or.inl rfl) bl13 (t := (.array .byte)) (by decide +kernel) rfl (g := (mkF m 54 #[.val (.ref a), .val (.ref b), .val (.int (Int32.ofNat o)), .val (.int (Int32.ofNat len)), .val .null, .val (.ref s.heap.size)] [.ref s.heap.size, .ref a])) rfl (rest := []) rfl (hb hbytes d54)
  have c16 : Steps p.tables e below (s₁.setTop (entryFrame m #[.ref a, .ref b, .int (Int32.ofNat o), .int (Int32.ofNat len), .null] 6)) (T15.setTop (mkF m 57 #[.val (.ref a), .val (.ref b), .val (.int (Int32.ofNat o)), .val (.int (Int32.ofNat len)), .val .null, .val (.ref s.heap.size)] [])) := c14.trans (st15 _ (Steps.refl _))
  have ap := apart (Or.inr ⟨_, (wk W (.laysFinal "java/lang/String" "java/lang/String" "value" "[B"))⟩) (Or.inr ⟨_, (wk W (.laysFinal "java/lang/String" "java/lang/String" "coder" "B"))⟩) f1 f2 (t₁ := .array .byte) (t₂ := .byte) (by decide +kernel) (by decide +kernel) (by decide)
  have al := X8.warmed.alike.symm.trans X15.warmed.alike
  have n7 : T11.heap[s.heap.size]? = some N := by rw [q11]; exact n1.1
  exact ⟨T15, none, _, _, _, X15, by simp, rfl, by omega, (fun _ => rfl), ⟨rfl, _, N, bl15, ((Same.refl D _).set _ (by simp)).set _ (by simp), sl15, (Cell.slots_setSlot_ne _ ap).trans sl13, n1.keep al (p15.other hne (p13.other hne n7)), n2, by rw [al.findClass]; exact n3, n4, n5, fun y c h1 h2 => p15.other h1 (p13.other h1 (by rw [q11]; exact n6 y c h2)), by rw [p15.2.2, p13.2.2, q11]; exact z8⟩, fun fs hl => c16.trans (X15.returnOut hexec hret (hb hbytes d57) hl)⟩
end New4
namespace New1
def yN : MethodName := ⟨"java/lang/String", "<init>", "([C)V"⟩
abbrev yB : ByteArray := jdk_42_method_3_code
theorem d0 : decode yB 0 = .ok (.aload_n 0, 1) := by decide +kernel
theorem d1 : decode yB 1 = .ok (.aload_n 1, 1) := by decide +kernel
theorem d2 : decode yB 2 = .ok (.iconst 0, 1) := by decide +kernel
theorem d3 : decode yB 3 = .ok (.aload_n 1, 1) := by decide +kernel
theorem d4 : decode yB 4 = .ok (.arraylength, 1) := by decide +kernel
theorem d5 : decode yB 5 = .ok (.aconst_null, 1) := by decide +kernel
theorem d6 : decode yB 6 = .ok (.invokespecial 27, 3) := by decide +kernel
theorem d9 : decode yB 9 = .ok (.return_, 1) := by decide +kernel
def site : List Cond := [New4.tab] ++ initW "java/lang/String" 27 New4.yN
def tab : Cond := tabOf yN yB 2 none site
def P (a : Addr) (D : Cell) (fV fC : Field) (b : Addr) (A : Cell) (z : Int32) (args : Array Value) (s : State) : Prop := args = #[.ref a, .ref b] ∧ Blank "java/lang/String" a D s ∧ Found "java/lang/String" "value" "[B" fV s ∧ Found "java/lang/String" "coder" "B" fC s ∧ Ch b A s ∧ StaticIs s "java/lang/String" "COMPACT_STRINGS" "Z" (.int z) ∧ ¬ z = 0 ∧ 0 < A.slots.size ∧ A.slots.size ≤ 536870912 ∧ ∀ i, i < A.slots.size → ¬ 255 < cv A i
def E (a : Addr) (D : Cell) (fV fC : Field) (A : Cell) (r : Option Value) (s u : State) : Prop := Got a D fV fC A 0 A.slots.size r s u
/-- new String(chars), not empty, no char above 255: a Latin-1 String of their low bytes -/
theorem law (l : Launch) (a : Addr) (D : Cell) (fV fC : Field) (b : Addr) (A : Cell) (z : Int32) : Law l yN 2 1 3 52 yB 2 none site (P a D fV fC b A z) (E a D fV fC A) [⟨a, fC.slot⟩, ⟨a, fV.slot⟩] 1 A.slots.size := by
  refine Law.of_walk (plainFor_of_name (by decide +kernel)) (by decide +kernel) (by decide +kernel) (by decide) (fun _ _ h => by rw [h.1]; rfl) (fun _ U U' hal hh h => ⟨h.1, h.2.1.mv hal hh, h.2.2.1.al hal, h.2.2.2.1.al hal, h.2.2.2.2.1.mv hal hh, h.2.2.2.2.2.1.there hal hh, h.2.2.2.2.2.2⟩) (fun r U U' V V' h1 hal h2 h => Got.mv r U U' V V' h1 hal h2 h) ?_
  intro p e s m args below meth c s₁ X0 hexec hbytes hml hret hlk hnm hown hh0 W hP
  obtain ⟨rfl, hB, f1, f2, hA, s1, hz, l0, l2, hp⟩ := hP
  have c1 : Steps p.tables e below (s₁.setTop (entryFrame m #[.ref a, .ref b] 2)) (s₁.setTop (mkF m 0 #[.val (.ref a), .val (.ref b)] [])) := entry rfl
  have c2 : Steps p.tables e below (s₁.setTop (entryFrame m #[.ref a, .ref b] 2)) (s₁.setTop (mkF m 6 #[.val (.ref a), .val (.ref b)] [.null, .int (Int32.ofNat A.slots.size), .int 0, .ref b, .ref a])) := c1.trans (by
    refine XS.aloadN X0.here hexec rfl (hb hbytes d0) rfl rfl ?_
    refine XS.aloadN X0.here hexec rfl (hb hbytes d1) rfl rfl ?_
    refine iconstV X0.here hexec rfl 0 (hb hbytes d2) (by decide) ?_
    refine XS.aloadN X0.here hexec rfl (hb hbytes d3) rfl rfl ?_
    refine X0.alen hexec (hA.1.mv X0.warmed.alike hh0) rfl rfl (hb hbytes d4) ?_
    refine XS.aconstNull X0.here hexec rfl (hb hbytes d5) ?_
    exact Steps.refl _)
  obtain ⟨v3, T3, X3, E3, g3⟩ := X0.callN hexec (New4.law l a D fV fC b A z 0 A.slots.size) rfl hown (wks W (initW "java/lang/String" 27 New4.yN)) (W New4.tab (by simp only [site, List.mem_cons, List.mem_append, true_or, or_true])) (W := 0) (Nat.le_of_ble_eq_true rfl) (Nat.le_of_ble_eq_true rfl) (Nat.le_refl _) (by show 0 + A.slots.size ≤ A.slots.size; omega) (g := (mkF m 6 #[.val (.ref a), .val (.ref b)] [.null, .int (Int32.ofNat A.slots.size), .int (Int32.ofNat 0), .ref b, .ref a])) rfl (by rw [hml]; rfl) c2 (argsL := [.ref b, .int (Int32.ofNat 0), .int (Int32.ofNat A.slots.size), .null]) (rest := []) rfl rfl (by show 2 * 0 + 0 ≤ _; decide) (hb hbytes d6) (⟨rfl, hB.mv X0.warmed.alike hh0, f1.al X0.warmed.alike, f2.al X0.warmed.alike, hA.mv X0.warmed.alike hh0, s1.there X0.warmed.alike hh0, hz, l0, by omega, l2, fun i hi => by rw [Nat.zero_add]; exact hp i hi⟩)
  have e0 := Got.mv _ s₁ s _ _ hh0.symm (Vm.Alike.refl _) rfl E3
  obtain rfl := e0.1
  have c4 : Steps p.tables e below (s₁.setTop (entryFrame m #[.ref a, .ref b] 2)) (T3.setTop (mkF m 9 #[.val (.ref a), .val (.ref b)] [])) := g3
  exact ⟨T3, none, _, _, _, X3, by simp, rfl, by omega, (fun _ => rfl), e0, fun fs hl => c4.trans (X3.returnOut hexec hret (hb hbytes d9) hl)⟩
theorem pays {l : Launch} {R : Room} {p : Program} {e : Env} {below : List Frame} {s : State} {sargs : Array Value} {len W : Nat} (a : Addr) (D : Cell) (fV fC : Field) (b : Addr) (A : Cell) (z : Int32) (htab : tab.before sargs s = true) (hfr : 4 ≤ R.frames) (hlo : W + 65 ≤ R.locals) :
    Back l R p e below s sargs yN len W (fun A₁ a₁ => A₁.cells + 1 ≤ R.cells ∧ A₁.slots + A.slots.size ≤ R.slots ∧ P a D fV fC b A z a₁ A₁.U) (fun A₁ _ v₁ B₁ => E a D fV fC A v₁ A₁.U B₁.U ∧ B₁.locs = A₁.locs ++ [⟨a, fC.slot⟩, ⟨a, fV.slot⟩] ∧ B₁.cells = A₁.cells + 1 ∧ B₁.slots = A₁.slots + A.slots.size) :=
  (law l a D fV fC b A z).pays htab hfr (by omega)
end New1
/-- the byte, read back as charAt reads it, is the char -/
theorem lo8_mask {x : Int32} (h0 : ¬ x < 0) (h1 : ¬ 255 < x) : lo8 x &&& 255 = x := by
  have t : ∀ k : Fin 256, lo8 (Int32.ofNat k.val) &&& 255 = Int32.ofNat k.val := by decide +kernel
  rw [Int32.lt_iff_toInt_lt] at h0 h1
  have e0 : (0 : Int32).toInt = 0 := rfl
  have e1 : (255 : Int32).toInt = 255 := rfl
  obtain ⟨k, hk⟩ : ∃ k : Nat, x.toInt = k := ⟨x.toInt.toNat, by omega⟩
  have hx : x = Int32.ofNat k := Int32.toInt_inj.mp (by rw [hk, Int32.toInt_ofNat_small (by omega)])
  rw [hx]
  exact t ⟨k, by omega⟩
end StrChars
namespace StrChars.Road
open Jvm Sem ClassFile Op Lib Jvm.Stand Jvm.Free Jvm.Free.XT
open Jvm.Lib.Cold (StaticIs)
abbrev ST : String := "java/lang/String"
/-- every table word that New1's law asks, flat -/
abbrev words : List Jvm.Cond := [.code New1.yN New1.yB 2 none, .initialized ST, .methodLink ST 27 New4.yN, .instanceMethod New4.yN,
  .code New4.yN New4.yB 6 none, .fieldLink ST 38 ST "COMPACT_STRINGS" "Z", .laysFinal ST ST "value" "[B", .fieldLink ST 9 ST "value" "[B", .laysFinal ST ST "coder" "B", .fieldLink ST 15 ST "coder" "B",
  .methodLink ST 1 Lib.objectInit, .instanceMethod Lib.objectInit, .code Lib.objectInit ⟨#[0xb1]⟩ 1 none, .methodLink ST 177 Cmp3.yN, .static Cmp3.yN, .methodLink ST 47 CodL.yN, .static CodL.yN,
  .code Cmp3.yN Cmp3.yB 6 (some (.array .byte)), .initialized U16, .arrayClass .byte, .methodLink U16 115 Cmp5.yN, .static Cmp5.yN, .code Cmp5.yN Cmp5.yB 7 (some .int), .code CodL.yN CodL.yB 2 (some .byte)]
theorem tab_of {a : Array Value} {s : State} (h : ∀ w ∈ words, w.before a s = true) : New1.tab.before a s = true := by
  have h5 : Cmp5.tab.before a s = true := unparts (wk h (.code Cmp5.yN Cmp5.yB 7 (some .int))) (wks h (.initialized Cmp5.yN.cls :: Cmp5.site))
  have hc : CodL.tab.before a s = true := unparts (wk h (.code CodL.yN CodL.yB 2 (some .byte))) (wks h (.initialized CodL.yN.cls :: CodL.site))
  have q5 : ∀ w ∈ Cmp5.tab :: words, w.before a s = true := fun w hw => (List.mem_cons.mp hw).elim (fun e => e ▸ h5) (h w)
  have h3 : Cmp3.tab.before a s = true := unparts (wk q5 (.code Cmp3.yN Cmp3.yB 6 (some (.array .byte)))) (wks q5 (.initialized Cmp3.yN.cls :: Cmp3.site))
  have q3 : ∀ w ∈ Cmp3.tab :: CodL.tab :: words, w.before a s = true := fun w hw => (List.mem_cons.mp hw).elim (fun e => e ▸ h3) fun hw => (List.mem_cons.mp hw).elim (fun e => e ▸ hc) (h w)
  have h4 : New4.tab.before a s = true := unparts (wk q3 (.code New4.yN New4.yB 6 none)) (wks q3 (.initialized New4.yN.cls :: New4.site))
  have q4 : ∀ w ∈ New4.tab :: words, w.before a s = true := fun w hw => (List.mem_cons.mp hw).elim (fun e => e ▸ h4) (h w)
  exact unparts (wk q4 (.code New1.yN New1.yB 2 none)) (wks q4 (.initialized New1.yN.cls :: New1.site))
/-- the words ride from the start Z to the walk's own state -/
theorem moved {Z s : State} {a0 args : Array Value} (hZ : Z.Warmed39 s.vm) (hw : ∀ d ∈ words, d.before a0 Z = true) : ∀ d ∈ words, d.before args s = true := fun d hd => by
  have q := hw d hd
  have t : ∀ d ∈ words, d = .arrayClass .byte ∨ (d.onTables && d.keepsFace) = true := by decide +kernel
  rcases t d hd with rfl | t
  · exact RoadKit.mvA hZ q
  · exact RoadKit.mv hZ q t
/-- WHAT COMES BACK, over the tables of the start Z: h the heap at the call, h' behind it -/
def Q (Z : State) (x : Addr) (A : Cell) (h : Heap) (v : Option Value) (h' : Heap) (L : List Loc) : Prop := v = none ∧ (∀ y ∈ L, y.base = x) ∧ RoadKit.Keep h h' [x] ∧ h'.size = h.size + 1 ∧ RoadKit.Exa Z h' x ST ∧ RoadKit.Fld Z h' x ST "value" "[B" (.ref h.size) ∧ RoadKit.Fld Z h' x ST "coder" "B" (.int 0) ∧
  (∃ V : Cell, RoadKit.Arr Z h' h.size V .byte ∧ V.vm = .none ∧ Z.vm.findClass "[B" = some V.cls ∧ V.slots.size = A.slots.size ∧ ∀ j, j < A.slots.size → V.slots[j]? = some (.int (lo8 (cv A j)))) ∧
  ∀ (O n d : String) (w : Value), RoadKit.Fld Z h x O n d w → RoadKit.slotOf Z O n d ≠ RoadKit.slotOf Z ST "value" "[B" → RoadKit.slotOf Z O n d ≠ RoadKit.slotOf Z ST "coder" "B" → RoadKit.Fld Z h' x O n d w
/-- **new String(chars) AT A CALL, IN THE ROAD'S FORM**: for specialBack behind newO: x the fresh String, b the char[] with the cell A -/
theorem back {p : Program} {l : Launch} {e : Env} {R : Room} {s : State} {args : Array Value} {below : List Frame} {len W : Nat} {Z : State} {a0 : Array Value} {h : Heap} (hZ : Z.Warmed39 s.vm) (hw : ∀ d ∈ words, d.before a0 Z = true) {kI : Nat} (wi : (Jvm.Cond.instantiable ST kI).before a0 Z = true)
    {x b : Addr} {A : Cell} {z : Int32} {v0 c0 : Value} (E : RoadKit.Exa Z h x ST) (V : RoadKit.Fld Z h x ST "value" "[B" v0) (C : RoadKit.Fld Z h x ST "coder" "B" c0) (K : RoadKit.Arr Z h b A .char) (hty : Typed .char A) (S : RoadKit.Sta Z h ST "COMPACT_STRINGS" "Z" (.int z)) (hz : ¬ z = 0)
    (l0 : 0 < A.slots.size) (l2 : A.slots.size ≤ 536870912) (hp : ∀ i, i < A.slots.size → ¬ 255 < cv A i) (hfr : 4 ≤ R.frames) (hlo : W + 65 ≤ R.locals) :
    Back l R p e below s args New1.yN len W (fun P a => a = #[.ref x, .ref b] ∧ P.U.heap = h ∧ P.cells + 1 ≤ R.cells ∧ P.slots + A.slots.size ≤ R.slots)
      (fun P _ v B => ∃ L, Q Z x A h v B.U.heap L ∧ B.locs = P.locs ++ L ∧ B.cells = P.cells + 1 ∧ B.slots = P.slots + A.slots.size) := by
  intro m meth c P g ig mk a X hg hsize hdg hW hn hp'
  obtain ⟨rfl, rfl, r1, r2⟩ := hp'
  have al : Z.vm.Alike P.U.vm := hZ.alike.trans X.warmed.alike
  obtain ⟨D, cfV, kV, iV, fV, hD, gV, stV, knV, obV, asV, slV⟩ := id V
  obtain ⟨D', cfC, kC, iC, fC, hD', gC, stC, -, -, asC, slC⟩ := id C
  cases hD.symm.trans hD'
  obtain ⟨D2, kD, e1, e2, e3, e4, e5⟩ := id E
  cases hD.symm.trans e1
  obtain ⟨c2, k2, i1, i2, i3, -⟩ := Cond.instantiable_spec wi
  cases e2.symm.trans i1
  cases e3.symm.trans i2
  obtain ⟨kU, u1, u2⟩ := al.2.2 _ _ e3
  have hB : Blank ST x D P.U := ⟨hD, ⟨knV, fun q hq => by rw [hq] at obV; cases obV⟩, by rw [al.findClass]; exact e2, kU, u1, by rw [u2]; exact i3, by rw [u2]; exact e5 i3⟩
  have F1 : Found ST "value" "[B" fV P.U := ⟨SBG.found_only al ⟨cfV, kV, iV, gV⟩, stV⟩
  have F2 : Found ST "coder" "B" fC P.U := ⟨SBG.found_only al ⟨cfC, kC, iC, gC⟩, stC⟩
  have hA : Ch b A P.U := ⟨⟨K.1, State.isArrayOf_alike al K.2.1, K.2.2, by omega⟩, hty⟩
  have hS : StaticIs P.U ST "COMPACT_STRINGS" "Z" (.int z) := by
    obtain ⟨cfS, iS, kS, fS, st, cS, t1, t2, t3, t4, t5, t6, t7⟩ := S
    exact StaticIs.there (s := { Z with heap := P.U.heap }) ⟨cfS, iS, kS, fS, st, cS, t1, t2, t3, t4, t5, (fun q => by rw [q] at t6; cases t6), t7⟩ al rfl
  obtain ⟨v, B, X', ⟨⟨hv, E', V', q1, q2, q3, q4, q5, q6, q7, q8, q9, q10, q11⟩, hl, hc, hs⟩, st⟩ := New1.pays x D fV fC b A z (tab_of (moved hZ hw)) hfr hlo m meth c P g ig mk _ X hg hsize hdg hW hn ⟨r1, r2, rfl, hB, F1, F2, hA, hS, hz, l0, l2, hp⟩
  have al' : Z.vm.Alike B.U.vm := hZ.alike.trans X'.warmed.alike
  have hsz : E'.slots.size = D.slots.size := by
    obtain ⟨-, -, -, kB, w1, w2, w3⟩ := q1
    obtain ⟨kB', y1, y2⟩ := al'.2.2 _ _ e3
    rw [q2.2.1] at w1
    cases w1.symm.trans y1
    rw [w3, e5 i3, y2]
  refine ⟨v, B, X', ⟨_, ⟨hv, ?_, ⟨by omega, fun y cy hy hn' => q10 y cy (by simpa using hn') hy, fun y cy hy => ?_⟩, q11, ⟨E', _, q1.1, by rw [q2.2.1]; exact e2, by rw [q2.2.1]; exact e3, by rw [q2.1]; exact obV, fun _ => by rw [hsz]; exact e5 i3⟩,
    ⟨E', cfV, kV, iV, fV, q1.1, gV, stV, by rw [q2.1]; exact knV, by rw [q2.1]; exact obV, by rw [q2.2.1]; exact asV, q3⟩, ⟨E', cfC, kC, iC, fC, q1.1, gC, stC, by rw [q2.1]; exact knV, by rw [q2.1]; exact obV, by rw [q2.2.1]; exact asC, q4⟩,
    ⟨V', ⟨q5.1, State.isArrayOf_alike al'.symm q5.2.1, q5.2.2.1⟩, q6, by rw [← al'.findClass]; exact q7, q8, fun j hj => by have := q9 j hj; rwa [Nat.zero_add] at this⟩, fun O n d w F n1 n2 => ?_⟩, hl, hc, hs⟩, st⟩
  · intro y hy
    simp only [List.mem_cons, List.not_mem_nil, or_false] at hy
    rcases hy with rfl | rfl <;> rfl
  · by_cases q : y = x
    · subst q
      cases hD.symm.trans hy
      exact ⟨E', q1.1, q2.2.1, q2.1, hsz⟩
    · exact ⟨cy, q10 y cy q hy, rfl, rfl, rfl⟩
  · obtain ⟨D3, cf, k, i, f, g1, g2, g3, g4, g5, g6, g7⟩ := F
    cases hD.symm.trans g1
    simp only [RoadKit.slotOf, g2, gV, gC, Option.map_some, Option.getD_some] at n1 n2
    exact ⟨E', cf, k, i, f, q1.1, g2, g3, by rw [q2.1]; exact g4, by rw [q2.1]; exact g5, by rw [q2.2.1]; exact g6, by rw [q2.2.2 f.slot (by simp [n1, n2])]; exact g7⟩
end StrChars.Road
namespace StrChars.Road
open Jvm Sem ClassFile Op Lib Jvm.Stand Jvm.Free Jvm.Free.XT
/-- WHAT COMES BACK, the byte[] as a list of values -/
def QA (Z : State) (x : Addr) (zn : Int32) (cs : List Int32) (h : Heap) (v : Option Value) (h' : Heap) (L : List Loc) : Prop := v = none ∧ (∀ y ∈ L, y.base = x) ∧ RoadKit.Keep h h' [x] ∧ h'.size = h.size + 1 ∧ RoadKit.Exa Z h' x ST ∧ RoadKit.Fld Z h' x ST "value" "[B" (.ref h.size) ∧ RoadKit.Fld Z h' x ST "coder" "B" (.int 0) ∧
  (∃ kb, Z.vm.findClass "[B" = some kb ∧ RoadKit.Arv Z h' h.size kb .byte zn (cs.map fun c => .int (lo8 c)) (.int 0)) ∧
  ∀ (O n d : String) (w : Value), RoadKit.Fld Z h x O n d w → RoadKit.slotOf Z O n d ≠ RoadKit.slotOf Z ST "value" "[B" → RoadKit.slotOf Z O n d ≠ RoadKit.slotOf Z ST "coder" "B" → RoadKit.Fld Z h' x O n d w
/-- **new String(chars) AT A CALL, THE ARRAYS AS LISTS**: the char[] at b holds cs, not empty, no char above 255 -/
theorem backArv {p : Program} {l : Launch} {e : Env} {R : Room} {s : State} {args : Array Value} {below : List Frame} {len W : Nat} {Z : State} {a0 : Array Value} {h : Heap} (hZ : Z.Warmed39 s.vm) (hw : ∀ d ∈ words, d.before a0 Z = true) {kI : Nat} (wi : (Jvm.Cond.instantiable ST kI).before a0 Z = true)
    {x b : Addr} {k : ClassId} {zn z : Int32} {cs : List Int32} {dv v0 c0 : Value} (E : RoadKit.Exa Z h x ST) (V : RoadKit.Fld Z h x ST "value" "[B" v0) (C : RoadKit.Fld Z h x ST "coder" "B" c0) (K : RoadKit.Arv Z h b k .char zn (cs.map Value.int) dv) (S : RoadKit.Sta Z h ST "COMPACT_STRINGS" "Z" (.int z)) (hz : ¬ z = 0)
    (hlen : zn.toNatClampNeg = cs.length) (h0 : 0 < cs.length) (hbig : cs.length ≤ 536870912) (hall : ∀ c ∈ cs, ¬ 255 < c) (hfr : 4 ≤ R.frames) (hlo : W + 65 ≤ R.locals) :
    Back l R p e below s args New1.yN len W (fun P a => a = #[.ref x, .ref b] ∧ P.U.heap = h ∧ P.cells + 1 ≤ R.cells ∧ P.slots + cs.length ≤ R.slots)
      (fun P _ v B => ∃ L, QA Z x zn cs h v B.U.heap L ∧ B.locs = P.locs ++ L ∧ B.cells = P.cells + 1 ∧ B.slots = P.slots + cs.length) := by
  obtain ⟨A, K1, K2, K3, K4, K5, K6⟩ := K
  have e : A.slots.size = cs.length := K3.trans hlen
  have hat : ∀ (i : Nat) (hi : i < cs.length), A.slots[i]? = some (.int cs[i]) := fun i hi => by rw [K5 i (by omega)]; simp [List.getD_eq_getElem?_getD, hi]
  have hcv : ∀ (i : Nat) (hi : i < cs.length), cv A i = cs[i] := fun i hi => by unfold cv; rw [hat i hi]
  have hty : Typed .char A := fun i v hv => by
    have hi : i < A.slots.size := (Array.getElem?_eq_some_iff.mp hv).1
    have q := K5 i hi
    rw [hv] at q
    rw [Option.some.inj q]
    exact K6 i hi
  refine Back.mono (back hZ hw wi E V C K1 hty S hz (by omega) (by omega) (fun i hi => by rw [hcv i (by omega)]; exact hall _ (List.getElem_mem _)) hfr hlo) (fun P a hp => ⟨hp.1, hp.2.1, hp.2.2.1, by rw [e]; exact hp.2.2.2⟩) (fun P a v B hp hq => ?_)
  obtain ⟨L, ⟨q1, q2, q3, q4, q5, q6, q7, ⟨V', v1, v2, v3, v4, v5⟩, q9⟩, hl, hc, hs⟩ := hq
  refine ⟨L, ⟨q1, q2, q3, q4, q5, q6, q7, ⟨V'.cls, v3, V', v1, rfl, by rw [v4, e, hlen], K4, fun i hi => ?_, fun i hi => ?_⟩, q9⟩, hl, hc, by rw [hs, e]⟩
  · have hi' : i < cs.length := by omega
    rw [v5 i (by omega), hcv i hi']; simp [List.getD_eq_getElem?_getD, hi']
  · have hi' : i < cs.length := by omega
    simp only [List.getD_eq_getElem?_getD, List.getElem?_map, List.getElem?_eq_getElem hi', Option.map_some, Option.getD_some]
    exact fits_lo8 _
end StrChars.Road
namespace StrChars.Road
open Jvm Sem ClassFile Op Lib Jvm.Stand Jvm.Free Jvm.Free.XT
/-- WHAT COMES BACK, in the writer's own shape -/
def QV (Z : State) (x : Addr) (N : Int32) (bs : List Int32) (h : Heap) (n0 : Nat) (v : Option Value) (h' : Heap) (L : List Loc) : Prop := v = none ∧ RoadKit.Fr n0 L ∧ RoadKit.Keep h h' [x] ∧ RoadKit.Exa Z h' x ST ∧ RoadKit.Fld Z h' x ST "coder" "B" (.int 0) ∧
  ∃ (t : Addr) (kb : ClassId), n0 ≤ t ∧ h.size ≤ t ∧ ¬ t = x ∧ RoadKit.Fld Z h' x ST "value" "[B" (.ref t) ∧ RoadKit.Arv Z h' t kb .byte N (bs.map Value.int) (.int 0)
/-- **new String(chars) AT A CALL, FOR THE WRITER**: a char[] of n known ints, each 0 to 255 -/
theorem backV {p : Program} {l : Launch} {e : Env} {R : Room} {s : State} {args : Array Value} {below : List Frame} {len W : Nat} {Z : State} {a0 : Array Value} {h : Heap} (hZ : Z.Warmed39 s.vm) (hw : ∀ d ∈ words, d.before a0 Z = true) {kI : Nat} (wi : (Jvm.Cond.instantiable ST kI).before a0 Z = true)
    {x b : Addr} {kC : ClassId} {cs bs : List Int32} {d v0 c0 : Value} {z N : Int32} {n n0 : Nat} (hx0 : n0 ≤ x) (hh0 : n0 ≤ h.size) (E : RoadKit.Exa Z h x ST) (V : RoadKit.Fld Z h x ST "value" "[B" v0) (C : RoadKit.Fld Z h x ST "coder" "B" c0) (K : RoadKit.Arv Z h b kC .char N (cs.map Value.int) d) (S : RoadKit.Sta Z h ST "COMPACT_STRINGS" "Z" (.int z)) (hz : ¬ z = 0)
    (hn : cs.length = n) (hN : N = Int32.ofNat n) (l0 : 0 < n) (l2 : n ≤ 4000) (hp : ∀ c ∈ cs, ¬ c < 0 ∧ ¬ (255 : Int32) < c) (hb : bs = cs.map (fun c => c.toInt8.toInt32)) (hfr : 4 ≤ R.frames) (hlo : W + 65 ≤ R.locals) :
    Back l R p e below s args (⟨"java/lang/String", "<init>", "([C)V"⟩ : MethodName) len W (fun P a => a = #[.ref x, .ref b] ∧ P.U.heap = h ∧ P.cells + 1 ≤ R.cells ∧ P.slots + n ≤ R.slots)
      (fun P _ v B => ∃ L, QV Z x N bs h n0 v B.U.heap L ∧ B.locs = P.locs ++ L ∧ B.cells = P.cells + 1 ∧ B.slots = P.slots + n) := by
  subst hn hN hb
  refine Back.mono (backArv hZ hw wi E V C K S hz (n32 (by omega)) l0 (by omega) (fun c hc => (hp c hc).2) hfr hlo) (fun P a hp => hp) (fun P a v B hp hq => ?_)
  obtain ⟨L, ⟨q1, q2, q3, q4, q5, q6, q7, ⟨kb, v1, v2⟩, q9⟩, hl, hc, hs⟩ := hq
  exact ⟨L, ⟨q1, fun y hy => by rw [q2 y hy]; exact hx0, q3, q5, q7, h.size, kb, hh0, Nat.le_refl _, Nat.ne_of_gt E.lt, q6, by rw [List.map_map]; exact v2⟩, hl, hc, hs⟩
end StrChars.Road
namespace StrChars
open Jvm Sem ClassFile Op Lib Jvm.Stand Jvm.Free.XT Jvm.Free.ALB Jvm.Free.JM Jvm.Free
open Jvm.Lib.Cold (StaticIs)
def hi8 (x : Int32) : Int32 := lo8 (x >>> ((8 : Int32) &&& 31))
/-- what StringUTF16.getChar makes of two bytes -/
def pairCh (u v : Int32) : Int32 := (((u &&& 255) <<< ((0 : Int32) &&& 31)) ||| ((v &&& 255) <<< ((8 : Int32) &&& 31))).toUInt32.toUInt16.toUInt32.toInt32
theorem lo8_and (x : Int32) : (lo8 x &&& 255).toBitVec.toNat = x.toBitVec.toNat % 256 := by
  have h : (lo8 x).toBitVec = (x.toBitVec.signExtend 8).signExtend 32 := by rw [lo8, Int8.toBitVec_toInt32, Int32.toBitVec_toInt8]
  rw [Int32.toBitVec_and, BitVec.toNat_and, h]
  have e : ((x.toBitVec.signExtend 8).signExtend 32).toNat % 256 = x.toBitVec.toNat % 256 := by
    rw [BitVec.toNat_signExtend]
    have hlt := x.toBitVec.isLt
    simp only [BitVec.toNat_setWidth, BitVec.toNat_signExtend]
    split <;> split <;> omega
  rw [← e]
  exact Nat.and_two_pow_sub_one_eq_mod _ 8
theorem pair_says {c : Int32} (h0 : ¬ c < 0) (h1 : ¬ 65535 < c) : pairCh (lo8 c) (hi8 c) = c := by
  rw [Int32.lt_iff_toInt_lt] at h0 h1
  have e0 : (0 : Int32).toInt = 0 := rfl
  have e1 : (65535 : Int32).toInt = 65535 := rfl
  have hc : c.toInt = c.toBitVec.toNat := by
    have := c.toBitVec.isLt
    have e : c.toInt = c.toBitVec.toInt := rfl
    rw [e] at h0 h1
    rw [e]
    rw [BitVec.toInt_eq_toNat_cond] at h0 h1 ⊢
    split at h0 <;> split <;> omega
  have hn : c.toBitVec.toNat < 65536 := by omega
  have a1 := lo8_and c
  have a2 : (hi8 c &&& 255).toBitVec.toNat = c.toBitVec.toNat / 256 := by
    rw [hi8, lo8_and]
    have e : ((8 : Int32) &&& 31) = 8 := by decide
    rw [e, Int32.toBitVec_shiftRight]
    have e2 : ((8 : Int32).toBitVec.smod 32) = 8#32 := by decide
    rw [e2, BitVec.sshiftRight_eq', BitVec.toNat_sshiftRight_of_msb_false (by rw [BitVec.msb_eq_false_iff_two_mul_lt]; omega)]
    show c.toBitVec.toNat >>> 8 % 256 = _
    rw [Nat.shiftRight_eq_div_pow]
    omega
  unfold pairCh
  apply Int32.toBitVec_inj.mp
  apply BitVec.eq_of_toNat_eq
  have f0 : ((0 : Int32) &&& 31) = 0 := by decide
  have f8 : ((8 : Int32) &&& 31) = 8 := by decide
  rw [f0, f8]
  have g : (((lo8 c &&& 255) <<< (0 : Int32)) ||| ((hi8 c &&& 255) <<< (8 : Int32))).toBitVec.toNat = c.toBitVec.toNat := by
    rw [Int32.toBitVec_or, Int32.toBitVec_shiftLeft, Int32.toBitVec_shiftLeft]
    have s0 : ((0 : Int32).toBitVec.smod 32) = 0#32 := by decide
    have s8 : ((8 : Int32).toBitVec.smod 32) = 8#32 := by decide
    rw [s0, s8, BitVec.toNat_or]
    simp only [BitVec.shiftLeft_eq', BitVec.toNat_shiftLeft, a1, a2]
    show (c.toBitVec.toNat % 256) <<< 0 % 2 ^ 32 ||| (c.toBitVec.toNat / 256) <<< 8 % 2 ^ 32 = _
    rw [Nat.shiftLeft_zero, Nat.mod_eq_of_lt (show c.toBitVec.toNat % 256 < 2 ^ 32 by omega), Nat.mod_eq_of_lt (show (c.toBitVec.toNat / 256) <<< 8 < 2 ^ 32 by rw [Nat.shiftLeft_eq]; omega), Nat.or_comm, ← Nat.shiftLeft_add_eq_or_of_lt (by omega), Nat.shiftLeft_eq]
    omega
  show BitVec.toNat (((((lo8 c &&& 255) <<< (0 : Int32)) ||| ((hi8 c &&& 255) <<< (8 : Int32))).toBitVec.setWidth 16).setWidth 32) = _
  rw [BitVec.toNat_setWidth, BitVec.toNat_setWidth, g]
  omega
end StrChars
namespace StrChars
open Jvm Sem ClassFile Op Lib Jvm.Stand Jvm.Free.XT Jvm.Free.ALB Jvm.Free.JM Jvm.Free
open Jvm.Lib.Cold (StaticIs)
/-- the array's cell V codes the n chars f 0 .. f (n - 1) by the coder cd, as the JDK does: coder 1 just where some char is above 255 -/
def Cod (cd : Int32) (n : Nat) (f : Nat → Int32) (V : Cell) : Prop := (cd = 0 ∧ V.slots.size = n ∧ ∀ j, j < n → V.slots[j]? = some (.int (lo8 (f j))) ∧ ¬ 255 < f j) ∨ (cd = 1 ∧ V.slots.size = 2 * n ∧ (∀ j, j < n → V.slots[2 * j]? = some (.int (lo8 (f j))) ∧ V.slots[2 * j + 1]? = some (.int (hi8 (f j)))) ∧ ∃ j, j < n ∧ 255 < f j)
/-- **x is a String of the n chars f 0 .. f (n - 1)**, Latin-1 or UTF-16; its array at t has the cell V -/
def Txt (x t : Addr) (V : Cell) (cd : Int32) (n : Nat) (f : Nat → Int32) (U : State) : Prop := Exact "java/lang/String" x U ∧ Has x "java/lang/String" "value" "[B" (.ref t) U ∧ Has x "java/lang/String" "coder" "B" (.int cd) U ∧ XT.Arr .byte t V U ∧ Cod cd n f V ∧ ∀ j, j < n → ¬ f j < 0 ∧ ¬ 65535 < f j
theorem Txt.mv {x t : Addr} {V : Cell} {cd : Int32} {n : Nat} {f : Nat → Int32} {U U' : State} (h : Txt x t V cd n f U) (hal : U.vm.Alike U'.vm) (hh : U'.heap = U.heap) : Txt x t V cd n f U' := ⟨h.1.mv hal hh, h.2.1.mv hal hh, h.2.2.1.mv hal hh, h.2.2.2.1.mv hal hh, h.2.2.2.2⟩
end StrChars
namespace StrChars.Road
open Jvm Sem ClassFile Op Lib Jvm.Stand Jvm.Free Jvm.Free.XT
open Jvm.Lib.Cold (StaticIs)
theorem consq {a : Array Value} {s : State} {c : Jvm.Cond} {L : List Jvm.Cond} (h0 : c.before a s = true) (h : ∀ w ∈ L, w.before a s = true) : ∀ w ∈ c :: L, w.before a s = true := fun w hw => (List.mem_cons.mp hw).elim (fun e => e ▸ h0) (h w)
/-- the bytes of the chars cs, low before high -/
def wideBytes : List Int32 → List Value
  | [] => []
  | c :: cs => .int (lo8 c) :: .int (hi8 c) :: wideBytes cs
theorem wide_lo (d : Value) : ∀ (cs : List Int32) (j : Nat), j < cs.length → (wideBytes cs).getD (2 * j) d = .int (lo8 (cs.getD j 0))
  | [], j, h => absurd h (Nat.not_lt_zero j)
  | c :: cs, 0, _ => rfl
  | c :: cs, j + 1, h => by
    have q := wide_lo d cs j (by simpa using h)
    rw [show 2 * (j + 1) = 2 * j + 1 + 1 from by omega]
    simpa [wideBytes] using q
theorem wide_hi (d : Value) : ∀ (cs : List Int32) (j : Nat), j < cs.length → (wideBytes cs).getD (2 * j + 1) d = .int (hi8 (cs.getD j 0))
  | [], j, h => absurd h (Nat.not_lt_zero j)
  | c :: cs, 0, _ => rfl
  | c :: cs, j + 1, h => by
    have q := wide_hi d cs j (by simpa using h)
    rw [show 2 * (j + 1) + 1 = 2 * j + 1 + 1 + 1 from by omega]
    simpa [wideBytes] using q
theorem low_at (d : Value) (cs : List Int32) (j : Nat) (h : j < cs.length) : (cs.map fun c => Value.int (lo8 c)).getD j d = .int (lo8 (cs.getD j 0)) := by
  simp [List.getD_eq_getElem?_getD, h]
/-- an array of N2 bytes vs codes the chars cs by the coder cd -/
def CodA (cs : List Int32) (cd N2 : Int32) (vs : List Value) : Prop := (cd = 0 ∧ N2 = Int32.ofNat cs.length ∧ vs = (cs.map fun c => Value.int (lo8 c)) ∧ ∀ c ∈ cs, ¬ 255 < c) ∨ (cd = 1 ∧ N2 = Int32.ofNat (2 * cs.length) ∧ vs = wideBytes cs ∧ ∃ c ∈ cs, 255 < c)
theorem CodA.cod {cs : List Int32} {cd N2 : Int32} {vs : List Value} {V : Cell} (h : CodA cs cd N2 vs) (hn : 2 * cs.length < 2 ^ 31) (hs : V.slots.size = N2.toNatClampNeg) (hv : RoadKit.Has V vs (.int 0)) : Cod cd cs.length (fun j => cs.getD j 0) V := by
  rcases h with ⟨rfl, rfl, rfl, h⟩ | ⟨rfl, rfl, rfl, c, hc, hw⟩
  · rw [n32 (by omega)] at hs
    exact Or.inl ⟨rfl, hs, fun j hj => ⟨by rw [hv j (by omega), low_at _ _ _ hj], by
      have e : cs.getD j 0 = cs[j] := by simp [List.getD_eq_getElem?_getD, hj]
      show ¬ 255 < cs.getD j 0
      rw [e]; exact h _ (List.getElem_mem _)⟩⟩
  · rw [n32 (by omega)] at hs
    obtain ⟨j, hj, rfl⟩ := List.getElem_of_mem hc
    exact Or.inr ⟨rfl, hs, fun j hj => ⟨by rw [hv _ (by omega), wide_lo _ _ _ hj], by rw [hv _ (by omega), wide_hi _ _ _ hj]⟩, j, hj, by
      have e : cs.getD j 0 = cs[j] := by simp [List.getD_eq_getElem?_getD, hj]
      show 255 < cs.getD j 0
      rw [e]; exact hw⟩
/-- an object of exactly java/lang/String, its two fields found: as the laws ask it -/
theorem strObj {Z U : State} {a0 : Array Value} {kI : Nat} (wi : (Jvm.Cond.instantiable ST kI).before a0 Z = true) (al : Z.vm.Alike U.vm) {x : Addr} {v0 c0 : Value} (E : RoadKit.Exa Z U.heap x ST) (V : RoadKit.Fld Z U.heap x ST "value" "[B" v0) (C : RoadKit.Fld Z U.heap x ST "coder" "B" c0) :
    ∃ (D : Cell) (fV fC : Field), Blank ST x D U ∧ Found ST "value" "[B" fV U ∧ Found ST "coder" "B" fC U ∧ D.slots[fV.slot]? = some v0 ∧ D.slots[fC.slot]? = some c0 ∧ RoadKit.slotOf Z ST "value" "[B" = fV.slot ∧ RoadKit.slotOf Z ST "coder" "B" = fC.slot := by
  obtain ⟨D, cfV, kV, iV, fV, hD, gV, stV, knV, obV, asV, slV⟩ := V
  obtain ⟨D', cfC, kC, iC, fC, hD', gC, stC, -, -, asC, slC⟩ := C
  cases hD.symm.trans hD'
  obtain ⟨D2, kD, e1, e2, e3, e4, e5⟩ := E
  cases hD.symm.trans e1
  obtain ⟨c2, k2, i1, i2, i3, -⟩ := Cond.instantiable_spec wi
  cases e2.symm.trans i1
  cases e3.symm.trans i2
  obtain ⟨kU, u1, u2⟩ := al.2.2 _ _ e3
  exact ⟨D, fV, fC, ⟨hD, ⟨knV, fun q hq => by rw [hq] at obV; cases obV⟩, by rw [al.findClass]; exact e2, kU, u1, by rw [u2]; exact i3, by rw [u2]; exact e5 i3⟩, ⟨SBG.found_only al ⟨cfV, kV, iV, gV⟩, stV⟩, ⟨SBG.found_only al ⟨cfC, kC, iC, gC⟩, stC⟩, slV, slC, by simp [RoadKit.slotOf, gV], by simp [RoadKit.slotOf, gC]⟩
theorem sta_is {Z U : State} (al : Z.vm.Alike U.vm) {C n d : String} {v : Value} (S : RoadKit.Sta Z U.heap C n d v) : StaticIs U C n d v := by
  obtain ⟨cfS, iS, kS, fS, st, cS, t1, t2, t3, t4, t5, t6, t7⟩ := S
  exact StaticIs.there (s := { Z with heap := U.heap }) ⟨cfS, iS, kS, fS, st, cS, t1, t2, t3, t4, t5, (fun q => by rw [q] at t6; cases t6), t7⟩ al rfl
end StrChars.Road
namespace StrChars
open Jvm Sem ClassFile Op Lib Jvm.Stand Jvm.Free.XT Jvm.Free.ALB Jvm.Free.JM Jvm.Free
open Jvm.Lib.Cold (StaticIs)
/-- what place i of a byte[]'s cell holds -/
def yv (A : Cell) (i : Nat) : Int32 := match A.slots[i]? with | some (.int x) => x | _ => 0
theorem yv_get {a : Addr} {A : Cell} {U : State} (h : XT.Arr .byte a A U) (ht : Typed .byte A) {i : Nat} (hi : i < A.slots.size) : A.slots[i]? = some (.int (yv A i)) := by
  have e := Array.getElem?_eq_getElem hi
  have f := ht i _ e
  unfold yv; rw [e]
  generalize A.slots[i] = v at f
  cases v <;> simp [fits] at f ⊢
/-- the two arrays are equal, place for place -/
def EqC (A B : Cell) : Prop := A.slots.size = B.slots.size ∧ ∀ i, i < A.slots.size → yv A i = yv B i
/-- a boolean that says whether p -/
def Says01 (q : Prop) (r : Option Value) (s u : State) : Prop := ∃ v : Int32, r = some (.int v) ∧ u.heap = s.heap ∧ ((v = 1 ∧ q) ∨ (v = 0 ∧ ¬ q))
theorem Says01.mv {q : Prop} : ∀ r (U U' V V' : State), U'.heap = U.heap → V.vm.Alike V'.vm → V'.heap = V.heap → Says01 q r U V → Says01 q r U' V' :=
  fun r U U' V V' h1 _ h2 ⟨v, a, b, c⟩ => ⟨v, a, by rw [h1, h2]; exact b, c⟩
namespace LEq
def yN : MethodName := ⟨"java/lang/StringLatin1", "equals", "([B[B)Z"⟩
abbrev yB : ByteArray := jdk_43_method_13_code
theorem d0 : decode yB 0 = .ok (.aload_n 0, 1) := by decide +kernel
theorem d1 : decode yB 1 = .ok (.arraylength, 1) := by decide +kernel
theorem d2 : decode yB 2 = .ok (.aload_n 1, 1) := by decide +kernel
theorem d3 : decode yB 3 = .ok (.arraylength, 1) := by decide +kernel
theorem d4 : decode yB 4 = .ok (.if_icmp (.ne) 30, 3) := by decide +kernel
theorem d7 : decode yB 7 = .ok (.iconst 0, 1) := by decide +kernel
theorem d8 : decode yB 8 = .ok (.istore_n 2, 1) := by decide +kernel
theorem d9 : decode yB 9 = .ok (.iload_n 2, 1) := by decide +kernel
theorem d10 : decode yB 10 = .ok (.aload_n 0, 1) := by decide +kernel
theorem d11 : decode yB 11 = .ok (.arraylength, 1) := by decide +kernel
theorem d12 : decode yB 12 = .ok (.if_icmp (.ge) 20, 3) := by decide +kernel
theorem d15 : decode yB 15 = .ok (.aload_n 0, 1) := by decide +kernel
theorem d16 : decode yB 16 = .ok (.iload_n 2, 1) := by decide +kernel
theorem d17 : decode yB 17 = .ok (.baload, 1) := by decide +kernel
theorem d18 : decode yB 18 = .ok (.aload_n 1, 1) := by decide +kernel
theorem d19 : decode yB 19 = .ok (.iload_n 2, 1) := by decide +kernel
theorem d20 : decode yB 20 = .ok (.baload, 1) := by decide +kernel
theorem d21 : decode yB 21 = .ok (.if_icmp (.eq) 5, 3) := by decide +kernel
theorem d24 : decode yB 24 = .ok (.iconst 0, 1) := by decide +kernel
theorem d25 : decode yB 25 = .ok (.ireturn, 1) := by decide +kernel
theorem d26 : decode yB 26 = .ok (.iinc 2 1, 3) := by decide +kernel
theorem d29 : decode yB 29 = .ok (.goto (-20), 3) := by decide +kernel
theorem d32 : decode yB 32 = .ok (.iconst 1, 1) := by decide +kernel
theorem d33 : decode yB 33 = .ok (.ireturn, 1) := by decide +kernel
theorem d34 : decode yB 34 = .ok (.iconst 0, 1) := by decide +kernel
theorem d35 : decode yB 35 = .ok (.ireturn, 1) := by decide +kernel
def site : List Cond := []
def tab : Cond := tabOf yN yB 3 (some .boolean) site
def P (a : Addr) (A : Cell) (b : Addr) (B : Cell) (args : Array Value) (s : State) : Prop := args = #[.ref a, .ref b] ∧ XT.Arr .byte a A s ∧ Typed .byte A ∧ XT.Arr .byte b B s ∧ Typed .byte B
/-- whether two byte[] are equal, place for place -/
theorem law (l : Launch) (a : Addr) (A : Cell) (b : Addr) (B : Cell) : Law l yN 2 2 0 0 yB 3 (some .boolean) site (P a A b B) (Says01 (EqC A B)) [] 0 0 := by
  refine Law.of_walk (plainFor_of_name (by decide +kernel)) (by decide +kernel) (by decide +kernel) (by decide) (fun _ _ h => by rw [h.1]; rfl) (fun _ U U' hal hh h => ⟨h.1, h.2.1.mv hal hh, h.2.2.1, h.2.2.2.1.mv hal hh, h.2.2.2.2⟩) (fun r U U' V V' h1 hal h2 h => Says01.mv r U U' V V' h1 hal h2 h) ?_
  intro p e s m args below meth c s₁ X0 hexec hbytes hml hret hlk hnm hown hh0 W hP
  obtain ⟨rfl, hA, tA, hB, tB⟩ := hP
  have a31 := hA.2.2.2
  have b31 := hB.2.2.2
  have hA0 := hA.mv X0.warmed.alike hh0
  have hB0 := hB.mv X0.warmed.alike hh0
  have c1 : Steps p.tables e below (s₁.setTop (entryFrame m #[.ref a, .ref b] 3)) (s₁.setTop (mkF m 0 #[.val (.ref a), .val (.ref b), .unset] [])) := entry rfl
  have c2 : Steps p.tables e below (s₁.setTop (entryFrame m #[.ref a, .ref b] 3)) (s₁.setTop (mkF m 4 #[.val (.ref a), .val (.ref b), .unset] [.int (Int32.ofNat B.slots.size), .int (Int32.ofNat A.slots.size)])) := c1.trans (by
    refine XS.aloadN X0.here hexec rfl (hb hbytes d0) rfl rfl ?_
    refine X0.alen hexec hA0 rfl rfl (hb hbytes d1) ?_
    refine XS.aloadN X0.here hexec rfl (hb hbytes d2) rfl rfl ?_
    refine X0.alen hexec hB0 rfl rfl (hb hbytes d3) ?_
    exact Steps.refl _)
  by_cases hs : A.slots.size = B.slots.size
  · have c3 : Steps p.tables e below (s₁.setTop (entryFrame m #[.ref a, .ref b] 3)) (s₁.setTop (mkF m 9 #[.val (.ref a), .val (.ref b), .val (.int 0)] [])) := c2.trans (by
      refine XS.icmpNo X0.here hexec rfl (hb hbytes d4) rfl (ii_ne_f (by rw [hs])) ?_
      refine iconstV X0.here hexec rfl 0 (hb hbytes d7) (by decide) ?_
      refine XS.istoreN X0.here hexec rfl (hb hbytes d8) rfl rfl ?_
      exact Steps.refl _)
    have loop : ∀ (r i : Nat), i + r = A.slots.size → (∀ j, j < i → yv A j = yv B j) → Steps p.tables e below (s₁.setTop (entryFrame m #[.ref a, .ref b] 3)) (s₁.setTop (mkF m 9 #[.val (.ref a), .val (.ref b), .val (.int (Int32.ofNat i))] [])) → ∃ (pc : Nat) (Ls : Array Slot) (v : Int32), (pc = 25 ∨ pc = 33) ∧ ((v = 1 ∧ EqC A B) ∨ (v = 0 ∧ ¬ EqC A B)) ∧ Steps p.tables e below (s₁.setTop (entryFrame m #[.ref a, .ref b] 3)) (s₁.setTop (mkF m pc Ls [.int v])) := by
      intro r
      induction r with
      | zero =>
        intro i hi he cl
        exact ⟨33, _, 1, Or.inr rfl, Or.inl ⟨rfl, hs, fun j hj => he j (by omega)⟩, cl.trans (by
          refine XS.iloadN X0.here hexec rfl (hb hbytes d9) rfl ?_
          refine XS.aloadN X0.here hexec rfl (hb hbytes d10) rfl rfl ?_
          refine X0.alen hexec hA0 rfl rfl (hb hbytes d11) ?_
          refine XS.icmpYes X0.here hexec rfl (pc0 := 12) rfl (hb hbytes d12) rfl (ii_ge_t (nlt32 (by omega) (by omega))) (by decide) rfl ?_
          refine iconstV X0.here hexec rfl 1 (hb hbytes d32) (by decide) ?_
          exact Steps.refl _)⟩
      | succ r ih =>
        intro i hi he cl
        have c4 : Steps p.tables e below (s₁.setTop (entryFrame m #[.ref a, .ref b] 3)) (s₁.setTop (mkF m 21 #[.val (.ref a), .val (.ref b), .val (.int (Int32.ofNat i))] [.int (yv B i), .int (yv A i)])) := cl.trans (by
          refine XS.iloadN X0.here hexec rfl (hb hbytes d9) rfl ?_
          refine XS.aloadN X0.here hexec rfl (hb hbytes d10) rfl rfl ?_
          refine X0.alen hexec hA0 rfl rfl (hb hbytes d11) ?_
          refine XS.icmpNo X0.here hexec rfl (hb hbytes d12) rfl (ii_ge_f (lt32 (by omega) (by omega))) ?_
          refine XS.aloadN X0.here hexec rfl (hb hbytes d15) rfl rfl ?_
          refine XS.iloadN X0.here hexec rfl (hb hbytes d16) rfl ?_
          refine X0.aget hexec hA0 rfl (yv_get hA tA (i := i) (by omega)) rfl rfl (hb hbytes d17) ?_
          refine XS.aloadN X0.here hexec rfl (hb hbytes d18) rfl rfl ?_
          refine XS.iloadN X0.here hexec rfl (hb hbytes d19) rfl ?_
          refine X0.aget hexec hB0 rfl (yv_get hB tB (i := i) (by omega)) rfl rfl (hb hbytes d20) ?_
          exact Steps.refl _)
        by_cases hv : yv A i = yv B i
        · have c5 : Steps p.tables e below (s₁.setTop (entryFrame m #[.ref a, .ref b] 3)) (s₁.setTop (mkF m 9 #[.val (.ref a), .val (.ref b), .val (.int (Int32.ofNat i + 1))] [])) := c4.trans (by
            refine XS.icmpYes X0.here hexec rfl (pc0 := 21) rfl (hb hbytes d21) rfl (ii_eq_t hv) (by decide) rfl ?_
            refine iincV X0.here hexec rfl 1 (hb hbytes d26) (by decide) rfl rfl ?_
            refine XS.goto X0.here hexec rfl (pc0 := 29) rfl (hb hbytes d29) (by decide) rfl ?_
            exact Steps.refl _)
          rw [succ32] at c5
          exact ih (i + 1) (by omega) (fun j hj => by
            by_cases e : j = i
            · rw [e]; exact hv
            · exact he j (by omega)) c5
        · exact ⟨25, _, 0, Or.inl rfl, Or.inr ⟨rfl, fun q => hv (q.2 i (by omega))⟩, c4.trans (by
            refine XS.icmpNo X0.here hexec rfl (hb hbytes d21) rfl (ii_eq_f hv) ?_
            refine iconstV X0.here hexec rfl 0 (hb hbytes d24) (by decide) ?_
            exact Steps.refl _)⟩
    obtain ⟨pc, Ls, v, hpc, hv, cz⟩ := loop A.slots.size 0 (by omega) (fun j hj => absurd hj (Nat.not_lt_zero j)) c3
    have nv : narrow .boolean (.int v) = .int v := by rcases hv with ⟨rfl, -⟩ | ⟨rfl, -⟩ <;> rfl
    rcases hpc with rfl | rfl
    · exact ⟨s₁, some (.int v), _, _, _, X0, rfl, rfl, rfl, (fun h => by cases h), ⟨v, rfl, hh0, hv⟩, fun fs hl => cz.trans (X0.ireturnOut hexec hret nv (Or.inr (Or.inl rfl)) (hb hbytes d25) hl)⟩
    · exact ⟨s₁, some (.int v), _, _, _, X0, rfl, rfl, rfl, (fun h => by cases h), ⟨v, rfl, hh0, hv⟩, fun fs hl => cz.trans (X0.ireturnOut hexec hret nv (Or.inr (Or.inl rfl)) (hb hbytes d33) hl)⟩
  · have c3 : Steps p.tables e below (s₁.setTop (entryFrame m #[.ref a, .ref b] 3)) (s₁.setTop (mkF m 35 #[.val (.ref a), .val (.ref b), .unset] [.int 0])) := c2.trans (by
      refine XS.icmpYes X0.here hexec rfl (pc0 := 4) rfl (hb hbytes d4) rfl (ii_ne_t (ne32 a31 b31 hs)) (by decide) rfl ?_
      refine iconstV X0.here hexec rfl 0 (hb hbytes d34) (by decide) ?_
      exact Steps.refl _)
    exact ⟨s₁, some (.int 0), _, _, _, X0, rfl, rfl, rfl, (fun h => by cases h), ⟨0, rfl, hh0, Or.inr ⟨rfl, fun q => hs q.1⟩⟩, fun fs hl => c3.trans (X0.ireturnOut hexec hret rfl (Or.inr (Or.inl rfl)) (hb hbytes d35) hl)⟩
end LEq
theorem Cod.ty {cd : Int32} {n : Nat} {f : Nat → Int32} {V : Cell} (h : Cod cd n f V) : Typed .byte V := fun i v hv => by
  have hi : i < V.slots.size := (Array.getElem?_eq_some_iff.mp hv).1
  rcases h with ⟨-, k1, k2⟩ | ⟨-, k1, k2, -⟩
  · rw [(k2 i (by omega)).1] at hv; cases hv; exact fits_lo8 _
  · rcases Nat.mod_two_eq_zero_or_one i with e | e
    · obtain ⟨j, rfl⟩ : ∃ j, i = 2 * j := ⟨i / 2, by omega⟩
      rw [(k2 j (by omega)).1] at hv; cases hv; exact fits_lo8 _
    · obtain ⟨j, rfl⟩ : ∃ j, i = 2 * j + 1 := ⟨i / 2, by omega⟩
      rw [(k2 j (by omega)).2] at hv; cases hv; exact fits_lo8 _
/-- the same text -/
def SameT (n : Nat) (f : Nat → Int32) (k : Nat) (g : Nat → Int32) : Prop := n = k ∧ ∀ j, j < n → f j = g j
theorem lo8_inj {x y : Int32} (h0 : ¬ x < 0) (h1 : ¬ 255 < x) (k0 : ¬ y < 0) (k1 : ¬ 255 < y) (h : lo8 x = lo8 y) : x = y := by
  rw [← lo8_mask h0 h1, ← lo8_mask k0 k1, h]
/-- arrays coded by one coder are equal just where the texts are -/
theorem Cod.eqv {cd : Int32} {n k : Nat} {f g : Nat → Int32} {V V' : Cell} (h : Cod cd n f V) (h' : Cod cd k g V') (hf : ∀ j, j < n → ¬ f j < 0 ∧ ¬ 65535 < f j) (hg : ∀ j, j < k → ¬ g j < 0 ∧ ¬ 65535 < g j) : EqC V V' ↔ SameT n f k g := by
  have yvv : ∀ {W : Cell} {i : Nat} {x : Int32}, W.slots[i]? = some (.int x) → yv W i = x := fun q => by unfold yv; rw [q]
  rcases h with ⟨rfl, k1, k2⟩ | ⟨rfl, k1, k2, -⟩
  · rcases h' with ⟨-, m1, m2⟩ | ⟨e, -⟩
    · constructor
      · rintro ⟨e1, e2⟩
        refine ⟨by omega, fun j hj => ?_⟩
        have q := e2 j (by omega)
        rw [yvv (k2 j hj).1, yvv (m2 j (by omega)).1] at q
        exact lo8_inj (hf j hj).1 (k2 j hj).2 (hg j (by omega)).1 (m2 j (by omega)).2 q
      · rintro ⟨rfl, e2⟩
        refine ⟨by omega, fun j hj => ?_⟩
        rw [yvv (k2 j (by omega)).1, yvv (m2 j (by omega)).1, e2 j (by omega)]
    · exact absurd e (by decide)
  · rcases h' with ⟨e, -⟩ | ⟨-, m1, m2, -⟩
    · exact absurd e (by decide)
    · constructor
      · rintro ⟨e1, e2⟩
        refine ⟨by omega, fun j hj => ?_⟩
        have q1 := e2 (2 * j) (by omega)
        have q2 := e2 (2 * j + 1) (by omega)
        rw [yvv (k2 j hj).1, yvv (m2 j (by omega)).1] at q1
        rw [yvv (k2 j hj).2, yvv (m2 j (by omega)).2] at q2
        rw [← pair_says (hf j hj).1 (hf j hj).2, ← pair_says (hg j (by omega)).1 (hg j (by omega)).2, q1, q2]
      · rintro ⟨rfl, e2⟩
        refine ⟨by omega, fun i hi => ?_⟩
        rcases Nat.mod_two_eq_zero_or_one i with e | e
        · obtain ⟨j, rfl⟩ : ∃ j, i = 2 * j := ⟨i / 2, by omega⟩
          rw [yvv (k2 j (by omega)).1, yvv (m2 j (by omega)).1, e2 j (by omega)]
        · obtain ⟨j, rfl⟩ : ∃ j, i = 2 * j + 1 := ⟨i / 2, by omega⟩
          rw [yvv (k2 j (by omega)).2, yvv (m2 j (by omega)).2, e2 j (by omega)]
/-- two codings differ: so do the texts -/
theorem Cod.dif {cd cd' : Int32} {n k : Nat} {f g : Nat → Int32} {V V' : Cell} (h : Cod cd n f V) (h' : Cod cd' k g V') (hne : ¬ cd = cd') : ¬ SameT n f k g := by
  rintro ⟨rfl, e⟩
  rcases h with ⟨rfl, -, k2⟩ | ⟨rfl, -, -, j, hj, hw⟩
  · rcases h' with ⟨rfl, -⟩ | ⟨-, -, -, j, hj, hw⟩
    · exact hne rfl
    · exact (k2 j hj).2 (by rw [e j hj]; exact hw)
  · rcases h' with ⟨-, -, m2⟩ | ⟨rfl, -⟩
    · exact (m2 j hj).2 (by rw [← e j hj]; exact hw)
    · exact hne rfl
/-- an object of exactly C is an instance of C -/
theorem cinst {p : Program} {l : Launch} {e : Env} {R : Room} {s : State} {m : MethodId} {args : Array Value} {below : List Frame} {meth : Method} {c : Code} {T : State} {locs : List Loc} {cells slots : Nat} (X : Stand p l e R s m args below meth c T locs cells slots) (hexec : p.tables.exec = Jvm.exec) {own C : String} {index : Nat} (hown : s.vm.findClass own = some m.cls) (hlink : (Cond.classLink own index C).before args s = true) {a : Addr} (hE : Exact C a T)
    {g : JFrame} (hg : g.method = m) {rest : List Value} (hstack : g.stack = .ref a :: rest) (hdg : decode c.code g.pc = .ok (.instanceof index, 3)) :
    ∃ T', Stand p l e R s m args below meth c T' locs cells slots ∧ T'.heap = T.heap ∧ ∀ target, Steps p.tables e below (T'.setTop { g with pc := g.pc + 3, stack := .int 1 :: rest }) target → Steps p.tables e below (T.setTop g) target := by
  obtain ⟨cB, h1, D, h2, h3, h4⟩ := hE
  have h1' : s.vm.findClass C = some cB := by rw [← X.warmed.alike.findClass]; exact h1
  obtain ⟨vm', X', st⟩ := X.instanceofYes hexec hown hlink h2 h4 h1' (by rw [h3]; exact Jvm.Free.SB.assignable_self _ _) hg hstack hdg
  exact ⟨_, X', rfl, st⟩
theorem cself {p : Program} {l : Launch} {e : Env} {R : Room} {s : State} {m : MethodId} {args : Array Value} {below : List Frame} {meth : Method} {c : Code} {T : State} {locs : List Loc} {cells slots : Nat} (X : Stand p l e R s m args below meth c T locs cells slots) (hexec : p.tables.exec = Jvm.exec) {own C : String} {index : Nat} (hown : s.vm.findClass own = some m.cls) (hlink : (Cond.classLink own index C).before args s = true) {a : Addr} (hE : Exact C a T)
    {g : JFrame} (hg : g.method = m) {rest : List Value} (hstack : g.stack = .ref a :: rest) (hdg : decode c.code g.pc = .ok (.checkcast index, 3)) :
    ∃ T', Stand p l e R s m args below meth c T' locs cells slots ∧ T'.heap = T.heap ∧ ∀ target, Steps p.tables e below (T'.setTop { g with pc := g.pc + 3, stack := .ref a :: rest }) target → Steps p.tables e below (T.setTop g) target := by
  obtain ⟨cB, h1, D, h2, h3, h4⟩ := hE
  have h1' : s.vm.findClass C = some cB := by rw [← X.warmed.alike.findClass]; exact h1
  obtain ⟨vm', X', st⟩ := X.checkcastYes hexec hown hlink h2 h4 h1' (by rw [h3]; exact Jvm.Free.SB.assignable_self _ _) hg hstack hdg
  exact ⟨_, X', rfl, fun t h => st t (by rw [← hstack] at h; exact h)⟩
namespace SEq
def yN : MethodName := ⟨"java/lang/String", "equals", "(Ljava/lang/Object;)Z"⟩
abbrev yB : ByteArray := jdk_42_method_66_code
theorem d0 : decode yB 0 = .ok (.aload_n 0, 1) := by decide +kernel
theorem d1 : decode yB 1 = .ok (.aload_n 1, 1) := by decide +kernel
theorem d2 : decode yB 2 = .ok (.if_acmp (.ne) 5, 3) := by decide +kernel
theorem d5 : decode yB 5 = .ok (.iconst 1, 1) := by decide +kernel
theorem d6 : decode yB 6 = .ok (.ireturn, 1) := by decide +kernel
theorem d7 : decode yB 7 = .ok (.aload_n 1, 1) := by decide +kernel
theorem d8 : decode yB 8 = .ok (.instanceof 10, 3) := by decide +kernel
theorem d11 : decode yB 11 = .ok (.ifCond (.eq) 43, 3) := by decide +kernel
theorem d14 : decode yB 14 = .ok (.aload_n 1, 1) := by decide +kernel
theorem d15 : decode yB 15 = .ok (.checkcast 10, 3) := by decide +kernel
theorem d18 : decode yB 18 = .ok (.astore_n 2, 1) := by decide +kernel
theorem d19 : decode yB 19 = .ok (.getstatic 38, 3) := by decide +kernel
theorem d22 : decode yB 22 = .ok (.ifCond (.eq) 14, 3) := by decide +kernel
theorem d25 : decode yB 25 = .ok (.aload_n 0, 1) := by decide +kernel
theorem d26 : decode yB 26 = .ok (.getfield 15, 3) := by decide +kernel
theorem d29 : decode yB 29 = .ok (.aload_n 2, 1) := by decide +kernel
theorem d30 : decode yB 30 = .ok (.getfield 15, 3) := by decide +kernel
theorem d33 : decode yB 33 = .ok (.if_icmp (.ne) 21, 3) := by decide +kernel
theorem d36 : decode yB 36 = .ok (.aload_n 0, 1) := by decide +kernel
theorem d37 : decode yB 37 = .ok (.getfield 9, 3) := by decide +kernel
theorem d40 : decode yB 40 = .ok (.aload_n 2, 1) := by decide +kernel
theorem d41 : decode yB 41 = .ok (.getfield 9, 3) := by decide +kernel
theorem d44 : decode yB 44 = .ok (.invokestatic 541, 3) := by decide +kernel
theorem d47 : decode yB 47 = .ok (.ifCond (.eq) 7, 3) := by decide +kernel
theorem d50 : decode yB 50 = .ok (.iconst 1, 1) := by decide +kernel
theorem d51 : decode yB 51 = .ok (.goto 4, 3) := by decide +kernel
theorem d54 : decode yB 54 = .ok (.iconst 0, 1) := by decide +kernel
theorem d55 : decode yB 55 = .ok (.ireturn, 1) := by decide +kernel
def site : List Cond := [.classLink "java/lang/String" 10 "java/lang/String", .fieldLink "java/lang/String" 38 "java/lang/String" "COMPACT_STRINGS" "Z", .fieldLink "java/lang/String" 15 "java/lang/String" "coder" "B", .fieldLink "java/lang/String" 9 "java/lang/String" "value" "[B", LEq.tab] ++ staticW "java/lang/String" 541 LEq.yN
def tab : Cond := tabOf yN yB 3 (some .boolean) site
def P (x t : Addr) (V : Cell) (cd : Int32) (n : Nat) (f : Nat → Int32) (y t' : Addr) (V' : Cell) (cd' : Int32) (k : Nat) (g : Nat → Int32) (z : Int32) (args : Array Value) (s : State) : Prop := args = #[.ref x, .ref y] ∧ Txt x t V cd n f s ∧ Txt y t' V' cd' k g s ∧ StaticIs s "java/lang/String" "COMPACT_STRINGS" "Z" (.int z) ∧ ¬ z = 0
/-- equals(Object) of two Strings: whether the texts are the same -/
theorem law (l : Launch) (x t : Addr) (V : Cell) (cd : Int32) (n : Nat) (f : Nat → Int32) (y t' : Addr) (V' : Cell) (cd' : Int32) (k : Nat) (g : Nat → Int32) (z : Int32) : Law l yN 2 1 1 14 yB 3 (some .boolean) site (P x t V cd n f y t' V' cd' k g z) (Says01 (SameT n f k g)) [] 0 0 := by
  refine Law.of_walk (plainFor_of_name (by decide +kernel)) (by decide +kernel) (by decide +kernel) (by decide) (fun _ _ h => by rw [h.1]; rfl) (fun _ U U' hal hh h => ⟨h.1, h.2.1.mv hal hh, h.2.2.1.mv hal hh, h.2.2.2.1.there hal hh, h.2.2.2.2⟩) (fun r U U' V V' h1 hal h2 h => Says01.mv r U U' V V' h1 hal h2 h) ?_
  intro p e s m args below meth c s₁ X0 hexec hbytes hml hret hlk hnm hown hh0 W hP
  obtain ⟨rfl, hx, hy, s1, hz⟩ := hP
  have c1 : Steps p.tables e below (s₁.setTop (entryFrame m #[.ref x, .ref y] 3)) (s₁.setTop (mkF m 2 #[.val (.ref x), .val (.ref y), .unset] [.ref y, .ref x])) := Steps.trans (entry rfl) (by
    show Steps p.tables e below (s₁.setTop (mkF m 0 #[.val (.ref x), .val (.ref y), .unset] [])) _
    refine XS.aloadN X0.here hexec rfl (hb hbytes d0) rfl rfl ?_
    refine XS.aloadN X0.here hexec rfl (hb hbytes d1) rfl rfl ?_
    exact Steps.refl _)
  by_cases hxy : x = y
  · have c2 : Steps p.tables e below (s₁.setTop (entryFrame m #[.ref x, .ref y] 3)) (s₁.setTop (mkF m 6 #[.val (.ref x), .val (.ref y), .unset] [.int 1])) := c1.trans (by
      refine acmpNo X0.here hexec rfl (hb hbytes d2) rfl rfl rfl (by simp [acmp, hxy]) ?_
      refine iconstV X0.here hexec rfl 1 (hb hbytes d5) (by decide) ?_
      exact Steps.refl _)
    subst hxy
    have ec : cd = cd' := by
      obtain ⟨D, fd, a1, a2, a3⟩ := hx.2.2.1
      obtain ⟨D', fd', b1, b2, b3⟩ := hy.2.2.1
      cases a1.symm.trans b1
      obtain ⟨q1, q2, q3, q4⟩ := a2.1
      obtain ⟨r1, r2, r3, r4⟩ := b2.1
      cases q4.symm.trans r4
      cases a3.symm.trans b3; rfl
    have et : t = t' := by
      obtain ⟨D, fd, a1, a2, a3⟩ := hx.2.1
      obtain ⟨D', fd', b1, b2, b3⟩ := hy.2.1
      cases a1.symm.trans b1
      obtain ⟨q1, q2, q3, q4⟩ := a2.1
      obtain ⟨r1, r2, r3, r4⟩ := b2.1
      cases q4.symm.trans r4
      cases a3.symm.trans b3; rfl
    subst ec et
    have ev : V = V' := by cases hx.2.2.2.1.1.symm.trans hy.2.2.2.1.1; rfl
    subst ev
    have hs : SameT n f k g := (Cod.eqv hx.2.2.2.2.1 hy.2.2.2.2.1 hx.2.2.2.2.2 hy.2.2.2.2.2).mp ⟨rfl, fun _ _ => rfl⟩
    exact ⟨s₁, some (.int 1), _, _, _, X0, rfl, rfl, rfl, (fun h => by cases h), ⟨1, rfl, hh0, Or.inl ⟨rfl, hs⟩⟩, fun fs hl => c2.trans (X0.ireturnOut hexec hret rfl (Or.inr (Or.inl rfl)) (hb hbytes d6) hl)⟩
  · have c2 : Steps p.tables e below (s₁.setTop (entryFrame m #[.ref x, .ref y] 3)) (s₁.setTop (mkF m 8 #[.val (.ref x), .val (.ref y), .unset] [.ref y])) := c1.trans (by
      refine acmpYes X0.here hexec rfl (pc0 := 2) rfl (hb hbytes d2) rfl rfl rfl (by simp [acmp, hxy]) (by decide) rfl ?_
      refine XS.aloadN X0.here hexec rfl (hb hbytes d7) rfl rfl ?_
      exact Steps.refl _)
    obtain ⟨T3, X3, q3, st3⟩ := cinst X0 hexec hown (wk W (.classLink "java/lang/String" 10 "java/lang/String")) (hy.mv X0.warmed.alike hh0).1 (g := (mkF m 8 #[.val (.ref x), .val (.ref y), .unset] [.ref y])) rfl (rest := []) rfl (hb hbytes d8)
    have hh3 := q3.trans hh0
    have c4 : Steps p.tables e below (s₁.setTop (entryFrame m #[.ref x, .ref y] 3)) (T3.setTop (mkF m 15 #[.val (.ref x), .val (.ref y), .unset] [.ref y])) := (c2.trans (st3 _ (Steps.refl _))).trans (by
      refine XS.ifNo X3.here hexec rfl (hb hbytes d11) rfl (i0_eq_f (by decide)) ?_
      refine XS.aloadN X3.here hexec rfl (hb hbytes d14) rfl rfl ?_
      exact Steps.refl _)
    obtain ⟨T5, X5, q5, st5⟩ := cself X3 hexec hown (wk W (.classLink "java/lang/String" 10 "java/lang/String")) (hy.mv X3.warmed.alike hh3).1 (g := (mkF m 15 #[.val (.ref x), .val (.ref y), .unset] [.ref y])) rfl (rest := []) rfl (hb hbytes d15)
    have hh5 := q5.trans hh3
    have c6 : Steps p.tables e below (s₁.setTop (entryFrame m #[.ref x, .ref y] 3)) (T5.setTop (mkF m 19 #[.val (.ref x), .val (.ref y), .val (.ref y)] [])) := (c4.trans (st5 _ (Steps.refl _))).trans (by
      refine XS.astoreN X5.here hexec rfl (hb hbytes d18) rfl rfl rfl ?_
      exact Steps.refl _)
    obtain ⟨T7, X7, q7, st7⟩ := X5.sget hexec hown (wk W (.fieldLink "java/lang/String" 38 "java/lang/String" "COMPACT_STRINGS" "Z")) s1 (fun _ _ h => by rw [hh5]; exact h) (g := (mkF m 19 #[.val (.ref x), .val (.ref y), .val (.ref y)] [])) rfl (hb hbytes d19)
    have hh7 := q7.trans hh5
    have c8 : Steps p.tables e below (s₁.setTop (entryFrame m #[.ref x, .ref y] 3)) (T7.setTop (mkF m 26 #[.val (.ref x), .val (.ref y), .val (.ref y)] [.ref x])) := (c6.trans (st7 _ (Steps.refl _))).trans (by
      refine XS.ifNo X7.here hexec rfl (hb hbytes d22) rfl (i0_eq_f hz) ?_
      refine XS.aloadN X7.here hexec rfl (hb hbytes d25) rfl rfl ?_
      exact Steps.refl _)
    obtain ⟨T9, X9, q9, st9⟩ := X7.hget hexec hown (wk W (.fieldLink "java/lang/String" 15 "java/lang/String" "coder" "B")) (hx.mv X7.warmed.alike hh7).2.2.1 (g := (mkF m 26 #[.val (.ref x), .val (.ref y), .val (.ref y)] [.ref x])) rfl (rest := []) rfl (hb hbytes d26)
    have hh9 := q9.trans hh7
    have c10 : Steps p.tables e below (s₁.setTop (entryFrame m #[.ref x, .ref y] 3)) (T9.setTop (mkF m 30 #[.val (.ref x), .val (.ref y), .val (.ref y)] [.ref y, .int cd])) := (c8.trans (st9 _ (Steps.refl _))).trans (by
      refine XS.aloadN X9.here hexec rfl (hb hbytes d29) rfl rfl ?_
      exact Steps.refl _)
    obtain ⟨T11, X11, q11, st11⟩ := X9.hget hexec hown (wk W (.fieldLink "java/lang/String" 15 "java/lang/String" "coder" "B")) (hy.mv X9.warmed.alike hh9).2.2.1 (g := (mkF m 30 #[.val (.ref x), .val (.ref y), .val (.ref y)] [.ref y, .int cd])) rfl (rest := [.int cd]) rfl (hb hbytes d30)
    have hh11 := q11.trans hh9
    have c12 : Steps p.tables e below (s₁.setTop (entryFrame m #[.ref x, .ref y] 3)) (T11.setTop (mkF m 33 #[.val (.ref x), .val (.ref y), .val (.ref y)] [.int cd', .int cd])) := c10.trans (st11 _ (Steps.refl _))
    by_cases hcd : cd = cd'
    · subst hcd
      have c13 : Steps p.tables e below (s₁.setTop (entryFrame m #[.ref x, .ref y] 3)) (T11.setTop (mkF m 37 #[.val (.ref x), .val (.ref y), .val (.ref y)] [.ref x])) := c12.trans (by
        refine XS.icmpNo X11.here hexec rfl (hb hbytes d33) rfl (ii_ne_f rfl) ?_
        refine XS.aloadN X11.here hexec rfl (hb hbytes d36) rfl rfl ?_
        exact Steps.refl _)
      obtain ⟨T14, X14, q14, st14⟩ := X11.hget hexec hown (wk W (.fieldLink "java/lang/String" 9 "java/lang/String" "value" "[B")) (hx.mv X11.warmed.alike hh11).2.1 (g := (mkF m 37 #[.val (.ref x), .val (.ref y), .val (.ref y)] [.ref x])) rfl (rest := []) rfl (hb hbytes d37)
      have hh14 := q14.trans hh11
      have c15 : Steps p.tables e below (s₁.setTop (entryFrame m #[.ref x, .ref y] 3)) (T14.setTop (mkF m 41 #[.val (.ref x), .val (.ref y), .val (.ref y)] [.ref y, .ref t])) := (c13.trans (st14 _ (Steps.refl _))).trans (by
        refine XS.aloadN X14.here hexec rfl (hb hbytes d40) rfl rfl ?_
        exact Steps.refl _)
      obtain ⟨T16, X16, q16, st16⟩ := X14.hget hexec hown (wk W (.fieldLink "java/lang/String" 9 "java/lang/String" "value" "[B")) (hy.mv X14.warmed.alike hh14).2.1 (g := (mkF m 41 #[.val (.ref x), .val (.ref y), .val (.ref y)] [.ref y, .ref t])) rfl (rest := [.ref t]) rfl (hb hbytes d41)
      have hh16 := q16.trans hh14
      have c17 : Steps p.tables e below (s₁.setTop (entryFrame m #[.ref x, .ref y] 3)) (T16.setTop (mkF m 44 #[.val (.ref x), .val (.ref y), .val (.ref y)] [.ref t', .ref t])) := c15.trans (st16 _ (Steps.refl _))
      obtain ⟨v18, T18, X18, E18, g18⟩ := X16.callS hexec (LEq.law l t V t' V') hown (wks W (staticW "java/lang/String" 541 LEq.yN)) (wk W LEq.tab) (W := 0) (Nat.le_of_ble_eq_true rfl) (Nat.le_of_ble_eq_true rfl) (Nat.le_refl _) (Nat.le_refl _) (g := (mkF m 44 #[.val (.ref x), .val (.ref y), .val (.ref y)] [.ref t', .ref t])) rfl (by rw [hml]; rfl) c17 (argsL := [.ref t, .ref t']) (rest := []) rfl rfl (by show 2 * 0 + 0 ≤ _; decide) (hb hbytes d44) (⟨rfl, hx.2.2.2.1.mv X16.warmed.alike hh16, hx.2.2.2.2.1.ty, hy.2.2.2.1.mv X16.warmed.alike hh16, hy.2.2.2.2.1.ty⟩)
      obtain ⟨v, rfl, q18, hv⟩ := E18
      have iff := Cod.eqv hx.2.2.2.2.1 hy.2.2.2.2.1 hx.2.2.2.2.2 hy.2.2.2.2.2
      rcases hv with ⟨rfl, he⟩ | ⟨rfl, he⟩
      · have c19 : Steps p.tables e below (s₁.setTop (entryFrame m #[.ref x, .ref y] 3)) (T18.setTop (mkF m 55 #[.val (.ref x), .val (.ref y), .val (.ref y)] [.int 1])) := Steps.trans g18 (by
          refine XS.ifNo X18.here hexec rfl (hb hbytes d47) rfl (i0_eq_f (by decide)) ?_
          refine iconstV X18.here hexec rfl 1 (hb hbytes d50) (by decide) ?_
          refine XS.goto X18.here hexec rfl (pc0 := 51) rfl (hb hbytes d51) (by decide) rfl ?_
          exact Steps.refl _)
        exact ⟨T18, some (.int 1), _, _, _, X18, rfl, rfl, rfl, (fun h => by cases h), ⟨1, rfl, q18.trans hh16, Or.inl ⟨rfl, iff.mp he⟩⟩, fun fs hl => c19.trans (X18.ireturnOut hexec hret rfl (Or.inr (Or.inl rfl)) (hb hbytes d55) hl)⟩
      · have c19 : Steps p.tables e below (s₁.setTop (entryFrame m #[.ref x, .ref y] 3)) (T18.setTop (mkF m 55 #[.val (.ref x), .val (.ref y), .val (.ref y)] [.int 0])) := Steps.trans g18 (by
          refine XS.ifYes X18.here hexec rfl (pc0 := 47) rfl (hb hbytes d47) rfl (i0_eq_t rfl) (by decide) rfl ?_
          refine iconstV X18.here hexec rfl 0 (hb hbytes d54) (by decide) ?_
          exact Steps.refl _)
        exact ⟨T18, some (.int 0), _, _, _, X18, rfl, rfl, rfl, (fun h => by cases h), ⟨0, rfl, q18.trans hh16, Or.inr ⟨rfl, fun q => he (iff.mpr q)⟩⟩, fun fs hl => c19.trans (X18.ireturnOut hexec hret rfl (Or.inr (Or.inl rfl)) (hb hbytes d55) hl)⟩
    · have c13 : Steps p.tables e below (s₁.setTop (entryFrame m #[.ref x, .ref y] 3)) (T11.setTop (mkF m 55 #[.val (.ref x), .val (.ref y), .val (.ref y)] [.int 0])) := c12.trans (by
        refine XS.icmpYes X11.here hexec rfl (pc0 := 33) rfl (hb hbytes d33) rfl (ii_ne_t hcd) (by decide) rfl ?_
        refine iconstV X11.here hexec rfl 0 (hb hbytes d54) (by decide) ?_
        exact Steps.refl _)
      exact ⟨T11, some (.int 0), _, _, _, X11, rfl, rfl, rfl, (fun h => by cases h), ⟨0, rfl, hh11, Or.inr ⟨rfl, Cod.dif hx.2.2.2.2.1 hy.2.2.2.2.1 hcd⟩⟩, fun fs hl => c13.trans (X11.ireturnOut hexec hret rfl (Or.inr (Or.inl rfl)) (hb hbytes d55) hl)⟩
theorem pays {l : Launch} {R : Room} {p : Program} {e : Env} {below : List Frame} {s : State} {sargs : Array Value} {len W : Nat} (x t : Addr) (V : Cell) (cd : Int32) (n : Nat) (f : Nat → Int32) (y t' : Addr) (V' : Cell) (cd' : Int32) (k : Nat) (g : Nat → Int32) (z : Int32) (htab : tab.before sargs s = true) (hfr : 2 ≤ R.frames) (hlo : W + 28 ≤ R.locals) :
    Back l R p e below s sargs yN len W (fun A₁ a₁ => A₁.cells + 0 ≤ R.cells ∧ A₁.slots + 0 ≤ R.slots ∧ P x t V cd n f y t' V' cd' k g z a₁ A₁.U) (fun A₁ _ v₁ B₁ => Says01 (SameT n f k g) v₁ A₁.U B₁.U ∧ B₁.locs = A₁.locs ++ [] ∧ B₁.cells = A₁.cells + 0 ∧ B₁.slots = A₁.slots + 0) :=
  (law l x t V cd n f y t' V' cd' k g z).pays htab hfr (by omega)
end SEq
end StrChars
namespace StrChars.Road
open Jvm Sem ClassFile Op Lib Jvm.Stand Jvm.Free Jvm.Free.XT
open Jvm.Lib.Cold (StaticIs)
/-- the words of String.equals(Object) -/
abbrev wordsEq : List Jvm.Cond := [.code SEq.yN SEq.yB 3 (some .boolean), .initialized ST, .classLink ST 10 ST, .fieldLink ST 38 ST "COMPACT_STRINGS" "Z", .fieldLink ST 15 ST "coder" "B", .fieldLink ST 9 ST "value" "[B", .methodLink ST 541 LEq.yN, .static LEq.yN, .code LEq.yN LEq.yB 3 (some .boolean), .initialized "java/lang/StringLatin1"]
theorem tabEq_of {a : Array Value} {s : State} (h : ∀ w ∈ wordsEq, w.before a s = true) : SEq.tab.before a s = true := by
  have hl : LEq.tab.before a s = true := unparts (wk h (.code LEq.yN LEq.yB 3 (some .boolean))) (wks h (.initialized LEq.yN.cls :: LEq.site))
  have q := consq hl h
  exact unparts (wk q (.code SEq.yN SEq.yB 3 (some .boolean))) (wks q (.initialized SEq.yN.cls :: SEq.site))
theorem movedEq {Z s : State} {a0 args : Array Value} (hZ : Z.Warmed39 s.vm) (hw : ∀ d ∈ wordsEq, d.before a0 Z = true) : ∀ d ∈ wordsEq, d.before args s = true := fun d hd => by
  have t : ∀ d ∈ wordsEq, (d.onTables && d.keepsFace) = true := by decide +kernel
  exact RoadKit.mv hZ (hw d hd) (t d hd)
/-- the road's facts of a String, as the laws ask it -/
theorem txt_of {Z U : State} {a0 : Array Value} {kI : Nat} (wi : (Jvm.Cond.instantiable ST kI).before a0 Z = true) (al : Z.vm.Alike U.vm) {x t : Addr} {kb : ClassId} {cs : List Int32} {cd N2 : Int32} {vs : List Value} (E : RoadKit.Exa Z U.heap x ST) (V : RoadKit.Fld Z U.heap x ST "value" "[B" (.ref t)) (C : RoadKit.Fld Z U.heap x ST "coder" "B" (.int cd)) (K : RoadKit.Arv Z U.heap t kb .byte N2 vs (.int 0)) (hc : CodA cs cd N2 vs) (hb : ∀ c ∈ cs, ¬ c < 0 ∧ ¬ (65535 : Int32) < c) (l2 : cs.length ≤ 4000) :
    ∃ A, Txt x t A cd cs.length (fun j => cs.getD j 0) U := by
  obtain ⟨A, K1, K2, K3, K4, K5, K6⟩ := K
  have hcod := hc.cod (by omega) K3 K5
  obtain ⟨D, fV, fC, hB, F1, F2, g1, g2, -, -⟩ := strObj wi al E V C
  exact ⟨A, ⟨_, hB.2.2.1, D, hB.1, rfl, by cases q : D.vm <;> first | rfl | exact absurd q (hB.2.1.2 _)⟩, Has.of hB F1 g1, Has.of hB F2 g2, ⟨K1.1, State.isArrayOf_alike al K1.2.1, K1.2.2, by rcases hcod with ⟨-, q, -⟩ | ⟨-, q, -⟩ <;> omega⟩, hcod, fun j hj => by
    have e : cs.getD j 0 = cs[j] := by simp [List.getD_eq_getElem?_getD, hj]
    show ¬ cs.getD j 0 < 0 ∧ ¬ 65535 < cs.getD j 0
    rw [e]; exact hb _ (List.getElem_mem _)⟩
theorem same_list (cs ds : List Int32) : SameT cs.length (fun j => cs.getD j 0) ds.length (fun j => ds.getD j 0) ↔ cs = ds := by
  constructor
  · rintro ⟨e, q⟩
    refine List.ext_getElem e fun j h1 h2 => ?_
    have := q j h1
    simpa [List.getD_eq_getElem?_getD, h1, h2] using this
  · rintro rfl
    exact ⟨rfl, fun _ _ => rfl⟩
/-- **equals(Object) OF TWO SUCH STRINGS**: 1 just where the chars are the same -/
theorem eqW {p : Program} {l : Launch} {e : Env} {R : Room} {s : State} {args : Array Value} {below : List Frame} {len W : Nat} {Z : State} {a0 : Array Value} {h : Heap} (hZ : Z.Warmed39 s.vm) (hw : ∀ d ∈ wordsEq, d.before a0 Z = true) {kI : Nat} (wi : (Jvm.Cond.instantiable ST kI).before a0 Z = true)
    {x t : Addr} {kb : ClassId} {cs : List Int32} {cd N2 : Int32} {vs : List Value} (E : RoadKit.Exa Z h x ST) (V : RoadKit.Fld Z h x ST "value" "[B" (.ref t)) (C : RoadKit.Fld Z h x ST "coder" "B" (.int cd)) (K : RoadKit.Arv Z h t kb .byte N2 vs (.int 0)) (hc : CodA cs cd N2 vs) (hb : ∀ c ∈ cs, ¬ c < 0 ∧ ¬ (65535 : Int32) < c) (l2 : cs.length ≤ 4000)
    {y t' : Addr} {kb' : ClassId} {ds : List Int32} {cd' N2' : Int32} {vs' : List Value} (E' : RoadKit.Exa Z h y ST) (V' : RoadKit.Fld Z h y ST "value" "[B" (.ref t')) (C' : RoadKit.Fld Z h y ST "coder" "B" (.int cd')) (K' : RoadKit.Arv Z h t' kb' .byte N2' vs' (.int 0)) (hc' : CodA ds cd' N2' vs') (hb' : ∀ c ∈ ds, ¬ c < 0 ∧ ¬ (65535 : Int32) < c) (l2' : ds.length ≤ 4000)
    {z : Int32} (S : RoadKit.Sta Z h ST "COMPACT_STRINGS" "Z" (.int z)) (hz : ¬ z = 0) (hfr : 2 ≤ R.frames) (hlo : W + 28 ≤ R.locals) :
    Back l R p e below s args (⟨"java/lang/String", "equals", "(Ljava/lang/Object;)Z"⟩ : MethodName) len W (fun P a => a = #[.ref x, .ref y] ∧ P.U.heap = h ∧ P.cells + 0 ≤ R.cells ∧ P.slots + 0 ≤ R.slots)
      (fun P _ v B => ∃ L, (((v = some (.int 1) ∧ cs = ds) ∨ (v = some (.int 0) ∧ ¬ cs = ds)) ∧ L = [] ∧ B.U.heap = h) ∧ B.locs = P.locs ++ L ∧ B.cells = P.cells + 0 ∧ B.slots = P.slots + 0) := by
  intro m meth c P g ig mk a X hg hsize hdg hW hn hp'
  obtain ⟨rfl, rfl, r1, r2⟩ := hp'
  have al : Z.vm.Alike P.U.vm := hZ.alike.trans X.warmed.alike
  obtain ⟨A, hx⟩ := txt_of wi al E V C K hc hb l2
  obtain ⟨A', hy⟩ := txt_of wi al E' V' C' K' hc' hb' l2'
  obtain ⟨v, B, X', ⟨⟨w, hv, hh, hq⟩, hl, hk, hs⟩, st⟩ := SEq.pays x t A cd cs.length (fun j => cs.getD j 0) y t' A' cd' ds.length (fun j => ds.getD j 0) z (tabEq_of (movedEq hZ hw)) hfr hlo m meth c P g ig mk _ X hg hsize hdg hW hn ⟨r1, r2, rfl, hx, hy, sta_is al S, hz⟩
  refine ⟨v, B, X', ⟨[], ⟨?_, rfl, hh⟩, hl, hk, hs⟩, st⟩
  rcases hq with ⟨rfl, q⟩ | ⟨rfl, q⟩
  · exact Or.inl ⟨hv, (same_list cs ds).mp q⟩
  · exact Or.inr ⟨hv, fun e => q ((same_list cs ds).mpr e)⟩
end StrChars.Road
end Jvm.Pilot.@@N@@
namespace Jvm.Pilot.@@N@@
open Jvm Jvm.ClassFile Sem Op Lib Jvm.Free Jvm.Stand Jvm.LawKit Jvm.RoadKit Bundle Jvm.OwnGo Jvm.Pilot.@@N@@.Jvm.D
theorem w_0 : (Jvm.Cond.classLink "com/example/reckon_buckets/reckonbuckets/storage/UsageKeyEqualsPinLaw" (12 : Nat) "com/example/reckon_buckets/reckonbuckets/storage/UsageKey") ∈ tables_1 := List.mem_of_getElem? (i := 0) rfl
theorem w_1 : (Jvm.Cond.instantiable "com/example/reckon_buckets/reckonbuckets/storage/UsageKey" (3 : Nat)) ∈ tables_1 := List.mem_of_getElem? (i := 1) rfl
theorem w_2 : (Jvm.Cond.initialized "com/example/reckon_buckets/reckonbuckets/storage/UsageKey") ∈ tables_1 := List.mem_of_getElem? (i := 2) rfl
theorem w_3 : (Jvm.Cond.methodLink "com/example/reckon_buckets/reckonbuckets/storage/UsageKeyEqualsPinLaw" (14 : Nat) ({ cls := "com/example/reckon_buckets/reckonbuckets/storage/UsageKeyEqualsPinLaw", name := "mk", desc := "(ICC)Ljava/lang/String;" } : Jvm.MethodName)) ∈ tables_1 := List.mem_of_getElem? (i := 3) rfl
theorem w_4 : (Jvm.Cond.static ({ cls := "com/example/reckon_buckets/reckonbuckets/storage/UsageKeyEqualsPinLaw", name := "mk", desc := "(ICC)Ljava/lang/String;" } : Jvm.MethodName)) ∈ tables_1 := List.mem_of_getElem? (i := 4) rfl
theorem w_5 : (Jvm.Cond.initialized "com/example/reckon_buckets/reckonbuckets/storage/UsageKeyEqualsPinLaw") ∈ tables_1 := List.mem_of_getElem? (i := 5) rfl
theorem w_6 : (Jvm.Cond.code ({ cls := "com/example/reckon_buckets/reckonbuckets/storage/UsageKeyEqualsPinLaw", name := "mk", desc := "(ICC)Ljava/lang/String;" } : Jvm.MethodName) method_2_code (3 : Nat) (Option.some (Jvm.ClassFile.FieldType.object "java/lang/String"))) ∈ tables_1 := List.mem_of_getElem? (i := 6) rfl
theorem w_7 : (Jvm.Cond.classLink "com/example/reckon_buckets/reckonbuckets/storage/UsageKeyEqualsPinLaw" (7 : Nat) "java/lang/String") ∈ tables_1 := List.mem_of_getElem? (i := 7) rfl
theorem w_8 : (Jvm.Cond.instantiable "java/lang/String" (4 : Nat)) ∈ tables_1 := List.mem_of_getElem? (i := 8) rfl
theorem w_9 : (Jvm.Cond.initialized "java/lang/String") ∈ tables_1 := List.mem_of_getElem? (i := 9) rfl
theorem w_10 : (Jvm.Cond.arrayClass Jvm.ClassFile.FieldType.char) ∈ tables_1 := List.mem_of_getElem? (i := 10) rfl
theorem w_11 : (Jvm.Cond.methodLink "com/example/reckon_buckets/reckonbuckets/storage/UsageKeyEqualsPinLaw" (9 : Nat) ({ cls := "java/lang/String", name := "<init>", desc := "([C)V" } : Jvm.MethodName)) ∈ tables_1 := List.mem_of_getElem? (i := 11) rfl
theorem w_12 : (Jvm.Cond.instanceMethod ({ cls := "java/lang/String", name := "<init>", desc := "([C)V" } : Jvm.MethodName)) ∈ tables_1 := List.mem_of_getElem? (i := 12) rfl
theorem w_13 : (Jvm.Cond.code ({ cls := "java/lang/String", name := "<init>", desc := "([C)V" } : Jvm.MethodName) jdk_42_method_3_code (2 : Nat) (Option.none : Option Jvm.ClassFile.FieldType)) ∈ tables_1 := List.mem_of_getElem? (i := 13) rfl
theorem w_14 : (Jvm.Cond.methodLink "java/lang/String" (27 : Nat) ({ cls := "java/lang/String", name := "<init>", desc := "([CIILjava/lang/Void;)V" } : Jvm.MethodName)) ∈ tables_1 := List.mem_of_getElem? (i := 14) rfl
theorem w_15 : (Jvm.Cond.instanceMethod ({ cls := "java/lang/String", name := "<init>", desc := "([CIILjava/lang/Void;)V" } : Jvm.MethodName)) ∈ tables_1 := List.mem_of_getElem? (i := 15) rfl
theorem w_17 : (Jvm.Cond.code ({ cls := "java/lang/String", name := "<init>", desc := "([CIILjava/lang/Void;)V" } : Jvm.MethodName) jdk_42_method_149_code (6 : Nat) (Option.none : Option Jvm.ClassFile.FieldType)) ∈ tables_1 := List.mem_of_getElem? (i := 17) rfl
theorem w_18 : (Jvm.Cond.methodLink "java/lang/String" (1 : Nat) ({ cls := "java/lang/Object", name := "<init>", desc := "()V" } : Jvm.MethodName)) ∈ tables_1 := List.mem_of_getElem? (i := 18) rfl
theorem w_19 : (Jvm.Cond.instanceMethod ({ cls := "java/lang/Object", name := "<init>", desc := "()V" } : Jvm.MethodName)) ∈ tables_1 := List.mem_of_getElem? (i := 19) rfl
theorem w_20 : (Jvm.Cond.code ({ cls := "java/lang/Object", name := "<init>", desc := "()V" } : Jvm.MethodName) object_method_1_code (1 : Nat) (Option.none : Option Jvm.ClassFile.FieldType)) ∈ tables_1 := List.mem_of_getElem? (i := 20) rfl
theorem w_21 : (Jvm.Cond.stringLink "java/lang/String" (7 : Nat) "") ∈ tables_1 := List.mem_of_getElem? (i := 21) rfl
theorem w_22 : (Jvm.Cond.arrayClass Jvm.ClassFile.FieldType.byte) ∈ tables_1 := List.mem_of_getElem? (i := 22) rfl
theorem w_23 : (Jvm.Cond.laysFinal "java/lang/String" "java/lang/String" "value" "[B") ∈ tables_1 := List.mem_of_getElem? (i := 23) rfl
theorem w_24 : (Jvm.Cond.laysFinal "java/lang/String" "java/lang/String" "coder" "B") ∈ tables_1 := List.mem_of_getElem? (i := 24) rfl
theorem w_27 : (Jvm.Cond.fieldLink "java/lang/String" (9 : Nat) "java/lang/String" "value" "[B") ∈ tables_1 := List.mem_of_getElem? (i := 27) rfl
theorem w_28 : (Jvm.Cond.fieldLink "java/lang/String" (15 : Nat) "java/lang/String" "coder" "B") ∈ tables_1 := List.mem_of_getElem? (i := 28) rfl
theorem w_29 : (Jvm.Cond.methodLink "com/example/reckon_buckets/reckonbuckets/storage/UsageKeyEqualsPinLaw" (20 : Nat) ({ cls := "com/example/reckon_buckets/reckonbuckets/storage/UsageKey", name := "<init>", desc := "(Ljava/lang/String;Ljava/lang/String;J)V" } : Jvm.MethodName)) ∈ tables_1 := List.mem_of_getElem? (i := 29) rfl
theorem w_30 : (Jvm.Cond.instanceMethod ({ cls := "com/example/reckon_buckets/reckonbuckets/storage/UsageKey", name := "<init>", desc := "(Ljava/lang/String;Ljava/lang/String;J)V" } : Jvm.MethodName)) ∈ tables_1 := List.mem_of_getElem? (i := 30) rfl
theorem w_31 : (Jvm.Cond.code ({ cls := "com/example/reckon_buckets/reckonbuckets/storage/UsageKey", name := "<init>", desc := "(Ljava/lang/String;Ljava/lang/String;J)V" } : Jvm.MethodName) prog_36_method_1_code (5 : Nat) (Option.none : Option Jvm.ClassFile.FieldType)) ∈ tables_1 := List.mem_of_getElem? (i := 31) rfl
theorem w_32 : (Jvm.Cond.methodLink "com/example/reckon_buckets/reckonbuckets/storage/UsageKey" (1 : Nat) ({ cls := "java/lang/Object", name := "<init>", desc := "()V" } : Jvm.MethodName)) ∈ tables_1 := List.mem_of_getElem? (i := 32) rfl
theorem w_33 : (Jvm.Cond.fieldLink "com/example/reckon_buckets/reckonbuckets/storage/UsageKey" (7 : Nat) "com/example/reckon_buckets/reckonbuckets/storage/UsageKey" "userId" "Ljava/lang/String;") ∈ tables_1 := List.mem_of_getElem? (i := 33) rfl
theorem w_34 : (Jvm.Cond.laysFinal "com/example/reckon_buckets/reckonbuckets/storage/UsageKey" "com/example/reckon_buckets/reckonbuckets/storage/UsageKey" "userId" "Ljava/lang/String;") ∈ tables_1 := List.mem_of_getElem? (i := 34) rfl
theorem w_35 : (Jvm.Cond.fieldLink "com/example/reckon_buckets/reckonbuckets/storage/UsageKey" (13 : Nat) "com/example/reckon_buckets/reckonbuckets/storage/UsageKey" "bucket" "Ljava/lang/String;") ∈ tables_1 := List.mem_of_getElem? (i := 35) rfl
theorem w_36 : (Jvm.Cond.laysFinal "com/example/reckon_buckets/reckonbuckets/storage/UsageKey" "com/example/reckon_buckets/reckonbuckets/storage/UsageKey" "bucket" "Ljava/lang/String;") ∈ tables_1 := List.mem_of_getElem? (i := 36) rfl
theorem w_37 : (Jvm.Cond.fieldLink "com/example/reckon_buckets/reckonbuckets/storage/UsageKey" (16 : Nat) "com/example/reckon_buckets/reckonbuckets/storage/UsageKey" "epoch" "J") ∈ tables_1 := List.mem_of_getElem? (i := 37) rfl
theorem w_38 : (Jvm.Cond.laysFinal "com/example/reckon_buckets/reckonbuckets/storage/UsageKey" "com/example/reckon_buckets/reckonbuckets/storage/UsageKey" "epoch" "J") ∈ tables_1 := List.mem_of_getElem? (i := 38) rfl
theorem w_39 : (Jvm.Cond.methodLink "com/example/reckon_buckets/reckonbuckets/storage/UsageKeyEqualsPinLaw" (27 : Nat) ({ cls := "com/example/reckon_buckets/reckonbuckets/storage/UsageKeyEqualsPinLaw", name := "sameStr", desc := "(IICC)Z" } : Jvm.MethodName)) ∈ tables_1 := List.mem_of_getElem? (i := 39) rfl
theorem w_40 : (Jvm.Cond.static ({ cls := "com/example/reckon_buckets/reckonbuckets/storage/UsageKeyEqualsPinLaw", name := "sameStr", desc := "(IICC)Z" } : Jvm.MethodName)) ∈ tables_1 := List.mem_of_getElem? (i := 40) rfl
theorem w_41 : (Jvm.Cond.code ({ cls := "com/example/reckon_buckets/reckonbuckets/storage/UsageKeyEqualsPinLaw", name := "sameStr", desc := "(IICC)Z" } : Jvm.MethodName) method_3_code (4 : Nat) (Option.some Jvm.ClassFile.FieldType.boolean)) ∈ tables_1 := List.mem_of_getElem? (i := 41) rfl
theorem w_42 : (Jvm.Cond.methodLink "com/example/reckon_buckets/reckonbuckets/storage/UsageKeyEqualsPinLaw" (23 : Nat) ({ cls := "com/example/reckon_buckets/reckonbuckets/storage/UsageKey", name := "equals", desc := "(Ljava/lang/Object;)Z" } : Jvm.MethodName)) ∈ tables_1 := List.mem_of_getElem? (i := 42) rfl
theorem w_43 : (Jvm.Cond.declares ({ cls := "com/example/reckon_buckets/reckonbuckets/storage/UsageKey", name := "equals", desc := "(Ljava/lang/Object;)Z" } : Jvm.MethodName)) ∈ tables_1 := List.mem_of_getElem? (i := 43) rfl
theorem w_44 : (Jvm.Cond.instanceMethod ({ cls := "com/example/reckon_buckets/reckonbuckets/storage/UsageKey", name := "equals", desc := "(Ljava/lang/Object;)Z" } : Jvm.MethodName)) ∈ tables_1 := List.mem_of_getElem? (i := 44) rfl
theorem w_45 : (Jvm.Cond.selects "com/example/reckon_buckets/reckonbuckets/storage/UsageKey" ({ cls := "com/example/reckon_buckets/reckonbuckets/storage/UsageKey", name := "equals", desc := "(Ljava/lang/Object;)Z" } : Jvm.MethodName) ({ cls := "com/example/reckon_buckets/reckonbuckets/storage/UsageKey", name := "equals", desc := "(Ljava/lang/Object;)Z" } : Jvm.MethodName)) ∈ tables_1 := List.mem_of_getElem? (i := 45) rfl
theorem w_46 : (Jvm.Cond.code ({ cls := "com/example/reckon_buckets/reckonbuckets/storage/UsageKey", name := "equals", desc := "(Ljava/lang/Object;)Z" } : Jvm.MethodName) prog_36_method_6_code (2 : Nat) (Option.some Jvm.ClassFile.FieldType.boolean)) ∈ tables_1 := List.mem_of_getElem? (i := 46) rfl
theorem w_47 : (Jvm.Cond.classLink "com/example/reckon_buckets/reckonbuckets/storage/UsageKey" (8 : Nat) "com/example/reckon_buckets/reckonbuckets/storage/UsageKey") ∈ tables_1 := List.mem_of_getElem? (i := 47) rfl
theorem w_49 : (Jvm.Cond.methodLink "com/example/reckon_buckets/reckonbuckets/storage/UsageKey" (30 : Nat) ({ cls := "java/lang/String", name := "equals", desc := "(Ljava/lang/Object;)Z" } : Jvm.MethodName)) ∈ tables_1 := List.mem_of_getElem? (i := 49) rfl
theorem w_50 : (Jvm.Cond.declares ({ cls := "java/lang/String", name := "equals", desc := "(Ljava/lang/Object;)Z" } : Jvm.MethodName)) ∈ tables_1 := List.mem_of_getElem? (i := 50) rfl
theorem w_51 : (Jvm.Cond.instanceMethod ({ cls := "java/lang/String", name := "equals", desc := "(Ljava/lang/Object;)Z" } : Jvm.MethodName)) ∈ tables_1 := List.mem_of_getElem? (i := 51) rfl
theorem w_52 : (Jvm.Cond.selects "java/lang/String" ({ cls := "java/lang/String", name := "equals", desc := "(Ljava/lang/Object;)Z" } : Jvm.MethodName) ({ cls := "java/lang/String", name := "equals", desc := "(Ljava/lang/Object;)Z" } : Jvm.MethodName)) ∈ tables_1 := List.mem_of_getElem? (i := 52) rfl
theorem w_70 : (Jvm.Cond.superclass "java/lang/String" "java/lang/Object") ∈ tables_1 := List.mem_of_getElem? (i := 70) rfl
theorem w_71 : (Jvm.Cond.noSuperclass "java/lang/Object") ∈ tables_1 := List.mem_of_getElem? (i := 71) rfl
/-- a char of one byte -/
def Ch8 (c : Int32) : Prop := ¬ c < 0 ∧ ¬ (255 : Int32) < c
theorem ch8_mask (x : Int32) : Ch8 (x &&& 255) := by
  have h : (x &&& 255).toBitVec.toNat < 256 := by
    simp only [Int32.toBitVec_and, BitVec.toNat_and]
    exact Nat.lt_succ_of_le Nat.and_le_right
  have e : (x &&& 255) = Int32.ofNat (x &&& 255).toBitVec.toNat := by
    apply Int32.toBitVec_inj.mp
    show _ = BitVec.ofNat 32 _
    rw [BitVec.ofNat_toNat]; simp
  rw [e]
  exact (by decide +kernel : ∀ k : Fin 256, ¬ Int32.ofNat k.val < 0 ∧ ¬ (255 : Int32) < Int32.ofNat k.val) ⟨_, h⟩
theorem ch8_fin {c : Int32} (h : Ch8 c) : ∃ k : Fin 256, c = Int32.ofNat k.val := by
  obtain ⟨h1, h2⟩ := h
  rw [Int32.lt_iff_toInt_lt] at h1 h2
  have e1 : (0 : Int32).toInt = 0 := (by decide)
  have e2 : (255 : Int32).toInt = 255 := (by decide)
  have e3 : (Int32.ofNat c.toInt.toNat).toInt = (c.toInt.toNat : Int) := Int32.toInt_ofNat_of_lt (by omega)
  refine ⟨⟨c.toInt.toNat, by omega⟩, Int32.toInt_inj.mp ?_⟩
  show c.toInt = (Int32.ofNat c.toInt.toNat).toInt
  rw [e3]
  omega
theorem nar_ch8 {c : Int32} (h : Ch8 c) : nar .char c = c := by
  obtain ⟨k, rfl⟩ := ch8_fin h
  exact (by decide +kernel : ∀ k : Fin 256, nar .char (Int32.ofNat k.val) = Int32.ofNat k.val) k
theorem ch8_i2c (x : Int32) : Ch8 ((x &&& 255).toUInt32.toUInt16.toUInt32.toInt32) := by
  rw [i2c_mask]; exact ch8_mask x
theorem ch8_l2c (x : Int64) : Ch8 ((x &&& 255).toInt32.toUInt32.toUInt16.toUInt32.toInt32) := by
  rw [Int64.toInt32_and]; exact ch8_i2c x.toInt32
theorem own_allc {c : Int32} {cs : List Int32} (h : Ch8 c) (r : ∀ c ∈ cs, ¬ c < 0 ∧ ¬ (255 : Int32) < c) : ∀ x ∈ c :: cs, ¬ x < 0 ∧ ¬ (255 : Int32) < x := fun x hx => (List.mem_cons.mp hx).elim (fun e => e ▸ h) (r x)
theorem own_sA : ∀ a ∈ Bundle.stringAtoms, a ∈ tables_1 := by decide +kernel

theorem ct_newS {l : Launch} {Z : State} {a0 : Array Value} {EL : List (String × Nat)} (hEL : EW Z a0 EL) (hw : ∀ d ∈ tables_1, d.before a0 Z = true) {h : Heap} {x b : Addr} {kC : ClassId} {cs : List Int32} {d v0 c0 : Value} {z : Int32} {n n0 : Nat} (E : Exa Z h x "java/lang/String") (V : Fld Z h x "java/lang/String" "value" "[B" v0) (C : Fld Z h x "java/lang/String" "coder" "B" c0) (K : Arv Z h b kC .char (Int32.ofNat n) (cs.map Value.int) d) (S : Sta Z h "java/lang/String" "COMPACT_STRINGS" "Z" (.int z)) (hz : ¬ z = 0) (hn : cs.length = n) (l0 : 0 < n) (l2 : n ≤ 4000) (hp : ∀ c ∈ cs, ¬ c < 0 ∧ ¬ (255 : Int32) < c) :
    Ct l Z EL (⟨"java/lang/String", "<init>", "([C)V"⟩ : MethodName) 2 ({ frames := 3, cells := 1, slots := n, locals := 52 } : Room) [x] #[.ref x, .ref b] h n0 (nq fun v h' => v = none ∧ Keep h h' [x] ∧ ∃ t kb, h.size ≤ t ∧ t ≠ x ∧ Str Z h' x t kb cs) := by
  have hws : ∀ d ∈ StrChars.Road.words, d.before a0 Z = true := fun d hd => hw d ((by decide +kernel : ∀ d ∈ StrChars.Road.words, d ∈ tables_1) d hd)
  refine ct_back hEL (fun v h' q => q.2.1) ?_
  intro R p e below s args len W hZ hn0 hfs hf hl
  refine Back.mono (StrChars.Road.backV hZ hws (hw _ w_8) (hfs _ (List.mem_cons_self ..)) hn0 E V C K S hz hn rfl l0 l2 hp rfl hf (by simp only [] at hl; omega)) (fun P a q => q) (fun P a v B hp' hq => ?_)
  obtain ⟨L, ⟨q1, q2, q3, q4, q5, t, kb, r1, r2, r3, r4, r5⟩, hl', hc', hs'⟩ := hq
  exact ⟨L, ⟨⟨q1, q3, t, kb, r2, r3, q4, q5, r4, by rw [hn]; exact r5, by rw [hn]; exact l2, hp⟩, q2⟩, hl', hc', hs'⟩
theorem own_cod {cs : List Int32} (hp : ∀ c ∈ cs, ¬ c < 0 ∧ ¬ (255 : Int32) < c) : StrChars.Road.CodA cs 0 (Int32.ofNat cs.length) ((cs.map fun c => c.toInt8.toInt32).map Value.int) := Or.inl ⟨rfl, rfl, by rw [List.map_map]; rfl, fun c hc => (hp c hc).2⟩
theorem own_up {cs : List Int32} (hp : ∀ c ∈ cs, ¬ c < 0 ∧ ¬ (255 : Int32) < c) : ∀ c ∈ cs, ¬ c < 0 ∧ ¬ (65535 : Int32) < c := fun c hc => ⟨(hp c hc).1, fun q => (hp c hc).2 (by
  rw [Int32.lt_iff_toInt_lt] at q ⊢
  have e1 : (255 : Int32).toInt = 255 := by decide
  have e2 : (65535 : Int32).toInt = 65535 := by decide
  omega)⟩
theorem ct_eq {l : Launch} {Z : State} {a0 : Array Value} {EL : List (String × Nat)} (hEL : EW Z a0 EL) (hw : ∀ d ∈ tables_1, d.before a0 Z = true) {h : Heap} {z : Int32} {n0 : Nat} {x t y t' : Addr} {kb kb' : ClassId} {cs ds : List Int32} (S : Str Z h x t kb cs) (S' : Str Z h y t' kb' ds) (Sz : Sta Z h "java/lang/String" "COMPACT_STRINGS" "Z" (.int z)) (hz : ¬ z = 0) :
    Ct l Z EL (⟨"java/lang/String", "equals", "(Ljava/lang/Object;)Z"⟩ : MethodName) 3 ({ frames := 1, cells := 0, slots := 0, locals := 14 } : Room) [] #[.ref x, .ref y] h n0 (nq fun v h' => v = some (.int (if cs = ds then 1 else 0)) ∧ h' = h) := by
  have hws : ∀ d ∈ StrChars.Road.wordsEq, d.before a0 Z = true := fun d hd => hw d ((by decide +kernel : ∀ d ∈ StrChars.Road.wordsEq, d ∈ tables_1) d hd)
  refine ct_back hEL (fun v h' q => (by rw [q.2]; exact Keep.refl _ _)) ?_
  intro R p e below s args len W hZ hn0 hfs hf hl
  refine Back.mono (StrChars.Road.eqW hZ hws (hw _ w_8) S.1 S.2.2.1 S.2.1 S.2.2.2.1 (own_cod S.2.2.2.2.2) (own_up S.2.2.2.2.2) S.2.2.2.2.1 S'.1 S'.2.2.1 S'.2.1 S'.2.2.2.1 (own_cod S'.2.2.2.2.2) (own_up S'.2.2.2.2.2) S'.2.2.2.2.1 Sz hz hf (by simp only [] at hl; omega)) (fun P a q => q) (fun P a v B hp' hq => ?_)
  obtain ⟨L, ⟨q1, rfl, q3⟩, hl', hc', hs'⟩ := hq
  refine ⟨[], ⟨⟨?_, q3⟩, Fr.nil _⟩, hl', hc', hs'⟩
  rcases q1 with ⟨r, e⟩ | ⟨r, e⟩
  · rw [r, if_pos e]
  · rw [r, if_neg e]

theorem d_jdk_42_method_149_code_0 : decode jdk_42_method_149_code 0 = .ok (.aload_n 0, 1) := by decide +kernel
theorem d_jdk_42_method_149_code_1 : decode jdk_42_method_149_code 1 = .ok (.invokespecial 1, 3) := by decide +kernel
theorem d_jdk_42_method_149_code_4 : decode jdk_42_method_149_code 4 = .ok (.iload_n 3, 1) := by decide +kernel
theorem d_jdk_42_method_149_code_5 : decode jdk_42_method_149_code 5 = .ok (.ifCond .ne 22, 3) := by decide +kernel
theorem d_jdk_42_method_149_code_8 : decode jdk_42_method_149_code 8 = .ok (.aload_n 0, 1) := by decide +kernel
theorem d_jdk_42_method_149_code_9 : decode jdk_42_method_149_code 9 = .ok (.ldc 7, 2) := by decide +kernel
theorem d_jdk_42_method_149_code_11 : decode jdk_42_method_149_code 11 = .ok (.getfield 9, 3) := by decide +kernel
theorem d_jdk_42_method_149_code_14 : decode jdk_42_method_149_code 14 = .ok (.putfield 9, 3) := by decide +kernel
theorem d_jdk_42_method_149_code_17 : decode jdk_42_method_149_code 17 = .ok (.aload_n 0, 1) := by decide +kernel
theorem d_jdk_42_method_149_code_18 : decode jdk_42_method_149_code 18 = .ok (.ldc 7, 2) := by decide +kernel
theorem d_jdk_42_method_149_code_20 : decode jdk_42_method_149_code 20 = .ok (.getfield 15, 3) := by decide +kernel
theorem d_jdk_42_method_149_code_23 : decode jdk_42_method_149_code 23 = .ok (.putfield 15, 3) := by decide +kernel
theorem d_jdk_42_method_149_code_26 : decode jdk_42_method_149_code 26 = .ok (.return_, 1) := by decide +kernel
theorem pn_java_lang_String : plainName "java/lang/String" = true := by first | (simp [plainName, overriddenIn]; done) | decide +kernel
set_option maxRecDepth 65536 in
set_option maxHeartbeats 40000000 in
theorem rm_S4e (l : Launch) (Z : State) (a0 : Array Value) (hw : ∀ d ∈ tables_1, d.before a0 Z = true) (hEL : EW Z a0 consts_1) {ws : List Jvm.Cond} (x b : Addr) (h0 : Heap) (n0 : Nat) (E1 : Exa Z h0 x "java/lang/String") (F1 : Fld Z h0 x "java/lang/String" "value" "[B" .null) (F2 : Fld Z h0 x "java/lang/String" "coder" "B" (.int 0)) :
    Met l Z consts_1 (⟨"java/lang/String", "<init>", "([CIILjava/lang/Void;)V"⟩ : MethodName) jdk_42_method_149_code 6 none ws ({ frames := 1, cells := 4, slots := 8, locals := 14 } : Room) [x] #[(.ref x), (.ref b), (.int (0 : Int32)), (.int (0 : Int32)), .null] h0 n0 (nq (fun v h => v = none ∧ Keep h0 h [x] ∧ ∃ t kb, t ≠ x ∧ Str Z h x t kb [])) := by
  refine met_of (plainFor_of_name pn_java_lang_String) hw #[.val (.ref x), .val (.ref b), .val (.int (0 : Int32)), .val (.int (0 : Int32)), .val .null, .unset] (fun m => by first | rfl | (simp [entryFrame, mkF, argsToLocals, Value.category]; done)) ?_
  intro p e s m below meth c C0
  have C : Cx Z a0 tables_1 p s m meth c "java/lang/String" "<init>" jdk_42_method_149_code 6 none n0 := C0
  refine g_aloadN C d_jdk_42_method_149_code_0 rfl rfl ?_
  refine g_initO C w_18 w_19 w_20 rfl d_jdk_42_method_149_code_1 (by decide) 0 (Nat.le_of_eq rfl) (by decide) ?_
  refine g_iloadN C d_jdk_42_method_149_code_4 rfl ?_
  refine g_if_f C d_jdk_42_method_149_code_5 (XT.i0_ne_f (by decide)) ?_
  refine g_aloadN C d_jdk_42_method_149_code_8 rfl rfl ?_
  refine g_ldcS C hEL w_21 own_sA (List.mem_of_getElem? (i := 0) rfl) [] ⟨by decide +kernel, by decide +kernel⟩ (by decide) (by decide) d_jdk_42_method_149_code_9 0 (by decide +kernel) (by decide) (by decide) (by decide) ?_
  intro a101 t101 kb101 h101 E101 S101 X101
  refine g_getfield C w_27 Via.refl S101.2.2.1 d_jdk_42_method_149_code_11 ?_
  have K102 : Keep h0 h101 [] := (Keep.refl h0 []).ext E101
  have F103 := (F1.keep K102 nin0)
  have E104 := (E1.keep K102)
  refine g_putfield C (.array .byte) w_27 Via.refl F103 E104 (Or.inr ⟨w_23, rfl, rfl⟩) w_8 (by decide) rfl rfl (List.mem_of_getElem? (i := 0) rfl) d_jdk_42_method_149_code_14 ?_
  intro h105 W105 F105
  refine g_aloadN C d_jdk_42_method_149_code_17 rfl rfl ?_
  refine g_ldcS C hEL w_21 own_sA (List.mem_of_getElem? (i := 0) rfl) [] ⟨by decide +kernel, by decide +kernel⟩ (by decide) (by decide) d_jdk_42_method_149_code_18 0 (by decide +kernel) (by decide) (by decide) (by decide) ?_
  intro a106 t106 kb106 h106 E106 S106 X106
  refine g_getfield C w_28 Via.refl S106.2.1 d_jdk_42_method_149_code_20 ?_
  have F107 := (((F2.ext E101).other W105 (Or.inr (slot_ne (Or.inr (C.hw w_24)) (Or.inr (C.hw w_23)) (by decide) (t := .byte) (t' := (.array .byte)) (by decide) (by decide)))).ext E106)
  have E108 := ((E104.wr W105).ext E106)
  refine g_putfieldZ C .byte (.int (0 : Int32)) w_28 Via.refl F107 E108 (Or.inr ⟨w_24, rfl, rfl⟩) w_8 (by decide) rfl (by decide) (List.mem_of_getElem? (i := 0) rfl) d_jdk_42_method_149_code_23 ?_
  intro h109 W109 F109
  refine g_return C hEL rfl d_jdk_42_method_149_code_26 (by decide) (by decide) ?_
  have E110 := (E108.wr W109)
  have K111 : Keep h105 h106 [] := (Keep.refl h105 []).ext E106
  have F112 := ((F105.ext E106).other W109 (Or.inr (slot_ne (Or.inr (C.hw w_23)) (Or.inr (C.hw w_24)) (by decide) (t := (.array .byte)) (t' := .byte) (by decide) (by decide))))
  have V113 := (((S101.2.2.2.1.other W105 (Ne.symm (X101 _ (List.mem_of_getElem? (i := 0) rfl)).2)).ext E106).other W109 (Ne.symm (X101 _ (List.mem_of_getElem? (i := 0) rfl)).2))
  exact ⟨rfl, (((((Keep.refl _ _).ext E101).wr W105 (Or.inl (List.mem_cons_self ..))).ext E106).wr W109 (Or.inl (List.mem_cons_self ..))), t101, _, (Ne.symm (X101 _ (List.mem_of_getElem? (i := 0) rfl)).2), E110, F109, F112, V113, by decide, fun _ q => nomatch q⟩
theorem d_jdk_42_method_3_code_0 : decode jdk_42_method_3_code 0 = .ok (.aload_n 0, 1) := by decide +kernel
theorem d_jdk_42_method_3_code_1 : decode jdk_42_method_3_code 1 = .ok (.aload_n 1, 1) := by decide +kernel
theorem d_jdk_42_method_3_code_2 : decode jdk_42_method_3_code 2 = .ok (.iconst 0, 1) := by decide +kernel
theorem d_jdk_42_method_3_code_3 : decode jdk_42_method_3_code 3 = .ok (.aload_n 1, 1) := by decide +kernel
theorem d_jdk_42_method_3_code_4 : decode jdk_42_method_3_code 4 = .ok (.arraylength, 1) := by decide +kernel
theorem d_jdk_42_method_3_code_5 : decode jdk_42_method_3_code 5 = .ok (.aconst_null, 1) := by decide +kernel
theorem d_jdk_42_method_3_code_6 : decode jdk_42_method_3_code 6 = .ok (.invokespecial 27, 3) := by decide +kernel
theorem d_jdk_42_method_3_code_9 : decode jdk_42_method_3_code 9 = .ok (.return_, 1) := by decide +kernel
theorem pd___CIILjava_lang_Void__V : parseMethodDescriptor "([CIILjava/lang/Void;)V" = some ⟨[(.array .char), .int, .int, (.object "java/lang/Void")], none⟩ := by decide +kernel
set_option maxRecDepth 65536 in
set_option maxHeartbeats 40000000 in
theorem rm_S1e (l : Launch) (Z : State) (a0 : Array Value) (hw : ∀ d ∈ tables_1, d.before a0 Z = true) (hEL : EW Z a0 consts_1) {ws : List Jvm.Cond} (x b : Addr) (kc : ClassId) (h0 : Heap) (n0 : Nat) (E1 : Exa Z h0 x "java/lang/String") (F1 : Fld Z h0 x "java/lang/String" "value" "[B" .null) (F2 : Fld Z h0 x "java/lang/String" "coder" "B" (.int 0)) (Vb : Arv Z h0 b kc .char (0 : Int32) [] (.int 0)) :
    Met l Z consts_1 (⟨"java/lang/String", "<init>", "([C)V"⟩ : MethodName) jdk_42_method_3_code 2 none ws ({ frames := 2, cells := 4, slots := 8, locals := 31 } : Room) [x] #[(.ref x), (.ref b)] h0 n0 (nq (fun v h => v = none ∧ Keep h0 h [x] ∧ ∃ t kb, t ≠ x ∧ Str Z h x t kb [])) := by
  refine met_of (plainFor_of_name pn_java_lang_String) hw #[.val (.ref x), .val (.ref b)] (fun m => by first | rfl | (simp [entryFrame, mkF, argsToLocals, Value.category]; done)) ?_
  intro p e s m below meth c C0
  have C : Cx Z a0 tables_1 p s m meth c "java/lang/String" "<init>" jdk_42_method_3_code 2 none n0 := C0
  refine g_aloadN C d_jdk_42_method_3_code_0 rfl rfl ?_
  refine g_aloadN C d_jdk_42_method_3_code_1 rfl rfl ?_
  refine g_iconst C 0 d_jdk_42_method_3_code_2 rfl ?_
  refine g_aloadN C d_jdk_42_method_3_code_3 rfl rfl ?_
  refine g_arraylength C Vb d_jdk_42_method_3_code_4 ?_
  refine g_aconst_null C d_jdk_42_method_3_code_5 ?_
  refine g_special C (a := x) w_14 w_15 w_17 rfl (by decide) [(.ref b), (.int (0 : Int32)), (.int (0 : Int32)), .null] (ct_of hEL hw w_17 w_9 (rm_S4e l Z a0 hw hEL x b h0 n0 E1 F1 F2)) (allS (List.mem_of_getElem? (i := 0) rfl) all0) (by decide) 0 (by decide) rfl pd___CIILjava_lang_Void__V rfl [] rfl (Nat.le_of_eq rfl) d_jdk_42_method_3_code_6 (by decide) (by decide) ?_
  intro v114 h114 Q114
  obtain ⟨rfl, KC114, t114, kb114, tx114, S114⟩ := Q114
  refine g_return C hEL rfl d_jdk_42_method_3_code_9 (by decide) (by decide) ?_
  exact ⟨rfl, KC114, _, _, tx114, S114⟩
def mkcs (m x y : Int32) : List Int32 := if m = 0 then [] else if m = 1 then [x] else if m = 2 then [y] else [x, y]
theorem own_four {q : Int32} (h : ¬ q < 0 ∧ q < 4) : q = 0 ∨ q = 1 ∨ q = 2 ∨ q = 3 := by
  obtain ⟨h1, h2⟩ := h
  rw [Int32.lt_iff_toInt_lt] at h1 h2
  have e0 : (0 : Int32).toInt = 0 := rfl
  have e4 : (4 : Int32).toInt = 4 := rfl
  simp only [← Int32.toInt_inj, e0, show (1 : Int32).toInt = 1 from rfl, show (2 : Int32).toInt = 2 from rfl, show (3 : Int32).toInt = 3 from rfl]
  omega
theorem own_and3 (x : Int32) : x &&& 3 = 0 ∨ x &&& 3 = 1 ∨ x &&& 3 = 2 ∨ x &&& 3 = 3 := by
  have h : (x &&& 3).toBitVec.toNat < 4 := by
    simp only [Int32.toBitVec_and, BitVec.toNat_and]
    exact Nat.lt_succ_of_le Nat.and_le_right
  have e : (x &&& 3) = Int32.ofNat (x &&& 3).toBitVec.toNat := by
    apply Int32.toBitVec_inj.mp
    show _ = BitVec.ofNat 32 _
    rw [BitVec.ofNat_toNat]; simp
  rw [e]
  exact (by decide +kernel : ∀ k : Fin 4, Int32.ofNat k.val = 0 ∨ Int32.ofNat k.val = 1 ∨ Int32.ofNat k.val = 2 ∨ Int32.ofNat k.val = 3) ⟨_, h⟩
def sameP (m1 m2 x y : Int32) : Prop := m1 = m2 ∨ ((m1 = 1 ∨ m1 = 2) ∧ (m2 = 1 ∨ m2 = 2) ∧ x = y)
instance (m1 m2 x y : Int32) : Decidable (sameP m1 m2 x y) := by unfold sameP; infer_instance
theorem own_same {m1 m2 x y : Int32} (h1 : m1 = 0 ∨ m1 = 1 ∨ m1 = 2 ∨ m1 = 3) (h2 : m2 = 0 ∨ m2 = 1 ∨ m2 = 2 ∨ m2 = 3) : sameP m1 m2 x y ↔ mkcs m1 x y = mkcs m2 x y := by
  rcases h1 with rfl | rfl | rfl | rfl <;> rcases h2 with rfl | rfl | rfl | rfl <;> first | (simp [sameP, mkcs]; done) | (simp [sameP, mkcs]; exact eq_comm)

theorem d_method_2_code_0 : decode method_2_code 0 = .ok (.iload_n 0, 1) := by decide +kernel
theorem d_method_2_code_1 : decode method_2_code 1 = .ok (.ifCond .ne 14, 3) := by decide +kernel
theorem d_method_2_code_4 : decode method_2_code 4 = .ok (.new 7, 3) := by decide +kernel
theorem d_method_2_code_7 : decode method_2_code 7 = .ok (.dup, 1) := by decide +kernel
theorem d_method_2_code_8 : decode method_2_code 8 = .ok (.iconst 0, 1) := by decide +kernel
theorem d_method_2_code_9 : decode method_2_code 9 = .ok (.newarray .char, 2) := by decide +kernel
theorem d_method_2_code_11 : decode method_2_code 11 = .ok (.invokespecial 9, 3) := by decide +kernel
theorem d_method_2_code_14 : decode method_2_code 14 = .ok (.areturn, 1) := by decide +kernel
theorem d_method_2_code_15 : decode method_2_code 15 = .ok (.iload_n 0, 1) := by decide +kernel
theorem d_method_2_code_16 : decode method_2_code 16 = .ok (.iconst 1, 1) := by decide +kernel
theorem d_method_2_code_17 : decode method_2_code 17 = .ok (.if_icmp .ne 18, 3) := by decide +kernel
theorem d_method_2_code_20 : decode method_2_code 20 = .ok (.new 7, 3) := by decide +kernel
theorem d_method_2_code_23 : decode method_2_code 23 = .ok (.dup, 1) := by decide +kernel
theorem d_method_2_code_24 : decode method_2_code 24 = .ok (.iconst 1, 1) := by decide +kernel
theorem d_method_2_code_25 : decode method_2_code 25 = .ok (.newarray .char, 2) := by decide +kernel
theorem d_method_2_code_27 : decode method_2_code 27 = .ok (.dup, 1) := by decide +kernel
theorem d_method_2_code_28 : decode method_2_code 28 = .ok (.iconst 0, 1) := by decide +kernel
theorem d_method_2_code_29 : decode method_2_code 29 = .ok (.iload_n 1, 1) := by decide +kernel
theorem d_method_2_code_30 : decode method_2_code 30 = .ok (.castore, 1) := by decide +kernel
theorem d_method_2_code_31 : decode method_2_code 31 = .ok (.invokespecial 9, 3) := by decide +kernel
theorem d_method_2_code_34 : decode method_2_code 34 = .ok (.areturn, 1) := by decide +kernel
theorem d_method_2_code_35 : decode method_2_code 35 = .ok (.iload_n 0, 1) := by decide +kernel
theorem d_method_2_code_36 : decode method_2_code 36 = .ok (.iconst 2, 1) := by decide +kernel
theorem d_method_2_code_37 : decode method_2_code 37 = .ok (.if_icmp .ne 18, 3) := by decide +kernel
theorem d_method_2_code_40 : decode method_2_code 40 = .ok (.new 7, 3) := by decide +kernel
theorem d_method_2_code_43 : decode method_2_code 43 = .ok (.dup, 1) := by decide +kernel
theorem d_method_2_code_44 : decode method_2_code 44 = .ok (.iconst 1, 1) := by decide +kernel
theorem d_method_2_code_45 : decode method_2_code 45 = .ok (.newarray .char, 2) := by decide +kernel
theorem d_method_2_code_47 : decode method_2_code 47 = .ok (.dup, 1) := by decide +kernel
theorem d_method_2_code_48 : decode method_2_code 48 = .ok (.iconst 0, 1) := by decide +kernel
theorem d_method_2_code_49 : decode method_2_code 49 = .ok (.iload_n 2, 1) := by decide +kernel
theorem d_method_2_code_50 : decode method_2_code 50 = .ok (.castore, 1) := by decide +kernel
theorem d_method_2_code_51 : decode method_2_code 51 = .ok (.invokespecial 9, 3) := by decide +kernel
theorem d_method_2_code_54 : decode method_2_code 54 = .ok (.areturn, 1) := by decide +kernel
theorem d_method_2_code_55 : decode method_2_code 55 = .ok (.new 7, 3) := by decide +kernel
theorem d_method_2_code_58 : decode method_2_code 58 = .ok (.dup, 1) := by decide +kernel
theorem d_method_2_code_59 : decode method_2_code 59 = .ok (.iconst 2, 1) := by decide +kernel
theorem d_method_2_code_60 : decode method_2_code 60 = .ok (.newarray .char, 2) := by decide +kernel
theorem d_method_2_code_62 : decode method_2_code 62 = .ok (.dup, 1) := by decide +kernel
theorem d_method_2_code_63 : decode method_2_code 63 = .ok (.iconst 0, 1) := by decide +kernel
theorem d_method_2_code_64 : decode method_2_code 64 = .ok (.iload_n 1, 1) := by decide +kernel
theorem d_method_2_code_65 : decode method_2_code 65 = .ok (.castore, 1) := by decide +kernel
theorem d_method_2_code_66 : decode method_2_code 66 = .ok (.dup, 1) := by decide +kernel
theorem d_method_2_code_67 : decode method_2_code 67 = .ok (.iconst 1, 1) := by decide +kernel
theorem d_method_2_code_68 : decode method_2_code 68 = .ok (.iload_n 2, 1) := by decide +kernel
theorem d_method_2_code_69 : decode method_2_code 69 = .ok (.castore, 1) := by decide +kernel
theorem d_method_2_code_70 : decode method_2_code 70 = .ok (.invokespecial 9, 3) := by decide +kernel
theorem d_method_2_code_73 : decode method_2_code 73 = .ok (.areturn, 1) := by decide +kernel
theorem pn_com_example_reckon_buckets_reckonbuckets_storage_UsageKeyEqualsPinLaw : plainName "com/example/reckon_buckets/reckonbuckets/storage/UsageKeyEqualsPinLaw" = true := by first | (simp [plainName, overriddenIn]; done) | decide +kernel
theorem pd___C_V : parseMethodDescriptor "([C)V" = some ⟨[(.array .char)], none⟩ := by decide +kernel
set_option maxRecDepth 65536 in
set_option maxHeartbeats 40000000 in
theorem rm_mk (l : Launch) (Z : State) (a0 : Array Value) (hw : ∀ d ∈ tables_1, d.before a0 Z = true) (hEL : EW Z a0 consts_1) {ws : List Jvm.Cond} (mm xx yy zc : Int32) (h0 : Heap) (n0 : Nat) (hxx : Ch8 xx) (hyy : Ch8 yy) (Szc : Sta Z h0 "java/lang/String" "COMPACT_STRINGS" "Z" (.int zc)) (hzc : ¬ (zc = (0 : Int32))) :
    Met l Z consts_1 (⟨"com/example/reckon_buckets/reckonbuckets/storage/UsageKeyEqualsPinLaw", "mk", "(ICC)Ljava/lang/String;"⟩ : MethodName) method_2_code 3 (some (.object "java/lang/String")) ws ({ frames := 4, cells := 6, slots := 12, locals := 70 } : Room) [] #[(.int mm), (.int xx), (.int yy)] h0 n0 (nq (fun v h => ∃ a t kb, v = some (.ref a) ∧ Keep h0 h [] ∧ h0.size ≤ a ∧ Str Z h a t kb (mkcs mm xx yy))) := by
  refine met_of (plainFor_of_name pn_com_example_reckon_buckets_reckonbuckets_storage_UsageKeyEqualsPinLaw) hw #[.val (.int mm), .val (.int xx), .val (.int yy)] (fun m => by first | rfl | (simp [entryFrame, mkF, argsToLocals, Value.category]; done)) ?_
  intro p e s m below meth c C0
  have C : Cx Z a0 tables_1 p s m meth c "com/example/reckon_buckets/reckonbuckets/storage/UsageKeyEqualsPinLaw" "mk" method_2_code 3 (some (.object "java/lang/String")) n0 := C0
  refine g_iloadN C d_method_2_code_0 rfl ?_
  by_cases hc115 : mm = 0
  · refine g_if_f C d_method_2_code_1 (XT.i0_ne_f hc115) ?_
    refine g_new C w_7 w_8 w_9 d_method_2_code_4 (by decide) (by decide) ?_
    intro b116 h116 g116 E116 A116 D116
    refine g_dup C d_method_2_code_7 rfl ?_
    refine g_iconst C 0 d_method_2_code_8 rfl ?_
    refine g_newarray C (aty := .char) w_10 d_method_2_code_9 (by decide) 0 (by decide) (by decide) (by decide) (by decide) "[C" rfl ?_
    intro b117 h117 ka117 g117 E117 V117 A117
    replace V117 : Arv Z h117 b117 ka117 .char (0 : Int32) [] (.int (0 : Int32)) := V117.pad (pad_rep [] _ 0)
    have K118 : Keep h116 h117 [] := (Keep.refl h116 []).ext E117
    have E119 := (A116.keep K118)
    have F120 := ((D116 (Or.inr (C.hw w_23)) (ty := (.array .byte)) (by decide)).keep K118 nin0)
    have F121 := ((D116 (Or.inr (C.hw w_24)) (ty := .byte) (by decide)).keep K118 nin0)
    refine g_special C (a := b116) w_11 w_12 w_13 rfl (by decide) [(.ref b117)] (ct_of hEL hw w_13 w_9 (rm_S1e l Z a0 hw hEL b116 b117 ka117 h117 n0 E119 F120 F121 V117)) (allS (List.mem_of_getElem? (i := 1) rfl) all0) (by decide) 1 (by decide) rfl pd___C_V rfl [(.ref b116)] rfl (Nat.le_of_eq rfl) d_method_2_code_11 (by decide) (by decide) ?_
    intro v122 h122 Q122
    obtain ⟨rfl, KC122, t122, kb122, tx122, S122⟩ := Q122
    refine g_areturn C hEL (t := (.object "java/lang/String")) rfl rfl rfl d_method_2_code_14 (by decide) (by decide) ?_
    have K123 : Keep h0 h116 [] := (Keep.refl h0 []).ext E116
    have K124 : Keep h0 h117 [] := K123.ext E117
    have K125 : Keep h0 h122 [] := K124.trans KC122 (allS (Or.inr (Nat.le_of_eq g116.symm)) all0)
    exact ⟨b116, t122, kb122, rfl, K125, (Nat.le_of_eq g116.symm), by simpa [mkcs, hc115] using S122⟩
  · refine g_if_t C 15 d_method_2_code_1 (XT.i0_ne_t hc115) (by decide) (by decide) ?_
    refine g_iloadN C d_method_2_code_15 rfl ?_
    refine g_iconst C 1 d_method_2_code_16 rfl ?_
    by_cases hc126 : mm = (1 : Int32)
    · refine g_icmp_f C d_method_2_code_17 (XT.ii_ne_f hc126) ?_
      refine g_new C w_7 w_8 w_9 d_method_2_code_20 (by decide) (by decide) ?_
      intro b127 h127 g127 E127 A127 D127
      refine g_dup C d_method_2_code_23 rfl ?_
      refine g_iconst C 1 d_method_2_code_24 rfl ?_
      refine g_newarray C (aty := .char) w_10 d_method_2_code_25 (by decide) 1 (by decide) (by decide) (by decide) (by decide) "[C" rfl ?_
      intro b128 h128 ka128 g128 E128 V128 A128
      replace V128 : Arv Z h128 b128 ka128 .char (1 : Int32) [(.int (0 : Int32))] (.int (0 : Int32)) := V128.pad (pad_rep [] _ 1)
      refine g_dup C d_method_2_code_27 rfl ?_
      refine g_iconst C 0 d_method_2_code_28 rfl ?_
      refine g_iloadN C d_method_2_code_29 rfl ?_
      refine g_castore C V128 (List.mem_of_getElem? (i := 0) rfl) d_method_2_code_30 ⟨by decide, by decide⟩ 0 rfl (Nat.le_of_ble_eq_true rfl) ?_
      intro h129 W129 V129
      rw [nar_ch8 hxx] at V129
      replace V129 : Arv Z h129 b128 ka128 .char (1 : Int32) [(.int xx)] (.int (0 : Int32)) := V129
      have K130 : Keep h127 h128 [] := (Keep.refl h127 []).ext E128
      have K131 : Keep h127 h129 [] := K130.wr W129 (Or.inr (Nat.le_of_eq g128.symm))
      have E132 := (A127.keep K131)
      have F133 := ((D127 (Or.inr (C.hw w_23)) (ty := (.array .byte)) (by decide)).keep K131 nin0)
      have F134 := ((D127 (Or.inr (C.hw w_24)) (ty := .byte) (by decide)).keep K131 nin0)
      have K135 : Keep h0 h127 [] := (Keep.refl h0 []).ext E127
      have K136 : Keep h0 h128 [] := K135.ext E128
      have K137 : Keep h0 h129 [] := K136.wr W129 (Or.inr (Nat.le_trans K135.1 (Nat.le_of_eq g128.symm)))
      refine g_special C (a := b127) w_11 w_12 w_13 rfl (by decide) [(.ref b128)] (ct_newS hEL hw (cs := [xx]) (n := 1) E132 F133 F134 V129 (Sta_keep Szc K137) hzc rfl (by decide) (by decide) (own_allc hxx (fun _ q => nomatch q))) (allS (List.mem_of_getElem? (i := 1) rfl) all0) (by decide) 1 (by decide) rfl pd___C_V rfl [(.ref b127)] rfl (Nat.le_of_eq rfl) d_method_2_code_31 (by decide) (by decide) ?_
      intro v138 h138 Q138
      obtain ⟨rfl, KC138, t138, kb138, ht138, htx138, S138⟩ := Q138
      refine g_areturn C hEL (t := (.object "java/lang/String")) rfl rfl rfl d_method_2_code_34 (by decide) (by decide) ?_
      have K139 : Keep h0 h138 [] := K137.trans KC138 (allS (Or.inr (Nat.le_of_eq g127.symm)) all0)
      exact ⟨b127, t138, kb138, rfl, K139, (Nat.le_of_eq g127.symm), by simpa [mkcs, hc115, hc126] using S138⟩
    · refine g_icmp_t C 35 d_method_2_code_17 (XT.ii_ne_t hc126) (by decide) (by decide) ?_
      refine g_iloadN C d_method_2_code_35 rfl ?_
      refine g_iconst C 2 d_method_2_code_36 rfl ?_
      by_cases hc140 : mm = (2 : Int32)
      · refine g_icmp_f C d_method_2_code_37 (XT.ii_ne_f hc140) ?_
        refine g_new C w_7 w_8 w_9 d_method_2_code_40 (by decide) (by decide) ?_
        intro b141 h141 g141 E141 A141 D141
        refine g_dup C d_method_2_code_43 rfl ?_
        refine g_iconst C 1 d_method_2_code_44 rfl ?_
        refine g_newarray C (aty := .char) w_10 d_method_2_code_45 (by decide) 1 (by decide) (by decide) (by decide) (by decide) "[C" rfl ?_
        intro b142 h142 ka142 g142 E142 V142 A142
        replace V142 : Arv Z h142 b142 ka142 .char (1 : Int32) [(.int (0 : Int32))] (.int (0 : Int32)) := V142.pad (pad_rep [] _ 1)
        refine g_dup C d_method_2_code_47 rfl ?_
        refine g_iconst C 0 d_method_2_code_48 rfl ?_
        refine g_iloadN C d_method_2_code_49 rfl ?_
        refine g_castore C V142 (List.mem_of_getElem? (i := 0) rfl) d_method_2_code_50 ⟨by decide, by decide⟩ 0 rfl (Nat.le_of_ble_eq_true rfl) ?_
        intro h143 W143 V143
        rw [nar_ch8 hyy] at V143
        replace V143 : Arv Z h143 b142 ka142 .char (1 : Int32) [(.int yy)] (.int (0 : Int32)) := V143
        have K144 : Keep h141 h142 [] := (Keep.refl h141 []).ext E142
        have K145 : Keep h141 h143 [] := K144.wr W143 (Or.inr (Nat.le_of_eq g142.symm))
        have E146 := (A141.keep K145)
        have F147 := ((D141 (Or.inr (C.hw w_23)) (ty := (.array .byte)) (by decide)).keep K145 nin0)
        have F148 := ((D141 (Or.inr (C.hw w_24)) (ty := .byte) (by decide)).keep K145 nin0)
        have K149 : Keep h0 h141 [] := (Keep.refl h0 []).ext E141
        have K150 : Keep h0 h142 [] := K149.ext E142
        have K151 : Keep h0 h143 [] := K150.wr W143 (Or.inr (Nat.le_trans K149.1 (Nat.le_of_eq g142.symm)))
        refine g_special C (a := b141) w_11 w_12 w_13 rfl (by decide) [(.ref b142)] (ct_newS hEL hw (cs := [yy]) (n := 1) E146 F147 F148 V143 (Sta_keep Szc K151) hzc rfl (by decide) (by decide) (own_allc hyy (fun _ q => nomatch q))) (allS (List.mem_of_getElem? (i := 1) rfl) all0) (by decide) 1 (by decide) rfl pd___C_V rfl [(.ref b141)] rfl (Nat.le_of_eq rfl) d_method_2_code_51 (by decide) (by decide) ?_
        intro v152 h152 Q152
        obtain ⟨rfl, KC152, t152, kb152, ht152, htx152, S152⟩ := Q152
        refine g_areturn C hEL (t := (.object "java/lang/String")) rfl rfl rfl d_method_2_code_54 (by decide) (by decide) ?_
        have K153 : Keep h0 h152 [] := K151.trans KC152 (allS (Or.inr (Nat.le_of_eq g141.symm)) all0)
        exact ⟨b141, t152, kb152, rfl, K153, (Nat.le_of_eq g141.symm), by simpa [mkcs, hc115, hc126, hc140] using S152⟩
      · refine g_icmp_t C 55 d_method_2_code_37 (XT.ii_ne_t hc140) (by decide) (by decide) ?_
        refine g_new C w_7 w_8 w_9 d_method_2_code_55 (by decide) (by decide) ?_
        intro b154 h154 g154 E154 A154 D154
        refine g_dup C d_method_2_code_58 rfl ?_
        refine g_iconst C 2 d_method_2_code_59 rfl ?_
        refine g_newarray C (aty := .char) w_10 d_method_2_code_60 (by decide) 2 (by decide) (by decide) (by decide) (by decide) "[C" rfl ?_
        intro b155 h155 ka155 g155 E155 V155 A155
        replace V155 : Arv Z h155 b155 ka155 .char (2 : Int32) [(.int (0 : Int32)), (.int (0 : Int32))] (.int (0 : Int32)) := V155.pad (pad_rep [] _ 2)
        refine g_dup C d_method_2_code_62 rfl ?_
        refine g_iconst C 0 d_method_2_code_63 rfl ?_
        refine g_iloadN C d_method_2_code_64 rfl ?_
        refine g_castore C V155 (List.mem_of_getElem? (i := 0) rfl) d_method_2_code_65 ⟨by decide, by decide⟩ 0 rfl (Nat.le_of_ble_eq_true rfl) ?_
        intro h156 W156 V156
        rw [nar_ch8 hxx] at V156
        replace V156 : Arv Z h156 b155 ka155 .char (2 : Int32) [(.int xx), (.int (0 : Int32))] (.int (0 : Int32)) := V156
        refine g_dup C d_method_2_code_66 rfl ?_
        refine g_iconst C 1 d_method_2_code_67 rfl ?_
        refine g_iloadN C d_method_2_code_68 rfl ?_
        refine g_castore C V156 (List.mem_of_getElem? (i := 0) rfl) d_method_2_code_69 ⟨by decide, by decide⟩ 1 rfl (Nat.le_of_ble_eq_true rfl) ?_
        intro h157 W157 V157
        rw [nar_ch8 hyy] at V157
        replace V157 : Arv Z h157 b155 ka155 .char (2 : Int32) [(.int xx), (.int yy)] (.int (0 : Int32)) := V157
        have K158 : Keep h154 h155 [] := (Keep.refl h154 []).ext E155
        have K159 : Keep h154 h156 [] := K158.wr W156 (Or.inr (Nat.le_of_eq g155.symm))
        have K160 : Keep h154 h157 [] := K159.wr W157 (Or.inr (Nat.le_of_eq g155.symm))
        have E161 := (A154.keep K160)
        have F162 := ((D154 (Or.inr (C.hw w_23)) (ty := (.array .byte)) (by decide)).keep K160 nin0)
        have F163 := ((D154 (Or.inr (C.hw w_24)) (ty := .byte) (by decide)).keep K160 nin0)
        have K164 : Keep h0 h154 [] := (Keep.refl h0 []).ext E154
        have K165 : Keep h0 h155 [] := K164.ext E155
        have K166 : Keep h0 h156 [] := K165.wr W156 (Or.inr (Nat.le_trans K164.1 (Nat.le_of_eq g155.symm)))
        have K167 : Keep h0 h157 [] := K166.wr W157 (Or.inr (Nat.le_trans K164.1 (Nat.le_of_eq g155.symm)))
        refine g_special C (a := b154) w_11 w_12 w_13 rfl (by decide) [(.ref b155)] (ct_newS hEL hw (cs := [xx, yy]) (n := 2) E161 F162 F163 V157 (Sta_keep Szc K167) hzc rfl (by decide) (by decide) (own_allc hxx (own_allc hyy (fun _ q => nomatch q)))) (allS (List.mem_of_getElem? (i := 1) rfl) all0) (by decide) 1 (by decide) rfl pd___C_V rfl [(.ref b154)] rfl (Nat.le_of_eq rfl) d_method_2_code_70 (by decide) (by decide) ?_
        intro v168 h168 Q168
        obtain ⟨rfl, KC168, t168, kb168, ht168, htx168, S168⟩ := Q168
        refine g_areturn C hEL (t := (.object "java/lang/String")) rfl rfl rfl d_method_2_code_73 (by decide) (by decide) ?_
        have K169 : Keep h0 h168 [] := K167.trans KC168 (allS (Or.inr (Nat.le_of_eq g154.symm)) all0)
        exact ⟨b154, t168, kb168, rfl, K169, (Nat.le_of_eq g154.symm), by simpa [mkcs, hc115, hc126, hc140] using S168⟩
theorem d_method_3_code_0 : decode method_3_code 0 = .ok (.iload_n 0, 1) := by decide +kernel
theorem d_method_3_code_1 : decode method_3_code 1 = .ok (.iload_n 1, 1) := by decide +kernel
theorem d_method_3_code_2 : decode method_3_code 2 = .ok (.if_icmp .ne 5, 3) := by decide +kernel
theorem d_method_3_code_5 : decode method_3_code 5 = .ok (.iconst 1, 1) := by decide +kernel
theorem d_method_3_code_6 : decode method_3_code 6 = .ok (.ireturn, 1) := by decide +kernel
theorem d_method_3_code_7 : decode method_3_code 7 = .ok (.iload_n 0, 1) := by decide +kernel
theorem d_method_3_code_8 : decode method_3_code 8 = .ok (.iconst 1, 1) := by decide +kernel
theorem d_method_3_code_9 : decode method_3_code 9 = .ok (.if_icmp .eq 8, 3) := by decide +kernel
theorem d_method_3_code_12 : decode method_3_code 12 = .ok (.iload_n 0, 1) := by decide +kernel
theorem d_method_3_code_13 : decode method_3_code 13 = .ok (.iconst 2, 1) := by decide +kernel
theorem d_method_3_code_14 : decode method_3_code 14 = .ok (.if_icmp .ne 24, 3) := by decide +kernel
theorem d_method_3_code_17 : decode method_3_code 17 = .ok (.iload_n 1, 1) := by decide +kernel
theorem d_method_3_code_18 : decode method_3_code 18 = .ok (.iconst 1, 1) := by decide +kernel
theorem d_method_3_code_19 : decode method_3_code 19 = .ok (.if_icmp .eq 8, 3) := by decide +kernel
theorem d_method_3_code_22 : decode method_3_code 22 = .ok (.iload_n 1, 1) := by decide +kernel
theorem d_method_3_code_23 : decode method_3_code 23 = .ok (.iconst 2, 1) := by decide +kernel
theorem d_method_3_code_24 : decode method_3_code 24 = .ok (.if_icmp .ne 14, 3) := by decide +kernel
theorem d_method_3_code_27 : decode method_3_code 27 = .ok (.iload_n 2, 1) := by decide +kernel
theorem d_method_3_code_28 : decode method_3_code 28 = .ok (.iload_n 3, 1) := by decide +kernel
theorem d_method_3_code_29 : decode method_3_code 29 = .ok (.if_icmp .ne 7, 3) := by decide +kernel
theorem d_method_3_code_32 : decode method_3_code 32 = .ok (.iconst 1, 1) := by decide +kernel
theorem d_method_3_code_33 : decode method_3_code 33 = .ok (.goto 4, 3) := by decide +kernel
theorem d_method_3_code_36 : decode method_3_code 36 = .ok (.iconst 0, 1) := by decide +kernel
theorem d_method_3_code_37 : decode method_3_code 37 = .ok (.ireturn, 1) := by decide +kernel
theorem d_method_3_code_38 : decode method_3_code 38 = .ok (.iconst 0, 1) := by decide +kernel
theorem d_method_3_code_39 : decode method_3_code 39 = .ok (.ireturn, 1) := by decide +kernel
set_option maxRecDepth 65536 in
set_option maxHeartbeats 40000000 in
theorem rm_ss (l : Launch) (Z : State) (a0 : Array Value) (hw : ∀ d ∈ tables_1, d.before a0 Z = true) (hEL : EW Z a0 consts_1) {ws : List Jvm.Cond} (m1 m2 xx yy : Int32) (h0 : Heap) (n0 : Nat) :
    Met l Z consts_1 (⟨"com/example/reckon_buckets/reckonbuckets/storage/UsageKeyEqualsPinLaw", "sameStr", "(IICC)Z"⟩ : MethodName) method_3_code 4 (some .boolean) ws ({ frames := 0, cells := 0, slots := 0, locals := 0 } : Room) [] #[(.int m1), (.int m2), (.int xx), (.int yy)] h0 n0 (nq (fun v h => v = some (.int (if sameP m1 m2 xx yy then 1 else 0)) ∧ h = h0)) := by
  refine met_of (plainFor_of_name pn_com_example_reckon_buckets_reckonbuckets_storage_UsageKeyEqualsPinLaw) hw #[.val (.int m1), .val (.int m2), .val (.int xx), .val (.int yy)] (fun m => by first | rfl | (simp [entryFrame, mkF, argsToLocals, Value.category]; done)) ?_
  intro p e s m below meth c C0
  have C : Cx Z a0 tables_1 p s m meth c "com/example/reckon_buckets/reckonbuckets/storage/UsageKeyEqualsPinLaw" "sameStr" method_3_code 4 (some .boolean) n0 := C0
  refine g_iloadN C d_method_3_code_0 rfl ?_
  refine g_iloadN C d_method_3_code_1 rfl ?_
  by_cases hc170 : m1 = m2
  · refine g_icmp_f C d_method_3_code_2 (XT.ii_ne_f hc170) ?_
    refine g_iconst C 1 d_method_3_code_5 rfl ?_
    refine g_ireturnN C hEL (t := .boolean) rfl (by simp) d_method_3_code_6 (by decide) (by decide) ?_
    exact ⟨by simp [sameP, nar, hc170] <;> first | decide | (intro q; first | exact absurd q (by decide)), rfl⟩
  · refine g_icmp_t C 7 d_method_3_code_2 (XT.ii_ne_t hc170) (by decide) (by decide) ?_
    refine g_iloadN C d_method_3_code_7 rfl ?_
    refine g_iconst C 1 d_method_3_code_8 rfl ?_
    by_cases hc171 : m1 = (1 : Int32)
    · refine g_icmp_t C 17 d_method_3_code_9 (XT.ii_eq_t hc171) (by decide) (by decide) ?_
      refine g_iloadN C d_method_3_code_17 rfl ?_
      refine g_iconst C 1 d_method_3_code_18 rfl ?_
      by_cases hc172 : m2 = (1 : Int32)
      · exact absurd (hc171.trans hc172.symm) hc170
      · refine g_icmp_f C d_method_3_code_19 (XT.ii_eq_f hc172) ?_
        refine g_iloadN C d_method_3_code_22 rfl ?_
        refine g_iconst C 2 d_method_3_code_23 rfl ?_
        by_cases hc173 : m2 = (2 : Int32)
        · refine g_icmp_f C d_method_3_code_24 (XT.ii_ne_f hc173) ?_
          refine g_iloadN C d_method_3_code_27 rfl ?_
          refine g_iloadN C d_method_3_code_28 rfl ?_
          by_cases hc174 : xx = yy
          · refine g_icmp_f C d_method_3_code_29 (XT.ii_ne_f hc174) ?_
            refine g_iconst C 1 d_method_3_code_32 rfl ?_
            refine g_goto C 37 d_method_3_code_33 (by decide) (by decide) ?_
            refine g_ireturnN C hEL (t := .boolean) rfl (by simp) d_method_3_code_37 (by decide) (by decide) ?_
            exact ⟨by simp [sameP, nar, hc170, hc171, hc172, hc173, hc174] <;> first | decide | (intro q; first | exact hc170 q.symm | exact hc170 q | exact hc172 q.symm | exact hc172 q | exact absurd q (by decide)), rfl⟩
          · refine g_icmp_t C 36 d_method_3_code_29 (XT.ii_ne_t hc174) (by decide) (by decide) ?_
            refine g_iconst C 0 d_method_3_code_36 rfl ?_
            refine g_ireturnN C hEL (t := .boolean) rfl (by simp) d_method_3_code_37 (by decide) (by decide) ?_
            exact ⟨by simp [sameP, nar, hc170, hc171, hc172, hc173, hc174] <;> first | decide | (intro q; first | exact hc170 q.symm | exact hc170 q | exact hc172 q.symm | exact hc172 q | exact hc174 q.symm | exact hc174 q | exact absurd q (by decide)), rfl⟩
        · refine g_icmp_t C 38 d_method_3_code_24 (XT.ii_ne_t hc173) (by decide) (by decide) ?_
          refine g_iconst C 0 d_method_3_code_38 rfl ?_
          refine g_ireturnN C hEL (t := .boolean) rfl (by simp) d_method_3_code_39 (by decide) (by decide) ?_
          exact ⟨by simp [sameP, nar, hc170, hc171, hc172, hc173] <;> first | decide | (intro q; first | exact hc170 q.symm | exact hc170 q | exact hc172 q.symm | exact hc172 q | exact hc173 q.symm | exact hc173 q | exact absurd q (by decide)), rfl⟩
    · refine g_icmp_f C d_method_3_code_9 (XT.ii_eq_f hc171) ?_
      refine g_iloadN C d_method_3_code_12 rfl ?_
      refine g_iconst C 2 d_method_3_code_13 rfl ?_
      by_cases hc175 : m1 = (2 : Int32)
      · refine g_icmp_f C d_method_3_code_14 (XT.ii_ne_f hc175) ?_
        refine g_iloadN C d_method_3_code_17 rfl ?_
        refine g_iconst C 1 d_method_3_code_18 rfl ?_
        by_cases hc176 : m2 = (1 : Int32)
        · refine g_icmp_t C 27 d_method_3_code_19 (XT.ii_eq_t hc176) (by decide) (by decide) ?_
          refine g_iloadN C d_method_3_code_27 rfl ?_
          refine g_iloadN C d_method_3_code_28 rfl ?_
          by_cases hc177 : xx = yy
          · refine g_icmp_f C d_method_3_code_29 (XT.ii_ne_f hc177) ?_
            refine g_iconst C 1 d_method_3_code_32 rfl ?_
            refine g_goto C 37 d_method_3_code_33 (by decide) (by decide) ?_
            refine g_ireturnN C hEL (t := .boolean) rfl (by simp) d_method_3_code_37 (by decide) (by decide) ?_
            exact ⟨by simp [sameP, nar, hc170, hc171, hc175, hc176, hc177] <;> first | decide | (intro q; first | exact hc170 q.symm | exact hc170 q | exact hc171 q.symm | exact hc171 q | exact absurd q (by decide)), rfl⟩
          · refine g_icmp_t C 36 d_method_3_code_29 (XT.ii_ne_t hc177) (by decide) (by decide) ?_
            refine g_iconst C 0 d_method_3_code_36 rfl ?_
            refine g_ireturnN C hEL (t := .boolean) rfl (by simp) d_method_3_code_37 (by decide) (by decide) ?_
            exact ⟨by simp [sameP, nar, hc170, hc171, hc175, hc176, hc177] <;> first | decide | (intro q; first | exact hc170 q.symm | exact hc170 q | exact hc171 q.symm | exact hc171 q | exact hc177 q.symm | exact hc177 q | exact absurd q (by decide)), rfl⟩
        · refine g_icmp_f C d_method_3_code_19 (XT.ii_eq_f hc176) ?_
          refine g_iloadN C d_method_3_code_22 rfl ?_
          refine g_iconst C 2 d_method_3_code_23 rfl ?_
          by_cases hc178 : m2 = (2 : Int32)
          · exact absurd (hc175.trans hc178.symm) hc170
          · refine g_icmp_t C 38 d_method_3_code_24 (XT.ii_ne_t hc178) (by decide) (by decide) ?_
            refine g_iconst C 0 d_method_3_code_38 rfl ?_
            refine g_ireturnN C hEL (t := .boolean) rfl (by simp) d_method_3_code_39 (by decide) (by decide) ?_
            exact ⟨by simp [sameP, nar, hc170, hc171, hc175, hc176, hc178] <;> first | decide | (intro q; first | exact hc170 q.symm | exact hc170 q | exact hc171 q.symm | exact hc171 q | exact hc176 q.symm | exact hc176 q | exact hc178 q.symm | exact hc178 q | exact absurd q (by decide)), rfl⟩
      · refine g_icmp_t C 38 d_method_3_code_14 (XT.ii_ne_t hc175) (by decide) (by decide) ?_
        refine g_iconst C 0 d_method_3_code_38 rfl ?_
        refine g_ireturnN C hEL (t := .boolean) rfl (by simp) d_method_3_code_39 (by decide) (by decide) ?_
        exact ⟨by simp [sameP, nar, hc170, hc171, hc175] <;> first | decide | (intro q; first | exact hc170 q.symm | exact hc170 q | exact hc171 q.symm | exact hc171 q | exact hc175 q.symm | exact hc175 q | exact absurd q (by decide)), rfl⟩
theorem d_prog_36_method_1_code_0 : decode prog_36_method_1_code 0 = .ok (.aload_n 0, 1) := by decide +kernel
theorem d_prog_36_method_1_code_1 : decode prog_36_method_1_code 1 = .ok (.invokespecial 1, 3) := by decide +kernel
theorem d_prog_36_method_1_code_4 : decode prog_36_method_1_code 4 = .ok (.aload_n 0, 1) := by decide +kernel
theorem d_prog_36_method_1_code_5 : decode prog_36_method_1_code 5 = .ok (.aload_n 1, 1) := by decide +kernel
theorem d_prog_36_method_1_code_6 : decode prog_36_method_1_code 6 = .ok (.putfield 7, 3) := by decide +kernel
theorem d_prog_36_method_1_code_9 : decode prog_36_method_1_code 9 = .ok (.aload_n 0, 1) := by decide +kernel
theorem d_prog_36_method_1_code_10 : decode prog_36_method_1_code 10 = .ok (.aload_n 2, 1) := by decide +kernel
theorem d_prog_36_method_1_code_11 : decode prog_36_method_1_code 11 = .ok (.putfield 13, 3) := by decide +kernel
theorem d_prog_36_method_1_code_14 : decode prog_36_method_1_code 14 = .ok (.aload_n 0, 1) := by decide +kernel
theorem d_prog_36_method_1_code_15 : decode prog_36_method_1_code 15 = .ok (.lload_n 3, 1) := by decide +kernel
theorem d_prog_36_method_1_code_16 : decode prog_36_method_1_code 16 = .ok (.putfield 16, 3) := by decide +kernel
theorem d_prog_36_method_1_code_19 : decode prog_36_method_1_code 19 = .ok (.return_, 1) := by decide +kernel
theorem pn_com_example_reckon_buckets_reckonbuckets_storage_UsageKey : plainName "com/example/reckon_buckets/reckonbuckets/storage/UsageKey" = true := by first | (simp [plainName, overriddenIn]; done) | decide +kernel
set_option maxRecDepth 65536 in
set_option maxHeartbeats 40000000 in
theorem rm_ui (l : Launch) (Z : State) (a0 : Array Value) (hw : ∀ d ∈ tables_1, d.before a0 Z = true) (hEL : EW Z a0 consts_1) {ws : List Jvm.Cond} (a1 a2 a3 : Addr) (q4 : Int64) (h0 : Heap) (n0 : Nat) (E1 : Exa Z h0 a1 "com/example/reckon_buckets/reckonbuckets/storage/UsageKey") (F1 : Fld Z h0 a1 "com/example/reckon_buckets/reckonbuckets/storage/UsageKey" "userId" "Ljava/lang/String;" .null) (F2 : Fld Z h0 a1 "com/example/reckon_buckets/reckonbuckets/storage/UsageKey" "bucket" "Ljava/lang/String;" .null) (F3 : Fld Z h0 a1 "com/example/reckon_buckets/reckonbuckets/storage/UsageKey" "epoch" "J" (.long 0)) :
    Met l Z consts_1 (⟨"com/example/reckon_buckets/reckonbuckets/storage/UsageKey", "<init>", "(Ljava/lang/String;Ljava/lang/String;J)V"⟩ : MethodName) prog_36_method_1_code 5 none ws ({ frames := 1, cells := 0, slots := 0, locals := 12 } : Room) [a1] #[(.ref a1), (.ref a2), (.ref a3), (.long q4)] h0 n0 (nq (fun v h => v = none ∧ Keep h0 h [a1] ∧ Exa Z h a1 "com/example/reckon_buckets/reckonbuckets/storage/UsageKey" ∧ Fld Z h a1 "com/example/reckon_buckets/reckonbuckets/storage/UsageKey" "userId" "Ljava/lang/String;" (.ref a2) ∧ Fld Z h a1 "com/example/reckon_buckets/reckonbuckets/storage/UsageKey" "bucket" "Ljava/lang/String;" (.ref a3) ∧ Fld Z h a1 "com/example/reckon_buckets/reckonbuckets/storage/UsageKey" "epoch" "J" (.long q4))) := by
  refine met_of (plainFor_of_name pn_com_example_reckon_buckets_reckonbuckets_storage_UsageKey) hw #[.val (.ref a1), .val (.ref a2), .val (.ref a3), .val (.long q4), .second] (fun m => by first | rfl | (simp [entryFrame, mkF, argsToLocals, Value.category]; done)) ?_
  intro p e s m below meth c C0
  have C : Cx Z a0 tables_1 p s m meth c "com/example/reckon_buckets/reckonbuckets/storage/UsageKey" "<init>" prog_36_method_1_code 5 none n0 := C0
  refine g_aloadN C d_prog_36_method_1_code_0 rfl rfl ?_
  refine g_initO C w_32 w_19 w_20 rfl d_prog_36_method_1_code_1 (by decide) 0 (Nat.le_of_eq rfl) (by decide) ?_
  refine g_aloadN C d_prog_36_method_1_code_4 rfl rfl ?_
  refine g_aloadN C d_prog_36_method_1_code_5 rfl rfl ?_
  refine g_putfield C (.object "java/lang/String") w_33 Via.refl F1 E1 (Or.inr ⟨w_34, rfl, rfl⟩) w_1 (by decide) rfl rfl (List.mem_of_getElem? (i := 0) rfl) d_prog_36_method_1_code_6 ?_
  intro h179 W179 F179
  refine g_aloadN C d_prog_36_method_1_code_9 rfl rfl ?_
  refine g_aloadN C d_prog_36_method_1_code_10 rfl rfl ?_
  have F180 := (F2.other W179 (Or.inr (slot_ne (Or.inr (C.hw w_36)) (Or.inr (C.hw w_34)) (by decide) (t := (.object "java/lang/String")) (t' := (.object "java/lang/String")) (by decide) (by decide))))
  have E181 := (E1.wr W179)
  refine g_putfield C (.object "java/lang/String") w_35 Via.refl F180 E181 (Or.inr ⟨w_36, rfl, rfl⟩) w_1 (by decide) rfl rfl (List.mem_of_getElem? (i := 0) rfl) d_prog_36_method_1_code_11 ?_
  intro h182 W182 F182
  refine g_aloadN C d_prog_36_method_1_code_14 rfl rfl ?_
  refine g_lloadN C d_prog_36_method_1_code_15 rfl ?_
  have F183 := ((F3.other W179 (Or.inr (slot_ne (Or.inr (C.hw w_38)) (Or.inr (C.hw w_34)) (by decide) (t := .long) (t' := (.object "java/lang/String")) (by decide) (by decide)))).other W182 (Or.inr (slot_ne (Or.inr (C.hw w_38)) (Or.inr (C.hw w_36)) (by decide) (t := .long) (t' := (.object "java/lang/String")) (by decide) (by decide))))
  have E184 := (E181.wr W182)
  refine g_putfield C .long w_37 Via.refl F183 E184 (Or.inr ⟨w_38, rfl, rfl⟩) w_1 (by decide) rfl rfl (List.mem_of_getElem? (i := 0) rfl) d_prog_36_method_1_code_16 ?_
  intro h185 W185 F185
  refine g_return C hEL rfl d_prog_36_method_1_code_19 (by decide) (by decide) ?_
  have E186 := (E184.wr W185)
  have F187 := ((F179.other W182 (Or.inr (slot_ne (Or.inr (C.hw w_34)) (Or.inr (C.hw w_36)) (by decide) (t := (.object "java/lang/String")) (t' := (.object "java/lang/String")) (by decide) (by decide)))).other W185 (Or.inr (slot_ne (Or.inr (C.hw w_34)) (Or.inr (C.hw w_38)) (by decide) (t := (.object "java/lang/String")) (t' := .long) (by decide) (by decide))))
  have F188 := (F182.other W185 (Or.inr (slot_ne (Or.inr (C.hw w_36)) (Or.inr (C.hw w_38)) (by decide) (t := (.object "java/lang/String")) (t' := .long) (by decide) (by decide))))
  exact ⟨rfl, ((((Keep.refl _ _).wr W179 (Or.inl (List.mem_cons_self ..))).wr W182 (Or.inl (List.mem_cons_self ..))).wr W185 (Or.inl (List.mem_cons_self ..))), E186, F187, F188, F185⟩
theorem d_prog_36_method_6_code_0 : decode prog_36_method_6_code 0 = .ok (.aload_n 1, 1) := by decide +kernel
theorem d_prog_36_method_6_code_1 : decode prog_36_method_6_code 1 = .ok (.instanceof 8, 3) := by decide +kernel
theorem d_prog_36_method_6_code_4 : decode prog_36_method_6_code 4 = .ok (.ifCond .eq 56, 3) := by decide +kernel
theorem d_prog_36_method_6_code_60 : decode prog_36_method_6_code 60 = .ok (.iconst 0, 1) := by decide +kernel
theorem d_prog_36_method_6_code_61 : decode prog_36_method_6_code 61 = .ok (.ireturn, 1) := by decide +kernel
set_option maxRecDepth 65536 in
set_option maxHeartbeats 40000000 in
theorem rm_ueN (l : Launch) (Z : State) (a0 : Array Value) (hw : ∀ d ∈ tables_1, d.before a0 Z = true) (hEL : EW Z a0 consts_1) {ws : List Jvm.Cond} (a1 : Addr) (h0 : Heap) (n0 : Nat) :
    Met l Z consts_1 (⟨"com/example/reckon_buckets/reckonbuckets/storage/UsageKey", "equals", "(Ljava/lang/Object;)Z"⟩ : MethodName) prog_36_method_6_code 2 (some .boolean) ws ({ frames := 2, cells := 0, slots := 0, locals := 40 } : Room) [] #[(.ref a1), .null] h0 n0 (nq (fun v h => v = some (.int 0) ∧ h = h0)) := by
  refine met_of (plainFor_of_name pn_com_example_reckon_buckets_reckonbuckets_storage_UsageKey) hw #[.val (.ref a1), .val .null] (fun m => by first | rfl | (simp [entryFrame, mkF, argsToLocals, Value.category]; done)) ?_
  intro p e s m below meth c C0
  have C : Cx Z a0 tables_1 p s m meth c "com/example/reckon_buckets/reckonbuckets/storage/UsageKey" "equals" prog_36_method_6_code 2 (some .boolean) n0 := C0
  refine g_aloadN C d_prog_36_method_6_code_0 rfl rfl ?_
  refine g_instanceof_null C d_prog_36_method_6_code_1 ?_
  refine g_if_t C 60 d_prog_36_method_6_code_4 (XT.i0_eq_t (by decide)) (by decide) (by decide) ?_
  refine g_iconst C 0 d_prog_36_method_6_code_60 rfl ?_
  refine g_ireturnN C hEL (t := .boolean) rfl (by simp) d_prog_36_method_6_code_61 (by decide) (by decide) ?_
  exact ⟨rfl, rfl⟩
set_option maxRecDepth 65536 in
set_option maxHeartbeats 40000000 in
theorem rm_ueS (l : Launch) (Z : State) (a0 : Array Value) (hw : ∀ d ∈ tables_1, d.before a0 Z = true) (hEL : EW Z a0 consts_1) {ws : List Jvm.Cond} (a1 a2 : Addr) (h0 : Heap) (n0 : Nat) (E2 : Exa Z h0 a2 "java/lang/String") :
    Met l Z consts_1 (⟨"com/example/reckon_buckets/reckonbuckets/storage/UsageKey", "equals", "(Ljava/lang/Object;)Z"⟩ : MethodName) prog_36_method_6_code 2 (some .boolean) ws ({ frames := 2, cells := 0, slots := 0, locals := 40 } : Room) [] #[(.ref a1), (.ref a2)] h0 n0 (nq (fun v h => v = some (.int 0) ∧ h = h0)) := by
  refine met_of (plainFor_of_name pn_com_example_reckon_buckets_reckonbuckets_storage_UsageKey) hw #[.val (.ref a1), .val (.ref a2)] (fun m => by first | rfl | (simp [entryFrame, mkF, argsToLocals, Value.category]; done)) ?_
  intro p e s m below meth c C0
  have C : Cx Z a0 tables_1 p s m meth c "com/example/reckon_buckets/reckonbuckets/storage/UsageKey" "equals" prog_36_method_6_code 2 (some .boolean) n0 := C0
  refine g_aloadN C d_prog_36_method_6_code_0 rfl rfl ?_
  refine g_instanceof_f C w_47 E2 (own_no (hw _ w_70) (hw _ w_1) (NS.step (hw _ w_70) (own_root (hw _ w_71) (hw _ w_1) (by decide)) (by decide)) (by decide)) d_prog_36_method_6_code_1 ?_
  refine g_if_t C 60 d_prog_36_method_6_code_4 (XT.i0_eq_t (by decide)) (by decide) (by decide) ?_
  refine g_iconst C 0 d_prog_36_method_6_code_60 rfl ?_
  refine g_ireturnN C hEL (t := .boolean) rfl (by simp) d_prog_36_method_6_code_61 (by decide) (by decide) ?_
  exact ⟨rfl, rfl⟩
theorem own_lceq (x y : Int64) : lcmpW x y = 0 ↔ x = y := by rw [lcW]; exact lc_eq x y

theorem d_prog_36_method_6_code_7 : decode prog_36_method_6_code 7 = .ok (.aload_n 0, 1) := by decide +kernel
theorem d_prog_36_method_6_code_8 : decode prog_36_method_6_code 8 = .ok (.getfield 7, 3) := by decide +kernel
theorem d_prog_36_method_6_code_11 : decode prog_36_method_6_code 11 = .ok (.aload_n 1, 1) := by decide +kernel
theorem d_prog_36_method_6_code_12 : decode prog_36_method_6_code 12 = .ok (.checkcast 8, 3) := by decide +kernel
theorem d_prog_36_method_6_code_15 : decode prog_36_method_6_code 15 = .ok (.getfield 7, 3) := by decide +kernel
theorem d_prog_36_method_6_code_18 : decode prog_36_method_6_code 18 = .ok (.invokevirtual 30, 3) := by decide +kernel
theorem d_prog_36_method_6_code_21 : decode prog_36_method_6_code 21 = .ok (.ifCond .eq 39, 3) := by decide +kernel
theorem d_prog_36_method_6_code_24 : decode prog_36_method_6_code 24 = .ok (.aload_n 0, 1) := by decide +kernel
theorem d_prog_36_method_6_code_25 : decode prog_36_method_6_code 25 = .ok (.getfield 13, 3) := by decide +kernel
theorem d_prog_36_method_6_code_28 : decode prog_36_method_6_code 28 = .ok (.aload_n 1, 1) := by decide +kernel
theorem d_prog_36_method_6_code_29 : decode prog_36_method_6_code 29 = .ok (.checkcast 8, 3) := by decide +kernel
theorem d_prog_36_method_6_code_32 : decode prog_36_method_6_code 32 = .ok (.getfield 13, 3) := by decide +kernel
theorem d_prog_36_method_6_code_35 : decode prog_36_method_6_code 35 = .ok (.invokevirtual 30, 3) := by decide +kernel
theorem d_prog_36_method_6_code_38 : decode prog_36_method_6_code 38 = .ok (.ifCond .eq 22, 3) := by decide +kernel
theorem d_prog_36_method_6_code_41 : decode prog_36_method_6_code 41 = .ok (.aload_n 0, 1) := by decide +kernel
theorem d_prog_36_method_6_code_42 : decode prog_36_method_6_code 42 = .ok (.getfield 16, 3) := by decide +kernel
theorem d_prog_36_method_6_code_45 : decode prog_36_method_6_code 45 = .ok (.aload_n 1, 1) := by decide +kernel
theorem d_prog_36_method_6_code_46 : decode prog_36_method_6_code 46 = .ok (.checkcast 8, 3) := by decide +kernel
theorem d_prog_36_method_6_code_49 : decode prog_36_method_6_code 49 = .ok (.getfield 16, 3) := by decide +kernel
theorem d_prog_36_method_6_code_52 : decode prog_36_method_6_code 52 = .ok (.lcmp, 1) := by decide +kernel
theorem d_prog_36_method_6_code_53 : decode prog_36_method_6_code 53 = .ok (.ifCond .ne 7, 3) := by decide +kernel
theorem d_prog_36_method_6_code_56 : decode prog_36_method_6_code 56 = .ok (.iconst 1, 1) := by decide +kernel
theorem d_prog_36_method_6_code_57 : decode prog_36_method_6_code 57 = .ok (.goto 4, 3) := by decide +kernel
theorem pd__Ljava_lang_Object__Z : parseMethodDescriptor "(Ljava/lang/Object;)Z" = some ⟨[(.object "java/lang/Object")], some .boolean⟩ := by decide +kernel
set_option maxRecDepth 65536 in
set_option maxHeartbeats 40000000 in
theorem rm_ue (l : Launch) (Z : State) (a0 : Array Value) (hw : ∀ d ∈ tables_1, d.before a0 Z = true) (hEL : EW Z a0 consts_1) {ws : List Jvm.Cond} (a1 a2 u1 u2 b1 b2 tu1 tu2 tb1 tb2 : Addr) (ku1 ku2 kb1 kb2 : ClassId) (cu1 cu2 cb1 cb2 : List Int32) (q1 q2 : Int64) (zc : Int32) (h0 : Heap) (n0 : Nat) (E1 : Exa Z h0 a1 "com/example/reckon_buckets/reckonbuckets/storage/UsageKey") (E2 : Exa Z h0 a2 "com/example/reckon_buckets/reckonbuckets/storage/UsageKey") (FuserId1 : Fld Z h0 a1 "com/example/reckon_buckets/reckonbuckets/storage/UsageKey" "userId" "Ljava/lang/String;" (.ref u1)) (Fbucket1 : Fld Z h0 a1 "com/example/reckon_buckets/reckonbuckets/storage/UsageKey" "bucket" "Ljava/lang/String;" (.ref b1)) (Fepoch1 : Fld Z h0 a1 "com/example/reckon_buckets/reckonbuckets/storage/UsageKey" "epoch" "J" (.long q1)) (Su1 : Str Z h0 u1 tu1 ku1 cu1) (Sb1 : Str Z h0 b1 tb1 kb1 cb1) (FuserId2 : Fld Z h0 a2 "com/example/reckon_buckets/reckonbuckets/storage/UsageKey" "userId" "Ljava/lang/String;" (.ref u2)) (Fbucket2 : Fld Z h0 a2 "com/example/reckon_buckets/reckonbuckets/storage/UsageKey" "bucket" "Ljava/lang/String;" (.ref b2)) (Fepoch2 : Fld Z h0 a2 "com/example/reckon_buckets/reckonbuckets/storage/UsageKey" "epoch" "J" (.long q2)) (Su2 : Str Z h0 u2 tu2 ku2 cu2) (Sb2 : Str Z h0 b2 tb2 kb2 cb2) (Szc : Sta Z h0 "java/lang/String" "COMPACT_STRINGS" "Z" (.int zc)) (hzc : ¬ (zc = (0 : Int32))) :
    Met l Z consts_1 (⟨"com/example/reckon_buckets/reckonbuckets/storage/UsageKey", "equals", "(Ljava/lang/Object;)Z"⟩ : MethodName) prog_36_method_6_code 2 (some .boolean) ws ({ frames := 2, cells := 0, slots := 0, locals := 40 } : Room) [] #[(.ref a1), (.ref a2)] h0 n0 (nq (fun v h => v = some (.int (if cu1 = cu2 ∧ cb1 = cb2 ∧ q1 = q2 then 1 else 0)) ∧ h = h0)) := by
  refine met_of (plainFor_of_name pn_com_example_reckon_buckets_reckonbuckets_storage_UsageKey) hw #[.val (.ref a1), .val (.ref a2)] (fun m => by first | rfl | (simp [entryFrame, mkF, argsToLocals, Value.category]; done)) ?_
  intro p e s m below meth c C0
  have C : Cx Z a0 tables_1 p s m meth c "com/example/reckon_buckets/reckonbuckets/storage/UsageKey" "equals" prog_36_method_6_code 2 (some .boolean) n0 := C0
  refine g_aloadN C d_prog_36_method_6_code_0 rfl rfl ?_
  refine g_instanceof_t C w_47 (Ins.self E2) d_prog_36_method_6_code_1 ?_
  refine g_if_f C d_prog_36_method_6_code_4 (XT.i0_eq_f (by decide)) ?_
  refine g_aloadN C d_prog_36_method_6_code_7 rfl rfl ?_
  refine g_getfield C w_33 Via.refl FuserId1 d_prog_36_method_6_code_8 ?_
  refine g_aloadN C d_prog_36_method_6_code_11 rfl rfl ?_
  refine g_checkcast C w_47 (Ins.self E2) d_prog_36_method_6_code_12 ?_
  refine g_getfield C w_33 Via.refl FuserId2 d_prog_36_method_6_code_15 ?_
  refine g_virtual C Su1.1 w_49 w_50 (fun hZ => nf_sel hw w_52 hZ) w_52 w_51 (by decide) [(.ref u2)] (ct_eq hEL hw Su1 Su2 Szc hzc) all0 (by decide) 0 (by decide) rfl pd__Ljava_lang_Object__Z rfl [] rfl (Nat.le_of_eq rfl) d_prog_36_method_6_code_18 (by decide) (by decide) ?_
  intro v189 h189 Q189
  obtain ⟨rfl, e189⟩ := Q189
  replace e189 := e189.symm
  subst e189
  by_cases hc190 : cu1 = cu2
  · refine g_if_f C d_prog_36_method_6_code_21 (XT.i0_eq_f (by rw [if_pos hc190]; decide)) ?_
    refine g_aloadN C d_prog_36_method_6_code_24 rfl rfl ?_
    refine g_getfield C w_35 Via.refl Fbucket1 d_prog_36_method_6_code_25 ?_
    refine g_aloadN C d_prog_36_method_6_code_28 rfl rfl ?_
    refine g_checkcast C w_47 (Ins.self E2) d_prog_36_method_6_code_29 ?_
    refine g_getfield C w_35 Via.refl Fbucket2 d_prog_36_method_6_code_32 ?_
    refine g_virtual C Sb1.1 w_49 w_50 (fun hZ => nf_sel hw w_52 hZ) w_52 w_51 (by decide) [(.ref b2)] (ct_eq hEL hw Sb1 Sb2 Szc hzc) all0 (by decide) 0 (by decide) rfl pd__Ljava_lang_Object__Z rfl [] rfl (Nat.le_of_eq rfl) d_prog_36_method_6_code_35 (by decide) (by decide) ?_
    intro v191 h191 Q191
    obtain ⟨rfl, e191⟩ := Q191
    replace e191 := e191.symm
    subst e191
    by_cases hc192 : cb1 = cb2
    · refine g_if_f C d_prog_36_method_6_code_38 (XT.i0_eq_f (by rw [if_pos hc192]; decide)) ?_
      refine g_aloadN C d_prog_36_method_6_code_41 rfl rfl ?_
      refine g_getfield C w_37 Via.refl Fepoch1 d_prog_36_method_6_code_42 ?_
      refine g_aloadN C d_prog_36_method_6_code_45 rfl rfl ?_
      refine g_checkcast C w_47 (Ins.self E2) d_prog_36_method_6_code_46 ?_
      refine g_getfield C w_37 Via.refl Fepoch2 d_prog_36_method_6_code_49 ?_
      refine g_lcmp C d_prog_36_method_6_code_52 ?_
      by_cases hc193 : q1 = q2
      · refine g_if_f C d_prog_36_method_6_code_53 (XT.i0_ne_f ((own_lceq _ _).mpr hc193)) ?_
        refine g_iconst C 1 d_prog_36_method_6_code_56 rfl ?_
        refine g_goto C 61 d_prog_36_method_6_code_57 (by decide) (by decide) ?_
        refine g_ireturnN C hEL (t := .boolean) rfl (by simp) d_prog_36_method_6_code_61 (by decide) (by decide) ?_
        exact ⟨by simp [nar, hc190, hc192, hc193] <;> decide, rfl⟩
      · refine g_if_t C 60 d_prog_36_method_6_code_53 (XT.i0_ne_t (fun q => hc193 ((own_lceq _ _).mp q))) (by decide) (by decide) ?_
        refine g_iconst C 0 d_prog_36_method_6_code_60 rfl ?_
        refine g_ireturnN C hEL (t := .boolean) rfl (by simp) d_prog_36_method_6_code_61 (by decide) (by decide) ?_
        exact ⟨by simp [nar, hc190, hc192, hc193] <;> decide, rfl⟩
    · refine g_if_t C 60 d_prog_36_method_6_code_38 (XT.i0_eq_t (if_neg hc192)) (by decide) (by decide) ?_
      refine g_iconst C 0 d_prog_36_method_6_code_60 rfl ?_
      refine g_ireturnN C hEL (t := .boolean) rfl (by simp) d_prog_36_method_6_code_61 (by decide) (by decide) ?_
      exact ⟨by simp [nar, hc190, hc192] <;> decide, rfl⟩
  · refine g_if_t C 60 d_prog_36_method_6_code_21 (XT.i0_eq_t (if_neg hc190)) (by decide) (by decide) ?_
    refine g_iconst C 0 d_prog_36_method_6_code_60 rfl ?_
    refine g_ireturnN C hEL (t := .boolean) rfl (by simp) d_prog_36_method_6_code_61 (by decide) (by decide) ?_
    exact ⟨by simp [nar, hc190] <;> decide, rfl⟩
theorem pd__ICC_Ljava_lang_String_ : parseMethodDescriptor "(ICC)Ljava/lang/String;" = some ⟨[.int, .char, .char], some (.object "java/lang/String")⟩ := by decide +kernel
theorem pd__IICC_Z : parseMethodDescriptor "(IICC)Z" = some ⟨[.int, .int, .char, .char], some .boolean⟩ := by decide +kernel
theorem pd__Ljava_lang_String_Ljava_lang_String_J_V : parseMethodDescriptor "(Ljava/lang/String;Ljava/lang/String;J)V" = some ⟨[(.object "java/lang/String"), (.object "java/lang/String"), .long], none⟩ := by decide +kernel
set_option maxRecDepth 65536 in
set_option maxHeartbeats 40000000 in
theorem rm_law (l : Launch) (Z : State) (a0 : Array Value) (hw : ∀ d ∈ tables_1, d.before a0 Z = true) (hEL : EW Z a0 consts_1) {ws : List Jvm.Cond} (i1 i2 : Int64) (i3 i4 i5 i6 zc : Int32) (h0 : Heap) (n0 : Nat) (Szc : Sta Z h0 "java/lang/String" "COMPACT_STRINGS" "Z" (.int zc)) (hzc : ¬ (zc = (0 : Int32))) :
    Met l Z consts_1 x code maxLocals ret ws room_1 [] #[(.long i1), (.long i2), (.int i3), (.int i4), (.int i5), (.int i6)] h0 n0 (nq (fun v _ => v = some (.int 1))) := by
  refine met_of (plainFor_of_name pn_com_example_reckon_buckets_reckonbuckets_storage_UsageKeyEqualsPinLaw) hw #[.val (.long i1), .second, .val (.long i2), .second, .val (.int i3), .val (.int i4), .val (.int i5), .val (.int i6), .unset, .unset, .unset, .unset, .unset, .unset, .unset, .unset, .unset, .unset, .unset, .unset, .unset, .unset] (fun m => by first | (simp [entryFrame, mkF, argsToLocals, Value.category, maxLocals]; done) | rfl) ?_
  intro p e s m below meth c C0
  have C : Cx Z a0 tables_1 p s m meth c "com/example/reckon_buckets/reckonbuckets/storage/UsageKeyEqualsPinLaw" "law" code maxLocals ret n0 := C0
  refine g_iload C at_0 rfl ?_
  refine g_sipush C 255 at_2 rfl ?_
  refine g_iand C at_5 ?_
  refine g_i2c C at_6 ?_
  refine g_istore C #[.val (.long i1), .second, .val (.long i2), .second, .val (.int i3), .val (.int i4), .val (.int i5), .val (.int i6), .val (.int ((i3 &&& (255 : Int32)).toUInt32.toUInt16.toUInt32.toInt32)), .unset, .unset, .unset, .unset, .unset, .unset, .unset, .unset, .unset, .unset, .unset, .unset, .unset] at_7 rfl ?_
  obtain ⟨ux, e_ux, h_ux⟩ : ∃ z : Int32, ((i3 &&& (255 : Int32)).toUInt32.toUInt16.toUInt32.toInt32) = z ∧ Ch8 z := ⟨_, rfl, ch8_i2c _⟩
  rw [e_ux]
  refine g_iload C at_9 rfl ?_
  refine g_bipush C 8 at_11 rfl ?_
  refine g_iushr C at_13 ?_
  refine g_sipush C 255 at_14 rfl ?_
  refine g_iand C at_17 ?_
  refine g_i2c C at_18 ?_
  refine g_istore C #[.val (.long i1), .second, .val (.long i2), .second, .val (.int i3), .val (.int i4), .val (.int i5), .val (.int i6), .val (.int ux), .val (.int ((((i3.toUInt32 >>> ((8 : Int32) &&& 31).toUInt32).toInt32) &&& (255 : Int32)).toUInt32.toUInt16.toUInt32.toInt32)), .unset, .unset, .unset, .unset, .unset, .unset, .unset, .unset, .unset, .unset, .unset, .unset] at_19 rfl ?_
  obtain ⟨uy, e_uy, h_uy⟩ : ∃ z : Int32, ((((i3.toUInt32 >>> ((8 : Int32) &&& 31).toUInt32).toInt32) &&& (255 : Int32)).toUInt32.toUInt16.toUInt32.toInt32) = z ∧ Ch8 z := ⟨_, rfl, ch8_i2c _⟩
  rw [e_uy]
  refine g_iload C at_21 rfl ?_
  refine g_sipush C 255 at_23 rfl ?_
  refine g_iand C at_26 ?_
  refine g_i2c C at_27 ?_
  refine g_istore C #[.val (.long i1), .second, .val (.long i2), .second, .val (.int i3), .val (.int i4), .val (.int i5), .val (.int i6), .val (.int ux), .val (.int uy), .val (.int ((i4 &&& (255 : Int32)).toUInt32.toUInt16.toUInt32.toInt32)), .unset, .unset, .unset, .unset, .unset, .unset, .unset, .unset, .unset, .unset, .unset] at_28 rfl ?_
  obtain ⟨bx, e_bx, h_bx⟩ : ∃ z : Int32, ((i4 &&& (255 : Int32)).toUInt32.toUInt16.toUInt32.toInt32) = z ∧ Ch8 z := ⟨_, rfl, ch8_i2c _⟩
  rw [e_bx]
  refine g_iload C at_30 rfl ?_
  refine g_bipush C 8 at_32 rfl ?_
  refine g_iushr C at_34 ?_
  refine g_sipush C 255 at_35 rfl ?_
  refine g_iand C at_38 ?_
  refine g_i2c C at_39 ?_
  refine g_istore C #[.val (.long i1), .second, .val (.long i2), .second, .val (.int i3), .val (.int i4), .val (.int i5), .val (.int i6), .val (.int ux), .val (.int uy), .val (.int bx), .val (.int ((((i4.toUInt32 >>> ((8 : Int32) &&& 31).toUInt32).toInt32) &&& (255 : Int32)).toUInt32.toUInt16.toUInt32.toInt32)), .unset, .unset, .unset, .unset, .unset, .unset, .unset, .unset, .unset, .unset] at_40 rfl ?_
  obtain ⟨by', e_by', h_by'⟩ : ∃ z : Int32, ((((i4.toUInt32 >>> ((8 : Int32) &&& 31).toUInt32).toInt32) &&& (255 : Int32)).toUInt32.toUInt16.toUInt32.toInt32) = z ∧ Ch8 z := ⟨_, rfl, ch8_i2c _⟩
  rw [e_by']
  refine g_iload C at_42 rfl ?_
  refine g_iconst C 3 at_44 rfl ?_
  refine g_iand C at_45 ?_
  refine g_istore C #[.val (.long i1), .second, .val (.long i2), .second, .val (.int i3), .val (.int i4), .val (.int i5), .val (.int i6), .val (.int ux), .val (.int uy), .val (.int bx), .val (.int by'), .val (.int (i5 &&& (3 : Int32))), .unset, .unset, .unset, .unset, .unset, .unset, .unset, .unset, .unset] at_46 rfl ?_
  obtain ⟨m1u, e_m1u, h_m1u⟩ : ∃ z : Int32, (i5 &&& (3 : Int32)) = z ∧ (z = 0 ∨ z = 1 ∨ z = 2 ∨ z = 3) := ⟨_, rfl, own_and3 _⟩
  rw [e_m1u]
  refine g_iload C at_48 rfl ?_
  refine g_iconst C 2 at_50 rfl ?_
  refine g_iushr C at_51 ?_
  refine g_iconst C 3 at_52 rfl ?_
  refine g_iand C at_53 ?_
  refine g_istore C #[.val (.long i1), .second, .val (.long i2), .second, .val (.int i3), .val (.int i4), .val (.int i5), .val (.int i6), .val (.int ux), .val (.int uy), .val (.int bx), .val (.int by'), .val (.int m1u), .val (.int (((i5.toUInt32 >>> ((2 : Int32) &&& 31).toUInt32).toInt32) &&& (3 : Int32))), .unset, .unset, .unset, .unset, .unset, .unset, .unset, .unset] at_54 rfl ?_
  obtain ⟨m2u, e_m2u, h_m2u⟩ : ∃ z : Int32, (((i5.toUInt32 >>> ((2 : Int32) &&& 31).toUInt32).toInt32) &&& (3 : Int32)) = z ∧ (z = 0 ∨ z = 1 ∨ z = 2 ∨ z = 3) := ⟨_, rfl, own_and3 _⟩
  rw [e_m2u]
  refine g_iload C at_56 rfl ?_
  refine g_iconst C 4 at_58 rfl ?_
  refine g_iushr C at_59 ?_
  refine g_iconst C 3 at_60 rfl ?_
  refine g_iand C at_61 ?_
  refine g_istore C #[.val (.long i1), .second, .val (.long i2), .second, .val (.int i3), .val (.int i4), .val (.int i5), .val (.int i6), .val (.int ux), .val (.int uy), .val (.int bx), .val (.int by'), .val (.int m1u), .val (.int m2u), .val (.int (((i5.toUInt32 >>> ((4 : Int32) &&& 31).toUInt32).toInt32) &&& (3 : Int32))), .unset, .unset, .unset, .unset, .unset, .unset, .unset] at_62 rfl ?_
  obtain ⟨m1b, e_m1b, h_m1b⟩ : ∃ z : Int32, (((i5.toUInt32 >>> ((4 : Int32) &&& 31).toUInt32).toInt32) &&& (3 : Int32)) = z ∧ (z = 0 ∨ z = 1 ∨ z = 2 ∨ z = 3) := ⟨_, rfl, own_and3 _⟩
  rw [e_m1b]
  refine g_iload C at_64 rfl ?_
  refine g_bipush C 6 at_66 rfl ?_
  refine g_iushr C at_68 ?_
  refine g_iconst C 3 at_69 rfl ?_
  refine g_iand C at_70 ?_
  refine g_istore C #[.val (.long i1), .second, .val (.long i2), .second, .val (.int i3), .val (.int i4), .val (.int i5), .val (.int i6), .val (.int ux), .val (.int uy), .val (.int bx), .val (.int by'), .val (.int m1u), .val (.int m2u), .val (.int m1b), .val (.int (((i5.toUInt32 >>> ((6 : Int32) &&& 31).toUInt32).toInt32) &&& (3 : Int32))), .unset, .unset, .unset, .unset, .unset, .unset] at_71 rfl ?_
  obtain ⟨m2b, e_m2b, h_m2b⟩ : ∃ z : Int32, (((i5.toUInt32 >>> ((6 : Int32) &&& 31).toUInt32).toInt32) &&& (3 : Int32)) = z ∧ (z = 0 ∨ z = 1 ∨ z = 2 ∨ z = 3) := ⟨_, rfl, own_and3 _⟩
  rw [e_m2b]
  refine g_iload C at_73 rfl ?_
  refine g_iconst C 1 at_75 rfl ?_
  refine g_iand C at_76 ?_
  by_cases hc194 : (i6 &&& (1 : Int32)) = 0
  · refine g_if_t C 84 at_77 (XT.i0_eq_t hc194) (by decide) (by decide) ?_
    refine g_lloadN C at_84 rfl ?_
    refine g_lstore C #[.val (.long i1), .second, .val (.long i2), .second, .val (.int i3), .val (.int i4), .val (.int i5), .val (.int i6), .val (.int ux), .val (.int uy), .val (.int bx), .val (.int by'), .val (.int m1u), .val (.int m2u), .val (.int m1b), .val (.int m2b), .val (.long i2), .second, .unset, .unset, .unset, .unset] at_85 rfl ?_
    refine g_iload C at_87 rfl ?_
    refine g_iconst C 1 at_89 rfl ?_
    refine g_iushr C at_90 ?_
    refine g_iconst C 3 at_91 rfl ?_
    refine g_iand C at_92 ?_
    refine g_istore C #[.val (.long i1), .second, .val (.long i2), .second, .val (.int i3), .val (.int i4), .val (.int i5), .val (.int i6), .val (.int ux), .val (.int uy), .val (.int bx), .val (.int by'), .val (.int m1u), .val (.int m2u), .val (.int m1b), .val (.int m2b), .val (.long i2), .second, .val (.int (((i6.toUInt32 >>> ((1 : Int32) &&& 31).toUInt32).toInt32) &&& (3 : Int32))), .unset, .unset, .unset] at_93 rfl ?_
    obtain ⟨oth, e_oth, h_oth⟩ : ∃ z : Int32, (((i6.toUInt32 >>> ((1 : Int32) &&& 31).toUInt32).toInt32) &&& (3 : Int32)) = z ∧ (z = 0 ∨ z = 1 ∨ z = 2 ∨ z = 3) := ⟨_, rfl, own_and3 _⟩
    rw [e_oth]
    refine g_new C w_0 w_1 w_2 at_95 (by decide) (by decide) ?_
    intro b195 h195 g195 E195 A195 D195
    refine g_dup C at_98 rfl ?_
    refine g_iload C at_99 rfl ?_
    refine g_iload C at_101 rfl ?_
    refine g_iload C at_103 rfl ?_
    have K196 : Keep h0 h195 [] := (Keep.refl h0 []).ext E195
    refine g_static C w_3 w_4 w_5 w_6 (by decide) [(.int m1u), (.int ux), (.int uy)] (ct_of hEL hw w_6 w_5 (rm_mk l Z a0 hw hEL m1u ux uy zc h195 n0 h_ux h_uy (Sta_keep Szc K196) hzc)) all0 (by decide) 2 (by decide) rfl pd__ICC_Ljava_lang_String_ rfl [(.ref b195), (.ref b195)] rfl (Nat.le_of_eq rfl) at_105 (by decide) (by decide) ?_
    intro v197 h197 Q197
    obtain ⟨a197, t197, kb197, rfl, KC197, le197, S197⟩ := Q197
    refine g_iload C at_108 rfl ?_
    refine g_iload C at_110 rfl ?_
    refine g_iload C at_112 rfl ?_
    have K198 : Keep h0 h197 [] := K196.trans KC197 all0
    refine g_static C w_3 w_4 w_5 w_6 (by decide) [(.int m1b), (.int bx), (.int by')] (ct_of hEL hw w_6 w_5 (rm_mk l Z a0 hw hEL m1b bx by' zc h197 n0 h_bx h_by' (Sta_keep Szc K198) hzc)) all0 (by decide) 3 (by decide) rfl pd__ICC_Ljava_lang_String_ rfl [(.ref a197), (.ref b195), (.ref b195)] rfl (Nat.le_of_eq rfl) at_114 (by decide) (by decide) ?_
    intro v199 h199 Q199
    obtain ⟨a199, t199, kb199, rfl, KC199, le199, S199⟩ := Q199
    refine g_lloadN C at_117 rfl ?_
    have K200 : Keep h195 h197 [] := (Keep.refl h195 []).trans KC197 all0
    have K201 : Keep h195 h199 [] := K200.trans KC199 all0
    have F202 := ((D195 (Or.inr (C.hw w_34)) (ty := (.object "java/lang/String")) (by decide)).keep K201 nin0)
    have F203 := ((D195 (Or.inr (C.hw w_36)) (ty := (.object "java/lang/String")) (by decide)).keep K201 nin0)
    have F204 := ((D195 (Or.inr (C.hw w_38)) (ty := .long) (by decide)).keep K201 nin0)
    have E205 := (A195.keep K201)
    refine g_special C (a := b195) w_29 w_30 w_31 rfl (by decide) [(.ref a197), (.ref a199), (.long i1)] (ct_of hEL hw w_31 w_2 (rm_ui l Z a0 hw hEL b195 a197 a199 i1 h199 n0 E205 F202 F203 F204)) (allS (List.mem_of_getElem? (i := 0) rfl) all0) (by decide) 1 (by decide) rfl pd__Ljava_lang_String_Ljava_lang_String_J_V rfl [(.ref b195)] rfl (Nat.le_of_eq rfl) at_118 (by decide) (by decide) ?_
    intro v206 h206 Q206
    obtain ⟨rfl, KC206, X206, G1206, G2206, G3206⟩ := Q206
    refine g_astore C #[.val (.long i1), .second, .val (.long i2), .second, .val (.int i3), .val (.int i4), .val (.int i5), .val (.int i6), .val (.int ux), .val (.int uy), .val (.int bx), .val (.int by'), .val (.int m1u), .val (.int m2u), .val (.int m1b), .val (.int m2b), .val (.long i2), .second, .val (.int oth), .val (.ref b195), .unset, .unset] at_121 rfl rfl ?_
    refine g_iload C at_123 rfl ?_
    refine g_iconst C 2 at_125 rfl ?_
    by_cases hc207 : oth = (2 : Int32)
    · refine g_icmp_f C at_126 (XT.ii_ne_f hc207) ?_
      refine g_aload C at_129 rfl rfl ?_
      refine g_aconst_null C at_131 ?_
      refine g_virtual C X206 w_42 w_43 (fun hZ => nf_sel hw w_45 hZ) w_45 w_44 (by decide) [.null] (ct_of hEL hw w_46 w_2 (rm_ueN l Z a0 hw hEL b195 h206 n0 )) all0 (by decide) 0 (by decide) rfl pd__Ljava_lang_Object__Z rfl [] rfl (Nat.le_of_eq rfl) at_132 (by decide) (by decide) ?_
      intro v208 h208 Q208
      obtain ⟨rfl, e208⟩ := Q208
      replace e208 := e208.symm
      subst e208
      refine g_if_f C at_135 (XT.i0_ne_f (by decide)) ?_
      refine g_aload C at_138 rfl rfl ?_
      refine g_aload C at_140 rfl rfl ?_
      have K209 : Keep h197 h199 [] := (Keep.refl h197 []).trans KC199 all0
      have E210 := (A195.keep K200)
      have S211 := ((S197.keep KC199 nin0 nin0).keep KC206 (ninS (Ne.symm (Nat.ne_of_lt (Nat.lt_of_lt_of_le A195.lt le197))) nin0) (ninS (Ne.symm (own_ne_arv E210 (C.hw w_1) S197.2.2.2.1)) nin0))
      have S212 := (S199.keep KC206 (ninS (Ne.symm (Nat.ne_of_lt (Nat.lt_of_lt_of_le E210.lt le199))) nin0) (ninS (Ne.symm (own_ne_arv E205 (C.hw w_1) S199.2.2.2.1)) nin0))
      have K213 : Keep h0 h199 [] := K198.trans KC199 all0
      have K214 : Keep h0 h206 [] := K213.trans KC206 (allS (Or.inr (Nat.le_of_eq g195.symm)) all0)
      refine g_virtual C X206 w_42 w_43 (fun hZ => nf_sel hw w_45 hZ) w_45 w_44 (by decide) [(.ref b195)] (ct_of hEL hw w_46 w_2 (rm_ue l Z a0 hw hEL b195 b195 a197 a197 a199 a199 t197 t197 t199 t199 _ _ _ _ (mkcs m1u ux uy) (mkcs m1u ux uy) (mkcs m1b bx by') (mkcs m1b bx by') i1 i1 zc h206 n0 X206 X206 G1206 G2206 G3206 S211 S212 G1206 G2206 G3206 S211 S212 (Sta_keep Szc K214) hzc)) all0 (by decide) 0 (by decide) rfl pd__Ljava_lang_Object__Z rfl [] rfl (Nat.le_of_eq rfl) at_142 (by decide) (by decide) ?_
      intro v215 h215 Q215
      obtain ⟨ev215, e215⟩ := Q215
      replace e215 := e215.symm
      subst e215
      have ew215 : v215 = some (.int (1 : Int32)) := ev215.trans (by rw [if_pos ⟨rfl, rfl, rfl⟩])
      subst ew215
      refine g_if_f C at_145 (XT.i0_eq_f (by decide)) ?_
      refine g_iconst C 1 at_148 rfl ?_
      refine g_goto C 153 at_149 (by decide) (by decide) ?_
      refine g_ireturnN C hEL (t := .boolean) rfl (by simp) at_153 (by decide) (by decide) ?_
      exact rfl
    · refine g_icmp_t C 154 at_126 (XT.ii_ne_t hc207) (by decide) (by decide) ?_
      refine g_iload C at_154 rfl ?_
      refine g_iconst C 3 at_156 rfl ?_
      by_cases hc216 : oth = (3 : Int32)
      · refine g_icmp_f C at_157 (XT.ii_ne_f hc216) ?_
        refine g_iload C at_160 rfl ?_
        refine g_iload C at_162 rfl ?_
        refine g_iload C at_164 rfl ?_
        have K217 : Keep h0 h199 [] := K198.trans KC199 all0
        have K218 : Keep h0 h206 [] := K217.trans KC206 (allS (Or.inr (Nat.le_of_eq g195.symm)) all0)
        refine g_static C w_3 w_4 w_5 w_6 (by decide) [(.int m1u), (.int ux), (.int uy)] (ct_of hEL hw w_6 w_5 (rm_mk l Z a0 hw hEL m1u ux uy zc h206 n0 h_ux h_uy (Sta_keep Szc K218) hzc)) all0 (by decide) 0 (by decide) rfl pd__ICC_Ljava_lang_String_ rfl [] rfl (Nat.le_of_eq rfl) at_166 (by decide) (by decide) ?_
        intro v219 h219 Q219
        obtain ⟨a219, t219, kb219, rfl, KC219, le219, S219⟩ := Q219
        refine g_astore C #[.val (.long i1), .second, .val (.long i2), .second, .val (.int i3), .val (.int i4), .val (.int i5), .val (.int i6), .val (.int ux), .val (.int uy), .val (.int bx), .val (.int by'), .val (.int m1u), .val (.int m2u), .val (.int m1b), .val (.int m2b), .val (.long i2), .second, .val (.int oth), .val (.ref b195), .val (.ref a219), .unset] at_169 rfl rfl ?_
        refine g_aload C at_171 rfl rfl ?_
        refine g_aload C at_173 rfl rfl ?_
        have K221 : Keep h206 h219 [] := (Keep.refl h206 []).trans KC219 all0
        have E222 := (X206.keep K221)
        refine g_virtual C E222 w_42 w_43 (fun hZ => nf_sel hw w_45 hZ) w_45 w_44 (by decide) [(.ref a219)] (ct_of hEL hw w_46 w_2 (rm_ueS l Z a0 hw hEL b195 a219 h219 n0 S219.1)) all0 (by decide) 0 (by decide) rfl pd__Ljava_lang_Object__Z rfl [] rfl (Nat.le_of_eq rfl) at_175 (by decide) (by decide) ?_
        intro v220 h220 Q220
        obtain ⟨rfl, e220⟩ := Q220
        replace e220 := e220.symm
        subst e220
        refine g_if_f C at_178 (XT.i0_ne_f (by decide)) ?_
        refine g_iconst C 1 at_181 rfl ?_
        refine g_goto C 186 at_182 (by decide) (by decide) ?_
        refine g_ireturnN C hEL (t := .boolean) rfl (by simp) at_186 (by decide) (by decide) ?_
        exact rfl
      · refine g_icmp_t C 187 at_157 (XT.ii_ne_t hc216) (by decide) (by decide) ?_
        refine g_new C w_0 w_1 w_2 at_187 (by decide) (by decide) ?_
        intro b223 h223 g223 E223 A223 D223
        refine g_dup C at_190 rfl ?_
        refine g_iload C at_191 rfl ?_
        refine g_iload C at_193 rfl ?_
        refine g_iload C at_195 rfl ?_
        have K224 : Keep h0 h199 [] := K198.trans KC199 all0
        have K225 : Keep h0 h206 [] := K224.trans KC206 (allS (Or.inr (Nat.le_of_eq g195.symm)) all0)
        have K226 : Keep h0 h223 [] := K225.ext E223
        refine g_static C w_3 w_4 w_5 w_6 (by decide) [(.int m2u), (.int ux), (.int uy)] (ct_of hEL hw w_6 w_5 (rm_mk l Z a0 hw hEL m2u ux uy zc h223 n0 h_ux h_uy (Sta_keep Szc K226) hzc)) all0 (by decide) 2 (by decide) rfl pd__ICC_Ljava_lang_String_ rfl [(.ref b223), (.ref b223)] rfl (Nat.le_of_eq rfl) at_197 (by decide) (by decide) ?_
        intro v227 h227 Q227
        obtain ⟨a227, t227, kb227, rfl, KC227, le227, S227⟩ := Q227
        refine g_iload C at_200 rfl ?_
        refine g_iload C at_202 rfl ?_
        refine g_iload C at_204 rfl ?_
        have K228 : Keep h0 h227 [] := K226.trans KC227 all0
        refine g_static C w_3 w_4 w_5 w_6 (by decide) [(.int m2b), (.int bx), (.int by')] (ct_of hEL hw w_6 w_5 (rm_mk l Z a0 hw hEL m2b bx by' zc h227 n0 h_bx h_by' (Sta_keep Szc K228) hzc)) all0 (by decide) 3 (by decide) rfl pd__ICC_Ljava_lang_String_ rfl [(.ref a227), (.ref b223), (.ref b223)] rfl (Nat.le_of_eq rfl) at_206 (by decide) (by decide) ?_
        intro v229 h229 Q229
        obtain ⟨a229, t229, kb229, rfl, KC229, le229, S229⟩ := Q229
        refine g_lload C at_209 rfl ?_
        have K230 : Keep h223 h227 [] := (Keep.refl h223 []).trans KC227 all0
        have K231 : Keep h223 h229 [] := K230.trans KC229 all0
        have F232 := ((D223 (Or.inr (C.hw w_34)) (ty := (.object "java/lang/String")) (by decide)).keep K231 nin0)
        have F233 := ((D223 (Or.inr (C.hw w_36)) (ty := (.object "java/lang/String")) (by decide)).keep K231 nin0)
        have F234 := ((D223 (Or.inr (C.hw w_38)) (ty := .long) (by decide)).keep K231 nin0)
        have E235 := (A223.keep K231)
        refine g_special C (a := b223) w_29 w_30 w_31 rfl (by decide) [(.ref a227), (.ref a229), (.long i2)] (ct_of hEL hw w_31 w_2 (rm_ui l Z a0 hw hEL b223 a227 a229 i2 h229 n0 E235 F232 F233 F234)) (allS (List.mem_of_getElem? (i := 0) rfl) all0) (by decide) 1 (by decide) rfl pd__Ljava_lang_String_Ljava_lang_String_J_V rfl [(.ref b223)] rfl (Nat.le_of_eq rfl) at_211 (by decide) (by decide) ?_
        intro v236 h236 Q236
        obtain ⟨rfl, KC236, X236, G1236, G2236, G3236⟩ := Q236
        refine g_astore C #[.val (.long i1), .second, .val (.long i2), .second, .val (.int i3), .val (.int i4), .val (.int i5), .val (.int i6), .val (.int ux), .val (.int uy), .val (.int bx), .val (.int by'), .val (.int m1u), .val (.int m2u), .val (.int m1b), .val (.int m2b), .val (.long i2), .second, .val (.int oth), .val (.ref b195), .val (.ref b223), .unset] at_214 rfl rfl ?_
        refine g_iload C at_216 rfl ?_
        refine g_iload C at_218 rfl ?_
        refine g_iload C at_220 rfl ?_
        refine g_iload C at_222 rfl ?_
        refine g_static C w_39 w_40 w_5 w_41 (by decide) [(.int m1u), (.int m2u), (.int ux), (.int uy)] (ct_of hEL hw w_41 w_5 (rm_ss l Z a0 hw hEL m1u m2u ux uy h236 n0 )) all0 (by decide) 0 (by decide) rfl pd__IICC_Z rfl [] rfl (Nat.le_of_eq rfl) at_224 (by decide) (by decide) ?_
        intro v237 h237 Q237
        obtain ⟨rfl, e237⟩ := Q237
        replace e237 := e237.symm
        subst e237
        by_cases hc238 : sameP m1u m2u ux uy
        · refine g_if_f C at_227 (XT.i0_eq_f (by rw [if_pos hc238]; decide)) ?_
          refine g_iload C at_230 rfl ?_
          refine g_iload C at_232 rfl ?_
          refine g_iload C at_234 rfl ?_
          refine g_iload C at_236 rfl ?_
          refine g_static C w_39 w_40 w_5 w_41 (by decide) [(.int m1b), (.int m2b), (.int bx), (.int by')] (ct_of hEL hw w_41 w_5 (rm_ss l Z a0 hw hEL m1b m2b bx by' h236 n0 )) all0 (by decide) 0 (by decide) rfl pd__IICC_Z rfl [] rfl (Nat.le_of_eq rfl) at_238 (by decide) (by decide) ?_
          intro v239 h239 Q239
          obtain ⟨rfl, e239⟩ := Q239
          replace e239 := e239.symm
          subst e239
          by_cases hc240 : sameP m1b m2b bx by'
          · refine g_if_f C at_241 (XT.i0_eq_f (by rw [if_pos hc240]; decide)) ?_
            refine g_lloadN C at_244 rfl ?_
            refine g_lload C at_245 rfl ?_
            refine g_lcmp C at_247 ?_
            by_cases hc241 : i1 = i2
            · refine g_if_f C at_248 (XT.i0_ne_f ((own_lceq _ _).mpr hc241)) ?_
              refine g_iconst C 1 at_251 rfl ?_
              refine g_goto C 256 at_252 (by decide) (by decide) ?_
              refine g_istore C #[.val (.long i1), .second, .val (.long i2), .second, .val (.int i3), .val (.int i4), .val (.int i5), .val (.int i6), .val (.int ux), .val (.int uy), .val (.int bx), .val (.int by'), .val (.int m1u), .val (.int m2u), .val (.int m1b), .val (.int m2b), .val (.long i2), .second, .val (.int oth), .val (.ref b195), .val (.ref b223), .val (.int (1 : Int32))] at_256 rfl ?_
              refine g_aload C at_258 rfl rfl ?_
              refine g_aload C at_260 rfl rfl ?_
              have K242 : Keep h206 h223 [] := (Keep.refl h206 []).ext E223
              have K243 : Keep h206 h227 [] := K242.trans KC227 all0
              have K244 : Keep h206 h229 [] := K243.trans KC229 all0
              have K245 : Keep h206 h236 [] := K244.trans KC236 (allS (Or.inr (Nat.le_of_eq g223.symm)) all0)
              have E246 := (X206.keep K245)
              have F247 := (G1206.keep K245 nin0)
              have F248 := (G2206.keep K245 nin0)
              have F249 := (G3206.keep K245 nin0)
              have K250 : Keep h197 h199 [] := (Keep.refl h197 []).trans KC199 all0
              have E251 := (A195.keep K200)
              have E252 := ((S197.1.keep KC199).keep KC206)
              have S253 := ((S197.keep KC199 nin0 nin0).keep KC206 (ninS (Ne.symm (Nat.ne_of_lt (Nat.lt_of_lt_of_le A195.lt le197))) nin0) (ninS (Ne.symm (own_ne_arv E251 (C.hw w_1) S197.2.2.2.1)) nin0))
              have S254 := ((((((S197.keep KC199 nin0 nin0).keep KC206 (ninS (Ne.symm (Nat.ne_of_lt (Nat.lt_of_lt_of_le A195.lt le197))) nin0) (ninS (Ne.symm (own_ne_arv E251 (C.hw w_1) S197.2.2.2.1)) nin0)).ext E223).keep KC227 nin0 nin0).keep KC229 nin0 nin0).keep KC236 (ninS (Nat.ne_of_lt (Nat.lt_of_lt_of_le E252.lt (Nat.le_of_eq g223.symm))) nin0) (ninS (Nat.ne_of_lt (Nat.lt_of_lt_of_le S253.tlt (Nat.le_of_eq g223.symm))) nin0))
              have E255 := (S199.1.keep KC206)
              have S256 := (S199.keep KC206 (ninS (Ne.symm (Nat.ne_of_lt (Nat.lt_of_lt_of_le E251.lt le199))) nin0) (ninS (Ne.symm (own_ne_arv E205 (C.hw w_1) S199.2.2.2.1)) nin0))
              have S257 := (((((S199.keep KC206 (ninS (Ne.symm (Nat.ne_of_lt (Nat.lt_of_lt_of_le E251.lt le199))) nin0) (ninS (Ne.symm (own_ne_arv E205 (C.hw w_1) S199.2.2.2.1)) nin0)).ext E223).keep KC227 nin0 nin0).keep KC229 nin0 nin0).keep KC236 (ninS (Nat.ne_of_lt (Nat.lt_of_lt_of_le E255.lt (Nat.le_of_eq g223.symm))) nin0) (ninS (Nat.ne_of_lt (Nat.lt_of_lt_of_le S256.tlt (Nat.le_of_eq g223.symm))) nin0))
              have K258 : Keep h227 h229 [] := (Keep.refl h227 []).trans KC229 all0
              have E259 := (A223.keep K230)
              have S260 := ((S227.keep KC229 nin0 nin0).keep KC236 (ninS (Ne.symm (Nat.ne_of_lt (Nat.lt_of_lt_of_le A223.lt le227))) nin0) (ninS (Ne.symm (own_ne_arv E259 (C.hw w_1) S227.2.2.2.1)) nin0))
              have S261 := (S229.keep KC236 (ninS (Ne.symm (Nat.ne_of_lt (Nat.lt_of_lt_of_le E259.lt le229))) nin0) (ninS (Ne.symm (own_ne_arv E235 (C.hw w_1) S229.2.2.2.1)) nin0))
              have K262 : Keep h0 h229 [] := K228.trans KC229 all0
              have K263 : Keep h0 h236 [] := K262.trans KC236 (allS (Or.inr (Nat.le_trans K225.1 (Nat.le_of_eq g223.symm))) all0)
              refine g_virtual C E246 w_42 w_43 (fun hZ => nf_sel hw w_45 hZ) w_45 w_44 (by decide) [(.ref b223)] (ct_of hEL hw w_46 w_2 (rm_ue l Z a0 hw hEL b195 b223 a197 a227 a199 a229 t197 t227 t199 t229 _ _ _ _ (mkcs m1u ux uy) (mkcs m2u ux uy) (mkcs m1b bx by') (mkcs m2b bx by') i1 i2 zc h236 n0 E246 X236 F247 F248 F249 S254 S257 G1236 G2236 G3236 S260 S261 (Sta_keep Szc K263) hzc)) all0 (by decide) 0 (by decide) rfl pd__Ljava_lang_Object__Z rfl [] rfl (Nat.le_of_eq rfl) at_262 (by decide) (by decide) ?_
              intro v264 h264 Q264
              obtain ⟨rfl, e264⟩ := Q264
              replace e264 := e264.symm
              subst e264
              refine g_iload C at_265 rfl ?_
              refine g_icmp_f C at_267 (XT.ii_ne_f (if_pos ⟨((own_same h_m1u h_m2u).mp hc238), ((own_same h_m1b h_m2b).mp hc240), hc241⟩)) ?_
              refine g_aload C at_270 rfl rfl ?_
              refine g_aload C at_272 rfl rfl ?_
              refine g_virtual C X236 w_42 w_43 (fun hZ => nf_sel hw w_45 hZ) w_45 w_44 (by decide) [(.ref b195)] (ct_of hEL hw w_46 w_2 (rm_ue l Z a0 hw hEL b223 b195 a227 a197 a229 a199 t227 t197 t229 t199 _ _ _ _ (mkcs m2u ux uy) (mkcs m1u ux uy) (mkcs m2b bx by') (mkcs m1b bx by') i2 i1 zc h236 n0 X236 E246 G1236 G2236 G3236 S260 S261 F247 F248 F249 S254 S257 (Sta_keep Szc K263) hzc)) all0 (by decide) 0 (by decide) rfl pd__Ljava_lang_Object__Z rfl [] rfl (Nat.le_of_eq rfl) at_274 (by decide) (by decide) ?_
              intro v265 h265 Q265
              obtain ⟨rfl, e265⟩ := Q265
              replace e265 := e265.symm
              subst e265
              refine g_iload C at_277 rfl ?_
              refine g_icmp_f C at_279 (XT.ii_ne_f (if_pos ⟨((own_same h_m1u h_m2u).mp hc238).symm, ((own_same h_m1b h_m2b).mp hc240).symm, hc241.symm⟩)) ?_
              refine g_iconst C 1 at_282 rfl ?_
              refine g_goto C 287 at_283 (by decide) (by decide) ?_
              refine g_ireturnN C hEL (t := .boolean) rfl (by simp) at_287 (by decide) (by decide) ?_
              exact rfl
            · refine g_if_t C 255 at_248 (XT.i0_ne_t (fun q => hc241 ((own_lceq _ _).mp q))) (by decide) (by decide) ?_
              refine g_iconst C 0 at_255 rfl ?_
              refine g_istore C #[.val (.long i1), .second, .val (.long i2), .second, .val (.int i3), .val (.int i4), .val (.int i5), .val (.int i6), .val (.int ux), .val (.int uy), .val (.int bx), .val (.int by'), .val (.int m1u), .val (.int m2u), .val (.int m1b), .val (.int m2b), .val (.long i2), .second, .val (.int oth), .val (.ref b195), .val (.ref b223), .val (.int (0 : Int32))] at_256 rfl ?_
              refine g_aload C at_258 rfl rfl ?_
              refine g_aload C at_260 rfl rfl ?_
              have K266 : Keep h206 h223 [] := (Keep.refl h206 []).ext E223
              have K267 : Keep h206 h227 [] := K266.trans KC227 all0
              have K268 : Keep h206 h229 [] := K267.trans KC229 all0
              have K269 : Keep h206 h236 [] := K268.trans KC236 (allS (Or.inr (Nat.le_of_eq g223.symm)) all0)
              have E270 := (X206.keep K269)
              have F271 := (G1206.keep K269 nin0)
              have F272 := (G2206.keep K269 nin0)
              have F273 := (G3206.keep K269 nin0)
              have K274 : Keep h197 h199 [] := (Keep.refl h197 []).trans KC199 all0
              have E275 := (A195.keep K200)
              have E276 := ((S197.1.keep KC199).keep KC206)
              have S277 := ((S197.keep KC199 nin0 nin0).keep KC206 (ninS (Ne.symm (Nat.ne_of_lt (Nat.lt_of_lt_of_le A195.lt le197))) nin0) (ninS (Ne.symm (own_ne_arv E275 (C.hw w_1) S197.2.2.2.1)) nin0))
              have S278 := ((((((S197.keep KC199 nin0 nin0).keep KC206 (ninS (Ne.symm (Nat.ne_of_lt (Nat.lt_of_lt_of_le A195.lt le197))) nin0) (ninS (Ne.symm (own_ne_arv E275 (C.hw w_1) S197.2.2.2.1)) nin0)).ext E223).keep KC227 nin0 nin0).keep KC229 nin0 nin0).keep KC236 (ninS (Nat.ne_of_lt (Nat.lt_of_lt_of_le E276.lt (Nat.le_of_eq g223.symm))) nin0) (ninS (Nat.ne_of_lt (Nat.lt_of_lt_of_le S277.tlt (Nat.le_of_eq g223.symm))) nin0))
              have E279 := (S199.1.keep KC206)
              have S280 := (S199.keep KC206 (ninS (Ne.symm (Nat.ne_of_lt (Nat.lt_of_lt_of_le E275.lt le199))) nin0) (ninS (Ne.symm (own_ne_arv E205 (C.hw w_1) S199.2.2.2.1)) nin0))
              have S281 := (((((S199.keep KC206 (ninS (Ne.symm (Nat.ne_of_lt (Nat.lt_of_lt_of_le E275.lt le199))) nin0) (ninS (Ne.symm (own_ne_arv E205 (C.hw w_1) S199.2.2.2.1)) nin0)).ext E223).keep KC227 nin0 nin0).keep KC229 nin0 nin0).keep KC236 (ninS (Nat.ne_of_lt (Nat.lt_of_lt_of_le E279.lt (Nat.le_of_eq g223.symm))) nin0) (ninS (Nat.ne_of_lt (Nat.lt_of_lt_of_le S280.tlt (Nat.le_of_eq g223.symm))) nin0))
              have K282 : Keep h227 h229 [] := (Keep.refl h227 []).trans KC229 all0
              have E283 := (A223.keep K230)
              have S284 := ((S227.keep KC229 nin0 nin0).keep KC236 (ninS (Ne.symm (Nat.ne_of_lt (Nat.lt_of_lt_of_le A223.lt le227))) nin0) (ninS (Ne.symm (own_ne_arv E283 (C.hw w_1) S227.2.2.2.1)) nin0))
              have S285 := (S229.keep KC236 (ninS (Ne.symm (Nat.ne_of_lt (Nat.lt_of_lt_of_le E283.lt le229))) nin0) (ninS (Ne.symm (own_ne_arv E235 (C.hw w_1) S229.2.2.2.1)) nin0))
              have K286 : Keep h0 h229 [] := K228.trans KC229 all0
              have K287 : Keep h0 h236 [] := K286.trans KC236 (allS (Or.inr (Nat.le_trans K225.1 (Nat.le_of_eq g223.symm))) all0)
              refine g_virtual C E270 w_42 w_43 (fun hZ => nf_sel hw w_45 hZ) w_45 w_44 (by decide) [(.ref b223)] (ct_of hEL hw w_46 w_2 (rm_ue l Z a0 hw hEL b195 b223 a197 a227 a199 a229 t197 t227 t199 t229 _ _ _ _ (mkcs m1u ux uy) (mkcs m2u ux uy) (mkcs m1b bx by') (mkcs m2b bx by') i1 i2 zc h236 n0 E270 X236 F271 F272 F273 S278 S281 G1236 G2236 G3236 S284 S285 (Sta_keep Szc K287) hzc)) all0 (by decide) 0 (by decide) rfl pd__Ljava_lang_Object__Z rfl [] rfl (Nat.le_of_eq rfl) at_262 (by decide) (by decide) ?_
              intro v288 h288 Q288
              obtain ⟨rfl, e288⟩ := Q288
              replace e288 := e288.symm
              subst e288
              refine g_iload C at_265 rfl ?_
              refine g_icmp_f C at_267 (XT.ii_ne_f (if_neg (fun q => hc241 q.2.2))) ?_
              refine g_aload C at_270 rfl rfl ?_
              refine g_aload C at_272 rfl rfl ?_
              refine g_virtual C X236 w_42 w_43 (fun hZ => nf_sel hw w_45 hZ) w_45 w_44 (by decide) [(.ref b195)] (ct_of hEL hw w_46 w_2 (rm_ue l Z a0 hw hEL b223 b195 a227 a197 a229 a199 t227 t197 t229 t199 _ _ _ _ (mkcs m2u ux uy) (mkcs m1u ux uy) (mkcs m2b bx by') (mkcs m1b bx by') i2 i1 zc h236 n0 X236 E270 G1236 G2236 G3236 S284 S285 F271 F272 F273 S278 S281 (Sta_keep Szc K287) hzc)) all0 (by decide) 0 (by decide) rfl pd__Ljava_lang_Object__Z rfl [] rfl (Nat.le_of_eq rfl) at_274 (by decide) (by decide) ?_
              intro v289 h289 Q289
              obtain ⟨rfl, e289⟩ := Q289
              replace e289 := e289.symm
              subst e289
              refine g_iload C at_277 rfl ?_
              refine g_icmp_f C at_279 (XT.ii_ne_f (if_neg (fun q => hc241 (Eq.symm q.2.2)))) ?_
              refine g_iconst C 1 at_282 rfl ?_
              refine g_goto C 287 at_283 (by decide) (by decide) ?_
              refine g_ireturnN C hEL (t := .boolean) rfl (by simp) at_287 (by decide) (by decide) ?_
              exact rfl
          · refine g_if_t C 255 at_241 (XT.i0_eq_t (if_neg hc240)) (by decide) (by decide) ?_
            refine g_iconst C 0 at_255 rfl ?_
            refine g_istore C #[.val (.long i1), .second, .val (.long i2), .second, .val (.int i3), .val (.int i4), .val (.int i5), .val (.int i6), .val (.int ux), .val (.int uy), .val (.int bx), .val (.int by'), .val (.int m1u), .val (.int m2u), .val (.int m1b), .val (.int m2b), .val (.long i2), .second, .val (.int oth), .val (.ref b195), .val (.ref b223), .val (.int (0 : Int32))] at_256 rfl ?_
            refine g_aload C at_258 rfl rfl ?_
            refine g_aload C at_260 rfl rfl ?_
            have K290 : Keep h206 h223 [] := (Keep.refl h206 []).ext E223
            have K291 : Keep h206 h227 [] := K290.trans KC227 all0
            have K292 : Keep h206 h229 [] := K291.trans KC229 all0
            have K293 : Keep h206 h236 [] := K292.trans KC236 (allS (Or.inr (Nat.le_of_eq g223.symm)) all0)
            have E294 := (X206.keep K293)
            have F295 := (G1206.keep K293 nin0)
            have F296 := (G2206.keep K293 nin0)
            have F297 := (G3206.keep K293 nin0)
            have K298 : Keep h197 h199 [] := (Keep.refl h197 []).trans KC199 all0
            have E299 := (A195.keep K200)
            have E300 := ((S197.1.keep KC199).keep KC206)
            have S301 := ((S197.keep KC199 nin0 nin0).keep KC206 (ninS (Ne.symm (Nat.ne_of_lt (Nat.lt_of_lt_of_le A195.lt le197))) nin0) (ninS (Ne.symm (own_ne_arv E299 (C.hw w_1) S197.2.2.2.1)) nin0))
            have S302 := ((((((S197.keep KC199 nin0 nin0).keep KC206 (ninS (Ne.symm (Nat.ne_of_lt (Nat.lt_of_lt_of_le A195.lt le197))) nin0) (ninS (Ne.symm (own_ne_arv E299 (C.hw w_1) S197.2.2.2.1)) nin0)).ext E223).keep KC227 nin0 nin0).keep KC229 nin0 nin0).keep KC236 (ninS (Nat.ne_of_lt (Nat.lt_of_lt_of_le E300.lt (Nat.le_of_eq g223.symm))) nin0) (ninS (Nat.ne_of_lt (Nat.lt_of_lt_of_le S301.tlt (Nat.le_of_eq g223.symm))) nin0))
            have E303 := (S199.1.keep KC206)
            have S304 := (S199.keep KC206 (ninS (Ne.symm (Nat.ne_of_lt (Nat.lt_of_lt_of_le E299.lt le199))) nin0) (ninS (Ne.symm (own_ne_arv E205 (C.hw w_1) S199.2.2.2.1)) nin0))
            have S305 := (((((S199.keep KC206 (ninS (Ne.symm (Nat.ne_of_lt (Nat.lt_of_lt_of_le E299.lt le199))) nin0) (ninS (Ne.symm (own_ne_arv E205 (C.hw w_1) S199.2.2.2.1)) nin0)).ext E223).keep KC227 nin0 nin0).keep KC229 nin0 nin0).keep KC236 (ninS (Nat.ne_of_lt (Nat.lt_of_lt_of_le E303.lt (Nat.le_of_eq g223.symm))) nin0) (ninS (Nat.ne_of_lt (Nat.lt_of_lt_of_le S304.tlt (Nat.le_of_eq g223.symm))) nin0))
            have K306 : Keep h227 h229 [] := (Keep.refl h227 []).trans KC229 all0
            have E307 := (A223.keep K230)
            have S308 := ((S227.keep KC229 nin0 nin0).keep KC236 (ninS (Ne.symm (Nat.ne_of_lt (Nat.lt_of_lt_of_le A223.lt le227))) nin0) (ninS (Ne.symm (own_ne_arv E307 (C.hw w_1) S227.2.2.2.1)) nin0))
            have S309 := (S229.keep KC236 (ninS (Ne.symm (Nat.ne_of_lt (Nat.lt_of_lt_of_le E307.lt le229))) nin0) (ninS (Ne.symm (own_ne_arv E235 (C.hw w_1) S229.2.2.2.1)) nin0))
            have K310 : Keep h0 h229 [] := K228.trans KC229 all0
            have K311 : Keep h0 h236 [] := K310.trans KC236 (allS (Or.inr (Nat.le_trans K225.1 (Nat.le_of_eq g223.symm))) all0)
            refine g_virtual C E294 w_42 w_43 (fun hZ => nf_sel hw w_45 hZ) w_45 w_44 (by decide) [(.ref b223)] (ct_of hEL hw w_46 w_2 (rm_ue l Z a0 hw hEL b195 b223 a197 a227 a199 a229 t197 t227 t199 t229 _ _ _ _ (mkcs m1u ux uy) (mkcs m2u ux uy) (mkcs m1b bx by') (mkcs m2b bx by') i1 i2 zc h236 n0 E294 X236 F295 F296 F297 S302 S305 G1236 G2236 G3236 S308 S309 (Sta_keep Szc K311) hzc)) all0 (by decide) 0 (by decide) rfl pd__Ljava_lang_Object__Z rfl [] rfl (Nat.le_of_eq rfl) at_262 (by decide) (by decide) ?_
            intro v312 h312 Q312
            obtain ⟨rfl, e312⟩ := Q312
            replace e312 := e312.symm
            subst e312
            refine g_iload C at_265 rfl ?_
            refine g_icmp_f C at_267 (XT.ii_ne_f (if_neg (fun q => hc240 ((own_same h_m1b h_m2b).mpr q.2.1)))) ?_
            refine g_aload C at_270 rfl rfl ?_
            refine g_aload C at_272 rfl rfl ?_
            refine g_virtual C X236 w_42 w_43 (fun hZ => nf_sel hw w_45 hZ) w_45 w_44 (by decide) [(.ref b195)] (ct_of hEL hw w_46 w_2 (rm_ue l Z a0 hw hEL b223 b195 a227 a197 a229 a199 t227 t197 t229 t199 _ _ _ _ (mkcs m2u ux uy) (mkcs m1u ux uy) (mkcs m2b bx by') (mkcs m1b bx by') i2 i1 zc h236 n0 X236 E294 G1236 G2236 G3236 S308 S309 F295 F296 F297 S302 S305 (Sta_keep Szc K311) hzc)) all0 (by decide) 0 (by decide) rfl pd__Ljava_lang_Object__Z rfl [] rfl (Nat.le_of_eq rfl) at_274 (by decide) (by decide) ?_
            intro v313 h313 Q313
            obtain ⟨rfl, e313⟩ := Q313
            replace e313 := e313.symm
            subst e313
            refine g_iload C at_277 rfl ?_
            refine g_icmp_f C at_279 (XT.ii_ne_f (if_neg (fun q => hc240 ((own_same h_m1b h_m2b).mpr (Eq.symm q.2.1))))) ?_
            refine g_iconst C 1 at_282 rfl ?_
            refine g_goto C 287 at_283 (by decide) (by decide) ?_
            refine g_ireturnN C hEL (t := .boolean) rfl (by simp) at_287 (by decide) (by decide) ?_
            exact rfl
        · refine g_if_t C 255 at_227 (XT.i0_eq_t (if_neg hc238)) (by decide) (by decide) ?_
          refine g_iconst C 0 at_255 rfl ?_
          refine g_istore C #[.val (.long i1), .second, .val (.long i2), .second, .val (.int i3), .val (.int i4), .val (.int i5), .val (.int i6), .val (.int ux), .val (.int uy), .val (.int bx), .val (.int by'), .val (.int m1u), .val (.int m2u), .val (.int m1b), .val (.int m2b), .val (.long i2), .second, .val (.int oth), .val (.ref b195), .val (.ref b223), .val (.int (0 : Int32))] at_256 rfl ?_
          refine g_aload C at_258 rfl rfl ?_
          refine g_aload C at_260 rfl rfl ?_
          have K314 : Keep h206 h223 [] := (Keep.refl h206 []).ext E223
          have K315 : Keep h206 h227 [] := K314.trans KC227 all0
          have K316 : Keep h206 h229 [] := K315.trans KC229 all0
          have K317 : Keep h206 h236 [] := K316.trans KC236 (allS (Or.inr (Nat.le_of_eq g223.symm)) all0)
          have E318 := (X206.keep K317)
          have F319 := (G1206.keep K317 nin0)
          have F320 := (G2206.keep K317 nin0)
          have F321 := (G3206.keep K317 nin0)
          have K322 : Keep h197 h199 [] := (Keep.refl h197 []).trans KC199 all0
          have E323 := (A195.keep K200)
          have E324 := ((S197.1.keep KC199).keep KC206)
          have S325 := ((S197.keep KC199 nin0 nin0).keep KC206 (ninS (Ne.symm (Nat.ne_of_lt (Nat.lt_of_lt_of_le A195.lt le197))) nin0) (ninS (Ne.symm (own_ne_arv E323 (C.hw w_1) S197.2.2.2.1)) nin0))
          have S326 := ((((((S197.keep KC199 nin0 nin0).keep KC206 (ninS (Ne.symm (Nat.ne_of_lt (Nat.lt_of_lt_of_le A195.lt le197))) nin0) (ninS (Ne.symm (own_ne_arv E323 (C.hw w_1) S197.2.2.2.1)) nin0)).ext E223).keep KC227 nin0 nin0).keep KC229 nin0 nin0).keep KC236 (ninS (Nat.ne_of_lt (Nat.lt_of_lt_of_le E324.lt (Nat.le_of_eq g223.symm))) nin0) (ninS (Nat.ne_of_lt (Nat.lt_of_lt_of_le S325.tlt (Nat.le_of_eq g223.symm))) nin0))
          have E327 := (S199.1.keep KC206)
          have S328 := (S199.keep KC206 (ninS (Ne.symm (Nat.ne_of_lt (Nat.lt_of_lt_of_le E323.lt le199))) nin0) (ninS (Ne.symm (own_ne_arv E205 (C.hw w_1) S199.2.2.2.1)) nin0))
          have S329 := (((((S199.keep KC206 (ninS (Ne.symm (Nat.ne_of_lt (Nat.lt_of_lt_of_le E323.lt le199))) nin0) (ninS (Ne.symm (own_ne_arv E205 (C.hw w_1) S199.2.2.2.1)) nin0)).ext E223).keep KC227 nin0 nin0).keep KC229 nin0 nin0).keep KC236 (ninS (Nat.ne_of_lt (Nat.lt_of_lt_of_le E327.lt (Nat.le_of_eq g223.symm))) nin0) (ninS (Nat.ne_of_lt (Nat.lt_of_lt_of_le S328.tlt (Nat.le_of_eq g223.symm))) nin0))
          have K330 : Keep h227 h229 [] := (Keep.refl h227 []).trans KC229 all0
          have E331 := (A223.keep K230)
          have S332 := ((S227.keep KC229 nin0 nin0).keep KC236 (ninS (Ne.symm (Nat.ne_of_lt (Nat.lt_of_lt_of_le A223.lt le227))) nin0) (ninS (Ne.symm (own_ne_arv E331 (C.hw w_1) S227.2.2.2.1)) nin0))
          have S333 := (S229.keep KC236 (ninS (Ne.symm (Nat.ne_of_lt (Nat.lt_of_lt_of_le E331.lt le229))) nin0) (ninS (Ne.symm (own_ne_arv E235 (C.hw w_1) S229.2.2.2.1)) nin0))
          have K334 : Keep h0 h229 [] := K228.trans KC229 all0
          have K335 : Keep h0 h236 [] := K334.trans KC236 (allS (Or.inr (Nat.le_trans K225.1 (Nat.le_of_eq g223.symm))) all0)
          refine g_virtual C E318 w_42 w_43 (fun hZ => nf_sel hw w_45 hZ) w_45 w_44 (by decide) [(.ref b223)] (ct_of hEL hw w_46 w_2 (rm_ue l Z a0 hw hEL b195 b223 a197 a227 a199 a229 t197 t227 t199 t229 _ _ _ _ (mkcs m1u ux uy) (mkcs m2u ux uy) (mkcs m1b bx by') (mkcs m2b bx by') i1 i2 zc h236 n0 E318 X236 F319 F320 F321 S326 S329 G1236 G2236 G3236 S332 S333 (Sta_keep Szc K335) hzc)) all0 (by decide) 0 (by decide) rfl pd__Ljava_lang_Object__Z rfl [] rfl (Nat.le_of_eq rfl) at_262 (by decide) (by decide) ?_
          intro v336 h336 Q336
          obtain ⟨rfl, e336⟩ := Q336
          replace e336 := e336.symm
          subst e336
          refine g_iload C at_265 rfl ?_
          refine g_icmp_f C at_267 (XT.ii_ne_f (if_neg (fun q => hc238 ((own_same h_m1u h_m2u).mpr q.1)))) ?_
          refine g_aload C at_270 rfl rfl ?_
          refine g_aload C at_272 rfl rfl ?_
          refine g_virtual C X236 w_42 w_43 (fun hZ => nf_sel hw w_45 hZ) w_45 w_44 (by decide) [(.ref b195)] (ct_of hEL hw w_46 w_2 (rm_ue l Z a0 hw hEL b223 b195 a227 a197 a229 a199 t227 t197 t229 t199 _ _ _ _ (mkcs m2u ux uy) (mkcs m1u ux uy) (mkcs m2b bx by') (mkcs m1b bx by') i2 i1 zc h236 n0 X236 E318 G1236 G2236 G3236 S332 S333 F319 F320 F321 S326 S329 (Sta_keep Szc K335) hzc)) all0 (by decide) 0 (by decide) rfl pd__Ljava_lang_Object__Z rfl [] rfl (Nat.le_of_eq rfl) at_274 (by decide) (by decide) ?_
          intro v337 h337 Q337
          obtain ⟨rfl, e337⟩ := Q337
          replace e337 := e337.symm
          subst e337
          refine g_iload C at_277 rfl ?_
          refine g_icmp_f C at_279 (XT.ii_ne_f (if_neg (fun q => hc238 ((own_same h_m1u h_m2u).mpr (Eq.symm q.1))))) ?_
          refine g_iconst C 1 at_282 rfl ?_
          refine g_goto C 287 at_283 (by decide) (by decide) ?_
          refine g_ireturnN C hEL (t := .boolean) rfl (by simp) at_287 (by decide) (by decide) ?_
          exact rfl
  · refine g_if_f C at_77 (XT.i0_eq_f hc194) ?_
    refine g_lloadN C at_80 rfl ?_
    refine g_goto C 85 at_81 (by decide) (by decide) ?_
    refine g_lstore C #[.val (.long i1), .second, .val (.long i2), .second, .val (.int i3), .val (.int i4), .val (.int i5), .val (.int i6), .val (.int ux), .val (.int uy), .val (.int bx), .val (.int by'), .val (.int m1u), .val (.int m2u), .val (.int m1b), .val (.int m2b), .val (.long i1), .second, .unset, .unset, .unset, .unset] at_85 rfl ?_
    refine g_iload C at_87 rfl ?_
    refine g_iconst C 1 at_89 rfl ?_
    refine g_iushr C at_90 ?_
    refine g_iconst C 3 at_91 rfl ?_
    refine g_iand C at_92 ?_
    refine g_istore C #[.val (.long i1), .second, .val (.long i2), .second, .val (.int i3), .val (.int i4), .val (.int i5), .val (.int i6), .val (.int ux), .val (.int uy), .val (.int bx), .val (.int by'), .val (.int m1u), .val (.int m2u), .val (.int m1b), .val (.int m2b), .val (.long i1), .second, .val (.int (((i6.toUInt32 >>> ((1 : Int32) &&& 31).toUInt32).toInt32) &&& (3 : Int32))), .unset, .unset, .unset] at_93 rfl ?_
    obtain ⟨oth, e_oth, h_oth⟩ : ∃ z : Int32, (((i6.toUInt32 >>> ((1 : Int32) &&& 31).toUInt32).toInt32) &&& (3 : Int32)) = z ∧ (z = 0 ∨ z = 1 ∨ z = 2 ∨ z = 3) := ⟨_, rfl, own_and3 _⟩
    rw [e_oth]
    refine g_new C w_0 w_1 w_2 at_95 (by decide) (by decide) ?_
    intro b338 h338 g338 E338 A338 D338
    refine g_dup C at_98 rfl ?_
    refine g_iload C at_99 rfl ?_
    refine g_iload C at_101 rfl ?_
    refine g_iload C at_103 rfl ?_
    have K339 : Keep h0 h338 [] := (Keep.refl h0 []).ext E338
    refine g_static C w_3 w_4 w_5 w_6 (by decide) [(.int m1u), (.int ux), (.int uy)] (ct_of hEL hw w_6 w_5 (rm_mk l Z a0 hw hEL m1u ux uy zc h338 n0 h_ux h_uy (Sta_keep Szc K339) hzc)) all0 (by decide) 2 (by decide) rfl pd__ICC_Ljava_lang_String_ rfl [(.ref b338), (.ref b338)] rfl (Nat.le_of_eq rfl) at_105 (by decide) (by decide) ?_
    intro v340 h340 Q340
    obtain ⟨a340, t340, kb340, rfl, KC340, le340, S340⟩ := Q340
    refine g_iload C at_108 rfl ?_
    refine g_iload C at_110 rfl ?_
    refine g_iload C at_112 rfl ?_
    have K341 : Keep h0 h340 [] := K339.trans KC340 all0
    refine g_static C w_3 w_4 w_5 w_6 (by decide) [(.int m1b), (.int bx), (.int by')] (ct_of hEL hw w_6 w_5 (rm_mk l Z a0 hw hEL m1b bx by' zc h340 n0 h_bx h_by' (Sta_keep Szc K341) hzc)) all0 (by decide) 3 (by decide) rfl pd__ICC_Ljava_lang_String_ rfl [(.ref a340), (.ref b338), (.ref b338)] rfl (Nat.le_of_eq rfl) at_114 (by decide) (by decide) ?_
    intro v342 h342 Q342
    obtain ⟨a342, t342, kb342, rfl, KC342, le342, S342⟩ := Q342
    refine g_lloadN C at_117 rfl ?_
    have K343 : Keep h338 h340 [] := (Keep.refl h338 []).trans KC340 all0
    have K344 : Keep h338 h342 [] := K343.trans KC342 all0
    have F345 := ((D338 (Or.inr (C.hw w_34)) (ty := (.object "java/lang/String")) (by decide)).keep K344 nin0)
    have F346 := ((D338 (Or.inr (C.hw w_36)) (ty := (.object "java/lang/String")) (by decide)).keep K344 nin0)
    have F347 := ((D338 (Or.inr (C.hw w_38)) (ty := .long) (by decide)).keep K344 nin0)
    have E348 := (A338.keep K344)
    refine g_special C (a := b338) w_29 w_30 w_31 rfl (by decide) [(.ref a340), (.ref a342), (.long i1)] (ct_of hEL hw w_31 w_2 (rm_ui l Z a0 hw hEL b338 a340 a342 i1 h342 n0 E348 F345 F346 F347)) (allS (List.mem_of_getElem? (i := 0) rfl) all0) (by decide) 1 (by decide) rfl pd__Ljava_lang_String_Ljava_lang_String_J_V rfl [(.ref b338)] rfl (Nat.le_of_eq rfl) at_118 (by decide) (by decide) ?_
    intro v349 h349 Q349
    obtain ⟨rfl, KC349, X349, G1349, G2349, G3349⟩ := Q349
    refine g_astore C #[.val (.long i1), .second, .val (.long i2), .second, .val (.int i3), .val (.int i4), .val (.int i5), .val (.int i6), .val (.int ux), .val (.int uy), .val (.int bx), .val (.int by'), .val (.int m1u), .val (.int m2u), .val (.int m1b), .val (.int m2b), .val (.long i1), .second, .val (.int oth), .val (.ref b338), .unset, .unset] at_121 rfl rfl ?_
    refine g_iload C at_123 rfl ?_
    refine g_iconst C 2 at_125 rfl ?_
    by_cases hc350 : oth = (2 : Int32)
    · refine g_icmp_f C at_126 (XT.ii_ne_f hc350) ?_
      refine g_aload C at_129 rfl rfl ?_
      refine g_aconst_null C at_131 ?_
      refine g_virtual C X349 w_42 w_43 (fun hZ => nf_sel hw w_45 hZ) w_45 w_44 (by decide) [.null] (ct_of hEL hw w_46 w_2 (rm_ueN l Z a0 hw hEL b338 h349 n0 )) all0 (by decide) 0 (by decide) rfl pd__Ljava_lang_Object__Z rfl [] rfl (Nat.le_of_eq rfl) at_132 (by decide) (by decide) ?_
      intro v351 h351 Q351
      obtain ⟨rfl, e351⟩ := Q351
      replace e351 := e351.symm
      subst e351
      refine g_if_f C at_135 (XT.i0_ne_f (by decide)) ?_
      refine g_aload C at_138 rfl rfl ?_
      refine g_aload C at_140 rfl rfl ?_
      have K352 : Keep h340 h342 [] := (Keep.refl h340 []).trans KC342 all0
      have E353 := (A338.keep K343)
      have S354 := ((S340.keep KC342 nin0 nin0).keep KC349 (ninS (Ne.symm (Nat.ne_of_lt (Nat.lt_of_lt_of_le A338.lt le340))) nin0) (ninS (Ne.symm (own_ne_arv E353 (C.hw w_1) S340.2.2.2.1)) nin0))
      have S355 := (S342.keep KC349 (ninS (Ne.symm (Nat.ne_of_lt (Nat.lt_of_lt_of_le E353.lt le342))) nin0) (ninS (Ne.symm (own_ne_arv E348 (C.hw w_1) S342.2.2.2.1)) nin0))
      have K356 : Keep h0 h342 [] := K341.trans KC342 all0
      have K357 : Keep h0 h349 [] := K356.trans KC349 (allS (Or.inr (Nat.le_of_eq g338.symm)) all0)
      refine g_virtual C X349 w_42 w_43 (fun hZ => nf_sel hw w_45 hZ) w_45 w_44 (by decide) [(.ref b338)] (ct_of hEL hw w_46 w_2 (rm_ue l Z a0 hw hEL b338 b338 a340 a340 a342 a342 t340 t340 t342 t342 _ _ _ _ (mkcs m1u ux uy) (mkcs m1u ux uy) (mkcs m1b bx by') (mkcs m1b bx by') i1 i1 zc h349 n0 X349 X349 G1349 G2349 G3349 S354 S355 G1349 G2349 G3349 S354 S355 (Sta_keep Szc K357) hzc)) all0 (by decide) 0 (by decide) rfl pd__Ljava_lang_Object__Z rfl [] rfl (Nat.le_of_eq rfl) at_142 (by decide) (by decide) ?_
      intro v358 h358 Q358
      obtain ⟨ev358, e358⟩ := Q358
      replace e358 := e358.symm
      subst e358
      have ew358 : v358 = some (.int (1 : Int32)) := ev358.trans (by rw [if_pos ⟨rfl, rfl, rfl⟩])
      subst ew358
      refine g_if_f C at_145 (XT.i0_eq_f (by decide)) ?_
      refine g_iconst C 1 at_148 rfl ?_
      refine g_goto C 153 at_149 (by decide) (by decide) ?_
      refine g_ireturnN C hEL (t := .boolean) rfl (by simp) at_153 (by decide) (by decide) ?_
      exact rfl
    · refine g_icmp_t C 154 at_126 (XT.ii_ne_t hc350) (by decide) (by decide) ?_
      refine g_iload C at_154 rfl ?_
      refine g_iconst C 3 at_156 rfl ?_
      by_cases hc359 : oth = (3 : Int32)
      · refine g_icmp_f C at_157 (XT.ii_ne_f hc359) ?_
        refine g_iload C at_160 rfl ?_
        refine g_iload C at_162 rfl ?_
        refine g_iload C at_164 rfl ?_
        have K360 : Keep h0 h342 [] := K341.trans KC342 all0
        have K361 : Keep h0 h349 [] := K360.trans KC349 (allS (Or.inr (Nat.le_of_eq g338.symm)) all0)
        refine g_static C w_3 w_4 w_5 w_6 (by decide) [(.int m1u), (.int ux), (.int uy)] (ct_of hEL hw w_6 w_5 (rm_mk l Z a0 hw hEL m1u ux uy zc h349 n0 h_ux h_uy (Sta_keep Szc K361) hzc)) all0 (by decide) 0 (by decide) rfl pd__ICC_Ljava_lang_String_ rfl [] rfl (Nat.le_of_eq rfl) at_166 (by decide) (by decide) ?_
        intro v362 h362 Q362
        obtain ⟨a362, t362, kb362, rfl, KC362, le362, S362⟩ := Q362
        refine g_astore C #[.val (.long i1), .second, .val (.long i2), .second, .val (.int i3), .val (.int i4), .val (.int i5), .val (.int i6), .val (.int ux), .val (.int uy), .val (.int bx), .val (.int by'), .val (.int m1u), .val (.int m2u), .val (.int m1b), .val (.int m2b), .val (.long i1), .second, .val (.int oth), .val (.ref b338), .val (.ref a362), .unset] at_169 rfl rfl ?_
        refine g_aload C at_171 rfl rfl ?_
        refine g_aload C at_173 rfl rfl ?_
        have K364 : Keep h349 h362 [] := (Keep.refl h349 []).trans KC362 all0
        have E365 := (X349.keep K364)
        refine g_virtual C E365 w_42 w_43 (fun hZ => nf_sel hw w_45 hZ) w_45 w_44 (by decide) [(.ref a362)] (ct_of hEL hw w_46 w_2 (rm_ueS l Z a0 hw hEL b338 a362 h362 n0 S362.1)) all0 (by decide) 0 (by decide) rfl pd__Ljava_lang_Object__Z rfl [] rfl (Nat.le_of_eq rfl) at_175 (by decide) (by decide) ?_
        intro v363 h363 Q363
        obtain ⟨rfl, e363⟩ := Q363
        replace e363 := e363.symm
        subst e363
        refine g_if_f C at_178 (XT.i0_ne_f (by decide)) ?_
        refine g_iconst C 1 at_181 rfl ?_
        refine g_goto C 186 at_182 (by decide) (by decide) ?_
        refine g_ireturnN C hEL (t := .boolean) rfl (by simp) at_186 (by decide) (by decide) ?_
        exact rfl
      · refine g_icmp_t C 187 at_157 (XT.ii_ne_t hc359) (by decide) (by decide) ?_
        refine g_new C w_0 w_1 w_2 at_187 (by decide) (by decide) ?_
        intro b366 h366 g366 E366 A366 D366
        refine g_dup C at_190 rfl ?_
        refine g_iload C at_191 rfl ?_
        refine g_iload C at_193 rfl ?_
        refine g_iload C at_195 rfl ?_
        have K367 : Keep h0 h342 [] := K341.trans KC342 all0
        have K368 : Keep h0 h349 [] := K367.trans KC349 (allS (Or.inr (Nat.le_of_eq g338.symm)) all0)
        have K369 : Keep h0 h366 [] := K368.ext E366
        refine g_static C w_3 w_4 w_5 w_6 (by decide) [(.int m2u), (.int ux), (.int uy)] (ct_of hEL hw w_6 w_5 (rm_mk l Z a0 hw hEL m2u ux uy zc h366 n0 h_ux h_uy (Sta_keep Szc K369) hzc)) all0 (by decide) 2 (by decide) rfl pd__ICC_Ljava_lang_String_ rfl [(.ref b366), (.ref b366)] rfl (Nat.le_of_eq rfl) at_197 (by decide) (by decide) ?_
        intro v370 h370 Q370
        obtain ⟨a370, t370, kb370, rfl, KC370, le370, S370⟩ := Q370
        refine g_iload C at_200 rfl ?_
        refine g_iload C at_202 rfl ?_
        refine g_iload C at_204 rfl ?_
        have K371 : Keep h0 h370 [] := K369.trans KC370 all0
        refine g_static C w_3 w_4 w_5 w_6 (by decide) [(.int m2b), (.int bx), (.int by')] (ct_of hEL hw w_6 w_5 (rm_mk l Z a0 hw hEL m2b bx by' zc h370 n0 h_bx h_by' (Sta_keep Szc K371) hzc)) all0 (by decide) 3 (by decide) rfl pd__ICC_Ljava_lang_String_ rfl [(.ref a370), (.ref b366), (.ref b366)] rfl (Nat.le_of_eq rfl) at_206 (by decide) (by decide) ?_
        intro v372 h372 Q372
        obtain ⟨a372, t372, kb372, rfl, KC372, le372, S372⟩ := Q372
        refine g_lload C at_209 rfl ?_
        have K373 : Keep h366 h370 [] := (Keep.refl h366 []).trans KC370 all0
        have K374 : Keep h366 h372 [] := K373.trans KC372 all0
        have F375 := ((D366 (Or.inr (C.hw w_34)) (ty := (.object "java/lang/String")) (by decide)).keep K374 nin0)
        have F376 := ((D366 (Or.inr (C.hw w_36)) (ty := (.object "java/lang/String")) (by decide)).keep K374 nin0)
        have F377 := ((D366 (Or.inr (C.hw w_38)) (ty := .long) (by decide)).keep K374 nin0)
        have E378 := (A366.keep K374)
        refine g_special C (a := b366) w_29 w_30 w_31 rfl (by decide) [(.ref a370), (.ref a372), (.long i1)] (ct_of hEL hw w_31 w_2 (rm_ui l Z a0 hw hEL b366 a370 a372 i1 h372 n0 E378 F375 F376 F377)) (allS (List.mem_of_getElem? (i := 0) rfl) all0) (by decide) 1 (by decide) rfl pd__Ljava_lang_String_Ljava_lang_String_J_V rfl [(.ref b366)] rfl (Nat.le_of_eq rfl) at_211 (by decide) (by decide) ?_
        intro v379 h379 Q379
        obtain ⟨rfl, KC379, X379, G1379, G2379, G3379⟩ := Q379
        refine g_astore C #[.val (.long i1), .second, .val (.long i2), .second, .val (.int i3), .val (.int i4), .val (.int i5), .val (.int i6), .val (.int ux), .val (.int uy), .val (.int bx), .val (.int by'), .val (.int m1u), .val (.int m2u), .val (.int m1b), .val (.int m2b), .val (.long i1), .second, .val (.int oth), .val (.ref b338), .val (.ref b366), .unset] at_214 rfl rfl ?_
        refine g_iload C at_216 rfl ?_
        refine g_iload C at_218 rfl ?_
        refine g_iload C at_220 rfl ?_
        refine g_iload C at_222 rfl ?_
        refine g_static C w_39 w_40 w_5 w_41 (by decide) [(.int m1u), (.int m2u), (.int ux), (.int uy)] (ct_of hEL hw w_41 w_5 (rm_ss l Z a0 hw hEL m1u m2u ux uy h379 n0 )) all0 (by decide) 0 (by decide) rfl pd__IICC_Z rfl [] rfl (Nat.le_of_eq rfl) at_224 (by decide) (by decide) ?_
        intro v380 h380 Q380
        obtain ⟨rfl, e380⟩ := Q380
        replace e380 := e380.symm
        subst e380
        by_cases hc381 : sameP m1u m2u ux uy
        · refine g_if_f C at_227 (XT.i0_eq_f (by rw [if_pos hc381]; decide)) ?_
          refine g_iload C at_230 rfl ?_
          refine g_iload C at_232 rfl ?_
          refine g_iload C at_234 rfl ?_
          refine g_iload C at_236 rfl ?_
          refine g_static C w_39 w_40 w_5 w_41 (by decide) [(.int m1b), (.int m2b), (.int bx), (.int by')] (ct_of hEL hw w_41 w_5 (rm_ss l Z a0 hw hEL m1b m2b bx by' h379 n0 )) all0 (by decide) 0 (by decide) rfl pd__IICC_Z rfl [] rfl (Nat.le_of_eq rfl) at_238 (by decide) (by decide) ?_
          intro v382 h382 Q382
          obtain ⟨rfl, e382⟩ := Q382
          replace e382 := e382.symm
          subst e382
          by_cases hc383 : sameP m1b m2b bx by'
          · refine g_if_f C at_241 (XT.i0_eq_f (by rw [if_pos hc383]; decide)) ?_
            refine g_lloadN C at_244 rfl ?_
            refine g_lload C at_245 rfl ?_
            refine g_lcmp C at_247 ?_
            refine g_if_f C at_248 (XT.i0_ne_f ((own_lceq _ _).mpr rfl)) ?_
            refine g_iconst C 1 at_251 rfl ?_
            refine g_goto C 256 at_252 (by decide) (by decide) ?_
            refine g_istore C #[.val (.long i1), .second, .val (.long i2), .second, .val (.int i3), .val (.int i4), .val (.int i5), .val (.int i6), .val (.int ux), .val (.int uy), .val (.int bx), .val (.int by'), .val (.int m1u), .val (.int m2u), .val (.int m1b), .val (.int m2b), .val (.long i1), .second, .val (.int oth), .val (.ref b338), .val (.ref b366), .val (.int (1 : Int32))] at_256 rfl ?_
            refine g_aload C at_258 rfl rfl ?_
            refine g_aload C at_260 rfl rfl ?_
            have K385 : Keep h349 h366 [] := (Keep.refl h349 []).ext E366
            have K386 : Keep h349 h370 [] := K385.trans KC370 all0
            have K387 : Keep h349 h372 [] := K386.trans KC372 all0
            have K388 : Keep h349 h379 [] := K387.trans KC379 (allS (Or.inr (Nat.le_of_eq g366.symm)) all0)
            have E389 := (X349.keep K388)
            have F390 := (G1349.keep K388 nin0)
            have F391 := (G2349.keep K388 nin0)
            have F392 := (G3349.keep K388 nin0)
            have K393 : Keep h340 h342 [] := (Keep.refl h340 []).trans KC342 all0
            have E394 := (A338.keep K343)
            have E395 := ((S340.1.keep KC342).keep KC349)
            have S396 := ((S340.keep KC342 nin0 nin0).keep KC349 (ninS (Ne.symm (Nat.ne_of_lt (Nat.lt_of_lt_of_le A338.lt le340))) nin0) (ninS (Ne.symm (own_ne_arv E394 (C.hw w_1) S340.2.2.2.1)) nin0))
            have S397 := ((((((S340.keep KC342 nin0 nin0).keep KC349 (ninS (Ne.symm (Nat.ne_of_lt (Nat.lt_of_lt_of_le A338.lt le340))) nin0) (ninS (Ne.symm (own_ne_arv E394 (C.hw w_1) S340.2.2.2.1)) nin0)).ext E366).keep KC370 nin0 nin0).keep KC372 nin0 nin0).keep KC379 (ninS (Nat.ne_of_lt (Nat.lt_of_lt_of_le E395.lt (Nat.le_of_eq g366.symm))) nin0) (ninS (Nat.ne_of_lt (Nat.lt_of_lt_of_le S396.tlt (Nat.le_of_eq g366.symm))) nin0))
            have E398 := (S342.1.keep KC349)
            have S399 := (S342.keep KC349 (ninS (Ne.symm (Nat.ne_of_lt (Nat.lt_of_lt_of_le E394.lt le342))) nin0) (ninS (Ne.symm (own_ne_arv E348 (C.hw w_1) S342.2.2.2.1)) nin0))
            have S400 := (((((S342.keep KC349 (ninS (Ne.symm (Nat.ne_of_lt (Nat.lt_of_lt_of_le E394.lt le342))) nin0) (ninS (Ne.symm (own_ne_arv E348 (C.hw w_1) S342.2.2.2.1)) nin0)).ext E366).keep KC370 nin0 nin0).keep KC372 nin0 nin0).keep KC379 (ninS (Nat.ne_of_lt (Nat.lt_of_lt_of_le E398.lt (Nat.le_of_eq g366.symm))) nin0) (ninS (Nat.ne_of_lt (Nat.lt_of_lt_of_le S399.tlt (Nat.le_of_eq g366.symm))) nin0))
            have K401 : Keep h370 h372 [] := (Keep.refl h370 []).trans KC372 all0
            have E402 := (A366.keep K373)
            have S403 := ((S370.keep KC372 nin0 nin0).keep KC379 (ninS (Ne.symm (Nat.ne_of_lt (Nat.lt_of_lt_of_le A366.lt le370))) nin0) (ninS (Ne.symm (own_ne_arv E402 (C.hw w_1) S370.2.2.2.1)) nin0))
            have S404 := (S372.keep KC379 (ninS (Ne.symm (Nat.ne_of_lt (Nat.lt_of_lt_of_le E402.lt le372))) nin0) (ninS (Ne.symm (own_ne_arv E378 (C.hw w_1) S372.2.2.2.1)) nin0))
            have K405 : Keep h0 h372 [] := K371.trans KC372 all0
            have K406 : Keep h0 h379 [] := K405.trans KC379 (allS (Or.inr (Nat.le_trans K368.1 (Nat.le_of_eq g366.symm))) all0)
            refine g_virtual C E389 w_42 w_43 (fun hZ => nf_sel hw w_45 hZ) w_45 w_44 (by decide) [(.ref b366)] (ct_of hEL hw w_46 w_2 (rm_ue l Z a0 hw hEL b338 b366 a340 a370 a342 a372 t340 t370 t342 t372 _ _ _ _ (mkcs m1u ux uy) (mkcs m2u ux uy) (mkcs m1b bx by') (mkcs m2b bx by') i1 i1 zc h379 n0 E389 X379 F390 F391 F392 S397 S400 G1379 G2379 G3379 S403 S404 (Sta_keep Szc K406) hzc)) all0 (by decide) 0 (by decide) rfl pd__Ljava_lang_Object__Z rfl [] rfl (Nat.le_of_eq rfl) at_262 (by decide) (by decide) ?_
            intro v407 h407 Q407
            obtain ⟨rfl, e407⟩ := Q407
            replace e407 := e407.symm
            subst e407
            refine g_iload C at_265 rfl ?_
            refine g_icmp_f C at_267 (XT.ii_ne_f (if_pos ⟨((own_same h_m1u h_m2u).mp hc381), ((own_same h_m1b h_m2b).mp hc383), rfl⟩)) ?_
            refine g_aload C at_270 rfl rfl ?_
            refine g_aload C at_272 rfl rfl ?_
            refine g_virtual C X379 w_42 w_43 (fun hZ => nf_sel hw w_45 hZ) w_45 w_44 (by decide) [(.ref b338)] (ct_of hEL hw w_46 w_2 (rm_ue l Z a0 hw hEL b366 b338 a370 a340 a372 a342 t370 t340 t372 t342 _ _ _ _ (mkcs m2u ux uy) (mkcs m1u ux uy) (mkcs m2b bx by') (mkcs m1b bx by') i1 i1 zc h379 n0 X379 E389 G1379 G2379 G3379 S403 S404 F390 F391 F392 S397 S400 (Sta_keep Szc K406) hzc)) all0 (by decide) 0 (by decide) rfl pd__Ljava_lang_Object__Z rfl [] rfl (Nat.le_of_eq rfl) at_274 (by decide) (by decide) ?_
            intro v408 h408 Q408
            obtain ⟨rfl, e408⟩ := Q408
            replace e408 := e408.symm
            subst e408
            refine g_iload C at_277 rfl ?_
            refine g_icmp_f C at_279 (XT.ii_ne_f (if_pos ⟨((own_same h_m1u h_m2u).mp hc381).symm, ((own_same h_m1b h_m2b).mp hc383).symm, rfl⟩)) ?_
            refine g_iconst C 1 at_282 rfl ?_
            refine g_goto C 287 at_283 (by decide) (by decide) ?_
            refine g_ireturnN C hEL (t := .boolean) rfl (by simp) at_287 (by decide) (by decide) ?_
            exact rfl
          · refine g_if_t C 255 at_241 (XT.i0_eq_t (if_neg hc383)) (by decide) (by decide) ?_
            refine g_iconst C 0 at_255 rfl ?_
            refine g_istore C #[.val (.long i1), .second, .val (.long i2), .second, .val (.int i3), .val (.int i4), .val (.int i5), .val (.int i6), .val (.int ux), .val (.int uy), .val (.int bx), .val (.int by'), .val (.int m1u), .val (.int m2u), .val (.int m1b), .val (.int m2b), .val (.long i1), .second, .val (.int oth), .val (.ref b338), .val (.ref b366), .val (.int (0 : Int32))] at_256 rfl ?_
            refine g_aload C at_258 rfl rfl ?_
            refine g_aload C at_260 rfl rfl ?_
            have K409 : Keep h349 h366 [] := (Keep.refl h349 []).ext E366
            have K410 : Keep h349 h370 [] := K409.trans KC370 all0
            have K411 : Keep h349 h372 [] := K410.trans KC372 all0
            have K412 : Keep h349 h379 [] := K411.trans KC379 (allS (Or.inr (Nat.le_of_eq g366.symm)) all0)
            have E413 := (X349.keep K412)
            have F414 := (G1349.keep K412 nin0)
            have F415 := (G2349.keep K412 nin0)
            have F416 := (G3349.keep K412 nin0)
            have K417 : Keep h340 h342 [] := (Keep.refl h340 []).trans KC342 all0
            have E418 := (A338.keep K343)
            have E419 := ((S340.1.keep KC342).keep KC349)
            have S420 := ((S340.keep KC342 nin0 nin0).keep KC349 (ninS (Ne.symm (Nat.ne_of_lt (Nat.lt_of_lt_of_le A338.lt le340))) nin0) (ninS (Ne.symm (own_ne_arv E418 (C.hw w_1) S340.2.2.2.1)) nin0))
            have S421 := ((((((S340.keep KC342 nin0 nin0).keep KC349 (ninS (Ne.symm (Nat.ne_of_lt (Nat.lt_of_lt_of_le A338.lt le340))) nin0) (ninS (Ne.symm (own_ne_arv E418 (C.hw w_1) S340.2.2.2.1)) nin0)).ext E366).keep KC370 nin0 nin0).keep KC372 nin0 nin0).keep KC379 (ninS (Nat.ne_of_lt (Nat.lt_of_lt_of_le E419.lt (Nat.le_of_eq g366.symm))) nin0) (ninS (Nat.ne_of_lt (Nat.lt_of_lt_of_le S420.tlt (Nat.le_of_eq g366.symm))) nin0))
            have E422 := (S342.1.keep KC349)
            have S423 := (S342.keep KC349 (ninS (Ne.symm (Nat.ne_of_lt (Nat.lt_of_lt_of_le E418.lt le342))) nin0) (ninS (Ne.symm (own_ne_arv E348 (C.hw w_1) S342.2.2.2.1)) nin0))
            have S424 := (((((S342.keep KC349 (ninS (Ne.symm (Nat.ne_of_lt (Nat.lt_of_lt_of_le E418.lt le342))) nin0) (ninS (Ne.symm (own_ne_arv E348 (C.hw w_1) S342.2.2.2.1)) nin0)).ext E366).keep KC370 nin0 nin0).keep KC372 nin0 nin0).keep KC379 (ninS (Nat.ne_of_lt (Nat.lt_of_lt_of_le E422.lt (Nat.le_of_eq g366.symm))) nin0) (ninS (Nat.ne_of_lt (Nat.lt_of_lt_of_le S423.tlt (Nat.le_of_eq g366.symm))) nin0))
            have K425 : Keep h370 h372 [] := (Keep.refl h370 []).trans KC372 all0
            have E426 := (A366.keep K373)
            have S427 := ((S370.keep KC372 nin0 nin0).keep KC379 (ninS (Ne.symm (Nat.ne_of_lt (Nat.lt_of_lt_of_le A366.lt le370))) nin0) (ninS (Ne.symm (own_ne_arv E426 (C.hw w_1) S370.2.2.2.1)) nin0))
            have S428 := (S372.keep KC379 (ninS (Ne.symm (Nat.ne_of_lt (Nat.lt_of_lt_of_le E426.lt le372))) nin0) (ninS (Ne.symm (own_ne_arv E378 (C.hw w_1) S372.2.2.2.1)) nin0))
            have K429 : Keep h0 h372 [] := K371.trans KC372 all0
            have K430 : Keep h0 h379 [] := K429.trans KC379 (allS (Or.inr (Nat.le_trans K368.1 (Nat.le_of_eq g366.symm))) all0)
            refine g_virtual C E413 w_42 w_43 (fun hZ => nf_sel hw w_45 hZ) w_45 w_44 (by decide) [(.ref b366)] (ct_of hEL hw w_46 w_2 (rm_ue l Z a0 hw hEL b338 b366 a340 a370 a342 a372 t340 t370 t342 t372 _ _ _ _ (mkcs m1u ux uy) (mkcs m2u ux uy) (mkcs m1b bx by') (mkcs m2b bx by') i1 i1 zc h379 n0 E413 X379 F414 F415 F416 S421 S424 G1379 G2379 G3379 S427 S428 (Sta_keep Szc K430) hzc)) all0 (by decide) 0 (by decide) rfl pd__Ljava_lang_Object__Z rfl [] rfl (Nat.le_of_eq rfl) at_262 (by decide) (by decide) ?_
            intro v431 h431 Q431
            obtain ⟨rfl, e431⟩ := Q431
            replace e431 := e431.symm
            subst e431
            refine g_iload C at_265 rfl ?_
            refine g_icmp_f C at_267 (XT.ii_ne_f (if_neg (fun q => hc383 ((own_same h_m1b h_m2b).mpr q.2.1)))) ?_
            refine g_aload C at_270 rfl rfl ?_
            refine g_aload C at_272 rfl rfl ?_
            refine g_virtual C X379 w_42 w_43 (fun hZ => nf_sel hw w_45 hZ) w_45 w_44 (by decide) [(.ref b338)] (ct_of hEL hw w_46 w_2 (rm_ue l Z a0 hw hEL b366 b338 a370 a340 a372 a342 t370 t340 t372 t342 _ _ _ _ (mkcs m2u ux uy) (mkcs m1u ux uy) (mkcs m2b bx by') (mkcs m1b bx by') i1 i1 zc h379 n0 X379 E413 G1379 G2379 G3379 S427 S428 F414 F415 F416 S421 S424 (Sta_keep Szc K430) hzc)) all0 (by decide) 0 (by decide) rfl pd__Ljava_lang_Object__Z rfl [] rfl (Nat.le_of_eq rfl) at_274 (by decide) (by decide) ?_
            intro v432 h432 Q432
            obtain ⟨rfl, e432⟩ := Q432
            replace e432 := e432.symm
            subst e432
            refine g_iload C at_277 rfl ?_
            refine g_icmp_f C at_279 (XT.ii_ne_f (if_neg (fun q => hc383 ((own_same h_m1b h_m2b).mpr (Eq.symm q.2.1))))) ?_
            refine g_iconst C 1 at_282 rfl ?_
            refine g_goto C 287 at_283 (by decide) (by decide) ?_
            refine g_ireturnN C hEL (t := .boolean) rfl (by simp) at_287 (by decide) (by decide) ?_
            exact rfl
        · refine g_if_t C 255 at_227 (XT.i0_eq_t (if_neg hc381)) (by decide) (by decide) ?_
          refine g_iconst C 0 at_255 rfl ?_
          refine g_istore C #[.val (.long i1), .second, .val (.long i2), .second, .val (.int i3), .val (.int i4), .val (.int i5), .val (.int i6), .val (.int ux), .val (.int uy), .val (.int bx), .val (.int by'), .val (.int m1u), .val (.int m2u), .val (.int m1b), .val (.int m2b), .val (.long i1), .second, .val (.int oth), .val (.ref b338), .val (.ref b366), .val (.int (0 : Int32))] at_256 rfl ?_
          refine g_aload C at_258 rfl rfl ?_
          refine g_aload C at_260 rfl rfl ?_
          have K433 : Keep h349 h366 [] := (Keep.refl h349 []).ext E366
          have K434 : Keep h349 h370 [] := K433.trans KC370 all0
          have K435 : Keep h349 h372 [] := K434.trans KC372 all0
          have K436 : Keep h349 h379 [] := K435.trans KC379 (allS (Or.inr (Nat.le_of_eq g366.symm)) all0)
          have E437 := (X349.keep K436)
          have F438 := (G1349.keep K436 nin0)
          have F439 := (G2349.keep K436 nin0)
          have F440 := (G3349.keep K436 nin0)
          have K441 : Keep h340 h342 [] := (Keep.refl h340 []).trans KC342 all0
          have E442 := (A338.keep K343)
          have E443 := ((S340.1.keep KC342).keep KC349)
          have S444 := ((S340.keep KC342 nin0 nin0).keep KC349 (ninS (Ne.symm (Nat.ne_of_lt (Nat.lt_of_lt_of_le A338.lt le340))) nin0) (ninS (Ne.symm (own_ne_arv E442 (C.hw w_1) S340.2.2.2.1)) nin0))
          have S445 := ((((((S340.keep KC342 nin0 nin0).keep KC349 (ninS (Ne.symm (Nat.ne_of_lt (Nat.lt_of_lt_of_le A338.lt le340))) nin0) (ninS (Ne.symm (own_ne_arv E442 (C.hw w_1) S340.2.2.2.1)) nin0)).ext E366).keep KC370 nin0 nin0).keep KC372 nin0 nin0).keep KC379 (ninS (Nat.ne_of_lt (Nat.lt_of_lt_of_le E443.lt (Nat.le_of_eq g366.symm))) nin0) (ninS (Nat.ne_of_lt (Nat.lt_of_lt_of_le S444.tlt (Nat.le_of_eq g366.symm))) nin0))
          have E446 := (S342.1.keep KC349)
          have S447 := (S342.keep KC349 (ninS (Ne.symm (Nat.ne_of_lt (Nat.lt_of_lt_of_le E442.lt le342))) nin0) (ninS (Ne.symm (own_ne_arv E348 (C.hw w_1) S342.2.2.2.1)) nin0))
          have S448 := (((((S342.keep KC349 (ninS (Ne.symm (Nat.ne_of_lt (Nat.lt_of_lt_of_le E442.lt le342))) nin0) (ninS (Ne.symm (own_ne_arv E348 (C.hw w_1) S342.2.2.2.1)) nin0)).ext E366).keep KC370 nin0 nin0).keep KC372 nin0 nin0).keep KC379 (ninS (Nat.ne_of_lt (Nat.lt_of_lt_of_le E446.lt (Nat.le_of_eq g366.symm))) nin0) (ninS (Nat.ne_of_lt (Nat.lt_of_lt_of_le S447.tlt (Nat.le_of_eq g366.symm))) nin0))
          have K449 : Keep h370 h372 [] := (Keep.refl h370 []).trans KC372 all0
          have E450 := (A366.keep K373)
          have S451 := ((S370.keep KC372 nin0 nin0).keep KC379 (ninS (Ne.symm (Nat.ne_of_lt (Nat.lt_of_lt_of_le A366.lt le370))) nin0) (ninS (Ne.symm (own_ne_arv E450 (C.hw w_1) S370.2.2.2.1)) nin0))
          have S452 := (S372.keep KC379 (ninS (Ne.symm (Nat.ne_of_lt (Nat.lt_of_lt_of_le E450.lt le372))) nin0) (ninS (Ne.symm (own_ne_arv E378 (C.hw w_1) S372.2.2.2.1)) nin0))
          have K453 : Keep h0 h372 [] := K371.trans KC372 all0
          have K454 : Keep h0 h379 [] := K453.trans KC379 (allS (Or.inr (Nat.le_trans K368.1 (Nat.le_of_eq g366.symm))) all0)
          refine g_virtual C E437 w_42 w_43 (fun hZ => nf_sel hw w_45 hZ) w_45 w_44 (by decide) [(.ref b366)] (ct_of hEL hw w_46 w_2 (rm_ue l Z a0 hw hEL b338 b366 a340 a370 a342 a372 t340 t370 t342 t372 _ _ _ _ (mkcs m1u ux uy) (mkcs m2u ux uy) (mkcs m1b bx by') (mkcs m2b bx by') i1 i1 zc h379 n0 E437 X379 F438 F439 F440 S445 S448 G1379 G2379 G3379 S451 S452 (Sta_keep Szc K454) hzc)) all0 (by decide) 0 (by decide) rfl pd__Ljava_lang_Object__Z rfl [] rfl (Nat.le_of_eq rfl) at_262 (by decide) (by decide) ?_
          intro v455 h455 Q455
          obtain ⟨rfl, e455⟩ := Q455
          replace e455 := e455.symm
          subst e455
          refine g_iload C at_265 rfl ?_
          refine g_icmp_f C at_267 (XT.ii_ne_f (if_neg (fun q => hc381 ((own_same h_m1u h_m2u).mpr q.1)))) ?_
          refine g_aload C at_270 rfl rfl ?_
          refine g_aload C at_272 rfl rfl ?_
          refine g_virtual C X379 w_42 w_43 (fun hZ => nf_sel hw w_45 hZ) w_45 w_44 (by decide) [(.ref b338)] (ct_of hEL hw w_46 w_2 (rm_ue l Z a0 hw hEL b366 b338 a370 a340 a372 a342 t370 t340 t372 t342 _ _ _ _ (mkcs m2u ux uy) (mkcs m1u ux uy) (mkcs m2b bx by') (mkcs m1b bx by') i1 i1 zc h379 n0 X379 E437 G1379 G2379 G3379 S451 S452 F438 F439 F440 S445 S448 (Sta_keep Szc K454) hzc)) all0 (by decide) 0 (by decide) rfl pd__Ljava_lang_Object__Z rfl [] rfl (Nat.le_of_eq rfl) at_274 (by decide) (by decide) ?_
          intro v456 h456 Q456
          obtain ⟨rfl, e456⟩ := Q456
          replace e456 := e456.symm
          subst e456
          refine g_iload C at_277 rfl ?_
          refine g_icmp_f C at_279 (XT.ii_ne_f (if_neg (fun q => hc381 ((own_same h_m1u h_m2u).mpr (Eq.symm q.1))))) ?_
          refine g_iconst C 1 at_282 rfl ?_
          refine g_goto C 287 at_283 (by decide) (by decide) ?_
          refine g_ireturnN C hEL (t := .boolean) rfl (by simp) at_287 (by decide) (by decide) ?_
          exact rfl
set_option maxRecDepth 65536 in
set_option maxHeartbeats 40000000 in
theorem comes_1 {Post : Tables → Env → Array Value → State → Outcome → State → Prop} (hpost : ∀ tb e args s v u, (limb_1_1.after args s (.returned v) u = true ∧ limb_1_2.after args s (.returned v) u = true ∧ True) → ReturnedEndW s (.returned v) u (Jvm.fieldLocs frame_1_writes args s ++ Jvm.arrayLocs frame_1_arrays args s ++ Jvm.staticLocs frame_1_statics s) 40 1216 → Post tb e args s (.returned v) u) :
    ArmFor flags0 classFile x code maxLocals ret World_1 tables_1 room_1 Calls_1 rest_1 Pre_1 Post := by
  intro l hfl _ _ p e ha hc hk s m args below hf hA hF happ hP
  obtain ⟨hcalls, hrest, hpre⟩ := hP
  obtain ⟨-, -, -, hnamed, -, -, -, hat⟩ := (Spec.applies_iff hf).mp happ
  obtain ⟨hg, hn⟩ := and_e (Cond.before_iff.mp (show (Jvm.Cond.and given_1 narrow_1).before args s = true from hpre))
  obtain ⟨hcount, ga0⟩ := and_e hg
  obtain ⟨gv0, ga1⟩ := and_e ga0
  obtain ⟨gv1, ga2⟩ := and_e ga1
  obtain ⟨gv2, ga3⟩ := and_e ga2
  obtain ⟨gv3, ga4⟩ := and_e ga3
  obtain ⟨gv4, ga5⟩ := and_e ga4
  obtain ⟨w0, w1, w2, w3, w4, w5, rfl⟩ : ∃ w0 w1 w2 w3 w4 w5 : Value, args = #[w0, w1, w2, w3, w4, w5] := by
    have hs : args.size = 6 := by simpa [Cond.value, given_1] using hcount
    obtain ⟨L⟩ := args
    match L, hs with
    | [w0, w1, w2, w3, w4, w5], _ => exact ⟨w0, w1, w2, w3, w4, w5, rfl⟩
  have hw := fun d (hd : d ∈ tables_1) => atoms_spec (ws := Jvm.Cond.code x code maxLocals ret :: tables_1) hat d (List.mem_cons_of_mem _ hd)
  have hfit : Fit s := fun {y c} hc i hi => by
    obtain ⟨ha, rfl⟩ := Array.getElem?_eq_some_iff.mp hc
    have q := List.all_eq_true.mp ((Array.all_eq_true_iff_forall_mem.mp hF) _ (Array.getElem_mem ha)) i (List.mem_range.mpr hi)
    simpa [Array.getElem?_eq_getElem hi] using q
  obtain ⟨hsets, hown0⟩ := atoms_of _ (rest_1_c_eq ▸ (show rest_1_c.before _ s = true from hrest))
  obtain ⟨i0, ei0⟩ := isL_v gv0
  obtain rfl : w0 = (.long i0) := Option.some.inj ei0
  obtain ⟨i1, ei1⟩ := isL_v gv1
  obtain rfl : w1 = (.long i1) := Option.some.inj ei1
  obtain ⟨i2, ei2⟩ := is_v gv2
  obtain rfl : w2 = (.int i2) := Option.some.inj ei2
  obtain ⟨i3, ei3⟩ := is_v gv3
  obtain rfl : w3 = (.int i3) := Option.some.inj ei3
  obtain ⟨i4, ei4⟩ := is_v gv4
  obtain rfl : w4 = (.int i4) := Option.some.inj ei4
  obtain ⟨i5, ei5⟩ := is_v ga5
  obtain rfl : w5 = (.int i5) := Option.some.inj ei5
  have hEL : EW s _ consts_1 := (EW.cons (hw _ w_21) (by decide +kernel) EW.nil)
  have hCH : CHv s consts_1 s.vm s.heap := CHv.start hEL (fun p hp => hcalls.1 p hp) (hsets _ (List.mem_of_getElem? (i := 2) rfl)) (hw _ w_22) (hw _ w_8)
  have n5 := not_v (Cond.before_iff.mp (hsets _ (List.mem_of_getElem? (i := 2) rfl)))
  obtain ⟨zc, ezc⟩ := is_v (Cond.before_iff.mp (hsets _ (List.mem_of_getElem? (i := 1) rfl)))
  have Szc : Sta s s.heap "java/lang/String" "COMPACT_STRINGS" "Z" (.int zc) := Sta.start ezc (Or.inl (hsets _ (List.mem_of_getElem? (i := 0) rfl)))
  have hzc : ¬ (zc = (0 : Int32)) := gotF (Cond.eq_ints ezc (Term.int_eval (0))) n5
  obtain ⟨n, o, h1, h2, h3, _, L, ns, rfl, ⟨⟨rfl, rfl⟩, N⟩, -, -, hq⟩ := rm_law l s _ hw hEL (ws := tables_1) i0 i1 i2 i3 i4 i5 zc s.heap s.heap.size Szc hzc (Nat.le_refl _) all0 p e ha hc hk s m _ below hf ((Spec.applies_iff_loose hf).mp happ).1 ⟨rfl, State.Warmed39.refl s, rfl, hCH, all0⟩ trivial
  refine ⟨n, _, h1, h2, h3, hpost _ _ _ _ _ _ ⟨Cond.after_iff.mpr rfl, Cond.after_iff.mpr (eq_i res_at (Term.int_eval (1)) rfl), trivial⟩ ⟨hq.1, hq.2.1, hq.2.2.1, (hq.2.2.2.sift fun y hy => Or.inr (N y hy)).mono (by decide) (by decide)⟩⟩
theorem main_1_1 : Claimed_1_1 := comes_1 fun _ _ _ _ _ _ h hF => ⟨h.1, hF⟩
theorem main_1_2 : Claimed_1_2 := comes_1 fun _ _ _ _ _ _ h hF => ⟨h.2.1, hF⟩

end Jvm.Pilot.@@N@@
namespace Jvm.Pilot.@@N@@
open Jvm Jvm.ClassFile Sem Op Lib Jvm.Free Jvm.Stand Jvm.Pilot.@@N@@.Jvm.D
/-! MADE BY PROGRAM (witnessworld.py) out of the Statement's table words and the real class files: 20 classes; the members and pool entries that the words name. The judged class is class 1, her method 3. -/
namespace start1
open Jvm.ClassFile
def u (s : String) : CpInfo := .utf8 (stringToUtf16 s)
/-- a pool by its gaps: so many unusable entries, then the entry; so many at the end -/
def gap : Nat → List CpInfo → List CpInfo
  | 0, r => r
  | n + 1, r => .unusable :: gap n r
def poolList (es : List (Nat × CpInfo)) (last : Nat) : List CpInfo := es.foldr (fun e r => gap e.1 (e.2 :: r)) (gap last [])
def pool (es : List (Nat × CpInfo)) (last : Nat) : Array CpInfo := ⟨poolList es last⟩
def fileOf (pool : Array CpInfo) (this : Nat) (attrs : Array Attribute := #[]) (ms : Array MethodInfo := #[]) (fl : Nat := 33) (sup : Nat := 0) (ifs : Array Nat := #[]) (fds : Array FieldInfo := #[]) : ClassFile where
  minorVersion := 0
  majorVersion := 65
  constantPool := pool
  accessFlags := fl
  thisClass := this
  superClass := sup
  interfaces := ifs
  fields := fds
  methods := ms
  attributes := attrs
def plain (name : String) (sup : Option ClassId) : Class where
  name := name
  kind := .ordinary
  loader := none
  accessFlags := 33
  super := sup
  interfaces := #[]
  cf := none
  fields := #[]
  methods := #[]
  instanceTypes := #[]
  staticTypes := #[]
  resolved := #[]
  callSites := []
  init := .initialized
  statics := none
  mirror := none

def pool0 : Array CpInfo := pool [(5, u "<init>"), (0, u "()V"), (1, .class_ 10), (1, u "java/lang/Object")] 113

def k0c0 : Code := { maxStack := 0, maxLocals := 1, code := object_method_1_code, exceptionTable := #[], attributes := #[] }
def k0m0 : Method := { name := "<init>", desc := "()V", sig := { parameters := [], returnType := none }, accessFlags := 1, code := some k0c0 }
/-- java/lang/Object -/
def k0 : Class := { plain "java/lang/Object" none with
  accessFlags := 33
  interfaces := #[]
  cf := some (fileOf pool0 8 #[] #[{ accessFlags := 1, nameIndex := 5, descriptorIndex := 6, attributes := #[] }] 33 0 #[] #[])
  fields := #[]
  methods := #[k0m0]
  instanceTypes := #[]
  staticTypes := #[]
  resolved := Array.replicate 124 none
  statics := none }

def pool1 : Array CpInfo := pool [(2, .class_ 4), (1, u "java/lang/Object"), (0, u "<init>"), (0, u "()V"), (0, .class_ 8), (0, u "java/lang/String"), (0, .methodref 7 10), (0, .nameAndType 5 11), (0, u "([C)V"), (0, .class_ 13), (0, u "com/example/reckon_buckets/reckonbuckets/storage/UsageKey"), (0, .methodref 15 16), (0, .class_ 17), (0, .nameAndType 18 19), (0, u "com/example/reckon_buckets/reckonbuckets/storage/UsageKeyEqualsPinLaw"), (0, u "mk"), (0, u "(ICC)Ljava/lang/String;"), (0, .methodref 12 21), (0, .nameAndType 5 22), (0, u "(Ljava/lang/String;Ljava/lang/String;J)V"), (0, .methodref 12 24), (0, .nameAndType 25 26), (0, u "equals"), (0, u "(Ljava/lang/Object;)Z"), (0, .methodref 15 28), (0, .nameAndType 29 30), (0, u "sameStr"), (0, u "(IICC)Z"), (3, u "law"), (0, u "(JJIIII)Z")] 2

def k1m0 : Method := { name := "<init>", desc := "()V", sig := { parameters := [], returnType := none }, accessFlags := 1, code := none }
def k1c1 : Code := { maxStack := 6, maxLocals := 3, code := method_2_code, exceptionTable := #[], attributes := #[] }
def k1m1 : Method := { name := "mk", desc := "(ICC)Ljava/lang/String;", sig := { parameters := [.int, .char, .char], returnType := some (.object "java/lang/String") }, accessFlags := 10, code := some k1c1 }
def k1c2 : Code := { maxStack := 2, maxLocals := 4, code := method_3_code, exceptionTable := #[], attributes := #[] }
def k1m2 : Method := { name := "sameStr", desc := "(IICC)Z", sig := { parameters := [.int, .int, .char, .char], returnType := some .boolean }, accessFlags := 10, code := some k1c2 }
def k1c3 : Code := { maxStack := 6, maxLocals := 22, code := code, exceptionTable := #[], attributes := #[] }
def k1m3 : Method := { name := "law", desc := "(JJIIII)Z", sig := { parameters := [.long, .long, .int, .int, .int, .int], returnType := some .boolean }, accessFlags := 9, code := some k1c3 }
/-- com/example/reckon_buckets/reckonbuckets/storage/UsageKeyEqualsPinLaw -/
def k1 : Class := { plain "com/example/reckon_buckets/reckonbuckets/storage/UsageKeyEqualsPinLaw" (some 0) with
  accessFlags := 49
  interfaces := #[]
  cf := some (fileOf pool1 15 #[] #[{ accessFlags := 1, nameIndex := 5, descriptorIndex := 6, attributes := #[] }, { accessFlags := 10, nameIndex := 18, descriptorIndex := 19, attributes := #[] }, { accessFlags := 10, nameIndex := 29, descriptorIndex := 30, attributes := #[] }, { accessFlags := 9, nameIndex := 34, descriptorIndex := 35, attributes := #[] }] 49 2 #[] #[])
  fields := #[]
  methods := #[k1m0, k1m1, k1m2, k1m3]
  instanceTypes := #[]
  staticTypes := #[]
  resolved := Array.replicate 38 none
  statics := none }

def pool2 : Array CpInfo := pool [(1, .class_ 2), (0, u "java/lang/Comparable"), (0, .class_ 4), (0, u "java/lang/Object")] 7

/-- java/lang/Comparable -/
def k2 : Class := { plain "java/lang/Comparable" (some 0) with
  accessFlags := 1537
  interfaces := #[]
  cf := some (fileOf pool2 1 #[] #[] 1537 3 #[] #[])
  fields := #[]
  methods := #[]
  instanceTypes := #[]
  staticTypes := #[]
  resolved := Array.replicate 12 none
  statics := none }

def pool3 : Array CpInfo := pool [(1, .methodref 2 3), (0, .class_ 4), (0, .nameAndType 5 6), (0, u "java/lang/Object"), (0, u "<init>"), (0, u "()V"), (0, .fieldref 8 9), (0, .class_ 10), (0, .nameAndType 11 12), (0, u "com/example/reckon_buckets/reckonbuckets/storage/UsageKey"), (0, u "userId"), (0, u "Ljava/lang/String;"), (0, .fieldref 8 14), (0, .nameAndType 15 12), (0, u "bucket"), (0, .fieldref 8 17), (0, .nameAndType 18 19), (0, u "epoch"), (0, u "J"), (2, u "ORDER"), (0, u "Ljava/util/Comparator;"), (6, .methodref 31 32), (0, .class_ 33), (0, .nameAndType 34 35), (0, u "java/lang/String"), (0, u "equals"), (0, u "(Ljava/lang/Object;)Z"), (36, .class_ 73), (0, u "java/lang/Comparable"), (2, u "(Ljava/lang/String;Ljava/lang/String;J)V")] 44

def k3c0 : Code := { maxStack := 3, maxLocals := 5, code := prog_36_method_1_code, exceptionTable := #[], attributes := #[] }
def k3m0 : Method := { name := "<init>", desc := "(Ljava/lang/String;Ljava/lang/String;J)V", sig := { parameters := [(.object "java/lang/String"), (.object "java/lang/String"), .long], returnType := none }, accessFlags := 1, code := some k3c0 }
def k3c1 : Code := { maxStack := 4, maxLocals := 2, code := prog_36_method_6_code, exceptionTable := #[], attributes := #[] }
def k3m1 : Method := { name := "equals", desc := "(Ljava/lang/Object;)Z", sig := { parameters := [(.object "java/lang/Object")], returnType := some .boolean }, accessFlags := 1, code := some k3c1 }
/-- com/example/reckon_buckets/reckonbuckets/storage/UsageKey -/
def k3 : Class := { plain "com/example/reckon_buckets/reckonbuckets/storage/UsageKey" (some 0) with
  accessFlags := 49
  interfaces := #[2]
  cf := some (fileOf pool3 8 #[] #[{ accessFlags := 1, nameIndex := 5, descriptorIndex := 76, attributes := #[] }, { accessFlags := 1, nameIndex := 34, descriptorIndex := 35, attributes := #[] }] 49 2 #[72] #[{ accessFlags := 26, nameIndex := 22, descriptorIndex := 23, attributes := #[] }, { accessFlags := 18, nameIndex := 11, descriptorIndex := 12, attributes := #[] }, { accessFlags := 18, nameIndex := 15, descriptorIndex := 12, attributes := #[] }, { accessFlags := 18, nameIndex := 18, descriptorIndex := 19, attributes := #[] }])
  fields := #[{ name := "ORDER", type := (.object "java/util/Comparator"), accessFlags := 26, slot := 0, constantValue := 0 }, { name := "userId", type := (.object "java/lang/String"), accessFlags := 18, slot := 0, constantValue := 0 }, { name := "bucket", type := (.object "java/lang/String"), accessFlags := 18, slot := 1, constantValue := 0 }, { name := "epoch", type := .long, accessFlags := 18, slot := 2, constantValue := 0 }]
  methods := #[k3m0, k3m1]
  instanceTypes := #[(.object "java/lang/String"), (.object "java/lang/String"), .long]
  staticTypes := #[(.object "java/util/Comparator")]
  resolved := Array.replicate 121 none
  statics := none }

def pool4 : Array CpInfo := pool [(1, .class_ 2), (0, u "java/io/Serializable"), (0, .class_ 4), (0, u "java/lang/Object")] 2

/-- java/io/Serializable -/
def k4 : Class := { plain "java/io/Serializable" (some 0) with
  accessFlags := 1537
  interfaces := #[]
  cf := some (fileOf pool4 1 #[] #[] 1537 3 #[] #[])
  fields := #[]
  methods := #[]
  instanceTypes := #[]
  staticTypes := #[]
  resolved := Array.replicate 7 none
  statics := none }

def pool5 : Array CpInfo := pool [(2, .class_ 4), (1, u "java/lang/CharSequence"), (42, .class_ 48), (0, u "java/lang/CharSequence$1CodePointIterator"), (10, .class_ 60), (0, u "java/lang/CharSequence$1CharIterator"), (5, .class_ 67), (0, u "java/lang/Object")] 63

/-- java/lang/CharSequence -/
def k5 : Class := { plain "java/lang/CharSequence" (some 0) with
  accessFlags := 1537
  interfaces := #[]
  cf := some (fileOf pool5 2 #[.nestMembers #[47, 59]] #[] 1537 66 #[] #[])
  fields := #[]
  methods := #[]
  instanceTypes := #[]
  staticTypes := #[]
  resolved := Array.replicate 131 none
  statics := none }

def pool6 : Array CpInfo := pool [(1, .class_ 2), (0, u "java/lang/constant/Constable"), (0, .class_ 4), (0, u "java/lang/Object")] 6

/-- java/lang/constant/Constable -/
def k6 : Class := { plain "java/lang/constant/Constable" (some 0) with
  accessFlags := 1537
  interfaces := #[]
  cf := some (fileOf pool6 1 #[] #[] 1537 3 #[] #[])
  fields := #[]
  methods := #[]
  instanceTypes := #[]
  staticTypes := #[]
  resolved := Array.replicate 11 none
  statics := none }

def pool7 : Array CpInfo := pool [(1, .class_ 2), (0, u "java/lang/constant/ConstantDesc"), (0, .class_ 4), (0, u "java/lang/Object")] 32

/-- java/lang/constant/ConstantDesc -/
def k7 : Class := { plain "java/lang/constant/ConstantDesc" (some 0) with
  accessFlags := 1537
  interfaces := #[]
  cf := some (fileOf pool7 1 #[] #[] 1537 3 #[] #[])
  fields := #[]
  methods := #[]
  instanceTypes := #[]
  staticTypes := #[]
  resolved := Array.replicate 37 none
  statics := none }

def pool8 : Array CpInfo := pool [(1, .methodref 2 3), (0, .class_ 4), (0, .nameAndType 5 6), (0, u "java/lang/Object"), (0, u "<init>"), (0, u "()V"), (0, .string 8), (0, u ""), (0, .fieldref 10 11), (0, .class_ 12), (0, .nameAndType 13 14), (0, u "java/lang/String"), (0, u "value"), (0, u "[B"), (0, .fieldref 10 16), (0, .nameAndType 17 18), (0, u "coder"), (0, u "B"), (2, u "hash"), (0, u "I"), (2, u "hashIsZero"), (0, u "Z"), (0, .methodref 10 28), (0, .nameAndType 5 29), (0, u "([CIILjava/lang/Void;)V"), (8, .fieldref 10 39), (0, .nameAndType 40 26), (0, u "COMPACT_STRINGS"), (1, .class_ 44), (1, u "java/lang/StringUTF16"), (0, u "compress"), (1, .methodref 42 48), (0, .nameAndType 49 50), (0, u "coderFromArrayLen"), (0, u "([BI)B"), (56, .class_ 109), (1, u "java/lang/StringLatin1"), (67, .methodref 42 178), (0, .nameAndType 45 179), (0, u "([CII)[B"), (361, .methodref 107 542), (0, .nameAndType 543 544), (0, u "equals"), (0, u "([B[B)Z"), (28, u "(Ljava/lang/Object;)Z"), (1, .class_ 576), (0, u "java/lang/CharSequence"), (22, u "CASE_INSENSITIVE_ORDER"), (0, u "Ljava/util/Comparator;"), (409, u "([C)V"), (90, u "serialPersistentFields"), (0, u "[Ljava/io/ObjectStreamField;"), (0, .class_ 1104), (0, u "java/lang/String$CaseInsensitiveComparator"), (1, .class_ 1107), (0, u "java/io/Serializable"), (0, .class_ 1109), (0, u "java/lang/Comparable"), (0, .class_ 1111), (0, u "java/lang/constant/Constable"), (0, .class_ 1113), (0, u "java/lang/constant/ConstantDesc"), (2, u "serialVersionUID"), (0, u "J"), (3, u "REPL"), (0, u "C"), (2, u "LATIN1"), (1, u "UTF16")] 323

def k8m0 : Method := { name := "<init>", desc := "()V", sig := { parameters := [], returnType := none }, accessFlags := 1, code := none }
def k8c1 : Code := { maxStack := 5, maxLocals := 2, code := jdk_42_method_3_code, exceptionTable := #[], attributes := #[] }
def k8m1 : Method := { name := "<init>", desc := "([C)V", sig := { parameters := [(.array .char)], returnType := none }, accessFlags := 1, code := some k8c1 }
def k8c2 : Code := { maxStack := 2, maxLocals := 3, code := jdk_42_method_66_code, exceptionTable := #[], attributes := #[] }
def k8m2 : Method := { name := "equals", desc := "(Ljava/lang/Object;)Z", sig := { parameters := [(.object "java/lang/Object")], returnType := some .boolean }, accessFlags := 1, code := some k8c2 }
def k8c3 : Code := { maxStack := 4, maxLocals := 6, code := jdk_42_method_149_code, exceptionTable := #[], attributes := #[] }
def k8m3 : Method := { name := "<init>", desc := "([CIILjava/lang/Void;)V", sig := { parameters := [(.array .char), .int, .int, (.object "java/lang/Void")], returnType := none }, accessFlags := 2, code := some k8c3 }
/-- java/lang/String -/
def k8 : Class := { plain "java/lang/String" (some 0) with
  accessFlags := 49
  interfaces := #[4, 2, 5, 6, 7]
  cf := some (fileOf pool8 10 #[.nestMembers #[1103]] #[{ accessFlags := 1, nameIndex := 5, descriptorIndex := 6, attributes := #[] }, { accessFlags := 1, nameIndex := 5, descriptorIndex := 1010, attributes := #[] }, { accessFlags := 1, nameIndex := 543, descriptorIndex := 573, attributes := #[] }, { accessFlags := 2, nameIndex := 5, descriptorIndex := 29, attributes := #[] }] 49 2 #[1106, 1108, 575, 1110, 1112] #[{ accessFlags := 18, nameIndex := 13, descriptorIndex := 14, attributes := #[] }, { accessFlags := 18, nameIndex := 17, descriptorIndex := 18, attributes := #[] }, { accessFlags := 2, nameIndex := 21, descriptorIndex := 22, attributes := #[] }, { accessFlags := 2, nameIndex := 25, descriptorIndex := 26, attributes := #[] }, { accessFlags := 26, nameIndex := 1116, descriptorIndex := 1117, attributes := #[] }, { accessFlags := 24, nameIndex := 40, descriptorIndex := 26, attributes := #[] }, { accessFlags := 26, nameIndex := 1101, descriptorIndex := 1102, attributes := #[] }, { accessFlags := 26, nameIndex := 1121, descriptorIndex := 1122, attributes := #[] }, { accessFlags := 25, nameIndex := 599, descriptorIndex := 600, attributes := #[] }, { accessFlags := 24, nameIndex := 1125, descriptorIndex := 18, attributes := #[] }, { accessFlags := 24, nameIndex := 1127, descriptorIndex := 18, attributes := #[] }])
  fields := #[{ name := "value", type := (.array .byte), accessFlags := 18, slot := 0, constantValue := 0 }, { name := "coder", type := .byte, accessFlags := 18, slot := 1, constantValue := 0 }, { name := "hash", type := .int, accessFlags := 2, slot := 2, constantValue := 0 }, { name := "hashIsZero", type := .boolean, accessFlags := 2, slot := 3, constantValue := 0 }, { name := "serialVersionUID", type := .long, accessFlags := 26, slot := 0, constantValue := 0 }, { name := "COMPACT_STRINGS", type := .boolean, accessFlags := 24, slot := 1, constantValue := 0 }, { name := "serialPersistentFields", type := (.array (.object "java/io/ObjectStreamField")), accessFlags := 26, slot := 2, constantValue := 0 }, { name := "REPL", type := .char, accessFlags := 26, slot := 3, constantValue := 0 }, { name := "CASE_INSENSITIVE_ORDER", type := (.object "java/util/Comparator"), accessFlags := 25, slot := 4, constantValue := 0 }, { name := "LATIN1", type := .byte, accessFlags := 24, slot := 5, constantValue := 0 }, { name := "UTF16", type := .byte, accessFlags := 24, slot := 6, constantValue := 0 }]
  methods := #[k8m0, k8m1, k8m2, k8m3]
  instanceTypes := #[(.array .byte), .byte, .int, .boolean]
  staticTypes := #[.long, .boolean, (.array (.object "java/io/ObjectStreamField")), .char, (.object "java/util/Comparator"), .byte, .byte]
  resolved := Array.replicate 1451 none
  statics := some 0 }

def pool9 : Array CpInfo := pool [(4, .class_ 6), (1, u "java/lang/Object"), (0, u "<init>"), (0, u "()V"), (5, .class_ 16), (1, u "java/lang/StringLatin1"), (104, u "$assertionsDisabled"), (0, u "Z"), (98, .class_ 223), (1, u "java/lang/StringLatin1$LinesSpliterator"), (57, u "equals"), (0, u "([B[B)Z"), (107, .class_ 391), (0, u "java/lang/StringLatin1$CharsSpliterator")] 3

def k9m0 : Method := { name := "<init>", desc := "()V", sig := { parameters := [], returnType := none }, accessFlags := 0, code := none }
def k9c1 : Code := { maxStack := 3, maxLocals := 3, code := jdk_43_method_13_code, exceptionTable := #[], attributes := #[] }
def k9m1 : Method := { name := "equals", desc := "([B[B)Z", sig := { parameters := [(.array .byte), (.array .byte)], returnType := some .boolean }, accessFlags := 9, code := some k9c1 }
/-- java/lang/StringLatin1 -/
def k9 : Class := { plain "java/lang/StringLatin1" (some 0) with
  accessFlags := 48
  interfaces := #[]
  cf := some (fileOf pool9 14 #[.nestMembers #[390, 221]] #[{ accessFlags := 0, nameIndex := 7, descriptorIndex := 8, attributes := #[] }, { accessFlags := 9, nameIndex := 281, descriptorIndex := 282, attributes := #[] }] 48 4 #[] #[{ accessFlags := 4120, nameIndex := 121, descriptorIndex := 122, attributes := #[] }])
  fields := #[{ name := "$assertionsDisabled", type := .boolean, accessFlags := 4120, slot := 0, constantValue := 0 }]
  methods := #[k9m0, k9m1]
  instanceTypes := #[]
  staticTypes := #[.boolean]
  resolved := Array.replicate 395 none
  statics := none }

def pool10 : Array CpInfo := pool [(6, .class_ 8), (1, u "java/lang/Object"), (0, u "<init>"), (0, u "()V"), (1, .class_ 14), (1, u "java/lang/StringUTF16"), (31, u "$assertionsDisabled"), (0, u "Z"), (13, u "HI_BYTE_SHIFT"), (0, u "I"), (2, u "LO_BYTE_SHIFT"), (49, .methodref 12 116), (0, .nameAndType 117 118), (0, u "compress"), (0, u "([CI[BII)I"), (3, u "([CII)[B"), (138, u "coderFromArrayLen"), (0, u "([BI)B"), (106, .class_ 371), (1, u "java/lang/StringUTF16$LinesSpliterator"), (58, u "MAX_LENGTH"), (196, .class_ 628), (0, u "java/lang/StringUTF16$CodePointsSpliterator"), (0, .class_ 630), (0, u "java/lang/StringUTF16$CharsSpliterator")] 4

def k10m0 : Method := { name := "<init>", desc := "()V", sig := { parameters := [], returnType := none }, accessFlags := 0, code := none }
def k10c1 : Code := { maxStack := 2, maxLocals := 2, code := jdk_52_method_15_code, exceptionTable := #[], attributes := #[] }
def k10m1 : Method := { name := "coderFromArrayLen", desc := "([BI)B", sig := { parameters := [(.array .byte), .int], returnType := some .byte }, accessFlags := 8, code := some k10c1 }
def k10c2 : Code := { maxStack := 5, maxLocals := 6, code := jdk_52_method_16_code, exceptionTable := #[], attributes := #[] }
def k10m2 : Method := { name := "compress", desc := "([CII)[B", sig := { parameters := [(.array .char), .int, .int], returnType := some (.array .byte) }, accessFlags := 9, code := some k10c2 }
def k10c3 : Code := { maxStack := 3, maxLocals := 7, code := jdk_52_method_21_code, exceptionTable := #[], attributes := #[] }
def k10m3 : Method := { name := "compress", desc := "([CI[BII)I", sig := { parameters := [(.array .char), .int, (.array .byte), .int, .int], returnType := some .int }, accessFlags := 9, code := some k10c3 }
/-- java/lang/StringUTF16 -/
def k10 : Class := { plain "java/lang/StringUTF16" (some 0) with
  accessFlags := 48
  interfaces := #[]
  cf := some (fileOf pool10 12 #[.nestMembers #[627, 629, 369]] #[{ accessFlags := 0, nameIndex := 9, descriptorIndex := 10, attributes := #[] }, { accessFlags := 8, nameIndex := 261, descriptorIndex := 262, attributes := #[] }, { accessFlags := 9, nameIndex := 117, descriptorIndex := 122, attributes := #[] }, { accessFlags := 9, nameIndex := 117, descriptorIndex := 118, attributes := #[] }] 48 6 #[] #[{ accessFlags := 26, nameIndex := 61, descriptorIndex := 62, attributes := #[] }, { accessFlags := 26, nameIndex := 65, descriptorIndex := 62, attributes := #[] }, { accessFlags := 24, nameIndex := 430, descriptorIndex := 62, attributes := #[] }, { accessFlags := 4120, nameIndex := 46, descriptorIndex := 47, attributes := #[] }])
  fields := #[{ name := "HI_BYTE_SHIFT", type := .int, accessFlags := 26, slot := 0, constantValue := 0 }, { name := "LO_BYTE_SHIFT", type := .int, accessFlags := 26, slot := 1, constantValue := 0 }, { name := "MAX_LENGTH", type := .int, accessFlags := 24, slot := 2, constantValue := 0 }, { name := "$assertionsDisabled", type := .boolean, accessFlags := 4120, slot := 3, constantValue := 0 }]
  methods := #[k10m0, k10m1, k10m2, k10m3]
  instanceTypes := #[]
  staticTypes := #[.int, .int, .int, .boolean]
  resolved := Array.replicate 635 none
  statics := none }

def pool11 : Array CpInfo := pool [(2, .class_ 4), (1, u "java/lang/Object"), (0, u "<init>"), (0, u "()V"), (17, .class_ 26), (1, u "jdk/internal/util/Preconditions"), (28, .class_ 56), (0, u "jdk/internal/util/Preconditions$4"), (57, .class_ 115), (0, u "jdk/internal/util/Preconditions$1"), (7, u "SIOOBE_FORMATTER"), (0, u "Ljava/util/function/BiFunction;"), (0, .class_ 126), (0, u "jdk/internal/util/Preconditions$2"), (3, u "AIOOBE_FORMATTER"), (0, .class_ 132), (0, u "jdk/internal/util/Preconditions$3"), (3, u "IOOBE_FORMATTER")] 57

def k11m0 : Method := { name := "<init>", desc := "()V", sig := { parameters := [], returnType := none }, accessFlags := 1, code := none }
/-- jdk/internal/util/Preconditions -/
def k11 : Class := { plain "jdk/internal/util/Preconditions" (some 0) with
  accessFlags := 33
  interfaces := #[]
  cf := some (fileOf pool11 24 #[.nestMembers #[55, 131, 125, 114]] #[{ accessFlags := 1, nameIndex := 5, descriptorIndex := 6, attributes := #[] }] 33 2 #[] #[{ accessFlags := 25, nameIndex := 123, descriptorIndex := 124, attributes := #[] }, { accessFlags := 25, nameIndex := 130, descriptorIndex := 124, attributes := #[] }, { accessFlags := 25, nameIndex := 136, descriptorIndex := 124, attributes := #[] }])
  fields := #[{ name := "SIOOBE_FORMATTER", type := (.object "java/util/function/BiFunction"), accessFlags := 25, slot := 0, constantValue := 0 }, { name := "AIOOBE_FORMATTER", type := (.object "java/util/function/BiFunction"), accessFlags := 25, slot := 1, constantValue := 0 }, { name := "IOOBE_FORMATTER", type := (.object "java/util/function/BiFunction"), accessFlags := 25, slot := 2, constantValue := 0 }]
  methods := #[k11m0]
  instanceTypes := #[]
  staticTypes := #[(.object "java/util/function/BiFunction"), (.object "java/util/function/BiFunction"), (.object "java/util/function/BiFunction")]
  resolved := Array.replicate 194 none
  statics := some 1 }

def pool12 : Array CpInfo := pool [(9, u "<init>"), (6, .class_ 18), (1, u "java/lang/Object"), (0, u "()V"), (1, .class_ 23), (1, u "jdk/internal/util/ArraysSupport"), (0, u "LOG2_ARRAY_LONG_INDEX_SCALE"), (0, u "I"), (2, u "U"), (0, u "Ljdk/internal/misc/Unsafe;"), (8, u "BIG_ENDIAN"), (0, u "Z"), (8, u "LOG2_BYTE_BIT_SIZE"), (4, u "LOG2_ARRAY_INT_INDEX_SCALE"), (54, u "JLA"), (0, u "Ljdk/internal/access/JavaLangAccess;"), (11, u "LOG2_ARRAY_BOOLEAN_INDEX_SCALE"), (9, u "LOG2_ARRAY_BYTE_INDEX_SCALE"), (5, u "LOG2_ARRAY_CHAR_INDEX_SCALE"), (5, u "LOG2_ARRAY_SHORT_INDEX_SCALE"), (18, u "LOG2_ARRAY_FLOAT_INDEX_SCALE"), (24, u "LOG2_ARRAY_DOUBLE_INDEX_SCALE"), (89, u "T_BOOLEAN"), (2, u "T_CHAR"), (1, u "T_FLOAT"), (1, u "T_DOUBLE"), (1, u "T_BYTE"), (1, u "T_SHORT"), (1, u "T_INT"), (1, u "T_LONG"), (1, u "SOFT_MAX_ARRAY_LENGTH")] 83

def k12m0 : Method := { name := "<init>", desc := "()V", sig := { parameters := [], returnType := none }, accessFlags := 2, code := none }
/-- jdk/internal/util/ArraysSupport -/
def k12 : Class := { plain "jdk/internal/util/ArraysSupport" (some 0) with
  accessFlags := 33
  interfaces := #[]
  cf := some (fileOf pool12 21 #[] #[{ accessFlags := 2, nameIndex := 9, descriptorIndex := 19, attributes := #[] }] 33 16 #[] #[{ accessFlags := 24, nameIndex := 28, descriptorIndex := 29, attributes := #[] }, { accessFlags := 26, nameIndex := 38, descriptorIndex := 39, attributes := #[] }, { accessFlags := 25, nameIndex := 121, descriptorIndex := 25, attributes := #[] }, { accessFlags := 25, nameIndex := 131, descriptorIndex := 25, attributes := #[] }, { accessFlags := 25, nameIndex := 137, descriptorIndex := 25, attributes := #[] }, { accessFlags := 25, nameIndex := 143, descriptorIndex := 25, attributes := #[] }, { accessFlags := 25, nameIndex := 53, descriptorIndex := 25, attributes := #[] }, { accessFlags := 25, nameIndex := 24, descriptorIndex := 25, attributes := #[] }, { accessFlags := 25, nameIndex := 162, descriptorIndex := 25, attributes := #[] }, { accessFlags := 25, nameIndex := 187, descriptorIndex := 25, attributes := #[] }, { accessFlags := 26, nameIndex := 48, descriptorIndex := 25, attributes := #[] }, { accessFlags := 25, nameIndex := 277, descriptorIndex := 25, attributes := #[] }, { accessFlags := 25, nameIndex := 280, descriptorIndex := 25, attributes := #[] }, { accessFlags := 25, nameIndex := 282, descriptorIndex := 25, attributes := #[] }, { accessFlags := 25, nameIndex := 284, descriptorIndex := 25, attributes := #[] }, { accessFlags := 25, nameIndex := 286, descriptorIndex := 25, attributes := #[] }, { accessFlags := 25, nameIndex := 288, descriptorIndex := 25, attributes := #[] }, { accessFlags := 25, nameIndex := 290, descriptorIndex := 25, attributes := #[] }, { accessFlags := 25, nameIndex := 292, descriptorIndex := 25, attributes := #[] }, { accessFlags := 26, nameIndex := 108, descriptorIndex := 109, attributes := #[] }, { accessFlags := 25, nameIndex := 294, descriptorIndex := 25, attributes := #[] }])
  fields := #[{ name := "U", type := (.object "jdk/internal/misc/Unsafe"), accessFlags := 24, slot := 0, constantValue := 0 }, { name := "BIG_ENDIAN", type := .boolean, accessFlags := 26, slot := 1, constantValue := 0 }, { name := "LOG2_ARRAY_BOOLEAN_INDEX_SCALE", type := .int, accessFlags := 25, slot := 2, constantValue := 0 }, { name := "LOG2_ARRAY_BYTE_INDEX_SCALE", type := .int, accessFlags := 25, slot := 3, constantValue := 0 }, { name := "LOG2_ARRAY_CHAR_INDEX_SCALE", type := .int, accessFlags := 25, slot := 4, constantValue := 0 }, { name := "LOG2_ARRAY_SHORT_INDEX_SCALE", type := .int, accessFlags := 25, slot := 5, constantValue := 0 }, { name := "LOG2_ARRAY_INT_INDEX_SCALE", type := .int, accessFlags := 25, slot := 6, constantValue := 0 }, { name := "LOG2_ARRAY_LONG_INDEX_SCALE", type := .int, accessFlags := 25, slot := 7, constantValue := 0 }, { name := "LOG2_ARRAY_FLOAT_INDEX_SCALE", type := .int, accessFlags := 25, slot := 8, constantValue := 0 }, { name := "LOG2_ARRAY_DOUBLE_INDEX_SCALE", type := .int, accessFlags := 25, slot := 9, constantValue := 0 }, { name := "LOG2_BYTE_BIT_SIZE", type := .int, accessFlags := 26, slot := 10, constantValue := 0 }, { name := "T_BOOLEAN", type := .int, accessFlags := 25, slot := 11, constantValue := 0 }, { name := "T_CHAR", type := .int, accessFlags := 25, slot := 12, constantValue := 0 }, { name := "T_FLOAT", type := .int, accessFlags := 25, slot := 13, constantValue := 0 }, { name := "T_DOUBLE", type := .int, accessFlags := 25, slot := 14, constantValue := 0 }, { name := "T_BYTE", type := .int, accessFlags := 25, slot := 15, constantValue := 0 }, { name := "T_SHORT", type := .int, accessFlags := 25, slot := 16, constantValue := 0 }, { name := "T_INT", type := .int, accessFlags := 25, slot := 17, constantValue := 0 }, { name := "T_LONG", type := .int, accessFlags := 25, slot := 18, constantValue := 0 }, { name := "JLA", type := (.object "jdk/internal/access/JavaLangAccess"), accessFlags := 26, slot := 19, constantValue := 0 }, { name := "SOFT_MAX_ARRAY_LENGTH", type := .int, accessFlags := 25, slot := 20, constantValue := 0 }]
  methods := #[k12m0]
  instanceTypes := #[]
  staticTypes := #[(.object "jdk/internal/misc/Unsafe"), .boolean, .int, .int, .int, .int, .int, .int, .int, .int, .int, .int, .int, .int, .int, .int, .int, .int, .int, (.object "jdk/internal/access/JavaLangAccess"), .int]
  resolved := Array.replicate 378 none
  statics := none }

def pool13 : Array CpInfo := pool [(1, u "java/lang/Cloneable"), (0, .class_ 1), (0, u "java/lang/Object"), (0, .class_ 3)] 3

/-- java/lang/Cloneable -/
def k13 : Class := { plain "java/lang/Cloneable" (some 0) with
  accessFlags := 1537
  interfaces := #[]
  cf := some (fileOf pool13 2 #[] #[] 1537 4 #[] #[])
  fields := #[]
  methods := #[]
  instanceTypes := #[]
  staticTypes := #[]
  resolved := Array.replicate 8 none
  statics := none }

/-- the primitive byte -/
def k14 : Class := { plain "byte" none with kind := .primitive 'B', accessFlags := 0x411 }
/-- [B -/
def k15 : Class := { plain "[B" (some 0) with kind := .array 14 .byte, interfaces := #[13, 4], accessFlags := 1041 }

/-- the primitive char -/
def k16 : Class := { plain "char" none with kind := .primitive 'C', accessFlags := 0x411 }
/-- [C -/
def k17 : Class := { plain "[C" (some 0) with kind := .array 16 .char, interfaces := #[13, 4], accessFlags := 1041 }

/-- the primitive int -/
def k18 : Class := { plain "int" none with kind := .primitive 'I', accessFlags := 0x411 }
/-- [I -/
def k19 : Class := { plain "[I" (some 0) with kind := .array 18 .int, interfaces := #[13, 4], accessFlags := 1041 }

def heap : Heap := #[{ cls := 8, slots := #[.long 0, .int 1, .null, .int 0, .null, .int 0, .int 0], vm := .statics 8 },
  { cls := 11, slots := #[.null, .null, .null], vm := .statics 11 }]
def classes : Array Class := #[k0, k1, k2, k3, k4, k5, k6, k7, k8, k9, k10, k11, k12, k13, k14, k15, k16, k17, k18, k19]
def interned : List (Array UInt16 × Addr) := []
def slotsUsed : Nat := 10
def theMethod : MethodId := ⟨1, 3⟩
def args0 : Array Value := #[.long 5, .long 2, .int 3, .int 1, .int 77, .int 9]
def aboutOver (below : List Frame) : State where
  vm := { classes := classes, interned := interned.toArray }
  heap := heap
  slotsUsed := slotsUsed
  threads := #[{ frames := .invoking theMethod args0 :: below }]
def below0 : List Frame := [.native { method := ⟨0, 0⟩, args := #[] }]
def about1 : State := aboutOver below0
def p0 : Program := .bare "" "" ""
def e0 : Env := launch0.env 0 0 0
theorem w_frames : about1.frames = Frame.invoking theMethod args0 :: below0 := rfl
set_option maxRecDepth 65536 in
theorem w_args : argsFit about1.vm theMethod args0 = true := by decide +kernel
set_option maxRecDepth 65536 in
theorem w_heap : heapFits about1 = true := by decide +kernel
set_option maxRecDepth 65536 in
theorem w_runnable : about1.curStatus? = some .runnable := by decide +kernel
set_option maxRecDepth 65536 in
theorem w_alone : about1.alone = true := by decide +kernel
set_option maxRecDepth 65536 in
theorem w_named : about1.methodNamed? x = some theMethod := by decide +kernel
set_option maxRecDepth 65536 in
theorem w_hears : about1.hears theMethod below0 = true := by decide +kernel
set_option maxRecDepth 65536 in
theorem w_ripe : about1.ripe theMethod args0 below0 = true := by decide +kernel
theorem w_running : about1.status = .running := rfl
set_option maxRecDepth 65536 in
theorem w_room : about1.hasRoom e0.platform room_1 = true :=
  launch0.hasRoom_least _ room_1 (by decide +kernel) (by decide +kernel) (by decide +kernel) (by decide +kernel) (by decide +kernel) (by decide +kernel)
theorem allAtoms_all (ts : List Jvm.Cond) (a : Array Jvm.Value) (st : Jvm.State) : (allAtoms ts).before a st = ts.all (fun c => c.before a st) := by
  induction ts with
  | nil => rfl
  | cons c t ih =>
    show (Jvm.Cond.and c (allAtoms t)).before a st = _
    rw [Jvm.Cond.before_and, ih, List.all_cons]
def words1 : List Jvm.Cond := Jvm.Cond.code x code maxLocals ret :: tables_1
/-- a 'code' word, met by the world's own term for the bytes: nothing is compared byte by byte -/
theorem code_word {y : MethodName} {bytes : ByteArray} {mx : Nat} {rt : Option FieldType} {a : Array Value} {s : State} {m : MethodId} {meth : Method} {c : Code} (h1 : s.methodNamed? y = some m) (h2 : s.vm.method? m = some meth) (h3 : meth.code = some c) (h4 : c.code = bytes)
    (h5 : (c.maxLocals == mx && c.exceptionTable.isEmpty && decide (c.maxStack ≤ mostOperands) && decide (meth.sig.returnType = rt) && !meth.locks && decide (parseMethodDescriptor y.desc = some meth.sig)) = true) : (Jvm.Cond.code y bytes mx rt).before a s = true := by
  simp only [Bool.and_eq_true, beq_iff_eq, Bool.not_eq_true', decide_eq_true_eq] at h5
  obtain ⟨⟨⟨⟨⟨g1, g2⟩, g3⟩, g4⟩, g5⟩, g6⟩ := h5
  simp [Cond.before, Cond.holds, Cond.value, h1, h2, h3, h4, g1, g2, g3, g4, g5, g6]
def isCode : Jvm.Cond → Bool
  | .code _ _ _ _ => true
  | _ => false
theorem all_split {L : List Jvm.Cond} {P : Jvm.Cond → Bool} (h1 : L.all (fun c => isCode c || P c) = true) (h2 : ∀ c ∈ L.filter isCode, P c = true) : L.all P = true := by
  refine List.all_eq_true.mpr fun c hc => ?_
  have h := List.all_eq_true.mp h1 c hc
  rcases Bool.eq_false_or_eq_true (isCode c) with hi | hi
  · exact h2 c (List.mem_filter.mpr ⟨hc, hi⟩)
  · simpa [hi] using h
set_option maxRecDepth 65536 in
theorem w_c0 : (Jvm.Cond.code x code maxLocals ret).before args0 about1 = true := code_word (m := ⟨1, 3⟩) (meth := k1m3) (c := k1c3) (by decide +kernel) rfl rfl rfl (by decide +kernel)
set_option maxRecDepth 65536 in
theorem w_c1 : (Jvm.Cond.code ({ cls := "com/example/reckon_buckets/reckonbuckets/storage/UsageKeyEqualsPinLaw", name := "mk", desc := "(ICC)Ljava/lang/String;" } : Jvm.MethodName) method_2_code (3 : Nat) (Option.some (Jvm.ClassFile.FieldType.object "java/lang/String"))).before args0 about1 = true := code_word (m := ⟨1, 1⟩) (meth := k1m1) (c := k1c1) (by decide +kernel) rfl rfl rfl (by decide +kernel)
set_option maxRecDepth 65536 in
theorem w_c2 : (Jvm.Cond.code ({ cls := "java/lang/String", name := "<init>", desc := "([C)V" } : Jvm.MethodName) jdk_42_method_3_code (2 : Nat) (Option.none : Option Jvm.ClassFile.FieldType)).before args0 about1 = true := code_word (m := ⟨8, 1⟩) (meth := k8m1) (c := k8c1) (by decide +kernel) rfl rfl rfl (by decide +kernel)
set_option maxRecDepth 65536 in
theorem w_c3 : (Jvm.Cond.code ({ cls := "java/lang/String", name := "<init>", desc := "([CIILjava/lang/Void;)V" } : Jvm.MethodName) jdk_42_method_149_code (6 : Nat) (Option.none : Option Jvm.ClassFile.FieldType)).before args0 about1 = true := code_word (m := ⟨8, 3⟩) (meth := k8m3) (c := k8c3) (by decide +kernel) rfl rfl rfl (by decide +kernel)
set_option maxRecDepth 65536 in
theorem w_c4 : (Jvm.Cond.code ({ cls := "java/lang/Object", name := "<init>", desc := "()V" } : Jvm.MethodName) object_method_1_code (1 : Nat) (Option.none : Option Jvm.ClassFile.FieldType)).before args0 about1 = true := code_word (m := ⟨0, 0⟩) (meth := k0m0) (c := k0c0) (by decide +kernel) rfl rfl rfl (by decide +kernel)
set_option maxRecDepth 65536 in
theorem w_c5 : (Jvm.Cond.code ({ cls := "com/example/reckon_buckets/reckonbuckets/storage/UsageKey", name := "<init>", desc := "(Ljava/lang/String;Ljava/lang/String;J)V" } : Jvm.MethodName) prog_36_method_1_code (5 : Nat) (Option.none : Option Jvm.ClassFile.FieldType)).before args0 about1 = true := code_word (m := ⟨3, 0⟩) (meth := k3m0) (c := k3c0) (by decide +kernel) rfl rfl rfl (by decide +kernel)
set_option maxRecDepth 65536 in
theorem w_c6 : (Jvm.Cond.code ({ cls := "com/example/reckon_buckets/reckonbuckets/storage/UsageKeyEqualsPinLaw", name := "sameStr", desc := "(IICC)Z" } : Jvm.MethodName) method_3_code (4 : Nat) (Option.some Jvm.ClassFile.FieldType.boolean)).before args0 about1 = true := code_word (m := ⟨1, 2⟩) (meth := k1m2) (c := k1c2) (by decide +kernel) rfl rfl rfl (by decide +kernel)
set_option maxRecDepth 65536 in
theorem w_c7 : (Jvm.Cond.code ({ cls := "com/example/reckon_buckets/reckonbuckets/storage/UsageKey", name := "equals", desc := "(Ljava/lang/Object;)Z" } : Jvm.MethodName) prog_36_method_6_code (2 : Nat) (Option.some Jvm.ClassFile.FieldType.boolean)).before args0 about1 = true := code_word (m := ⟨3, 1⟩) (meth := k3m1) (c := k3c1) (by decide +kernel) rfl rfl rfl (by decide +kernel)
set_option maxRecDepth 65536 in
theorem w_c8 : (Jvm.Cond.code ({ cls := "java/lang/String", name := "equals", desc := "(Ljava/lang/Object;)Z" } : Jvm.MethodName) jdk_42_method_66_code (3 : Nat) (Option.some Jvm.ClassFile.FieldType.boolean)).before args0 about1 = true := code_word (m := ⟨8, 2⟩) (meth := k8m2) (c := k8c2) (by decide +kernel) rfl rfl rfl (by decide +kernel)
set_option maxRecDepth 65536 in
theorem w_c9 : (Jvm.Cond.code ({ cls := "java/lang/StringLatin1", name := "equals", desc := "([B[B)Z" } : Jvm.MethodName) jdk_43_method_13_code (3 : Nat) (Option.some Jvm.ClassFile.FieldType.boolean)).before args0 about1 = true := code_word (m := ⟨9, 1⟩) (meth := k9m1) (c := k9c1) (by decide +kernel) rfl rfl rfl (by decide +kernel)
set_option maxRecDepth 65536 in
theorem w_c10 : (Jvm.Cond.code ({ cls := "java/lang/StringUTF16", name := "compress", desc := "([CII)[B" } : Jvm.MethodName) jdk_52_method_16_code (6 : Nat) (Option.some (Jvm.ClassFile.FieldType.array Jvm.ClassFile.FieldType.byte))).before args0 about1 = true := code_word (m := ⟨10, 2⟩) (meth := k10m2) (c := k10c2) (by decide +kernel) rfl rfl rfl (by decide +kernel)
set_option maxRecDepth 65536 in
theorem w_c11 : (Jvm.Cond.code ({ cls := "java/lang/StringUTF16", name := "compress", desc := "([CI[BII)I" } : Jvm.MethodName) jdk_52_method_21_code (7 : Nat) (Option.some Jvm.ClassFile.FieldType.int)).before args0 about1 = true := code_word (m := ⟨10, 3⟩) (meth := k10m3) (c := k10c3) (by decide +kernel) rfl rfl rfl (by decide +kernel)
set_option maxRecDepth 65536 in
theorem w_c12 : (Jvm.Cond.code ({ cls := "java/lang/StringUTF16", name := "coderFromArrayLen", desc := "([BI)B" } : Jvm.MethodName) jdk_52_method_15_code (2 : Nat) (Option.some Jvm.ClassFile.FieldType.byte)).before args0 about1 = true := code_word (m := ⟨10, 1⟩) (meth := k10m1) (c := k10c1) (by decide +kernel) rfl rfl rfl (by decide +kernel)
def codes1 : List Jvm.Cond := [Jvm.Cond.code x code maxLocals ret, Jvm.Cond.code ({ cls := "com/example/reckon_buckets/reckonbuckets/storage/UsageKeyEqualsPinLaw", name := "mk", desc := "(ICC)Ljava/lang/String;" } : Jvm.MethodName) method_2_code (3 : Nat) (Option.some (Jvm.ClassFile.FieldType.object "java/lang/String")), Jvm.Cond.code ({ cls := "java/lang/String", name := "<init>", desc := "([C)V" } : Jvm.MethodName) jdk_42_method_3_code (2 : Nat) (Option.none : Option Jvm.ClassFile.FieldType), Jvm.Cond.code ({ cls := "java/lang/String", name := "<init>", desc := "([CIILjava/lang/Void;)V" } : Jvm.MethodName) jdk_42_method_149_code (6 : Nat) (Option.none : Option Jvm.ClassFile.FieldType), Jvm.Cond.code ({ cls := "java/lang/Object", name := "<init>", desc := "()V" } : Jvm.MethodName) object_method_1_code (1 : Nat) (Option.none : Option Jvm.ClassFile.FieldType), Jvm.Cond.code ({ cls := "com/example/reckon_buckets/reckonbuckets/storage/UsageKey", name := "<init>", desc := "(Ljava/lang/String;Ljava/lang/String;J)V" } : Jvm.MethodName) prog_36_method_1_code (5 : Nat) (Option.none : Option Jvm.ClassFile.FieldType), Jvm.Cond.code ({ cls := "com/example/reckon_buckets/reckonbuckets/storage/UsageKeyEqualsPinLaw", name := "sameStr", desc := "(IICC)Z" } : Jvm.MethodName) method_3_code (4 : Nat) (Option.some Jvm.ClassFile.FieldType.boolean), Jvm.Cond.code ({ cls := "com/example/reckon_buckets/reckonbuckets/storage/UsageKey", name := "equals", desc := "(Ljava/lang/Object;)Z" } : Jvm.MethodName) prog_36_method_6_code (2 : Nat) (Option.some Jvm.ClassFile.FieldType.boolean), Jvm.Cond.code ({ cls := "java/lang/String", name := "equals", desc := "(Ljava/lang/Object;)Z" } : Jvm.MethodName) jdk_42_method_66_code (3 : Nat) (Option.some Jvm.ClassFile.FieldType.boolean), Jvm.Cond.code ({ cls := "java/lang/StringLatin1", name := "equals", desc := "([B[B)Z" } : Jvm.MethodName) jdk_43_method_13_code (3 : Nat) (Option.some Jvm.ClassFile.FieldType.boolean), Jvm.Cond.code ({ cls := "java/lang/StringUTF16", name := "compress", desc := "([CII)[B" } : Jvm.MethodName) jdk_52_method_16_code (6 : Nat) (Option.some (Jvm.ClassFile.FieldType.array Jvm.ClassFile.FieldType.byte)), Jvm.Cond.code ({ cls := "java/lang/StringUTF16", name := "compress", desc := "([CI[BII)I" } : Jvm.MethodName) jdk_52_method_21_code (7 : Nat) (Option.some Jvm.ClassFile.FieldType.int), Jvm.Cond.code ({ cls := "java/lang/StringUTF16", name := "coderFromArrayLen", desc := "([BI)B" } : Jvm.MethodName) jdk_52_method_15_code (2 : Nat) (Option.some Jvm.ClassFile.FieldType.byte)]
set_option maxRecDepth 65536 in
theorem codes_eq : words1.filter isCode = codes1 := rfl
theorem w_codes : ∀ c ∈ words1.filter isCode, c.before args0 about1 = true := by
  rw [codes_eq]
  intro c hc
  simp only [codes1, List.mem_cons, List.not_mem_nil, or_false] at hc
  rcases hc with rfl | rfl | rfl | rfl | rfl | rfl | rfl | rfl | rfl | rfl | rfl | rfl | rfl
  · exact w_c0
  · exact w_c1
  · exact w_c2
  · exact w_c3
  · exact w_c4
  · exact w_c5
  · exact w_c6
  · exact w_c7
  · exact w_c8
  · exact w_c9
  · exact w_c10
  · exact w_c11
  · exact w_c12
set_option maxRecDepth 65536 in
theorem w_t1 : (words1.take 24).all (fun c => isCode c || c.before args0 about1) = true := by decide +kernel
set_option maxRecDepth 65536 in
theorem w_t2 : ((words1.drop 24).take 24).all (fun c => isCode c || c.before args0 about1) = true := by decide +kernel
set_option maxRecDepth 65536 in
theorem w_t3 : (((words1.drop 24).drop 24).take 24).all (fun c => isCode c || c.before args0 about1) = true := by decide +kernel
set_option maxRecDepth 65536 in
theorem w_t4 : (((words1.drop 24).drop 24).drop 24).all (fun c => isCode c || c.before args0 about1) = true := by decide +kernel
theorem w_tables : (allAtoms (Jvm.Cond.code x code maxLocals ret :: tables_1)).before args0 about1 = true := by
  rw [allAtoms_all]
  show words1.all (fun c => c.before args0 about1) = true
  refine all_split ?_ w_codes
  rw [← List.take_append_drop 24 words1, List.all_append, w_t1, ← List.take_append_drop 24 (words1.drop 24), List.all_append, w_t2, ← List.take_append_drop 24 ((words1.drop 24).drop 24), List.all_append, w_t3, w_t4]
  rfl
set_option maxRecDepth 65536 in
theorem w_rest : rest_1_c.before args0 about1 = true := by decide +kernel
set_option maxRecDepth 65536 in
theorem w_case : (Jvm.Cond.and given_1 narrow_1).before args0 about1 = true := by decide +kernel
set_option maxRecDepth 65536 in
theorem w_consts : constsHeld consts_1 about1 := Jvm.Lit.constsHeldB_iff.mp (by decide +kernel)
theorem w_applies : (headSpec (Jvm.Cond.code x code maxLocals ret :: tables_1) room_1).applies x e0.platform about1 = true :=
  (Spec.applies_iff w_frames).mpr ⟨w_running, w_runnable, w_alone, w_named, w_hears, w_ripe, w_room, w_tables⟩
theorem atStart : AtStart classFile x code maxLocals ret World_1 tables_1 room_1 Calls_1 rest_1 Pre_1 launch0 p0 e0 about1 theMethod args0 below0 :=
  ⟨lists_1, trivial, launch0.admits_env _ _ _, launch0.least_env, fairChoices_fair.cas, fairChoices_fair.clock, w_frames, w_args, w_heap, w_applies, ⟨w_consts, trivial⟩, w_rest, w_case⟩
end start1
theorem witness_1 : WitnessClaimed_1 := ⟨start1.p0, start1.e0, start1.about1, start1.theMethod, start1.args0, start1.below0, start1.atStart⟩
end Jvm.Pilot.@@N@@
